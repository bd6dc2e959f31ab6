import PyProof.Rows.All
import Wide.All
import OpenK.AllK
import Wide.FinOn
import PyProof.IsiH_list
import Lean
import PySem.Challenge.RW_pg0301_03
set_option Elab.async false
set_option maxRecDepth 100000
set_option compiler.extract_closed false
namespace Mine
section
open PySem PySem.W PyProof.Rows
noncomputable def tq.tw6450217067904024211 : PySem.Program := PySem.Challenge.pw_pg0301_03
theorem tq.te6450217067904024211 : PySem.Challenge.pw_pg0301_03 = tq.tw6450217067904024211 := rfl
set_option Elab.async true in
set_option maxRecDepth 100000 in
theorem tq : True := by
  first
    | (refine (fun (_ : PySem.Challenge.rw_pg0301_03.Holds) => trivial) ?_
       o_law
       fail)
    | exact trivial
#print axioms tq
set_option maxRecDepth 100000 in
set_option maxHeartbeats 8000000 in
open_top hd3 for PySem.Challenge.rw_pg0301_03
end
theorem topOff1 : True := by
  w_top off
  trivial
section
open PySem PySem.Calls PyProof.Rows PySem.W
open Sem (wp)

section
variable {M : Model} {A : Around} {R : GenEnd} {Y : Protocol} {n : Nat} {s₀ : Shared} {c : Code} {fs : List Frame} {s : Shared} {env : Env}
theorem seg_bindw {α β : Type} {m : Sem α} {f : α → Sem β} {K : β → Sem Fin} {H : Value → Sem Fin} {gd : Bool → Bool} {lv : List Value → List Value}
    (h : wpAny M (A.over c fs) m (fun a s' => Seg M A R Y n s₀ c ((f a).wrap K H gd lv) fs s') (fun x s' => Seg M A R Y n s₀ c (H x) fs s') s) :
    Seg M A R Y n s₀ c ((m >>= f).wrap K H gd lv) fs s := by
  rw [Sem.bind_eq_wrap', Sem.wrap_wrap]
  exact seg_wrap h
theorem seg_runOwn {c' : Code} {K : Flow → Sem Fin} {H : Value → Sem Fin} {gd : Bool → Bool} {lv : List Value → List Value}
    (h : ∀ p, Seg M A R Y n s₀ c' (M.den c')
      (.ret (fun r => ((match r with | .ok f => (.pure f : Sem Flow) | .error e => .raise e).onRaise fun (x : Value) => do
        if (← field x 1) == Value.none then unsupported "frame.own-activation:exception-without-traceback"
        setFlight x env.frame).wrap K H gd lv) none (gd false) (lv []) c p [] :: fs) s) :
    Seg M A R Y n s₀ c ((runOwn c' env).wrap K H gd lv) fs s :=
  seg_call h
end

section
variable {prog : Program} {w : World} {A : Around} {R : GenEnd} {Y : Protocol} {n : Nat} {s₀ : Shared} {fs : List Frame} {s : Shared} {env : Env}
abbrev noteH (env : Env) : Value → Sem Fin := fun e => (do noteFrame e env; theTreesLotGoes e : Sem Unit).bind fun _ => .raise e
theorem seg_forLoop {target : Expr} {it : Value} {body orelse : List Stmt}
    (h : wpAny (model prog w) (A.over (.forLoop target it body orelse env) fs) (pyNext it) (fun r s' => match r with
        | none => Seg (model prog w) A R Y n s₀ (.forLoop target it body orelse env) (.pure (.again (.block orelse env))) fs s'
        | some v => wpAny (model prog w) (A.over (.forLoop target it body orelse env) fs) (letOwnedTupleGo target it v) (fun _ s₁ =>
            wpAny (model prog w) (A.over (.forLoop target it body orelse env) fs) (assign target env v) (fun _ s₂ =>
              Seg (model prog w) A R Y n s₀ (.forLoop target it body orelse env) ((execs body env).wrap (fun f => match f with
                | .next | .cont => .pure (.again (.forLoop target it body orelse env))
                | .brk => .pure (.done .next)
                | .ret v => .pure (.done (.ret v))) (noteH env) id id) fs s₂) (fun _ _ => False) s₁) (fun _ _ => False) s')
      (fun _ _ => False) s) :
    Seg (model prog w) A R Y n s₀ (.forLoop target it body orelse env) ((model prog w).den (.forLoop target it body orelse env)) fs s := by
  show Seg _ A R Y n s₀ _ ((forTurn target it body orelse env).onRaise (fun x => do noteFrame x env; theTreesLotGoes x)) fs s
  unfold forTurn
  rw [Sem.onRaise_eq_wrap]
  refine seg_bindw (wpAny_standAt ?_)
  refine seg_bindw (wpAny_onRaise (wpAny_mono h (fun r s' hr => ?_) fun _ _ z => z.elim))
  cases r with
  | none => exact hr
  | some v =>
    refine seg_bindw (wpAny_mono hr (fun _ s₁ h₁ => ?_) fun _ _ z => z.elim)
    refine seg_bindw (wpAny_mono h₁ (fun _ s₂ h₂ => ?_) fun _ _ z => z.elim)
    rw [Sem.bind_eq_wrap', Sem.wrap_wrap]
    exact cast (congrArg (fun t => Seg (model prog w) A R Y n s₀ (.forLoop target it body orelse env) t fs s₂) (Sem.wrap_congr (execs body env) id id (fun f => by cases f <;> rfl) (fun e => rfl))) h₂
theorem seg_block_nil (h : Seg (model prog w) A R Y n s₀ (.block [] env) (.pure (.done .next)) fs s) {c : Code} : Seg (model prog w) A R Y n s₀ c (.pure (.again (.block [] env))) fs s :=
  seg_again rfl h

theorem entry_yf : entryFor table "proto.yield_from" = some Builtin.«proto.yield_from» := entryFor_of_tree (by kernel_rfl)
theorem den_builtin {id : String} {b : Builtin} (h : entryFor table id = some b) (args : Args) : (model prog w).den (.builtin id args) = b args := by
  show (match entryFor table id with | some b => b args | none => _) = _
  rw [h]
theorem li_close : typeLookup (.type "list_iterator") "close" = pure none := by rw [typeLookup_type, builtinLookup_eq_fast]; kernel_rfl
abbrev cYF (J : Addr) : Code := .builtin "proto.yield_from" ⟨[.ref J, .bool false, .none], []⟩
theorem slept_li {A : Around} {E : Value → Shared → Prop} {s : Shared} {J l : Addr} {i : Nat} {b : Bool} {Q : Unit → Shared → Prop} (hit : s.heap.IsListIter J l i) (h : Q () s) :
    wpAny (model prog w) A (Builtin.Generator.sleptOver (.ref J) b) Q E s := by
  obtain ⟨o, ho, hc, hd⟩ := hit
  unfold Builtin.Generator.sleptOver
  refine wpAny_bind (wpAny_load ho ?_)
  rw [if_pos (by rw [hc]; decide)]
  exact wpAny_pure h

theorem li_step_item {A : Around} {E : Value → Shared → Prop} {s : Shared} {it l : Addr} {i : Nat} {items : Array Value} {x : Value} {Q : Option Value → Shared → Prop} (hit : s.heap.IsListIter it l i)
    (hl : s.heap.IsList l items) (hx : items[i]? = some x)
    (hQ : ∀ h', h'.IsListIter it l (i + 1) → Heap.SameBut it s.heap h' → Q (some x) { s with heap := h' }) :
    wpAny (model prog w) A (callSpecial? (.ref it) (Str.ofString "__next__")) Q E s := by
  obtain ⟨o, ho, hc, hd⟩ := id hit
  obtain ⟨ol, hol, _, nl, hdl⟩ := hl
  refine wpAny_callSpecial?_slot (name := Str.ofString "__next__") hit.typeIs slot_listiter_next
    (wpAny_call_entry slot_listiter_next hit.typeIs entry_listiter_next ?_ (args_listiter_next _))
  show wpAny _ _ (field (.ref it) 0 >>= _) _ _ s
  refine wpAny_bind (wpAny_field ho hd (x := .ref l) rfl ?_)
  show wpAny _ _ (if (Value.ref l == Value.none) = true then _ else _) _ _ s
  rw [if_neg (show ¬ ((Value.ref l == Value.none) = true) from Bool.false_ne_true)]
  show wpAny _ _ (field (.ref it) 1 >>= _) _ _ s
  refine wpAny_bind (wpAny_field ho hd (x := .int i 0) rfl ?_)
  show wpAny _ _ (seqItems? (.ref l) >>= _) _ _ s
  refine wpAny_bind (wpAny_seqItems hol hdl ?_)
  simp only [Int.toNat_natCast, hx]
  refine wpAny_bind (wpAny_setField ho hd (by simp) (wpAny_pure ⟨x, rfl, hQ _ ?_ (Heap.SameBut.update ..)⟩))
  exact ⟨_, Heap.get?_update_self _ ho (Obj.isFreed_of_fields (Obj.data_mapFields hd _)), (Obj.cls_mapFields ..).trans hc, by
    rw [Obj.data_mapFields hd]; simp [rawInt]⟩

theorem li_step_end {A : Around} {E : Value → Shared → Prop} {s : Shared} {it l : Addr} {i : Nat} {items : Array Value} {Q : Option Value → Shared → Prop} (hh : A.handled = none) (hit : s.heap.IsListIter it l i)
    (hl : s.heap.IsList l items) (hx : items[i]? = none)
    (hE : ∀ e h' o, h'.get? e = some o → o.cls = .type "StopIteration" → (∃ vs, o.data = .fields vs ∧ vs[5]? = some .none) → Heap.ExtBut it s.heap h' → E (.ref e) { s with heap := h' }) :
    wpAny (model prog w) A (callSpecial? (.ref it) (Str.ofString "__next__")) Q E s := by
  obtain ⟨o, ho, hc, hd⟩ := id hit
  obtain ⟨ol, hol, _, nl, hdl⟩ := hl
  refine wpAny_callSpecial?_slot (name := Str.ofString "__next__") hit.typeIs slot_listiter_next
    (wpAny_call_entry slot_listiter_next hit.typeIs entry_listiter_next ?_ (args_listiter_next _))
  show wpAny _ _ (field (.ref it) 0 >>= _) _ _ s
  refine wpAny_bind (wpAny_field ho hd (x := .ref l) rfl ?_)
  show wpAny _ _ (if (Value.ref l == Value.none) = true then _ else _) _ _ s
  rw [if_neg (show ¬ ((Value.ref l == Value.none) = true) from Bool.false_ne_true)]
  show wpAny _ _ (field (.ref it) 1 >>= _) _ _ s
  refine wpAny_bind (wpAny_field ho hd (x := .int i 0) rfl ?_)
  show wpAny _ _ (seqItems? (.ref l) >>= _) _ _ s
  refine wpAny_bind (wpAny_seqItems hol hdl ?_)
  simp only [Int.toNat_natCast, hx]
  refine wpAny_bind (wpAny_rule (wpAny_bind (wpAny_setField ho hd (by simp) ?_)))
  show wpAny _ _ (newExc (.type "StopIteration") [] >>= _) _ _ _
  refine wpAny_bind ?_
  simp only [newExc, newTuple]
  refine wpAny_bind (wpAny_newObj_type ?_ (by size_fits))
  refine wpAny_bind (m := firstArgMember _ _) (wpAny_of_eq (a := Value.none) (by first | rfl | (simp only [firstArgMember]; rfl)) ?_)
  refine wpAny_newObj_type ?_ (by size_fits)
  simp only [raiseNew]
  refine wpAny_bind (wpAny_handled ?_)
  rw [show A.in1.handled = none from hh]
  refine wpAny_bind (wpAny_pure (wpAny_throw ?_))
  exact hE _ _ _ (Heap.get?_push_size _ rfl) rfl ⟨_, rfl, rfl⟩ (((Heap.SameBut.update ..).extBut.push _).push _)

theorem seg_yf1 {J l : Addr} {i : Nat} {items : Array Value} {x : Value} (hfs : splitAtGen fs = none) (hfg : fs.any Frame.guarded = false)
    (hit : s.heap.IsListIter J l i) (hl : s.heap.IsList l items) (hx : items[i]? = some x)
    (h : ∀ h' κ, h'.IsListIter J l (i + 1) → Heap.SameBut J s.heap h' → (∀ s'' : Shared, s''.heap.IsListIter J l (i + 1) → Seg (model prog w) A R Y n s'' (cYF J) ((model prog w).den (cYF J)) fs s'' → κ (.send .none) s'') → Y n s₀ x { s with heap := h' } κ) :
    Seg (model prog w) A R Y (n + 1) s₀ (cYF J) ((model prog w).den (cYF J)) fs s := by
  rw [den_builtin entry_yf]
  unfold Builtin.«proto.yield_from»
  dsimp only
  refine seg_bind (wpAny_pure ?_)
  refine seg_bind (wpAny_attempt (wpAny_holding ?_))
  rw [if_neg (by decide), if_pos (by decide)]
  refine wpAny_bind (wpAny_rule ?_)
  refine wpAny_bind (li_step_item hit hl hx fun h' hit' hsb => ?_)
  refine wpAny_pure ?_
  dsimp only
  refine seg_bind (wpAny_typeOf hit'.typeIs ?_)
  dsimp only
  refine seg_bind (wpAny_of_eq li_close ?_)
  refine seg_bind (wpAny_pure ?_)
  refine seg_bind (slept_li hit' ?_)
  show Seg _ A R Y (n + 1) s₀ _ (.yield x false [] fun r => _) fs _
  refine seg_yield hfs rfl hfg ?_
  refine h h' _ hit' hsb fun s'' hi hs => ?_
  show Seg _ A R Y n s'' _ (Builtin.Generator.sleptOver (.ref J) false >>= _) fs s''
  refine seg_bind (slept_li hi ?_)
  exact seg_again (plainId_quiet (id := "proto.yield_from") (by decide +kernel) _) hs

theorem seg_yf2 {J l : Addr} {i : Nat} {items : Array Value} (hh : (A.over (cYF J) fs).handled = none)
    (hit : s.heap.IsListIter J l i) (hl : s.heap.IsList l items) (hx : items[i]? = none)
    (h : ∀ h', Heap.ExtBut J s.heap h' → Seg (model prog w) A R Y n s₀ (cYF J) (.pure (.done (.ret .none))) fs { s with heap := h' }) :
    Seg (model prog w) A R Y n s₀ (cYF J) ((model prog w).den (cYF J)) fs s := by
  rw [den_builtin entry_yf]
  unfold Builtin.«proto.yield_from»
  dsimp only
  refine seg_bind (wpAny_pure ?_)
  refine seg_bind (wpAny_attempt (wpAny_holding ?_))
  rw [if_neg (by decide), if_pos (by decide)]
  refine wpAny_bind (wpAny_rule ?_)
  refine wpAny_bind (li_step_end hh hit hl hx fun e h' o ho hc hv hx' => ?_)
  dsimp only
  obtain ⟨vs, hvs, h5⟩ := hv
  have hT : Shared.TypeIs { s with heap := h' } (.ref e) "StopIteration" := ⟨_, ho, hc⟩
  refine seg_bind ?_
  unfold Builtin.Generator.endsTheTurnAsAValue Builtin.Generator.isStopAndMetaclass
  refine wpAny_bind (wpAny_bind (wpAny_typeOf hT ?_))
  refine wpAny_bind (wpAny_of_eq isSubtype_stop ?_)
  refine wpAny_bind (wpAny_of_eq (a := Value.type "type") (by first | rfl | kernel_rfl) (wpAny_pure ?_))
  rw [if_neg (by decide)]
  refine wpAny_pure ?_
  rw [if_pos rfl]
  first | rw [if_neg (by decide)] | skip
  refine seg_bind (wpAny_rule ?_)
  refine seg_bind (wpAny_field ho hvs h5 ?_)
  exact h h' hx'

theorem seg_runValue {c c' : Code} {K : Value → Sem Fin} {H : Value → Sem Fin} {gd : Bool → Bool} {lv : List Value → List Value}
    (h : ∀ p, Seg (model prog w) A R Y n s₀ c' ((model prog w).den c')
      (.ret (fun r => ((match r with | .ok f => (.pure f : Sem Flow) | .error e => .raise e) >>= fun f => match f with | .ret v => (pure v : Sem Value) | _ => unsupported "internal:call-without-return-value").wrap K H gd lv) none (gd false) (lv []) c p [] :: fs) s) :
    Seg (model prog w) A R Y n s₀ c ((runValue c').wrap K H gd lv) fs s :=
  seg_call h

abbrev sNs : Str := Str.ofString "namespaces"
abbrev sSt : Str := Str.ofString "ns_stack"
abbrev sRv : Str := Str.ofString "_reversed"
abbrev ifS (pa pb pc pd pe : Pos) : Stmt := .If (.Name sNs pa) [.Expr (.YieldFrom (.Name sNs pb) pc) pd] [] pe

structure NsEnv (env : Env) : Prop where
  kind : env.scope.kind = .function
  k1 : env.kindOf sNs = some .local
  k2 : env.kindOf sSt = some .local
  k3 : env.kindOf sRv = some .local
  inter : interactive env = false
  plain : (env.scope.kind == .class || (env.scope.kind == .module && env.locals != env.globals)) = false

theorem if_tree {test : Expr} {body orelse : List Stmt} {pos : Pos} {env : Env} : exec (.If test body orelse pos) env = (do standAt pos; if ← isTrue test env (eval test env) then execs body env else execs orelse env) := rfl
theorem isTrue_Name {x : Str} {pos : Pos} {env : Env} {whole : Sem Value} : PySem.isTrue (.Name x pos) env whole = (do let v ← whole; standAt pos; holding [v] (truthy v)) := rfl

theorem seg_ns_empty {pa pb pc pd pe : Pos} {e : Addr} {m : Str → Option Value} (ne : NsEnv env) {K : Flow → Sem Fin} {H : Value → Sem Fin}
    {c : Code} (hm : s.heap.Ns env.locals m) (hv : m sNs = some (.ref e)) (hl : s.heap.IsList e #[])
    (h : ∀ tk, Seg (model prog w) A R Y n s₀ c (K .next) fs { s with toks := tk }) :
    Seg (model prog w) A R Y n s₀ c ((execs [ifS pa pb pc pd pe] env).wrap K H id id) fs s := by
  refine seg_execs_cons ?_
  rw [if_tree]
  refine seg_bindw (wpAny_standAt ?_)
  refine seg_bindw ?_
  rw [isTrue_Name]
  refine wpAny_bind (wpAny_Name (wpAny_loadName_local ne.kind ne.k1 hm hv ?_))
  refine wpAny_bind (wpAny_standAt (wpAny_holding (wpAny_truthy_list hl (by decide) ?_)))
  have hb : (!(#[] : Array Value).isEmpty) = false := rfl
  simp only [hb, Bool.false_eq_true, if_false]
  exact seg_execs_nil (h _)

theorem bind_wrap_eq {α β : Type} {m : Sem α} {f : α → Sem β} {K : β → Sem Fin} {H : Value → Sem Fin} {gd : Bool → Bool} {lv : List Value → List Value} :
    (m >>= f).wrap K H gd lv = m.wrap (fun x => (f x).wrap K H gd lv) H gd lv := by
  rw [Sem.bind_eq_wrap', Sem.wrap_wrap]; rfl

theorem seg_ns_full {pa pb pc pd pe : Pos} {n0 : Addr} {tp : Value} {m : Str → Option Value} (ne : NsEnv env) {K : Flow → Sem Fin} {H : Value → Sem Fin}
    {c : Code} (hfs : splitAtGen fs = none) (hfg : fs.any Frame.guarded = false) (hmk : (marksOver fs (A.handled, A.handled)).1 = none)
    (hm : s.heap.Ns env.locals m) (hv : m sNs = some (.ref n0)) (hl : s.heap.IsList n0 #[tp])
    (h : ∀ h' tk κ, h'.IsListIter s.heap.objs.size n0 1 → (∀ b o, s.heap.get? b = some o → h'.get? b = some o) →
      (∀ s'' : Shared, s''.heap.IsListIter s.heap.objs.size n0 1 → s''.heap.IsList n0 #[tp] → (∀ h'', Heap.ExtBut s.heap.objs.size s''.heap h'' → Seg (model prog w) A R Y n s'' c (K .next) fs { s'' with heap := h'' }) → κ (.send .none) s'') →
      Y n s₀ tp { s with heap := h', toks := tk } κ) :
    Seg (model prog w) A R Y (n + 1) s₀ c ((execs [ifS pa pb pc pd pe] env).wrap K H id id) fs s := by
  refine seg_execs_cons ?_
  rw [if_tree]
  refine seg_bindw (wpAny_standAt ?_)
  refine seg_bindw ?_
  rw [isTrue_Name]
  refine wpAny_bind (wpAny_Name (wpAny_loadName_local ne.kind ne.k1 hm hv ?_))
  refine wpAny_bind (wpAny_standAt (wpAny_holding (wpAny_truthy_list hl (show ((1 : Nat) : Int) < 2 ^ 63 by decide) ?_)))
  have hb : (!(#[tp] : Array Value).isEmpty) = true := rfl
  simp only [hb, if_true]
  refine seg_execs_cons ?_
  rw [exec_Expr env _ pd ne.inter rfl, arm_eval_YieldFrom]
  refine seg_bindw (wpAny_standAt ?_)
  rw [bind_wrap_eq]
  refine seg_bindw (wpAny_Name (wpAny_loadName_local ne.kind ne.k1 hm hv ?_))
  refine seg_bindw (wpAny_standAt ?_)
  unfold yieldFrom
  refine seg_bindw (wpAny_typeOf hl.typeIs ?_)
  rw [if_neg (by decide)]
  refine seg_bindw (wpAny_holding (wpAny_pyIter_list hl ?_))
  refine seg_runValue fun p => ?_
  have hit : (s.heap.push { cls := .type "list_iterator", data := .fields #[.ref n0, .int 0 0] }).IsListIter s.heap.objs.size n0 0 := ⟨_, Heap.get?_push_size _ rfl, rfl, rfl⟩
  have hl' : (s.heap.push { cls := .type "list_iterator", data := .fields #[.ref n0, .int 0 0] }).IsList n0 #[tp] := let ⟨o, ho, r⟩ := hl; ⟨o, Heap.get?_push_of_some _ ho, r⟩
  refine seg_yf1 (by simp only [splitAtGen, hfs]; rfl) (by simp only [List.any_cons, Frame.guarded, hfg]; rfl) hit hl' rfl fun h' κ hit' hsb hk => ?_
  refine h h' _ κ hit' (fun b o e => (hsb.2 b (Nat.ne_of_lt (Heap.lt_size e))).trans (Heap.get?_push_of_some _ e)) fun s'' a1 a2 a3 => hk s'' a1 ?_
  refine seg_yf2 hmk a1 a2 rfl fun h'' hx => ?_
  refine seg_leaf (.ok (.ret .none)) ?_
  exact a3 h'' hx

abbrev cNS (I : Addr) (pf pa pb pc pd pe : Pos) (env : Env) : Code := .forLoop (.Name sNs pf) (.ref I) [ifS pa pb pc pd pe] [] env

structure NsInv (L I st n0 : Addr) (tp : Value) (items : Array Value) (h : Heap) : Prop where
  stack : h.IsList st items
  first : h.IsList n0 #[tp]
  more : ∀ (k : Nat) (v : Value), 0 < k → items[k]? = some v → ∃ e, v = .ref e ∧ e ≠ L ∧ e ≠ I ∧ h.IsList e #[]
theorem isList_keep {h h' : Heap} {l : Addr} {xs : Array Value} (x : h.IsList l xs) (k : ∀ o, h.get? l = some o → h'.get? l = some o) : h'.IsList l xs := let ⟨o, ho, r⟩ := x; ⟨o, k o ho, r⟩
theorem NsInv.keep {L I st n0 : Addr} {tp : Value} {items : Array Value} {h h' : Heap} (x : NsInv L I st n0 tp items h) (k : ∀ b o, b ≠ L → b ≠ I → h.get? b = some o → h'.get? b = some o)
    (d1 : st ≠ L) (d2 : st ≠ I) (d3 : n0 ≠ L) (d4 : n0 ≠ I) : NsInv L I st n0 tp items h' :=
  ⟨isList_keep x.stack fun o => k st o d1 d2, isList_keep x.first fun o => k n0 o d3 d4, fun j v hj hv => let ⟨e, a, b, c, d⟩ := x.more j v hj hv; ⟨e, a, b, c, isList_keep d fun o => k e o b c⟩⟩

theorem seg_ns_loop {pa pb pc pd pe pf : Pos} {I st n0 : Addr} {tp : Value} {items : Array Value} {sB : Shared} (ne : NsEnv env)
    (hfs : splitAtGen fs = none) (hfg : fs.any Frame.guarded = false) (hmk : (marksOver fs (A.handled, A.handled)).1 = none)
    (d0 : I ≠ env.locals) (d1 : st ≠ env.locals) (d2 : st ≠ I) (d3 : n0 ≠ env.locals) (d4 : n0 ≠ I) (hI : I < sB.heap.objs.size) (h0 : items[0]? = some (.ref n0))
    (hY : ∀ h' tk κ m', h'.IsListIter sB.heap.objs.size n0 1 → h'.IsRevIter I st (-1) → h'.Ns env.locals m' → (∀ b o, b ≠ env.locals → b ≠ I → sB.heap.get? b = some o → h'.get? b = some o) →
      (∀ s'' : Shared, s''.heap.IsListIter sB.heap.objs.size n0 1 → s''.heap.IsList n0 #[tp] → s''.heap.IsRevIter I st (-1) →
        (∀ h'', (∀ b o, b ≠ sB.heap.objs.size → b ≠ I → s''.heap.get? b = some o → h''.get? b = some o) → Seg (model prog w) A R Y 0 s'' (.block [] env) (.pure (.done .next)) fs { s'' with heap := h'' }) → κ (.send .none) s'') →
      Y 0 s₀ tp { sB with heap := h', toks := tk } κ) :
    ∀ (i : Nat) (h : Heap) (tk : Nat) (m : Str → Option Value), i < items.size → h.IsRevIter I st (i : Int) → NsInv env.locals I st n0 tp items h → h.Ns env.locals m →
      (∀ b o, b ≠ env.locals → b ≠ I → sB.heap.get? b = some o → h.get? b = some o) → h.objs.size = sB.heap.objs.size →
      Seg (model prog w) A R Y 1 s₀ (cNS I pf pa pb pc pd pe env) ((model prog w).den (cNS I pf pa pb pc pd pe env)) fs { sB with heap := h, toks := tk } := by
  intro i
  induction i with
  | zero =>
    intro h tk m hi hit hv hm hk hz
    refine seg_forLoop (wpAny_pyNext_rev_item hit hv.stack h0 fun h₁ hit₁ hsb => ?_)
    have hm₁ : h₁.Ns env.locals m := hm.sameBut hsb (Ne.symm d0)
    have hv₁ : NsInv env.locals I st n0 tp items h₁ := hv.keep (fun b o _ b2 e => (hsb.2 b b2).trans e) d1 d2 d3 d4
    refine wpAny_pure (wpAny_assign_Name (wpAny_storeName_local ne.k1 hm₁ (fun h₂ hm₂ hsb₂ => ?_) ne.plain))
    have hv₂ : NsInv env.locals I st n0 tp items h₂ := hv₁.keep (fun b o b1 _ e => (hsb₂.2 b b1).trans e) d1 d2 d3 d4
    have hit₂ : h₂.IsRevIter I st (-1) := by
      have z := hit₁.at fun o e => (hsb₂.2 I d0).trans e
      simpa using z
    have hz₂ : h₂.objs.size = sB.heap.objs.size := (hsb₂.1.trans hsb.1).trans hz
    refine seg_ns_full ne hfs hfg hmk hm₂ (by simp) hv₂.first fun h' tk' κ hj hkp hκ => ?_
    rw [hz₂] at hj hκ
    refine hY h' tk' κ _ hj (hit₂.at fun o e => hkp _ _ e) (hm₂.keeps hkp) (fun b o b1 b2 e => hkp _ _ ((hsb₂.2 b b1).trans ((hsb.2 b b2).trans (hk b o b1 b2 e)))) fun s'' a1 a2 a3 a4 => hκ s'' a1 a2 fun h'' hx => ?_
    refine seg_again rfl (seg_forLoop (wpAny_pyNext_rev_end hmk (a3.at fun o e => hx I o (Nat.ne_of_lt hI) e) fun h₃ hx₃ => ?_))
    refine seg_again rfl ?_
    exact a4 h₃ fun b o b1 b2 e => hx₃ b o b2 (hx b o b1 e)
  | succ i ih =>
    intro h tk m hi hit hv hm hk hz
    obtain ⟨v, hiv⟩ : ∃ v, items[i + 1]? = some v := ⟨items[i + 1], Array.getElem?_eq_getElem hi⟩
    obtain ⟨e, rfl, e1, e2, e3⟩ := hv.more (i + 1) v (Nat.succ_pos _) hiv
    refine seg_forLoop (wpAny_pyNext_rev_item hit hv.stack hiv fun h₁ hit₁ hsb => ?_)
    have hm₁ : h₁.Ns env.locals m := hm.sameBut hsb (Ne.symm d0)
    have hv₁ : NsInv env.locals I st n0 tp items h₁ := hv.keep (fun b o _ b2 e => (hsb.2 b b2).trans e) d1 d2 d3 d4
    refine wpAny_pure (wpAny_assign_Name (wpAny_storeName_local ne.k1 hm₁ (fun h₂ hm₂ hsb₂ => ?_) ne.plain))
    have hv₂ : NsInv env.locals I st n0 tp items h₂ := hv₁.keep (fun b o b1 _ e => (hsb₂.2 b b1).trans e) d1 d2 d3 d4
    have he₂ : h₂.IsList e #[] := isList_keep e3 fun o z => (hsb₂.2 e e1).trans ((hsb.2 e e2).trans z)
    refine seg_ns_empty ne hm₂ (by simp) he₂ fun tk' => ?_
    refine seg_again rfl (ih h₂ tk' _ (Nat.lt_of_succ_lt hi) ?_ hv₂ hm₂ (fun b o b1 b2 z => (hsb₂.2 b b1).trans ((hsb.2 b b2).trans (hk b o b1 b2 z))) ((hsb₂.1.trans hsb.1).trans hz))
    have z := hit₁.at fun o z => (hsb₂.2 I d0).trans z
    have ec : (((i + 1 : Nat) : Int) - 1) = (i : Int) := by lia
    rw [ec] at z
    exact z

def nsP (I : Addr) : Nat → Shared → Shared → Prop := fun n s₀ s₁ => n = 0 ∧ ∃ h, s₁ = { s₀ with heap := h } ∧ ∀ b o, b ≠ I + 1 → b ≠ I → s₀.heap.get? b = some o → h.get? b = some o
def nsR (I : Addr) : GenEnd := fun n s₀ r s₁ => r = .ok (.ret .none) ∧ nsP I n s₀ s₁
def nsY (L I st n0 : Addr) (tp : Value) : Protocol := fun _ s₀ v s' κ => v = tp ∧ ∃ h' tk' m', s' = { s₀ with heap := h', toks := tk' } ∧ h'.IsListIter (I + 1) n0 1 ∧ h'.IsRevIter I st (-1) ∧ h'.IsList n0 #[tp] ∧ h'.Ns L m' ∧
  (∀ b o, b ≠ L → s₀.heap.get? b = some o → h'.get? b = some o) ∧ ∀ s'' : Shared, s''.heap.IsListIter (I + 1) n0 1 → s''.heap.IsList n0 #[tp] → s''.heap.IsRevIter I st (-1) → κ (.send .none) s''
abbrev nsBody (pa pb pc pd pe pf pg ph pi pj : Pos) : List Stmt := [.For (.Name sNs pf) (.Call (.Name sRv pg) [.Name sSt ph] [] pi) [ifS pa pb pc pd pe] [] pj]

theorem seg_ns_all {pa pb pc pd pe pf pg ph pi pj : Pos} {st n0 : Addr} {tp : Value} {items : Array Value} {m : Str → Option Value} (ne : NsEnv env) (hh : A.handled = none)
    (hm : s.heap.Ns env.locals m) (m1 : m sSt = some (.ref st)) (m2 : m sRv = some (.type "reversed"))
    (h0 : items[0]? = some (.ref n0)) (hl : s.heap.IsList st items) (hl0 : s.heap.IsList n0 #[tp])
    (hmore : ∀ (k : Nat) (v : Value), 0 < k → items[k]? = some v → ∃ e, v = .ref e ∧ e ≠ env.locals ∧ s.heap.IsList e #[])
    (d1 : st ≠ env.locals) (d3 : n0 ≠ env.locals) :
    Seg (model prog w) A (nsR s.heap.objs.size) (nsY env.locals s.heap.objs.size st n0 tp) 1 s (.func (nsBody pa pb pc pd pe pf pg ph pi pj) env) ((model prog w).den (.func (nsBody pa pb pc pd pe pf pg ph pi pj) env)) [] s := by
  refine seg_func (seg_execs_cons ?_)
  rw [exec_For]
  refine seg_bindw (wpAny_standAt ?_)
  refine seg_bindw (PyProof.Rows.Call_Name1 (wpAny_Name (wpAny_loadName_local ne.kind ne.k3 hm m2 ?_)))
  refine PySem.callWith_type1 (wpAny_Name (wpAny_loadName_local ne.kind ne.k2 hm m1 ?_))
  refine call_reversed_list hl ?_
  refine seg_bindw (wpAny_of_eq (a := Value.ref s.heap.objs.size) rfl ?_)
  refine seg_bindw (wpAny_standAt ?_)
  have hlt : ∀ {b o}, s.heap.get? b = some o → b ≠ s.heap.objs.size := fun e => Nat.ne_of_lt (Heap.lt_size e)
  have hpos : 0 < items.size := by
    rcases Nat.eq_zero_or_pos items.size with z | z
    · rw [Array.getElem?_eq_none (by lia)] at h0; cases h0
    · exact z
  have hit : (s.heap.push (revObj st ((items.size : Int) - 1))).IsRevIter s.heap.objs.size st ((items.size : Int) - 1) := ⟨_, Heap.get?_push_size _ rfl, rfl, rfl⟩
  refine seg_bindw (wpAny_holding (wpAny_pyIter_revIter hit ?_))
  refine seg_runOwn fun p => ?_
  have hm' := hm.push (revObj st ((items.size : Int) - 1))
  have hz : (s.heap.push (revObj st ((items.size : Int) - 1))).objs.size = s.heap.objs.size + 1 := Heap.size_push ..
  have kp : ∀ b o, s.heap.get? b = some o → (s.heap.push (revObj st ((items.size : Int) - 1))).get? b = some o := fun b o e => Heap.get?_push_of_some _ e
  have dL : s.heap.objs.size ≠ env.locals := Nat.ne_of_gt hm.lt
  have dst : st ≠ s.heap.objs.size := let ⟨_, ho, _⟩ := hl; hlt ho
  have dn0 : n0 ≠ s.heap.objs.size := let ⟨_, ho, _⟩ := hl0; hlt ho
  have hcast : ((items.size : Int) - 1) = ((items.size - 1 : Nat) : Int) := by lia
  rw [hcast] at hit
  refine seg_ns_loop (sB := { s with heap := s.heap.push (revObj st ((items.size : Int) - 1)) }) ne (by rfl) (by rfl) (by show A.handled = none; exact hh) dL d1 dst d3 dn0 (by show _ < (s.heap.push _).objs.size; rw [hz]; exact Nat.lt_succ_self _) h0 ?_ (items.size - 1) _ s.toks m (by lia) (by rw [hcast]; exact hit)
    ⟨isList_keep hl fun o => kp _ o, isList_keep hl0 fun o => kp _ o, fun k v hk hv => ?_⟩ hm' (fun _ _ _ _ e => e) rfl
  · intro h' tk κ m' y1 y2 y3 y4 y5
    have y1' : h'.IsListIter (s.heap.objs.size + 1) n0 1 := by rw [← hz]; exact y1
    refine ⟨rfl, h', tk, m', rfl, y1', y2, isList_keep hl0 fun o e => y4 _ o d3 dn0 (kp _ o e), y3, fun b o b1 e => y4 b o b1 (hlt e) (kp b o e), fun s'' z1 z2 z3 => y5 s'' (by show s''.heap.IsListIter (s.heap.push _).objs.size n0 1; rw [hz]; exact z1) z2 z3 fun h'' hx => ?_⟩
    refine seg_leaf (.ok .next) ?_
    refine seg_execs_nil (env := env) ?_
    refine seg_end (.ok (.ret .none)) ⟨rfl, rfl, h'', rfl, fun b o b1 b2 e => hx b o (by show b ≠ (s.heap.push _).objs.size; rw [hz]; exact b1) b2 e⟩
  · obtain ⟨e, e1, e2, e3⟩ := hmore k v hk hv
    exact ⟨e, e1, e2, (let ⟨_, ho, _⟩ := e3; hlt ho), isList_keep e3 fun o => kp _ o⟩

def NsSusp (prog : Program) (w : World) (A : Around) (L I st n0 : Addr) (tp : Value) (gs : GenState) : Prop :=
  ∀ s'' : Shared, s''.heap.IsListIter (I + 1) n0 1 → s''.heap.IsList n0 #[tp] → s''.heap.IsRevIter I st (-1) → gs.Goes (model prog w) A.in1 (nsR I) (nsY L I st n0 tp) 0 (.send .none) s''

theorem ns_next1 {A : Around} {E : Value → Shared → Prop} {s : Shared} {env : Env} {pa pb pc pd pe pf pg ph pi pj : Pos} {G g st n0 : Addr} {tp : Value} {items : Array Value} {m : Str → Option Value} {Q : Option Value → Shared → Prop}
    (ne : NsEnv env) (hh : A.handled = none) (hlim : s.heap.NoLimit) (hroom : A.depth < recursionLimit) (hg : s.heap.IsGen G g) (hgs : s.gens[g]? = some (.fresh (.func (nsBody pa pb pc pd pe pf pg ph pi pj) env)))
    (hm : s.heap.Ns env.locals m) (m1 : m sSt = some (.ref st)) (m2 : m sRv = some (.type "reversed"))
    (h0 : items[0]? = some (.ref n0)) (hl : s.heap.IsList st items) (hl0 : s.heap.IsList n0 #[tp])
    (hmore : ∀ (k : Nat) (v : Value), 0 < k → items[k]? = some v → ∃ e, v = .ref e ∧ e ≠ env.locals ∧ s.heap.IsList e #[])
    (d1 : st ≠ env.locals) (d3 : n0 ≠ env.locals)
    (hQ : ∀ h' tk' gs', h'.IsListIter (s.heap.objs.size + 1) n0 1 → h'.IsRevIter s.heap.objs.size st (-1) → (∃ m', h'.Ns env.locals m') → (∀ b o, b ≠ env.locals → s.heap.get? b = some o → h'.get? b = some o) →
      NsSusp prog w A env.locals s.heap.objs.size st n0 tp gs' → Q (some tp) { s with heap := h', toks := tk', gens := s.gens.setIfInBounds g gs' }) :
    wpAny (model prog w) A (pyNext (.ref G)) Q E s := by
  refine wpAny_pyNext_gen (n := 1) (P := nsP s.heap.objs.size) (Y := nsY env.locals s.heap.objs.size st n0 tp) hh hlim hroom hg hgs ⟨rfl, ?_⟩ (fun v s₁ gs' hy => ?_) (fun s₁ hp => ?_)
  · exact seg_ns_all (s := s.setGen g .running) (A := A.in1) ne hh hm m1 m2 h0 hl hl0 hmore d1 d3
  · obtain ⟨rfl, h', tk', m', rfl, y1, y2, y3, y4, y5, y6⟩ := hy
    have e : (({ s.setGen g .running with heap := h', toks := tk' } : Shared).setGen g gs') = { s with heap := h', toks := tk', gens := s.gens.setIfInBounds g gs' } := by
      unfold Shared.setGen
      simp only [Array.setIfInBounds_setIfInBounds]
    have q := hQ h' tk' gs' y1 y2 ⟨m', y4⟩ y5 y6
    rw [← e] at q
    exact q
  · exact absurd hp.1 (by decide)

theorem ns_next2 {A : Around} {E : Value → Shared → Prop} {s : Shared} {G g L I st n0 : Addr} {tp : Value} {gs : GenState} {Q : Option Value → Shared → Prop}
    (hh : A.handled = none) (hlim : s.heap.NoLimit) (hroom : A.depth < recursionLimit) (hg : s.heap.IsGen G g) (hgs : s.gens[g]? = some gs) (hS : NsSusp prog w A L I st n0 tp gs)
    (a1 : s.heap.IsListIter (I + 1) n0 1) (a2 : s.heap.IsRevIter I st (-1)) (a3 : s.heap.IsList n0 #[tp])
    (hQ : ∀ h', (∀ b o, b ≠ I + 1 → b ≠ I → s.heap.get? b = some o → h'.get? b = some o) → Q none { s with heap := h', gens := s.gens.setIfInBounds g .finished }) :
    wpAny (model prog w) A (pyNext (.ref G)) Q E s := by
  refine wpAny_pyNext_gen (n := 0) (P := nsP I) (Y := nsY L I st n0 tp) hh hlim hroom hg hgs (hS (s.setGen g .running) a1 a3 a2) (fun v s₁ gs' hy => ?_) (fun s₁ hp h' hk => ?_)
  · obtain ⟨rfl, h', tk', m', rfl, y1, y2, y3, y4, y5, y6⟩ := hy
    exact (y6 { s with heap := h' } y1 y3 y2).elim
  · obtain ⟨_, h₁, rfl, hk₁⟩ := hp
    have e : ({ ({ s.setGen g .running with heap := h₁ } : Shared).setGen g .finished with heap := h' } : Shared) = { s with heap := h', gens := s.gens.setIfInBounds g .finished } := by
      unfold Shared.setGen
      simp only [Array.setIfInBounds_setIfInBounds]
    have q := hQ h' fun b o b1 b2 z => hk b o (hk₁ b o b1 b2 z)
    rw [← e] at q
    exact q
end
end
section
open PySem PySem.Calls PyProof.Rows PySem.W PySem.Spec

abbrev genObj (g : Nat) (nm qn : Str) (t : Tok) : Obj := { cls := .type "generator", data := .fields #[.int g 0, .str nm t, .str qn (t + 1)] }
section
variable {prog : Program} {w : World} {A : Around} {E : Value → Shared → Prop} {s : Shared} {K : Frag} {L : Addr} {h₀ : Heap} {m : Str → Option Value} {news : List (Addr × Obj)} {Q : Value → Shared → Prop}

theorem k_callGen {name qual : Str} {params : Arguments} {body : List Stmt} {scope : Scope} {dV kV doc pm cdv ct oc : Value} {an od : Option Addr} {osl : Array (Option Value)} {f : Addr} {args : List Value} {binds : List (Str × Value)}
    (F : Fr h₀ L s.heap m) (X₀ : K.In h₀) (N : News h₀ L s.heap news) (hlim : h₀.NoLimit)
    (ho : K.lookup f = some ⟨oc, od, .func (fnOf name qual params body scope dV kV doc pm an cdv ct), osl⟩) (hcd : codeIn K cdv qual = true) (hroom : A.depth < recursionLimit)
    (hbind : BindsTo s (fnOf name qual params body scope dV kV doc pm an cdv ct) ⟨args, []⟩ binds) (hloc : ∀ y ∈ binds, scope.names.lookup y.1 = some .local)
    (h : ∀ L₂ oF G tg h' tk', Fr h₀ L h' m → News h₀ L h' ((G, genObj s.gens.size name qual tg) :: (L₂, oF) :: news) → (∀ p ∈ news, p.1 < L₂) → @LT.lt Nat _ L₂ G →
      (∀ h'' : Heap, h''.get? L₂ = some oF → h''.Ns L₂ (fun x => binds.reverse.lookup x)) →
      Q (.ref G) { s with heap := h', toks := tk', gens := s.gens.push (.fresh (.func body (envX qual scope L₂ f cdv []))) })
    (hco : scope.isCoroutine = false) (hgen : scope.isGenerator = true) (hk : scope.kind = .function)
    (hcell : ∀ x ∈ scope.names, x.2 ≠ .cell) : wpAny (model prog w) A (call (.ref f) args) Q E s := by
  refine wpAny_call (codeAny_call_generator (fd := fnOf name qual params body scope dV kV doc pm an cdv ct) (body := body) hroom ((X₀.keeps F.keep) _ _ ho) rfl hco hgen rfl (codeRec_of (X₀.keeps F.keep) hcd) ?_)
  refine hbind _ _ _ _ (wpAny_newFunctionEnv hcell hloc (fun h₁ hns hsb => ?_) hk)
  have hk₁ : ∀ b o, s.heap.get? b = some o → h₁.get? b = some o := fun b o e => hsb.extBut b o (Nat.ne_of_lt (Heap.lt_size e)) (Heap.get?_push_of_some _ e)
  have lim₁ : h₁.NoLimit := (hlim.keeps F.keep).fresh _ hsb
  refine ⟨lim₁, ?_⟩
  have F₁ : Fr h₀ L h₁ m := F.keeps hk₁
  have hns' := hns
  obtain ⟨oF, es, ep, hoF, hdF, hsF, hfF⟩ := hns'
  have N₁ : News h₀ L h₁ ((s.heap.objs.size, oF) :: news) := by
    intro p hp
    rcases List.mem_cons.mp hp with rfl | hp
    · refine ⟨hoF, Nat.ne_of_gt F.ns.lt, ?_⟩
      cases e : h₀.get? s.heap.objs.size with
      | none => rfl
      | some o => exact absurd (Heap.lt_size (F.keep _ _ e)) (Nat.lt_irrefl _)
    · exact ⟨hk₁ _ _ (N p hp).1, (N p hp).2⟩
  have lt₁ : s.heap.objs.size < h₁.objs.size := hns.lt
  exact h s.heap.objs.size oF h₁.objs.size _ (h₁.push _) _ (F₁.push _) (News.push F₁ N₁ _ rfl) (fun p hp => Heap.lt_size (N p hp).1) lt₁ fun h'' e => ⟨oF, es, ep, e, hdF, hsF, hfF⟩

def GnfFlow (Q : Flow → Shared → Prop) (rest : Shared → Prop) (f : Flow) (s₃ : Shared) : Prop := match f with
  | .next => rest s₃
  | .cont => rest s₃
  | .brk => Q .next s₃
  | .ret v => Q (.ret v) s₃
def GnfTurn (prog : Program) (w : World) (A : Around) (E : Value → Shared → Prop) (env : Env) (tgt : Expr) (body : List Stmt) (Q : Flow → Shared → Prop) (rest : Shared → Prop) (r : Option Value) (s₁ : Shared) : Prop := match r with
  | none => Q .next s₁
  | some y => wpAny (model prog w) A (assign tgt env y) (fun _ s₂ => wpAny (model prog w) A (execs body env) (GnfFlow Q rest) E s₂) E s₁
def GnfRest (prog : Program) (w : World) (A : Around) (E : Value → Shared → Prop) (env : Env) (tgt : Expr) (body : List Stmt) (Q : Flow → Shared → Prop) (G : Addr) : Nat → Shared → Prop
  | 0, _ => False
  | n + 1, s => (∃ o, s.heap.get? G = some o ∧ o.cls = .type "generator") ∧ wpAny (model prog w) A (pyNext (.ref G)) (fun r s₁ => (∃ o, s₁.heap.get? G = some o ∧ o.cls = .type "generator") ∧ GnfTurn prog w A E env tgt body Q (GnfRest prog w A E env tgt body Q G n) r s₁) E s
theorem letOwned_gen {tgt : Expr} {G : Addr} {y : Value} {Q : Unit → Shared → Prop} (h : ∃ o, s.heap.get? G = some o ∧ o.cls = .type "generator") (hq : Q () s) : wpAny (model prog w) A (letOwnedTupleGo tgt (.ref G) y) Q E s := by
  obtain ⟨o, ho, hc⟩ := h
  obtain ⟨c, d, dt, sl⟩ := o
  dsimp only at hc
  subst hc
  have key : ∀ a : Addr, wpAny (model prog w) A (load G >>= fun o => match o.cls, o.data with
      | .type n, .fields vs =>
        if ["enumerate", "zip", "dict_itemiterator", "dict_reverseitemiterator", "odict_iterator", "itertools.zip_longest", "itertools.pairwise"].contains n && vs[0]? == some (rawInt a) then do
          rule "for.unpacks-the-owned-tuple"
          updateField G 0 .none
        else pure ()
      | _, _ => pure ()) Q E s := fun a => by
    refine wpAny_bind (wpAny_load ho ?_)
    cases dt with
    | fields vs =>
      have e : (["enumerate", "zip", "dict_itemiterator", "dict_reverseitemiterator", "odict_iterator", "itertools.zip_longest", "itertools.pairwise"].contains "generator") = false := by decide
      simp only [e, Bool.false_and, Bool.false_eq_true, if_false]
      exact wpAny_pure hq
    | _ => exact wpAny_pure hq
  unfold letOwnedTupleGo
  split
  · cases y <;> first | exact wpAny_pure hq | exact key _
  · cases y <;> first | exact wpAny_pure hq | exact key _
  · exact wpAny_pure hq

theorem gnf_for {env : Env} {tgt iter : Expr} {body : List Stmt} {pos : Pos} {Q : Flow → Shared → Prop} (n : Nat)
    (h : wpAny (model prog w) A (eval iter env) (fun xv s₁ => ∃ G g, xv = .ref G ∧ s₁.heap.IsGen G g ∧ GnfRest prog w A E env tgt body Q G n s₁) E s)
    (hs : ∀ x, foldedSetIterable iter env x = pure x := by intro _; rfl) (hE : PassesOwn (model prog w) A env E := by passes_own) :
    wpAny (model prog w) A (exec (.For tgt iter body [] pos) env) Q E s := by
  refine wpAny_For (wpAny_mono h (fun xv s₁ h₁ => ?_) fun _ _ z => z) hs
  obtain ⟨G, g, rfl, hg, h₂⟩ := h₁
  refine wpAny_pyIter_gen hg ?_
  refine codeAny_forLoop_any (R := fun r s' => match r with | .ok f => Q f s' | .error e => cameBackBy (model prog w) A env E e s') (fun k s' => GnfRest prog w A E env tgt body Q G k s') ?_ n h₂
  intro k s' hk
  cases k with
  | zero => exact hk.elim
  | succ k =>
    refine wpAny_passesOwn hE (wpAny_mono hk.2 (fun r s₁ hr => ?_) fun _ _ z => z)
    cases r with
    | none => exact wpAny_execs_nil hr.2
    | some y =>
      refine letOwned_gen hr.1 ?_
      refine wpAny_passesOwn hE (wpAny_mono hr.2 (fun _ s₂ h₂ => ?_) fun _ _ z => z)
      refine wpAny_passesOwn hE (wpAny_mono h₂ (fun f s₃ h₃ => ?_) fun _ _ z => z)
      cases f with
      | next => exact ⟨k, Nat.lt_succ_self k, h₃⟩
      | cont => exact ⟨k, Nat.lt_succ_self k, h₃⟩
      | brk => exact h₃
      | ret _ => exact h₃

theorem genObj_isGen {h : Heap} {G g : Nat} {nm qn : Str} {t : Tok} (e : h.get? G = some (genObj g nm qn t)) : h.IsGen G g := ⟨_, _, _, e, rfl, rfl, rfl⟩
theorem listOf_isList {h : Heap} {l : Addr} {its : Array Value} {n : Nat} (e : h.get? l = some (listOf its n)) : h.IsList l its := ⟨_, e, rfl, n, rfl⟩

theorem k_ns1 {pa pb pc pd pe pf pg ph pi pj : Pos} {env₂ : Env} {G g L₂ st n0 : Nat} {n1 n2 : Nat} {nm qn : Str} {tg : Tok} {oF : Obj} {tp : Value} {items : Array Value} {m₂ : Str → Option Value} {Q : Option Value → Shared → Prop}
    (F : Fr h₀ L s.heap m) (N : News h₀ L s.heap ((G, genObj g nm qn tg) :: (L₂, oF) :: news)) (hh : A.handled = none) (hlim : h₀.NoLimit) (hroom : A.depth < recursionLimit)
    (ne : NsEnv env₂) (hgs : s.gens[g]? = some (.fresh (.func (nsBody pa pb pc pd pe pf pg ph pi pj) env₂))) (hL : env₂.locals = L₂)
    (hF : ∀ h'' : Heap, h''.get? L₂ = some oF → h''.Ns L₂ m₂) (m1 : m₂ sSt = some (.ref st)) (m2 : m₂ sRv = some (.type "reversed"))
    (hst : (st, listOf items n1) ∈ news) (h0 : items[0]? = some (.ref n0)) (hn0 : (n0, listOf #[tp] n2) ∈ news)
    (hmore : ∀ (k : Nat) (v : Value), 0 < k → items[k]? = some v → ∃ e n, v = .ref e ∧ (e, listOf #[] n) ∈ news)
    (lts : ∀ p ∈ news, p.1 < L₂) (lG : @LT.lt Nat _ L₂ G)
    (h : ∀ (I : Nat) oI oJ h' tk' gs', Fr h₀ L h' m → News h₀ L h' ((I + 1, oJ) :: (I, oI) :: (G, genObj g nm qn tg) :: news) → (∀ p ∈ (G, genObj g nm qn tg) :: news, p.1 < I) → NsSusp prog w A L₂ I st n0 tp gs' →
      (∀ h'' : Heap, h''.get? (I + 1) = some oJ → h''.IsListIter (I + 1) n0 1) → (∀ h'' : Heap, h''.get? I = some oI → h''.IsRevIter I st (-1)) → Q (some tp) { s with heap := h', toks := tk', gens := s.gens.setIfInBounds g gs' }) :
    wpAny (model prog w) A (pyNext (.ref G)) Q E s := by
  subst hL
  have mem : ∀ {p : Addr × Obj}, p ∈ news → p ∈ (G, genObj g nm qn tg) :: (env₂.locals, oF) :: news := fun hp => .tail _ (.tail _ hp)
  have neL : ∀ {p : Addr × Obj}, p ∈ news → p.1 ≠ env₂.locals := fun hp => Nat.ne_of_lt (lts _ hp)
  refine ns_next1 ne hh (hlim.keeps F.keep) hroom (genObj_isGen (N _ (.head _)).1) hgs (hF _ (N _ (.tail _ (.head _))).1) m1 m2 h0 (listOf_isList (N _ (mem hst)).1) (listOf_isList (N _ (mem hn0)).1)
    (fun k v hk hv => let ⟨e, n, a, b⟩ := hmore k v hk hv; ⟨e, a, neL b, listOf_isList (N _ (mem b)).1⟩) (neL hst) (neL hn0) fun h' tk' gs' y1 y2 y3 y4 y5 => ?_
  have fresh : ∀ {x : Addr}, s.heap.objs.size ≤ x → x ≠ L ∧ h₀.get? x = none := fun hx => kdx_fresh F hx
  have LL : L ≠ env₂.locals := fun e => (N (env₂.locals, oF) (.tail _ (.head _))).2.1 e.symm
  have F' : Fr h₀ L h' m := ⟨F.ns.at fun o e => y4 L o LL e, fun b o e => y4 b o (fun z => by subst z; have q := (N (env₂.locals, oF) (.tail _ (.head _))).2.2; rw [e] at q; cases q) (F.keep b o e), F.above⟩
  have y2' := y2
  obtain ⟨oI, hI, cI, dI⟩ := y2'
  have y1' := y1
  obtain ⟨oJ, hJ, cJ, dJ⟩ := y1'
  refine h s.heap.objs.size oI oJ h' tk' gs' F' ?_ (fun p hp => ?_) y5 (fun h'' e => ⟨oJ, e, cJ, dJ⟩) (fun h'' e => ⟨oI, e, cI, dI⟩)
  · intro p hp
    rcases List.mem_cons.mp hp with rfl | hp
    · exact ⟨hJ, fresh (Nat.le_succ _)⟩
    · rcases List.mem_cons.mp hp with rfl | hp
      · exact ⟨hI, fresh (Nat.le_refl _)⟩
      · rcases List.mem_cons.mp hp with rfl | hp
        · have z := N _ (.head _)
          exact ⟨y4 _ _ (Nat.ne_of_gt lG) z.1, z.2⟩
        · have z := N _ (mem hp)
          exact ⟨y4 _ _ (neL hp) z.1, z.2⟩
  · rcases List.mem_cons.mp hp with rfl | hp
    · exact Heap.lt_size (N _ (.head _)).1
    · exact Heap.lt_size (N _ (mem hp)).1

theorem k_ns2 {G g L₂ I st n0 : Nat} {n2 : Nat} {nm qn : Str} {tg : Tok} {oI oJ : Obj} {tp : Value} {gs : GenState} {Q : Option Value → Shared → Prop}
    (F : Fr h₀ L s.heap m) (N : News h₀ L s.heap ((I + 1, oJ) :: (I, oI) :: (G, genObj g nm qn tg) :: news)) (hh : A.handled = none) (hlim : h₀.NoLimit) (hroom : A.depth < recursionLimit)
    (hgs : s.gens[g]? = some gs) (hS : NsSusp prog w A L₂ I st n0 tp gs) (hJ : ∀ h'' : Heap, h''.get? (I + 1) = some oJ → h''.IsListIter (I + 1) n0 1) (hI : ∀ h'' : Heap, h''.get? I = some oI → h''.IsRevIter I st (-1))
    (hn0 : (n0, listOf #[tp] n2) ∈ news) (lG : @LT.lt Nat _ G I) (lts : ∀ p ∈ news, p.1 < I)
    (h : ∀ h', Fr h₀ L h' m → News h₀ L h' ((G, genObj g nm qn tg) :: news) → Q none { s with heap := h', gens := s.gens.setIfInBounds g .finished }) :
    wpAny (model prog w) A (pyNext (.ref G)) Q E s := by
  refine ns_next2 hh (hlim.keeps F.keep) hroom (genObj_isGen (N _ (.tail _ (.tail _ (.head _)))).1) hgs hS (hJ _ (N _ (.head _)).1) (hI _ (N _ (.tail _ (.head _))).1) (listOf_isList (N _ (.tail _ (.tail _ (.tail _ hn0)))).1) fun h' hk => ?_
  have nI := N (I, oI) (.tail _ (.head _))
  have nJ := N (I + 1, oJ) (.head _)
  refine h h' ⟨F.ns.at fun o e => hk L o (Ne.symm nJ.2.1) (Ne.symm nI.2.1) e, fun b o e => hk b o (fun z => by subst z; have q := nJ.2.2; rw [e] at q; cases q) (fun z => by subst z; have q := nI.2.2; rw [e] at q; cases q) (F.keep b o e), F.above⟩ fun p hp => ?_
  have z := N p (.tail _ (.tail _ hp))
  rcases List.mem_cons.mp hp with rfl | hp
  · exact ⟨hk _ _ (Nat.ne_of_lt (Nat.lt_succ_of_lt lG)) (Nat.ne_of_lt lG) z.1, z.2⟩
  · exact ⟨hk _ _ (Nat.ne_of_lt (Nat.lt_succ_of_lt (lts p hp))) (Nat.ne_of_lt (lts p hp)) z.1, z.2⟩
end
end
section
open PySem PySem.W PyProof.Rows PySem.Calls PySem.Spec
theorem bareDone {gens : Array GenState} {x y : GenState} (h : AllBare gens) : AllBare (((gens.push x).setIfInBounds gens.size y).setIfInBounds gens.size .finished) := by
  intro z hz
  obtain ⟨i, hi⟩ := Array.mem_iff_getElem?.mp hz
  simp only [Array.getElem?_setIfInBounds, Array.size_setIfInBounds, Array.size_push, Array.getElem?_push] at hi
  by_cases e : gens.size = i
  · subst e
    simp at hi
    subst hi
    rfl
  · simp only [if_neg e, if_neg (Ne.symm e)] at hi
    exact h z (Array.mem_of_getElem? hi)
theorem newsGen {h₀ h : Heap} {L : Addr} {l : List (Addr × Obj)} {G g : Nat} {nm qn : Str} {t : Tok} (N : News h₀ L h l) (hm : (G, genObj g nm qn t) ∈ l) : ∃ o, h.get? G = some o ∧ o.cls = .type "generator" := ⟨_, (N _ hm).1, rfl⟩
theorem neA {d : Nat} {l : List (Addr × Obj)} (h : AllLt d l) : ∀ p ∈ l, p.1 ≠ d := by
  induction l with
  | nil => intro p hp; cases hp
  | cons a l ih =>
    intro p hp
    cases hp with
    | head => exact Nat.ne_of_lt h.1
    | tail _ hp => exact ih h.2 p hp
theorem ltA {d : Nat} {l : List (Addr × Obj)} (h : AllLt d l) : ∀ p ∈ l, p.1 < d := by
  induction l with
  | nil => intro p hp; cases hp
  | cons a l ih =>
    intro p hp
    cases hp with
    | head => exact h.1
    | tail _ hp => exact ih h.2 p hp
theorem farA {d : Nat} {l : List (Addr × Obj)} (h : AllLt d l) : (∀ p ∈ l, p.1 ≠ d + 1) ∧ (∀ p ∈ l, p.1 ≠ d + 1 + 1) :=
  ⟨fun p hp => Nat.ne_of_lt (Nat.lt_succ_of_lt (ltA h p hp)), fun p hp => Nat.ne_of_lt (Nat.lt_succ_of_lt (Nat.lt_succ_of_lt (ltA h p hp)))⟩
theorem newsSub {h₀ h : Heap} {L : Addr} {l l' : List (Addr × Obj)} (N : News h₀ L h l) (hs : ∀ p ∈ l', p ∈ l) : News h₀ L h l' := fun p hp => N p (hs p hp)
abbrev tupOf (vs : List Value) : Obj := { cls := .type "tuple", data := .seq vs.toArray }
end
section
open PySem PySem.Calls PyProof.Rows PySem.W PySem.Spec KFB PySem.F

abbrev bfmObj (id : String) (recv : Value) : Obj := { cls := .type "builtin_function_or_method", data := .fields #[.builtin id, recv] }
def IsBfm (h : Heap) (q : Addr) (id : String) (recv : Value) : Prop := h.get? q = some (bfmObj id recv)
section
variable {prog : Program} {w : World} {M : Model} {A : Around} {E : Value → Shared → Prop} {s : Shared} {K : Frag} {h₀ : Heap} {L : Addr} {m : Str → Option Value} {news news' : List (Addr × Obj)}
theorem bfm_of {q : Addr} {id : String} {recv : Value} {h : Heap} (N : News h₀ L h news) (hm : (q, bfmObj id recv) ∈ news) : IsBfm h q id recv := (N _ hm).1
theorem bfm_ofK {q : Addr} {id : String} {recv : Value} {h : Heap} (X : K.In h) (hm : K.lookup q = some (bfmObj id recv)) : IsBfm h q id recv := X _ _ hm

theorem callWith_bfmF {pos : Pos} {u : Addr} {id : String} {recv : Value} {first : List Value} {args : List (Bool × Sem Value)} {Q : Value → Shared → Prop} (hplain : args.any (·.1) = false)
    (h : wpAny M A (evalArgs (.ref u) true args []) (fun x s₁ => IsBfm s₁.heap u id recv ∧ wpAny M A (call (.ref u) (first ++ x.pos) x.kw) Q E s₁) E s) : wpAny M A (callWith pos (.ref u) first args []) Q E s := by
  unfold callWith
  refine wpAny_bind (wpAny_holding (wpAny_mono h (fun x s₁ h₁ => wpAny_bind (wpAny_standAt ?_)) fun _ _ x => x))
  obtain ⟨ho, hcall⟩ := h₁
  simp only [hplain, List.any_nil, Bool.or_false]
  refine wpAny_bind (m := keeperOf (.ref u)) ?_
  unfold keeperOf
  refine wpAny_bind (wpAny_load ho ?_)
  simp only [bfmObj, show (Value.type "builtin_function_or_method" != Value.type "method") = true by decide, show (Value.type "builtin_function_or_method" == Value.type "builtin_function_or_method" || Value.type "builtin_function_or_method" == Value.type "method-wrapper") = true by decide, if_true]
  refine wpAny_pure ?_
  exact wpAny_bind (wpAny_mono hcall (fun r s₂ hr => wpAny_bind (wpAny_holding (wpAny_point (wpAny_pure hr)))) fun _ _ x => x)
theorem callWith_bfm {pos : Pos} {u : Addr} {id : String} {recv : Value} {env : Env} {e : Expr} {rest : List Expr} {Q : Value → Shared → Prop}
    (h : wpAny M A (spliced (backTo pos (starEach (e :: rest) env))) (fun vs s₁ => IsBfm s₁.heap u id recv ∧ wpAny M A (call (.ref u) vs) Q E s₁) E s)
    (he : starEach (e :: rest) env = (false, eval e env) :: starEach rest env := by rfl) (hplain : (backTo pos (starEach rest env)).any (·.1) = false := by rfl) :
    wpAny M A (callWith pos (.ref u) [] (backTo pos (starEach (e :: rest) env)) []) Q E s := by
  rw [he] at h ⊢
  refine callWith_bfmF (id := id) (recv := recv) (by show (false || (backTo pos (starEach rest env)).any (·.1)) = false; rw [hplain]; rfl) ?_
  exact evalArgs_plain h

theorem call_bfm {u : Addr} {id : String} {recv : Value} {vals : List Value} {b : Builtin} {Q : Value → Shared → Prop} (ho : IsBfm s.heap u id recv) (hq : plainId id = true) (hb : entryFor table id = some b)
    (hc : ∀ {A : Around} {Q : Unit → Shared → Prop}, Q () s → wpAny (model prog w) A (checkBoundCall id ⟨recv :: vals, []⟩) Q E s)
    (h : wpAny (model prog w) (A.under (.builtin id ⟨recv :: vals, []⟩)) (b ⟨recv :: vals, []⟩) (fun fin s' => match fin with | .done (.ret v) => Q v s' | .done _ => False | .again c' => c'.quiet = true ∧ codeAny (model prog w) A c' (wants Q E) s') E s) :
    wpAny (model prog w) A (call (.ref u) vals) Q E s := by
  refine wpAny_call (codeAny_of_tree ?_)
  show wpAny _ A.in1 (callAny (.ref u) ⟨vals, []⟩) _ _ s
  simp only [callAny]
  refine wpAny_bind (wpAny_load ho ?_)
  simp only [bfmObj, show (Value.type "builtin_function_or_method" == Value.type "method" || Value.type "builtin_function_or_method" == Value.type "builtin_function_or_method" || Value.type "builtin_function_or_method" == Value.type "method-wrapper") = true by decide, if_true]
  refine if_so (by decide) ?_
  refine wpAny_bind (hc ?_)
  refine wpAny_bind (wpAny_pure (wpAny_pure ?_))
  refine ⟨plainId_quiet hq _, codeAny_builtin hb (wpAny_mono h (fun fin s' h' => ?_) fun _ _ z => z)⟩
  cases fin with
  | done f => cases f <;> first | exact h' | exact h'.elim
  | again c => exact h'

theorem isType_ref {D : Addr} {o : Obj} {A : Around} {Q : Bool → Shared → Prop} (ho : s.heap.get? D = some o) (hd : ∃ xs n, o.data = .seq xs n) (h : Q false s) : wpAny M A (isType (.ref D)) Q E s := by
  obtain ⟨xs, n, hd⟩ := hd
  unfold isType loadHead
  refine wpAny_bind (wpAny_loadPart ho ?_)
  rw [hd]
  exact wpAny_pure h
theorem check_append {D : Addr} {x : Value} {A : Around} {o : Obj} {Q : Unit → Shared → Prop} (ho : s.heap.get? D = some o) (hc : o.cls = .type "list") (hd : ∃ xs n, o.data = .seq xs n) (h : Q () s) :
    wpAny (model prog w) A (checkBoundCall "list.append" ⟨[.ref D, x], []⟩) Q E s := by
  have hT : s.TypeIs (.ref D) "list" := ⟨_, ho, hc⟩
  have e1 : Manifest.signature? "list.append" = some ((Manifest.signature? "list.append").get (by kernel_rfl)) := by simp
  have e2 : builtinKind "list.append" = some .method := by kernel_rfl
  have e3 : isSubtype (.type "list") (.type "module") = pure false := by kernel_rfl
  unfold checkBoundCall
  rw [e1, e2]
  dsimp only
  refine if_not (by decide) ?_
  refine wpAny_bind (wpAny_isInstance hT e3 ?_)
  refine if_not (by decide +kernel) ?_
  refine wpAny_bind (isType_ref ho hd ?_)
  refine if_not (by decide) ?_
  refine wpAny_bind (wpAny_typeOf hT ?_)
  dsimp only
  refine wpAny_of_eq (a := ()) (by kernel_rfl) h
theorem check_join {x : Str} {t : Tok} {v : Value} {A : Around} {Q : Unit → Shared → Prop} (h : Q () s) :
    wpAny (model prog w) A (checkBoundCall "str.join" ⟨[.str x t, v], []⟩) Q E s :=
  wpAny_of_eq (a := ()) (by kernel_rfl) h

theorem bfm_append {D u : Addr} {its : Array Value} {n : Nat} {x : Value} {Q : Value → Shared → Prop} (F : Fr h₀ L s.heap m) (N : News h₀ L s.heap news) (ho : IsBfm s.heap u "list.append" (.ref D)) (U : Upd D (listOf its n) (listOf (its.push x) (n + 1)) news news')
    (h : ∀ h', Fr h₀ L h' m → News h₀ L h' news' → Q .none { s with heap := h' }) (hsz : its.size ≤ sizeLine) : wpAny (model prog w) A (call (.ref u) [x]) Q E s := by
  obtain ⟨pre, post, rfl, rfl, a, b⟩ := U.split
  have z := N (D, listOf its n) (List.mem_append.mpr (.inr (.head _)))
  refine call_bfm ho PySem.F.slot_list_append.plain PySem.F.entry_list_append (fun q => check_append z.1 rfl ⟨_, _, rfl⟩ q) ?_
  show wpAny _ _ (updateSeq D (·.push x) >>= fun _ => ret .none) _ _ s
  refine wpAny_bind ?_
  refine wpAny_updateSeq z.1 rfl (wpAny_pure ?_)
  have hs := Heap.SameBut.update D (Obj.mapSeq (·.push x)) (h := s.heap)
  refine h _ (F.change hs z.2.1 z.2.2) (news_set N a b hs ?_)
  rw [Heap.get?_update_self _ z.1 (by rw [mapSeq_push]; rfl), mapSeq_push]

theorem bfm_join {D u : Addr} {sep : Str} {t : Tok} {l : List (Str × Tok)} {Q : Value → Shared → Prop} (ho : IsBfm s.heap u "str.join" (.str sep t)) (hl : s.heap.IsList D (strValues l).toArray)
    (hz : Builtin.Str.tooLong ((l.map (·.1)).toArray.foldl (· + ·.length + sep.length) 0) = false) (h : (joinMade sep l).post Q s) : wpAny (model prog w) A (call (.ref u) [.ref D]) Q E s := by
  refine call_bfm ho slot_str_join.plain entry_str_join (fun q => check_join q) ?_
  have hu : A.under (.builtin "str.join" ⟨[.str sep t, .ref D], []⟩) = A.in1 := Around.under_plainId slot_str_join.plain _
  rw [hu]
  refine wpAny_mono (meets_str_join_list sep t D l hz prog w A (wants Q E) s ⟨hl, ?_⟩) (fun fin s' h' => ?_) fun _ _ z => z
  · exact h
  · cases fin with
    | done f => cases f <;> exact h'
    | again c => exact h'
theorem callWith_bfmN {pos : Pos} {u : Addr} {id : String} {recv : Value} {env : Env} {e : Expr} {rest : List Expr} {Q : Value → Shared → Prop} (_N : News h₀ L s.heap news) (_hm : (u, bfmObj id recv) ∈ news)
    (h : wpAny M A (spliced (backTo pos (starEach (e :: rest) env))) (fun vs s₁ => IsBfm s₁.heap u id recv ∧ wpAny M A (call (.ref u) vs) Q E s₁) E s)
    (he : starEach (e :: rest) env = (false, eval e env) :: starEach rest env := by rfl) (hplain : (backTo pos (starEach rest env)).any (·.1) = false := by rfl) :
    wpAny M A (callWith pos (.ref u) [] (backTo pos (starEach (e :: rest) env)) []) Q E s := callWith_bfm h he hplain
theorem callWith_bfmK {pos : Pos} {u : Addr} {id : String} {recv : Value} {env : Env} {e : Expr} {rest : List Expr} {Q : Value → Shared → Prop} (_X : K.In h₀) (_hm : K.lookup u = some (bfmObj id recv))
    (h : wpAny M A (spliced (backTo pos (starEach (e :: rest) env))) (fun vs s₁ => IsBfm s₁.heap u id recv ∧ wpAny M A (call (.ref u) vs) Q E s₁) E s)
    (he : starEach (e :: rest) env = (false, eval e env) :: starEach rest env := by rfl) (hplain : (backTo pos (starEach rest env)).any (·.1) = false := by rfl) :
    wpAny M A (callWith pos (.ref u) [] (backTo pos (starEach (e :: rest) env)) []) Q E s := callWith_bfm h he hplain
end
end
section
open PySem PySem.Calls PyProof.Rows PySem.W PySem.Spec Builtin Builtin.Str
section
variable {prog : Program} {w : World} {A : Around} {E : Value → Shared → Prop} {s : Shared} {x y z : Str} {t u v : Tok} {Q : Value → Shared → Prop}
theorem replaceP (hu : u ≠ 0) (hv : v ≠ 0) (huv : u ≠ v) (hyz : (y == z) = false) (hb : x.length + (x.length + 1) * z.length ≤ 16777216)
    (hc : ((occurrences x y 0 x.length (x.length + 1)).isEmpty || (y.length == 0 && z.length == 0)) = false)
    (hq : Q (.str (Txt.replace x y z) s.toks) { s with toks := s.toks + 1 }) : wpAny (model prog w) A (call (.builtin "str.replace") [.str x t, .str y u, .str z v]) Q E s := by
  have e : (2 : Nat) ^ 24 = 16777216 := by decide
  have hl : tooLong (x.length + (occurrences x y 0 x.length (x.length + 1)).length * z.length) = false := by
    have h1 := StrLaws.occ_length_le x y 0 x.length (x.length + 1)
    have h2 : (occurrences x y 0 x.length (x.length + 1)).length * z.length ≤ (x.length + 1) * z.length := Nat.mul_le_mul_right _ h1
    unfold tooLong sizeLine
    exact decide_eq_false (by lia)
  refine call_gives F.slot_str_replace (typeIs_str _ _ _) F.entry_str_replace (F.args_str_replace_3 _ _ _)
    (gives_str_replace x y z t u v fun _ => ⟨by simp [hu, hv], by simp [huv], hyz, hl⟩) ?_
  have hq' := hq
  unfold Txt.replace at hq'
  rw [hc] at hq'
  simp only [hc, Bool.false_eq_true, if_false] at hq' ⊢
  exact ⟨fits_replaced y hb, hq'⟩
end
theorem occ_pos {c : Prop} [Decidable c] {a b : Prop} (h : c) (x : a) : if c then a else b := by rw [if_pos h]; exact x
theorem occ_neg {c : Prop} [Decidable c] {a b : Prop} (h : ¬ c) (x : b) : if c then a else b := by rw [if_neg h]; exact x
end
section
open PySem PySem.Calls PyProof.Rows PySem.W PySem.Spec KFB
section
variable {prog : Program} {w : World} {A : Around} {E : Value → Shared → Prop} {s : Shared} {h₀ : Heap} {L : Addr} {m : Str → Option Value} {news news' : List (Addr × Obj)}
def selC (start stop step : Int) (i : Nat) : Bool :=
  if step > 0 then start ≤ i && i < stop && (i - start) % step == 0
  else stop < i && i ≤ start && (start - i) % (-step) == 0
theorem selects_all (n k : Nat) (h : k < n) : selC 0 n 1 k = true := by
  unfold selC
  simp
  lia
theorem none_left {xs : Array Value} {f : Value × Nat → Option Value} (h : ∀ x k, k < xs.size → f (x, k) = none) : (xs.toList.zipIdx.filterMap f).toArray = #[] := by
  have : xs.toList.zipIdx.filterMap f = [] := by
    rw [List.filterMap_eq_nil_iff]
    rintro ⟨x, k⟩ hk
    have := List.mem_zipIdx hk
    simp at this
    exact h x k this.1
  rw [this]
theorem delAll {D sl : Addr} {its : Array Value} {n : Nat} {Q : Unit → Shared → Prop} (F : Fr h₀ L s.heap m) (N : News h₀ L s.heap news) (U : Upd D (listOf its n) (listOf #[] (n + 1)) news news')
    (hs : s.heap.IsSliceOf sl .none .none .none)
    (h : ∀ h', Fr h₀ L h' m → News h₀ L h' news' → Q () { s with heap := h' }) (hsz : its.size ≤ sizeLine) (hne : its.size ≠ 0) : wpAny (model prog w) A (delItem (.ref D) (.ref sl)) Q E s := by
  obtain ⟨pre, post, rfl, rfl, a, b⟩ := U.split
  have z := N (D, listOf its n) (List.mem_append.mpr (.inr (.head _)))
  obtain ⟨os, hos, hcs, hds⟩ := id hs
  have hT : s.TypeIs (.ref D) "list" := ⟨_, z.1, rfl⟩
  have hTs : s.TypeIs (.ref sl) "slice" := ⟨os, hos, hcs⟩
  refine wpAny_delItem_slot hT (by decide) PySem.F.slot_list_delitem ?_
  refine wpAny_call_entry PySem.F.slot_list_delitem hT PySem.F.entry_list_delitem ?_ (PySem.F.args_list_delitem_2 _ _)
  show wpAny _ _ (Builtin.List.listSubscript? (.ref sl) >>= _) _ _ s
  refine wpAny_bind ?_
  unfold Builtin.List.listSubscript?
  refine wpAny_bind (wpAny_specialOf hTs slice_no_index ?_)
  simp only [Option.isNone_none, if_true]
  refine wpAny_pure ?_
  show wpAny _ _ (typeOf (.ref sl) >>= _) _ _ s
  refine wpAny_bind (wpAny_typeOf hTs ?_)
  rw [if_neg (by decide)]
  rw [listSliceParts_eq]
  have hstep : ¬ ((rawPart none == rawInt 0) = true) := Bool.false_ne_true
  refine wpAny_bind (wpAny_bind (wpAny_field hos hds (x := .none) rfl (wpAny_bind (wpAny_listPart .none ?_))))
  rw [if_neg hstep]
  refine wpAny_bind (wpAny_field hos hds (x := .none) rfl (wpAny_bind (wpAny_listPart .none ?_)))
  refine wpAny_bind (wpAny_field hos hds (x := .none) rfl (wpAny_bind (wpAny_listPart .none (wpAny_pure ?_))))
  refine wpAny_bind (m := Builtin.List.listItems (.ref D)) ?_
  unfold Builtin.List.listItems
  refine wpAny_bind (wpAny_seqItems z.1 rfl (wpAny_pure ?_))
  refine wpAny_bind (wpAny_of_eq (sliceIndices_raw none none none its.size (by simp)) ?_)
  refine wpAny_bind (wpAny_rule ?_)
  refine wpAny_bind ?_
  show wpAny _ _ (updateSeq D _) _ _ s
  have zz : listOf its n = { cls := .type "list", data := .seq its n } := rfl
  refine wpAny_updateSeq z.1 rfl ?_ hsz ?_
  · refine wpAny_bind (wpAny_letGo (wpAny_pure ⟨_, rfl, ?_⟩))
    refine h _ (F.change (Heap.SameBut.update ..) z.2.1 z.2.2) (kl_turn _ N a b ?_ ?_)
    · refine none_left fun x k hk => ?_
      exact if_pos (selects_all its.size k hk)
    · exact Ne.symm hne
  · refine Nat.le_succ_of_le ?_
    refine Nat.le_trans (Nat.le_of_eq ?_) (Nat.zero_le _)
    refine (congrArg Array.size (none_left (xs := its) fun x k hk => ?_)).trans rfl
    exact if_pos (selects_all its.size k hk)
theorem sliceOf_news {sl : Addr} {h : Heap} (N : News h₀ L h news) (hm : (sl, ({ cls := .type "slice", data := .fields #[.none, .none, .none] } : Obj)) ∈ news) : h.IsSliceOf sl .none .none .none := ⟨_, N.get hm, rfl, rfl⟩
theorem upd_mem {D : Addr} {o o' : Obj} {l l' : List (Addr × Obj)} (U : Upd D o o' l l') : (D, o) ∈ l := by
  obtain ⟨pre, post, rfl, _, _, _⟩ := U.split
  exact List.mem_append.mpr (.inr (.head _))
theorem delAllP {D : Addr} {its : Array Value} {n : Nat} {Q : Unit → Shared → Prop} {h : Heap} {g : Array GenState} {d : Drawn} {t : Nat} {os : OsState} (F : Fr h₀ L h m) (N : News h₀ L h news) (U : Upd D (listOf its n) (listOf #[] (n + 1)) news news')
    (hQ : ∀ h', Fr h₀ L h' m → News h₀ L h' news' → Q () ⟨h', g, d, t, os⟩) (hsz : its.size ≤ sizeLine) (hne : its.size ≠ 0) :
    wpAny (model prog w) A (delItem (.ref D) (.ref h.objs.size)) Q E ⟨h.push { cls := .type "slice", data := .fields #[.none, .none, .none] }, g, d, t, os⟩ := by
  refine delAll (F.push _) (News.push F N _ rfl) (Upd.tail (p := (h.objs.size, _)) ?_ U) (sliceOf_news (News.push F N _ rfl) (.head _)) (fun h' F' N' => hQ h' F' (newsSub N' fun p hp => .tail _ hp)) hsz hne
  exact Nat.ne_of_gt (Heap.lt_size (N.get (upd_mem U)))
end
end
section
open PySem PySem.Calls PyProof.Rows PySem.W PySem.Spec
abbrev oneSet (hs : Int) (x : Value) (t : SetTable) : Obj := { cls := .type "set", dict := none, data := .set #[(hs, x)] 1 t }
def LowT0 (led : Bool) (t : SetTable) : Prop := t.mask = 7 ∧ t.fill = 1 ∧ t.fits 1 = true ∧ t.led = led
def LowT (led : Bool) (t : SetTable) : Prop := t.mask = 7 ∧ t.fill = 1 ∧ t.fits 1 = true ∧ t.led = led ∧ t.plain = false
abbrev ledOf (w : World) : Bool := !(w.params.followText "set-order")
theorem fresh_probe (led : Bool) (f : Nat → Int) (hs : Int) : (SetTable.fresh 0 0 led).probe f hs ((SetTable.fresh 0 0 led).probeStart hs) = some (.empty ((SetTable.fresh 0 0 led).probeStart hs).j none) := by
  unfold SetTable.probe
  show SetTable.probe.go _ f hs (9 + 211) _ = _
  rfl
theorem layNew_fresh (led : Bool) (hs : Int) (x : Value) : ∃ t, layNew (SetTable.fresh 0 0 led) #[] hs x = (#[(hs, x)], t, false, false) ∧ LowT0 led t := by
  unfold layNew SetTable.freeSlot
  rw [fresh_probe]
  exact ⟨_, rfl, rfl, rfl, rfl, rfl⟩
theorem low_plain {led : Bool} {t : SetTable} (h : LowT0 led t) : LowT led { t with plain := false } := ⟨h.1, h.2.1, h.2.2.1, h.2.2.2, rfl⟩
theorem low_full {led : Bool} {t : SetTable} (h : LowT led t) : t.tooFull = false := by
  unfold SetTable.tooFull
  rw [h.1, h.2.1]
  decide
theorem low_room {led : Bool} {t : SetTable} (h : LowT led t) (k : Nat) (hk : k ≤ 2) : t.roomFor k = none := by
  unfold SetTable.roomFor
  rw [h.1, h.2.1, if_neg]
  show ¬ ((1 + k) * 5 ≥ 21)
  lia
section
variable {prog : Program} {w : World} {A : Around} {E : Value → Shared → Prop} {s : Shared} {h₀ : Heap} {L : Addr} {m : Str → Option Value} {news : List (Addr × Obj)} {g : Obj → List (Addr × Obj)}
theorem setAdd_first {D : Addr} {led : Bool} {x : Str} {tx : Tok} {Q : Bool → Shared → Prop} (F : Fr h₀ L s.heap m) (N : News h₀ L s.heap news)
    (U : UpdF D { cls := .type "set", dict := none, data := .set #[] 0 (.fresh 0 0 led) } news g)
    (h : ∀ h' t, LowT led t → Fr h₀ L h' m → News h₀ L h' (g (oneSet ((strKind prog w).hash x) (.str x tx) t)) → Q true { s with heap := h', toks := s.toks + 1 }) :
    wpAny (model prog w) A (setAdd D (.str x tx)) Q E s := by
  obtain ⟨pre, post, rfl, hg, a, b⟩ := U.split
  have hm := N (D, _) (List.mem_append_right _ (.head _))
  have hkey : (strKind prog w).is x (.str x tx) = true := strKind_is _ _ _ _
  have ho := hm.1
  have hd : ({ cls := .type "set", dict := none, data := .set #[] 0 (.fresh 0 0 led) } : Obj).data = .set #[] 0 (.fresh 0 0 led) := rfl
  have hf : (SetTable.fresh 0 0 led).fits (#[] : Array (Int × Value)).size = true := rfl
  have hel : ElemsOf (strKind prog w) (#[] : Array (Int × Value)).toList := fun e he => by simp at he
  unfold setAdd
  refine wpAny_holding (wpAny_bind ((strKind prog w).pyHash hkey ?_))
  unfold setAddHashed setAddHashedIn
  refine wpAny_holding (wpAny_bind (wpAny_setState_of ho hd hf ?_))
  dsimp only
  rw [byScan_of rfl (by decide) hel]
  simp only [↓reduceIte]
  unfold setAddByScan
  refine wpAny_bind ?_
  refine wpAny_bind (wpAny_rule ?_)
  refine wpAny_bind (wpAny_setScan_of hkey ho hd hf hel ?_)
  obtain ⟨t, e, ht⟩ := layNew_fresh led ((strKind prog w).hash x) (.str x tx)
  simp only [List.findIdx?_nil]
  rw [e]
  dsimp only
  have fin : ∀ t', LowT led t' → Q true { s with heap := s.heap.update D (Obj.putSet #[((strKind prog w).hash x, .str x tx)] t'), toks := s.toks + 1 } := fun t' h' => by
    refine h _ t' h' (F.change (Heap.SameBut.update ..) hm.2.1 hm.2.2) (hg _ ▸ N.setIn a b (Heap.SameBut.update ..) ?_)
    have q := Heap.get?_update_self (Obj.putSet #[((strKind prog w).hash x, .str x tx)] t') ho (by rw [putSet_of _ t' hd]; rfl)
    rw [putSet_of _ t' hd] at q
    exact q
  refine wpAny_bind (wpAny_of_eq (a := ()) rfl ?_)
  split
  · refine wpAny_bind ?_
    rw [hashByValue_scannable 8 rfl]
    refine wpAny_pure ?_
    refine wpAny_bind (wpAny_storeSet_of ho hd ?_ (by show 1 ≤ sizeLine; decide))
    rw [if_neg (fun hb => by
      have hb' : ((!false && ({ t with plain := false } : SetTable).tooFull) = true) := hb
      rw [low_full (low_plain ht)] at hb'
      cases hb')]
    exact wpAny_pure (wpAny_pure (fin _ (low_plain ht)))
  · rename_i hpl
    have hpl' : t.plain = false := by simpa using hpl
    have ht' : LowT led t := ⟨ht.1, ht.2.1, ht.2.2.1, ht.2.2.2, hpl'⟩
    refine wpAny_bind (wpAny_pure ?_)
    refine wpAny_bind (wpAny_storeSet_of ho hd ?_ (by show 1 ≤ sizeLine; decide))
    rw [if_neg (fun hb => by
      have hb' : ((!false && t.tooFull) = true) := hb
      rw [low_full ht'] at hb'
      cases hb')]
    exact wpAny_pure (wpAny_pure (fin _ ht'))
theorem sub_dict_set : isSubtype (.type "dict") (.type "set") = pure false := by kernel_rfl
theorem sub_dict_fset : isSubtype (.type "dict") (.type "frozenset") = pure false := by kernel_rfl
theorem dict_parts {o : Obj} {kvs : List (Str × Value)} (h : o.IsDictOf (strKind prog w) kvs) : ∃ es ep, o.cls = .type "dict" ∧ o.data = .dict es ep ∧ es.size = kvs.length := by
  obtain ⟨es, ep, hx, hd, _, hp, _⟩ := h
  exact ⟨es, ep, hx.1, hd, by rw [← hp.length]; simp⟩
theorem dictAt_of {o : Obj} {h : Heap} {a : Addr} {kvs : List (Str × Value)} (ho : h.get? a = some o) (x : o.IsDictOf (strKind prog w) kvs) : ∃ ep, h.DictAt (strKind prog w) a kvs ep := by
  obtain ⟨es, ep, hx, hd, hk, hp, hn⟩ := x
  exact ⟨ep, o, es, ho, hx, hd, hk, hp, hn⟩
theorem fr_ext {h h' : Heap} {I : Addr} (F : Fr h₀ L h m) (hI : I ≠ L ∧ h₀.get? I = none) (hx : Heap.ExtBut I h h') : Fr h₀ L h' m :=
  ⟨F.ns.extBut hx (Ne.symm hI.1), fun b o e => hx b o (fun q => by subst q; rw [hI.2] at e; cases e) (F.keep b o e), F.above⟩
theorem news_ext {h h' : Heap} {I : Addr} (N : News h₀ L h news) (hn : ∀ p ∈ news, p.1 ≠ I) (hx : Heap.ExtBut I h h') : News h₀ L h' news := fun p hp => ⟨hx _ _ (hn p hp) (N p hp).1, (N p hp).2⟩
theorem news_push0 {h : Heap} {o : Obj} (N : News h₀ L h news) : News h₀ L (h.push o) news := fun p hp => ⟨Heap.get?_push_of_some _ (N p hp).1, (N p hp).2⟩
theorem star0 {D at_ : Addr} {oA : Obj} {hs : Int} {x : Value} {t : SetTable} {led : Bool} {Q : Unit → Shared → Prop} (F : Fr h₀ L s.heap m) (N : News h₀ L s.heap news) (hh : A.handled = none)
    (hA : (at_, oA) ∈ news) (hd : oA.IsDictOf (strKind prog w) []) (hsm : (at_ == sysModules) = false) (hD : (D, oneSet hs x t) ∈ news) (ht : LowT led t)
    (h : ∀ h', Fr h₀ L h' m → News h₀ L h' news → Q () { s with heap := h' }) :
    wpAny (model prog w) A (setDisplayStar D (.ref at_)) Q E s := by
  obtain ⟨es, ep, hc, hdd, hsz⟩ := dict_parts hd
  have ho := N.get hA
  have hT : s.TypeIs (.ref at_) "dict" := ⟨_, ho, hc⟩
  unfold setDisplayStar
  dsimp only
  refine wpAny_bind (wpAny_isInstance hT sub_dict_set ?_)
  simp only [Bool.false_eq_true, if_false]
  refine wpAny_bind (wpAny_isInstance hT sub_dict_fset ?_)
  refine wpAny_bind (wpAny_askSetting ?_)
  have loop : wpAny (model prog w) A (do let _ ← runValue (.builtin "set.update.loop" ⟨[.ref D, ← pyIter (.ref at_)], []⟩)) Q E s := by
    obtain ⟨ep, hm⟩ := dictAt_of ho hd
    refine wpAny_bind (wpAny_pyIter_dict hsm hm ?_)
    refine wpAny_bind (wpAny_runValue ?_)
    refine codeAny_builtin PyProof.Rows.F.entry_set_update_loop ?_
    rw [Around.under_plainId PyProof.Rows.F.plain_set_update_loop]
    show wpAny _ _ (pyNext (.ref s.heap.objs.size) >>= _) _ _ _
    obtain ⟨om, em, e1, e2, e3, e4, e5, e6⟩ := hm
    refine wpAny_bind (wpAny_pyNext_dict_end (d := at_) (i := 0) (ep := ep) (kvs := []) (knd := strKind prog w) hh ⟨_, Heap.get?_push_size _ rfl, rfl, rfl⟩ ⟨om, em, Heap.get?_push_of_some _ e1, e2, e3, e4, e5, e6⟩ rfl fun h' hx => ?_)
    refine wpAny_pure ?_
    refine wpAny_pure (h _ (fr_ext (F.push _) (kdx_fresh F (Nat.le_refl _)) hx) (news_ext (news_push0 N) (fun p hp => Nat.ne_of_lt (Heap.lt_size (N p hp).1)) hx))
  have hes : es = #[] := Array.eq_empty_of_size_eq_zero hsz
  subst hes
  cases hb : (w.params.followText "set-display-star-reads-storage")
  · rw [if_neg (by rw [show ({ program := (model prog w).prog, params := (model prog w).w.params } : Setting).params = w.params from rfl, hb]; exact Bool.false_ne_true)]
    dsimp only
    rw [if_neg Bool.false_ne_true]
    refine wpAny_bind (wpAny_typeOf hT ?_)
    rw [if_pos (by decide)]
    refine wpAny_bind (wpAny_rule ?_)
    rw [if_neg (by rw [hsm]; exact Bool.false_ne_true)]
    refine wpAny_bind (wpAny_dictEpoch ho hdd ?_)
    refine wpAny_bind (wpAny_dictEntries ho hdd ?_)
    refine wpAny_bind (m := setRoomFor D 0) ?_
    unfold setRoomFor
    refine wpAny_bind (wpAny_setState_of (N.get hD) rfl ht.2.2.1 ?_)
    dsimp only
    rw [low_room ht 0 (by decide)]
    refine wpAny_pure ?_
    rw [Std.Legacy.Range.forIn_eq_forIn_range']
    exact wpAny_bind (wpAny_pure (wpAny_pure (h _ F N)))
  · rw [if_pos (by exact hb)]
    exact loop
theorem str_of_is {k : Str} {v : Value} (h : (strKind prog w).is k v = true) : ∃ t, v = .str k t := Value.isStrOf_shape h
theorem get_single {l : List (Str × Value)} {k : Str} {v : Value} {es : Array DictEntry} (hp : Pairs (strKind prog w) es.toList [(k, v)]) (hk : KeysOf (strKind prog w) es) : ∃ e t, es = #[e] ∧ e.key = .str k t ∧ e.hash = (strKind prog w).hash k := by
  have hsz : es.toList.length = 1 := hp.length
  obtain ⟨e, he⟩ := List.length_eq_one_iff.mp hsz
  have hes : es = #[e] := by rw [← Array.toArray_toList (xs := es), he]
  subst hes
  have q := (hp.get? (i := 0) (e := e) (k := k) (v := v) rfl rfl).1
  obtain ⟨t, ht⟩ := str_of_is q
  obtain ⟨k', hk', hh⟩ := hk e (by simp)
  refine ⟨e, t, rfl, ht, ?_⟩
  rw [hh, (strKind prog w).inj _ _ _ hk' q]
theorem newSet_led {Q : Value → Shared → Prop} (h : Q (.ref s.heap.objs.size) { s with heap := s.heap.push { cls := .type "set", dict := none, data := .set #[] 0 (.fresh 0 0 (ledOf w)) } }) : wpAny (model prog w) A (newSet (.type "set")) Q E s := by
  unfold newSet setsByText
  refine wpAny_bind (wpAny_bind (wpAny_askSetting (wpAny_pure ?_)))
  dsimp only
  simp only [newObj]
  exact wpAny_bind (wpAny_alloc (wpAny_pure h))
theorem set_star {K : Frag} {e d : PySem.Expr} {pos p2 : Pos} {env : Env} {Q : Value → Shared → Prop} (F : Fr h₀ L s.heap m) (N : News h₀ L s.heap news) (X : K.In h₀) (hc : kdsCode K env.code = true)
    (h : ∀ (D : Nat) h', Fr h₀ L h' m → News h₀ L h' ((D, { cls := .type "set", dict := none, data := .set #[] 0 (.fresh 0 0 (ledOf w)) }) :: news) → (∀ p ∈ news, p.1 < D) →
      wpAny (model prog w) A (eval e env) (fun v s1 => wpAny (model prog w) A (setAdd D v) (fun _ s2 => wpAny (model prog w) A (eval d env) (fun dv s3 => wpAny (model prog w) A (setDisplayStar D dv) (fun _ s4 => Q (.ref D) s4) E s3) E s2) E s1) E { s with heap := h' })
    (hs : starEach [e, .Starred d p2] env = [(false, eval e env), (true, eval d env)] := by rfl) :
    wpAny (model prog w) A (eval (.Set [e, .Starred d p2] 0 pos) env) Q E s := by
  rw [arm_eval_Set]
  refine wpAny_bind (wpAny_standAt ?_)
  refine wpAny_bind (kds_main (X.keeps F.keep) hc fun b => ?_)
  rw [hs]
  unfold setDisplay
  try dsimp only
  have hr : displayRoad 0 [e, .Starred d p2] = .oneByOne := rfl
  rw [hr, if_neg (by decide)]
  refine wpAny_bind (newSet_led ?_)
  dsimp only
  have h1 := h _ _ (F.push _) (News.push F N { cls := .type "set", dict := none, data := .set #[] 0 (.fresh 0 0 (ledOf w)) } rfl) (fun p hp => Heap.lt_size (N p hp).1)
  refine wpAny_bind (wpAny_holding ?_)
  refine wpAny_bind (m := evalAll [do let v ← eval e env; standAt pos; pure v]) ?_
  show wpAny _ _ ((eval e env >>= fun v => standAt pos >>= fun _ => pure v) >>= fun v => holding [v] (evalAll []) >>= fun r => pure (v :: r)) _ _ _
  refine wpAny_bind (wpAny_bind (wpAny_mono h1 (fun v s1 q1 => ?_) fun _ _ z => z))
  refine wpAny_bind (wpAny_standAt (wpAny_pure ?_))
  refine wpAny_bind (wpAny_holding (wpAny_pure (wpAny_pure ?_)))
  refine wpAny_bind (wpAny_holding (wpAny_bind ?_))
  rw [List.forIn_cons]
  refine wpAny_bind (wpAny_bind (wpAny_mono q1 (fun _ s2 q2 => ?_) fun _ _ z => z))
  refine wpAny_pure ?_
  dsimp only
  rw [List.forIn_nil]
  refine wpAny_pure ?_
  rw [if_neg (by decide)]
  refine wpAny_pure ?_
  show wpAny _ _ (forIn [(true, _)] _ _ >>= _) _ _ _
  rw [List.forIn_cons]
  refine wpAny_bind (wpAny_bind (wpAny_bind (wpAny_bind (wpAny_mono q2 (fun dv s3 q3 => ?_) fun _ _ z => z))))
  refine wpAny_bind (wpAny_standAt (wpAny_pure ?_))
  simp only [↓reduceIte]
  refine wpAny_bind (wpAny_holding (wpAny_mono q3 (fun _ s4 q4 => ?_) fun _ _ z => z))
  refine wpAny_pure ?_
  dsimp only
  rw [List.forIn_nil]
  exact wpAny_pure (wpAny_pure (wpAny_pure q4))
end
end
section
open PySem PySem.Calls PyProof.Rows PySem.W PySem.Spec
theorem slot_sit_next : Slot "set_iterator" "__next__" "set_iterator.__next__" :=
  .of (owner := "set_iterator") (n := "__next__") (by rw [typeLookup_type, builtinLookup_eq_fast]; kernel_rfl) (by decide +kernel) (by decide +kernel) (by decide +kernel)
    (by first | exact .inl (by decide +kernel) | exact .inr (by decide +kernel)) (by rw [isSubtype_type]; kernel_rfl)
theorem entry_sit_next : entryFor table "set_iterator.__next__" = some Builtin.«set_iterator.__next__» := entryFor_of_tree (by kernel_rfl)
theorem args_sit_next (a : Value) : argsOk "set_iterator.__next__" ⟨[a], []⟩ := by unfold argsOk; kernel_rfl
theorem entry_set_it : entryFor table "set.__iter__" = some Builtin.«frozenset.__iter__» :=
  entryFor_alias (id' := "frozenset.__iter__") (by kernel_rfl) rfl (by decide +kernel) (by kernel_rfl)
section
variable {prog : Program} {w : World} {A : Around} {E : Value → Shared → Prop} {s : Shared}
abbrev setIt (D : Addr) (slot i : Nat) : Obj := { cls := .type "set_iterator", data := .fields #[.int slot 0, .int i 0, .ref D, .int 1 0, .int 1 0] }
end
end
section
open PySem PySem.Calls PyProof.Rows PySem.W PySem.Spec

def pairT (prog : Program) (w : World) (x : Str × Tok) : Int × Value := ((strKind prog w).hash x.1, .str x.1 x.2)
def TSet (prog : Program) (w : World) (o : Obj) (ks : List (Str × Tok)) : Prop :=
  ∃ es ep t, o = ({ cls := .type "set", dict := none, data := .set es ep t } : Obj) ∧ t.fits es.size = true ∧ t.led = ledOf w ∧ t.plain = false ∧
    es.toList.Perm (ks.map (pairT prog w)) ∧ (ks.map (·.1)).Nodup

theorem layNew_led (t : SetTable) (es : Array (Int × Value)) (h : Int) (x : Value) : (layNew t es h x).2.1.led = t.led := by
  unfold layNew
  split
  · show (SetTable.orStandIn _ _).led = _
    unfold SetTable.orStandIn
    split <;> rfl
  · rfl
theorem layNew_plain (t : SetTable) (es : Array (Int × Value)) (h : Int) (x : Value) (hp : t.plain = false) : (layNew t es h x).2.1.plain = false := by
  unfold layNew
  split
  · show (SetTable.orStandIn _ _).plain = _
    unfold SetTable.orStandIn
    split
    · exact hp
    · rfl
  · rfl
theorem wpAny_choose {M : Model} {A : Around} {E : Value → Shared → Prop} {s : Shared} {src : Source} {n : Nat} {Q : Nat → Shared → Prop} (hn : 0 < n)
    (h : ∀ i d, i < n → Q i { s with drawn := d }) : wpAny M A (choose src n) Q E s := by
  intro Γ p hΓ
  show Sem.wp M Γ (.choose src n .pure) _ _ p s
  rw [Sem.wp_choose]
  exact ⟨Nat.ne_of_gt hn, h _ _ (Nat.mod_lt _ hn)⟩
theorem wpAny_drawOrder {α : Type} {M : Model} {A : Around} {E : Value → Shared → Prop} : ∀ (n : Nat) (l : List α) {s : Shared} {Q : List α → Shared → Prop}, l.length ≤ n →
    (∀ l' d, l'.Perm l → Q l' { s with drawn := d }) → wpAny M A (drawOrder n l) Q E s
  | 0, l, s, Q, hl, h => by
    have : l = [] := List.length_eq_zero_iff.mp (by lia)
    subst this
    exact wpAny_pure (h [] s.drawn .rfl)
  | n + 1, [], s, Q, hl, h => wpAny_pure (h [] s.drawn .rfl)
  | n + 1, a :: l, s, Q, hl, h => by
    unfold drawOrder
    refine wpAny_bind (wpAny_choose (by simp) fun i d hi => ?_)
    rw [List.getElem?_eq_getElem hi]
    refine wpAny_bind (wpAny_drawOrder n ((a :: l).eraseIdx i) (by rw [List.length_eraseIdx]; simp only [hi, if_true]; simp only [List.length_cons] at *; lia) fun l' d' hp => ?_)
    refine wpAny_pure (h _ _ ?_)
    have hp2 := List.Perm.cons ((a :: l)[i]) hp
    refine hp2.trans ?_
    rw [List.eraseIdx_eq_take_drop_succ]
    have e : a :: l = (a :: l).take i ++ (a :: l)[i] :: (a :: l).drop (i + 1) := by rw [← List.drop_eq_getElem_cons hi, List.take_append_drop]
    exact List.perm_middle.symm.trans (List.Perm.of_eq e.symm)
theorem pick_go {α : Type} (f : Nat → Nat) : ∀ (fuel k : Nat) (l : List α) (out : Array α), l.length ≤ fuel → (pickOrder.go f fuel k l out).toList.Perm (out.toList ++ l)
  | 0, k, l, out, hl => by
    have : l = [] := List.length_eq_zero_iff.mp (by lia)
    subst this
    simp [pickOrder.go]
  | fuel + 1, k, [], out, hl => by
    have : pickOrder.go f (fuel + 1) k [] out = out := by simp [pickOrder.go]
    rw [this]; simp
  | fuel + 1, k, a :: l, out, hl => by
    have hi : f k % (a :: l).length < (a :: l).length := Nat.mod_lt _ (by simp)
    have e0 : pickOrder.go f (fuel + 1) k (a :: l) out = pickOrder.go f fuel (k + 1) ((a :: l).eraseIdx (f k % (a :: l).length)) (out.push ((a :: l)[f k % (a :: l).length])) := by
      show (match (a :: l)[f k % (a :: l).length]? with | some x => _ | none => _) = _
      rw [List.getElem?_eq_getElem hi]
    rw [e0]
    refine (pick_go f fuel (k + 1) _ _ (by rw [List.length_eraseIdx]; simp only [hi, if_true]; simp only [List.length_cons] at *; lia)).trans ?_
    rw [Array.toList_push, List.append_assoc]
    refine List.Perm.append_left _ ?_
    rw [List.eraseIdx_eq_take_drop_succ]
    have e : a :: l = (a :: l).take (f k % (a :: l).length) ++ (a :: l)[f k % (a :: l).length] :: (a :: l).drop (f k % (a :: l).length + 1) := by rw [← List.drop_eq_getElem_cons hi, List.take_append_drop]
    exact List.Perm.trans (List.perm_middle (l₁ := (a :: l).take (f k % (a :: l).length))).symm (List.Perm.of_eq e.symm)
theorem pick_perm {α : Type} (f : Nat → Nat) (xs : Array α) : (pickOrder f xs).toList.Perm xs.toList := by
  unfold pickOrder
  have := pick_go f xs.size 0 xs.toList #[] (by simp)
  simpa using this

theorem laid_led {mask finger moves : Nat} {led plain : Bool} {hs : Array Int} {r : SetTable × Array Nat} (h : SetTable.laid mask finger moves led plain hs = some r) : r.1.led = led ∧ r.1.plain = plain := by
  unfold SetTable.laid at h
  cases q : SetTable.layClean mask hs with
  | none => rw [q] at h; cases h
  | some o => rw [q] at h; cases h; exact ⟨rfl, rfl⟩
theorem relayAll_led (t : SetTable) (es : Array (Int × Value)) (n : Nat) : (relayAll t es n).2.1.led = t.led := by
  unfold relayAll
  split
  · rename_i t' order h
    have q := laid_led h
    dsimp only
    split <;> first | exact q.1 | rfl
  · rfl
theorem relayAll_plain (t : SetTable) (es : Array (Int × Value)) (n : Nat) (hp : t.plain = false) : (relayAll t es n).2.1.plain = false := by
  unfold relayAll
  split
  · rename_i t' order h
    have q := laid_led h
    dsimp only
    split <;> first | exact q.2.trans hp | rfl
  · rfl
section
variable {prog : Program} {w : World} {A : Around} {E : Value → Shared → Prop} {s : Shared} {h₀ : Heap} {L : Addr} {m : Str → Option Value} {news : List (Addr × Obj)} {g : Obj → List (Addr × Obj)} {o : Obj} {ks : List (Str × Tok)}
theorem elems_of {es : Array (Int × Value)} (hp : es.toList.Perm (ks.map (pairT prog w))) : ElemsOf (strKind prog w) es.toList := fun e he => by
  obtain ⟨x, _, rfl⟩ := List.mem_map.mp (hp.mem_iff.mp he)
  exact ⟨⟨x.1, strKind_is _ _ _ _, rfl⟩, rfl⟩
theorem size_of {es : Array (Int × Value)} (hp : es.toList.Perm (ks.map (pairT prog w))) : es.size = ks.length := by
  have := hp.length_eq
  simpa using this
theorem tset_addHashed {D : Addr} {x : Str} {tx : Tok} {Q : Bool → Shared → Prop} (F : Fr h₀ L s.heap m) (N : News h₀ L s.heap news) (U : UpdF D o news g) (hs : TSet prog w o ks) (hx : x ∉ ks.map (·.1)) (hb : ks.length < 1000)
    (h : ∀ h' o', Fr h₀ L h' m → News h₀ L h' (g o') → TSet prog w o' ((x, tx) :: ks) → Q true { s with heap := h' }) :
    wpAny (model prog w) A (setAddHashed D (.str x tx) ((strKind prog w).hash x)) Q E s := by
  obtain ⟨pre, post, rfl, hg, a, b⟩ := U.split
  obtain ⟨es, ep, t, rfl, hf, hl, hpl, hp, hn⟩ := hs
  have hm := N (D, _) (List.mem_append_right _ (.head _))
  have ho := hm.1
  have hkey : (strKind prog w).is x (.str x tx) = true := strKind_is _ _ _ _
  have hel := elems_of hp
  have hsz := size_of hp
  have hsc : es.size < scanBound := by rw [hsz]; have : scanBound = 4096 := rfl; lia
  have hno : es.toList.findIdx? (fun e => (strKind prog w).is x e.2) = none := by
    rw [List.findIdx?_eq_none_iff]
    intro e he
    obtain ⟨y, hy, rfl⟩ := List.mem_map.mp (hp.mem_iff.mp he)
    cases q : (strKind prog w).is x (pairT prog w y).2 with
    | false => rfl
    | true =>
      exfalso
      apply hx
      obtain ⟨_, q'⟩ := str_of_is q
      have : y.1 = x := by injection q'
      exact this ▸ List.mem_map_of_mem hy
  unfold setAddHashed setAddHashedIn
  refine wpAny_holding (wpAny_bind (wpAny_setState_of ho rfl hf ?_))
  dsimp only
  rw [byScan_of rfl hsc hel]
  simp only [↓reduceIte]
  unfold setAddByScan
  refine wpAny_bind ?_
  refine wpAny_bind (wpAny_rule ?_)
  refine wpAny_bind (wpAny_setScan_of hkey ho rfl hf hel ?_)
  rw [hno]
  dsimp only
  have hperm := layNew_perm t es ((strKind prog w).hash x) (.str x tx)
  have hfits := layNew_fits t es ((strKind prog w).hash x) (.str x tx)
  have hled := layNew_led t es ((strKind prog w).hash x) (.str x tx)
  have hplain := layNew_plain t es ((strKind prog w).hash x) (.str x tx) hpl
  generalize hL : layNew t es ((strKind prog w).hash x) (.str x tx) = Ln at hperm hfits hled hplain ⊢
  obtain ⟨es1, t1, wasDummy, gave⟩ := Ln
  dsimp only at hperm hfits hled hplain ⊢
  have hgw : ∀ (b : Bool) {s₁ : Shared} {Q' : Unit → Shared → Prop}, Q' () s₁ → wpAny (model prog w) A (match b with | true => rule "set.scan.the-table-gave-way" | false => pure ()) Q' E s₁ :=
    fun b s₁ Q' hq => by cases b <;> first | exact wpAny_pure hq | exact wpAny_rule hq
  have hp1 : es1.toList.Perm (((x, tx) :: ks).map (pairT prog w)) := by
    refine hperm.trans ?_
    rw [Array.toList_push, List.map_cons]
    exact (List.perm_append_comm (l₂ := [_])).trans (List.Perm.cons _ hp)
  have hz1 : es1.size ≤ sizeLine := by rw [size_of hp1, sizeLine_eq]; simp only [List.length_cons]; lia
  have hn1 : (((x, tx) :: ks).map (·.1)).Nodup := List.nodup_cons.mpr ⟨hx, hn⟩
  have fin : ∀ (h' : Heap) (es' : Array (Int × Value)) (ep' : Nat) (t' : SetTable), Heap.SameBut D s.heap h' → h'.get? D = some { cls := .type "set", dict := none, data := .set es' ep' t' } → t'.fits es'.size = true → t'.led = ledOf w → t'.plain = false →
      es'.toList.Perm (((x, tx) :: ks).map (pairT prog w)) → Q true { s with heap := h' } := fun h' es' ep' t' hsb hg' c1 c2 c3 c4 =>
    h h' _ (F.change hsb hm.2.1 hm.2.2) (hg _ ▸ N.setIn a b hsb hg') ⟨es', ep', t', rfl, c1, c2, c3, c4, hn1⟩
  refine wpAny_bind (hgw _ ?_)
  rw [if_neg (by rw [hplain]; decide)]
  refine wpAny_bind (wpAny_pure ?_)
  rw [if_pos rfl]
  have g1 : (s.heap.update D (Obj.putSet es1 t1)).get? D = some { cls := .type "set", dict := none, data := .set es1 (ep + 1) t1 } := by
    have q := Heap.get?_update_self (Obj.putSet es1 t1) ho (by rw [putSet_of (ep := ep) _ _ rfl]; rfl)
    rw [putSet_of (ep := ep) _ _ rfl] at q
    exact q
  have sb1 := Heap.SameBut.update s.heap D (Obj.putSet es1 t1)
  refine wpAny_bind (wpAny_storeSet_of ho rfl ?_ hz1)
  split
  · have hpr := relayAll_perm t1 es1 (SetTable.grown es1.size)
    have hfr := relayAll_fits t1 es1 (SetTable.grown es1.size)
    have hlr := relayAll_led t1 es1 (SetTable.grown es1.size)
    have hpl1 := relayAll_plain t1 es1 (SetTable.grown es1.size) hplain
    generalize hRl : relayAll t1 es1 (SetTable.grown es1.size) = Rl at hpr hfr hlr hpl1 ⊢
    obtain ⟨es2, t3, gave2⟩ := Rl
    dsimp only at hpr hfr hlr hpl1 ⊢
    refine wpAny_bind (hgw _ ?_)
    have hp2 := hpr.trans hp1
    have g2 : ((s.heap.update D (Obj.putSet es1 t1)).update D (Obj.putSet es2 t3)).get? D = some { cls := .type "set", dict := none, data := .set es2 (ep + 1 + 1) t3 } := by
      have q := Heap.get?_update_self (Obj.putSet es2 t3) g1 (by rw [putSet_of (ep := ep + 1) _ _ rfl]; rfl)
      rw [putSet_of (ep := ep + 1) _ _ rfl] at q
      exact q
    refine wpAny_bind (wpAny_storeSet_of g1 rfl ?_ (by rw [size_of hp2, sizeLine_eq]; simp only [List.length_cons]; lia))
    exact wpAny_pure (wpAny_pure (fin _ es2 _ t3 (sb1.trans (Heap.SameBut.update _ D _)) g2 hfr (hlr.trans (hled.trans hl)) hpl1 hp2))
  · exact wpAny_pure (wpAny_pure (fin _ es1 _ t1 sb1 g1 hfits (hled.trans hl) hplain hp1))
theorem tset_add {D : Addr} {x : Str} {tx : Tok} {Q : Bool → Shared → Prop} (F : Fr h₀ L s.heap m) (N : News h₀ L s.heap news) (U : UpdF D o news g) (hs : TSet prog w o ks) (hx : x ∉ ks.map (·.1)) (hb : ks.length < 1000)
    (h : ∀ h' o' tk', Fr h₀ L h' m → News h₀ L h' (g o') → TSet prog w o' ((x, tx) :: ks) → Q true { s with heap := h', toks := tk' }) :
    wpAny (model prog w) A (setAdd D (.str x tx)) Q E s := by
  unfold setAdd
  refine wpAny_holding (wpAny_bind ((strKind prog w).pyHash (strKind_is _ _ _ _) ?_))
  exact tset_addHashed F N U hs hx hb fun h' o' F' N' hs' => h h' o' _ F' N' hs'
theorem tset_one {x : Str} {tx : Tok} {t : SetTable} (ht : LowT (ledOf w) t)   : TSet prog w (oneSet ((strKind prog w).hash x) (.str x tx) t) [(x, tx)] :=
  ⟨_, _, t, rfl, ht.2.2.1, ht.2.2.2.1, ht.2.2.2.2, .rfl, by simp⟩
theorem star1T {D at_ : Addr} {oA : Obj} {x k : Str} {tx : Tok} {v : Value} {t : SetTable} {Q : Unit → Shared → Prop} (F : Fr h₀ L s.heap m) (N : News h₀ L s.heap news) (hh : A.handled = none)
    (hA : (at_, oA) ∈ news) (hd : oA.IsDictOf (strKind prog w) [(k, v)]) (hsm : (at_ == sysModules) = false) (hne : at_ ≠ D) (hxk : k ≠ x)
    (U : UpdF D (oneSet ((strKind prog w).hash x) (.str x tx) t) news g) (ht : LowT (ledOf w) t)
    (h : ∀ h' so' tk' t9, Fr h₀ L h' m → News h₀ L h' (g so') → TSet prog w so' [(k, t9), (x, tx)] → Q () { s with heap := h', toks := tk' }) :
    wpAny (model prog w) A (setDisplayStar D (.ref at_)) Q E s := by
  have hd' := hd
  obtain ⟨es, ep, hx, hdd, hkk, hp, hnn⟩ := hd'
  have hc : oA.cls = .type "dict" := hx.1
  have ho := N.get hA
  have hT : s.TypeIs (.ref at_) "dict" := ⟨_, ho, hc⟩
  have U' := U
  obtain ⟨pre, post, rfl, hg, a, b⟩ := U'.split
  have hm := N (D, _) (List.mem_append_right _ (.head _))
  obtain ⟨e, tk, rfl, ek, eh⟩ := get_single (l := []) hp hkk
  have hso := tset_one (prog := prog) (w := w) (x := x) (tx := tx) ht
  have hS1 : k ∉ ([(x, tx)] : List (Str × Tok)).map (·.1) := by simpa using hxk
  unfold setDisplayStar
  dsimp only
  refine wpAny_bind (wpAny_isInstance hT sub_dict_set ?_)
  simp only [Bool.false_eq_true, if_false]
  refine wpAny_bind (wpAny_isInstance hT sub_dict_fset ?_)
  refine wpAny_bind (wpAny_askSetting ?_)
  cases hb : (w.params.followText "set-display-star-reads-storage")
  · rw [if_neg (by rw [show ({ program := (model prog w).prog, params := (model prog w).w.params } : Setting).params = w.params from rfl, hb]; exact Bool.false_ne_true)]
    dsimp only
    rw [if_neg Bool.false_ne_true]
    refine wpAny_bind (wpAny_typeOf hT ?_)
    rw [if_pos (by decide)]
    refine wpAny_bind (wpAny_rule ?_)
    rw [if_neg (by rw [hsm]; exact Bool.false_ne_true)]
    refine wpAny_bind (wpAny_dictEpoch ho hdd ?_)
    refine wpAny_bind (wpAny_dictEntries ho hdd ?_)
    refine wpAny_bind (m := setRoomFor D 1) ?_
    unfold setRoomFor
    refine wpAny_bind (wpAny_setState_of hm.1 rfl ht.2.2.1 ?_)
    dsimp only
    rw [low_room ht 1 (by decide)]
    refine wpAny_pure ?_
    rw [Std.Legacy.Range.forIn_eq_forIn_range']
    have hr : ([:(#[e] : Array DictEntry).size] : Std.Legacy.Range).size = 1 := by simp [Std.Legacy.Range.size]
    rw [hr]
    show wpAny _ _ (forIn [0] _ _ >>= _) _ _ _
    rw [List.forIn_cons]
    refine wpAny_bind (wpAny_bind (wpAny_bind (wpAny_dictEntries ho hdd ?_)))
    show wpAny _ _ (holding [e.key] (setAddHashed D e.key e.hash >>= fun _ => pure PUnit.unit) >>= _) _ _ _
    rw [ek, eh]
    refine wpAny_bind (wpAny_holding (wpAny_bind ?_))
    refine tset_addHashed F N U hso hS1 (by simp) fun h' so' F' N' hs' => ?_
    refine wpAny_pure ?_
    have hA2 : (at_, oA) ∈ g so' := by
      rw [hg]
      rcases List.mem_append.mp hA with q | q
      · exact List.mem_append_left _ q
      · rcases List.mem_cons.mp q with q | q
        · exact absurd (congrArg Prod.fst q) hne
        · exact List.mem_append_right _ (.tail _ q)
    refine wpAny_bind (wpAny_dictEpoch (N'.get hA2) hdd ?_)
    rw [if_neg (by simp)]
    refine wpAny_pure ?_
    dsimp only
    rw [List.forIn_nil]
    refine wpAny_pure (wpAny_pure ?_)
    exact h h' so' _ tk F' N' hs'
  · rw [if_pos (by exact hb)]
    obtain ⟨ep, hmm⟩ := dictAt_of ho hd
    obtain ⟨om, em, e1, e2, e3, e4, e5, e6⟩ := id hmm
    refine wpAny_bind (wpAny_pyIter_dict hsm hmm ?_)
    refine wpAny_bind (wpAny_runValue ?_)
    refine codeAny_builtin PyProof.Rows.F.entry_set_update_loop ?_
    rw [Around.under_plainId PyProof.Rows.F.plain_set_update_loop]
    show wpAny _ _ (pyNext (.ref s.heap.objs.size) >>= _) _ _ _
    refine wpAny_bind (wpAny_pyNext_dict_item (d := at_) (i := 0) (ep := ep) (kvs := [(k, v)]) (k := k) (v := v) (knd := strKind prog w) ⟨_, Heap.get?_push_size _ rfl, rfl, rfl⟩ ⟨om, em, Heap.get?_push_of_some _ e1, e2, e3, e4, e5, e6⟩ rfl fun key h' hkey hit hsb => ?_)
    obtain ⟨t9, rfl⟩ := str_of_is hkey
    have hI := kdx_fresh F (Nat.le_refl s.heap.objs.size)
    have nI : ∀ p ∈ pre ++ (D, oneSet ((strKind prog w).hash x) (.str x tx) t) :: post, p.1 ≠ s.heap.objs.size := fun p hp => Nat.ne_of_lt (Heap.lt_size (N p hp).1)
    have F1 : Fr h₀ L h' m := fr_ext (F.push _) hI hsb.extBut
    have N1 : News h₀ L h' (pre ++ (D, oneSet ((strKind prog w).hash x) (.str x tx) t) :: post) := news_ext (news_push0 N) nI hsb.extBut
    obtain ⟨io, hio, c1, c2⟩ := hit
    have N2 : News h₀ L h' ((s.heap.objs.size, io) :: (pre ++ (D, oneSet ((strKind prog w).hash x) (.str x tx) t) :: post)) := fun p hp => by
      rcases List.mem_cons.mp hp with rfl | hp
      · exact ⟨hio, hI⟩
      · exact N1 p hp
    show wpAny _ _ (holding [_] (setAdd D (.str k t9)) >>= _) _ _ _
    refine wpAny_bind (wpAny_holding ?_)
    refine tset_add F1 N2 (UpdF.tail (p := (s.heap.objs.size, io)) (Ne.symm (nI _ (List.mem_append_right _ (.head _)))) U) hso hS1 (by simp) fun h2 so' tk9 F2 N3 hso2 => ?_
    have hA2 : (at_, oA) ∈ (s.heap.objs.size, io) :: g so' := by
      rw [hg]
      refine .tail _ ?_
      rcases List.mem_append.mp hA with q | q
      · exact List.mem_append_left _ q
      · rcases List.mem_cons.mp q with q | q
        · exact absurd (congrArg Prod.fst q) hne
        · exact List.mem_append_right _ (.tail _ q)
    refine wpAny_pure ⟨plainId_quiet PyProof.Rows.F.plain_set_update_loop _, codeAny_builtin PyProof.Rows.F.entry_set_update_loop ?_⟩
    rw [Around.under_plainId PyProof.Rows.F.plain_set_update_loop]
    show wpAny _ _ (pyNext (.ref s.heap.objs.size) >>= _) _ _ _
    refine wpAny_bind (wpAny_pyNext_dict_end (d := at_) (i := 1) (ep := ep) (kvs := [(k, v)]) (knd := strKind prog w) hh ⟨io, N3.get (.head _), c1, c2⟩ ⟨om, em, ?_, e2, e3, e4, e5, e6⟩ rfl fun h3 hx3 => ?_)
    · rw [ho] at e1
      cases e1
      exact N3.get hA2
    · refine wpAny_pure ?_
      have N4 : News h₀ L h2 (g so') := newsSub N3 fun p hp => .tail _ hp
      have nI2 : ∀ p ∈ g so', p.1 ≠ s.heap.objs.size := fun p hp => by
        rw [hg] at hp
        rcases List.mem_append.mp hp with q | q
        · exact nI p (List.mem_append_left _ q)
        · rcases List.mem_cons.mp q with q | q
          · subst q; exact nI (D, oneSet ((strKind prog w).hash x) (.str x tx) t) (List.mem_append_right _ (.head _))
          · exact nI p (List.mem_append_right _ (.tail _ q))
      exact wpAny_pure (h h3 so' _ _ (fr_ext F2 hI hx3) (news_ext N4 nI2 hx3) hso2)
end
end
section
open PySem PySem.Calls PyProof.Rows PySem.W PySem.Spec
theorem slot_sit_iter : Slot "set_iterator" "__iter__" "set_iterator.__iter__" :=
  .of (owner := "set_iterator") (n := "__iter__") (by rw [typeLookup_type, builtinLookup_eq_fast]; kernel_rfl) (by decide +kernel) (by decide +kernel) (by decide +kernel)
    (by first | exact .inl (by decide +kernel) | exact .inr (by decide +kernel)) (by rw [isSubtype_type]; kernel_rfl)
theorem entry_sit_iter : entryFor table "set_iterator.__iter__" = some Builtin.«dict_keyiterator.__iter__» :=
  entryFor_alias (id' := "dict_keyiterator.__iter__") (by kernel_rfl) rfl (by decide +kernel) (by kernel_rfl)
theorem args_sit_iter (a : Value) : argsOk "set_iterator.__iter__" ⟨[a], []⟩ := by unfold argsOk; kernel_rfl
abbrev sitObj (first : Value) (i : Nat) (D : Addr) (n ep : Nat) : Obj := { cls := .type "set_iterator", data := .fields #[first, .int i 0, .ref D, .int n 0, .int ep 0] }
section
variable {prog : Program} {w : World} {A : Around} {E : Value → Shared → Prop} {s : Shared}
theorem sit_self {I : Addr} {f : Value} {i : Nat} {D : Addr} {n ep : Nat} {Q : Value → Shared → Prop} (ho : s.heap.get? I = some (sitObj f i D n ep)) (h : Q (.ref I) s) : wpAny (model prog w) A (pyIter (.ref I)) Q E s := by
  have hT : s.TypeIs (.ref I) "set_iterator" := ⟨_, ho, rfl⟩
  refine wpAny_pyIter_slot hT slot_sit_iter (wpAny_call_entry slot_sit_iter hT entry_sit_iter ?_ (args_sit_iter _))
  show wpAny _ _ (ret (.ref I)) _ _ s
  exact wpAny_pure ⟨_, rfl, "set_iterator", _, hT, slot_sit_next.lookup, h⟩
abbrev setObj (es : Array (Int × Value)) (ep : Nat) (t : SetTable) : Obj := { cls := .type "set", dict := none, data := .set es ep t }
theorem upd_field {h : Heap} {I : Addr} {vs : Array Value} {c : Value} {i : Nat} {x : Value} (ho : h.get? I = some { cls := c, data := .fields vs }) :
    (h.update I (Obj.mapFields (·.setIfInBounds i x))).get? I = some { cls := c, data := .fields (vs.setIfInBounds i x) } := by
  rw [Heap.get?_update_self _ ho rfl]
  rfl
theorem sit_head {I D : Addr} {first : Value} {i n ep : Nat} {es : Array (Int × Value)} {t : SetTable} {Q : Option Value → Shared → Prop}
    (ho : s.heap.get? I = some (sitObj first i D n ep)) (hD : s.heap.get? D = some (setObj es ep t)) (hf : t.fits es.size = true) (hn : es.size = n)
    (h : wpAny (model prog w) A.in1 (if let .int slot _ := first then do
        match ← setNext D slot.toNat (i : Int).toNat (ep : Int).toNat with
        | some (x, next) =>
          setField (.ref I) 0 (rawInt next)
          setField (.ref I) 1 (rawInt ((i : Int) + 1))
          ret x
        | none => setField (.ref I) 2 .none; raiseNew (← newExc (.type "StopIteration") [])
      else do
        let some places ← seqItems? first | unsupported "internal:set_iterator"
        match places[(i : Int).toNat]? with
        | some (.int place _) =>
          let x ← setNextDrawn D place.toNat (ep : Int).toNat
          setField (.ref I) 1 (rawInt ((i : Int) + 1))
          ret x
        | some _ => unsupported "internal:set_iterator"
        | none => setField (.ref I) 0 (rawInt 0); setField (.ref I) 2 .none; raiseNew (← newExc (.type "StopIteration") []))
      (fun fin s' => ∃ v, fin = .done (.ret v) ∧ Q (some v) s') (fun e s' => wpAny (model prog w) A (isInstance e (.type "StopIteration")) (fun b s'' => b = true ∧ Q none s'') E s') s) :
    wpAny (model prog w) A (pyNext (.ref I)) Q E s := by
  have hT : s.TypeIs (.ref I) "set_iterator" := ⟨_, ho, rfl⟩
  unfold pyNext
  refine wpAny_bind (wpAny_attempt (wpAny_callSpecial?_slot (name := Str.ofString "__next__") hT slot_sit_next (wpAny_call_entry slot_sit_next hT entry_sit_next ?_ (args_sit_next _))))
  unfold Builtin.«set_iterator.__next__»
  refine wpAny_bind (wpAny_pure ?_)
  refine wpAny_bind (wpAny_fieldsOf ho rfl ?_)
  dsimp only
  refine wpAny_bind (wpAny_setEntries_of hD rfl hf ?_)
  rw [if_neg (by rw [hn]; simp)]
  refine wpAny_mono h (fun fin s' hq => ?_) fun e s' hq => ?_
  · obtain ⟨v, rfl, q⟩ := hq
    exact ⟨v, rfl, wpAny_pure q⟩
  · refine wpAny_bind (wpAny_mono hq (fun b s'' hb => ?_) fun _ _ x => x)
    obtain ⟨rfl, q⟩ := hb
    exact wpAny_pure q
theorem stop_end {A' : Around} {P : PySem.Fin → Shared → Prop} {Q : Option Value → Shared → Prop} (hh : A.handled = none) (h : ∀ h', (∀ b o, s.heap.get? b = some o → h'.get? b = some o) → Q none { s with heap := h' }) :
    wpAny (model prog w) A (newExc (.type "StopIteration") [] >>= fun e => (raiseNew e : Sem PySem.Fin)) P (fun e s' => wpAny (model prog w) A' (isInstance e (.type "StopIteration")) (fun b s'' => b = true ∧ Q none s'') E s') s := by
  refine wpAny_bind ?_
  simp only [newExc, newTuple]
  refine wpAny_bind (wpAny_newObj_type ?_ (by size_fits))
  refine wpAny_bind (m := firstArgMember _ _) (wpAny_of_eq (a := Value.none) (by first | rfl | (simp only [firstArgMember]; rfl)) ?_)
  refine wpAny_newObj_type ?_ (by size_fits)
  simp only [raiseNew]
  refine wpAny_bind (wpAny_handled ?_)
  rw [hh]
  refine wpAny_bind (wpAny_pure (wpAny_throw ?_))
  refine wpAny_isInstance (T := "StopIteration") (b := true) ⟨_, Heap.get?_push_size _ rfl, rfl⟩ isSubtype_stop ?_
  exact ⟨rfl, h _ fun b o e => Heap.get?_push_of_some _ (Heap.get?_push_of_some _ e)⟩
def StD (D : Addr) (es : Array (Int × Value)) (ep : Nat) (t : SetTable) (I TP : Addr) (pl : List Nat) (i : Nat) (h : Heap) : Prop :=
  h.get? D = some (setObj es ep t) ∧ h.get? I = some (sitObj (.ref TP) i D es.size ep) ∧ h.get? TP = some { cls := .type "tuple", data := .seq (pl.map fun (j : Nat) => rawInt j).toArray }
theorem walksD {D I TP : Addr} {es : Array (Int × Value)} {ep : Nat} {t : SetTable} {pl : List Nat} (hh : A.handled = none) (hf : t.fits es.size = true) (hp : pl.Perm (List.range es.size)) (hDI : D ≠ I) (hTI : TP ≠ I) :
    Walks prog w A I [I, D, TP] [I] pl.length (fun i v => (pl.map fun j => (es.getD j (0, .none)).2)[i]? = some v) (StD D es ep t I TP pl) where
  sub := fun b hb => by simp at hb; simp [hb]
  frame := fun i h h' st hk => ⟨hk _ (by simp) _ st.1, hk _ (by simp) _ st.2.1, hk _ (by simp) _ st.2.2⟩
  self := fun _ _ _ _ st hQ => sit_self st.2.1 hQ
  item := fun i s Q E hi st hQ => by
    have hj : pl[i] < es.size := by
      have := hp.mem_iff.mp (List.getElem_mem hi)
      simpa using this
    refine sit_head st.2.1 st.1 hf rfl ?_
    dsimp only
    refine wpAny_bind (m := seqItems? (.ref TP)) ?_
    unfold seqItems?
    refine wpAny_bind (wpAny_load st.2.2 (wpAny_pure ?_))
    dsimp only
    rw [Int.toNat_natCast]
    have e1 : ((pl.map fun (j : Nat) => rawInt j).toArray)[i]? = some (.int (pl[i] : Nat) 0) := by simp [hi, rawInt]
    rw [e1]
    dsimp only
    refine wpAny_bind (m := setNextDrawn _ _ _) ?_
    unfold setNextDrawn
    refine wpAny_bind (wpAny_setState_of st.1 rfl hf ?_)
    dsimp only
    rw [Int.toNat_natCast, Int.toNat_natCast, if_neg (by simp), Array.getElem?_eq_getElem hj]
    refine wpAny_pure ?_
    refine wpAny_bind (wpAny_setField st.2.1 rfl (by simp) ?_)
    have u := upd_field (i := 1) (x := rawInt ((i : Int) + 1)) st.2.1
    have sb := Heap.SameBut.update s.heap I (Obj.mapFields (·.setIfInBounds 1 (rawInt ((i : Int) + 1))))
    refine wpAny_pure ⟨_, rfl, hQ _ _ s.toks ?_ ⟨(sb.2 _ hDI).trans st.1, u, (sb.2 _ hTI).trans st.2.2⟩ fun b o hb e => (sb.2 b (by simpa using hb)).trans e⟩
    simp [hi, hj]
  done := fun s Q E st hQ => by
    refine sit_head st.2.1 st.1 hf rfl ?_
    dsimp only
    refine wpAny_bind (m := seqItems? (.ref TP)) ?_
    unfold seqItems?
    refine wpAny_bind (wpAny_load st.2.2 (wpAny_pure ?_))
    dsimp only
    rw [Int.toNat_natCast]
    have e1 : ((pl.map fun (j : Nat) => rawInt j).toArray)[pl.length]? = none := by simp
    rw [e1]
    dsimp only
    refine wpAny_bind (wpAny_setField st.2.1 rfl (by simp) ?_)
    have u := upd_field (i := 0) (x := rawInt 0) st.2.1
    have sb := Heap.SameBut.update s.heap I (Obj.mapFields (·.setIfInBounds 0 (rawInt 0)))
    refine wpAny_bind (wpAny_setField u rfl (by simp) ?_)
    have sb2 := Heap.SameBut.update (s.heap.update I (Obj.mapFields (·.setIfInBounds 0 (rawInt 0)))) I (Obj.mapFields (·.setIfInBounds 2 Value.none))
    exact stop_end hh fun h' k => hQ h' s.toks fun b o hb e => k _ _ ((sb2.2 b (by simpa using hb)).trans ((sb.2 b (by simpa using hb)).trans e))
def StT (w : World) (D : Addr) (es : Array (Int × Value)) (ep : Nat) (t : SetTable) (I : Addr) (i : Nat) (h : Heap) : Prop :=
  h.get? D = some (setObj es ep t) ∧ h.get? I = some (sitObj (.int (0 : Nat) 0) i D es.size ep)
theorem walksT {D I : Addr} {es : Array (Int × Value)} {ep : Nat} {t : SetTable} (hh : A.handled = none) (hf : t.fits es.size = true) (hb : w.params.followText "set-order" = true) (hDI : D ≠ I) :
    Walks prog w A I [I, D] [I] es.size (fun i v => ((pickOrder (w.params.setOrder D ep) es).toList.map (·.2))[i]? = some v) (StT w D es ep t I) where
  sub := fun b hb => by simp at hb; simp [hb]
  frame := fun i h h' st hk => ⟨hk _ (by simp) _ st.1, hk _ (by simp) _ st.2⟩
  self := fun _ _ _ _ st hQ => sit_self st.2 hQ
  item := fun i s Q E hi st hQ => by
    have hsz : (pickOrder (w.params.setOrder D ep) es).size = es.size := by
      have := (pick_perm (w.params.setOrder D ep) es).length_eq
      simpa using this
    refine sit_head st.2 st.1 hf rfl ?_
    dsimp only
    refine wpAny_bind (m := setNext _ _ _ _) ?_
    unfold setNext
    refine wpAny_bind (wpAny_setState_of st.1 rfl hf ?_)
    dsimp only
    refine wpAny_bind (m := setsByText) ?_
    unfold setsByText
    refine wpAny_bind (wpAny_askSetting (wpAny_pure ?_))
    rw [if_pos (by exact hb), Int.toNat_natCast, Int.toNat_natCast, if_neg (by simp)]
    refine wpAny_bind (m := setWalk D) ?_
    unfold setWalk
    refine wpAny_bind (wpAny_setState_of st.1 rfl hf ?_)
    dsimp only
    refine wpAny_bind (m := setsByText) ?_
    unfold setsByText
    refine wpAny_bind (wpAny_askSetting (wpAny_pure ?_))
    rw [if_pos (by exact hb)]
    refine wpAny_bind (wpAny_askSetting (wpAny_pure ?_))
    have hi' : i < (pickOrder (w.params.setOrder D ep) es).size := by rw [hsz]; exact hi
    refine wpAny_pure ?_
    show wpAny _ _ (match ((pickOrder (w.params.setOrder D ep) es)[i]?).map fun e => (e.2, (Int.toNat ((0 : Nat) : Int))) with | some (x, next) => _ | none => _) _ _ s
    rw [Array.getElem?_eq_getElem hi']
    dsimp only [Option.map]
    refine wpAny_bind (wpAny_setField st.2 rfl (by simp) ?_)
    have u := upd_field (i := 0) (x := rawInt (Int.toNat ((0 : Nat) : Int))) st.2
    have sb := Heap.SameBut.update s.heap I (Obj.mapFields (·.setIfInBounds 0 (rawInt (Int.toNat ((0 : Nat) : Int)))))
    refine wpAny_bind (wpAny_setField u rfl (by simp) ?_)
    have u2 := upd_field (i := 1) (x := rawInt ((i : Int) + 1)) u
    have sb2 := Heap.SameBut.update (s.heap.update I (Obj.mapFields (·.setIfInBounds 0 (rawInt (Int.toNat ((0 : Nat) : Int)))))) I (Obj.mapFields (·.setIfInBounds 1 (rawInt ((i : Int) + 1))))
    refine wpAny_pure ⟨_, rfl, hQ _ _ s.toks ?_ ⟨(sb2.2 _ hDI).trans ((sb.2 _ hDI).trans st.1), u2⟩ fun b o hb e => (sb2.2 b (by simpa using hb)).trans ((sb.2 b (by simpa using hb)).trans e)⟩
    simp [hi']
  done := fun s Q E st hQ => by
    have hsz : (pickOrder (w.params.setOrder D ep) es).size = es.size := by
      have := (pick_perm (w.params.setOrder D ep) es).length_eq
      simpa using this
    refine sit_head st.2 st.1 hf rfl ?_
    dsimp only
    refine wpAny_bind (m := setNext _ _ _ _) ?_
    unfold setNext
    refine wpAny_bind (wpAny_setState_of st.1 rfl hf ?_)
    dsimp only
    refine wpAny_bind (m := setsByText) ?_
    unfold setsByText
    refine wpAny_bind (wpAny_askSetting (wpAny_pure ?_))
    rw [if_pos (by exact hb), Int.toNat_natCast, Int.toNat_natCast, if_neg (by simp)]
    refine wpAny_bind (m := setWalk D) ?_
    unfold setWalk
    refine wpAny_bind (wpAny_setState_of st.1 rfl hf ?_)
    dsimp only
    refine wpAny_bind (m := setsByText) ?_
    unfold setsByText
    refine wpAny_bind (wpAny_askSetting (wpAny_pure ?_))
    rw [if_pos (by exact hb)]
    refine wpAny_bind (wpAny_askSetting (wpAny_pure ?_))
    refine wpAny_pure ?_
    show wpAny _ _ (match ((pickOrder (w.params.setOrder D ep) es)[es.size]?).map fun e => (e.2, (Int.toNat ((0 : Nat) : Int))) with | some (x, next) => _ | none => _) _ _ s
    rw [Array.getElem?_eq_none (by rw [hsz]; exact Nat.le_refl _)]
    dsimp only [Option.map]
    refine wpAny_bind (wpAny_setField st.2 rfl (by simp) ?_)
    have sb := Heap.SameBut.update s.heap I (Obj.mapFields (·.setIfInBounds 2 Value.none))
    exact stop_end hh fun h' k => hQ h' s.toks fun b o hb e => k _ _ ((sb.2 b (by simpa using hb)).trans e)

def StO (D : Addr) (es : Array (Int × Value)) (ep : Nat) (t : SetTable) (I : Addr) (p0 : Nat) (i : Nat) (h : Heap) : Prop :=
  h.get? D = some (setObj es ep t) ∧ ∃ sl : Nat, h.get? I = some (sitObj (.int sl 0) i D es.size ep) ∧ ((i = 0 ∧ sl = 0) ∨ (i = 1 ∧ sl = p0 + 1))
theorem below_zero (p0 : Nat) : SetTable.below #[p0] 0 = 0 := by
  unfold SetTable.below
  simp [SetTable.below.go]
theorem below_next (p0 : Nat) : SetTable.below #[p0] (p0 + 1) = 1 := by
  unfold SetTable.below
  simp [SetTable.below.go]
theorem walksO {D I : Addr} {e0 : Int × Value} {ep p0 : Nat} {t : SetTable} (hh : A.handled = none) (hf : t.fits 1 = true) (hb : w.params.followText "set-order" = false) (hl : t.led = true) (hpl : t.place = #[p0]) (hDI : D ≠ I) :
    Walks prog w A I [I, D] [I] 1 (fun i v => [e0.2][i]? = some v) (StO D #[e0] ep t I p0) where
  sub := fun b hb => by simp at hb; simp [hb]
  frame := fun i h h' st hk => let ⟨a, sl, b, c⟩ := st; ⟨hk _ (by simp) _ a, sl, hk _ (by simp) _ b, c⟩
  self := fun _ _ _ _ st hQ => let ⟨_, _, b, _⟩ := st; sit_self b hQ
  item := fun i s Q E hi st hQ => by
    obtain ⟨hD, sl, hI, hc⟩ := st
    have i0 : i = 0 := by lia
    subst i0
    have s0 : sl = 0 := by rcases hc with c | c <;> lia
    subst s0
    refine sit_head hI hD hf rfl ?_
    dsimp only
    refine wpAny_bind (m := setNext _ _ _ _) ?_
    unfold setNext
    refine wpAny_bind (wpAny_setState_of hD rfl hf ?_)
    dsimp only
    refine wpAny_bind (m := setsByText) ?_
    unfold setsByText
    refine wpAny_bind (wpAny_askSetting (wpAny_pure ?_))
    rw [if_neg (by rw [show ({ program := (model prog w).prog, params := (model prog w).w.params } : Setting).params = w.params from rfl, hb]; decide)]
    rw [if_neg (by show ¬ ((!t.plain && decide ((#[e0] : Array (Int × Value)).size > 1)) = true); simp)]
    refine wpAny_bind (wpAny_of_eq (a := ()) (by
      show (if (!t.led && !(#[e0] : Array (Int × Value)).isEmpty) = true then unsupported "set:maker-not-led" else pure () : Sem Unit) = pure ()
      rw [hl]; rfl) ?_)
    rw [hpl]
    have b0 : SetTable.below #[p0] (Int.toNat ((0 : Nat) : Int)) = 0 := below_zero p0
    rw [b0]
    refine wpAny_pure ?_
    (try dsimp only)
    (try simp only [List.getElem?_toArray, List.getElem?_cons_zero])
    refine wpAny_bind (wpAny_setField hI rfl (by simp) ?_)
    have u := upd_field (i := 0) (x := rawInt ((p0 + 1 : Nat) : Int)) hI
    have sb := Heap.SameBut.update s.heap I (Obj.mapFields (·.setIfInBounds 0 (rawInt ((p0 + 1 : Nat) : Int))))
    refine wpAny_bind (wpAny_setField u rfl (by simp) ?_)
    have u2 := upd_field (i := 1) (x := rawInt (((0 : Nat) : Int) + 1)) u
    have sb2 := Heap.SameBut.update (s.heap.update I (Obj.mapFields (·.setIfInBounds 0 (rawInt ((p0 + 1 : Nat) : Int))))) I (Obj.mapFields (·.setIfInBounds 1 (rawInt (((0 : Nat) : Int) + 1))))
    refine wpAny_pure ⟨_, rfl, hQ _ _ s.toks rfl ⟨(sb2.2 _ hDI).trans ((sb.2 _ hDI).trans hD), p0 + 1, u2, .inr ⟨rfl, rfl⟩⟩ fun b o hb e => (sb2.2 b (by simpa using hb)).trans ((sb.2 b (by simpa using hb)).trans e)⟩
  done := fun s Q E st hQ => by
    obtain ⟨hD, sl, hI, hc⟩ := st
    have s0 : sl = p0 + 1 := by rcases hc with c | c <;> lia
    subst s0
    refine sit_head hI hD hf rfl ?_
    dsimp only
    refine wpAny_bind (m := setNext _ _ _ _) ?_
    unfold setNext
    refine wpAny_bind (wpAny_setState_of hD rfl hf ?_)
    dsimp only
    refine wpAny_bind (m := setsByText) ?_
    unfold setsByText
    refine wpAny_bind (wpAny_askSetting (wpAny_pure ?_))
    rw [if_neg (by rw [show ({ program := (model prog w).prog, params := (model prog w).w.params } : Setting).params = w.params from rfl, hb]; decide)]
    rw [if_neg (by show ¬ ((!t.plain && decide ((#[e0] : Array (Int × Value)).size > 1)) = true); simp)]
    refine wpAny_bind (wpAny_of_eq (a := ()) (by
      show (if (!t.led && !(#[e0] : Array (Int × Value)).isEmpty) = true then unsupported "set:maker-not-led" else pure () : Sem Unit) = pure ()
      rw [hl]; rfl) ?_)
    rw [hpl]
    have b0 : SetTable.below #[p0] (Int.toNat ((p0 + 1 : Nat) : Int)) = 1 := below_next p0
    rw [b0]
    refine wpAny_pure ?_
    (try dsimp only)
    (try simp only [List.getElem?_toArray, List.getElem?_cons_zero])
    refine wpAny_bind (wpAny_setField hI rfl (by simp) ?_)
    have sb := Heap.SameBut.update s.heap I (Obj.mapFields (·.setIfInBounds 2 Value.none))
    exact stop_end hh fun h' k => hQ h' s.toks fun b o hb e => k _ _ ((sb.2 b (by simpa using hb)).trans e)
theorem tset_iter {D : Addr} {o : Obj} {ks : List (Str × Tok)} {Q : Value → Shared → Prop} (ho : s.heap.get? D = some o) (hs : TSet prog w o ks) (hk : 0 < ks.length) (hk2 : ks.length < 1000)
    (h : ∀ (I : Addr) (order : List Value) (h' : Heap) (d' : Drawn) (fp : List Addr) (St : Nat → Heap → Prop), order.Perm (strValues ks) → (∀ A' : Around, A'.handled = none → Walks prog w A' I fp [I] order.length (fun i v => order[i]? = some v) St) → St 0 h' →
      (∀ b ∈ fp, b < h'.objs.size) → I ∈ fp → (∀ b o, s.heap.get? b = some o → h'.get? b = some o) → s.heap.objs.size ≤ I → (∀ b ∈ fp, b = D ∨ s.heap.objs.size ≤ b) → Q (.ref I) { s with heap := h', drawn := d' }) :
    wpAny (model prog w) A (pyIter (.ref D)) Q E s := by
  obtain ⟨es, ep, t, rfl, hf, hl, hpl, hp, hn⟩ := hs
  have hT : s.TypeIs (.ref D) "set" := ⟨_, ho, rfl⟩
  have hlt := Heap.lt_size ho
  have hsz : es.size = ks.length := size_of hp
  have hvals : (es.toList.map (·.2)).Perm (strValues ks) := by
    have := hp.map (·.2)
    rw [List.map_map] at this
    exact this
  refine wpAny_pyIter_slot hT PySem.F.slot_set_iter (wpAny_call_entry PySem.F.slot_set_iter hT entry_set_it ?_ (PySem.F.args_set_iter_1 _))
  unfold Builtin.«frozenset.__iter__» Builtin.Frozenset.slot0 slotArgs
  simp only [List.isEmpty_nil, Bool.not_true, Bool.false_eq_true, ↓reduceIte, bind_assoc, List.length_nil, bne_self_eq_false]
  unfold Builtin.Frozenset.addrOf Builtin.Frozenset.sizeOf
  refine wpAny_bind (wpAny_pure ?_)
  dsimp only
  refine wpAny_bind (wpAny_pure ?_)
  refine wpAny_bind (wpAny_bind (wpAny_setEntries_of ho rfl hf (wpAny_pure ?_)))
  refine wpAny_bind (m := setDrawn D) ?_
  unfold setDrawn
  refine wpAny_bind (wpAny_setState_of ho rfl hf ?_)
  unfold setsByText
  refine wpAny_bind (wpAny_bind (wpAny_askSetting (wpAny_pure ?_)))
  refine wpAny_pure ?_
  show wpAny _ _ (if (!w.params.followText "set-order" && (!t.plain && decide (es.size > 1))) = true then _ else _) _ _ _
  by_cases hdr : (!w.params.followText "set-order" && (!t.plain && decide (es.size > 1))) = true
  · rw [if_pos hdr]
    refine wpAny_bind (wpAny_drawOrder es.size (List.range es.size) (by simp) fun pl d hpl2 => ?_)
    refine wpAny_bind ?_
    refine wpAny_newTuple ?_ (by rw [List.length_map, hpl2.length_eq, List.length_range, hsz, sizeLine_eq]; lia)
    dsimp only
    have hD1 : (s.heap.push { cls := .type "tuple", data := .seq (pl.map fun (j : Nat) => rawInt j).toArray }).get? D = some (setObj es ep t) := Heap.get?_push_of_some _ ho
    refine wpAny_bind (m := setEpoch D) ?_
    unfold setEpoch
    refine wpAny_bind (wpAny_setState_of hD1 rfl hf (wpAny_pure ?_))
    refine wpAny_bind (wpAny_newObj_type (wpAny_pure ⟨_, rfl, "set_iterator", _, ⟨_, Heap.get?_push_size _ rfl, rfl⟩, slot_sit_next.lookup, ?_⟩))
    generalize hH : s.heap.push { cls := .type "tuple", data := .seq (pl.map fun (j : Nat) => rawInt j).toArray } = H at hD1 ⊢
    have hHs : H.objs.size = s.heap.objs.size + 1 := by rw [← hH, Heap.size_push]
    have hTP : H.get? s.heap.objs.size = some { cls := .type "tuple", data := .seq (pl.map fun (j : Nat) => rawInt j).toArray } := by rw [← hH]; exact Heap.get?_push_size _ rfl
    have hlen : pl.length = es.size := by rw [hpl2.length_eq, List.length_range]
    have hne : D ≠ H.objs.size := by rw [hHs]; have h9 : @LT.lt Nat _ D s.heap.objs.size := hlt; exact Nat.ne_of_lt (Nat.lt_succ_of_lt h9)
    have hne2 : s.heap.objs.size ≠ H.objs.size := by rw [hHs]; exact Nat.ne_of_lt (Nat.lt_succ_self _)
    refine h H.objs.size (pl.map fun j => (es.getD j (0, .none)).2) _ d [H.objs.size, D, s.heap.objs.size] (StD D es ep t H.objs.size s.heap.objs.size pl) ?_ (fun A' hA' => ?_) ⟨Heap.get?_push_of_some _ hD1, ?_, Heap.get?_push_of_some _ hTP⟩ (fun b hb => ?_) (by simp) (fun b o e => Heap.get?_push_of_some _ (by rw [← hH]; exact Heap.get?_push_of_some _ e)) (by rw [hHs]; exact Nat.le_succ _) (fun b hb => by
      simp only [List.mem_cons, List.not_mem_nil, or_false] at hb
      rcases hb with rfl | rfl | rfl
      · right; rw [hHs]; exact Nat.le_succ _
      · left; rfl
      · right; exact Nat.le_refl _)
    · refine (hpl2.map _).trans ?_
      refine List.Perm.trans (List.Perm.of_eq ?_) hvals
      apply List.ext_getElem?
      intro i
      by_cases hi : i < es.size
      · simp [hi]
      · simp [hi]
    · have W := walksD (prog := prog) (w := w) (A := A') (I := H.objs.size) (TP := s.heap.objs.size) (ep := ep) hA' hf hpl2 hne hne2
      simpa using W
    · exact Heap.get?_push_size _ rfl
    · rw [Heap.size_push, hHs]
      have h9 : @LT.lt Nat _ D s.heap.objs.size := hlt
      simp only [List.mem_cons, List.not_mem_nil, or_false] at hb
      rcases hb with rfl | rfl | rfl
      · rw [hHs]; exact Nat.lt_succ_self _
      · exact Nat.lt_succ_of_lt (Nat.lt_succ_of_lt h9)
      · exact Nat.lt_succ_of_lt (Nat.lt_succ_self _)
  · rw [if_neg hdr]
    refine wpAny_bind (wpAny_pure ?_)
    refine wpAny_bind (m := setEpoch D) ?_
    unfold setEpoch
    refine wpAny_bind (wpAny_setState_of ho rfl hf (wpAny_pure ?_))
    refine wpAny_bind (wpAny_newObj_type (wpAny_pure ⟨_, rfl, "set_iterator", _, ⟨_, Heap.get?_push_size _ rfl, rfl⟩, slot_sit_next.lookup, ?_⟩))
    have hne : D ≠ s.heap.objs.size := Nat.ne_of_lt hlt
    have fp : ∀ b ∈ [s.heap.objs.size, D], b < (s.heap.push (sitObj (.int (0 : Nat) 0) 0 D es.size ep)).objs.size := fun b hb => by
      rw [Heap.size_push]
      simp only [List.mem_cons, List.not_mem_nil, or_false] at hb
      rcases hb with rfl | rfl
      · exact Nat.lt_succ_self _
      · exact Nat.lt_succ_of_lt hlt
    cases hb : w.params.followText "set-order" with
    | true =>
      have hord : ((pickOrder (w.params.setOrder D ep) es).toList.map (·.2)).Perm (strValues ks) := ((pick_perm _ es).map (·.2)).trans hvals
      refine h s.heap.objs.size _ _ s.drawn [s.heap.objs.size, D] (StT w D es ep t s.heap.objs.size) hord (fun A' hA' => ?_) ⟨Heap.get?_push_of_some _ ho, Heap.get?_push_size _ rfl⟩ fp (by simp) (fun b o e => Heap.get?_push_of_some _ e) (Nat.le_refl _) (fun b hb => by
        simp only [List.mem_cons, List.not_mem_nil, or_false] at hb
        rcases hb with rfl | rfl
        · right; exact Nat.le_refl _
        · left; rfl)
      have W := walksT (prog := prog) (w := w) (A := A') (I := s.heap.objs.size) (ep := ep) hA' hf hb hne
      have : es.size = ((pickOrder (w.params.setOrder D ep) es).toList.map (·.2)).length := by rw [hord.length_eq, hsz]; simp [strValues]
      rw [← this]; exact W
    | false =>
      have h1 : es.size = 1 := by
        rw [hb, hpl] at hdr
        simp only [Bool.not_false, Bool.true_and, decide_eq_true_eq, Nat.not_lt, gt_iff_lt] at hdr
        lia
      obtain ⟨e0, he0⟩ : ∃ e0, es = #[e0] := by
        have : es.toList.length = 1 := by simpa using h1
        obtain ⟨e, he⟩ := List.length_eq_one_iff.mp this
        exact ⟨e, by rw [← Array.toArray_toList (xs := es), he]⟩
      subst he0
      have hled : t.led = true := by rw [hl]; show (!w.params.followText "set-order") = true; rw [hb]; rfl
      obtain ⟨p0, hp0⟩ : ∃ p0, t.place = #[p0] := by
        have hpz : t.place.size = 1 := by
          have hf' := hf
          unfold SetTable.fits at hf'
          simp only [Bool.and_eq_true, beq_iff_eq] at hf'
          exact hf'.1
        have : t.place.toList.length = 1 := by simpa using hpz
        obtain ⟨e, he⟩ := List.length_eq_one_iff.mp this
        exact ⟨e, by rw [← Array.toArray_toList (xs := t.place), he]⟩
      refine h s.heap.objs.size [e0.2] _ s.drawn [s.heap.objs.size, D] (StO D #[e0] ep t s.heap.objs.size p0) hvals (fun A' hA' => ?_) ⟨Heap.get?_push_of_some _ ho, 0, Heap.get?_push_size _ rfl, .inl ⟨rfl, rfl⟩⟩ fp (by simp) (fun b o e => Heap.get?_push_of_some _ e) (Nat.le_refl _) (fun b hb => by
        simp only [List.mem_cons, List.not_mem_nil, or_false] at hb
        rcases hb with rfl | rfl
        · right; exact Nat.le_refl _
        · left; rfl)
      exact walksO (prog := prog) (w := w) (A := A') (I := s.heap.objs.size) (ep := ep) hA' hf hb hled hp0 hne

theorem len_set : typeLookup (.type "set") "__len__" = pure (some (.builtin "set.__len__")) := by rw [typeLookup_type, builtinLookup_eq_fast]; kernel_rfl
theorem items_perm {acc : Array Value} {order : List Value} (h : ItemsOf (fun i v => order[i]? = some v) acc order.length) : acc.toList = order := by
  obtain ⟨h1, h2⟩ := h
  apply List.ext_getElem?
  intro i
  by_cases hi : i < acc.size
  · have := h2 i acc[i] (by simp [hi])
    rw [this]; simp [hi]
  · rw [List.getElem?_eq_none (by simpa using hi), List.getElem?_eq_none (by rw [← h1]; lia)]
theorem collect_tset {D : Addr} {o : Obj} {ks : List (Str × Tok)} {Q : List Value → Shared → Prop} (hh : A.handled = none) (ho : s.heap.get? D = some o) (hs : TSet prog w o ks) (hk : 0 < ks.length) (hk2 : ks.length < 1000)
    (hQ : ∀ vs h' d' tk', vs.Perm (strValues ks) → (∀ b o, s.heap.get? b = some o → h'.get? b = some o) → Q vs { s with heap := h', drawn := d', toks := tk' }) :
    wpAny (model prog w) A (collect (.ref D)) Q E s := by
  unfold collect
  refine wpAny_bind (wpAny_runValue (codeAny_builtin PySem.F.entry_proto_collect ?_))
  rw [Around.under_plainId PySem.F.plain_proto_collect _]
  show wpAny _ A.in1 (newList [] >>= fun l => again (.builtin "list.__iadd__" ⟨[l, .ref D], []⟩)) _ _ s
  refine wpAny_bind (wpAny_newObj_type ?_)
  refine wpAny_pure ⟨plainId_quiet PySem.F.plain_list_iadd _, codeAny_builtin PySem.F.entry_list_iadd ?_⟩
  rw [Around.under_plainId PySem.F.plain_list_iadd _]
  have hlt := Heap.lt_size ho
  have hDS : s.heap.objs.size ≠ D := Nat.ne_of_gt hlt
  show wpAny _ A.in1 (Builtin.List.listExtendWith (.ref s.heap.objs.size) (.ref D) (.ref s.heap.objs.size)) _ _ _
  generalize hH : s.heap.push { cls := .type "list", data := .seq ([] : List Value).toArray } = H
  have hHs : H.objs.size = s.heap.objs.size + 1 := by rw [← hH, Heap.size_push]
  have ho1 : H.get? D = some o := by rw [← hH]; exact Heap.get?_push_of_some _ ho
  have hS : H.get? s.heap.objs.size = some { cls := .type "list", data := .seq ([] : List Value).toArray } := by rw [← hH]; exact Heap.get?_push_size _ rfl
  have hT : ∀ s' : Shared, s'.heap.get? D = some o → s'.TypeIs (.ref D) "set" := fun s' h => by
    obtain ⟨es, ep, t, rfl, _⟩ := hs
    exact ⟨_, h, rfl⟩
  have h1 : Builtin.List.listSameRef (.ref s.heap.objs.size) (.ref D) = false := by simp [Builtin.List.listSameRef, hDS]
  unfold Builtin.List.listExtendWith
  refine wpAny_bind (wpAny_typeOf (hT _ ho1) ?_)
  rw [if_neg (by rw [h1]; decide)]
  refine wpAny_bind (tset_iter (s := { s with heap := H }) ho1 hs hk hk2 fun I order h' d' fp St hp W st hfp hI keep hIge hfp2 => ?_)
  have hoS : h'.get? s.heap.objs.size = some { cls := .type "list", data := .seq ([] : List Value).toArray } := keep _ _ hS
  have ho2 : h'.get? D = some o := keep _ _ ho1
  refine wpAny_bind (wpAny_holding ?_)
  unfold Builtin.List.listLengthHint
  refine wpAny_bind (wpAny_specialOf (hT { s with heap := h', drawn := d' } ho2) len_set ?_)
  wp_delta
  refine wpAny_bind (wpAny_isInstance (b := true) (hT _ ho2) (by rw [isSubtype_type]; kernel_rfl) ?_)
  show wpAny _ A.in1 (typeOf (Value.ref D) >>= _) _ _ _
  refine wpAny_bind (wpAny_typeOf (hT _ ho2) ?_)
  refine wpAny_pure ?_

  rw [if_pos (by decide)]
  have hlen : order.length = ks.length := by rw [hp.length_eq]; simp [strValues]
  have hn : order.length ≤ sizeLine := by rw [hlen, sizeLine_eq]; lia
  have hIS : s.heap.objs.size ≠ I := by
    rw [hHs] at hIge
    exact Nat.ne_of_lt hIge
  have hSf : s.heap.objs.size ∉ fp := fun hm => by
    rcases hfp2 _ hm with e | e
    · exact hDS e
    · rw [hHs] at e
      exact absurd e (Nat.not_le_of_lt (Nat.lt_succ_self _))
  refine wpAny_bind (wpAny_rule ?_)
  show wpAny _ _ (Builtin.List.listTouch (.ref s.heap.objs.size) >>= _) _ _ _
  refine wpAny_bind ?_
  unfold Builtin.List.listTouch
  show wpAny _ _ (updateSeq s.heap.objs.size (·.push .none) >>= fun _ => updateSeq s.heap.objs.size (·.pop)) _ _ _
  refine wpAny_bind (wpAny_updateSeq hoS rfl ?_)
  have g1 := Heap.get?_update_self (Obj.mapSeq (·.push .none)) hoS rfl
  have sb1 := Heap.SameBut.update h' s.heap.objs.size (Obj.mapSeq (·.push .none))
  refine wpAny_updateSeq (s := { s with heap := h'.update s.heap.objs.size (Obj.mapSeq (·.push .none)), drawn := d' }) g1 rfl ?_
  have g2 := Heap.get?_update_self (Obj.mapSeq (·.pop)) g1 rfl
  have sb2 := Heap.SameBut.update (h'.update s.heap.objs.size (Obj.mapSeq (·.push .none))) s.heap.objs.size (Obj.mapSeq (·.pop))
  generalize hG : (h'.update s.heap.objs.size (Obj.mapSeq (·.push .none))).update s.heap.objs.size (Obj.mapSeq (·.pop)) = G at g2 sb2
  have kG : ∀ b o, b ≠ s.heap.objs.size → h'.get? b = some o → G.get? b = some o := fun b o hb e => (sb2.2 b hb).trans ((sb1.2 b hb).trans e)
  have stG : St 0 G := (W A hh).frame 0 _ _ st fun b hb o e => kG b o (fun q => hSf (q ▸ hb)) e
  refine wpAny_pure ⟨plainId_quiet PySem.F.plain_extend_loop _, codeAny_extend_loopS (W A.in1 hh).toS hn _ hSf _ order.length 0 _ _ _ rfl (Nat.zero_le _) stG g2 (ItemsOf.nil _) fun s' acc' c' hm hS' hacc => ?_⟩
  show wpAny _ A (load s.heap.objs.size >>= _) _ _ s'
  refine wpAny_bind (wpAny_load hS' ?_)
  have e1 := items_perm hacc
  refine wpAny_pure ?_
  rw [e1]
  obtain ⟨heap', gens', drawn', toks', os'⟩ := s'
  have e2 : gens' = s.gens := hm.gens
  have e3 : os' = s.os := hm.os
  subst e2 e3
  refine hQ _ heap' drawn' toks' hp fun b o e => hm.heap b o (fun hb => ?_) (kG b o (Nat.ne_of_lt (Heap.lt_size e)) (keep b o (by rw [← hH]; exact Heap.get?_push_of_some _ e)))
  have hlt2 := Heap.lt_size e
  rcases List.mem_cons.mp hb with h | h
  · exact absurd hlt2 (h ▸ Nat.lt_irrefl _)
  · rw [List.mem_singleton.mp h] at hlt2
    rw [hHs] at hIge
    exact absurd (Nat.lt_of_lt_of_le (Nat.lt_succ_of_lt hlt2) hIge) (Nat.lt_irrefl _)
end
end
section
open PySem PySem.Calls PyProof.Rows PySem.W PySem.Spec
section
variable {prog : Program} {w : World} {A : Around} {E : Value → Shared → Prop} {s : Shared} {h₀ : Heap} {L : Addr} {m : Str → Option Value} {news : List (Addr × Obj)}
theorem call_entry_go {T : String} {name : Str} {id : String} {b : Builtin} {self : Value} {rest : List Value} {Q : Value → Shared → Prop} (h : Slot T name id) (hT : s.TypeIs self T) (hb : entryFor table id = some b)
    (hc : wpAny (model prog w) A.in1 (b ⟨self :: rest, []⟩) (fun fin s' => match fin with | .done (.ret v) => Q v s' | .done _ => False | .again c' => c'.quiet = true ∧ codeAny (model prog w) A c' (wants Q E) s') E s) (ha : argsOk id ⟨self :: rest, []⟩) :
    wpAny (model prog w) A (call (.builtin id) (self :: rest)) Q E s := by
  refine wpAny_call (codeAny_call_builtin h.plain hb (h.check _ _ _ _ _ _ _ _ hT ha (wpAny_mono hc (fun fin s' h' => ?_) fun _ _ h' => h')))
  cases fin with
  | done f => cases f <;> first | exact h' | exact h'.elim
  | again c => exact h'
theorem plain_eq_loop' : plainId "list.__eq__.loop" = true := by decide +kernel
theorem entry_eq_loop' : entryFor table "list.__eq__.loop" = some Builtin.«list.__eq__.loop» := entryFor_of_fast (by kernel_rfl)
theorem rich_lt_str {a b : Str} {t u : Tok} {Q : Value → Shared → Prop} (h : Q (.bool (decide (a.cps.toList < b.cps.toList))) s) : wpAny (model prog w) A (richCompare .Lt (.str a t) (.str b u)) Q E s :=
  wpAny_richCompare_same (typeIs_str s a t) (typeIs_str s b u) F.slot_str_lt (call_str_lt ⟨by simp, h⟩)
theorem lt_list1 {l1 l2 : Addr} {a b : Str} {t u : Tok} {n1 n2 : Nat} {Q : Bool → Shared → Prop} (hu : A.units < cLine) (h1 : s.heap.get? l1 = some (listOf #[.str a t] n1)) (h2 : s.heap.get? l2 = some (listOf #[.str b u] n2)) (hab : a ≠ b)
    (h : Q (decide (a.cps.toList < b.cps.toList)) s) : wpAny (model prog w) A (keyLt' oneType' (.ref l1) (.ref l2)) Q E s := by
  rw [keyLt'_oneType, oneLt'_eq]
  simp only [if_true]
  refine wpAny_bind (wpAny_cRoomFor hu ?_)
  have hT1 : s.TypeIs (.ref l1) "list" := ⟨_, h1, rfl⟩
  have hT2 : s.TypeIs (.ref l2) "list" := ⟨_, h2, rfl⟩
  refine wpAny_bind (wpAny_callSpecialIfBound?_slot hT1 PySem.F.slot_list_lt (call_entry_go PySem.F.slot_list_lt hT1 PySem.F.entry_list_lt ?_ (PySem.F.args_list_lt_2 _ _)))
  show wpAny _ _ (do
    if !(← isInstance (.ref l2) (.type "list")) then return ← ret .notImplemented
    if CmpOp.Lt == .Eq || CmpOp.Lt == .NotEq then
      if (← Builtin.List.listItems (.ref l1)).size != (← Builtin.List.listItems (.ref l2)).size then rule "list.compare.lengths-differ"; return ← ret (.bool (CmpOp.Lt == .NotEq))
    again (.builtin "list.__eq__.loop" ⟨[.ref l1, .ref l2, rawInt 0, rawInt 0], []⟩)) _ _ s
  refine wpAny_bind (wpAny_isInstance (b := true) hT2 (by rw [isSubtype_type]; kernel_rfl) ?_)
  rw [if_neg (by decide), if_neg (by decide)]
  refine wpAny_pure ⟨Code.quiet_builtin _ (by decide +kernel), codeAny_builtin entry_eq_loop' ?_⟩
  rw [Around.under_plainId plain_eq_loop' _]
  unfold Builtin.«list.__eq__.loop»
  refine wpAny_bind (listItems_at h1 rfl ?_)
  refine wpAny_bind (listItems_at h2 rfl ?_)
  show wpAny _ _ (eqBool (.str a t) (.str b u) >>= _) _ _ s
  refine wpAny_bind (wpAny_eqBool_str ?_)
  rw [if_neg (by simpa using hab)]
  refine wpAny_bind (listItems_at h1 rfl ?_)
  refine wpAny_bind (listItems_at h2 rfl ?_)
  show wpAny _ _ (richCompare .Lt (.str a t) (.str b u) >>= _) _ _ s
  refine wpAny_bind (rich_lt_str ?_)
  refine wpAny_pure ?_
  exact wpAny_truthy_bool h

theorem looks_list {h : Heap} {l : Addr} {its : Array Value} {n : Nat} (ho : h.get? l = some (listOf its n)) : Looks (model prog w) h (typeOf (.ref l)) (.type "list") :=
  fun _ _ _ _ k q => wpAny_typeOf (T := "list") ⟨_, k _ _ ho, rfl⟩ q
def KeyOne (prog : Program) (w : World) (A : Around) (h₀ : Heap) (L : Addr) (m : Str → Option Value) (news : List (Addr × Obj)) (f : Value) (xs : List Str) : Prop :=
  ∀ (x : Str) (tx : Tok) (s' : Shared) (news' : List (Addr × Obj)) (Q' : Value → Shared → Prop), x ∈ xs → Fr h₀ L s'.heap m → News h₀ L s'.heap news' → (∀ p ∈ news, p ∈ news') →
    (∀ (l : Nat) h' tk' t' k, Fr h₀ L h' m → News h₀ L h' ((l, listOf #[.str x t'] k) :: news') → (∀ p ∈ news', p.1 < l) → Q' (.ref l) { s' with heap := h', toks := tk' }) →
    wpAny (model prog w) A (call f [.str x tx]) Q' (fun _ _ => False) s'
theorem sorted_any {D : Addr} {o : Obj} {ks : List (Str × Tok)} {lam : Addr} {Q : Value → Shared → Prop} (hh : A.handled = none) (F : Fr h₀ L s.heap m) (N : News h₀ L s.heap news) (hD : (D, o) ∈ news) (hs : TSet prog w o ks) (hk : 0 < ks.length) (hk2 : ks.length < 64)
    (h : ∀ (R : Addr) (vs : List Value) h' d' tk', vs.Perm (strValues ks) → Fr h₀ L h' m → News h₀ L h' news → h'.get? R = some (seqObj "list" vs.toArray 0) → R ≠ L → h₀.get? R = none → (∀ p ∈ news, p.1 < R) →
      wpAny (model prog w) A.in1.in1 (ksk_tree R (.ref lam) false) (fun fin s' => ∃ v, fin = .done (.ret v) ∧ Q (.ref R) s') E { s with heap := h', drawn := d', toks := tk' }) :
    wpAny (model prog w) A (call (.builtin "sorted") [.ref D] [(Str.ofString "key", .ref lam)]) Q E s := by
  refine call_function_entry_kw kind_sorted plain_sorted entry_sorted (ksk_s1 _ _) ?_
  unfold Builtin.«sorted»
  refine wpAny_bind (m := checkCount "sorted" 1 1 _) (wpAny_pure ?_)
  refine wpAny_bind (collect_tset hh (N.get hD) hs hk (Nat.lt_trans hk2 (by decide)) fun vs h' d' tk' hp keep => ?_)
  have hlen : vs.length = ks.length := by rw [hp.length_eq]; simp [strValues]
  refine wpAny_bind (wpAny_newList ?_ (by rw [hlen, sizeLine_eq]; lia))
  dsimp only
  have hL : L < h'.objs.size := (F.keeps keep).ns.lt
  have F1 : Fr h₀ L (h'.push (seqObj "list" vs.toArray 0)) m := (F.keeps keep).push _
  have N1 : News h₀ L (h'.push (seqObj "list" vs.toArray 0)) news := fun p hp => ⟨Heap.get?_push_of_some _ (keep _ _ (N p hp).1), (N p hp).2⟩
  refine wpAny_bind (wpAny_holding (wpAny_call_entry_kw slot_list_sort ⟨_, Heap.get?_push_size _ rfl, rfl⟩ entry_list_sort ?_ (ksk_l1 _ _)))
  show wpAny (model prog w) A.in1.in1 (Builtin.«list.sort» ⟨[.ref h'.objs.size], [(Str.ofString "key", .ref lam)]⟩) _ _ _
  rw [ksk_t1]
  refine wpAny_mono (h h'.objs.size vs _ d' tk' hp F1 N1 (Heap.get?_push_size _ rfl) (Nat.ne_of_gt hL) (Heap.get?_none_of_le (Nat.le_trans F.above (Nat.le_of_lt hL))) (fun p hp => Heap.lt_size (keep _ _ (N p hp).1))) (fun fin s' hq => ?_) fun _ _ x => x
  obtain ⟨v, rfl, q⟩ := hq
  exact ⟨v, rfl, wpAny_pure ⟨_, rfl, q⟩⟩

theorem sorted_one {D : Addr} {o : Obj} {x : Str} {tx : Tok} {lam : Addr} {Q : Value → Shared → Prop} (hh : A.handled = none) (F : Fr h₀ L s.heap m) (N : News h₀ L s.heap news) (hD : (D, o) ∈ news) (hs : TSet prog w o [(x, tx)])
    (hf : KeyOne prog w A.in1.in1 h₀ L m news (.ref lam) [x])
    (h : ∀ (R k : Nat) h' d' tk', Fr h₀ L h' m → News h₀ L h' ((R, listOf #[.str x tx] k) :: news) → (∀ p ∈ news, p.1 < R) → Q (.ref R) { s with heap := h', drawn := d', toks := tk' }) :
    wpAny (model prog w) A (call (.builtin "sorted") [.ref D] [(Str.ofString "key", .ref lam)]) Q E s := by
  refine sorted_any hh F N hD hs (by simp) (by simp) fun R vs h1 d' tk' hp F1 N1 ho hRL hR0 hRN => ?_
  have hvs : vs = [.str x tx] := by
    have hp' : vs.Perm [.str x tx] := hp
    exact List.perm_singleton.mp hp'
  subst hvs
  have hna : ∀ p ∈ news, p.1 ≠ R := fun p hp => Nat.ne_of_lt (hRN p hp)
  have ha : R < h1.objs.size := Heap.lt_size ho
  have s1 := Heap.SameBut.update h1 R (Obj.mapSeq fun _ => (#[] : Array Value))
  obtain ⟨e1, ho1⟩ : ∃ e1, (h1.update R (Obj.mapSeq fun _ => (#[] : Array Value))).get? R = some (seqObj "list" #[] e1) := ⟨_, get?_update_seq ho fun _ => #[]⟩
  have F2 := kas_fr F1 s1 hRL hR0
  have N2 := kas_news N1 s1 hna
  unfold ksk_tree
  refine wpAny_bind (listItems_at ho rfl ?_)
  refine wpAny_bind (listUpdate_at ho rfl ?_ (by rw [List.size_toArray, sizeLine_eq]; simp) (Nat.zero_le _))
  refine wpAny_bind (seqEpoch_at ho1 rfl ?_)
  refine wpAny_bind (wpAny_newTuple ?_ (by show ([Value.str x tx] : List Value).length ≤ _; rw [sizeLine_eq]; simp))
  refine wpAny_bind (wpAny_newList ?_ (Nat.zero_le _))
  refine wpAny_holding ?_
  generalize hH : h1.update R (Obj.mapSeq fun _ => (#[] : Array Value)) = H at F2 N2 ho1 ⊢
  have hHs : H.objs.size = h1.objs.size := by rw [← hH, Heap.size_update]
  have ha' : @LT.lt Nat _ R H.objs.size := by rw [hHs]; exact ha
  have hkS : (H.push (seqObj "tuple" [Value.str x tx].toArray 0)).objs.size = H.objs.size + 1 := by rw [size_push']
  have hLk : L < (H.push (seqObj "tuple" [Value.str x tx].toArray 0)).objs.size := (F2.push _).ns.lt
  have F3 : Fr h₀ L ((H.push (seqObj "tuple" [Value.str x tx].toArray 0)).push (seqObj "list" #[] 0)) m := (F2.push _).push _
  have N3 : News h₀ L ((H.push (seqObj "tuple" [Value.str x tx].toArray 0)).push (seqObj "list" #[] 0)) (((H.push (seqObj "tuple" [Value.str x tx].toArray 0)).objs.size, seqObj "list" #[] 0) :: (R, seqObj "list" #[] e1) :: news) := fun p hp => by
    rcases List.mem_cons.mp hp with rfl | hp
    · exact ⟨Heap.get?_push_size _ rfl, Nat.ne_of_gt hLk, Heap.get?_none_of_le (Nat.le_trans F.above (Nat.le_of_lt hLk))⟩
    · rcases List.mem_cons.mp hp with rfl | hp
      · exact ⟨Heap.get?_push_of_some _ (Heap.get?_push_of_some _ ho1), hRL, hR0⟩
      · exact ⟨Heap.get?_push_of_some _ (Heap.get?_push_of_some _ (N2 p hp).1), (N2 p hp).2⟩
  have l0 : @LT.lt Nat _ R (H.push (seqObj "tuple" [Value.str x tx].toArray 0)).objs.size := by rw [hkS]; exact Nat.lt_succ_of_lt ha'
  have l1 : ∀ p ∈ news, @LT.lt Nat _ p.1 (H.push (seqObj "tuple" [Value.str x tx].toArray 0)).objs.size := fun p hp => Nat.lt_trans (hRN p hp) l0
  show wpAny _ _ (ksk_rest R (.ref lam) false [Value.str x tx].toArray e1 (.ref (H.push (seqObj "tuple" [Value.str x tx].toArray 0)).objs.size)) _ _ { s with heap := (H.push (seqObj "tuple" [Value.str x tx].toArray 0)).push (seqObj "list" #[] 0), drawn := d', toks := tk' }
  generalize hG : (H.push (seqObj "tuple" [Value.str x tx].toArray 0)).push (seqObj "list" #[] 0) = G at F3 N3
  generalize (H.push (seqObj "tuple" [Value.str x tx].toArray 0)).objs.size = kS at N3 l0 l1
  have neR : ∀ p ∈ (R, seqObj "list" #[] e1) :: news, p.1 ≠ kS := fun p hp => by
    rcases List.mem_cons.mp hp with rfl | hp
    · exact Nat.ne_of_lt l0
    · exact Nat.ne_of_lt (l1 p hp)
  unfold ksk_rest
  refine wpAny_bind (wpAny_rule ?_)
  rw [List.forIn_toArray, List.forIn_cons]
  have hcall := hf x tx { s with heap := G, drawn := d', toks := tk' } _ (KatBack h₀ L m kS [] 0 (fun k c s' => KatFin h₀ L m kS R [k] c e1 [.str x tx] (fun s4 => ∃ v, PySem.Fin.done (.ret .none) = PySem.Fin.done (.ret v) ∧ Q (.ref R) s4) s')) (by simp) F3 N3 (fun p hp => .tail _ (.tail _ hp)) fun la h3 tk3 t3 k3 F4 N4 lla => by
    have nela : la ≠ kS := Nat.ne_of_gt (lla _ (.head _))
    refine KatBack.intro F4 N4 (.tail nela (.head neR)) fun h4 c4 F5 N5 => ?_
    (try dsimp only at N5)
    refine KatFin.intro F5 N5 (.tail nela (.head neR)) fun h7 c7 F7 N7 => ?_
    (try dsimp only at N7)
    have neaR : la ≠ R := Nat.ne_of_gt (lla _ (.tail _ (.head _)))
    refine KasFin.intro F7 N7 (.tail neaR (.tail (Ne.symm (Nat.ne_of_lt l0)) (.head hna))) fun h8 c8 F8 N8 => ?_
    (try dsimp only at N8)
    refine ⟨_, rfl, h R c8 h8 d' tk3 F8 (fun q hq => N8 q ?_) hRN⟩
    rcases List.mem_cons.mp hq with rfl | hq
    · exact .tail _ (.tail _ (.head _))
    · exact .tail _ (.tail _ (.tail _ hq))
  refine wpAny_bind (wpAny_bind ?_)
  refine wpAny_bind (wpAny_attempt (wpAny_mono hcall (fun k s'' hk => ?_) fun _ _ hF => hF.elim))
  obtain ⟨news', g, F', N', U, c⟩ := hk
  obtain ⟨pre, post, e0, hg, x1, x2⟩ := U.split
  rw [e0] at N'
  have nk := N' (kS, seqObj "list" (List.toArray []) 0) (List.mem_append_right _ (.head _))
  have sb := Heap.SameBut.update s''.heap kS (Obj.mapSeq (·.push k))
  obtain ⟨c2, hc2⟩ : ∃ c2, (s''.heap.update kS (Obj.mapSeq (·.push k))).get? kS = some (seqObj "list" (List.toArray [k]) c2) := ⟨_, get?_update_seq nk.1 (·.push k)⟩
  refine wpAny_bind (listUpdate_at nk.1 rfl ?_ (by simp) (by simp [sizeLine_eq]))
  refine wpAny_pure ?_
  dsimp only
  rw [List.forIn_nil]
  refine wpAny_pure ?_
  refine wpAny_bind (listItems_at hc2 rfl ?_)
  have fin := c _ c2 (kas_fr F' sb nk.2.1 nk.2.2) (by rw [hg]; exact news_set N' x1 x2 sb hc2)
  unfold ksk_end
  (try dsimp only)
  rw [if_neg (by decide), if_pos (by simp), if_pos (by simp)]
  refine wpAny_bind (wpAny_pure ?_)
  rw [if_neg (by decide), StateT.run_pure]
  refine wpAny_bind (wpAny_pure ?_)
  dsimp only
  exact kat_tail (ks := [k]) (out := [Value.str x tx]) (by show (#[k].zip #[Value.str x tx]).map (·.2) = _; simp) (by simp) (by simp) rfl fin
end
end
section
open PySem PySem.Calls PyProof.Rows PySem.W PySem.Spec
inductive TailF (rest : List (Addr × Obj)) : List (Addr × Obj) → (List (Addr × Obj) → List (Addr × Obj)) → Prop
  | here : TailF rest rest (fun r => r)
  | cons {p l k} : TailF rest l k → TailF rest (p :: l) (fun r => p :: k r)
inductive UpdT (d : Addr) (o : Obj) (rest : List (Addr × Obj)) : List (Addr × Obj) → (Obj → List (Addr × Obj) → List (Addr × Obj)) → Prop
  | head {r k} : (∀ p ∈ r, p.1 ≠ d) → TailF rest r k → UpdT d o rest ((d, o) :: r) (fun o' r' => (d, o') :: k r')
  | tail {p r G} : p.1 ≠ d → UpdT d o rest r G → UpdT d o rest (p :: r) (fun o' r' => p :: G o' r')
theorem TailF.self {rest l : List (Addr × Obj)} {k : List (Addr × Obj) → List (Addr × Obj)} (h : TailF rest l k) : k rest = l := by
  induction h with
  | here => rfl
  | cons _ ih => show _ :: _ = _; rw [ih]
theorem TailF.sub {rest l : List (Addr × Obj)} {k : List (Addr × Obj) → List (Addr × Obj)} (h : TailF rest l k) (r' : List (Addr × Obj)) : ∀ p ∈ k r', p ∈ r' ∨ ∀ r0, p ∈ k r0 := by
  induction h with
  | here => intro p hp; exact .inl hp
  | cons _ ih =>
    intro p hp
    rcases List.mem_cons.mp hp with rfl | hp
    · exact .inr fun _ => .head _
    · rcases ih p hp with h | h
      · exact .inl h
      · exact .inr fun r0 => .tail _ (h r0)
theorem TailF.mem {rest l : List (Addr × Obj)} {k : List (Addr × Obj) → List (Addr × Obj)} (h : TailF rest l k) (r' : List (Addr × Obj)) : ∀ p ∈ r', p ∈ k r' := by
  induction h with
  | here => intro p hp; exact hp
  | cons _ ih => intro p hp; exact .tail _ (ih p hp)
theorem UpdT.toF {d : Addr} {o : Obj} {rest l : List (Addr × Obj)} {G : Obj → List (Addr × Obj) → List (Addr × Obj)} (h : UpdT d o rest l G) : UpdF d o l (fun o' => G o' rest) := by
  induction h with
  | head h1 t => rw [show (fun o' => (d, o') :: _) = fun o' => (d, o') :: _ from rfl]; simp only [t.self]; exact .head h1
  | tail h1 _ ih => exact .tail h1 ih
theorem UpdT.self {d : Addr} {o : Obj} {rest l : List (Addr × Obj)} {G : Obj → List (Addr × Obj) → List (Addr × Obj)} (h : UpdT d o rest l G) : G o rest = l := by
  induction h with
  | head h1 t => show _ :: _ = _; rw [t.self]
  | tail h1 _ ih => show _ :: _ = _; rw [ih]
theorem UpdT.sub {d : Addr} {o : Obj} {rest l : List (Addr × Obj)} {G : Obj → List (Addr × Obj) → List (Addr × Obj)} (h : UpdT d o rest l G) (o' : Obj) (r' : List (Addr × Obj)) : ∀ p ∈ G o' r', p ∈ r' ∨ ∀ r0, p ∈ G o' r0 := by
  induction h with
  | head h1 t =>
    intro p hp
    rcases List.mem_cons.mp hp with rfl | hp
    · exact .inr fun _ => .head _
    · rcases t.sub r' p hp with h | h
      · exact .inl h
      · exact .inr fun r0 => .tail _ (h r0)
  | tail h1 _ ih =>
    intro p hp
    rcases List.mem_cons.mp hp with rfl | hp
    · exact .inr fun _ => .head _
    · rcases ih p hp with h | h
      · exact .inl h
      · exact .inr fun r0 => .tail _ (h r0)
theorem UpdT.mem {d : Addr} {o : Obj} {rest l : List (Addr × Obj)} {G : Obj → List (Addr × Obj) → List (Addr × Obj)} (h : UpdT d o rest l G) (o' : Obj) (r' : List (Addr × Obj)) : ∀ p ∈ r', p ∈ G o' r' := by
  induction h with
  | head h1 t => intro p hp; exact .tail _ (t.mem r' p hp)
  | tail h1 _ ih => intro p hp; exact .tail _ (ih p hp)
theorem UpdT.addr {d : Addr} {o : Obj} {rest l : List (Addr × Obj)} {G : Obj → List (Addr × Obj) → List (Addr × Obj)} (h : UpdT d o rest l G) (o' : Obj) : ∀ p ∈ G o' rest, p.1 = d ∨ p ∈ l := by
  induction h with
  | head h1 t =>
    intro p hp
    rcases List.mem_cons.mp hp with rfl | hp
    · exact .inl rfl
    · rw [t.self] at hp; exact .inr (.tail _ hp)
  | tail h1 _ ih =>
    intro p hp
    rcases List.mem_cons.mp hp with rfl | hp
    · exact .inr (.head _)
    · rcases ih p hp with h | h
      · exact .inl h
      · exact .inr (.tail _ h)
def CodeObj (qual : Str) (c' : Addr) (rest : List (Addr × Obj)) : Prop := ∃ oc vs t, (c', oc) ∈ rest ∧ oc.data = .fields vs ∧ vs[1]? = some (.str qual t)
def TabIs (pos : Pos) (tb : Array Value) (c' : Addr) : Prop := tb = #[rawInt pos.line, rawInt pos.col, .ref c']
def TabSt (pos : Pos) (qual : Str) (tb : Array Value) (rest : List (Addr × Obj)) : Prop := tb = #[] ∨ ∃ c', TabIs pos tb c' ∧ CodeObj qual c' rest
theorem CodeObj.rec_ {qual : Str} {c' : Addr} {rest news : List (Addr × Obj)} {h₀ h : Heap} {L : Addr} (C : CodeObj qual c' rest) (N : News h₀ L h news) (hs : ∀ p ∈ rest, p ∈ news) : h.CodeRec (.ref c') qual := by
  obtain ⟨oc, vs, t, hm, hd, hv⟩ := C
  exact ⟨c', oc, vs, t, rfl, N.get (hs _ hm), hd, hv⟩
theorem CodeObj.mono {qual : Str} {c' : Addr} {rest rest' : List (Addr × Obj)} (C : CodeObj qual c' rest) (hs : ∀ p ∈ rest, p ∈ rest') : CodeObj qual c' rest' := by
  obtain ⟨oc, vs, t, hm, hd, hv⟩ := C
  exact ⟨oc, vs, t, hs _ hm, hd, hv⟩
section
variable {M : Model} {A : Around} {E : Value → Shared → Prop} {s : Shared} {h₀ : Heap} {L a c P : Addr} {m mg mb : Str → Option Value} {cn : Str} {cs : Scope} {ccd : Value} {cl : List (Str × Addr)} {news rest : List (Addr × Obj)} {G : Obj → List (Addr × Obj) → List (Addr × Obj)}
  {p : Program} {loose : List Str} {mean : ExcName → Option Value} {name qual : Str} {params : Arguments} {body : Expr} {scope : Scope} {tb : Array Value} {pos : Pos} {firstLine : Nat} {clos : List (Str × Addr)}
theorem lam_make {Q : Value → Shared → Prop} (offs : List Addr) (F : Fr h₀ L s.heap m) (N : News h₀ L s.heap news) (T : Top p loose mean mg mb h₀) (C : CodeHd h₀ c P) (hcd : ccd = .ref c) (U : UpdT P (tabObj tb) rest news G) (ht : TabSt pos qual tb rest)
    (hcl : closureFor scope (envX cn cs L a ccd cl) = pure clos) (ho : ∀ d ∈ offs, (∀ q ∈ rest, q.1 ≠ d) ∧ ∃ o, (d, o) ∈ news)
    (h : ∀ f c' ctv h' tk tb' rest', Fr h₀ L h' m → News h₀ L h' ((f, kla_obj name qual params body scope clos ((mg "__name__").getD .none) c' ctv) :: G (tabObj tb') rest') →
      (∀ q ∈ rest, q ∈ rest') → (∀ d ∈ offs, ∀ q ∈ rest', q.1 ≠ d) → TabIs pos tb' c' → CodeObj qual c' rest' → (∀ q ∈ G (tabObj tb') rest', q.1 < f) → Q (.ref f) { s with heap := h', toks := tk }) :
    wpAny M A (makeFunction name qual params (.expr body) scope (envX cn cs L a ccd cl) [] [] [] pos firstLine) Q E s := by
  have hP : (P, tabObj tb) ∈ news := by
    obtain ⟨pre, post, e, _⟩ := U.toF.split
    rw [e]; exact List.mem_append_right _ (.head _)
  rcases ht with rfl | ⟨c', rfl, hco⟩
  · refine kla_nest F N T C hcd U.toF (by exact True.intro) rfl hcl fun f c' oc vs t ctv h' tk F' N' d1 d2 l1 l2 => ?_
    have e0 : (#[] : Array Value) ++ #[rawInt pos.line, rawInt pos.col, .ref c'] = #[rawInt pos.line, rawInt pos.col, .ref c'] := by simp
    rw [e0] at N'
    have hP2 := U.self
    have hrest : ∀ q ∈ rest, q ∈ news := fun q hq => by rw [← hP2]; exact U.mem _ _ q hq
    have hlt : ∀ q ∈ G (tabObj #[rawInt pos.line, rawInt pos.col, .ref c']) rest, q.1 < c' := fun q hq => by
      rcases U.addr _ q hq with e | e
      · rw [e]; exact l1 _ hP
      · exact l1 q e
    refine h f c' ctv h' tk _ ((c', oc) :: rest) F' (fun q hq => ?_) (fun q hq => .tail _ hq) (fun d hd q hq => ?_) rfl ⟨oc, vs, t, .head _, d1, d2⟩ (fun q hq => ?_)
    · rcases List.mem_cons.mp hq with rfl | hq
      · exact N' _ (.head _)
      · rcases U.sub _ _ q hq with h | h
        · rcases List.mem_cons.mp h with rfl | h
          · exact N' _ (.tail _ (.head _))
          · exact N' _ (.tail _ (.tail _ (U.mem _ _ q h)))
        · exact N' _ (.tail _ (.tail _ (h rest)))
    · obtain ⟨hd1, o, hd2⟩ := ho d hd
      rcases List.mem_cons.mp hq with rfl | hq
      · exact Nat.ne_of_gt (l1 _ hd2)
      · exact hd1 q hq
    · rcases U.sub _ _ q hq with h | h
      · rcases List.mem_cons.mp h with rfl | h
        · exact l2
        · exact Nat.lt_trans (l1 q (hrest q h)) l2
      · exact Nat.lt_trans (hlt q (h rest)) l2
  · refine kla_hit (c' := c') F N T C hcd hP (by exact True.intro) (by simp [codeAmong, rawInt]) hcl fun f ctv h' tk F' N' l1 => ?_
    refine h f c' ctv h' tk _ rest F' ?_ (fun _ hq => hq) (fun d hd => (ho d hd).1) rfl hco ?_
    · rw [U.self]; exact N'
    · rw [U.self]; exact l1
end
end
section
theorem dec_lt {n i k : Nat} (h : i < n) (e : k = n + 1 - i) : n + 1 - (i + 1) < k := e ▸ Nat.sub_lt_sub_left (Nat.lt_succ_of_lt h) (Nat.lt_succ_self i)
theorem cast1 (i : Nat) : (((i + 1 : Nat) : Int)) = (i : Int) + 1 := rfl
theorem ne_of_lt1 {a n : Nat} (h : a < n) : n + 1 ≠ a := Nat.ne_of_gt (Nat.lt_succ_of_lt h)
theorem ne_of_lt2 {a n : Nat} (h : a < n) : n + 2 ≠ a := Nat.ne_of_gt (Nat.lt_succ_of_lt (Nat.lt_succ_of_lt h))
theorem sub_more {n i : Nat} (h : i < n) : n - i = n - i - 1 + 1 := (Nat.sub_add_cancel (Nat.sub_pos_of_lt h)).symm
theorem sub_next {n i j : Nat} (h : n - i = j + 1) : n - (i + 1) = j := by rw [Nat.sub_succ, h]; rfl
end
section
open PySem PySem.Calls PyProof.Rows PySem.W PySem.Spec PyProof.Rows.LCg

def CompEndG (h₀ : Heap) (L : Addr) (m : Str → Option Value) (I : Addr) (oI : Obj) (C : Addr) (oC : Obj) (D : Addr) (oD : Obj) (S : List (Addr × Obj) → Prop) (rest : Value → List (Addr × Obj) → Shared → Prop) (y : Value) (s₂ : Shared) : Prop :=
  ∃ news', Fr h₀ L s₂.heap m ∧ News h₀ L s₂.heap ((I, oI) :: (C, oC) :: (D, oD) :: news') ∧ Off3 I C D news' ∧ S news' ∧ rest y news' s₂
def DRest (prog : Program) (w : World) (A : Around) (h₀ : Heap) (L : Addr) (m : Str → Option Value) (env : Env) (elt : Expr) (x : Str) (scope : Scope) (cl : List (Str × Addr)) (S : List (Addr × Obj) → Prop) (P : Nat → Value → Prop)
    (Fin : List (Str × Value) → List (Addr × Obj) → Shared → Prop) : Nat → Nat → List (Str × Value) → List (Addr × Obj) → Shared → Prop
  | 0, _, kvs, news, s => Fin kvs news s
  | k + 1, i, kvs, news, s => ∀ v I oI C oC D oD m₂ h tk (E' : Value → Shared → Prop), P i v → NsObj oC m₂ → m₂ x = some v → Fr h₀ L h m → News h₀ L h ((I, oI) :: (C, oC) :: (D, oD) :: news) → Off3 I C D news → ((@Ne Nat I C) ∧ (@Ne Nat I D) ∧ (@Ne Nat C D)) →
      ∃ key t, v = .str key t ∧ wpAny (model prog w) A (eval elt (compEnvC scope cl C env)) (CompEndG h₀ L m I oI C oC D oD S (fun y news' s' => DRest prog w A h₀ L m env elt x scope cl S P Fin k (i + 1) (stored kvs key y) news' s')) E' { s with heap := h, toks := tk }
section
variable {prog : Program} {w : World} {A : Around} {E : Value → Shared → Prop} {s : Shared} {h₀ : Heap} {L : Addr} {m : Str → Option Value} {env : Env}

theorem drest_shift {elt : Expr} {x : Str} {scope : Scope} {cl : List (Str × Addr)} {S : List (Addr × Obj) → Prop} {P : Nat → Value → Prop} {Fin : List (Str × Value) → List (Addr × Obj) → Shared → Prop}
    (hFin : ∀ kvs news s h tk, Fin kvs news s → Fin kvs news { s with heap := h, toks := tk }) {k i : Nat} {kvs : List (Str × Value)} {s : Shared} {h : Heap} {tk : Nat} (H : DRest prog w A h₀ L m env elt x scope cl S P Fin k i kvs news s) :
    DRest prog w A h₀ L m env elt x scope cl S P Fin k i kvs news { s with heap := h, toks := tk } := by
  cases k with
  | zero => exact hFin _ _ _ _ _ H
  | succ k => exact H
inductive CompD (prog : Program) (w : World) (A : Around) (h₀ : Heap) (L : Addr) (m : Str → Option Value) (env : Env) (elt : Expr) (x : Str) (scope : Scope) (cl : List (Str × Addr)) (I C D ax : Addr) (its : Array Value) (Fin : List (Str × Value) → List (Addr × Obj) → Shared → Prop) (k : Nat) (s' : Shared) : Prop
  | mk (i : Nat) (oD' : Obj) (kvs : List (Str × Value)) (m' : Str → Option Value) (news' : List (Addr × Obj)) (hi : i ≤ its.size) (hk : k = its.size + 1 - i) (hkl : kvs.length ≤ i) (hst : s'.heap.IsListIter I ax i) (F : Fr h₀ L s'.heap m) (hn : s'.heap.Ns C m') (N : News h₀ L s'.heap ((D, oD') :: news')) (hd : oD'.IsDictOf (strKind prog w) kvs)
      (off : Off3 I C D news') (hS : SrcAt h₀ ax its news') (R : DRest prog w A h₀ L m env elt x scope cl (SrcAt h₀ ax its) (fun i v => its[i]? = some v) Fin (its.size - i) i kvs news' s') : CompD prog w A h₀ L m env elt x scope cl I C D ax its Fin k s'
theorem dloop {elt iter : Expr} {x : Str} {px pk : Pos} {scope : Scope} {cl : List (Str × Addr)} {pos : Pos} {s₂ : Shared} {I C D ax : Addr} {its : Array Value} {S : List (Addr × Obj) → Prop} {news : List (Addr × Obj)}
    {Fin : List (Str × Value) → List (Addr × Obj) → Shared → Prop} {R : Result → Shared → Prop} (hh : A.handled = none) (hIax : I ≠ ax) (hsz : its.size ≤ sizeLine) (hdb : (x == ("__debug__" : Str)) = false)
    (hkind : scope.kind = .function) (hx : scope.names.lookup x = some .local) (S_def : S = SrcAt h₀ ax its)
    (hCI : I ≠ C) (hDI : I ≠ D) (hCD : C ≠ D) (hIL : I ≠ L) (hCL : C ≠ L) (hDL : D ≠ L) (hI₀ : h₀.get? I = none) (hC₀ : h₀.get? C = none) (hD₀ : h₀.get? D = none) (hCax : C ≠ ax) (hDax : D ≠ ax)
    {oD : Obj} {m₁ : Str → Option Value} {hs : Heap} {tks : Nat} (hit : hs.IsListIter I ax 0) (hn : hs.Ns C m₁) (hd : oD.IsDictOf (strKind prog w) [])
    (F : Fr h₀ L hs m) (N : News h₀ L hs ((D, oD) :: news)) (off : Off3 I C D news) (hS : S news)
    (hFin : ∀ kvs news s h tk, Fin kvs news s → Fin kvs news { s with heap := h, toks := tk }) (RR : DRest prog w A h₀ L m env elt x scope cl S (fun i v => its[i]? = some v) Fin its.size 0 [] news s₂)
    (hRR : ∀ s' m' oD' kvs news', Fr h₀ L s'.heap m → News h₀ L s'.heap ((D, oD') :: news') → oD'.IsDictOf (strKind prog w) kvs → Off3 I C D news' → s'.heap.Ns C m' → Fin kvs news' s' → R (.ok .next) s') :
    codeAny (model prog w) A (.compLoop (.DictComp (.Name x pk) elt [⟨.Name x px, iter, [], 0⟩] scope pos) 0 (.ref I) (.ref D) (compEnvC scope cl C env)) R { s₂ with heap := hs, toks := tks } := by
  have W := Walks.list (prog := prog) (w := w) (A := A) hh I ax (Ne.symm hIax) its
  subst S_def
  refine codeAny_compLoop_testsD
    (CompD prog w A h₀ L m env elt x scope cl I C D ax its Fin) ?_ (its.size + 1)
    (CompD.mk 0 oD [] m₁ news (Nat.zero_le _) rfl (Nat.zero_le _) hit F hn N hd off hS (drest_shift hFin RR))
  rintro k s' ⟨i, oD', kvs, m', news', hi, hkk, hkl, hst', F', hn', N', hd', off', hS', R'⟩
  have hl : s'.heap.IsList ax its := hS'.list F'.keep fun p hp => N' p (.tail _ hp)
  have off3 := off'.mem
  by_cases hlt : i < its.size
  · obtain ⟨j, hj⟩ : ∃ j, its.size - i = j + 1 := ⟨its.size - i - 1, sub_more hlt⟩
    rw [hj] at R'
    refine W.item i _ _ _ hlt ⟨hst', hl⟩ fun v h₂ tk₂ hPv hst₂ hk₂ => ?_
    refine wpAny_assign_Name (wpAny_storeName_local (lookup_relabel_local hx) (hn'.at' fun o e => hk₂ _ o (by simpa using Ne.symm hCI) e) (fun h₃ hn₃ hs₃ => ?_) (by simp [compEnvC, relabel, hkind]))
    refine wpAny_tests_nil ?_
    simp only [if_true]
    obtain ⟨oI, heI₂, cI⟩ := hst₂.1
    have heI : h₃.get? I = some oI := hs₃.extBut _ _ hCI heI₂
    obtain ⟨oC, heC, hoC⟩ := ns_obj hn₃
    have F₃ : Fr h₀ L h₃ m := (fr_but F' hk₂ (Ne.symm hIL) hI₀).change hs₃ hCL hC₀
    have N₂ : News h₀ L h₂ ((D, oD') :: news') := news_but N' hk₂ fun p hp => by
      rcases List.mem_cons.mp hp with rfl | hp
      · exact Ne.symm hDI
      · exact (off3 p hp).1
    have N₃ : News h₀ L h₃ ((I, oI) :: (C, oC) :: (D, oD') :: news') := fun p hp => by
      rcases List.mem_cons.mp hp with rfl | hp
      · exact ⟨heI, hIL, hI₀⟩
      · rcases List.mem_cons.mp hp with rfl | hp
        · exact ⟨heC, hCL, hC₀⟩
        · have z := N₂ p hp
          refine ⟨hs₃.extBut _ _ ?_ z.1, z.2⟩
          rcases List.mem_cons.mp hp with rfl | hp
          · exact Ne.symm hCD
          · exact (off3 p hp).2.1
    refine wpAny_Name (wpAny_loadName_local hkind (lookup_relabel_local hx) hn₃ (by simp; rfl) ?_) hdb
    obtain ⟨key, t, rfl, hw⟩ := R' v I oI C oC D oD' _ h₃ _ (notedBy (model prog w) A (compEnvC scope cl C env) fun e s' => R (.error e) s') hPv hoC (by simp) F₃ N₃ off' ⟨hCI, hDI, hCD⟩
    refine wpAny_mono hw (fun y s₄ h₄ => ?_) fun _ _ e => e
    obtain ⟨news₄, F₄, N₄, off₄, hS₄, R₄⟩ := h₄
    have zI := (N₄ (I, oI) List.mem_cons_self).1
    have zC := (N₄ (C, oC) (List.mem_cons_of_mem _ List.mem_cons_self)).1
    have zD := (N₄ (D, oD') (List.mem_cons_of_mem _ (List.mem_cons_of_mem _ List.mem_cons_self))).1
    have N₄' : News h₀ L s₄.heap news₄ := fun p hp => N₄ p (List.mem_cons_of_mem _ (List.mem_cons_of_mem _ (List.mem_cons_of_mem _ hp)))
    have off4 := off₄.mem
    refine wpAny_dictSet_pairs (knd := strKind prog w) (kvs := kvs) (strKind_is _ _ _ _) (Heap.dictOf_iff.mpr ⟨oD', zD, hd'⟩) (fun h₅ hd₅ hs₅ => ?_) (Nat.le_trans hkl (Nat.le_trans hi hsz))
    obtain ⟨oD5, ho5, hd5⟩ := Heap.dictOf_iff.mp hd₅
    refine ⟨its.size + 1 - (i + 1), dec_lt hlt hkk, i + 1, oD5, stored kvs key y, _, news₄, hlt, rfl, ?_, ⟨oI, hs₅.extBut _ _ hDI zI, cI⟩, F₄.change hs₅ hDL hD₀, (hoC.ns zC).sameBut hs₅ hCD, fun p hp => ?_, hd5, off₄, hS₄, ?_⟩
    · exact Nat.le_trans (stored_length_le kvs key y) (Nat.succ_le_succ hkl)
    · rcases List.mem_cons.mp hp with rfl | hp
      · exact ⟨ho5, hDL, hD₀⟩
      · exact ⟨hs₅.extBut _ _ (off4 p hp).2.2 (N₄' p hp).1, (N₄' p hp).2⟩
    · rw [sub_next hj]
      exact drest_shift hFin R₄
  · obtain rfl : i = its.size := Nat.le_antisymm hi (Nat.not_lt.mp hlt)
    rw [Nat.sub_self] at R'
    refine W.done _ _ _ ⟨hst', hl⟩ fun h₂ tk₂ hk₂ => ?_
    refine hRR _ _ oD' kvs news' (fr_but F' hk₂ (Ne.symm hIL) hI₀) (news_but N' hk₂ fun p hp => ?_) hd' off' (hn'.at' fun o e => hk₂ _ o (by simpa using Ne.symm hCI) e) (hFin _ _ _ _ _ R')
    rcases List.mem_cons.mp hp with rfl | hp
    · exact Ne.symm hDI
    · exact (off3 p hp).1
def DFin (prog : Program) (w : World) (h₀ : Heap) (L : Addr) (m : Str → Option Value) (y : Str) (Q : Flow → Shared → Prop) (kvs : List (Str × Value)) (news : List (Addr × Obj)) (s : Shared) : Prop :=
  ∀ (D : Nat) oD h tk, Fr h₀ L h (fun z => if z = y then some (.ref D) else m z) → News h₀ L h ((D, oD) :: news) → oD.IsDictOf (strKind prog w) kvs → (∀ p ∈ news, p.1 ≠ D) → L < D → Q .next { s with heap := h, toks := tk }
theorem Assign_DComp {elt iter : Expr} {x y : Str} {px py pk : Pos} {scope : Scope} {cl : List (Str × Addr)} {pos spos : Pos} {Q : Flow → Shared → Prop} (_F : Fr h₀ L s.heap m) (hLe : env.locals = L)
    (hsw : swapsWith (.DictComp (.Name x pk) elt [⟨.Name x px, iter, [], 0⟩] scope pos) (some (.Name y py)) spos.line env = pure true)
    (hclos : closureFor scope env = pure cl) (hcell : ∀ z ∈ scope.names, z.2 ≠ .cell) (hkind : scope.kind = .function)
    (hnames : ∀ z ∈ scope.names, z.2 = .local → scope.names.lookup z.1 = some .local) (hx : scope.names.lookup x = some .local) (hdb : (x == ("__debug__" : Str)) = false)
    (hy : env.kindOf y = some .local) (hp : (env.scope.kind == .class || (env.scope.kind == .module && env.locals != env.globals)) = false) (hh : A.handled = none)
    (h : wpAny (model prog w) A (eval iter env) (fun xv s₁ => ∃ ax its k news, xv = .ref ax ∧ Fr h₀ L s₁.heap m ∧ News h₀ L s₁.heap news ∧ (ax, listOf its k) ∈ news ∧ its.size ≤ sizeLine ∧
      DRest prog w A h₀ L m env elt x scope cl (SrcAt h₀ ax its) (fun i v => its[i]? = some v) (DFin prog w h₀ L m y Q) its.size 0 [] news s₁) E s)
    (hs : ∀ x, foldedSetIterable iter env x = pure x := by intro _; rfl) :
    wpAny (model prog w) A (exec (.Assign [.Name y py] (.DictComp (.Name x pk) elt [⟨.Name x px, iter, [], 0⟩] scope pos) spos) env) Q E s := by
  subst hLe
  rw [exec_Assign_Name_used _ _ _ _ hsw]
  refine wpAny_bind (wpAny_standAt (wpAny_bind ?_))
  show wpAny _ A (do let _ ← comprehension (.DictComp (.Name x pk) elt [⟨.Name x px, iter, [], 0⟩] scope pos) scope env _ newDict false (eval iter env) (some (assign (.Name y py) env))) _ _ s
  refine wpAny_bind (wpAny_mono (wpAny_comprehension_free (use := some (assign (.Name y py) env)) (Q := fun _ s' => Q .next s') rfl hs hclos hkind hnames
    (wpAny_mono h (fun xv s₁ h₁ => ?_) fun _ _ e => e)) (fun _ s' hq => wpAny_pure (wpAny_pure hq)) fun _ _ e => e)
  obtain ⟨ax, its, k, news, rfl, F, N, hm, hsz, R⟩ := h₁
  have hl : s₁.heap.IsList ax its := listOf_isList (N.get hm)
  have hlt : ax < s₁.heap.objs.size := Heap.lt_size (N.get hm)
  refine wpAny_pyIter_list hl ?_
  have hI := kdx_fresh F (Nat.le_refl s₁.heap.objs.size)
  have hD := kdx_fresh F (Nat.le_succ s₁.heap.objs.size)
  have hC := kdx_fresh F (Nat.le_succ_of_le (Nat.le_succ s₁.heap.objs.size))
  generalize hn : s₁.heap.objs.size = n at hI hD hC hlt ⊢
  generalize hH1 : s₁.heap.push { cls := .type "list_iterator", data := .fields #[.ref ax, .int 0 0] } = H1
  have z1 : H1.objs.size = n + 1 := by rw [← hH1, Heap.size_push, hn]
  have k1 : ∀ b o, s₁.heap.get? b = some o → H1.get? b = some o := fun b o e => hH1 ▸ Heap.get?_push_of_some _ e
  have g1 : H1.get? n = some { cls := .type "list_iterator", data := .fields #[.ref ax, .int 0 0] } := by rw [← hH1, ← hn]; exact Heap.get?_push_size _ rfl
  refine wpAny_newObj_type ?_
  dsimp only
  generalize hH2 : H1.push { cls := .type "dict", dict := none, data := .dict #[] } = H2
  have z2 : H2.objs.size = n + 2 := by rw [← hH2, Heap.size_push, z1]
  have k2 : ∀ b o, H1.get? b = some o → H2.get? b = some o := fun b o e => hH2 ▸ Heap.get?_push_of_some _ e
  have g2 : H2.get? (n + 1) = some { cls := .type "dict", dict := none, data := .dict #[] } := by rw [← hH2, ← z1]; exact Heap.get?_push_size _ rfl
  refine wpAny_newFunctionEnv hcell (by intro y hy; simp at hy) (fun h₁ hns₁ hsb₁ => ?_) hkind
  dsimp only at hns₁ hsb₁ ⊢
  rw [z2] at hns₁ hsb₁ ⊢
  rw [z1]
  have k3 : ∀ b o, b < n + 2 → H2.get? b = some o → h₁.get? b = some o := fun b o hb e => hsb₁.extBut b o (Nat.ne_of_lt hb) (Heap.get?_push_of_some _ e)
  have up : ∀ b o, s₁.heap.get? b = some o → h₁.get? b = some o := fun b o e => k3 b o (by have := Heap.lt_size e; rw [hn] at this; exact Nat.lt_succ_of_lt (Nat.lt_succ_of_lt this)) (k2 b o (k1 b o e))
  have below : ∀ p ∈ news, p.1 < n := fun p hp => by have := Heap.lt_size (N p hp).1; rw [hn] at this; exact this
  have F1 : Fr h₀ env.locals h₁ m := F.keeps up
  have hit : h₁.IsListIter n ax 0 := ⟨_, k3 _ _ (Nat.lt_succ_of_lt (Nat.lt_succ_self n)) (k2 _ _ g1), rfl, rfl⟩
  have hD1 : h₁.get? (n + 1) = some { cls := .type "dict", dict := none, data := .dict #[] } := k3 _ _ (Nat.lt_succ_self (n + 1)) g2
  have hdd : ({ cls := .type "dict", dict := none, data := .dict #[] } : Obj).IsDictOf (strKind prog w) [] := ⟨#[], 0, ⟨rfl, rfl, rfl⟩, rfl, fun _ he => by simp at he, Pairs.nil, List.nodup_nil⟩
  have N1 : News h₀ env.locals h₁ ((n + 1, { cls := .type "dict", dict := none, data := .dict #[] }) :: news) := fun p hp => by
    rcases List.mem_cons.mp hp with rfl | hp
    · exact ⟨hD1, hD⟩
    · exact ⟨up _ _ (N p hp).1, (N p hp).2⟩
  have off : Off3 n (n + 2) (n + 1) news := Off3.of fun p hp => ⟨Nat.ne_of_lt (below p hp), Nat.ne_of_lt (Nat.lt_succ_of_lt (Nat.lt_succ_of_lt (below p hp))), Nat.ne_of_lt (Nat.lt_succ_of_lt (below p hp))⟩
  have hS : SrcAt h₀ ax its news := .inr ⟨_, hm, rfl, _, rfl⟩
  have e1 : @Ne Nat n (n + 2) := Nat.ne_of_lt (Nat.lt_succ_of_lt (Nat.lt_succ_self n))
  have e2 : @Ne Nat n (n + 1) := (Nat.succ_ne_self n).symm
  have e3 : @Ne Nat (n + 2) (n + 1) := Nat.succ_ne_self (n + 1)
  have e4 : @Ne Nat (n + 2) ax := ne_of_lt2 hlt
  have e5 : @Ne Nat (n + 1) ax := ne_of_lt1 hlt
  have e6 : @LT.lt Nat _ env.locals (n + 1) := by have h9 : @LT.lt Nat _ env.locals s₁.heap.objs.size := F.ns.lt; rw [hn] at h9; exact Nat.lt_succ_of_lt h9
  have loop : ∀ tks, codeAny (model prog w) A (.compLoop (.DictComp (.Name x pk) elt [⟨.Name x px, iter, [], 0⟩] scope pos) 0 (.ref n) (.ref (n + 1)) (compEnvC scope cl (n + 2) env))
      (compPost (model prog w) A E (some (assign (.Name y py) env)) (fun x s' => Q Flow.next s') (.ref (n + 1)) (n + 2)) { s₁ with heap := h₁, toks := tks } := fun tks =>
    dloop hh (Ne.symm (Nat.ne_of_lt hlt)) hsz hdb hkind hx rfl e1 e2 e3 hI.1 hC.1 hD.1 hI.2 hC.2 hD.2 e4 e5 hit hns₁ hdd F1 N1 off hS (fun _ _ _ _ _ x => x) R fun s9 m' oD' kvs news' F' N' hd' off' hn' fin => by
      show wpAny _ A (assign (.Name y py) env (.ref (n + 1))) _ _ _
      refine wpAny_assign_Name (wpAny_storeName_local hy F'.ns (fun h₂ hn₂ hs₂ => ?_) hp)
      have hL₀ : h₀.get? env.locals = none := Heap.get?_none_of_le F'.above
      have F₂ : Fr h₀ env.locals h₂ (fun z => if z = y then some (.ref (n + 1)) else m z) := ⟨hn₂, fun b o e => hs₂.extBut b o (fun q => by rw [q, hL₀] at e; cases e) (F'.keep b o e), F'.above⟩
      have off3 := off'.mem
      refine ⟨m', hn'.sameBut hs₂ hC.1, fun h'' hs'' => fin (n + 1) oD' h'' _ (F₂.change hs'' hC.1 hC.2) (fun p hp => ?_) hd' (fun p hp => (off3 p hp).2.2) e6⟩
      have z : h₂.get? p.1 = some p.2 := hs₂.extBut _ _ (N' p hp).2.1 (N' p hp).1
      refine ⟨hs''.extBut _ _ ?_ z, (N' p hp).2⟩
      rcases List.mem_cons.mp hp with rfl | hp
      · exact Ne.symm e3
      · exact (off3 p hp).2.1
  exact codeAny_compStart_dict (loop _) ((Walks.list (prog := prog) (w := w) (A := A) hh n ax (Nat.ne_of_lt hlt) its).self 0 _ _ _ ⟨hit, hS.list F1.keep (fun p hp => N1 p (.tail _ hp))⟩ (loop _))
theorem ld_cell {x : Str} {pos : Pos} {v : Value} {o : Obj} {c C : Addr} {scope : Scope} {cl : List (Str × Addr)} {news : List (Addr × Obj)} {Q : Value → Shared → Prop} (N : News h₀ L s.heap news) (hc : (compEnvC scope cl C env).cells.lookup x = some c) (hm : (c, o) ∈ news) (hd : o.data = .cell (some v)) (h : Q v s)
    (hk : (compEnvC scope cl C env).scope.kind = .function := by rfl) (hx : (compEnvC scope cl C env).kindOf x = some .cell := by rfl) (hb : (x == ("__debug__" : Str)) = false := by decide) :
    wpAny (model prog w) A (eval (.Name x pos) (compEnvC scope cl C env)) Q E s := wpAny_Name (wpAny_loadName_cell hk hx hc ⟨o, N.get hm, hd⟩ h) hb
theorem compEnd_push {I C D R : Addr} {o oI oC oD : Obj} {S : List (Addr × Obj) → Prop} {rest : Value → List (Addr × Obj) → Shared → Prop} {y : Value} {s₂ : Shared} {news : List (Addr × Obj)} (F : Fr h₀ L s₂.heap m) (N : News h₀ L s₂.heap ((R, o) :: (I, oI) :: (C, oC) :: (D, oD) :: news)) (off : Off3 I C D news)
    (l : ∀ p ∈ (I, oI) :: (C, oC) :: (D, oD) :: news, p.1 < R) (hS : S ((R, o) :: news)) (r : rest y ((R, o) :: news) s₂) : CompEndG h₀ L m I oI C oC D oD S rest y s₂ := by
  refine ⟨(R, o) :: news, F, fun p hp => N p ?_, ⟨⟨Nat.ne_of_gt (l _ (.head _)), Nat.ne_of_gt (l _ (.tail _ (.head _))), Nat.ne_of_gt (l _ (.tail _ (.tail _ (.head _))))⟩, off⟩, hS, r⟩
  rcases List.mem_cons.mp hp with rfl | hp
  · exact .tail _ (.head _)
  · rcases List.mem_cons.mp hp with rfl | hp
    · exact .tail _ (.tail _ (.head _))
    · rcases List.mem_cons.mp hp with rfl | hp
      · exact .tail _ (.tail _ (.tail _ (.head _)))
      · rcases List.mem_cons.mp hp with rfl | hp
        · exact .head _
        · exact .tail _ (.tail _ (.tail _ (.tail _ hp)))
end
end
section
open PySem PySem.Calls PyProof.Rows PySem.W PySem.Spec
def AllNe (D : Nat) : List (Addr × Obj) → Prop
  | [] => True
  | p :: r => (@Ne Nat p.1 D) ∧ AllNe D r
theorem allNe_of {D : Nat} : ∀ {l : List (Addr × Obj)}, (∀ p ∈ l, p.1 ≠ D) → AllNe D l
  | [], _ => trivial
  | _ :: _, h => ⟨h _ (.head _), allNe_of fun p hp => h p (.tail _ hp)⟩
inductive TruthL : Obj → Bool → Prop
  | e0 {n} : TruthL (listOf #[] n) false
  | s0 {n} : TruthL (listOf (strValues []).toArray n) false
  | s1 {a n} : TruthL (listOf (strValues [a]).toArray n) true
section
variable {prog : Program} {w : World} {A : Around} {E : Value → Shared → Prop} {s : Shared} {h₀ : Heap} {L : Addr} {m : Str → Option Value} {news : List (Addr × Obj)}
theorem truthyL0 {a : Addr} {n : Nat} {Q : Bool → Shared → Prop} (N : News h₀ L s.heap news) (hm : (a, listOf #[] n) ∈ news) (h : Q false { s with toks := s.toks + 1 + 1 }) : wpAny (model prog w) A (truthy (.ref a)) Q E s :=
  wpAny_truthy_list (items := #[]) ⟨_, N.get hm, rfl, n, rfl⟩ (by decide) h
theorem truthyL1 {a : Addr} {n : Nat} {x : Value} {xs : List Value} {Q : Bool → Shared → Prop} (N : News h₀ L s.heap news) (hm : (a, listOf (x :: xs).toArray n) ∈ news) (hz : (x :: xs).length < 1000) (h : Q true { s with toks := s.toks + 1 + 1 }) : wpAny (model prog w) A (truthy (.ref a)) Q E s :=
  wpAny_truthy_list (items := (x :: xs).toArray) ⟨_, N.get hm, rfl, n, rfl⟩ (by rw [List.size_toArray]; lia) (by simpa using h)
theorem truthyD0 {a : Addr} {o : Obj} {Q : Bool → Shared → Prop} (N : News h₀ L s.heap news) (hm : (a, o) ∈ news) (hd : o.IsDictOf (strKind prog w) []) (hs : (a == sysModules) = false) (h : Q false { s with toks := s.toks + 1 + 1 }) : wpAny (model prog w) A (truthy (.ref a)) Q E s :=
  wpAny_truthy_dict (knd := strKind prog w) (kvs := []) hs (Heap.dictOf_iff.mpr ⟨o, N.get hm, hd⟩) (by decide) h
theorem truthyD1 {a : Addr} {o : Obj} {kv : Str × Value} {kvs : List (Str × Value)} {Q : Bool → Shared → Prop} (N : News h₀ L s.heap news) (hm : (a, o) ∈ news) (hd : o.IsDictOf (strKind prog w) (kv :: kvs)) (hs : (a == sysModules) = false) (hz : (kv :: kvs).length < 1000) (h : Q true { s with toks := s.toks + 1 + 1 }) : wpAny (model prog w) A (truthy (.ref a)) Q E s :=
  wpAny_truthy_dict (knd := strKind prog w) (kvs := kv :: kvs) hs (Heap.dictOf_iff.mpr ⟨o, N.get hm, hd⟩) (by lia) (by simpa using h)
theorem itemLast {value slice : PySem.Expr} {l : Addr} {ys : List Value} {v : Value} {n : Nat} {u : Tok} {Q : Value → Shared → Prop} (N : News h₀ L s.heap news) (hm : (l, listOf (ys ++ [v]).toArray n) ∈ news) (hz : ys.length < 1000) (h : Q v s)
    (hs : subscripted slice false (.ref l) (.int (-1) u) = operate [.ref l, .int (-1) u] (getItem (.ref l) (.int (-1) u)) := by with_unfolding_all rfl) :
    wpAny (model prog w) A (subscriptTail value slice (.ref l) (.int (-1) u)) Q E s := by
  have hl : s.heap.IsList l (ys ++ [v]).toArray := ⟨_, N.get hm, rfl, n, rfl⟩
  refine tail_any hl.typeIs slot_list_getitem.lookup (wpAny_getItem_list_neg hl (by decide) (by simp; lia) (by decide) (x := v) ?_ h) hs
  have e : ((-1 : Int) + ((ys ++ [v]).toArray.size : Int)).toNat = ys.length := by simp; lia
  rw [e]
  simp
theorem appL {D : Addr} {l : List Value} {n : Nat} {x : Value} {news' : List (Addr × Obj)} {Q : Value → Shared → Prop} (F : Fr h₀ L s.heap m) (N : News h₀ L s.heap news) (U : Upd D (listOf l.toArray n) (listOf (l ++ [x]).toArray (n + 1)) news news')
    (hz : l.length ≤ 2000) (h : ∀ h', Fr h₀ L h' m → News h₀ L h' news' → Q .none { s with heap := h' }) : wpAny (model prog w) A (call (.builtin "list.append") [.ref D, x]) Q E s := by
  obtain ⟨pre, post, rfl, rfl, a, b⟩ := U.split
  have z := N (D, listOf l.toArray n) (List.mem_append.mpr (.inr (.head _)))
  refine wpAny_call_entry PySem.F.slot_list_append ⟨_, z.1, rfl⟩ PySem.F.entry_list_append ?_ (PySem.F.args_list_append_2 _ _)
  show wpAny _ _ (updateSeq D (·.push x) >>= fun _ => ret .none) _ _ s
  refine wpAny_bind ?_
  refine wpAny_updateSeq z.1 rfl (wpAny_pure ⟨_, rfl, ?_⟩) (by rw [List.size_toArray, sizeLine_eq]; lia) (by rw [Array.size_push, List.size_toArray, sizeLine_eq]; lia)
  have hs := Heap.SameBut.update D (Obj.mapSeq (·.push x)) (h := s.heap)
  have e : l.toArray.push x = (l ++ [x]).toArray := by simp
  refine h _ (F.change hs z.2.1 z.2.2) (news_set N a b hs ?_)
  rw [Heap.get?_update_self _ z.1 (by rw [mapSeq_push]; rfl), mapSeq_push, e]
theorem dictItem {value slice : PySem.Expr} {d : Addr} {o : Obj} {kvs : List (Str × Value)} {x : Str} {t : Tok} {v : Value} {Q : Value → Shared → Prop} (N : News h₀ L s.heap news) (hp : (d, o) ∈ news) (hd : o.IsDictOf (strKind prog w) kvs) (hl : PySem.valueAt kvs x = some v) (h : Q v { s with toks := s.toks + 1 })
    (hs : subscripted slice false (.ref d) (.str x t) = operate [.ref d, .str x t] (getItem (.ref d) (.str x t)) := by with_unfolding_all rfl) : wpAny (model prog w) A (subscriptTail value slice (.ref d) (.str x t)) Q E s :=
  kdt_tail (knd := strKind prog w) N hp hd (kdt_getItem (knd := strKind prog w) N hp hd (strKind_is _ _ _ _) hl h) hs
theorem valueAt_one {x : Str} {v : Value} : PySem.valueAt [(x, v)] x = some v := by simp [PySem.valueAt]
theorem tupItem {value slice : PySem.Expr} {a : Addr} {vs : List Value} {k : Nat} {u : Tok} {v : Value} {Q : Value → Shared → Prop} (N : News h₀ L s.heap news) (hm : (a, tupOf vs) ∈ news) (hk : k < vs.length) (hz : vs.length < 1000) (hx : vs[k]? = some v) (h : Q v s)
    (hs : subscripted slice false (.ref a) (.int (k : Int) u) = operate [.ref a, .int (k : Int) u] (getItem (.ref a) (.int (k : Int) u)) := by with_unfolding_all rfl) :
    wpAny (model prog w) A (subscriptTail value slice (.ref a) (.int (k : Int) u)) Q E s := by
  refine item_tupleT (l := vs) (j := k) ⟨_, N.get hm, rfl, 0, rfl⟩ (by lia) (by lia) ?_ hx h hs
  unfold seqIndex?
  simp
  lia
theorem tupItem0 {value slice : PySem.Expr} {a : Addr} {vs : List Value} {u : Tok} {v : Value} {Q : Value → Shared → Prop} (N : News h₀ L s.heap news) (hm : (a, tupOf vs) ∈ news) (hk : 0 < vs.length) (hz : vs.length < 1000) (hx : vs[0]? = some v) (h : Q v s)
    (hs : subscripted slice false (.ref a) (.int 0 u) = operate [.ref a, .int 0 u] (getItem (.ref a) (.int 0 u)) := by with_unfolding_all rfl) :
    wpAny (model prog w) A (subscriptTail value slice (.ref a) (.int 0 u)) Q E s := tupItem (k := 0) N hm hk hz hx h hs
theorem truthyT {a : Addr} {o : Obj} {b : Bool} {Q : Bool → Shared → Prop} (N : News h₀ L s.heap news) (hm : (a, o) ∈ news) (T : TruthL o b) (h : Q b { s with toks := s.toks + 1 + 1 }) : wpAny (model prog w) A (truthy (.ref a)) Q E s := by
  cases T with
  | e0 => exact truthyL0 N hm h
  | s0 => exact truthyL0 N hm h
  | s1 => exact truthyL1 N hm (by simp) h
theorem mapSeq_list {f : Array Value → Array Value} {its : Array Value} {n : Nat} (h : (f its).size ≠ its.size) : Obj.mapSeq f (listOf its n) = listOf (f its) (n + 1) := by simp [Obj.mapSeq, h]
theorem popL {D : Addr} {l : List Value} {n : Nat} {x : Value} {news' : List (Addr × Obj)} {Q : Value → Shared → Prop} (F : Fr h₀ L s.heap m) (N : News h₀ L s.heap news) (U : Upd D (listOf (l ++ [x]).toArray n) (listOf l.toArray (n + 1)) news news')
    (hz : l.length ≤ 2000) (h : ∀ h', Fr h₀ L h' m → News h₀ L h' news' → Q x { s with heap := h' }) : wpAny (model prog w) A (call (.builtin "list.pop") [.ref D]) Q E s := by
  obtain ⟨pre, post, rfl, rfl, a, b⟩ := U.split
  have z := N (D, listOf (l ++ [x]).toArray n) (List.mem_append.mpr (.inr (.head _)))
  have hsz : (l ++ [x]).toArray.size = l.length + 1 := by simp
  refine call_meets PySem.F.slot_list_pop ⟨_, z.1, rfl⟩ PySem.F.entry_list_pop (PySem.F.args_list_pop_1 _) (PySem.MeetsSeq.list_pop_last D (l ++ [x]).toArray n x (by rw [hsz]; simp) (by rw [hsz, sizeLine_eq]; lia)) ⟨z.1, ?_⟩
  have hs := Heap.SameBut.update D (Obj.mapSeq fun xs => xs.eraseIdxIfInBounds ((l ++ [x]).toArray.size - 1)) (h := s.heap)
  refine h _ (F.change hs z.2.1 z.2.2) (news_set N a b hs ?_)
  have e : (l ++ [x]).toArray.eraseIdxIfInBounds ((l ++ [x]).toArray.size - 1) = l.toArray := by
    rw [hsz]
    apply Array.ext'
    unfold Array.eraseIdxIfInBounds
    rw [dif_pos (by simp), Array.toList_eraseIdx]
    show (l ++ [x]).eraseIdx (l.length + 1 - 1) = l
    rw [Nat.add_sub_cancel, List.eraseIdx_append_of_length_le (Nat.le_refl _)]
    simp
  have e2 : Obj.mapSeq (fun xs => xs.eraseIdxIfInBounds ((l ++ [x]).toArray.size - 1)) (listOf (l ++ [x]).toArray n) = listOf l.toArray (n + 1) := by
    rw [mapSeq_list (by (try dsimp only); rw [e, hsz, List.size_toArray]; lia), e]
  have g := Heap.get?_update_self (Obj.mapSeq fun xs => xs.eraseIdxIfInBounds ((l ++ [x]).toArray.size - 1)) z.1 (by rw [e2]; rfl)
  rw [e2] at g
  exact g
theorem lenL {D : Addr} {l : List Value} {n : Nat} {Q : Value → Shared → Prop} (N : News h₀ L s.heap news) (hm : (D, listOf l.toArray n) ∈ news) (hz : l.length ≤ 2000) (h : Q (.int (l.length : Int) (s.toks + 1)) { s with toks := s.toks + 1 + 1 }) : wpAny (model prog w) A (call (.builtin "len") [.ref D]) Q E s :=
  Calls.call_len_list (items := l.toArray) ⟨_, N.get hm, rfl, n, rfl⟩ (by rw [List.size_toArray]; lia) (by rw [List.size_toArray]; exact h)
end
end
section
open PySem PySem.W PyProof.Rows PySem.Calls PySem.Spec
noncomputable abbrev P3 := PySem.Challenge.rw_pg0301_03.row.prog
noncomputable abbrev lo3 : List Str :=
    (looseW hd3.view_39
            [Str.ofString "_twin_re_1", Str.ofString "_namespace_map", Str.ofString "_looks_like_prefix_name",
              Str.ofString "C14NWriterTarget"] ++
          List.map (fun x => x.name) (recsOf hd3.view_39) ++
        List.map (fun x => x.fst) (litsOf hd3.view_39) ++
      List.map (fun x => x.name)
        (clssOf hd3.view_39
          (looseW hd3.view_39
            [Str.ofString "_twin_re_1", Str.ofString "_namespace_map", Str.ofString "_looks_like_prefix_name",
              Str.ofString "C14NWriterTarget"])))
noncomputable abbrev en (P : Params) (n : String) (tk : Tok) (v : Value) : DictEntry := ⟨PyData.keyHash P (Str.ofString n), .str (Str.ofString n) tk, v⟩
noncomputable abbrev wdict (P : Params) (tk : Nat → Tok) (q dl nsd ns pm ps pend : Value) (seen done : Bool) (t0 : Tok): List DictEntry := [
  en P "_write" (tk 0) q, en P "_data" (tk 1) dl, en P "_with_comments" (tk 2) (.bool false), en P "_strip_text" (tk 3) (.bool false),
  en P "_exclude_attrs" (tk 4) .none, en P "_exclude_tags" (tk 5) .none, en P "_rewrite_prefixes" (tk 6) (.bool false),
  en P "_qname_aware_tags" (tk 7) .none, en P "_find_qname_aware_attrs" (tk 8) .none,
  en P "_declared_ns_stack" (tk 9) nsd, en P "_ns_stack" (tk 10) ns, en P "_prefix_map" (tk 11) pm, en P "_preserve_space" (tk 12) ps,
  en P "_pending_start" (tk 13) pend, en P "_root_seen" (tk 14) (.bool seen), en P "_root_done" (tk 15) (.bool done), en P "_ignored_depth" (tk 16) (.int 0 t0)]
abbrev tStr (s : String) (t : Tok) : Value := .str (Str.ofString s) t
noncomputable abbrev wCells (P : Params) (tk : Nat → Tok) (t0 : Tok) (wd wr q pc dl nsd ns pm ps : Nat) (seen done : Bool) (pcs : List (Str × Tok)) (dts : List (Str × Tok)) (nsds nss pss : List Value) (tb : Array Value) (e0 e1 e2 e3 e4 e5 : Nat) (rest : List (Addr × Obj)) : List (Addr × Obj) :=
  (wd, dictOf (wdict P tk (.ref q) (.ref dl) (.ref nsd) (.ref ns) (.ref pm) (.ref ps) .none seen done t0) e0) :: (wr, instObj 157 wd) :: (q, bfmObj "list.append" (.ref pc)) ::
  (pc, listOf (strValues pcs).toArray e1) :: (dl, listOf (strValues dts).toArray e2) :: (nsd, listOf nsds.toArray e3) :: (ns, listOf nss.toArray e4) :: (ps, listOf pss.toArray e5) :: (130, tabObj tb) :: rest
def WOrd (wd wr q pc dl nsd ns pm ps : Nat) : Prop := 130 < pc ∧ pc < q ∧ q < wd ∧ wd < wr ∧ wr < dl ∧ dl < nsd ∧ nsd < ns ∧ ns < pm ∧ pm < ps
def WOff (wd pc dl nsd ns ps : Nat) (rest : List (Addr × Obj)) : Prop := (∀ p ∈ rest, p.1 ≠ 130) ∧ (∀ p ∈ rest, p.1 ≠ pc) ∧ (∀ p ∈ rest, p.1 ≠ wd) ∧ (∀ p ∈ rest, p.1 ≠ dl) ∧ (∀ p ∈ rest, p.1 ≠ nsd) ∧ (∀ p ∈ rest, p.1 ≠ ns) ∧ (∀ p ∈ rest, p.1 ≠ ps)
theorem strValues_push {l : List (Str × Tok)} {x : Str} {t : Tok} : (strValues l).toArray.push (.str x t) = (strValues (l ++ [(x, t)])).toArray := by simp [strValues]
end
section
open PySem PySem.W PyProof.Rows PySem.Calls PySem.Spec
inductive InA (a : Nat) : List (Addr × Obj) → Prop
  | head {o : Obj} {l : List (Addr × Obj)} : InA a ((a, o) :: l)
  | tail {q : Addr × Obj} {l : List (Addr × Obj)} (h : InA a l) : InA a (q :: l)
inductive Suf (r : List (Addr × Obj)) : List (Addr × Obj) → Prop
  | here : Suf r r
  | tail {q : Addr × Obj} {l : List (Addr × Obj)} (h : Suf r l) : Suf r (q :: l)
inductive Has (b : Nat) : List Nat → Prop
  | head {l : List Nat} : Has b (b :: l)
  | tail {x : Nat} {l : List Nat} (h : Has b l) : Has b (x :: l)
inductive Bef (a b : Nat) : List Nat → Prop
  | head {l : List Nat} (h : Has b l) : Bef a b (a :: l)
  | tail {x : Nat} {l : List Nat} (h : Bef a b l) : Bef a b (x :: l)
theorem InA.mem {a : Nat} {l : List (Addr × Obj)} (h : InA a l) : ∃ o, (a, o) ∈ l := by
  induction h with
  | head => exact ⟨_, .head _⟩
  | tail _ ih => obtain ⟨o, h⟩ := ih; exact ⟨o, .tail _ h⟩
theorem Suf.mem {r l : List (Addr × Obj)} (h : Suf r l) : ∀ p ∈ r, p ∈ l := by
  induction h with
  | here => exact fun _ h => h
  | tail _ ih => exact fun p hp => .tail _ (ih p hp)
theorem lt_in {a d : Nat} {l : List (Addr × Obj)} (h : ∀ p ∈ l, p.1 < d) (m : InA a l) : a < d := by
  obtain ⟨o, m⟩ := m.mem
  exact h _ m
theorem ne_suf {d : Nat} {l r : List (Addr × Obj)} (h : ∀ p ∈ l, p.1 < d) (m : Suf r l) : ∀ p ∈ r, p.1 ≠ d := fun p hp => Nat.ne_of_lt (h p (m.mem p hp))
theorem lt_suf {d : Nat} {l r : List (Addr × Obj)} (h : ∀ p ∈ l, p.1 < d) (m : Suf r l) : ∀ p ∈ r, p.1 < d := fun p hp => h p (m.mem p hp)
theorem far_suf {d : Nat} {l r : List (Addr × Obj)} (h : ∀ p ∈ l, p.1 < d) (m : Suf r l) : (∀ p ∈ r, p.1 ≠ d + 1) ∧ (∀ p ∈ r, p.1 ≠ d + 1 + 1) := ⟨fun p hp => Nat.ne_of_lt (Nat.lt_succ_of_lt (h p (m.mem p hp))), fun p hp => Nat.ne_of_lt (Nat.lt_succ_of_lt (Nat.lt_succ_of_lt (h p (m.mem p hp))))⟩
theorem ne_cons {d : Nat} {q : Addr × Obj} {l : List (Addr × Obj)} (h : q.1 ≠ d) (r : ∀ p ∈ l, p.1 ≠ d) : ∀ p ∈ q :: l, p.1 ≠ d := List.forall_mem_cons.mpr ⟨h, r⟩
theorem sub_c {q : Addr × Obj} {l big : List (Addr × Obj)} (h : q ∈ big) (r : ∀ p ∈ l, p ∈ big) : ∀ p ∈ q :: l, p ∈ big := List.forall_mem_cons.mpr ⟨h, r⟩
theorem news_c {h₀ h : Heap} {L : Addr} {l big : List (Addr × Obj)} {p : Addr × Obj} (N : News h₀ L h big) (m : p ∈ big) (r : News h₀ L h l) : News h₀ L h (p :: l) := List.forall_mem_cons.2 ⟨N _ m, r⟩
theorem Has.mem {b : Nat} {l : List Nat} (h : Has b l) : b ∈ l := by
  induction h with
  | head => exact .head _
  | tail _ ih => exact .tail _ ih
theorem lt_bef {a b : Nat} {l : List Nat} (h : l.Pairwise (· < ·)) (m : Bef a b l) : a < b := by
  induction m with
  | head hb => exact (List.pairwise_cons.mp h).1 _ hb.mem
  | tail _ ih => exact ih (List.pairwise_cons.mp h).2
theorem pw_cons {a b : Nat} {l : List Nat} (h : a < b) (p : (b :: l).Pairwise (· < ·)) : (a :: b :: l).Pairwise (· < ·) := by
  refine List.pairwise_cons.mpr ⟨fun c hc => ?_, p⟩
  rcases List.mem_cons.mp hc with rfl | hc
  · exact h
  · exact Nat.lt_trans h ((List.pairwise_cons.mp p).1 c hc)
theorem lt_wo {a b wd wr q pc dl nsd ns pm ps : Nat} (h : WOrd wd wr q pc dl nsd ns pm ps) (m : Bef a b [130, pc, q, wd, wr, dl, nsd, ns, pm, ps]) : a < b := by
  obtain ⟨o1, o2, o3, o4, o5, o6, o7, o8, o9⟩ := h
  exact lt_bef (pw_cons o1 (pw_cons o2 (pw_cons o3 (pw_cons o4 (pw_cons o5 (pw_cons o6 (pw_cons o7 (pw_cons o8 (pw_cons o9 (List.pairwise_singleton _ _)))))))))) m
end
section
open PySem PySem.W PyProof.Rows PySem.Calls PySem.Spec
theorem bl {a b : Nat} (e : Nat.ble a b = true) : a ≤ b := Nat.le_of_ble_eq_true e
theorem rm0 {d a L : Nat} (h : d + a < L) : d < L := Nat.lt_of_le_of_lt (Nat.le_add_right d a) h
theorem rm1 {d a b L : Nat} (h : d + a < L) (e : Nat.ble b a = true) : d + b < L := Nat.lt_of_le_of_lt (Nat.add_le_add_left (bl e) d) h
theorem rm2 {d a b c L : Nat} (h : d + a < L) (e : Nat.ble (b + c) a = true) : d + b + c < L := by rw [Nat.add_assoc]; exact rm1 h e
theorem rm3 {d a b c f L : Nat} (h : d + a < L) (e : Nat.ble (b + (c + f)) a = true) : d + b + c + f < L := by rw [Nat.add_assoc]; exact rm2 h e
theorem rm4 {d a b c f g L : Nat} (h : d + a < L) (e : Nat.ble (b + (c + (f + g))) a = true) : d + b + c + f + g < L := by rw [Nat.add_assoc]; exact rm3 h e
theorem rnA {d m a L : Nat} (h : d + m + a < L) : d + a < L := Nat.lt_of_le_of_lt (Nat.add_le_add_right (Nat.le_add_right d m) a) h
theorem rn0 {d m a L : Nat} (h : d + m + a < L) : d < L := rm0 (rnA h)
theorem rn1 {d m a b L : Nat} (h : d + m + a < L) (e : Nat.ble b a = true) : d + b < L := rm1 (rnA h) e
theorem rn2 {d m a b c L : Nat} (h : d + m + a < L) (e : Nat.ble (b + c) a = true) : d + b + c < L := rm2 (rnA h) e
theorem rr {d k n a b L : Nat} (h : d + k * (n + 1) + a < L) (e : Nat.ble b k = true) : d + b + k * n + a < L := by
  refine Nat.lt_of_le_of_lt (Nat.add_le_add_right ?_ a) h
  rw [Nat.mul_succ, Nat.add_assoc, Nat.add_comm b]
  exact Nat.add_le_add_left (Nat.add_le_add_left (bl e) _) d
theorem l0 {x a b : Nat} (h : x ≤ a) (e : Nat.ble a b = true) : x ≤ b := Nat.le_trans h (bl e)
theorem l1 {x a b c : Nat} (h : x ≤ a) (e : Nat.ble (a + c) b = true) : x + c ≤ b := Nat.le_trans (Nat.add_le_add_right h c) (bl e)
theorem s1 {x a b c : Nat} (h : x < a) (e : Nat.ble (a + c) (b + 1) = true) : x + c ≤ b := Nat.le_of_lt_succ (Nat.lt_of_lt_of_le (Nat.add_lt_add_right h c) (bl e))
theorem s0 {x a b : Nat} (h : x < a) (e : Nat.ble a (b + 1) = true) : x ≤ b := s1 (c := 0) h e
theorem q1 {x a b c : Nat} (h : x = a) (e : Nat.ble (a + c) b = true) : x + c ≤ b := l1 (Nat.le_of_eq h) e
theorem q0 {x a b : Nat} (h : x = a) (e : Nat.ble a b = true) : x ≤ b := l0 (Nat.le_of_eq h) e
theorem w0 {x y a b : Nat} (h : x = y) (g : y ≤ a) (e : Nat.ble a b = true) : x ≤ b := l0 (Nat.le_trans (Nat.le_of_eq h) g) e
theorem w2 {x y a b c : Nat} (h : x = y + c) (g : y ≤ a) (e : Nat.ble (a + c) b = true) : x ≤ b := Nat.le_trans (Nat.le_of_eq h) (l1 g e)
theorem a2 {x y a b c : Nat} (h : x ≤ a) (g : y ≤ b) (e : Nat.ble (a + b) c = true) : x + y ≤ c := Nat.le_trans (Nat.add_le_add h g) (bl e)
theorem a3 {x y a b c d : Nat} (h : x ≤ a) (g : y ≤ b) (e : Nat.ble (a + b + d) c = true) : x + y + d ≤ c := Nat.le_trans (Nat.add_le_add_right (Nat.add_le_add h g) d) (bl e)
theorem ltOf {x a : Nat} (h : x + 1 ≤ a) : x < a := h
theorem ngt {x a : Nat} (h : x ≤ a) : ¬ x > a := Nat.not_lt.mpr h
theorem dfl {p : Prop} [Decidable p] (h : ¬ p) : decide p = false := decide_eq_false h
theorem len_app {x y : Str} : (x ++ y).length = x.length + y.length := by show (_ ++ _ : Array Nat).size = _; rw [Array.size_append]; rfl
theorem slx {x y : Str} {a b : Nat} (h : x.length ≤ a) (g : y.length ≤ b) : (x ++ y).length ≤ a + b := Nat.le_trans (Nat.le_of_eq len_app) (Nat.add_le_add h g)
theorem z0 {x a b : Nat} (h : x ≤ a) (e : Nat.ble a b = true) : 0 + x ≤ b := Nat.le_trans (Nat.le_of_eq (Nat.zero_add x)) (l0 h e)
theorem sq {x : Str} {a : Nat} (h : x.length = a) : x.length ≤ a := Nat.le_of_eq h
end
section
open PySem PySem.W PyProof.Rows PySem.Calls PySem.Spec
theorem get_seen {P : Params} {tk : Nat → Tok} {q dl nsd ns pm ps pend : Value} {seen done : Bool} {t0 : Tok} : (getL (Str.ofString "_root_seen") (wdict P tk q dl nsd ns pm ps pend seen done t0)).isSome = true := by rfl
theorem put_seen {P : Params} {tk : Nat → Tok} {q dl nsd ns pm ps pend : Value} {seen done : Bool} {t0 : Tok} {h : Int} {k : Value} {n : Nat} :
    (putL (Str.ofString "_root_seen") h k (.bool true) (wdict P tk q dl nsd ns pm ps pend seen done t0), putN (Str.ofString "_root_seen") (wdict P tk q dl nsd ns pm ps pend seen done t0) n) = (wdict P tk q dl nsd ns pm ps pend true done t0, n) := by rfl
theorem get_done {P : Params} {tk : Nat → Tok} {q dl nsd ns pm ps pend : Value} {seen done : Bool} {t0 : Tok} : (getL (Str.ofString "_root_done") (wdict P tk q dl nsd ns pm ps pend seen done t0)).isSome = true := by rfl
theorem put_done {P : Params} {tk : Nat → Tok} {q dl nsd ns pm ps pend : Value} {seen done b : Bool} {t0 : Tok} {h : Int} {k : Value} {n : Nat} :
    (putL (Str.ofString "_root_done") h k (.bool b) (wdict P tk q dl nsd ns pm ps pend seen done t0), putN (Str.ofString "_root_done") (wdict P tk q dl nsd ns pm ps pend seen done t0) n) = (wdict P tk q dl nsd ns pm ps pend seen b t0, n) := by rfl
theorem mkAB {a b : Addr × Obj} {r r' : List (Addr × Obj)} {P : Addr × Obj → Prop} (h : ∀ p ∈ a :: b :: r, P p) (h' : ∀ p ∈ r', P p) : ∀ p ∈ a :: b :: r', P p := fun p hp => by
  rcases List.mem_cons.mp hp with rfl | hp
  · exact h _ (.head _)
  · rcases List.mem_cons.mp hp with rfl | hp
    · exact h _ (.tail _ (.head _))
    · exact h' p hp
def NsOk (nsds : List Value) (rest : List (Addr × Obj)) : Prop :=
  ∃ (n0 n2 tp : Nat) (t1 t2 : Tok), nsds[0]? = some (.ref n0) ∧ (n0, listOf #[.ref tp] n2) ∈ rest ∧ (tp, tupOf [.str (Str.ofString "http://www.w3.org/XML/1998/namespace") t1, .str (Str.ofString "xml") t2]) ∈ rest ∧
    ∀ (k : Nat) (v : Value), 0 < k → nsds[k]? = some v → ∃ e n, v = .ref e ∧ (e, listOf #[] n) ∈ rest
theorem NsOk.mono {nsds : List Value} {rest rest' : List (Addr × Obj)} (H : NsOk nsds rest) (hs : ∀ p ∈ rest, p ∈ rest') : NsOk nsds rest' := by
  obtain ⟨n0, n2, tp, t1, t2, a, b, c, d⟩ := H
  exact ⟨n0, n2, tp, t1, t2, a, hs _ b, hs _ c, fun k v hk hv => let ⟨e, n, x, y⟩ := d k v hk hv; ⟨e, n, x, hs _ y⟩⟩
theorem NsOk.push {nsds : List Value} {rest : List (Addr × Obj)} {nn n3 : Nat} (H : NsOk nsds rest) (hm : (nn, listOf #[] n3) ∈ rest) : NsOk (nsds ++ [.ref nn]) rest := by
  obtain ⟨n0, n2, tp, t1, t2, a, b, c, d⟩ := H
  refine ⟨n0, n2, tp, t1, t2, ?_, b, c, fun k v hk hv => ?_⟩
  · rw [List.getElem?_append_left]
    · exact a
    · exact (List.getElem?_eq_some_iff.mp a).1
  · by_cases hlt : k < nsds.length
    · rw [List.getElem?_append_left hlt] at hv
      exact d k v hk hv
    · rw [List.getElem?_append_right (by lia)] at hv
      cases hz : k - nsds.length with
      | zero => rw [hz] at hv; simp at hv; exact ⟨nn, n3, hv.symm, hm⟩
      | succ j => rw [hz] at hv; simp at hv
theorem wOff_cons {wd pc dl nsd ns ps l : Nat} {o : Obj} {rest : List (Addr × Obj)} (W : WOff wd pc dl nsd ns ps rest) (a1 : @Ne Nat l 130) (a2 : @Ne Nat l pc) (a3 : @Ne Nat l wd) (a4 : @Ne Nat l dl) (a5 : @Ne Nat l nsd) (a6 : @Ne Nat l ns) (a7 : @Ne Nat l ps) : WOff wd pc dl nsd ns ps ((l, o) :: rest) := by
  obtain ⟨w1, w2, w3, w4, w5, w6, w7⟩ := W
  exact ⟨List.forall_mem_cons.mpr ⟨a1, w1⟩, List.forall_mem_cons.mpr ⟨a2, w2⟩, List.forall_mem_cons.mpr ⟨a3, w3⟩, List.forall_mem_cons.mpr ⟨a4, w4⟩, List.forall_mem_cons.mpr ⟨a5, w5⟩, List.forall_mem_cons.mpr ⟨a6, w6⟩, List.forall_mem_cons.mpr ⟨a7, w7⟩⟩
theorem news_behind {h₀ h : Heap} {L : Addr} {a c1 c2 c3 c4 c5 c6 c7 c8 c9 : Addr × Obj} {rest : List (Addr × Obj)} (N : News h₀ L h (a :: c1 :: c2 :: c3 :: c4 :: c5 :: c6 :: c7 :: c8 :: c9 :: rest)) : News h₀ L h (c1 :: c2 :: c3 :: c4 :: c5 :: c6 :: c7 :: c8 :: c9 :: a :: rest) := fun p hp => N p (by
  simp only [List.mem_cons] at hp ⊢
  rcases hp with h | h | h | h | h | h | h | h | h | h | h
  all_goals simp [h])
theorem push_list {l : List Value} {x : Value} : l.toArray.push x = (l ++ [x]).toArray := by simp
theorem app_two {l : List Value} {x y : Value} : l ++ [x, y] = l ++ [x] ++ [y] := by simp
end
section
open PySem PySem.Calls PyProof.Rows PySem.W PySem.Spec
section
variable {prog : Program} {w : World} {A : Around} {E : Value → Shared → Prop} {s : Shared} {h₀ : Heap} {L : Addr} {m : Str → Option Value} {news : List (Addr × Obj)}
theorem lsort_one0 {a : Addr} {v : Value} {n : Nat} {P : PySem.Fin → Shared → Prop} (F : Fr h₀ L s.heap m) (N : News h₀ L s.heap news) (ho : s.heap.get? a = some (seqObj "list" [v].toArray n)) (haL : a ≠ L) (ha0 : h₀.get? a = none) (hna : ∀ p ∈ news, p.1 ≠ a)
    (h : ∀ e1 h', Fr h₀ L h' m → News h₀ L h' ((a, seqObj "list" [v].toArray e1) :: news) → P (.done (.ret .none)) { s with heap := h' }) :
    wpAny (model prog w) A (Builtin.«list.sort» ⟨[.ref a], []⟩) P E s := by
  have ha : a < s.heap.objs.size := Heap.lt_size ho
  have s1 := Heap.SameBut.update s.heap a (Obj.mapSeq fun _ => (#[] : Array Value))
  obtain ⟨e1, ho1⟩ : ∃ e1, (s.heap.update a (Obj.mapSeq fun _ => (#[] : Array Value))).get? a = some (seqObj "list" #[] e1) := ⟨_, get?_update_seq ho fun _ => #[]⟩
  have F3 : Fr h₀ L (((s.heap.update a (Obj.mapSeq fun _ => (#[] : Array Value))).push (seqObj "tuple" [v].toArray 0)).push (seqObj "list" #[] 0)) m := ((kas_fr F s1 haL ha0).push _).push _
  have N2 : News h₀ L (((s.heap.update a (Obj.mapSeq fun _ => (#[] : Array Value))).push (seqObj "tuple" [v].toArray 0)).push (seqObj "list" #[] 0)) news :=
    (kas_news N s1 hna).grown fun b x e => Heap.get?_push_of_some _ (Heap.get?_push_of_some _ e)
  have ho6 : (((s.heap.update a (Obj.mapSeq fun _ => (#[] : Array Value))).push (seqObj "tuple" [v].toArray 0)).push (seqObj "list" #[] 0)).get? a = some (seqObj "list" #[] e1) := Heap.get?_push_of_some _ (Heap.get?_push_of_some _ ho1)
  rw [list_sort_plain]
  refine wpAny_bind (listItems_at ho rfl ?_)
  refine wpAny_bind (listUpdate_at ho rfl ?_ (by rw [List.size_toArray, sizeLine_eq]; simp) (Nat.zero_le _))
  refine wpAny_bind (seqEpoch_at ho1 rfl ?_)
  refine wpAny_bind (wpAny_newTuple ?_ (by show ([v] : List Value).length ≤ _; rw [sizeLine_eq]; simp))
  refine wpAny_bind (wpAny_newList ?_ (Nat.zero_le _))
  refine wpAny_holding ?_
  show wpAny (model prog w) A _ P E { s with heap := ((s.heap.update a (Obj.mapSeq fun _ => (#[] : Array Value))).push (seqObj "tuple" [v].toArray 0)).push (seqObj "list" #[] 0) }
  generalize hH : ((s.heap.update a (Obj.mapSeq fun _ => (#[] : Array Value))).push (seqObj "tuple" [v].toArray 0)).push (seqObj "list" #[] 0) = H at F3 N2 ho6 ⊢
  dsimp only
  have h2 : [v].toArray.size < 2 := by simp
  rw [if_pos h2, if_pos h2]
  refine wpAny_bind (wpAny_pure ?_)
  rw [StateT.run_pure]
  refine wpAny_bind (wpAny_pure ?_)
  dsimp only
  refine wpAny_bind (seqEpoch_at ho6 rfl ?_)
  have e9 : Array.map (fun x => x.snd) (arrOf (SortSt.mk' general' ([v].toArray.zip [v].toArray) #[] 7 none)) = [v].toArray := by first | with_unfolding_all rfl | (show Array.map (fun x => x.snd) ([v].toArray.zip [v].toArray) = _; simp)
  rw [e9]
  refine wpAny_bind (listUpdate_at ho6 rfl ?_ (Nat.zero_le _) (by rw [sizeLine_eq]; simp))
  simp only [bne_self_eq_false, Bool.false_eq_true, if_false]
  have s2 := Heap.SameBut.update H a (Obj.mapSeq fun _ => [v].toArray)
  obtain ⟨c2, hc2⟩ : ∃ c2, (H.update a (Obj.mapSeq fun _ => [v].toArray)).get? a = some (seqObj "list" [v].toArray c2) := ⟨_, get?_update_seq ho6 fun _ => [v].toArray⟩
  refine wpAny_pure (h c2 _ (kas_fr F3 s2 haL ha0) fun p hp => ?_)
  rcases List.mem_cons.mp hp with rfl | hp
  · exact ⟨hc2, haL, ha0⟩
  · exact kas_news N2 s2 hna p hp
end
end
section
open PySem PySem.Calls PyProof.Rows PySem.W PySem.Spec PyProof.Rows.LCg
abbrev Gens := Array GenState
def ItObj (o : Obj) : Prop := ∃ vs, o.data = .fields vs ∧ ∀ q t, vs[1]? ≠ some (.str q t)
abbrev stG (s : Shared) (h : Heap) (tk : Nat) (g : Gens) (d : Drawn) : Shared := { s with heap := h, toks := tk, gens := g, drawn := d }
inductive CEndJ (h₀ : Heap) (L : Addr) (m : Str → Option Value) (s : Shared) (I : Addr) (oI : Obj) (C : Addr) (oC : Obj) (D : Addr) (ys : List Value) (S : List (Addr × Obj) → Prop) (J : List Value → List (Addr × Obj) → Gens → Prop) (y : Value) : Shared → Prop
  | mk (h' : Heap) (tk' : Nat) (g' : Gens) (d' : Drawn) (news' : List (Addr × Obj)) (F : Fr h₀ L h' m) (N : News h₀ L h' ((I, oI) :: (C, oC) :: (D, lst ys) :: news')) (off : Off3 I C D news') (hS : S news') (hJ : J (ys ++ [y]) news' g') : CEndJ h₀ L m s I oI C oC D ys S J y (stG s h' tk' g' d')
def EltJ (prog : Program) (w : World) (A : Around) (h₀ : Heap) (L : Addr) (m : Str → Option Value) (env : Env) (elt : Expr) (x : Str) (scope : Scope) (cl : List (Str × Addr)) (s : Shared) (S : List (Addr × Obj) → Prop) (P : Nat → Value → Prop) (n : Nat) (J : Nat → List Value → List (Addr × Obj) → Gens → Prop) : Prop :=
  ∀ i v I oI C oC D m₂ h tk g d ys news (E' : Value → Shared → Prop), i < n → P i v → J i ys news g → S news → NsObj oC m₂ → m₂ x = some v → Fr h₀ L h m → News h₀ L h ((I, oI) :: (C, oC) :: (D, lst ys) :: news) → Off3 I C D news → ((@Ne Nat I C) ∧ (@Ne Nat I D) ∧ (@Ne Nat C D)) → ItObj oI →
    wpAny (model prog w) A (eval elt (compEnvC scope cl C env)) (CEndJ h₀ L m s I oI C oC D ys S (J (i + 1))) E' (stG s h tk g d)
inductive CompI (h₀ : Heap) (L : Addr) (m : Str → Option Value) (s : Shared) (I C D : Addr) (n : Nat) (St : Nat → Heap → Prop) (S : List (Addr × Obj) → Prop) (J : Nat → List Value → List (Addr × Obj) → Gens → Prop) (b : Bool) (k : Nat) : Shared → Prop
  | mk (h' : Heap) (tk : Nat) (g : Gens) (d : Drawn) (i : Nat) (ys : List Value) (m' : Str → Option Value) (news' : List (Addr × Obj)) (hi : i ≤ n) (hk : k = n + 1 - i) (hyl : b = true → ys.length ≤ i) (hst : St i h') (F : Fr h₀ L h' m) (hn : h'.Ns C m') (N : News h₀ L h' ((D, lst ys) :: news')) (off : Off3 I C D news') (hS : S news') (hJ : J i ys news' g) : CompI h₀ L m s I C D n St S J b k (stG s h' tk g d)
inductive ForI (h₀ : Heap) (L : Addr) (s : Shared) (I : Addr) (n : Nat) (St : Nat → Heap → Prop) (S : List (Addr × Obj) → Prop) (J : Nat → (Str → Option Value) → List (Addr × Obj) → Gens → Prop) (k : Nat) : Shared → Prop
  | mk (h' : Heap) (tk : Nat) (g : Gens) (d : Drawn) (i : Nat) (m' : Str → Option Value) (news' : List (Addr × Obj)) (hi : i ≤ n) (hk : k = n + 1 - i) (hst : St i h') (F : Fr h₀ L h' m') (N : News h₀ L h' news') (off : ∀ p ∈ news', p.1 ≠ I) (hS : S news') (hJ : J i m' news' g) : ForI h₀ L s I n St S J k (stG s h' tk g d)
theorem it_list {o : Obj} {a : Value} {i : Int} {t : Tok} (h : o.data = .fields #[a, .int i t]) : ItObj o := ⟨_, h, by intro q t e; simp at e⟩
theorem it_range {a c : Value} {i : Int} {t : Tok} {cl : Value} {x y} : ItObj { cls := cl, dict := x, data := .fields #[a, .int i t, c], slots := y } := ⟨_, rfl, by intro q t e; simp at e⟩
inductive SkipJ (h₀ : Heap) (L : Addr) (m : Str → Option Value) (s : Shared) (I : Addr) (oI : Obj) (C : Addr) (oC : Obj) (D : Addr) (ys : List Value) (S : List (Addr × Obj) → Prop) (J : List Value → List (Addr × Obj) → Gens → Prop) : Shared → Prop
  | mk (h' : Heap) (tk' : Nat) (g' : Gens) (d' : Drawn) (news' : List (Addr × Obj)) (F : Fr h₀ L h' m) (N : News h₀ L h' ((I, oI) :: (C, oC) :: (D, lst ys) :: news')) (off : Off3 I C D news') (hS : S news') (hJ : J ys news' g') : SkipJ h₀ L m s I oI C oC D ys S J (stG s h' tk' g' d')
def EltT (prog : Program) (w : World) (A : Around) (h₀ : Heap) (L : Addr) (m : Str → Option Value) (env : Env) (elt : Expr) (ifs : List Expr) (x : Str) (scope : Scope) (cl : List (Str × Addr)) (s : Shared) (S : List (Addr × Obj) → Prop) (P : Nat → Value → Prop) (n : Nat) (J : Nat → List Value → List (Addr × Obj) → Gens → Prop) : Prop :=
  ∀ i v I oI C oC D m₂ h tk g d ys news (E' : Value → Shared → Prop), i < n → P i v → J i ys news g → S news → NsObj oC m₂ → m₂ x = some v → Fr h₀ L h m → News h₀ L h ((I, oI) :: (C, oC) :: (D, lst ys) :: news) → Off3 I C D news → ((@Ne Nat I C) ∧ (@Ne Nat I D) ∧ (@Ne Nat C D)) → ItObj oI →
    wpAny (model prog w) A (forIn ifs true fun c r => if r = true then do let ok ← isTrue c (compEnvC scope cl C env) (eval c (compEnvC scope cl C env)); pure (ForInStep.yield ok) else pure (ForInStep.yield r)) (fun ok s₃ => if ok = true then wpAny (model prog w) A (eval elt (compEnvC scope cl C env)) (CEndJ h₀ L m s I oI C oC D ys S (J (i + 1))) E' s₃ else SkipJ h₀ L m s I oI C oC D ys S (J (i + 1)) s₃) E' (stG s h tk g d)
section
variable {prog : Program} {w : World} {A : Around} {E : Value → Shared → Prop} {s : Shared} {h₀ : Heap} {L : Addr} {m : Str → Option Value} {env : Env}
theorem lblockT {elt iter : Expr} {ifs : List Expr} {x : Str} {px : Pos} {scope : Scope} {cl : List (Str × Addr)} {pos : Pos} {s₂ : Shared} {I : Addr} {fp : List Addr} {n : Nat} {P : Nat → Value → Prop} {St : Nat → Heap → Prop} {S : List (Addr × Obj) → Prop} {news : List (Addr × Obj)}
    {J : Nat → List Value → List (Addr × Obj) → Gens → Prop} {RR : Value → Addr → Result → Shared → Prop}
    (W : Walks prog w A I fp [I] n P St) (hsz : n ≤ sizeLine) (hIo : ∀ i h, St i h → ∃ o, h.get? I = some o ∧ ItObj o)
    (hSt : ∀ i h h' o nw, St i h → h.get? I = some o → h'.get? I = some o → (∀ b o, h₀.get? b = some o → h'.get? b = some o) → News h₀ L h' nw → S nw → St i h')
    (hcell : ∀ y ∈ scope.names, y.2 ≠ .cell) (hkind : scope.kind = .function) (hx : scope.names.lookup x = some .local) (hst : St 0 s₂.heap) (hfp : ∀ b ∈ fp, b < s₂.heap.objs.size)
    (F : Fr h₀ L s₂.heap m) (N : News h₀ L s₂.heap news) (hIL : L ≠ I) (hI₀ : h₀.get? I = none) (off : ∀ p ∈ news, p.1 ≠ I) (hS : S news) (hs : ∃ h, s₂ = { s with heap := h })
    (hJ : J 0 [] news s.gens) (R : EltT prog w A h₀ L m env elt ifs x scope cl s S P n J)
    (hRR : ∀ D C h tk g d m' ys news', J n ys news' g → Fr h₀ L h m → News h₀ L h ((D, lst ys) :: news') → Off1 D news' → h.Ns C m' → h₀.get? C = none → h₀.get? D = none → C ≠ L → D ≠ L → C ≠ D → (∀ p ∈ news', p.1 ≠ C) → (∀ q ∈ news, q.1 < D) → RR (.ref D) C (.ok .next) (stG s h tk g d)) :
    wpAny (model prog w) A (newList []) (fun acc s₃ => wpAny (model prog w) A (newFunctionEnv scope env.globals cl [] env.qual none .none (some env)) (fun cenv s₄ =>
      codeAny (model prog w) A (.compStart (.ListComp elt [⟨.Name x px, iter, ifs, 0⟩] scope pos) 0 (.ref I) acc { cenv with scope := relabel scope env }) (RR acc cenv.locals) s₄) E s₃) E s₂ := by
  obtain ⟨hp, rfl⟩ := hs
  dsimp only at hst hfp F N ⊢
  refine wpAny_newObj_type (wpAny_newFunctionEnv hcell (by intro y hy; simp at hy) (fun h₁ hns₁ hsb₁ => ?_) hkind)
  dsimp only at hns₁ hsb₁ ⊢
  generalize hH2 : hp.push { cls := .type "list", dict := none, data := .seq ([] : List Value).toArray } = H2 at hns₁ hsb₁ ⊢
  have hC : H2.objs.size = hp.objs.size + 1 := by rw [← hH2, Heap.size_push]
  have hDC : hp.objs.size ≠ H2.objs.size := by rw [hC]; exact Nat.ne_of_lt (Nat.lt_succ_self _)
  have below : ∀ b, b < hp.objs.size → b ≠ H2.objs.size ∧ b ≠ hp.objs.size := fun b hb => ⟨by rw [hC]; exact Nat.ne_of_lt (Nat.lt_succ_of_lt hb), Nat.ne_of_lt hb⟩
  have hDf : hp.objs.size ∉ fp := fun hm => Nat.lt_irrefl _ (hfp _ hm)
  have hCf : H2.objs.size ∉ fp := fun hm => by have := hfp _ hm; rw [hC] at this; exact Nat.lt_irrefl _ (Nat.lt_of_succ_lt this)
  have hIlt : I < hp.objs.size := hfp I (W.sub I (List.mem_singleton.mpr rfl))
  have old : ∀ b o, hp.get? b = some o → h₁.get? b = some o := fun b o e => hsb₁.extBut b o (below b (Heap.lt_size e)).1 (Heap.get?_push_of_some _ (hH2 ▸ Heap.get?_push_of_some _ e))
  have hacc : h₁.get? hp.objs.size = some (lst []) := hsb₁.extBut _ _ hDC (Heap.get?_push_of_some _ (hH2 ▸ Heap.get?_push_size _ rfl))
  have hst₁ : St 0 h₁ := W.frame _ _ _ hst fun b _ o e => old b o e
  have hD0 := kdx_fresh F (Nat.le_refl hp.objs.size)
  have hC0 := kdx_fresh F (x := H2.objs.size) (by rw [hC]; exact Nat.le_succ _)
  obtain ⟨hDL, hD₀⟩ := hD0
  obtain ⟨hCL, hC₀⟩ := hC0
  have hCI : I ≠ H2.objs.size := (below I hIlt).1
  have hDI : I ≠ hp.objs.size := (below I hIlt).2
  have off₀ : Off3 I H2.objs.size hp.objs.size news := Off3.of fun p hq => ⟨off p hq, (below _ (Heap.lt_size (N p hq).1)).1, (below _ (Heap.lt_size (N p hq).1)).2⟩
  have loop : ∀ tk0, codeAny (model prog w) A (.compLoop (.ListComp elt [⟨.Name x px, iter, ifs, 0⟩] scope pos) 0 (.ref I) (.ref hp.objs.size) (compEnvC scope cl H2.objs.size env)) (RR (.ref hp.objs.size) H2.objs.size) { s with heap := h₁, toks := tk0 } := by
    intro tk0
    refine codeAny_compLoop_tests
      (CompI h₀ L m s I H2.objs.size hp.objs.size n St S J true) ?_ (n + 1)
      (CompI.mk h₁ _ _ _ 0 [] _ news (Nat.zero_le _) rfl (fun _ => Nat.le_refl _) hst₁ (F.keeps old) hns₁ (fun p hq => ?_) off₀ hS hJ)
    · rintro k s' ⟨h', tk, g, d, i, ys, m', news', hi, hkk, hyl, hst', F', hn', N', off', hS', R'⟩
      replace hyl := hyl rfl
      have off3 := off'.mem
      have hDn : ∀ p ∈ (hp.objs.size, lst ys) :: news', p.1 ≠ I := fun p hq => by
        rcases List.mem_cons.mp hq with rfl | hq
        · exact Ne.symm hDI
        · exact (off3 p hq).1
      by_cases hlt : i < n
      · refine W.item i _ _ _ hlt hst' fun v h₂ tk₂ hPv hst₂ hk₂ => ?_
        refine wpAny_assign_Name (wpAny_storeName_local (lookup_relabel_local hx) (hn'.at' fun o e => hk₂ _ o (by simpa using Ne.symm hCI) e) (fun h₃ hn₃ hs₃ => ?_) (by simp [compEnvC, relabel, hkind]))
        have hst₃ : St (i + 1) h₃ := W.frame _ _ _ hst₂ fun b hb o e => hs₃.extBut b o (fun q => hCf (by have q' : b = H2.objs.size := q; rw [← q']; exact hb)) e
        obtain ⟨oI, heI, hoI⟩ := hIo _ _ hst₃
        obtain ⟨oC, heC, hoC⟩ := ns_obj hn₃
        have F₃ : Fr h₀ L h₃ m := (fr_but F' hk₂ hIL hI₀).change hs₃ hCL hC₀
        have N₂ := news_but N' hk₂ hDn
        have N₃ : News h₀ L h₃ ((I, oI) :: (H2.objs.size, oC) :: (hp.objs.size, lst ys) :: news') := fun p hq => by
          rcases List.mem_cons.mp hq with rfl | hq
          · exact ⟨heI, Ne.symm hIL, hI₀⟩
          · rcases List.mem_cons.mp hq with rfl | hq
            · exact ⟨heC, hCL, hC₀⟩
            · have z := N₂ p hq
              refine ⟨hs₃.extBut _ _ ?_ z.1, z.2⟩
              rcases List.mem_cons.mp hq with rfl | hq
              · exact hDC
              · exact (off3 p hq).2.1
        refine wpAny_mono (R i v I oI H2.objs.size oC hp.objs.size _ h₃ _ _ _ _ _ _ hlt hPv R' hS' hoC (by simp) F₃ N₃ off' ⟨hCI, hDI, Ne.symm hDC⟩ hoI) (fun ok s₃ hok => ?_) fun _ _ e => e
        cases ok with
        | false =>
          rw [if_neg Bool.false_ne_true] at hok ⊢
          obtain ⟨h₄, tk₄, g₄, d₄, news₄, F₄, N₄, off₄, hS₄, R₄⟩ := hok
          have zI := (N₄ _ (.head _)).1
          have zC := (N₄ _ (.tail _ (.head _))).1
          have N₄' : News h₀ L h₄ news₄ := fun p hq => N₄ p (.tail _ (.tail _ (.tail _ hq)))
          have hst₄ : St (i + 1) h₄ := hSt _ _ _ _ _ hst₃ heI zI F₄.keep N₄' hS₄
          exact ⟨n + 1 - (i + 1), dec_lt hlt hkk, h₄, tk₄, g₄, d₄, i + 1, ys, _, news₄, hlt, rfl, (fun _ => Nat.le_succ_of_le hyl), hst₄, F₄, hoC.ns zC, fun p hq => N₄ p (.tail _ (.tail _ hq)), off₄, hS₄, R₄⟩
        | true =>
          rw [if_pos rfl] at hok ⊢
          refine wpAny_mono hok (fun y s₄ h₄ => ?_) fun _ _ e => e
          obtain ⟨h₄, tk₄, g₄, d₄, news₄, F₄, N₄, off₄, hS₄, R₄⟩ := h₄
          have zI := (N₄ _ (.head _)).1
          have zC := (N₄ _ (.tail _ (.head _))).1
          have zD := (N₄ _ (.tail _ (.tail _ (.head _)))).1
          have N₄' : News h₀ L h₄ news₄ := fun p hq => N₄ p (.tail _ (.tail _ (.tail _ hq)))
          have hst₄ : St (i + 1) h₄ := hSt _ _ _ _ _ hst₃ heI zI F₄.keep N₄' hS₄
          refine append_at (hsz := by show ys.toArray.size ≤ sizeLine; rw [List.size_toArray]; exact Nat.le_trans hyl (Nat.le_trans hi hsz)) zD fun h₅ hs₅ hD₅ => ?_
          have off4 := off₄.mem
          refine ⟨n + 1 - (i + 1), dec_lt hlt hkk, h₅, tk₄, g₄, d₄, i + 1, ys ++ [y], _, news₄, hlt, rfl, (fun _ => by rw [List.length_append, List.length_singleton]; exact Nat.succ_le_succ hyl), W.frame _ _ _ hst₄ fun b hb o e => hs₅.extBut b o (fun q => hDf (q ▸ hb)) e, F₄.change hs₅ hDL hD₀,
            (hoC.ns zC).sameBut hs₅ (Ne.symm hDC), fun p hq => ?_, off₄, hS₄, R₄⟩
          rcases List.mem_cons.mp hq with rfl | hq
          · exact ⟨hD₅.trans (congrArg some (lst_snoc ys y)), hDL, hD₀⟩
          · exact ⟨hs₅.extBut _ _ (off4 p hq).2.2 (N₄' p hq).1, (N₄' p hq).2⟩
      · obtain rfl : i = n := Nat.le_antisymm hi (Nat.not_lt.mp hlt)
        refine W.done _ _ _ hst' fun h₂ tk₂ hk₂ => ?_
        exact hRR _ _ h₂ tk₂ g d _ ys news' R' (fr_but F' hk₂ hIL hI₀) (news_but N' hk₂ hDn) off'.one (hn'.at' fun o e => hk₂ _ o (by simpa using Ne.symm hCI) e) hC₀ hD₀ hCL hDL (Ne.symm hDC) (fun p hq => (off3 p hq).2.1) (fun q hq => Heap.lt_size (N q hq).1)
    · rcases List.mem_cons.mp hq with rfl | hq
      · exact ⟨hacc, hDL, hD₀⟩
      · exact ⟨old _ _ (N p hq).1, (N p hq).2⟩
  exact codeAny_compStart_list (loop _) (W.self 0 _ _ _ hst₁ (loop _))
theorem elt_nil {elt : Expr} {x : Str} {scope : Scope} {cl : List (Str × Addr)} {S : List (Addr × Obj) → Prop} {P : Nat → Value → Prop} {n : Nat} {J : Nat → List Value → List (Addr × Obj) → Gens → Prop} (R : EltJ prog w A h₀ L m env elt x scope cl s S P n J) : EltT prog w A h₀ L m env elt [] x scope cl s S P n J :=
  fun i v I oI C oC D m₂ h tk g d ys news E' a1 a2 a3 a4 a5 a6 a7 a8 a9 b1 b2 => wpAny_tests_nil (by rw [if_pos rfl]; exact R i v I oI C oC D m₂ h tk g d ys news E' a1 a2 a3 a4 a5 a6 a7 a8 a9 b1 b2)
inductive GoJ (prog : Program) (w : World) (A : Around) (h₀ : Heap) (L : Addr) (m : Str → Option Value) (env : Env) (elt : Expr) (x : Str) (scope : Scope) (cl : List (Str × Addr)) (Fin : List (Addr × Obj) → List Value → List (Addr × Obj) → Gens → Shared → Prop) (n : Nat) (P : Nat → Value → Prop) (S : List (Addr × Obj) → Prop) (news : List (Addr × Obj)) (s₁ : Shared) : Prop
  | mk (J : Nat → List Value → List (Addr × Obj) → Gens → Prop) (j0 : J 0 [] news s₁.gens) (R : EltJ prog w A h₀ L m env elt x scope cl s₁ S P n J) (fin : ∀ ys nw g, J n ys nw g → Fin news ys nw g s₁) : GoJ prog w A h₀ L m env elt x scope cl Fin n P S news s₁
inductive SrcJL (prog : Program) (w : World) (A : Around) (h₀ : Heap) (L : Addr) (m : Str → Option Value) (env : Env) (elt : Expr) (x : Str) (scope : Scope) (cl : List (Str × Addr)) (Fin : List (Addr × Obj) → List Value → List (Addr × Obj) → Gens → Shared → Prop) : Value → Shared → Prop
  | mk {s₁ : Shared} (ax : Addr) (its : Array Value) (k : Nat) (news : List (Addr × Obj)) (hh : A.handled = none) (F : Fr h₀ L s₁.heap m) (N : News h₀ L s₁.heap news) (hm : (ax, listOf its k) ∈ news) (hsz : its.size ≤ sizeLine) (G : GoJ prog w A h₀ L m env elt x scope cl Fin its.size (fun i v => its[i]? = some v) (SrcAt h₀ ax its) news s₁) : SrcJL prog w A h₀ L m env elt x scope cl Fin (.ref ax) s₁
inductive SrcJR (prog : Program) (w : World) (A : Around) (h₀ : Heap) (L : Addr) (m : Str → Option Value) (env : Env) (elt : Expr) (x : Str) (scope : Scope) (cl : List (Str × Addr)) (Fin : List (Addr × Obj) → List Value → List (Addr × Obj) → Gens → Shared → Prop) : Value → Shared → Prop
  | mk {s₁ : Shared} (r : Addr) (a b : Int) (t u v : Tok) (n : Nat) (news : List (Addr × Obj)) (hh : A.handled = none) (F : Fr h₀ L s₁.heap m) (N : News h₀ L s₁.heap news) (hr : IsRange s₁.heap r a b 1 t u v) (hsm : Builtin.Range.small a b 1 = true) (hn : Builtin.Range.rangeSize a b 1 = ((n : Nat) : Int)) (hsz : n ≤ sizeLine)
    (G : GoJ prog w A h₀ L m env elt x scope cl Fin n (fun i v => ∃ t, v = .int (a + (i : Int)) t) (fun _ => True) news s₁) : SrcJR prog w A h₀ L m env elt x scope cl Fin (.ref r) s₁
def SrcJ (prog : Program) (w : World) (A : Around) (h₀ : Heap) (L : Addr) (m : Str → Option Value) (env : Env) (elt : Expr) (x : Str) (scope : Scope) (cl : List (Str × Addr)) (Fin : List (Addr × Obj) → List Value → List (Addr × Obj) → Gens → Shared → Prop) (xv : Value) (s₁ : Shared) : Prop :=
  SrcJL prog w A h₀ L m env elt x scope cl Fin xv s₁ ∨ SrcJR prog w A h₀ L m env elt x scope cl Fin xv s₁
def FinEJ (h₀ : Heap) (L : Addr) (m : Str → Option Value) (Q : Value → Shared → Prop) (base : List (Addr × Obj)) (ys : List Value) (news : List (Addr × Obj)) (g : Gens) (s : Shared) : Prop :=
  ∀ D h tk d, (∀ q ∈ base, q.1 < D) → Fr h₀ L h m → News h₀ L h ((D, lst ys) :: news) → Off1 D news → Q (.ref D) (stG s h tk g d)
def FinAJ (h₀ : Heap) (L : Addr) (m : Str → Option Value) (y : Str) (Q : Flow → Shared → Prop) (base : List (Addr × Obj)) (ys : List Value) (news : List (Addr × Obj)) (g : Gens) (s : Shared) : Prop :=
  ∀ D h tk d, (∀ q ∈ base, q.1 < D) → Fr h₀ L h (fun z => if z = y then some (.ref D) else m z) → News h₀ L h ((D, lst ys) :: news) → Off1 D news → Q .next (stG s h tk g d)

theorem lsrc {elt iter : Expr} {x : Str} {px : Pos} {scope : Scope} {cl : List (Str × Addr)} {pos : Pos} {RR : Value → Addr → Result → Shared → Prop} {Fin : List (Addr × Obj) → List Value → List (Addr × Obj) → Gens → Shared → Prop} {xv : Value} {s₁ : Shared}
    (hcell : ∀ y ∈ scope.names, y.2 ≠ .cell) (hkind : scope.kind = .function) (hx : scope.names.lookup x = some .local)
    (h : SrcJ prog w A h₀ L m env elt x scope cl Fin xv s₁)
    (hRR : ∀ base D C h tk g d m' ys news', Fin base ys news' g s₁ → Fr h₀ L h m → News h₀ L h ((D, lst ys) :: news') → Off1 D news' → h.Ns C m' → h₀.get? C = none → h₀.get? D = none → C ≠ L → D ≠ L → C ≠ D → (∀ p ∈ news', p.1 ≠ C) → (∀ q ∈ base, q.1 < D) → RR (.ref D) C (.ok .next) (stG s₁ h tk g d)) :
    wpAny (model prog w) A (pyIter xv) (fun it s₂ => wpAny (model prog w) A (newList []) (fun acc s₃ => wpAny (model prog w) A (newFunctionEnv scope env.globals cl [] env.qual none .none (some env)) (fun cenv s₄ =>
      codeAny (model prog w) A (.compStart (.ListComp elt [⟨.Name x px, iter, [], 0⟩] scope pos) 0 it acc { cenv with scope := relabel scope env }) (RR acc cenv.locals) s₄) E s₃) E s₂) E s₁ := by
  rcases h with ⟨ax, its, k, news, hh, F, N, hm, hsz, J, j0, R, fin⟩ | ⟨r, a, b, t, u, v, n, news, hh, F, N, hr, hsm, hn, hsz, J, j0, R, fin⟩
  · have hl : s₁.heap.IsList ax its := listOf_isList (N.get hm)
    have hlt : ax < s₁.heap.objs.size := Heap.lt_size (N.get hm)
    refine wpAny_pyIter_list hl ?_
    have up : ∀ b o, s₁.heap.get? b = some o → (s₁.heap.push { cls := .type "list_iterator", data := .fields #[.ref ax, .int 0 0] }).get? b = some o := fun b o e => Heap.get?_push_of_some _ e
    refine lblockT (ifs := []) (Walks.list hh s₁.heap.objs.size ax (Nat.ne_of_lt hlt) its) hsz (fun i h st => by obtain ⟨o, e, _, d⟩ := st.1; exact ⟨o, e, it_list d⟩) list_st hcell hkind hx ⟨⟨_, Heap.get?_push_size _ rfl, rfl, rfl⟩, hl.push _⟩ (fun b hb => ?_)
      (F.keeps up) (N.grown up) (Nat.ne_of_lt F.ns.lt) (next_is_new F) (fun p hp => Nat.ne_of_lt (Heap.lt_size (N p hp).1)) (.inr ⟨_, hm, rfl, _, rfl⟩) ⟨_, rfl⟩ j0 (elt_nil R) fun D C h tk g d m' ys news' hJ => hRR _ D C h tk g d m' ys news' (fin _ _ _ hJ)
    show b < (s₁.heap.push _).objs.size
    rw [Heap.size_push]
    rcases List.mem_cons.mp hb with rfl | hb
    · exact Nat.lt_succ_self _
    · rw [List.mem_singleton.mp hb]; exact Nat.lt_succ_of_lt hlt
  · refine wpAny_pyIter_range hr hsm ?_
    refine lblockT (ifs := []) (range_walks hh a n) hsz (fun i h st => ⟨_, st, it_range⟩) range_st hcell hkind hx (by show IsRangeIter _ _ _ _ _; rw [hn]; simpa using Heap.get?_push_size _ rfl) (fun b hb => ?_)
      (F.keeps fun _ _ e => Heap.get?_push_of_some _ e) (N.grown fun _ _ e => Heap.get?_push_of_some _ e) (Nat.ne_of_lt F.ns.lt) (next_is_new F) (fun p hp => Nat.ne_of_lt (Heap.lt_size (N p hp).1)) trivial ⟨_, rfl⟩ j0 (elt_nil R) fun D C h tk g d m' ys news' hJ => hRR _ D C h tk g d m' ys news' (fin _ _ _ hJ)
    rw [List.mem_singleton.mp hb]
    show s₁.heap.objs.size < (s₁.heap.push _).objs.size
    rw [Heap.size_push]; exact Nat.lt_succ_self _
theorem ListComp_J {elt iter : Expr} {x : Str} {px : Pos} {scope : Scope} {cl : List (Str × Addr)} {pos : Pos} {Q : Value → Shared → Prop} (_F₀ : Fr h₀ L s.heap m)
    (hclos : closureFor scope env = pure cl) (hcell : ∀ y ∈ scope.names, y.2 ≠ .cell) (hkind : scope.kind = .function)
    (hnames : ∀ y ∈ scope.names, y.2 = .local → scope.names.lookup y.1 = some .local) (hx : scope.names.lookup x = some .local)
    (h : wpAny (model prog w) A (eval iter env) (SrcJ prog w A h₀ L m env elt x scope cl (FinEJ h₀ L m Q)) E s)
    (hs : ∀ x, foldedSetIterable iter env x = pure x := by intro _; rfl) :
    wpAny (model prog w) A (eval (.ListComp elt [⟨.Name x px, iter, [], 0⟩] scope pos) env) Q E s := by
  rw [eval_ListComp]
  refine wpAny_comprehension_free (use := none) rfl hs hclos hkind hnames (wpAny_mono h (fun xv s₁ h₁ => ?_) fun _ _ e => e)
  refine lsrc hcell hkind hx h₁ fun base D C h tk g d m' ys news' fin F' N' o1 hn hC₀ hD₀ hCL hDL hCD offC hbs => ?_
  refine ⟨m', hn, fun h'' hs'' => fin D h'' tk d hbs (F'.change hs'' hCL hC₀) (fun p hp => ?_) o1⟩
  refine ⟨hs''.extBut _ _ ?_ (N' p hp).1, (N' p hp).2⟩
  rcases List.mem_cons.mp hp with rfl | hp
  · exact Ne.symm hCD
  · exact offC p hp
theorem Assign_ListComp_J {elt iter : Expr} {x y : Str} {px py : Pos} {scope : Scope} {cl : List (Str × Addr)} {pos spos : Pos} {Q : Flow → Shared → Prop} (_F₀ : Fr h₀ L s.heap m) (hLe : env.locals = L)
    (hsw : swapsWith (.ListComp elt [⟨.Name x px, iter, [], 0⟩] scope pos) (some (.Name y py)) spos.line env = pure true)
    (hclos : closureFor scope env = pure cl) (hcell : ∀ z ∈ scope.names, z.2 ≠ .cell) (hkind : scope.kind = .function)
    (hnames : ∀ z ∈ scope.names, z.2 = .local → scope.names.lookup z.1 = some .local) (hx : scope.names.lookup x = some .local)
    (hy : env.kindOf y = some .local) (hp : (env.scope.kind == .class || (env.scope.kind == .module && env.locals != env.globals)) = false)
    (h : wpAny (model prog w) A (eval iter env) (SrcJ prog w A h₀ L m env elt x scope cl (FinAJ h₀ L m y Q)) E s)
    (hs : ∀ x, foldedSetIterable iter env x = pure x := by intro _; rfl) :
    wpAny (model prog w) A (exec (.Assign [.Name y py] (.ListComp elt [⟨.Name x px, iter, [], 0⟩] scope pos) spos) env) Q E s := by
  subst hLe
  rw [exec_Assign_Name_used _ _ _ _ hsw]
  refine wpAny_bind (wpAny_standAt (wpAny_bind ?_))
  show wpAny _ A (do let _ ← comprehension (.ListComp elt [⟨.Name x px, iter, [], 0⟩] scope pos) scope env _ (newList []) false (eval iter env) (some (assign (.Name y py) env))) _ _ s
  refine wpAny_bind (wpAny_mono (wpAny_comprehension_free (use := some (assign (.Name y py) env)) (Q := fun _ s' => Q .next s') rfl hs hclos hkind hnames
    (wpAny_mono h (fun xv s₁ h₁ => ?_) fun _ _ e => e)) (fun _ s' hq => wpAny_pure (wpAny_pure hq)) fun _ _ e => e)
  refine lsrc hcell hkind hx h₁ fun base D C h' tk g d m' ys news' fin F' N' o1 hn hC₀ hD₀ hCL hDL hCD offC hbs => ?_
  show wpAny _ A (assign (.Name y py) env (.ref D)) _ _ _
  refine wpAny_assign_Name (wpAny_storeName_local hy F'.ns (fun h₂ hn₂ hs₂ => ?_) hp)
  have hL₀ : h₀.get? env.locals = none := Heap.get?_none_of_le F'.above
  have F₂ : Fr h₀ env.locals h₂ (fun z => if z = y then some (.ref D) else m z) := ⟨hn₂, fun b o e => hs₂.extBut b o (fun q => by rw [q, hL₀] at e; cases e) (F'.keep b o e), F'.above⟩
  refine ⟨m', hn.sameBut hs₂ hCL, fun h'' hs'' => fin D h'' _ d hbs (F₂.change hs'' hCL hC₀) (fun p hp => ?_) o1⟩
  have z : h₂.get? p.1 = some p.2 := hs₂.extBut _ _ (N' p hp).2.1 (N' p hp).1
  refine ⟨hs''.extBut _ _ ?_ z, (N' p hp).2⟩
  rcases List.mem_cons.mp hp with rfl | hp
  · exact Ne.symm hCD
  · exact offC p hp

inductive ForEndJ (h₀ : Heap) (L : Addr) (s : Shared) (I : Addr) (oI : Obj) (S : List (Addr × Obj) → Prop) (J : (Str → Option Value) → List (Addr × Obj) → Gens → Prop) : Shared → Prop
  | mk (h' : Heap) (tk' : Nat) (g' : Gens) (d' : Drawn) (m' : Str → Option Value) (news' : List (Addr × Obj)) (F : Fr h₀ L h' m') (N : News h₀ L h' ((I, oI) :: news')) (off : Off1 I news') (hS : S news') (hJ : J m' news' g') : ForEndJ h₀ L s I oI S J (stG s h' tk' g' d')
def ForTurn (h₀ : Heap) (L : Addr) (s : Shared) (I : Addr) (oI : Obj) (S : List (Addr × Obj) → Prop) (J : (Str → Option Value) → List (Addr × Obj) → Gens → Prop) (Q : Flow → Shared → Prop) (f : Flow) (s₂ : Shared) : Prop :=
  match f with
  | .ret v => Q (.ret v) s₂
  | .brk => False
  | _ => ForEndJ h₀ L s I oI S J s₂
inductive GoF (prog : Program) (w : World) (A : Around) (h₀ : Heap) (L : Addr) (m : Str → Option Value) (env : Env) (x : Str) (body : List Stmt) (Q : Flow → Shared → Prop) (E : Value → Shared → Prop) (n : Nat) (P : Nat → Value → Prop) (S : List (Addr × Obj) → Prop) (news : List (Addr × Obj)) (s : Shared) : Prop
  | mk (J : Nat → (Str → Option Value) → List (Addr × Obj) → Gens → Prop) (j0 : J 0 m news s.gens)
    (turn : ∀ i v I oI m₁ h tk g d nw, i < n → P i v → J i m₁ nw g → S nw → Fr h₀ L h (fun z => if z = x then some v else m₁ z) → News h₀ L h ((I, oI) :: nw) → Off1 I nw → ItObj oI →
      wpAny (model prog w) A (execs body env) (ForTurn h₀ L s I oI S (J (i + 1)) Q) E (stG s h tk g d))
    (done : ∀ m₁ nw h tk g d, J n m₁ nw g → Fr h₀ L h m₁ → News h₀ L h nw → Q .next (stG s h tk g d)) : GoF prog w A h₀ L m env x body Q E n P S news s
theorem fblock {x : Str} {px : Pos} {body : List Stmt} {Q : Flow → Shared → Prop} {I : Addr} {fp : List Addr} {n : Nat} {P : Nat → Value → Prop} {St : Nat → Heap → Prop} {S : List (Addr × Obj) → Prop} {news : List (Addr × Obj)} {hp : Heap}
    (W : Walks prog w A I fp [I] n P St) (hIo : ∀ i h, St i h → ∃ o, h.get? I = some o ∧ ItObj o)
    (hSt : ∀ i h h' o nw, St i h → h.get? I = some o → h'.get? I = some o → (∀ b o, h₀.get? b = some o → h'.get? b = some o) → News h₀ env.locals h' nw → S nw → St i h')
    (hx : env.kindOf x = some .local) (hpk : (env.scope.kind == .class || (env.scope.kind == .module && env.locals != env.globals)) = false) (hst : St 0 hp) (hLf : env.locals ∉ fp)
    (F : Fr h₀ env.locals hp m) (N : News h₀ env.locals hp news) (hI₀ : h₀.get? I = none) (off : ∀ p ∈ news, p.1 ≠ I) (hS : S news)
    (hE : PassesOwn (model prog w) A env E)
    (G : GoF prog w A h₀ env.locals m env x body Q E n P S news s) :
    codeAny (model prog w) A (.forLoop (.Name x px) (.ref I) body [] env) (fun r s' => match r with | .ok f => Q f s' | .error e => cameBackBy (model prog w) A env E e s') { s with heap := hp } := by
  obtain ⟨J, j0, turn, done⟩ := G
  have hIL : env.locals ≠ I := fun e => hLf (e ▸ W.sub I (List.mem_singleton.mpr rfl))
  have hL₀ : h₀.get? env.locals = none := Heap.get?_none_of_le F.above
  have one : ∀ l : List (Addr × Obj), (∀ p ∈ l, p.1 ≠ I) → Off1 I l := by
    intro l
    induction l with
    | nil => intro _; trivial
    | cons p r ih => exact fun h => ⟨h _ (.head _), ih fun q hq => h q (.tail _ hq)⟩
  have mem1 : ∀ l : List (Addr × Obj), Off1 I l → ∀ p ∈ l, p.1 ≠ I := by
    intro l
    induction l with
    | nil => intro _ p hp; cases hp
    | cons p r ih =>
      intro h q hq
      rcases List.mem_cons.mp hq with rfl | hq
      · exact h.1
      · exact ih h.2 q hq
  refine codeAny_forLoop
    (ForI h₀ env.locals s I n St S J) ?_ (n + 1)
    (ForI.mk hp _ _ _ 0 m news (Nat.zero_le _) rfl hst F N off hS j0)
  rintro k s' ⟨h', tk, g, d, i, m', news', hi, hkk, hst', F', N', off', hS', R'⟩
  by_cases hlt : i < n
  · refine W.item i _ _ _ hlt hst' fun v h₂ tk₂ hPv hst₂ hk₂ => ?_
    have F₂ : Fr h₀ env.locals h₂ m' := fr_but F' hk₂ hIL hI₀
    have N₂ : News h₀ env.locals h₂ news' := news_but N' hk₂ off'
    refine wpAny_assign_Name (wpAny_storeName_local hx F₂.ns (fun h₃ hn₃ hs₃ => ?_) hpk)
    have hst₃ : St (i + 1) h₃ := W.frame _ _ _ hst₂ fun b hb o e => hs₃.extBut b o (fun q => hLf (by have q' : b = env.locals := q; rw [← q']; exact hb)) e
    obtain ⟨oI, heI, hoI⟩ := hIo _ _ hst₃
    have F₃ : Fr h₀ env.locals h₃ (fun z => if z = x then some v else m' z) := ⟨hn₃, fun b o e => hs₃.extBut b o (fun q => by rw [q, hL₀] at e; cases e) (F₂.keep b o e), F₂.above⟩
    have N₃ : News h₀ env.locals h₃ ((I, oI) :: news') := fun p hq => by
      rcases List.mem_cons.mp hq with rfl | hq
      · exact ⟨heI, Ne.symm hIL, hI₀⟩
      · exact ⟨hs₃.extBut _ _ (N₂ p hq).2.1 (N₂ p hq).1, (N₂ p hq).2⟩
    refine wpAny_passesOwn hE (wpAny_mono (turn i v I oI m' h₃ _ g d news' hlt hPv R' hS' F₃ N₃ (one _ off') hoI) (fun f s₃ h₄ => ?_) fun _ _ e => e)
    have fin : ForEndJ h₀ env.locals s I oI S (J (i + 1)) s₃ → ∃ m, m < k ∧ ForI h₀ env.locals s I n St S J m s₃ := by
      rintro ⟨h₅, tk₄, g₄, d₄, m₄, news₄, F₄, N₄, off₄, hS₄, R₄⟩
      exact ⟨n + 1 - (i + 1), dec_lt hlt hkk, h₅, tk₄, g₄, d₄, i + 1, m₄, news₄, hlt, rfl, hSt _ _ _ _ _ hst₃ heI (N₄ _ (.head _)).1 F₄.keep (fun p hp => N₄ p (.tail _ hp)) hS₄, F₄, fun p hp => N₄ p (.tail _ hp), mem1 _ off₄, hS₄, R₄⟩
    cases f with
    | ret v => exact h₄
    | brk => exact h₄.elim
    | cont => exact fin h₄
    | next => exact fin h₄
  · obtain rfl : i = n := Nat.le_antisymm hi (Nat.not_lt.mp hlt)
    refine W.done _ _ _ hst' fun h₂ tk₂ hk₂ => wpAny_execs_nil ?_
    exact done _ _ _ _ _ _ R' (fr_but F' hk₂ hIL hI₀) (news_but N' hk₂ off')
inductive SrcFL (prog : Program) (w : World) (A : Around) (h₀ : Heap) (L : Addr) (env : Env) (x : Str) (body : List Stmt) (Q : Flow → Shared → Prop) (E : Value → Shared → Prop) : Value → Shared → Prop
  | mk {s₁ : Shared} (ax : Addr) (its : Array Value) (k : Nat) (news : List (Addr × Obj)) (m : Str → Option Value) (hh : A.handled = none) (F : Fr h₀ L s₁.heap m) (N : News h₀ L s₁.heap news) (hm : (ax, listOf its k) ∈ news) (G : GoF prog w A h₀ L m env x body Q E its.size (fun i v => its[i]? = some v) (SrcAt h₀ ax its) news s₁) : SrcFL prog w A h₀ L env x body Q E (.ref ax) s₁
inductive SrcFR (prog : Program) (w : World) (A : Around) (h₀ : Heap) (L : Addr) (env : Env) (x : Str) (body : List Stmt) (Q : Flow → Shared → Prop) (E : Value → Shared → Prop) : Value → Shared → Prop
  | mk {s₁ : Shared} (r : Addr) (a b : Int) (t u v : Tok) (n : Nat) (news : List (Addr × Obj)) (m : Str → Option Value) (hh : A.handled = none) (F : Fr h₀ L s₁.heap m) (N : News h₀ L s₁.heap news) (hr : IsRange s₁.heap r a b 1 t u v) (hsm : Builtin.Range.small a b 1 = true) (hn : Builtin.Range.rangeSize a b 1 = ((n : Nat) : Int))
    (G : GoF prog w A h₀ L m env x body Q E n (fun i v => ∃ t, v = .int (a + (i : Int)) t) (fun _ => True) news s₁) : SrcFR prog w A h₀ L env x body Q E (.ref r) s₁
def SrcF (prog : Program) (w : World) (A : Around) (h₀ : Heap) (L : Addr) (env : Env) (x : Str) (body : List Stmt) (Q : Flow → Shared → Prop) (E : Value → Shared → Prop) (xv : Value) (s₁ : Shared) : Prop :=
  SrcFL prog w A h₀ L env x body Q E xv s₁ ∨ SrcFR prog w A h₀ L env x body Q E xv s₁
theorem For_J {x : Str} {px pos : Pos} {iter : Expr} {body : List Stmt} {Q : Flow → Shared → Prop} (_F₀ : Fr h₀ L s.heap m) (hLe : env.locals = L)
    (hx : env.kindOf x = some .local) (hpk : (env.scope.kind == .class || (env.scope.kind == .module && env.locals != env.globals)) = false)
    (h : wpAny (model prog w) A (eval iter env) (SrcF prog w A h₀ L env x body Q E) E s)
    (hs : ∀ x, foldedSetIterable iter env x = pure x := by intro _; rfl)
    (hE : PassesOwn (model prog w) A env E := by passes_own) :
    wpAny (model prog w) A (exec (.For (.Name x px) iter body [] pos) env) Q E s := by
  subst hLe
  refine wpAny_For (wpAny_mono h (fun xv s₁ h₁ => ?_) fun _ _ e => e) hs
  rcases h₁ with ⟨ax, its, k, news, m, hh, F, N, hm, G⟩ | ⟨r, a, b, t, u, v, n, news, m, hh, F, N, hr, hsm, hn, G⟩
  · have hl : s₁.heap.IsList ax its := listOf_isList (N.get hm)
    have hlt : ax < s₁.heap.objs.size := Heap.lt_size (N.get hm)
    refine wpAny_pyIter_list hl ?_
    have up : ∀ b o, s₁.heap.get? b = some o → (s₁.heap.push { cls := .type "list_iterator", data := .fields #[.ref ax, .int 0 0] }).get? b = some o := fun b o e => Heap.get?_push_of_some _ e
    refine fblock (Walks.list hh s₁.heap.objs.size ax (Nat.ne_of_lt hlt) its) (fun i h st => by obtain ⟨o, e, _, d⟩ := st.1; exact ⟨o, e, it_list d⟩) list_st hx hpk ⟨⟨_, Heap.get?_push_size _ rfl, rfl, rfl⟩, hl.push _⟩ (fun hb => ?_)
      (F.keeps up) (N.grown up) (next_is_new F) (fun p hp => Nat.ne_of_lt (Heap.lt_size (N p hp).1)) (.inr ⟨_, hm, rfl, _, rfl⟩) hE G
    rcases List.mem_cons.mp hb with hb | hb
    · exact Nat.ne_of_lt F.ns.lt hb
    · exact (N _ hm).2.1 (List.mem_singleton.mp hb).symm
  · refine wpAny_pyIter_range hr hsm ?_
    refine fblock (range_walks hh a n) (fun i h st => ⟨_, st, it_range⟩) range_st hx hpk (by show IsRangeIter _ _ _ _ _; rw [hn]; simpa using Heap.get?_push_size _ rfl) (fun hb => ?_)
      (F.keeps fun _ _ e => Heap.get?_push_of_some _ e) (N.grown fun _ _ e => Heap.get?_push_of_some _ e) (next_is_new F) (fun p hp => Nat.ne_of_lt (Heap.lt_size (N p hp).1)) trivial hE G
    exact Nat.ne_of_lt F.ns.lt (List.mem_singleton.mp hb)
end
end
section
open PySem PySem.Calls PyProof.Rows PySem.W PySem.Spec PyProof.Rows.LCg
section
variable {prog : Program} {w : World} {A : Around} {E : Value → Shared → Prop} {s : Shared} {h₀ : Heap} {L : Addr} {m : Str → Option Value} {env : Env}
abbrev enumObj (it : Addr) (i : Int) (old : Value) : Obj := { cls := .type "enumerate", dict := none, data := .fields #[.none, .bool false, .ref it, rawInt i, .none, old], slots := #[] }
abbrev litObj (l : Addr) : Obj := { cls := .type "list_iterator", data := .fields #[.ref l, .int 0 0] }
inductive ForEnd2 (h₀ : Heap) (L : Addr) (s : Shared) (I : Addr) (oI : Obj) (I2 : Addr) (oI2 : Obj) (J : (Str → Option Value) → List (Addr × Obj) → Gens → Prop) : Shared → Prop
  | mk (h' : Heap) (tk' : Nat) (g' : Gens) (d' : Drawn) (m' : Str → Option Value) (news' : List (Addr × Obj)) (F : Fr h₀ L h' m') (N : News h₀ L h' ((I, oI) :: (I2, oI2) :: news')) (o1 : Off1 I news') (o2 : Off1 I2 news') (hJ : J m' news' g') : ForEnd2 h₀ L s I oI I2 oI2 J (stG s h' tk' g' d')
def ForTurn2 (h₀ : Heap) (L : Addr) (s : Shared) (I : Addr) (oI : Obj) (I2 : Addr) (oI2 : Obj) (J : (Str → Option Value) → List (Addr × Obj) → Gens → Prop) (Q : Flow → Shared → Prop) (f : Flow) (s₂ : Shared) : Prop :=
  match f with
  | .ret v => Q (.ret v) s₂
  | .brk => False
  | _ => ForEnd2 h₀ L s I oI I2 oI2 J s₂
inductive EnumI (h₀ : Heap) (L : Addr) (s₁ : Shared) (e it l : Nat) (its : Array Value) (k : Nat) (J : Nat → (Str → Option Value) → List (Addr × Obj) → Gens → Prop) (k' : Nat) : Shared → Prop
  | mk (h' : Heap) (tk : Nat) (g : Gens) (d : Drawn) (i : Nat) (old : Value) (m' : Str → Option Value) (news' : List (Addr × Obj)) (hi : i ≤ its.size) (hk : k' = its.size + 1 - i) (hE : IsEnum h' e it ((i : Nat) : Int) old) (hI : h'.IsListIter it l i) (F : Fr h₀ L h' m') (N : News h₀ L h' news') (oe : ∀ p ∈ news', p.1 ≠ e) (oi : ∀ p ∈ news', p.1 ≠ it) (hm : (l, listOf its k) ∈ news') (hJ : J i m' news' g) : EnumI h₀ L s₁ e it l its k J k' (stG s₁ h' tk g d)
inductive EnumSrc (prog : Program) (w : World) (A : Around) (E : Value → Shared → Prop) (h₀ : Heap) (L : Addr) (env : Env) (xi xv : Str) (body : List Stmt) (Q : Flow → Shared → Prop) : Value → Shared → Prop
  | mk (s₁ : Shared) (e it l : Nat) (its : Array Value) (k : Nat) (news : List (Addr × Obj)) (m : Str → Option Value) (oit : Obj) (hc : oit.cls = .type "list_iterator") (hd : oit.data = .fields #[.ref l, .int 0 0]) (F : Fr h₀ L s₁.heap m) (N : News h₀ L s₁.heap ((e, enumObj it 0 .none) :: (it, oit) :: news)) (hm : (l, listOf its k) ∈ news) (hei : e ≠ it) (oe : ∀ p ∈ news, p.1 ≠ e) (oi : ∀ p ∈ news, p.1 ≠ it)
      (J : Nat → (Str → Option Value) → List (Addr × Obj) → Gens → Prop) (j0 : J 0 m news s₁.gens)
      (turn : ∀ i v I oI I2 oI2 t m₁ h tk g d nw, its[i]? = some v → J i m₁ nw g → Fr h₀ L h (fun y => if y = xv then some v else if y = xi then some (.int i t) else m₁ y) → News h₀ L h ((I, oI) :: (I2, oI2) :: nw) → Off1 I nw → Off1 I2 nw → @Ne Nat I I2 →
          wpAny (model prog w) A (execs body env) (ForTurn2 h₀ L s₁ I oI I2 oI2 (fun m n g => (l, listOf its k) ∈ n ∧ J (i + 1) m n g) Q) E (stG s₁ h tk g d))
      (done : ∀ m₁ nw h tk g d, J its.size m₁ nw g → Fr h₀ L h m₁ → News h₀ L h nw → Q .next (stG s₁ h tk g d)) : EnumSrc prog w A E h₀ L env xi xv body Q (.ref e) s₁
theorem off1_of {I : Nat} : ∀ l : List (Addr × Obj), (∀ p ∈ l, p.1 ≠ I) → Off1 I l
  | [], _ => trivial
  | p :: r, h => ⟨h _ (.head _), off1_of r fun q hq => h q (.tail _ hq)⟩
theorem off1_mem {I : Nat} : ∀ l : List (Addr × Obj), Off1 I l → ∀ p ∈ l, p.1 ≠ I
  | [], _, _, h => nomatch h
  | p :: r, x, q, hq => by
    rcases List.mem_cons.mp hq with rfl | hq
    · exact x.1
    · exact off1_mem r x.2 q hq
theorem For_enum {m0 : Str → Option Value} {xi xv : Str} {pi pv pt pos : Pos} {x1} {iter : Expr} {body : List Stmt} {Q : Flow → Shared → Prop} (_F₀ : Fr h₀ L s.heap m0) (hLe : env.locals = L) (hh : A.handled = none)
    (hxi : env.kindOf xi = some .local) (hxv : env.kindOf xv = some .local) (hpk : (env.scope.kind == .class || (env.scope.kind == .module && env.locals != env.globals)) = false)
    (h : wpAny (model prog w) A (eval iter env) (EnumSrc prog w A E h₀ L env xi xv body Q) E s)
    (hs : ∀ x, foldedSetIterable iter env x = pure x := by intro _; rfl)
    (hE : PassesOwn (model prog w) A env E := by passes_own) :
    wpAny (model prog w) A (exec (.For (.Tuple [.Name xi pi, .Name xv pv] x1 pt) iter body [] pos) env) Q E s := by
  subst hLe
  refine wpAny_For (wpAny_mono h (fun xv' s₁ h₁ => ?_) fun _ _ e => e) hs
  obtain ⟨_, e, it, l, its, k, news, m, oit, hc, hd, F, N, hm, hei, offe, offi, J, j0, turn, done⟩ := h₁
  have hT : s₁.TypeIs (.ref e) "enumerate" := ⟨_, (N _ (.head _)).1, rfl⟩
  have Ne' := N _ (.head _)
  have Ni := N _ (.tail _ (.head _))
  have heL : e ≠ env.locals := Ne'.2.1
  have hiL : it ≠ env.locals := Ni.2.1
  have hL₀ : h₀.get? env.locals = none := Heap.get?_none_of_le F.above
  refine wpAny_pyIter_slot hT PySem.F.slot_enumerate_iter (wpAny_call_entry PySem.F.slot_enumerate_iter hT PySem.F.entry_enumerate_iter ?_ (PySem.F.args_enumerate_iter_1 _))
  refine wpAny_pure ⟨_, rfl, "enumerate", _, hT, PySem.F.slot_enumerate_next.lookup, ?_⟩
  refine codeAny_forLoop_any (R := fun r s' => match r with | .ok f => Q f s' | .error e => cameBackBy (model prog w) A env E e s')
    (EnumI h₀ env.locals s₁ e it l its k J) ?_ (its.size + 1)
    (EnumI.mk s₁.heap _ _ _ 0 _ m news (Nat.zero_le _) rfl Ne'.1 ⟨_, Ni.1, hc, hd⟩ F (fun p hp => N p (.tail _ (.tail _ hp))) offe offi hm j0)
  rintro k' s' ⟨H, tk, g, d, i, old, m', news', hi, hkk, he', hit', F', N', offe', offi', hm', hJ⟩
  have hl' : H.IsList l its := listOf_isList (N'.get hm')
  cases hv : its[i]? with
  | none =>
    have hsz : i = its.size := Nat.le_antisymm hi (by simpa using hv)
    refine wpAny_pyNext_enum_end hh he' hit' hl' hv fun h₁ he₁ => wpAny_execs_nil ?_
    refine done m' news' h₁ tk g d (hsz ▸ hJ) ⟨F'.ns.at' fun o x => he₁ _ o (Ne.symm hiL) x, fun b o x => he₁ b o (fun q => by rw [q, Ni.2.2] at x; cases x) (F'.keep b o x), F'.above⟩ fun p hp => ⟨he₁ _ _ (offi' p hp) (N' p hp).1, (N' p hp).2⟩
  | some v =>
    have hlt : i < its.size := (Array.getElem?_eq_some_iff.mp hv).1
    have heH : e < H.objs.size := Heap.lt_size he'
    obtain ⟨oi, hoi, _⟩ := id hit'
    have hiH : it < H.objs.size := Heap.lt_size hoi
    have hLH : env.locals < H.objs.size := F'.ns.lt
    refine wpAny_pyNext_enum_item he' hit' hl' hv hei fun h₁ heo hit₁ ht₁ hz₁ hk₁ => ?_
    refine wpAny_letOwnedTupleGo_enum heo fun h₂ he₂ hs₂ => ?_
    replace hs₂ : Heap.SameBut e h₁ h₂ := hs₂
    have ht₂ : h₂.IsTuple H.objs.size #[.int i tk, v] := ⟨_, (hs₂.2 _ (Nat.ne_of_gt heH)).trans ht₁, rfl, _, rfl⟩
    have hz₂ : h₂.objs.size = H.objs.size + 1 := hs₂.1.trans hz₁
    refine wpAny_assign_Tuple hh ht₂ rfl rfl fun h₃ hx₃ => ?_
    replace hx₃ : Heap.ExtBut h₂.objs.size h₂ h₃ := hx₃
    have old₃ : ∀ b o, b < H.objs.size + 1 → h₂.get? b = some o → h₃.get? b = some o := fun b o hb x => hx₃ b o (by rw [hz₂]; exact Nat.ne_of_lt hb) x
    have up3 : ∀ b o, b ≠ e → b ≠ it → H.get? b = some o → h₃.get? b = some o := fun b o h1 h2 x => old₃ _ _ (Nat.lt_succ_of_lt (Heap.lt_size x)) (hs₂.extBut b o h1 (hk₁ b o h1 h2 x))
    have F₃ : Fr h₀ env.locals h₃ m' := ⟨F'.ns.at' fun o x => up3 _ o (Ne.symm heL) (Ne.symm hiL) x, fun b o x => up3 b o (fun q => by rw [q, Ne'.2.2] at x; cases x) (fun q => by rw [q, Ni.2.2] at x; cases x) (F'.keep b o x), F'.above⟩
    have e₃ : IsEnum h₃ e it ((i : Int) + 1) v := old₃ _ _ (Nat.lt_succ_of_lt heH) he₂
    obtain ⟨oi₁, hoi₁, di₁⟩ := id hit₁
    have i₃ : h₃.get? it = some oi₁ := old₃ _ _ (Nat.lt_succ_of_lt hiH) (hs₂.extBut _ _ (Ne.symm hei) hoi₁)
    show wpAny _ A (do holding [v] (assign (.Name xi pi) env (.int i tk)); do holding [] (assign (.Name xv pv) env v); pure ()) _ _ _
    refine wpAny_bind (wpAny_holding (wpAny_assign_Name (wpAny_storeName_local hxi F₃.ns (fun h₄ hn₄ hs₄ => ?_) hpk)))
    replace hs₄ : Heap.SameBut env.locals h₃ h₄ := hs₄
    refine wpAny_bind (wpAny_holding (wpAny_assign_Name (wpAny_storeName_local hxv hn₄ (fun h₅ hn₅ hs₅ => wpAny_pure ?_) hpk)))
    replace hs₅ : Heap.SameBut env.locals h₄ h₅ := hs₅
    have up5 : ∀ b o, b ≠ env.locals → h₃.get? b = some o → h₅.get? b = some o := fun b o h1 x => hs₅.extBut b o h1 (hs₄.extBut b o h1 x)
    have F₅ : Fr h₀ env.locals h₅ _ := ⟨hn₅, fun b o x => up5 b o (fun q => by rw [q, hL₀] at x; cases x) (F₃.keep b o x), F₃.above⟩
    have N₅ : News h₀ env.locals h₅ ((e, enumObj it ((i : Int) + 1) v) :: (it, oi₁) :: news') := fun p hp => by
      rcases List.mem_cons.mp hp with rfl | hp
      · exact ⟨up5 _ _ heL e₃, Ne'.2⟩
      · rcases List.mem_cons.mp hp with rfl | hp
        · exact ⟨up5 _ _ hiL i₃, Ni.2⟩
        · exact ⟨up5 _ _ (N' p hp).2.1 (up3 _ _ (offe' p hp) (offi' p hp) (N' p hp).1), (N' p hp).2⟩
    refine wpAny_passesOwn hE (wpAny_mono (turn i v e _ it oi₁ tk m' h₅ _ g d news' hv hJ F₅ N₅ (off1_of _ offe') (off1_of _ offi') hei) (fun f s₃ h₆ => ?_) fun _ _ x => x)
    have fin : ForEnd2 h₀ env.locals s₁ e (enumObj it ((i : Int) + 1) v) it oi₁ (fun m n g => (l, listOf its k) ∈ n ∧ J (i + 1) m n g) s₃ → ∃ m, m < k' ∧ EnumI h₀ env.locals s₁ e it l its k J m s₃ := by
      rintro ⟨h₇, tk₇, g₇, d₇, m₇, news₇, F₇, N₇, o1, o2, hm₇, J₇⟩
      refine ⟨its.size + 1 - (i + 1), dec_lt hlt hkk, EnumI.mk h₇ tk₇ g₇ d₇ (i + 1) v m₇ news₇ hlt rfl ?_ ⟨_, (N₇ _ (.tail _ (.head _))).1, di₁.1, di₁.2⟩ F₇ (fun p hp => N₇ p (.tail _ (.tail _ hp))) (off1_mem _ o1) (off1_mem _ o2) hm₇ J₇⟩
      have z := (N₇ _ (.head _)).1
      rw [cast1]
      exact z
    cases f with
    | ret v => exact h₆
    | brk => exact h₆.elim
    | cont => exact fin h₆
    | next => exact fin h₆
theorem enum_made {l : Nat} {its : Array Value} {k : Nat} {news : List (Addr × Obj)} {Q : Value → Shared → Prop} (F : Fr h₀ L s.heap m) (N : News h₀ L s.heap news) (hm : (l, listOf its k) ∈ news)
    (h : ∀ (it e : Nat) oit h', (oit.cls = .type "list_iterator" ∧ oit.data = .fields #[.ref l, .int 0 0]) → Fr h₀ L h' m → News h₀ L h' ((e, enumObj it 0 .none) :: (it, oit) :: news) → (∀ p ∈ news, p.1 < it) → it < e → Q (.ref e) { s with heap := h' }) :
    wpAny (model prog w) A (call (.type "enumerate") [.ref l]) Q E s := by
  have hl : s.heap.IsList l its := listOf_isList (N.get hm)
  refine call_enumerate_list hl fun h' hE hI hsz hk => ?_
  obtain ⟨o, ho, h1, h2⟩ := hI
  have f1 := kdx_fresh F (Nat.le_refl s.heap.objs.size)
  have f2 := kdx_fresh F (Nat.le_succ s.heap.objs.size)
  refine h s.heap.objs.size (s.heap.objs.size + 1) o h' ⟨h1, h2⟩ (F.keeps hk) (fun p hp => ?_) (fun p hp => Heap.lt_size (N p hp).1) (Nat.lt_succ_self _)
  rcases List.mem_cons.mp hp with rfl | hp
  · exact ⟨hE, f2⟩
  · rcases List.mem_cons.mp hp with rfl | hp
    · exact ⟨ho, f1⟩
    · exact ⟨hk _ _ (N p hp).1, (N p hp).2⟩
end
end
section
open PySem PySem.Calls PyProof.Rows PySem.W PySem.Spec PyProof.Rows.LCg
section
variable {prog : Program} {w : World} {A : Around} {E : Value → Shared → Prop} {s : Shared} {h₀ : Heap} {L : Addr} {m : Str → Option Value} {env : Env}
abbrev nest (elt : Expr) (t0 i0 t1 i1 : Expr) (scope : Scope) (pos : Pos) : Expr := .ListComp elt [⟨t0, i0, [], 0⟩, ⟨t1, i1, [], 0⟩] scope pos
theorem compTurn_nest0 (elt t0 i0 t1 i1 : Expr) (scope : Scope) (pos : Pos) (it acc : Value) (env : Env) :
    compTurn (nest elt t0 i0 t1 i1 scope pos) 0 it acc env = (standAt i0.pos >>= fun _ => pyNext it >>= fun r => match r with
      | none => pure (.done .next)
      | some v => letOwnedTupleGo t0 it v >>= fun _ => assign t0 env v >>= fun _ =>
        (eval i1 env >>= fun x => standAt i1.pos >>= fun _ => foldedSetIterable i1 env x >>= fun x => holding [x] (pyIter x) >>= fun it1 => runOwn (.compStart (nest elt t0 i0 t1 i1 scope pos) 1 it1 acc env) env >>= fun _ => 
          again (.compLoop (nest elt t0 i0 t1 i1 scope pos) 0 it acc env))) := by rfl
theorem compTurn_nest1 (elt t0 i0 t1 i1 : Expr) (scope : Scope) (pos : Pos) (it acc : Value) (env : Env) :
    compTurn (nest elt t0 i0 t1 i1 scope pos) 1 it acc env = (standAt i1.pos >>= fun _ => pyNext it >>= fun r => match r with
      | none => pure (.done .next)
      | some v => letOwnedTupleGo t1 it v >>= fun _ => assign t1 env v >>= fun _ =>
        (eval elt env >>= fun x => call (.builtin "list.append") [acc, x] >>= fun _ => pure ()) >>= fun _ =>
          again (.compLoop (nest elt t0 i0 t1 i1 scope pos) 1 it acc env)) := by rfl
theorem codeAny_start1 {elt t0 i0 t1 i1 : Expr} {scope : Scope} {pos : Pos} {it acc : Value} {R : Result → Shared → Prop}
    (h0 : codeAny (model prog w) A (.compLoop (nest elt t0 i0 t1 i1 scope pos) 1 it acc env) R s)
    (h : wpAny (model prog w) A (pyIter it) (fun it' s' => codeAny (model prog w) A (.compLoop (nest elt t0 i0 t1 i1 scope pos) 1 it' acc env) R s')
      (notedBy (model prog w) A env fun x s' => R (.error x) s') s) :
    codeAny (model prog w) A (.compStart (nest elt t0 i0 t1 i1 scope pos) 1 it acc env) R s := by
  refine codeAny_of_tree ?_
  show wpAny _ _ ((compStart (nest elt t0 i0 t1 i1 scope pos) 1 it acc env).onRaise (fun x => do noteFrame x env; standAt theWindowsPlace)) _ _ s
  refine wpAny_notedAt ?_
  unfold compStart
  show wpAny _ _ (ask >>= _) _ _ s
  refine wpAny_bind (wpAny_askSetting (wpAny_ite ?_))
  split
  · first
      | exact wpAny_bind (wpAny_pure (wpAny_pure (And.intro rfl h0)))
      | exact wpAny_pure (And.intro rfl h0)
  · first
      | exact wpAny_bind (wpAny_rule (wpAny_bind (wpAny_standAt (wpAny_bind (wpAny_mono h (fun it' s' h' => wpAny_pure (And.intro rfl h')) fun _ _ x => x)))))
      | (refine wpAny_bind (wpAny_rule ?_); show wpAny _ _ (standAt i1.pos >>= _) _ _ s; exact wpAny_bind (wpAny_standAt (wpAny_bind (wpAny_mono h (fun it' s' h' => wpAny_pure (And.intro rfl h')) fun _ _ x => x))))
inductive InnI (s : Shared) (I1 ax1 C D : Addr) (its : Array Value) (ys : List Value) (k : Nat) : Shared → Prop
  | mk (h' : Heap) (tk i : Nat) (m' : Str → Option Value) (hi : i ≤ its.size) (hk : k = its.size + 1 - i) (hst : h'.IsListIter I1 ax1 i ∧ h'.IsList ax1 its) (hn : h'.Ns C m') (hD : h'.get? D = some (lst (ys ++ its.toList.take i))) (kk : ∀ b o, b ≠ I1 → b ≠ C → b ≠ D → s.heap.get? b = some o → h'.get? b = some o) : InnI s I1 ax1 C D its ys k { s with heap := h', toks := tk }
theorem inner_loop {t0 i0 i1 : Expr} {y : Str} {pe p1 : Pos} {scope : Scope} {cl : List (Str × Addr)} {pos : Pos} {I1 ax1 C D : Addr} {its : Array Value} {ys : List Value} {R : Result → Shared → Prop}
    (hh : A.handled = none) (hkind : scope.kind = .function) (hy : scope.names.lookup y = some .local) (hdb : (y == ("__debug__" : Str)) = false)
    (hIax : ax1 ≠ I1) (hIC : I1 ≠ C) (hID : I1 ≠ D) (haC : ax1 ≠ C) (haD : ax1 ≠ D) (hCD : C ≠ D) (hsz : ys.length + its.size ≤ sizeLine)
    (hit : s.heap.IsListIter I1 ax1 0) (hl : s.heap.IsList ax1 its) (hn : s.heap.Ns C m) (hD : s.heap.get? D = some (lst ys))
    (hR : ∀ h' tk m', h'.get? D = some (lst (ys ++ its.toList)) → h'.Ns C m' → (∀ b o, b ≠ I1 → b ≠ C → b ≠ D → s.heap.get? b = some o → h'.get? b = some o) → R (.ok .next) { s with heap := h', toks := tk }) :
    codeAny (model prog w) A (.compLoop (nest (.Name y pe) t0 i0 (.Name y p1) i1 scope pos) 1 (.ref I1) (.ref D) (compEnvC scope cl C env)) R s := by
  have W := Walks.list (prog := prog) (w := w) (A := A) hh I1 ax1 hIax its
  refine codeAny_loop rfl (InnI s I1 ax1 C D its ys) (fun k s' hI => ?_) (its.size + 1) (InnI.mk s.heap _ 0 m (Nat.zero_le _) rfl ⟨hit, hl⟩ hn (by simpa using hD) (fun _ _ _ _ _ e => e))
  obtain ⟨h', tk, i, m', hi, hkk, hst, hn', hD', hk⟩ := hI
  show wpAny _ A ((compTurn (nest (.Name y pe) t0 i0 (.Name y p1) i1 scope pos) 1 (.ref I1) (.ref D) (compEnvC scope cl C env)).onRaise (fun x => do noteFrame x (compEnvC scope cl C env); theTreesLotGoes x)) _ _ _
  refine wpAny_noted ?_
  rw [compTurn_nest1]
  refine wpAny_bind (wpAny_standAt (wpAny_bind ?_))
  by_cases hlt : i < its.size
  · refine W.item i _ _ _ hlt hst fun v h₂ tk₂ hv hst₂ hk₂ => ?_
    refine wpAny_bind (wpAny_of_eq (a := ()) rfl ?_)
    have k2 : ∀ b o, b ≠ I1 → h'.get? b = some o → h₂.get? b = some o := fun b o hb e => hk₂ b o (by simpa using hb) e
    refine wpAny_bind (wpAny_assign_Name (wpAny_storeName_local (lookup_relabel_local hy) (hn'.at' fun o e => k2 _ o (Ne.symm hIC) e) (fun h₃ hn₃ hs₃ => ?_) (by simp [compEnvC, relabel, hkind])))
    replace hs₃ : Heap.SameBut C h₂ h₃ := hs₃
    refine wpAny_bind (wpAny_bind ?_)
    refine wpAny_Name (wpAny_loadName_local hkind (lookup_relabel_local hy) hn₃ (by simp; rfl) ?_) hdb
    refine wpAny_bind ?_
    have hD₃ : h₃.get? D = some (lst (ys ++ its.toList.take i)) := hs₃.extBut _ _ (Ne.symm hCD) (k2 _ _ (Ne.symm hID) hD')
    have hz9 : (ys ++ its.toList.take i).toArray.size ≤ sizeLine := by
      simp only [List.size_toArray, List.length_append, List.length_take, Array.length_toList]
      lia
    refine append_at (hsz := hz9) hD₃ fun h₅ hs₅ hD₅ => ?_
    refine wpAny_pure ?_
    refine wpAny_pure ⟨rfl, ?_⟩
    have st3 : h₃.IsListIter I1 ax1 (i + 1) ∧ h₃.IsList ax1 its := ⟨hst₂.1.at fun o e => hs₃.extBut _ _ hIC e, hst₂.2.at fun o e => hs₃.extBut _ _ haC e⟩
    refine ⟨its.size + 1 - (i + 1), dec_lt hlt hkk, h₅, _, i + 1, _, hlt, rfl, ⟨st3.1.at fun o e => hs₅.extBut _ _ hID e, st3.2.at fun o e => hs₅.extBut _ _ haD e⟩, hn₃.sameBut hs₅ hCD, ?_, fun b o h1 h2 h3 e => hs₅.extBut b o h3 (hs₃.extBut b o h2 (k2 b o h1 (hk b o h1 h2 h3 e)))⟩
    have e9 : its.toList.take (i + 1) = its.toList.take i ++ [v] := by
      rw [List.take_succ_eq_append_getElem (by simpa using hlt)]
      have hv' : its[i]? = some v := hv
      rw [Array.getElem?_eq_getElem hlt] at hv'
      simpa using hv'
    rw [e9, ← List.append_assoc]
    exact hD₅.trans (congrArg some (lst_snoc _ v))
  · obtain rfl : i = its.size := Nat.le_antisymm hi (Nat.not_lt.mp hlt)
    refine W.done _ _ _ hst fun h₂ tk₂ hk₂ => ?_
    have k2 : ∀ b o, b ≠ I1 → h'.get? b = some o → h₂.get? b = some o := fun b o hb e => hk₂ b o (by simpa using hb) e
    refine wpAny_pure ?_
    refine hR h₂ tk₂ m' ?_ (hn'.at' fun o e => k2 _ o (Ne.symm hIC) e) fun b o h1 h2 h3 e => k2 b o h1 (hk b o h1 h2 h3 e)
    rw [k2 _ _ (Ne.symm hID) hD']
    rw [show its.toList.take its.size = its.toList by rw [← Array.length_toList, List.take_length]]
inductive NEndJ (h₀ : Heap) (L : Addr) (m : Str → Option Value) (s : Shared) (I : Addr) (oI : Obj) (C : Addr) (oC : Obj) (D : Addr) (ys : List Value) (S : List (Addr × Obj) → Prop) (J : List Value → List (Addr × Obj) → Gens → Prop) : Value → Shared → Prop
  | mk (h' : Heap) (tk' : Nat) (g' : Gens) (d' : Drawn) (news' : List (Addr × Obj)) (ax1 : Addr) (its1 : Array Value) (k1 : Nat) (F : Fr h₀ L h' m) (N : News h₀ L h' ((I, oI) :: (C, oC) :: (D, lst ys) :: news')) (off : Off3 I C D news') (hS : S news') (hm : (ax1, listOf its1 k1) ∈ news') (hz : ys.length + its1.size ≤ sizeLine) (hJ : J (ys ++ its1.toList) news' g') : NEndJ h₀ L m s I oI C oC D ys S J (.ref ax1) (stG s h' tk' g' d')
def EltN (prog : Program) (w : World) (A : Around) (h₀ : Heap) (L : Addr) (m : Str → Option Value) (env : Env) (i1 : Expr) (x : Str) (scope : Scope) (cl : List (Str × Addr)) (s : Shared) (S : List (Addr × Obj) → Prop) (P : Nat → Value → Prop) (n : Nat) (J : Nat → List Value → List (Addr × Obj) → Gens → Prop) : Prop :=
  ∀ i v I oI C oC D m₂ h tk g d ys news (E' : Value → Shared → Prop), i < n → P i v → J i ys news g → S news → NsObj oC m₂ → m₂ x = some v → Fr h₀ L h m → News h₀ L h ((I, oI) :: (C, oC) :: (D, lst ys) :: news) → Off3 I C D news → ((@Ne Nat I C) ∧ (@Ne Nat I D) ∧ (@Ne Nat C D)) →
    wpAny (model prog w) A (eval i1 (compEnvC scope cl C env)) (NEndJ h₀ L m s I oI C oC D ys S (J (i + 1))) E' (stG s h tk g d)
inductive SrcN (prog : Program) (w : World) (A : Around) (h₀ : Heap) (L : Addr) (m : Str → Option Value) (env : Env) (i1 : Expr) (x : Str) (scope : Scope) (cl : List (Str × Addr)) (Fin : List (Addr × Obj) → List Value → List (Addr × Obj) → Gens → Shared → Prop) : Value → Shared → Prop
  | mk {s₁ : Shared} (ax : Addr) (its : Array Value) (k : Nat) (news : List (Addr × Obj)) (F : Fr h₀ L s₁.heap m) (N : News h₀ L s₁.heap news) (hm : (ax, listOf its k) ∈ news) (J : Nat → List Value → List (Addr × Obj) → Gens → Prop) (j0 : J 0 [] news s₁.gens) (R : EltN prog w A h₀ L m env i1 x scope cl s₁ (SrcAt h₀ ax its) (fun i v => its[i]? = some v) its.size J) (fin : ∀ ys nw g, J its.size ys nw g → Fin news ys nw g s₁) : SrcN prog w A h₀ L m env i1 x scope cl Fin (.ref ax) s₁
theorem nblock {i0 i1 : Expr} {x y : Str} {px pe p1 : Pos} {scope : Scope} {cl : List (Str × Addr)} {pos : Pos} {s₂ : Shared} {I : Addr} {fp : List Addr} {n : Nat} {P : Nat → Value → Prop} {St : Nat → Heap → Prop} {S : List (Addr × Obj) → Prop} {news : List (Addr × Obj)}
    {J : Nat → List Value → List (Addr × Obj) → Gens → Prop} {RR : Value → Addr → Result → Shared → Prop}
    (hh : A.handled = none) (hyl : scope.names.lookup y = some .local) (hdb : (y == ("__debug__" : Str)) = false) (hs1 : ∀ e x, foldedSetIterable i1 e x = pure x)
    (W : Walks prog w A I fp [I] n P St) (hIo : ∀ i h, St i h → ∃ o, h.get? I = some o)
    (hSt : ∀ i h h' o nw, St i h → h.get? I = some o → h'.get? I = some o → (∀ b o, h₀.get? b = some o → h'.get? b = some o) → News h₀ L h' nw → S nw → St i h')
    (hcell : ∀ y ∈ scope.names, y.2 ≠ .cell) (hkind : scope.kind = .function) (hx : scope.names.lookup x = some .local) (hst : St 0 s₂.heap) (hfp : ∀ b ∈ fp, b < s₂.heap.objs.size)
    (F : Fr h₀ L s₂.heap m) (N : News h₀ L s₂.heap news) (hIL : L ≠ I) (hI₀ : h₀.get? I = none) (off : ∀ p ∈ news, p.1 ≠ I) (hS : S news) (hs : ∃ h, s₂ = { s with heap := h })
    (hJ : J 0 [] news s.gens) (R : EltN prog w A h₀ L m env i1 x scope cl s S P n J)
    (hRR : ∀ D C h tk g d m' ys news', J n ys news' g → Fr h₀ L h m → News h₀ L h ((D, lst ys) :: news') → Off1 D news' → h.Ns C m' → h₀.get? C = none → h₀.get? D = none → C ≠ L → D ≠ L → C ≠ D → (∀ p ∈ news', p.1 ≠ C) → (∀ q ∈ news, q.1 < D) → RR (.ref D) C (.ok .next) (stG s h tk g d)) :
    wpAny (model prog w) A (newList []) (fun acc s₃ => wpAny (model prog w) A (newFunctionEnv scope env.globals cl [] env.qual none .none (some env)) (fun cenv s₄ =>
      codeAny (model prog w) A (.compStart (nest (.Name y pe) (.Name x px) i0 (.Name y p1) i1 scope pos) 0 (.ref I) acc { cenv with scope := relabel scope env }) (RR acc cenv.locals) s₄) E s₃) E s₂ := by
  obtain ⟨hp, rfl⟩ := hs
  dsimp only at hst hfp F N ⊢
  refine wpAny_newObj_type (wpAny_newFunctionEnv hcell (by intro y hy; simp at hy) (fun h₁ hns₁ hsb₁ => ?_) hkind)
  dsimp only at hns₁ hsb₁ ⊢
  generalize hH2 : hp.push { cls := .type "list", dict := none, data := .seq ([] : List Value).toArray } = H2 at hns₁ hsb₁ ⊢
  have hC : H2.objs.size = hp.objs.size + 1 := by rw [← hH2, Heap.size_push]
  have hDC : hp.objs.size ≠ H2.objs.size := by rw [hC]; exact Nat.ne_of_lt (Nat.lt_succ_self _)
  have below : ∀ b, b < hp.objs.size → b ≠ H2.objs.size ∧ b ≠ hp.objs.size := fun b hb => ⟨by rw [hC]; exact Nat.ne_of_lt (Nat.lt_succ_of_lt hb), Nat.ne_of_lt hb⟩
  have hDf : hp.objs.size ∉ fp := fun hm => Nat.lt_irrefl _ (hfp _ hm)
  have hCf : H2.objs.size ∉ fp := fun hm => by have := hfp _ hm; rw [hC] at this; exact Nat.lt_irrefl _ (Nat.lt_of_succ_lt this)
  have hIlt : I < hp.objs.size := hfp I (W.sub I (List.mem_singleton.mpr rfl))
  have old : ∀ b o, hp.get? b = some o → h₁.get? b = some o := fun b o e => hsb₁.extBut b o (below b (Heap.lt_size e)).1 (Heap.get?_push_of_some _ (hH2 ▸ Heap.get?_push_of_some _ e))
  have hacc : h₁.get? hp.objs.size = some (lst []) := hsb₁.extBut _ _ hDC (Heap.get?_push_of_some _ (hH2 ▸ Heap.get?_push_size _ rfl))
  have hst₁ : St 0 h₁ := W.frame _ _ _ hst fun b _ o e => old b o e
  obtain ⟨hDL, hD₀⟩ := kdx_fresh F (Nat.le_refl hp.objs.size)
  obtain ⟨hCL, hC₀⟩ := kdx_fresh F (x := H2.objs.size) (by rw [hC]; exact Nat.le_succ _)
  have hCI : I ≠ H2.objs.size := (below I hIlt).1
  have hDI : I ≠ hp.objs.size := (below I hIlt).2
  have off₀ : Off3 I H2.objs.size hp.objs.size news := Off3.of fun p hq => ⟨off p hq, (below _ (Heap.lt_size (N p hq).1)).1, (below _ (Heap.lt_size (N p hq).1)).2⟩
  have loop : ∀ tk0, codeAny (model prog w) A (.compLoop (nest (.Name y pe) (.Name x px) i0 (.Name y p1) i1 scope pos) 0 (.ref I) (.ref hp.objs.size) (compEnvC scope cl H2.objs.size env)) (RR (.ref hp.objs.size) H2.objs.size) { s with heap := h₁, toks := tk0 } := by
    intro tk0
    refine codeAny_loop rfl
      (CompI h₀ L m s I H2.objs.size hp.objs.size n St S J false) (fun k s' hI => ?_) (n + 1)
      (CompI.mk h₁ _ _ _ 0 [] _ news (Nat.zero_le _) rfl (fun _ => Nat.le_refl _) hst₁ (F.keeps old) hns₁ (fun p hq => ?_) off₀ hS hJ)
    · obtain ⟨h', tk, g, d, i, ys, m', news', hi, hkk, _, hst', F', hn', N', off', hS', R'⟩ := hI
      show wpAny _ A ((compTurn (nest (.Name y pe) (.Name x px) i0 (.Name y p1) i1 scope pos) 0 (.ref I) (.ref hp.objs.size) (compEnvC scope cl H2.objs.size env)).onRaise (fun x => do noteFrame x (compEnvC scope cl H2.objs.size env); theTreesLotGoes x)) _ _ _
      refine wpAny_noted ?_
      rw [compTurn_nest0]
      refine wpAny_bind (wpAny_standAt (wpAny_bind ?_))
      have off3 := off'.mem
      have hDn : ∀ p ∈ (hp.objs.size, lst ys) :: news', p.1 ≠ I := fun p hq => by
        rcases List.mem_cons.mp hq with rfl | hq
        · exact Ne.symm hDI
        · exact (off3 p hq).1
      by_cases hlt : i < n
      · refine W.item i _ _ _ hlt hst' fun v h₂ tk₂ hPv hst₂ hk₂ => ?_
        refine wpAny_bind (wpAny_of_eq (a := ()) rfl ?_)
        refine wpAny_bind (wpAny_assign_Name (wpAny_storeName_local (lookup_relabel_local hx) (hn'.at' fun o e => hk₂ _ o (by simpa using Ne.symm hCI) e) (fun h₃ hn₃ hs₃ => ?_) (by simp [compEnvC, relabel, hkind])))
        have hst₃ : St (i + 1) h₃ := W.frame _ _ _ hst₂ fun b hb o e => hs₃.extBut b o (fun q => hCf (by have q' : b = H2.objs.size := q; rw [← q']; exact hb)) e
        obtain ⟨oI, heI⟩ := hIo _ _ hst₃
        obtain ⟨oC, heC, hoC⟩ := ns_obj hn₃
        have F₃ : Fr h₀ L h₃ m := (fr_but F' hk₂ hIL hI₀).change hs₃ hCL hC₀
        have N₂ := news_but N' hk₂ hDn
        have N₃ : News h₀ L h₃ ((I, oI) :: (H2.objs.size, oC) :: (hp.objs.size, lst ys) :: news') := fun p hq => by
          rcases List.mem_cons.mp hq with rfl | hq
          · exact ⟨heI, Ne.symm hIL, hI₀⟩
          · rcases List.mem_cons.mp hq with rfl | hq
            · exact ⟨heC, hCL, hC₀⟩
            · have z := N₂ p hq
              refine ⟨hs₃.extBut _ _ ?_ z.1, z.2⟩
              rcases List.mem_cons.mp hq with rfl | hq
              · exact hDC
              · exact (off3 p hq).2.1
        refine wpAny_bind (wpAny_mono (R i v I oI H2.objs.size oC hp.objs.size _ h₃ _ _ _ _ _ _ hlt hPv R' hS' hoC (by simp) F₃ N₃ off' ⟨hCI, hDI, Ne.symm hDC⟩) (fun xv s₄ h₄ => ?_) fun _ _ e => e)
        obtain ⟨h₄, tk₄, g₄, d₄, news₄, ax1, its1, k1, F₄, N₄, off₄, hS₄, hax, hsz1, R₄⟩ := h₄
        have zI := (N₄ _ (.head _)).1
        have zC := (N₄ _ (.tail _ (.head _))).1
        have zD := (N₄ _ (.tail _ (.tail _ (.head _)))).1
        have N₄' : News h₀ L h₄ news₄ := fun p hq => N₄ p (.tail _ (.tail _ (.tail _ hq)))
        have hl4 : h₄.IsList ax1 its1 := listOf_isList (N₄'.get hax)
        have off4 := off₄.mem
        have hax4 := off4 _ hax
        refine wpAny_bind (wpAny_standAt (wpAny_bind (wpAny_of_eq (hs1 _ _) (wpAny_bind (wpAny_holding ?_)))))
        refine wpAny_pyIter_list hl4 ?_
        have hIH : I < h₄.objs.size := Heap.lt_size zI
        have hCH : H2.objs.size < h₄.objs.size := Heap.lt_size zC
        have hDH : hp.objs.size < h₄.objs.size := Heap.lt_size zD
        have haxH : ax1 < h₄.objs.size := Heap.lt_size (N₄'.get hax)
        have up5 : ∀ b o, h₄.get? b = some o → (h₄.push { cls := .type "list_iterator", data := .fields #[.ref ax1, .int 0 0] }).get? b = some o := fun b o e => Heap.get?_push_of_some _ e
        have gi5 : (h₄.push { cls := .type "list_iterator", data := .fields #[.ref ax1, .int 0 0] }).get? h₄.objs.size = some { cls := .type "list_iterator", data := .fields #[.ref ax1, .int 0 0] } := Heap.get?_push_size _ rfl
        generalize h₄.push { cls := .type "list_iterator", data := .fields #[.ref ax1, .int 0 0] } = h5 at up5 gi5 ⊢
        have nC4 : H2.objs.size ≠ h₄.objs.size := Nat.ne_of_lt hCH
        have inner : ∀ (R' : Result → Shared → Prop) (tk9 : Nat), (∀ h' tk m', h'.get? hp.objs.size = some (lst (ys ++ its1.toList)) → h'.Ns H2.objs.size m' → (∀ b o, b ≠ h₄.objs.size → b ≠ H2.objs.size → b ≠ hp.objs.size → h5.get? b = some o → h'.get? b = some o) → R' (.ok .next) (stG s h' tk g₄ d₄)) →
            codeAny (model prog w) A (.compLoop (nest (.Name y pe) (.Name x px) i0 (.Name y p1) i1 scope pos) 1 (.ref h₄.objs.size) (.ref hp.objs.size) (compEnvC scope cl H2.objs.size env)) R' (stG s h5 tk9 g₄ d₄) := fun R' tk9 hR9 =>
          inner_loop (s := stG s h5 tk9 g₄ d₄) hh hkind hyl hdb (Nat.ne_of_lt haxH) (Ne.symm nC4) (Nat.ne_of_gt hDH) hax4.2.1 hax4.2.2 (Ne.symm hDC) hsz1 ⟨_, gi5, rfl, rfl⟩ (hl4.at fun o e => up5 _ _ e) ((hoC.ns zC).at' fun o e => up5 _ _ e) (up5 _ _ zD) hR9
        have fin9 : ∀ h6 tk6 m6, h6.get? hp.objs.size = some (lst (ys ++ its1.toList)) → h6.Ns H2.objs.size m6 → (∀ b o, b ≠ h₄.objs.size → b ≠ H2.objs.size → b ≠ hp.objs.size → h5.get? b = some o → h6.get? b = some o) →
            ∃ mm, mm < k ∧ CompI h₀ L m s I H2.objs.size hp.objs.size n St S J false mm (stG s h6 tk6 g₄ d₄) := by
          intro h6 tk6 m6 hD6 hn6 k6
          have up6 : ∀ b o, b ≠ H2.objs.size → b ≠ hp.objs.size → h₄.get? b = some o → h6.get? b = some o := fun b o h1 h2 e => k6 b o (Nat.ne_of_lt (Heap.lt_size e)) h1 h2 (up5 b o e)
          have F₆ : Fr h₀ L h6 m := ⟨F₄.ns.at' fun o e => up6 _ o (Ne.symm hCL) (Ne.symm hDL) e, fun b o e => up6 b o (fun q => by rw [q, hC₀] at e; cases e) (fun q => by rw [q, hD₀] at e; cases e) (F₄.keep b o e), F₄.above⟩
          have N₆ : News h₀ L h6 news₄ := fun p hq => ⟨up6 _ _ (off4 p hq).2.1 (off4 p hq).2.2 (N₄' p hq).1, (N₄' p hq).2⟩
          refine ⟨n + 1 - (i + 1), dec_lt hlt hkk, h6, tk6, g₄, d₄, i + 1, ys ++ its1.toList, m6, news₄, hlt, rfl, (fun h => nomatch h), hSt _ _ _ _ _ hst₃ heI (up6 _ _ hCI hDI zI) F₆.keep N₆ hS₄, F₆, hn6, fun p hq => ?_, off₄, hS₄, R₄⟩
          rcases List.mem_cons.mp hq with rfl | hq
          · exact ⟨hD6, hDL, hD₀⟩
          · exact N₆ p hq
        refine wpAny_bind (wpAny_runOwn (codeAny_start1 (inner _ _ fun h6 tk6 m6 a1 a2 a3 => ?_) (wpAny_pyIter_listiter ⟨_, gi5, rfl, rfl⟩ (inner _ _ fun h6 tk6 m6 a1 a2 a3 => ?_))))
        · exact wpAny_pure ⟨rfl, fin9 h6 tk6 m6 a1 a2 a3⟩
        · exact wpAny_pure ⟨rfl, fin9 h6 tk6 m6 a1 a2 a3⟩
      · obtain rfl : i = n := Nat.le_antisymm hi (Nat.not_lt.mp hlt)
        refine W.done _ _ _ hst' fun h₂ tk₂ hk₂ => ?_
        exact wpAny_pure (hRR _ _ h₂ tk₂ g d _ ys news' R' (fr_but F' hk₂ hIL hI₀) (news_but N' hk₂ hDn) off'.one (hn'.at' fun o e => hk₂ _ o (by simpa using Ne.symm hCI) e) hC₀ hD₀ hCL hDL (Ne.symm hDC) (fun p hq => (off3 p hq).2.1) (fun q hq => Heap.lt_size (N q hq).1))
    · rcases List.mem_cons.mp hq with rfl | hq
      · exact ⟨hacc, hDL, hD₀⟩
      · exact ⟨old _ _ (N p hq).1, (N p hq).2⟩
  exact codeAny_compStart_list (loop _) (W.self 0 _ _ _ hst₁ (loop _))
theorem Assign_Nest {i0 i1 : Expr} {x y z : Str} {px pe p1 pz : Pos} {scope : Scope} {cl : List (Str × Addr)} {pos spos : Pos} {Q : Flow → Shared → Prop} (_F₀ : Fr h₀ L s.heap m) (hLe : env.locals = L) (hh : A.handled = none)
    (hsw : swapsWith (nest (.Name y pe) (.Name x px) i0 (.Name y p1) i1 scope pos) (some (.Name z pz)) spos.line env = pure true)
    (hclos : closureFor scope env = pure cl) (hcell : ∀ z ∈ scope.names, z.2 ≠ .cell) (hkind : scope.kind = .function)
    (hnames : ∀ z ∈ scope.names, z.2 = .local → scope.names.lookup z.1 = some .local) (hx : scope.names.lookup x = some .local) (hyl : scope.names.lookup y = some .local) (hdb : (y == ("__debug__" : Str)) = false)
    (hz : env.kindOf z = some .local) (hp : (env.scope.kind == .class || (env.scope.kind == .module && env.locals != env.globals)) = false)
    (h : wpAny (model prog w) A (eval i0 env) (SrcN prog w A h₀ L m env i1 x scope cl (FinAJ h₀ L m z Q)) E s)
    (hs : ∀ x, foldedSetIterable i0 env x = pure x := by intro _; rfl) (hs1 : ∀ e x, foldedSetIterable i1 e x = pure x := by intro _ _; rfl) :
    wpAny (model prog w) A (exec (.Assign [.Name z pz] (nest (.Name y pe) (.Name x px) i0 (.Name y p1) i1 scope pos) spos) env) Q E s := by
  subst hLe
  rw [exec_Assign_Name_used _ _ _ _ hsw]
  refine wpAny_bind (wpAny_standAt (wpAny_bind ?_))
  show wpAny _ A (do let _ ← comprehension (nest (.Name y pe) (.Name x px) i0 (.Name y p1) i1 scope pos) scope env _ (newList []) false (eval i0 env) (some (assign (.Name z pz) env))) _ _ s
  refine wpAny_bind (wpAny_mono (wpAny_comprehension_free (use := some (assign (.Name z pz) env)) (Q := fun _ s' => Q .next s') rfl hs hclos hkind hnames
    (wpAny_mono h (fun xv s₁ h₁ => ?_) fun _ _ e => e)) (fun _ s' hq => wpAny_pure (wpAny_pure hq)) fun _ _ e => e)
  obtain ⟨ax, its, k, news, F, N, hm, J, j0, R, fin⟩ := h₁
  have hl : s₁.heap.IsList ax its := listOf_isList (N.get hm)
  have hlt : ax < s₁.heap.objs.size := Heap.lt_size (N.get hm)
  refine wpAny_pyIter_list hl ?_
  have up : ∀ b o, s₁.heap.get? b = some o → (s₁.heap.push { cls := .type "list_iterator", data := .fields #[.ref ax, .int 0 0] }).get? b = some o := fun b o e => Heap.get?_push_of_some _ e
  refine nblock hh hyl hdb hs1 (Walks.list hh s₁.heap.objs.size ax (Nat.ne_of_lt hlt) its) (fun i h st => by obtain ⟨o, e, _⟩ := st.1; exact ⟨o, e⟩) list_st hcell hkind hx ⟨⟨_, Heap.get?_push_size _ rfl, rfl, rfl⟩, hl.push _⟩ (fun b hb => ?_)
    (F.keeps up) (N.grown up) (Nat.ne_of_lt F.ns.lt) (next_is_new F) (fun p hp => Nat.ne_of_lt (Heap.lt_size (N p hp).1)) (.inr ⟨_, hm, rfl, _, rfl⟩) ⟨_, rfl⟩ j0 R fun D C h' tk g d m' ys news' hJ F' N' o1 hn hC₀ hD₀ hCL hDL hCD offC hbs => ?_
  · show b < (s₁.heap.push _).objs.size
    rw [Heap.size_push]
    rcases List.mem_cons.mp hb with rfl | hb
    · exact Nat.lt_succ_self _
    · rw [List.mem_singleton.mp hb]; exact Nat.lt_succ_of_lt hlt
  · show wpAny _ A (assign (.Name z pz) env (.ref D)) _ _ _
    refine wpAny_assign_Name (wpAny_storeName_local hz F'.ns (fun h₂ hn₂ hs₂ => ?_) hp)
    have hL₀ : h₀.get? env.locals = none := Heap.get?_none_of_le F'.above
    have F₂ : Fr h₀ env.locals h₂ (fun q => if q = z then some (.ref D) else m q) := ⟨hn₂, fun b o e => hs₂.extBut b o (fun q => by rw [q, hL₀] at e; cases e) (F'.keep b o e), F'.above⟩
    refine ⟨m', hn.sameBut hs₂ hCL, fun h'' hs'' => fin _ _ _ hJ D h'' _ d hbs (F₂.change hs'' hCL hC₀) (fun p hp => ?_) o1⟩
    have z9 : h₂.get? p.1 = some p.2 := hs₂.extBut _ _ (N' p hp).2.1 (N' p hp).1
    refine ⟨hs''.extBut _ _ ?_ z9, (N' p hp).2⟩
    rcases List.mem_cons.mp hp with rfl | hp
    · exact Ne.symm hCD
    · exact offC p hp
end
end
section
open PySem PySem.Calls PyProof.Rows PySem.W PySem.Spec
open Builtin Builtin.Str
section
variable {prog : Program} {w : World} {A : Around} {E : Value → Shared → Prop} {s : Shared} {h₀ : Heap} {L : Addr} {m : Str → Option Value} {news : List (Addr × Obj)}
theorem glued_one (sep x : Str) : glued sep [x] = x := rfl
theorem join_led {D : Nat} {sep : Str} {t : Tok} {l : List (Str × Tok)} {c : Nat} {Q : Value → Shared → Prop} (N : News h₀ L s.heap news) (hm : (D, listOf (strValues l).toArray c) ∈ news)
    (hz : tooLong ((l.map (·.1)).toArray.foldl (· + ·.length + sep.length) 0) = false) (hg : (glued sep (l.map (·.1))).length ≤ sizeLine) (h : ∀ t' tk', s.toks ≤ tk' → Q (.str (glued sep (l.map (·.1))) t') { s with toks := tk' }) :
    wpAny (model prog w) A (call (.builtin "str.join") [.str sep t, .ref D]) Q E s := by
  have hl : s.heap.IsList D (strValues l).toArray := listOf_isList (N.get hm)
  refine call_meets PySem.F.slot_str_join (typeIs_str _ _ _) PySem.F.entry_str_join (PySem.F.args_str_join_2 _ _) (meets_str_join_list sep t D l hz) ⟨hl, ?_⟩
  match l, hg, h with
  | [], hg, h => exact ⟨hg, h _ _ (Nat.le_succ _)⟩
  | [p], hg, h => exact h p.2 s.toks (Nat.le_refl _)
  | p :: q :: r, hg, h => exact ⟨hg, h _ _ (Nat.le_succ _)⟩
theorem join_led' {D : Nat} {sep x : Str} {t : Tok} {l : List (Str × Tok)} {c : Nat} {Q : Value → Shared → Prop} (N : News h₀ L s.heap news) (hm : (D, listOf (strValues l).toArray c) ∈ news)
    (hz : tooLong ((l.map (·.1)).toArray.foldl (· + ·.length + sep.length) 0) = false) (hx : glued sep (l.map (·.1)) = x) (hg : x.length ≤ sizeLine) (h : ∀ t' tk', s.toks ≤ tk' → Q (.str x t') { s with toks := tk' }) :
    wpAny (model prog w) A (call (.builtin "str.join") [.str sep t, .ref D]) Q E s := by
  subst hx
  exact join_led N hm hz hg h
end
end
section
open PySem PySem.W PyProof.Rows PySem.Calls PySem.Spec
theorem fin_start3 {P : Params} {h₀ h : Heap} {L : Addr} {l wd wr q pc dl nsd ns pm ps nn at_ : Nat} {tk : Nat → Tok} {t0 : Tok} {done : Bool} {PC : Array Value} {X dts : List (Str × Tok)} {nsds nss pss : List Value} {tb : Array Value} {e0 f1 e2 e3 f4 f5 n3 : Nat} {oA : Obj} {rest big : List (Addr × Obj)}
    (N : News h₀ L h big) (m0 : (l, listOf #[] 0) ∈ big)
    (m1 : (wd, dictOf (wdict P tk (.ref q) (.ref dl) (.ref nsd) (.ref ns) (.ref pm) (.ref ps) .none true done t0) e0) ∈ big) (m2 : (wr, instObj 157 wd) ∈ big) (m3 : (q, bfmObj "list.append" (.ref pc)) ∈ big) (m4 : (pc, listOf PC f1) ∈ big) (m5 : (dl, listOf (strValues dts).toArray e2) ∈ big) (m6 : (nsd, listOf nsds.toArray e3) ∈ big) (m7 : (ns, listOf (nss.toArray.push (Value.ref l)) f4) ∈ big) (m8 : (ps, listOf (pss ++ [Value.bool false] ++ [Value.bool false]).toArray f5) ∈ big) (m9 : (130, tabObj tb) ∈ big) (m10 : (nn, listOf #[] n3) ∈ big) (m11 : (at_, oA) ∈ big) (mr : ∀ p ∈ rest, p ∈ big)
    (hX : PC = (strValues X).toArray) (a1 : @Ne Nat l 130) (a2 : @Ne Nat l pc) (a3 : @Ne Nat l wd) (a4 : @Ne Nat l dl) (a5 : @Ne Nat l nsd) (a6 : @Ne Nat l ns) (a7 : @Ne Nat l ps)
    (W : WOff wd pc dl nsd ns ps ((nn, listOf #[] n3) :: (at_, oA) :: rest)) :
    ∃ (l' : Nat) (rest' : List (Addr × Obj)), News h₀ L h (wCells P tk t0 wd wr q pc dl nsd ns pm ps true done X dts nsds (nss ++ [Value.ref l']) (pss ++ [Value.bool false, Value.bool false]) tb e0 f1 e2 e3 f4 f5 rest') ∧ WOff wd pc dl nsd ns ps rest' ∧ (l', listOf #[] 0) ∈ rest' ∧ (nn, listOf #[] n3) ∈ rest' ∧ (at_, oA) ∈ rest' ∧ ∀ p ∈ rest, p ∈ rest' := by
  refine ⟨l, (l, listOf #[] 0) :: (nn, listOf #[] n3) :: (at_, oA) :: rest, ?_, wOff_cons W a1 a2 a3 a4 a5 a6 a7, .head _, .tail _ (.head _), .tail _ (.tail _ (.head _)), fun p hp => .tail _ (.tail _ (.tail _ hp))⟩
  dsimp only [wCells]
  rw [show (nss ++ [Value.ref l]).toArray = nss.toArray.push (.ref l) from push_list.symm, app_two, ← hX]
  exact news_c N m1 (news_c N m2 (news_c N m3 (news_c N m4 (news_c N m5 (news_c N m6 (news_c N m7 (news_c N m8 (news_c N m9 (news_c N m0 (news_c N m10 (news_c N m11 fun p hp => N p (mr p hp))))))))))))
end
section
open PySem PySem.W PyProof.Rows PySem.Calls PySem.Spec
theorem fillIt_Ns : (PySem.Challenge.rw_pg0301_03 = PySem.Challenge.rw_pg0301_03) ∧ (hd3.heap_39 = hd3.heap_39) := by
  k_fill
  exact ⟨rfl, rfl⟩
noncomputable abbrev nsE (P : Params) (k v : String) (a b : Nat) : DictEntry := ⟨PyData.keyHash P (Str.ofString k), .str (Str.ofString k) a, .str (Str.ofString v) b⟩
noncomputable abbrev nsObj (P : Params) : Obj := { cls := .type "dict", data := .dict #[
  nsE P "http://www.w3.org/XML/1998/namespace" "xml" 339 340, nsE P "http://www.w3.org/1999/xhtml" "html" 341 342, nsE P "http://www.w3.org/1999/02/22-rdf-syntax-ns#" "rdf" 343 344,
  nsE P "http://schemas.xmlsoap.org/wsdl/" "wsdl" 345 346, nsE P "http://www.w3.org/2001/XMLSchema" "xs" 347 348, nsE P "http://www.w3.org/2001/XMLSchema-instance" "xsi" 349 350, nsE P "http://purl.org/dc/elements/1.1/" "dc" 351 352] 7 }
theorem nsLook (P : Params) : (hd3.heap_39 P).lookup 51 = some (nsObj P) := by kernel_rfl
abbrev nsKvs : List (Str × Value) := [(Str.ofString "http://www.w3.org/XML/1998/namespace", .str (Str.ofString "xml") 340), (Str.ofString "http://www.w3.org/1999/xhtml", .str (Str.ofString "html") 342),
  (Str.ofString "http://www.w3.org/1999/02/22-rdf-syntax-ns#", .str (Str.ofString "rdf") 344), (Str.ofString "http://schemas.xmlsoap.org/wsdl/", .str (Str.ofString "wsdl") 346),
  (Str.ofString "http://www.w3.org/2001/XMLSchema", .str (Str.ofString "xs") 348), (Str.ofString "http://www.w3.org/2001/XMLSchema-instance", .str (Str.ofString "xsi") 350), (Str.ofString "http://purl.org/dc/elements/1.1/", .str (Str.ofString "dc") 352)]
theorem nsAt {w : World} {h : Heap} (X : (hd3.heap_39 w.params).In h) : h.DictAt (strKind P3 w) 51 nsKvs 7 := by
  refine ⟨nsObj w.params, _, X _ _ (nsLook _), ⟨rfl, rfl, rfl⟩, rfl, ?_, ?_, by decide +kernel⟩
  · intro e he
    simp only [List.mem_toArray, List.mem_cons, List.not_mem_nil, or_false] at he
    rcases he with rfl | rfl | rfl | rfl | rfl | rfl | rfl
    all_goals exact ⟨_, PySem.strKind_is _ _ _ _, rfl⟩
  · repeat (first | exact Pairs.nil | refine Pairs.cons (PySem.strKind_is _ _ _ _) rfl ?_)
section
variable {w : World} {A : Around} {E : Value → Shared → Prop} {s : Shared} {h₀ : Heap} {L : Addr} {m : Str → Option Value} {news : List (Addr × Obj)}
theorem ns_method {pl : Sem Bool} {Q : Value × List Value → Shared → Prop} (F : Fr h₀ L s.heap m) (X : (hd3.heap_39 w.params).In h₀) (h : Q (.builtin "dict.items", [.ref 51]) s) :
    wpAny (model P3 w) A (getMethod (.ref 51) (Str.ofString "items") pl) Q E s := by
  have hD := (nsAt (X.keeps F.keep)).dictOf
  exact getMethod_builtin hD.typeIs PySem.F.plainAttrs_dict PySem.F.slot_dict_items PySem.F.type_dict_items hD.mapOf.noDict h
theorem ns_view {Q : Value → Shared → Prop} (F : Fr h₀ L s.heap m) (N : News h₀ L s.heap news) (X : (hd3.heap_39 w.params).In h₀)
    (h : ∀ (D : Nat) h', Fr h₀ L h' m → News h₀ L h' ((D, { cls := .type "dict_items", data := .fields #[.ref 51] }) :: news) → (∀ q ∈ news, q.1 < D) → Q (.ref D) { s with heap := h' }) :
    wpAny (model P3 w) A (call (.builtin "dict.items") [.ref 51]) Q E s :=
  have hD := (nsAt (X.keeps F.keep)).dictOf
  call_meetsIn PySem.F.slot_dict_items hD.typeIs PySem.F.entry_dict_items (PySem.F.args_dict_items_1 _) (meets_dict_items (strKind P3 w) 51 rfl) ⟨⟨nsKvs, hD⟩, h _ _ (F.push _) (News.push F N _) fun q hq => Heap.lt_size (N q hq).1⟩
theorem ns_list {D : Nat} {Q : Value → Shared → Prop} (hh : A.handled = none) (F : Fr h₀ L s.heap m) (X : (hd3.heap_39 w.params).In h₀) (N : News h₀ L s.heap ((D, { cls := .type "dict_items", data := .fields #[.ref 51] }) :: news))
    (h : ∀ (B : Nat) h' tk, Fr h₀ L h' m → News h₀ L h' news → (∀ q ∈ news, q.1 < B) → L < B → Q (.ref B) { s with heap := h', toks := tk }) :
    wpAny (model P3 w) A (call (.type "list") [.ref D]) Q E s := by
  refine kdx_call (knd := strKind P3 w) (kvs := nsKvs) (ep := 7) hh ⟨_, (N _ (.head _)).1, rfl, rfl⟩ (nsAt (X.keeps F.keep)) (Nat.le_of_ble_eq_true rfl) fun h' tk acc c as hk hS hl hG hacc => ?_
  exact h _ h' tk (F.keeps hk) (fun q hq => ⟨hk _ _ (N q (.tail _ hq)).1, (N q (.tail _ hq)).2⟩) (fun q hq => Heap.lt_size (N q (.tail _ hq)).1) F.ns.lt
end
end
section
open PySem PySem.W PyProof.Rows PySem.Calls PySem.Spec
local macro_rules | `(tactic| walk_at "BF") => `(tactic| (refine lt_bef (by with_reducible assumption) ?_; (repeat (first | (with_reducible refine Bef.head ?_; (repeat (first | with_reducible exact Has.head | with_reducible refine Has.tail ?_)); done) | with_reducible refine Bef.tail ?_)); done))
local macro_rules | `(tactic| k_ne) => `(tactic| (refine neN ?_; (try dsimp only); first | (refine Nat.ne_of_lt ?_; walk_at "BF") | (refine Nat.ne_of_gt ?_; walk_at "BF")))
theorem fin_init {P : Params} {h₀ h : Heap} {L : Addr} {ps pm l2 ns nsd l4 D dl wr wd q pc : Nat} {o : Obj} {B : Value} {tb : Array Value} {e0 e1 e4 : Nat} {t1 t2 t0 a0 a1 a2 a3 a4 a5 a6 a7 a8 a9 a10 a11 a12 a13 a14 a15 a16 : Tok} {rest : List (Addr × Obj)}
    (N : News h₀ L h ((ps, listOf #[.bool false] 0) :: (pm, o) :: (l2, listOf #[] 0) :: (ns, listOf ([] ++ [B] ++ [Value.ref l2]).toArray e4) :: (nsd, listOf #[.ref l4] 0) :: (l4, listOf #[.ref D] 0) ::
      (D, tupOf [.str (Str.ofString "http://www.w3.org/XML/1998/namespace") t1, .str (Str.ofString "xml") t2]) :: (dl, listOf #[] 0) :: (wr, instObj 157 wd) ::
      (wd, dictOf [⟨PyData.keyHash P (Str.ofString "_write"), .str (Str.ofString "_write") a0, .ref q⟩, ⟨PyData.keyHash P (Str.ofString "_data"), .str (Str.ofString "_data") a1, .ref dl⟩, ⟨PyData.keyHash P (Str.ofString "_with_comments"), .str (Str.ofString "_with_comments") a2, .bool false⟩, ⟨PyData.keyHash P (Str.ofString "_strip_text"), .str (Str.ofString "_strip_text") a3, .bool false⟩, ⟨PyData.keyHash P (Str.ofString "_exclude_attrs"), .str (Str.ofString "_exclude_attrs") a4, .none⟩, ⟨PyData.keyHash P (Str.ofString "_exclude_tags"), .str (Str.ofString "_exclude_tags") a5, .none⟩, ⟨PyData.keyHash P (Str.ofString "_rewrite_prefixes"), .str (Str.ofString "_rewrite_prefixes") a6, .bool false⟩, ⟨PyData.keyHash P (Str.ofString "_qname_aware_tags"), .str (Str.ofString "_qname_aware_tags") a7, .none⟩, ⟨PyData.keyHash P (Str.ofString "_find_qname_aware_attrs"), .str (Str.ofString "_find_qname_aware_attrs") a8, .none⟩, ⟨PyData.keyHash P (Str.ofString "_declared_ns_stack"), .str (Str.ofString "_declared_ns_stack") a9, .ref nsd⟩, ⟨PyData.keyHash P (Str.ofString "_ns_stack"), .str (Str.ofString "_ns_stack") a10, .ref ns⟩, ⟨PyData.keyHash P (Str.ofString "_prefix_map"), .str (Str.ofString "_prefix_map") a11, .ref pm⟩, ⟨PyData.keyHash P (Str.ofString "_preserve_space"), .str (Str.ofString "_preserve_space") a12, .ref ps⟩, ⟨PyData.keyHash P (Str.ofString "_pending_start"), .str (Str.ofString "_pending_start") a13, .none⟩, ⟨PyData.keyHash P (Str.ofString "_root_seen"), .str (Str.ofString "_root_seen") a14, .bool false⟩, ⟨PyData.keyHash P (Str.ofString "_root_done"), .str (Str.ofString "_root_done") a15, .bool false⟩, ⟨PyData.keyHash P (Str.ofString "_ignored_depth"), .str (Str.ofString "_ignored_depth") a16, .int 0 t0⟩] e0) :: (q, bfmObj "list.append" (.ref pc)) :: (pc, listOf #[] e1) :: (130, tabObj tb) :: rest))
    (hlt : ∀ p ∈ rest, p.1 < wd) (r1 : ∀ p ∈ rest, p.1 ≠ 130) (r2 : ∀ p ∈ rest, p.1 ≠ pc)
    (hp : [130, pc, q, wd, wr, dl, D, l4, nsd, ns, l2, pm, ps].Pairwise (· < ·)) :
    ∃ (rest' : List (Addr × Obj)) (tk : Nat → Tok), News h₀ L h (wCells P tk t0 wd wr q pc dl nsd ns pm ps false false [] [] [.ref l4] [B, .ref l2] [.bool false] tb e0 e1 0 0 e4 0 rest') ∧ WOrd wd wr q pc dl nsd ns pm ps ∧ WOff wd pc dl nsd ns ps rest' ∧ NsOk [.ref l4] rest' ∧ (∀ p ∈ rest, p ∈ rest') := by
  have g : ∀ a : Nat, wd < a → ∀ p ∈ rest, p.1 ≠ a := fun a ha p h => Nat.ne_of_lt (Nat.lt_trans (hlt p h) ha)
  have W : WOff wd pc dl nsd ns ps rest := ⟨r1, r2, fun p h => Nat.ne_of_lt (hlt p h), g _ (by walk_at "BF"), g _ (by walk_at "BF"), g _ (by walk_at "BF"), g _ (by walk_at "BF")⟩
  refine ⟨(pm, o) :: (l2, listOf #[] 0) :: (l4, listOf #[.ref D] 0) :: (D, tupOf [.str (Str.ofString "http://www.w3.org/XML/1998/namespace") t1, .str (Str.ofString "xml") t2]) :: rest, fun i => ([a0, a1, a2, a3, a4, a5, a6, a7, a8, a9, a10, a11, a12, a13, a14, a15, a16] : List Tok).getD i 0, ?_, ⟨by walk_at "BF", by walk_at "BF", by walk_at "BF", by walk_at "BF", by walk_at "BF", by walk_at "BF", by walk_at "BF", by walk_at "BF", by walk_at "BF"⟩, wOff_cons (wOff_cons (wOff_cons (wOff_cons W (by k_ne) (by k_ne) (by k_ne) (by k_ne) (by k_ne) (by k_ne) (by k_ne) ) (by k_ne) (by k_ne) (by k_ne) (by k_ne) (by k_ne) (by k_ne) (by k_ne) ) (by k_ne) (by k_ne) (by k_ne) (by k_ne) (by k_ne) (by k_ne) (by k_ne) ) (by k_ne) (by k_ne) (by k_ne) (by k_ne) (by k_ne) (by k_ne) (by k_ne) , ?_, fun p hp => .tail _ (.tail _ (.tail _ (.tail _ hp)))⟩
  · exact news_c N (.tail _ (.tail _ (.tail _ (.tail _ (.tail _ (.tail _ (.tail _ (.tail _ (.tail _ (.head _)))))))))) (news_c N (.tail _ (.tail _ (.tail _ (.tail _ (.tail _ (.tail _ (.tail _ (.tail _ (.head _))))))))) (news_c N (.tail _ (.tail _ (.tail _ (.tail _ (.tail _ (.tail _ (.tail _ (.tail _ (.tail _ (.tail _ (.head _))))))))))) (news_c N (.tail _ (.tail _ (.tail _ (.tail _ (.tail _ (.tail _ (.tail _ (.tail _ (.tail _ (.tail _ (.tail _ (.head _)))))))))))) (news_c N (.tail _ (.tail _ (.tail _ (.tail _ (.tail _ (.tail _ (.tail _ (.head _)))))))) (news_c N (.tail _ (.tail _ (.tail _ (.tail _ (.head _))))) (news_c N (.tail _ (.tail _ (.tail _ (.head _)))) (news_c N (.head _) (news_c N (.tail _ (.tail _ (.tail _ (.tail _ (.tail _ (.tail _ (.tail _ (.tail _ (.tail _ (.tail _ (.tail _ (.tail _ (.head _))))))))))))) (news_c N (.tail _ (.head _)) (news_c N (.tail _ (.tail _ (.head _))) (news_c N (.tail _ (.tail _ (.tail _ (.tail _ (.tail _ (.head _)))))) (news_c N (.tail _ (.tail _ (.tail _ (.tail _ (.tail _ (.tail _ (.head _))))))) (fun p hp => N p (.tail _ (.tail _ (.tail _ (.tail _ (.tail _ (.tail _ (.tail _ (.tail _ (.tail _ (.tail _ (.tail _ (.tail _ (.tail _ (hp)))))))))))))))))))))))))))
  · refine ⟨l4, 0, D, t1, t2, rfl, .tail _ (.tail _ (.head _)), .tail _ (.tail _ (.tail _ (.head _))), fun k v hk hv => ?_⟩
    cases k with
    | zero => exact absurd hk (Nat.lt_irrefl 0)
    | succ k => simp at hv
end
section
open PySem PySem.Calls PyProof.Rows PySem.W PySem.Spec
section
variable {prog : Program} {w : World} {A : Around} {E : Value → Shared → Prop} {s : Shared} {h₀ : Heap} {L : Addr} {m : Str → Option Value} {env : Env}
theorem name_fr {x : Str} {pos : Pos} {v : Value} {Q : Value → Shared → Prop} (F : Fr h₀ L s.heap m) (hL : env.locals = L) (hk : env.scope.kind = .function) (hx : env.kindOf x = some .local) (hb : (x == ("__debug__" : Str)) = false) (hm : m x = some v) (h : Q v s) :
    wpAny (model prog w) A (eval (.Name x pos) env) Q E s := by
  subst hL
  exact wpAny_Name (wpAny_loadName_local hk hx F.ns hm h) hb
theorem load_fr {x : Str} {v : Value} {Q : Value → Shared → Prop} (F : Fr h₀ L s.heap m) (hL : env.locals = L) (hk : env.scope.kind = .function) (hx : env.kindOf x = some .local) (hm : m x = some v) (h : Q v s) :
    wpAny (model prog w) A (loadName env x) Q E s := by
  subst hL
  exact wpAny_loadName_local hk hx F.ns hm h
end
end
section
open PySem PySem.Calls PyProof.Rows PySem.W PySem.Spec
section
variable {prog : Program} {w : World} {A : Around} {E : Value → Shared → Prop} {s : Shared} {h₀ : Heap} {L : Addr} {m : Str → Option Value} {news : List (Addr × Obj)}
theorem itemAt {value slice : PySem.Expr} {l : Addr} {its : Array Value} {v : Value} {n : Nat} {p : Nat} {u : Tok} {Q : Value → Shared → Prop} (N : News h₀ L s.heap news) (hm : (l, listOf its n) ∈ news) (hv : its[p]? = some v) (hz : p < 1000) (h : Q v s)
    (hs : subscripted slice false (.ref l) (.int (p : Int) u) = operate [.ref l, .int (p : Int) u] (getItem (.ref l) (.int (p : Int) u))) :
    wpAny (model prog w) A (subscriptTail value slice (.ref l) (.int (p : Int) u)) Q E s := by
  have hl : s.heap.IsList l its := ⟨_, N.get hm, rfl, n, rfl⟩
  have hlt : p < its.size := (Array.getElem?_eq_some_iff.mp hv).1
  have h63 : (p : Int) < 2 ^ 63 := by lia
  exact tail_any hl.typeIs slot_list_getitem.lookup (wpAny_getItem_list hl (Int.natCast_nonneg p) h63 (by rw [Int.toNat_natCast]; exact hv) h) hs
end
end
section
open PySem PySem.Calls PyProof.Rows PySem.W PySem.Spec
inductive Tr where
  | node (p k : Nat) (ts : List Tr)
def Tr.root : Tr → Nat
  | .node p _ _ => p
mutual
def words : Tr → List (List Int)
  | .node _ k ts => if wordsL ts = [] then [[(k : Int)]] else (wordsL ts).map (· ++ [(k : Int)])
def wordsL : List Tr → List (List Int)
  | [] => []
  | t :: r => words t ++ wordsL r
end
mutual
def dep : Tr → Nat
  | .node _ _ ts => depL ts + 1
def depL : List Tr → Nat
  | [] => 0
  | t :: r => max (dep t) (depL r)
end
theorem dep_le : ∀ {ts : List Tr} {t : Tr}, t ∈ ts → dep t ≤ depL ts
  | _ :: r, t, h => by
    rcases List.mem_cons.mp h with rfl | h
    · rw [depL]; exact Nat.le_max_left _ _
    · rw [depL]; exact Nat.le_trans (dep_le h) (Nat.le_max_right _ _)
inductive TreeIn (news : List (Addr × Obj)) (ka kv : List Value) : Tr → Prop
  | node {p k : Nat} {ts : List Tr} {a : Addr} {vs : List Value} {n : Nat} {t : Tok} (hp : p < 100) (h1 : ka[p]? = some (.ref a)) (h2 : (a, listOf vs.toArray n) ∈ news) (h3 : IntsAre vs (ts.map fun t => (t.root : Int)))
      (h4 : kv[p]? = some (.int (k : Int) t)) (h5 : ∀ t' ∈ ts, TreeIn news ka kv t') (h6 : ts.length ≤ 100) (h7 : k < 3) : TreeIn news ka kv (.node p k ts)
theorem TreeIn.mono {news news' : List (Addr × Obj)} {ka kv : List Value} {t : Tr} (h : TreeIn news ka kv t) (hs : ∀ p ∈ news, p ∈ news') : TreeIn news' ka kv t := by
  induction h with
  | node hp h1 h2 h3 h4 _ h6 h7 ih => exact .node hp h1 (hs _ h2) h3 h4 ih h6 h7
def RefTo (news : List (Addr × Obj)) (v : Value) (w : List Int) : Prop := ∃ a vs n, v = .ref a ∧ (a, listOf vs.toArray n) ∈ news ∧ IntsAre vs w
abbrev WordsAt (news : List (Addr × Obj)) (vs : List Value) (ws : List (List Int)) : Prop := Paired (RefTo news) vs ws
theorem WordsAt.mono {news news' : List (Addr × Obj)} {vs : List Value} {ws : List (List Int)} (h : WordsAt news vs ws) (hs : ∀ p ∈ news, p ∈ news') : WordsAt news' vs ws := by
  induction h with
  | nil => exact .nil
  | cons h _ ih => obtain ⟨a, vs, n, e, m, i⟩ := h; exact .cons ⟨a, vs, n, e, hs _ m, i⟩ ih
theorem paired_append {α β : Type} {F : α → β → Prop} {a b : List α} {c d : List β} (h : Paired F a c) (h' : Paired F b d) : Paired F (a ++ b) (c ++ d) := by
  induction h with
  | nil => exact h'
  | cons x _ ih => exact .cons x ih
theorem paired_get {α β : Type} {F : α → β → Prop} {a : List α} {c : List β} (h : Paired F a c) : ∀ {i : Nat} {x : α}, a[i]? = some x → ∃ y, c[i]? = some y ∧ F x y := by
  induction h with
  | nil => intro i x e; simp at e
  | cons hx _ ih =>
    intro i x e
    cases i with
    | zero => simp at e; subst e; exact ⟨_, rfl, hx⟩
    | succ i => simp at e; simpa using ih e
theorem wordsL_append (a b : List Tr) : wordsL (a ++ b) = wordsL a ++ wordsL b := by
  induction a with
  | nil => rfl
  | cons t r ih => rw [List.cons_append, wordsL, wordsL, ih, List.append_assoc]
theorem wordsL_one (t : Tr) : wordsL [t] = words t := by rw [wordsL, wordsL, List.append_nil]
theorem words_ne (t : Tr) : words t ≠ [] := by
  cases t with
  | node p k ts =>
    rw [words]
    split
    · simp
    · simpa using by assumption
theorem wordsL_nil : ∀ {ts : List Tr}, wordsL ts = [] ↔ ts = []
  | [] => by simp [wordsL]
  | t :: r => by simp [wordsL, words_ne]
def begT : Nat → Str
  | 0 => Str.ofString "<a>"
  | 1 => Str.ofString "<a k=\"&lt;a>&lt;/a>\">"
  | _ => Str.ofString "<b>&lt;a&gt;&lt;/a&gt;"
def endT : Nat → Str
  | 0 => Str.ofString "</a>"
  | 1 => Str.ofString "</a>"
  | _ => Str.ofString "</b>"
mutual
def restT (tms : List Int) (at_ : Int) : Tr → Str
  | .node p k ts => if tms.getD p 0 ≤ at_ then Str.ofString "" else begT k ++ restL tms at_ ts ++ endT k
def restL (tms : List Int) (at_ : Int) : List Tr → Str
  | [] => Str.ofString ""
  | t :: r => restT tms at_ t ++ restL tms at_ r
end
def catS : List Str → Str
  | [] => Str.ofString ""
  | x :: r => x ++ catS r
theorem str_ext {x y : Str} (h : x.cps = y.cps) : x = y := by cases x; cases y; simp_all
theorem cps_app (x y : Str) : (x ++ y).cps = x.cps ++ y.cps := rfl
theorem cps_nil : (Str.ofString "").cps = #[] := by decide +kernel
theorem app_nil' (x : Str) : x ++ Str.ofString "" = x := str_ext (by rw [cps_app, cps_nil]; simp)
theorem nil_app' (x : Str) : Str.ofString "" ++ x = x := str_ext (by rw [cps_app, cps_nil]; simp)
theorem app_assoc' (x y z : Str) : x ++ y ++ z = x ++ (y ++ z) := str_ext (by simp only [cps_app]; simp)
theorem glue_fold : ∀ (l : List Str) (a : Array Nat), l.foldl (fun acc p => acc ++ (Str.ofString "").cps ++ p.cps) a = a ++ (catS l).cps
  | [], a => by simp [catS, cps_nil]
  | x :: r, a => by rw [List.foldl_cons, glue_fold r, catS, cps_app, cps_nil]; simp
theorem glued_cat (l : List Str) : Builtin.Str.glued (Str.ofString "") l = catS l := by
  cases l with
  | nil => exact str_ext (by rw [catS, cps_nil]; rfl)
  | cons x r => exact str_ext (by unfold Builtin.Str.glued; simp only [List.drop_succ_cons, List.drop_zero, List.headD_cons]; rw [glue_fold, catS, cps_app])
theorem catS_rest (tms : List Int) (at_ : Int) : ∀ ts : List Tr, catS (ts.map (restT tms at_)) = restL tms at_ ts
  | [] => by rw [restL]; rfl
  | t :: r => by rw [List.map_cons, catS, catS_rest tms at_ r, restL]
theorem catS_append (a b : List Str) : catS (a ++ b) = catS a ++ catS b := by
  induction a with
  | nil => rw [List.nil_append, catS, nil_app']
  | cons x r ih => rw [List.cons_append, catS, ih, catS, app_assoc']
end
section
open PySem PySem.Calls PyProof.Rows PySem.W PySem.Spec PyProof.Rows.LCg
theorem news_mid {h₀ h : Heap} {L : Addr} {a b c : Addr × Obj} {x y : List (Addr × Obj)} (N : News h₀ L h (x ++ (a :: b :: c :: y))) : News h₀ L h (a :: b :: c :: (x ++ y)) := fun p hp => N p (by
  simp only [List.mem_cons, List.mem_append] at hp ⊢
  rcases hp with h | h | h | h | h <;> simp [h])
theorem off3_app {I C D : Nat} {oI oC oD : Obj} {x y : List (Addr × Obj)} (h : Off3 I C D y) (g : ∀ p ∈ x, ∀ q ∈ (I, oI) :: (C, oC) :: (D, oD) :: y, q.1 < p.1) : Off3 I C D (x ++ y) := Off3.of fun p hp => by
  rcases List.mem_append.mp hp with hp | hp
  · exact ⟨Nat.ne_of_gt (g p hp _ (.head _)), Nat.ne_of_gt (g p hp _ (.tail _ (.head _))), Nat.ne_of_gt (g p hp _ (.tail _ (.tail _ (.head _))))⟩
  · exact h.mem p hp
theorem gt_app {x y z : List (Addr × Obj)} {f : List (Addr × Obj)} (h : ∀ p ∈ x, ∀ q ∈ f ++ (y ++ z), q.1 < p.1) (g : ∀ p ∈ y, ∀ q ∈ z, q.1 < p.1) : ∀ p ∈ x ++ y, ∀ q ∈ z, q.1 < p.1 := fun p hp q hq => by
  rcases List.mem_append.mp hp with hp | hp
  · exact h p hp q (List.mem_append_right _ (List.mem_append_right _ hq))
  · exact g p hp q hq
theorem take_one {α : Type} {l : List α} {i : Nat} {x : α} (h : l[i]? = some x) : l.take (i + 1) = l.take i ++ [x] := by
  rw [List.take_add_one, h]; rfl
theorem wordsL_len_le {ts : List Tr} {p k : Nat} : (wordsL ts).length ≤ (words (.node p k ts)).length := by
  rw [words]
  split
  · rename_i h; rw [h]; simp
  · simp
theorem wordsL_take_le (ts : List Tr) (i : Nat) : (wordsL (ts.take i)).length ≤ (wordsL ts).length := by
  have h := wordsL_append (ts.take i) (ts.drop i)
  rw [List.take_append_drop] at h
  rw [h, List.length_append]; lia
theorem words_take_le {ts : List Tr} {i : Nat} {t : Tr} (h : ts[i]? = some t) : (wordsL (ts.take i)).length + (words t).length ≤ (wordsL ts).length := by
  have h1 := wordsL_take_le ts (i + 1)
  rw [take_one h, wordsL_append, wordsL_one, List.length_append] at h1
  exact h1
theorem mem_wordsL : ∀ {ts : List Tr} {t : Tr} {x : List Int}, t ∈ ts → x ∈ words t → x ∈ wordsL ts
  | a :: r, t, x, h, hx => by
    rw [wordsL]
    rcases List.mem_cons.mp h with rfl | h
    · exact List.mem_append_left _ hx
    · exact List.mem_append_right _ (mem_wordsL h hx)
theorem wordsL_words {ts : List Tr} {p k : Nat} {x : List Int} (h : x ∈ wordsL ts) : x ++ [(k : Int)] ∈ words (.node p k ts) := by
  rw [words]
  split
  · rename_i e; rw [e] at h; cases h
  · exact List.mem_map.mpr ⟨x, h, rfl⟩
theorem srcAt_tail {h₀ : Heap} {ax : Addr} {its : Array Value} {x : Addr × Obj} {nw : List (Addr × Obj)} (h : SrcAt h₀ ax its nw) : SrcAt h₀ ax its (x :: nw) := by
  rcases h with h | ⟨o, hm, r⟩
  · exact .inl h
  · exact .inr ⟨o, .tail _ hm, r⟩
theorem newsDrop {h₀ h : Heap} {L : Addr} {a b c d : Addr × Obj} {tl news : List (Addr × Obj)} (N : News h₀ L h (a :: b :: c :: d :: (tl ++ news))) : News h₀ L h ((a :: b :: tl) ++ news) := fun p hp => N p (by
  simp only [List.cons_append, List.mem_cons, List.mem_append] at hp ⊢
  rcases hp with h | h | h | h <;> simp [h])
end
section
open PySem PySem.Calls PyProof.Rows PySem.W PySem.Spec
def AllL (n : Nat) {α : Type} (P : α → Prop) : KasT α → Prop
  | .ret a => P a
  | .ask i j k => i < n ∧ j < n ∧ ∀ b, AllL n P (k b)
variable {n₀ : Nat}
theorem AllL.bind {α β : Type} {P : α → Prop} {R : β → Prop} {f : α → KasT β} : ∀ {t : KasT α}, AllL n₀ P t → (∀ a, P a → AllL n₀ R (f a)) → AllL n₀ R (t.bind f)
  | .ret a, h, hf => hf a h
  | .ask _ _ k, h, hf => ⟨h.1, h.2.1, fun b => AllL.bind (t := k b) (h.2.2 b) hf⟩
def PermR (n : Nat) (p : Array Nat) : Prop := 0 < n ∧ p.Perm (List.toArray (List.range n))
theorem PermR.lt {p : Array Nat} (h : PermR n₀ p) (k : Nat) : p.getD k 0 < n₀ := by
  by_cases hk : k < p.size
  · have e : p.getD k 0 = p[k] := by simp [Array.getD, hk]
    rw [e]
    have hm : p[k] ∈ p.toList := by simp
    have hm' := (Array.perm_iff_toList_perm.mp h.2).mem_iff.mp hm
    exact List.mem_range.mp hm'
  · have e : p.getD k 0 = 0 := by simp [Array.getD, hk]
    rw [e]; exact h.1
theorem PermR.rev {p : Array Nat} (h : PermR n₀ p) (i j : Nat) : PermR n₀ (kas_rev p i j) := ⟨h.1, (mirror_perm _ _ _ _ : (kas_rev p i j).Perm p).trans h.2⟩
theorem PermR.bub {p : Array Nat} (h : PermR n₀ p) (i j : Nat) : PermR n₀ (bubble p i j) := ⟨h.1, (bubble_perm _ _ _).trans h.2⟩
theorem all_asc {p : Array Nat} (h : PermR n₀ p) : ∀ (f n : Nat), AllL n₀ (fun _ => True) (kas_asc p f n)
  | 0, _ => trivial
  | f + 1, n => by
    refine ⟨h.lt _, h.lt _, fun b => ?_⟩
    dsimp only
    split
    · trivial
    · exact all_asc h f (n + 1)
theorem all_place {p : Array Nat} (h : PermR n₀ p) (k : Nat) : ∀ (f l r : Nat), AllL n₀ (fun _ => True) (kas_place p k f l r)
  | 0, _, _ => trivial
  | f + 1, l, r => by
    unfold kas_place
    split
    · trivial
    · refine ⟨h.lt _, h.lt _, fun b => ?_⟩
      dsimp only
      split
      · exact all_place h k f _ _
      · exact all_place h k f _ _
theorem all_desc : ∀ (f : Nat) (p : Array Nat) (n q : Nat), PermR n₀ p → AllL n₀ (fun r : Array Nat × Nat × Nat => PermR n₀ r.1) (kas_desc f p n q)
  | 0, _, _, _, h => h
  | f + 1, p, n, q, h => by
    refine ⟨h.lt _, h.lt _, fun c => ?_⟩
    dsimp only
    split
    · split
      · exact all_desc f _ _ _ (h.rev _ _)
      · exact all_desc f _ _ _ h
    · refine ⟨h.lt _, h.lt _, fun d => ?_⟩
      dsimp only
      split
      · exact h
      · exact all_desc f _ _ _ h
theorem all_tail {p : Array Nat} (n r : Nat) (h : PermR n₀ p) : AllL n₀ (fun x : Nat × Array Nat => PermR n₀ x.2) (kas_tail3 n r p) :=
  AllL.bind (all_asc (h.rev _ _) _ _) fun _ _ => h.rev _ _
theorem all_descPart {p : Array Nat} (n r : Nat) (h : PermR n₀ p) : AllL n₀ (fun x : Nat × Array Nat => PermR n₀ x.2) (kas_descPart n r p) := by
  refine AllL.bind (all_desc _ _ _ _ h) fun a ha => ?_
  split
  · exact all_tail _ _ (ha.rev _ _)
  · exact all_tail _ _ ha
theorem all_count {p : Array Nat} (r : Nat) (h : PermR n₀ p) : AllL n₀ (fun x : Nat × Array Nat => PermR n₀ x.2) (kas_count r p) := by
  refine AllL.bind (all_asc h _ _) fun n _ => ?_
  split
  · exact h
  · split
    · refine ⟨h.lt _, h.lt _, fun c => ?_⟩
      dsimp only
      split
      · exact h
      · exact all_descPart _ _ (h.rev _ _)
    · exact all_descPart _ _ h
theorem all_bin : ∀ (f : Nat) (p : Array Nat) (k : Nat), PermR n₀ p → AllL n₀ (fun x : Array Nat => PermR n₀ x) (kas_bin f p k)
  | 0, _, _, h => h
  | f + 1, _, _, h => AllL.bind (all_place h _ _ _ _) fun _ _ => all_bin f _ _ (h.bub _ _)
theorem all_sort (hn : 0 < n₀) : AllL n₀ (fun x : Array Nat => PermR n₀ x) (kas_sort n₀) := by
  refine AllL.bind (all_count n₀ ⟨hn, Array.Perm.refl _⟩) fun r hr => ?_
  split
  · exact all_bin _ _ _ hr
  · exact hr
section
variable {prog : Program} {w : World} {A : Around} {E : Value → Shared → Prop} {s : Shared} {h₀ : Heap} {L : Addr} {m : Str → Option Value} {news : List (Addr × Obj)}
theorem ask_all {n : Nat} {cmp : Nat → Nat → (Bool → Shared → Prop) → Shared → Prop} {Q : Array Nat → Shared → Prop} {P : Array Nat → Prop} (hc : ∀ i j (C : Bool → Shared → Prop), i < n → j < n → (∀ b, C b s) → cmp i j C s) (hQ : ∀ p, P p → Q p s) :
    ∀ (t : KasT (Array Nat)), AllL n P t → t.kasWp cmp Q s
  | .ret _, h => hQ _ h
  | .ask i j k, h => hc i j _ h.1 h.2.1 fun b => ask_all hc hQ (k b) (h.2.2 b)
theorem lt_list1e {l1 l2 : Addr} {a b : Str} {t u : Tok} {n1 n2 : Nat} {Q : Bool → Shared → Prop} (hu : A.units < cLine) (h1 : s.heap.get? l1 = some (listOf #[.str a t] n1)) (h2 : s.heap.get? l2 = some (listOf #[.str b u] n2))
    (h : ∀ c, Q c s) : wpAny (model prog w) A (keyLt' oneType' (.ref l1) (.ref l2)) Q E s := by
  by_cases hab : a = b
  · rw [keyLt'_oneType, oneLt'_eq]
    simp only [if_true]
    refine wpAny_bind (wpAny_cRoomFor hu ?_)
    have hT1 : s.TypeIs (.ref l1) "list" := ⟨_, h1, rfl⟩
    have hT2 : s.TypeIs (.ref l2) "list" := ⟨_, h2, rfl⟩
    refine wpAny_bind (wpAny_callSpecialIfBound?_slot hT1 PySem.F.slot_list_lt (call_entry_go PySem.F.slot_list_lt hT1 PySem.F.entry_list_lt ?_ (PySem.F.args_list_lt_2 _ _)))
    show wpAny _ _ (do
      if !(← isInstance (.ref l2) (.type "list")) then return ← ret .notImplemented
      if CmpOp.Lt == .Eq || CmpOp.Lt == .NotEq then
        if (← Builtin.List.listItems (.ref l1)).size != (← Builtin.List.listItems (.ref l2)).size then rule "list.compare.lengths-differ"; return ← ret (.bool (CmpOp.Lt == .NotEq))
      again (.builtin "list.__eq__.loop" ⟨[.ref l1, .ref l2, rawInt 0, rawInt 0], []⟩)) _ _ s
    refine wpAny_bind (wpAny_isInstance (b := true) hT2 (by rw [isSubtype_type]; kernel_rfl) ?_)
    rw [if_neg (by decide), if_neg (by decide)]
    refine wpAny_pure ⟨Code.quiet_builtin _ (by decide +kernel), codeAny_builtin entry_eq_loop' ?_⟩
    rw [Around.under_plainId plain_eq_loop' _]
    unfold Builtin.«list.__eq__.loop»
    refine wpAny_bind (listItems_at h1 rfl ?_)
    refine wpAny_bind (listItems_at h2 rfl ?_)
    show wpAny _ _ (eqBool (.str a t) (.str b u) >>= _) _ _ s
    refine wpAny_bind (wpAny_eqBool_str ?_)
    rw [if_pos (by simpa using hab)]
    refine wpAny_pure ⟨Code.quiet_builtin _ (by decide +kernel), codeAny_builtin entry_eq_loop' ?_⟩
    rw [Around.under_plainId plain_eq_loop' _]
    unfold Builtin.«list.__eq__.loop»
    refine wpAny_bind (listItems_at h1 rfl ?_)
    refine wpAny_bind (listItems_at h2 rfl ?_)
    refine wpAny_bind (listItems_at h1 rfl ?_)
    refine wpAny_bind (listItems_at h2 rfl ?_)
    refine wpAny_pure ?_
    exact wpAny_truthy_bool (h _)
  · exact lt_list1 hu h1 h2 hab (h _)
theorem updF_app {a : Addr} {o : Obj} {tl rest : List (Addr × Obj)} (h1 : ∀ p ∈ tl, p.1 ≠ a) (h2 : ∀ p ∈ rest, p.1 ≠ a) : UpdF a o (tl ++ (a, o) :: rest) (fun o' => tl ++ (a, o') :: rest) := by
  induction tl with
  | nil => exact UpdF.head h2
  | cons p tl ih => exact UpdF.tail (h1 p (.head _)) (ih fun q hq => h1 q (.tail _ hq))
theorem vals_back {vs : List Value} {ks : List (Str × Tok)} (h : vs.Perm (strValues ks)) : ∃ zs : List (Str × Tok), vs = strValues zs ∧ zs.Perm ks := by
  let g : Value → Str × Tok := fun v => match v with | .str x t => (x, t) | _ => (Str.empty, 0)
  refine ⟨vs.map g, ?_, ?_⟩
  · have hm : ∀ v ∈ vs, ∃ p : Str × Tok, v = .str p.1 p.2 := fun v hv => by
      obtain ⟨p, _, rfl⟩ := List.mem_map.mp (h.mem_iff.mp hv)
      exact ⟨p, rfl⟩
    clear h
    induction vs with
    | nil => rfl
    | cons v vs ih =>
      obtain ⟨p, rfl⟩ := hm v (.head _)
      show _ :: vs = _ :: strValues (vs.map g)
      rw [← ih fun u hu => hm u (.tail _ hu)]
  · have h2 := h.map g
    have e : (strValues ks).map g = ks := by
      show (ks.map _).map g = ks
      rw [List.map_map]
      exact List.map_id'' (fun p => rfl) ks
    rw [e] at h2
    exact h2
theorem sorted_n {D : Addr} {o : Obj} {ks : List (Str × Tok)} {lam : Addr} {Q : Value → Shared → Prop} (hh : A.handled = none) (hu : A.units + 2 < cLine) (F : Fr h₀ L s.heap m) (N : News h₀ L s.heap news) (hD : (D, o) ∈ news) (hs : TSet prog w o ks)
    (h2 : 2 ≤ ks.length) (h64 : ks.length < 64) (hf : KeyOne prog w A.in1.in1 h₀ L m news (.ref lam) (ks.map (·.1)))
    (h : ∀ (R k : Nat) (zs : List (Str × Tok)) h' d' tk', zs.Perm ks → Fr h₀ L h' m → News h₀ L h' ((R, listOf (strValues zs).toArray k) :: news) → (∀ p ∈ news, p.1 < R) → Q (.ref R) { s with heap := h', drawn := d', toks := tk' }) :
    wpAny (model prog w) A (call (.builtin "sorted") [.ref D] [(Str.ofString "key", .ref lam)]) Q E s := by
  refine sorted_any hh F N hD hs (by lia) h64 fun R vs h' d' tk' hp F1 N1 hR hRL hR0 hRN => ?_
  obtain ⟨zs, rfl, hz⟩ := vals_back hp
  have hlz : zs.length = ks.length := hz.length_eq
  have hlv : (strValues zs).length = ks.length := by rw [← hlz]; simp [strValues]
  refine kat_keyed (s := { s with heap := h', drawn := d', toks := tk' }) F1 N1 hR hRL hR0 (fun p hp => Nat.ne_of_lt (hRN p hp)) (by rw [hlv]; exact h2) (by rw [hlv]; exact h64) fun kS e1 h2' F2 N2 l0 l1 => ?_
  have neR : ∀ p ∈ (R, seqObj "list" #[] e1) :: news, p.1 ≠ kS := fun p hp => by
    rcases List.mem_cons.mp hp with rfl | hp
    · exact Nat.ne_of_lt l0
    · exact Nat.ne_of_lt (l1 p hp)
  have go : ∀ (r : List (Str × Tok)) (kk : List Value) (tl : List (Addr × Obj)) (e tk9 : Nat) (h9 : Heap), (∀ p ∈ r, p.1 ∈ ks.map (·.1)) → kk.length + r.length = ks.length →
      (∀ v ∈ kk, ∃ la x t k, v = .ref la ∧ (la, listOf #[.str x t] k) ∈ tl) → (∀ p ∈ tl, p.1 ≠ kS ∧ p.1 ≠ R) → Fr h₀ L h9 m → News h₀ L h9 (tl ++ (kS, seqObj "list" (List.toArray kk) e) :: (R, seqObj "list" #[] e1) :: news) →
      KatKeys prog w A.in1.in1 h₀ L m kS (.ref lam) (fun ks' e s' => wpAny (model prog w) A.in1.in1 (keyKind' (List.toArray ks')) (fun κ s'' => (kas_sort (strValues zs).length).kasWp (kas_ask prog w A.in1.in1 κ (katRev false ks')) (fun p s3 => KatFin h₀ L m kS R ks' e e1 (katRev false (p.toList.map fun i => (katRev false (strValues zs)).getD i Value.none)) (fun s4 => ∃ v, PySem.Fin.done (.ret .none) = PySem.Fin.done (.ret v) ∧ Q (.ref R) s4) s3) s'') (fun _ _ => False) s') (strValues r) kk e
        { s with heap := h9, drawn := d', toks := tk9 } := by
    intro r
    induction r with
    | nil =>
      intro kk tl e tk9 h9 _ hlen hkk hoff F9 N9
      refine KatKeys.nil ?_
      have hlk : kk.length = ks.length := by simpa using hlen
      refine kas_kind (T := Value.type "list") (by lia) (fun v hv => ?_) (by decide) (by decide) ?_
      · obtain ⟨la, x, t, k, rfl, hm⟩ := hkk v hv
        exact looks_list (N9.get (List.mem_append_left _ hm))
      rw [hlv]
      refine ask_all (n := ks.length) (P := fun p => PermR ks.length p) (fun i j C hi hj hC => ?_) (fun p hpp => ?_) _ (all_sort (by lia))
      · have ai : ∀ i, i < ks.length → ∃ la x t k, kk.getD i Value.none = .ref la ∧ (la, listOf #[.str x t] k) ∈ tl := fun i hi => by
          have hi' : i < kk.length := by lia
          have e : kk.getD i Value.none = kk[i] := by simp [hi']
          rw [e]
          exact hkk _ (List.getElem_mem hi')
        obtain ⟨la, x, t, k, e3, hm⟩ := ai i hi
        obtain ⟨lb, y, u, k', e4, hm'⟩ := ai j hj
        show wpAny (model prog w) A.in1.in1 (keyLt' oneType' (kk.getD i Value.none) (kk.getD j Value.none)) C _ _
        rw [e3, e4]
        exact lt_list1e (by show A.units + 1 + 1 < cLine; exact hu) (N9.get (List.mem_append_left _ hm)) (N9.get (List.mem_append_left _ hm')) hC
      · refine KatFin.intro F9 N9 (updF_app (fun p hp => (hoff p hp).1) neR) fun h7 c7 F7 N7 => ?_
        have e5 : tl ++ (kS, seqObj "list" #[] c7) :: (R, seqObj "list" #[] e1) :: news = (tl ++ [(kS, seqObj "list" #[] c7)]) ++ (R, seqObj "list" #[] e1) :: news := by simp
        (try dsimp only at N7)
        have N7' : News h₀ L h7 ((tl ++ [(kS, seqObj "list" #[] c7)]) ++ (R, seqObj "list" #[] e1) :: news) := by rw [← e5]; exact N7
        refine KasFin.intro F7 N7' (updF_app (fun p hp => ?_) (fun p hp => Nat.ne_of_lt (hRN p hp))) fun h8 c8 F8 N8 => ?_
        · rcases List.mem_append.mp hp with q | q
          · exact (hoff p q).2
          · rw [List.mem_singleton.mp q]
            exact Nat.ne_of_gt l0
        · have hperm := Array.perm_iff_toList_perm.mp hpp.2
          have e6 : ((List.toArray (List.range ks.length)).toList.map fun i => (strValues zs).getD i Value.none) = strValues zs := by
            show (List.range ks.length).map _ = _
            rw [← hlv]
            apply List.ext_getElem?
            intro i
            by_cases hi : i < (strValues zs).length
            · simp [hi]
            · simp [hi]
          have hpz : (p.toList.map fun i => (strValues zs).getD i Value.none).Perm (strValues ks) := by
            have q := hperm.map fun i => (strValues zs).getD i Value.none
            rw [e6] at q
            exact q.trans hp
          obtain ⟨ys, e7, hy⟩ := vals_back hpz
          refine ⟨_, rfl, h R c8 ys h8 d' tk9 hy F8 (fun q hq => ?_) hRN⟩
          rcases List.mem_cons.mp hq with rfl | hq
          · have e8 : katRev false (p.toList.map fun i => (katRev false (strValues zs)).getD i Value.none) = strValues ys := e7
            have := N8 (R, listOf (List.toArray (katRev false (p.toList.map fun i => (katRev false (strValues zs)).getD i Value.none))) c8) (List.mem_append_right _ (.head _))
            rw [e8] at this
            exact this
          · exact N8 q (List.mem_append_right _ (.tail _ hq))
    | cons y r ih =>
      intro kk tl e tk9 h9 hr hlen hkk hoff F9 N9
      refine KatKeys.cons (hf y.1 y.2 _ _ _ (hr y (.head _)) F9 N9 (fun p hp => List.mem_append_right _ (.tail _ (.tail _ hp))) fun la h3 tk3 t3 k3 F3 N3 lla => ?_)
      have nela : la ≠ kS := Nat.ne_of_gt (lla _ (List.mem_append_right _ (.head _)))
      have nelR : la ≠ R := Nat.ne_of_gt (lla _ (List.mem_append_right _ (.tail _ (.head _))))
      have hoff' : ∀ p ∈ (la, listOf #[.str y.1 t3] k3) :: tl, p.1 ≠ kS ∧ p.1 ≠ R := fun p hp => by
        rcases List.mem_cons.mp hp with rfl | hp
        · exact ⟨nela, nelR⟩
        · exact hoff p hp
      refine KatBack.intro F3 (N3 : News h₀ L h3 (((la, listOf #[.str y.1 t3] k3) :: tl) ++ (kS, seqObj "list" (List.toArray kk) e) :: (R, seqObj "list" #[] e1) :: news)) (updF_app (fun p hp => (hoff' p hp).1) neR) fun h4 c4 F4 N4 => ?_
      refine ih (kk ++ [.ref la]) ((la, listOf #[.str y.1 t3] k3) :: tl) c4 tk3 h4 (fun p hp => hr p (.tail _ hp)) (by rw [List.length_append, List.length_singleton]; rw [List.length_cons] at hlen; lia) (fun v hv => ?_) hoff' F4 N4
      rcases List.mem_append.mp hv with q | q
      · obtain ⟨la', x, t, k, e9, hm⟩ := hkk v q
        exact ⟨la', x, t, k, e9, .tail _ hm⟩
      · rw [List.mem_singleton.mp q]
        exact ⟨la, _, _, _, rfl, .head _⟩
  exact go zs [] [] 0 tk' h2' (fun p hp => List.mem_map_of_mem (hz.mem_iff.mp hp)) (by simpa using hlz) (fun v hv => absurd hv List.not_mem_nil) (fun p hp => absurd hp List.not_mem_nil) F2 N2
end
end
section
open PySem PySem.Calls PyProof.Rows PySem.W PySem.Spec
theorem hideQ {M : Model} {A : Around} {α : Type} {t : Sem α} {E : Value → Shared → Prop} {Q : α → Shared → Prop} {s : Shared} (h : ∀ Q' : α → Shared → Prop, (∀ v s', Q v s' → Q' v s') → wpAny M A t Q' E s) : wpAny M A t Q E s := h Q fun _ _ h => h
theorem kdxOpen_all {lo : Addr} {news : List (Addr × Obj)} {C : List Value → List (Addr × Obj) → Prop} : ∀ (ps : List ((Tok → Value) × Value)) (vs : List Value) (tups : List (Addr × Obj)),
    (∀ (as : List Addr) (tf : List (Addr × Obj)), as.length = ps.length → (∀ (i : Nat) (a : Addr) (p : (Tok → Value) × Value), as[i]? = some a → ps[i]? = some p → ∃ t, (a, ({ cls := .type "tuple", data := .seq #[p.1 t, p.2] } : Obj)) ∈ tf) →
      (∀ p ∈ tf, p ∈ tups ∨ (lo < p.1 ∧ ∀ q ∈ news, q.1 < p.1)) → (∀ p ∈ tups, p ∈ tf) → C (vs ++ as.map .ref) tf) → KdxOpen lo news ps vs tups C
  | [], vs, tups, h => by
    have := h [] tups rfl (fun i a p e => by simp at e) (fun p hp => .inl hp) (fun p hp => hp)
    rw [List.map_nil, List.append_nil] at this
    exact KdxOpen.nil this
  | p :: ps, vs, tups, h => by
    refine KdxOpen.cons fun a t b1 b2 b3 => ?_
    refine kdxOpen_all ps _ _ fun as tf hl hm ho hs => ?_
    have := h (a :: as) tf (by simp [hl]) (fun i b q hb hq => ?_) (fun q hq => ?_) (fun q hq => hs q (.tail _ hq))
    · rw [List.append_assoc]
      exact this
    · match i with
      | 0 =>
        simp only [List.getElem?_cons_zero, Option.some.injEq] at hb hq
        subst hb; subst hq
        exact ⟨t, hs _ (.head _)⟩
      | i + 1 => exact hm i b q (by simpa using hb) (by simpa using hq)
    · rcases ho q hq with ho | ho
      · rcases List.mem_cons.mp ho with rfl | ho
        · exact .inr ⟨b1, b2⟩
        · exact .inl ho
      · exact .inr ho
section
variable {prog : Program} {w : World} {A : Around} {E : Value → Shared → Prop} {s : Shared} {h₀ : Heap} {L : Addr} {m : Str → Option Value} {news : List (Addr × Obj)}
theorem sorted_g {D : Addr} {o : Obj} {ks : List (Str × Tok)} {lam : Addr} {Q : Value → Shared → Prop} (hh : A.handled = none) (hu : A.units + 2 < cLine) (F : Fr h₀ L s.heap m) (N : News h₀ L s.heap news) (hD : (D, o) ∈ news) (hs : TSet prog w o ks)
    (h1 : 1 ≤ ks.length) (h64 : ks.length < 64) (hf : KeyOne prog w A.in1.in1 h₀ L m news (.ref lam) (ks.map (·.1)))
    (h : ∀ (R k : Nat) (zs : List (Str × Tok)) h' d' tk', zs.Perm ks → Fr h₀ L h' m → News h₀ L h' ((R, listOf (strValues zs).toArray k) :: news) → (∀ p ∈ news, p.1 < R) → Q (.ref R) { s with heap := h', drawn := d', toks := tk' }) :
    wpAny (model prog w) A (call (.builtin "sorted") [.ref D] [(Str.ofString "key", .ref lam)]) Q E s := by
  match ks, h1, hs, hf, h with
  | [x], _, hs, hf, h => exact sorted_one hh F N hD hs hf fun R k h' d' tk' F' N' l' => h R k [x] h' d' tk' (.refl _) F' N' l'
  | x :: y :: r, _, hs, hf, h => exact sorted_n hh hu F N hD hs (by simp) h64 hf h
theorem items_all {env : Env} {target : PySem.Expr} {body : List Stmt} {Q : Flow → Shared → Prop} {I : Addr} {keep : List (Addr × Obj)} {P : Nat → (Str → Option Value) → List (Addr × Obj) → Prop} (vs : List Value)
    (hstep : ∀ (i : Nat) v h tk m' n' oI, vs[i]? = some v → P i m' n' → Fr h₀ env.locals h m' → oI.cls = .type "list_iterator" → News h₀ env.locals h ((I, oI) :: n') →
      wpAny (model prog w) A (assign target env v) (fun _ s₂ => wpAny (model prog w) A (execs body env) (UnrPostW h₀ env.locals { s with heap := h, toks := tk } [(I, oI)] (fun m'' n'' => SubL keep n'' ∧ P (i + 1) m'' n'') Q) E s₂) E { s with heap := h, toks := tk })
    (hfin : ∀ m' n' h tk, P vs.length m' n' → Fr h₀ env.locals h m' → News h₀ env.locals h n' → Q .next { s with heap := h, toks := tk }) :
    ∀ (k i : Nat) m' n', i + k = vs.length → P i m' n' → ItemsRest prog w A E h₀ env target body Q s [(I, "list_iterator")] keep ((vs.drop i).map .val) m' n'
  | 0, i, m', n', e, hP => by
    rw [List.drop_of_length_le (by lia)]
    exact ItemsRest.zero fun h tk F N => hfin m' n' h tk (by rw [show vs.length = i by lia]; exact hP) F N
  | k + 1, i, m', n', e, hP => by
    have hi : i < vs.length := by lia
    rw [List.drop_eq_getElem_cons hi]
    refine ItemsRest.val fun h tk F => ?_
    refine fun oI hc N => ?_
    refine wpAny_mono (hstep i _ h tk m' n' oI (List.getElem?_eq_getElem hi) hP F hc N) (fun _ s₂ hw => ?_) fun _ _ x => x
    refine wpAny_mono hw (fun fl s₃ hp => ?_) fun _ _ x => x
    have up : ∀ s₃, UnrEndW h₀ env.locals { s with heap := h, toks := tk } [(I, oI)] (fun m'' n'' => SubL keep n'' ∧ P (i + 1) m'' n'') s₃ →
        UnrEndW h₀ env.locals { s with heap := h, toks := tk } [(I, oI)] (fun m'' n'' => SubL keep n'' ∧ ItemsRest prog w A E h₀ env target body Q s [(I, "list_iterator")] keep ((vs.drop (i + 1)).map .val) m'' n'') s₃ := by
      rintro s₃ ⟨h', tk', m'', n'', e1, e2, e3, e4, e5, e6⟩
      exact ⟨h', tk', m'', n'', e1, e2, e3, e4, e5, items_all vs hstep hfin k (i + 1) m'' n'' (by lia) e6⟩
    unfold UnrPostW at hp ⊢
    cases fl <;> first | exact hp | exact up _ hp
theorem compP_all {elt : PySem.Expr} {x x₂ : Str} {env : Env} {scope : Scope} {cl : List (Str × Addr)} {S : List (Addr × Obj) → Prop} {its : Array Value} {P : Nat → List Value → List (Addr × Obj) → Prop} {Fin : List Value → List (Addr × Obj) → Prop}
    (hstep : ∀ (i : Nat) v ys nw, its[i]? = some v → P i ys nw → ∃ (t : Addr) (ot : Obj) (v₁ v₂ : Value) (nt : Nat), v = .ref t ∧ (t, ot) ∈ nw ∧ ot.cls = .type "tuple" ∧ ot.data = .seq #[v₁, v₂] nt ∧
      ∀ I oI C oC D m₂ h tk (E' : Value → Shared → Prop), LCg.NsObj oC m₂ → m₂ x = some v₁ → m₂ x₂ = some v₂ → Fr h₀ L h m → News h₀ L h ((I, oI) :: (C, oC) :: (D, LCg.lst ys) :: nw) → LCg.Off3 I C D nw → ((@Ne Nat I C) ∧ (@Ne Nat I D) ∧ (@Ne Nat C D)) →
      wpAny (model prog w) A (eval elt (compEnvC scope cl C env)) (LCg.CompEnd h₀ L m { s with heap := h, toks := tk } I oI C oC D (LCg.lst ys) S (fun y nw' => P (i + 1) (ys ++ [y]) nw')) E' { s with heap := h, toks := tk })
    (hfin : ∀ ys nw, P its.size ys nw → Fin ys nw) : ∀ (k i : Nat) ys nw, i + k = its.size → P i ys nw → LCp.CompRestP prog w A h₀ L m env elt x x₂ scope cl s S (fun i v => its[i]? = some v) Fin k i ys nw
  | 0, i, ys, nw, e, hP => LCp.CompRestP.zero (hfin ys nw (by rw [show its.size = i by lia]; exact hP))
  | k + 1, i, ys, nw, e, hP => by
    refine LCp.CompRestP.succ fun v hv => ?_
    obtain ⟨t, ot, v₁, v₂, nt, a1, a2, a3, a4, a5⟩ := hstep i v ys nw hv hP
    refine ⟨t, ot, v₁, v₂, nt, a1, a2, a3, a4, fun I oI C oC D m₂ h tk E' b1 b2 b3 b4 b5 b6 b7 => ?_⟩
    refine wpAny_mono (a5 I oI C oC D m₂ h tk E' b1 b2 b3 b4 b5 b6 b7) (fun y s₂ hc => ?_) fun _ _ x => x
    obtain ⟨h', tk', nw', c1, c2, c3, c4, c5, c6⟩ := hc
    exact ⟨h', tk', nw', c1, c2, c3, c4, c5, compP_all hstep hfin k (i + 1) _ nw' (by lia) c6⟩
theorem drest_all {elt : PySem.Expr} {x : Str} {env : Env} {scope : Scope} {cl : List (Str × Addr)} {S : List (Addr × Obj) → Prop} {Pv : Nat → Value → Prop} {Fin : List (Str × Value) → List (Addr × Obj) → Shared → Prop} {n : Nat} {P : Nat → List (Str × Value) → List (Addr × Obj) → Shared → Prop}
    (hstep : ∀ (i : Nat) v kvs nw s, i < n → Pv i v → P i kvs nw s → ∀ I oI C oC D oD m₂ h tk (E' : Value → Shared → Prop), LCg.NsObj oC m₂ → m₂ x = some v → Fr h₀ L h m → News h₀ L h ((I, oI) :: (C, oC) :: (D, oD) :: nw) → LCg.Off3 I C D nw → ((@Ne Nat I C) ∧ (@Ne Nat I D) ∧ (@Ne Nat C D)) →
      ∃ key t, v = .str key t ∧ wpAny (model prog w) A (eval elt (compEnvC scope cl C env)) (CompEndG h₀ L m I oI C oC D oD S (fun y nw' s' => P (i + 1) (stored kvs key y) nw' s')) E' { s with heap := h, toks := tk })
    (hfin : ∀ kvs nw s, P n kvs nw s → Fin kvs nw s) : ∀ (k i : Nat) kvs nw s, i + k = n → P i kvs nw s → DRest prog w A h₀ L m env elt x scope cl S Pv Fin k i kvs nw s
  | 0, i, kvs, nw, s, e, hP => hfin kvs nw s (by rw [show n = i by lia]; exact hP)
  | k + 1, i, kvs, nw, s, e, hP => by
    intro v I oI C oC D oD m₂ h tk E' a1 a2 a3 a4 a5 a6 a7
    obtain ⟨key, t, e1, hw⟩ := hstep i v kvs nw s (by lia) a1 hP I oI C oC D oD m₂ h tk E' a2 a3 a4 a5 a6 a7
    refine ⟨key, t, e1, wpAny_mono hw (fun y s₂ hc => ?_) fun _ _ x => x⟩
    obtain ⟨nw', c1, c2, c3, c4, c5⟩ := hc
    exact ⟨nw', c1, c2, c3, c4, drest_all hstep hfin k (i + 1) _ nw' s₂ (by lia) c5⟩
end
end
section
open PySem PySem.Calls PyProof.Rows PySem.W PySem.Spec
section
variable {prog : Program} {w : World} {A : Around} {E : Value → Shared → Prop} {s : Shared} {h₀ : Heap} {L : Addr} {m : Str → Option Value} {news : List (Addr × Obj)}
abbrev wData (ws : List (List Int)) : List PyData := ws.map fun w => .list (w.map .int)
theorem readsW (N : News h₀ L s.heap news) : ∀ {vs : List Value} {ws : List (List Int)}, WordsAt news vs ws → ∃ as, ReadsAll s.heap vs (wData ws) as
  | _, _, .nil => ⟨_, .nil⟩
  | _, _, .cons ⟨a, vs, n, e, hm, hi⟩ r => by
    obtain ⟨as, ih⟩ := readsW N r
    subst e
    exact ⟨_, .cons (reads_newData (listOf_isList (N.get hm)) (ke_carried hi)) ih⟩
theorem lay_w : ∀ ws : List (List Int), PyData.canLayAll0 (wData ws) = true
  | [] => rfl
  | w :: r => by simp [wData, PyData.canLayAll0, PyData.canLay0, ke_canLayAll0 w]; exact lay_w r
theorem dep_w : ∀ ws : List (List Int), PyData.depthAll (wData ws) ≤ 1
  | [] => by simp [wData, PyData.depthAll]
  | w :: r => by
    have h := dep_w r
    simp only [wData, List.map_cons, PyData.depthAll, PyData.depth, ke_depthAll w] at h ⊢
    lia
theorem shaped_w (ws : List (List Int)) : SeqAt.shaped (.list (wData ws)) = true := by
  have h := dep_w ws
  have h2 : PyData.depth (.list (wData ws)) ≤ 64 := by
    simp only [PyData.depth]; lia
  have h1 : PyData.canLay0 (.list (wData ws)) = true := by simp only [PyData.canLay0]; exact lay_w ws
  unfold SeqAt.shaped
  rw [h1, decide_eq_true h2]; rfl
theorem ne_words {a b : Nat} {xs : List Value} {ws : List (List Int)} {ka kb : Nat} {Q : Value → Shared → Prop} (N : News h₀ L s.heap news) (ha : (a, listOf xs.toArray ka) ∈ news) (hb : (b, listOf #[] kb) ∈ news) (hW : WordsAt news xs ws) (hne : ws ≠ [])
    (hu : A.units + 64 < cLine) (h : Q (.bool true) s) : wpAny (model prog w) A (compareOp .NotEq (.ref a) (.ref b)) Q E s := by
  obtain ⟨as, r⟩ := readsW N hW
  obtain ⟨oa, hoa, hca, na, hda⟩ := listOf_isList (N.get ha)
  obtain ⟨ob, hob, hcb, nb, hdb⟩ := listOf_isList (N.get hb)
  refine ne_dataH (reads_list_at hoa hca hda (by simpa using r)) (reads_list_at (xs := []) hob hcb hdb .nil) (shaped_w ws) (shaped_w []) hu ?_
  cases ws with
  | nil => exact absurd rfl hne
  | cons w0 r0 =>
    have e : PyData.eqv (.list (wData (w0 :: r0))) (.list []) = false := by simp [wData, PyData.eqv, PyData.eqvAll]
    rw [e]
    exact h
theorem add_led {a b : Nat} {vs ws : List Value} {ka kb : Nat} {Q : Value → Shared → Prop} (F : Fr h₀ L s.heap m) (N : News h₀ L s.heap news) (ha : (a, listOf vs.toArray ka) ∈ news) (hb : (b, listOf ws.toArray kb) ∈ news) (hsz : vs.length + ws.length ≤ sizeLine)
    (h : ∀ (R : Nat) h', Fr h₀ L h' m → News h₀ L h' ((R, listOf (vs ++ ws).toArray 0) :: news) → (∀ q ∈ news, q.1 < R) → Q (.ref R) { s with heap := h' }) :
    wpAny (model prog w) A (binaryOp .Add (.ref a) (.ref b)) Q E s :=
  add_lists (hsz := hsz) F N (listOf_isList (N.get ha)) (listOf_isList (N.get hb)) fun h' F' N' => h _ h' F' N' fun q hq => Heap.lt_size (N q hq).1
end
end
section
open PySem PySem.Calls PyProof.Rows PySem.W PySem.Spec PyProof.Rows.LCg
def Off4 (I C K D : Nat) (l : List (Addr × Obj)) : Prop := ∀ p ∈ l, @Ne Nat p.1 I ∧ @Ne Nat p.1 C ∧ @Ne Nat p.1 K ∧ @Ne Nat p.1 D
inductive CEndC (h₀ : Heap) (L : Addr) (m : Str → Option Value) (s : Shared) (I : Addr) (oI : Obj) (C : Addr) (oC : Obj) (K : Addr) (oK : Obj) (D : Addr) (ys : List Value) (S : List (Addr × Obj) → Prop) (J : List Value → List (Addr × Obj) → Gens → Prop) (y : Value) : Shared → Prop
  | mk (h' : Heap) (tk' : Nat) (g' : Gens) (d' : Drawn) (news' : List (Addr × Obj)) (F : Fr h₀ L h' m) (N : News h₀ L h' ((I, oI) :: (C, oC) :: (K, oK) :: (D, lst ys) :: news')) (off : Off4 I C K D news') (hS : S news') (hJ : J (ys ++ [y]) news' g') : CEndC h₀ L m s I oI C oC K oK D ys S J y (stG s h' tk' g' d')
def EltC (prog : Program) (w : World) (A : Around) (h₀ : Heap) (L : Addr) (m : Str → Option Value) (env : Env) (elt : Expr) (x : Str) (scope : Scope) (cl : List (Str × Addr)) (s : Shared) (S : List (Addr × Obj) → Prop) (P : Nat → Value → Prop) (n : Nat) (J : Nat → List Value → List (Addr × Obj) → Gens → Prop) : Prop :=
  ∀ i v I oI C oC K oK D m₂ h tk g d ys news (E' : Value → Shared → Prop), i < n → P i v → J i ys news g → S news → NsObj oC m₂ → oK.data = .cell (some v) → Fr h₀ L h m → News h₀ L h ((I, oI) :: (C, oC) :: (K, oK) :: (D, lst ys) :: news) → Off4 I C K D news → ((@Ne Nat I C) ∧ (@Ne Nat I K) ∧ (@Ne Nat I D) ∧ (@Ne Nat C K) ∧ (@Ne Nat C D) ∧ (@Ne Nat K D)) → ItObj oI →
    wpAny (model prog w) A (eval elt (compEnvC scope ((x, K) :: cl) C env)) (CEndC h₀ L m s I oI C oC K oK D ys S (J (i + 1))) E' (stG s h tk g d)
theorem newEnvA {M : Model} {A : Around} {E : Value → Shared → Prop} {s : Shared} {scope : Scope} {globals : Addr} {cl : List (Str × Addr)} {qual : Str} {env : Env} {Q : Env → Shared → Prop}
    (h : Q (newEnv scope s.heap.objs.size globals (cellsFrom (s.heap.push { cls := .type "dict", data := .dict #[] }).objs.size scope.names cl) qual none .none (some env) builtinsNs) { s with heap := pushCells (s.heap.push { cls := .type "dict", data := .dict #[] }) scope.names }) :
    wpAny M A (newFunctionEnv scope globals cl [] qual none .none (some env)) Q E s := by
  simp only [newFunctionEnv, Option.isSome_some, if_true]
  refine wpAny_bind (wpAny_alloc ?_)
  refine wpAny_bind (wpAny_layCells _ (fun name kind cells => by cases hkc : kind == NameKind.cell <;> simp [hkc]) _ _ _ _ ?_)
  rw [List.forIn_nil]
  exact wpAny_bind (wpAny_pure (wpAny_pure h))
inductive CompC (h₀ : Heap) (L : Addr) (m : Str → Option Value) (s : Shared) (I C K D : Addr) (n : Nat) (St : Nat → Heap → Prop) (S : List (Addr × Obj) → Prop) (J : Nat → List Value → List (Addr × Obj) → Gens → Prop) (k : Nat) : Shared → Prop
  | mk (h' : Heap) (tk : Nat) (g : Gens) (d : Drawn) (i : Nat) (ys : List Value) (m' : Str → Option Value) (news' : List (Addr × Obj)) (v₀ : Option Value) (hi : i ≤ n) (hk : k = n + 1 - i) (hyl : ys.length = i) (hst : St i h') (F : Fr h₀ L h' m) (hn : h'.Ns C m') (hce : h'.IsCell K v₀) (N : News h₀ L h' ((D, lst ys) :: news')) (off : Off4 I C K D news') (hS : S news') (hJ : J i ys news' g) : CompC h₀ L m s I C K D n St S J k (stG s h' tk g d)
section
variable {prog : Program} {w : World} {A : Around} {E : Value → Shared → Prop} {s : Shared} {h₀ : Heap} {L : Addr} {m : Str → Option Value} {env : Env}
theorem lblockC {elt iter : Expr} {x : Str} {px : Pos} {scope : Scope} {cl : List (Str × Addr)} {pos : Pos} {s₂ : Shared} {I : Addr} {fp : List Addr} {n : Nat} {P : Nat → Value → Prop} {St : Nat → Heap → Prop} {S : List (Addr × Obj) → Prop} {news : List (Addr × Obj)}
    {J : Nat → List Value → List (Addr × Obj) → Gens → Prop} {RR : Value → Addr → Result → Shared → Prop}
    (W : Walks prog w A I fp [I] n P St) (hsz : n ≤ sizeLine) (hIo : ∀ i h, St i h → ∃ o, h.get? I = some o ∧ ItObj o)
    (hSt : ∀ i h h' o nw, St i h → h.get? I = some o → h'.get? I = some o → (∀ b o, h₀.get? b = some o → h'.get? b = some o) → News h₀ L h' nw → S nw → St i h')
    (hpc : ∀ h : Heap, pushCells h scope.names = h.push { cls := .type "cell", data := .cell none }) (hcf : ∀ (k : Nat) (l : List (Str × Addr)), cellsFrom k scope.names l = (x, k) :: l)
    (hkind : scope.kind = .function) (hx : ∀ C K : Addr, (compEnvC scope ((x, K) :: cl) C env).kindOf x = some .cell) (hst : St 0 s₂.heap) (hfp : ∀ b ∈ fp, b < s₂.heap.objs.size)
    (F : Fr h₀ L s₂.heap m) (N : News h₀ L s₂.heap news) (hIL : L ≠ I) (hI₀ : h₀.get? I = none) (off : ∀ p ∈ news, p.1 ≠ I) (hS : S news) (hs : ∃ h, s₂ = { s with heap := h })
    (hJ : J 0 [] news s.gens) (R : EltC prog w A h₀ L m env elt x scope cl s S P n J)
    (hRR : ∀ D C h tk g d m' ys news', J n ys news' g → Fr h₀ L h m → News h₀ L h ((D, lst ys) :: news') → Off1 D news' → h.Ns C m' → h₀.get? C = none → h₀.get? D = none → C ≠ L → D ≠ L → C ≠ D → (∀ p ∈ news', p.1 ≠ C) → (∀ q ∈ news, q.1 < D) → RR (.ref D) C (.ok .next) (stG s h tk g d)) :
    wpAny (model prog w) A (newList []) (fun acc s₃ => wpAny (model prog w) A (newFunctionEnv scope env.globals cl [] env.qual none .none (some env)) (fun cenv s₄ =>
      codeAny (model prog w) A (.compStart (.ListComp elt [⟨.Name x px, iter, [], 0⟩] scope pos) 0 (.ref I) acc { cenv with scope := relabel scope env }) (RR acc cenv.locals) s₄) E s₃) E s₂ := by
  obtain ⟨hp, rfl⟩ := hs
  dsimp only at hst hfp F N ⊢
  refine wpAny_newObj_type (newEnvA ?_)
  dsimp only
  rw [hpc, hcf]
  generalize hH2 : hp.push { cls := .type "list", dict := none, data := .seq ([] : List Value).toArray } = H2
  generalize hH3 : H2.push { cls := .type "dict", data := .dict #[] } = H3
  generalize hH1 : H3.push { cls := .type "cell", data := .cell none } = h₁
  have hC : H2.objs.size = hp.objs.size + 1 := by rw [← hH2, Heap.size_push]
  have hK : H3.objs.size = hp.objs.size + 2 := by rw [← hH3, Heap.size_push, hC]
  have hDC : hp.objs.size ≠ H2.objs.size := by rw [hC]; exact Nat.ne_of_lt (Nat.lt_succ_self _)
  have hDK : hp.objs.size ≠ H3.objs.size := by rw [hK]; exact Nat.ne_of_lt (Nat.lt_succ_of_lt (Nat.lt_succ_self _))
  have hCK : H2.objs.size ≠ H3.objs.size := by rw [hC, hK]; exact Nat.ne_of_lt (Nat.lt_succ_self _)
  have below : ∀ b, b < hp.objs.size → b ≠ H2.objs.size ∧ b ≠ hp.objs.size ∧ b ≠ H3.objs.size := fun b hb => ⟨by rw [hC]; exact Nat.ne_of_lt (Nat.lt_succ_of_lt hb), Nat.ne_of_lt hb, by rw [hK]; exact Nat.ne_of_lt (Nat.lt_succ_of_lt (Nat.lt_succ_of_lt hb))⟩
  have hDf : hp.objs.size ∉ fp := fun hm => Nat.lt_irrefl _ (hfp _ hm)
  have hCf : H2.objs.size ∉ fp := fun hm => (below _ (hfp _ hm)).1 rfl
  have hKf : H3.objs.size ∉ fp := fun hm => (below _ (hfp _ hm)).2.2 rfl
  have hIlt : I < hp.objs.size := hfp I (W.sub I (List.mem_singleton.mpr rfl))
  have up3 : ∀ b o, H3.get? b = some o → h₁.get? b = some o := fun b o e => hH1 ▸ Heap.get?_push_of_some _ e
  have up2 : ∀ b o, H2.get? b = some o → h₁.get? b = some o := fun b o e => up3 b o (hH3 ▸ Heap.get?_push_of_some _ e)
  have old : ∀ b o, hp.get? b = some o → h₁.get? b = some o := fun b o e => up2 b o (hH2 ▸ Heap.get?_push_of_some _ e)
  have hacc : h₁.get? hp.objs.size = some (lst []) := up2 _ _ (hH2 ▸ Heap.get?_push_size _ rfl)
  have hns₁ : h₁.Ns H2.objs.size (fun _ => none) := (hH3 ▸ Heap.Ns.new H2 (.type "dict")).keeps up3
  have hce₁ : h₁.IsCell H3.objs.size none := ⟨_, hH1 ▸ Heap.get?_push_size _ rfl, rfl⟩
  have hst₁ : St 0 h₁ := W.frame _ _ _ hst fun b _ o e => old b o e
  obtain ⟨hDL, hD₀⟩ := kdx_fresh F (Nat.le_refl hp.objs.size)
  obtain ⟨hCL, hC₀⟩ := kdx_fresh F (x := H2.objs.size) (by rw [hC]; exact Nat.le_succ _)
  obtain ⟨hKL, hK₀⟩ := kdx_fresh F (x := H3.objs.size) (by rw [hK]; exact Nat.le_add_right _ _)
  have hCI : I ≠ H2.objs.size := (below I hIlt).1
  have hDI : I ≠ hp.objs.size := (below I hIlt).2.1
  have hKI : I ≠ H3.objs.size := (below I hIlt).2.2
  have off₀ : Off4 I H2.objs.size H3.objs.size hp.objs.size news := fun p hq => ⟨off p hq, (below _ (Heap.lt_size (N p hq).1)).1, (below _ (Heap.lt_size (N p hq).1)).2.2, (below _ (Heap.lt_size (N p hq).1)).2.1⟩
  have one : ∀ {l : List (Addr × Obj)}, Off4 I H2.objs.size H3.objs.size hp.objs.size l → Off1 hp.objs.size l := by
    intro l
    induction l with
    | nil => intro _; trivial
    | cons p r ih => exact fun h => ⟨(h _ (.head _)).2.2.2, ih fun q hq => h q (.tail _ hq)⟩
  have loop : ∀ tk0, codeAny (model prog w) A (.compLoop (.ListComp elt [⟨.Name x px, iter, [], 0⟩] scope pos) 0 (.ref I) (.ref hp.objs.size) (compEnvC scope ((x, H3.objs.size) :: cl) H2.objs.size env)) (RR (.ref hp.objs.size) H2.objs.size) { s with heap := h₁, toks := tk0 } := by
    intro tk0
    refine codeAny_compLoop_tests
      (CompC h₀ L m s I H2.objs.size H3.objs.size hp.objs.size n St S J) ?_ (n + 1)
      (CompC.mk h₁ _ _ _ 0 [] _ news none (Nat.zero_le _) rfl rfl hst₁ (F.keeps old) hns₁ hce₁ (fun p hq => ?_) off₀ hS hJ)
    · rintro k s' ⟨h', tk, g, d, i, ys, m', news', v₀, hi, hkk, hyl, hst', F', hn', hce', N', off', hS', R'⟩
      have hDn : ∀ p ∈ (hp.objs.size, lst ys) :: news', p.1 ≠ I := fun p hq => by
        rcases List.mem_cons.mp hq with rfl | hq
        · exact Ne.symm hDI
        · exact (off' p hq).1
      by_cases hlt : i < n
      · refine W.item i _ _ _ hlt hst' fun v h₂ tk₂ hPv hst₂ hk₂ => ?_
        have hce₂ : h₂.IsCell H3.objs.size v₀ := by
          obtain ⟨oK, eK, dK⟩ := hce'
          exact ⟨oK, hk₂ _ oK (by simpa using Ne.symm hKI) eK, dK⟩
        refine wpAny_assign_Name (wpAny_storeName_cell (by simp [compEnvC, relabel, hkind]) (hx _ _) (by simp [compEnvC]) hce₂ fun h₃ hce₃ hs₃ => ?_)
        refine wpAny_tests_nil ?_
        simp only [if_true]
        have hst₃ : St (i + 1) h₃ := W.frame _ _ _ hst₂ fun b hb o e => hs₃.extBut b o (fun q => hKf (by have q' : b = H3.objs.size := q; rw [← q']; exact hb)) e
        obtain ⟨oI, heI, hoI⟩ := hIo _ _ hst₃
        have hn₃ : h₃.Ns H2.objs.size m' := (hn'.at' fun o e => hk₂ _ o (by simpa using Ne.symm hCI) e).sameBut hs₃ hCK
        obtain ⟨oC, heC, hoC⟩ := ns_obj hn₃
        obtain ⟨oK, heK, hoK⟩ := hce₃
        have F₃ : Fr h₀ L h₃ m := (fr_but F' hk₂ hIL hI₀).change hs₃ hKL hK₀
        have N₂ := news_but N' hk₂ hDn
        have N₃ : News h₀ L h₃ ((I, oI) :: (H2.objs.size, oC) :: (H3.objs.size, oK) :: (hp.objs.size, lst ys) :: news') := fun p hq => by
          rcases List.mem_cons.mp hq with rfl | hq
          · exact ⟨heI, Ne.symm hIL, hI₀⟩
          · rcases List.mem_cons.mp hq with rfl | hq
            · exact ⟨heC, hCL, hC₀⟩
            · rcases List.mem_cons.mp hq with rfl | hq
              · exact ⟨heK, hKL, hK₀⟩
              · have z := N₂ p hq
                refine ⟨hs₃.extBut _ _ ?_ z.1, z.2⟩
                rcases List.mem_cons.mp hq with rfl | hq
                · exact hDK
                · exact (off' p hq).2.2.1
        refine wpAny_mono (R i v I oI H2.objs.size oC H3.objs.size oK hp.objs.size _ h₃ _ _ _ _ _ _ hlt hPv R' hS' hoC hoK F₃ N₃ off' ⟨hCI, hKI, hDI, hCK, Ne.symm hDC, Ne.symm hDK⟩ hoI) (fun y s₄ h₄ => ?_) fun _ _ e => e
        obtain ⟨h₄, tk₄, g₄, d₄, news₄, F₄, N₄, off₄, hS₄, R₄⟩ := h₄
        have zI := (N₄ _ (.head _)).1
        have zC := (N₄ _ (.tail _ (.head _))).1
        have zK := (N₄ _ (.tail _ (.tail _ (.head _)))).1
        have zD := (N₄ _ (.tail _ (.tail _ (.tail _ (.head _))))).1
        have N₄' : News h₀ L h₄ news₄ := fun p hq => N₄ p (.tail _ (.tail _ (.tail _ (.tail _ hq))))
        have hst₄ : St (i + 1) h₄ := hSt _ _ _ _ _ hst₃ heI zI F₄.keep N₄' hS₄
        refine append_at (hsz := by show ys.toArray.size ≤ sizeLine; rw [List.size_toArray, hyl]; exact Nat.le_trans hi hsz) zD fun h₅ hs₅ hD₅ => ?_
        refine ⟨n + 1 - (i + 1), dec_lt hlt hkk, h₅, tk₄, g₄, d₄, i + 1, ys ++ [y], _, news₄, _, hlt, rfl, by rw [List.length_append, List.length_singleton, hyl], W.frame _ _ _ hst₄ fun b hb o e => hs₅.extBut b o (fun q => hDf (q ▸ hb)) e, F₄.change hs₅ hDL hD₀,
          (hoC.ns zC).sameBut hs₅ (Ne.symm hDC), ⟨oK, hs₅.extBut _ _ (Ne.symm hDK) zK, hoK⟩, fun p hq => ?_, off₄, hS₄, R₄⟩
        rcases List.mem_cons.mp hq with rfl | hq
        · exact ⟨hD₅.trans (congrArg some (lst_snoc ys y)), hDL, hD₀⟩
        · exact ⟨hs₅.extBut _ _ (off₄ p hq).2.2.2 (N₄' p hq).1, (N₄' p hq).2⟩
      · obtain rfl : i = n := Nat.le_antisymm hi (Nat.not_lt.mp hlt)
        refine W.done _ _ _ hst' fun h₂ tk₂ hk₂ => ?_
        exact hRR _ _ h₂ tk₂ g d _ ys news' R' (fr_but F' hk₂ hIL hI₀) (news_but N' hk₂ hDn) (one off') (hn'.at' fun o e => hk₂ _ o (by simpa using Ne.symm hCI) e) hC₀ hD₀ hCL hDL (Ne.symm hDC) (fun p hq => (off' p hq).2.1) (fun q hq => Heap.lt_size (N q hq).1)
    · rcases List.mem_cons.mp hq with rfl | hq
      · exact ⟨hacc, hDL, hD₀⟩
      · exact ⟨old _ _ (N p hq).1, (N p hq).2⟩
  exact codeAny_compStart_list (loop _) (W.self 0 _ _ _ hst₁ (loop _))
inductive SrcC (prog : Program) (w : World) (A : Around) (h₀ : Heap) (L : Addr) (m : Str → Option Value) (env : Env) (elt : Expr) (x : Str) (scope : Scope) (cl : List (Str × Addr)) (Fin : List (Addr × Obj) → List Value → List (Addr × Obj) → Gens → Shared → Prop) : Value → Shared → Prop
  | mk {s₁ : Shared} (r : Addr) (a b : Int) (t u v : Tok) (n : Nat) (news : List (Addr × Obj)) (hh : A.handled = none) (F : Fr h₀ L s₁.heap m) (N : News h₀ L s₁.heap news) (hr : IsRange s₁.heap r a b 1 t u v) (hsm : Builtin.Range.small a b 1 = true) (hn : Builtin.Range.rangeSize a b 1 = ((n : Nat) : Int)) (hsz : n ≤ sizeLine)
    (J : Nat → List Value → List (Addr × Obj) → Gens → Prop) (j0 : J 0 [] news s₁.gens) (R : EltC prog w A h₀ L m env elt x scope cl s₁ (fun _ => True) (fun i v => ∃ t, v = .int (a + (i : Int)) t) n J) (fin : ∀ ys nw g, J n ys nw g → Fin news ys nw g s₁) : SrcC prog w A h₀ L m env elt x scope cl Fin (.ref r) s₁
theorem lsrcC {elt iter : Expr} {x : Str} {px : Pos} {scope : Scope} {cl : List (Str × Addr)} {pos : Pos} {RR : Value → Addr → Result → Shared → Prop} {Fin : List (Addr × Obj) → List Value → List (Addr × Obj) → Gens → Shared → Prop} {xv : Value} {s₁ : Shared}
    (hpc : ∀ h : Heap, pushCells h scope.names = h.push { cls := .type "cell", data := .cell none }) (hcf : ∀ (k : Nat) (l : List (Str × Addr)), cellsFrom k scope.names l = (x, k) :: l) (hkind : scope.kind = .function) (hx : ∀ C K : Addr, (compEnvC scope ((x, K) :: cl) C env).kindOf x = some .cell)
    (h : SrcC prog w A h₀ L m env elt x scope cl Fin xv s₁)
    (hRR : ∀ base D C h tk g d m' ys news', Fin base ys news' g s₁ → Fr h₀ L h m → News h₀ L h ((D, lst ys) :: news') → Off1 D news' → h.Ns C m' → h₀.get? C = none → h₀.get? D = none → C ≠ L → D ≠ L → C ≠ D → (∀ p ∈ news', p.1 ≠ C) → (∀ q ∈ base, q.1 < D) → RR (.ref D) C (.ok .next) (stG s₁ h tk g d)) :
    wpAny (model prog w) A (pyIter xv) (fun it s₂ => wpAny (model prog w) A (newList []) (fun acc s₃ => wpAny (model prog w) A (newFunctionEnv scope env.globals cl [] env.qual none .none (some env)) (fun cenv s₄ =>
      codeAny (model prog w) A (.compStart (.ListComp elt [⟨.Name x px, iter, [], 0⟩] scope pos) 0 it acc { cenv with scope := relabel scope env }) (RR acc cenv.locals) s₄) E s₃) E s₂) E s₁ := by
  obtain ⟨r, a, b, t, u, v, n, news, hh, F, N, hr, hsm, hn, hsz, J, j0, R, fin⟩ := h
  refine wpAny_pyIter_range hr hsm ?_
  refine lblockC (range_walks hh a n) hsz (fun i h st => ⟨_, st, it_range⟩) range_st hpc hcf hkind hx (by show IsRangeIter _ _ _ _ _; rw [hn]; simpa using Heap.get?_push_size _ rfl) (fun b hb => ?_)
    (F.keeps fun _ _ e => Heap.get?_push_of_some _ e) (N.grown fun _ _ e => Heap.get?_push_of_some _ e) (Nat.ne_of_lt F.ns.lt) (next_is_new F) (fun p hp => Nat.ne_of_lt (Heap.lt_size (N p hp).1)) trivial ⟨_, rfl⟩ j0 R fun D C h tk g d m' ys news' hJ => hRR _ D C h tk g d m' ys news' (fin _ _ _ hJ)
  rw [List.mem_singleton.mp hb]
  show s₁.heap.objs.size < (s₁.heap.push _).objs.size
  rw [Heap.size_push]; exact Nat.lt_succ_self _
theorem Assign_ListComp_C {elt iter : Expr} {x y : Str} {px py : Pos} {scope : Scope} {cl : List (Str × Addr)} {pos spos : Pos} {Q : Flow → Shared → Prop} (_F₀ : Fr h₀ L s.heap m) (hLe : env.locals = L)
    (hsw : swapsWith (.ListComp elt [⟨.Name x px, iter, [], 0⟩] scope pos) (some (.Name y py)) spos.line env = pure true)
    (hclos : closureFor scope env = pure cl) (hpc : ∀ h : Heap, pushCells h scope.names = h.push { cls := .type "cell", data := .cell none }) (hcf : ∀ (k : Nat) (l : List (Str × Addr)), cellsFrom k scope.names l = (x, k) :: l) (hkind : scope.kind = .function)
    (hnames : ∀ z ∈ scope.names, z.2 = .local → scope.names.lookup z.1 = some .local) (hx : ∀ C K : Addr, (compEnvC scope ((x, K) :: cl) C env).kindOf x = some .cell)
    (hy : env.kindOf y = some .local) (hp : (env.scope.kind == .class || (env.scope.kind == .module && env.locals != env.globals)) = false)
    (h : wpAny (model prog w) A (eval iter env) (SrcC prog w A h₀ L m env elt x scope cl (FinAJ h₀ L m y Q)) E s)
    (hs : ∀ x, foldedSetIterable iter env x = pure x := by intro _; rfl) :
    wpAny (model prog w) A (exec (.Assign [.Name y py] (.ListComp elt [⟨.Name x px, iter, [], 0⟩] scope pos) spos) env) Q E s := by
  subst hLe
  rw [exec_Assign_Name_used _ _ _ _ hsw]
  refine wpAny_bind (wpAny_standAt (wpAny_bind ?_))
  show wpAny _ A (do let _ ← comprehension (.ListComp elt [⟨.Name x px, iter, [], 0⟩] scope pos) scope env _ (newList []) false (eval iter env) (some (assign (.Name y py) env))) _ _ s
  refine wpAny_bind (wpAny_mono (wpAny_comprehension_free (use := some (assign (.Name y py) env)) (Q := fun _ s' => Q .next s') rfl hs hclos hkind hnames
    (wpAny_mono h (fun xv s₁ h₁ => ?_) fun _ _ e => e)) (fun _ s' hq => wpAny_pure (wpAny_pure hq)) fun _ _ e => e)
  refine lsrcC hpc hcf hkind hx h₁ fun base D C h' tk g d m' ys news' fin F' N' o1 hn hC₀ hD₀ hCL hDL hCD offC hbs => ?_
  show wpAny _ A (assign (.Name y py) env (.ref D)) _ _ _
  refine wpAny_assign_Name (wpAny_storeName_local hy F'.ns (fun h₂ hn₂ hs₂ => ?_) hp)
  have hL₀ : h₀.get? env.locals = none := Heap.get?_none_of_le F'.above
  have F₂ : Fr h₀ env.locals h₂ (fun z => if z = y then some (.ref D) else m z) := ⟨hn₂, fun b o e => hs₂.extBut b o (fun q => by rw [q, hL₀] at e; cases e) (F'.keep b o e), F'.above⟩
  refine ⟨m', hn.sameBut hs₂ hCL, fun h'' hs'' => fin D h'' _ d hbs (F₂.change hs'' hCL hC₀) (fun p hp => ?_) o1⟩
  have z : h₂.get? p.1 = some p.2 := hs₂.extBut _ _ (N' p hp).2.1 (N' p hp).1
  refine ⟨hs''.extBut _ _ ?_ z, (N' p hp).2⟩
  rcases List.mem_cons.mp hp with rfl | hp
  · exact Ne.symm hCD
  · exact offC p hp

end
end
section
open PySem PySem.Calls PyProof.Rows PySem.W PySem.Spec PyProof.Rows.LCg
def EltI (prog : Program) (w : World) (A : Around) (h₀ : Heap) (L : Addr) (m : Str → Option Value) (env : Env) (elt tst : Expr) (x : Str) (scope : Scope) (cl : List (Str × Addr)) (s : Shared) (S : List (Addr × Obj) → Prop) (P : Nat → Value → Prop) (n : Nat) (J : Nat → List Value → List (Addr × Obj) → Gens → Prop) : Prop :=
  ∀ i v I oI C oC D m₂ h tk g d ys news (E' : Value → Shared → Prop), i < n → P i v → J i ys news g → S news → NsObj oC m₂ → m₂ x = some v → Fr h₀ L h m → News h₀ L h ((I, oI) :: (C, oC) :: (D, lst ys) :: news) → Off3 I C D news → ((@Ne Nat I C) ∧ (@Ne Nat I D) ∧ (@Ne Nat C D)) → ItObj oI →
    wpAny (model prog w) A (isTrue tst (compEnvC scope cl C env) (eval tst (compEnvC scope cl C env))) (fun ok s₃ => if ok = true then wpAny (model prog w) A (eval elt (compEnvC scope cl C env)) (CEndJ h₀ L m s I oI C oC D ys S (J (i + 1))) E' s₃ else SkipJ h₀ L m s I oI C oC D ys S (J (i + 1)) s₃) E' (stG s h tk g d)
section
variable {prog : Program} {w : World} {A : Around} {E : Value → Shared → Prop} {s : Shared} {h₀ : Heap} {L : Addr} {m : Str → Option Value} {env : Env}
theorem elt_one {elt tst : Expr} {x : Str} {scope : Scope} {cl : List (Str × Addr)} {S : List (Addr × Obj) → Prop} {P : Nat → Value → Prop} {n : Nat} {J : Nat → List Value → List (Addr × Obj) → Gens → Prop} (R : EltI prog w A h₀ L m env elt tst x scope cl s S P n J) : EltT prog w A h₀ L m env elt [tst] x scope cl s S P n J :=
  fun i v I oI C oC D m₂ h tk g d ys news E' a1 a2 a3 a4 a5 a6 a7 a8 a9 b1 b2 => wpAny_tests_one (R i v I oI C oC D m₂ h tk g d ys news E' a1 a2 a3 a4 a5 a6 a7 a8 a9 b1 b2)
inductive SrcI (prog : Program) (w : World) (A : Around) (h₀ : Heap) (L : Addr) (m : Str → Option Value) (env : Env) (elt tst : Expr) (x : Str) (scope : Scope) (cl : List (Str × Addr)) (Fin : List (Addr × Obj) → List Value → List (Addr × Obj) → Gens → Shared → Prop) : Value → Shared → Prop
  | mk {s₁ : Shared} (r : Addr) (a b : Int) (t u v : Tok) (n : Nat) (news : List (Addr × Obj)) (hh : A.handled = none) (F : Fr h₀ L s₁.heap m) (N : News h₀ L s₁.heap news) (hr : IsRange s₁.heap r a b 1 t u v) (hsm : Builtin.Range.small a b 1 = true) (hn : Builtin.Range.rangeSize a b 1 = ((n : Nat) : Int)) (hsz : n ≤ sizeLine)
    (J : Nat → List Value → List (Addr × Obj) → Gens → Prop) (j0 : J 0 [] news s₁.gens) (R : EltI prog w A h₀ L m env elt tst x scope cl s₁ (fun _ => True) (fun i v => ∃ t, v = .int (a + (i : Int)) t) n J) (fin : ∀ ys nw g, J n ys nw g → Fin news ys nw g s₁) : SrcI prog w A h₀ L m env elt tst x scope cl Fin (.ref r) s₁
theorem lsrcI {elt iter tst : Expr} {x : Str} {px : Pos} {scope : Scope} {cl : List (Str × Addr)} {pos : Pos} {RR : Value → Addr → Result → Shared → Prop} {Fin : List (Addr × Obj) → List Value → List (Addr × Obj) → Gens → Shared → Prop} {xv : Value} {s₁ : Shared}
    (hcell : ∀ y ∈ scope.names, y.2 ≠ .cell) (hkind : scope.kind = .function) (hx : scope.names.lookup x = some .local)
    (h : SrcI prog w A h₀ L m env elt tst x scope cl Fin xv s₁)
    (hRR : ∀ base D C h tk g d m' ys news', Fin base ys news' g s₁ → Fr h₀ L h m → News h₀ L h ((D, lst ys) :: news') → Off1 D news' → h.Ns C m' → h₀.get? C = none → h₀.get? D = none → C ≠ L → D ≠ L → C ≠ D → (∀ p ∈ news', p.1 ≠ C) → (∀ q ∈ base, q.1 < D) → RR (.ref D) C (.ok .next) (stG s₁ h tk g d)) :
    wpAny (model prog w) A (pyIter xv) (fun it s₂ => wpAny (model prog w) A (newList []) (fun acc s₃ => wpAny (model prog w) A (newFunctionEnv scope env.globals cl [] env.qual none .none (some env)) (fun cenv s₄ =>
      codeAny (model prog w) A (.compStart (.ListComp elt [⟨.Name x px, iter, [tst], 0⟩] scope pos) 0 it acc { cenv with scope := relabel scope env }) (RR acc cenv.locals) s₄) E s₃) E s₂) E s₁ := by
  obtain ⟨r, a, b, t, u, v, n, news, hh, F, N, hr, hsm, hn, hsz, J, j0, R, fin⟩ := h
  refine wpAny_pyIter_range hr hsm ?_
  refine lblockT (ifs := [tst]) (range_walks hh a n) hsz (fun i h st => ⟨_, st, it_range⟩) range_st hcell hkind hx (by show IsRangeIter _ _ _ _ _; rw [hn]; simpa using Heap.get?_push_size _ rfl) (fun b hb => ?_)
    (F.keeps fun _ _ e => Heap.get?_push_of_some _ e) (N.grown fun _ _ e => Heap.get?_push_of_some _ e) (Nat.ne_of_lt F.ns.lt) (next_is_new F) (fun p hp => Nat.ne_of_lt (Heap.lt_size (N p hp).1)) trivial ⟨_, rfl⟩ j0 (elt_one R) fun D C h tk g d m' ys news' hJ => hRR _ D C h tk g d m' ys news' (fin _ _ _ hJ)
  rw [List.mem_singleton.mp hb]
  show s₁.heap.objs.size < (s₁.heap.push _).objs.size
  rw [Heap.size_push]; exact Nat.lt_succ_self _
theorem ListComp_I {elt iter tst : Expr} {x : Str} {px : Pos} {scope : Scope} {cl : List (Str × Addr)} {pos : Pos} {Q : Value → Shared → Prop} (_F₀ : Fr h₀ L s.heap m)
    (hclos : closureFor scope env = pure cl) (hcell : ∀ y ∈ scope.names, y.2 ≠ .cell) (hkind : scope.kind = .function)
    (hnames : ∀ y ∈ scope.names, y.2 = .local → scope.names.lookup y.1 = some .local) (hx : scope.names.lookup x = some .local)
    (h : wpAny (model prog w) A (eval iter env) (SrcI prog w A h₀ L m env elt tst x scope cl (FinEJ h₀ L m Q)) E s)
    (hs : ∀ x, foldedSetIterable iter env x = pure x := by intro _; rfl) :
    wpAny (model prog w) A (eval (.ListComp elt [⟨.Name x px, iter, [tst], 0⟩] scope pos) env) Q E s := by
  rw [eval_ListComp]
  refine wpAny_comprehension_free (use := none) rfl hs hclos hkind hnames (wpAny_mono h (fun xv s₁ h₁ => ?_) fun _ _ e => e)
  refine lsrcI hcell hkind hx h₁ fun base D C h tk g d m' ys news' fin F' N' o1 hn hC₀ hD₀ hCL hDL hCD offC hbs => ?_
  refine ⟨m', hn, fun h'' hs'' => fin D h'' tk d hbs (F'.change hs'' hCL hC₀) (fun p hp => ?_) o1⟩
  refine ⟨hs''.extBut _ _ ?_ (N' p hp).1, (N' p hp).2⟩
  rcases List.mem_cons.mp hp with rfl | hp
  · exact Ne.symm hCD
  · exact offC p hp
end
end
section
open PySem PySem.Calls PyProof.Rows PySem.W PySem.Spec PyProof.Rows.LCg
section
variable {prog : Program} {w : World} {A : Around} {E : Value → Shared → Prop} {s : Shared} {h₀ : Heap} {L : Addr} {m : Str → Option Value} {env : Env}
def EltX (prog : Program) (w : World) (A : Around) (h₀ : Heap) (L : Addr) (m : Str → Option Value) (env : Env) (elt : Expr) (xi xv : Str) (scope : Scope) (cl : List (Str × Addr)) (s : Shared) (its : Array Value) (news : List (Addr × Obj)) (Pz : Nat → Value → Prop) : Prop :=
  ∀ (i : Nat) (v : Value) (ti : Tok) C oC m₂ h tk (E' : Value → Shared → Prop), its[i]? = some v → NsObj oC m₂ → m₂ xi = some (.int (i : Int) ti) → m₂ xv = some v → Fr h₀ L h m → News h₀ L h ((C, oC) :: news) → (∀ p ∈ news, p.1 ≠ C) →
    wpAny (model prog w) A (eval elt (compEnvC scope cl C env)) (fun y s₂ => (∃ tk', s₂ = { s with heap := h, toks := tk' }) ∧ Pz i y) E' { s with heap := h, toks := tk }
theorem enum_self {e : Addr} {Q : Value → Shared → Prop} (hT : s.TypeIs (.ref e) "enumerate") (h : Q (.ref e) s) : wpAny (model prog w) A (pyIter (.ref e)) Q E s := by
  refine wpAny_pyIter_slot hT PySem.F.slot_enumerate_iter (wpAny_call_entry PySem.F.slot_enumerate_iter hT PySem.F.entry_enumerate_iter ?_ (PySem.F.args_enumerate_iter_1 _))
  exact wpAny_pure ⟨_, rfl, "enumerate", _, hT, PySem.F.slot_enumerate_next.lookup, h⟩
inductive CompX (h₀ : Heap) (L : Addr) (m : Str → Option Value) (s : Shared) (e it l C D : Addr) (its : Array Value) (news : List (Addr × Obj)) (Pz : Nat → Value → Prop) (k' : Nat) : Shared → Prop
  | mk (H : Heap) (tk i : Nat) (old : Value) (ys : List Value) (m' : Str → Option Value) (hi : i ≤ its.size) (hk : k' = its.size + 1 - i) (hyl : ys.length = i) (hys : ∀ j y, ys[j]? = some y → Pz j y) (hE : IsEnum H e it ((i : Nat) : Int) old) (hI : H.IsListIter it l i) (F : Fr h₀ L H m) (hn : H.Ns C m') (N : News h₀ L H ((D, lst ys) :: news)) : CompX h₀ L m s e it l C D its news Pz k' { s with heap := H, toks := tk }
theorem lblockX {elt iter : Expr} {xi xv : Str} {pi pv pt : Pos} {x1} {scope : Scope} {cl : List (Str × Addr)} {pos : Pos} {hp : Heap} {tk₀ : Nat} {e it l : Nat} {its : Array Value} {k : Nat} {oit : Obj} {news : List (Addr × Obj)} {Pz : Nat → Value → Prop} {RR : Value → Addr → Result → Shared → Prop}
    (hh : A.handled = none) (hoit : oit.cls = .type "list_iterator" ∧ oit.data = .fields #[.ref l, .int 0 0]) (hsz : its.size ≤ sizeLine)
    (hcell : ∀ y ∈ scope.names, y.2 ≠ .cell) (hkind : scope.kind = .function) (hxi : scope.names.lookup xi = some .local) (hxv : scope.names.lookup xv = some .local) (hxx : xi ≠ xv)
    (F : Fr h₀ L hp m) (N : News h₀ L hp ((e, enumObj it 0 .none) :: (it, oit) :: news)) (hm : (l, listOf its k) ∈ news) (hei : it < e) (offi : ∀ p ∈ news, p.1 < it)
    (R : EltX prog w A h₀ L m env elt xi xv scope cl s its news Pz)
    (hRR : ∀ D C h tk m' ys, ys.length = its.size → (∀ j y, ys[j]? = some y → Pz j y) → Fr h₀ L h m → News h₀ L h ((D, lst ys) :: news) → (∀ q ∈ news, q.1 < D) → h.Ns C m' → h₀.get? C = none → h₀.get? D = none → C ≠ L → D ≠ L → C ≠ D → (∀ p ∈ news, p.1 ≠ C) → RR (.ref D) C (.ok .next) { s with heap := h, toks := tk }) :
    wpAny (model prog w) A (newList []) (fun acc s₃ => wpAny (model prog w) A (newFunctionEnv scope env.globals cl [] env.qual none .none (some env)) (fun cenv s₄ =>
      codeAny (model prog w) A (.compStart (.ListComp elt [⟨.Tuple [.Name xi pi, .Name xv pv] x1 pt, iter, [], 0⟩] scope pos) 0 (.ref e) acc { cenv with scope := relabel scope env }) (RR acc cenv.locals) s₄) E s₃) E { s with heap := hp, toks := tk₀ } := by
  refine wpAny_newObj_type (wpAny_newFunctionEnv hcell (by intro y hy; simp at hy) (fun h₁ hns₁ hsb₁ => ?_) hkind)
  dsimp only at hns₁ hsb₁ ⊢
  generalize hH2 : hp.push { cls := .type "list", dict := none, data := .seq ([] : List Value).toArray } = H2 at hns₁ hsb₁ ⊢
  have hC : H2.objs.size = hp.objs.size + 1 := by rw [← hH2, Heap.size_push]
  have hDC : hp.objs.size ≠ H2.objs.size := by rw [hC]; exact Nat.ne_of_lt (Nat.lt_succ_self _)
  have below : ∀ b, b < hp.objs.size → b ≠ H2.objs.size ∧ b ≠ hp.objs.size := fun b hb => ⟨by rw [hC]; exact Nat.ne_of_lt (Nat.lt_succ_of_lt hb), Nat.ne_of_lt hb⟩
  have old : ∀ b o, hp.get? b = some o → h₁.get? b = some o := fun b o q => hsb₁.extBut b o (below b (Heap.lt_size q)).1 (Heap.get?_push_of_some _ (hH2 ▸ Heap.get?_push_of_some _ q))
  have hacc : h₁.get? hp.objs.size = some (lst []) := hsb₁.extBut _ _ hDC (Heap.get?_push_of_some _ (hH2 ▸ Heap.get?_push_size _ rfl))
  obtain ⟨hDL, hD₀⟩ := kdx_fresh F (Nat.le_refl hp.objs.size)
  obtain ⟨hCL, hC₀⟩ := kdx_fresh F (x := H2.objs.size) (by rw [hC]; exact Nat.le_succ _)
  have Ne' := N _ (.head _)
  have Ni := N _ (.tail _ (.head _))
  have Nn : News h₀ L hp news := fun p hq => N p (.tail _ (.tail _ hq))
  have eB := below e (Heap.lt_size Ne'.1)
  have iB := below it (Heap.lt_size Ni.1)
  have nB : ∀ p ∈ news, p.1 ≠ H2.objs.size ∧ p.1 ≠ hp.objs.size := fun p hq => below _ (Heap.lt_size (Nn p hq).1)
  have offe : ∀ p ∈ news, p.1 ≠ e := fun p hq => Nat.ne_of_lt (Nat.lt_trans (offi p hq) hei)
  have offit : ∀ p ∈ news, p.1 ≠ it := fun p hq => Nat.ne_of_lt (offi p hq)
  have hne : e ≠ it := Ne.symm (Nat.ne_of_lt hei)
  have loop : ∀ tk0, codeAny (model prog w) A (.compLoop (.ListComp elt [⟨.Tuple [.Name xi pi, .Name xv pv] x1 pt, iter, [], 0⟩] scope pos) 0 (.ref e) (.ref hp.objs.size) (compEnvC scope cl H2.objs.size env)) (RR (.ref hp.objs.size) H2.objs.size) { s with heap := h₁, toks := tk0 } := by
    intro tk0
    refine kcp_loop
      (CompX h₀ L m s e it l H2.objs.size hp.objs.size its news Pz) ?_ (its.size + 1)
      (CompX.mk h₁ _ 0 _ [] _ (Nat.zero_le _) rfl rfl (fun j y q => by simp at q) (old _ _ Ne'.1) ⟨_, old _ _ Ni.1, hoit.1, hoit.2⟩ (F.keeps old) hns₁ (fun p hq => ?_))
    · rintro k' s' ⟨H, tk, i, oldv, ys, m', hi, hkk, hyl, hys, he', hit', F', hn', N'⟩
      have Nn' : News h₀ L H news := fun p hq => N' p (.tail _ hq)
      have hl' : H.IsList l its := listOf_isList (Nn'.get hm)
      have zD := (N' _ (.head _)).1
      cases hv : its[i]? with
      | none =>
        have hsz' : i = its.size := Nat.le_antisymm hi (by simpa using hv)
        refine wpAny_pyNext_enum_end hh he' hit' hl' hv fun hE heE => ?_
        have kE : ∀ b o, b ≠ it → H.get? b = some o → hE.get? b = some o := fun b o hb q => heE b o hb q
        refine hRR _ _ hE _ m' ys (hyl.trans hsz') hys ⟨F'.ns.at' fun o q => kE _ o (Ne.symm Ni.2.1) q, fun b o q => kE b o (fun c => by rw [c, Ni.2.2] at q; cases q) (F'.keep b o q), F'.above⟩ (fun p hq => ?_) (fun q hq => Heap.lt_size (Nn q hq).1) (hn'.at' fun o q => kE _ o (Ne.symm iB.1) q) hC₀ hD₀ hCL hDL (Ne.symm hDC) (fun p hq => (nB p hq).1)
        rcases List.mem_cons.mp hq with rfl | hq
        · exact ⟨kE _ _ (Ne.symm iB.2) zD, hDL, hD₀⟩
        · exact ⟨kE _ _ (offit p hq) (Nn' p hq).1, (Nn' p hq).2⟩
      | some v =>
        have hlt : i < its.size := (Array.getElem?_eq_some_iff.mp hv).1
        have heH : e < H.objs.size := Heap.lt_size he'
        obtain ⟨oi, hoi, _⟩ := id hit'
        have hiH : it < H.objs.size := Heap.lt_size hoi
        have hCH : H2.objs.size < H.objs.size := hn'.lt
        refine wpAny_pyNext_enum_item he' hit' hl' hv hne fun h₂ heo hit₂ ht₂ hz₂ hk₂ => ?_
        refine wpAny_letOwnedTupleGo_enum heo fun h₃ he₃ hs₃ => ?_
        replace hs₃ : Heap.SameBut e h₂ h₃ := hs₃
        have ht₃ : h₃.IsTuple H.objs.size #[.int i tk, v] := ⟨_, (hs₃.2 _ (Nat.ne_of_gt heH)).trans ht₂, rfl, _, rfl⟩
        have hz₃ : h₃.objs.size = H.objs.size + 1 := hs₃.1.trans hz₂
        have up3 : ∀ b o, b ≠ e → b ≠ it → H.get? b = some o → h₃.get? b = some o := fun b o h1 h2 q => hs₃.extBut b o h1 (hk₂ b o h1 h2 q)
        have hn₃ : h₃.Ns H2.objs.size m' := hn'.at' fun o q => up3 _ o (Ne.symm eB.1) (Ne.symm iB.1) q
        refine kcp_assign hh ht₃ (lookup_relabel_local hxi) (lookup_relabel_local hxv) (by simp [compEnvC, relabel, hkind]) hn₃ fun h₅ tk₅ hn₅ hk₅ => ?_
        replace hk₅ : ∀ c o, c ≠ H2.objs.size → h₃.get? c = some o → h₅.get? c = some o := hk₅
        have up5 : ∀ b o, b ≠ e → b ≠ it → b ≠ H2.objs.size → H.get? b = some o → h₅.get? b = some o := fun b o h1 h2 h3 q => hk₅ b o h3 (up3 b o h1 h2 q)
        have F₅ : Fr h₀ L h₅ m := ⟨F'.ns.at' fun o q => up5 _ o (Ne.symm Ne'.2.1) (Ne.symm Ni.2.1) (Ne.symm hCL) q, fun b o q => up5 b o (fun c => by rw [c, Ne'.2.2] at q; cases q) (fun c => by rw [c, Ni.2.2] at q; cases q) (fun c => by rw [c, hC₀] at q; cases q) (F'.keep b o q), F'.above⟩
        have N₅ : News h₀ L h₅ news := fun p hq => ⟨up5 _ _ (offe p hq) (offit p hq) (nB p hq).1 (Nn' p hq).1, (Nn' p hq).2⟩
        have e₅ : IsEnum h₅ e it ((i : Int) + 1) v := hk₅ _ _ eB.1 he₃
        obtain ⟨oi₂, hoi₂, di₂⟩ := id hit₂
        have i₅ : h₅.get? it = some oi₂ := hk₅ _ _ iB.1 (hs₃.extBut _ _ (Ne.symm hne) hoi₂)
        have D₅ : h₅.get? hp.objs.size = some (lst ys) := up5 _ _ (Ne.symm eB.2) (Ne.symm iB.2) hDC zD
        obtain ⟨oC, heC, hoC⟩ := ns_obj hn₅
        refine wpAny_mono (R i v tk H2.objs.size oC _ h₅ _ _ hv hoC (by rw [if_neg hxx, if_pos rfl]) (by rw [if_pos rfl]) F₅ (fun p hq => ?_) (fun p hq => (nB p hq).1)) (fun y s₆ h₆ => ?_) fun _ _ z => z
        · rcases List.mem_cons.mp hq with rfl | hq
          · exact ⟨heC, hCL, hC₀⟩
          · exact N₅ p hq
        obtain ⟨⟨tk₆, rfl⟩, hPy⟩ := h₆
        refine append_at (hsz := by show ys.toArray.size ≤ sizeLine; rw [List.size_toArray, hyl]; exact Nat.le_trans hi hsz) D₅ fun h₇ hs₇ hD₇ => ?_
        refine ⟨its.size + 1 - (i + 1), dec_lt hlt hkk, h₇, tk₆, i + 1, v, ys ++ [y], _, hlt, rfl, by rw [List.length_append, List.length_singleton, hyl], ?_, ?_, ⟨oi₂, hs₇.extBut _ _ iB.2 i₅, di₂⟩, F₅.change hs₇ hDL hD₀, hn₅.sameBut hs₇ (Ne.symm hDC), fun p hq => ?_⟩
        · intro j y' hj
          by_cases hji : j < i
          · rw [List.getElem?_append_left (by lia)] at hj; exact hys j y' hj
          · have hj2 : j = i := by
              have := (List.getElem?_eq_some_iff.mp hj).1
              rw [List.length_append, List.length_singleton] at this; lia
            subst hj2
            rw [List.getElem?_append_right (by lia), hyl, Nat.sub_self] at hj
            obtain rfl := Option.some.inj hj
            exact hPy
        · rw [cast1]
          exact hs₇.extBut _ _ eB.2 e₅
        · rcases List.mem_cons.mp hq with rfl | hq
          · exact ⟨hD₇.trans (congrArg some (lst_snoc ys y)), hDL, hD₀⟩
          · exact ⟨hs₇.extBut _ _ (nB p hq).2 (N₅ p hq).1, (N₅ p hq).2⟩
    · rcases List.mem_cons.mp hq with rfl | hq
      · exact ⟨hacc, hDL, hD₀⟩
      · exact ⟨old _ _ (Nn p hq).1, (Nn p hq).2⟩
  exact codeAny_compStart_list (loop _) (enum_self ⟨_, old _ _ Ne'.1, rfl⟩ (loop _))
inductive XSrc (prog : Program) (w : World) (A : Around) (h₀ : Heap) (L : Addr) (m : Str → Option Value) (env : Env) (elt : Expr) (xi xv : Str) (scope : Scope) (cl : List (Str × Addr)) (Fin : List (Addr × Obj) → Array Value → (Nat → Value → Prop) → Shared → Prop) : Value → Shared → Prop
  | mk {s₁ : Shared} (e it l : Nat) (its : Array Value) (k : Nat) (oit : Obj) (news : List (Addr × Obj)) (Pz : Nat → Value → Prop) (hh : A.handled = none) (hoit : oit.cls = .type "list_iterator" ∧ oit.data = .fields #[.ref l, .int 0 0]) (hsz : its.size ≤ sizeLine)
      (F : Fr h₀ L s₁.heap m) (N : News h₀ L s₁.heap ((e, enumObj it 0 .none) :: (it, oit) :: news)) (hm : (l, listOf its k) ∈ news) (hei : it < e) (offi : ∀ p ∈ news, p.1 < it) (R : EltX prog w A h₀ L m env elt xi xv scope cl s₁ its news Pz) (fin : Fin news its Pz s₁) : XSrc prog w A h₀ L m env elt xi xv scope cl Fin (.ref e) s₁
def XFinE (h₀ : Heap) (L : Addr) (m : Str → Option Value) (Q : Value → Shared → Prop) (news : List (Addr × Obj)) (its : Array Value) (Pz : Nat → Value → Prop) (s₁ : Shared) : Prop :=
  ∀ D h' tk ys, ys.length = its.size → (∀ j y, ys[j]? = some y → Pz j y) → Fr h₀ L h' m → News h₀ L h' ((D, lst ys) :: news) → (∀ q ∈ news, q.1 < D) → Q (.ref D) { s₁ with heap := h', toks := tk }
def XFinA (h₀ : Heap) (L : Addr) (m : Str → Option Value) (y : Str) (Q : Flow → Shared → Prop) (news : List (Addr × Obj)) (its : Array Value) (Pz : Nat → Value → Prop) (s₁ : Shared) : Prop :=
  ∀ D h' tk ys, ys.length = its.size → (∀ j y, ys[j]? = some y → Pz j y) → Fr h₀ L h' (fun z => if z = y then some (.ref D) else m z) → News h₀ L h' ((D, lst ys) :: news) → (∀ q ∈ news, q.1 < D) → Q .next { s₁ with heap := h', toks := tk }
theorem ListComp_X {elt iter : Expr} {xi xv : Str} {pi pv pt : Pos} {x1} {scope : Scope} {cl : List (Str × Addr)} {pos : Pos} {Q : Value → Shared → Prop} (_F₀ : Fr h₀ L s.heap m)
    (hclos : closureFor scope env = pure cl) (hcell : ∀ z ∈ scope.names, z.2 ≠ .cell) (hkind : scope.kind = .function)
    (hnames : ∀ z ∈ scope.names, z.2 = .local → scope.names.lookup z.1 = some .local) (hxi : scope.names.lookup xi = some .local) (hxv : scope.names.lookup xv = some .local) (hxx : xi ≠ xv)
    (h : wpAny (model prog w) A (eval iter env) (XSrc prog w A h₀ L m env elt xi xv scope cl (XFinE h₀ L m Q)) E s)
    (hs : ∀ x, foldedSetIterable iter env x = pure x := by intro _; rfl) :
    wpAny (model prog w) A (eval (.ListComp elt [⟨.Tuple [.Name xi pi, .Name xv pv] x1 pt, iter, [], 0⟩] scope pos) env) Q E s := by
  rw [eval_ListComp]
  refine wpAny_comprehension_free (use := none) rfl hs hclos hkind hnames (wpAny_mono h (fun xv' s₁ h₁ => ?_) fun _ _ e => e)
  obtain ⟨e, it, l, its, k, oit, news, Pz, hh, hoit, hsz, F, N, hm, hei, offi, R, fin⟩ := h₁
  refine enum_self ⟨_, (N _ (.head _)).1, rfl⟩ ?_
  refine lblockX (s := s₁) (hp := s₁.heap) (tk₀ := s₁.toks) hh hoit hsz hcell hkind hxi hxv hxx F N hm hei offi R fun D C h' tk m' ys a1 a2 F' N' lt hn hC₀ hD₀ hCL hDL hCD offC => ?_
  refine ⟨m', hn, fun h'' hs'' => fin D h'' tk ys a1 a2 (F'.change hs'' hCL hC₀) (fun p hp => ?_) lt⟩
  refine ⟨hs''.extBut _ _ ?_ (N' p hp).1, (N' p hp).2⟩
  rcases List.mem_cons.mp hp with rfl | hp
  · exact Ne.symm hCD
  · exact offC p hp
theorem Assign_plain {value : Expr} {y : Str} {py spos : Pos} {Q : Flow → Shared → Prop} (hs : swapsWith value (some (.Name y py)) spos.line env = pure false)
    (h : wpAny (model prog w) A (eval value env) (fun v s₁ => wpAny (model prog w) A (storeName env y v) (fun _ s₂ => Q .next s₂) E s₁) E s) : wpAny (model prog w) A (exec (.Assign [.Name y py] value spos) env) Q E s := by
  have e : exec (.Assign [.Name y py] value spos) env = (do
      standAt spos
      if ← swapsWith value (some (.Name y py)) spos.line env then
        evalThenUse value env (assign (.Name y py) env)
        return .next
      let v ← eval value env
      assign (.Name y py) env v
      pure .next) := rfl
  rw [e, hs]
  refine wpAny_bind (wpAny_standAt ?_)
  refine wpAny_bind (wpAny_pure ?_)
  rw [if_neg Bool.false_ne_true]
  exact wpAny_bind (wpAny_mono h (fun v s₁ h₁ => wpAny_bind (wpAny_mono (wpAny_assign_Name h₁) (fun _ s₂ h₂ => wpAny_pure h₂) fun _ _ z => z)) fun _ _ z => z)
theorem storeN_cell {y : Str} {v : Value} {Q : Unit → Shared → Prop} {cc : Addr} {oc : Obj} {v₀ : Option Value} {pre post : List (Addr × Obj)} (F' : Fr h₀ L s.heap m) (N' : News h₀ L s.heap (pre ++ (cc, oc) :: post))
    (hk : env.scope.kind = .function) (hy : env.kindOf y = some .cell) (hc : env.cells.lookup y = some cc) (hoc : oc.data = .cell v₀) (o1 : ∀ p ∈ pre, p.1 ≠ cc) (o2 : ∀ p ∈ post, p.1 ≠ cc)
    (fin : ∀ h₂ oc', oc'.data = .cell (some v) → Fr h₀ L h₂ m → News h₀ L h₂ (pre ++ (cc, oc') :: post) → Q () { s with heap := h₂ }) :
    wpAny (model prog w) A (storeName env y v) Q E s := by
  have z := N' _ (List.mem_append_right _ (.head _))
  refine wpAny_storeName_cell hk hy hc ⟨_, z.1, hoc⟩ fun h₂ hce₂ hs₂ => ?_
  obtain ⟨oc', heo, hdo⟩ := hce₂
  refine fin h₂ oc' hdo (F'.change hs₂ z.2.1 z.2.2) (fun p hp => ?_)
  rcases List.mem_append.mp hp with hp | hp
  · have q := N' p (List.mem_append_left _ hp)
    exact ⟨hs₂.extBut _ _ (o1 p hp) q.1, q.2⟩
  · rcases List.mem_cons.mp hp with rfl | hp
    · exact ⟨heo, z.2⟩
    · have q := N' p (List.mem_append_right _ (.tail _ hp))
      exact ⟨hs₂.extBut _ _ (o2 p hp) q.1, q.2⟩
theorem store_local {y : Str} {py : Pos} {s₁ : Shared} {Q : Flow → Shared → Prop} {D C : Addr} {h' : Heap} {tk : Nat} {m' : Str → Option Value} {ys : List Value} {news : List (Addr × Obj)} (hLe : env.locals = L)
    (hy : env.kindOf y = some .local) (hp : (env.scope.kind == .class || (env.scope.kind == .module && env.locals != env.globals)) = false)
    (F' : Fr h₀ L h' m) (N' : News h₀ L h' ((D, lst ys) :: news)) (hn : h'.Ns C m') (hC₀ : h₀.get? C = none) (hCL : C ≠ L) (hCD : C ≠ D) (offC : ∀ p ∈ news, p.1 ≠ C)
    (fin : ∀ h₂ tk', Fr h₀ L h₂ (fun z => if z = y then some (.ref D) else m z) → News h₀ L h₂ ((D, lst ys) :: news) → Q .next { s₁ with heap := h₂, toks := tk' }) :
    wpAny (model prog w) A (assign (.Name y py) env (.ref D)) (fun _ s'' => ∃ m, s''.heap.Ns C m ∧ ∀ h₂, Heap.SameBut C s''.heap h₂ → Q .next { s'' with heap := h₂ }) E { s₁ with heap := h', toks := tk } := by
  subst hLe
  refine wpAny_assign_Name (wpAny_storeName_local hy F'.ns (fun h₂ hn₂ hs₂ => ?_) hp)
  have hL₀ : h₀.get? env.locals = none := Heap.get?_none_of_le F'.above
  have F₂ : Fr h₀ env.locals h₂ (fun z => if z = y then some (.ref D) else m z) := ⟨hn₂, fun b o e => hs₂.extBut b o (fun q => by rw [q, hL₀] at e; cases e) (F'.keep b o e), F'.above⟩
  refine ⟨m', hn.sameBut hs₂ hCL, fun h'' hs'' => fin h'' _ (F₂.change hs'' hCL hC₀) (fun p hp => ?_)⟩
  have z : h₂.get? p.1 = some p.2 := hs₂.extBut _ _ (N' p hp).2.1 (N' p hp).1
  refine ⟨hs''.extBut _ _ ?_ z, (N' p hp).2⟩
  rcases List.mem_cons.mp hp with rfl | hp
  · exact Ne.symm hCD
  · exact offC p hp
theorem Assign_XL {elt iter : Expr} {xi xv y : Str} {pi pv pt py : Pos} {x1} {scope : Scope} {cl : List (Str × Addr)} {pos spos : Pos} {Q : Flow → Shared → Prop} (_F₀ : Fr h₀ L s.heap m) (hLe : env.locals = L)
    (hsw : swapsWith (.ListComp elt [⟨.Tuple [.Name xi pi, .Name xv pv] x1 pt, iter, [], 0⟩] scope pos) (some (.Name y py)) spos.line env = pure true)
    (hclos : closureFor scope env = pure cl) (hcell : ∀ z ∈ scope.names, z.2 ≠ .cell) (hkind : scope.kind = .function)
    (hnames : ∀ z ∈ scope.names, z.2 = .local → scope.names.lookup z.1 = some .local) (hxi : scope.names.lookup xi = some .local) (hxv : scope.names.lookup xv = some .local) (hxx : xi ≠ xv)
    (hy : env.kindOf y = some .local) (hp : (env.scope.kind == .class || (env.scope.kind == .module && env.locals != env.globals)) = false)
    (h : wpAny (model prog w) A (eval iter env) (XSrc prog w A h₀ L m env elt xi xv scope cl (XFinA h₀ L m y Q)) E s)
    (hs : ∀ x, foldedSetIterable iter env x = pure x := by intro _; rfl) :
    wpAny (model prog w) A (exec (.Assign [.Name y py] (.ListComp elt [⟨.Tuple [.Name xi pi, .Name xv pv] x1 pt, iter, [], 0⟩] scope pos) spos) env) Q E s := by
  rw [exec_Assign_Name_used _ _ _ _ hsw]
  refine wpAny_bind (wpAny_standAt (wpAny_bind ?_))
  show wpAny _ A (do let _ ← comprehension (.ListComp elt [⟨.Tuple [.Name xi pi, .Name xv pv] x1 pt, iter, [], 0⟩] scope pos) scope env _ (newList []) false (eval iter env) (some (assign (.Name y py) env))) _ _ s
  refine wpAny_bind (wpAny_mono (wpAny_comprehension_free (use := some (assign (.Name y py) env)) (Q := fun _ s' => Q .next s') rfl hs hclos hkind hnames
    (wpAny_mono h (fun xv' s₁ h₁ => ?_) fun _ _ e => e)) (fun _ s' hq => wpAny_pure (wpAny_pure hq)) fun _ _ e => e)
  obtain ⟨e, it, l, its, k, oit, news, Pz, hh, hoit, hsz, F, N, hm, hei, offi, R, fin⟩ := h₁
  refine enum_self ⟨_, (N _ (.head _)).1, rfl⟩ ?_
  exact lblockX (s := s₁) (hp := s₁.heap) (tk₀ := s₁.toks) hh hoit hsz hcell hkind hxi hxv hxx F N hm hei offi R fun D C h' tk m' ys b1 b2 b3 b4 b5 b6 b7 b8 b9 b10 b11 b12 => store_local hLe hy hp b3 b4 b6 b7 b9 b11 b12 fun h₂ tk' F₂ N₂ => fin D h₂ tk' ys b1 b2 F₂ N₂ b5
end
end
section
open PySem PySem.Calls PyProof.Rows PySem.W PySem.Spec
section
variable {prog : Program} {w : World} {A : Around} {E : Value → Shared → Prop} {s : Shared} {h₀ : Heap} {L : Addr} {m : Str → Option Value} {news : List (Addr × Obj)}
theorem inplace_seq {M : Model} {a b : Value} {T id : String} {Q : Value → Shared → Prop} (ha : s.TypeIs a T) (hb : s.TypeIs b T)
    (hf : typeLookup (.type T) (dunderI "add") = pure (some (.builtin id))) (hs : isSeqSlot (some (.builtin id)) = true) (hfill : fillsNumberSlot (.type T) "add" = pure false)
    (hc : wpAny M A (call (.builtin id) [a, b]) Q E s) : wpAny M A (inplaceOp .Add a b) Q E s := by
  unfold inplaceOp
  refine wpAny_holding ?_
  have hfi : fillsInplaceSlot (.type T) "add" (Operator.Add == .Add) = pure false := by
    unfold fillsInplaceSlot
    show (typeLookup (.type T) (dunderI "add") >>= fun fi => pure (fi.isSome && !isSeqSlot fi)) = pure false
    rw [hf]
    show (pure (true && !isSeqSlot (some (.builtin id))) : Sem Bool) = pure false
    rw [hs]; rfl
  have hsi : seqSlot? (.type T) (dunderI "add") = pure (some (.builtin id)) := PySem.seqSlot_of hf hs
  refine wpAny_bind (wpAny_typeOf ha (wpAny_bind (wpAny_of_eq hfi ?_)))
  show wpAny M A (if false = true then _ else _) Q E s
  rw [if_neg Bool.false_ne_true]
  refine wpAny_bind (wpAny_binaryOp1_none (nm := "add") ha hb hfill ?_)
  refine wpAny_bind (wpAny_of_eq hsi ?_)
  exact wpAny_bind (wpAny_rule hc)
theorem iadd_led {a b : Nat} {vs ws : List Value} {ka kb : Nat} {Q : Value → Shared → Prop} {news' : List (Addr × Obj)} (F : Fr h₀ L s.heap m) (N : News h₀ L s.heap news) (hb : (b, listOf ws.toArray kb) ∈ news)
    (U : Upd a (listOf vs.toArray ka) (listOf (vs ++ ws).toArray (ka + 1)) news news') (hne : ws ≠ []) (hsz : vs.length + ws.length ≤ 100000)
    (h : ∀ h', Fr h₀ L h' m → News h₀ L h' news' → Q (.ref a) { s with heap := h' }) : wpAny (model prog w) A (inplaceOp .Add (.ref a) (.ref b)) Q E s := by
  obtain ⟨pre, post, rfl, rfl, p1, p2⟩ := U.split
  have z := N (a, listOf vs.toArray ka) (List.mem_append.mpr (.inr (.head _)))
  have zb := N _ hb
  have hs1 : vs.toArray.size ≤ sizeLine := by rw [List.size_toArray, sizeLine_eq]; lia
  have hs2 : vs.toArray.size + ws.toArray.size ≤ sizeLine + 1 := by rw [List.size_toArray, List.size_toArray, sizeLine_eq]; lia
  have hs0 : ¬(!vs.toArray.isEmpty && Builtin.List.listTooLong (vs.toArray.size + ws.toArray.size)) = true := by
    have h9 : Builtin.List.listTooLong (vs.toArray.size + ws.toArray.size) = false := by
      unfold Builtin.List.listTooLong
      rw [List.size_toArray, List.size_toArray]
      exact decide_eq_false (by rw [sizeLine_eq]; lia)
    rw [h9]; simp
  refine inplace_seq ⟨_, z.1, rfl⟩ ⟨_, zb.1, rfl⟩ PySem.F.slot_list_iadd.lookup (by decide +kernel) noFill_list_add ?_
  refine call_meets PySem.F.slot_list_iadd ⟨_, z.1, rfl⟩ PySem.F.entry_list_iadd (PySem.F.args_list_iadd_2 _ _) (AutoSeq1.list___iadd___list_list_0 a vs.toArray ka b ws.toArray kb hs0 hs1 hs2) ⟨z.1, zb.1, ?_⟩
  have hs := Heap.SameBut.update a (Obj.mapSeq fun x => x ++ ws.toArray) (h := s.heap)
  refine h _ (F.change hs z.2.1 z.2.2) (news_set N p1 p2 hs ?_)
  have e : vs.toArray ++ ws.toArray = (vs ++ ws).toArray := by simp
  have hl : 0 < ws.length := List.length_pos_iff.mpr hne
  have e2 : Obj.mapSeq (fun x => x ++ ws.toArray) (listOf vs.toArray ka) = listOf (vs ++ ws).toArray (ka + 1) := by
    rw [mapSeq_list (by (try dsimp only); rw [e, List.size_toArray, List.size_toArray, List.length_append]; lia), e]
  have g := Heap.get?_update_self (Obj.mapSeq fun x => x ++ ws.toArray) z.1 (by rw [e2]; rfl)
  rw [e2] at g
  exact g
end
end
section
open PySem PySem.Calls PyProof.Rows PySem.W PySem.Spec
namespace F2
theorem typeOf_append : typeOf (.builtin "list.append") = pure (.type "method_descriptor") := by kernel_rfl
theorem slot_md_get : Slot "method_descriptor" "__get__" "method_descriptor.__get__" :=
  .of (owner := "method_descriptor") (n := "__get__") (by rw [typeLookup_type, builtinLookup_eq_fast]; kernel_rfl) (by decide +kernel) (by decide +kernel) (by decide +kernel)
    (by first | exact .inl (by decide +kernel) | exact .inr (by decide +kernel)) (by rw [isSubtype_type]; kernel_rfl)
theorem no_md_set : typeLookup (.type "method_descriptor") "__set__" = pure none := by rw [typeLookup_type, builtinLookup_eq_fast]; kernel_rfl
theorem no_md_del : typeLookup (.type "method_descriptor") "__delete__" = pure none := by rw [typeLookup_type, builtinLookup_eq_fast]; kernel_rfl
theorem entry_md_get : entryFor table "method_descriptor.__get__" = some Builtin.«method_descriptor.__get__» := entryFor_of_tree (by kernel_rfl)
theorem args_md_get (a b c : Value) : argsOk "method_descriptor.__get__" ⟨[a, b, c], []⟩ := by unfold argsOk; kernel_rfl
theorem lk_list_append : typeLookup (.type "list") "append" = pure (some (.builtin "list.append")) := by rw [typeLookup_type, builtinLookup_eq_fast]; kernel_rfl
theorem owner_append : (".".intercalate ("list.append".cutAt '.').dropLast) = "list" := by
  have e0 : "list.append".cutAt '.' = ["list", "append"] := by first | rfl | decide +kernel
  rw [e0]; decide +kernel
theorem sub_list_append_owner : isSubtype (.type "list") (.type (".".intercalate ("list.append".cutAt '.').dropLast)) = pure true := by
  rw [owner_append, isSubtype_type]; kernel_rfl
theorem told : Manifest.toldItsClass.contains "list.append" = false := by decide +kernel
end F2
section
variable {prog : Program} {w : World} {A : Around} {E : Value → Shared → Prop} {h : Heap} {g : Array GenState} {d : Drawn} {t : Nat} {os : OsState} {a : Addr} {its : Array Value} {n : Nat}
set_option maxHeartbeats 1000000 in
theorem append_get {R : Result → Shared → Prop} (hx : h.get? a = some (listOf its n)) (hq : R (.ok (.ret (.ref h.objs.size))) ⟨h.push (bfmObj "list.append" (.ref a)), g, d, t, os⟩) :
    codeAny (model prog w) A (.call (.builtin "method_descriptor.__get__") ⟨[.builtin "list.append", .ref a, .type "list"], []⟩) R ⟨h, g, d, t, os⟩ := by
  have hT : (⟨h, g, d, t, os⟩ : Shared).TypeIs (.ref a) "list" := ⟨_, hx, rfl⟩
  have hT5 : (⟨h, g, d, t, os⟩ : Shared).TypeIs (.builtin "list.append") "method_descriptor" := F2.typeOf_append
  have f8 := F2.sub_list_append_owner
  have f9 := F2.told
  refine codeAny_call_builtin F2.slot_md_get.plain F2.entry_md_get (F2.slot_md_get.check _ _ _ _ _ _ _ _ hT5 (F2.args_md_get _ _ _) ?_)
  iterate 20 (any_goals (first | assumption | wp_step))
  refine wpAny_pure ?_
  refine wpAny_bind ?_
  refine wpAny_newObj_type ?_
  exact wpAny_pure hq
theorem append_entry {tk : Tok} {Q : Fin → Shared → Prop} (hx : h.get? a = some (listOf its n)) (hq : Q (.done (.ret (.ref h.objs.size))) ⟨h.push (bfmObj "list.append" (.ref a)), g, d, t, os⟩) :
    wpAny (model prog w) A (Builtin.«object.__getattribute__» ⟨[.ref a, .str "append" tk], []⟩) Q E ⟨h, g, d, t, os⟩ := by
  have hT : (⟨h, g, d, t, os⟩ : Shared).TypeIs (.ref a) "list" := ⟨_, hx, rfl⟩
  have hT5 : (⟨h, g, d, t, os⟩ : Shared).TypeIs (.builtin "list.append") "method_descriptor" := F2.typeOf_append
  have f4 := F2.lk_list_append
  have f5 := F2.typeOf_append
  have f6 := F2.slot_md_get.lookup
  have f7 := F2.no_md_set
  have f8 := F2.no_md_del
  iterate 37 (any_goals (first | assumption | wp_step))
  refine wpAny_loadPart hx ?_
  show wpAny _ _ (instanceDict a false) _ _ _
  unfold instanceDict
  refine wpAny_bind (wpAny_loadPart hx ?_)
  show wpAny _ _ (pure none) _ _ _
  refine wpAny_pure ?_
  repeat (any_goals (first | assumption | wp_step))
  refine append_get hx ?_
  repeat (any_goals (first | assumption | wp_step))
theorem append_call {tk : Tok} {R : Result → Shared → Prop} (hx : h.get? a = some (listOf its n)) (hq : R (.ok (.ret (.ref h.objs.size))) ⟨h.push (bfmObj "list.append" (.ref a)), g, d, t, os⟩) :
    codeAny (model prog w) A (.call (.builtin "list.__getattribute__") ⟨[.ref a, .str "append" tk], []⟩) R ⟨h, g, d, t, os⟩ :=
  codeAny_call_builtin F.slot_list_getattribute.plain F.entry_list_ga (F.slot_list_getattribute.check _ _ _ _ _ _ _ _ (show (⟨h, g, d, t, os⟩ : Shared).TypeIs (.ref a) "list" from ⟨_, hx, rfl⟩) (F.args_list_getattribute_2 _ _) (append_entry hx hq))
theorem append_by {tk : Tok} {Q : Value → Shared → Prop} (hx : h.get? a = some (listOf its n)) (hq : Q (.ref h.objs.size) ⟨h.push (bfmObj "list.append" (.ref a)), g, d, t, os⟩) : wpAny (model prog w) A (getAttrBy (.ref a) (.str "append" tk) true true) Q E ⟨h, g, d, t, os⟩ := by
  have hT : (⟨h, g, d, t, os⟩ : Shared).TypeIs (.ref a) "list" := ⟨_, hx, rfl⟩
  have f2 := F.slot_list_getattribute.lookup
  have f3 := F.slot_list_getattribute.bind (.ref a)
  repeat (any_goals (first | assumption | wp_step))
  refine append_call hx ?_
  repeat (any_goals (first | assumption | wp_step))
end
section
variable {prog : Program} {w : World} {A : Around} {E : Value → Shared → Prop} {s : Shared} {h₀ : Heap} {L : Addr} {m : Str → Option Value} {news : List (Addr × Obj)}
theorem append_attr {l : Addr} {its : Array Value} {n : Nat} {Q : Value → Shared → Prop} (F : Fr h₀ L s.heap m) (N : News h₀ L s.heap news) (hm : (l, listOf its n) ∈ news)
    (k : ∀ q h' tk', Fr h₀ L h' m → News h₀ L h' ((q, bfmObj "list.append" (.ref l)) :: news) → (∀ p ∈ news, p.1 < q) → Q (.ref q) { s with heap := h', toks := tk' }) :
    wpAny (model prog w) A (getAttr (.ref l) (Str.ofString "append") true) Q E s := by
  unfold getAttr
  refine wpAny_bind (wpAny_mkText ?_)
  obtain ⟨h, g, d, t, os⟩ := s
  exact append_by (N.get hm) (k _ _ _ (F.push _) (N.push F _) fun p hp => Heap.lt_size (N p hp).1)
end
end
section
open PySem
def defParts : List Stmt → List Stmt × Scope
  | [.FunctionDef _ _ body _ _ _ scope _ _ _] => (body, scope)
  | _ :: r => defParts r
  | [] => ([], { kind := .module, names := [], isGenerator := false, isCoroutine := false, more := [] })
def lawScope : Scope := (defParts PySem.Challenge.pw_pg0301_03.main.body).2
def lawFrom (k : Nat) : List Stmt := (defParts PySem.Challenge.pw_pg0301_03.main.body).1.drop k
end
section
open PySem PySem.W PyProof.Rows PySem.Calls PySem.Spec
theorem news_midL {h₀ h : Heap} {L : Addr} (l1 : List (Addr × Obj)) {q : Addr × Obj} {l2 : List (Addr × Obj)} (N : News h₀ L h (l1 ++ q :: l2)) : News h₀ L h (q :: (l1 ++ l2)) := List.forall_mem_cons.2 ⟨N _ (List.mem_append_right _ (.head _)), fun p hp => N p (by
  rcases List.mem_append.mp hp with h | h
  · exact List.mem_append_left _ h
  · exact List.mem_append_right _ (.tail _ h))⟩
theorem app_sub {α : Type} {l1 l2 l3 : List α} (h : ∀ p ∈ l2, p ∈ l3) : ∀ p ∈ l1 ++ l2, p ∈ l1 ++ l3 := fun p hp => by
  rcases List.mem_append.mp hp with g | g
  · exact List.mem_append_left _ g
  · exact List.mem_append_right _ (h p g)
theorem all_app {α : Type} {P : α → Prop} {l1 l2 : List α} (h : ∀ p ∈ l1, P p) (g : ∀ p ∈ l2, P p) : ∀ p ∈ l1 ++ l2, P p := List.forall_mem_append.2 ⟨h, g⟩
theorem all_cons {α : Type} {P : α → Prop} {q : α} {l : List α} (h : P q) (g : ∀ p ∈ l, P p) : ∀ p ∈ q :: l, P p := List.forall_mem_cons.2 ⟨h, g⟩
theorem off_all {I C D : Addr} {l : List (Addr × Obj)} (h1 : ∀ p ∈ l, @Ne Nat p.1 I) (h2 : ∀ p ∈ l, @Ne Nat p.1 C) (h3 : ∀ p ∈ l, @Ne Nat p.1 D) : ∀ p ∈ l, @Ne Nat p.1 I ∧ @Ne Nat p.1 C ∧ @Ne Nat p.1 D := fun p hp => ⟨h1 p hp, h2 p hp, h3 p hp⟩
end
section
open PySem PySem.W PyProof.Rows PySem.Calls PySem.Spec
local macro_rules | `(tactic| k_room) => `(tactic| ktr_room)
local macro_rules | `(tactic| k_mem) => `(tactic| (first | with_reducible_and_instances assumption | (repeat (first | with_reducible_and_instances exact List.Mem.head _ | with_reducible_and_instances assumption | apply List.Mem.tail)); done))
local macro_rules | `(tactic| k_lt $_h) => `(tactic| skip)
local macro_rules | `(tactic| walk_at "L1") => `(tactic| (first | with_reducible assumption | (refine lt_in (by with_reducible_and_instances assumption) ?_; (repeat (first | with_reducible exact InA.head | with_reducible refine InA.tail ?_)); done) | (refine lt_wo (by with_reducible assumption) ?_; (repeat (first | (with_reducible refine Bef.head ?_; (repeat (first | with_reducible exact Has.head | with_reducible refine Has.tail ?_)); done) | with_reducible refine Bef.tail ?_)); done)))
local macro_rules | `(tactic| walk_at "LT") => `(tactic| (first | walk_at "L1" | exact Nat.lt_succ_self _ | (refine Nat.lt_succ_of_lt ?_; walk_at "L1") | (refine Nat.lt_succ_of_lt (Nat.lt_succ_of_lt ?_); walk_at "L1")))
local macro_rules | `(tactic| k_ne) => `(tactic| (refine neN ?_; (try dsimp only); first | with_reducible assumption | (refine Nat.ne_of_lt ?_; walk_at "LT") | (refine Nat.ne_of_gt ?_; walk_at "LT") | omega))
local macro_rules | `(tactic| k_all) => `(tactic| first | with_reducible assumption | exact List.forall_mem_nil _ | (with_reducible refine' ne_cons ?a ?b; (case a => k_ne); (case b => k_all)) | (refine ne_suf (by with_reducible_and_instances assumption) ?_; (repeat (first | with_reducible exact Suf.here | with_reducible refine Suf.tail ?_)); done))
local macro_rules | `(tactic| k_enter) => `(tactic| (refine' code_def ?k1 ?k2 ?k3 ?k4 ?k5 ?kA ?kF ?kK ?k6 ?k7 ?k8 ?k9 ?kB ?_ ?c2 ?c3 ?c4 ?c5; (case kA => exact rfl); (case kF => exact rfl); (case kK => first | exact rfl | assumption); (case k1 => k_asm); (case k2 => k_asm); (case k3 => k_asm); (case k4 => k_asm); (case k5 => k_asm); (case k6 => k_is); (case k7 => k_is); (case k8 => ktr_room); (case k9 => first | exact BindsTo.of_eq rfl | exact binds_K (by k_in) rfl (by k_is) rfl rfl rfl | (refine' kp_binds ?kx ?ke; (case kx => k_in); (case ke => exact fun _ => rfl))); (case c5 => decide); (case kB => exact locs rfl); (case c2 => exact rfl); (case c3 => exact rfl); (case c4 => exact rfl); k_whole; intro g' L' h' FG' F' N' B' X' T'; (try dsimp only); (try k_fold)))
local macro_rules | `(tactic| walk_at "callWith ref") => `(tactic| (k_here; (with_reducible show wpAny _ _ (callWith _ (Value.ref _) [] (backTo _ (starEach (_ :: _) _)) []) _ _ _); k_dflt (first | (refine' callWith_bfmN ?n1 ?n2 ?_; (case n1 => k_asm); (case n2 => k_mem); k_whole) | (refine' callWith_bfmK ?n0 ?n1 ?_; (case n0 => k_asm); (case n1 => k_is); k_whole))))
local macro_rules | `(tactic| walk_at "And") => `(tactic| ((with_reducible show IsBfm _ _ _ _ ∧ _); k_dflt (first | (refine' And.intro (bfm_of ?n1 ?n2) ?_; (case n1 => k_asm); (case n2 => k_mem)) | (refine' And.intro (bfm_ofK ?n1 ?n2) ?_; (case n1 => k_in); (case n2 => k_is))); (try dsimp only [List.nil_append, List.cons_append])))
local macro_rules | `(tactic| walk_at "delItem ref ref") => `(tactic| (k_here; (with_reducible show wpAny _ _ (delItem (Value.ref _) (Value.ref _)) _ _ _); k_dflt (refine' delAllP ?d1 ?d2 ?d3 ?_ ?d6 ?d7; (case d1 => k_asm); (case d2 => k_asm); (case d3 => k_upd); (case d6 => (simp [strValues, sizeLine])); (case d7 => (simp [strValues]))); intro h' F' N'))
local macro_rules | `(tactic| walk_at "call ref") => `(tactic| (k_here; (with_reducible show wpAny _ _ (call (Value.ref _) [Value.str _ _]) _ _ _); k_dflt (refine' bfm_append ?b1 ?b2 (bfm_of ?b3 ?b4) ?b5 ?_ ?b6; (case b1 => k_asm); (case b2 => k_asm); (case b3 => k_asm); (case b4 => k_mem); (case b5 => k_upd); (case b6 => (simp [strValues, sizeLine]; try walk_at "AR"))); intro h' F' N'))
local macro_rules | `(tactic| k_upd) => `(tactic| first | exact TailF.here | (refine' TailF.cons ?tb; (case tb => k_upd)))
local macro_rules | `(tactic| k_updF) => `(tactic| first | (refine' UpdT.head ?ua ?ut; (case ua => k_all); (case ut => k_upd)) | (refine' UpdT.tail ?ua ?ub; (case ua => k_ne); (case ub => k_updF)))
local macro_rules | `(tactic| walk_at "truthy ref") => `(tactic| (k_here; k_dflt (first | (refine' truthyD0 ?N ?m ?d ?z ?_; (case N => k_asm); (case m => k_mem); (case d => with_reducible assumption); (case z => with_reducible assumption)) | (refine' truthyT ?N ?m ?T ?_; (case N => k_asm); (case m => k_mem); (case T => first | with_reducible exact TruthL.e0 | with_reducible exact TruthL.s0 | with_reducible exact TruthL.s1)))))
local macro_rules | `(tactic| walk_at "subscriptTail") => `(tactic| (k_here; (with_reducible show wpAny _ _ (subscriptTail _ _ (Value.ref _) (Value.int (-1) _)) _ _ _); k_dflt (refine' itemLast ?N ?m ?z ?_ ?hs; (case N => k_asm); (case m => k_mem); (case z => assumption); (case hs => with_unfolding_all rfl))))
local macro_rules | `(tactic| walk_at "call builtin:list.append") => `(tactic| (k_here; (with_reducible show wpAny _ _ (call (Value.builtin "list.append") [Value.ref _, _]) _ _ _); k_dflt (refine' appL ?F ?N ?U ?z ?_; (case F => k_asm); (case N => k_asm); (case U => k_upd); (case z => (simp only [List.length_append, List.length_cons, List.length_nil, strValues, List.length_map]; walk_at "AR"))); intro h' F' N'; (try dsimp only at N')))
local macro_rules | `(tactic| walk_at "subscriptTail") => `(tactic| (k_here; (with_reducible show wpAny _ _ (subscriptTail _ _ (Value.ref _) (Value.str _ _)) _ _ _); k_dflt (refine' dictItem ?N ?m ?d ?v ?_ ?hs; (case N => k_asm); (case m => k_mem); (case d => with_reducible assumption); (case v => with_reducible assumption); (case hs => with_unfolding_all rfl))))
local macro_rules | `(tactic| walk_at "setAttr ref") => `(tactic| (k_here; k_dflt (refine' set_dict ?k1 ?k2 ?k3 ?k4 ?k5 ?k6 ?k7 ?k8 ?k9 ?k10 ?k11 ?k12 ?k13 ?_; (case k1 => k_asm); (case k2 => k_asm); (case k3 => k_asm); (case k4 => k_inst); (case k5 => exact rfl); (case k6 => k_is); (case k7 => k_is); (case k8 => k_is); (case k9 => k_is); (case k10 => first | exact get_seen | exact get_done); (case k11 => first | with_reducible exact put_seen | with_reducible exact put_done); (case k12 => k_upd); (case k13 => exact Nat.le_of_ble_eq_true rfl)); intro h' F' N'; (try k_sweep)))
local macro_rules | `(tactic| walk_at "call builtin:list.pop") => `(tactic| (k_here; (with_reducible show wpAny _ _ (call (Value.builtin "list.pop") [Value.ref _]) _ _ _); k_dflt (refine' popL ?F ?N ?U ?z ?_; (case F => k_asm); (case N => k_asm); (case U => k_upd); (case z => walk_at "AR")); intro h' F' N'; (try dsimp only at N')))
local macro_rules | `(tactic| walk_at "call builtin:len") => `(tactic| (k_here; (with_reducible show wpAny _ _ (call (Value.builtin "len") [Value.ref _]) _ _ _); k_dflt (refine' lenL ?N ?m ?z ?_; (case N => k_asm); (case m => k_mem); (case z => walk_at "AR"))))
local macro_rules | `(tactic| walk_at "eval Name") => `(tactic| (k_here; k_dflt (refine' name_fr ?F ?l ?k ?x ?b ?m ?_; (case l => with_reducible rfl); (case x => exact rfl); (case k => exact rfl); (case b => decide +kernel); (case F => k_asm); (case m => ((try dsimp only); repeat (first | with_reducible assumption | exact if_pos rfl | refine Eq.trans (if_neg (by decide +kernel)) ?_))))))
local macro_rules | `(tactic| walk_at "loadName") => `(tactic| (k_here; k_dflt (refine' load_fr ?F ?l ?k ?x ?m ?_; (case l => with_reducible rfl); (case x => exact rfl); (case k => exact rfl); (case F => k_asm); (case m => ((try dsimp only); repeat (first | with_reducible assumption | exact if_pos rfl | refine Eq.trans (if_neg (by decide +kernel)) ?_))))))
local macro_rules | `(tactic| walk_at "AR0") => `(tactic| (first | (with_reducible assumption) | decide | (refine l0 (a := ?ara) ?arh ?are; (case arh => with_reducible assumption); (case are => rfl)) | (refine l1 (a := ?ara) ?arh ?are; (case arh => with_reducible assumption); (case are => rfl)) | (refine s0 (a := ?ara) ?arh ?are; (case arh => with_reducible assumption); (case are => rfl)) | (refine s1 (a := ?ara) ?arh ?are; (case arh => with_reducible assumption); (case are => rfl)) | (refine q0 (a := ?ara) ?arh ?are; (case arh => with_reducible assumption); (case are => rfl)) | (refine q1 (a := ?ara) ?arh ?are; (case arh => with_reducible assumption); (case are => rfl)) | (refine ltOf ?_; refine l1 (a := ?ara) ?arh ?are; (case arh => with_reducible assumption); (case are => rfl)) | (refine ltOf ?_; refine s1 (a := ?ara) ?arh ?are; (case arh => with_reducible assumption); (case are => rfl)) | (refine ltOf ?_; refine q1 (a := ?ara) ?arh ?are; (case arh => with_reducible assumption); (case are => rfl)) | (refine w0 (y := ?ary) (a := ?ara) ?arh ?arg ?are; (case arh => with_reducible assumption); (case arg => with_reducible assumption); (case are => rfl)) | (refine w2 (y := ?ary) (a := ?ara) ?arh ?arg ?are; (case arh => with_reducible assumption); (case arg => with_reducible assumption); (case are => rfl)) | (refine a2 (a := ?ara) (b := ?arb) ?arh ?arg ?are; (case arh => with_reducible assumption); (case arg => with_reducible assumption); (case are => rfl)) | (refine a3 (a := ?ara) (b := ?arb) ?arh ?arg ?are; (case arh => with_reducible assumption); (case arg => with_reducible assumption); (case are => rfl)) | (refine ngt ?_; refine z0 (a := ?ara) ?arh ?are; (case arh => with_reducible assumption); (case are => rfl)) | (refine l0 (a := ?ara) ?arh ?are; (case arh => (repeat (first | with_reducible assumption | (with_reducible refine slx ?_ ?_) | exact sq (by with_reducible assumption)))); (case are => rfl))))
local macro_rules | `(tactic| walk_at "AR") => `(tactic| (first | walk_at "AR0" | lia | omega))
local macro_rules | `(tactic| walk_at "RM") => `(tactic| (first | decide | (refine rm1 (a := ?ara) ?arh ?are; (case arh => with_reducible assumption); (case are => rfl)) | (refine rm2 (a := ?ara) ?arh ?are; (case arh => with_reducible assumption); (case are => rfl)) | (refine rm0 (a := ?ara) ?arh; (case arh => with_reducible assumption)) | (refine rm3 (a := ?ara) ?arh ?are; (case arh => with_reducible assumption); (case are => rfl)) | (refine rm4 (a := ?ara) ?arh ?are; (case arh => with_reducible assumption); (case are => rfl)) | (refine rn1 (m := ?arm) (a := ?ara) ?arh ?are; (case arh => with_reducible assumption); (case are => rfl)) | (refine rn2 (m := ?arm) (a := ?ara) ?arh ?are; (case arh => with_reducible assumption); (case are => rfl)) | (refine rn0 (m := ?arm) (a := ?ara) ?arh; (case arh => with_reducible assumption)) | (refine rr ?arh ?are; (case arh => with_reducible assumption); (case are => rfl))))
local macro_rules | `(tactic| ktr_room) => `(tactic| ((try dsimp only [depth_under_make, depth_under_kw, depth_in1, depth_deeper, depth_caller]); walk_at "RM"))
local macro_rules | `(tactic| ktr_units) => `(tactic| ((try dsimp only [units_in1, units_deeper, Around.mark_units, units_caller]); walk_at "RM"))
theorem topOff2 : True := by
  w_top off
  trivial
section
open PySem PySem.W PyProof.Rows PySem.Calls PySem.Spec
local macro_rules | `(tactic| walk_at "ite") => `(tactic| first | (with_reducible refine' occ_pos ?oc ?_; (case oc => decide +kernel)) | (with_reducible refine' occ_neg ?oc ?_; (case oc => decide +kernel)))
local macro_rules | `(tactic| walk_at "execs cons") => `(tactic| (k_here; (with_reducible refine wpAny_execs_cons ?_); try dsimp only))
local macro_rules | `(tactic| walk_at "execs nil") => `(tactic| (k_here; (with_reducible refine wpAny_execs_nil ?_); try dsimp only))
local macro_rules | `(tactic| walk_at "call builtin:str.replace") => `(tactic| (k_here; refine' replaceP ?p1 ?p2 ?p3 ?p4 ?p5 ?p6 ?_; (case p1 => exact Nat.succ_ne_zero _); (case p2 => exact Nat.succ_ne_zero _); (case p3 => first | exact Nat.succ_ne_self _ | exact Nat.ne_of_lt (Nat.lt_succ_self _)); (case p4 => decide +kernel); (case p5 => decide +kernel); (case p6 => decide +kernel)))
set_option maxHeartbeats 2000000 in
theorem esc_data (w : World) (dp un : Nat) (gd : Option (List Code)) (cn : Str) (cs : Scope) (a : Addr) (ccd : Value) (cl : List (Str × Addr)) (outer : List Env) (A₀ : Around) (base h₀ : Heap) (L : Addr) (m mg mb : Str → Option Value) (mean : ExcName → Option Value) (s : Shared) (Q E : Value → Shared → Prop)
    (news : List (Addr × Obj)) (tx : Tok)
    (B : Below A₀ base outer h₀) (F : Fr h₀ L s.heap m) (X : (hd3.heap_39 w.params).In h₀) (T : Top topProg lo3 mean mg mb h₀)
    (hk : cs.kind = .function) (hd : dp + 20 < recursionLimit) (hu : un + 200 < cLine)
    (N : News h₀ L s.heap (news))
    
    (hQ : ∀ t h' tk', 0 < tk' → Fr h₀ L h' m → News h₀ L h' news → Q (.str (Str.ofString "&lt;a&gt;&lt;/a&gt;") t) { s with heap := h', toks := tk' }) :
    wpAny (model P3 w) (ktrTop dp un gd cn cs L a ccd cl outer) (call (.ref 168) [.str (Str.ofString "<a></a>") tx]) Q E s := by
  refine wpAny_call ?_
  k_dflt k_enter
  k_steps
  refine' hQ _ _ _ ?pp ?pq ?pr
  case pq => assumption
  case pr => assumption
  case pp => exact Nat.succ_pos _

set_option maxHeartbeats 2000000 in
theorem esc_attr (w : World) (dp un : Nat) (gd : Option (List Code)) (cn : Str) (cs : Scope) (a : Addr) (ccd : Value) (cl : List (Str × Addr)) (outer : List Env) (A₀ : Around) (base h₀ : Heap) (L : Addr) (m mg mb : Str → Option Value) (mean : ExcName → Option Value) (s : Shared) (Q E : Value → Shared → Prop)
    (news : List (Addr × Obj)) (tx : Tok)
    (B : Below A₀ base outer h₀) (F : Fr h₀ L s.heap m) (X : (hd3.heap_39 w.params).In h₀) (T : Top topProg lo3 mean mg mb h₀)
    (hk : cs.kind = .function) (hd : dp + 20 < recursionLimit) (hu : un + 200 < cLine)
    (N : News h₀ L s.heap (news))
    
    (hQ : ∀ t h' tk', 0 < tk' → Fr h₀ L h' m → News h₀ L h' news → Q (.str (Str.ofString "&lt;a>&lt;/a>") t) { s with heap := h', toks := tk' }) :
    wpAny (model P3 w) (ktrTop dp un gd cn cs L a ccd cl outer) (call (.ref 175) [.str (Str.ofString "<a></a>") tx]) Q E s := by
  refine wpAny_call ?_
  k_dflt k_enter
  k_steps
  refine' hQ _ _ _ ?pp ?pq ?pr
  case pq => assumption
  case pr => assumption
  case pp => exact Nat.succ_pos _
end
theorem topOff3 : True := by
  w_top off
  trivial
section
open PySem PySem.W PyProof.Rows PySem.Calls PySem.Spec
local macro_rules | `(tactic| walk_at "call ref") => `(tactic| (k_here; (with_reducible show wpAny _ _ (call (Value.ref 168) _) _ _ _); k_dflt (refine' esc_data _ _ _ _ _ _ _ _ _ _ _ _ _ _ _ _ _ _ _ _ _ _ _ ?uB ?uF ?uX ?uT ?uk ?ud ?uu ?uN  ?_; (case uB => k_asm); (case uF => k_asm); (case uX => k_in); (case uT => k_asm); (case uk => first | exact rfl | assumption); (case ud => ktr_room); (case uu => ktr_units); (case uN => k_asm)); intro t' h' tk' p' F' N'))
set_option maxHeartbeats 2000000 in
theorem flush_c (w : World) (dp un : Nat) (gd : Option (List Code)) (cn : Str) (cs : Scope) (a : Addr) (ccd : Value) (cl : List (Str × Addr)) (outer : List Env) (A₀ : Around) (base h₀ : Heap) (L : Addr) (m mg mb : Str → Option Value) (mean : ExcName → Option Value) (s : Shared) (Q E : Value → Shared → Prop)
    (rest : List (Addr × Obj)) (tk : Nat → Tok) (t0 : Tok) (wd wr q pc dl nsd ns pm ps : Nat) (seen done : Bool) (pcs dts : List (Str × Tok)) (nsds nss pss : List Value) (tb : Array Value) (e0 e1 e2 e3 e4 e5 : Nat) (tx : Tok)
    (B : Below A₀ base outer h₀) (F : Fr h₀ L s.heap m) (X : (hd3.heap_39 w.params).In h₀) (T : Top topProg lo3 mean mg mb h₀)
    (hk : cs.kind = .function) (hd : dp + 30 < recursionLimit) (hu : un + 400 < cLine)
    (N : News h₀ L s.heap (wCells w.params tk t0 wd wr q pc dl nsd ns pm ps true done pcs [(Str.ofString "<a></a>", tx)] nsds nss pss tb e0 e1 e2 e3 e4 e5 rest))
    (ho : WOrd wd wr q pc dl nsd ns pm ps) (hr : WOff wd pc dl nsd ns ps rest) (hpc : pcs.length ≤ 1000)
    (hQ : ∀ t h' tk' f1 f2, Fr h₀ L h' m → News h₀ L h' (wCells w.params tk t0 wd wr q pc dl nsd ns pm ps true done (pcs ++ [((Str.ofString "&lt;a&gt;&lt;/a&gt;"), t)]) [] nsds nss pss tb e0 f1 f2 e3 e4 e5 rest) → Q .none { s with heap := h', toks := tk' }) :
    wpAny (model P3 w) (ktrTop dp un gd cn cs L a ccd cl outer) (call (.ref 113) [.ref wr]) Q E s := by
  obtain ⟨r1, r2, r3, r4, r5, r6, r7⟩ := id hr
  dsimp only [wCells] at N
  refine wpAny_call ?_
  k_dflt k_enter
  k_steps
  refine' bfm_join (l := [(Str.ofString "<a></a>", tx)]) (bfm_ofK ?j1 ?j2) (listOf_isList (News.get ?j3 ?j4)) ?j5 ?_
  case j1 => k_in
  case j2 => k_is
  case j3 => k_asm
  case j4 => k_mem
  case j5 => (simp only [List.map]; decide +kernel)
  show wpAny _ _ _ _ _ _
  k_steps
  refine' hQ _ _ _ _ _ ?z1 ?z2
  case z1 => assumption
  case z2 =>
    dsimp only [wCells]
    rw [← strValues_push]
    rename (News _ _ _ _) => N9
    exact N9
end
theorem topOff4 : True := by
  w_top off
  trivial
section
local macro_rules | `(tactic| walk_at "ZZ") => `(tactic| skip)
open PySem PySem.W PyProof.Rows PySem.Calls PySem.Spec
local macro_rules | `(tactic| walk_at "ite") => `(tactic| (with_reducible refine' occ_neg ?oc ?_; (case oc => assumption)))
set_option maxHeartbeats 2000000 in
theorem qname_code (w : World) (dp un : Nat) (gd : Option (List Code)) (cn : Str) (cs : Scope) (a : Addr) (ccd : Value) (cl : List (Str × Addr)) (outer : List Env) (A₀ : Around) (base h₀ : Heap) (L : Addr) (m mg mb : Str → Option Value) (mean : ExcName → Option Value) (s : Shared) (Q E : Value → Shared → Prop)
    (news : List (Addr × Obj)) (wr wd nsd n0 tp : Nat) (q dl ns pm ps : Value) (tk : Nat → Tok) (t0 t1 t2 tx : Tok) (n1 n2 nd : Nat) (seen done : Bool) (items : Array Value) (x : Str)
    (B : Below A₀ base outer h₀) (F : Fr h₀ L s.heap m) (X : (hd3.heap_39 w.params).In h₀) (T : Top topProg lo3 mean mg mb h₀)
    (hk : cs.kind = .function) (hd : dp + 20 < recursionLimit) (hu : un + 200 < cLine)
    (N : News h₀ L s.heap (news))
    (w1 : (wd, dictOf (wdict w.params tk q dl (.ref nsd) ns pm ps .none seen done t0) nd) ∈ news) (w2 : (wr, instObj 157 wd) ∈ news)
    (w3 : (nsd, listOf items n1) ∈ news) (h0 : items[0]? = some (.ref n0)) (w4 : (n0, listOf #[.ref tp] n2) ∈ news)
    (w5 : (tp, tupOf [.str (Str.ofString "http://www.w3.org/XML/1998/namespace") t1, .str (Str.ofString "xml") t2]) ∈ news)
    (w6 : ∀ (k : Nat) (v : Value), 0 < k → items[k]? = some v → ∃ e n, v = .ref e ∧ (e, listOf #[] n) ∈ news) (hb : AllBare s.gens) (hx : ¬ ((Txt.slice x none (some 1) == Str.ofString "{") = true)) (hl : x.length ≤ 1024)
    (hQ : ∀ (R : Nat) u1 u2 u3 h' tk' gens', Fr h₀ L h' m → News h₀ L h' ((R, tupOf [.str x u1, .str x u2, .str (Str.ofString "") u3]) :: news) → (∀ p ∈ news, p.1 < R) → AllBare gens' → Q (.ref R) { s with heap := h', toks := tk', gens := gens' }) :
    codeAny (model P3 w) (ktrTop dp un gd cn cs L a ccd cl outer) (.call (.ref 97) ⟨[.ref wr, .str x tx], []⟩) (fun r s' => match r with | .ok (.ret v) => Q v s' | .ok _ => False | .error e => E e s') s := by
  k_dflt k_enter
  k_steps
  refine gnf_for 4 ?_
  k_steps
  k_dflt (refine' k_callGen ?cF ?cX ?cN ?cL ?cho ?chc ?cro ?cbi ?clo ?ch ?cco ?cge ?ckd ?cce)
  case cF => k_asm
  case cX => k_asm
  case cN => k_asm
  case cL => exact TopRead.nolimit (by k_asm)
  case cho => k_is
  case chc => k_is
  case cro => ktr_room
  case cbi => first | exact BindsTo.of_eq rfl | exact binds_K (by k_in) rfl (by k_is) rfl rfl rfl | (refine' kp_binds ?kx ?ke; (case kx => k_in); (case ke => exact fun _ => rfl))
  case clo => exact locs rfl
  case cco => exact rfl
  case cge => exact rfl
  case ckd => exact rfl
  case cce => decide
  case ch =>
    intro L₂ oF G tg h₁ tk₁ F₁ N₁ lts lG hFr
    refine ⟨_, _, rfl, genObj_isGen (N₁ _ (.head _)).1, ⟨_, (N₁ _ (.head _)).1, rfl⟩, ?_⟩
    refine' k_ns1 (n0 := n0) (n1 := n1) (n2 := n2) F₁ N₁ ?a1 ?a2 ?a3 ?a4 ?a5 ?a6 hFr ?a7 ?a8 ?a9 h0 ?aA ?aB lts lG ?aC
    case a7 => exact rfl
    case a8 => exact rfl
    case a5 => (simp only [Array.getElem?_push_size]; exact rfl)
    case a6 => exact rfl
    case a1 => exact rfl
    case a2 => exact TopRead.nolimit (by k_asm)
    case a3 => ktr_room
    case a4 => constructor <;> exact rfl
    case a9 => k_mem
    case aA => k_mem
    case aB => exact fun k v hk hv => let ⟨e, n, a, b⟩ := w6 k v hk hv; ⟨e, n, a, by k_mem⟩
    case aC =>
    intro I oI oJ h₂ tk₂ gs' F₂ N₂ lt₂ hS hJ hI
    refine ⟨⟨_, (N₂ _ (.tail _ (.tail _ (.head _)))).1, rfl⟩, ?_⟩
    dsimp only [GnfTurn]
    have e3 := fun p hp => Nat.lt_trans (lts p hp) lG
    have e1 : @LT.lt Nat _ I (I + 1) := Nat.lt_succ_self I
    have e2 : @LT.lt Nat _ G I := lt₂ _ (.head _)
    k_steps
    dsimp only [GnfFlow, GnfRest]
    refine ⟨newsGen (nm := Str.ofString "_iter_namespaces") (by k_asm) (by k_mem), ?_⟩
    refine' k_ns2 ?b1 ?b2 ?b3 ?b4 ?b5 ?b6 hS hJ hI ?b7 ?b8 ?b9 ?bA
    case b1 => k_asm
    case b2 => k_asm
    case b3 => exact rfl
    case b4 => exact TopRead.nolimit (by k_asm)
    case b5 => ktr_room
    case b6 => simp
    case b7 => k_mem
    case b8 => exact e2
    case b9 =>
      exact List.forall_mem_cons.2 ⟨lt_in lt₂ (.tail .head), fun p hp => lt₂ p (.tail _ (.tail _ hp))⟩
    intro h₃ F₃ N₃
    refine ⟨⟨_, (N₃ _ (.head _)).1, rfl⟩, ?_⟩
    dsimp only [GnfTurn]
    k_steps
    refine' hQ _ _ _ _ _ _ _ ?z1 (newsSub ?z2 ?z3) ?z4 (bareDone hb)
    case z1 => assumption
    case z2 => assumption
    case z4 => exact lt_suf (by with_reducible_and_instances assumption) (by repeat (first | with_reducible exact Suf.here | with_reducible refine Suf.tail ?_))
    case z3 =>
      intro p hp
      rcases List.mem_cons.mp hp with rfl | hp
      · exact List.Mem.head _
      · k_mem

set_option maxHeartbeats 2000000 in
theorem qname_c (w : World) (dp un : Nat) (gd : Option (List Code)) (cn : Str) (cs : Scope) (a : Addr) (ccd : Value) (cl : List (Str × Addr)) (outer : List Env) (A₀ : Around) (base h₀ : Heap) (L : Addr) (m mg mb : Str → Option Value) (mean : ExcName → Option Value) (s : Shared) (Q E : Value → Shared → Prop)
    (news : List (Addr × Obj)) (wr wd nsd n0 tp : Nat) (q dl ns pm ps : Value) (tk : Nat → Tok) (t0 t1 t2 tx : Tok) (n1 n2 nd : Nat) (seen done : Bool) (items : Array Value) (x : Str)
    (B : Below A₀ base outer h₀) (F : Fr h₀ L s.heap m) (X : (hd3.heap_39 w.params).In h₀) (T : Top topProg lo3 mean mg mb h₀)
    (hk : cs.kind = .function) (hd : dp + 20 < recursionLimit) (hu : un + 200 < cLine)
    (N : News h₀ L s.heap (news))
    (w1 : (wd, dictOf (wdict w.params tk q dl (.ref nsd) ns pm ps .none seen done t0) nd) ∈ news) (w2 : (wr, instObj 157 wd) ∈ news)
    (w3 : (nsd, listOf items n1) ∈ news) (h0 : items[0]? = some (.ref n0)) (w4 : (n0, listOf #[.ref tp] n2) ∈ news)
    (w5 : (tp, tupOf [.str (Str.ofString "http://www.w3.org/XML/1998/namespace") t1, .str (Str.ofString "xml") t2]) ∈ news)
    (w6 : ∀ (k : Nat) (v : Value), 0 < k → items[k]? = some v → ∃ e n, v = .ref e ∧ (e, listOf #[] n) ∈ news) (hb : AllBare s.gens) (hx : ¬ ((Txt.slice x none (some 1) == Str.ofString "{") = true)) (hl : x.length ≤ 1024)
    (hQ : ∀ (R : Nat) u1 u2 u3 h' tk' gens', Fr h₀ L h' m → News h₀ L h' ((R, tupOf [.str x u1, .str x u2, .str (Str.ofString "") u3]) :: news) → (∀ p ∈ news, p.1 < R) → AllBare gens' → Q (.ref R) { s with heap := h', toks := tk', gens := gens' }) :
    wpAny (model P3 w) (ktrTop dp un gd cn cs L a ccd cl outer) (call (.ref 97) [.ref wr, .str x tx]) Q E s := by
  exact wpAny_call (qname_code w dp un gd cn cs a ccd cl outer A₀ base h₀ L m mg mb mean s Q E news wr wd nsd n0 tp q dl ns pm ps tk t0 t1 t2 tx n1 n2 nd seen done items x B F X T hk hd hu N w1 w2 w3 h0 w4 w5 w6 hb hx hl hQ)
end
theorem topOff5 : True := by
  w_top off
  trivial
section
open PySem PySem.W PyProof.Rows PySem.Calls PySem.Spec

abbrev lamBody : PySem.Expr := .Call (.Attribute (.Name (Str.ofString "n") ⟨141, 81, 141, 82⟩) (Str.ofString "split") ⟨141, 81, 141, 88⟩) [.Constant (.str (Str.ofString "}")) 0 ⟨141, 89, 141, 92⟩, .Constant (.int 1) 0 ⟨141, 94, 141, 95⟩] [] ⟨141, 81, 141, 96⟩
abbrev lamScope : Scope := { kind := .function, names := [(Str.ofString "n", .local)], isGenerator := false, isCoroutine := false }
abbrev lamArgs : Arguments := { posonlyargs := [], args := [{ arg := Str.ofString "n", annotation := none, pos := ⟨141, 78, 141, 79⟩ }], vararg := none, kwonlyargs := [], kw_defaults := [], kwarg := none, defaults := [] }
abbrev lamPos : Pos := ⟨141, 71, 141, 96⟩
abbrev lamQ : Str := Str.ofString "C14NWriterTarget._start" ++ ".<locals>." ++ "<lambda>"
theorem one_of {l : List (Str × Tok)} {x : Str} (h : l.map (·.1) = [x]) : ∃ t, l = [(x, t)] := by
  match l, h with
  | [(y, t)], h => exact ⟨t, by simp at h; rw [h]⟩
set_option maxHeartbeats 1000000 in
theorem lam_one (w : World) (A A₀ : Around) (env : Env) (outer : List Env) (base h₀ : Heap) (L : Addr) (m mg mb : Str → Option Value) (mean : ExcName → Option Value) (s : Shared) (Q E : Value → Shared → Prop) (news rest : List (Addr × Obj)) (fa c' : Addr) (q x : Str) (tx : Tok) (pm ctv : Value)
    (B : Below A₀ base outer h₀) (F : Fr h₀ L s.heap m) (X : (hd3.heap_39 w.params).In h₀) (T : Top topProg lo3 mean mg mb h₀) (hA : A.frames = some (env :: outer)) (hfr : env.frame = some L) (hke : env.scope.kind = .function) (hd : A.depth + 20 < recursionLimit) (hu : A.units + 50 < cLine)
    (N : News h₀ L s.heap news) (hm : (fa, kla_obj (Str.ofString "<lambda>") q lamArgs lamBody lamScope [] pm c' ctv) ∈ news) (hc : CodeObj q c' rest) (hsub : ∀ p ∈ rest, p ∈ news) (hx : Txt.splitMax x (Str.ofString "}") 1 = [x]) (hl : x.length ≤ 1024)
    (hQ : ∀ (l : Nat) h' tk' t' k, Fr h₀ L h' m → News h₀ L h' ((l, listOf #[.str x t'] k) :: news) → (∀ p ∈ news, p.1 < l) → Q (.ref l) { s with heap := h', toks := tk' }) :
    wpAny (model P3 w) A (call (.ref fa) [.str x tx]) Q E s := by
  refine wpAny_call ?_
  refine kla_code B F X N T hA hfr hke hm (hc.rec_ N hsub) (by lia) (binds := [(Str.ofString "n", .str x tx)]) rfl (locs rfl) ?_ rfl rfl rfl (by decide)
  intro g' L' h1 FG F' N' B' X' T'
  have hlt9 : ∀ p ∈ news, p.1 < h1.objs.size := fun p hp => Heap.lt_size (N' p hp).1
  dsimp only [lamBody, lamScope, lamArgs]
  (try k_fold)
  repeat (first | (k_unfold; (try dsimp only)) | walk1 | (dsimp only; walk1) | (leave1; try dsimp only))
  rename (List.map _ _ = Txt.splitMax x (Str.ofString "}") 1) => e9
  rename (News h₀ L _ _) => N9
  rw [hx] at e9
  obtain ⟨t', e8⟩ := one_of e9
  subst e8
  exact hQ _ _ _ t' 0 (by assumption) N9 hlt9
end
theorem topOff6 : True := by
  w_top off
  trivial
section
open PySem PySem.W PyProof.Rows PySem.Calls PySem.Spec
def AttrV (v ev : Str) : Prop := v = Str.ofString "<a></a>" ∧ ev = Str.ofString "&lt;a>&lt;/a>"
theorem AttrV.len {v ev : Str} (h : AttrV v ev) : v.length ≤ 100 ∧ ev.length ≤ 100 := by obtain ⟨rfl, rfl⟩ := h; decide +kernel
theorem esc_attrV (w : World) (dp un : Nat) (gd : Option (List Code)) (cn : Str) (cs : Scope) (a : Addr) (ccd : Value) (cl : List (Str × Addr)) (outer : List Env) (A₀ : Around) (base h₀ : Heap) (L : Addr) (m mg mb : Str → Option Value) (mean : ExcName → Option Value) (s : Shared) (Q E : Value → Shared → Prop)
    (news : List (Addr × Obj)) (tx : Tok) (v ev : Str) (hav : AttrV v ev)
    (B : Below A₀ base outer h₀) (F : Fr h₀ L s.heap m) (X : (hd3.heap_39 w.params).In h₀) (T : Top topProg lo3 mean mg mb h₀)
    (hk : cs.kind = .function) (hd : dp + 20 < recursionLimit) (hu : un + 200 < cLine)
    (N : News h₀ L s.heap (news))
    
    (hQ : ∀ t h' tk', 0 < tk' → Fr h₀ L h' m → News h₀ L h' news → Q (.str ev t) { s with heap := h', toks := tk' }) :
    wpAny (model P3 w) (ktrTop dp un gd cn cs L a ccd cl outer) (call (.ref 175) [.str v tx]) Q E s := by
  obtain ⟨rfl, rfl⟩ := hav
  exact esc_attr w dp un gd cn cs a ccd cl outer A₀ base h₀ L m mg mb mean s Q E news tx B F X T hk hd hu N hQ
end
local macro_rules | `(tactic| walk_at "eval Set") => `(tactic| (k_here; k_dflt (refine' set_star ?F ?N ?X ?c ?_; (case F => k_asm); (case N => k_asm); (case X => k_asm); (case c => first | k_is | kernel_rfl!)); intro d' h' F' N' l1; (try k_lt l1)))
local macro_rules | `(tactic| walk_at "setAdd str") => `(tactic| (k_here; (with_reducible show wpAny _ _ (setAdd _ (Value.str _ _)) _ _ _); k_dflt (refine' setAdd_first ?F ?N ?U ?_; (case F => k_asm); (case N => k_asm); (case U => k_updF)); intro h' t' tl' F' N'; (try dsimp only at N')))
local macro_rules | `(tactic| walk_at "setDisplayStar") => `(tactic| (k_here; k_dflt (refine' star0 ?F ?N ?hh ?hA ?hd ?hs ?hD ?ht ?_; (case F => k_asm); (case N => k_asm); (case hh => exact rfl); (case hA => k_mem); (case hd => assumption); (case hs => assumption); (case hD => k_mem); (case ht => assumption)); intro h' F' N'))
local macro_rules | `(tactic| walk_at "subscriptTail") => `(tactic| (k_here; (with_reducible show wpAny _ _ (subscriptTail _ _ (Value.ref _) (Value.int 0 _)) _ _ _); k_dflt (refine' tupItem0 ?N ?m ?k ?z ?x ?_ ?hs; (case N => k_asm); (case m => k_mem); (case k => exact Nat.zero_lt_succ _); (case z => exact Nat.le_of_ble_eq_true rfl); (case x => exact rfl); (case hs => with_unfolding_all rfl))))
local macro_rules | `(tactic| walk_at "eval Name") => `(tactic| (k_here; (with_reducible show wpAny _ _ (eval _ (compEnvC _ _ _ _)) _ _ _); k_dflt (refine' ld_cell ?N ?c ?m ?d ?_; (case N => k_asm); (case c => exact rfl); (case m => k_mem); (case d => with_reducible assumption))))
theorem topOff7 : True := by
  w_top off
  trivial
section
open PySem PySem.W PyProof.Rows PySem.Calls PySem.Spec
inductive QP (nb : List (Addr × Obj)) (zs : List (Str × Tok)) (s₁ : Shared) (i : Nat) (kv : List (Str × Value)) (nw : List (Addr × Obj)) (s : Shared) : Prop
  | mk (h : Heap) (tk : Nat) (g : Array GenState) (d : Drawn) (e : s = { s₁ with heap := h, toks := tk, gens := g, drawn := d }) (hk : kv.map (·.1) = (zs.take i).map (·.1))
    (hm : ∀ p ∈ kv, ∃ R u1 u2 u3, p.2 = .ref R ∧ (R, tupOf [.str p.1 u1, .str p.1 u2, .str (Str.ofString "") u3]) ∈ nw) (hs : ∀ p ∈ nb, p ∈ nw) (hb : AllBare g)
theorem stored_new {kv : List (Str × Value)} {z : Str} {y : Value} (h : z ∉ kv.map (·.1)) : stored kv z y = kv ++ [(z, y)] := by
  unfold stored
  have e : (kv.any fun p => decide (p.1 = z)) = false := by
    rw [List.any_eq_false]
    intro p hp q
    exact h ((of_decide_eq_true q) ▸ List.mem_map_of_mem hp)
  rw [e, if_neg (by decide)]
def NameOk (n : Str) : Prop := ¬ ((Txt.slice n none (some 1) == Str.ofString "{") = true) ∧ n.length ≤ 1024 ∧ Txt.splitMax n (Str.ofString "}") 1 = [n] ∧ (n == Str.ofString "{http://www.w3.org/XML/1998/namespace}space") = false
def atKv (v : Str) (kvs : List (Str × Tok)) : List (Str × Value) := kvs.map fun p => (p.1, .str v p.2)
theorem zs_nodup {w : World} {oA : Obj} {kvs zs : List (Str × Tok)} {v x : Str} (hzn : zs.map (·.1) = (kvs.map (·.1)).reverse ++ [x]) (d1 : oA.IsDictOf (PySem.strKind P3 w) (atKv v kvs)) (hxk : x ∉ kvs.map (·.1)) : (zs.map (·.1)).Nodup := by
  obtain ⟨es, ep, hx, hdd, hkk, hp, hnn⟩ := d1
  have hnn' : (kvs.map (·.1)).Nodup := by
    unfold atKv at hnn
    rw [List.map_map] at hnn
    exact hnn
  rw [hzn, List.nodup_append]
  exact ⟨(List.reverse_perm _).nodup_iff.mpr hnn', by simp, fun a ha b hb e => by
    rw [List.mem_singleton] at hb
    exact hxk (hb ▸ e ▸ List.mem_reverse.mp ha)⟩
def atOne (ev y : Str) : Str := Str.empty ++ Str.ofString " " ++ y ++ Str.ofString "=\"" ++ ev ++ Str.ofString "\""
def atPcs (so : List (Str × Tok)) (ev : Str) (t : Tok) : List (Str × Tok) := if so = [] then [] else [(catS (so.map fun p => atOne ev p.1), t)]
abbrev tupO' (x : Str) (t : Tok) (v : Value) : Obj := { cls := .type "tuple", data := .seq #[.str x t, v] }
inductive AtMid (h₀ : Heap) (L : Addr) (s₁ : Shared) (v : Str) (so : List (Str × Tok)) (m0 : Str → Option Value) (nb : List (Addr × Obj)) (la : Addr) (g : Array GenState) (d : Drawn) : Flow → Shared → Prop
  | mk (h : Heap) (tk : Nat) (m' : Str → Option Value) (as : List Addr) (e : Nat) (nw : List (Addr × Obj)) (F : Fr h₀ L h m') (hm : ∀ y, y ≠ Str.ofString "k" → y ≠ Str.ofString "v" → y ≠ Str.ofString "attr_qname" → y ≠ Str.ofString "attr_name" → y ≠ Str.ofString "uri" → m' y = m0 y)
    (N : News h₀ L h ((la, listOf (as.map Value.ref).toArray e) :: nw)) (hs : ∀ p ∈ nb, p ∈ nw) (ho : ∀ p ∈ nw, p.1 ≠ la) (hl : as.length = so.length) (ha : ∀ (i : Nat) (a : Addr) (p : Str × Tok), as[i]? = some a → so[i]? = some p → ∃ t t', (a, tupO' p.1 t (.str v t')) ∈ nw) :
    AtMid h₀ L s₁ v so m0 nb la g d .next { s₁ with heap := h, toks := tk, gens := g, drawn := d }
theorem allLt_mem {d : Addr} {l : List (Addr × Obj)} {p : Addr × Obj} (h : AllLt d l) (hp : p ∈ l) : @LT.lt Nat _ p.1 d := by
  induction l with
  | nil => exact absurd hp List.not_mem_nil
  | cons q l ih =>
    rcases List.mem_cons.mp hp with e | hp
    · rw [e]; exact h.1
    · exact ih h.2 hp
theorem news_ne {h₀ h : Heap} {L : Addr} {l : List (Addr × Obj)} {a b : Addr} {oa ob : Obj} (N : News h₀ L h l) (ha : (a, oa) ∈ l) (hb : (b, ob) ∈ l) (hc : oa ≠ ob) : a ≠ b := fun e => by
  have q := N.get hb
  rw [← e, N.get ha] at q
  exact hc (Option.some.inj q)
theorem cut4 {h₀ h : Heap} {L : Addr} {l a b c d : Addr × Obj} {nw : List (Addr × Obj)} (N : News h₀ L h (l :: nw)) (ha : a ∈ nw) (hb : b ∈ nw) (hc : c ∈ nw) (hd : d ∈ nw) :
    ∃ nx, News h₀ L h (l :: a :: b :: c :: d :: nx) ∧ (∀ p ∈ nw, p.1 ≠ a.1 → p.1 ≠ b.1 → p.1 ≠ c.1 → p.1 ≠ d.1 → p ∈ nx) ∧ (∀ p ∈ nx, p.1 ≠ a.1 ∧ p.1 ≠ b.1 ∧ p.1 ≠ c.1 ∧ p.1 ≠ d.1 ∧ p ∈ nw) := by
  refine ⟨nw.filter fun p => decide (p.1 ≠ a.1 ∧ p.1 ≠ b.1 ∧ p.1 ≠ c.1 ∧ p.1 ≠ d.1), fun p hp => N p ?_, fun p hp h1 h2 h3 h4 => List.mem_filter.mpr ⟨hp, decide_eq_true ⟨h1, h2, h3, h4⟩⟩, fun p hp => ?_⟩
  · simp only [List.mem_cons, List.mem_filter] at hp ⊢
    rcases hp with h | h | h | h | h | h
    · exact .inl h
    · exact .inr (h ▸ ha)
    · exact .inr (h ▸ hb)
    · exact .inr (h ▸ hc)
    · exact .inr (h ▸ hd)
    · exact .inr h.1
  · obtain ⟨h1, h2⟩ := List.mem_filter.mp hp
    have h3 := of_decide_eq_true h2
    exact ⟨h3.1, h3.2.1, h3.2.2.1, h3.2.2.2, h1⟩
inductive PcMid (h₀ : Heap) (L : Addr) (s₁ : Shared) (m' : Str → Option Value) (la wdo nso pso : Addr × Obj) (nx : List (Addr × Obj)) (pc : Addr) (X0 : List (Str × Tok)) (so : List (Str × Tok)) (ev : Str) (g : Array GenState) (d : Drawn) : Flow → Shared → Prop
  | mk (h : Heap) (tk t3 f : Nat) (F : Fr h₀ L h m') (N : News h₀ L h (la :: wdo :: (pc, W.listOf (strValues (X0 ++ atPcs so ev t3)).toArray f) :: nso :: pso :: nx)) : PcMid h₀ L s₁ m' la wdo nso pso nx pc X0 so ev g d .next { s₁ with heap := h, toks := tk, gens := g, drawn := d }
theorem pc_mid {M : Model} {A : Around} {t : Sem Flow} {E : Value → Shared → Prop} {Q : Flow → Shared → Prop} {s s9 : Shared} {h₀ h : Heap} {L : Addr} {m' : Str → Option Value} {la wdo nso pso : Addr × Obj} {nx : List (Addr × Obj)} {pc : Addr} {X0 : List (Str × Tok)} {f0 : Nat} {so : List (Str × Tok)} {ev : Str} {g : Array GenState} {d : Drawn}
    (_F : Fr h₀ L h m') (_N : News h₀ L h (la :: wdo :: (pc, W.listOf (strValues X0).toArray f0) :: nso :: pso :: nx))
    (h1 : wpAny M A t (PcMid h₀ L s m' la wdo nso pso nx pc X0 so ev g d) E s9) (h2 : ∀ fl s', PcMid h₀ L s m' la wdo nso pso nx pc X0 so ev g d fl s' → Q fl s') : wpAny M A t Q E s9 := wpAny_mono h1 h2 fun _ _ x => x
inductive CP (N0 : List (Addr × Obj)) (so : List (Str × Tok)) (ev : Str) (i : Nat) (ys : List Value) (nw : List (Addr × Obj)) : Prop
  | mk (l : List (Str × Tok)) (hy : ys = strValues l) (hl : l.map (·.1) = (so.take i).map fun p => atOne ev p.1) (hn : nw = N0)
theorem truthyLm {prog : Program} {w : World} {A : Around} {E : Value → Shared → Prop} {s : Shared} {h₀ : Heap} {L : Addr} {news : List (Addr × Obj)} {a : Addr} {n : Nat} {as : List Addr} {Q : Bool → Shared → Prop} (N : News h₀ L s.heap news) (hm : (a, W.listOf (as.map Value.ref).toArray n) ∈ news) (hne : as ≠ []) (hz : as.length ≤ 6) (h : Q true { s with toks := s.toks + 1 + 1 }) : wpAny (model prog w) A (truthy (.ref a)) Q E s := by
  cases as with
  | nil => exact absurd rfl hne
  | cons x r => exact truthyL1 (x := .ref x) (xs := r.map Value.ref) N hm (by simp at hz ⊢; lia) h
theorem fold_len' : ∀ (l : List Str) (n : Nat), (l.toArray.foldl (fun a x => a + x.length + (Str.ofString "").length) n) = n + (catS l).length := by
  have e0 : (Str.ofString "").length = 0 := by decide +kernel
  intro l
  induction l with
  | nil => intro n; simp [catS, e0]
  | cons x r ih =>
    intro n
    have h := ih (n + x.length + (Str.ofString "").length)
    rw [List.foldl_toArray'] at h ⊢
    · rw [List.foldl_cons, h, catS, PySem.Str.length_append, e0]
      lia
    all_goals rfl
theorem catS_len (b : Nat) : ∀ l : List Str, (∀ x ∈ l, x.length ≤ b) → (catS l).length ≤ l.length * b
  | [], _ => by have e0 : (Str.ofString "").length = 0 := by decide +kernel
                rw [catS, e0]; lia
  | x :: r, h => by
    have h1 := h x (.head _)
    have h2 := catS_len b r fun y hy => h y (.tail _ hy)
    rw [catS, PySem.Str.length_append, List.length_cons, Nat.succ_mul]
    lia
theorem atOne_len {ev y : Str} (h : y.length ≤ 1024) (he : ev.length ≤ 100) : (atOne ev y).length ≤ 1200 := by
  have z1 : (Str.ofString " ").length = 1 := by decide +kernel
  have z2 : (Str.ofString "=\"").length = 2 := by decide +kernel
  have z3 : (Str.ofString "\"").length = 1 := by decide +kernel
  have z6 : Str.empty.length = 0 := rfl
  unfold atOne
  simp only [PySem.Str.length_append]
  lia
theorem at_mid {M : Model} {A : Around} {t : Sem Flow} {E : Value → Shared → Prop} {Q : Flow → Shared → Prop} {s s9 : Shared} {h₀ h : Heap} {L : Addr} {v : Str} {so : List (Str × Tok)} {m0 : Str → Option Value} {nb : List (Addr × Obj)} {la : Addr} {g : Array GenState} {d : Drawn} (_F : Fr h₀ L h m0)
    (h1 : wpAny M A t (AtMid h₀ L s v so m0 nb la g d) E s9) (h2 : ∀ fl s', AtMid h₀ L s v so m0 nb la g d fl s' → Q fl s') : wpAny M A t Q E s9 := wpAny_mono h1 h2 fun _ _ x => x
inductive AtI (v : Str) (so : List (Str × Tok)) (m0 : Str → Option Value) (nb : List (Addr × Obj)) (la I : Addr) (i : Nat) (m' : Str → Option Value) (n' : List (Addr × Obj)) : Prop
  | mk (as : List Addr) (e : Nat) (nw : List (Addr × Obj)) (hn : n' = (la, listOf (as.map Value.ref).toArray e) :: nw) (hs : ∀ p ∈ nb, p ∈ nw) (ho : ∀ p ∈ nw, p.1 ≠ la) (hI : ∀ p ∈ n', p.1 ≠ I) (hl : as.length = i)
    (ha : ∀ (j : Nat) (a : Addr) (p : Str × Tok), as[j]? = some a → so[j]? = some p → ∃ t t', (a, tupO' p.1 t (.str v t')) ∈ nw)
    (hm : ∀ y, y ≠ Str.ofString "k" → y ≠ Str.ofString "v" → y ≠ Str.ofString "attr_qname" → y ≠ Str.ofString "attr_name" → y ≠ Str.ofString "uri" → m' y = m0 y)
theorem news_fr {h₀ h : Heap} {L : Addr} {b c l : Addr × Obj} {tf r : List (Addr × Obj)} (N : News h₀ L h (b :: (tf ++ c :: l :: r))) : News h₀ L h (l :: (b :: (tf ++ r))) := fun p hp => N p (by
  simp only [List.mem_cons, List.mem_append] at hp ⊢
  rcases hp with h | h | h | h
  · exact .inr (.inr (.inr (.inl h)))
  · exact .inl h
  · exact .inr (.inl h)
  · exact .inr (.inr (.inr (.inr h))))
theorem valueAt_mem {kv : List (Str × Value)} {y : Str} {r : Value} (hn : (kv.map (·.1)).Nodup) (hm : (y, r) ∈ kv) : PySem.valueAt kv y = some r := by
  induction kv with
  | nil => exact absurd hm List.not_mem_nil
  | cons p kv ih =>
    obtain ⟨h1, h2⟩ := List.nodup_cons.mp hn
    rcases List.mem_cons.mp hm with rfl | hm
    · simp [PySem.valueAt]
    · have hne : p.1 ≠ y := fun e => h1 (by show p.1 ∈ _; rw [e]; exact List.mem_map_of_mem (f := (·.1)) hm)
      have := ih h2 hm
      unfold PySem.valueAt at this ⊢
      simp only [List.find?_cons, decide_eq_false hne]
      exact this
def StarOf (w : World) (at_ : Nat) (oA : Obj) (kvs : List (Str × Value)) (x : Str) : Prop := ∀ (A : Around) (E : Value → Shared → Prop) (s : Shared) (Q : Unit → Shared → Prop) (h₀ : Heap) (L : Addr) (m : Str → Option Value) (news : List (Addr × Obj)) (g : Obj → List (Addr × Obj)) (D : Addr) (tx : Tok) (t : SetTable),
  Fr h₀ L s.heap m → News h₀ L s.heap news → A.handled = none → (at_, oA) ∈ news → at_ ≠ D → UpdF D (oneSet ((PySem.strKind P3 w).hash x) (.str x tx) t) news g → LowT (ledOf w) t →
  (∀ h' so' tk' zs, Fr h₀ L h' m → News h₀ L h' (g so') → TSet P3 w so' zs → zs.map (·.1) = (kvs.map (·.1)).reverse ++ [x] → Q () { s with heap := h', toks := tk' }) → wpAny (model P3 w) A (setDisplayStar D (.ref at_)) Q E s
def LSortOf (w : World) (kvs so : List (Str × Value)) : Prop := ∀ (A : Around) (E : Value → Shared → Prop) (s : Shared) (Q : Value → Shared → Prop) (h₀ : Heap) (L : Addr) (m : Str → Option Value) (news : List (Addr × Obj)) (c : Addr) (as : List Addr) (e : Nat),
  Fr h₀ L s.heap m → News h₀ L s.heap ((c, listOf (as.map Value.ref).toArray e) :: news) → (∀ p ∈ news, p.1 ≠ c) → as.length = kvs.length → (∀ (i : Nat) (a : Addr) (p : Str × Value), as[i]? = some a → kvs[i]? = some p → ∃ t, (a, tupO' p.1 t p.2) ∈ news) →
  (∀ (as' : List Addr) e' h', as'.length = so.length → (∀ (i : Nat) (a : Addr) (p : Str × Value), as'[i]? = some a → so[i]? = some p → ∃ t, (a, tupO' p.1 t p.2) ∈ news) → Fr h₀ L h' m → News h₀ L h' ((c, listOf (as'.map Value.ref).toArray e') :: news) → Q .none { s with heap := h' }) →
  wpAny (model P3 w) A (call (.builtin "list.sort") [.ref c]) Q E s
local macro_rules | `(tactic| walk_at "call ref") => `(tactic| (k_here; (with_reducible show wpAny _ _ (call (Value.ref 175) _) _ _ _); k_dflt (refine' esc_attrV _ _ _ _ _ _ _ _ _ _ _ _ _ _ _ _ _ _ _ _ _ _ _ _ _ (by assumption) ?uB ?uF ?uX ?uT ?uk ?ud ?uu ?uN ?_; (case uB => k_asm); (case uF => k_asm); (case uX => k_in); (case uT => k_asm); (case uk => first | exact rfl | assumption); (case ud => ktr_room); (case uu => ktr_units); (case uN => k_asm)); intro t' h' tk' p' F' N'))
local macro_rules | `(tactic| walk_at "truthy ref") => `(tactic| (k_here; (with_reducible show wpAny _ _ (truthy (Value.ref _)) _ _ _); k_dflt (refine' truthyLm ?N ?m ?d ?z ?_; (case N => k_asm); (case m => k_mem); (case d => with_reducible assumption); (case z => with_reducible assumption))))
local macro_rules | `(tactic| walk_at "newTuple") => `(tactic| (k_here; k_dflt (refine' kup_newTuple ?F ?N ?_ ?z; (case F => k_asm); (case N => k_asm); (case z => kmk_size)); intro D' h' F' N' l1; (try k_lt l1)))
local macro_rules | `(tactic| walk_at "truthy ref") => `(tactic| (k_here; (with_reducible show wpAny _ _ (truthy (Value.ref _)) _ _ _); k_dflt (refine' truthyD1 ?N ?m ?d ?z ?hz ?_; (case N => k_asm); (case m => k_mem); (case d => with_reducible assumption); (case z => with_reducible assumption); (case hz => with_reducible assumption))))
set_option maxHeartbeats 4000000 in
theorem start_g (w : World) (dp un : Nat) (gd : Option (List Code)) (cn : Str) (cs : Scope) (a : Addr) (ccd : Value) (cl : List (Str × Addr)) (outer : List Env) (A₀ : Around) (base h₀ : Heap) (L : Addr) (m mg mb : Str → Option Value) (mean : ExcName → Option Value) (s : Shared) (Q E : Value → Shared → Prop)
    (rest : List (Addr × Obj)) (tkW : Nat → Tok) (t0 : Tok) (wd wr q pc dl nsd ns pm ps : Nat) (seen done : Bool) (pcs dts : List (Str × Tok)) (nsds nss pss : List Value) (tb : Array Value) (e0 e1 e2 e3 e4 e5 : Nat) (x : Str) (tx : Tok) (at_ nn : Nat) (oA : Obj) (n0 n2 n3 : Nat) (tp : Nat) (t1 t2 : Tok) (kvs so : List (Str × Tok)) (v ev : Str)
    (B : Below A₀ base outer h₀) (F : Fr h₀ L s.heap m) (X : (hd3.heap_39 w.params).In h₀) (T : Top topProg lo3 mean mg mb h₀)
    (hk : cs.kind = .function) (hd : dp + 40 < recursionLimit) (hu : un + 600 < cLine)
    (N : News h₀ L s.heap (wCells w.params tkW t0 wd wr q pc dl nsd ns pm ps seen done pcs dts nsds nss (pss ++ [.bool false]) tb e0 e1 e2 e3 e4 e5 ((nn, listOf #[] n3) :: (at_, oA) :: rest)))
    (ho : WOrd wd wr q pc dl nsd ns pm ps) (hr : WOff wd pc dl nsd ns ps ((nn, listOf #[] n3) :: (at_, oA) :: rest)) (hpc : pcs.length ≤ 1000)
    (g1 : nsds[0]? = some (.ref n0)) (g2 : (n0, listOf #[.ref tp] n2) ∈ rest)
    (g3 : (tp, tupOf [.str (Str.ofString "http://www.w3.org/XML/1998/namespace") t1, .str (Str.ofString "xml") t2]) ∈ rest)
    (g4 : ∀ (k : Nat) (v : Value), 0 < k → nsds[k]? = some v → ∃ e n, v = .ref e ∧ (e, listOf #[] n) ∈ (nn, listOf #[] n3) :: rest) (hb : AllBare s.gens)
    (hnm : ∀ n ∈ x :: kvs.map (·.1), NameOk n) (hxk : x ∉ kvs.map (·.1)) (hk6 : kvs.length ≤ 6) (hav : AttrV v ev) (hst : StarOf w at_ oA (atKv v kvs) x) (hlo : kvs ≠ [] → LSortOf w (atKv v kvs) (atKv v so)) (hso : so.Perm kvs)
    (d1 : oA.IsDictOf (PySem.strKind P3 w) (atKv v kvs)) (d3 : (at_ == sysModules) = false) (d4 : ps < at_) (d5 : at_ < nn) (hps : pss.length < 1000) (hns : nss.length < 1000) (hC : CodeHd h₀ 132 130) (htb : TabSt lamPos lamQ tb rest)
    (hQ : ∀ (l' : Nat) (rest' : List (Addr × Obj)) t1' t2' t3' tb' f1 f4 f5 h' tk' gens' d', Fr h₀ L h' m → News h₀ L h' (wCells w.params tkW t0 wd wr q pc dl nsd ns pm ps true done (pcs ++ [(Str.ofString "<" ++ x, t1')] ++ atPcs so ev t3' ++ [(Str.ofString ">", t2')]) dts nsds (nss ++ [Value.ref l']) (pss ++ [Value.bool false, Value.bool false]) tb' e0 f1 e2 e3 f4 f5 rest') → WOff wd pc dl nsd ns ps rest' → TabSt lamPos lamQ tb' rest' → (l', listOf #[] 0) ∈ rest' → (nn, listOf #[] n3) ∈ rest' → (∀ p ∈ rest, p ∈ rest') → AllBare gens' → Q .none { s with heap := h', toks := tk', gens := gens', drawn := d' }) :
    wpAny (model P3 w) (ktrTop dp un gd cn cs L a ccd cl outer) (call (.ref 133) [.ref wr, .str x tx, .ref at_, .ref nn]) Q E s := by
  obtain ⟨r1, r2, r3, r4, r5, r6, r7⟩ := hr
  dsimp only [wCells] at N
  refine wpAny_call ?_
  k_dflt (refine' code_defC ?k1 ?k2 ?k3 ?k4 ?k5 ?kA ?kF ?kK ?k6 ?k7 ?k8 ?k9 ?kB ?kD ?_ ?c2 ?c3 ?c4; (case kA => exact rfl); (case kF => exact rfl); (case kK => first | exact rfl | assumption); (case k1 => k_asm); (case k2 => k_asm); (case k3 => k_asm); (case k4 => k_asm); (case k5 => k_asm); (case k6 => k_is); (case k7 => k_is); (case k8 => ktr_room); (case k9 => first | exact BindsTo.of_eq rfl | exact binds_K (by k_in) rfl (by k_is) rfl rfl rfl | (refine' kp_binds ?kx ?ke; (case kx => k_in); (case ke => exact fun _ => rfl))); (case kB => exact rfl); (case kD => decide +kernel); (case c2 => exact rfl); (case c3 => exact rfl); (case c4 => exact rfl); k_whole; intro g' L' h' tk' cells' FG' F' N' Y' B' X' T' l1; (try k_lt l1); k_cells Y'; (try simp only [List.cons_append, List.nil_append] at N'); (try dsimp only); (try k_fold))
  rename (∀ p : Addr × Obj, p ∈ _ → p.1 < _) => l9
  obtain ⟨r8, r9⟩ := far_suf (r := rest) l9 (by repeat (first | with_reducible exact Suf.here | with_reducible refine Suf.tail ?_))
  iterate 20 (first | (k_unfold; (try dsimp only)) | walk1 | (dsimp only; walk1) | (leave1; try dsimp only))
  refine' hst _ _ _ _ _ _ _ _ _ _ _ _ ?F ?N ?hh ?hA ?hne ?U ?ht ?_
  case F => k_asm
  case N => k_asm
  case hh => exact rfl
  case hA => k_mem
  case hne => k_ne
  case U => k_updF
  case ht => assumption
  intro h1 so1 tk1 zs1 F1 N1 hso1 hzs1
  (try dsimp only at N1)
  iterate 40 (first | (k_unfold; (try dsimp only)) | walk1 | (dsimp only; walk1) | (leave1; try dsimp only))
  refine' Assign_DComp ?hF ?hLe ?hsw ?hclos ?hcell ?hkind ?hnames ?hx ?hdb ?hy ?hp ?hh ?h
  case hF => k_asm
  case hLe => exact rfl
  case hsw => exact rfl
  case hclos => exact rfl
  case hcell => decide
  case hkind => exact rfl
  case hnames => decide
  case hx => exact rfl
  case hdb => exact rfl
  case hy => exact rfl
  case hp => exact rfl
  case hh => exact rfl
  case h =>
  iterate 7 (first | (k_unfold; (try dsimp only)) | walk1 | (dsimp only; walk1) | (leave1; try dsimp only))
  refine' kla_eval ?d0 ?_
  case d0 => exact rfl
  refine' lam_make [130, pc, wd, dl, nsd, ns, ps] ?F ?N ?T ?C ?cd ?U ?ht ?cl ?ho ?_
  case F => k_asm
  case N => k_asm
  case T => k_asm
  case C => exact CodeHd.keeps hC (Fr.keep (by assumption))
  case cd => exact rfl
  case ht => exact htb
  case cl => exact rfl
  case U => k_updF
  case ho =>
    intro d hd
    simp only [List.mem_cons, List.not_mem_nil, or_false] at hd
    rcases hd with rfl | rfl | rfl | rfl | rfl | rfl | rfl
    · exact ⟨fun q hq => r1 q (.tail _ (.tail _ hq)), _, by k_mem⟩
    · exact ⟨fun q hq => r2 q (.tail _ (.tail _ hq)), _, by k_mem⟩
    · exact ⟨fun q hq => r3 q (.tail _ (.tail _ hq)), _, by k_mem⟩
    · exact ⟨fun q hq => r4 q (.tail _ (.tail _ hq)), _, by k_mem⟩
    · exact ⟨fun q hq => r5 q (.tail _ (.tail _ hq)), _, by k_mem⟩
    · exact ⟨fun q hq => r6 q (.tail _ (.tail _ hq)), _, by k_mem⟩
    · exact ⟨fun q hq => r7 q (.tail _ (.tail _ hq)), _, by k_mem⟩
  intro lam cc ctv h2 tk2 tb2 rest2 F2 N2 hsub2 hoff2 htb2 hco2 llam
  generalize hlam : kla_obj _ _ _ _ _ _ _ cc ctv = oLam at N2
  have hlam2 : ∃ pm, oLam = kla_obj (Str.ofString "<lambda>") lamQ lamArgs lamBody lamScope [] pm cc ctv := ⟨_, hlam.symm⟩
  clear hlam
  have q1 := hoff2 130 (by simp)
  have q2 := hoff2 pc (by simp)
  have q3 := hoff2 wd (by simp)
  have q4 := hoff2 dl (by simp)
  have q5 := hoff2 nsd (by simp)
  have q6 := hoff2 ns (by simp)
  have q7 := hoff2 ps (by simp)
  iterate 1 (first | (k_unfold; (try dsimp only)) | walk1 | (dsimp only; walk1) | (leave1; try dsimp only))
  show wpAny _ _ (call (Value.builtin "sorted") [Value.ref _] [(Str.ofString "key", Value.ref lam)]) _ _ _
  have hzn : zs1.map (·.1) = (kvs.map (·.1)).reverse ++ [x] := by rw [hzs1]; unfold atKv; rw [List.map_map]; rfl
  have hzl : zs1.length = kvs.length + 1 := by have := congrArg List.length hzn; simpa using this
  have hnz1 : ∀ z ∈ zs1.map (·.1), NameOk z := fun z hz => hnm z (by rw [hzn] at hz; simpa [or_comm] using hz)
  refine' sorted_g (ks := zs1) ?hh ?hu ?F ?N ?hD ?hs (by lia) (by lia) ?hf ?_
  case hh => exact rfl
  case hu => ktr_units
  case F => k_asm
  case N => k_asm
  case hD => k_mem
  case hs => exact hso1
  case hf =>
    intro z tz s3 news3 Q3 hy F3 N3 hsub3 hQ3
    have hzs := hnz1 z hy
    have hin9 : (lam, oLam) ∈ news3 := hsub3 _ (by k_mem)
    obtain ⟨pm9, hpm⟩ := hlam2
    rw [hpm] at hin9
    refine' lam_one w _ _ _ _ _ _ _ _ _ _ _ s3 Q3 _ news3 rest2 lam cc _ z tz pm9 ctv ?l1 F3 ?l2 ?l3 ?l4 ?l5 ?l6 ?l7 ?l8 N3 ?l9 hco2 ?l10 hzs.2.2.1 hzs.2.1 hQ3
    case l1 => k_asm
    case l2 => k_in
    case l3 => k_asm
    case l4 => exact rfl
    case l5 => exact rfl
    case l6 => exact rfl
    case l7 => ktr_room
    case l8 => ktr_units
    case l9 => exact hin9
    case l10 => exact fun p hp => hsub3 p (by
      have hp' : List.Mem p rest2 := hp
      repeat (first | with_reducible exact hp' | apply List.Mem.tail))
  intro R3 k3 zs h3 d3' tk3 hz3 F3 N3 l3
  have hnz : ∀ z ∈ zs.map (·.1), NameOk z := fun z hz => hnz1 z ((hz3.map (·.1)).mem_iff.mp hz)
  have hznd : (zs.map (·.1)).Nodup := (hz3.map (·.1)).nodup_iff.mpr (zs_nodup hzn d1 hxk)
  have hzl3 : zs.length = kvs.length + 1 := hz3.length_eq.trans hzl
  obtain ⟨nb, N3b, mb⟩ : ∃ nb, News _ _ h3 nb ∧ ∀ p ∈ (_ : List (Addr × Obj)), p ∈ nb := ⟨_, N3, fun _ h => h⟩
  have mR3 := mb _ (.head _)
  have mlam := mb _ (.tail _ (.head _))
  have mme := mb _ (.tail _ (.tail _ (.head _)))
  have mse := mb _ (.tail _ (.tail _ (.tail _ (.tail _ (.head _)))))
  have mcq := mb _ (.tail _ (.tail _ (.tail _ (.tail _ (.tail _ (.head _))))))
  have mcs := mb _ (.tail _ (.tail _ (.tail _ (.tail _ (.tail _ (.tail _ (.head _)))))))
  have mcl : ∀ p ∈ (wCells w.params tkW t0 wd wr q pc dl nsd ns pm ps seen done pcs dts nsds nss (pss ++ [.bool false]) tb2 e0 e1 e2 e3 e4 e5 ((nn, listOf #[] n3) :: (at_, oA) :: rest2)), p ∈ nb := fun p hp => mb p (.tail _ (.tail _ (.tail _ (.tail _ (.tail _ (.tail _ (.tail _ hp)))))))
  clear mb N3 N2 F2
  (try k_sweep)
  have mwd := mcl _ (.head _)
  have mwr := mcl _ (.tail _ (.head _))
  have mnsd := mcl _ (.tail _ (.tail _ (.tail _ (.tail _ (.tail _ (.head _))))))
  have mr2 : ∀ p ∈ (nn, listOf #[] n3) :: (at_, oA) :: rest2, p ∈ nb := fun p hp => mcl p (.tail _ (.tail _ (.tail _ (.tail _ (.tail _ (.tail _ (.tail _ (.tail _ (.tail _ hp)))))))))
  refine ⟨R3, _, k3, nb, rfl, F3, N3b, mR3, by simp [strValues, sizeLine_eq]; lia, ?_⟩
  refine drest_all (n := (strValues zs).toArray.size) (P := QP nb zs s) (fun i v kv nw s9 hi hPv hP I4 oI4 C4 oC4 D4 oD4 m4 h4 tk4 E4 hNs4 hm4 F4 N4 off4 ne4 => ?turn) (fun kv nw s9 hP => ?fin) (strValues zs).toArray.size 0 [] nb _ (Nat.zero_add _) ?p0
  case p0 => exact QP.mk _ _ _ _ rfl rfl (fun p hp => absurd hp List.not_mem_nil) (fun p hp => hp) hb
  case turn =>
    obtain ⟨h9, tk9, g9, d9, rfl, hk9, hm9, hs9, hb9⟩ := hP
    obtain ⟨ne41, ne42, ne43⟩ := ne4
    have hsz9 : (strValues zs).toArray.size = zs.length := by simp [strValues]
    have hi9 : i < zs.length := by rw [← hsz9]; exact hi
    have hv4 : v = .str zs[i].1 zs[i].2 := by
      have e : (strValues zs).toArray[i]? = some (.str zs[i].1 zs[i].2) := by simp [strValues, hi9]
      exact Option.some.inj (hPv.symm.trans e)
    have hzi : NameOk zs[i].1 := hnz _ (List.mem_map_of_mem (List.getElem_mem hi9))
    have hnew : zs[i].1 ∉ kv.map (·.1) := by
      rw [hk9]
      intro q
      obtain ⟨p, hp, e⟩ := List.mem_map.mp q
      obtain ⟨j, hj, e2⟩ := List.mem_take_iff_getElem.mp hp
      have hj' : j < zs.length := by lia
      have q1 : (zs.map (·.1))[j]? = (zs.map (·.1))[i]? := by
        rw [List.getElem?_map, List.getElem?_map, List.getElem?_eq_getElem hj', List.getElem?_eq_getElem hi9]
        simp only [Option.map_some]
        rw [e2, e]
      exact absurd ((List.getElem?_inj (by simpa using hj') hznd).mp q1) (by lia)
    have htk : (zs.take (i + 1)).map (·.1) = (zs.take i).map (·.1) ++ [zs[i].1] := by rw [List.take_succ_eq_append_getElem hi9, List.map_append]; rfl
    generalize zs[i].1 = z at hv4 hzi hnew htk
    generalize zs[i].2 = tz at hv4
    subst hv4
    refine ⟨z, tz, rfl, ?_⟩
    have ncq := hs9 _ mcq
    have ncs := hs9 _ mcs
    have nme := hs9 _ mme
    have nwd := hs9 _ mwd
    have nwr := hs9 _ mwr
    have nnsd := hs9 _ mnsd
    have nR3 := hs9 _ mR3
    iterate 2 (first | (k_unfold; (try dsimp only)) | walk1 | (dsimp only; walk1) | (leave1; try dsimp only))
    refine' ld_cell ?N ?c ?m ?d ?_
    case N => k_asm
    case c => exact rfl
    case m => k_mem
    case d => assumption
    refine' callWith_M ?X ?N ?q ?hf ?_
    case X => k_in
    case N => k_asm
    case q => k_mem
    case hf => k_is
    iterate 3 (first | (k_unfold; (try dsimp only)) | walk1 | (dsimp only; walk1) | (leave1; try dsimp only))
    refine' And.intro (methP ?N ?q ?X) ?_
    case N => k_asm
    case q => k_mem
    case X => exact Frag.In.keeps (by k_in) F4.keep
    refine' call_meth ?N ?q ?_
    case N => k_asm
    case q => k_mem
    refine' qname_code _ _ _ _ _ _ _ _ _ _ _ _ _ _ _ _ _ _ _ _ _ _ wr wd nsd n0 tp _ _ _ _ _ _ _ t1 t2 tz _ n2 _ _ _ _ z ?uB ?uF ?uX ?uT ?uk ?ud ?uu ?uN ?w1 ?w2 ?w3 ?h0 ?w4 ?w5 ?w6 ?hb hzi.1 hzi.2.1 ?hQ
    case uB => k_asm
    case uF => exact F4
    case uX => k_in
    case uT => k_asm
    case uk => exact rfl
    case ud => ktr_room
    case uu => ktr_units
    case uN => exact N4
    case w1 => k_mem
    case w2 => k_mem
    case w3 => k_mem
    case h0 => simpa using g1
    case w4 => exact .tail _ (.tail _ (.tail _ (hs9 _ (mr2 _ (.tail _ (.tail _ (hsub2 _ g2)))))))
    case w5 => exact .tail _ (.tail _ (.tail _ (hs9 _ (mr2 _ (.tail _ (.tail _ (hsub2 _ g3)))))))
    case w6 =>
      intro k v hk hv
      obtain ⟨e, n, he, hm⟩ := g4 k v hk (by simpa using hv)
      refine ⟨e, n, he, .tail _ (.tail _ (.tail _ (hs9 _ (mr2 _ ?_))))⟩
      rcases List.mem_cons.mp hm with hm | hm
      · rw [hm]; exact .head _
      · exact .tail _ (.tail _ (hsub2 _ hm))
    case hb => exact hb9
    case hQ =>
    intro R5 u1 u2 u3 h5 tk5 gens5 F5 N5 l5 hbg
    refine' compEnd_push F5 N5 off4 l5 ?hS ?_
    case hS => exact .inr ⟨_, .tail _ nR3, rfl, _, rfl⟩
    refine QP.mk _ _ _ _ rfl ?_ (fun p hp => ?_) (fun p hp => .tail _ (hs9 p hp)) hbg
    · rw [stored_new hnew, List.map_append, hk9, htk]; rfl
    · rw [stored_new hnew] at hp
      rcases List.mem_append.mp hp with hp | hp
      · obtain ⟨R, u1, u2, u3, e, hm⟩ := hm9 p hp
        exact ⟨R, u1, u2, u3, e, .tail _ hm⟩
      · rw [List.mem_singleton.mp hp]
        exact ⟨R5, u1, u2, u3, rfl, .head _⟩
  case fin =>
  intro D6 oD6 h6 tk6 F6 N6 hD6 off6 lD6
  obtain ⟨h9, tk9, g9, d9, rfl, hk9, hm9, hs9, hb9⟩ := hP
  have nD6 : ∀ p ∈ nw, p.1 ≠ D6 := off6
  clear off6
  have nnn := hs9 _ (mr2 _ (.head _))
  have nat := hs9 _ (mr2 _ (.tail _ (.head _)))
  have ncs := hs9 _ mcs
  have nwd := hs9 _ mwd
  have nwr := hs9 _ mwr
  have lnw : ∀ p ∈ nw, AllLt 0 [p] → True := fun _ _ _ => trivial
  clear lnw
  have hvals : ∀ y, y ∈ x :: kvs.map (·.1) → ∃ R u1 u2 u3, PySem.valueAt kv y = some (.ref R) ∧ (R, tupOf [.str y u1, .str y u2, .str (Str.ofString "") u3]) ∈ nw := fun y hy => by
    have hkz : kv.map (·.1) = zs.map (·.1) := by rw [hk9, List.take_of_length_le (by simp [strValues])]
    have hyz : y ∈ kv.map (·.1) := by
      rw [hkz]
      refine (hz3.map (·.1)).mem_iff.mpr ?_
      rw [hzn]
      simpa [or_comm] using hy
    obtain ⟨p, hp, rfl⟩ := List.mem_map.mp hyz
    obtain ⟨R, u1, u2, u3, e, hm⟩ := hm9 p hp
    exact ⟨R, u1, u2, u3, valueAt_mem (by rw [hkz]; exact hznd) (by rw [← e]; exact hp), hm⟩
  show wpAny _ _ (execs _ _) _ _ _
  iterate 16 (first | (k_unfold; (try dsimp only)) | walk1 | (dsimp only; walk1) | (leave1; try dsimp only))
  rename_i la9 hq1 ll9 hq2 F8 N8
  obtain ⟨m0, hm0, F0⟩ : ∃ m0, m0 = _ ∧ Fr _ _ _ m0 := ⟨_, rfl, F8⟩
  have m_attrs : m0 (Str.ofString "attrs") = some (.ref at_) := by rw [hm0]; rfl
  have m_attr_list : m0 (Str.ofString "attr_list") = some (.ref la9) := by rw [hm0]; rfl
  have m_parsed_qnames : m0 (Str.ofString "parsed_qnames") = some (.ref D6) := by rw [hm0]; rfl
  have m_qattrs : m0 (Str.ofString "qattrs") = some Value.none := by rw [hm0]; rfl
  have m_tag : m0 (Str.ofString "tag") = some (.str x tx) := by rw [hm0]; rfl
  have m_qname_text : m0 (Str.ofString "qname_text") = some Value.none := by rw [hm0]; rfl
  clear F8 hm0
  refine at_mid (s := s) (v := v) (so := so) (nb := (D6, oD6) :: nw) (la := la9) (g := g9) (d := d9) F0 ?cif (fun fl s9 hM => ?tail)
  case cif =>
    by_cases hkv : kvs = []
    · have d0 : oA.IsDictOf (PySem.strKind P3 w) [] := by rw [hkv] at d1; exact d1
      have hso0 : so = [] := by rw [hkv] at hso; exact List.perm_nil.mp hso
      repeat (first | (k_unfold; (try dsimp only)) | walk1 | (dsimp only; walk1) | (leave1; try dsimp only))
      exact AtMid.mk _ _ m0 [] 0 ((D6, oD6) :: nw) (by assumption) (fun y _ _ _ _ _ => rfl) (by assumption) (fun p hp => hp) (fun p hp => Nat.ne_of_lt (ll9 p hp)) (by rw [hso0]; rfl) (fun i a p ha _ => by simp at ha)
    · obtain ⟨p1, r1, hpr⟩ : ∃ p1 r1, atKv v kvs = p1 :: r1 := by
        cases kvs with
        | nil => exact absurd rfl hkv
        | cons p r => exact ⟨_, _, rfl⟩
      have d2 : oA.IsDictOf (PySem.strKind P3 w) (p1 :: r1) := by rw [← hpr]; exact d1
      have hlen1 : (p1 :: r1).length < 1000 := by rw [← hpr]; simp only [atKv, List.length_map]; lia
      iterate 7 (first | (k_unfold; (try dsimp only)) | walk1 | (dsimp only; walk1) | (leave1; try dsimp only))
      refine For_turns F0 ?_ (by intro _; rfl)
      iterate 10 (first | (k_unfold; (try dsimp only)) | walk1 | (dsimp only; walk1) | (leave1; try dsimp only))
      refine kdx_sortedN (knd := PySem.strKind P3 w) (enc := PyData.str) (kvs := atKv v kvs) (ps := (atKv v kvs).map fun p => ((fun t => Value.str p.1 t), p.2)) rfl (by assumption) (by assumption) (by k_mem) (by k_mem) d1 (by simp only [atKv, List.length_map]; lia) (fun _ _ h => Value.isStrOf_shape h) rfl ?_
      intro lo9 l9
      refine kdxOpen_all _ _ _ fun as1 tf hal ham hao _ => ?_
      intro B9 h10 tk10 lB F10 N10
      have hak : as1.length = (atKv v kvs).length := by rw [hal, List.length_map]
      refine hlo hkv _ _ _ _ _ _ _ _ B9 as1 0 F10 N10 ?nB hak ?mB fun as2 e2 h12 hal2 ham2 F12 N12 => ?_
      case nB => exact fun p hp => Nat.ne_of_lt (lB p hp)
      case mB =>
        intro i a p ha hp
        obtain ⟨t, hm⟩ := ham i a (fun t => .str p.1 t, p.2) ha (by rw [List.getElem?_map, hp]; rfl)
        exact ⟨t, List.mem_append_left _ hm⟩
      have lla : @LT.lt Nat _ la9 B9 := lB _ (List.mem_append_right _ (.tail _ (.head _)))
      have nla : ∀ p ∈ (B9, listOf (as2.map Value.ref).toArray e2) :: (tf ++ (D6, oD6) :: nw), p.1 ≠ la9 := fun p hp => by
        rcases List.mem_cons.mp hp with rfl | hp
        · exact Nat.ne_of_gt lla
        · rcases List.mem_append.mp hp with hp | hp
          · rcases hao p hp with h | h
            · exact absurd h List.not_mem_nil
            · exact Nat.ne_of_gt (h.2 _ (.tail _ (.head _)))
          · exact Nat.ne_of_lt (ll9 p hp)
      have ham3 : ∀ (i : Nat) (a : Addr) (p : Str × Tok), as2[i]? = some a → so[i]? = some p → ∃ t, (a, tupO' p.1 t (.str v p.2)) ∈ (B9, listOf (as2.map Value.ref).toArray e2) :: (tf ++ (D6, oD6) :: nw) := fun i a p ha hp => by
        obtain ⟨t, hm⟩ := ham2 i a (p.1, .str v p.2) ha (by unfold atKv; rw [List.getElem?_map, hp]; rfl)
        refine ⟨t, .tail _ ?_⟩
        rcases List.mem_append.mp hm with hm | hm
        · exact List.mem_append_left _ hm
        · rcases List.mem_cons.mp hm with hm | hm
          · injection hm with _ e; injection e with e; simp at e
          · rcases List.mem_cons.mp hm with hm | hm
            · injection hm with _ e; injection e with e; simp at e
            · exact List.mem_append_right _ hm
      obtain ⟨nb2, N13, hb2, hsb2, nla2, ham4⟩ : ∃ nb2, News _ _ h12 ((la9, listOf #[] 0) :: nb2) ∧ (B9, listOf (as2.map Value.ref).toArray e2) ∈ nb2 ∧ (∀ p ∈ (D6, oD6) :: nw, p ∈ nb2) ∧ (∀ p ∈ nb2, p.1 ≠ la9) ∧ (∀ (i : Nat) (a : Addr) (p : Str × Tok), as2[i]? = some a → so[i]? = some p → ∃ t, (a, tupO' p.1 t (.str v p.2)) ∈ nb2) :=
        ⟨_, news_fr N12, .head _, fun p hp => .tail _ (List.mem_append_right _ hp), nla, ham3⟩
      clear N12 N10 F10 ham ham2 ham3 hao nla lB lla N8
      refine iter_listTurns (vs := as2.map Value.ref) (by with_unfolding_all rfl) F12 N13 (.tail _ hb2) (by with_unfolding_all rfl) (by with_unfolding_all rfl) ?_
      intro I9 lI
      refine items_all (P := AtI v so m0 nb2 la9 I9) (as2.map Value.ref) (fun i v9 h15 tk15 m15 n15 oI hv9 hP15 F15 hc15 N15 => ?turn2) (fun m15 n15 h15 tk15 hP15 F15 N15 => ?fin2) (as2.map Value.ref).length 0 m0 _ (Nat.zero_add _) ?p2
      case p2 => exact AtI.mk [] 0 nb2 rfl (fun p hp => hp) nla2 (fun p hp => Nat.ne_of_lt (lI p hp)) rfl (fun j a p ha _ => by simp at ha) (fun y _ _ _ _ _ => rfl)
      case fin2 =>
        obtain ⟨as3, e3, nw3, rfl, hs3, ho3, hI3, hl3, ha3, hm3⟩ := hP15
        dsimp only
        repeat (first | (k_unfold; (try dsimp only)) | walk1 | (dsimp only; walk1) | (leave1; try dsimp only))
        exact AtMid.mk _ _ m15 as3 e3 nw3 (by assumption) hm3 (by assumption) (fun p hp => hs3 _ (hsb2 p hp)) ho3 (by rw [hl3, List.length_map, hal2]; unfold atKv; rw [List.length_map]) ha3
      case turn2 =>
        obtain ⟨as3, e3, nw3, rfl, hs3, ho3, hI3, hl3, ha3, hm3⟩ := hP15
        have hi2 : i < as2.length := by
          have := (List.getElem?_eq_some_iff.mp hv9).1
          simpa using this
        have hi3 : i < so.length := by rw [hal2] at hi2; unfold atKv at hi2; simpa using hi2
        have hv10 : v9 = .ref as2[i] := by
          rw [List.getElem?_map, List.getElem?_eq_getElem hi2] at hv9
          exact (Option.some.inj hv9).symm
        obtain ⟨ty, hty⟩ := ham4 i as2[i] so[i] (List.getElem?_eq_getElem hi2) (List.getElem?_eq_getElem hi3)
        obtain ⟨R7, u1, u2, u3, hva, hR7⟩ := hvals so[i].1 (.tail _ ((hso.map (·.1)).mem_iff.mp (List.mem_map_of_mem (List.getElem_mem hi3))))
        have hye : so[i]? = some so[i] := List.getElem?_eq_getElem hi3
        generalize so[i] = y9 at hty hva hR7 hye
        generalize as2[i] = a9 at hv10 hty
        subst hv10
        have ity := hs3 _ hty
        have nI9 : @Ne Nat la9 I9 := hI3 _ (.head _)
        have hz9 : as3.length ≤ 6 := by have := hso.length_eq; lia
        have iR7 := hs3 _ (hsb2 _ (.tail _ hR7))
        have iD6 := hs3 _ (hsb2 _ (.head _))
        have i_attr_list : m15 (Str.ofString "attr_list") = some (.ref la9) := (hm3 _ (by decide) (by decide) (by decide) (by decide) (by decide)).trans m_attr_list
        have i_parsed_qnames : m15 (Str.ofString "parsed_qnames") = some (.ref D6) := (hm3 _ (by decide) (by decide) (by decide) (by decide) (by decide)).trans m_parsed_qnames
        have i_qattrs : m15 (Str.ofString "qattrs") = some Value.none := (hm3 _ (by decide) (by decide) (by decide) (by decide) (by decide)).trans m_qattrs
        repeat (first | (k_unfold; (try dsimp only)) | walk1 | (dsimp only; walk1) | (leave1; try dsimp only))
        rename_i D9 hA FA NA lD9 h16 F16 N16
        have iB := hs3 _ hb2
        refine ⟨h16, tk, _, (la9, W.listOf (as3.map Value.ref ++ [Value.ref D9]).toArray (e3 + 1)) :: (D9, tupO' y9.1 u2 (.str v y9.2)) :: nw3, rfl, F16, fun p hp => N16 p ?nn, fun p hp q hq => ?off, ⟨by k_subL, ?ati⟩⟩
        case nn =>
          rcases List.mem_cons.mp hp with rfl | hp
          · exact .tail _ (.head _)
          · rcases List.mem_cons.mp hp with rfl | hp
            · exact .tail _ (.tail _ (.head _))
            · rcases List.mem_cons.mp hp with rfl | hp
              · exact .head _
              · exact .tail _ (.tail _ (.tail _ hp))
        case off =>
          rw [List.mem_singleton.mp hq]
          rcases List.mem_cons.mp hp with rfl | hp
          · exact nI9
          · rcases List.mem_cons.mp hp with rfl | hp
            · exact Nat.ne_of_gt (lD9 _ (.head _))
            · exact hI3 _ (.tail _ hp)
        case ati =>
          refine AtI.mk (as3 ++ [D9]) (e3 + 1) ((D9, tupO' y9.1 u2 (.str v y9.2)) :: nw3) (by rw [List.map_append]; rfl) (fun p hp => .tail _ (hs3 _ hp)) (List.forall_mem_cons.2 ⟨Nat.ne_of_gt (lD9 _ (.tail _ (.head _))), ho3⟩) (fun p hp => ?_) (by rw [List.length_append, hl3]; rfl) (fun j a p ha hp => ?_) (fun y e1 e2 e3 e4 e5 => ?_)
          · rcases List.mem_cons.mp hp with rfl | hp
            · exact nI9
            · rcases List.mem_cons.mp hp with rfl | hp
              · exact Nat.ne_of_gt (lD9 _ (.head _))
              · exact hI3 _ (.tail _ hp)
          · by_cases hj : j < as3.length
            · rw [List.getElem?_append_left hj] at ha
              obtain ⟨t, t', hm⟩ := ha3 j a p ha hp
              exact ⟨t, t', .tail _ hm⟩
            · have hj2 : j = as3.length := by
                have := (List.getElem?_eq_some_iff.mp ha).1
                rw [List.length_append, List.length_singleton] at this
                lia
              subst hj2
              rw [List.getElem?_append_right (Nat.le_refl _), Nat.sub_self] at ha
              rw [hl3, hye] at hp
              have ea : D9 = a := Option.some.inj ha
              have ep : y9 = p := Option.some.inj hp
              subst ea; subst ep
              exact ⟨_, _, .head _⟩
          · show (if y = Str.ofString "uri" then _ else _) = _
            rw [if_neg e5]
            show (if y = Str.ofString "attr_name" then _ else _) = _
            rw [if_neg e4]
            show (if y = Str.ofString "attr_qname" then _ else _) = _
            rw [if_neg e3]
            show (if y = Str.ofString "v" then _ else _) = _
            rw [if_neg e2]
            show (if y = Str.ofString "k" then _ else _) = _
            rw [if_neg e1]
            exact hm3 y e1 e2 e3 e4 e5
  case tail =>
  obtain ⟨h16, tk16, m16, as, e16, nw6, F16, hm16, N16, hs16, ho16, hl16, ha16⟩ := hM
  dsimp only
  have j_attrs : m16 (Str.ofString "attrs") = some (.ref at_) := (hm16 _ (by decide) (by decide) (by decide) (by decide) (by decide)).trans m_attrs
  have j_attr_list : m16 (Str.ofString "attr_list") = some (.ref la9) := (hm16 _ (by decide) (by decide) (by decide) (by decide) (by decide)).trans m_attr_list
  have j_parsed_qnames : m16 (Str.ofString "parsed_qnames") = some (.ref D6) := (hm16 _ (by decide) (by decide) (by decide) (by decide) (by decide)).trans m_parsed_qnames
  have j_tag : m16 (Str.ofString "tag") = some (.str x tx) := (hm16 _ (by decide) (by decide) (by decide) (by decide) (by decide)).trans m_tag
  have j_qname_text : m16 (Str.ofString "qname_text") = some Value.none := (hm16 _ (by decide) (by decide) (by decide) (by decide) (by decide)).trans m_qname_text
  have inw : ∀ p ∈ nw, p ∈ nw6 := fun p hp => hs16 _ (.tail _ hp)
  have inb : ∀ p ∈ nb, p ∈ nw6 := fun p hp => inw _ (hs9 p hp)
  obtain ⟨Rx, ux1, ux2, ux3, hvx, hRx⟩ := hvals x (.head _)
  have c_wd := mcl _ (.head _)
  have c_wr := mcl _ (.tail _ (.head _))
  have c_q := mcl _ (.tail _ (.tail _ (.head _)))
  have c_pc := mcl _ (.tail _ (.tail _ (.tail _ (.head _))))
  have c_dl := mcl _ (.tail _ (.tail _ (.tail _ (.tail _ (.head _)))))
  have c_nsd := mcl _ (.tail _ (.tail _ (.tail _ (.tail _ (.tail _ (.head _))))))
  have c_ns := mcl _ (.tail _ (.tail _ (.tail _ (.tail _ (.tail _ (.tail _ (.head _)))))))
  have c_ps := mcl _ (.tail _ (.tail _ (.tail _ (.tail _ (.tail _ (.tail _ (.tail _ (.head _))))))))
  have c_tab := mcl _ (.tail _ (.tail _ (.tail _ (.tail _ (.tail _ (.tail _ (.tail _ (.tail _ (.head _)))))))))
  have y_wd := inb _ c_wd
  have y_pc := inb _ c_pc
  have y_ns := inb _ c_ns
  have y_ps := inb _ c_ps
  have lpc : pc < la9 := ll9 _ (.tail _ (hs9 _ c_pc))
  have lwd : wd < la9 := ll9 _ (.tail _ (hs9 _ c_wd))
  have lns : ns < la9 := ll9 _ (.tail _ (hs9 _ c_ns))
  have lps : ps < la9 := ll9 _ (.tail _ (hs9 _ c_ps))
  obtain ⟨nx, N17, fx, gx⟩ := cut4 N16 y_wd y_pc y_ns y_ps
  have N6' : News _ _ h16 nw6 := fun p hp => N16 p (.tail _ hp)
  have xat : (at_, oA) ∈ nx := fx _ (inb _ (mr2 _ (.tail _ (.head _)))) (r3 _ (.tail _ (.head _))) (r2 _ (.tail _ (.head _))) (r6 _ (.tail _ (.head _))) (r7 _ (.tail _ (.head _)))
  have xnn : (nn, listOf #[] n3) ∈ nx := fx _ (inb _ (mr2 _ (.head _))) (r3 _ (.head _)) (r2 _ (.head _)) (r6 _ (.head _)) (r7 _ (.head _))
  have xr2 : ∀ p ∈ rest2, p ∈ nx := fun p hp => fx _ (inb _ (mr2 _ (.tail _ (.tail _ hp)))) (q3 p hp) (q2 p hp) (q6 p hp) (q7 p hp)
  have xD6 : (D6, oD6) ∈ nx := fx _ (hs16 _ (.head _)) (Ne.symm (nD6 _ (hs9 _ c_wd))) (Ne.symm (nD6 _ (hs9 _ c_pc))) (Ne.symm (nD6 _ (hs9 _ c_ns))) (Ne.symm (nD6 _ (hs9 _ c_ps)))
  have xRx : (Rx, tupOf [.str x ux1, .str x ux2, .str (Str.ofString "") ux3]) ∈ nx := fx _ (inw _ hRx) (news_ne N6' (inw _ hRx) y_wd (by simp [tupOf, dictOf])) (news_ne N6' (inw _ hRx) y_pc (by simp [tupOf, W.listOf])) (news_ne N6' (inw _ hRx) y_ns (by simp [tupOf, W.listOf])) (news_ne N6' (inw _ hRx) y_ps (by simp [tupOf, W.listOf]))
  have xcs := fx _ (inb _ mcs) (by k_ne) (by k_ne) (by k_ne) (by k_ne)
  have xwr := fx _ (inb _ c_wr) (by k_ne) (by k_ne) (by k_ne) (by k_ne)
  have xq := fx _ (inb _ c_q) (by k_ne) (by k_ne) (by k_ne) (by k_ne)
  have xdl := fx _ (inb _ c_dl) (by k_ne) (by k_ne) (by k_ne) (by k_ne)
  have xnsd := fx _ (inb _ c_nsd) (by k_ne) (by k_ne) (by k_ne) (by k_ne)
  have xtab := fx _ (inb _ c_tab) (by k_ne) (by k_ne) (by k_ne) (by k_ne)
  have xtp : ∀ (i : Nat) (a : Addr) (p : Str × Tok), as[i]? = some a → so[i]? = some p → ∃ t t', (a, tupO' p.1 t (.str v t')) ∈ nx := fun i a p ha hp => by
    obtain ⟨t, t', hm⟩ := ha16 i a p ha hp
    exact ⟨t, t', fx _ hm (news_ne N6' hm y_wd (by simp [dictOf])) (news_ne N6' hm y_pc (by simp [W.listOf])) (news_ne N6' hm y_ns (by simp [W.listOf])) (news_ne N6' hm y_ps (by simp [W.listOf]))⟩
  have gwd : ∀ p ∈ nx, p.1 ≠ wd := fun p hp => (gx p hp).1
  have gpc : ∀ p ∈ nx, p.1 ≠ pc := fun p hp => (gx p hp).2.1
  have gns : ∀ p ∈ nx, p.1 ≠ ns := fun p hp => (gx p hp).2.2.1
  have gps : ∀ p ∈ nx, p.1 ≠ ps := fun p hp => (gx p hp).2.2.2.1
  clear N16 N6' fx gx y_wd y_pc y_ns y_ps inb inw
  iterate 9 (first | (k_unfold; (try dsimp only)) | walk1 | (dsimp only; walk1) | (leave1; try dsimp only))
  rename (News _ _ _ _) => N18
  have hl : x.length ≤ 1024 := (hnm x (.head _)).2.1
  refine' kdg_get1 (knd := PySem.strKind P3 w) N18 ?hp d1 d3 (PySem.strKind_is _ _ _ _) none ?hl ?_
  case hp => k_mem
  case hl =>
    unfold PySem.valueAt
    have e : (atKv v kvs).find? (fun kv => decide (kv.1 = Str.ofString "{http://www.w3.org/XML/1998/namespace}space")) = none := by
      rw [List.find?_eq_none]
      intro p hp q
      obtain ⟨p2, hp2, rfl⟩ := List.mem_map.mp hp
      have := (hnm p2.1 (.tail _ (List.mem_map_of_mem hp2))).2.2.2
      rw [of_decide_eq_true q] at this
      simp at this
    rw [e]; rfl
  show wpAny _ _ (storeName _ _ Value.none) _ _ _
  iterate 54 (first | (k_unfold; (try dsimp only)) | walk1 | (dsimp only; walk1) | (leave1; try dsimp only))
  rename_i tq9 kq9 aq9 h17 F17 N17a
  rw [strValues_push] at N17a
  have has6 : as.length ≤ 6 := by have := hso.length_eq; lia
  refine pc_mid (s := s) (X0 := pcs ++ [(Str.ofString "<" ++ x, tq9)]) (so := so) (ev := ev) (g := g9) (d := d9) F17 N17a ?cpc (fun fl s10 hM2 => ?tail2)
  case cpc =>
    by_cases hsn : so = []
    · have has : as = [] := List.eq_nil_of_length_eq_zero (by rw [hl16, hsn]; rfl)
      subst has
      simp only [List.map_nil] at N17a
      repeat (first | (k_unfold; (try dsimp only)) | walk1 | (dsimp only; walk1) | (leave1; try dsimp only))
      refine PcMid.mk _ _ 0 (e1 + 1) (by assumption) ?_
      rw [show atPcs so ev 0 = [] from if_pos hsn, List.append_nil]
      assumption
    · have hasn : as ≠ [] := fun e => hsn (List.eq_nil_of_length_eq_zero (by rw [← hl16, e]; rfl))
      iterate 17 (first | (k_unfold; (try dsimp only)) | walk1 | (dsimp only; walk1) | (leave1; try dsimp only))
      refine' LCp.ListComp_P (F₀ := by k_asm) (by with_unfolding_all rfl) (by decide) (by rfl) (by decide) (by rfl) (by rfl) (by decide) ?_
      iterate 1 (first | (k_unfold; (try dsimp only)) | walk1 | (dsimp only; walk1) | (leave1; try dsimp only))
      rename (News _ _ _ _) => N15
      rename (Fr _ _ _ _) => F15
      obtain ⟨nl, hnl, N15b⟩ : ∃ nl, nl = _ ∧ News _ _ _ nl := ⟨_, rfl, N15⟩
      have knl : ∀ p ∈ nx, p ∈ nl := fun p hp => by rw [hnl]; exact .tail _ (.tail _ (.tail _ (.tail _ (.tail _ hp))))
      have kla : (la9, W.listOf (as.map Value.ref).toArray e16) ∈ nl := by rw [hnl]; exact .head _
      clear N15
      refine' LCp.SrcLP.ledger ?hh F15 N15b ?hm ?hz ?_
      case hh => exact rfl
      case hm => exact kla
      case hz => simp [sizeLine_eq]; lia
      intro g15
      refine compP_all (P := CP nl so ev) (fun i v9 ys nw9 hv9 hP9 => ?turn3) (fun ys nw9 hP9 => ?fin3) ((as.map Value.ref).toArray).size 0 [] nl (Nat.zero_add _) (CP.mk [] rfl rfl rfl)
      case turn3 =>
        obtain ⟨l9, rfl, hl9, rfl⟩ := hP9
        have hle : ev.length ≤ 100 := hav.len.2
        have hi2 : i < as.length := by
          have := (Array.getElem?_eq_some_iff.mp hv9).1
          simpa using this
        have hi3 : i < so.length := by rw [← hl16]; exact hi2
        have hv10 : v9 = .ref as[i] := by
          rw [List.getElem?_toArray, List.getElem?_map, List.getElem?_eq_getElem hi2] at hv9
          exact (Option.some.inj hv9).symm
        obtain ⟨ty, ty', hty⟩ := xtp i as[i] so[i] (List.getElem?_eq_getElem hi2) (List.getElem?_eq_getElem hi3)
        have hly : so[i].1.length ≤ 1024 := (hnm _ (.tail _ ((hso.map (·.1)).mem_iff.mp (List.mem_map_of_mem (List.getElem_mem hi3))))).2.1
        have htk9 : (so.take (i + 1)).map (fun p => atOne ev p.1) = (so.take i).map (fun p => atOne ev p.1) ++ [atOne ev so[i].1] := by rw [List.take_succ_eq_append_getElem hi3, List.map_append]; rfl
        generalize so[i].1 = y9 at hty hly htk9
        generalize as[i] = a9 at hv10 hty
        subst hv10
        refine ⟨_, _, Value.str y9 ty, Value.str v ty', _, rfl, knl _ hty, rfl, rfl, ?_⟩
        intro I15 oI15 C15 oC15 D15 m15b h15 tk15 E15 hNs15 hmx15 hmy15 F16b N16b off16 ne15
        obtain ⟨ne151, ne152, ne153⟩ := ne15
        have hb1 : (Str.ofString " ").length ≤ 1 := by decide +kernel
        have hb2 : (Str.ofString "=\"").length ≤ 2 := by decide +kernel
        have hb3 : (Str.ofString "\"").length ≤ 1 := by decide +kernel
        have hc1 := slx hb1 hly
        have hc2 := slx hc1 hb2
        have hc3 := slx hc2 hle
        have hc4 := slx hc3 hb3
        have hd1 := Nat.le_trans hc1 (show _ ≤ sizeLine by rw [sizeLine_eq]; decide)
        have hd2 := Nat.le_trans hc2 (show _ ≤ sizeLine by rw [sizeLine_eq]; decide)
        have hd3' := Nat.le_trans hc3 (show _ ≤ sizeLine by rw [sizeLine_eq]; decide)
        have hd4 := Nat.le_trans hc4 (show _ ≤ sizeLine by rw [sizeLine_eq]; decide)
        clear hc1 hc2 hc3 hc4 hb1 hb2 hb3
        iterate 29 (first | (k_unfold; (try dsimp only)) | walk1 | (dsimp only; walk1) | (leave1; try dsimp only))
        show wpAny _ _ (mkStr _) _ _ _
        refine' wpAny_mkStr ?_ ?hsz
        case hsz => exact Nat.le_trans (atOne_len hly hle) (by rw [sizeLine_eq]; decide)
        rename (News _ _ _ _) => N17
        rename (Fr _ _ _ _) => F17
        refine' LCg.CompEnd.intro F17 N17 nw9 (fun p hp => hp) off16 ?S ?_
        case S => exact .inr ⟨_, kla, rfl, _, rfl⟩
        exact CP.mk (l9 ++ [(atOne ev y9, _)]) (by simp only [strValues, List.map_append]; rfl) (by rw [List.map_append, hl9, htk9]; rfl) rfl
      case fin3 =>
        obtain ⟨l9, rfl, hl9, hnw⟩ := hP9
        intro D18 h18 tk18 F18 N18 off18
        rw [hnw, hnl] at N18
        have hl10 : l9.map (·.1) = so.map fun p => atOne ev p.1 := by rw [hl9, List.take_of_length_le (by simp [hl16])]
        have hcl : (catS (so.map fun p => atOne ev p.1)).length ≤ 7200 := by
          refine Nat.le_trans (catS_len 1200 _ fun z hz => ?_) (by rw [List.length_map]; have := hso.length_eq; lia)
          obtain ⟨p, hp, rfl⟩ := List.mem_map.mp hz
          exact atOne_len (hnm _ (.tail _ ((hso.map (·.1)).mem_iff.mp (List.mem_map_of_mem hp)))).2.1 hav.len.2
        iterate 1 (first | (k_unfold; (try dsimp only)) | walk1 | (dsimp only; walk1) | (leave1; try dsimp only))
        refine join_led' (l := l9) N18 (.head _) ?hz (x := catS (so.map fun p => atOne ev p.1)) ?hx ?hg ?hh
        case hz => rw [hl10, fold_len']; exact decide_eq_false (by rw [sizeLine_eq]; lia)
        case hx => rw [hl10, glued_cat]
        case hg => rw [sizeLine_eq]; lia
        case hh =>
        intro uj tkj _
        have N19 := newsSub N18 (fun p hp => .tail _ hp)
        clear N18 hnw hnl N15b knl kla off18
        repeat (first | (k_unfold; (try dsimp only)) | walk1 | (dsimp only; walk1) | (leave1; try dsimp only))
        refine PcMid.mk _ _ uj (e1 + 1 + 1) (by assumption) ?_
        rw [show atPcs so ev uj = [(catS (so.map fun p => atOne ev p.1), uj)] from if_neg hsn, ← strValues_push]
        assumption
  case tail2 =>
  obtain ⟨h18, tk18, t3, f18, F18, N18⟩ := hM2
  dsimp only
  clear N17a
  generalize hX1 : pcs ++ [(Str.ofString "<" ++ x, tq9)] ++ atPcs so ev t3 = X1 at N18
  have hX1l : X1.length ≤ 1002 := by
    rw [← hX1, List.length_append, List.length_append, List.length_singleton]
    unfold atPcs
    split <;> simp <;> lia
  repeat (first | (k_unfold; (try dsimp only)) | walk1 | (dsimp only; walk1) | (leave1; try dsimp only))
  rename (News h₀ L _ _) => N20
  rename (∀ p : Addr × Obj, p ∈ _ → p.1 < _) => l20
  have W0 : WOff wd pc dl nsd ns ps ((nn, listOf #[] n3) :: (at_, oA) :: rest2) := ⟨mkAB r1 q1, mkAB r2 q2, mkAB r3 q3, mkAB r4 q4, mkAB r5 q5, mkAB r6 q6, mkAB r7 q7⟩
  obtain ⟨lf, restf, Nf, Wf, mf1, mf2, mf3, sf⟩ := fin_start3 (rest := rest2) N20 (.head _) (by k_mem) (by k_mem) (by k_mem) (by k_mem) (by k_mem) (by k_mem) (by k_mem) (by k_mem) (by k_mem) (by k_mem) (by k_mem) (fun p hp => .tail _ (.tail _ (.tail _ (.tail _ (.tail _ (.tail _ (xr2 p hp))))))) strValues_push (Nat.ne_of_gt (l20 _ (.tail _ (.tail _ (.tail _ (.tail _ (.tail _ xtab))))))) (by k_ne) (by k_ne) (Nat.ne_of_gt (l20 _ (.tail _ (.tail _ (.tail _ (.tail _ (.tail _ xdl))))))) (Nat.ne_of_gt (l20 _ (.tail _ (.tail _ (.tail _ (.tail _ (.tail _ xnsd))))))) (by k_ne) (by k_ne) W0
  subst hX1
  exact hQ lf restf _ _ _ tb2 _ _ _ _ _ _ _ (by assumption) Nf Wf (.inr ⟨cc, htb2, hco2.mono sf⟩) mf1 mf2 (fun p hp => sf p (hsub2 p hp)) hb9
end
theorem topOff8 : True := by
  w_top off
  trivial
section
open PySem PySem.W PyProof.Rows PySem.Calls PySem.Spec
def penL (b : Bool) (td : Tok) : List (Str × Tok) := if b then [(Str.ofString "<a></a>", td)] else []
def penT (b : Bool) : Str := if b then Str.ofString "&lt;a&gt;&lt;/a&gt;" else Str.ofString ""
def tagS (k : Nat) : Str := if k < 2 then Str.ofString "a" else Str.ofString "b"
def begU (k : Nat) : Str := if k = 0 then Str.ofString "<a>" else if k = 1 then Str.ofString "<a k=\"&lt;a>&lt;/a>\">" else Str.ofString "<b>"
noncomputable def AttrOk (w : World) (k : Nat) (oA : Obj) : Prop := if k = 1 then ∃ tv, oA.IsDictOf (PySem.strKind P3 w) [(Str.ofString "k", .str (Str.ofString "<a></a>") tv)] else oA.IsDictOf (PySem.strKind P3 w) []
theorem tag_cases {k : Nat} (h : k < 3) : (k = 0 ∨ k = 1 ∨ k = 2) := by lia
theorem tag_len (k : Nat) : (tagS k).length ≤ 1024 := by unfold tagS; split <;> decide +kernel
theorem tag_bare (k : Nat) : ¬ ((Txt.slice (tagS k) none (some 1) == Str.ofString "{") = true) := by unfold tagS; split <;> decide +kernel
theorem tag_split (k : Nat) : Txt.splitMax (tagS k) (Str.ofString "}") 1 = [tagS k] := by unfold tagS; split <;> decide +kernel
theorem tag_name (k : Nat) : NameOk (tagS k) := ⟨tag_bare k, tag_len k, tag_split k, by unfold tagS; split <;> decide +kernel⟩
theorem star_nil {w : World} {at_ : Nat} {oA : Obj} {x : Str} (hd : oA.IsDictOf (PySem.strKind P3 w) []) (hsm : (at_ == sysModules) = false) : StarOf w at_ oA [] x := by
  intro A E s Q h₀ L m news g D tx t F N hh hA hne U ht h
  obtain ⟨pre, post, rfl, hg, a, b⟩ := U.split
  refine star0 F N hh hA hd hsm (List.mem_append_right _ (.head _)) ht fun h' F' N' => h h' _ _ [(x, tx)] F' (by rw [hg]; exact N') (tset_one ht) rfl
theorem star_one {w : World} {at_ : Nat} {oA : Obj} {x k : Str} {v : Value} (hd : oA.IsDictOf (PySem.strKind P3 w) [(k, v)]) (hsm : (at_ == sysModules) = false) (hxk : k ≠ x) : StarOf w at_ oA [(k, v)] x :=
  fun _ _ _ _ _ _ _ _ _ _ _ _ F N hh hA hne U ht h => star1T F N hh hA hd hsm hne hxk U ht fun h' so' tk' _ F' N' hs => h h' so' tk' _ F' N' hs rfl
theorem lsort_o {w : World} {p : Str × Value} : LSortOf w [p] [p] := by
  intro A E s Q h₀ L m news c as e F N hc hl hm h
  obtain ⟨a, rfl⟩ := List.length_eq_one_iff.mp hl
  have nz := N _ (.head _)
  exact wpAny_call_entry slot_list_sort ⟨_, nz.1, rfl⟩ entry_list_sort (lsort_one0 F (fun p hp => N p (.tail _ hp)) nz.1 nz.2.1 nz.2.2 hc fun e1 h' F' N' => ⟨_, rfl, h [a] e1 h' rfl hm F' N'⟩) (args_list_sort _)
inductive AtPack (w : World) (k at_ : Nat) (oA : Obj) : Prop
  | mk (kvs : List (Str × Tok)) (hnm : ∀ n ∈ tagS k :: kvs.map (·.1), NameOk n) (hxk : tagS k ∉ kvs.map (·.1)) (hk6 : kvs.length ≤ 1) (hst : StarOf w at_ oA (atKv (Str.ofString "<a></a>") kvs) (tagS k)) (hlo : kvs ≠ [] → LSortOf w (atKv (Str.ofString "<a></a>") kvs) (atKv (Str.ofString "<a></a>") kvs)) (d1 : oA.IsDictOf (PySem.strKind P3 w) (atKv (Str.ofString "<a></a>") kvs))
      (hcat : ∀ t1 t2 t3, catS (((Str.ofString "<" ++ tagS k, t1) :: (atPcs kvs (Str.ofString "&lt;a>&lt;/a>") t3 ++ [(Str.ofString ">", t2)])).map (·.1)) = begU k) (hl : ∀ t3, (atPcs kvs (Str.ofString "&lt;a>&lt;/a>") t3).length ≤ 1) : AtPack w k at_ oA
theorem at_pack {w : World} {k at_ : Nat} {oA : Obj} (hk : k < 3) (h : AttrOk w k oA) (hsm : (at_ == sysModules) = false) : AtPack w k at_ oA := by
  have hn := tag_name k
  unfold AttrOk at h
  split at h
  · obtain ⟨tv, h⟩ := h
    rename_i hk1
    subst hk1
    have nk : NameOk (Str.ofString "k") := ⟨by decide +kernel, by decide +kernel, by decide +kernel, by decide +kernel⟩
    have ne : Str.ofString "k" ≠ tagS 1 := by decide +kernel
    refine .mk [(Str.ofString "k", tv)] (List.forall_mem_cons.2 ⟨hn, List.forall_mem_cons.2 ⟨nk, fun _ h => absurd h List.not_mem_nil⟩⟩) (fun h => ne (List.mem_singleton.mp h).symm) (by simp) (star_one h hsm ne) (fun _ => lsort_o) h (fun t1 t2 t3 => ?_) (fun t3 => ?_)
    · simp only [atPcs, if_neg (List.cons_ne_nil _ _), List.cons_append, List.nil_append, List.map, catS]
      decide +kernel
    · simp [atPcs]
  · refine .mk [] (List.forall_mem_cons.2 ⟨hn, fun _ h => absurd h List.not_mem_nil⟩) (by simp) (by simp) (star_nil h hsm) (fun h => absurd rfl h) h (fun t1 t2 t3 => ?_) (fun t3 => ?_)
    · simp only [atPcs, if_pos, List.nil_append, List.map, catS]
      obtain rfl | rfl | rfl := tag_cases hk
      · decide +kernel
      · exact absurd rfl (by assumption)
      · decide +kernel
    · simp [atPcs]
end
local macro_rules | `(tactic| size_fits) => `(tactic| (first | decide | (simp only [sizeLine_eq]; walk_at "AR0")))
theorem topOff9 : True := by
  w_top off
  trivial
section
open PySem PySem.W PyProof.Rows PySem.Calls PySem.Spec
theorem NsOk.push4 {nsds : List Value} {rest : List (Addr × Obj)} {nn n3 : Nat} (d : ∀ (k : Nat) (v : Value), 0 < k → nsds[k]? = some v → ∃ e n, v = .ref e ∧ (e, listOf #[] n) ∈ rest) (h0 : nsds ≠ []) : ∀ (k : Nat) (v : Value), 0 < k → (nsds ++ [.ref nn])[k]? = some v → ∃ e n, v = .ref e ∧ (e, listOf #[] n) ∈ (nn, listOf #[] n3) :: rest := by
  intro k v hk hv
  by_cases hlt : k < nsds.length
  · rw [List.getElem?_append_left hlt] at hv
    obtain ⟨e, n, x, y⟩ := d k v hk hv
    exact ⟨e, n, x, .tail _ y⟩
  · rw [List.getElem?_append_right (by walk_at "AR")] at hv
    cases hz : k - nsds.length with
    | zero => rw [hz] at hv; simp at hv; exact ⟨nn, n3, hv.symm, .head _⟩
    | succ j => rw [hz] at hv; simp at hv
inductive FlMid (h₀ : Heap) (L : Addr) (s₁ : Shared) (m' : Str → Option Value) (C : Bool → List (Str × Tok) → Nat → Nat → List (Addr × Obj)) (seen pend : Bool) : Flow → Shared → Prop
  | mk (h : Heap) (tk : Nat) (seen' : Bool) (new : List (Str × Tok)) (f1 f2 : Nat) (F : Fr h₀ L h m') (N : News h₀ L h (C seen' new f1 f2)) (hs : seen = true → seen' = true) (hc : catS (new.map (·.1)) = penT pend) (hl : new.length ≤ 1) : FlMid h₀ L s₁ m' C seen pend .next { s₁ with heap := h, toks := tk }
theorem fl_mid {M : Model} {A : Around} {t : Sem Flow} {E : Value → Shared → Prop} {Q : Flow → Shared → Prop} {s s9 : Shared} {h₀ h : Heap} {L : Addr} {m' : Str → Option Value} {C : Bool → List (Str × Tok) → Nat → Nat → List (Addr × Obj)} {seen pend : Bool} (_F : Fr h₀ L h m')
    (h1 : wpAny M A t (FlMid h₀ L s m' C seen pend) E s9) (h2 : ∀ fl s', FlMid h₀ L s m' C seen pend fl s' → Q fl s') : wpAny M A t Q E s9 := wpAny_mono h1 h2 fun _ _ x => x
set_option maxHeartbeats 4000000 in
theorem startU_c (w : World) (dp un : Nat) (gd : Option (List Code)) (cn : Str) (cs : Scope) (a : Addr) (ccd : Value) (cl : List (Str × Addr)) (outer : List Env) (A₀ : Around) (base h₀ : Heap) (L : Addr) (m mg mb : Str → Option Value) (mean : ExcName → Option Value) (s : Shared) (Q E : Value → Shared → Prop)
    (rest : List (Addr × Obj)) (tkW : Nat → Tok) (t0 : Tok) (wd wr q pc dl nsd ns pm ps : Nat) (seen done : Bool) (pcs : List (Str × Tok)) (nsds nss pss : List Value) (tb : Array Value) (e0 e1 e2 e3 e4 e5 : Nat) (k : Nat) (pend : Bool) (td tx : Tok) (at_ : Nat) (oA : Obj)
    (B : Below A₀ base outer h₀) (F : Fr h₀ L s.heap m) (X : (hd3.heap_39 w.params).In h₀) (T : Top topProg lo3 mean mg mb h₀)
    (hk : cs.kind = .function) (hd : dp + 60 < recursionLimit) (hu : un + 900 < cLine)
    (N : News h₀ L s.heap (wCells w.params tkW t0 wd wr q pc dl nsd ns pm ps seen done pcs (penL pend td) nsds nss (pss ++ [Value.bool false]) tb e0 e1 e2 e3 e4 e5 ((at_, oA) :: rest)))
    (ho : WOrd wd wr q pc dl nsd ns pm ps) (hr : WOff wd pc dl nsd ns ps ((at_, oA) :: rest)) (hpc : pcs.length ≤ 990)
    (hn : NsOk nsds rest) (hb : AllBare s.gens) (hkk : k < 3) (hpe : pend = true → seen = true) (hat : AttrOk w k oA) (d3 : (at_ == sysModules) = false) (d4 : ps < at_) (hps : pss.length < 1000) (hns : nss.length < 1000) (hnd : nsds.length < 1000) (hC : CodeHd h₀ 132 130) (htb : TabSt lamPos lamQ tb rest)
    (hQ : ∀ (nn l' : Nat) (rest' : List (Addr × Obj)) (new : List (Str × Tok)) tb' f1 f2 f3 f4 f5 h' tk' gens' d', Fr h₀ L h' m → News h₀ L h' (wCells w.params tkW t0 wd wr q pc dl nsd ns pm ps true done (pcs ++ new) [] (nsds ++ [Value.ref nn]) (nss ++ [Value.ref l']) (pss ++ [Value.bool false] ++ [Value.bool false]) tb' e0 f1 f2 f3 f4 f5 rest') → WOff wd pc dl nsd ns ps rest' → TabSt lamPos lamQ tb' rest' → NsOk (nsds ++ [Value.ref nn]) rest' → (∀ p ∈ rest, p ∈ rest') → AllBare gens' → catS (new.map (·.1)) = penT pend ++ begU k → new.length ≤ 4 → Q .none { s with heap := h', toks := tk', gens := gens', drawn := d' }) :
    wpAny (model P3 w) (ktrTop dp un gd cn cs L a ccd cl outer) (call (.ref 127) [.ref wr, .str (tagS k) tx, .ref at_]) Q E s := by
  obtain ⟨kvs, hnm, hxk, hk6, hst, hlo, d1, hcat, hal⟩ := at_pack hkk hat d3
  have hr0 := hr
  obtain ⟨r1, r2, r3, r4, r5, r6, r7⟩ := hr
  dsimp only [wCells] at N
  refine wpAny_call ?_
  k_dflt k_enter
  obtain ⟨n0, n2, tp, t1, t2, g1, g2, g3, g4⟩ := id hn
  iterate 16 (first | (k_unfold; (try dsimp only)) | walk1 | (dsimp only; walk1) | (leave1; try dsimp only))
  rename (Fr _ _ _ _) => F5
  rename (News _ _ _ _) => N5
  refine fl_mid (s := s) (C := (fun se new f1 f2 => wCells w.params tkW t0 wd wr q pc dl nsd ns pm ps se done (pcs ++ new) [] nsds nss (pss ++ [Value.bool false]) tb e0 f1 f2 e3 e4 e5 ((at_, oA) :: rest))) (seen := seen) (pend := pend) F5 ?cif (fun fl s6 hM => ?tail)
  case cif =>
    cases pend with
    | false =>
      rw [show penL false td = [] from rfl] at N5
      repeat (first | (k_unfold; (try dsimp only)) | walk1 | (dsimp only; walk1) | (leave1; try dsimp only))
      exact FlMid.mk _ _ seen [] _ _ (by assumption) (by rw [List.append_nil]; dsimp only [wCells]; assumption) id rfl (Nat.zero_le _)
    | true =>
      obtain rfl := hpe rfl
      rw [show penL true td = [(Str.ofString "<a></a>", td)] from rfl] at N5
      iterate 14 (first | (k_unfold; (try dsimp only)) | walk1 | (dsimp only; walk1) | (leave1; try dsimp only))
      show wpAny _ _ (call (Value.ref 113) [Value.ref wr]) _ _ _
      refine' flush_c _ _ _ _ _ _ _ _ _ _ _ _ _ _ _ _ _ _ _ _ _ ((at_, oA) :: rest) _ _ wd wr q pc dl nsd ns pm ps true done pcs [] nsds nss _ tb _ _ _ _ _ _ td ?vB ?vF ?vX ?vT ?vk ?vd ?vu ?vN ho hr0 (by walk_at "AR") ?vQ
      case vB => k_asm
      case vF => k_asm
      case vX => k_in
      case vT => k_asm
      case vk => exact rfl
      case vd => ktr_room
      case vu => ktr_units
      case vN =>
        dsimp only [wCells]
        k_asm
      case vQ =>
        intro t3' h7 tk7 f1' f2' F7 N7
        repeat (first | (k_unfold; (try dsimp only)) | walk1 | (dsimp only; walk1) | (leave1; try dsimp only))
        exact FlMid.mk _ _ true [_] _ _ (by assumption) N7 id (by simp only [List.map, catS, app_nil']; rfl) (Nat.le_refl _)
  case tail =>
  obtain ⟨h6, tk6, se6, new0, f1, f2, F6, N6, hs6, hc6, hl6⟩ := hM
  dsimp only [wCells] at N6
  clear N5 F5
  have N7 := N6
  clear N6
  iterate 48 (first | (k_unfold; (try dsimp only)) | walk1 | (dsimp only; walk1) | (leave1; try dsimp only))
  rename (News _ _ _ ((_, listOf #[] 0) :: _)) => N9
  rw [push_list] at N9
  refine' start_g _ _ _ _ _ _ _ _ _ _ _ _ _ _ _ _ _ _ _ _ _ rest _ _ wd wr q pc dl nsd ns pm ps se6 done (pcs ++ new0) [] (nsds ++ [Value.ref _]) nss pss tb _ _ _ _ _ _ (tagS k) tx at_ _ oA n0 n2 0 tp t1 t2 kvs kvs (Str.ofString "<a></a>") (Str.ofString "&lt;a>&lt;/a>") ?uB ?uF ?uX ?uT ?uk ?ud ?uu ?uN ho ?hr ?hpc ?g1 g2 g3 ?g4 ?hb hnm hxk (by walk_at "AR") ⟨rfl, rfl⟩ hst hlo .rfl d1 d3 d4 ?d5 hps hns ?hC htb ?hQ
  case uB => k_asm
  case uF => k_asm
  case uX => k_in
  case uT => k_asm
  case uk => exact rfl
  case ud => ktr_room
  case uu => ktr_units
  case uN =>
    have N8 := news_behind N9
    dsimp only [wCells]
    exact N8
  case hr => exact wOff_cons hr0 (by k_ne) (by k_ne) (by k_ne) (by k_ne) (by k_ne) (by k_ne) (by k_ne)
  case hpc => rw [List.length_append]; walk_at "AR"
  case g1 =>
    rw [List.getElem?_append_left (List.getElem?_eq_some_iff.mp g1).1]
    exact g1
  case g4 => exact NsOk.push4 g4 (fun e => by rw [e] at g1; cases g1)
  case hb => exact hb
  case d5 => exact lt_in (by assumption) (by repeat (first | with_reducible exact InA.head | with_reducible refine InA.tail ?_))
  case hC => exact CodeHd.keeps hC (Fr.keep (by assumption))
  case hQ =>
  intro l' rest' t1' t2' t3' tb' f1 f4 f5 h8 tk8 gens8 d8 F8 N8 W8 T8 m1 m2 s8 b8
  repeat (first | (k_unfold; (try dsimp only)) | walk1 | (dsimp only; walk1) | (leave1; try dsimp only))
  rename (News h₀ L _ _) => N10
  rw [app_two, List.append_assoc pcs, List.append_assoc pcs, List.append_assoc pcs] at N10
  refine hQ _ l' rest' _ tb' _ _ _ _ _ _ _ _ _ (by assumption) N10 W8 T8 (NsOk.push (hn.mono s8) m2) s8 b8 ?_ ?_
  · rw [List.append_assoc, List.append_assoc, List.map_append, catS_append, hc6]
    exact congrArg _ (hcat t1' t2' t3')
  · have := hal t3'
    simp only [List.length_append, List.length_singleton]
    walk_at "AR"
end
theorem topOff10 : True := by
  w_top off
  trivial
section
open PySem PySem.W PyProof.Rows PySem.Calls PySem.Spec
set_option maxHeartbeats 4000000 in
theorem endU_c (w : World) (dp un : Nat) (gd : Option (List Code)) (cn : Str) (cs : Scope) (a : Addr) (ccd : Value) (cl : List (Str × Addr)) (outer : List Env) (A₀ : Around) (base h₀ : Heap) (L : Addr) (m mg mb : Str → Option Value) (mean : ExcName → Option Value) (s : Shared) (Q E : Value → Shared → Prop)
    (rest : List (Addr × Obj)) (tkW : Nat → Tok) (t0 : Tok) (wd wr q pc dl nsd ns pm ps : Nat) (seen done : Bool) (pcs : List (Str × Tok)) (nsds nss pss : List Value) (tb : Array Value) (e0 e1 e2 e3 e4 e5 : Nat) (k : Nat) (pend : Bool) (td tx : Tok) (nn l2 : Nat)
    (B : Below A₀ base outer h₀) (F : Fr h₀ L s.heap m) (X : (hd3.heap_39 w.params).In h₀) (T : Top topProg lo3 mean mg mb h₀)
    (hk : cs.kind = .function) (hd : dp + 60 < recursionLimit) (hu : un + 900 < cLine)
    (N : News h₀ L s.heap (wCells w.params tkW t0 wd wr q pc dl nsd ns pm ps true done pcs (penL pend td) (nsds ++ [Value.ref nn]) (nss ++ [Value.ref l2]) (pss ++ [Value.bool false]) tb e0 e1 e2 e3 e4 e5 rest))
    (ho : WOrd wd wr q pc dl nsd ns pm ps) (hr : WOff wd pc dl nsd ns ps rest) (hpc : pcs.length ≤ 990)
    (hkk : k < 3) (hn : NsOk (nsds ++ [Value.ref nn]) rest) (hb : AllBare s.gens) (hps : pss.length < 1000) (hns : nss.length < 1000) (hnd : nsds.length < 1000) (hC : CodeHd h₀ 132 130)
    (hQ : ∀ (done' : Bool) (new : List (Str × Tok)) f1 f2 f3 f4 f5 h' tk' gens', Fr h₀ L h' m → News h₀ L h' (wCells w.params tkW t0 wd wr q pc dl nsd ns pm ps true done' (pcs ++ new) [] nsds nss pss tb e0 f1 f2 f3 f4 f5 rest) → AllBare gens' → catS (new.map (·.1)) = penT pend ++ endT k → new.length ≤ 2 → Q .none { s with heap := h', toks := tk', gens := gens' }) :
    wpAny (model P3 w) (ktrTop dp un gd cn cs L a ccd cl outer) (call (.ref 140) [.ref wr, .str (tagS k) tx]) Q E s := by
  have hr0 := hr
  have hx := tag_bare k
  have hl := tag_len k
  have hend : ∀ t, catS ([(Str.empty ++ Str.ofString "</" ++ tagS k ++ Str.ofString ">", t)].map (fun p : Str × Tok => p.1)) = endT k := fun t => by
    simp only [List.map, catS]
    obtain rfl | rfl | rfl := tag_cases hkk <;> decide +kernel
  generalize tagS k = x at hx hl hend ⊢
  obtain ⟨r1, r2, r3, r4, r5, r6, r7⟩ := hr
  dsimp only [wCells] at N
  refine wpAny_call ?_
  k_dflt k_enter
  obtain ⟨n0, nz2, tp, t1, t2, g1, g2, g3, g4⟩ := id hn
  iterate 12 (first | (k_unfold; (try dsimp only)) | walk1 | (dsimp only; walk1) | (leave1; try dsimp only))
  rename (Fr _ _ _ _) => F5
  rename (News _ _ _ _) => N5
  refine fl_mid (s := s) (C := (fun se new f1 f2 => wCells w.params tkW t0 wd wr q pc dl nsd ns pm ps se done (pcs ++ new) [] (nsds ++ [Value.ref nn]) (nss ++ [Value.ref l2]) (pss ++ [Value.bool false]) tb e0 f1 f2 e3 e4 e5 rest)) (seen := true) (pend := pend) F5 ?cif (fun fl s6 hM => ?tail)
  case cif =>
    cases pend with
    | false =>
      rw [show penL false td = [] from rfl] at N5
      repeat (first | (k_unfold; (try dsimp only)) | walk1 | (dsimp only; walk1) | (leave1; try dsimp only))
      exact FlMid.mk _ _ true [] _ _ (by assumption) (by rw [List.append_nil]; dsimp only [wCells]; assumption) id rfl (Nat.zero_le _)
    | true =>
      rw [show penL true td = [(Str.ofString "<a></a>", td)] from rfl] at N5
      iterate 14 (first | (k_unfold; (try dsimp only)) | walk1 | (dsimp only; walk1) | (leave1; try dsimp only))
      show wpAny _ _ (call (Value.ref 113) [Value.ref wr]) _ _ _
      refine' flush_c _ _ _ _ _ _ _ _ _ _ _ _ _ _ _ _ _ _ _ _ _ rest _ _ wd wr q pc dl nsd ns pm ps true done pcs [] _ _ _ tb _ _ _ _ _ _ td ?vB ?vF ?vX ?vT ?vk ?vd ?vu ?vN ho hr0 (by walk_at "AR") ?vQ
      case vB => k_asm
      case vF => k_asm
      case vX => k_in
      case vT => k_asm
      case vk => exact rfl
      case vd => ktr_room
      case vu => ktr_units
      case vN =>
        dsimp only [wCells]
        k_asm
      case vQ =>
        intro t3' h7 tk7 f1' f2' F7 N7
        repeat (first | (k_unfold; (try dsimp only)) | walk1 | (dsimp only; walk1) | (leave1; try dsimp only))
        exact FlMid.mk _ _ true [_] _ _ (by assumption) N7 id (by simp only [List.map, catS, app_nil']; rfl) (Nat.le_refl _)
  case tail =>
  obtain ⟨h6, tk6, se6, new0, f1, f2, F6, N6, hs6, hc6, hl6⟩ := hM
  obtain rfl := hs6 rfl
  have hpc2 : (pcs ++ new0).length ≤ 991 := by rw [List.length_append]; walk_at "AR"
  have hall : ∀ t, catS ((new0 ++ [(Str.empty ++ Str.ofString "</" ++ x ++ Str.ofString ">", t)] : List (Str × Tok)).map (·.1)) = penT pend ++ endT k := fun t => by
    rw [List.map_append, catS_append, hc6]
    exact congrArg _ (hend t)
  have hln : ∀ t, (new0 ++ [(Str.empty ++ Str.ofString "</" ++ x ++ Str.ofString ">", t)] : List (Str × Tok)).length ≤ 2 := fun t => by rw [List.length_append, List.length_singleton]; walk_at "AR"
  have hap : ∀ t, pcs ++ new0 ++ [t] = pcs ++ (new0 ++ [t]) := fun t => List.append_assoc _ _ _
  generalize pcs ++ new0 = pcx at N6 hpc2 hap
  dsimp only [wCells] at N6
  clear N5 F5
  have N7 := N6
  clear N6
  iterate 23 (first | (k_unfold; (try dsimp only)) | walk1 | (dsimp only; walk1) | (leave1; try dsimp only))
  refine' qname_c _ _ _ _ _ _ _ _ _ _ _ _ _ _ _ _ _ _ _ _ _ _ wr wd nsd n0 tp _ _ _ _ _ _ _ t1 t2 tx _ _ _ _ _ _ x ?uB ?uF ?uX ?uT ?uk ?ud ?uu ?uN ?w1 ?w2 ?w3 ?h0 ?w4 ?w5 ?w6 ?hb hx hl ?hQ
  case uB => k_asm
  case uF => k_asm
  case uX => k_in
  case uT => k_asm
  case uk => exact rfl
  case ud => ktr_room
  case uu => ktr_units
  case uN => k_asm
  case w1 => k_mem
  case w2 => k_mem
  case w3 => k_mem
  case h0 => simpa using g1
  case w4 =>
    have hp' : List.Mem _ rest := g2
    repeat (first | with_reducible exact hp' | apply List.Mem.tail)
  case w5 =>
    have hp' : List.Mem _ rest := g3
    repeat (first | with_reducible exact hp' | apply List.Mem.tail)
  case w6 =>
    intro k v hk hv
    obtain ⟨e, n, he, hm⟩ := g4 k v hk (by simpa using hv)
    refine ⟨e, n, he, ?_⟩
    have hp' : List.Mem _ rest := hm
    repeat (first | with_reducible exact hp' | apply List.Mem.tail)
  case hb => exact hb
  case hQ =>
  intro R5 u1 u2 u3 h5 tk5 gens5 F5 N5 l5 hbg
  repeat (first | (k_unfold; (try dsimp only)) | walk1 | (dsimp only; walk1) | (leave1; try dsimp only))
  rename (News h₀ L _ _) => N9
  rw [strValues_push, hap] at N9
  exact hQ _ _ _ _ _ _ _ _ _ _ (by assumption) (newsSub N9 fun p hp => .tail _ hp) hbg (hall _) (hln _)

set_option maxHeartbeats 2000000 in
theorem data_c (w : World) (dp un : Nat) (gd : Option (List Code)) (cn : Str) (cs : Scope) (a : Addr) (ccd : Value) (cl : List (Str × Addr)) (outer : List Env) (A₀ : Around) (base h₀ : Heap) (L : Addr) (m mg mb : Str → Option Value) (mean : ExcName → Option Value) (s : Shared) (Q E : Value → Shared → Prop)
    (rest : List (Addr × Obj)) (tk : Nat → Tok) (t0 : Tok) (wd wr q pc dl nsd ns pm ps : Nat) (seen done : Bool) (pcs dts : List (Str × Tok)) (nsds nss pss : List Value) (tb : Array Value) (e0 e1 e2 e3 e4 e5 : Nat) (d : Str) (td : Tok)
    (B : Below A₀ base outer h₀) (F : Fr h₀ L s.heap m) (X : (hd3.heap_39 w.params).In h₀) (T : Top topProg lo3 mean mg mb h₀)
    (hk : cs.kind = .function) (hd : dp + 20 < recursionLimit) (hu : un + 200 < cLine)
    (N : News h₀ L s.heap (wCells w.params tk t0 wd wr q pc dl nsd ns pm ps seen done pcs [] nsds nss pss tb e0 e1 e2 e3 e4 e5 rest))
    (ho : WOrd wd wr q pc dl nsd ns pm ps) (hr : WOff wd pc dl nsd ns ps rest) (hpc : pcs.length ≤ 1000)
    (hQ : ∀ f2 h' tk', Fr h₀ L h' m → News h₀ L h' (wCells w.params tk t0 wd wr q pc dl nsd ns pm ps seen done pcs [(d, td)] nsds nss pss tb e0 e1 f2 e3 e4 e5 rest) → Q .none { s with heap := h', toks := tk' }) :
    wpAny (model P3 w) (ktrTop dp un gd cn cs L a ccd cl outer) (call (.ref 104) [.ref wr, .str d td]) Q E s := by
  obtain ⟨r1, r2, r3, r4, r5, r6, r7⟩ := hr
  dsimp only [wCells] at N
  refine wpAny_call ?_
  k_dflt k_enter
  repeat (first | (k_unfold; (try dsimp only)) | walk1 | (dsimp only; walk1) | (leave1; try dsimp only))
  rename (News h₀ L _ _) => N9
  exact hQ _ _ _ (by assumption) N9
end
local macro_rules | `(tactic| walk_at "subscriptTail") => `(tactic| (k_here; (with_reducible show wpAny _ _ (subscriptTail _ _ (Value.ref _) (Value.int _ _)) _ _ _); k_dflt (refine' itemAt ?N ?m ?v ?z ?_ ?hs; (case N => k_asm); (case m => k_mem); (case v => first | with_reducible assumption | exact rfl); (case z => walk_at "AR"); (case hs => with_unfolding_all rfl))))
theorem topOff11 : True := by
  w_top off
  trivial
section
open PySem PySem.W PyProof.Rows PySem.Calls PySem.Spec
mutual
def siz : Tr → Nat
  | .node _ _ ts => sizL ts + 1
def sizL : List Tr → Nat
  | [] => 0
  | t :: r => siz t + sizL r
end
theorem sizL_append (a b : List Tr) : sizL (a ++ b) = sizL a + sizL b := by
  induction a with
  | nil => simp [sizL]
  | cons t r ih => rw [List.cons_append, sizL, sizL, ih, Nat.add_assoc]
theorem siz_take_le {ts : List Tr} {i : Nat} {t : Tr} (h : ts[i]? = some t) : sizL (ts.take i) + siz t ≤ sizL ts := by
  have h1 := sizL_append (ts.take (i + 1)) (ts.drop (i + 1))
  rw [List.take_append_drop, take_one h, sizL_append, sizL, sizL, Nat.add_zero] at h1
  walk_at "AR"
theorem restL_append (tms : List Int) (at_ : Int) (a b : List Tr) : restL tms at_ (a ++ b) = restL tms at_ a ++ restL tms at_ b := by
  rw [← catS_rest, List.map_append, catS_append, catS_rest, catS_rest]
theorem restL_one (tms : List Int) (at_ : Int) (t : Tr) : restL tms at_ [t] = restT tms at_ t := by rw [restL, restL, app_nil']
abbrev cutI (I : Nat) (l : List (Addr × Obj)) : List (Addr × Obj) := l.filter fun p => decide (@Ne Nat p.1 I)
theorem cut_mem {I : Nat} {l : List (Addr × Obj)} {p : Addr × Obj} (h : p ∈ l) (hn : @Ne Nat p.1 I) : p ∈ cutI I l := List.mem_filter.mpr ⟨h, decide_eq_true hn⟩
theorem cut_sub {I : Nat} {l : List (Addr × Obj)} {p : Addr × Obj} (h : p ∈ cutI I l) : p ∈ l := (List.mem_filter.mp h).1
theorem cut_ne {I : Nat} {l : List (Addr × Obj)} {p : Addr × Obj} (h : p ∈ cutI I l) : @Ne Nat p.1 I := of_decide_eq_true (List.mem_filter.mp h).2
theorem tabSt_cut {pos : Pos} {q : Str} {tb : Array Value} {rest : List (Addr × Obj)} {I : Nat} {oI : Obj} {h₀ h : Heap} {L : Addr} (T : TabSt pos q tb rest) (N : News h₀ L h rest) (hI : h.get? I = some oI) (it : ItObj oI) : TabSt pos q tb (cutI I rest) := by
  rcases T with T | ⟨c', T, oc, vs, t, hm, hd, hv⟩
  · exact .inl T
  · refine .inr ⟨c', T, oc, vs, t, cut_mem hm (fun e => ?_), hd, hv⟩
    have h1 := (N _ hm).1
    dsimp only at e h1
    rw [e] at h1
    rw [h1] at hI
    obtain ⟨vs', e', h'⟩ := it
    obtain rfl := Option.some.inj hI
    rw [hd] at e'
    obtain rfl := Data.fields.inj e'
    exact h' _ _ hv
theorem tabSt_mono {pos : Pos} {q : Str} {tb : Array Value} {rest rest' : List (Addr × Obj)} (T : TabSt pos q tb rest) (hs : ∀ p ∈ rest, p ∈ rest') : TabSt pos q tb rest' := by
  rcases T with T | ⟨c', T, C⟩
  · exact .inl T
  · exact .inr ⟨c', T, C.mono hs⟩
theorem wOff_sub {wd pc dl nsd ns ps : Nat} {rest rest' : List (Addr × Obj)} (W : WOff wd pc dl nsd ns ps rest) (hs : ∀ p ∈ rest', p ∈ rest) : WOff wd pc dl nsd ns ps rest' := by
  obtain ⟨w1, w2, w3, w4, w5, w6, w7⟩ := W
  exact ⟨fun q hq => w1 q (hs q hq), fun q hq => w2 q (hs q hq), fun q hq => w3 q (hs q hq), fun q hq => w4 q (hs q hq), fun q hq => w5 q (hs q hq), fun q hq => w6 q (hs q hq), fun q hq => w7 q (hs q hq)⟩
theorem news_ahead {h₀ h : Heap} {L : Addr} {a c1 c2 c3 c4 c5 c6 c7 c8 c9 : Addr × Obj} {rest rest' : List (Addr × Obj)} (N : News h₀ L h (c1 :: c2 :: c3 :: c4 :: c5 :: c6 :: c7 :: c8 :: c9 :: rest)) (ha : a ∈ rest) (hs : ∀ p ∈ rest', p ∈ rest) : News h₀ L h (a :: c1 :: c2 :: c3 :: c4 :: c5 :: c6 :: c7 :: c8 :: c9 :: rest') := news_c N (.tail _ (.tail _ (.tail _ (.tail _ (.tail _ (.tail _ (.tail _ (.tail _ (.tail _ (ha)))))))))) (news_c N (.head _) (news_c N (.tail _ (.head _)) (news_c N (.tail _ (.tail _ (.head _))) (news_c N (.tail _ (.tail _ (.tail _ (.head _)))) (news_c N (.tail _ (.tail _ (.tail _ (.tail _ (.head _))))) (news_c N (.tail _ (.tail _ (.tail _ (.tail _ (.tail _ (.head _)))))) (news_c N (.tail _ (.tail _ (.tail _ (.tail _ (.tail _ (.tail _ (.head _))))))) (news_c N (.tail _ (.tail _ (.tail _ (.tail _ (.tail _ (.tail _ (.tail _ (.head _)))))))) (news_c N (.tail _ (.tail _ (.tail _ (.tail _ (.tail _ (.tail _ (.tail _ (.tail _ (.head _))))))))) (fun p hp => N p (.tail _ (.tail _ (.tail _ (.tail _ (.tail _ (.tail _ (.tail _ (.tail _ (.tail _ (hs p hp))))))))))))))))))))
theorem off9 {I : Nat} {c1 c2 c3 c4 c5 c6 c7 c8 c9 d1 d2 d3 d4 d5 d6 d7 d8 d9 : Addr × Obj} {rest : List (Addr × Obj)} {rest' : List (Addr × Obj)} (O : PyProof.Rows.LCg.Off1 I (c1 :: c2 :: c3 :: c4 :: c5 :: c6 :: c7 :: c8 :: c9 :: rest)) (e1 : c1.1 = d1.1) (e2 : c2.1 = d2.1) (e3 : c3.1 = d3.1) (e4 : c4.1 = d4.1) (e5 : c5.1 = d5.1) (e6 : c6.1 = d6.1) (e7 : c7.1 = d7.1) (e8 : c8.1 = d8.1) (e9 : c9.1 = d9.1) (h : ∀ p ∈ rest', @Ne Nat p.1 I) : PyProof.Rows.LCg.Off1 I (d1 :: d2 :: d3 :: d4 :: d5 :: d6 :: d7 :: d8 :: d9 :: rest') := by
  obtain ⟨n1, n2, n3, n4, n5, n6, n7, n8, n9, _⟩ := O
  exact ⟨e1 ▸ n1, e2 ▸ n2, e3 ▸ n3, e4 ▸ n4, e5 ▸ n5, e6 ▸ n6, e7 ▸ n7, e8 ▸ n8, e9 ▸ n9, off1_of _ h⟩
theorem beg_two : begU 2 ++ Str.ofString "&lt;a&gt;&lt;/a&gt;" = begT 2 := by decide +kernel
theorem fin_cat {a b c d e f g p : Str} (h1 : a ++ p = b ++ c ++ d) (h2 : g = p ++ e) : a ++ g ++ f = b ++ (c ++ d ++ e) ++ f := by
  rw [h2]
  simp only [← app_assoc']
  rw [h1]
theorem turn_cat {a x b c d p p' e : Str} (h1 : a ++ p = b ++ c ++ d) (h2 : x ++ p' = p ++ e) : a ++ x ++ p' = b ++ c ++ (d ++ e) := by
  simp only [app_assoc'] at h1 ⊢
  rw [h2, ← app_assoc', h1]
  simp only [app_assoc']
theorem execs_cut {M : Model} {A : Around} {env : Env} {l1 l2 : List Stmt} {Q Mid : Flow → Shared → Prop} {E : Value → Shared → Prop} {s : Shared} (h1 : wpAny M A (execs l1 env) Mid E s) (h2 : ∀ fl s', Mid fl s' → match fl with | .next => wpAny M A (execs l2 env) Q E s' | f => Q f s') : wpAny M A (execs (l1 ++ l2) env) Q E s := fun Γ p hΓ => by
  have aux : ∀ (l : List Stmt) (p : Pos) (s : Shared), Sem.wp M Γ (execs l env) (fun fl _ s' => Mid fl s') (fun e _ s' => E e s') p s → Sem.wp M Γ (execs (l ++ l2) env) (fun fl _ s' => Q fl s') (fun e _ s' => E e s') p s := by
    intro l
    induction l with
    | nil => exact fun p s h => h2 .next s h Γ p hΓ
    | cons st r ih =>
      intro p s h
      rw [List.cons_append]
      rw [execs_cons, Sem.wp_bind'] at h ⊢
      refine Sem.wp_mono M Γ _ (fun f p' s' h' => ?_) (fun _ _ _ h' => h') _ _ h
      cases f with
      | next => exact ih p' s' h'
      | _ => exact h2 _ s' h'
  exact aux l1 p s (h1 Γ p hΓ)
inductive TJ (P : Params) (tkW : Nat → Tok) (t0 : Tok) (wd wr q pc dl nsd ns pm ps : Nat) (pcs : List (Str × Tok)) (nsds nss pss : List Value) (e0 : Nat) (rest : List (Addr × Obj)) (K KD TM : Nat) (atv : Int) (ta : Tok) (k : Nat) (pre : Str) (len : Nat) (m₁ : Str → Option Value) (nw : List (Addr × Obj)) (g : Gens) : Prop
  | mk (pe : Bool) (td : Tok) (done : Bool) (rest6 : List (Addr × Obj)) (new : List (Str × Tok)) (tb : Array Value) (x1 x2 x3 x4 x5 : Nat) (hnw : nw = wCells P tkW t0 wd wr q pc dl nsd ns pm ps true done (pcs ++ new) (penL pe td) nsds nss pss tb e0 x1 x2 x3 x4 x5 rest6)
    (W : WOff wd pc dl nsd ns ps rest6) (T : TabSt lamPos lamQ tb rest6) (sub : ∀ p ∈ rest, p ∈ rest6) (B : AllBare g) (Ns : NsOk nsds rest6) (hc : catS (new.map (·.1)) ++ penT pe = pre) (hl : new.length ≤ len)
    (mw : m₁ (Str.ofString "writer") = some (.ref wr)) (mk : m₁ (Str.ofString "kids") = some (.ref K)) (mkd : m₁ (Str.ofString "kinds") = some (.ref KD)) (mtm : m₁ (Str.ofString "times") = some (.ref TM)) (mat : m₁ (Str.ofString "at") = some (.int atv ta)) (mpl : True) (tg : Tok) (mtg : m₁ (Str.ofString "tag") = some (.str (tagS k) tg)) : TJ P tkW t0 wd wr q pc dl nsd ns pm ps pcs nsds nss pss e0 rest K KD TM atv ta k pre len m₁ nw g
inductive TMid (h₀ : Heap) (L : Addr) (s₁ : Shared) (ts : List Tr) (p : Nat) (tp : Tok) (J : Nat → Nat → (Str → Option Value) → List (Addr × Obj) → Gens → Prop) : Flow → Shared → Prop
  | mk (nn l2 : Nat) (h : Heap) (tk : Nat) (g : Gens) (d : Drawn) (m' : Str → Option Value) (nw : List (Addr × Obj)) (F : Fr h₀ L h m') (N : News h₀ L h nw) (hp : m' (Str.ofString "place") = some (.int (p : Int) tp)) (hJ : J nn l2 m' nw g) : TMid h₀ L s₁ ts p tp J .next { s₁ with heap := h, toks := tk, gens := g, drawn := d }
theorem t_mid {M : Model} {A : Around} {env : Env} {l1 l2 : List Stmt} {Q : Flow → Shared → Prop} {E : Value → Shared → Prop} {s s9 : Shared} {h₀ h : Heap} {L : Addr} {m' : Str → Option Value} {ts : List Tr} {p : Nat} {tp : Tok} {J : Nat → Nat → (Str → Option Value) → List (Addr × Obj) → Gens → Prop} (_F : Fr h₀ L h m')
    (h1 : wpAny M A (execs l1 env) (TMid h₀ L s ts p tp J) E s9) (h2 : ∀ s', TMid h₀ L s ts p tp J .next s' → wpAny M A (execs l2 env) Q E s') : wpAny M A (execs (l1 ++ l2) env) Q E s9 := execs_cut h1 fun fl s' hM => by
  cases hM
  exact h2 _ (.mk _ _ _ _ _ _ _ _ (by assumption) (by assumption) (by assumption) (by assumption))

set_option maxHeartbeats 4000000 in
theorem tell_c (n : Nat) : ∀ (t : Tr), dep t ≤ n → ∀ (w : World) (dp un : Nat) (gd : Option (List Code)) (cn : Str) (cs : Scope) (a : Addr) (ccd : Value) (cl : List (Str × Addr)) (outer : List Env) (A₀ : Around) (base h₀ : Heap) (L : Addr) (m mg mb : Str → Option Value) (mean : ExcName → Option Value) (s : Shared) (Q E : Value → Shared → Prop)
    (rest : List (Addr × Obj)) (tkW : Nat → Tok) (t0 : Tok) (wd wr q pc dl nsd ns pm ps : Nat) (seen done : Bool) (pcs : List (Str × Tok)) (nsds nss pss : List Value) (tb : Array Value) (e0 e1 e2 e3 e4 e5 : Nat) (pend : Bool) (td : Tok) (K KD TM : Nat) (ka kv tv : List Value) (kn kdn tn : Nat) (tms : List Int) (atv : Int) (ta tp : Tok)
    (B : Below A₀ base outer h₀) (F : Fr h₀ L s.heap m) (X : (hd3.heap_39 w.params).In h₀) (T : Top topProg lo3 mean mg mb h₀)
    (hk : cs.kind = .function) (hd : dp + 20 * n + 80 < recursionLimit) (hu : un + 300 * n + 1200 < cLine)
    (N : News h₀ L s.heap (wCells w.params tkW t0 wd wr q pc dl nsd ns pm ps seen done pcs (penL pend td) nsds nss (pss ++ [Value.bool false]) tb e0 e1 e2 e3 e4 e5 rest))
    (ho : WOrd wd wr q pc dl nsd ns pm ps) (hr : WOff wd pc dl nsd ns ps rest) (hpc : pcs.length + 6 * siz t ≤ 900)
    (hn : NsOk nsds rest) (hb : AllBare s.gens) (hpe : pend = true → seen = true) (hps : pss.length + n ≤ 900) (hns : nss.length + n ≤ 900) (hnd : nsds.length + n ≤ 900) (hC : CodeHd h₀ 132 130) (htb : TabSt lamPos lamQ tb rest)
    (hK : (K, listOf ka.toArray kn) ∈ rest) (hKD : (KD, listOf kv.toArray kdn) ∈ rest) (hTM : (TM, listOf tv.toArray tn) ∈ rest) (hI : IntsAre tv tms) (hlen : ka.length ≤ tms.length) (hT : TreeIn rest ka kv t)
    (hQ : ∀ (pend' : Bool) (td' : Tok) (seen' done' : Bool) (rest' : List (Addr × Obj)) (new : List (Str × Tok)) tb' f1 f2 f3 f4 f5 h' tk' gens' d', Fr h₀ L h' m → News h₀ L h' (wCells w.params tkW t0 wd wr q pc dl nsd ns pm ps seen' done' (pcs ++ new) (penL pend' td') nsds nss (pss ++ [Value.bool false]) tb' e0 f1 f2 f3 f4 f5 rest') → WOff wd pc dl nsd ns ps rest' → TabSt lamPos lamQ tb' rest' → (∀ p ∈ rest, p ∈ rest') → AllBare gens' → (pend' = true → seen' = true) → (seen = true → seen' = true) → (pend = false → pend' = false) → catS (new.map (·.1)) ++ penT pend' = penT pend ++ restT tms atv t → new.length ≤ 6 * siz t → Q .none { s with heap := h', toks := tk', gens := gens', drawn := d' }),
    wpAny (model P3 w) (ktrTop dp un gd cn cs L a ccd cl outer) (call (.ref 182) [.ref wr, .ref K, .ref KD, .ref TM, .int atv ta, .int (t.root : Int) tp]) Q E s := by
  induction n with
  | zero =>
    intro t ht
    cases t with
    | node p k ts => rw [dep] at ht; exact absurd ht (Nat.not_succ_le_zero _)
  | succ n ih =>
    intro t ht w dp un gd cn cs a ccd cl outer A₀ base h₀ L m mg mb mean s Q E rest tkW t0 wd wr q pc dl nsd ns pm ps seen done pcs nsds nss pss tb e0 e1 e2 e3 e4 e5 pend td K KD TM ka kv tv kn kdn tn tms atv ta tp B F X T hk hd hu N ho hr hpc hn hb hpe hps hns hnd hC htb hK hKD hTM hI hlen hT hQ
    obtain ⟨hp, h1, h2, h3, h4, h5t, h6, h7⟩ := hT
    rename_i p k ts aK vs nK tK
    dsimp only [Tr.root]
    have h1' : ka.toArray[p]? = some (Value.ref aK) := by simpa using h1
    have h4' : kv.toArray[p]? = some (Value.int (k : Int) tK) := by simpa using h4
    have hpl : p < tms.length := Nat.lt_of_lt_of_le (List.getElem?_eq_some_iff.mp h1).1 hlen
    obtain ⟨tt, htt⟩ : ∃ tt, tv[p]? = some (Value.int (tms.getD p 0) tt) := by
      have hpv : p < tv.length := by rw [hI.length]; exact hpl
      obtain ⟨t9, e9⟩ := hI.int_at p tv[p] (List.getElem?_eq_getElem hpv)
      exact ⟨t9, by rw [List.getElem?_eq_getElem hpv, e9]⟩
    have htt' : tv.toArray[p]? = some (Value.int (tms.getD p 0) tt) := by simpa using htt
    have hsiz : siz (.node p k ts) = sizL ts + 1 := by rw [siz]
    obtain ⟨r1, r2, r3, r4, r5, r6, r7⟩ := id hr
    have N0 := N
    dsimp only [wCells] at N
    have hKt : (K, listOf ka.toArray kn) ∈ (130, tabObj tb) :: rest := .tail _ hK
    have hKDt : (KD, listOf kv.toArray kdn) ∈ (130, tabObj tb) :: rest := .tail _ hKD
    have hTMt : (TM, listOf tv.toArray tn) ∈ (130, tabObj tb) :: rest := .tail _ hTM
    refine wpAny_call ?_
    k_dflt k_enter
    by_cases hle : tms.getD p 0 ≤ atv
    · have hR : restT tms atv (.node p k ts) = Str.ofString "" := by rw [restT, if_pos hle]
      rw [hR] at hQ
      repeat (first | (k_unfold; (try dsimp only)) | walk1 | (dsimp only; walk1) | (leave1; try dsimp only))
      rename (News _ _ _ _) => N9
      refine hQ pend td seen done rest [] tb _ _ _ _ _ _ _ _ _ (by assumption) (by rw [List.append_nil]; exact N9) hr htb (fun _ h => h) hb hpe id id ?_ (Nat.zero_le _)
      rw [app_nil']; exact nil_app' _
    · have hlt : atv < tms.getD p 0 := by walk_at "AR"
      have hRR : restT tms atv (.node p k ts) = begT k ++ restL tms atv ts ++ endT k := by rw [restT, if_neg hle]
      iterate 11 (first | (k_unfold; (try dsimp only)) | walk1 | (dsimp only; walk1) | (leave1; try dsimp only))
      rename (Fr _ _ _ _) => F5
      refine t_mid (s := s) (l1 := [_, _, _]) (ts := ts) (p := p) (tp := tp) (J := fun nn l2 => TJ w.params tkW t0 wd wr q pc dl nsd ns pm ps pcs (nsds ++ [Value.ref nn]) (nss ++ [Value.ref l2]) (pss ++ [Value.bool false] ++ [Value.bool false]) e0 rest K KD TM atv ta k (penT pend ++ begT k) (4)) F5 ?head ?tail
      case head =>
        clear ih
        obtain rfl | rfl | rfl := tag_cases h7
        · have hbg : Unit := ()
          iterate 33 (first | (k_unfold; (try dsimp only)) | walk1 | (dsimp only; walk1) | (leave1; try dsimp only))
          refine' startU_c _ _ _ _ _ _ _ _ _ _ _ _ _ _ _ _ _ _ _ _ _ rest tkW t0 wd wr q pc dl nsd ns pm ps seen done pcs nsds nss pss tb _ _ _ _ _ _ 0 pend td _ _ _ ?uB ?uF ?uX ?uT ?uk ?ud ?uu ?uN ho ?hr (by walk_at "AR") hn ?hb (by decide) hpe ?hat ?d3 ?d4 (by walk_at "AR") (by walk_at "AR") (by walk_at "AR") ?hC htb ?hQ
          case uB => k_asm
          case uF => k_asm
          case uX => k_in
          case uT => k_asm
          case uk => exact rfl
          case ud => ktr_room
          case uu => ktr_units
          case uN =>
            rename (News _ _ _ _) => N9
            have N8 := news_behind N9
            dsimp only [wCells]
            exact N8
          case hr => exact wOff_cons hr (by k_ne) (by k_ne) (by k_ne) (by k_ne) (by k_ne) (by k_ne) (by k_ne)
          case hb => exact hb
          case hat => first | (rw [AttrOk, if_neg (by decide)]; assumption) | (rw [AttrOk, if_pos rfl]; exact ⟨_, by assumption⟩)
          case d3 => assumption
          case d4 => exact lt_in (by assumption) (by repeat (first | with_reducible exact InA.head | with_reducible refine InA.tail ?_))
          case hC => exact CodeHd.keeps hC (Fr.keep (by assumption))
          case hQ =>
          intro nn l2 rest1 new1 tb1 f1 f2 f3 f4 f5 h1h tk1 g1 d1 F1 N1 W1 T1 Ns1 sub1 B1 c1 len1
          have hKDt1 : (KD, listOf kv.toArray kdn) ∈ (130, tabObj tb1) :: rest1 := .tail _ (sub1 _ hKD)
          dsimp only [wCells] at N1
          repeat (first | (k_unfold; (try dsimp only)) | walk1 | (dsimp only; walk1) | (leave1; try dsimp only))
          rename (Fr _ _ _ _) => F3
          rename (News _ _ _ _) => N3
          refine TMid.mk nn l2 _ _ _ _ _ _ F3 N3 ?hp ?hJ
          case hJ =>
            refine' TJ.mk false 0 done rest1 new1 tb1 _ _ _ _ _ ?hnw W1 T1 sub1 B1 Ns1 ?cc ?hl ?nw ?nk ?nkd ?ntm ?nat trivial _ ?ntg
            case hnw => exact rfl
            case cc => exact (app_nil' _).trans c1
            case hl => walk_at "AR"
            case nw => exact Eq.trans (if_neg (by decide +kernel)) (by with_unfolding_all rfl)
            case nk => exact Eq.trans (if_neg (by decide +kernel)) (by with_unfolding_all rfl)
            case nkd => exact Eq.trans (if_neg (by decide +kernel)) (by with_unfolding_all rfl)
            case ntm => exact Eq.trans (if_neg (by decide +kernel)) (by with_unfolding_all rfl)
            case nat => exact Eq.trans (if_neg (by decide +kernel)) (by with_unfolding_all rfl)
            case ntg => exact if_pos rfl
          case hp => exact Eq.trans (if_neg (by decide +kernel)) (by with_unfolding_all rfl)
        · have hbg : Unit := ()
          iterate 38 (first | (k_unfold; (try dsimp only)) | walk1 | (dsimp only; walk1) | (leave1; try dsimp only))
          refine' startU_c _ _ _ _ _ _ _ _ _ _ _ _ _ _ _ _ _ _ _ _ _ rest tkW t0 wd wr q pc dl nsd ns pm ps seen done pcs nsds nss pss tb _ _ _ _ _ _ 1 pend td _ _ _ ?uB ?uF ?uX ?uT ?uk ?ud ?uu ?uN ho ?hr (by walk_at "AR") hn ?hb (by decide) hpe ?hat ?d3 ?d4 (by walk_at "AR") (by walk_at "AR") (by walk_at "AR") ?hC htb ?hQ
          case uB => k_asm
          case uF => k_asm
          case uX => k_in
          case uT => k_asm
          case uk => exact rfl
          case ud => ktr_room
          case uu => ktr_units
          case uN =>
            rename (News _ _ _ _) => N9
            have N8 := news_behind N9
            dsimp only [wCells]
            exact N8
          case hr => exact wOff_cons hr (by k_ne) (by k_ne) (by k_ne) (by k_ne) (by k_ne) (by k_ne) (by k_ne)
          case hb => exact hb
          case hat => first | (rw [AttrOk, if_neg (by decide)]; assumption) | (rw [AttrOk, if_pos rfl]; exact ⟨_, by assumption⟩)
          case d3 => assumption
          case d4 => exact lt_in (by assumption) (by repeat (first | with_reducible exact InA.head | with_reducible refine InA.tail ?_))
          case hC => exact CodeHd.keeps hC (Fr.keep (by assumption))
          case hQ =>
          intro nn l2 rest1 new1 tb1 f1 f2 f3 f4 f5 h1h tk1 g1 d1 F1 N1 W1 T1 Ns1 sub1 B1 c1 len1
          have hKDt1 : (KD, listOf kv.toArray kdn) ∈ (130, tabObj tb1) :: rest1 := .tail _ (sub1 _ hKD)
          dsimp only [wCells] at N1
          repeat (first | (k_unfold; (try dsimp only)) | walk1 | (dsimp only; walk1) | (leave1; try dsimp only))
          rename (Fr _ _ _ _) => F3
          rename (News _ _ _ _) => N3
          refine TMid.mk nn l2 _ _ _ _ _ _ F3 N3 ?hp ?hJ
          case hJ =>
            refine' TJ.mk false 0 done rest1 new1 tb1 _ _ _ _ _ ?hnw W1 T1 sub1 B1 Ns1 ?cc ?hl ?nw ?nk ?nkd ?ntm ?nat trivial _ ?ntg
            case hnw => exact rfl
            case cc => exact (app_nil' _).trans c1
            case hl => walk_at "AR"
            case nw => exact Eq.trans (if_neg (by decide +kernel)) (by with_unfolding_all rfl)
            case nk => exact Eq.trans (if_neg (by decide +kernel)) (by with_unfolding_all rfl)
            case nkd => exact Eq.trans (if_neg (by decide +kernel)) (by with_unfolding_all rfl)
            case ntm => exact Eq.trans (if_neg (by decide +kernel)) (by with_unfolding_all rfl)
            case nat => exact Eq.trans (if_neg (by decide +kernel)) (by with_unfolding_all rfl)
            case ntg => exact if_pos rfl
          case hp => exact Eq.trans (if_neg (by decide +kernel)) (by with_unfolding_all rfl)
        · have hbg : Unit := ()
          iterate 33 (first | (k_unfold; (try dsimp only)) | walk1 | (dsimp only; walk1) | (leave1; try dsimp only))
          refine' startU_c _ _ _ _ _ _ _ _ _ _ _ _ _ _ _ _ _ _ _ _ _ rest tkW t0 wd wr q pc dl nsd ns pm ps seen done pcs nsds nss pss tb _ _ _ _ _ _ 2 pend td _ _ _ ?uB ?uF ?uX ?uT ?uk ?ud ?uu ?uN ho ?hr (by walk_at "AR") hn ?hb (by decide) hpe ?hat ?d3 ?d4 (by walk_at "AR") (by walk_at "AR") (by walk_at "AR") ?hC htb ?hQ
          case uB => k_asm
          case uF => k_asm
          case uX => k_in
          case uT => k_asm
          case uk => exact rfl
          case ud => ktr_room
          case uu => ktr_units
          case uN =>
            rename (News _ _ _ _) => N9
            have N8 := news_behind N9
            dsimp only [wCells]
            exact N8
          case hr => exact wOff_cons hr (by k_ne) (by k_ne) (by k_ne) (by k_ne) (by k_ne) (by k_ne) (by k_ne)
          case hb => exact hb
          case hat => first | (rw [AttrOk, if_neg (by decide)]; assumption) | (rw [AttrOk, if_pos rfl]; exact ⟨_, by assumption⟩)
          case d3 => assumption
          case d4 => exact lt_in (by assumption) (by repeat (first | with_reducible exact InA.head | with_reducible refine InA.tail ?_))
          case hC => exact CodeHd.keeps hC (Fr.keep (by assumption))
          case hQ =>
          intro nn l2 rest1 new1 tb1 f1 f2 f3 f4 f5 h1h tk1 g1 d1 F1 N1 W1 T1 Ns1 sub1 B1 c1 len1
          have hKDt1 : (KD, listOf kv.toArray kdn) ∈ (130, tabObj tb1) :: rest1 := .tail _ (sub1 _ hKD)
          dsimp only [wCells] at N1
          iterate 22 (first | (k_unfold; (try dsimp only)) | walk1 | (dsimp only; walk1) | (leave1; try dsimp only))
          show wpAny _ _ (call (Value.ref 104) [Value.ref wr, Value.str _ _]) _ _ _
          refine' data_c _ _ _ _ _ _ _ _ _ _ _ _ _ _ _ _ _ _ _ _ _ rest1 tkW t0 wd wr q pc dl nsd ns pm ps true done (pcs ++ new1) [] (nsds ++ [Value.ref nn]) (nss ++ [Value.ref l2]) (pss ++ [Value.bool false] ++ [Value.bool false]) tb1 _ _ _ _ _ _ _ _ ?vB ?vF ?vX ?vT ?vk ?vd ?vu ?vN ho W1 (by rw [List.length_append]; walk_at "AR") ?vQ
          case vB => k_asm
          case vF => k_asm
          case vX => k_in
          case vT => k_asm
          case vk => exact rfl
          case vd => ktr_room
          case vu => ktr_units
          case vN =>
            dsimp only [wCells]
            k_asm
          case vQ =>
          intro f2' h2h tk2 F2 N2
          dsimp only [wCells] at N2
          repeat (first | (k_unfold; (try dsimp only)) | walk1 | (dsimp only; walk1) | (leave1; try dsimp only))
          rename (Fr _ _ _ _) => F3
          rename (News _ _ _ _) => N3
          refine TMid.mk nn l2 _ _ _ _ _ _ F3 N3 ?hp ?hJ
          case hJ =>
            refine' TJ.mk true _ done rest1 new1 tb1 _ _ _ _ _ ?hnw W1 T1 sub1 B1 Ns1 ?cc ?hl ?nw ?nk ?nkd ?ntm ?nat trivial _ ?ntg
            case hnw => exact rfl
            case cc => (rw [c1, app_assoc']; exact congrArg _ beg_two)
            case hl => walk_at "AR"
            case nw => exact Eq.trans (if_neg (by decide +kernel)) (by with_unfolding_all rfl)
            case nk => exact Eq.trans (if_neg (by decide +kernel)) (by with_unfolding_all rfl)
            case nkd => exact Eq.trans (if_neg (by decide +kernel)) (by with_unfolding_all rfl)
            case ntm => exact Eq.trans (if_neg (by decide +kernel)) (by with_unfolding_all rfl)
            case nat => exact Eq.trans (if_neg (by decide +kernel)) (by with_unfolding_all rfl)
            case ntg => exact if_pos rfl
          case hp => exact Eq.trans (if_neg (by decide +kernel)) (by with_unfolding_all rfl)
      case tail =>
        rintro s6 ⟨nn, l2, h6, tk6, g6, d6, m6, nw6, F6, N6, mpl, hJ⟩
        obtain ⟨pe1, td1, done1, rest1, new1, tb1, x1, x2, x3, x4, x5, rfl, W1, T1, sub1, B1, Ns1, c1, len1, mw, mk, mkd, mtm, mat, _, tg, mtg⟩ := id hJ
        have hKt1 : (K, listOf ka.toArray kn) ∈ (130, tabObj tb1) :: rest1 := .tail _ (sub1 _ hK)
        have haK1 : (aK, listOf vs.toArray nK) ∈ (130, tabObj tb1) :: rest1 := .tail _ (sub1 _ h2)
        iterate 1 (first | (k_unfold; (try dsimp only)) | walk1 | (dsimp only; walk1) | (leave1; try dsimp only))
        refine' For_J F6 rfl rfl (by exact rfl) ?_
        iterate 4 (first | (k_unfold; (try dsimp only)) | walk1 | (dsimp only; walk1) | (leave1; try dsimp only))
        rename (News _ _ _ _) => N3
        refine .inl ⟨aK, vs.toArray, nK, _, _, rfl, F6, N3, by k_mem, (fun i => TJ w.params tkW t0 wd wr q pc dl nsd ns pm ps pcs (nsds ++ [Value.ref nn]) (nss ++ [Value.ref l2]) (pss ++ [Value.bool false] ++ [Value.bool false]) e0 rest K KD TM atv ta k (penT pend ++ begT k ++ restL tms atv (ts.take i)) (4 + 6 * sizL (ts.take i))), ?j0, ?turn, ?done⟩
        case j0 =>
          dsimp only
          rw [List.take_zero, restL, app_nil']
          exact hJ
        case turn =>
          intro i v I oI m₁ h6 tk6 g6 d6 nw hi hv hJ hS F6 N6 off6 it6
          obtain ⟨pe6, td6, done6, rest6, new6, tb6, x1, x2, x3, x4, x5, rfl, W6, T6, sub6, B6, Ns6, c6, len6, mw, mk, mkd, mtm, mat, _, tg, mtg⟩ := hJ
          obtain ⟨n7, t7, rfl, hn7⟩ := h3.at i v (by simpa using hv)
          obtain ⟨t', hti, rfl⟩ : ∃ t', ts[i]? = some t' ∧ (t'.root : Int) = n7 := by
            rw [List.getElem?_map] at hn7
            cases e : ts[i]? with
            | none => rw [e] at hn7; cases hn7
            | some t' => rw [e] at hn7; exact ⟨t', rfl, Option.some.inj hn7⟩
          have hmem : t' ∈ ts := List.mem_of_getElem? hti
          have hsz6 := siz_take_le hti
          dsimp only [stG]
          iterate 19 (first | (k_unfold; (try dsimp only)) | walk1 | (dsimp only; walk1) | (leave1; try dsimp only))
          refine' ih t' ?q1 _ _ _ _ _ _ _ _ _ _ _ _ _ _ _ _ _ _ _ _ _ ((I, oI) :: rest6) tkW t0 wd wr q pc dl nsd ns pm ps true done6 (pcs ++ new6) (nsds ++ [Value.ref nn]) (nss ++ [Value.ref l2]) (pss ++ [Value.bool false]) tb6 e0 x1 x2 x3 x4 x5 pe6 td6 K KD TM ka kv tv kn kdn tn tms atv ta t7 ?wB ?wF ?wX ?wT ?wk ?wd ?wu ?wN ho ?whr ?wpc ?whn ?whb (fun _ => rfl) ?wps ?wns ?wnd ?whC ?wtb ?wK ?wKD ?wTM hI hlen ?whT ?whQ
          case q1 => have h9 := dep_le hmem; rw [dep] at ht; walk_at "AR"
          case wB => k_asm
          case wF => exact F6
          case wX => k_in
          case wT => k_asm
          case wk => exact rfl
          case wd => ktr_room
          case wu => ktr_units
          case wN => exact news_behind N6
          case whr =>
            obtain ⟨y1, y2, y3, y4, y5, y6, y7, y8, y9, _⟩ := off6
            exact wOff_cons W6 (Ne.symm y9) (Ne.symm y4) (Ne.symm y1) (Ne.symm y5) (Ne.symm y6) (Ne.symm y7) (Ne.symm y8)
          case wpc => rw [List.length_append]; walk_at "AR"
          case whn => exact Ns6.mono fun p hp => .tail _ hp
          case whb => exact B6
          case wps => rw [List.length_append, List.length_singleton]; walk_at "AR"
          case wns => rw [List.length_append, List.length_singleton]; walk_at "AR"
          case wnd => rw [List.length_append, List.length_singleton]; walk_at "AR"
          case whC => exact CodeHd.keeps hC (Fr.keep (by assumption))
          case wtb => exact tabSt_mono T6 fun p hp => .tail _ hp
          case wK => exact .tail _ (sub6 _ hK)
          case wKD => exact .tail _ (sub6 _ hKD)
          case wTM => exact .tail _ (sub6 _ hTM)
          case whT => exact (h5t t' hmem).mono fun q hq => .tail _ (sub6 _ hq)
          case whQ =>
          intro pe7 td7 seen7 done7 rest7 new7 tb7 z1 z2 z3 z4 z5 h7 tk7 g7 d7 F7 N7 W7 T7 sub7 B7 p7 q7 _ c7 len7
          obtain rfl := q7 rfl
          repeat (first | (k_unfold; (try dsimp only)) | walk1 | (dsimp only; walk1) | (leave1; try dsimp only))
          have offr : ∀ p ∈ rest6, @Ne Nat p.1 I := by
            obtain ⟨y1, y2, y3, y4, y5, y6, y7, y8, y9, y10⟩ := off6
            exact off1_mem _ y10
          have hI7 : (I, oI) ∈ rest7 := sub7 _ (.head _)
          have N7r : News _ _ h7 rest7 := fun p hp => N7 p (.tail _ (.tail _ (.tail _ (.tail _ (.tail _ (.tail _ (.tail _ (.tail _ (.tail _ hp)))))))))
          have cut7 : ∀ p ∈ rest6, p ∈ cutI I rest7 := fun p hp => cut_mem (sub7 _ (.tail _ hp)) (offr p hp)
          rw [List.append_assoc] at N7
          refine ⟨h7, tk7, g7, d7, _, _, F7, news_ahead N7 hI7 fun p hp => cut_sub hp, off9 off6 rfl rfl rfl rfl rfl rfl rfl rfl rfl fun p hp => cut_ne hp, .inr ⟨_, .tail _ (.tail _ (.tail _ (.tail _ (.tail _ (.tail _ (.tail _ (.tail _ (.tail _ (cut7 _ (sub6 _ h2)))))))))), rfl, _, rfl⟩, TJ.mk pe7 td7 done7 (cutI I rest7) (new6 ++ new7) tb7 z1 z2 z3 z4 z5 rfl (wOff_sub W7 fun p hp => cut_sub hp) (tabSt_cut T7 N7r (N7r _ hI7).1 it6) (fun p hp => cut7 p (sub6 p hp)) B7 (Ns6.mono cut7) ?xc ?xl (Eq.trans (if_neg (by decide +kernel)) mw) (Eq.trans (if_neg (by decide +kernel)) mk) (Eq.trans (if_neg (by decide +kernel)) mkd) (Eq.trans (if_neg (by decide +kernel)) mtm) (Eq.trans (if_neg (by decide +kernel)) mat) trivial tg (Eq.trans (if_neg (by decide +kernel)) mtg)⟩
          case xc =>
            rw [List.map_append, catS_append, take_one hti, restL_append, restL_one]
            exact turn_cat c6 c7
          case xl => rw [List.length_append, take_one hti, sizL_append, sizL, sizL]; walk_at "AR"
        case done =>
          intro m₁ nw h6 tk6 g6 d6 hJ F6 N6
          obtain ⟨pe6, td6, done6, rest6, new6, tb6, x1, x2, x3, x4, x5, rfl, W6, T6, sub6, B6, Ns6, c6, len6, mw, mk, mkd, mtm, mat, _, tg, mtg⟩ := hJ
          dsimp only [stG]
          have hys : ts.take vs.toArray.size = ts := by
            have h9 := h3.length
            rw [List.length_map] at h9
            rw [List.size_toArray, h9, List.take_length]
          rw [hys] at c6 len6
          iterate 10 (first | (k_unfold; (try dsimp only)) | walk1 | (dsimp only; walk1) | (leave1; try dsimp only))
          refine' endU_c _ _ _ _ _ _ _ _ _ _ _ _ _ _ _ _ _ _ _ _ _ rest6 tkW t0 wd wr q pc dl nsd ns pm ps true done6 (pcs ++ new6) nsds nss (pss ++ [Value.bool false]) tb6 e0 x1 x2 x3 x4 x5 k pe6 td6 tg nn l2 ?wB ?wF ?wX ?wT ?wk ?wd ?wu ?wN ho W6 ?wpc h7 Ns6 ?whb ?wps ?wns ?wnd ?whC ?whQ
          case wB => k_asm
          case wF => exact F6
          case wX => k_in
          case wT => k_asm
          case wk => exact rfl
          case wd => ktr_room
          case wu => ktr_units
          case wN => exact N6
          case wpc => rw [List.length_append]; walk_at "AR"
          case whb => exact B6
          case wps => rw [List.length_append, List.length_singleton]; walk_at "AR"
          case wns => walk_at "AR"
          case wnd => walk_at "AR"
          case whC => exact CodeHd.keeps hC (Fr.keep (by assumption))
          case whQ =>
          intro done8 new8 y1 y2 y3 y4 y5 h8 tk8 g8 F8 N8 B8 c8 len8
          repeat (first | (k_unfold; (try dsimp only)) | walk1 | (dsimp only; walk1) | (leave1; try dsimp only))
          rename (News h₀ L _ _) => N10
          rw [List.append_assoc] at N10
          refine hQ false 0 true done8 rest6 (new6 ++ new8) tb6 y1 y2 y3 y4 y5 _ _ _ _ (by assumption) N10 W6 T6 sub6 B8 (fun h => nomatch h) (fun _ => rfl) (fun _ => rfl) ?_ ?_
          · rw [hRR, List.map_append, catS_append]
            show _ ++ Str.ofString "" = _
            rw [app_nil']
            have h9 := congrArg (· ++ endT k) c6
            rw [c8]
            simp only [← app_assoc'] at h9 ⊢
            exact h9
          · rw [List.length_append]; walk_at "AR"
end
theorem topOff12 : True := by
  w_top off
  trivial
section
open PySem PySem.W PyProof.Rows PySem.Calls PySem.Spec
set_option maxHeartbeats 8000000 in
theorem init_c (w : World) (dp un : Nat) (gd : Option (List Code)) (cn : Str) (cs : Scope) (a : Addr) (ccd : Value) (cl : List (Str × Addr)) (outer : List Env) (A₀ : Around) (base h₀ : Heap) (L : Addr) (m mg mb : Str → Option Value) (mean : ExcName → Option Value) (s : Shared) (Q E : Value → Shared → Prop)
    (rest : List (Addr × Obj)) (pc q : Nat) (e1 : Nat) (tb : Array Value)
    (B : Below A₀ base outer h₀) (F : Fr h₀ L s.heap m) (X : (hd3.heap_39 w.params).In h₀) (T : Top topProg lo3 mean mg mb h₀)
    (hk : cs.kind = .function) (hd : dp + 40 < recursionLimit) (hu : un + 600 < cLine)
    (N : News h₀ L s.heap ((q, bfmObj "list.append" (.ref pc)) :: (pc, listOf #[] e1) :: (130, tabObj tb) :: rest))
    (hq : 130 < pc ∧ pc < q) (r1 : ∀ p ∈ rest, p.1 ≠ 130) (r2 : ∀ p ∈ rest, p.1 ≠ pc)
    (hQ : ∀ (wd wr dl nsd ns pm ps : Nat) (rest' : List (Addr × Obj)) tk t0 nsds nss e0 e1 e2 e3 e4 e5 h' tk', Fr h₀ L h' m → News h₀ L h' (wCells w.params tk t0 wd wr q pc dl nsd ns pm ps false false [] [] nsds nss [Value.bool false] tb e0 e1 e2 e3 e4 e5 rest') → WOrd wd wr q pc dl nsd ns pm ps → WOff wd pc dl nsd ns ps rest' → NsOk nsds rest' → nsds.length = 1 → nss.length = 2 → (∀ p ∈ rest, p ∈ rest') → Q (.ref wr) { s with heap := h', toks := tk' }) :
    wpAny (model P3 w) (ktrTop dp un gd cn cs L a ccd cl outer) (call (.ref 157) [.ref q]) Q E s := by
  obtain ⟨hq1, hq2⟩ := hq
  iterate 1 (first | (k_unfold; (try dsimp only)) | walk1 | (dsimp only; walk1) | (leave1; try dsimp only))
  rename (Fr _ _ _ _) => F0
  obtain ⟨m9, hm9, F1⟩ : ∃ m', m' = _ ∧ Fr _ _ _ m' := ⟨_, rfl, F0⟩
  obtain ⟨v9, hv9, i_self⟩ : ∃ v, v = Value.ref _ ∧ m9 (Str.ofString "self") = some v := ⟨_, rfl, by rw [hm9]; exact rfl⟩
  subst hv9
  have i_write : m9 (Str.ofString "write") = some (Value.ref q) := by rw [hm9]; exact rfl
  have i_with_comments : m9 (Str.ofString "with_comments") = some (Value.bool false) := by rw [hm9]; exact rfl
  have i_strip_text : m9 (Str.ofString "strip_text") = some (Value.bool false) := by rw [hm9]; exact rfl
  have i_rewrite_prefixes : m9 (Str.ofString "rewrite_prefixes") = some (Value.bool false) := by rw [hm9]; exact rfl
  have i_qname_aware_tags : m9 (Str.ofString "qname_aware_tags") = some Value.none := by rw [hm9]; exact rfl
  have i_qname_aware_attrs : m9 (Str.ofString "qname_aware_attrs") = some Value.none := by rw [hm9]; exact rfl
  have i_exclude_attrs : m9 (Str.ofString "exclude_attrs") = some Value.none := by rw [hm9]; exact rfl
  have i_exclude_tags : m9 (Str.ofString "exclude_tags") = some Value.none := by rw [hm9]; exact rfl
  clear hm9 F0
  iterate 124 (first | (k_unfold; (try dsimp only)) | walk1 | (dsimp only; walk1) | (leave1; try dsimp only))
  ((with_reducible show wpAny _ _ (getMethod (Value.ref 51) _ _) _ _ _); k_dflt (refine' ns_method ?nF ?nX ?_; (case nF => k_asm); (case nX => k_asm)))
  iterate 1 (first | (k_unfold; (try dsimp only)) | walk1 | (dsimp only; walk1) | (leave1; try dsimp only))
  ((with_reducible show wpAny _ _ (call (Value.builtin "dict.items") [Value.ref 51]) _ _ _); k_dflt (refine' ns_view ?nF ?nN ?nX ?_; (case nF => k_asm); (case nN => k_asm); (case nX => k_asm)); intro D' h' F' N' l1; (try k_lt l1))
  iterate 1 (first | (k_unfold; (try dsimp only)) | walk1 | (dsimp only; walk1) | (leave1; try dsimp only))
  ((with_reducible show wpAny _ _ (call (Value.type "list") [Value.ref _]) _ _ _); k_dflt (refine' ns_list ?nh ?nF ?nX ?nN ?_; (case nh => exact rfl); (case nF => k_asm); (case nX => k_asm); (case nN => k_asm)); intro B' h' tk' F' N' l1 l2; (try k_lt l1))
  repeat (first | (k_unfold; (try dsimp only)) | walk1 | (dsimp only; walk1) | (leave1; try dsimp only))
  rename (News _ _ _ _) => N9
  (try dsimp only at N9)
  obtain ⟨rest9, tk9, N9x, o9, W9, n9, s9⟩ := fin_init N9 (lt_suf (by assumption) (by repeat (first | with_reducible exact Suf.here | with_reducible refine Suf.tail ?_))) r1 r2 (by
    refine pw_cons ?_ (pw_cons ?_ (pw_cons ?_ (pw_cons ?_ (pw_cons ?_ (pw_cons ?_ (pw_cons ?_ (pw_cons ?_ (pw_cons ?_ (pw_cons ?_ (pw_cons ?_ (pw_cons ?_ (List.pairwise_singleton _ _))))))))))))
    all_goals (walk_at "LT"))
  exact hQ _ _ _ _ _ _ _ rest9 tk9 _ _ _ _ _ _ _ _ _ _ _ (by assumption) N9x o9 W9 n9 rfl rfl s9
end
theorem topOff13 : True := by
  w_top off
  trivial
section
open PySem PySem.W PyProof.Rows PySem.Calls PySem.Spec

def leastAux (len : Nat) : Nat → Nat → List Int → List Int → Int
  | at_, _, _, [] => (len : Int) + 1
  | at_, f, w, k :: ks => if w[f]? = some k then (if f + 1 = w.length then (at_ : Int) + 1 else leastAux len (at_ + 1) (f + 1) w ks) else leastAux len (at_ + 1) f w ks
theorem drop_of {α : Type} {l : List α} {i : Nat} {x : α} (h : l[i]? = some x) : l.drop i = x :: l.drop (i + 1) := by
  obtain ⟨hi, rfl⟩ := List.getElem?_eq_some_iff.mp h
  exact List.drop_eq_getElem_cons hi
theorem la_get {w : List Int} {f : Nat} {n : Int} (hf : f < w.length) : (w[f]? = some n) ↔ n = w.getD (f : Int).toNat 0 := by
  rw [Int.toNat_natCast, List.getD_eq_getElem?_getD, List.getElem?_eq_getElem hf]
  simp [eq_comm]
theorem la_hit {w o : List Int} {i f len : Nat} {n : Int} (h : o[i]? = some n) (hf : f < w.length) (e : n = w.getD (f : Int).toNat 0) (e2 : f + 1 = w.length) : leastAux len i f w (o.drop i) = (i : Int) + 1 := by
  rw [drop_of h, leastAux, if_pos ((la_get hf).mpr e), if_pos e2]
theorem la_on {w o : List Int} {i f len : Nat} {n : Int} (h : o[i]? = some n) (hf : f < w.length) (e : n = w.getD (f : Int).toNat 0) (e2 : ¬ f + 1 = w.length) : leastAux len i f w (o.drop i) = leastAux len (i + 1) (f + 1) w (o.drop (i + 1)) := by
  rw [drop_of h, leastAux, if_pos ((la_get hf).mpr e), if_neg e2]
theorem la_no {w o : List Int} {i f len : Nat} {n : Int} (h : o[i]? = some n) (hf : f < w.length) (e : ¬ n = w.getD (f : Int).toNat 0) : leastAux len i f w (o.drop i) = leastAux len (i + 1) f w (o.drop (i + 1)) := by
  rw [drop_of h, leastAux, if_neg (fun q => e ((la_get hf).mp q))]
def least (w order : List Int) : Int := leastAux order.length 0 0 w order
inductive LJ (news : List (Addr × Obj)) (g0 : Gens) (wa oa : Nat) (wn on : List Int) (i : Nat) (m₁ : Str → Option Value) (nw : List (Addr × Obj)) (g : Gens) : Prop
  | mk (hn : nw = news) (hg : g = g0) (hm1 : m₁ (Str.ofString "word") = some (.ref wa)) (hm2 : m₁ (Str.ofString "order") = some (.ref oa)) (f : Nat) (t : Tok) (hm3 : m₁ (Str.ofString "found") = some (.int (f : Int) t)) (hf : f < wn.length) (hle : least wn on = leastAux on.length i f wn (on.drop i)) : LJ news g0 wa oa wn on i m₁ nw g
set_option maxHeartbeats 2000000 in
theorem least_c (w : World) (dp un : Nat) (gd : Option (List Code)) (cn : Str) (cs : Scope) (a : Addr) (ccd : Value) (cl : List (Str × Addr)) (outer : List Env) (A₀ : Around) (base h₀ : Heap) (L : Addr) (m mg mb : Str → Option Value) (mean : ExcName → Option Value) (s : Shared) (Q E : Value → Shared → Prop)
    (news : List (Addr × Obj)) (wa oa : Nat) (ws os : List Value) (wn on : List Int) (k1 k2 : Nat)
    (B : Below A₀ base outer h₀) (F : Fr h₀ L s.heap m) (X : (hd3.heap_39 w.params).In h₀) (T : Top topProg lo3 mean mg mb h₀)
    (hk : cs.kind = .function) (hd : dp + 30 < recursionLimit) (hu : un + 400 < cLine)
    (N : News h₀ L s.heap (news))
    (hw : (wa, listOf ws.toArray k1) ∈ news) (ho : (oa, listOf os.toArray k2) ∈ news) (hI1 : IntsAre ws wn) (hI2 : IntsAre os on) (hne : 0 < wn.length) (hl1 : wn.length ≤ 1000) (hl2 : on.length ≤ 1000)
    (hQ : ∀ t h' tk' d', Fr h₀ L h' m → News h₀ L h' news → Q (.int (least wn on) t) { s with heap := h', toks := tk', drawn := d' }) :
    wpAny (model P3 w) (ktrTop dp un gd cn cs L a ccd cl outer) (call (.ref 201) [.ref wa, .ref oa]) Q E s := by
  refine wpAny_call ?_
  k_dflt k_enter
  iterate 6 (first | (k_unfold; (try dsimp only)) | walk1 | (dsimp only; walk1) | (leave1; try dsimp only))
  refine' For_enum (by assumption) rfl rfl (by exact rfl) (by exact rfl) (by exact rfl) ?_
  iterate 6 (first | (k_unfold; (try dsimp only)) | walk1 | (dsimp only; walk1) | (leave1; try dsimp only))
  rename (News _ _ _ _) => N2
  rename (Fr _ _ _ _) => F2
  refine' enum_made F2 N2 ho ?_
  intro it5 e5 oit5 h5 hoit5 F5 N5 l5 l6
  refine ⟨_, e5, it5, oa, _, k2, news, _, oit5, hoit5.1, hoit5.2, F5, N5, ho, Nat.ne_of_gt l6, fun p hp => Nat.ne_of_lt (Nat.lt_trans (l5 p hp) l6), fun p hp => Nat.ne_of_lt (l5 p hp), LJ news s.gens wa oa wn on, ⟨rfl, rfl, rfl, rfl, 0, _, rfl, hne, rfl⟩, ?_, ?_⟩
  · intro i v I oI I2 oI2 t m₁ h6 tk6 g6 d6 nw hv hJ F6 N6 o1 o2 o3
    obtain ⟨rfl, rfl, hm1, hm2, f, t7, hm3, hf, hle⟩ := hJ
    obtain ⟨n7, t8, rfl, hn7⟩ := hI2.at i v (by simpa using hv)
    have hlw := hI1.length
    have hf0 : (0 : Int) ≤ (f : Int) := Int.natCast_nonneg f
    have hf1 : (f : Int) < (wn.length : Int) := Int.ofNat_lt.mpr hf
    dsimp only [stG]
    repeat (first | (k_unfold; (try dsimp only)) | walk1 | (dsimp only; walk1) | (leave1; try dsimp only))
    all_goals repeat (first | (k_unfold; (try dsimp only)) | walk1 | (dsimp only; walk1) | (leave1; try dsimp only))
    · have a1 := (by assumption : n7 = wn.getD (f : Int).toNat 0)
      have a2 := (by assumption : (f : Int) + 1 = (ws.length : Int))
      have e9 := hle.trans (la_hit hn7 hf a1 (by walk_at "AR"))
      show qk (Flow.ret _) _
      repeat (first | (k_unfold; (try dsimp only)) | walk1 | (dsimp only; walk1) | (leave1; try dsimp only))
      rename (Fr _ _ _ _) => F9
      rename (News _ _ _ _) => N9
      have q9 := hQ (tk + 1) _ (tk + 1 + 1) d6 (by assumption) (fun p hp => N9 p (.tail _ (.tail _ hp)))
      rw [e9] at q9
      exact q9
    · have a1 := (by assumption : n7 = wn.getD (f : Int).toNat 0)
      have a2 := (by assumption : ¬ (f : Int) + 1 = (ws.length : Int))
      have e9 := hle.trans (la_on hn7 hf a1 (by walk_at "AR"))
      rename (Fr _ _ _ _) => F9
      rename (News _ _ _ _) => N9
      exact ⟨_, _, _, _, _, nw, F9, N9, o1, o2, ho, rfl, rfl, hm1, hm2, f + 1, _, rfl, by walk_at "AR", e9⟩
    · have a2 := (by assumption : (f : Int) = (ws.length : Int))
      exfalso
      walk_at "AR"
    · have a1 := (by assumption : ¬ n7 = wn.getD (f : Int).toNat 0)
      have e9 := hle.trans (la_no hn7 hf a1)
      repeat (first | (k_unfold; (try dsimp only)) | walk1 | (dsimp only; walk1) | (leave1; try dsimp only))
      exact ⟨_, _, _, _, _, nw, F6, N6, o1, o2, ho, rfl, rfl, hm1, hm2, f, _, hm3, hf, e9⟩
  · intro m₁ nw h6 tk6 g6 d6 hJ F6 N6
    obtain ⟨rfl, rfl, hm1, hm2, f, t7, hm3, hf, hle⟩ := hJ
    have hlo := hI2.length
    dsimp only [stG]
    repeat (first | (k_unfold; (try dsimp only)) | walk1 | (dsimp only; walk1) | (leave1; try dsimp only))
    have e9 : least wn on = (os.length : Int) + 1 := by
      rw [hle, List.drop_eq_nil_of_le (by rw [List.size_toArray]; walk_at "AR"), leastAux, hlo]
    have q9 := hQ (tk6 + 1 + 1 + 1) h6 (tk6 + 1 + 1 + 1 + 1) d6 (by assumption) (by assumption)
    rw [e9] at q9
    exact q9
end
theorem topOff14 : True := by
  w_top off
  trivial
section
open PySem PySem.W PyProof.Rows PySem.Calls PySem.Spec
theorem gtDropL {a b : Addr × Obj} {tl news : List (Addr × Obj)} (h1 : ∀ p ∈ tl ++ news, p.1 < a.1) (h2 : ∀ p ∈ tl ++ news, p.1 < b.1) (g : ∀ p ∈ tl, ∀ q ∈ news, q.1 < p.1) : ∀ p ∈ a :: b :: tl, ∀ q ∈ news, q.1 < p.1 := List.forall_mem_cons.2 ⟨fun q hq => h1 q (List.mem_append_right _ hq), List.forall_mem_cons.2 ⟨fun q hq => h2 q (List.mem_append_right _ hq), g⟩⟩
inductive WJ1 (g0 : Gens) (news keep : List (Addr × Obj)) (ts : List Tr) (i : Nat) (ys : List Value) (nw : List (Addr × Obj)) (g : Gens) : Prop
  | mk (hg : g = g0) (tl : List (Addr × Obj)) (hn : nw = tl ++ news) (hgt : ∀ p ∈ tl, ∀ q ∈ news, q.1 < p.1) (hc : ∀ p ∈ keep, p ∈ nw) (hW : WordsAt tl ys (wordsL (ts.take i))) : WJ1 g0 news keep ts i ys nw g
inductive WJ2 (g0 : Gens) (news keep : List (Addr × Obj)) (ys : List Value) (ws : List (List Int)) (k : Int) (i : Nat) (zs : List Value) (nw : List (Addr × Obj)) (g : Gens) : Prop
  | mk (hg : g = g0) (tl : List (Addr × Obj)) (hs1 : ∀ p ∈ tl, p ∈ nw) (hs2 : ∀ p ∈ news, p ∈ nw) (hgt : ∀ p ∈ tl, ∀ q ∈ news, q.1 < p.1) (hc : ∀ p ∈ keep, p ∈ nw) (hW1 : WordsAt tl ys ws) (hW2 : WordsAt tl zs ((ws.take i).map (· ++ [k]))) : WJ2 g0 news keep ys ws k i zs nw g
set_option maxHeartbeats 4000000 in
theorem words_c (n : Nat) : ∀ (t : Tr), dep t ≤ n → ∀ (w : World) (dp un : Nat) (gd : Option (List Code)) (cn : Str) (cs : Scope) (a : Addr) (ccd : Value) (cl : List (Str × Addr)) (outer : List Env) (A₀ : Around) (base h₀ : Heap) (L : Addr) (m mg mb : Str → Option Value) (mean : ExcName → Option Value) (s : Shared) (Q E : Value → Shared → Prop)
    (news : List (Addr × Obj)) (K KD : Nat) (ka kv : List Value) (kn kdn : Nat) (tp : Tok)
    (B : Below A₀ base outer h₀) (F : Fr h₀ L s.heap m) (X : (hd3.heap_39 w.params).In h₀) (T : Top topProg lo3 mean mg mb h₀)
    (hk : cs.kind = .function) (hd : dp + 20 * n + 20 < recursionLimit) (hu : un + 300 * n + 400 < cLine)
    (N : News h₀ L s.heap news)
    (hK : (K, listOf ka.toArray kn) ∈ news) (hKD : (KD, listOf kv.toArray kdn) ∈ news) (hT : TreeIn news ka kv t) (hsz : (words t).length ≤ 1000) (hsl : ∀ x ∈ words t, x.length ≤ 1000)
    (hQ : ∀ (R : Nat) (wsr : List Value) (kr : Nat) (tl : List (Addr × Obj)) h' tk' d', Fr h₀ L h' m → News h₀ L h' (tl ++ news) → (∀ p ∈ tl, ∀ q ∈ news, q.1 < p.1) → (R, listOf wsr.toArray kr) ∈ tl → WordsAt tl wsr (words t) → Q (.ref R) { s with heap := h', toks := tk', drawn := d' }),
    wpAny (model P3 w) (ktrTop dp un gd cn cs L a ccd cl outer) (call (.ref 194) [.ref K, .ref KD, .int (t.root : Int) tp]) Q E s := by
  induction n with
  | zero =>
    intro t ht
    cases t with
    | node p k ts => rw [dep] at ht; exact absurd ht (Nat.not_succ_le_zero _)
  | succ n ih =>
    intro t ht w dp un gd cn cs a ccd cl outer A₀ base h₀ L m mg mb mean s Q E news K KD ka kv kn kdn tp B F X T hk hd hu N hK hKD hT hsz hsl hQ
    obtain ⟨hp, h1, h2, h3, h4, h5t, h6, h7⟩ := hT
    rename_i p k ts aK vs nK tK
    dsimp only [Tr.root]
    have h1' : ka.toArray[p]? = some (Value.ref aK) := by simpa using h1
    have h4' : kv.toArray[p]? = some (Value.int (k : Int) tK) := by simpa using h4
    refine wpAny_call ?_
    refine' code_defC ?k1 ?k2 ?k3 ?k4 ?k5 ?kA ?kF ?kK ?k6 ?k7 ?k8 ?k9 ?kB ?kD ?_ ?c2 ?c3 ?c4
    case kA => exact rfl
    case kF => exact rfl
    case kK => first | exact rfl | assumption
    case k1 => k_asm
    case k2 => k_asm
    case k3 => k_asm
    case k4 => k_asm
    case k5 => k_asm
    case k6 => k_is
    case k7 => k_is
    case k8 => ktr_room
    case k9 => first | exact BindsTo.of_eq rfl | exact binds_K (by k_in) rfl (by k_is) rfl rfl rfl | (refine' kp_binds ?kx ?ke; (case kx => k_in); (case ke => exact fun _ => rfl))
    case kB => exact rfl
    case kD => decide +kernel
    case c2 => exact rfl
    case c3 => exact rfl
    case c4 => exact rfl
    k_whole
    intro g5 L5 h5 tk5 cells5 FG5 F5 N5 Y5 B5 X5 T5 l5
    have hY5 := PyProof.Rows.CellsAre.three Y5
    obtain ⟨o15, o25, o35, hE5, d15, d25, d35⟩ := hY5
    subst hE5
    clear Y5
    (try simp only [List.cons_append, List.nil_append] at N5)
    (try dsimp only)
    (try k_fold)
    iterate 1 (first | (k_unfold; (try dsimp only)) | walk1 | (dsimp only; walk1) | (leave1; try dsimp only))
    refine' Assign_Nest (by assumption) rfl ?hh ?hsw ?hclos ?hcell ?hkind ?hnames ?hx ?hyl ?hdb ?hz ?hp ?h
    case hh => exact rfl
    case hsw => exact rfl
    case hclos => exact rfl
    case hcell => decide
    case hkind => exact rfl
    case hnames => decide
    case hx => exact rfl
    case hyl => exact rfl
    case hdb => exact rfl
    case hz => exact rfl
    case hp => exact rfl
    case h =>
    iterate 4 (first | (k_unfold; (try dsimp only)) | walk1 | (dsimp only; walk1) | (leave1; try dsimp only))
    have e1 : o35.data = .cell (some (.ref K)) := d35
    have e2 : o25.data = .cell (some (.ref KD)) := d25
    have e3 : o15.data = .cell (some (.int (p : Int) tp)) := d15
    clear d15 d25 d35
    refine ⟨aK, vs.toArray, nK, _, F5, N5, .tail _ (.tail _ (.tail _ h2)), WJ1 s.gens news [(L5 + 1 + 1 + 1, o15), (L5 + 1 + 1, o25), (L5 + 1, o35)] ts, ⟨rfl, [(L5 + 1 + 1 + 1, o15), (L5 + 1 + 1, o25), (L5 + 1, o35)], rfl, ?g0, fun _ h => List.mem_append_left _ h, by rw [List.take_zero, wordsL]; exact .nil⟩, ?turn, ?fin⟩
    case g0 =>
      intro p hp q hq
      have h9 : @LT.lt Nat _ q.1 L5 := l5 q hq
      revert p
      exact List.forall_mem_cons.2 ⟨Nat.lt_succ_of_lt (Nat.lt_succ_of_lt (Nat.lt_succ_of_lt h9)), List.forall_mem_cons.2 ⟨Nat.lt_succ_of_lt (Nat.lt_succ_of_lt h9), List.forall_mem_cons.2 ⟨Nat.lt_succ_of_lt h9, fun _ h => absurd h List.not_mem_nil⟩⟩⟩
    case turn =>
      intro i v I oI C oC D m₂ h6 tk6 g6 d6 ys nw E' hi hv hJ hS hNs hmx F6 N6 off6 ne6
      obtain ⟨rfl, tl, rfl, hgt, hc, hW⟩ := hJ
      have c1 := hc _ (.head _)
      have c2 := hc _ (.tail _ (.head _))
      have c3 := hc _ (.tail _ (.tail _ (.head _)))
      obtain ⟨n7, t7, rfl, hn7⟩ := h3.at i v (by simpa using hv)
      obtain ⟨t', hti, rfl⟩ : ∃ t', ts[i]? = some t' ∧ (t'.root : Int) = n7 := by
        rw [List.getElem?_map] at hn7
        cases e : ts[i]? with
        | none => rw [e] at hn7; cases hn7
        | some t' => rw [e] at hn7; exact ⟨t', rfl, Option.some.inj hn7⟩
      have hK6 : (K, listOf ka.toArray kn) ∈ tl ++ news := List.mem_append_right _ hK
      have hKD6 : (KD, listOf kv.toArray kdn) ∈ tl ++ news := List.mem_append_right _ hKD
      dsimp only [stG]
      iterate 12 (first | (k_unfold; (try dsimp only)) | walk1 | (dsimp only; walk1) | (leave1; try dsimp only))
      show wpAny _ _ (call (Value.ref 194) [Value.ref K, Value.ref KD, Value.int (t'.root : Int) t7]) _ _ _
      have hmem : t' ∈ ts := List.mem_of_getElem? hti
      have hwl := words_take_le hti
      have hw2 := wordsL_len_le (ts := ts) (p := p) (k := k)
      refine' ih t' ?q1 _ _ _ _ _ _ _ _ _ _ _ _ _ _ _ _ _ _ _ _ _ ((I, oI) :: (C, oC) :: (D, LCg.lst ys) :: (tl ++ news)) K KD ka kv kn kdn t7 ?uB ?uF ?uX ?uT ?uk ?ud ?uu ?uN ?hK ?hKD ?hT ?hsz ?hsl ?hQ
      case q1 => have h9 := dep_le hmem; rw [dep] at ht; walk_at "AR"
      case uB => k_asm
      case uF => exact F6
      case uX => k_in
      case uT => k_asm
      case uk => exact rfl
      case ud => ktr_room
      case uu => ktr_units
      case uN => exact N6
      case hK => exact .tail _ (.tail _ (.tail _ hK6))
      case hKD => exact .tail _ (.tail _ (.tail _ hKD6))
      case hT => exact (h5t t' hmem).mono fun q hq => .tail _ (.tail _ (.tail _ (List.mem_append_right _ hq)))
      case hsz => walk_at "AR"
      case hsl =>
        intro x hx
        have h9 := hsl _ (wordsL_words (p := p) (k := k) (mem_wordsL hmem hx))
        rw [List.length_append] at h9; walk_at "AR"
      case hQ =>
      intro R wsr kr tl2 h7 tk7 d7 F7 N7 hgt2 hR hW2
      have hlw := hW2.length
      have hly := hW.length
      have sub7 : ∀ q ∈ tl ++ news, q ∈ tl2 ++ tl ++ news := fun q hq => by rw [List.append_assoc]; exact List.mem_append_right _ hq
      refine ⟨h7, tk7, s.gens, d7, tl2 ++ tl ++ news, R, wsr.toArray, kr, F7, ?N, ?off, ?S, ?mem, ?sz, rfl, tl2 ++ tl, rfl, ?gt, fun p hp => sub7 _ (hc p hp), ?W⟩
      case N => rw [List.append_assoc]; exact news_mid N7
      case off => rw [List.append_assoc]; exact off3_app off6 hgt2
      case S => exact .inr ⟨_, sub7 _ (List.mem_append_right _ h2), rfl, _, rfl⟩
      case mem => exact List.mem_append_left _ (List.mem_append_left _ hR)
      case sz => rw [List.size_toArray, sizeLine_eq]; walk_at "AR"
      case gt => exact gt_app (f := [(I, oI), (C, oC), (D, LCg.lst ys)]) hgt2 hgt
      case W =>
        rw [take_one hti, wordsL_append, wordsL_one]
        exact paired_append (hW.mono fun q hq => List.mem_append_right _ hq) (hW2.mono fun q hq => List.mem_append_left _ hq)
    case fin =>
      intro ys nw g hJ D h7 tk7 d7 hbD F7 N7 off7
      obtain ⟨rfl, tl, rfl, hgt, hc, hW⟩ := hJ
      have c1 := hc _ (.head _)
      have c2 := hc _ (.tail _ (.head _))
      have c3 := hc _ (.tail _ (.tail _ (.head _)))
      dsimp only [stG]
      have hys : ts.take vs.toArray.size = ts := by
        have h9 := h3.length
        rw [List.length_map] at h9
        rw [List.size_toArray, h9, List.take_length]
      rw [hys] at hW
      have e5 : (L5 + 1 + 1 + 1, o15) ∈ (D, LCg.lst ys) :: (tl ++ news) := .tail _ c1
      have e6 : (L5 + 1 + 1, o25) ∈ (D, LCg.lst ys) :: (tl ++ news) := .tail _ c2
      have hKD7 : (KD, listOf kv.toArray kdn) ∈ tl ++ news := List.mem_append_right _ hKD
      by_cases hts : ts = []
      · subst hts
        have hy0 : ys = [] := by cases ys with
          | nil => rfl
          | cons _ _ => rw [wordsL] at hW; cases hW
        subst hy0
        repeat (first | (k_unfold; (try dsimp only)) | walk1 | (dsimp only; walk1) | (leave1; try dsimp only))
        have a1 := (by assumption : ∀ p ∈ _ :: _ :: (D, _) :: (tl ++ news), p.1 < _)
        have a2 := (by assumption : ∀ p ∈ _ :: (D, _) :: (tl ++ news), p.1 < _)
        have N9 := (by assumption : News h₀ L _ ((_, listOf #[Value.ref _] 0) :: (_, listOf #[Value.int (k : Int) _] 0) :: _ :: _ :: (tl ++ news)))
        refine hQ _ [Value.ref _] 0 _ _ _ _ (by assumption) (newsDrop N9) (gtDropL (fun p hp => a1 p (.tail _ (.tail _ (.tail _ hp)))) (fun p hp => a2 p (.tail _ (.tail _ hp))) hgt) (.head _) ?_
        rw [words, if_pos (by rfl)]
        exact .cons ⟨_, [Value.int (k : Int) _], 0, rfl, .tail _ (.head _), .cons _ _ .nil⟩ .nil
      · obtain ⟨y0, yr, rfl⟩ : ∃ y0 yr, ys = y0 :: yr := by
          cases ys with
          | nil =>
            have h9 := hW.length
            rw [List.length_nil] at h9
            exact absurd (wordsL_nil.mp (List.length_eq_zero_iff.mp h9.symm)) hts
          | cons y0 yr => exact ⟨y0, yr, rfl⟩
        have hW0 : WordsAt (tl ++ news) (y0 :: yr) (wordsL ts) := hW.mono fun q hq => List.mem_append_left _ hq
        have hwn : wordsL ts ≠ [] := fun e => hts (wordsL_nil.mp e)
        iterate 8 (first | (k_unfold; (try dsimp only)) | walk1 | (dsimp only; walk1) | (leave1; try dsimp only))
        rename (News _ _ _ _) => N8
        rename (Fr _ _ _ _) => F8
        refine ne_words (xs := y0 :: yr) N8 (.tail _ (.head _)) (.head _) (hW0.mono fun q hq => .tail _ (.tail _ hq)) hwn (by ktr_units) ?_
        iterate 2 (first | (k_unfold; (try dsimp only)) | walk1 | (dsimp only; walk1) | (leave1; try dsimp only))
        refine' ListComp_J (by assumption) ?hclos ?hcell ?hkind ?hnames ?hx ?h
        case hclos => exact rfl
        case hcell => decide
        case hkind => exact rfl
        case hnames => decide
        case hx => exact rfl
        case h =>
        iterate 1 (first | (k_unfold; (try dsimp only)) | walk1 | (dsimp only; walk1) | (leave1; try dsimp only))
        refine .inl ⟨D, (y0 :: yr).toArray, _, _, rfl, F8, N8, .tail _ (.head _), ?hz, WJ2 s.gens news [(L5 + 1 + 1 + 1, o15), (L5 + 1 + 1, o25), (L5 + 1, o35)] (y0 :: yr) (wordsL ts) (k : Int), ⟨rfl, tl, fun q hq => .tail _ (.tail _ (List.mem_append_left _ hq)), fun q hq => .tail _ (.tail _ (List.mem_append_right _ hq)), hgt, fun q hq => .tail _ (.tail _ (hc q hq)), hW, .nil⟩, ?turn2, ?fin2⟩
        case hz =>
          have h9 := hW.length
          have h8 := wordsL_len_le (ts := ts) (p := p) (k := k)
          rw [List.size_toArray, sizeLine_eq]; walk_at "AR"
        case turn2 =>
          intro i v I oI C oC D2 m₂ h8 tk8 g8 d8 zs nw E' hi hv hJ hS hNs hmx F10 N10 off10 ne10 _
          obtain ⟨rfl, tl', hs1, hs2, hgt', hc', hW1, hW2⟩ := hJ
          have c1' := hc' _ (.head _)
          have c2' := hc' _ (.tail _ (.head _))
          obtain ⟨wd7, hwd, a7, vs7, n7, rfl, hm7, hi7⟩ := paired_get hW1 (x := v) (i := i) (by simpa using hv)
          have hm8 := hs1 _ hm7
          have hKD8 := hs2 _ hKD
          obtain ⟨nn1, nn2, nn3⟩ := ne10
          dsimp only [stG]
          repeat (first | (k_unfold; (try dsimp only)) | walk1 | (dsimp only; walk1) | (leave1; try dsimp only))
          rename (News _ _ _ _) => N11
          rename (Fr _ _ _ _) => F11
          have hlen := hsl _ (wordsL_words (p := p) (k := k) (List.mem_of_getElem? hwd))
          rw [List.length_append] at hlen
          have hl7 := hi7.length
          refine add_led (vs := vs7) (ws := [Value.int (k : Int) tK]) F11 N11 (.tail _ (.tail _ (.tail _ (.tail _ hm8)))) (.head _) (by rw [sizeLine_eq]; simp only [List.length_cons, List.length_nil]; walk_at "AR") (fun R12 h12 F12 N12 big => ?_)
          refine ⟨h12, _, s.gens, _, (R12, listOf (vs7 ++ [Value.int (k : Int) tK]).toArray 0) :: nw, F12, ?N, ?off, srcAt_tail hS, rfl, (R12, listOf (vs7 ++ [Value.int (k : Int) tK]).toArray 0) :: tl', ?s1, fun q hq => .tail _ (hs2 q hq), ?gt, fun q hq => .tail _ (hc' q hq), hW1.mono fun q hq => .tail _ hq, ?W⟩
          case N =>
            intro q hq
            refine N12 q ?_
            simp only [List.mem_cons] at hq ⊢
            rcases hq with h | h | h | h | h <;> simp [h]
          case off => exact ⟨⟨Nat.ne_of_gt (big _ (.tail _ (.head _))), Nat.ne_of_gt (big _ (.tail _ (.tail _ (.head _)))), Nat.ne_of_gt (big _ (.tail _ (.tail _ (.tail _ (.head _)))))⟩, off10⟩
          case s1 =>
            intro q hq
            rcases List.mem_cons.mp hq with rfl | hq
            · exact .head _
            · exact .tail _ (hs1 q hq)
          case gt =>
            intro x hx q hq
            rcases List.mem_cons.mp hx with rfl | hx
            · exact big q (.tail _ (.tail _ (.tail _ (.tail _ (hs2 q hq)))))
            · exact hgt' x hx q hq
          case W =>
            rw [take_one hwd, List.map_append]
            exact paired_append (hW2.mono fun q hq => .tail _ hq) (.cons ⟨_, vs7 ++ [Value.int (k : Int) tK], 0, rfl, .head _, hi7.append (.cons _ _ .nil)⟩ .nil)
        case fin2 =>
          intro zs nw g hJ D9 h9 tk9 d9 hbD9 F9 N9 off9
          obtain ⟨rfl, tl', hs1, hs2, hgt', hc', hW1, hW2⟩ := hJ
          dsimp only [stG]
          repeat (first | (k_unfold; (try dsimp only)) | walk1 | (dsimp only; walk1) | (leave1; try dsimp only))
          have N10 := (by assumption : News h₀ L h9 ((D9, LCg.lst zs) :: nw))
          refine hQ D9 zs _ ((D9, LCg.lst zs) :: tl') h9 tk9 d9 (by assumption) ?N ?gt (.head _) ?W
          case N =>
            intro q hq
            refine N10 q ?_
            rcases List.mem_append.mp hq with hq | hq
            · rcases List.mem_cons.mp hq with rfl | hq
              · exact .head _
              · exact .tail _ (hs1 q hq)
            · exact .tail _ (hs2 q hq)
          case gt =>
            intro x hx q hq
            rcases List.mem_cons.mp hx with rfl | hx
            · exact hbD9 q (.tail _ (.tail _ (List.mem_append_right _ hq)))
            · exact hgt' x hx q hq
          case W =>
            have hz9 : (wordsL ts).take (y0 :: yr).toArray.size = wordsL ts := by rw [List.size_toArray, hW.length, List.take_length]
            rw [hz9] at hW2
            rw [words, if_neg hwn]
            exact hW2.mono fun q hq => .tail _ hq
end
theorem topOff15 : True := by
  w_top off
  trivial
section
open PySem PySem.W PyProof.Rows PySem.Calls PySem.Spec
theorem rest_len {tms : List Int} {at_ : Int} : ∀ {ts : List Tr} {t : Tr}, t ∈ ts → (restT tms at_ t).length ≤ (restL tms at_ ts).length
  | x :: r, t, h => by
    have e : (restL tms at_ (x :: r)).length = (restT tms at_ x).length + (restL tms at_ r).length := by
      rw [restL]; show (_ ++ _ : Array Nat).size = _; rw [Array.size_append]; rfl
    rcases List.mem_cons.mp h with rfl | h
    · walk_at "AR"
    · have := rest_len (tms := tms) (at_ := at_) h; walk_at "AR"
theorem rest_lenN {tms : List Int} {at_ : Int} {p k : Nat} {ts : List Tr} (h : ¬ tms.getD p 0 ≤ at_) : (restT tms at_ (.node p k ts)).length = (begT k).length + (restL tms at_ ts).length + (endT k).length := by
  rw [restT, if_neg h]; show ((_ ++ _) ++ _ : Array Nat).size = _; rw [Array.size_append, Array.size_append]; rfl
theorem fold_len : ∀ (l : List Str) (n : Nat), (l.toArray.foldl (fun a x => a + x.length + (Str.ofString "").length) n) = n + (catS l).length
  | [], n => by simp [catS]; decide +kernel
  | x :: r, n => by
    have e : (catS (x :: r)).length = x.length + (catS r).length := by
      rw [catS]; show (_ ++ _ : Array Nat).size = _; rw [Array.size_append]; rfl
    have h := fold_len r (n + x.length + (Str.ofString "").length)
    have h0 : (Str.ofString "").length = 0 := by decide +kernel
    rw [e]
    simp only [List.foldl_toArray', List.foldl_cons] at h ⊢
    walk_at "AR"
theorem pick3 {prog : Program} {w : World} {A : Around} {E : Value → Shared → Prop} {s : Shared} {h₀ : Heap} {L : Addr} {news : List (Addr × Obj)} {value slice : PySem.Expr} {D : Addr} {a b c : Str} {t1 t2 t3 u : Tok} {n k : Nat} (f : Nat → Str) {Q : Value → Shared → Prop} (N : News h₀ L s.heap news) (hm : (D, listOf #[.str a t1, .str b t2, .str c t3] n) ∈ news) (hk : k < 3) (h0 : f 0 = a) (h1 : f 1 = b) (h2 : f 2 = c) (h : ∀ t, Q (.str (f k) t) s)
    (hs : PySem.subscripted slice false (.ref D) (.int (k : Int) u) = operate [.ref D, .int (k : Int) u] (getItem (.ref D) (.int (k : Int) u))) : wpAny (model prog w) A (subscriptTail value slice (.ref D) (.int (k : Int) u)) Q E s := by
  obtain ⟨t, e⟩ : ∃ t, (#[.str a t1, .str b t2, .str c t3] : Array Value)[k]? = some (.str (f k) t) := by
    match k, hk with
    | 0, _ => exact ⟨t1, by rw [h0]; rfl⟩
    | 1, _ => exact ⟨t2, by rw [h1]; rfl⟩
    | 2, _ => exact ⟨t3, by rw [h2]; rfl⟩
  exact itemAt N hm e (by walk_at "AR") (h t) hs
inductive RJ (g0 : Gens) (news : List (Addr × Obj)) (tms : List Int) (atv : Int) (ts : List Tr) (i : Nat) (ys : List Value) (nw : List (Addr × Obj)) (g : Gens) : Prop
  | mk (hg : g = g0) (hn : nw = news) (l : List (Str × Tok)) (hy : ys = strValues l) (hl : l.map (·.1) = (ts.take i).map (restT tms atv)) : RJ g0 news tms atv ts i ys nw g
set_option maxHeartbeats 4000000 in
theorem rest_c (n : Nat) : ∀ (t : Tr), dep t ≤ n → ∀ (w : World) (dp un : Nat) (gd : Option (List Code)) (cn : Str) (cs : Scope) (a : Addr) (ccd : Value) (cl : List (Str × Addr)) (outer : List Env) (A₀ : Around) (base h₀ : Heap) (L : Addr) (m mg mb : Str → Option Value) (mean : ExcName → Option Value) (s : Shared) (Q E : Value → Shared → Prop)
    (news : List (Addr × Obj)) (K KD TM : Nat) (ka kv tv : List Value) (kn kdn tn : Nat) (tms : List Int) (atv : Int) (ta tp : Tok)
    (B : Below A₀ base outer h₀) (F : Fr h₀ L s.heap m) (X : (hd3.heap_39 w.params).In h₀) (T : Top topProg lo3 mean mg mb h₀)
    (hk : cs.kind = .function) (hd : dp + 20 * n + 20 < recursionLimit) (hu : un + 300 * n + 400 < cLine)
    (N : News h₀ L s.heap news)
    (hK : (K, listOf ka.toArray kn) ∈ news) (hKD : (KD, listOf kv.toArray kdn) ∈ news) (hTM : (TM, listOf tv.toArray tn) ∈ news) (hI : IntsAre tv tms) (hlen : ka.length ≤ tms.length) (hT : TreeIn news ka kv t) (hsz : (restT tms atv t).length ≤ 100000)
    (hQ : ∀ t' h' tk' d', Fr h₀ L h' m → News h₀ L h' news → Q (.str (restT tms atv t) t') { s with heap := h', toks := tk', drawn := d' }),
    wpAny (model P3 w) (ktrTop dp un gd cn cs L a ccd cl outer) (call (.ref 206) [.ref K, .ref KD, .ref TM, .int atv ta, .int (t.root : Int) tp]) Q E s := by
  induction n with
  | zero =>
    intro t ht
    cases t with
    | node p k ts => rw [dep] at ht; exact absurd ht (Nat.not_succ_le_zero _)
  | succ n ih =>
    intro t ht w dp un gd cn cs a ccd cl outer A₀ base h₀ L m mg mb mean s Q E news K KD TM ka kv tv kn kdn tn tms atv ta tp B F X T hk hd hu N hK hKD hTM hI hlen hT hsz hQ
    obtain ⟨hp, h1, h2, h3, h4, h5t, h6, h7⟩ := hT
    rename_i p k ts aK vs nK tK
    have hk3 := h7
    dsimp only [Tr.root]
    have h1' : ka.toArray[p]? = some (Value.ref aK) := by simpa using h1
    have h4' : kv.toArray[p]? = some (Value.int (k : Int) tK) := by simpa using h4
    have hpl : p < tms.length := Nat.lt_of_lt_of_le (List.getElem?_eq_some_iff.mp h1).1 hlen
    obtain ⟨tt, htt⟩ : ∃ tt, tv[p]? = some (Value.int (tms.getD p 0) tt) := by
      have hpv : p < tv.length := by rw [hI.length]; exact hpl
      obtain ⟨t9, e9⟩ := hI.int_at p tv[p] (List.getElem?_eq_getElem hpv)
      exact ⟨t9, by rw [List.getElem?_eq_getElem hpv, e9]⟩
    have htt' : tv.toArray[p]? = some (Value.int (tms.getD p 0) tt) := by simpa using htt
    refine wpAny_call ?_
    refine' code_defC ?k1 ?k2 ?k3 ?k4 ?k5 ?kA ?kF ?kK ?k6 ?k7 ?k8 ?k9 ?kB ?kD ?_ ?c2 ?c3 ?c4
    case kA => exact rfl
    case kF => exact rfl
    case kK => first | exact rfl | assumption
    case k1 => k_asm
    case k2 => k_asm
    case k3 => k_asm
    case k4 => k_asm
    case k5 => k_asm
    case k6 => k_is
    case k7 => k_is
    case k8 => ktr_room
    case k9 => first | exact BindsTo.of_eq rfl | exact binds_K (by k_in) rfl (by k_is) rfl rfl rfl | (refine' kp_binds ?kx ?ke; (case kx => k_in); (case ke => exact fun _ => rfl))
    case kB => exact rfl
    case kD => decide +kernel
    case c2 => exact rfl
    case c3 => exact rfl
    case c4 => exact rfl
    k_whole
    intro g5 L5 h5 tk5 cells5 FG5 F5 N5 Y5 B5 X5 T5 l5
    have hY5 := PyProof.Rows.CellsAre.four Y5
    obtain ⟨o15, o25, o35, o45, hE5, d15, d25, d35, d45⟩ := hY5
    subst hE5
    clear Y5
    (try simp only [List.cons_append, List.nil_append] at N5)
    (try dsimp only)
    (try k_fold)
    by_cases hle : tms.getD p 0 ≤ atv
    · have hR : restT tms atv (.node p k ts) = Str.ofString "" := by rw [restT, if_pos hle]
      rw [hR] at hQ
      repeat (first | (k_unfold; (try dsimp only)) | walk1 | (dsimp only; walk1) | (leave1; try dsimp only))
      exact hQ _ _ _ _ (by assumption) (News.tail' (News.tail' (News.tail' (News.tail' (by assumption : News h₀ L _ (_ :: _ :: _ :: _ :: news))))))
    · have hR : restT tms atv (.node p k ts) = begT k ++ restL tms atv ts ++ endT k := by rw [restT, if_neg hle]
      have hRl := rest_lenN (p := p) (k := k) (ts := ts) hle
      iterate 19 (first | (k_unfold; (try dsimp only)) | walk1 | (dsimp only; walk1) | (leave1; try dsimp only))
      rename (News _ _ _ _) => N8
      rename (Fr _ _ _ _) => F8
      refine' ListComp_J (by assumption) ?hclos ?hcell ?hkind ?hnames ?hx ?h
      case hclos => exact rfl
      case hcell => decide
      case hkind => exact rfl
      case hnames => decide
      case hx => exact rfl
      case h =>
      iterate 4 (first | (k_unfold; (try dsimp only)) | walk1 | (dsimp only; walk1) | (leave1; try dsimp only))
      refine .inl ⟨aK, vs.toArray, nK, (L5 + 1 + 1 + 1 + 1, o15) :: (L5 + 1 + 1 + 1, o25) :: (L5 + 1 + 1, o35) :: (L5 + 1, o45) :: news, rfl, F8, N8, .tail _ (.tail _ (.tail _ (.tail _ h2))), ?hz, RJ s.gens ((L5 + 1 + 1 + 1 + 1, o15) :: (L5 + 1 + 1 + 1, o25) :: (L5 + 1 + 1, o35) :: (L5 + 1, o45) :: news) tms atv ts, ⟨rfl, rfl, [], rfl, rfl⟩, ?turn, ?fin⟩
      case hz =>
        have h9 := h3.length
        rw [List.length_map] at h9
        rw [List.size_toArray, sizeLine_eq]; walk_at "AR"
      case turn =>
        intro i v I oI C oC D m₂ h6 tk6 g6 d6 ys nw E' hi hv hJ hS hNs hmx F6 N6 off6 ne6 _
        obtain ⟨rfl, rfl, l, rfl, hl2⟩ := hJ
        obtain ⟨n7, t7, rfl, hn7⟩ := h3.at i v (by simpa using hv)
        obtain ⟨t', hti, rfl⟩ : ∃ t', ts[i]? = some t' ∧ (t'.root : Int) = n7 := by
          rw [List.getElem?_map] at hn7
          cases e : ts[i]? with
          | none => rw [e] at hn7; cases hn7
          | some t' => rw [e] at hn7; exact ⟨t', rfl, Option.some.inj hn7⟩
        have hmem : t' ∈ ts := List.mem_of_getElem? hti
        dsimp only [stG]
        iterate 16 (first | (k_unfold; (try dsimp only)) | walk1 | (dsimp only; walk1) | (leave1; try dsimp only))
        show wpAny _ _ (call (Value.ref 206) [Value.ref K, Value.ref KD, Value.ref TM, Value.int atv ta, Value.int (t'.root : Int) t7]) _ _ _
        have sub : ∀ q ∈ news, q ∈ (I, oI) :: (C, oC) :: (D, LCg.lst (strValues l)) :: (L5 + 1 + 1 + 1 + 1, o15) :: (L5 + 1 + 1 + 1, o25) :: (L5 + 1 + 1, o35) :: (L5 + 1, o45) :: news := fun q hq => .tail _ (.tail _ (.tail _ (.tail _ (.tail _ (.tail _ (.tail _ hq))))))
        refine' ih t' ?q1 _ _ _ _ _ _ _ _ _ _ _ _ _ _ _ _ _ _ _ _ _ ((I, oI) :: (C, oC) :: (D, LCg.lst (strValues l)) :: (L5 + 1 + 1 + 1 + 1, o15) :: (L5 + 1 + 1 + 1, o25) :: (L5 + 1 + 1, o35) :: (L5 + 1, o45) :: news) K KD TM ka kv tv kn kdn tn tms atv ta t7 ?uB ?uF ?uX ?uT ?uk ?ud ?uu ?uN ?hK ?hKD ?hTM hI hlen ?hT ?hsz ?hQ
        case q1 => have h9 := dep_le hmem; rw [dep] at ht; walk_at "AR"
        case uB => k_asm
        case uF => exact F6
        case uX => k_in
        case uT => k_asm
        case uk => exact rfl
        case ud => ktr_room
        case uu => ktr_units
        case uN => exact N6
        case hK => exact sub _ hK
        case hKD => exact sub _ hKD
        case hTM => exact sub _ hTM
        case hT => exact (h5t t' hmem).mono sub
        case hsz => have h9 := rest_len (tms := tms) (at_ := atv) hmem; walk_at "AR"
        case hQ =>
        intro u7 h7 tk7 d7 F7 N7
        refine ⟨h7, tk7, s.gens, d7, _, F7, N7, off6, hS, rfl, rfl, l ++ [(restT tms atv t', u7)], ?e1, ?e2⟩
        case e1 => simp [strValues]
        case e2 => rw [take_one hti, List.map_append, List.map_append, hl2]; rfl
      case fin =>
        intro ys nw g hJ D h7 tk7 d7 hbD F7 N7 off7
        obtain ⟨rfl, rfl, l, rfl, hl2⟩ := hJ
        dsimp only [stG]
        have hys : ts.take vs.toArray.size = ts := by
          have h9 := h3.length
          rw [List.length_map] at h9
          rw [List.size_toArray, h9, List.take_length]
        rw [hys] at hl2
        iterate 1 (first | (k_unfold; (try dsimp only)) | walk1 | (dsimp only; walk1) | (leave1; try dsimp only))
        refine join_led' (l := l) N7 (.head _) ?hz (x := restL tms atv ts) ?hx ?hg ?hh
        case hz => rw [hl2, fold_len, catS_rest]; exact decide_eq_false (by rw [sizeLine_eq]; walk_at "AR")
        case hx => rw [hl2, glued_cat, catS_rest]
        case hg => rw [sizeLine_eq]; walk_at "AR"
        case hh =>
        intro uj tkj _
        iterate 1 (first | (k_unfold; (try dsimp only)) | walk1 | (dsimp only; walk1) | (leave1; try dsimp only))
        have hb1 : (begT k ++ restL tms atv ts).length = (begT k).length + (restL tms atv ts).length := by show (_ ++ _ : Array Nat).size = _; rw [Array.size_append]; rfl
        iterate 16 (first | (k_unfold; (try dsimp only)) | walk1 | (dsimp only; walk1) | (leave1; try dsimp only))
        rename (News _ _ _ _) => N12
        refine pick3 begT N12 (.head _) hk3 rfl rfl rfl (fun tb9 => ?_) (by with_unfolding_all rfl)
        iterate 23 (first | (k_unfold; (try dsimp only)) | walk1 | (dsimp only; walk1) | (leave1; try dsimp only))
        rename (News _ _ _ _) => N13
        refine pick3 endT N13 (.head _) hk3 rfl rfl rfl (fun te9 => ?_) (by with_unfolding_all rfl)
        repeat (first | (k_unfold; (try dsimp only)) | walk1 | (dsimp only; walk1) | (leave1; try dsimp only))
        rw [hR] at hQ
        rename (News _ _ _ _) => N20
        exact hQ _ _ _ _ (by assumption) fun q hq => N20 q (.tail _ (.tail _ (.tail _ (.tail _ (.tail _ (.tail _ (.tail _ hq)))))))
end
theorem topOff16 : True := by
  w_top off
  trivial
section
open PySem PySem.W PyProof.Rows PySem.Calls PySem.Spec
section
variable {prog : Program} {w : World} {A : Around} {E : Value → Shared → Prop} {s : Shared} {h₀ : Heap} {L : Addr} {m : Str → Option Value} {news : List (Addr × Obj)}
theorem tupItem1 {value slice : PySem.Expr} {a : Addr} {vs : List Value} {u : Tok} {v : Value} {Q : Value → Shared → Prop} (N : News h₀ L s.heap news) (hm : (a, tupOf vs) ∈ news) (hk : 1 < vs.length) (hz : vs.length < 1000) (hx : vs[1]? = some v) (h : Q v s)
    (hs : subscripted slice false (.ref a) (.int 1 u) = operate [.ref a, .int 1 u] (getItem (.ref a) (.int 1 u)) := by with_unfolding_all rfl) :
    wpAny (model prog w) A (subscriptTail value slice (.ref a) (.int 1 u)) Q E s := tupItem (k := 1) N hm hk hz hx h hs
end
def stripS (x : Str) (y : Str) : Str := catS (Txt.split x y)
def stripAll : List Str → Str → Str
  | [], x => x
  | y :: r, x => stripAll r (stripS x y)
theorem stripAll_append (a b : List Str) (x : Str) : stripAll (a ++ b) x = stripAll b (stripAll a x) := by
  induction a generalizing x with
  | nil => rfl
  | cons y r ih => exact ih _
def pairArgs : List (Str × Tok × Tok) → List Value
  | [] => []
  | p :: r => .str p.1 p.2.1 :: .str (Str.ofString "") p.2.2 :: pairArgs r
inductive PJ (news : List (Addr × Obj)) (pv : List (Str × Tok × Tok)) (x : Str) (n : Nat) (m₁ : Str → Option Value) (nw : List (Addr × Obj)) : Prop
  | mk (T k : Nat) (u : Tok) (hk : k ≤ pv.length) (hn : n = pv.length - k) (mp : m₁ (Str.ofString "pairs") = some (.ref T)) (mt : m₁ (Str.ofString "text") = some (.str (stripAll ((pv.take k).map (·.1)) x) u)) (hT : (T, tupOf (pairArgs (pv.drop k))) ∈ nw) (hs : ∀ p ∈ news, p ∈ nw) : PJ news pv x n m₁ nw
theorem pairArgs_len : ∀ l : List (Str × Tok × Tok), (pairArgs l).length = 2 * l.length
  | [] => rfl
  | p :: r => by rw [pairArgs, List.length_cons, List.length_cons, pairArgs_len r, List.length_cons]; walk_at "AR"
set_option maxHeartbeats 4000000 in
theorem replace_c (w : World) (dp un : Nat) (gd : Option (List Code)) (cn : Str) (cs : Scope) (a : Addr) (ccd : Value) (cl : List (Str × Addr)) (outer : List Env) (A₀ : Around) (base h₀ : Heap) (L : Addr) (m mg mb : Str → Option Value) (mean : ExcName → Option Value) (s : Shared) (Q E : Value → Shared → Prop)
    (news : List (Addr × Obj)) (pv : List (Str × Tok × Tok)) (x : Str) (tx : Tok)
    (B : Below A₀ base outer h₀) (F : Fr h₀ L s.heap m) (X : (hd3.heap_39 w.params).In h₀) (T : Top topProg lo3 mean mg mb h₀)
    (hk : cs.kind = .function) (hd : dp + 40 < recursionLimit) (hu : un + 400 < cLine)
    (N : News h₀ L s.heap (news))
    (hne : ∀ p ∈ pv, (p.1.length == 0) = false) (hlen : pv.length ≤ 9) (hsz : ∀ k, k ≤ pv.length → (stripAll ((pv.take k).map (·.1)) x).length ≤ 100000)
    (hQ : ∀ t' h' tk', Fr h₀ L h' m → News h₀ L h' news → Q (.str (stripAll (pv.map (·.1)) x) t') { s with heap := h', toks := tk' }) :
    wpAny (model P3 w) (ktrTop dp un gd cn cs L a ccd cl outer) (call (.ref 45) (.str x tx :: pairArgs pv)) Q E s := by
  refine wpAny_call ?_
  refine' kp_rest (vs := pairArgs pv) (g₁ := fun D => some [(Str.ofString "text", .str x tx), (Str.ofString "pairs", .ref D)]) (binds := fun D => [(Str.ofString "text", .str x tx), (Str.ofString "pairs", .ref D)]) ?k1 ?k2 ?k3 ?k4 ?k5 ?kA ?kF ?kK ?k6 ?k7 ?k8 ?kV ?kP ?kG ?kB ?_ ?c2 ?c3 ?c4 ?c5
  case kA => exact rfl
  case kF => exact rfl
  case kK => first | exact rfl | assumption
  case k1 => k_asm
  case k2 => k_asm
  case k3 => k_asm
  case k4 => k_asm
  case k5 => k_asm
  case k6 => k_is
  case k7 => k_is
  case k8 => ktr_room
  case kV => exact rfl
  case kP =>
    rcases pv with _ | ⟨_, _ | ⟨_, _ | ⟨_, _ | ⟨_, _ | ⟨_, _ | ⟨_, _ | ⟨_, _ | ⟨_, _ | ⟨_, _ | ⟨_, _⟩⟩⟩⟩⟩⟩⟩⟩⟩⟩
    all_goals first | exact rfl | (exfalso; simp only [List.length_cons] at hlen; walk_at "AR")
  case kG => exact fun _ => rfl
  case kB => exact fun _ => locs rfl
  case c5 => decide
  case c2 => exact rfl
  case c3 => exact rfl
  case c4 => exact rfl
  k_whole
  intro T5 g5 L5 h5 l5 FG5 F5 N5 B5 X5 T5'
  (try dsimp only)
  (try k_fold)
  iterate 2 (first | (k_unfold; (try dsimp only)) | walk1 | (dsimp only; walk1) | (leave1; try dsimp only))
  rename (News _ _ _ _) => N6
  rename (Fr _ _ _ _) => F6
  refine' While_inv (n₀ := pv.length) (PJ news pv x) F6 N6 ?j0 ?turn
  case j0 => exact ⟨T5, 0, tx, Nat.zero_le _, rfl, (by with_unfolding_all rfl), (by with_unfolding_all rfl), .head _, fun p hp => .tail _ hp⟩
  case turn =>
    intro n9 m₁ nw h₁ tk₁ F1 N1 hJ
    obtain ⟨T, k, u, hk9, rfl, mp, mt, hT, hsub⟩ := hJ
    have hszk := hsz k hk9
    by_cases hkl : k = pv.length
    · subst hkl
      rw [List.take_length] at mt hszk
      rw [List.drop_length] at hT
      iterate 2 (first | (k_unfold; (try dsimp only)) | walk1 | (dsimp only; walk1) | (leave1; try dsimp only))
      refine ktl_truthy (N1.get hT) (by simp only [pairArgs]; decide) ?_
      have hb : (!(pairArgs []).toArray.isEmpty) = false := rfl
      rw [hb, if_neg (by decide)]
      repeat (first | (k_unfold; (try dsimp only)) | walk1 | (dsimp only; walk1) | (leave1; try dsimp only))
      exact hQ _ _ _ (by assumption) (newsSub (by assumption) hsub)
    · obtain ⟨p9, hp9⟩ : ∃ p9, pv[k]? = some p9 := ⟨pv[k]'(by walk_at "AR"), List.getElem?_eq_getElem _⟩
      have hdr : pv.drop k = p9 :: pv.drop (k + 1) := by
        have hlt : k < pv.length := by walk_at "AR"
        rw [List.drop_eq_getElem_cons hlt]
        rw [List.getElem?_eq_getElem hlt] at hp9
        rw [Option.some.inj hp9]
      rw [hdr, pairArgs] at hT
      have hpl := pairArgs_len (pv.drop (k + 1))
      rw [List.length_drop] at hpl
      have hpl2 : (pairArgs (pv.drop (k + 1))).length + 1 + 1 ≤ 20 := by walk_at "AR"
      iterate 2 (first | (k_unfold; (try dsimp only)) | walk1 | (dsimp only; walk1) | (leave1; try dsimp only))
      refine ktl_truthy (N1.get hT) (by simp only [List.size_toArray, List.length_cons]; walk_at "AR") ?_
      have hb : (!(Value.str p9.1 p9.2.1 :: Value.str (Str.ofString "") p9.2.2 :: pairArgs (pv.drop (k + 1))).toArray.isEmpty) = true := rfl
      rw [hb, if_pos rfl]
      iterate 7 (first | (k_unfold; (try dsimp only)) | walk1 | (dsimp only; walk1) | (leave1; try dsimp only))
      ((with_reducible show wpAny _ _ (subscriptTail _ _ (Value.ref _) (Value.int 1 _)) _ _ _); k_dflt (refine' tupItem1 ?N ?m ?k ?z ?x ?_ ?hs; (case N => k_asm); (case m => k_mem); (case k => (simp only [List.length_cons]; walk_at "AR")); (case z => (simp only [List.length_cons]; walk_at "AR")); (case x => exact rfl); (case hs => with_unfolding_all rfl)))
      iterate 11 (first | (k_unfold; (try dsimp only)) | walk1 | (dsimp only; walk1) | (leave1; try dsimp only))
      ((with_reducible show wpAny _ _ (subscriptTail _ _ (Value.ref _) (Value.int 0 _)) _ _ _); k_dflt (refine' tupItem0 ?N ?m ?k ?z ?x ?_ ?hs; (case N => k_asm); (case m => k_mem); (case k => exact Nat.zero_lt_succ _); (case z => (simp only [List.length_cons]; walk_at "AR")); (case x => exact rfl); (case hs => with_unfolding_all rfl)))
      iterate 1 (first | (k_unfold; (try dsimp only)) | walk1 | (dsimp only; walk1) | (leave1; try dsimp only))
      refine KSpl.split1 (by assumption) (by assumption) (hne p9 (List.mem_of_getElem? hp9)) ?hsp ?hz1
      case hz1 => rw [sizeLine_eq]; walk_at "AR"
      case hsp =>
      intro D l9 h9 tk9 hl9 hS9 F9 N9 lt9
      have hst : stripAll ((pv.take (k + 1)).map (·.1)) x = catS (l9.map (·.1)) := by
        rw [take_one hp9, List.map_append, stripAll_append, hl9]; rfl
      have hsz1 := hsz (k + 1) (by walk_at "AR")
      rw [hst] at hsz1
      iterate 1 (first | (k_unfold; (try dsimp only)) | walk1 | (dsimp only; walk1) | (leave1; try dsimp only))
      refine join_led' (l := l9) (by assumption) (.head _) ?hz (x := catS (l9.map (·.1))) ?hx ?hg ?hh
      case hz => rw [fold_len]; exact decide_eq_false (by rw [sizeLine_eq]; walk_at "AR")
      case hx => rw [glued_cat]
      case hg => rw [sizeLine_eq]; walk_at "AR"
      case hh =>
      intro uj tkj _
      iterate 11 (first | (k_unfold; (try dsimp only)) | walk1 | (dsimp only; walk1) | (leave1; try dsimp only))
      rename (News _ _ _ _) => N10
      rename (Fr _ _ _ _) => F10
      refine' slice_tuple_from (a := 2) (items := (Value.str p9.1 p9.2.1 :: Value.str (Str.ofString "") p9.2.2 :: pairArgs (pv.drop (k + 1))).toArray) F10 N10 ?sT ?s1 ?s2 ?sh ?ss ?sg ?sz
      case sT => exact News.isTup N10 (.tail _ hT)
      case s1 => decide
      case s2 => simp only [List.size_toArray, List.length_cons]; walk_at "AR"
      case ss => with_unfolding_all rfl
      case sg => intro _; with_unfolding_all rfl
      case sz => simp only [List.size_toArray, List.length_cons]; rw [sizeLine_eq]; walk_at "AR"
      case sh =>
      intro h11 F11 N11
      iterate 2 (first | (k_unfold; (try dsimp only)) | walk1 | (dsimp only; walk1) | (leave1; try dsimp only))
      rename (News _ _ _ _) => N12
      rename (Fr _ _ _ _) => F12
      refine WhileStep.intro F12 N12 (n' := pv.length - (k + 1)) (Nat.sub_lt_sub_left (Nat.lt_of_le_of_ne hk9 hkl) (Nat.lt_succ_self k)) ⟨_, k + 1, uj, by walk_at "AR", rfl, ?fp, ?ft, .head _, fun p hp => .tail _ (.tail _ (hsub p hp))⟩
      case fp => exact if_pos rfl
      case ft =>
        rw [hst]
        exact Eq.trans (if_neg (by decide +kernel)) (if_pos rfl)
end
theorem topOff17 : True := by
  w_top off
  trivial
section
open PySem PySem.W PyProof.Rows PySem.Calls PySem.Spec
def CodeLike (o : Obj) : Prop := ∃ vs q t, o.data = .fields vs ∧ vs[1]? = some (.str q t)
theorem tab_new {pos : Pos} {q : Str} {tb : Array Value} {rest rest' : List (Addr × Obj)} (T : TabSt pos q tb rest') : ∃ new : List (Addr × Obj), (∀ p ∈ new, p ∈ rest') ∧ (∀ p ∈ new, CodeLike p.2) ∧ TabSt pos q tb (new ++ rest) := by
  rcases T with T | ⟨c', T, oc, vs, t, hm, hd, hv⟩
  · exact ⟨[], (by intro p hp; cases hp), (by intro p hp; cases hp), Or.inl T⟩
  · have hm' : (c', oc) ∈ [(c', oc)] ++ rest := List.mem_append_left _ (List.mem_singleton.mpr rfl)
    have C' : CodeObj q c' ([(c', oc)] ++ rest) := ⟨oc, vs, t, hm', hd, hv⟩
    have T' : TabSt pos q tb ([(c', oc)] ++ rest) := Or.inr ⟨c', T, C'⟩
    refine ⟨[(c', oc)], ?_, ?_, T'⟩
    · intro p hp; rw [List.mem_singleton.mp hp]; exact hm
    · intro p hp; rw [List.mem_singleton.mp hp]; exact ⟨vs, q, t, hd, hv⟩
set_option maxHeartbeats 4000000 in
theorem written_c (w : World) (dp un : Nat) (gd : Option (List Code)) (cn : Str) (cs : Scope) (a : Addr) (ccd : Value) (cl : List (Str × Addr)) (outer : List Env) (A₀ : Around) (base h₀ : Heap) (L : Addr) (m mg mb : Str → Option Value) (mean : ExcName → Option Value) (s : Shared) (Q E : Value → Shared → Prop)
    (rest : List (Addr × Obj)) (tb : Array Value) (K KD TM : Nat) (ka kv tv : List Value) (kn kdn tn : Nat) (tms : List Int) (atv : Int) (ta : Tok) (t : Tr)
    (B : Below A₀ base outer h₀) (F : Fr h₀ L s.heap m) (X : (hd3.heap_39 w.params).In h₀) (T : Top topProg lo3 mean mg mb h₀)
    (hk : cs.kind = .function) (hd : dp + 400 < recursionLimit) (hu : un + 5000 < cLine)
    (N : News h₀ L s.heap ((130, tabObj tb) :: rest))
    (r1 : ∀ p ∈ rest, p.1 ≠ 130) (htb : TabSt lamPos lamQ tb rest) (hb : AllBare s.gens) (hC : CodeHd h₀ 132 130) (hK : (K, listOf ka.toArray kn) ∈ rest) (hKD : (KD, listOf kv.toArray kdn) ∈ rest) (hTM : (TM, listOf tv.toArray tn) ∈ rest) (hI : IntsAre tv tms) (hlen : ka.length ≤ tms.length) (hT : TreeIn rest ka kv t) (hroot : t.root = 0) (hdep : dep t ≤ 10) (hsiz : siz t ≤ 100) (hsz : (restT tms atv t).length ≤ 100000)
    (hQ : ∀ (tb' : Array Value) (new : List (Addr × Obj)) t' h' tk' gens' d', Fr h₀ L h' m → News h₀ L h' ((130, tabObj tb') :: (new ++ rest)) → TabSt lamPos lamQ tb' new → (∀ p ∈ new, CodeLike p.2) → (∀ p ∈ new, p.1 ≠ 130) → AllBare gens' → Q (.str (restT tms atv t) t') { s with heap := h', toks := tk', gens := gens', drawn := d' }) :
    wpAny (model P3 w) (ktrTop dp un gd cn cs L a ccd cl outer) (call (.ref 189) [.ref K, .ref KD, .ref TM, .int atv ta]) Q E s := by
  have hKt : (K, listOf ka.toArray kn) ∈ (130, tabObj tb) :: rest := .tail _ hK
  have hKDt : (KD, listOf kv.toArray kdn) ∈ (130, tabObj tb) :: rest := .tail _ hKD
  have hTMt : (TM, listOf tv.toArray tn) ∈ (130, tabObj tb) :: rest := .tail _ hTM
  refine wpAny_call ?_
  k_dflt k_enter
  iterate 20 (first | (k_unfold; (try dsimp only)) | walk1 | (dsimp only; walk1) | (leave1; try dsimp only))
  ((with_reducible show wpAny _ _ (getAttr (Value.ref _) (Str.ofString "append") true) _ _ _); k_dflt (refine' append_attr ?F ?N ?m ?_; (case F => k_asm); (case N => k_asm); (case m => k_mem)); intro q' h' tk' F' N' l1; (try k_lt l1))
  iterate 2 (first | (k_unfold; (try dsimp only)) | walk1 | (dsimp only; walk1) | (leave1; try dsimp only))
  rename (News _ _ _ _) => N2
  refine' init_c _ _ _ _ _ _ _ _ _ _ _ _ _ _ _ _ _ _ _ _ _ rest _ _ _ tb ?uB ?uF ?uX ?uT ?uk ?ud ?uu ?uN ?uq ?ur1 ?ur2 ?uQ
  case uB => k_asm
  case uF => k_asm
  case uX => k_in
  case uT => k_asm
  case uk => exact rfl
  case ud => ktr_room
  case uu => ktr_units
  case uN => exact N2
  case uq => (refine ⟨?_, ?_⟩ <;> walk_at "LT")
  case ur1 => exact r1
  case ur2 => k_all
  case uQ =>
  intro wd wr dl nsd ns pm ps rest1 tkW t0 nsds nss e0 e1 e2 e3 e4 e5 h1h tk1 F1 N1 O1 W1 Ns1 l1 l2 sub1
  dsimp only [wCells] at N1
  iterate 12 (first | (k_unfold; (try dsimp only)) | walk1 | (dsimp only; walk1) | (leave1; try dsimp only))
  cases t with
  | node p k ts =>
  dsimp only [Tr.root] at hroot
  subst hroot
  refine' tell_c 10 (.node 0 k ts) hdep _ _ _ _ _ _ _ _ _ _ _ _ _ _ _ _ _ _ _ _ _ rest1 tkW t0 wd wr _ _ dl nsd ns pm ps false false [] nsds nss [] tb e0 e1 e2 e3 e4 e5 false 0 K KD TM ka kv tv kn kdn tn tms atv ta _ ?wB ?wF ?wX ?wT ?wk ?wd ?wu ?wN O1 W1 ?wpc Ns1 ?whb (fun h => nomatch h) ?wps ?wns ?wnd ?whC ?wtb ?wK ?wKD ?wTM hI hlen ?whT ?whQ
  case wB => k_asm
  case wF => exact F1
  case wX => k_in
  case wT => k_asm
  case wk => exact rfl
  case wd => ktr_room
  case wu => ktr_units
  case wN => exact N1
  case wpc => rw [List.length_nil]; walk_at "AR"
  case whb => exact hb
  case wps => rw [List.length_nil]; walk_at "AR"
  case wns => walk_at "AR"
  case wnd => walk_at "AR"
  case whC => exact CodeHd.keeps hC (Fr.keep (by assumption))
  case wtb => exact tabSt_mono htb sub1
  case wK => exact sub1 _ hK
  case wKD => exact sub1 _ hKD
  case wTM => exact sub1 _ hTM
  case whT => exact hT.mono sub1
  case whQ =>
  intro pe7 td7 seen7 done7 rest7 new7 tb7 z1 z2 z3 z4 z5 h7 tk7 g7 d7 F7 N7 W7 T7 sub7 B7 p7 q7 pf7 c7 len7
  obtain rfl := pf7 rfl
  rw [List.nil_append] at N7
  have c8 : catS (new7.map (·.1)) = restT tms atv (.node 0 k ts) := by
    have h9 : catS (new7.map (·.1)) ++ Str.ofString "" = Str.ofString "" ++ restT tms atv (.node 0 k ts) := c7
    rw [app_nil', nil_app'] at h9
    exact h9
  iterate 9 (first | (k_unfold; (try dsimp only)) | walk1 | (dsimp only; walk1) | (leave1; try dsimp only))
  refine join_led' (l := new7) (by assumption) (by k_mem) ?hz (x := restT tms atv (.node 0 k ts)) ?hx ?hg ?hh
  case hz => rw [fold_len, c8]; exact decide_eq_false (by rw [sizeLine_eq]; walk_at "AR")
  case hx => rw [glued_cat, c8]
  case hg => rw [sizeLine_eq]; walk_at "AR"
  case hh =>
  intro uj tkj _
  repeat (first | (k_unfold; (try dsimp only)) | walk1 | (dsimp only; walk1) | (leave1; try dsimp only))
  rename (News h₀ L _ _) => N9
  obtain ⟨new, hn1, hn2, T9⟩ := tab_new (rest := []) T7
  rw [List.append_nil] at T9
  refine hQ tb7 new uj _ _ _ _ (by assumption) ?fN T9 hn2 ?fo B7
  case fo => exact fun p hp => W7.1 p (hn1 p hp)
  case fN =>
    intro p hp
    refine N9 p ?_
    rcases List.mem_cons.mp hp with h | hp
    · rw [h]; k_mem
    · have h9 : p ∈ rest7 := by
        rcases List.mem_append.mp hp with h | h
        · exact hn1 p h
        · exact sub7 p (sub1 p h)
      k_mem
end
theorem topOff18 : True := by
  w_top off
  trivial
section
open PySem PySem.W PyProof.Rows PySem.Calls PySem.Spec
def loneT (k : Nat) : Str := restT [1] 0 (.node 0 k [])
theorem loneT_eq (k : Nat) : loneT k = begT k ++ endT k := by
  unfold loneT
  rw [restT, if_neg (by decide), restL, app_nil']
theorem loneT_len (k : Nat) : (loneT k).length ≤ 100 := by
  match k with
  | 0 => decide +kernel
  | 1 => decide +kernel
  | k + 2 => exact Nat.le_trans (Nat.le_of_eq (show (loneT (k + 2)).length = (loneT 2).length from by rw [loneT_eq, loneT_eq]; rfl)) (by decide +kernel)
set_option maxHeartbeats 4000000 in
theorem lone_c (w : World) (dp un : Nat) (gd : Option (List Code)) (cn : Str) (cs : Scope) (a : Addr) (ccd : Value) (cl : List (Str × Addr)) (outer : List Env) (A₀ : Around) (base h₀ : Heap) (L : Addr) (m mg mb : Str → Option Value) (mean : ExcName → Option Value) (s : Shared) (Q E : Value → Shared → Prop)
    (tb : Array Value) (a1 a2 a3 a4 I C D : Nat) (oI oC oD : Obj) (mC : Str → Option Value) (k : Nat) (t1 t9 t0 : Tok) (yD : Array Value) (nD : Nat) (new6 : List (Addr × Obj))
    (B : Below A₀ base outer h₀) (F : Fr h₀ L s.heap m) (X : (hd3.heap_39 w.params).In h₀) (T : Top topProg lo3 mean mg mb h₀)
    (hk : cs.kind = .function) (hd : dp + 400 < recursionLimit) (hu : un + 5000 < cLine)
    (N : News h₀ L s.heap ((a1, listOf #[Value.int 1 t1] 0) :: (a2, listOf #[Value.int (k : Int) t9] 0) :: (a3, listOf #[Value.ref a4] 0) :: (a4, listOf #[] 0) :: (I, oI) :: (C, oC) :: (D, oD) :: (130, tabObj tb) :: new6))
    (l1 : @Ne Nat a1 130) (l2 : @Ne Nat a2 130) (l3 : @Ne Nat a3 130) (l4 : @Ne Nat a4 130) (off6 : LCg.Off3 I C D ((130, tabObj tb) :: new6)) (it6 : ItObj oI) (hNs : LCg.NsObj oC mC) (hoD : oD.data = .seq yD nD) (r6 : ∀ p ∈ new6, p.1 ≠ 130) (htb : TabSt lamPos lamQ tb new6) (hb : AllBare s.gens) (hC : CodeHd h₀ 132 130) (hk3 : k < 3)
    (hQ : ∀ (tb' : Array Value) (new : List (Addr × Obj)) t' h' tk' gens' d', Fr h₀ L h' m → News h₀ L h' ((I, oI) :: (C, oC) :: (D, oD) :: (130, tabObj tb') :: (new ++ new6)) → LCg.Off3 I C D ((130, tabObj tb') :: (new ++ new6)) → TabSt lamPos lamQ tb' (new ++ new6) → (∀ p ∈ new ++ new6, p.1 ≠ 130) → AllBare gens' → Q (.str (loneT k) t') { s with heap := h', toks := tk', gens := gens', drawn := d' }) :
    wpAny (model P3 w) (ktrTop dp un gd cn cs L a ccd cl outer) (call (.ref 189) [.ref a3, .ref a2, .ref a1, .int 0 t0]) Q E s := by
  have o0 := off6.mem (130, tabObj tb) (.head _)
  have o6 : ∀ p ∈ new6, @Ne Nat p.1 I ∧ @Ne Nat p.1 C ∧ @Ne Nat p.1 D := fun p hp => off6.mem p (.tail _ hp)
  refine written_c _ _ _ _ _ _ _ _ _ _ _ _ _ _ _ _ _ _ _ _ _ ((a1, listOf #[Value.int 1 t1] 0) :: (a2, listOf #[Value.int (k : Int) t9] 0) :: (a3, listOf #[Value.ref a4] 0) :: (a4, listOf #[] 0) :: (I, oI) :: (C, oC) :: (D, oD) :: new6) tb a3 a2 a1 [.ref a4] [.int (k : Int) t9] [.int 1 t1] 0 0 0 [1] 0 t0 (.node 0 k []) B F X T hk hd hu ?N ?r ?t hb hC ?K ?KD ?TM ?I ?len ?T rfl (by rw [dep, depL]; walk_at "AR") (by rw [siz, sizL]; walk_at "AR") (Nat.le_trans (loneT_len k) (by decide)) ?Q
  case N => exact news_midL [_, _, _, _, _, _, _] N
  case r => exact all_cons l1 (all_cons l2 (all_cons l3 (all_cons l4 (all_cons (Ne.symm o0.1) (all_cons (Ne.symm o0.2.1) (all_cons (Ne.symm o0.2.2) r6))))))
  case t => exact tabSt_mono htb fun p hp => .tail _ (.tail _ (.tail _ (.tail _ (.tail _ (.tail _ (.tail _ hp))))))
  case K => exact .tail _ (.tail _ (.head _))
  case KD => exact .tail _ (.head _)
  case TM => exact .head _
  case I => exact .cons _ _ .nil
  case len => exact Nat.le_refl _
  case T => exact .node (by decide) rfl (vs := []) (n := 0) (.tail _ (.tail _ (.tail _ (.head _)))) .nil rfl (fun t' h => nomatch h) (by decide) hk3
  case Q =>
  intro tb' new t' h' tk' gens' d' F' N' T' c' o' B'
  have sub : ∀ p ∈ new ++ new6, p ∈ new ++ ((a1, listOf #[Value.int 1 t1] 0) :: (a2, listOf #[Value.int (k : Int) t9] 0) :: (a3, listOf #[Value.ref a4] 0) :: (a4, listOf #[] 0) :: (I, oI) :: (C, oC) :: (D, oD) :: new6) := app_sub fun p hp => .tail _ (.tail _ (.tail _ (.tail _ (.tail _ (.tail _ (.tail _ hp))))))
  have at_ : ∀ (a : Nat) (o : Obj), (a, o) ∈ ((a1, listOf #[Value.int 1 t1] 0) :: (a2, listOf #[Value.int (k : Int) t9] 0) :: (a3, listOf #[Value.ref a4] 0) :: (a4, listOf #[] 0) :: (I, oI) :: (C, oC) :: (D, oD) :: new6 : List (Addr × Obj)) → (∀ vs q t, o.data = .fields vs → vs[1]? ≠ some (.str q t)) → ∀ p ∈ new, @Ne Nat p.1 a := by
    intro a o hm hn p hp e
    have h1 := (N' p (.tail _ (List.mem_append_left _ hp))).1
    have h2 := (N' _ (.tail _ (List.mem_append_right _ hm))).1
    dsimp only at h2
    rw [e, h2] at h1
    obtain ⟨vs9, q9, t9', e9, e8⟩ := c' p hp
    rw [← Option.some.inj h1] at e9
    exact hn _ _ _ e9 e8
  have nI : ∀ p ∈ new, @Ne Nat p.1 I := at_ I oI (.tail _ (.tail _ (.tail _ (.tail _ (.head _))))) (by
    obtain ⟨vs8, e7, hno⟩ := it6
    intro vs q t e
    rw [e7] at e
    rw [← Data.fields.inj e]
    exact hno _ _)
  have nC : ∀ p ∈ new, @Ne Nat p.1 C := at_ C oC (.tail _ (.tail _ (.tail _ (.tail _ (.tail _ (.head _)))))) (by
    obtain ⟨es, ep, e7, _⟩ := hNs
    intro vs q t e
    rw [e7] at e
    cases e)
  have nD : ∀ p ∈ new, @Ne Nat p.1 D := at_ D oD (.tail _ (.tail _ (.tail _ (.tail _ (.tail _ (.tail _ (.head _))))))) (by
    intro vs q t e
    rw [hoD] at e
    cases e)
  refine hQ tb' new t' h' tk' gens' d' F' ?N ?O (tabSt_mono T' fun p hp => List.mem_append_left _ hp) ?R B'
  case N => exact news_c N' (.tail _ (List.mem_append_right _ (.tail _ (.tail _ (.tail _ (.tail _ (.head _))))))) (news_c N' (.tail _ (List.mem_append_right _ (.tail _ (.tail _ (.tail _ (.tail _ (.tail _ (.head _)))))))) (news_c N' (.tail _ (List.mem_append_right _ (.tail _ (.tail _ (.tail _ (.tail _ (.tail _ (.tail _ (.head _))))))))) (news_c N' (.head _) fun p h => N' p (.tail _ (sub p h)))))
  case O => exact LCg.Off3.of (all_cons o0 (all_app (off_all nI nC nD) o6))
  case R => exact all_app o' r6
end
theorem topOff19 : True := by
  w_top off
  trivial
section
open PySem PySem.W PyProof.Rows PySem.Calls PySem.Spec
theorem pick_pairs (pv : List (Str × Tok × Tok)) (i : Nat) : slicePick (pairArgs pv).toArray none (some (2 * (i : Int))) none = (pairArgs (pv.take i)).toArray := by
  rw [kms_pick_eq]
  congr 1
  unfold kms_pick kms_lo kms_hi
  dsimp only
  rw [if_neg (by walk_at "AR"), List.drop_zero, Nat.sub_zero, kmk_take_min]
  have e : (2 * (i : Int)).toNat = 2 * i := by walk_at "AR"
  rw [e]
  show (pairArgs pv).take (2 * i) = _
  induction i generalizing pv with
  | zero => rw [Nat.mul_zero, List.take_zero, List.take_zero]; rfl
  | succ i ih =>
    cases pv with
    | nil => simp [pairArgs]
    | cons p r =>
      rw [pairArgs, show 2 * (i + 1) = 2 * i + 1 + 1 by walk_at "AR", List.take_succ_cons, List.take_succ_cons, List.take_succ_cons, pairArgs, ih r (by walk_at "AR")]
inductive EJ (rest : List (Addr × Obj)) (PA K KD TM : Nat) (W : Str) (tW : Tok) (sh : Int) (tsh : Tok) (m₁ : Str → Option Value) (nw : List (Addr × Obj)) (g : Gens) : Prop
  | mk (tb : Array Value) (new : List (Addr × Obj)) (hn : nw = (130, tabObj tb) :: new) (hs : ∀ p ∈ rest, p ∈ new) (hr : ∀ p ∈ new, p.1 ≠ 130) (hT : TabSt lamPos lamQ tb new) (hB : AllBare g) (mp : m₁ (Str.ofString "pairs") = some (.ref PA)) (mw : m₁ (Str.ofString "whole") = some (.str W tW)) (ms : m₁ (Str.ofString "shown") = some (.int sh tsh)) (mk : m₁ (Str.ofString "kids") = some (.ref K)) (md : m₁ (Str.ofString "kinds") = some (.ref KD)) (mt : m₁ (Str.ofString "times") = some (.ref TM)) : EJ rest PA K KD TM W tW sh tsh m₁ nw g
theorem cut_new {I : Nat} {oI : Obj} {a b : List (Addr × Obj)} : ∀ p ∈ cutI I (a ++ (I, oI) :: b), p ∈ a ++ b := fun p hp => by
  rcases List.mem_append.mp (cut_sub hp) with h | h
  · exact List.mem_append_left _ h
  · rcases List.mem_cons.mp h with h | h
    · rw [h] at hp; exact absurd rfl (cut_ne hp)
    · exact List.mem_append_right _ h
theorem code_off {h₀ h : Heap} {L : Addr} {I : Nat} {oI : Obj} {new l : List (Addr × Obj)} (N : News h₀ L h (new ++ (I, oI) :: l)) (c : ∀ p ∈ new, CodeLike p.2) (it : ItObj oI) : ∀ p ∈ new, @Ne Nat p.1 I := by
  intro p hp e
  have h1 := (N p (List.mem_append_left _ hp)).1
  have h2 := (N _ (List.mem_append_right _ (.head _))).1
  dsimp only at h2
  rw [e, h2] at h1
  obtain ⟨vs9, q9, t9', e9, e8⟩ := c p hp
  obtain ⟨vs8, e7, hno⟩ := it
  rw [← Option.some.inj h1, e7] at e9
  rw [← Data.fields.inj e9] at e8
  exact hno _ _ e8
theorem news_swap {h₀ h : Heap} {L : Addr} {a b : Addr × Obj} {l : List (Addr × Obj)} (N : News h₀ L h (a :: b :: l)) : News h₀ L h (b :: a :: l) := List.forall_mem_cons.2 ⟨N _ (.tail _ (.head _)), List.forall_mem_cons.2 ⟨N _ (.head _), fun p hp => N p (.tail _ (.tail _ hp))⟩⟩
theorem news_turn {h₀ h : Heap} {L : Addr} {I : Nat} {oI : Obj} {q : Addr × Obj} {new l : List (Addr × Obj)} (N : News h₀ L h (q :: (new ++ (I, oI) :: l))) : News h₀ L h ((I, oI) :: q :: (new ++ l)) := List.forall_mem_cons.2 ⟨N _ (.tail _ (List.mem_append_right _ (.head _))), List.forall_mem_cons.2 ⟨N _ (.head _), fun p hp => N p (.tail _ (app_sub (fun _ h => .tail _ h) p hp))⟩⟩
set_option maxHeartbeats 4000000 in
theorem lawE (w : World) (h₀ : Heap) (L fa : Nat) (cd : Value) (m mg mb : Str → Option Value) (mean : ExcName → Option Value) (s : Shared) (Q : Flow → Shared → Prop) (E : Value → Shared → Prop)
    (rest : List (Addr × Obj)) (tb : Array Value) (K KD TM PA : Nat) (ka kv tv : List Value) (kn kdn tn pn : Nat) (tms : List Int) (t : Tr) (pv : List (Str × Tok × Tok)) (W : Str) (tW tsh : Tok) (sh : Int)
    (hE : PassesOwn (model P3 w) (callerA.deeper (envOfC (Str.ofString "law") lawScope L fa cd)) (envOfC (Str.ofString "law") lawScope L fa cd) E) (B : Below callerA h₀ [] h₀) (F : Fr h₀ L s.heap m) (X : (hd3.heap_39 w.params).In h₀) (T : Top topProg lo3 mean mg mb h₀) (hC : CodeHd h₀ 132 130) (hb : AllBare s.gens)
    (N : News h₀ L s.heap ((130, tabObj tb) :: rest))
    (r1 : ∀ p ∈ rest, p.1 ≠ 130) (htb : TabSt lamPos lamQ tb rest) (hK : (K, listOf ka.toArray kn) ∈ rest) (hKD : (KD, listOf kv.toArray kdn) ∈ rest) (hTM : (TM, listOf tv.toArray tn) ∈ rest) (hPA : (PA, listOf (pairArgs pv).toArray pn) ∈ rest) (hI : IntsAre tv tms) (hlen : ka.length ≤ tms.length) (hT : TreeIn rest ka kv t) (hroot : t.root = 0) (hdep : dep t ≤ 10) (hsiz : siz t ≤ 100)
    (hpv : pv.length = 9) (hne : ∀ p ∈ pv, (p.1.length == 0) = false) (hsz : ∀ j : Int, (restT tms j t).length ≤ 100000) (hplain : ∀ j : Nat, j ≤ 9 → stripAll ((pv.take j).map (·.1)) W = restT tms j t)
    (mp : m (Str.ofString "pairs") = some (.ref PA)) (mw : m (Str.ofString "whole") = some (.str W tW)) (msh : m (Str.ofString "shown") = some (.int sh tsh)) (mk : m (Str.ofString "kids") = some (.ref K)) (mkd : m (Str.ofString "kinds") = some (.ref KD)) (mtm : m (Str.ofString "times") = some (.ref TM))
    (hQ : ∀ (m' : Str → Option Value) (news' : List (Addr × Obj)) h' tk' gens' d', Fr h₀ L h' m' → News h₀ L h' news' → AllBare gens' → (∃ tb', (130, tabObj tb') ∈ news') → Q (.ret (.bool true)) { s with heap := h', toks := tk', gens := gens', drawn := d' }) :
    wpAny (model P3 w) (callerA.deeper (envOfC (Str.ofString "law") lawScope L fa cd)) (execs (lawFrom 14) (envOfC (Str.ofString "law") lawScope L fa cd)) Q E s := by
  generalize hl : lawFrom 14 = l
  conv at hl => lhs; whnf
  generalize hsc : lawScope = sc
  conv at hsc => lhs; whnf
  subst hl
  subst hsc
  cases t with
  | node p kT ts =>
  dsimp only [Tr.root] at hroot
  subst hroot
  iterate 1 (first | (k_unfold; (try dsimp only)) | walk1 | (dsimp only; walk1) | (leave1; try dsimp only))
  refine' For_J (by assumption) rfl rfl (by exact rfl) ?_ (hE := hE)
  iterate 7 (first | (k_unfold; (try dsimp only)) | walk1 | (dsimp only; walk1) | (leave1; try dsimp only))
  rename (IsRange _ _ _ _ _ _ _ _) => hr5
  rename (News _ _ _ _) => N5
  rename (Fr _ _ _ _) => F5
  refine .inr ⟨_, 0, 10, _, _, _, 10, (130, tabObj tb) :: rest, m, rfl, F5, N5, hr5, by decide +kernel, by decide +kernel, (fun _ => EJ rest PA K KD TM W tW sh tsh), ⟨tb, rest, rfl, fun _ h => h, r1, htb, hb, mp, mw, msh, mk, mkd, mtm⟩, ?turn, ?done⟩
  case turn =>
    intro i v I oI m₁ h6 tk6 g6 d6 nw hi hv hJ hS F6 N6 off6 it6
    obtain ⟨tb6, new6, rfl, sub6, r6, T6, B6, mp6, mw6, msh6, mk6, mkd6, mtm6⟩ := hJ
    obtain ⟨t9, rfl⟩ := hv
    rw [Int.zero_add] at F6
    have hPA6 := sub6 _ hPA
    dsimp only [stG]
    iterate 12 (first | (k_unfold; (try dsimp only)) | walk1 | (dsimp only; walk1) | (leave1; try dsimp only))
    rename (News _ _ _ _) => N7
    rename (Fr _ _ _ _) => F7
    refine' kmk_slice (hi := some (2 * (i : Int))) F7 N7 ?sl ?sp ?sq ?sh ?ss ?st ?sz
    case sl => exact News.isList N7 (.tail _ (.tail _ hPA6))
    case sp => exact IsPart.none
    case sq => exact IsPart.int _ _
    case ss => with_unfolding_all rfl
    case st => intro _; with_unfolding_all rfl
    case sz => rw [List.size_toArray, pairArgs_len, hpv, sizeLine_eq]; decide
    case sh =>
    intro D8 h8 F8 N8 l8
    rw [pick_pairs] at N8
    iterate 10 (first | (k_unfold; (try dsimp only)) | walk1 | (dsimp only; walk1) | (leave1; try dsimp only))
    refine' star_seq (ws := pairArgs (pv.take i)) (by assumption) (by assumption) (.head _) rfl rfl (.inl rfl) rfl ?sz9 ?sh9
    case sz9 => rw [List.size_toArray, pairArgs_len, List.length_take, hpv, sizeLine_eq]; walk_at "AR"
    case sh9 =>
    intro h9 F9 N9
    iterate 2 (first | (k_unfold; (try dsimp only)) | walk1 | (dsimp only; walk1) | (leave1; try dsimp only))
    rw [List.append_nil]
    rename (News _ _ _ _) => N10
    rename (Fr _ _ _ _) => F10
    have htk : ∀ k, k ≤ (pv.take i).length → stripAll (((pv.take i).take k).map (·.1)) W = restT tms k (.node 0 kT ts) := by
      intro k hk
      rw [List.length_take] at hk
      rw [List.take_take, Nat.min_eq_left (by walk_at "AR")]
      exact hplain k (by walk_at "AR")
    refine' replace_c _ _ _ _ _ _ _ _ _ _ _ _ _ _ _ _ _ _ _ _ _ _ (pv.take i) W tW ?rB ?rF ?rX ?rT ?rk ?rd ?ru ?rN ?rne ?rl ?rs ?rQ
    case rB => k_asm
    case rF => exact F10
    case rX => k_in
    case rT => k_asm
    case rk => exact rfl
    case rd => ktr_room
    case ru => ktr_units
    case rN => exact N10
    case rne => exact fun p hp => hne p (List.mem_of_mem_take hp)
    case rl => rw [List.length_take]; walk_at "AR"
    case rs => intro k hk; rw [htk k hk]; exact hsz k
    case rQ =>
    intro u11 h11 tk11 F11 N11
    rw [hplain i (by walk_at "AR")]
    iterate 21 (first | (k_unfold; (try dsimp only)) | walk1 | (dsimp only; walk1) | (leave1; try dsimp only))
    rename (News _ _ _ _) => N12
    rename (Fr _ _ _ _) => F12
    refine' rest_c 10 (.node 0 kT ts) hdep _ _ _ _ _ _ _ _ _ _ _ _ _ _ _ _ _ _ _ _ _ _ K KD TM ka kv tv kn kdn tn tms (i : Int) t9 _ ?rB ?rF ?rX ?rT ?rk ?rd ?ru ?rN ?aK ?aKD ?aTM hI hlen ?aT (hsz _) ?rQ
    case rB => k_asm
    case rF => exact F12
    case rX => k_in
    case rT => k_asm
    case rk => exact rfl
    case rd => ktr_room
    case ru => ktr_units
    case rN => exact N12
    case aK => have h9 := sub6 _ hK; k_mem
    case aKD => have h9 := sub6 _ hKD; k_mem
    case aTM => have h9 := sub6 _ hTM; k_mem
    case aT => exact hT.mono fun p hp => by have h9 := sub6 p hp; k_mem
    case rQ =>
    intro u13 h13 tk13 d13 F13 N13
    iterate 1 (first | (k_unfold; (try dsimp only)) | walk1 | (dsimp only; walk1) | (leave1; try dsimp only))
    have hbn : (restT tms (i : Int) (.node 0 kT ts) != restT tms (i : Int) (.node 0 kT ts)) = false := by simp
    rw [hbn]
    iterate 10 (first | (k_unfold; (try dsimp only)) | walk1 | (dsimp only; walk1) | (leave1; try dsimp only))
    by_cases hsh : (i : Int) = sh
    · rw [show ((i : Int) == sh) = true from beq_iff_eq.mpr hsh]
      iterate 18 (first | (k_unfold; (try dsimp only)) | walk1 | (dsimp only; walk1) | (leave1; try dsimp only))
      rename (News _ _ _ _) => N14
      rename (Fr _ _ _ _) => F14
      have hI130 : @Ne Nat I 130 := fun e => off6.1 e.symm
      have offn6 := off1_mem _ off6.2
      refine' written_c _ _ _ _ _ _ _ _ _ _ _ _ _ _ _ _ _ _ _ _ _ ((I, oI) :: new6) tb6 K KD TM ka kv tv kn kdn tn tms (i : Int) t9 (.node 0 kT ts) ?vB ?vF ?vX ?vT ?vk ?vd ?vu ?vN ?vr ?vt ?vb ?vC ?vK ?vKD ?vTM hI hlen ?vTr rfl hdep hsiz (hsz _) ?vQ
      case vB => k_asm
      case vF => exact F14
      case vX => k_in
      case vT => k_asm
      case vk => exact rfl
      case vd => ktr_room
      case vu => ktr_units
      case vN => exact news_swap fun p hp => N14 p (.tail _ hp)
      case vr => exact List.forall_mem_cons.mpr ⟨hI130, r6⟩
      case vt => exact tabSt_mono T6 fun p hp => .tail _ hp
      case vb => exact B6
      case vC => exact hC
      case vK => exact .tail _ (sub6 _ hK)
      case vKD => exact .tail _ (sub6 _ hKD)
      case vTM => exact .tail _ (sub6 _ hTM)
      case vTr => exact hT.mono fun p hp => .tail _ (sub6 p hp)
      case vQ =>
      intro tb15 new15 u15 h15 tk15 gens15 d15 F15 N15 T15 c15 o15 B15
      iterate 1 (first | (k_unfold; (try dsimp only)) | walk1 | (dsimp only; walk1) | (leave1; try dsimp only))
      rw [hbn]
      iterate 5 (first | (k_unfold; (try dsimp only)) | walk1 | (dsimp only; walk1) | (leave1; try dsimp only))
      have T15 := tabSt_mono (rest' := new15 ++ (I, oI) :: new6) T15 fun p hp => List.mem_append_left _ hp
      have hIm : (I, oI) ∈ new15 ++ (I, oI) :: new6 := List.mem_append_right _ (.head _)
      have N15r : News _ _ h15 (new15 ++ (I, oI) :: new6) := fun p hp => N15 p (.tail _ hp)
      have nI15 := code_off N15r c15 it6
      have T16 := tabSt_mono (tabSt_cut T15 N15r (N15r _ hIm).1 it6) cut_new
      refine ⟨_, _, _, _, _, (130, tabObj tb15) :: (new15 ++ new6), by assumption, news_turn N15, ⟨off6.1, off1_of _ (all_app nI15 offn6)⟩, trivial, tb15, new15 ++ new6, rfl, fun p hp => List.mem_append_right _ (sub6 p hp), all_app o15 r6, T16, B15, ?_, ?_, ?_, ?_, ?_, ?_⟩
      all_goals (repeat (first | with_reducible assumption | refine Eq.trans (if_neg (by decide +kernel)) ?_))
    · rw [show ((i : Int) == sh) = false from beq_eq_false_iff_ne.mpr hsh]
      iterate 5 (first | (k_unfold; (try dsimp only)) | walk1 | (dsimp only; walk1) | (leave1; try dsimp only))
      refine ⟨_, _, _, _, _, (130, tabObj tb6) :: new6, by assumption, newsSub (by assumption) (fun p hp => .tail _ hp), off6, trivial, tb6, new6, rfl, sub6, r6, T6, B6, ?_, ?_, ?_, ?_, ?_, ?_⟩
      all_goals (repeat (first | with_reducible assumption | refine Eq.trans (if_neg (by decide +kernel)) ?_))
  case done =>
    intro m₁ nw h6 tk6 g6 d6 hJ F6 N6
    obtain ⟨tb6, new6, rfl, sub6, r6, T6, B6, mp6, mw6, msh6, mk6, mkd6, mtm6⟩ := hJ
    dsimp only [stG]
    iterate 3 (first | (k_unfold; (try dsimp only)) | walk1 | (dsimp only; walk1) | (leave1; try dsimp only))
    exact hQ _ _ _ _ _ _ F6 N6 B6 ⟨_, .head _⟩
end
theorem topOff20 : True := by
  w_top off
  trivial
section
open PySem PySem.W PyProof.Rows PySem.Calls PySem.Spec
theorem lone_ne (k : Nat) (h : k < 3) : ((loneT k).length == 0) = false := by
  match k, h with
  | 0, _ => decide +kernel
  | 1, _ => decide +kernel
  | 2, _ => decide +kernel
inductive DJ1 (rest : List (Addr × Obj)) (i : Nat) (ys : List Value) (nw : List (Addr × Obj)) (g : Gens) : Prop
  | mk (tb : Array Value) (new : List (Addr × Obj)) (l : List (Str × Tok)) (hn : nw = (130, tabObj tb) :: new) (hy : ys = strValues l) (hl : l.map (·.1) = (List.range i).map loneT) (hs : ∀ p ∈ rest, p ∈ new) (hr : ∀ p ∈ new, p.1 ≠ 130) (hT : TabSt lamPos lamQ tb new) (hB : AllBare g) : DJ1 rest i ys nw g
inductive DJ2 (base : List (Addr × Obj)) (ord : List Nat) (D K KD TM : Nat) (tot : Int) (ttot : Tok) (i : Nat) (m₁ : Str → Option Value) (nw : List (Addr × Obj)) (g : Gens) : Prop
  | mk (PA pc : Nat) (pv : List (Str × Tok × Tok)) (hn : nw = (PA, listOf (pairArgs pv).toArray pc) :: base) (hP : ∀ p ∈ base, p.1 < PA) (hp : pv.map (·.1) = (ord.take i).map loneT) (hB : AllBare g) (ml : m₁ (Str.ofString "lone") = some (.ref D)) (mp : m₁ (Str.ofString "pairs") = some (.ref PA)) (mt : m₁ (Str.ofString "total") = some (.int tot ttot)) (mk : m₁ (Str.ofString "kids") = some (.ref K)) (md : m₁ (Str.ofString "kinds") = some (.ref KD)) (mm : m₁ (Str.ofString "times") = some (.ref TM)) : DJ2 base ord D K KD TM tot ttot i m₁ nw g
theorem pairArgs_snoc (l : List (Str × Tok × Tok)) (p : Str × Tok × Tok) : pairArgs l ++ [.str p.1 p.2.1, .str (Str.ofString "") p.2.2] = pairArgs (l ++ [p]) := by
  induction l with
  | nil => rfl
  | cons q r ih => rw [pairArgs, List.cons_append, List.cons_append, ih]; rfl
set_option maxHeartbeats 4000000 in
theorem lawD (w : World) (h₀ : Heap) (L fa : Nat) (cd : Value) (m mg mb : Str → Option Value) (mean : ExcName → Option Value) (s : Shared) (Q : Flow → Shared → Prop) (E : Value → Shared → Prop)
    (rest : List (Addr × Obj)) (tb : Array Value) (K KD TM OR : Nat) (ka kv tv ov : List Value) (kn kdn tn on : Nat) (tms : List Int) (t : Tr) (ord : List Nat) (oc : Obj) (tot : Int) (ttot : Tok)
    (hE : PassesOwn (model P3 w) (callerA.deeper (envOfC (Str.ofString "law") lawScope L fa cd)) (envOfC (Str.ofString "law") lawScope L fa cd) E) (B : Below callerA h₀ [] h₀) (F : Fr h₀ L s.heap m) (X : (hd3.heap_39 w.params).In h₀) (T : Top topProg lo3 mean mg mb h₀) (hC : CodeHd h₀ 132 130) (hb : AllBare s.gens)
    (N : News h₀ L s.heap ((130, tabObj tb) :: rest))
    (r1 : ∀ p ∈ rest, p.1 ≠ 130) (htb : TabSt lamPos lamQ tb rest) (hK : (K, listOf ka.toArray kn) ∈ rest) (hKD : (KD, listOf kv.toArray kdn) ∈ rest) (hTM : (TM, listOf tv.toArray tn) ∈ rest) (hOR : (OR, listOf ov.toArray on) ∈ rest) (hcell : (L + 1 + 1, oc) ∈ rest) (hoc : oc.data = .cell (some (.ref OR))) (hI : IntsAre tv tms) (hO : IntsAre ov (ord.map fun k : Nat => (k : Int))) (ho9 : ord.length = 9) (ho3 : ∀ k ∈ ord, k < 3) (hlen : ka.length ≤ tms.length) (hT : TreeIn rest ka kv t) (hroot : t.root = 0) (hdep : dep t ≤ 10) (hsiz : siz t ≤ 100)
    (hsz : ∀ j : Int, (restT tms j t).length ≤ 100000) (hplain : ∀ j : Nat, j ≤ 9 → stripAll ((ord.take j).map loneT) (restT tms 0 t) = restT tms j t)
    (mt : m (Str.ofString "total") = some (.int tot ttot)) (mk : m (Str.ofString "kids") = some (.ref K)) (mkd : m (Str.ofString "kinds") = some (.ref KD)) (mtm : m (Str.ofString "times") = some (.ref TM))
    (hQ : ∀ (m' : Str → Option Value) (news' : List (Addr × Obj)) h' tk' gens' d', Fr h₀ L h' m' → News h₀ L h' news' → AllBare gens' → (∃ tb', (130, tabObj tb') ∈ news') → Q (.ret (.bool true)) { s with heap := h', toks := tk', gens := gens', drawn := d' }) :
    wpAny (model P3 w) (callerA.deeper (envOfC (Str.ofString "law") lawScope L fa cd)) (execs (lawFrom 9) (envOfC (Str.ofString "law") lawScope L fa cd)) Q E s := by
  generalize hl : lawFrom 9 = l
  conv at hl => lhs; whnf
  generalize hsc : lawScope = sc
  conv at hsc => lhs; whnf
  subst hl
  subst hsc
  iterate 1 (first | (k_unfold; (try dsimp only)) | walk1 | (dsimp only; walk1) | (leave1; try dsimp only))
  refine' Assign_ListComp_J (by assumption) rfl ?hsw ?hclos ?hcl ?hkind ?hnames ?hx ?hy ?hp ?h
  case hsw => exact rfl
  case hclos => exact rfl
  case hcl => decide
  case hkind => exact rfl
  case hnames => decide
  case hx => exact rfl
  case hy => exact rfl
  case hp => exact rfl
  case h =>
  iterate 7 (first | (k_unfold; (try dsimp only)) | walk1 | (dsimp only; walk1) | (leave1; try dsimp only))
  rename (IsRange _ _ _ _ _ _ _ _) => hr5
  rename (News _ _ _ _) => N5
  rename (Fr _ _ _ _) => F5
  refine .inr ⟨_, 0, 3, _, _, _, 3, (130, tabObj tb) :: rest, rfl, F5, N5, hr5, by decide +kernel, by decide +kernel, by decide +kernel, (DJ1 rest), ⟨tb, rest, [], rfl, rfl, rfl, fun _ h => h, r1, htb, hb⟩, ?turn, ?fin⟩
  case turn =>
    intro i v I oI C oC D m₂ h6 tk6 g6 d6 ys nw E' hi hv hJ hS hNs hmx F6 N6 off6 ne6 it6
    obtain ⟨tb6, new6, l6, rfl, rfl, hl6, sub6, r6, T6, B6⟩ := hJ
    obtain ⟨t9, rfl⟩ := hv
    rw [Int.zero_add] at hmx
    dsimp only [stG]
    iterate 28 (first | (k_unfold; (try dsimp only)) | walk1 | (dsimp only; walk1) | (leave1; try dsimp only))
    rename (News _ _ _ _) => N8
    rename (Fr _ _ _ _) => F8
    refine' lone_c _ _ _ _ _ _ _ _ _ _ _ _ _ _ _ _ _ _ _ _ _ tb6 _ _ _ _ I C D oI oC _ m₂ i _ t9 _ _ _ new6 ?oB ?oF ?oX ?oT ?ok ?od ?ou N8 ?l1 ?l2 ?l3 ?l4 off6 it6 hNs rfl r6 T6 B6 hC (by walk_at "AR") ?oQ
    case oB => k_asm
    case oF => exact F8
    case oX => k_in
    case oT => k_asm
    case ok => exact rfl
    case od => ktr_room
    case ou => ktr_units
    case l1 => k_ne
    case l2 => k_ne
    case l3 => k_ne
    case l4 => k_ne
    case oQ =>
    intro tb9 new9 u9 h9 tk9 gens9 d9 F9 N9 off9 T9 r9 B9
    refine ⟨h9, tk9, gens9, d9, (130, tabObj tb9) :: (new9 ++ new6), F9, N9, off9, trivial, tb9, new9 ++ new6, l6 ++ [(loneT i, u9)], rfl, by simp [strValues], ?hl, fun p hp => List.mem_append_right _ (sub6 p hp), r9, T9, B9⟩
    case hl => rw [List.map_append, hl6, List.range_succ, List.map_append]; rfl
  case fin =>
    intro ys nw g hJ D h7 tk7 d7 hbD F7 N7 off7
    obtain ⟨tb6, new6, l6, rfl, rfl, hl6, sub6, r6, T6, B6⟩ := hJ
    dsimp only [stG]
    have hc6 := sub6 _ hcell
    have hO6 := sub6 _ hOR
    iterate 8 (first | (k_unfold; (try dsimp only)) | walk1 | (dsimp only; walk1) | (leave1; try dsimp only))
    rename (News _ _ _ _) => N8
    rename (Fr _ _ _ _) => F8
    refine' For_J (by assumption) rfl rfl (by exact rfl) ?_ (hE := hE)
    iterate 1 (first | (k_unfold; (try dsimp only)) | walk1 | (dsimp only; walk1) | (leave1; try dsimp only))
    refine .inl ⟨OR, ov.toArray, on, _, _, rfl, F8, N8, .tail _ (.tail _ (.tail _ hO6)), (DJ2 ((D, LCg.lst (strValues l6)) :: (130, tabObj tb6) :: new6) ord D K KD TM tot ttot), ⟨_, 0, [], rfl, (by with_reducible_and_instances assumption), rfl, B6, ?_, ?_, ?_, ?_, ?_, ?_⟩, ?turn2, ?done2⟩
    case turn2 =>
      intro i v I oI m₁ h10 tk10 g10 d10 nw hi hv hJ hS F10 N10 off10 it10
      obtain ⟨PA, pc, pv, rfl, lPA, hpv, B10, ml, mpa, mt1, mk1, mkd1, mtm1⟩ := hJ
      obtain ⟨k9, t9, rfl, hk9⟩ : ∃ (k9 : Nat) (t9 : Tok), v = .int (k9 : Int) t9 ∧ ord[i]? = some k9 := by
        obtain ⟨n7, t7, e7, hn7⟩ := hO.at i v (by simpa using hv)
        rw [List.getElem?_map] at hn7
        cases e : ord[i]? with
        | none => rw [e] at hn7; cases hn7
        | some k9 => rw [e] at hn7; obtain rfl := Option.some.inj hn7; exact ⟨k9, t7, e7, rfl⟩
      have hk3 := ho3 k9 (List.mem_of_getElem? hk9)
      obtain ⟨u9, hu9⟩ : ∃ u9, (strValues l6).toArray[k9]? = some (Value.str (loneT k9) u9) := by
        have h9 := congrArg (·[k9]?) hl6
        simp only [List.getElem?_map, List.getElem?_range hk3, Option.map_some] at h9
        cases e : l6[k9]? with
        | none => rw [e] at h9; cases h9
        | some p9 =>
          rw [e] at h9
          have h8 : p9.1 = loneT k9 := Option.some.inj h9
          refine ⟨p9.2, ?_⟩
          simp only [strValues, List.getElem?_toArray, List.getElem?_map, e, Option.map_some, h8]
      dsimp only [stG]
      iterate 13 (first | (k_unfold; (try dsimp only)) | walk1 | (dsimp only; walk1) | (leave1; try dsimp only))
      rename (News _ _ _ _) => N11
      rename (Fr _ _ _ _) => F11
      have hpl : pv.length = i := by
        have h9 := congrArg List.length hpv
        have hi' : i < ord.length := (List.getElem?_eq_some_iff.mp hk9).1
        rw [List.length_map, List.length_map, List.length_take] at h9
        walk_at "AR"
      have nPA : @Ne Nat PA I := off10.1
      have hi9 : i < 9 := by rw [← ho9]; exact (List.getElem?_eq_some_iff.mp hk9).1
      refine' iadd_led (vs := pairArgs pv) (ws := [.str (loneT k9) u9, .str (Str.ofString "") tk10]) F11 N11 (.head _) ?iU (by simp) ?iz ?ih
      case iU => k_upd
      case iz => rw [pairArgs_len, hpl]; simp only [List.length_cons, List.length_nil]; walk_at "AR"
      case ih =>
      intro h12 F12 N12
      rw [pairArgs_snoc pv (loneT k9, u9, tk10)] at N12
      iterate 3 (first | (k_unfold; (try dsimp only)) | walk1 | (dsimp only; walk1) | (leave1; try dsimp only))
      rename (News _ _ _ _) => N13
      refine ⟨_, _, _, _, _, (PA, listOf (pairArgs (pv ++ [(loneT k9, u9, tk10)])).toArray (pc + 1)) :: (D, LCg.lst (strValues l6)) :: (130, tabObj tb6) :: new6, by assumption, ?_, ?_, ?_, PA, pc + 1, pv ++ [(loneT k9, u9, tk10)], rfl, lPA, ?_, B10, ?_, ?_, ?_, ?_, ?_, ?_⟩
      · intro p hp
        exact N13 p (.tail _ hp)
      · exact off10
      · exact .inr ⟨_, .tail _ (.tail _ (.tail _ hO6)), rfl, _, rfl⟩
      · rw [List.map_append, hpv, take_one hk9, List.map_append]; rfl
      all_goals (repeat (first | with_reducible assumption | exact if_pos rfl | refine Eq.trans (if_neg (by decide +kernel)) ?_))
    case done2 =>
      intro m₁ nw h10 tk10 g10 d10 hJ F10 N10
      obtain ⟨PA, pc, pv, rfl, lPA, hpv, B10, ml, mpa, mt1, mk1, mkd1, mtm1⟩ := hJ
      dsimp only [stG]
      iterate 15 (first | (k_unfold; (try dsimp only)) | walk1 | (dsimp only; walk1) | (leave1; try dsimp only))
      have hos : ord.take ov.toArray.size = ord := by
        have h9 := hO.length
        rw [List.length_map] at h9
        rw [List.size_toArray, h9, List.take_length]
      rw [hos] at hpv
      have nD130 : @Ne Nat D 130 := off7.1.symm
      have r11 : ∀ p ∈ (PA, listOf (pairArgs pv).toArray pc) :: (D, LCg.lst (strValues l6)) :: new6, p.1 ≠ 130 := List.forall_mem_cons.mpr ⟨Ne.symm (Nat.ne_of_lt (lPA _ (.tail _ (.head _)))), List.forall_mem_cons.mpr ⟨nD130, r6⟩⟩
      have sub11 : ∀ p ∈ rest, p ∈ (PA, listOf (pairArgs pv).toArray pc) :: (D, LCg.lst (strValues l6)) :: new6 := fun p hp => .tail _ (.tail _ (sub6 p hp))
      refine' written_c _ _ _ _ _ _ _ _ _ _ _ _ _ _ _ _ _ _ _ _ _ ((PA, listOf (pairArgs pv).toArray pc) :: (D, LCg.lst (strValues l6)) :: new6) tb6 K KD TM ka kv tv kn kdn tn tms 0 _ t ?vB ?vF ?vX ?vT ?vk ?vd ?vu ?vN r11 ?vt ?vb ?vC (sub11 _ hK) (sub11 _ hKD) (sub11 _ hTM) hI hlen (hT.mono sub11) hroot hdep hsiz (hsz _) ?vQ
      case vB => k_asm
      case vF => exact F10
      case vX => k_in
      case vT => k_asm
      case vk => exact rfl
      case vd => ktr_room
      case vu => ktr_units
      case vN => exact news_midL [_, _] N10
      case vt => exact tabSt_mono T6 fun p hp => .tail _ (.tail _ hp)
      case vb => exact B10
      case vC => exact hC
      case vQ =>
      intro tb15 new15 u15 h15 tk15 gens15 d15 F15 N15 T15 c15 o15 B15
      iterate 15 (first | (k_unfold; (try dsimp only)) | walk1 | (dsimp only; walk1) | (leave1; try dsimp only))
      rename (News _ _ _ _) => N16
      rename (Fr _ _ _ _) => F16
      have hpv9 : pv.length = 9 := by
        have h9 := congrArg List.length hpv
        rw [List.length_map, List.length_map] at h9
        walk_at "AR"
      have sub15 : ∀ p ∈ rest, p ∈ new15 ++ (PA, listOf (pairArgs pv).toArray pc) :: (D, LCg.lst (strValues l6)) :: new6 := fun p hp => List.mem_append_right _ (sub11 p hp)
      refine' lawE w h₀ L fa cd _ mg mb mean _ Q E (new15 ++ (PA, listOf (pairArgs pv).toArray pc) :: (D, LCg.lst (strValues l6)) :: new6) tb15 K KD TM PA ka kv tv kn kdn tn pc tms t pv (restT tms 0 t) u15 _ _ hE B ?lF X T hC ?lB ?lN ?lr (tabSt_mono T15 fun p hp => List.mem_append_left _ hp) (sub15 _ hK) (sub15 _ hKD) (sub15 _ hTM) (List.mem_append_right _ (.head _)) hI hlen (hT.mono sub15) hroot hdep hsiz hpv9 ?lne hsz ?lpl ?n1 ?n2 ?n3 ?n4 ?n5 ?n6 ?lQ
      case lF => exact F16
      case lB => exact B15
      case lN => exact N16
      case lr => exact all_app o15 r11
      case lne =>
        intro p hp
        have h9 : p.1 ∈ ord.map loneT := by rw [← hpv]; exact List.mem_map_of_mem hp
        obtain ⟨k9, hk9, e9⟩ := List.mem_map.mp h9
        rw [← e9]
        exact lone_ne k9 (ho3 k9 hk9)
      case lpl =>
        intro j hj
        have h9 := hplain j hj
        rw [List.map_take, ← hpv, ← List.map_take] at h9
        exact h9
      case lQ => exact hQ
      case n3 => exact if_pos rfl
      all_goals (repeat (first | with_reducible assumption | exact if_pos rfl | refine Eq.trans (if_neg (by decide +kernel)) ?_))
    all_goals (repeat (first | with_reducible assumption | exact if_pos rfl | refine Eq.trans (if_neg (by decide +kernel)) ?_))
end
theorem topOff21 : True := by
  w_top off
  trivial
section
open PySem PySem.W PyProof.Rows PySem.Calls PySem.Spec
def foldMaxI : List Int → Int
  | [] => 0
  | [x] => x
  | x :: y :: r => max x (foldMaxI (y :: r))
theorem foldMax_mem : ∀ (l : List Int), l ≠ [] → foldMaxI l ∈ l ∧ ∀ a ∈ l, a ≤ foldMaxI l
  | [x], _ => ⟨by simp [foldMaxI], by simp [foldMaxI]⟩
  | x :: y :: r, _ => by
    obtain ⟨h1, h2⟩ := foldMax_mem (y :: r) (by simp)
    rw [foldMaxI]
    refine ⟨?_, fun a ha => ?_⟩
    · by_cases h : x ≤ foldMaxI (y :: r)
      · rw [Int.max_eq_right h]; exact .tail _ h1
      · rw [Int.max_eq_left (by walk_at "AR")]; exact .head _
    · rcases List.mem_cons.mp ha with rfl | ha
      · exact Int.le_max_left _ _
      · exact Int.le_trans (h2 a ha) (Int.le_max_right _ _)
theorem foldMax_eq {l : List Int} {M : Int} (h1 : M ∈ l) (h2 : ∀ a ∈ l, a ≤ M) : M = foldMaxI l := by
  have hl : l ≠ [] := by intro e; rw [e] at h1; cases h1
  obtain ⟨h3, h4⟩ := foldMax_mem l hl
  exact Int.le_antisymm (h4 M h1) (h2 _ h3)
inductive CJ1 (base : List (Addr × Obj)) (tms : Nat → Int) (K KD : Nat) (tot : Int) (ttot : Tok) (i : Nat) (m₁ : Str → Option Value) (nw : List (Addr × Obj)) (g : Gens) : Prop
  | mk (TM tc : Nat) (tvs : List Value) (hn : nw = (TM, listOf tvs.toArray tc) :: base) (hlt : ∀ p ∈ base, p.1 < TM) (hI : IntsAre tvs ((List.range i).map tms)) (hB : AllBare g) (m1 : m₁ (Str.ofString "times") = some (.ref TM)) (m2 : m₁ (Str.ofString "total") = some (.int tot ttot)) (m3 : m₁ (Str.ofString "kids") = some (.ref K)) (m4 : m₁ (Str.ofString "kinds") = some (.ref KD)) : CJ1 base tms K KD tot ttot i m₁ nw g
inductive CJ2 (g0 : Gens) (base : List (Addr × Obj)) (ws : List (List Int)) (o : List Int) (j : Nat) (ys : List Value) (nw : List (Addr × Obj)) (g : Gens) : Prop
  | mk (hg : g = g0) (hn : nw = base) (hI : IntsAre ys ((ws.take j).map fun x => least x o)) : CJ2 g0 base ws o j ys nw g
def timeOf (o : List Int) (t : Tr) : Int := foldMaxI ((words t).map fun x => least x o)
set_option maxHeartbeats 4000000 in
theorem lawC (w : World) (h₀ : Heap) (L fa : Nat) (cd : Value) (m mg mb : Str → Option Value) (mean : ExcName → Option Value) (s : Shared) (Q : Flow → Shared → Prop) (E : Value → Shared → Prop)
    (rest : List (Addr × Obj)) (tb : Array Value) (K KD OR : Nat) (ka kv ov : List Value) (kn kdn on : Nat) (tr : Nat → Tr) (ord : List Nat) (oc : Obj) (tot : Int) (ttot : Tok)
    (hE : PassesOwn (model P3 w) (callerA.deeper (envOfC (Str.ofString "law") lawScope L fa cd)) (envOfC (Str.ofString "law") lawScope L fa cd) E) (B : Below callerA h₀ [] h₀) (F : Fr h₀ L s.heap m) (X : (hd3.heap_39 w.params).In h₀) (T : Top topProg lo3 mean mg mb h₀) (hC : CodeHd h₀ 132 130) (hb : AllBare s.gens)
    (N : News h₀ L s.heap ((130, tabObj tb) :: rest))
    (r1 : ∀ p ∈ rest, p.1 ≠ 130) (htb : TabSt lamPos lamQ tb rest) (hK : (K, listOf ka.toArray kn) ∈ rest) (hKD : (KD, listOf kv.toArray kdn) ∈ rest) (hOR : (OR, listOf ov.toArray on) ∈ rest) (hcell : (L + 1 + 1, oc) ∈ rest) (hoc : oc.data = .cell (some (.ref OR))) (hO : IntsAre ov (ord.map fun k : Nat => (k : Int))) (ho9 : ord.length = 9) (ho3 : ∀ k ∈ ord, k < 3) (hlen : ka.length = 7)
    (hT : ∀ p, p < 7 → TreeIn rest ka kv (tr p)) (hroot : ∀ p, p < 7 → (tr p).root = p) (hdep : ∀ p, p < 7 → dep (tr p) ≤ 10) (hsiz : siz (tr 0) ≤ 100) (hws : ∀ p, p < 7 → (words (tr p)).length ≤ 1000) (hwl : ∀ p, p < 7 → ∀ x ∈ words (tr p), x.length ≤ 1000 ∧ 0 < x.length)
    (hsz : ∀ j : Int, (restT ((List.range 7).map fun p => timeOf (ord.map fun k : Nat => (k : Int)) (tr p)) j (tr 0)).length ≤ 100000) (hplain : ∀ j : Nat, j ≤ 9 → stripAll ((ord.take j).map loneT) (restT ((List.range 7).map fun p => timeOf (ord.map fun k : Nat => (k : Int)) (tr p)) 0 (tr 0)) = restT ((List.range 7).map fun p => timeOf (ord.map fun k : Nat => (k : Int)) (tr p)) j (tr 0))
    (mt : m (Str.ofString "total") = some (.int tot ttot)) (mk : m (Str.ofString "kids") = some (.ref K)) (mkd : m (Str.ofString "kinds") = some (.ref KD))
    (hQ : ∀ (m' : Str → Option Value) (news' : List (Addr × Obj)) h' tk' gens' d', Fr h₀ L h' m' → News h₀ L h' news' → AllBare gens' → (∃ tb', (130, tabObj tb') ∈ news') → Q (.ret (.bool true)) { s with heap := h', toks := tk', gens := gens', drawn := d' }) :
    wpAny (model P3 w) (callerA.deeper (envOfC (Str.ofString "law") lawScope L fa cd)) (execs (lawFrom 7) (envOfC (Str.ofString "law") lawScope L fa cd)) Q E s := by
  generalize hl : lawFrom 7 = l
  conv at hl => lhs; whnf
  generalize hsc : lawScope = sc
  conv at hsc => lhs; whnf
  subst hl
  subst hsc
  iterate 8 (first | (k_unfold; (try dsimp only)) | walk1 | (dsimp only; walk1) | (leave1; try dsimp only))
  refine' For_J (by assumption) rfl rfl (by exact rfl) ?_ (hE := hE)
  iterate 7 (first | (k_unfold; (try dsimp only)) | walk1 | (dsimp only; walk1) | (leave1; try dsimp only))
  rename (IsRange _ _ _ _ _ _ _ _) => hr5
  rename (News _ _ _ _) => N5
  rename (Fr _ _ _ _) => F5
  refine .inr ⟨_, 0, 7, _, _, _, 7, _, _, rfl, F5, N5, hr5, by decide +kernel, by decide +kernel, (CJ1 ((130, tabObj tb) :: rest) (fun p => timeOf (ord.map fun k : Nat => (k : Int)) (tr p)) K KD tot ttot), ⟨_, 0, [], rfl, (by with_reducible_and_instances assumption), .nil, hb, ?_, ?_, ?_, ?_⟩, ?turn, ?done⟩
  case turn =>
    intro i v I oI m₁ h6 tk6 g6 d6 nw hi hv hJ hS F6 N6 off6 it6
    obtain ⟨TM, tc, tvs, rfl, lTM, hItv, B6, mtm6, mt6, mk6, mkd6⟩ := hJ
    obtain ⟨t9, rfl⟩ := hv
    rw [Int.zero_add] at F6
    dsimp only [stG]
    iterate 11 (first | (k_unfold; (try dsimp only)) | walk1 | (dsimp only; walk1) | (leave1; try dsimp only))
    refine' ListComp_J (by assumption) ?hclos ?hcl ?hkind ?hnames ?hx ?h
    case hclos => exact rfl
    case hcl => decide
    case hkind => exact rfl
    case hnames => decide
    case hx => exact rfl
    case h =>
    iterate 11 (first | (k_unfold; (try dsimp only)) | walk1 | (dsimp only; walk1) | (leave1; try dsimp only))
    have hi7 : i < 7 := hi
    have hri : ((tr i).root : Int) = (i : Int) := by rw [hroot i hi7]
    rw [← hri]
    refine' words_c 10 (tr i) (hdep i hi7) _ _ _ _ _ _ _ _ _ _ _ _ _ _ _ _ _ _ _ _ _ ((I, oI) :: (TM, listOf tvs.toArray tc) :: (130, tabObj tb) :: rest) K KD ka kv kn kdn t9 ?wB ?wF ?wX ?wT ?wk ?wd ?wu ?wN ?aK ?aKD ?aT (hws i hi7) (fun x hx => (hwl i hi7 x hx).1) ?wQ
    case wB => k_asm
    case wF => exact F6
    case wX => k_in
    case wT => k_asm
    case wk => exact rfl
    case wd => ktr_room
    case wu => ktr_units
    case wN => exact N6
    case aK => exact .tail _ (.tail _ (.tail _ hK))
    case aKD => exact .tail _ (.tail _ (.tail _ hKD))
    case aT => exact (hT i hi7).mono fun p hp => .tail _ (.tail _ (.tail _ hp))
    case wQ =>
    intro R wsr kr tl h7 tk7 d7 F7 N7 hgt7 hR hW
    rw [hri]
    refine .inl ⟨R, wsr.toArray, kr, tl ++ (I, oI) :: (TM, listOf tvs.toArray tc) :: (130, tabObj tb) :: rest, rfl, F7, N7, List.mem_append_left _ hR, ?wz, CJ2 g6 (tl ++ (I, oI) :: (TM, listOf tvs.toArray tc) :: (130, tabObj tb) :: rest) (words (tr i)) (ord.map fun k : Nat => (k : Int)), ⟨rfl, rfl, .nil⟩, ?turn2, ?fin2⟩
    case wz =>
      have h9 := hW.length
      have h8 := hws i hi7
      rw [List.size_toArray, sizeLine_eq]; walk_at "AR"
    case turn2 =>
      intro j v2 I2 oI2 C2 oC2 D2 m₂ h8 tk8 g8 d8 ys nw E' hj hv2 hJ2 hS2 hNs hmx F8 N8 off8 ne8 it8
      obtain ⟨rfl, rfl, hys⟩ := hJ2
      obtain ⟨x9, hx9, a9, vs9, n9, rfl, hm9, hi9⟩ := paired_get hW (x := v2) (i := j) (by simpa using hv2)
      have hm9' : (a9, listOf vs9.toArray n9) ∈ tl ++ (I, oI) :: (TM, listOf tvs.toArray tc) :: (130, tabObj tb) :: rest := List.mem_append_left _ hm9
      have hO9 : (OR, listOf ov.toArray on) ∈ tl ++ (I, oI) :: (TM, listOf tvs.toArray tc) :: (130, tabObj tb) :: rest := List.mem_append_right _ (.tail _ (.tail _ (.tail _ hOR)))
      have hc9 : (L + 1 + 1, oc) ∈ tl ++ (I, oI) :: (TM, listOf tvs.toArray tc) :: (130, tabObj tb) :: rest := List.mem_append_right _ (.tail _ (.tail _ (.tail _ hcell)))
      dsimp only [stG]
      iterate 10 (first | (k_unfold; (try dsimp only)) | walk1 | (dsimp only; walk1) | (leave1; try dsimp only))
      have hne : 0 < x9.length := (hwl i hi7 x9 (List.mem_of_getElem? hx9)).2
      have hl9 := (hwl i hi7 x9 (List.mem_of_getElem? hx9)).1
      refine' least_c _ _ _ _ _ _ _ _ _ _ _ _ _ _ _ _ _ _ _ _ _ _ a9 OR vs9 ov x9 (ord.map fun k : Nat => (k : Int)) n9 on ?lB ?lF ?lX ?lT ?lk ?ld ?lu ?lN ?lw ?lo hi9 hO hne hl9 ?lz ?lQ
      case lB => k_asm
      case lF => exact F8
      case lX => k_in
      case lT => k_asm
      case lk => exact rfl
      case ld => ktr_room
      case lu => ktr_units
      case lN => exact N8
      case lw => exact .tail _ (.tail _ (.tail _ hm9'))
      case lo => exact .tail _ (.tail _ (.tail _ hO9))
      case lz => rw [List.length_map]; walk_at "AR"
      case lQ =>
      intro t10 h10 tk10 d10 F10 N10
      refine ⟨h10, tk10, _, d10, _, F10, N10, off8, hS2, rfl, rfl, ?ys⟩
      case ys =>
        rw [take_one hx9, List.map_append]
        exact hys.append (.cons _ _ .nil)
    case fin2 =>
      intro ys nw g hJ2 D9 h9 tk9 d9 hbD9 F9 N9 off9
      obtain ⟨rfl, rfl, hys⟩ := hJ2
      dsimp only [stG]
      have hwz : (words (tr i)).take wsr.toArray.size = words (tr i) := by rw [List.size_toArray, hW.length, List.take_length]
      rw [hwz] at hys
      have hwn : 0 < ((words (tr i)).map fun x => least x (ord.map fun k : Nat => (k : Int))).length := by
        rw [List.length_map]; exact List.length_pos_iff.mpr (words_ne _)
      iterate 1 (first | (k_unfold; (try dsimp only)) | walk1 | (dsimp only; walk1) | (leave1; try dsimp only))
      refine max_list_N rfl (by assumption) (by assumption) (listOf_isList (News.get (by assumption) (.head _))) hys hwn ?_
      intro h11 M tM tk11 F11 N11 hM1 hM2
      obtain rfl := foldMax_eq hM1 hM2
      iterate 1 (first | (k_unfold; (try dsimp only)) | walk1 | (dsimp only; walk1) | (leave1; try dsimp only))
      have N12 : News _ _ h11 ((I, oI) :: (TM, listOf tvs.toArray tc) :: (130, tabObj tb) :: rest) := newsSub N11 fun p hp => .tail _ (List.mem_append_right _ hp)
      have nTI : @Ne Nat I TM := off6.1.symm
      have hlv : tvs.length = i := by rw [hItv.length, List.length_map, List.length_range]
      clear N11
      refine' appL (l := tvs) F11 N12 ?aU ?az ?ah
      case aU => k_upd
      case az => walk_at "AR"
      case ah =>
      intro h12 F12 N13
      iterate 2 (first | (k_unfold; (try dsimp only)) | walk1 | (dsimp only; walk1) | (leave1; try dsimp only))
      refine ⟨_, _, _, _, _, (TM, listOf (tvs ++ [_]).toArray (tc + 1)) :: (130, tabObj tb) :: rest, by assumption, N13, off6, trivial, TM, tc + 1, _, rfl, lTM, ?ti, B6, ?_, ?_, ?_, ?_⟩
      case ti =>
        rw [List.range_succ, List.map_append]
        exact hItv.append (.cons _ _ .nil)
      all_goals (repeat (first | with_reducible assumption | exact if_pos rfl | refine Eq.trans (if_neg (by decide +kernel)) ?_))
  case done =>
    intro m₁ nw h6 tk6 g6 d6 hJ F6 N6
    obtain ⟨TM, tc, tvs, rfl, lTM, hItv, B6, mtm6, mt6, mk6, mkd6⟩ := hJ
    dsimp only [stG]
    have sub6 : ∀ p ∈ rest, p ∈ (TM, listOf tvs.toArray tc) :: rest := fun p hp => .tail _ hp
    refine' lawD w h₀ L fa cd m₁ mg mb mean _ Q E ((TM, listOf tvs.toArray tc) :: rest) tb K KD TM OR ka kv tvs ov kn kdn tc on ((List.range 7).map fun p => timeOf (ord.map fun k : Nat => (k : Int)) (tr p)) (tr 0) ord oc tot ttot hE B F6 X T hC B6 ?dN ?dr (tabSt_mono htb sub6) (sub6 _ hK) (sub6 _ hKD) (.head _) (sub6 _ hOR) (sub6 _ hcell) hoc hItv hO ho9 ho3 ?dl ((hT 0 (by decide)).mono sub6) (hroot 0 (by decide)) (hdep 0 (by decide)) hsiz hsz hplain mt6 mk6 mkd6 mtm6 hQ
    case dN => exact news_swap N6
    case dr => exact List.forall_mem_cons.mpr ⟨Ne.symm (Nat.ne_of_lt (lTM _ (.head _))), r1⟩
    case dl => rw [List.length_map, List.length_range, hlen]; exact Nat.le_refl _
  all_goals (repeat (first | with_reducible assumption | exact if_pos rfl | refine Eq.trans (if_neg (by decide +kernel)) ?_))
end
theorem topOff22 : True := by
  w_top off
  trivial
section
open PySem PySem.Calls PyProof.Rows PySem.W PySem.Spec
def kidsOf (ab : List Nat) (p : Nat) : List Nat := ((List.range 6).filter fun k => ab[k]? == some p).map (· + 1)
def trF (ab kns : List Nat) : Nat → Nat → Tr
  | 0, p => .node p (kns.getD p 0) []
  | f + 1, p => .node p (kns.getD p 0) ((kidsOf ab p).map (trF ab kns f))
def tr (ab kns : List Nat) (p : Nat) : Tr := trF ab kns 7 p
def AbOk (ab : List Nat) : Prop := ab.length = 6 ∧ ∀ (k v : Nat), ab[k]? = some v → v ≤ k
theorem kids_gt {ab : List Nat} (h : AbOk ab) {p c : Nat} (hc : c ∈ kidsOf ab p) : p < c ∧ c < 7 := by
  obtain ⟨k, hk, rfl⟩ := List.mem_map.mp hc
  obtain ⟨h1, h2⟩ := List.mem_filter.mp hk
  have h3 := h.2 k p (by simpa using h2)
  have h4 := List.mem_range.mp h1
  lia
theorem trF_root (ab kns : List Nat) (f p : Nat) : (trF ab kns f p).root = p := by
  cases f <;> rfl
theorem trF_more {ab kns : List Nat} (h : AbOk ab) : ∀ (f p : Nat), 7 ≤ p + f → trF ab kns f p = trF ab kns (f + 1) p
  | 0, p, hp => by
    have : kidsOf ab p = [] := by
      cases e : kidsOf ab p with
      | nil => rfl
      | cons c r =>
        have := kids_gt h (p := p) (c := c) (by rw [e]; exact .head _)
        lia
    rw [trF, trF, this]; rfl
  | f + 1, p, hp => by
    rw [trF, trF]
    congr 1
    refine List.map_congr_left fun c hc => ?_
    exact trF_more h f c (by have := (kids_gt h hc).1; lia)
theorem tr_eq {ab kns : List Nat} (h : AbOk ab) (p : Nat) : tr ab kns p = .node p (kns.getD p 0) ((kidsOf ab p).map (tr ab kns)) := by
  show trF ab kns (6 + 1) p = _
  rw [trF]
  congr 1
  refine List.map_congr_left fun c hc => ?_
  exact trF_more h 6 c (by have := (kids_gt h hc).1; lia)
theorem kids_len (ab : List Nat) (p : Nat) : (kidsOf ab p).length ≤ 6 := by
  rw [kidsOf, List.length_map]
  exact Nat.le_trans (List.length_filter_le _ _) (by rw [List.length_range]; exact Nat.le_refl _)
theorem depL_le {ts : List Tr} {n : Nat} (h : ∀ t ∈ ts, dep t ≤ n) : depL ts ≤ n := by
  induction ts with
  | nil => rw [depL]; exact Nat.zero_le _
  | cons t r ih => rw [depL]; exact Nat.max_le.mpr ⟨h t (.head _), ih fun t ht => h t (.tail _ ht)⟩
theorem trF_dep (ab kns : List Nat) : ∀ f p, dep (trF ab kns f p) ≤ f + 1
  | 0, p => by rw [trF, dep, depL]; exact Nat.le_refl _
  | f + 1, p => by
    rw [trF, dep]
    refine Nat.succ_le_succ (depL_le fun t ht => ?_)
    obtain ⟨c, _, rfl⟩ := List.mem_map.mp ht
    exact trF_dep ab kns f c
def sizF (ab : List Nat) : Nat → Nat → Nat
  | 0, _ => 1
  | f + 1, p => ((kidsOf ab p).map (sizF ab f)).sum + 1
theorem sizL_sum : ∀ ts : List Tr, sizL ts = (ts.map siz).sum
  | [] => by rw [sizL]; rfl
  | t :: r => by rw [sizL, sizL_sum r]; rfl
theorem trF_siz (ab kns : List Nat) : ∀ f p, siz (trF ab kns f p) = sizF ab f p
  | 0, p => by rw [trF, siz, sizL, sizF]
  | f + 1, p => by
    rw [trF, siz, sizL_sum, sizF, List.map_map]
    congr 2
    exact List.map_congr_left fun c _ => trF_siz ab kns f c
theorem sum_filt {q q' : Nat → Bool} {g : Nat → Nat} (h : ∀ k, q k = true → q' k = true) : ∀ l : List Nat, ((l.filter q).map g).sum ≤ ((l.filter q').map g).sum
  | [] => Nat.le_refl _
  | k :: r => by
    have ih := sum_filt h r (g := g)
    by_cases hq : q k = true
    · rw [List.filter_cons_of_pos hq, List.filter_cons_of_pos (h k hq), List.map_cons, List.map_cons, List.sum_cons, List.sum_cons]
      exact Nat.add_le_add_left ih _
    · rw [List.filter_cons_of_neg hq]
      by_cases hq' : q' k = true
      · rw [List.filter_cons_of_pos hq', List.map_cons, List.sum_cons]
        exact Nat.le_trans ih (Nat.le_add_left _ _)
      · rw [List.filter_cons_of_neg hq']
        exact ih
theorem sum_le {g g' : Nat → Nat} : ∀ l : List Nat, (∀ k ∈ l, g k ≤ g' k) → (l.map g).sum ≤ (l.map g').sum
  | [], _ => Nat.le_refl _
  | k :: r, h => by
    rw [List.map_cons, List.map_cons, List.sum_cons, List.sum_cons]
    exact Nat.add_le_add (h k (.head _)) (sum_le r fun x hx => h x (.tail _ hx))
theorem pow_sum : ∀ p < 7, (((List.range 6).filter fun k => decide (p ≤ k)).map fun k => 2 ^ (6 - (k + 1))).sum + 1 ≤ 2 ^ (6 - p) := by decide
theorem siz_le {ab : List Nat} (hab : AbOk ab) : ∀ f p, p < 7 → 7 ≤ p + f → sizF ab f p ≤ 2 ^ (6 - p)
  | 0, p, h1, h2 => absurd h1 (Nat.not_lt.mpr h2)
  | f + 1, p, h1, h2 => by
    have a : ((kidsOf ab p).map (sizF ab f)).sum ≤ ((kidsOf ab p).map fun c => 2 ^ (6 - c)).sum := sum_le _ fun c hc => by
      obtain ⟨h3, h4⟩ := kids_gt hab hc
      exact siz_le hab f c h4 (by lia)
    have b : ((kidsOf ab p).map fun c => 2 ^ (6 - c)).sum ≤ (((List.range 6).filter fun k => decide (p ≤ k)).map fun k => 2 ^ (6 - (k + 1))).sum := by
      rw [kidsOf, List.map_map]
      exact sum_filt (fun k hk => decide_eq_true (hab.2 k p (by simpa using hk))) _
    exact Nat.le_trans (Nat.succ_le_succ (Nat.le_trans a b)) (pow_sum p h1)
theorem tr_siz {ab kns : List Nat} (h : AbOk ab) {p : Nat} (hp : p < 7) : siz (tr ab kns p) ≤ 64 := by
  rw [tr, trF_siz]
  exact Nat.le_trans (siz_le h 7 p hp (Nat.le_add_left 7 p)) (Nat.pow_le_pow_right (n := 2) (by decide) (Nat.sub_le 6 p))
mutual
theorem words_len : ∀ t : Tr, (words t).length ≤ siz t
  | .node p k ts => by
    have h := wordsL_len ts
    rw [words, siz]
    split
    · simp
    · rw [List.length_map]; lia
theorem wordsL_len : ∀ ts : List Tr, (wordsL ts).length ≤ sizL ts
  | [] => by rw [wordsL, sizL]; exact Nat.le_refl _
  | t :: r => by
    have h1 := words_len t
    have h2 := wordsL_len r
    rw [wordsL, sizL, List.length_append]; lia
end
mutual
theorem word_len : ∀ (t : Tr) (x : List Int), x ∈ words t → x.length ≤ dep t ∧ 0 < x.length
  | .node p k ts, x, hx => by
    rw [words] at hx
    rw [dep]
    split at hx
    · rw [List.mem_singleton.mp hx]; exact ⟨by simp, by simp⟩
    · obtain ⟨y, hy, rfl⟩ := List.mem_map.mp hx
      have h := wordL_len ts y hy
      rw [List.length_append, List.length_singleton]
      lia
theorem wordL_len : ∀ (ts : List Tr) (x : List Int), x ∈ wordsL ts → x.length ≤ depL ts ∧ 0 < x.length
  | t :: r, x, hx => by
    rw [wordsL] at hx
    rw [depL]
    rcases List.mem_append.mp hx with h | h
    · have h1 := word_len t x h
      have := Nat.le_max_left (dep t) (depL r)
      lia
    · have h1 := wordL_len r x h
      have := Nat.le_max_right (dep t) (depL r)
      lia
end
theorem str_len_app (a b : Str) : (a ++ b).length = a.length + b.length := by show (_ ++ _ : Array Nat).size = _; rw [Array.size_append]; rfl
theorem beg_len (k : Nat) : (begT k).length ≤ 30 := by
  match k with
  | 0 => decide +kernel
  | 1 => decide +kernel
  | k + 2 => exact Nat.le_trans (Nat.le_of_eq (show (begT (k + 2)).length = (begT 2).length from rfl)) (by decide +kernel)
theorem end_len (k : Nat) : (endT k).length ≤ 30 := by
  match k with
  | 0 => decide +kernel
  | 1 => decide +kernel
  | k + 2 => exact Nat.le_trans (Nat.le_of_eq (show (endT (k + 2)).length = (endT 2).length from rfl)) (by decide +kernel)
mutual
theorem rest_bound (tms : List Int) (j : Int) : ∀ t : Tr, (restT tms j t).length ≤ 60 * siz t
  | .node p k ts => by
    have h := restL_bound tms j ts
    have h1 := beg_len k
    have h2 := end_len k
    rw [restT, siz]
    split
    · exact Nat.le_trans (Nat.le_of_eq (by decide +kernel : (Str.ofString "").length = 0)) (Nat.zero_le _)
    · rw [str_len_app, str_len_app]; lia
theorem restL_bound (tms : List Int) (j : Int) : ∀ ts : List Tr, (restL tms j ts).length ≤ 60 * sizL ts
  | [] => by rw [restL, sizL]; exact Nat.le_of_eq (by decide +kernel : (Str.ofString "").length = 0)
  | t :: r => by
    have h1 := rest_bound tms j t
    have h2 := restL_bound tms j r
    rw [restL, sizL, str_len_app]; lia
end
theorem kns_lt {kns : List Nat} (h : ∀ k ∈ kns, k < 3) (p : Nat) : kns.getD p 0 < 3 := by
  rw [List.getD_eq_getElem?_getD]
  cases e : kns[p]? with
  | none => decide
  | some k => exact h k (List.mem_of_getElem? e)
theorem tree_in {news : List (Addr × Obj)} {ka kv : List Value} {ab kns : List Nat} (hab : AbOk ab) (hk3 : ∀ k ∈ kns, k < 3) (hkl : kns.length = 7) (hkv : IntsAre kv (kns.map fun k : Nat => (k : Int)))
    (hka : ∀ p, p < 7 → ∃ a vs n, ka[p]? = some (Value.ref a) ∧ (a, listOf vs.toArray n) ∈ news ∧ IntsAre vs ((kidsOf ab p).map fun c : Nat => (c : Int))) :
    ∀ f p, p < 7 → 7 ≤ p + f → TreeIn news ka kv (trF ab kns f p)
  | 0, p, h1, h2 => by lia
  | f + 1, p, h1, h2 => by
    obtain ⟨a, vs, n, e1, e2, e3⟩ := hka p h1
    obtain ⟨t4, e4⟩ : ∃ t4, kv[p]? = some (Value.int ((kns.getD p 0 : Nat) : Int) t4) := by
      have hpk : p < kns.length := by lia
      have hpv : p < kv.length := by rw [hkv.length, List.length_map]; exact hpk
      obtain ⟨n9, t9, e9, h9⟩ := hkv.at p kv[p] (List.getElem?_eq_getElem hpv)
      rw [List.getElem?_map, List.getElem?_eq_getElem hpk] at h9
      refine ⟨t9, ?_⟩
      rw [List.getElem?_eq_getElem hpv, e9, List.getD_eq_getElem?_getD, List.getElem?_eq_getElem hpk]
      obtain rfl := Option.some.inj h9
      rfl
    rw [trF]
    refine .node (by lia) e1 e2 ?_ e4 ?_ ?_ (kns_lt hk3 p)
    · have : ((kidsOf ab p).map (trF ab kns f)).map (fun t => (t.root : Int)) = (kidsOf ab p).map fun c : Nat => (c : Int) := by
        rw [List.map_map]
        exact List.map_congr_left fun c _ => by show ((trF ab kns f c).root : Int) = _; rw [trF_root]
      rw [this]; exact e3
    · intro t' ht
      obtain ⟨c, hc, rfl⟩ := List.mem_map.mp ht
      have h9 := kids_gt hab hc
      exact tree_in hab hk3 hkl hkv hka f c h9.2 (by lia)
    · rw [List.length_map]; exact Nat.le_trans (kids_len ab p) (by decide)
end
theorem topOff23 : True := by
  w_top off
  trivial
section
open PySem PySem.W PyProof.Rows PySem.Calls PySem.Spec
def tmsOf (ab kns ord : List Nat) : List Int := (List.range 7).map fun p => timeOf (ord.map fun k : Nat => (k : Int)) (tr ab kns p)
inductive BJ1 (g0 : Gens) (base : List (Addr × Obj)) (ab : List Nat) (i : Nat) (ys : List Value) (nw : List (Addr × Obj)) (g : Gens) : Prop
  | mk (hg : g = g0) (tl : List (Addr × Obj)) (hn : nw = tl ++ base) (h1 : ∀ p ∈ tl, p.1 ≠ 130) (hl : ys.length = i) (hy : ∀ p, p < i → ∃ a vs n, ys[p]? = some (Value.ref a) ∧ (a, listOf vs.toArray n) ∈ tl ∧ IntsAre vs ((kidsOf ab p).map fun c : Nat => (c : Int))) : BJ1 g0 base ab i ys nw g
inductive BJ2 (g0 : Gens) (base : List (Addr × Obj)) (ab : List Nat) (i j : Nat) (ys : List Value) (nw : List (Addr × Obj)) (g : Gens) : Prop
  | mk (hg : g = g0) (hn : nw = base) (hI : IntsAre ys ((((List.range j).filter fun k => ab[k]? == some i).map (· + 1)).map fun c : Nat => (c : Int))) : BJ2 g0 base ab i j ys nw g
theorem bj_one {ab : List Nat} {i j aj : Nat} (haj : ab[j]? = some aj) : (List.range (j + 1)).filter (fun k => ab[k]? == some i) = (List.range j).filter (fun k => ab[k]? == some i) ++ (if aj = i then [j] else []) := by
  rw [List.range_succ, List.filter_append]
  congr 1
  rw [List.filter_cons, haj]
  by_cases h : aj = i <;> simp [h]
theorem bj_av {ab : List Nat} {av : List Value} {j : Nat} (hab : AbOk ab) (hA : IntsAre av (ab.map fun k : Nat => (k : Int))) (hj : j < 6) : ∃ aj t, ab[j]? = some aj ∧ av.toArray[j]? = some (Value.int (aj : Int) t) := by
  have haj : ab[j]? = some (ab[j]'(by rw [hab.1]; exact hj)) := List.getElem?_eq_getElem _
  have hjl : j < av.length := by rw [hA.length, List.length_map, hab.1]; exact hj
  obtain ⟨n9, t9', e9, h9⟩ := hA.at j av[j] (List.getElem?_eq_getElem hjl)
  rw [List.getElem?_map, haj] at h9
  obtain rfl := Option.some.inj h9
  exact ⟨_, t9', haj, by rw [List.getElem?_toArray, List.getElem?_eq_getElem hjl, e9]⟩
theorem bj_news {h₀ h : Heap} {L : Addr} {a b c d e q : Addr × Obj} {tl rest : List (Addr × Obj)} (N : News h₀ L h (e :: a :: b :: c :: d :: (tl ++ q :: rest))) : News h₀ L h (a :: b :: c :: d :: ((e :: tl) ++ q :: rest)) := List.forall_mem_cons.2 ⟨N _ (.tail _ (.head _)), List.forall_mem_cons.2 ⟨N _ (.tail _ (.tail _ (.head _))), List.forall_mem_cons.2 ⟨N _ (.tail _ (.tail _ (.tail _ (.head _)))), List.forall_mem_cons.2 ⟨N _ (.tail _ (.tail _ (.tail _ (.tail _ (.head _))))), List.forall_mem_cons.2 ⟨N _ (.head _), fun p hp => N p (.tail _ (.tail _ (.tail _ (.tail _ (.tail _ hp)))))⟩⟩⟩⟩⟩
theorem bj_mid {h₀ h : Heap} {L : Addr} {d q : Addr × Obj} {tl rest : List (Addr × Obj)} (N : News h₀ L h (d :: (tl ++ q :: rest))) : News h₀ L h (q :: d :: (tl ++ rest)) := news_midL (d :: tl) N
theorem bj_more {ab : List Nat} {i D n2 : Nat} {ys ys2 : List Value} {tl : List (Addr × Obj)} (hl : ys.length = i) (hy : ∀ p, p < i → ∃ a vs n, ys[p]? = some (Value.ref a) ∧ (a, listOf vs.toArray n) ∈ tl ∧ IntsAre vs ((kidsOf ab p).map fun c : Nat => (c : Int))) (h2 : IntsAre ys2 ((kidsOf ab i).map fun c : Nat => (c : Int))) : ∀ p, p < i + 1 → ∃ a vs n, (ys ++ [Value.ref D])[p]? = some (Value.ref a) ∧ (a, listOf vs.toArray n) ∈ (D, listOf ys2.toArray n2) :: tl ∧ IntsAre vs ((kidsOf ab p).map fun c : Nat => (c : Int)) := by
  intro p hp
  by_cases hpi : p < i
  · obtain ⟨a, vs, n, e1, e2, e3⟩ := hy p hpi
    exact ⟨a, vs, n, by rw [List.getElem?_append_left (by walk_at "AR")]; exact e1, .tail _ e2, e3⟩
  · obtain rfl : p = i := by walk_at "AR"
    exact ⟨D, ys2, n2, by rw [List.getElem?_append_right (by walk_at "AR"), hl, Nat.sub_self]; rfl, .head _, h2⟩
set_option maxHeartbeats 4000000 in
theorem lawB (w : World) (h₀ : Heap) (L fa : Nat) (cd : Value) (m mg mb : Str → Option Value) (mean : ExcName → Option Value) (s : Shared) (Q : Flow → Shared → Prop) (E : Value → Shared → Prop)
    (rest : List (Addr × Obj)) (tb : Array Value) (KD OR AB : Nat) (kv ov av : List Value) (kdn on an : Nat) (ab kns ord : List Nat) (oa oc : Obj) (tot : Int) (ttot : Tok)
    (hE : PassesOwn (model P3 w) (callerA.deeper (envOfC (Str.ofString "law") lawScope L fa cd)) (envOfC (Str.ofString "law") lawScope L fa cd) E) (B : Below callerA h₀ [] h₀) (F : Fr h₀ L s.heap m) (X : (hd3.heap_39 w.params).In h₀) (T : Top topProg lo3 mean mg mb h₀) (hC : CodeHd h₀ 132 130) (hb : AllBare s.gens)
    (N : News h₀ L s.heap ((130, tabObj tb) :: rest))
    (r1 : ∀ p ∈ rest, p.1 ≠ 130) (htb : TabSt lamPos lamQ tb rest) (hKD : (KD, listOf kv.toArray kdn) ∈ rest) (hOR : (OR, listOf ov.toArray on) ∈ rest) (hAB : (AB, listOf av.toArray an) ∈ rest) (hcell : (L + 1 + 1, oc) ∈ rest) (hoc : oc.data = .cell (some (.ref OR))) (hcella : (L + 1, oa) ∈ rest) (hoa : oa.data = .cell (some (.ref AB)))
    (hO : IntsAre ov (ord.map fun k : Nat => (k : Int))) (ho9 : ord.length = 9) (ho3 : ∀ k ∈ ord, k < 3) (hV : IntsAre kv (kns.map fun k : Nat => (k : Int))) (hk7 : kns.length = 7) (hk3 : ∀ k ∈ kns, k < 3) (hA : IntsAre av (ab.map fun k : Nat => (k : Int))) (hab : AbOk ab)
    (hplain : ∀ j : Nat, j ≤ 9 → stripAll ((ord.take j).map loneT) (restT (tmsOf ab kns ord) 0 (tr ab kns 0)) = restT (tmsOf ab kns ord) j (tr ab kns 0))
    (mt : m (Str.ofString "total") = some (.int tot ttot)) (mkd : m (Str.ofString "kinds") = some (.ref KD))
    (hQ : ∀ (m' : Str → Option Value) (news' : List (Addr × Obj)) h' tk' gens' d', Fr h₀ L h' m' → News h₀ L h' news' → AllBare gens' → (∃ tb', (130, tabObj tb') ∈ news') → Q (.ret (.bool true)) { s with heap := h', toks := tk', gens := gens', drawn := d' }) :
    wpAny (model P3 w) (callerA.deeper (envOfC (Str.ofString "law") lawScope L fa cd)) (execs (lawFrom 6) (envOfC (Str.ofString "law") lawScope L fa cd)) Q E s := by
  generalize hl : lawFrom 6 = l
  conv at hl => lhs; whnf
  generalize hsc : lawScope = sc
  conv at hsc => lhs; whnf
  subst hl
  subst hsc
  iterate 1 (first | (k_unfold; (try dsimp only)) | walk1 | (dsimp only; walk1) | (leave1; try dsimp only))
  refine' Assign_ListComp_C (by assumption) rfl ?hsw ?hclos ?hpc ?hcf ?hkind ?hnames ?hx ?hy ?hp ?h
  case hsw => exact rfl
  case hclos => exact rfl
  case hpc => intro _; rfl
  case hcf => intro _ _; rfl
  case hkind => exact rfl
  case hnames => decide
  case hx => intro _ _; rfl
  case hy => exact rfl
  case hp => exact rfl
  case h =>
  iterate 7 (first | (k_unfold; (try dsimp only)) | walk1 | (dsimp only; walk1) | (leave1; try dsimp only))
  rename (IsRange _ _ _ _ _ _ _ _) => hr5
  rename (News _ _ _ _) => N5
  rename (Fr _ _ _ _) => F5
  refine ⟨_, 0, 7, _, _, _, 7, (130, tabObj tb) :: rest, rfl, F5, N5, hr5, by decide +kernel, by decide +kernel, by decide +kernel, BJ1 s.gens ((130, tabObj tb) :: rest) ab, ⟨rfl, [], rfl, fun p hp => absurd hp List.not_mem_nil, rfl, fun p hp => absurd hp (Nat.not_lt_zero p)⟩, ?turn, ?fin⟩
  case turn =>
    intro i v I oI C oC K oK D m₂ h6 tk6 g6 d6 ys nw E' hi hv hJ hS hNs hoK F6 N6 off6 ne6 it6
    obtain ⟨rfl, tl, rfl, ht130, hyl, hys⟩ := hJ
    obtain ⟨t9, rfl⟩ := hv
    rw [Int.zero_add] at hoK
    dsimp only [stG]
    refine' ListComp_I (by assumption) ?hclos ?hcl ?hkind ?hnames ?hx ?h
    case hclos => exact rfl
    case hcl => decide
    case hkind => exact rfl
    case hnames => decide
    case hx => exact rfl
    case h =>
    iterate 7 (first | (k_unfold; (try dsimp only)) | walk1 | (dsimp only; walk1) | (leave1; try dsimp only))
    rename (IsRange _ _ _ _ _ _ _ _) => hr7
    rename (News _ _ _ _) => N7
    rename (Fr _ _ _ _) => F7
    refine ⟨_, 0, 6, _, _, _, 6, ((I, oI) :: (C, oC) :: (K, oK) :: (D, LCg.lst ys) :: (tl ++ (130, tabObj tb) :: rest)), rfl, F7, N7, hr7, by decide +kernel, by decide +kernel, by decide +kernel, BJ2 s.gens ((I, oI) :: (C, oC) :: (K, oK) :: (D, LCg.lst ys) :: (tl ++ (130, tabObj tb) :: rest)) ab i, ⟨rfl, rfl, .nil⟩, ?turn2, ?fin2⟩
    case turn2 =>
      intro j v2 I2 oI2 C2 oC2 D2 m3 h8 tk8 g8 d8 ys2 nw2 E2 hj hv2 hJ2 hS2 hNs2 hmx2 F8 N8 off8 ne8 it8
      obtain ⟨rfl, rfl, hys2⟩ := hJ2
      obtain ⟨t8, rfl⟩ := hv2
      rw [Int.zero_add] at hmx2
      obtain ⟨aj, t7, haj, hav⟩ := bj_av hab hA hj
      have hca : (L + 1, oa) ∈ tl ++ (130, tabObj tb) :: rest := List.mem_append_right _ (.tail _ hcella)
      have hAl : (AB, listOf av.toArray an) ∈ tl ++ (130, tabObj tb) :: rest := List.mem_append_right _ (.tail _ hAB)
      have hj10 : j < 1000 := by have : j < 6 := hj; walk_at "AR"
      dsimp only [stG]
      iterate 7 (first | (k_unfold; (try dsimp only)) | walk1 | (dsimp only; walk1) | (leave1; try dsimp only))
      have hrs := bj_one (i := i) haj
      by_cases haji : aj = i
      · rw [show ((aj : Int) == (i : Int)) = true from beq_iff_eq.mpr (by rw [haji])]
        rw [if_pos haji] at hrs
        iterate 6 (first | (k_unfold; (try dsimp only)) | walk1 | (dsimp only; walk1) | (leave1; try dsimp only))
        refine ⟨_, _, _, _, _, F8, N8, off8, hS2, rfl, rfl, ?_⟩
        rw [hrs, List.map_append, List.map_append]
        exact hys2.append (.cons _ _ .nil)
      · rw [show ((aj : Int) == (i : Int)) = false from beq_eq_false_iff_ne.mpr (by walk_at "AR")]
        rw [if_neg haji, List.append_nil] at hrs
        iterate 1 (first | (k_unfold; (try dsimp only)) | walk1 | (dsimp only; walk1) | (leave1; try dsimp only))
        rw [if_neg Bool.false_ne_true]
        refine ⟨_, _, _, _, _, F8, N8, off8, hS2, rfl, rfl, ?_⟩
        rw [hrs]
        exact hys2
    case fin2 =>
      intro ys2 nw2 g hJ2 D9 h9 tk9 d9 hbD9 F9 N9 off9
      obtain ⟨rfl, rfl, hys2⟩ := hJ2
      have b1 := hbD9 _ (.head _)
      have b2 := hbD9 _ (.tail _ (.head _))
      have b3 := hbD9 _ (.tail _ (.tail _ (.head _)))
      have b4 := hbD9 _ (.tail _ (.tail _ (.tail _ (.head _))))
      have b5 := hbD9 (130, tabObj tb) (.tail _ (.tail _ (.tail _ (.tail _ (List.mem_append_right _ (.head _))))))
      refine ⟨h9, tk9, s.gens, d9, (D9, LCg.lst ys2) :: tl ++ (130, tabObj tb) :: rest, F9, bj_news N9, ?cO, trivial, rfl, (D9, LCg.lst ys2) :: tl, rfl, ?c130, ?cl, bj_more hyl hys hys2⟩
      case cO => exact List.forall_mem_cons.mpr ⟨⟨Ne.symm (Nat.ne_of_lt b1), Ne.symm (Nat.ne_of_lt b2), Ne.symm (Nat.ne_of_lt b3), Ne.symm (Nat.ne_of_lt b4)⟩, off6⟩
      case c130 => exact List.forall_mem_cons.mpr ⟨Ne.symm (Nat.ne_of_lt b5), ht130⟩
      case cl => rw [List.length_append, List.length_singleton, hyl]
  case fin =>
    intro ys nw g hJ D h7 tk7 d7 hbD F7 N7 off7
    obtain ⟨rfl, tl, rfl, ht130, hyl, hys⟩ := hJ
    dsimp only [stG]
    have hDr : ∀ p ∈ tl ++ (130, tabObj tb) :: rest, p.1 ≠ D := off1_mem _ off7
    have hD130 : @Ne Nat D 130 := fun e => hDr (130, tabObj tb) (List.mem_append_right _ (.head _)) e.symm
    have sub9 : ∀ p ∈ rest, p ∈ (D, LCg.lst ys) :: (tl ++ rest) := fun p hp => .tail _ (List.mem_append_right _ hp)
    have hka : ∀ p, p < 7 → ∃ a vs n, ys[p]? = some (Value.ref a) ∧ (a, listOf vs.toArray n) ∈ (D, LCg.lst ys) :: (tl ++ rest) ∧ IntsAre vs ((kidsOf ab p).map fun c : Nat => (c : Int)) := by
      intro p hp
      obtain ⟨a, vs, n, e1, e2, e3⟩ := hys p hp
      exact ⟨a, vs, n, e1, .tail _ (List.mem_append_left _ e2), e3⟩
    refine' lawC w h₀ L fa cd _ mg mb mean _ Q E ((D, LCg.lst ys) :: (tl ++ rest)) tb D KD OR ys kv ov ys.length kdn on (tr ab kns) ord oc tot ttot hE B ?lF X T hC ?lB ?lN ?lr (tabSt_mono htb sub9) (.head _) (sub9 _ hKD) (sub9 _ hOR) (sub9 _ hcell) hoc hO ho9 ho3 hyl (fun p hp => tree_in hab hk3 hk7 hV hka 7 p hp (by walk_at "AR")) (fun p _ => trF_root ab kns 7 p) (fun p _ => Nat.le_trans (trF_dep ab kns 7 p) (by decide)) (Nat.le_trans (tr_siz hab (by decide)) (by decide)) (fun p hp => Nat.le_trans (words_len _) (Nat.le_trans (tr_siz hab hp) (by decide))) (fun p hp x hx => ⟨Nat.le_trans (word_len _ x hx).1 (Nat.le_trans (trF_dep ab kns 7 p) (by decide)), (word_len _ x hx).2⟩) (fun j => Nat.le_trans (rest_bound _ j _) (Nat.le_trans (Nat.mul_le_mul_left 60 (tr_siz hab (by decide))) (by decide))) hplain ?_ ?_ ?_ hQ
    case lF => exact F7
    case lB => exact hb
    case lN => exact bj_mid N7
    case lr => exact all_cons hD130 (all_app ht130 r1)
    all_goals (repeat (first | with_reducible assumption | exact if_pos rfl | refine Eq.trans (if_neg (by decide +kernel)) ?_))
end
theorem topOff24 : True := by
  w_top off
  trivial
section
open PySem PySem.W PyProof.Rows PySem.Calls PySem.Spec
def PlainLaw : Prop := ∀ ab kns ord : List Nat, AbOk ab → kns.length = 7 → (∀ k ∈ kns, k < 3) → ord.length = 9 → (∀ k ∈ ord, k < 3) → ∀ j : Nat, j ≤ 9 → stripAll ((ord.take j).map loneT) (restT (tmsOf ab kns ord) 0 (tr ab kns 0)) = restT (tmsOf ab kns ord) j (tr ab kns 0)
def abOf (cs : List Int) (k : Nat) : Nat := (cs.getD k 0).toNat % (k + 1)
def drOf (cs : List Int) (k : Nat) : Nat := (cs.getD k 0).toNat / (k + 1)
theorem fmod_nat {c : Int} (h : 0 ≤ c) (k : Nat) : c.fmod ((k : Int) + 1) = ((c.toNat % (k + 1) : Nat) : Int) := by
  rw [Int.fmod_eq_emod_of_nonneg _ (by walk_at "AR")]
  have e : c = (c.toNat : Int) := (Int.toNat_of_nonneg h).symm
  conv => lhs; rw [e]
  exact (Int.natCast_emod _ _).symm
theorem fdiv_nat {c : Int} (h : 0 ≤ c) (k : Nat) : c.fdiv ((k : Int) + 1) = ((c.toNat / (k + 1) : Nat) : Int) := by
  rw [Int.fdiv_eq_ediv_of_nonneg _ (by walk_at "AR")]
  have e : c = (c.toNat : Int) := (Int.toNat_of_nonneg h).symm
  conv => lhs; rw [e]
  exact (Int.natCast_ediv _ _).symm
theorem mod3 (d : Nat) : (d : Int).fmod 3 = ((d % 3 : Nat) : Int) := by
  rw [Int.fmod_eq_emod_of_nonneg _ (by decide)]; exact (Int.natCast_emod d 3).symm
theorem div3 (d : Nat) : (d : Int).fdiv 3 = ((d / 3 : Nat) : Int) := by
  rw [Int.fdiv_eq_ediv_of_nonneg _ (by decide)]; exact (Int.natCast_ediv d 3).symm
theorem take_six {f : Nat → Nat} : ((List.range 6).map f).take 6 = (List.range 6).map f := List.take_of_length_le (by rw [List.length_map, List.length_range]; exact Nat.le_refl _)
theorem ints_cast {vs : List Value} {a b : List Int} (h : IntsAre vs a) (e : a = b) : IntsAre vs b := e ▸ h
theorem fmod3_cast (x : Int) : x.fmod 3 = (((x.fmod 3).toNat : Nat) : Int) ∧ (x.fmod 3).toNat < 3 :=
  have h1 : 0 ≤ x.fmod 3 := Int.fmod_nonneg_of_pos x (by decide)
  ⟨(Int.toNat_of_nonneg h1).symm, (Int.toNat_lt h1).mpr (Int.fmod_lt_of_pos x (by decide))⟩
theorem ab_ok (cs : List Int) : AbOk ((List.range 6).map (abOf cs)) := by
  refine ⟨by rw [List.length_map, List.length_range], fun k v h => ?_⟩
  rw [List.getElem?_map] at h
  obtain ⟨j, hj, rfl⟩ := Option.map_eq_some_iff.mp h
  have : j = k := by
    have hk := (List.getElem?_eq_some_iff.mp hj)
    obtain ⟨h1, h2⟩ := hk
    rw [List.getElem_range] at h2; exact h2.symm
  subst this
  exact Nat.lt_succ_iff.mp (Nat.mod_lt _ (Nat.succ_pos _))
theorem ints_of_pz {ys : List Value} {f : Nat → Nat} {n : Nat} (hl : ys.length = n) (h : ∀ j y, ys[j]? = some y → ∃ t, y = Value.int ((f j : Nat) : Int) t) : IntsAre ys (((List.range n).map f).map fun k : Nat => (k : Int)) := by
  induction ys generalizing n f with
  | nil => subst hl; exact .nil
  | cons y r ih =>
    subst hl
    obtain ⟨t, e⟩ := h 0 y rfl
    have h2 := ih (f := fun j => f (j + 1)) rfl fun j z hz => h (j + 1) z hz
    rw [List.length_cons, List.range_succ_eq_map, List.map_cons, List.map_cons, List.map_map, e]
    rw [List.map_map] at h2 ⊢
    exact .cons _ _ h2
inductive AJ (g0 : Gens) (base : List (Addr × Obj)) (dr : List Nat) (f : Nat → Nat) (i : Nat) (ys : List Value) (nw : List (Addr × Obj)) (g : Gens) : Prop
  | mk (hg : g = g0) (hn : nw = base) (hI : IntsAre ys (((dr.take i).map f).map fun k : Nat => (k : Int))) : AJ g0 base dr f i ys nw g
theorem nil_all {α : Type} {P : α → Prop} : ∀ p ∈ ([] : List α), P p := fun _ h => absurd h List.not_mem_nil
theorem kn3 {cs : List Int} : ∀ k ∈ ((cs.sum.fmod 3).toNat :: (((List.range 6).map (drOf cs)).map fun d => d % 3)), k < 3 := List.forall_mem_cons.2 ⟨(fmod3_cast cs.sum).2, fun k h => by
  obtain ⟨d, _, rfl⟩ := List.mem_map.mp h
  exact Nat.mod_lt _ (by decide)⟩
theorem or3 {cs : List Int} : ∀ k ∈ (((List.range 6).map (drOf cs)).map fun d => d / 3 % 3) ++ [0, 1, 2], k < 3 := all_app (fun k h => by
  obtain ⟨d, _, rfl⟩ := List.mem_map.mp h
  exact Nat.mod_lt _ (by decide)) (by decide)
set_option maxHeartbeats 4000000 in
theorem lawA (w : World) (h₀ : Heap) (L fa : Nat) (cd : Value) (m mg mb : Str → Option Value) (mean : ExcName → Option Value) (s : Shared) (Q : Flow → Shared → Prop) (E : Value → Shared → Prop)
    (D kc : Nat) (ws : List Value) (cs : List Int) (oa oc : Obj)
    (hE : PassesOwn (model P3 w) (callerA.deeper (envOfC (Str.ofString "law") lawScope L fa cd)) (envOfC (Str.ofString "law") lawScope L fa cd) E) (B : Below callerA h₀ [] h₀) (F : Fr h₀ L s.heap m) (X : (hd3.heap_39 w.params).In h₀) (T : Top topProg lo3 mean mg mb h₀) (hC : CodeHd h₀ 132 130) (hb : AllBare s.gens)
    (N : News h₀ L s.heap ((D, listOf ws.toArray kc) :: (L + 1 + 1, oc) :: (L + 1, oa) :: (130, tabObj #[]) :: []))
    (hpl : PlainLaw) (hI : IntsAre ws cs) (h6 : cs.length = 6) (h0 : ∀ c ∈ cs, 0 ≤ c) (lD : @LT.lt Nat _ (L + 1 + 1) D) (l130 : @LT.lt Nat _ 130 L) (hoa : oa.data = .cell none) (hoc : oc.data = .cell none)
    (mc : m (Str.ofString "cells") = some (.ref D))
    (hQ : ∀ (m' : Str → Option Value) (news' : List (Addr × Obj)) h' tk' gens' d', Fr h₀ L h' m' → News h₀ L h' news' → AllBare gens' → (∃ tb', (130, tabObj tb') ∈ news') → Q (.ret (.bool true)) { s with heap := h', toks := tk', gens := gens', drawn := d' }) :
    wpAny (model P3 w) (callerA.deeper (envOfC (Str.ofString "law") lawScope L fa cd)) (execs (lawFrom 1) (envOfC (Str.ofString "law") lawScope L fa cd)) Q E s := by
  generalize hl : lawFrom 1 = l
  conv at hl => lhs; whnf
  generalize hsc : lawScope = sc
  conv at hsc => lhs; whnf
  subst hl
  subst hsc
  have lD2 : @LT.lt Nat _ (L + 1) D := by walk_at "AR"
  have lD3 : @LT.lt Nat _ 130 D := by walk_at "AR"
  iterate 12 (first | (k_unfold; (try dsimp only)) | walk1 | (dsimp only; walk1) | (leave1; try dsimp only))
  refine' Assign_plain (by rfl) ?_
  refine' ListComp_X (by assumption) ?hclos ?hcl ?hkind ?hnames ?hxi ?hxv ?hxx ?h
  case hclos => exact rfl
  case hcl => decide
  case hkind => exact rfl
  case hnames => decide
  case hxi => exact rfl
  case hxv => exact rfl
  case hxx => decide +kernel
  case h =>
  iterate 6 (first | (k_unfold; (try dsimp only)) | walk1 | (dsimp only; walk1) | (leave1; try dsimp only))
  rename (News _ _ _ _) => NN
  rename (Fr _ _ _ _) => FF
  refine enum_made FF NN (.head _) ?_
  intro itA eA oitA hA hoitA FA NA ltA_ ieA
  refine ⟨eA, itA, D, ws.toArray, kc, oitA, _, (fun i y => ∃ t, y = Value.int ((abOf cs i : Nat) : Int) t), rfl, hoitA, by rw [List.size_toArray, hI.length, h6, sizeLine_eq]; decide, FA, NA, (.head _), ieA, ltA_, ?elt, ?store⟩
  case elt =>
    intro i v ti C9 oC9 m₉ h9 tk9 E9 hv hNs hmi hmv F9 N9 off9
    obtain ⟨c9, t9, rfl, hc9⟩ := hI.at i v (by simpa using hv)
    have hc0 := h0 c9 (List.mem_of_getElem? hc9)
    have hi6 : i < 6 := by rw [← h6]; exact (List.getElem?_eq_some_iff.mp hc9).1
    have hkz : ¬ ((i : Int) + 1 = 0) := by walk_at "AR"
    have hcd : cs.getD i 0 = c9 := by rw [List.getD_eq_getElem?_getD, hc9]; rfl
    iterate 7 (first | (k_unfold; (try dsimp only)) | walk1 | (dsimp only; walk1) | (leave1; try dsimp only))
    have e9 := fmod_nat hc0 i
    have e8 : abOf cs i = (c9.toNat % (i + 1)) := by unfold abOf; rw [hcd]
    rw [← e8] at e9
    rw [e9]
    exact ⟨⟨_, rfl⟩, _, rfl⟩
  case store =>
    intro D2 h2 tk2 ysA hl hysA F2 N2 lt2
    rw [show ws.toArray.size = 6 from hI.length.trans h6] at hl
    have hAb := ints_of_pz hl hysA
    refine storeN_cell (pre := [(D2, LCg.lst ysA), (D, listOf ws.toArray kc), (L + 1 + 1, oc)]) (post := [(130, tabObj #[])]) (cc := L + 1) F2 N2 rfl rfl rfl hoa ?o1 ?o2 ?sf
    case o1 => exact all_cons (Nat.ne_of_gt (lt2 _ (.tail _ (.tail _ (.head _))))) (all_cons (Nat.ne_of_gt lD2) (all_cons (Nat.succ_ne_self _) nil_all))
    case o2 => exact all_cons (Nat.ne_of_lt (Nat.lt_succ_of_lt l130)) nil_all
    case sf =>
    intro h3 oa' hoa' F3 N3
    iterate 2 (first | (k_unfold; (try dsimp only)) | walk1 | (dsimp only; walk1) | (leave1; try dsimp only))
    refine' Assign_XL (by assumption) rfl ?hsw ?hclos ?hcl ?hkind ?hnames ?hxi ?hxv ?hxx ?hy ?hp ?h
    case hsw => exact rfl
    case hy => exact rfl
    case hp => exact rfl
    case hclos => exact rfl
    case hcl => decide
    case hkind => exact rfl
    case hnames => decide
    case hxi => exact rfl
    case hxv => exact rfl
    case hxx => decide +kernel
    case h =>
    iterate 6 (first | (k_unfold; (try dsimp only)) | walk1 | (dsimp only; walk1) | (leave1; try dsimp only))
    rename (News _ _ _ _) => NN
    rename (Fr _ _ _ _) => FF
    refine enum_made FF NN (.tail _ (.head _)) ?_
    intro itA eA oitA hA hoitA FA NA ltA_ ieA
    refine ⟨eA, itA, D, ws.toArray, kc, oitA, _, (fun i y => ∃ t, y = Value.int ((drOf cs i : Nat) : Int) t), rfl, hoitA, by rw [List.size_toArray, hI.length, h6, sizeLine_eq]; decide, FA, NA, (.tail _ (.head _)), ieA, ltA_, ?elt, ?store⟩
    case elt =>
      intro i v ti C9 oC9 m₉ h9 tk9 E9 hv hNs hmi hmv F9 N9 off9
      obtain ⟨c9, t9, rfl, hc9⟩ := hI.at i v (by simpa using hv)
      have hc0 := h0 c9 (List.mem_of_getElem? hc9)
      have hi6 : i < 6 := by rw [← h6]; exact (List.getElem?_eq_some_iff.mp hc9).1
      have hkz : ¬ ((i : Int) + 1 = 0) := by walk_at "AR"
      have hcd : cs.getD i 0 = c9 := by rw [List.getD_eq_getElem?_getD, hc9]; rfl
      iterate 7 (first | (k_unfold; (try dsimp only)) | walk1 | (dsimp only; walk1) | (leave1; try dsimp only))
      have e9 := fdiv_nat hc0 i
      have e8 : drOf cs i = (c9.toNat / (i + 1)) := by unfold drOf; rw [hcd]
      rw [← e8] at e9
      rw [e9]
      exact ⟨⟨_, rfl⟩, _, rfl⟩
    case store =>
      intro D4 h5 tk5 ys4 hl4 hys4 F5 N5 lt4
      rw [show ws.toArray.size = 6 from hI.length.trans h6] at hl4
      have hDr := ints_of_pz hl4 hys4
      iterate 11 (first | (k_unfold; (try dsimp only)) | walk1 | (dsimp only; walk1) | (leave1; try dsimp only))
      rename (News _ _ _ _) => N6
      rename (Fr _ _ _ _) => F6
      refine' ListComp_J (by assumption) ?hclos ?hcl ?hkind ?hnames ?hx ?h
      case hclos => exact rfl
      case hcl => decide
      case hkind => exact rfl
      case hnames => decide
      case hx => exact rfl
      case h =>
      iterate 1 (first | (k_unfold; (try dsimp only)) | walk1 | (dsimp only; walk1) | (leave1; try dsimp only))
      refine .inl ⟨D4, ys4.toArray, _, _, rfl, F6, N6, (.tail _ (.head _)), by rw [List.size_toArray, hl4, sizeLine_eq]; decide, AJ s.gens _ ((List.range 6).map (drOf cs)) (fun d => d % 3), ⟨rfl, rfl, .nil⟩, ?turn, ?fin⟩
      case turn =>
        intro i v I oI C oC D9 m₂ h8 tk8 g8 d8 ys nw E' hi hv hJ hS hNs hmx F8 N8 off8 ne8 it8
        obtain ⟨rfl, rfl, hys⟩ := hJ
        obtain ⟨n9, t9, rfl, hn9⟩ := hDr.at i v (by simpa using hv)
        rw [List.getElem?_map] at hn9
        obtain ⟨d9, hd9, rfl⟩ := Option.map_eq_some_iff.mp hn9
        dsimp only [stG]
        iterate 4 (first | (k_unfold; (try dsimp only)) | walk1 | (dsimp only; walk1) | (leave1; try dsimp only))
        refine ⟨_, _, _, _, _, F8, N8, off8, hS, rfl, rfl, ?_⟩
        rw [take_one hd9, List.map_append, List.map_append]
        exact hys.append (by rw [mod3]; exact .cons _ _ .nil)
      case fin =>
        intro ys nw g hJ D9 h9 tk9 d9 hbD9 F9 N9 off9
        obtain ⟨rfl, rfl, hys⟩ := hJ
        dsimp only [stG]
        rw [show ys4.toArray.size = 6 from hl4] at hys
        iterate 6 (first | (k_unfold; (try dsimp only)) | walk1 | (dsimp only; walk1) | (leave1; try dsimp only))
        rename_i KDa kvs hK1 FK1 NK1 lK hKn hK2 F7 N7
        refine' ListComp_J (by assumption) ?hclos ?hcl ?hkind ?hnames ?hx ?h
        case hclos => exact rfl
        case hcl => decide
        case hkind => exact rfl
        case hnames => decide
        case hx => exact rfl
        case h =>
        iterate 1 (first | (k_unfold; (try dsimp only)) | walk1 | (dsimp only; walk1) | (leave1; try dsimp only))
        refine .inl ⟨D4, ys4.toArray, _, _, rfl, F7, N7, (.tail _ (.tail _ (.tail _ (.head _)))), by rw [List.size_toArray, hl4, sizeLine_eq]; decide, AJ s.gens _ ((List.range 6).map (drOf cs)) (fun d => d / 3 % 3), ⟨rfl, rfl, .nil⟩, ?turn, ?fin⟩
        case turn =>
          intro i v I oI C oC D9 m₂ h8 tk8 g8 d8 ys nw E' hi hv hJ hS hNs hmx F8 N8 off8 ne8 it8
          obtain ⟨rfl, rfl, hys⟩ := hJ
          obtain ⟨n9, t9, rfl, hn9⟩ := hDr.at i v (by simpa using hv)
          rw [List.getElem?_map] at hn9
          obtain ⟨d9, hd9, rfl⟩ := Option.map_eq_some_iff.mp hn9
          dsimp only [stG]
          iterate 7 (first | (k_unfold; (try dsimp only)) | walk1 | (dsimp only; walk1) | (leave1; try dsimp only))
          refine ⟨_, _, _, _, _, F8, N8, off8, hS, rfl, rfl, ?_⟩
          rw [take_one hd9, List.map_append, List.map_append]
          exact hys.append (by rw [div3, mod3]; exact .cons _ _ .nil)
        case fin =>
          intro ys nw g hJ D9 h9 tk9 d9 hbD9 F9 N9 off9
          obtain ⟨rfl, rfl, hys⟩ := hJ
          dsimp only [stG]
          rw [show ys4.toArray.size = 6 from hl4] at hys
          iterate 10 (first | (k_unfold; (try dsimp only)) | walk1 | (dsimp only; walk1) | (leave1; try dsimp only))
          rename_i ORa ovs hO2 FO NO lO2 hIO
          have c1 : @LT.lt Nat _ (L + 1 + 1) D2 := lt2 _ (.tail _ (.head _))
          have c2 : @LT.lt Nat _ (L + 1 + 1) KDa := lt_in lK (by repeat (first | with_reducible exact InA.head | with_reducible refine InA.tail ?_ | (show InA _ (_ :: _ :: _ :: _))))
          have c3 : @LT.lt Nat _ (L + 1 + 1) ORa := lt_in lO2 (by repeat (first | with_reducible exact InA.head | with_reducible refine InA.tail ?_ | (show InA _ (_ :: _ :: _ :: _))))
          have NO2 : News h₀ L hO2 ([(ORa, listOf ovs.toArray 0), (KDa, listOf kvs.toArray 0), (D2, LCg.lst ysA)] ++ (L + 1 + 1, oc) :: [(L + 1, oa'), (130, tabObj #[])]) := by
            show News _ _ _ (_ :: _ :: _ :: _ :: _ :: _ :: [])
            iterate 6 (refine news_c NO ?_ ?_; (repeat (first | exact List.Mem.head _ | refine List.Mem.tail _ ?_)))
            exact nil_all
          refine storeN_cell FO NO2 rfl rfl rfl hoc ?p1 ?p2 ?sg
          case p1 => exact all_cons (Nat.ne_of_gt c3) (all_cons (Nat.ne_of_gt c2) (all_cons (Nat.ne_of_gt c1) nil_all))
          case p2 => exact all_cons (Nat.ne_of_lt (Nat.lt_succ_self _)) (all_cons (Nat.ne_of_lt (Nat.lt_succ_of_lt (Nat.lt_succ_of_lt l130))) nil_all)
          case sg =>
          intro h12 oc' hoc' F12 N12
          iterate 1 (first | (k_unfold; (try dsimp only)) | walk1 | (dsimp only; walk1) | (leave1; try dsimp only))
          have hKc := ints_cast (b := (((cs.sum.fmod 3).toNat :: (((List.range 6).map (drOf cs)).map fun d => d % 3)).map fun k : Nat => (k : Int))) hKn (by rw [take_six, List.map_cons, ← (fmod3_cast cs.sum).1]; rfl)
          have hOc := ints_cast (b := (((((List.range 6).map (drOf cs)).map fun d => d / 3 % 3) ++ [0, 1, 2]).map fun k : Nat => (k : Int))) hIO (by rw [take_six, List.map_append]; rfl)
          refine' lawB w h₀ L fa cd _ mg mb mean _ Q E [(ORa, listOf ovs.toArray 0), (KDa, listOf kvs.toArray 0), (D2, LCg.lst ysA), (L + 1 + 1, oc'), (L + 1, oa')] #[] KDa ORa D2 kvs ovs ysA 0 0 ysA.length ((List.range 6).map (abOf cs)) _ _ oa' oc' cs.sum _ hE B ?lF X T hC ?lB ?lN ?lr (.inl rfl) (.tail _ (.head _)) (.head _) (.tail _ (.tail _ (.head _))) (.tail _ (.tail _ (.tail _ (.head _)))) hoc' (.tail _ (.tail _ (.tail _ (.tail _ (.head _))))) hoa' hOc ?l9 or3 hKc ?l7 kn3 hAb (ab_ok cs) ?lp ?n1 ?n2 hQ
          case lF => exact F12
          case lB => exact hb
          case lN => exact news_midL [_, _, _, _, _] (l2 := []) N12
          case lr =>
            have d0 := Nat.lt_succ_of_lt (Nat.lt_succ_of_lt l130)
            exact all_cons (Nat.ne_of_gt (Nat.lt_trans d0 c3)) (all_cons (Nat.ne_of_gt (Nat.lt_trans d0 c2)) (all_cons (Nat.ne_of_gt (Nat.lt_trans d0 c1)) (all_cons (Nat.ne_of_gt d0) (all_cons (Nat.ne_of_gt (Nat.lt_succ_of_lt l130)) nil_all))))
          case l9 => rw [List.length_append, List.length_map, List.length_map, List.length_range]; rfl
          case l7 => rw [List.length_cons, List.length_map, List.length_map, List.length_range]
          case lp => exact hpl _ _ _ (ab_ok cs) (by rw [List.length_cons, List.length_map, List.length_map, List.length_range]) kn3 (by rw [List.length_append, List.length_map, List.length_map, List.length_range]; rfl) or3
          case n1 => (repeat (first | exact if_pos rfl | refine Eq.trans (if_neg (by decide +kernel)) ?_))
          all_goals (repeat (first | with_reducible assumption | exact if_pos rfl | refine Eq.trans (if_neg (by decide +kernel)) ?_))
end
end
theorem topOff25 : True := by
  w_top off
  trivial
section
open PySem PySem.W PyProof.Rows
theorem cells_ok (w : List Int) : ((List.map (fun k' : Int => k'.fmod (10 ^ Int.toNat 6)) (List.take 6 w) ++ [1, 13, 15, 2, 23, 13]).take 6).length = 6 ∧ ∀ c ∈ (List.map (fun k' : Int => k'.fmod (10 ^ Int.toNat 6)) (List.take 6 w) ++ [1, 13, 15, 2, 23, 13]).take 6, 0 ≤ c := by
  refine ⟨?_, fun c hc => ?_⟩
  · rw [List.length_take, List.length_append]; simp only [List.length_cons, List.length_nil]; lia
  · have h := List.mem_of_mem_take hc
    rcases List.mem_append.mp h with h | h
    · obtain ⟨x, _, rfl⟩ := List.mem_map.mp h
      exact Int.fmod_nonneg_of_pos x (by decide)
    · simp only [List.mem_cons, List.not_mem_nil, or_false] at h
      lia
def EndB (tabs : List (Addr × Addr)) (s₁ : Shared) (r : Result) (s' : Shared) : Prop :=
  (r = .ok (.ret (.bool true)) ∧ (∀ b o, (ghostOf s₁.heap tabs).get? b = some o → s'.heap.get? b = some o) ∧ s'.os = s₁.os ∧ AllBare s'.gens) ∧ GrownAll tabs s'.heap
theorem post_true {M : Model} {A : Around} {cd : Code} {s s₁ : Shared} {cw : ClaimW} {cl : Str → Option Addr} {mean : ExcName → Option Value} {args : List WData} {tabs : List (Addr × Addr)} (hT : TabsAt tabs s₁.heap) (hr : ∀ a x, cw.raises a x = false) (hp : cw.post args (.bool true) args = true)
    (h : codeAny M A cd (EndB tabs s₁) s) : codeAny M A cd (GoodWG cw cl mean args s₁) s :=
  codeAny_mono h fun r s' ⟨⟨hres, hk, hos, hg⟩, hgr⟩ => by
    have keep : ∀ b o, b ∉ tabs.map (·.2) → s₁.heap.get? b = some o → s'.heap.get? b = some o := fun b o hb e => hk b o (ghost_ne e hb)
    have grown : ∀ b o, b ∈ tabs.map (·.2) → s₁.heap.get? b = some o → isCodeTable s₁.heap b ∧ o = tabObj #[] ∧ ∃ ps, s'.heap.get? b = some (tabObj ps) := fun b o hb e => by
      obtain ⟨q, hq, rfl⟩ := List.mem_map.mp hb
      have e2 := (hT q hq).2
      rw [e] at e2
      exact ⟨((hT q hq).1.tab (hT q hq).2).isCodeTable, Option.some.inj e2, hgr.get q hq⟩
    refine ⟨.inl ⟨_, _, [], hres, hr args, ReadsW.bool true, hp, fun _ => ⟨List.nodup_nil, fun a ha => absurd ha List.not_mem_nil⟩⟩, ⟨fun b o e => ?_, fun b o e => ?_⟩, hos, hg⟩
    · by_cases hb : b ∈ tabs.map (·.2)
      · obtain ⟨ht, rfl, ps, hP⟩ := grown b o hb e
        exact .inr (.inl ⟨ht, rfl, #[], ps, rfl, by rw [Array.empty_append]; exact hP⟩)
      · exact .inl (keep b o hb e)
    · by_cases hb : b ∈ tabs.map (·.2)
      · obtain ⟨_, _, ps, hP⟩ := grown b o hb e
        exact ⟨_, hP⟩
      · exact ⟨o, keep b o hb e⟩
section
variable {prog : Program} {w : World} {A : Around} {E : Value → Shared → Prop} {s : Shared} {h₀ : Heap} {L : Addr} {m : Str → Option Value} {news : List (Addr × Obj)}
theorem slice_listT {value slice : PySem.Expr} {l : Addr} {items : Array Value} {vl vu : Value} {lo hi : Option Int} {Q : Value → Shared → Prop}
    (F : Fr h₀ L s.heap m) (N : News h₀ L s.heap news) (hl : s.heap.IsList l items) (pl : IsPart vl lo) (pu : IsPart vu hi)
    (h : ∀ D h', Fr h₀ L h' m → News h₀ L h' ((D, listOf (slicePick items lo hi none) 0) :: news) → (∀ p ∈ news, p.1 < D) → Q (.ref D) { s with heap := h' })
    (hs : subscripted slice false (.ref l) (.ref s.heap.objs.size) = operate [.ref s.heap.objs.size, .ref l] (getItem (.ref l) (.ref s.heap.objs.size)))
    (hsz : items.size ≤ sizeLine) :
    wpAny (model prog w) A (subscriptTail value slice (.ref l) (.ref s.heap.objs.size)) Q E { s with heap := s.heap.push { cls := .type "slice", data := .fields #[vl, vu, .none] } } := by
  refine tail_any (Heap.IsList.typeIs (s := { s with heap := s.heap.push { cls := .type "slice", data := .fields #[vl, vu, .none] } }) (hl.push _)) list_getitem_lookup
    (wpAny_getItem_list_slice (hl.push _) (Heap.IsSliceOf.new ..) pl pu .none (by simp) ?_ hsz) hs
  have N1 := News.push (F.push { cls := .type "slice", data := .fields #[vl, vu, .none] }) (N.grown fun _ _ e => Heap.get?_push_of_some _ e) { cls := .type "list", data := .seq (slicePick items lo hi none) }
  rw [Heap.size_push] at N1
  show Q (.ref (s.heap.push _).objs.size) _
  rw [Heap.size_push]
  exact h _ _ ((F.push _).push _) N1 fun p hp => Nat.lt_succ_of_lt (Heap.lt_size (N p hp).1)
end
local macro_rules | `(tactic| k_go0) => `(tactic| (
  k_fill
  intro w s₀ s₁ mg mb G Y fa o pm cd doc dV kV ho hd hcd hD hmg hg args vals as hpre hlay hrd hwl hlo
  have KX := km_in_of Y
  km_tabs Y
  have X := (Ground.X G).1
  have V := (Ground.X G).2
  refine Ground.open G ?_
  intro T B D TE TW
  try (refine guard_noD D (by decide +kernel) ?_; clear D)
  km_lay T hmg ho hd cd
  clear hmg
  wrow_args hpre hlay hrd hwl hlo
  first | refine callC_kw (enter_call ?_) | refine enter_call ?_
  w_top on
  (refine post_true (by assumption) (fun _ _ => rfl) (by kc_post) ?_)
  w_call any ho hd hcd hD T F
  clear hd
  kn_ghosts F T
  k_drop
  skip))
set_option maxHeartbeats 20000000 in
theorem law_of_plain (hpl : PlainLaw) : PySem.Challenge.rw_pg0301_03.Holds := hd3 (by
  k_go0
  all_goals (try k_fold)
  iterate 44 (first | (k_unfold; (try dsimp only)) | walk1 | (dsimp only; walk1) | (leave1; try dsimp only))
  rename (News _ _ _ _) => N1
  rename (Fr _ _ _ _) => F1
  rename (IntsAre _ (_ ++ [1, 13, 15, 2, 23, 13])) => hI1
  refine' slice_listT (hi := some 6) F1 N1 ?ql9 ?qp9 ?qq9 ?qg9 ?qs9 ?qz9
  case ql9 => exact News.isList N1 (.head _)
  case qp9 => exact IsPart.none
  case qq9 => exact IsPart.int _ _
  case qs9 => with_unfolding_all rfl
  case qz9 =>
    rw [List.size_toArray, hI1.length, List.length_append, List.length_map, List.length_take, sizeLine_eq]
    simp only [List.length_cons, List.length_nil]; lia
  case qg9 =>
  intro D2 h2 F2 N2 l2
  have hI2 := kmk_upto (y := 6) hI1 (by decide)
  rw [← Array.toArray_toList (xs := slicePick _ _ _ _)] at N2
  iterate 2 (first | (k_unfold; (try dsimp only)) | walk1 | (dsimp only; walk1) | (leave1; try dsimp only))
  rename (News _ _ _ _) => N3
  rename (Fr _ _ _ _) => F3
  rename (_ = Data.cell _) => hcA
  revert hcA
  rename (_ = Data.cell _) => hcB
  intro hcA
  refine' lawA _ _ _ _ _ _ _ _ _ _ _ _ D2 0 _ _ _ _ ?hE9 ?hB9 F3 ?hX9 ?hT9 ?hC9 ?hb9 ?hN9 hpl hI2 (cells_ok _).1 (cells_ok _).2 ?lD9 ?l130 hcA hcB ?mc9 ?hQ9
  case hE9 => passes_own
  case hB9 => k_asm
  case hX9 => k_in
  case hT9 => k_asm
  case hC9 => k_asm
  case hb9 => exact AllBare.of_eq (by assumption)
  case hN9 =>
    intro p hp
    refine N3 p ?_
    simp only [List.mem_cons, List.not_mem_nil, or_false] at hp ⊢
    rcases hp with h | h | h | h <;> simp [h]
  case lD9 => exact l2 _ (.tail _ (.tail _ (.tail _ (.tail _ (.head _)))))
  case l130 => show @LT.lt Nat _ _ _; lia
  case mc9 => exact if_pos rfl
  case hQ9 =>
  intro m9 news9 h9 tk9 gens9 d9 F9 N9 B9 T9
  obtain ⟨tb9, hm9⟩ := T9
  exact ⟨⟨rfl, fun b o e => F9.keep b o e, rfl, B9⟩, ⟨tb9, (N9 _ hm9).1⟩, trivial⟩)
end
section
open PySem
def stripL (y : List Nat) : Nat → List Nat → List Nat
  | _, [] => []
  | 0, c :: r => if y.isPrefixOf (c :: r) then stripL y (y.length - 1) r else c :: stripL y 0 r
  | s + 1, _ :: r => stripL y s r
def occR (x y : List Nat) : Nat → Nat → Nat → List Nat
  | 0, _, _ => []
  | n + 1, i, free => if free ≤ i ∧ y.isPrefixOf (x.drop i) then i :: occR x y n (i + 1) (i + y.length) else occR x y n (i + 1) free
def between (x : List Nat) (w : Nat) : Nat → List Nat → List Nat
  | a, [] => x.drop a
  | a, c :: cs => (x.take c).drop a ++ between x w (c + w) cs
theorem between_strip (x y : List Nat) (hy : y ≠ []) : ∀ (n i a : Nat), n + i = x.length + 1 → a ≤ x.length → between x y.length a (occR x y n i a) = (x.take i).drop a ++ stripL y (a - i) (x.drop i)
  | 0, i, a, hn, ha => by
    rw [occR, between, List.take_of_length_le (by lia), List.drop_of_length_le (i := i) (by lia), stripL, List.append_nil]
  | n + 1, i, a, hn, ha => by
    have hw : 0 < y.length := List.length_pos_iff.mpr hy
    by_cases hi : i < x.length
    · have hd : x.drop i = x[i] :: x.drop (i + 1) := List.drop_eq_getElem_cons hi
      rw [occR]
      by_cases hm : a ≤ i ∧ y.isPrefixOf (x.drop i) = true
      · rw [if_pos hm, between]
        have hl : i + y.length ≤ x.length := by
          have h := (List.isPrefixOf_iff_prefix.mp hm.2).length_le
          rw [List.length_drop] at h; lia
        rw [between_strip x y hy n (i + 1) (i + y.length) (by lia) hl]
        have e1 : a - i = 0 := by lia
        have e2 : (x.take (i + 1)).drop (i + y.length) = [] := List.drop_of_length_le (by rw [List.length_take]; lia)
        have e3 : i + y.length - (i + 1) = y.length - 1 := by lia
        rw [e1, e2, e3, List.nil_append, hd, stripL, ← hd, if_pos hm.2]
      · rw [if_neg hm, between_strip x y hy n (i + 1) a (by lia) ha]
        by_cases hai : a ≤ i
        · have hnp : ¬ y.isPrefixOf (x.drop i) = true := fun h => hm ⟨hai, h⟩
          have e1 : a - i = 0 := by lia
          have e2 : a - (i + 1) = 0 := by lia
          have e4 : (x.take (i + 1)).drop a = (x.take i).drop a ++ [x[i]] := by
            rw [List.take_succ_eq_append_getElem hi, List.drop_append_of_le_length (by rw [List.length_take]; lia)]
          rw [e1, e2, e4, hd, stripL, ← hd, if_neg hnp, List.append_assoc]; rfl
        · have e2 : (x.take (i + 1)).drop a = [] := List.drop_of_length_le (by rw [List.length_take]; lia)
          have e3 : (x.take i).drop a = [] := List.drop_of_length_le (by rw [List.length_take]; lia)
          obtain ⟨b, hb⟩ : ∃ b, a - i = b + 1 := ⟨a - i - 1, by lia⟩
          have e5 : a - (i + 1) = b := by lia
          rw [e2, e3, hb, e5, hd, stripL]
    · have hn0 : n = 0 := by lia
      subst hn0
      have hnp : ¬ (a ≤ i ∧ y.isPrefixOf (x.drop i) = true) := by
        rw [List.drop_of_length_le (by lia)]
        rintro ⟨_, h⟩
        cases y with
        | nil => exact hy rfl
        | cons c r => cases h
      rw [occR, if_neg hnp, occR, between, List.take_of_length_le (by lia), List.drop_of_length_le (i := i) (by lia), stripL, List.append_nil]
theorem pre_iff {s y : Str} (hy : y.cps.toList ≠ []) (i : Nat) : (i + y.length ≤ s.length ∧ Builtin.Str.subAt s y i = true) ↔ y.cps.toList.isPrefixOf (s.cps.toList.drop i) = true := by
  have hyl : y.length = y.cps.toList.length := by show y.cps.size = _; simp
  have hsl : s.length = s.cps.toList.length := by show s.cps.size = _; simp
  have hw : 0 < y.cps.toList.length := List.length_pos_iff.mpr hy
  rw [List.isPrefixOf_iff_prefix, List.prefix_iff_eq_take]
  unfold Builtin.Str.subAt
  rw [beq_iff_eq]
  have e : s.cps.extract i (i + y.length) = y.cps ↔ y.cps.toList = (s.cps.toList.drop i).take y.cps.toList.length := by
    constructor
    · intro h
      have h2 := congrArg Array.toList h
      rw [Array.toList_extract] at h2
      rw [← h2]
      simp [List.extract, hyl]
    · intro h
      apply Array.ext'
      rw [Array.toList_extract, h]
      simp [List.extract, hyl]
  rw [e]
  constructor
  · exact fun h => h.2
  · intro h
    refine ⟨?_, h⟩
    have h2 := congrArg List.length h
    rw [List.length_take, List.length_drop] at h2
    lia
theorem occ_R {s y : Str} (hy : y.cps.toList ≠ []) (limit : Nat) : ∀ (n i : Nat) (found : Array Nat) (free : Nat), found.size + n ≤ limit →
    (forIn (List.range' i n) (found, free) (StrLaws.occBody s y s.length limit)).run.fst.toList = found.toList ++ occR s.cps.toList y.cps.toList n i free
  | 0, i, found, free, h => by simp [occR]
  | n + 1, i, found, free, h => by
    have hyl : y.length = y.cps.toList.length := by show y.cps.size = _; simp
    rw [List.range'_succ, List.forIn_cons, occR]
    unfold StrLaws.occBody
    by_cases hm : free ≤ i ∧ y.cps.toList.isPrefixOf (s.cps.toList.drop i) = true
    · have h2 := (pre_iff hy i).mpr hm.2
      rw [if_pos hm, if_pos ⟨⟨⟨by show found.size < limit; lia, hm.1⟩, h2.1⟩, h2.2⟩]
      have ih := occ_R (s := s) hy limit n (i + 1) (found.push i) (i + y.length) (by rw [Array.size_push]; lia)
      refine Eq.trans ih ?_
      rw [Array.toList_push, hyl, List.append_assoc]; rfl
    · have h2 : ¬ (((found.size < limit ∧ free ≤ i) ∧ i + y.length ≤ s.length) ∧ Builtin.Str.subAt s y i = true) := fun q => hm ⟨q.1.1.2, (pre_iff hy i).mp ⟨q.1.2, q.2⟩⟩
      rw [if_neg hm, if_neg h2]
      exact occ_R (s := s) hy limit n (i + 1) found free (by lia)
theorem cat_list (l : List Str) : (catS l).cps.toList = (l.map fun x => x.cps.toList).flatten := by
  induction l with
  | nil => rw [catS]; simp [cps_nil]
  | cons x r ih => rw [catS, cps_app, Array.toList_append, ih]; rfl
theorem parts_between (s : Str) (w : Nat) : ∀ (cuts : List Nat) (a : Nat), (catS (((a :: cuts.map (· + w)).zip (cuts ++ [s.length])).map fun p => Builtin.Str.strSub s p.1 p.2)).cps.toList = between s.cps.toList w a cuts
  | [], a => by
    have hsl : s.length = s.cps.toList.length := by show s.cps.size = _; simp
    rw [cat_list]
    simp [between, Builtin.Str.strSub, List.extract, hsl]
    exact List.take_of_length_le (by rw [List.length_drop]; simp)
  | c :: cs, a => by
    have ih := parts_between s w cs (c + w)
    rw [cat_list] at ih ⊢
    simp only [List.map_cons, List.cons_append, List.zip_cons_cons, List.flatten_cons] at ih ⊢
    rw [between, ← ih]
    congr 1
    simp only [Builtin.Str.strSub, Array.toList_extract, List.extract]
    rw [List.drop_take]
theorem strip_split {x y : Str} (hy : y.cps.toList ≠ []) (hk : Builtin.Str.strKind y = 1) : (stripS x y).cps.toList = stripL y.cps.toList 0 x.cps.toList := by
  have hyl : y.length = y.cps.toList.length := by show y.cps.size = _; simp
  have hxl : x.length = x.cps.toList.length := by show x.cps.size = _; simp
  have hocc : Builtin.Str.occurrences x y 0 x.length (x.length + 1) = occR x.cps.toList y.cps.toList (x.length + 1) 0 0 := by
    rw [StrLaws.occ_eq]
    have h := occ_R (s := x) hy (x.length + 1) (x.length + 1) 0 #[] 0 (by simp)
    simpa using h
  have hb := between_strip x.cps.toList y.cps.toList hy (x.length + 1) 0 0 (by lia) (Nat.zero_le _)
  rw [List.take_zero, List.drop_nil, List.nil_append, Nat.sub_self, List.drop_zero] at hb
  rw [← hb, ← hocc]
  unfold stripS Txt.split
  have one : (catS [x]).cps.toList = x.cps.toList := by rw [cat_list]; simp
  split
  · rename_i h
    have hlt : x.length < y.length := by
      rcases Bool.or_eq_true_iff.mp h with h | h
      · exact of_decide_eq_true h
      · have := of_decide_eq_true h
        rw [hk] at this
        unfold Builtin.Str.strKind at this
        split at this
        · lia
        · split at this <;> lia
    have hno : Builtin.Str.occurrences x y 0 x.length (x.length + 1) = [] := by
      rw [hocc]
      have : ∀ n i f, occR x.cps.toList y.cps.toList n i f = [] := by
        intro n
        induction n with
        | zero => intro i f; rfl
        | succ n ih =>
          intro i f
          rw [occR, if_neg, ih]
          rintro ⟨_, hp⟩
          have := (List.isPrefixOf_iff_prefix.mp hp).length_le
          rw [List.length_drop] at this
          lia
      exact this _ _ _
    rw [hno, between, List.drop_zero, one]
  · split
    · rename_i h2
      have hno : Builtin.Str.occurrences x y 0 x.length (x.length + 1) = [] := List.isEmpty_iff.mp h2
      rw [hno, between, List.drop_zero, one]
    · have h3 := parts_between x y.length (Builtin.Str.occurrences x y 0 x.length (x.length + 1)) 0
      rw [← hyl]
      exact h3
end
section
open PySem
inductive Tk where
  | b0 | b1 | b2 | ea | eb
  deriving DecidableEq
def strK : Tk → List Nat
  | .b0 => [60, 97, 62]
  | .b1 => [60, 97, 32, 107, 61, 34, 38, 108, 116, 59, 97, 62, 38, 108, 116, 59, 47, 97, 62, 34, 62]
  | .b2 => [60, 98, 62, 38, 108, 116, 59, 97, 38, 103, 116, 59, 38, 108, 116, 59, 47, 97, 38, 103, 116, 59]
  | .ea => [60, 47, 97, 62]
  | .eb => [60, 47, 98, 62]
def bT : Nat → Tk
  | 0 => .b0
  | 1 => .b1
  | _ => .b2
def eT : Nat → Tk
  | 0 => .ea
  | 1 => .ea
  | _ => .eb
theorem beg_str : ∀ k : Nat, (begT k).cps.toList = strK (bT k)
  | 0 => by decide +kernel
  | 1 => by decide +kernel
  | k + 2 => by show (begT 2).cps.toList = strK .b2; decide +kernel
theorem end_str : ∀ k : Nat, (endT k).cps.toList = strK (eT k)
  | 0 => by decide +kernel
  | 1 => by decide +kernel
  | k + 2 => by show (endT 2).cps.toList = strK .eb; decide +kernel
def flatK (l : List Tk) : List Nat := (l.map strK).flatten
def patK (k : Nat) : List Nat := strK (bT k) ++ strK (eT k)
def stripK (k : Nat) : List Tk → List Tk
  | [] => []
  | [x] => [x]
  | x :: y :: r => if x = bT k ∧ y = eT k then stripK k r else x :: stripK k (y :: r)
theorem stripL_skip (y : List Nat) : ∀ (u v : List Nat), stripL y u.length (u ++ v) = stripL y 0 v
  | [], v => rfl
  | c :: u, v => by rw [List.length_cons, List.cons_append, stripL, stripL_skip y u v]
theorem stripL_emit (p : List Nat) : ∀ (u v : List Nat), (∀ c ∈ u, c ≠ 60) → stripL (60 :: p) 0 (u ++ v) = u ++ stripL (60 :: p) 0 v
  | [], v, _ => rfl
  | c :: u, v, h => by
    have hc := h c (.head _)
    rw [List.cons_append, stripL, if_neg (by simp [List.isPrefixOf, Ne.symm hc]), stripL_emit p u v fun d hd => h d (.tail _ hd), List.cons_append]
theorem strK_body : ∀ x : Tk, ∃ u, strK x = 60 :: u ∧ ∀ c ∈ u, c ≠ 60
  | .b0 => ⟨_, rfl, by decide⟩
  | .b1 => ⟨_, rfl, by decide⟩
  | .b2 => ⟨_, rfl, by decide⟩
  | .ea => ⟨_, rfl, by decide⟩
  | .eb => ⟨_, rfl, by decide⟩
theorem patK_head (k : Nat) : ∃ p, patK k = 60 :: p := by
  obtain ⟨u, h, _⟩ := strK_body (bT k)
  exact ⟨u ++ strK (eT k), by rw [patK, h]; rfl⟩
theorem pre_app (a b c : List Nat) : (a ++ b).isPrefixOf (a ++ c) = b.isPrefixOf c := by
  induction a with
  | nil => rfl
  | cons x r ih => simp [List.isPrefixOf, ih]
theorem bT_cases (k : Nat) : (bT k = .b0 ∧ eT k = .ea) ∨ (bT k = .b1 ∧ eT k = .ea) ∨ (bT k = .b2 ∧ eT k = .eb) := by
  match k with
  | 0 => exact .inl ⟨rfl, rfl⟩
  | 1 => exact .inr (.inl ⟨rfl, rfl⟩)
  | k + 2 => exact .inr (.inr ⟨rfl, rfl⟩)
theorem pat_one (k : Nat) (x : Tk) (v : List Nat) (h : x ≠ bT k) : (patK k).isPrefixOf (strK x ++ v) = false := by
  unfold patK
  rcases bT_cases k with ⟨h1, h2⟩ | ⟨h1, h2⟩ | ⟨h1, h2⟩ <;> rw [h1] at h ⊢ <;> rw [h2] <;> cases x <;> first | exact absurd rfl h | rfl
theorem pat_two (k : Nat) (x : Tk) (v : List Nat) (h : x ≠ eT k) : (strK (eT k)).isPrefixOf (strK x ++ v) = false := by
  rcases bT_cases k with ⟨h1, h2⟩ | ⟨h1, h2⟩ | ⟨h1, h2⟩ <;> rw [h2] at h ⊢ <;> cases x <;> first | exact absurd rfl h | rfl
theorem flat_cons (x : Tk) (r : List Tk) : flatK (x :: r) = strK x ++ flatK r := rfl
theorem strip_tok (k : Nat) : ∀ ts : List Tk, stripL (patK k) 0 (flatK ts) = flatK (stripK k ts)
  | [] => by rw [stripK]; rfl
  | [x] => by
    obtain ⟨p, hp⟩ := patK_head k
    obtain ⟨u, hu, hb⟩ := strK_body x
    have hn : (patK k).isPrefixOf (strK x ++ []) = false := by
      by_cases hx : x = bT k
      · rw [hx, patK, pre_app]
        rcases bT_cases k with ⟨_, h2⟩ | ⟨_, h2⟩ | ⟨_, h2⟩ <;> rw [h2] <;> rfl
      · exact pat_one k x [] hx
    rw [stripK, flat_cons]
    show stripL (patK k) 0 (strK x ++ []) = strK x ++ []
    rw [hp] at hn ⊢
    rw [hu] at hn ⊢
    rw [List.cons_append, stripL, ← List.cons_append, hn, if_neg Bool.false_ne_true, stripL_emit p u [] hb, stripL]; rfl
  | x :: y :: r => by
    obtain ⟨p, hp⟩ := patK_head k
    obtain ⟨u, hu, hb⟩ := strK_body x
    rw [stripK, flat_cons]
    by_cases hm : x = bT k ∧ y = eT k
    · rw [if_pos hm, flat_cons, hm.1, hm.2, ← List.append_assoc]
      show stripL (patK k) 0 (patK k ++ flatK r) = _
      have hpr : (patK k).isPrefixOf (patK k ++ flatK r) = true := List.isPrefixOf_iff_prefix.mpr (List.prefix_append _ _)
      rw [← strip_tok k r]
      rw [hp] at hpr ⊢
      rw [List.cons_append, stripL, ← List.cons_append, hpr, if_pos rfl]
      exact stripL_skip _ p (flatK r)
    · have hn : (patK k).isPrefixOf (strK x ++ flatK (y :: r)) = false := by
        by_cases hx : x = bT k
        · rw [hx, patK, pre_app, flat_cons]
          exact pat_two k y _ fun e => hm ⟨hx, e⟩
        · exact pat_one k x _ hx
      rw [if_neg hm]
      show stripL (patK k) 0 (strK x ++ flatK (y :: r)) = strK x ++ flatK (stripK k (y :: r))
      rw [← strip_tok k (y :: r)]
      rw [hp] at hn ⊢
      rw [hu] at hn ⊢
      rw [List.cons_append, stripL, ← List.cons_append, hn, if_neg Bool.false_ne_true, stripL_emit p u _ hb]; rfl
end
section
open PySem
mutual
def toks (tms : List Int) (j : Int) : Tr → List Tk
  | .node p k ts => if tms.getD p 0 ≤ j then [] else bT k :: (toksL tms j ts ++ [eT k])
def toksL (tms : List Int) (j : Int) : List Tr → List Tk
  | [] => []
  | t :: r => toks tms j t ++ toksL tms j r
end
theorem flat_app (a b : List Tk) : flatK (a ++ b) = flatK a ++ flatK b := by unfold flatK; rw [List.map_append, List.flatten_append]
theorem list_app (x y : Str) : (x ++ y).cps.toList = x.cps.toList ++ y.cps.toList := by rw [cps_app, Array.toList_append]
mutual
theorem rest_toks (tms : List Int) (j : Int) : ∀ t : Tr, (restT tms j t).cps.toList = flatK (toks tms j t)
  | .node p k ts => by
    rw [restT, toks]
    split
    · rw [cps_nil]; rfl
    · rw [list_app, list_app, restL_toks tms j ts, beg_str, end_str, flat_cons, flat_app, List.append_assoc]
      congr 2
      show _ = strK (eT k) ++ []
      rw [List.append_nil]
theorem restL_toks (tms : List Int) (j : Int) : ∀ ts : List Tr, (restL tms j ts).cps.toList = flatK (toksL tms j ts)
  | [] => by rw [restL, toksL, cps_nil]; rfl
  | t :: r => by rw [restL, toksL, list_app, rest_toks tms j t, restL_toks tms j r, flat_app]
end
mutual
def StepOk (tms : List Int) (j : Int) (kk : Nat) : Tr → Prop
  | .node p k ts => k < 3 ∧ StepOkL tms j kk ts ∧ (toksL tms j ts ≠ [] → j + 1 < tms.getD p 0) ∧ (toksL tms j ts = [] → j < tms.getD p 0 → (tms.getD p 0 ≤ j + 1 ↔ k = kk))
def StepOkL (tms : List Int) (j : Int) (kk : Nat) : List Tr → Prop
  | [] => True
  | t :: r => StepOk tms j kk t ∧ StepOkL tms j kk r
end
theorem e_ne_b (k kk : Nat) : eT k ≠ bT kk := by
  rcases bT_cases k with ⟨_, h2⟩ | ⟨_, h2⟩ | ⟨_, h2⟩ <;> rcases bT_cases kk with ⟨h1, _⟩ | ⟨h1, _⟩ | ⟨h1, _⟩ <;> rw [h1, h2] <;> decide
theorem bT_inj {k kk : Nat} (h : k < 3) (h' : kk < 3) : bT k = bT kk ↔ k = kk := by
  constructor
  · match k, kk, h, h' with
    | 0, 0, _, _ => intro _; rfl
    | 0, 1, _, _ => intro e; exact absurd e (by decide)
    | 0, 2, _, _ => intro e; exact absurd e (by decide)
    | 1, 0, _, _ => intro e; exact absurd e (by decide)
    | 1, 1, _, _ => intro _; rfl
    | 1, 2, _, _ => intro e; exact absurd e (by decide)
    | 2, 0, _, _ => intro e; exact absurd e (by decide)
    | 2, 1, _, _ => intro e; exact absurd e (by decide)
    | 2, 2, _, _ => intro _; rfl
  · rintro rfl; rfl
theorem stripK_e (kk k : Nat) (r : List Tk) : stripK kk (eT k :: r) = eT k :: stripK kk r := by
  cases r with
  | nil => rw [stripK, stripK]
  | cons y r => rw [stripK, if_neg fun h => e_ne_b k kk h.1]
theorem stripK_bb (kk k : Nat) (x : Tk) (r : List Tk) (h : x ≠ eT kk) : stripK kk (bT k :: x :: r) = bT k :: stripK kk (x :: r) := by
  rw [stripK, if_neg fun q => h q.2]
theorem toks_head (tms : List Int) (j : Int) : ∀ t : Tr, toks tms j t = [] ∨ ∃ k r, toks tms j t = bT k :: r
  | .node p k ts => by
    rw [toks]
    split
    · exact .inl rfl
    · exact .inr ⟨k, _, rfl⟩
theorem toksL_head (tms : List Int) (j : Int) : ∀ ts : List Tr, toksL tms j ts = [] ∨ ∃ k r, toksL tms j ts = bT k :: r
  | [] => .inl rfl
  | t :: r => by
    rw [toksL]
    rcases toks_head tms j t with h | ⟨k, q, h⟩
    · rw [h]; exact toksL_head tms j r
    · exact .inr ⟨k, q ++ toksL tms j r, by rw [h]; rfl⟩
mutual
theorem strip_tree (tms : List Int) (j : Int) (kk : Nat) (hkk : kk < 3) : ∀ (t : Tr) (r : List Tk), StepOk tms j kk t → stripK kk (toks tms j t ++ r) = toks tms (j + 1) t ++ stripK kk r
  | .node p k ts, r, h => by
    rw [StepOk] at h
    obtain ⟨hk3, hL, h1, h2⟩ := h
    have ihL := strip_treeL tms j kk hkk ts
    by_cases hd : tms.getD p 0 ≤ j
    · rw [toks, if_pos hd, toks, if_pos (by lia), List.nil_append, List.nil_append]
    · rw [toks, if_neg hd]
      rcases toksL_head tms j ts with h0 | ⟨k', q, h0⟩
      · have hiff := h2 h0 (by lia)
        have hemp : toksL tms (j + 1) ts = [] := by
          have := ihL [] hL
          rw [h0, List.nil_append, stripK, List.append_nil] at this
          exact this.symm
        rw [h0, List.nil_append]
        show stripK kk (bT k :: eT k :: r) = _
        rw [stripK]
        by_cases hkk' : k = kk
        · rw [if_pos ⟨by rw [hkk'], by rw [hkk']⟩, toks, if_pos (hiff.mpr hkk'), List.nil_append]
        · rw [if_neg fun h => hkk' ((bT_inj hk3 hkk).mp h.1), toks, if_neg fun h => hkk' (hiff.mp h), hemp, stripK_e]; rfl
      · have hlt := h1 (by rw [h0]; exact List.cons_ne_nil _ _)
        have ih := ihL (eT k :: r) hL
        rw [toks, if_neg (by lia)]
        have e1 : bT k :: (toksL tms j ts ++ [eT k]) ++ r = bT k :: bT k' :: (q ++ (eT k :: r)) := by rw [h0]; simp
        have e2 : toksL tms j ts ++ (eT k :: r) = bT k' :: (q ++ (eT k :: r)) := by rw [h0]; rfl
        rw [e1, stripK_bb kk k (bT k') _ (Ne.symm (e_ne_b kk k')), ← e2, ih, stripK_e]
        simp
theorem strip_treeL (tms : List Int) (j : Int) (kk : Nat) (hkk : kk < 3) : ∀ (ts : List Tr) (r : List Tk), StepOkL tms j kk ts → stripK kk (toksL tms j ts ++ r) = toksL tms (j + 1) ts ++ stripK kk r
  | [], r, _ => by rw [toksL, toksL, List.nil_append, List.nil_append]
  | t :: ts, r, h => by
    rw [StepOkL] at h
    rw [toksL, List.append_assoc, strip_tree tms j kk hkk t _ h.1, strip_treeL tms j kk hkk ts r h.2, toksL, List.append_assoc]
end
theorem lone_pat (k : Nat) : (loneT k).cps.toList = patK k := by rw [loneT_eq, list_app, beg_str, end_str]; rfl
theorem lone_kind (k : Nat) : Builtin.Str.strKind (loneT k) = 1 := by
  match k with
  | 0 => decide +kernel
  | 1 => decide +kernel
  | k + 2 => rw [loneT_eq]; show Builtin.Str.strKind (begT 2 ++ endT 2) = 1; decide +kernel
theorem patK_ne (k : Nat) : patK k ≠ [] := by obtain ⟨p, h⟩ := patK_head k; rw [h]; exact List.cons_ne_nil _ _
theorem strip_step {tms : List Int} {j : Int} {kk : Nat} (hkk : kk < 3) {t : Tr} (h : StepOk tms j kk t) : stripS (restT tms j t) (loneT kk) = restT tms (j + 1) t := by
  refine str_ext (Array.ext' ?_)
  rw [strip_split (by rw [lone_pat]; exact patK_ne kk) (lone_kind kk), lone_pat, rest_toks, rest_toks, strip_tok]
  have := strip_tree tms j kk hkk t [] h
  rw [List.append_nil, stripK, List.append_nil] at this
  rw [this]
end
section
open PySem
def nextL (k : Int) : Nat → List Int → Nat
  | i, [] => i + 1
  | i, x :: r => if x = k then i + 1 else nextL k (i + 1) r
def nextP (o : List Int) (a : Nat) (k : Int) : Nat := if o.length < a then o.length + 1 else nextL k a (o.drop a)
def lst (o : List Int) (w : List Int) : Nat := w.foldl (nextP o) 0
theorem nextL_gt (k : Int) : ∀ (l : List Int) (i : Nat), i < nextL k i l
  | [], i => by rw [nextL]; lia
  | x :: r, i => by
    rw [nextL]
    split
    · lia
    · have := nextL_gt k r (i + 1); lia
theorem nextP_beyond (o : List Int) (k : Int) : nextP o (o.length + 1) k = o.length + 1 := by rw [nextP, if_pos (by lia)]
theorem fold_beyond (o : List Int) : ∀ w : List Int, w.foldl (nextP o) (o.length + 1) = o.length + 1
  | [] => rfl
  | k :: r => by rw [List.foldl_cons, nextP_beyond, fold_beyond o r]
theorem nextP_end (o : List Int) (k : Int) : nextP o o.length k = o.length + 1 := by rw [nextP, if_neg (by lia), List.drop_length, nextL]
theorem nextP_hit {o : List Int} {i : Nat} {k : Int} (h : o[i]? = some k) : nextP o i k = i + 1 := by
  have hi := (List.getElem?_eq_some_iff.mp h).1
  rw [nextP, if_neg (by lia), drop_of h, nextL, if_pos rfl]
theorem nextP_miss {o : List Int} {i : Nat} {k x : Int} (h : o[i]? = some x) (hx : x ≠ k) : nextP o i k = nextP o (i + 1) k := by
  have hi := (List.getElem?_eq_some_iff.mp h).1
  rw [nextP, if_neg (by lia), drop_of h, nextL, if_neg hx, nextP, if_neg (by lia)]
theorem least_lst (o : List Int) : ∀ (ks : List Int) (i f : Nat) (w : List Int), o.drop i = ks → i ≤ o.length → f < w.length → leastAux o.length i f w ks = (((w.drop f).foldl (nextP o) i : Nat) : Int)
  | [], i, f, w, hd, hi, hf => by
    have hil : i = o.length := by
      have := congrArg List.length hd
      rw [List.length_drop, List.length_nil] at this; lia
    subst hil
    rw [leastAux, List.drop_eq_getElem_cons hf, List.foldl_cons, nextP_end, fold_beyond]
    rfl
  | k :: ks, i, f, w, hd, hi, hf => by
    have hk : o[i]? = some k := by
      have := congrArg (·[0]?) hd
      simpa using this
    have hlt := (List.getElem?_eq_some_iff.mp hk).1
    have hd2 : o.drop (i + 1) = ks := by
      have h2 := drop_of hk
      rw [hd] at h2
      exact (List.cons.inj h2).2.symm
    have hwf : w.drop f = w[f] :: w.drop (f + 1) := List.drop_eq_getElem_cons hf
    rw [leastAux, List.getElem?_eq_getElem hf]
    by_cases hm : w[f] = k
    · rw [if_pos (by rw [hm])]
      have hn : nextP o i w[f] = i + 1 := by rw [hm]; exact nextP_hit hk
      by_cases hl : f + 1 = w.length
      · rw [if_pos hl, hwf, List.foldl_cons, hn, List.drop_of_length_le (by lia)]; rfl
      · rw [if_neg hl, least_lst o ks (i + 1) (f + 1) w hd2 (by lia) (by lia), hwf, List.foldl_cons, hn]
    · rw [if_neg (fun h => hm (Option.some.inj h)), least_lst o ks (i + 1) f w hd2 (by lia) hf, hwf, List.foldl_cons, List.foldl_cons, nextP_miss hk (Ne.symm hm)]
theorem least_eq {o w : List Int} (hw : 0 < w.length) : least w o = ((lst o w : Nat) : Int) := by
  unfold least lst
  rw [least_lst o o 0 0 w rfl (Nat.zero_le _) hw, List.drop_zero]
theorem lst_snoc (o w : List Int) (k : Int) : lst o (w ++ [k]) = nextP o (lst o w) k := by unfold lst; rw [List.foldl_append]; rfl
theorem nextP_far {o : List Int} {a j : Nat} {k : Int} (h : j + 1 ≤ a) (hj : j + 1 ≤ o.length) : j + 1 < nextP o a k := by
  rw [nextP]
  split
  · lia
  · have := nextL_gt k (o.drop a) a; lia
theorem nextP_le {o : List Int} {k : Int} : ∀ (n a j : Nat), j = a + n → o[j]? = some k → nextP o a k ≤ j + 1
  | 0, a, j, e, h => by
    obtain rfl : j = a := by lia
    rw [nextP_hit h]; exact Nat.le_refl _
  | n + 1, a, j, e, h => by
    have hj := (List.getElem?_eq_some_iff.mp h).1
    have ha : a < o.length := by lia
    by_cases hx : o[a] = k
    · rw [nextP_hit (by rw [List.getElem?_eq_getElem ha, hx])]; lia
    · rw [nextP_miss (List.getElem?_eq_getElem ha) hx]
      exact nextP_le n (a + 1) j (by lia) h
theorem nextP_is {o : List Int} {k : Int} {j : Nat} (hj : j < o.length) : ∀ (n a : Nat), o.length = a + n → nextP o a k = j + 1 → o[j]? = some k
  | 0, a, e, h => by
    have : a = o.length := by lia
    rw [this, nextP_end] at h; lia
  | n + 1, a, e, h => by
    have ha : a < o.length := by lia
    by_cases hx : o[a] = k
    · have h2 := nextP_hit (o := o) (i := a) (k := k) (by rw [List.getElem?_eq_getElem ha, hx])
      rw [h2] at h
      obtain rfl : a = j := by lia
      rw [List.getElem?_eq_getElem ha, hx]
    · rw [nextP_miss (List.getElem?_eq_getElem ha) hx] at h
      exact nextP_is hj n (a + 1) (by lia) h
theorem nextP_is' {o : List Int} {k : Int} {j a : Nat} (hj : j < o.length) (h : nextP o a k = j + 1) : o[j]? = some k := by
  by_cases ha : a ≤ o.length
  · exact nextP_is hj (o.length - a) a (by lia) h
  · rw [nextP, if_pos (by lia)] at h; lia
theorem time_mem (o : List Int) (t : Tr) : ∃ w ∈ words t, timeOf o t = ((lst o w : Nat) : Int) := by
  have hne : ((words t).map fun x => least x o) ≠ [] := fun e => words_ne t (List.map_eq_nil_iff.mp e)
  obtain ⟨w, hw, e⟩ := List.mem_map.mp (foldMax_mem _ hne).1
  refine ⟨w, hw, ?_⟩
  rw [← least_eq (word_len t w hw).2, e]; rfl
theorem time_ge {o : List Int} {t : Tr} {w : List Int} (hw : w ∈ words t) : ((lst o w : Nat) : Int) ≤ timeOf o t := by
  have hne : ((words t).map fun x => least x o) ≠ [] := fun e => words_ne t (List.map_eq_nil_iff.mp e)
  have := (foldMax_mem _ hne).2 (least w o) (List.mem_map_of_mem hw)
  rw [least_eq (word_len t w hw).2] at this
  exact this
theorem mem_wordsL' : ∀ {ts : List Tr} {w : List Int}, w ∈ wordsL ts → ∃ t ∈ ts, w ∈ words t
  | t :: r, w, h => by
    rw [wordsL] at h
    rcases List.mem_append.mp h with h | h
    · exact ⟨t, .head _, h⟩
    · obtain ⟨t', h1, h2⟩ := mem_wordsL' h
      exact ⟨t', .tail _ h1, h2⟩
theorem time_node {o : List Int} {p k : Nat} {ts : List Tr} : ∃ a : Nat, timeOf o (.node p k ts) = ((nextP o a (k : Int) : Nat) : Int) ∧ (∀ j : Int, 0 ≤ j → (∀ c ∈ ts, timeOf o c ≤ j) → (a : Int) ≤ j) := by
  obtain ⟨w, hw, e⟩ := time_mem o (.node p k ts)
  rw [words] at hw
  split at hw
  · rename_i h0
    rw [List.mem_singleton.mp hw] at e
    exact ⟨0, e, fun j hj _ => hj⟩
  · obtain ⟨v, hv, rfl⟩ := List.mem_map.mp hw
    rw [lst_snoc] at e
    refine ⟨lst o v, e, fun j _ hc => ?_⟩
    obtain ⟨c, h1, h2⟩ := mem_wordsL' hv
    exact Int.le_trans (time_ge h2) (hc c h1)
theorem time_child {o : List Int} {p k : Nat} {ts : List Tr} {c : Tr} (hc : c ∈ ts) {j : Nat} (hj : j + 1 ≤ o.length) (h : (j : Int) < timeOf o c) : (j : Int) + 1 < timeOf o (.node p k ts) := by
  obtain ⟨w, hw, e⟩ := time_mem o c
  have h1 : (w ++ [(k : Int)]) ∈ words (.node p k ts) := wordsL_words (mem_wordsL hc hw)
  have h2 := time_ge (o := o) h1
  rw [lst_snoc] at h2
  have h3 : j + 1 ≤ lst o w := by lia
  have h4 := nextP_far (k := (k : Int)) h3 hj
  lia
theorem toksL_nil {tms : List Int} {j : Int} : ∀ {ts : List Tr}, toksL tms j ts = [] → ∀ c ∈ ts, toks tms j c = []
  | t :: r, h, c, hc => by
    rw [toksL] at h
    obtain ⟨h1, h2⟩ := List.append_eq_nil_iff.mp h
    rcases List.mem_cons.mp hc with rfl | hc
    · exact h1
    · exact toksL_nil h2 c hc
theorem toksL_some {tms : List Int} {j : Int} : ∀ {ts : List Tr}, toksL tms j ts ≠ [] → ∃ c ∈ ts, toks tms j c ≠ []
  | [], h => absurd rfl h
  | t :: r, h => by
    by_cases h1 : toks tms j t = []
    · rw [toksL, h1, List.nil_append] at h
      obtain ⟨c, a, b⟩ := toksL_some h
      exact ⟨c, .tail _ a, b⟩
    · exact ⟨t, .head _, h1⟩
theorem toks_dead {tms : List Int} {j : Int} (t : Tr) : toks tms j t = [] ↔ tms.getD t.root 0 ≤ j := by
  cases t with
  | node p k ts =>
    rw [toks]
    constructor
    · intro h
      split at h
      · assumption
      · cases h
    · intro h; exact if_pos h
theorem stepL_of {tms : List Int} {j : Int} {kk : Nat} : ∀ {ts : List Tr}, (∀ t ∈ ts, StepOk tms j kk t) → StepOkL tms j kk ts
  | [], _ => trivial
  | t :: r, h => by rw [StepOkL]; exact ⟨h t (.head _), stepL_of fun t' ht => h t' (.tail _ ht)⟩
theorem tms_at {ab kns ord : List Nat} {p : Nat} (hp : p < 7) : (tmsOf ab kns ord).getD p 0 = timeOf (ord.map fun k : Nat => (k : Int)) (tr ab kns p) := by
  unfold tmsOf
  rw [List.getD_eq_getElem?_getD, List.getElem?_map, List.getElem?_range hp]; rfl
theorem tree_step {ab kns ord : List Nat} (hab : AbOk ab) (hk3 : ∀ k ∈ kns, k < 3) (ho9 : ord.length = 9) {j kk : Nat} (hj : ord[j]? = some kk) : ∀ (n p : Nat), p < 7 → 7 ≤ p + n → StepOk (tmsOf ab kns ord) (j : Int) kk (tr ab kns p)
  | 0, p, h1, h2 => by lia
  | n + 1, p, h1, h2 => by
    have hj9 : j < 9 := by rw [← ho9]; exact (List.getElem?_eq_some_iff.mp hj).1
    have hol : (ord.map fun k : Nat => (k : Int)).length = 9 := by rw [List.length_map, ho9]
    have hoj : (ord.map fun k : Nat => (k : Int))[j]? = some (kk : Int) := by rw [List.getElem?_map, hj]; rfl
    have hch : ∀ c ∈ (kidsOf ab p).map (tr ab kns), ∃ q, q < 7 ∧ p < q ∧ c = tr ab kns q := by
      intro c hc
      obtain ⟨q, hq, rfl⟩ := List.mem_map.mp hc
      exact ⟨q, (kids_gt hab hq).2, (kids_gt hab hq).1, rfl⟩
    have hT := tms_at (ab := ab) (kns := kns) (ord := ord) h1
    rw [tr_eq hab] at hT ⊢
    rw [StepOk]
    refine ⟨kns_lt hk3 p, stepL_of fun t ht => ?_, fun hne => ?_, fun hnil halive => ?_⟩
    · obtain ⟨q, hq, hpq, rfl⟩ := hch t ht
      exact tree_step hab hk3 ho9 hj n q hq (by lia)
    · obtain ⟨c, hc, hcn⟩ := toksL_some hne
      obtain ⟨q, hq, hpq, rfl⟩ := hch c hc
      have h3 : ¬ (tmsOf ab kns ord).getD q 0 ≤ (j : Int) := fun h => hcn ((toks_dead _).mpr (by rw [show (tr ab kns q).root = q from trF_root ab kns 7 q]; exact h))
      rw [tms_at hq] at h3
      rw [hT]
      exact time_child hc (by lia) (by lia)
    · obtain ⟨a, e, ha⟩ := time_node (o := ord.map fun k : Nat => (k : Int)) (p := p) (k := kns.getD p 0) (ts := (kidsOf ab p).map (tr ab kns))
      have haj := ha j (Int.natCast_nonneg j) fun c hc => by
        obtain ⟨q, hq, hpq, rfl⟩ := hch c hc
        have h3 := (toks_dead _).mp (toksL_nil hnil _ hc)
        rw [show (tr ab kns q).root = q from trF_root ab kns 7 q, tms_at hq] at h3
        exact h3
      rw [hT, e] at halive ⊢
      constructor
      · intro h
        have h4 : nextP (ord.map fun k : Nat => (k : Int)) a ((kns.getD p 0 : Nat) : Int) = j + 1 := by lia
        have h5 := nextP_is' (by rw [hol]; exact hj9) h4
        rw [hoj] at h5
        have := Option.some.inj h5
        lia
      · intro h
        have h6 := nextP_le (o := ord.map fun k : Nat => (k : Int)) (k := ((kns.getD p 0 : Nat) : Int)) (j - a) a j (by lia) (by rw [hoj, h])
        lia
theorem plain_law : PlainLaw := by
  intro ab kns ord hab hk7 hk3 ho9 ho3 j
  induction j with
  | zero => intro _; rw [List.take_zero]; rfl
  | succ j ih =>
    intro hj
    obtain ⟨kk, hkk⟩ : ∃ kk, ord[j]? = some kk := ⟨ord[j]'(by lia), List.getElem?_eq_getElem _⟩
    rw [take_one hkk, List.map_append, stripAll_append, ih (by lia)]
    show stripS _ (loneT kk) = _
    rw [strip_step (ho3 kk (List.mem_of_getElem? hkk)) (tree_step hab hk3 ho9 hkk 7 0 (by decide) (by decide))]
    rfl
end
end Mine
theorem PySem.Challenge.cw_pg0301_03_holds : PySem.Challenge.rw_pg0301_03.Holds :=
  Mine.law_of_plain Mine.plain_law

