import PyProof.Rows.All
import Wide.All
import OpenK.AllK
import Wide.FinOn
import PyProof.IsiH_list
import Lean
import PySem.Challenge.RW_pg0301_01
set_option Elab.async false
set_option maxRecDepth 100000
set_option compiler.extract_closed false
namespace Mine
section
open PySem PySem.W PyProof.Rows
noncomputable def tq.tw8774668351234199375 : PySem.Program := PySem.Challenge.pw_pg0301_01
theorem tq.te8774668351234199375 : PySem.Challenge.pw_pg0301_01 = tq.tw8774668351234199375 := rfl
set_option Elab.async true in
set_option maxRecDepth 100000 in
theorem tq : True := by
  first
    | (refine (fun (_ : PySem.Challenge.rw_pg0301_01.Holds) => trivial) ?_
       o_law
       fail)
    | exact trivial
#print axioms tq
set_option maxRecDepth 100000 in
set_option maxHeartbeats 8000000 in
open_top hd1 for PySem.Challenge.rw_pg0301_01
end
theorem topOff1 : True := by
  w_top off
  trivial
section
open PySem PySem.Calls PyProof.Rows PySem.W
open Sem (wp)

section
variable {M : Model} {A : Around} {R : GenEnd} {Y : Protocol} {n : Nat} {s₀ : Shared} {c : Code} {fs : List Frame} {s : Shared} {env : Env}
theorem seg_bindw {α β : Type} {m : Sem α} {f : α → Sem β} {K : β → Sem Fin} {H : Value → Sem Fin} {gd : Bool → Bool} {lv : List Value → List Value}
    (h : wpAny M (A.over c fs) m (fun a s' => Seg M A R Y n s₀ c ((f a).wrap K H gd lv) fs s') (fun x s' => Seg M A R Y n s₀ c (H x) fs s') s) :
    Seg M A R Y n s₀ c ((m >>= f).wrap K H gd lv) fs s := by
  rw [Sem.bind_eq_wrap', Sem.wrap_wrap]
  exact seg_wrap h
theorem seg_runOwn {c' : Code} {K : Flow → Sem Fin} {H : Value → Sem Fin} {gd : Bool → Bool} {lv : List Value → List Value}
    (h : ∀ p, Seg M A R Y n s₀ c' (M.den c')
      (.ret (fun r => ((match r with | .ok f => (.pure f : Sem Flow) | .error e => .raise e).onRaise fun (x : Value) => do
        if (← field x 1) == Value.none then unsupported "frame.own-activation:exception-without-traceback"
        setFlight x env.frame).wrap K H gd lv) none (gd false) (lv []) c p [] :: fs) s) :
    Seg M A R Y n s₀ c ((runOwn c' env).wrap K H gd lv) fs s :=
  seg_call h
end

section
variable {prog : Program} {w : World} {A : Around} {R : GenEnd} {Y : Protocol} {n : Nat} {s₀ : Shared} {fs : List Frame} {s : Shared} {env : Env}
abbrev noteH (env : Env) : Value → Sem Fin := fun e => (do noteFrame e env; theTreesLotGoes e : Sem Unit).bind fun _ => .raise e
theorem seg_forLoop {target : Expr} {it : Value} {body orelse : List Stmt}
    (h : wpAny (model prog w) (A.over (.forLoop target it body orelse env) fs) (pyNext it) (fun r s' => match r with
        | none => Seg (model prog w) A R Y n s₀ (.forLoop target it body orelse env) (.pure (.again (.block orelse env))) fs s'
        | some v => wpAny (model prog w) (A.over (.forLoop target it body orelse env) fs) (letOwnedTupleGo target it v) (fun _ s₁ =>
            wpAny (model prog w) (A.over (.forLoop target it body orelse env) fs) (assign target env v) (fun _ s₂ =>
              Seg (model prog w) A R Y n s₀ (.forLoop target it body orelse env) ((execs body env).wrap (fun f => match f with
                | .next | .cont => .pure (.again (.forLoop target it body orelse env))
                | .brk => .pure (.done .next)
                | .ret v => .pure (.done (.ret v))) (noteH env) id id) fs s₂) (fun _ _ => False) s₁) (fun _ _ => False) s')
      (fun _ _ => False) s) :
    Seg (model prog w) A R Y n s₀ (.forLoop target it body orelse env) ((model prog w).den (.forLoop target it body orelse env)) fs s := by
  show Seg _ A R Y n s₀ _ ((forTurn target it body orelse env).onRaise (fun x => do noteFrame x env; theTreesLotGoes x)) fs s
  unfold forTurn
  rw [Sem.onRaise_eq_wrap]
  refine seg_bindw (wpAny_standAt ?_)
  refine seg_bindw (wpAny_onRaise (wpAny_mono h (fun r s' hr => ?_) fun _ _ z => z.elim))
  cases r with
  | none => exact hr
  | some v =>
    refine seg_bindw (wpAny_mono hr (fun _ s₁ h₁ => ?_) fun _ _ z => z.elim)
    refine seg_bindw (wpAny_mono h₁ (fun _ s₂ h₂ => ?_) fun _ _ z => z.elim)
    rw [Sem.bind_eq_wrap', Sem.wrap_wrap]
    exact cast (congrArg (fun t => Seg (model prog w) A R Y n s₀ (.forLoop target it body orelse env) t fs s₂) (Sem.wrap_congr (execs body env) id id (fun f => by cases f <;> rfl) (fun e => rfl))) h₂
theorem seg_block_nil (h : Seg (model prog w) A R Y n s₀ (.block [] env) (.pure (.done .next)) fs s) {c : Code} : Seg (model prog w) A R Y n s₀ c (.pure (.again (.block [] env))) fs s :=
  seg_again rfl h

theorem entry_yf : entryFor table "proto.yield_from" = some Builtin.«proto.yield_from» := entryFor_of_tree (by kernel_rfl)
theorem den_builtin {id : String} {b : Builtin} (h : entryFor table id = some b) (args : Args) : (model prog w).den (.builtin id args) = b args := by
  show (match entryFor table id with | some b => b args | none => _) = _
  rw [h]
theorem li_close : typeLookup (.type "list_iterator") "close" = pure none := by rw [typeLookup_type, builtinLookup_eq_fast]; kernel_rfl
abbrev cYF (J : Addr) : Code := .builtin "proto.yield_from" ⟨[.ref J, .bool false, .none], []⟩
theorem slept_li {A : Around} {E : Value → Shared → Prop} {s : Shared} {J l : Addr} {i : Nat} {b : Bool} {Q : Unit → Shared → Prop} (hit : s.heap.IsListIter J l i) (h : Q () s) :
    wpAny (model prog w) A (Builtin.Generator.sleptOver (.ref J) b) Q E s := by
  obtain ⟨o, ho, hc, hd⟩ := hit
  unfold Builtin.Generator.sleptOver
  refine wpAny_bind (wpAny_load ho ?_)
  rw [if_pos (by rw [hc]; decide)]
  exact wpAny_pure h

theorem li_step_item {A : Around} {E : Value → Shared → Prop} {s : Shared} {it l : Addr} {i : Nat} {items : Array Value} {x : Value} {Q : Option Value → Shared → Prop} (hit : s.heap.IsListIter it l i)
    (hl : s.heap.IsList l items) (hx : items[i]? = some x)
    (hQ : ∀ h', h'.IsListIter it l (i + 1) → Heap.SameBut it s.heap h' → Q (some x) { s with heap := h' }) :
    wpAny (model prog w) A (callSpecial? (.ref it) (Str.ofString "__next__")) Q E s := by
  obtain ⟨o, ho, hc, hd⟩ := id hit
  obtain ⟨ol, hol, _, nl, hdl⟩ := hl
  refine wpAny_callSpecial?_slot (name := Str.ofString "__next__") hit.typeIs slot_listiter_next
    (wpAny_call_entry slot_listiter_next hit.typeIs entry_listiter_next ?_ (args_listiter_next _))
  show wpAny _ _ (field (.ref it) 0 >>= _) _ _ s
  refine wpAny_bind (wpAny_field ho hd (x := .ref l) rfl ?_)
  show wpAny _ _ (if (Value.ref l == Value.none) = true then _ else _) _ _ s
  rw [if_neg (show ¬ ((Value.ref l == Value.none) = true) from Bool.false_ne_true)]
  show wpAny _ _ (field (.ref it) 1 >>= _) _ _ s
  refine wpAny_bind (wpAny_field ho hd (x := .int i 0) rfl ?_)
  show wpAny _ _ (seqItems? (.ref l) >>= _) _ _ s
  refine wpAny_bind (wpAny_seqItems hol hdl ?_)
  simp only [Int.toNat_natCast, hx]
  refine wpAny_bind (wpAny_setField ho hd (by simp) (wpAny_pure ⟨x, rfl, hQ _ ?_ (Heap.SameBut.update ..)⟩))
  exact ⟨_, Heap.get?_update_self _ ho (Obj.isFreed_of_fields (Obj.data_mapFields hd _)), (Obj.cls_mapFields ..).trans hc, by
    rw [Obj.data_mapFields hd]; simp [rawInt]⟩

theorem li_step_end {A : Around} {E : Value → Shared → Prop} {s : Shared} {it l : Addr} {i : Nat} {items : Array Value} {Q : Option Value → Shared → Prop} (hh : A.handled = none) (hit : s.heap.IsListIter it l i)
    (hl : s.heap.IsList l items) (hx : items[i]? = none)
    (hE : ∀ e h' o, h'.get? e = some o → o.cls = .type "StopIteration" → (∃ vs, o.data = .fields vs ∧ vs[5]? = some .none) → Heap.ExtBut it s.heap h' → E (.ref e) { s with heap := h' }) :
    wpAny (model prog w) A (callSpecial? (.ref it) (Str.ofString "__next__")) Q E s := by
  obtain ⟨o, ho, hc, hd⟩ := id hit
  obtain ⟨ol, hol, _, nl, hdl⟩ := hl
  refine wpAny_callSpecial?_slot (name := Str.ofString "__next__") hit.typeIs slot_listiter_next
    (wpAny_call_entry slot_listiter_next hit.typeIs entry_listiter_next ?_ (args_listiter_next _))
  show wpAny _ _ (field (.ref it) 0 >>= _) _ _ s
  refine wpAny_bind (wpAny_field ho hd (x := .ref l) rfl ?_)
  show wpAny _ _ (if (Value.ref l == Value.none) = true then _ else _) _ _ s
  rw [if_neg (show ¬ ((Value.ref l == Value.none) = true) from Bool.false_ne_true)]
  show wpAny _ _ (field (.ref it) 1 >>= _) _ _ s
  refine wpAny_bind (wpAny_field ho hd (x := .int i 0) rfl ?_)
  show wpAny _ _ (seqItems? (.ref l) >>= _) _ _ s
  refine wpAny_bind (wpAny_seqItems hol hdl ?_)
  simp only [Int.toNat_natCast, hx]
  refine wpAny_bind (wpAny_rule (wpAny_bind (wpAny_setField ho hd (by simp) ?_)))
  show wpAny _ _ (newExc (.type "StopIteration") [] >>= _) _ _ _
  refine wpAny_bind ?_
  simp only [newExc, newTuple]
  refine wpAny_bind (wpAny_newObj_type ?_ (by size_fits))
  refine wpAny_bind (m := firstArgMember _ _) (wpAny_of_eq (a := Value.none) (by first | rfl | (simp only [firstArgMember]; rfl)) ?_)
  refine wpAny_newObj_type ?_ (by size_fits)
  simp only [raiseNew]
  refine wpAny_bind (wpAny_handled ?_)
  rw [show A.in1.handled = none from hh]
  refine wpAny_bind (wpAny_pure (wpAny_throw ?_))
  exact hE _ _ _ (Heap.get?_push_size _ rfl) rfl ⟨_, rfl, rfl⟩ (((Heap.SameBut.update ..).extBut.push _).push _)

theorem seg_yf1 {J l : Addr} {i : Nat} {items : Array Value} {x : Value} (hfs : splitAtGen fs = none) (hfg : fs.any Frame.guarded = false)
    (hit : s.heap.IsListIter J l i) (hl : s.heap.IsList l items) (hx : items[i]? = some x)
    (h : ∀ h' κ, h'.IsListIter J l (i + 1) → Heap.SameBut J s.heap h' → (∀ s'' : Shared, s''.heap.IsListIter J l (i + 1) → Seg (model prog w) A R Y n s'' (cYF J) ((model prog w).den (cYF J)) fs s'' → κ (.send .none) s'') → Y n s₀ x { s with heap := h' } κ) :
    Seg (model prog w) A R Y (n + 1) s₀ (cYF J) ((model prog w).den (cYF J)) fs s := by
  rw [den_builtin entry_yf]
  unfold Builtin.«proto.yield_from»
  dsimp only
  refine seg_bind (wpAny_pure ?_)
  refine seg_bind (wpAny_attempt (wpAny_holding ?_))
  rw [if_neg (by decide), if_pos (by decide)]
  refine wpAny_bind (wpAny_rule ?_)
  refine wpAny_bind (li_step_item hit hl hx fun h' hit' hsb => ?_)
  refine wpAny_pure ?_
  dsimp only
  refine seg_bind (wpAny_typeOf hit'.typeIs ?_)
  dsimp only
  refine seg_bind (wpAny_of_eq li_close ?_)
  refine seg_bind (wpAny_pure ?_)
  refine seg_bind (slept_li hit' ?_)
  show Seg _ A R Y (n + 1) s₀ _ (.yield x false [] fun r => _) fs _
  refine seg_yield hfs rfl hfg ?_
  refine h h' _ hit' hsb fun s'' hi hs => ?_
  show Seg _ A R Y n s'' _ (Builtin.Generator.sleptOver (.ref J) false >>= _) fs s''
  refine seg_bind (slept_li hi ?_)
  exact seg_again (plainId_quiet (id := "proto.yield_from") (by decide +kernel) _) hs

theorem seg_yf2 {J l : Addr} {i : Nat} {items : Array Value} (hh : (A.over (cYF J) fs).handled = none)
    (hit : s.heap.IsListIter J l i) (hl : s.heap.IsList l items) (hx : items[i]? = none)
    (h : ∀ h', Heap.ExtBut J s.heap h' → Seg (model prog w) A R Y n s₀ (cYF J) (.pure (.done (.ret .none))) fs { s with heap := h' }) :
    Seg (model prog w) A R Y n s₀ (cYF J) ((model prog w).den (cYF J)) fs s := by
  rw [den_builtin entry_yf]
  unfold Builtin.«proto.yield_from»
  dsimp only
  refine seg_bind (wpAny_pure ?_)
  refine seg_bind (wpAny_attempt (wpAny_holding ?_))
  rw [if_neg (by decide), if_pos (by decide)]
  refine wpAny_bind (wpAny_rule ?_)
  refine wpAny_bind (li_step_end hh hit hl hx fun e h' o ho hc hv hx' => ?_)
  dsimp only
  obtain ⟨vs, hvs, h5⟩ := hv
  have hT : Shared.TypeIs { s with heap := h' } (.ref e) "StopIteration" := ⟨_, ho, hc⟩
  refine seg_bind ?_
  unfold Builtin.Generator.endsTheTurnAsAValue Builtin.Generator.isStopAndMetaclass
  refine wpAny_bind (wpAny_bind (wpAny_typeOf hT ?_))
  refine wpAny_bind (wpAny_of_eq isSubtype_stop ?_)
  refine wpAny_bind (wpAny_of_eq (a := Value.type "type") (by first | rfl | kernel_rfl) (wpAny_pure ?_))
  rw [if_neg (by decide)]
  refine wpAny_pure ?_
  rw [if_pos rfl]
  first | rw [if_neg (by decide)] | skip
  refine seg_bind (wpAny_rule ?_)
  refine seg_bind (wpAny_field ho hvs h5 ?_)
  exact h h' hx'

theorem seg_runValue {c c' : Code} {K : Value → Sem Fin} {H : Value → Sem Fin} {gd : Bool → Bool} {lv : List Value → List Value}
    (h : ∀ p, Seg (model prog w) A R Y n s₀ c' ((model prog w).den c')
      (.ret (fun r => ((match r with | .ok f => (.pure f : Sem Flow) | .error e => .raise e) >>= fun f => match f with | .ret v => (pure v : Sem Value) | _ => unsupported "internal:call-without-return-value").wrap K H gd lv) none (gd false) (lv []) c p [] :: fs) s) :
    Seg (model prog w) A R Y n s₀ c ((runValue c').wrap K H gd lv) fs s :=
  seg_call h

abbrev sNs : Str := Str.ofString "namespaces"
abbrev sSt : Str := Str.ofString "ns_stack"
abbrev sRv : Str := Str.ofString "_reversed"
abbrev ifS (pa pb pc pd pe : Pos) : Stmt := .If (.Name sNs pa) [.Expr (.YieldFrom (.Name sNs pb) pc) pd] [] pe

structure NsEnv (env : Env) : Prop where
  kind : env.scope.kind = .function
  k1 : env.kindOf sNs = some .local
  k2 : env.kindOf sSt = some .local
  k3 : env.kindOf sRv = some .local
  inter : interactive env = false
  plain : (env.scope.kind == .class || (env.scope.kind == .module && env.locals != env.globals)) = false

theorem if_tree {test : Expr} {body orelse : List Stmt} {pos : Pos} {env : Env} : exec (.If test body orelse pos) env = (do standAt pos; if ← isTrue test env (eval test env) then execs body env else execs orelse env) := rfl
theorem isTrue_Name {x : Str} {pos : Pos} {env : Env} {whole : Sem Value} : PySem.isTrue (.Name x pos) env whole = (do let v ← whole; standAt pos; holding [v] (truthy v)) := rfl

theorem seg_ns_empty {pa pb pc pd pe : Pos} {e : Addr} {m : Str → Option Value} (ne : NsEnv env) {K : Flow → Sem Fin} {H : Value → Sem Fin}
    {c : Code} (hm : s.heap.Ns env.locals m) (hv : m sNs = some (.ref e)) (hl : s.heap.IsList e #[])
    (h : ∀ tk, Seg (model prog w) A R Y n s₀ c (K .next) fs { s with toks := tk }) :
    Seg (model prog w) A R Y n s₀ c ((execs [ifS pa pb pc pd pe] env).wrap K H id id) fs s := by
  refine seg_execs_cons ?_
  rw [if_tree]
  refine seg_bindw (wpAny_standAt ?_)
  refine seg_bindw ?_
  rw [isTrue_Name]
  refine wpAny_bind (wpAny_Name (wpAny_loadName_local ne.kind ne.k1 hm hv ?_))
  refine wpAny_bind (wpAny_standAt (wpAny_holding (wpAny_truthy_list hl (by decide) ?_)))
  have hb : (!(#[] : Array Value).isEmpty) = false := rfl
  simp only [hb, Bool.false_eq_true, if_false]
  exact seg_execs_nil (h _)

theorem bind_wrap_eq {α β : Type} {m : Sem α} {f : α → Sem β} {K : β → Sem Fin} {H : Value → Sem Fin} {gd : Bool → Bool} {lv : List Value → List Value} :
    (m >>= f).wrap K H gd lv = m.wrap (fun x => (f x).wrap K H gd lv) H gd lv := by
  rw [Sem.bind_eq_wrap', Sem.wrap_wrap]; rfl

theorem seg_ns_full {pa pb pc pd pe : Pos} {n0 : Addr} {tp : Value} {m : Str → Option Value} (ne : NsEnv env) {K : Flow → Sem Fin} {H : Value → Sem Fin}
    {c : Code} (hfs : splitAtGen fs = none) (hfg : fs.any Frame.guarded = false) (hmk : (marksOver fs (A.handled, A.handled)).1 = none)
    (hm : s.heap.Ns env.locals m) (hv : m sNs = some (.ref n0)) (hl : s.heap.IsList n0 #[tp])
    (h : ∀ h' tk κ, h'.IsListIter s.heap.objs.size n0 1 → (∀ b o, s.heap.get? b = some o → h'.get? b = some o) →
      (∀ s'' : Shared, s''.heap.IsListIter s.heap.objs.size n0 1 → s''.heap.IsList n0 #[tp] → (∀ h'', Heap.ExtBut s.heap.objs.size s''.heap h'' → Seg (model prog w) A R Y n s'' c (K .next) fs { s'' with heap := h'' }) → κ (.send .none) s'') →
      Y n s₀ tp { s with heap := h', toks := tk } κ) :
    Seg (model prog w) A R Y (n + 1) s₀ c ((execs [ifS pa pb pc pd pe] env).wrap K H id id) fs s := by
  refine seg_execs_cons ?_
  rw [if_tree]
  refine seg_bindw (wpAny_standAt ?_)
  refine seg_bindw ?_
  rw [isTrue_Name]
  refine wpAny_bind (wpAny_Name (wpAny_loadName_local ne.kind ne.k1 hm hv ?_))
  refine wpAny_bind (wpAny_standAt (wpAny_holding (wpAny_truthy_list hl (show ((1 : Nat) : Int) < 2 ^ 63 by decide) ?_)))
  have hb : (!(#[tp] : Array Value).isEmpty) = true := rfl
  simp only [hb, if_true]
  refine seg_execs_cons ?_
  rw [exec_Expr env _ pd ne.inter rfl, arm_eval_YieldFrom]
  refine seg_bindw (wpAny_standAt ?_)
  rw [bind_wrap_eq]
  refine seg_bindw (wpAny_Name (wpAny_loadName_local ne.kind ne.k1 hm hv ?_))
  refine seg_bindw (wpAny_standAt ?_)
  unfold yieldFrom
  refine seg_bindw (wpAny_typeOf hl.typeIs ?_)
  rw [if_neg (by decide)]
  refine seg_bindw (wpAny_holding (wpAny_pyIter_list hl ?_))
  refine seg_runValue fun p => ?_
  have hit : (s.heap.push { cls := .type "list_iterator", data := .fields #[.ref n0, .int 0 0] }).IsListIter s.heap.objs.size n0 0 := ⟨_, Heap.get?_push_size _ rfl, rfl, rfl⟩
  have hl' : (s.heap.push { cls := .type "list_iterator", data := .fields #[.ref n0, .int 0 0] }).IsList n0 #[tp] := let ⟨o, ho, r⟩ := hl; ⟨o, Heap.get?_push_of_some _ ho, r⟩
  refine seg_yf1 (by simp only [splitAtGen, hfs]; rfl) (by simp only [List.any_cons, Frame.guarded, hfg]; rfl) hit hl' rfl fun h' κ hit' hsb hk => ?_
  refine h h' _ κ hit' (fun b o e => (hsb.2 b (Nat.ne_of_lt (Heap.lt_size e))).trans (Heap.get?_push_of_some _ e)) fun s'' a1 a2 a3 => hk s'' a1 ?_
  refine seg_yf2 hmk a1 a2 rfl fun h'' hx => ?_
  refine seg_leaf (.ok (.ret .none)) ?_
  exact a3 h'' hx

abbrev cNS (I : Addr) (pf pa pb pc pd pe : Pos) (env : Env) : Code := .forLoop (.Name sNs pf) (.ref I) [ifS pa pb pc pd pe] [] env

structure NsInv (L I st n0 : Addr) (tp : Value) (items : Array Value) (h : Heap) : Prop where
  stack : h.IsList st items
  first : h.IsList n0 #[tp]
  more : ∀ (k : Nat) (v : Value), 0 < k → items[k]? = some v → ∃ e, v = .ref e ∧ e ≠ L ∧ e ≠ I ∧ h.IsList e #[]
theorem isList_keep {h h' : Heap} {l : Addr} {xs : Array Value} (x : h.IsList l xs) (k : ∀ o, h.get? l = some o → h'.get? l = some o) : h'.IsList l xs := let ⟨o, ho, r⟩ := x; ⟨o, k o ho, r⟩
theorem NsInv.keep {L I st n0 : Addr} {tp : Value} {items : Array Value} {h h' : Heap} (x : NsInv L I st n0 tp items h) (k : ∀ b o, b ≠ L → b ≠ I → h.get? b = some o → h'.get? b = some o)
    (d1 : st ≠ L) (d2 : st ≠ I) (d3 : n0 ≠ L) (d4 : n0 ≠ I) : NsInv L I st n0 tp items h' :=
  ⟨isList_keep x.stack fun o => k st o d1 d2, isList_keep x.first fun o => k n0 o d3 d4, fun j v hj hv => let ⟨e, a, b, c, d⟩ := x.more j v hj hv; ⟨e, a, b, c, isList_keep d fun o => k e o b c⟩⟩

theorem seg_ns_loop {pa pb pc pd pe pf : Pos} {I st n0 : Addr} {tp : Value} {items : Array Value} {sB : Shared} (ne : NsEnv env)
    (hfs : splitAtGen fs = none) (hfg : fs.any Frame.guarded = false) (hmk : (marksOver fs (A.handled, A.handled)).1 = none)
    (d0 : I ≠ env.locals) (d1 : st ≠ env.locals) (d2 : st ≠ I) (d3 : n0 ≠ env.locals) (d4 : n0 ≠ I) (hI : I < sB.heap.objs.size) (h0 : items[0]? = some (.ref n0))
    (hY : ∀ h' tk κ m', h'.IsListIter sB.heap.objs.size n0 1 → h'.IsRevIter I st (-1) → h'.Ns env.locals m' → (∀ b o, b ≠ env.locals → b ≠ I → sB.heap.get? b = some o → h'.get? b = some o) →
      (∀ s'' : Shared, s''.heap.IsListIter sB.heap.objs.size n0 1 → s''.heap.IsList n0 #[tp] → s''.heap.IsRevIter I st (-1) →
        (∀ h'', (∀ b o, b ≠ sB.heap.objs.size → b ≠ I → s''.heap.get? b = some o → h''.get? b = some o) → Seg (model prog w) A R Y 0 s'' (.block [] env) (.pure (.done .next)) fs { s'' with heap := h'' }) → κ (.send .none) s'') →
      Y 0 s₀ tp { sB with heap := h', toks := tk } κ) :
    ∀ (i : Nat) (h : Heap) (tk : Nat) (m : Str → Option Value), i < items.size → h.IsRevIter I st (i : Int) → NsInv env.locals I st n0 tp items h → h.Ns env.locals m →
      (∀ b o, b ≠ env.locals → b ≠ I → sB.heap.get? b = some o → h.get? b = some o) → h.objs.size = sB.heap.objs.size →
      Seg (model prog w) A R Y 1 s₀ (cNS I pf pa pb pc pd pe env) ((model prog w).den (cNS I pf pa pb pc pd pe env)) fs { sB with heap := h, toks := tk } := by
  intro i
  induction i with
  | zero =>
    intro h tk m hi hit hv hm hk hz
    refine seg_forLoop (wpAny_pyNext_rev_item hit hv.stack h0 fun h₁ hit₁ hsb => ?_)
    have hm₁ : h₁.Ns env.locals m := hm.sameBut hsb (Ne.symm d0)
    have hv₁ : NsInv env.locals I st n0 tp items h₁ := hv.keep (fun b o _ b2 e => (hsb.2 b b2).trans e) d1 d2 d3 d4
    refine wpAny_pure (wpAny_assign_Name (wpAny_storeName_local ne.k1 hm₁ (fun h₂ hm₂ hsb₂ => ?_) ne.plain))
    have hv₂ : NsInv env.locals I st n0 tp items h₂ := hv₁.keep (fun b o b1 _ e => (hsb₂.2 b b1).trans e) d1 d2 d3 d4
    have hit₂ : h₂.IsRevIter I st (-1) := by
      have z := hit₁.at fun o e => (hsb₂.2 I d0).trans e
      simpa using z
    have hz₂ : h₂.objs.size = sB.heap.objs.size := (hsb₂.1.trans hsb.1).trans hz
    refine seg_ns_full ne hfs hfg hmk hm₂ (by simp) hv₂.first fun h' tk' κ hj hkp hκ => ?_
    rw [hz₂] at hj hκ
    refine hY h' tk' κ _ hj (hit₂.at fun o e => hkp _ _ e) (hm₂.keeps hkp) (fun b o b1 b2 e => hkp _ _ ((hsb₂.2 b b1).trans ((hsb.2 b b2).trans (hk b o b1 b2 e)))) fun s'' a1 a2 a3 a4 => hκ s'' a1 a2 fun h'' hx => ?_
    refine seg_again rfl (seg_forLoop (wpAny_pyNext_rev_end hmk (a3.at fun o e => hx I o (Nat.ne_of_lt hI) e) fun h₃ hx₃ => ?_))
    refine seg_again rfl ?_
    exact a4 h₃ fun b o b1 b2 e => hx₃ b o b2 (hx b o b1 e)
  | succ i ih =>
    intro h tk m hi hit hv hm hk hz
    obtain ⟨v, hiv⟩ : ∃ v, items[i + 1]? = some v := ⟨items[i + 1], Array.getElem?_eq_getElem hi⟩
    obtain ⟨e, rfl, e1, e2, e3⟩ := hv.more (i + 1) v (Nat.succ_pos _) hiv
    refine seg_forLoop (wpAny_pyNext_rev_item hit hv.stack hiv fun h₁ hit₁ hsb => ?_)
    have hm₁ : h₁.Ns env.locals m := hm.sameBut hsb (Ne.symm d0)
    have hv₁ : NsInv env.locals I st n0 tp items h₁ := hv.keep (fun b o _ b2 e => (hsb.2 b b2).trans e) d1 d2 d3 d4
    refine wpAny_pure (wpAny_assign_Name (wpAny_storeName_local ne.k1 hm₁ (fun h₂ hm₂ hsb₂ => ?_) ne.plain))
    have hv₂ : NsInv env.locals I st n0 tp items h₂ := hv₁.keep (fun b o b1 _ e => (hsb₂.2 b b1).trans e) d1 d2 d3 d4
    have he₂ : h₂.IsList e #[] := isList_keep e3 fun o z => (hsb₂.2 e e1).trans ((hsb.2 e e2).trans z)
    refine seg_ns_empty ne hm₂ (by simp) he₂ fun tk' => ?_
    refine seg_again rfl (ih h₂ tk' _ (Nat.lt_of_succ_lt hi) ?_ hv₂ hm₂ (fun b o b1 b2 z => (hsb₂.2 b b1).trans ((hsb.2 b b2).trans (hk b o b1 b2 z))) ((hsb₂.1.trans hsb.1).trans hz))
    have z := hit₁.at fun o z => (hsb₂.2 I d0).trans z
    have ec : (((i + 1 : Nat) : Int) - 1) = (i : Int) := by lia
    rw [ec] at z
    exact z

def nsP (I : Addr) : Nat → Shared → Shared → Prop := fun n s₀ s₁ => n = 0 ∧ ∃ h, s₁ = { s₀ with heap := h } ∧ ∀ b o, b ≠ I + 1 → b ≠ I → s₀.heap.get? b = some o → h.get? b = some o
def nsR (I : Addr) : GenEnd := fun n s₀ r s₁ => r = .ok (.ret .none) ∧ nsP I n s₀ s₁
def nsY (L I st n0 : Addr) (tp : Value) : Protocol := fun _ s₀ v s' κ => v = tp ∧ ∃ h' tk' m', s' = { s₀ with heap := h', toks := tk' } ∧ h'.IsListIter (I + 1) n0 1 ∧ h'.IsRevIter I st (-1) ∧ h'.IsList n0 #[tp] ∧ h'.Ns L m' ∧
  (∀ b o, b ≠ L → s₀.heap.get? b = some o → h'.get? b = some o) ∧ ∀ s'' : Shared, s''.heap.IsListIter (I + 1) n0 1 → s''.heap.IsList n0 #[tp] → s''.heap.IsRevIter I st (-1) → κ (.send .none) s''
abbrev nsBody (pa pb pc pd pe pf pg ph pi pj : Pos) : List Stmt := [.For (.Name sNs pf) (.Call (.Name sRv pg) [.Name sSt ph] [] pi) [ifS pa pb pc pd pe] [] pj]

theorem seg_ns_all {pa pb pc pd pe pf pg ph pi pj : Pos} {st n0 : Addr} {tp : Value} {items : Array Value} {m : Str → Option Value} (ne : NsEnv env) (hh : A.handled = none)
    (hm : s.heap.Ns env.locals m) (m1 : m sSt = some (.ref st)) (m2 : m sRv = some (.type "reversed"))
    (h0 : items[0]? = some (.ref n0)) (hl : s.heap.IsList st items) (hl0 : s.heap.IsList n0 #[tp])
    (hmore : ∀ (k : Nat) (v : Value), 0 < k → items[k]? = some v → ∃ e, v = .ref e ∧ e ≠ env.locals ∧ s.heap.IsList e #[])
    (d1 : st ≠ env.locals) (d3 : n0 ≠ env.locals) :
    Seg (model prog w) A (nsR s.heap.objs.size) (nsY env.locals s.heap.objs.size st n0 tp) 1 s (.func (nsBody pa pb pc pd pe pf pg ph pi pj) env) ((model prog w).den (.func (nsBody pa pb pc pd pe pf pg ph pi pj) env)) [] s := by
  refine seg_func (seg_execs_cons ?_)
  rw [exec_For]
  refine seg_bindw (wpAny_standAt ?_)
  refine seg_bindw (PyProof.Rows.Call_Name1 (wpAny_Name (wpAny_loadName_local ne.kind ne.k3 hm m2 ?_)))
  refine PySem.callWith_type1 (wpAny_Name (wpAny_loadName_local ne.kind ne.k2 hm m1 ?_))
  refine call_reversed_list hl ?_
  refine seg_bindw (wpAny_of_eq (a := Value.ref s.heap.objs.size) rfl ?_)
  refine seg_bindw (wpAny_standAt ?_)
  have hlt : ∀ {b o}, s.heap.get? b = some o → b ≠ s.heap.objs.size := fun e => Nat.ne_of_lt (Heap.lt_size e)
  have hpos : 0 < items.size := by
    rcases Nat.eq_zero_or_pos items.size with z | z
    · rw [Array.getElem?_eq_none (by lia)] at h0; cases h0
    · exact z
  have hit : (s.heap.push (revObj st ((items.size : Int) - 1))).IsRevIter s.heap.objs.size st ((items.size : Int) - 1) := ⟨_, Heap.get?_push_size _ rfl, rfl, rfl⟩
  refine seg_bindw (wpAny_holding (wpAny_pyIter_revIter hit ?_))
  refine seg_runOwn fun p => ?_
  have hm' := hm.push (revObj st ((items.size : Int) - 1))
  have hz : (s.heap.push (revObj st ((items.size : Int) - 1))).objs.size = s.heap.objs.size + 1 := Heap.size_push ..
  have kp : ∀ b o, s.heap.get? b = some o → (s.heap.push (revObj st ((items.size : Int) - 1))).get? b = some o := fun b o e => Heap.get?_push_of_some _ e
  have dL : s.heap.objs.size ≠ env.locals := Nat.ne_of_gt hm.lt
  have dst : st ≠ s.heap.objs.size := let ⟨_, ho, _⟩ := hl; hlt ho
  have dn0 : n0 ≠ s.heap.objs.size := let ⟨_, ho, _⟩ := hl0; hlt ho
  have hcast : ((items.size : Int) - 1) = ((items.size - 1 : Nat) : Int) := by lia
  rw [hcast] at hit
  refine seg_ns_loop (sB := { s with heap := s.heap.push (revObj st ((items.size : Int) - 1)) }) ne (by rfl) (by rfl) (by show A.handled = none; exact hh) dL d1 dst d3 dn0 (by show _ < (s.heap.push _).objs.size; rw [hz]; exact Nat.lt_succ_self _) h0 ?_ (items.size - 1) _ s.toks m (by lia) (by rw [hcast]; exact hit)
    ⟨isList_keep hl fun o => kp _ o, isList_keep hl0 fun o => kp _ o, fun k v hk hv => ?_⟩ hm' (fun _ _ _ _ e => e) rfl
  · intro h' tk κ m' y1 y2 y3 y4 y5
    have y1' : h'.IsListIter (s.heap.objs.size + 1) n0 1 := by rw [← hz]; exact y1
    refine ⟨rfl, h', tk, m', rfl, y1', y2, isList_keep hl0 fun o e => y4 _ o d3 dn0 (kp _ o e), y3, fun b o b1 e => y4 b o b1 (hlt e) (kp b o e), fun s'' z1 z2 z3 => y5 s'' (by show s''.heap.IsListIter (s.heap.push _).objs.size n0 1; rw [hz]; exact z1) z2 z3 fun h'' hx => ?_⟩
    refine seg_leaf (.ok .next) ?_
    refine seg_execs_nil (env := env) ?_
    refine seg_end (.ok (.ret .none)) ⟨rfl, rfl, h'', rfl, fun b o b1 b2 e => hx b o (by show b ≠ (s.heap.push _).objs.size; rw [hz]; exact b1) b2 e⟩
  · obtain ⟨e, e1, e2, e3⟩ := hmore k v hk hv
    exact ⟨e, e1, e2, (let ⟨_, ho, _⟩ := e3; hlt ho), isList_keep e3 fun o => kp _ o⟩

def NsSusp (prog : Program) (w : World) (A : Around) (L I st n0 : Addr) (tp : Value) (gs : GenState) : Prop :=
  ∀ s'' : Shared, s''.heap.IsListIter (I + 1) n0 1 → s''.heap.IsList n0 #[tp] → s''.heap.IsRevIter I st (-1) → gs.Goes (model prog w) A.in1 (nsR I) (nsY L I st n0 tp) 0 (.send .none) s''

theorem ns_next1 {A : Around} {E : Value → Shared → Prop} {s : Shared} {env : Env} {pa pb pc pd pe pf pg ph pi pj : Pos} {G g st n0 : Addr} {tp : Value} {items : Array Value} {m : Str → Option Value} {Q : Option Value → Shared → Prop}
    (ne : NsEnv env) (hh : A.handled = none) (hlim : s.heap.NoLimit) (hroom : A.depth < recursionLimit) (hg : s.heap.IsGen G g) (hgs : s.gens[g]? = some (.fresh (.func (nsBody pa pb pc pd pe pf pg ph pi pj) env)))
    (hm : s.heap.Ns env.locals m) (m1 : m sSt = some (.ref st)) (m2 : m sRv = some (.type "reversed"))
    (h0 : items[0]? = some (.ref n0)) (hl : s.heap.IsList st items) (hl0 : s.heap.IsList n0 #[tp])
    (hmore : ∀ (k : Nat) (v : Value), 0 < k → items[k]? = some v → ∃ e, v = .ref e ∧ e ≠ env.locals ∧ s.heap.IsList e #[])
    (d1 : st ≠ env.locals) (d3 : n0 ≠ env.locals)
    (hQ : ∀ h' tk' gs', h'.IsListIter (s.heap.objs.size + 1) n0 1 → h'.IsRevIter s.heap.objs.size st (-1) → (∃ m', h'.Ns env.locals m') → (∀ b o, b ≠ env.locals → s.heap.get? b = some o → h'.get? b = some o) →
      NsSusp prog w A env.locals s.heap.objs.size st n0 tp gs' → Q (some tp) { s with heap := h', toks := tk', gens := s.gens.setIfInBounds g gs' }) :
    wpAny (model prog w) A (pyNext (.ref G)) Q E s := by
  refine wpAny_pyNext_gen (n := 1) (P := nsP s.heap.objs.size) (Y := nsY env.locals s.heap.objs.size st n0 tp) hh hlim hroom hg hgs ⟨rfl, ?_⟩ (fun v s₁ gs' hy => ?_) (fun s₁ hp => ?_)
  · exact seg_ns_all (s := s.setGen g .running) (A := A.in1) ne hh hm m1 m2 h0 hl hl0 hmore d1 d3
  · obtain ⟨rfl, h', tk', m', rfl, y1, y2, y3, y4, y5, y6⟩ := hy
    have e : (({ s.setGen g .running with heap := h', toks := tk' } : Shared).setGen g gs') = { s with heap := h', toks := tk', gens := s.gens.setIfInBounds g gs' } := by
      unfold Shared.setGen
      simp only [Array.setIfInBounds_setIfInBounds]
    have q := hQ h' tk' gs' y1 y2 ⟨m', y4⟩ y5 y6
    rw [← e] at q
    exact q
  · exact absurd hp.1 (by decide)

theorem ns_next2 {A : Around} {E : Value → Shared → Prop} {s : Shared} {G g L I st n0 : Addr} {tp : Value} {gs : GenState} {Q : Option Value → Shared → Prop}
    (hh : A.handled = none) (hlim : s.heap.NoLimit) (hroom : A.depth < recursionLimit) (hg : s.heap.IsGen G g) (hgs : s.gens[g]? = some gs) (hS : NsSusp prog w A L I st n0 tp gs)
    (a1 : s.heap.IsListIter (I + 1) n0 1) (a2 : s.heap.IsRevIter I st (-1)) (a3 : s.heap.IsList n0 #[tp])
    (hQ : ∀ h', (∀ b o, b ≠ I + 1 → b ≠ I → s.heap.get? b = some o → h'.get? b = some o) → Q none { s with heap := h', gens := s.gens.setIfInBounds g .finished }) :
    wpAny (model prog w) A (pyNext (.ref G)) Q E s := by
  refine wpAny_pyNext_gen (n := 0) (P := nsP I) (Y := nsY L I st n0 tp) hh hlim hroom hg hgs (hS (s.setGen g .running) a1 a3 a2) (fun v s₁ gs' hy => ?_) (fun s₁ hp h' hk => ?_)
  · obtain ⟨rfl, h', tk', m', rfl, y1, y2, y3, y4, y5, y6⟩ := hy
    exact (y6 { s with heap := h' } y1 y3 y2).elim
  · obtain ⟨_, h₁, rfl, hk₁⟩ := hp
    have e : ({ ({ s.setGen g .running with heap := h₁ } : Shared).setGen g .finished with heap := h' } : Shared) = { s with heap := h', gens := s.gens.setIfInBounds g .finished } := by
      unfold Shared.setGen
      simp only [Array.setIfInBounds_setIfInBounds]
    have q := hQ h' fun b o b1 b2 z => hk b o (hk₁ b o b1 b2 z)
    rw [← e] at q
    exact q
end
end
section
open PySem PySem.Calls PyProof.Rows PySem.W PySem.Spec

abbrev genObj (g : Nat) (nm qn : Str) (t : Tok) : Obj := { cls := .type "generator", data := .fields #[.int g 0, .str nm t, .str qn (t + 1)] }
section
variable {prog : Program} {w : World} {A : Around} {E : Value → Shared → Prop} {s : Shared} {K : Frag} {L : Addr} {h₀ : Heap} {m : Str → Option Value} {news : List (Addr × Obj)} {Q : Value → Shared → Prop}

theorem k_callGen {name qual : Str} {params : Arguments} {body : List Stmt} {scope : Scope} {dV kV doc pm cdv ct oc : Value} {an od : Option Addr} {osl : Array (Option Value)} {f : Addr} {args : List Value} {binds : List (Str × Value)}
    (F : Fr h₀ L s.heap m) (X₀ : K.In h₀) (N : News h₀ L s.heap news) (hlim : h₀.NoLimit)
    (ho : K.lookup f = some ⟨oc, od, .func (fnOf name qual params body scope dV kV doc pm an cdv ct), osl⟩) (hcd : codeIn K cdv qual = true) (hroom : A.depth < recursionLimit)
    (hbind : BindsTo s (fnOf name qual params body scope dV kV doc pm an cdv ct) ⟨args, []⟩ binds) (hloc : ∀ y ∈ binds, scope.names.lookup y.1 = some .local)
    (h : ∀ L₂ oF G tg h' tk', Fr h₀ L h' m → News h₀ L h' ((G, genObj s.gens.size name qual tg) :: (L₂, oF) :: news) → (∀ p ∈ news, p.1 < L₂) → @LT.lt Nat _ L₂ G →
      (∀ h'' : Heap, h''.get? L₂ = some oF → h''.Ns L₂ (fun x => binds.reverse.lookup x)) →
      Q (.ref G) { s with heap := h', toks := tk', gens := s.gens.push (.fresh (.func body (envX qual scope L₂ f cdv []))) })
    (hco : scope.isCoroutine = false) (hgen : scope.isGenerator = true) (hk : scope.kind = .function)
    (hcell : ∀ x ∈ scope.names, x.2 ≠ .cell) : wpAny (model prog w) A (call (.ref f) args) Q E s := by
  refine wpAny_call (codeAny_call_generator (fd := fnOf name qual params body scope dV kV doc pm an cdv ct) (body := body) hroom ((X₀.keeps F.keep) _ _ ho) rfl hco hgen rfl (codeRec_of (X₀.keeps F.keep) hcd) ?_)
  refine hbind _ _ _ _ (wpAny_newFunctionEnv hcell hloc (fun h₁ hns hsb => ?_) hk)
  have hk₁ : ∀ b o, s.heap.get? b = some o → h₁.get? b = some o := fun b o e => hsb.extBut b o (Nat.ne_of_lt (Heap.lt_size e)) (Heap.get?_push_of_some _ e)
  have lim₁ : h₁.NoLimit := (hlim.keeps F.keep).fresh _ hsb
  refine ⟨lim₁, ?_⟩
  have F₁ : Fr h₀ L h₁ m := F.keeps hk₁
  have hns' := hns
  obtain ⟨oF, es, ep, hoF, hdF, hsF, hfF⟩ := hns'
  have N₁ : News h₀ L h₁ ((s.heap.objs.size, oF) :: news) := by
    intro p hp
    rcases List.mem_cons.mp hp with rfl | hp
    · refine ⟨hoF, Nat.ne_of_gt F.ns.lt, ?_⟩
      cases e : h₀.get? s.heap.objs.size with
      | none => rfl
      | some o => exact absurd (Heap.lt_size (F.keep _ _ e)) (Nat.lt_irrefl _)
    · exact ⟨hk₁ _ _ (N p hp).1, (N p hp).2⟩
  have lt₁ : s.heap.objs.size < h₁.objs.size := hns.lt
  exact h s.heap.objs.size oF h₁.objs.size _ (h₁.push _) _ (F₁.push _) (News.push F₁ N₁ _ rfl) (fun p hp => Heap.lt_size (N p hp).1) lt₁ fun h'' e => ⟨oF, es, ep, e, hdF, hsF, hfF⟩

def GnfFlow (Q : Flow → Shared → Prop) (rest : Shared → Prop) (f : Flow) (s₃ : Shared) : Prop := match f with
  | .next => rest s₃
  | .cont => rest s₃
  | .brk => Q .next s₃
  | .ret v => Q (.ret v) s₃
def GnfTurn (prog : Program) (w : World) (A : Around) (E : Value → Shared → Prop) (env : Env) (tgt : Expr) (body : List Stmt) (Q : Flow → Shared → Prop) (rest : Shared → Prop) (r : Option Value) (s₁ : Shared) : Prop := match r with
  | none => Q .next s₁
  | some y => wpAny (model prog w) A (assign tgt env y) (fun _ s₂ => wpAny (model prog w) A (execs body env) (GnfFlow Q rest) E s₂) E s₁
def GnfRest (prog : Program) (w : World) (A : Around) (E : Value → Shared → Prop) (env : Env) (tgt : Expr) (body : List Stmt) (Q : Flow → Shared → Prop) (G : Addr) : Nat → Shared → Prop
  | 0, _ => False
  | n + 1, s => (∃ o, s.heap.get? G = some o ∧ o.cls = .type "generator") ∧ wpAny (model prog w) A (pyNext (.ref G)) (fun r s₁ => (∃ o, s₁.heap.get? G = some o ∧ o.cls = .type "generator") ∧ GnfTurn prog w A E env tgt body Q (GnfRest prog w A E env tgt body Q G n) r s₁) E s
theorem letOwned_gen {tgt : Expr} {G : Addr} {y : Value} {Q : Unit → Shared → Prop} (h : ∃ o, s.heap.get? G = some o ∧ o.cls = .type "generator") (hq : Q () s) : wpAny (model prog w) A (letOwnedTupleGo tgt (.ref G) y) Q E s := by
  obtain ⟨o, ho, hc⟩ := h
  obtain ⟨c, d, dt, sl⟩ := o
  dsimp only at hc
  subst hc
  have key : ∀ a : Addr, wpAny (model prog w) A (load G >>= fun o => match o.cls, o.data with
      | .type n, .fields vs =>
        if ["enumerate", "zip", "dict_itemiterator", "dict_reverseitemiterator", "odict_iterator", "itertools.zip_longest", "itertools.pairwise"].contains n && vs[0]? == some (rawInt a) then do
          rule "for.unpacks-the-owned-tuple"
          updateField G 0 .none
        else pure ()
      | _, _ => pure ()) Q E s := fun a => by
    refine wpAny_bind (wpAny_load ho ?_)
    cases dt with
    | fields vs =>
      have e : (["enumerate", "zip", "dict_itemiterator", "dict_reverseitemiterator", "odict_iterator", "itertools.zip_longest", "itertools.pairwise"].contains "generator") = false := by decide
      simp only [e, Bool.false_and, Bool.false_eq_true, if_false]
      exact wpAny_pure hq
    | _ => exact wpAny_pure hq
  unfold letOwnedTupleGo
  split
  · cases y <;> first | exact wpAny_pure hq | exact key _
  · cases y <;> first | exact wpAny_pure hq | exact key _
  · exact wpAny_pure hq

theorem gnf_for {env : Env} {tgt iter : Expr} {body : List Stmt} {pos : Pos} {Q : Flow → Shared → Prop} (n : Nat)
    (h : wpAny (model prog w) A (eval iter env) (fun xv s₁ => ∃ G g, xv = .ref G ∧ s₁.heap.IsGen G g ∧ GnfRest prog w A E env tgt body Q G n s₁) E s)
    (hs : ∀ x, foldedSetIterable iter env x = pure x := by intro _; rfl) (hE : PassesOwn (model prog w) A env E := by passes_own) :
    wpAny (model prog w) A (exec (.For tgt iter body [] pos) env) Q E s := by
  refine wpAny_For (wpAny_mono h (fun xv s₁ h₁ => ?_) fun _ _ z => z) hs
  obtain ⟨G, g, rfl, hg, h₂⟩ := h₁
  refine wpAny_pyIter_gen hg ?_
  refine codeAny_forLoop_any (R := fun r s' => match r with | .ok f => Q f s' | .error e => cameBackBy (model prog w) A env E e s') (fun k s' => GnfRest prog w A E env tgt body Q G k s') ?_ n h₂
  intro k s' hk
  cases k with
  | zero => exact hk.elim
  | succ k =>
    refine wpAny_passesOwn hE (wpAny_mono hk.2 (fun r s₁ hr => ?_) fun _ _ z => z)
    cases r with
    | none => exact wpAny_execs_nil hr.2
    | some y =>
      refine letOwned_gen hr.1 ?_
      refine wpAny_passesOwn hE (wpAny_mono hr.2 (fun _ s₂ h₂ => ?_) fun _ _ z => z)
      refine wpAny_passesOwn hE (wpAny_mono h₂ (fun f s₃ h₃ => ?_) fun _ _ z => z)
      cases f with
      | next => exact ⟨k, Nat.lt_succ_self k, h₃⟩
      | cont => exact ⟨k, Nat.lt_succ_self k, h₃⟩
      | brk => exact h₃
      | ret _ => exact h₃

theorem genObj_isGen {h : Heap} {G g : Nat} {nm qn : Str} {t : Tok} (e : h.get? G = some (genObj g nm qn t)) : h.IsGen G g := ⟨_, _, _, e, rfl, rfl, rfl⟩
theorem listOf_isList {h : Heap} {l : Addr} {its : Array Value} {n : Nat} (e : h.get? l = some (listOf its n)) : h.IsList l its := ⟨_, e, rfl, n, rfl⟩

theorem k_ns1 {pa pb pc pd pe pf pg ph pi pj : Pos} {env₂ : Env} {G g L₂ st n0 : Nat} {n1 n2 : Nat} {nm qn : Str} {tg : Tok} {oF : Obj} {tp : Value} {items : Array Value} {m₂ : Str → Option Value} {Q : Option Value → Shared → Prop}
    (F : Fr h₀ L s.heap m) (N : News h₀ L s.heap ((G, genObj g nm qn tg) :: (L₂, oF) :: news)) (hh : A.handled = none) (hlim : h₀.NoLimit) (hroom : A.depth < recursionLimit)
    (ne : NsEnv env₂) (hgs : s.gens[g]? = some (.fresh (.func (nsBody pa pb pc pd pe pf pg ph pi pj) env₂))) (hL : env₂.locals = L₂)
    (hF : ∀ h'' : Heap, h''.get? L₂ = some oF → h''.Ns L₂ m₂) (m1 : m₂ sSt = some (.ref st)) (m2 : m₂ sRv = some (.type "reversed"))
    (hst : (st, listOf items n1) ∈ news) (h0 : items[0]? = some (.ref n0)) (hn0 : (n0, listOf #[tp] n2) ∈ news)
    (hmore : ∀ (k : Nat) (v : Value), 0 < k → items[k]? = some v → ∃ e n, v = .ref e ∧ (e, listOf #[] n) ∈ news)
    (lts : ∀ p ∈ news, p.1 < L₂) (lG : @LT.lt Nat _ L₂ G)
    (h : ∀ (I : Nat) oI oJ h' tk' gs', Fr h₀ L h' m → News h₀ L h' ((I + 1, oJ) :: (I, oI) :: (G, genObj g nm qn tg) :: news) → (∀ p ∈ (G, genObj g nm qn tg) :: news, p.1 < I) → NsSusp prog w A L₂ I st n0 tp gs' →
      (∀ h'' : Heap, h''.get? (I + 1) = some oJ → h''.IsListIter (I + 1) n0 1) → (∀ h'' : Heap, h''.get? I = some oI → h''.IsRevIter I st (-1)) → Q (some tp) { s with heap := h', toks := tk', gens := s.gens.setIfInBounds g gs' }) :
    wpAny (model prog w) A (pyNext (.ref G)) Q E s := by
  subst hL
  have mem : ∀ {p : Addr × Obj}, p ∈ news → p ∈ (G, genObj g nm qn tg) :: (env₂.locals, oF) :: news := fun hp => .tail _ (.tail _ hp)
  have neL : ∀ {p : Addr × Obj}, p ∈ news → p.1 ≠ env₂.locals := fun hp => Nat.ne_of_lt (lts _ hp)
  refine ns_next1 ne hh (hlim.keeps F.keep) hroom (genObj_isGen (N _ (.head _)).1) hgs (hF _ (N _ (.tail _ (.head _))).1) m1 m2 h0 (listOf_isList (N _ (mem hst)).1) (listOf_isList (N _ (mem hn0)).1)
    (fun k v hk hv => let ⟨e, n, a, b⟩ := hmore k v hk hv; ⟨e, a, neL b, listOf_isList (N _ (mem b)).1⟩) (neL hst) (neL hn0) fun h' tk' gs' y1 y2 y3 y4 y5 => ?_
  have fresh : ∀ {x : Addr}, s.heap.objs.size ≤ x → x ≠ L ∧ h₀.get? x = none := fun hx => kdx_fresh F hx
  have LL : L ≠ env₂.locals := fun e => (N (env₂.locals, oF) (.tail _ (.head _))).2.1 e.symm
  have F' : Fr h₀ L h' m := ⟨F.ns.at fun o e => y4 L o LL e, fun b o e => y4 b o (fun z => by subst z; have q := (N (env₂.locals, oF) (.tail _ (.head _))).2.2; rw [e] at q; cases q) (F.keep b o e), F.above⟩
  have y2' := y2
  obtain ⟨oI, hI, cI, dI⟩ := y2'
  have y1' := y1
  obtain ⟨oJ, hJ, cJ, dJ⟩ := y1'
  refine h s.heap.objs.size oI oJ h' tk' gs' F' ?_ (fun p hp => ?_) y5 (fun h'' e => ⟨oJ, e, cJ, dJ⟩) (fun h'' e => ⟨oI, e, cI, dI⟩)
  · intro p hp
    rcases List.mem_cons.mp hp with rfl | hp
    · exact ⟨hJ, fresh (Nat.le_succ _)⟩
    · rcases List.mem_cons.mp hp with rfl | hp
      · exact ⟨hI, fresh (Nat.le_refl _)⟩
      · rcases List.mem_cons.mp hp with rfl | hp
        · have z := N _ (.head _)
          exact ⟨y4 _ _ (Nat.ne_of_gt lG) z.1, z.2⟩
        · have z := N _ (mem hp)
          exact ⟨y4 _ _ (neL hp) z.1, z.2⟩
  · rcases List.mem_cons.mp hp with rfl | hp
    · exact Heap.lt_size (N _ (.head _)).1
    · exact Heap.lt_size (N _ (mem hp)).1

theorem k_ns2 {G g L₂ I st n0 : Nat} {n2 : Nat} {nm qn : Str} {tg : Tok} {oI oJ : Obj} {tp : Value} {gs : GenState} {Q : Option Value → Shared → Prop}
    (F : Fr h₀ L s.heap m) (N : News h₀ L s.heap ((I + 1, oJ) :: (I, oI) :: (G, genObj g nm qn tg) :: news)) (hh : A.handled = none) (hlim : h₀.NoLimit) (hroom : A.depth < recursionLimit)
    (hgs : s.gens[g]? = some gs) (hS : NsSusp prog w A L₂ I st n0 tp gs) (hJ : ∀ h'' : Heap, h''.get? (I + 1) = some oJ → h''.IsListIter (I + 1) n0 1) (hI : ∀ h'' : Heap, h''.get? I = some oI → h''.IsRevIter I st (-1))
    (hn0 : (n0, listOf #[tp] n2) ∈ news) (lG : @LT.lt Nat _ G I) (lts : ∀ p ∈ news, p.1 < I)
    (h : ∀ h', Fr h₀ L h' m → News h₀ L h' ((G, genObj g nm qn tg) :: news) → Q none { s with heap := h', gens := s.gens.setIfInBounds g .finished }) :
    wpAny (model prog w) A (pyNext (.ref G)) Q E s := by
  refine ns_next2 hh (hlim.keeps F.keep) hroom (genObj_isGen (N _ (.tail _ (.tail _ (.head _)))).1) hgs hS (hJ _ (N _ (.head _)).1) (hI _ (N _ (.tail _ (.head _))).1) (listOf_isList (N _ (.tail _ (.tail _ (.tail _ hn0)))).1) fun h' hk => ?_
  have nI := N (I, oI) (.tail _ (.head _))
  have nJ := N (I + 1, oJ) (.head _)
  refine h h' ⟨F.ns.at fun o e => hk L o (Ne.symm nJ.2.1) (Ne.symm nI.2.1) e, fun b o e => hk b o (fun z => by subst z; have q := nJ.2.2; rw [e] at q; cases q) (fun z => by subst z; have q := nI.2.2; rw [e] at q; cases q) (F.keep b o e), F.above⟩ fun p hp => ?_
  have z := N p (.tail _ (.tail _ hp))
  rcases List.mem_cons.mp hp with rfl | hp
  · exact ⟨hk _ _ (Nat.ne_of_lt (Nat.lt_succ_of_lt lG)) (Nat.ne_of_lt lG) z.1, z.2⟩
  · exact ⟨hk _ _ (Nat.ne_of_lt (Nat.lt_succ_of_lt (lts p hp))) (Nat.ne_of_lt (lts p hp)) z.1, z.2⟩
end
end
section
open PySem PySem.W PyProof.Rows PySem.Calls PySem.Spec
theorem bareDone {gens : Array GenState} {x y : GenState} (h : AllBare gens) : AllBare (((gens.push x).setIfInBounds gens.size y).setIfInBounds gens.size .finished) := by
  intro z hz
  obtain ⟨i, hi⟩ := Array.mem_iff_getElem?.mp hz
  simp only [Array.getElem?_setIfInBounds, Array.size_setIfInBounds, Array.size_push, Array.getElem?_push] at hi
  by_cases e : gens.size = i
  · subst e
    simp at hi
    subst hi
    rfl
  · simp only [if_neg e, if_neg (Ne.symm e)] at hi
    exact h z (Array.mem_of_getElem? hi)
theorem newsGen {h₀ h : Heap} {L : Addr} {l : List (Addr × Obj)} {G g : Nat} {nm qn : Str} {t : Tok} (N : News h₀ L h l) (hm : (G, genObj g nm qn t) ∈ l) : ∃ o, h.get? G = some o ∧ o.cls = .type "generator" := ⟨_, (N _ hm).1, rfl⟩
theorem neA {d : Nat} {l : List (Addr × Obj)} (h : AllLt d l) : ∀ p ∈ l, p.1 ≠ d := by
  induction l with
  | nil => intro p hp; cases hp
  | cons a l ih =>
    intro p hp
    cases hp with
    | head => exact Nat.ne_of_lt h.1
    | tail _ hp => exact ih h.2 p hp
theorem ltA {d : Nat} {l : List (Addr × Obj)} (h : AllLt d l) : ∀ p ∈ l, p.1 < d := by
  induction l with
  | nil => intro p hp; cases hp
  | cons a l ih =>
    intro p hp
    cases hp with
    | head => exact h.1
    | tail _ hp => exact ih h.2 p hp
theorem farA {d : Nat} {l : List (Addr × Obj)} (h : AllLt d l) : (∀ p ∈ l, p.1 ≠ d + 1) ∧ (∀ p ∈ l, p.1 ≠ d + 1 + 1) :=
  ⟨fun p hp => Nat.ne_of_lt (Nat.lt_succ_of_lt (ltA h p hp)), fun p hp => Nat.ne_of_lt (Nat.lt_succ_of_lt (Nat.lt_succ_of_lt (ltA h p hp)))⟩
theorem newsSub {h₀ h : Heap} {L : Addr} {l l' : List (Addr × Obj)} (N : News h₀ L h l) (hs : ∀ p ∈ l', p ∈ l) : News h₀ L h l' := fun p hp => N p (hs p hp)
abbrev tupOf (vs : List Value) : Obj := { cls := .type "tuple", data := .seq vs.toArray }
end
section
open PySem PySem.Calls PyProof.Rows PySem.W PySem.Spec KFB PySem.F

abbrev bfmObj (id : String) (recv : Value) : Obj := { cls := .type "builtin_function_or_method", data := .fields #[.builtin id, recv] }
def IsBfm (h : Heap) (q : Addr) (id : String) (recv : Value) : Prop := h.get? q = some (bfmObj id recv)
section
variable {prog : Program} {w : World} {M : Model} {A : Around} {E : Value → Shared → Prop} {s : Shared} {K : Frag} {h₀ : Heap} {L : Addr} {m : Str → Option Value} {news news' : List (Addr × Obj)}
theorem bfm_of {q : Addr} {id : String} {recv : Value} {h : Heap} (N : News h₀ L h news) (hm : (q, bfmObj id recv) ∈ news) : IsBfm h q id recv := (N _ hm).1
theorem bfm_ofK {q : Addr} {id : String} {recv : Value} {h : Heap} (X : K.In h) (hm : K.lookup q = some (bfmObj id recv)) : IsBfm h q id recv := X _ _ hm

theorem callWith_bfmF {pos : Pos} {u : Addr} {id : String} {recv : Value} {first : List Value} {args : List (Bool × Sem Value)} {Q : Value → Shared → Prop} (hplain : args.any (·.1) = false)
    (h : wpAny M A (evalArgs (.ref u) true args []) (fun x s₁ => IsBfm s₁.heap u id recv ∧ wpAny M A (call (.ref u) (first ++ x.pos) x.kw) Q E s₁) E s) : wpAny M A (callWith pos (.ref u) first args []) Q E s := by
  unfold callWith
  refine wpAny_bind (wpAny_holding (wpAny_mono h (fun x s₁ h₁ => wpAny_bind (wpAny_standAt ?_)) fun _ _ x => x))
  obtain ⟨ho, hcall⟩ := h₁
  simp only [hplain, List.any_nil, Bool.or_false]
  refine wpAny_bind (m := keeperOf (.ref u)) ?_
  unfold keeperOf
  refine wpAny_bind (wpAny_load ho ?_)
  simp only [bfmObj, show (Value.type "builtin_function_or_method" != Value.type "method") = true by decide, show (Value.type "builtin_function_or_method" == Value.type "builtin_function_or_method" || Value.type "builtin_function_or_method" == Value.type "method-wrapper") = true by decide, if_true]
  refine wpAny_pure ?_
  exact wpAny_bind (wpAny_mono hcall (fun r s₂ hr => wpAny_bind (wpAny_holding (wpAny_point (wpAny_pure hr)))) fun _ _ x => x)
theorem callWith_bfm {pos : Pos} {u : Addr} {id : String} {recv : Value} {env : Env} {e : Expr} {rest : List Expr} {Q : Value → Shared → Prop}
    (h : wpAny M A (spliced (backTo pos (starEach (e :: rest) env))) (fun vs s₁ => IsBfm s₁.heap u id recv ∧ wpAny M A (call (.ref u) vs) Q E s₁) E s)
    (he : starEach (e :: rest) env = (false, eval e env) :: starEach rest env := by rfl) (hplain : (backTo pos (starEach rest env)).any (·.1) = false := by rfl) :
    wpAny M A (callWith pos (.ref u) [] (backTo pos (starEach (e :: rest) env)) []) Q E s := by
  rw [he] at h ⊢
  refine callWith_bfmF (id := id) (recv := recv) (by show (false || (backTo pos (starEach rest env)).any (·.1)) = false; rw [hplain]; rfl) ?_
  exact evalArgs_plain h

theorem call_bfm {u : Addr} {id : String} {recv : Value} {vals : List Value} {b : Builtin} {Q : Value → Shared → Prop} (ho : IsBfm s.heap u id recv) (hq : plainId id = true) (hb : entryFor table id = some b)
    (hc : ∀ {A : Around} {Q : Unit → Shared → Prop}, Q () s → wpAny (model prog w) A (checkBoundCall id ⟨recv :: vals, []⟩) Q E s)
    (h : wpAny (model prog w) (A.under (.builtin id ⟨recv :: vals, []⟩)) (b ⟨recv :: vals, []⟩) (fun fin s' => match fin with | .done (.ret v) => Q v s' | .done _ => False | .again c' => c'.quiet = true ∧ codeAny (model prog w) A c' (wants Q E) s') E s) :
    wpAny (model prog w) A (call (.ref u) vals) Q E s := by
  refine wpAny_call (codeAny_of_tree ?_)
  show wpAny _ A.in1 (callAny (.ref u) ⟨vals, []⟩) _ _ s
  simp only [callAny]
  refine wpAny_bind (wpAny_load ho ?_)
  simp only [bfmObj, show (Value.type "builtin_function_or_method" == Value.type "method" || Value.type "builtin_function_or_method" == Value.type "builtin_function_or_method" || Value.type "builtin_function_or_method" == Value.type "method-wrapper") = true by decide, if_true]
  refine if_so (by decide) ?_
  refine wpAny_bind (hc ?_)
  refine wpAny_bind (wpAny_pure (wpAny_pure ?_))
  refine ⟨plainId_quiet hq _, codeAny_builtin hb (wpAny_mono h (fun fin s' h' => ?_) fun _ _ z => z)⟩
  cases fin with
  | done f => cases f <;> first | exact h' | exact h'.elim
  | again c => exact h'

theorem isType_ref {D : Addr} {o : Obj} {A : Around} {Q : Bool → Shared → Prop} (ho : s.heap.get? D = some o) (hd : ∃ xs n, o.data = .seq xs n) (h : Q false s) : wpAny M A (isType (.ref D)) Q E s := by
  obtain ⟨xs, n, hd⟩ := hd
  unfold isType loadHead
  refine wpAny_bind (wpAny_loadPart ho ?_)
  rw [hd]
  exact wpAny_pure h
theorem check_append {D : Addr} {x : Value} {A : Around} {o : Obj} {Q : Unit → Shared → Prop} (ho : s.heap.get? D = some o) (hc : o.cls = .type "list") (hd : ∃ xs n, o.data = .seq xs n) (h : Q () s) :
    wpAny (model prog w) A (checkBoundCall "list.append" ⟨[.ref D, x], []⟩) Q E s := by
  have hT : s.TypeIs (.ref D) "list" := ⟨_, ho, hc⟩
  have e1 : Manifest.signature? "list.append" = some ((Manifest.signature? "list.append").get (by kernel_rfl)) := by simp
  have e2 : builtinKind "list.append" = some .method := by kernel_rfl
  have e3 : isSubtype (.type "list") (.type "module") = pure false := by kernel_rfl
  unfold checkBoundCall
  rw [e1, e2]
  dsimp only
  refine if_not (by decide) ?_
  refine wpAny_bind (wpAny_isInstance hT e3 ?_)
  refine if_not (by decide +kernel) ?_
  refine wpAny_bind (isType_ref ho hd ?_)
  refine if_not (by decide) ?_
  refine wpAny_bind (wpAny_typeOf hT ?_)
  dsimp only
  refine wpAny_of_eq (a := ()) (by kernel_rfl) h
theorem check_join {x : Str} {t : Tok} {v : Value} {A : Around} {Q : Unit → Shared → Prop} (h : Q () s) :
    wpAny (model prog w) A (checkBoundCall "str.join" ⟨[.str x t, v], []⟩) Q E s :=
  wpAny_of_eq (a := ()) (by kernel_rfl) h

theorem bfm_append {D u : Addr} {its : Array Value} {n : Nat} {x : Value} {Q : Value → Shared → Prop} (F : Fr h₀ L s.heap m) (N : News h₀ L s.heap news) (ho : IsBfm s.heap u "list.append" (.ref D)) (U : Upd D (listOf its n) (listOf (its.push x) (n + 1)) news news')
    (h : ∀ h', Fr h₀ L h' m → News h₀ L h' news' → Q .none { s with heap := h' }) (hsz : its.size ≤ sizeLine) : wpAny (model prog w) A (call (.ref u) [x]) Q E s := by
  obtain ⟨pre, post, rfl, rfl, a, b⟩ := U.split
  have z := N (D, listOf its n) (List.mem_append.mpr (.inr (.head _)))
  refine call_bfm ho PySem.F.slot_list_append.plain PySem.F.entry_list_append (fun q => check_append z.1 rfl ⟨_, _, rfl⟩ q) ?_
  show wpAny _ _ (updateSeq D (·.push x) >>= fun _ => ret .none) _ _ s
  refine wpAny_bind ?_
  refine wpAny_updateSeq z.1 rfl (wpAny_pure ?_)
  have hs := Heap.SameBut.update D (Obj.mapSeq (·.push x)) (h := s.heap)
  refine h _ (F.change hs z.2.1 z.2.2) (news_set N a b hs ?_)
  rw [Heap.get?_update_self _ z.1 (by rw [mapSeq_push]; rfl), mapSeq_push]

theorem bfm_join {D u : Addr} {sep : Str} {t : Tok} {l : List (Str × Tok)} {Q : Value → Shared → Prop} (ho : IsBfm s.heap u "str.join" (.str sep t)) (hl : s.heap.IsList D (strValues l).toArray)
    (hz : Builtin.Str.tooLong ((l.map (·.1)).toArray.foldl (· + ·.length + sep.length) 0) = false) (h : (joinMade sep l).post Q s) : wpAny (model prog w) A (call (.ref u) [.ref D]) Q E s := by
  refine call_bfm ho slot_str_join.plain entry_str_join (fun q => check_join q) ?_
  have hu : A.under (.builtin "str.join" ⟨[.str sep t, .ref D], []⟩) = A.in1 := Around.under_plainId slot_str_join.plain _
  rw [hu]
  refine wpAny_mono (meets_str_join_list sep t D l hz prog w A (wants Q E) s ⟨hl, ?_⟩) (fun fin s' h' => ?_) fun _ _ z => z
  · exact h
  · cases fin with
    | done f => cases f <;> exact h'
    | again c => exact h'
theorem callWith_bfmN {pos : Pos} {u : Addr} {id : String} {recv : Value} {env : Env} {e : Expr} {rest : List Expr} {Q : Value → Shared → Prop} (_N : News h₀ L s.heap news) (_hm : (u, bfmObj id recv) ∈ news)
    (h : wpAny M A (spliced (backTo pos (starEach (e :: rest) env))) (fun vs s₁ => IsBfm s₁.heap u id recv ∧ wpAny M A (call (.ref u) vs) Q E s₁) E s)
    (he : starEach (e :: rest) env = (false, eval e env) :: starEach rest env := by rfl) (hplain : (backTo pos (starEach rest env)).any (·.1) = false := by rfl) :
    wpAny M A (callWith pos (.ref u) [] (backTo pos (starEach (e :: rest) env)) []) Q E s := callWith_bfm h he hplain
theorem callWith_bfmK {pos : Pos} {u : Addr} {id : String} {recv : Value} {env : Env} {e : Expr} {rest : List Expr} {Q : Value → Shared → Prop} (_X : K.In h₀) (_hm : K.lookup u = some (bfmObj id recv))
    (h : wpAny M A (spliced (backTo pos (starEach (e :: rest) env))) (fun vs s₁ => IsBfm s₁.heap u id recv ∧ wpAny M A (call (.ref u) vs) Q E s₁) E s)
    (he : starEach (e :: rest) env = (false, eval e env) :: starEach rest env := by rfl) (hplain : (backTo pos (starEach rest env)).any (·.1) = false := by rfl) :
    wpAny M A (callWith pos (.ref u) [] (backTo pos (starEach (e :: rest) env)) []) Q E s := callWith_bfm h he hplain
end
end
section
open PySem PySem.Calls PyProof.Rows PySem.W PySem.Spec Builtin Builtin.Str
section
variable {prog : Program} {w : World} {A : Around} {E : Value → Shared → Prop} {s : Shared} {x y z : Str} {t u v : Tok} {Q : Value → Shared → Prop}
theorem replaceP (hu : u ≠ 0) (hv : v ≠ 0) (huv : u ≠ v) (hyz : (y == z) = false) (hb : x.length + (x.length + 1) * z.length ≤ 16777216)
    (hc : ((occurrences x y 0 x.length (x.length + 1)).isEmpty || (y.length == 0 && z.length == 0)) = false)
    (hq : Q (.str (Txt.replace x y z) s.toks) { s with toks := s.toks + 1 }) : wpAny (model prog w) A (call (.builtin "str.replace") [.str x t, .str y u, .str z v]) Q E s := by
  have e : (2 : Nat) ^ 24 = 16777216 := by decide
  have hl : tooLong (x.length + (occurrences x y 0 x.length (x.length + 1)).length * z.length) = false := by
    have h1 := StrLaws.occ_length_le x y 0 x.length (x.length + 1)
    have h2 : (occurrences x y 0 x.length (x.length + 1)).length * z.length ≤ (x.length + 1) * z.length := Nat.mul_le_mul_right _ h1
    unfold tooLong sizeLine
    exact decide_eq_false (by lia)
  refine call_gives F.slot_str_replace (typeIs_str _ _ _) F.entry_str_replace (F.args_str_replace_3 _ _ _)
    (gives_str_replace x y z t u v fun _ => ⟨by simp [hu, hv], by simp [huv], hyz, hl⟩) ?_
  have hq' := hq
  unfold Txt.replace at hq'
  rw [hc] at hq'
  simp only [hc, Bool.false_eq_true, if_false] at hq' ⊢
  exact ⟨fits_replaced y hb, hq'⟩
end
theorem occ_pos {c : Prop} [Decidable c] {a b : Prop} (h : c) (x : a) : if c then a else b := by rw [if_pos h]; exact x
theorem occ_neg {c : Prop} [Decidable c] {a b : Prop} (h : ¬ c) (x : b) : if c then a else b := by rw [if_neg h]; exact x
end
section
open PySem PySem.Calls PyProof.Rows PySem.W PySem.Spec KFB
section
variable {prog : Program} {w : World} {A : Around} {E : Value → Shared → Prop} {s : Shared} {h₀ : Heap} {L : Addr} {m : Str → Option Value} {news news' : List (Addr × Obj)}
def selC (start stop step : Int) (i : Nat) : Bool :=
  if step > 0 then start ≤ i && i < stop && (i - start) % step == 0
  else stop < i && i ≤ start && (start - i) % (-step) == 0
theorem selects_all (n k : Nat) (h : k < n) : selC 0 n 1 k = true := by
  unfold selC
  simp
  lia
theorem none_left {xs : Array Value} {f : Value × Nat → Option Value} (h : ∀ x k, k < xs.size → f (x, k) = none) : (xs.toList.zipIdx.filterMap f).toArray = #[] := by
  have : xs.toList.zipIdx.filterMap f = [] := by
    rw [List.filterMap_eq_nil_iff]
    rintro ⟨x, k⟩ hk
    have := List.mem_zipIdx hk
    simp at this
    exact h x k this.1
  rw [this]
theorem delAll {D sl : Addr} {its : Array Value} {n : Nat} {Q : Unit → Shared → Prop} (F : Fr h₀ L s.heap m) (N : News h₀ L s.heap news) (U : Upd D (listOf its n) (listOf #[] (n + 1)) news news')
    (hs : s.heap.IsSliceOf sl .none .none .none)
    (h : ∀ h', Fr h₀ L h' m → News h₀ L h' news' → Q () { s with heap := h' }) (hsz : its.size ≤ sizeLine) (hne : its.size ≠ 0) : wpAny (model prog w) A (delItem (.ref D) (.ref sl)) Q E s := by
  obtain ⟨pre, post, rfl, rfl, a, b⟩ := U.split
  have z := N (D, listOf its n) (List.mem_append.mpr (.inr (.head _)))
  obtain ⟨os, hos, hcs, hds⟩ := id hs
  have hT : s.TypeIs (.ref D) "list" := ⟨_, z.1, rfl⟩
  have hTs : s.TypeIs (.ref sl) "slice" := ⟨os, hos, hcs⟩
  refine wpAny_delItem_slot hT (by decide) PySem.F.slot_list_delitem ?_
  refine wpAny_call_entry PySem.F.slot_list_delitem hT PySem.F.entry_list_delitem ?_ (PySem.F.args_list_delitem_2 _ _)
  show wpAny _ _ (Builtin.List.listSubscript? (.ref sl) >>= _) _ _ s
  refine wpAny_bind ?_
  unfold Builtin.List.listSubscript?
  refine wpAny_bind (wpAny_specialOf hTs slice_no_index ?_)
  simp only [Option.isNone_none, if_true]
  refine wpAny_pure ?_
  show wpAny _ _ (typeOf (.ref sl) >>= _) _ _ s
  refine wpAny_bind (wpAny_typeOf hTs ?_)
  rw [if_neg (by decide)]
  rw [listSliceParts_eq]
  have hstep : ¬ ((rawPart none == rawInt 0) = true) := Bool.false_ne_true
  refine wpAny_bind (wpAny_bind (wpAny_field hos hds (x := .none) rfl (wpAny_bind (wpAny_listPart .none ?_))))
  rw [if_neg hstep]
  refine wpAny_bind (wpAny_field hos hds (x := .none) rfl (wpAny_bind (wpAny_listPart .none ?_)))
  refine wpAny_bind (wpAny_field hos hds (x := .none) rfl (wpAny_bind (wpAny_listPart .none (wpAny_pure ?_))))
  refine wpAny_bind (m := Builtin.List.listItems (.ref D)) ?_
  unfold Builtin.List.listItems
  refine wpAny_bind (wpAny_seqItems z.1 rfl (wpAny_pure ?_))
  refine wpAny_bind (wpAny_of_eq (sliceIndices_raw none none none its.size (by simp)) ?_)
  refine wpAny_bind (wpAny_rule ?_)
  refine wpAny_bind ?_
  show wpAny _ _ (updateSeq D _) _ _ s
  have zz : listOf its n = { cls := .type "list", data := .seq its n } := rfl
  refine wpAny_updateSeq z.1 rfl ?_ hsz ?_
  · refine wpAny_bind (wpAny_letGo (wpAny_pure ⟨_, rfl, ?_⟩))
    refine h _ (F.change (Heap.SameBut.update ..) z.2.1 z.2.2) (kl_turn _ N a b ?_ ?_)
    · refine none_left fun x k hk => ?_
      exact if_pos (selects_all its.size k hk)
    · exact Ne.symm hne
  · refine Nat.le_succ_of_le ?_
    refine Nat.le_trans (Nat.le_of_eq ?_) (Nat.zero_le _)
    refine (congrArg Array.size (none_left (xs := its) fun x k hk => ?_)).trans rfl
    exact if_pos (selects_all its.size k hk)
theorem sliceOf_news {sl : Addr} {h : Heap} (N : News h₀ L h news) (hm : (sl, ({ cls := .type "slice", data := .fields #[.none, .none, .none] } : Obj)) ∈ news) : h.IsSliceOf sl .none .none .none := ⟨_, N.get hm, rfl, rfl⟩
theorem upd_mem {D : Addr} {o o' : Obj} {l l' : List (Addr × Obj)} (U : Upd D o o' l l') : (D, o) ∈ l := by
  obtain ⟨pre, post, rfl, _, _, _⟩ := U.split
  exact List.mem_append.mpr (.inr (.head _))
theorem delAllP {D : Addr} {its : Array Value} {n : Nat} {Q : Unit → Shared → Prop} {h : Heap} {g : Array GenState} {d : Drawn} {t : Nat} {os : OsState} (F : Fr h₀ L h m) (N : News h₀ L h news) (U : Upd D (listOf its n) (listOf #[] (n + 1)) news news')
    (hQ : ∀ h', Fr h₀ L h' m → News h₀ L h' news' → Q () ⟨h', g, d, t, os⟩) (hsz : its.size ≤ sizeLine) (hne : its.size ≠ 0) :
    wpAny (model prog w) A (delItem (.ref D) (.ref h.objs.size)) Q E ⟨h.push { cls := .type "slice", data := .fields #[.none, .none, .none] }, g, d, t, os⟩ := by
  refine delAll (F.push _) (News.push F N _ rfl) (Upd.tail (p := (h.objs.size, _)) ?_ U) (sliceOf_news (News.push F N _ rfl) (.head _)) (fun h' F' N' => hQ h' F' (newsSub N' fun p hp => .tail _ hp)) hsz hne
  exact Nat.ne_of_gt (Heap.lt_size (N.get (upd_mem U)))
end
end
section
open PySem PySem.Calls PyProof.Rows PySem.W PySem.Spec
abbrev oneSet (hs : Int) (x : Value) (t : SetTable) : Obj := { cls := .type "set", dict := none, data := .set #[(hs, x)] 1 t }
def LowT0 (led : Bool) (t : SetTable) : Prop := t.mask = 7 ∧ t.fill = 1 ∧ t.fits 1 = true ∧ t.led = led
def LowT (led : Bool) (t : SetTable) : Prop := t.mask = 7 ∧ t.fill = 1 ∧ t.fits 1 = true ∧ t.led = led ∧ t.plain = false
abbrev ledOf (w : World) : Bool := !(w.params.followText "set-order")
theorem fresh_probe (led : Bool) (f : Nat → Int) (hs : Int) : (SetTable.fresh 0 0 led).probe f hs ((SetTable.fresh 0 0 led).probeStart hs) = some (.empty ((SetTable.fresh 0 0 led).probeStart hs).j none) := by
  unfold SetTable.probe
  show SetTable.probe.go _ f hs (9 + 211) _ = _
  rfl
theorem layNew_fresh (led : Bool) (hs : Int) (x : Value) : ∃ t, layNew (SetTable.fresh 0 0 led) #[] hs x = (#[(hs, x)], t, false, false) ∧ LowT0 led t := by
  unfold layNew SetTable.freeSlot
  rw [fresh_probe]
  exact ⟨_, rfl, rfl, rfl, rfl, rfl⟩
theorem low_plain {led : Bool} {t : SetTable} (h : LowT0 led t) : LowT led { t with plain := false } := ⟨h.1, h.2.1, h.2.2.1, h.2.2.2, rfl⟩
theorem low_full {led : Bool} {t : SetTable} (h : LowT led t) : t.tooFull = false := by
  unfold SetTable.tooFull
  rw [h.1, h.2.1]
  decide
theorem low_room {led : Bool} {t : SetTable} (h : LowT led t) (k : Nat) (hk : k ≤ 2) : t.roomFor k = none := by
  unfold SetTable.roomFor
  rw [h.1, h.2.1, if_neg]
  show ¬ ((1 + k) * 5 ≥ 21)
  lia
section
variable {prog : Program} {w : World} {A : Around} {E : Value → Shared → Prop} {s : Shared} {h₀ : Heap} {L : Addr} {m : Str → Option Value} {news : List (Addr × Obj)} {g : Obj → List (Addr × Obj)}
theorem setAdd_first {D : Addr} {led : Bool} {x : Str} {tx : Tok} {Q : Bool → Shared → Prop} (F : Fr h₀ L s.heap m) (N : News h₀ L s.heap news)
    (U : UpdF D { cls := .type "set", dict := none, data := .set #[] 0 (.fresh 0 0 led) } news g)
    (h : ∀ h' t, LowT led t → Fr h₀ L h' m → News h₀ L h' (g (oneSet ((strKind prog w).hash x) (.str x tx) t)) → Q true { s with heap := h', toks := s.toks + 1 }) :
    wpAny (model prog w) A (setAdd D (.str x tx)) Q E s := by
  obtain ⟨pre, post, rfl, hg, a, b⟩ := U.split
  have hm := N (D, _) (List.mem_append_right _ (.head _))
  have hkey : (strKind prog w).is x (.str x tx) = true := strKind_is _ _ _ _
  have ho := hm.1
  have hd : ({ cls := .type "set", dict := none, data := .set #[] 0 (.fresh 0 0 led) } : Obj).data = .set #[] 0 (.fresh 0 0 led) := rfl
  have hf : (SetTable.fresh 0 0 led).fits (#[] : Array (Int × Value)).size = true := rfl
  have hel : ElemsOf (strKind prog w) (#[] : Array (Int × Value)).toList := fun e he => by simp at he
  unfold setAdd
  refine wpAny_holding (wpAny_bind ((strKind prog w).pyHash hkey ?_))
  unfold setAddHashed setAddHashedIn
  refine wpAny_holding (wpAny_bind (wpAny_setState_of ho hd hf ?_))
  dsimp only
  rw [byScan_of rfl (by decide) hel]
  simp only [↓reduceIte]
  unfold setAddByScan
  refine wpAny_bind ?_
  refine wpAny_bind (wpAny_rule ?_)
  refine wpAny_bind (wpAny_setScan_of hkey ho hd hf hel ?_)
  obtain ⟨t, e, ht⟩ := layNew_fresh led ((strKind prog w).hash x) (.str x tx)
  simp only [List.findIdx?_nil]
  rw [e]
  dsimp only
  have fin : ∀ t', LowT led t' → Q true { s with heap := s.heap.update D (Obj.putSet #[((strKind prog w).hash x, .str x tx)] t'), toks := s.toks + 1 } := fun t' h' => by
    refine h _ t' h' (F.change (Heap.SameBut.update ..) hm.2.1 hm.2.2) (hg _ ▸ N.setIn a b (Heap.SameBut.update ..) ?_)
    have q := Heap.get?_update_self (Obj.putSet #[((strKind prog w).hash x, .str x tx)] t') ho (by rw [putSet_of _ t' hd]; rfl)
    rw [putSet_of _ t' hd] at q
    exact q
  refine wpAny_bind (wpAny_of_eq (a := ()) rfl ?_)
  split
  · refine wpAny_bind ?_
    rw [hashByValue_scannable 8 rfl]
    refine wpAny_pure ?_
    refine wpAny_bind (wpAny_storeSet_of ho hd ?_ (by show 1 ≤ sizeLine; decide))
    rw [if_neg (fun hb => by
      have hb' : ((!false && ({ t with plain := false } : SetTable).tooFull) = true) := hb
      rw [low_full (low_plain ht)] at hb'
      cases hb')]
    exact wpAny_pure (wpAny_pure (fin _ (low_plain ht)))
  · rename_i hpl
    have hpl' : t.plain = false := by simpa using hpl
    have ht' : LowT led t := ⟨ht.1, ht.2.1, ht.2.2.1, ht.2.2.2, hpl'⟩
    refine wpAny_bind (wpAny_pure ?_)
    refine wpAny_bind (wpAny_storeSet_of ho hd ?_ (by show 1 ≤ sizeLine; decide))
    rw [if_neg (fun hb => by
      have hb' : ((!false && t.tooFull) = true) := hb
      rw [low_full ht'] at hb'
      cases hb')]
    exact wpAny_pure (wpAny_pure (fin _ ht'))
theorem sub_dict_set : isSubtype (.type "dict") (.type "set") = pure false := by kernel_rfl
theorem sub_dict_fset : isSubtype (.type "dict") (.type "frozenset") = pure false := by kernel_rfl
theorem dict_parts {o : Obj} {kvs : List (Str × Value)} (h : o.IsDictOf (strKind prog w) kvs) : ∃ es ep, o.cls = .type "dict" ∧ o.data = .dict es ep ∧ es.size = kvs.length := by
  obtain ⟨es, ep, hx, hd, _, hp, _⟩ := h
  exact ⟨es, ep, hx.1, hd, by rw [← hp.length]; simp⟩
theorem dictAt_of {o : Obj} {h : Heap} {a : Addr} {kvs : List (Str × Value)} (ho : h.get? a = some o) (x : o.IsDictOf (strKind prog w) kvs) : ∃ ep, h.DictAt (strKind prog w) a kvs ep := by
  obtain ⟨es, ep, hx, hd, hk, hp, hn⟩ := x
  exact ⟨ep, o, es, ho, hx, hd, hk, hp, hn⟩
theorem fr_ext {h h' : Heap} {I : Addr} (F : Fr h₀ L h m) (hI : I ≠ L ∧ h₀.get? I = none) (hx : Heap.ExtBut I h h') : Fr h₀ L h' m :=
  ⟨F.ns.extBut hx (Ne.symm hI.1), fun b o e => hx b o (fun q => by subst q; rw [hI.2] at e; cases e) (F.keep b o e), F.above⟩
theorem news_ext {h h' : Heap} {I : Addr} (N : News h₀ L h news) (hn : ∀ p ∈ news, p.1 ≠ I) (hx : Heap.ExtBut I h h') : News h₀ L h' news := fun p hp => ⟨hx _ _ (hn p hp) (N p hp).1, (N p hp).2⟩
theorem news_push0 {h : Heap} {o : Obj} (N : News h₀ L h news) : News h₀ L (h.push o) news := fun p hp => ⟨Heap.get?_push_of_some _ (N p hp).1, (N p hp).2⟩
theorem star0 {D at_ : Addr} {oA : Obj} {hs : Int} {x : Value} {t : SetTable} {led : Bool} {Q : Unit → Shared → Prop} (F : Fr h₀ L s.heap m) (N : News h₀ L s.heap news) (hh : A.handled = none)
    (hA : (at_, oA) ∈ news) (hd : oA.IsDictOf (strKind prog w) []) (hsm : (at_ == sysModules) = false) (hD : (D, oneSet hs x t) ∈ news) (ht : LowT led t)
    (h : ∀ h', Fr h₀ L h' m → News h₀ L h' news → Q () { s with heap := h' }) :
    wpAny (model prog w) A (setDisplayStar D (.ref at_)) Q E s := by
  obtain ⟨es, ep, hc, hdd, hsz⟩ := dict_parts hd
  have ho := N.get hA
  have hT : s.TypeIs (.ref at_) "dict" := ⟨_, ho, hc⟩
  unfold setDisplayStar
  dsimp only
  refine wpAny_bind (wpAny_isInstance hT sub_dict_set ?_)
  simp only [Bool.false_eq_true, if_false]
  refine wpAny_bind (wpAny_isInstance hT sub_dict_fset ?_)
  refine wpAny_bind (wpAny_askSetting ?_)
  have loop : wpAny (model prog w) A (do let _ ← runValue (.builtin "set.update.loop" ⟨[.ref D, ← pyIter (.ref at_)], []⟩)) Q E s := by
    obtain ⟨ep, hm⟩ := dictAt_of ho hd
    refine wpAny_bind (wpAny_pyIter_dict hsm hm ?_)
    refine wpAny_bind (wpAny_runValue ?_)
    refine codeAny_builtin PyProof.Rows.F.entry_set_update_loop ?_
    rw [Around.under_plainId PyProof.Rows.F.plain_set_update_loop]
    show wpAny _ _ (pyNext (.ref s.heap.objs.size) >>= _) _ _ _
    obtain ⟨om, em, e1, e2, e3, e4, e5, e6⟩ := hm
    refine wpAny_bind (wpAny_pyNext_dict_end (d := at_) (i := 0) (ep := ep) (kvs := []) (knd := strKind prog w) hh ⟨_, Heap.get?_push_size _ rfl, rfl, rfl⟩ ⟨om, em, Heap.get?_push_of_some _ e1, e2, e3, e4, e5, e6⟩ rfl fun h' hx => ?_)
    refine wpAny_pure ?_
    refine wpAny_pure (h _ (fr_ext (F.push _) (kdx_fresh F (Nat.le_refl _)) hx) (news_ext (news_push0 N) (fun p hp => Nat.ne_of_lt (Heap.lt_size (N p hp).1)) hx))
  have hes : es = #[] := Array.eq_empty_of_size_eq_zero hsz
  subst hes
  cases hb : (w.params.followText "set-display-star-reads-storage")
  · rw [if_neg (by rw [show ({ program := (model prog w).prog, params := (model prog w).w.params } : Setting).params = w.params from rfl, hb]; exact Bool.false_ne_true)]
    dsimp only
    rw [if_neg Bool.false_ne_true]
    refine wpAny_bind (wpAny_typeOf hT ?_)
    rw [if_pos (by decide)]
    refine wpAny_bind (wpAny_rule ?_)
    rw [if_neg (by rw [hsm]; exact Bool.false_ne_true)]
    refine wpAny_bind (wpAny_dictEpoch ho hdd ?_)
    refine wpAny_bind (wpAny_dictEntries ho hdd ?_)
    refine wpAny_bind (m := setRoomFor D 0) ?_
    unfold setRoomFor
    refine wpAny_bind (wpAny_setState_of (N.get hD) rfl ht.2.2.1 ?_)
    dsimp only
    rw [low_room ht 0 (by decide)]
    refine wpAny_pure ?_
    rw [Std.Legacy.Range.forIn_eq_forIn_range']
    exact wpAny_bind (wpAny_pure (wpAny_pure (h _ F N)))
  · rw [if_pos (by exact hb)]
    exact loop
theorem str_of_is {k : Str} {v : Value} (h : (strKind prog w).is k v = true) : ∃ t, v = .str k t := Value.isStrOf_shape h
theorem newSet_led {Q : Value → Shared → Prop} (h : Q (.ref s.heap.objs.size) { s with heap := s.heap.push { cls := .type "set", dict := none, data := .set #[] 0 (.fresh 0 0 (ledOf w)) } }) : wpAny (model prog w) A (newSet (.type "set")) Q E s := by
  unfold newSet setsByText
  refine wpAny_bind (wpAny_bind (wpAny_askSetting (wpAny_pure ?_)))
  dsimp only
  simp only [newObj]
  exact wpAny_bind (wpAny_alloc (wpAny_pure h))
theorem set_star {K : Frag} {e d : PySem.Expr} {pos p2 : Pos} {env : Env} {Q : Value → Shared → Prop} (F : Fr h₀ L s.heap m) (N : News h₀ L s.heap news) (X : K.In h₀) (hc : kdsCode K env.code = true)
    (h : ∀ (D : Nat) h', Fr h₀ L h' m → News h₀ L h' ((D, { cls := .type "set", dict := none, data := .set #[] 0 (.fresh 0 0 (ledOf w)) }) :: news) → (∀ p ∈ news, p.1 < D) →
      wpAny (model prog w) A (eval e env) (fun v s1 => wpAny (model prog w) A (setAdd D v) (fun _ s2 => wpAny (model prog w) A (eval d env) (fun dv s3 => wpAny (model prog w) A (setDisplayStar D dv) (fun _ s4 => Q (.ref D) s4) E s3) E s2) E s1) E { s with heap := h' })
    (hs : starEach [e, .Starred d p2] env = [(false, eval e env), (true, eval d env)] := by rfl) :
    wpAny (model prog w) A (eval (.Set [e, .Starred d p2] 0 pos) env) Q E s := by
  rw [arm_eval_Set]
  refine wpAny_bind (wpAny_standAt ?_)
  refine wpAny_bind (kds_main (X.keeps F.keep) hc fun b => ?_)
  rw [hs]
  unfold setDisplay
  try dsimp only
  have hr : displayRoad 0 [e, .Starred d p2] = .oneByOne := rfl
  rw [hr, if_neg (by decide)]
  refine wpAny_bind (newSet_led ?_)
  dsimp only
  have h1 := h _ _ (F.push _) (News.push F N { cls := .type "set", dict := none, data := .set #[] 0 (.fresh 0 0 (ledOf w)) } rfl) (fun p hp => Heap.lt_size (N p hp).1)
  refine wpAny_bind (wpAny_holding ?_)
  refine wpAny_bind (m := evalAll [do let v ← eval e env; standAt pos; pure v]) ?_
  show wpAny _ _ ((eval e env >>= fun v => standAt pos >>= fun _ => pure v) >>= fun v => holding [v] (evalAll []) >>= fun r => pure (v :: r)) _ _ _
  refine wpAny_bind (wpAny_bind (wpAny_mono h1 (fun v s1 q1 => ?_) fun _ _ z => z))
  refine wpAny_bind (wpAny_standAt (wpAny_pure ?_))
  refine wpAny_bind (wpAny_holding (wpAny_pure (wpAny_pure ?_)))
  refine wpAny_bind (wpAny_holding (wpAny_bind ?_))
  rw [List.forIn_cons]
  refine wpAny_bind (wpAny_bind (wpAny_mono q1 (fun _ s2 q2 => ?_) fun _ _ z => z))
  refine wpAny_pure ?_
  dsimp only
  rw [List.forIn_nil]
  refine wpAny_pure ?_
  rw [if_neg (by decide)]
  refine wpAny_pure ?_
  show wpAny _ _ (forIn [(true, _)] _ _ >>= _) _ _ _
  rw [List.forIn_cons]
  refine wpAny_bind (wpAny_bind (wpAny_bind (wpAny_bind (wpAny_mono q2 (fun dv s3 q3 => ?_) fun _ _ z => z))))
  refine wpAny_bind (wpAny_standAt (wpAny_pure ?_))
  simp only [↓reduceIte]
  refine wpAny_bind (wpAny_holding (wpAny_mono q3 (fun _ s4 q4 => ?_) fun _ _ z => z))
  refine wpAny_pure ?_
  dsimp only
  rw [List.forIn_nil]
  exact wpAny_pure (wpAny_pure (wpAny_pure q4))
end
end
section
open PySem PySem.Calls PyProof.Rows PySem.W PySem.Spec
theorem slot_sit_next : Slot "set_iterator" "__next__" "set_iterator.__next__" :=
  .of (owner := "set_iterator") (n := "__next__") (by rw [typeLookup_type, builtinLookup_eq_fast]; kernel_rfl) (by decide +kernel) (by decide +kernel) (by decide +kernel)
    (by first | exact .inl (by decide +kernel) | exact .inr (by decide +kernel)) (by rw [isSubtype_type]; kernel_rfl)
theorem entry_sit_next : entryFor table "set_iterator.__next__" = some Builtin.«set_iterator.__next__» := entryFor_of_tree (by kernel_rfl)
theorem args_sit_next (a : Value) : argsOk "set_iterator.__next__" ⟨[a], []⟩ := by unfold argsOk; kernel_rfl
theorem entry_set_it : entryFor table "set.__iter__" = some Builtin.«frozenset.__iter__» :=
  entryFor_alias (id' := "frozenset.__iter__") (by kernel_rfl) rfl (by decide +kernel) (by kernel_rfl)
section
variable {prog : Program} {w : World} {A : Around} {E : Value → Shared → Prop} {s : Shared}
abbrev setIt (D : Addr) (slot i : Nat) : Obj := { cls := .type "set_iterator", data := .fields #[.int slot 0, .int i 0, .ref D, .int 1 0, .int 1 0] }
end
end
section
open PySem PySem.Calls PyProof.Rows PySem.W PySem.Spec

def pairT (prog : Program) (w : World) (x : Str × Tok) : Int × Value := ((strKind prog w).hash x.1, .str x.1 x.2)
def TSet (prog : Program) (w : World) (o : Obj) (ks : List (Str × Tok)) : Prop :=
  ∃ es ep t, o = ({ cls := .type "set", dict := none, data := .set es ep t } : Obj) ∧ t.fits es.size = true ∧ t.led = ledOf w ∧ t.plain = false ∧
    es.toList.Perm (ks.map (pairT prog w)) ∧ (ks.map (·.1)).Nodup

theorem layNew_led (t : SetTable) (es : Array (Int × Value)) (h : Int) (x : Value) : (layNew t es h x).2.1.led = t.led := by
  unfold layNew
  split
  · show (SetTable.orStandIn _ _).led = _
    unfold SetTable.orStandIn
    split <;> rfl
  · rfl
theorem layNew_plain (t : SetTable) (es : Array (Int × Value)) (h : Int) (x : Value) (hp : t.plain = false) : (layNew t es h x).2.1.plain = false := by
  unfold layNew
  split
  · show (SetTable.orStandIn _ _).plain = _
    unfold SetTable.orStandIn
    split
    · exact hp
    · rfl
  · rfl
theorem wpAny_choose {M : Model} {A : Around} {E : Value → Shared → Prop} {s : Shared} {src : Source} {n : Nat} {Q : Nat → Shared → Prop} (hn : 0 < n)
    (h : ∀ i d, i < n → Q i { s with drawn := d }) : wpAny M A (choose src n) Q E s := by
  intro Γ p hΓ
  show Sem.wp M Γ (.choose src n .pure) _ _ p s
  rw [Sem.wp_choose]
  exact ⟨Nat.ne_of_gt hn, h _ _ (Nat.mod_lt _ hn)⟩
theorem wpAny_drawOrder {α : Type} {M : Model} {A : Around} {E : Value → Shared → Prop} : ∀ (n : Nat) (l : List α) {s : Shared} {Q : List α → Shared → Prop}, l.length ≤ n →
    (∀ l' d, l'.Perm l → Q l' { s with drawn := d }) → wpAny M A (drawOrder n l) Q E s
  | 0, l, s, Q, hl, h => by
    have : l = [] := List.length_eq_zero_iff.mp (by lia)
    subst this
    exact wpAny_pure (h [] s.drawn .rfl)
  | n + 1, [], s, Q, hl, h => wpAny_pure (h [] s.drawn .rfl)
  | n + 1, a :: l, s, Q, hl, h => by
    unfold drawOrder
    refine wpAny_bind (wpAny_choose (by simp) fun i d hi => ?_)
    rw [List.getElem?_eq_getElem hi]
    refine wpAny_bind (wpAny_drawOrder n ((a :: l).eraseIdx i) (by rw [List.length_eraseIdx]; simp only [hi, if_true]; simp only [List.length_cons] at *; lia) fun l' d' hp => ?_)
    refine wpAny_pure (h _ _ ?_)
    have hp2 := List.Perm.cons ((a :: l)[i]) hp
    refine hp2.trans ?_
    rw [List.eraseIdx_eq_take_drop_succ]
    have e : a :: l = (a :: l).take i ++ (a :: l)[i] :: (a :: l).drop (i + 1) := by rw [← List.drop_eq_getElem_cons hi, List.take_append_drop]
    exact List.perm_middle.symm.trans (List.Perm.of_eq e.symm)
theorem pick_go {α : Type} (f : Nat → Nat) : ∀ (fuel k : Nat) (l : List α) (out : Array α), l.length ≤ fuel → (pickOrder.go f fuel k l out).toList.Perm (out.toList ++ l)
  | 0, k, l, out, hl => by
    have : l = [] := List.length_eq_zero_iff.mp (by lia)
    subst this
    simp [pickOrder.go]
  | fuel + 1, k, [], out, hl => by
    have : pickOrder.go f (fuel + 1) k [] out = out := by simp [pickOrder.go]
    rw [this]; simp
  | fuel + 1, k, a :: l, out, hl => by
    have hi : f k % (a :: l).length < (a :: l).length := Nat.mod_lt _ (by simp)
    have e0 : pickOrder.go f (fuel + 1) k (a :: l) out = pickOrder.go f fuel (k + 1) ((a :: l).eraseIdx (f k % (a :: l).length)) (out.push ((a :: l)[f k % (a :: l).length])) := by
      show (match (a :: l)[f k % (a :: l).length]? with | some x => _ | none => _) = _
      rw [List.getElem?_eq_getElem hi]
    rw [e0]
    refine (pick_go f fuel (k + 1) _ _ (by rw [List.length_eraseIdx]; simp only [hi, if_true]; simp only [List.length_cons] at *; lia)).trans ?_
    rw [Array.toList_push, List.append_assoc]
    refine List.Perm.append_left _ ?_
    rw [List.eraseIdx_eq_take_drop_succ]
    have e : a :: l = (a :: l).take (f k % (a :: l).length) ++ (a :: l)[f k % (a :: l).length] :: (a :: l).drop (f k % (a :: l).length + 1) := by rw [← List.drop_eq_getElem_cons hi, List.take_append_drop]
    exact List.Perm.trans (List.perm_middle (l₁ := (a :: l).take (f k % (a :: l).length))).symm (List.Perm.of_eq e.symm)
theorem pick_perm {α : Type} (f : Nat → Nat) (xs : Array α) : (pickOrder f xs).toList.Perm xs.toList := by
  unfold pickOrder
  have := pick_go f xs.size 0 xs.toList #[] (by simp)
  simpa using this

theorem laid_led {mask finger moves : Nat} {led plain : Bool} {hs : Array Int} {r : SetTable × Array Nat} (h : SetTable.laid mask finger moves led plain hs = some r) : r.1.led = led ∧ r.1.plain = plain := by
  unfold SetTable.laid at h
  cases q : SetTable.layClean mask hs with
  | none => rw [q] at h; cases h
  | some o => rw [q] at h; cases h; exact ⟨rfl, rfl⟩
theorem relayAll_led (t : SetTable) (es : Array (Int × Value)) (n : Nat) : (relayAll t es n).2.1.led = t.led := by
  unfold relayAll
  split
  · rename_i t' order h
    have q := laid_led h
    dsimp only
    split <;> first | exact q.1 | rfl
  · rfl
theorem relayAll_plain (t : SetTable) (es : Array (Int × Value)) (n : Nat) (hp : t.plain = false) : (relayAll t es n).2.1.plain = false := by
  unfold relayAll
  split
  · rename_i t' order h
    have q := laid_led h
    dsimp only
    split <;> first | exact q.2.trans hp | rfl
  · rfl
section
variable {prog : Program} {w : World} {A : Around} {E : Value → Shared → Prop} {s : Shared} {h₀ : Heap} {L : Addr} {m : Str → Option Value} {news : List (Addr × Obj)} {g : Obj → List (Addr × Obj)} {o : Obj} {ks : List (Str × Tok)}
theorem elems_of {es : Array (Int × Value)} (hp : es.toList.Perm (ks.map (pairT prog w))) : ElemsOf (strKind prog w) es.toList := fun e he => by
  obtain ⟨x, _, rfl⟩ := List.mem_map.mp (hp.mem_iff.mp he)
  exact ⟨⟨x.1, strKind_is _ _ _ _, rfl⟩, rfl⟩
theorem size_of {es : Array (Int × Value)} (hp : es.toList.Perm (ks.map (pairT prog w))) : es.size = ks.length := by
  have := hp.length_eq
  simpa using this
theorem tset_addHashed {D : Addr} {x : Str} {tx : Tok} {Q : Bool → Shared → Prop} (F : Fr h₀ L s.heap m) (N : News h₀ L s.heap news) (U : UpdF D o news g) (hs : TSet prog w o ks) (hx : x ∉ ks.map (·.1)) (hb : ks.length < 1000)
    (h : ∀ h' o', Fr h₀ L h' m → News h₀ L h' (g o') → TSet prog w o' ((x, tx) :: ks) → Q true { s with heap := h' }) :
    wpAny (model prog w) A (setAddHashed D (.str x tx) ((strKind prog w).hash x)) Q E s := by
  obtain ⟨pre, post, rfl, hg, a, b⟩ := U.split
  obtain ⟨es, ep, t, rfl, hf, hl, hpl, hp, hn⟩ := hs
  have hm := N (D, _) (List.mem_append_right _ (.head _))
  have ho := hm.1
  have hkey : (strKind prog w).is x (.str x tx) = true := strKind_is _ _ _ _
  have hel := elems_of hp
  have hsz := size_of hp
  have hsc : es.size < scanBound := by rw [hsz]; have : scanBound = 4096 := rfl; lia
  have hno : es.toList.findIdx? (fun e => (strKind prog w).is x e.2) = none := by
    rw [List.findIdx?_eq_none_iff]
    intro e he
    obtain ⟨y, hy, rfl⟩ := List.mem_map.mp (hp.mem_iff.mp he)
    cases q : (strKind prog w).is x (pairT prog w y).2 with
    | false => rfl
    | true =>
      exfalso
      apply hx
      obtain ⟨_, q'⟩ := str_of_is q
      have : y.1 = x := by injection q'
      exact this ▸ List.mem_map_of_mem hy
  unfold setAddHashed setAddHashedIn
  refine wpAny_holding (wpAny_bind (wpAny_setState_of ho rfl hf ?_))
  dsimp only
  rw [byScan_of rfl hsc hel]
  simp only [↓reduceIte]
  unfold setAddByScan
  refine wpAny_bind ?_
  refine wpAny_bind (wpAny_rule ?_)
  refine wpAny_bind (wpAny_setScan_of hkey ho rfl hf hel ?_)
  rw [hno]
  dsimp only
  have hperm := layNew_perm t es ((strKind prog w).hash x) (.str x tx)
  have hfits := layNew_fits t es ((strKind prog w).hash x) (.str x tx)
  have hled := layNew_led t es ((strKind prog w).hash x) (.str x tx)
  have hplain := layNew_plain t es ((strKind prog w).hash x) (.str x tx) hpl
  generalize hL : layNew t es ((strKind prog w).hash x) (.str x tx) = Ln at hperm hfits hled hplain ⊢
  obtain ⟨es1, t1, wasDummy, gave⟩ := Ln
  dsimp only at hperm hfits hled hplain ⊢
  have hgw : ∀ (b : Bool) {s₁ : Shared} {Q' : Unit → Shared → Prop}, Q' () s₁ → wpAny (model prog w) A (match b with | true => rule "set.scan.the-table-gave-way" | false => pure ()) Q' E s₁ :=
    fun b s₁ Q' hq => by cases b <;> first | exact wpAny_pure hq | exact wpAny_rule hq
  have hp1 : es1.toList.Perm (((x, tx) :: ks).map (pairT prog w)) := by
    refine hperm.trans ?_
    rw [Array.toList_push, List.map_cons]
    exact (List.perm_append_comm (l₂ := [_])).trans (List.Perm.cons _ hp)
  have hz1 : es1.size ≤ sizeLine := by rw [size_of hp1, sizeLine_eq]; simp only [List.length_cons]; lia
  have hn1 : (((x, tx) :: ks).map (·.1)).Nodup := List.nodup_cons.mpr ⟨hx, hn⟩
  have fin : ∀ (h' : Heap) (es' : Array (Int × Value)) (ep' : Nat) (t' : SetTable), Heap.SameBut D s.heap h' → h'.get? D = some { cls := .type "set", dict := none, data := .set es' ep' t' } → t'.fits es'.size = true → t'.led = ledOf w → t'.plain = false →
      es'.toList.Perm (((x, tx) :: ks).map (pairT prog w)) → Q true { s with heap := h' } := fun h' es' ep' t' hsb hg' c1 c2 c3 c4 =>
    h h' _ (F.change hsb hm.2.1 hm.2.2) (hg _ ▸ N.setIn a b hsb hg') ⟨es', ep', t', rfl, c1, c2, c3, c4, hn1⟩
  refine wpAny_bind (hgw _ ?_)
  rw [if_neg (by rw [hplain]; decide)]
  refine wpAny_bind (wpAny_pure ?_)
  rw [if_pos rfl]
  have g1 : (s.heap.update D (Obj.putSet es1 t1)).get? D = some { cls := .type "set", dict := none, data := .set es1 (ep + 1) t1 } := by
    have q := Heap.get?_update_self (Obj.putSet es1 t1) ho (by rw [putSet_of (ep := ep) _ _ rfl]; rfl)
    rw [putSet_of (ep := ep) _ _ rfl] at q
    exact q
  have sb1 := Heap.SameBut.update s.heap D (Obj.putSet es1 t1)
  refine wpAny_bind (wpAny_storeSet_of ho rfl ?_ hz1)
  split
  · have hpr := relayAll_perm t1 es1 (SetTable.grown es1.size)
    have hfr := relayAll_fits t1 es1 (SetTable.grown es1.size)
    have hlr := relayAll_led t1 es1 (SetTable.grown es1.size)
    have hpl1 := relayAll_plain t1 es1 (SetTable.grown es1.size) hplain
    generalize hRl : relayAll t1 es1 (SetTable.grown es1.size) = Rl at hpr hfr hlr hpl1 ⊢
    obtain ⟨es2, t3, gave2⟩ := Rl
    dsimp only at hpr hfr hlr hpl1 ⊢
    refine wpAny_bind (hgw _ ?_)
    have hp2 := hpr.trans hp1
    have g2 : ((s.heap.update D (Obj.putSet es1 t1)).update D (Obj.putSet es2 t3)).get? D = some { cls := .type "set", dict := none, data := .set es2 (ep + 1 + 1) t3 } := by
      have q := Heap.get?_update_self (Obj.putSet es2 t3) g1 (by rw [putSet_of (ep := ep + 1) _ _ rfl]; rfl)
      rw [putSet_of (ep := ep + 1) _ _ rfl] at q
      exact q
    refine wpAny_bind (wpAny_storeSet_of g1 rfl ?_ (by rw [size_of hp2, sizeLine_eq]; simp only [List.length_cons]; lia))
    exact wpAny_pure (wpAny_pure (fin _ es2 _ t3 (sb1.trans (Heap.SameBut.update _ D _)) g2 hfr (hlr.trans (hled.trans hl)) hpl1 hp2))
  · exact wpAny_pure (wpAny_pure (fin _ es1 _ t1 sb1 g1 hfits (hled.trans hl) hplain hp1))
theorem tset_add {D : Addr} {x : Str} {tx : Tok} {Q : Bool → Shared → Prop} (F : Fr h₀ L s.heap m) (N : News h₀ L s.heap news) (U : UpdF D o news g) (hs : TSet prog w o ks) (hx : x ∉ ks.map (·.1)) (hb : ks.length < 1000)
    (h : ∀ h' o' tk', Fr h₀ L h' m → News h₀ L h' (g o') → TSet prog w o' ((x, tx) :: ks) → Q true { s with heap := h', toks := tk' }) :
    wpAny (model prog w) A (setAdd D (.str x tx)) Q E s := by
  unfold setAdd
  refine wpAny_holding (wpAny_bind ((strKind prog w).pyHash (strKind_is _ _ _ _) ?_))
  exact tset_addHashed F N U hs hx hb fun h' o' F' N' hs' => h h' o' _ F' N' hs'
theorem tset_one {x : Str} {tx : Tok} {t : SetTable} (ht : LowT (ledOf w) t)   : TSet prog w (oneSet ((strKind prog w).hash x) (.str x tx) t) [(x, tx)] :=
  ⟨_, _, t, rfl, ht.2.2.1, ht.2.2.2.1, ht.2.2.2.2, .rfl, by simp⟩
end
end
section
open PySem PySem.Calls PyProof.Rows PySem.W PySem.Spec
theorem slot_sit_iter : Slot "set_iterator" "__iter__" "set_iterator.__iter__" :=
  .of (owner := "set_iterator") (n := "__iter__") (by rw [typeLookup_type, builtinLookup_eq_fast]; kernel_rfl) (by decide +kernel) (by decide +kernel) (by decide +kernel)
    (by first | exact .inl (by decide +kernel) | exact .inr (by decide +kernel)) (by rw [isSubtype_type]; kernel_rfl)
theorem entry_sit_iter : entryFor table "set_iterator.__iter__" = some Builtin.«dict_keyiterator.__iter__» :=
  entryFor_alias (id' := "dict_keyiterator.__iter__") (by kernel_rfl) rfl (by decide +kernel) (by kernel_rfl)
theorem args_sit_iter (a : Value) : argsOk "set_iterator.__iter__" ⟨[a], []⟩ := by unfold argsOk; kernel_rfl
abbrev sitObj (first : Value) (i : Nat) (D : Addr) (n ep : Nat) : Obj := { cls := .type "set_iterator", data := .fields #[first, .int i 0, .ref D, .int n 0, .int ep 0] }
section
variable {prog : Program} {w : World} {A : Around} {E : Value → Shared → Prop} {s : Shared}
theorem sit_self {I : Addr} {f : Value} {i : Nat} {D : Addr} {n ep : Nat} {Q : Value → Shared → Prop} (ho : s.heap.get? I = some (sitObj f i D n ep)) (h : Q (.ref I) s) : wpAny (model prog w) A (pyIter (.ref I)) Q E s := by
  have hT : s.TypeIs (.ref I) "set_iterator" := ⟨_, ho, rfl⟩
  refine wpAny_pyIter_slot hT slot_sit_iter (wpAny_call_entry slot_sit_iter hT entry_sit_iter ?_ (args_sit_iter _))
  show wpAny _ _ (ret (.ref I)) _ _ s
  exact wpAny_pure ⟨_, rfl, "set_iterator", _, hT, slot_sit_next.lookup, h⟩
abbrev setObj (es : Array (Int × Value)) (ep : Nat) (t : SetTable) : Obj := { cls := .type "set", dict := none, data := .set es ep t }
theorem upd_field {h : Heap} {I : Addr} {vs : Array Value} {c : Value} {i : Nat} {x : Value} (ho : h.get? I = some { cls := c, data := .fields vs }) :
    (h.update I (Obj.mapFields (·.setIfInBounds i x))).get? I = some { cls := c, data := .fields (vs.setIfInBounds i x) } := by
  rw [Heap.get?_update_self _ ho rfl]
  rfl
theorem sit_head {I D : Addr} {first : Value} {i n ep : Nat} {es : Array (Int × Value)} {t : SetTable} {Q : Option Value → Shared → Prop}
    (ho : s.heap.get? I = some (sitObj first i D n ep)) (hD : s.heap.get? D = some (setObj es ep t)) (hf : t.fits es.size = true) (hn : es.size = n)
    (h : wpAny (model prog w) A.in1 (if let .int slot _ := first then do
        match ← setNext D slot.toNat (i : Int).toNat (ep : Int).toNat with
        | some (x, next) =>
          setField (.ref I) 0 (rawInt next)
          setField (.ref I) 1 (rawInt ((i : Int) + 1))
          ret x
        | none => setField (.ref I) 2 .none; raiseNew (← newExc (.type "StopIteration") [])
      else do
        let some places ← seqItems? first | unsupported "internal:set_iterator"
        match places[(i : Int).toNat]? with
        | some (.int place _) =>
          let x ← setNextDrawn D place.toNat (ep : Int).toNat
          setField (.ref I) 1 (rawInt ((i : Int) + 1))
          ret x
        | some _ => unsupported "internal:set_iterator"
        | none => setField (.ref I) 0 (rawInt 0); setField (.ref I) 2 .none; raiseNew (← newExc (.type "StopIteration") []))
      (fun fin s' => ∃ v, fin = .done (.ret v) ∧ Q (some v) s') (fun e s' => wpAny (model prog w) A (isInstance e (.type "StopIteration")) (fun b s'' => b = true ∧ Q none s'') E s') s) :
    wpAny (model prog w) A (pyNext (.ref I)) Q E s := by
  have hT : s.TypeIs (.ref I) "set_iterator" := ⟨_, ho, rfl⟩
  unfold pyNext
  refine wpAny_bind (wpAny_attempt (wpAny_callSpecial?_slot (name := Str.ofString "__next__") hT slot_sit_next (wpAny_call_entry slot_sit_next hT entry_sit_next ?_ (args_sit_next _))))
  unfold Builtin.«set_iterator.__next__»
  refine wpAny_bind (wpAny_pure ?_)
  refine wpAny_bind (wpAny_fieldsOf ho rfl ?_)
  dsimp only
  refine wpAny_bind (wpAny_setEntries_of hD rfl hf ?_)
  rw [if_neg (by rw [hn]; simp)]
  refine wpAny_mono h (fun fin s' hq => ?_) fun e s' hq => ?_
  · obtain ⟨v, rfl, q⟩ := hq
    exact ⟨v, rfl, wpAny_pure q⟩
  · refine wpAny_bind (wpAny_mono hq (fun b s'' hb => ?_) fun _ _ x => x)
    obtain ⟨rfl, q⟩ := hb
    exact wpAny_pure q
theorem stop_end {A' : Around} {P : PySem.Fin → Shared → Prop} {Q : Option Value → Shared → Prop} (hh : A.handled = none) (h : ∀ h', (∀ b o, s.heap.get? b = some o → h'.get? b = some o) → Q none { s with heap := h' }) :
    wpAny (model prog w) A (newExc (.type "StopIteration") [] >>= fun e => (raiseNew e : Sem PySem.Fin)) P (fun e s' => wpAny (model prog w) A' (isInstance e (.type "StopIteration")) (fun b s'' => b = true ∧ Q none s'') E s') s := by
  refine wpAny_bind ?_
  simp only [newExc, newTuple]
  refine wpAny_bind (wpAny_newObj_type ?_ (by size_fits))
  refine wpAny_bind (m := firstArgMember _ _) (wpAny_of_eq (a := Value.none) (by first | rfl | (simp only [firstArgMember]; rfl)) ?_)
  refine wpAny_newObj_type ?_ (by size_fits)
  simp only [raiseNew]
  refine wpAny_bind (wpAny_handled ?_)
  rw [hh]
  refine wpAny_bind (wpAny_pure (wpAny_throw ?_))
  refine wpAny_isInstance (T := "StopIteration") (b := true) ⟨_, Heap.get?_push_size _ rfl, rfl⟩ isSubtype_stop ?_
  exact ⟨rfl, h _ fun b o e => Heap.get?_push_of_some _ (Heap.get?_push_of_some _ e)⟩
def StD (D : Addr) (es : Array (Int × Value)) (ep : Nat) (t : SetTable) (I TP : Addr) (pl : List Nat) (i : Nat) (h : Heap) : Prop :=
  h.get? D = some (setObj es ep t) ∧ h.get? I = some (sitObj (.ref TP) i D es.size ep) ∧ h.get? TP = some { cls := .type "tuple", data := .seq (pl.map fun (j : Nat) => rawInt j).toArray }
theorem walksD {D I TP : Addr} {es : Array (Int × Value)} {ep : Nat} {t : SetTable} {pl : List Nat} (hh : A.handled = none) (hf : t.fits es.size = true) (hp : pl.Perm (List.range es.size)) (hDI : D ≠ I) (hTI : TP ≠ I) :
    Walks prog w A I [I, D, TP] [I] pl.length (fun i v => (pl.map fun j => (es.getD j (0, .none)).2)[i]? = some v) (StD D es ep t I TP pl) where
  sub := fun b hb => by simp at hb; simp [hb]
  frame := fun i h h' st hk => ⟨hk _ (by simp) _ st.1, hk _ (by simp) _ st.2.1, hk _ (by simp) _ st.2.2⟩
  self := fun _ _ _ _ st hQ => sit_self st.2.1 hQ
  item := fun i s Q E hi st hQ => by
    have hj : pl[i] < es.size := by
      have := hp.mem_iff.mp (List.getElem_mem hi)
      simpa using this
    refine sit_head st.2.1 st.1 hf rfl ?_
    dsimp only
    refine wpAny_bind (m := seqItems? (.ref TP)) ?_
    unfold seqItems?
    refine wpAny_bind (wpAny_load st.2.2 (wpAny_pure ?_))
    dsimp only
    rw [Int.toNat_natCast]
    have e1 : ((pl.map fun (j : Nat) => rawInt j).toArray)[i]? = some (.int (pl[i] : Nat) 0) := by simp [hi, rawInt]
    rw [e1]
    dsimp only
    refine wpAny_bind (m := setNextDrawn _ _ _) ?_
    unfold setNextDrawn
    refine wpAny_bind (wpAny_setState_of st.1 rfl hf ?_)
    dsimp only
    rw [Int.toNat_natCast, Int.toNat_natCast, if_neg (by simp), Array.getElem?_eq_getElem hj]
    refine wpAny_pure ?_
    refine wpAny_bind (wpAny_setField st.2.1 rfl (by simp) ?_)
    have u := upd_field (i := 1) (x := rawInt ((i : Int) + 1)) st.2.1
    have sb := Heap.SameBut.update s.heap I (Obj.mapFields (·.setIfInBounds 1 (rawInt ((i : Int) + 1))))
    refine wpAny_pure ⟨_, rfl, hQ _ _ s.toks ?_ ⟨(sb.2 _ hDI).trans st.1, u, (sb.2 _ hTI).trans st.2.2⟩ fun b o hb e => (sb.2 b (by simpa using hb)).trans e⟩
    simp [hi, hj]
  done := fun s Q E st hQ => by
    refine sit_head st.2.1 st.1 hf rfl ?_
    dsimp only
    refine wpAny_bind (m := seqItems? (.ref TP)) ?_
    unfold seqItems?
    refine wpAny_bind (wpAny_load st.2.2 (wpAny_pure ?_))
    dsimp only
    rw [Int.toNat_natCast]
    have e1 : ((pl.map fun (j : Nat) => rawInt j).toArray)[pl.length]? = none := by simp
    rw [e1]
    dsimp only
    refine wpAny_bind (wpAny_setField st.2.1 rfl (by simp) ?_)
    have u := upd_field (i := 0) (x := rawInt 0) st.2.1
    have sb := Heap.SameBut.update s.heap I (Obj.mapFields (·.setIfInBounds 0 (rawInt 0)))
    refine wpAny_bind (wpAny_setField u rfl (by simp) ?_)
    have sb2 := Heap.SameBut.update (s.heap.update I (Obj.mapFields (·.setIfInBounds 0 (rawInt 0)))) I (Obj.mapFields (·.setIfInBounds 2 Value.none))
    exact stop_end hh fun h' k => hQ h' s.toks fun b o hb e => k _ _ ((sb2.2 b (by simpa using hb)).trans ((sb.2 b (by simpa using hb)).trans e))
def StT (w : World) (D : Addr) (es : Array (Int × Value)) (ep : Nat) (t : SetTable) (I : Addr) (i : Nat) (h : Heap) : Prop :=
  h.get? D = some (setObj es ep t) ∧ h.get? I = some (sitObj (.int (0 : Nat) 0) i D es.size ep)
theorem walksT {D I : Addr} {es : Array (Int × Value)} {ep : Nat} {t : SetTable} (hh : A.handled = none) (hf : t.fits es.size = true) (hb : w.params.followText "set-order" = true) (hDI : D ≠ I) :
    Walks prog w A I [I, D] [I] es.size (fun i v => ((pickOrder (w.params.setOrder D ep) es).toList.map (·.2))[i]? = some v) (StT w D es ep t I) where
  sub := fun b hb => by simp at hb; simp [hb]
  frame := fun i h h' st hk => ⟨hk _ (by simp) _ st.1, hk _ (by simp) _ st.2⟩
  self := fun _ _ _ _ st hQ => sit_self st.2 hQ
  item := fun i s Q E hi st hQ => by
    have hsz : (pickOrder (w.params.setOrder D ep) es).size = es.size := by
      have := (pick_perm (w.params.setOrder D ep) es).length_eq
      simpa using this
    refine sit_head st.2 st.1 hf rfl ?_
    dsimp only
    refine wpAny_bind (m := setNext _ _ _ _) ?_
    unfold setNext
    refine wpAny_bind (wpAny_setState_of st.1 rfl hf ?_)
    dsimp only
    refine wpAny_bind (m := setsByText) ?_
    unfold setsByText
    refine wpAny_bind (wpAny_askSetting (wpAny_pure ?_))
    rw [if_pos (by exact hb), Int.toNat_natCast, Int.toNat_natCast, if_neg (by simp)]
    refine wpAny_bind (m := setWalk D) ?_
    unfold setWalk
    refine wpAny_bind (wpAny_setState_of st.1 rfl hf ?_)
    dsimp only
    refine wpAny_bind (m := setsByText) ?_
    unfold setsByText
    refine wpAny_bind (wpAny_askSetting (wpAny_pure ?_))
    rw [if_pos (by exact hb)]
    refine wpAny_bind (wpAny_askSetting (wpAny_pure ?_))
    have hi' : i < (pickOrder (w.params.setOrder D ep) es).size := by rw [hsz]; exact hi
    refine wpAny_pure ?_
    show wpAny _ _ (match ((pickOrder (w.params.setOrder D ep) es)[i]?).map fun e => (e.2, (Int.toNat ((0 : Nat) : Int))) with | some (x, next) => _ | none => _) _ _ s
    rw [Array.getElem?_eq_getElem hi']
    dsimp only [Option.map]
    refine wpAny_bind (wpAny_setField st.2 rfl (by simp) ?_)
    have u := upd_field (i := 0) (x := rawInt (Int.toNat ((0 : Nat) : Int))) st.2
    have sb := Heap.SameBut.update s.heap I (Obj.mapFields (·.setIfInBounds 0 (rawInt (Int.toNat ((0 : Nat) : Int)))))
    refine wpAny_bind (wpAny_setField u rfl (by simp) ?_)
    have u2 := upd_field (i := 1) (x := rawInt ((i : Int) + 1)) u
    have sb2 := Heap.SameBut.update (s.heap.update I (Obj.mapFields (·.setIfInBounds 0 (rawInt (Int.toNat ((0 : Nat) : Int)))))) I (Obj.mapFields (·.setIfInBounds 1 (rawInt ((i : Int) + 1))))
    refine wpAny_pure ⟨_, rfl, hQ _ _ s.toks ?_ ⟨(sb2.2 _ hDI).trans ((sb.2 _ hDI).trans st.1), u2⟩ fun b o hb e => (sb2.2 b (by simpa using hb)).trans ((sb.2 b (by simpa using hb)).trans e)⟩
    simp [hi']
  done := fun s Q E st hQ => by
    have hsz : (pickOrder (w.params.setOrder D ep) es).size = es.size := by
      have := (pick_perm (w.params.setOrder D ep) es).length_eq
      simpa using this
    refine sit_head st.2 st.1 hf rfl ?_
    dsimp only
    refine wpAny_bind (m := setNext _ _ _ _) ?_
    unfold setNext
    refine wpAny_bind (wpAny_setState_of st.1 rfl hf ?_)
    dsimp only
    refine wpAny_bind (m := setsByText) ?_
    unfold setsByText
    refine wpAny_bind (wpAny_askSetting (wpAny_pure ?_))
    rw [if_pos (by exact hb), Int.toNat_natCast, Int.toNat_natCast, if_neg (by simp)]
    refine wpAny_bind (m := setWalk D) ?_
    unfold setWalk
    refine wpAny_bind (wpAny_setState_of st.1 rfl hf ?_)
    dsimp only
    refine wpAny_bind (m := setsByText) ?_
    unfold setsByText
    refine wpAny_bind (wpAny_askSetting (wpAny_pure ?_))
    rw [if_pos (by exact hb)]
    refine wpAny_bind (wpAny_askSetting (wpAny_pure ?_))
    refine wpAny_pure ?_
    show wpAny _ _ (match ((pickOrder (w.params.setOrder D ep) es)[es.size]?).map fun e => (e.2, (Int.toNat ((0 : Nat) : Int))) with | some (x, next) => _ | none => _) _ _ s
    rw [Array.getElem?_eq_none (by rw [hsz]; exact Nat.le_refl _)]
    dsimp only [Option.map]
    refine wpAny_bind (wpAny_setField st.2 rfl (by simp) ?_)
    have sb := Heap.SameBut.update s.heap I (Obj.mapFields (·.setIfInBounds 2 Value.none))
    exact stop_end hh fun h' k => hQ h' s.toks fun b o hb e => k _ _ ((sb.2 b (by simpa using hb)).trans e)

def StO (D : Addr) (es : Array (Int × Value)) (ep : Nat) (t : SetTable) (I : Addr) (p0 : Nat) (i : Nat) (h : Heap) : Prop :=
  h.get? D = some (setObj es ep t) ∧ ∃ sl : Nat, h.get? I = some (sitObj (.int sl 0) i D es.size ep) ∧ ((i = 0 ∧ sl = 0) ∨ (i = 1 ∧ sl = p0 + 1))
theorem below_zero (p0 : Nat) : SetTable.below #[p0] 0 = 0 := by
  unfold SetTable.below
  simp [SetTable.below.go]
theorem below_next (p0 : Nat) : SetTable.below #[p0] (p0 + 1) = 1 := by
  unfold SetTable.below
  simp [SetTable.below.go]
theorem walksO {D I : Addr} {e0 : Int × Value} {ep p0 : Nat} {t : SetTable} (hh : A.handled = none) (hf : t.fits 1 = true) (hb : w.params.followText "set-order" = false) (hl : t.led = true) (hpl : t.place = #[p0]) (hDI : D ≠ I) :
    Walks prog w A I [I, D] [I] 1 (fun i v => [e0.2][i]? = some v) (StO D #[e0] ep t I p0) where
  sub := fun b hb => by simp at hb; simp [hb]
  frame := fun i h h' st hk => let ⟨a, sl, b, c⟩ := st; ⟨hk _ (by simp) _ a, sl, hk _ (by simp) _ b, c⟩
  self := fun _ _ _ _ st hQ => let ⟨_, _, b, _⟩ := st; sit_self b hQ
  item := fun i s Q E hi st hQ => by
    obtain ⟨hD, sl, hI, hc⟩ := st
    have i0 : i = 0 := by lia
    subst i0
    have s0 : sl = 0 := by rcases hc with c | c <;> lia
    subst s0
    refine sit_head hI hD hf rfl ?_
    dsimp only
    refine wpAny_bind (m := setNext _ _ _ _) ?_
    unfold setNext
    refine wpAny_bind (wpAny_setState_of hD rfl hf ?_)
    dsimp only
    refine wpAny_bind (m := setsByText) ?_
    unfold setsByText
    refine wpAny_bind (wpAny_askSetting (wpAny_pure ?_))
    rw [if_neg (by rw [show ({ program := (model prog w).prog, params := (model prog w).w.params } : Setting).params = w.params from rfl, hb]; decide)]
    rw [if_neg (by show ¬ ((!t.plain && decide ((#[e0] : Array (Int × Value)).size > 1)) = true); simp)]
    refine wpAny_bind (wpAny_of_eq (a := ()) (by
      show (if (!t.led && !(#[e0] : Array (Int × Value)).isEmpty) = true then unsupported "set:maker-not-led" else pure () : Sem Unit) = pure ()
      rw [hl]; rfl) ?_)
    rw [hpl]
    have b0 : SetTable.below #[p0] (Int.toNat ((0 : Nat) : Int)) = 0 := below_zero p0
    rw [b0]
    refine wpAny_pure ?_
    (try dsimp only)
    (try simp only [List.getElem?_toArray, List.getElem?_cons_zero])
    refine wpAny_bind (wpAny_setField hI rfl (by simp) ?_)
    have u := upd_field (i := 0) (x := rawInt ((p0 + 1 : Nat) : Int)) hI
    have sb := Heap.SameBut.update s.heap I (Obj.mapFields (·.setIfInBounds 0 (rawInt ((p0 + 1 : Nat) : Int))))
    refine wpAny_bind (wpAny_setField u rfl (by simp) ?_)
    have u2 := upd_field (i := 1) (x := rawInt (((0 : Nat) : Int) + 1)) u
    have sb2 := Heap.SameBut.update (s.heap.update I (Obj.mapFields (·.setIfInBounds 0 (rawInt ((p0 + 1 : Nat) : Int))))) I (Obj.mapFields (·.setIfInBounds 1 (rawInt (((0 : Nat) : Int) + 1))))
    refine wpAny_pure ⟨_, rfl, hQ _ _ s.toks rfl ⟨(sb2.2 _ hDI).trans ((sb.2 _ hDI).trans hD), p0 + 1, u2, .inr ⟨rfl, rfl⟩⟩ fun b o hb e => (sb2.2 b (by simpa using hb)).trans ((sb.2 b (by simpa using hb)).trans e)⟩
  done := fun s Q E st hQ => by
    obtain ⟨hD, sl, hI, hc⟩ := st
    have s0 : sl = p0 + 1 := by rcases hc with c | c <;> lia
    subst s0
    refine sit_head hI hD hf rfl ?_
    dsimp only
    refine wpAny_bind (m := setNext _ _ _ _) ?_
    unfold setNext
    refine wpAny_bind (wpAny_setState_of hD rfl hf ?_)
    dsimp only
    refine wpAny_bind (m := setsByText) ?_
    unfold setsByText
    refine wpAny_bind (wpAny_askSetting (wpAny_pure ?_))
    rw [if_neg (by rw [show ({ program := (model prog w).prog, params := (model prog w).w.params } : Setting).params = w.params from rfl, hb]; decide)]
    rw [if_neg (by show ¬ ((!t.plain && decide ((#[e0] : Array (Int × Value)).size > 1)) = true); simp)]
    refine wpAny_bind (wpAny_of_eq (a := ()) (by
      show (if (!t.led && !(#[e0] : Array (Int × Value)).isEmpty) = true then unsupported "set:maker-not-led" else pure () : Sem Unit) = pure ()
      rw [hl]; rfl) ?_)
    rw [hpl]
    have b0 : SetTable.below #[p0] (Int.toNat ((p0 + 1 : Nat) : Int)) = 1 := below_next p0
    rw [b0]
    refine wpAny_pure ?_
    (try dsimp only)
    (try simp only [List.getElem?_toArray, List.getElem?_cons_zero])
    refine wpAny_bind (wpAny_setField hI rfl (by simp) ?_)
    have sb := Heap.SameBut.update s.heap I (Obj.mapFields (·.setIfInBounds 2 Value.none))
    exact stop_end hh fun h' k => hQ h' s.toks fun b o hb e => k _ _ ((sb.2 b (by simpa using hb)).trans e)
theorem tset_iter {D : Addr} {o : Obj} {ks : List (Str × Tok)} {Q : Value → Shared → Prop} (ho : s.heap.get? D = some o) (hs : TSet prog w o ks) (hk : 0 < ks.length) (hk2 : ks.length < 1000)
    (h : ∀ (I : Addr) (order : List Value) (h' : Heap) (d' : Drawn) (fp : List Addr) (St : Nat → Heap → Prop), order.Perm (strValues ks) → (∀ A' : Around, A'.handled = none → Walks prog w A' I fp [I] order.length (fun i v => order[i]? = some v) St) → St 0 h' →
      (∀ b ∈ fp, b < h'.objs.size) → I ∈ fp → (∀ b o, s.heap.get? b = some o → h'.get? b = some o) → s.heap.objs.size ≤ I → (∀ b ∈ fp, b = D ∨ s.heap.objs.size ≤ b) → Q (.ref I) { s with heap := h', drawn := d' }) :
    wpAny (model prog w) A (pyIter (.ref D)) Q E s := by
  obtain ⟨es, ep, t, rfl, hf, hl, hpl, hp, hn⟩ := hs
  have hT : s.TypeIs (.ref D) "set" := ⟨_, ho, rfl⟩
  have hlt := Heap.lt_size ho
  have hsz : es.size = ks.length := size_of hp
  have hvals : (es.toList.map (·.2)).Perm (strValues ks) := by
    have := hp.map (·.2)
    rw [List.map_map] at this
    exact this
  refine wpAny_pyIter_slot hT PySem.F.slot_set_iter (wpAny_call_entry PySem.F.slot_set_iter hT entry_set_it ?_ (PySem.F.args_set_iter_1 _))
  unfold Builtin.«frozenset.__iter__» Builtin.Frozenset.slot0 slotArgs
  simp only [List.isEmpty_nil, Bool.not_true, Bool.false_eq_true, ↓reduceIte, bind_assoc, List.length_nil, bne_self_eq_false]
  unfold Builtin.Frozenset.addrOf Builtin.Frozenset.sizeOf
  refine wpAny_bind (wpAny_pure ?_)
  dsimp only
  refine wpAny_bind (wpAny_pure ?_)
  refine wpAny_bind (wpAny_bind (wpAny_setEntries_of ho rfl hf (wpAny_pure ?_)))
  refine wpAny_bind (m := setDrawn D) ?_
  unfold setDrawn
  refine wpAny_bind (wpAny_setState_of ho rfl hf ?_)
  unfold setsByText
  refine wpAny_bind (wpAny_bind (wpAny_askSetting (wpAny_pure ?_)))
  refine wpAny_pure ?_
  show wpAny _ _ (if (!w.params.followText "set-order" && (!t.plain && decide (es.size > 1))) = true then _ else _) _ _ _
  by_cases hdr : (!w.params.followText "set-order" && (!t.plain && decide (es.size > 1))) = true
  · rw [if_pos hdr]
    refine wpAny_bind (wpAny_drawOrder es.size (List.range es.size) (by simp) fun pl d hpl2 => ?_)
    refine wpAny_bind ?_
    refine wpAny_newTuple ?_ (by rw [List.length_map, hpl2.length_eq, List.length_range, hsz, sizeLine_eq]; lia)
    dsimp only
    have hD1 : (s.heap.push { cls := .type "tuple", data := .seq (pl.map fun (j : Nat) => rawInt j).toArray }).get? D = some (setObj es ep t) := Heap.get?_push_of_some _ ho
    refine wpAny_bind (m := setEpoch D) ?_
    unfold setEpoch
    refine wpAny_bind (wpAny_setState_of hD1 rfl hf (wpAny_pure ?_))
    refine wpAny_bind (wpAny_newObj_type (wpAny_pure ⟨_, rfl, "set_iterator", _, ⟨_, Heap.get?_push_size _ rfl, rfl⟩, slot_sit_next.lookup, ?_⟩))
    generalize hH : s.heap.push { cls := .type "tuple", data := .seq (pl.map fun (j : Nat) => rawInt j).toArray } = H at hD1 ⊢
    have hHs : H.objs.size = s.heap.objs.size + 1 := by rw [← hH, Heap.size_push]
    have hTP : H.get? s.heap.objs.size = some { cls := .type "tuple", data := .seq (pl.map fun (j : Nat) => rawInt j).toArray } := by rw [← hH]; exact Heap.get?_push_size _ rfl
    have hlen : pl.length = es.size := by rw [hpl2.length_eq, List.length_range]
    have hne : D ≠ H.objs.size := by rw [hHs]; have h9 : @LT.lt Nat _ D s.heap.objs.size := hlt; exact Nat.ne_of_lt (Nat.lt_succ_of_lt h9)
    have hne2 : s.heap.objs.size ≠ H.objs.size := by rw [hHs]; exact Nat.ne_of_lt (Nat.lt_succ_self _)
    refine h H.objs.size (pl.map fun j => (es.getD j (0, .none)).2) _ d [H.objs.size, D, s.heap.objs.size] (StD D es ep t H.objs.size s.heap.objs.size pl) ?_ (fun A' hA' => ?_) ⟨Heap.get?_push_of_some _ hD1, ?_, Heap.get?_push_of_some _ hTP⟩ (fun b hb => ?_) (by simp) (fun b o e => Heap.get?_push_of_some _ (by rw [← hH]; exact Heap.get?_push_of_some _ e)) (by rw [hHs]; exact Nat.le_succ _) (fun b hb => by
      simp only [List.mem_cons, List.not_mem_nil, or_false] at hb
      rcases hb with rfl | rfl | rfl
      · right; rw [hHs]; exact Nat.le_succ _
      · left; rfl
      · right; exact Nat.le_refl _)
    · refine (hpl2.map _).trans ?_
      refine List.Perm.trans (List.Perm.of_eq ?_) hvals
      apply List.ext_getElem?
      intro i
      by_cases hi : i < es.size
      · simp [hi]
      · simp [hi]
    · have W := walksD (prog := prog) (w := w) (A := A') (I := H.objs.size) (TP := s.heap.objs.size) (ep := ep) hA' hf hpl2 hne hne2
      simpa using W
    · exact Heap.get?_push_size _ rfl
    · rw [Heap.size_push, hHs]
      have h9 : @LT.lt Nat _ D s.heap.objs.size := hlt
      simp only [List.mem_cons, List.not_mem_nil, or_false] at hb
      rcases hb with rfl | rfl | rfl
      · rw [hHs]; exact Nat.lt_succ_self _
      · exact Nat.lt_succ_of_lt (Nat.lt_succ_of_lt h9)
      · exact Nat.lt_succ_of_lt (Nat.lt_succ_self _)
  · rw [if_neg hdr]
    refine wpAny_bind (wpAny_pure ?_)
    refine wpAny_bind (m := setEpoch D) ?_
    unfold setEpoch
    refine wpAny_bind (wpAny_setState_of ho rfl hf (wpAny_pure ?_))
    refine wpAny_bind (wpAny_newObj_type (wpAny_pure ⟨_, rfl, "set_iterator", _, ⟨_, Heap.get?_push_size _ rfl, rfl⟩, slot_sit_next.lookup, ?_⟩))
    have hne : D ≠ s.heap.objs.size := Nat.ne_of_lt hlt
    have fp : ∀ b ∈ [s.heap.objs.size, D], b < (s.heap.push (sitObj (.int (0 : Nat) 0) 0 D es.size ep)).objs.size := fun b hb => by
      rw [Heap.size_push]
      simp only [List.mem_cons, List.not_mem_nil, or_false] at hb
      rcases hb with rfl | rfl
      · exact Nat.lt_succ_self _
      · exact Nat.lt_succ_of_lt hlt
    cases hb : w.params.followText "set-order" with
    | true =>
      have hord : ((pickOrder (w.params.setOrder D ep) es).toList.map (·.2)).Perm (strValues ks) := ((pick_perm _ es).map (·.2)).trans hvals
      refine h s.heap.objs.size _ _ s.drawn [s.heap.objs.size, D] (StT w D es ep t s.heap.objs.size) hord (fun A' hA' => ?_) ⟨Heap.get?_push_of_some _ ho, Heap.get?_push_size _ rfl⟩ fp (by simp) (fun b o e => Heap.get?_push_of_some _ e) (Nat.le_refl _) (fun b hb => by
        simp only [List.mem_cons, List.not_mem_nil, or_false] at hb
        rcases hb with rfl | rfl
        · right; exact Nat.le_refl _
        · left; rfl)
      have W := walksT (prog := prog) (w := w) (A := A') (I := s.heap.objs.size) (ep := ep) hA' hf hb hne
      have : es.size = ((pickOrder (w.params.setOrder D ep) es).toList.map (·.2)).length := by rw [hord.length_eq, hsz]; simp [strValues]
      rw [← this]; exact W
    | false =>
      have h1 : es.size = 1 := by
        rw [hb, hpl] at hdr
        simp only [Bool.not_false, Bool.true_and, decide_eq_true_eq, Nat.not_lt, gt_iff_lt] at hdr
        lia
      obtain ⟨e0, he0⟩ : ∃ e0, es = #[e0] := by
        have : es.toList.length = 1 := by simpa using h1
        obtain ⟨e, he⟩ := List.length_eq_one_iff.mp this
        exact ⟨e, by rw [← Array.toArray_toList (xs := es), he]⟩
      subst he0
      have hled : t.led = true := by rw [hl]; show (!w.params.followText "set-order") = true; rw [hb]; rfl
      obtain ⟨p0, hp0⟩ : ∃ p0, t.place = #[p0] := by
        have hpz : t.place.size = 1 := by
          have hf' := hf
          unfold SetTable.fits at hf'
          simp only [Bool.and_eq_true, beq_iff_eq] at hf'
          exact hf'.1
        have : t.place.toList.length = 1 := by simpa using hpz
        obtain ⟨e, he⟩ := List.length_eq_one_iff.mp this
        exact ⟨e, by rw [← Array.toArray_toList (xs := t.place), he]⟩
      refine h s.heap.objs.size [e0.2] _ s.drawn [s.heap.objs.size, D] (StO D #[e0] ep t s.heap.objs.size p0) hvals (fun A' hA' => ?_) ⟨Heap.get?_push_of_some _ ho, 0, Heap.get?_push_size _ rfl, .inl ⟨rfl, rfl⟩⟩ fp (by simp) (fun b o e => Heap.get?_push_of_some _ e) (Nat.le_refl _) (fun b hb => by
        simp only [List.mem_cons, List.not_mem_nil, or_false] at hb
        rcases hb with rfl | rfl
        · right; exact Nat.le_refl _
        · left; rfl)
      exact walksO (prog := prog) (w := w) (A := A') (I := s.heap.objs.size) (ep := ep) hA' hf hb hled hp0 hne

theorem len_set : typeLookup (.type "set") "__len__" = pure (some (.builtin "set.__len__")) := by rw [typeLookup_type, builtinLookup_eq_fast]; kernel_rfl
theorem items_perm {acc : Array Value} {order : List Value} (h : ItemsOf (fun i v => order[i]? = some v) acc order.length) : acc.toList = order := by
  obtain ⟨h1, h2⟩ := h
  apply List.ext_getElem?
  intro i
  by_cases hi : i < acc.size
  · have := h2 i acc[i] (by simp [hi])
    rw [this]; simp [hi]
  · rw [List.getElem?_eq_none (by simpa using hi), List.getElem?_eq_none (by rw [← h1]; lia)]
theorem collect_tset {D : Addr} {o : Obj} {ks : List (Str × Tok)} {Q : List Value → Shared → Prop} (hh : A.handled = none) (ho : s.heap.get? D = some o) (hs : TSet prog w o ks) (hk : 0 < ks.length) (hk2 : ks.length < 1000)
    (hQ : ∀ vs h' d' tk', vs.Perm (strValues ks) → (∀ b o, s.heap.get? b = some o → h'.get? b = some o) → Q vs { s with heap := h', drawn := d', toks := tk' }) :
    wpAny (model prog w) A (collect (.ref D)) Q E s := by
  unfold collect
  refine wpAny_bind (wpAny_runValue (codeAny_builtin PySem.F.entry_proto_collect ?_))
  rw [Around.under_plainId PySem.F.plain_proto_collect _]
  show wpAny _ A.in1 (newList [] >>= fun l => again (.builtin "list.__iadd__" ⟨[l, .ref D], []⟩)) _ _ s
  refine wpAny_bind (wpAny_newObj_type ?_)
  refine wpAny_pure ⟨plainId_quiet PySem.F.plain_list_iadd _, codeAny_builtin PySem.F.entry_list_iadd ?_⟩
  rw [Around.under_plainId PySem.F.plain_list_iadd _]
  have hlt := Heap.lt_size ho
  have hDS : s.heap.objs.size ≠ D := Nat.ne_of_gt hlt
  show wpAny _ A.in1 (Builtin.List.listExtendWith (.ref s.heap.objs.size) (.ref D) (.ref s.heap.objs.size)) _ _ _
  generalize hH : s.heap.push { cls := .type "list", data := .seq ([] : List Value).toArray } = H
  have hHs : H.objs.size = s.heap.objs.size + 1 := by rw [← hH, Heap.size_push]
  have ho1 : H.get? D = some o := by rw [← hH]; exact Heap.get?_push_of_some _ ho
  have hS : H.get? s.heap.objs.size = some { cls := .type "list", data := .seq ([] : List Value).toArray } := by rw [← hH]; exact Heap.get?_push_size _ rfl
  have hT : ∀ s' : Shared, s'.heap.get? D = some o → s'.TypeIs (.ref D) "set" := fun s' h => by
    obtain ⟨es, ep, t, rfl, _⟩ := hs
    exact ⟨_, h, rfl⟩
  have h1 : Builtin.List.listSameRef (.ref s.heap.objs.size) (.ref D) = false := by simp [Builtin.List.listSameRef, hDS]
  unfold Builtin.List.listExtendWith
  refine wpAny_bind (wpAny_typeOf (hT _ ho1) ?_)
  rw [if_neg (by rw [h1]; decide)]
  refine wpAny_bind (tset_iter (s := { s with heap := H }) ho1 hs hk hk2 fun I order h' d' fp St hp W st hfp hI keep hIge hfp2 => ?_)
  have hoS : h'.get? s.heap.objs.size = some { cls := .type "list", data := .seq ([] : List Value).toArray } := keep _ _ hS
  have ho2 : h'.get? D = some o := keep _ _ ho1
  refine wpAny_bind (wpAny_holding ?_)
  unfold Builtin.List.listLengthHint
  refine wpAny_bind (wpAny_specialOf (hT { s with heap := h', drawn := d' } ho2) len_set ?_)
  wp_delta
  refine wpAny_bind (wpAny_isInstance (b := true) (hT _ ho2) (by rw [isSubtype_type]; kernel_rfl) ?_)
  show wpAny _ A.in1 (typeOf (Value.ref D) >>= _) _ _ _
  refine wpAny_bind (wpAny_typeOf (hT _ ho2) ?_)
  refine wpAny_pure ?_

  rw [if_pos (by decide)]
  have hlen : order.length = ks.length := by rw [hp.length_eq]; simp [strValues]
  have hn : order.length ≤ sizeLine := by rw [hlen, sizeLine_eq]; lia
  have hIS : s.heap.objs.size ≠ I := by
    rw [hHs] at hIge
    exact Nat.ne_of_lt hIge
  have hSf : s.heap.objs.size ∉ fp := fun hm => by
    rcases hfp2 _ hm with e | e
    · exact hDS e
    · rw [hHs] at e
      exact absurd e (Nat.not_le_of_lt (Nat.lt_succ_self _))
  refine wpAny_bind (wpAny_rule ?_)
  show wpAny _ _ (Builtin.List.listTouch (.ref s.heap.objs.size) >>= _) _ _ _
  refine wpAny_bind ?_
  unfold Builtin.List.listTouch
  show wpAny _ _ (updateSeq s.heap.objs.size (·.push .none) >>= fun _ => updateSeq s.heap.objs.size (·.pop)) _ _ _
  refine wpAny_bind (wpAny_updateSeq hoS rfl ?_)
  have g1 := Heap.get?_update_self (Obj.mapSeq (·.push .none)) hoS rfl
  have sb1 := Heap.SameBut.update h' s.heap.objs.size (Obj.mapSeq (·.push .none))
  refine wpAny_updateSeq (s := { s with heap := h'.update s.heap.objs.size (Obj.mapSeq (·.push .none)), drawn := d' }) g1 rfl ?_
  have g2 := Heap.get?_update_self (Obj.mapSeq (·.pop)) g1 rfl
  have sb2 := Heap.SameBut.update (h'.update s.heap.objs.size (Obj.mapSeq (·.push .none))) s.heap.objs.size (Obj.mapSeq (·.pop))
  generalize hG : (h'.update s.heap.objs.size (Obj.mapSeq (·.push .none))).update s.heap.objs.size (Obj.mapSeq (·.pop)) = G at g2 sb2
  have kG : ∀ b o, b ≠ s.heap.objs.size → h'.get? b = some o → G.get? b = some o := fun b o hb e => (sb2.2 b hb).trans ((sb1.2 b hb).trans e)
  have stG : St 0 G := (W A hh).frame 0 _ _ st fun b hb o e => kG b o (fun q => hSf (q ▸ hb)) e
  refine wpAny_pure ⟨plainId_quiet PySem.F.plain_extend_loop _, codeAny_extend_loopS (W A.in1 hh).toS hn _ hSf _ order.length 0 _ _ _ rfl (Nat.zero_le _) stG g2 (ItemsOf.nil _) fun s' acc' c' hm hS' hacc => ?_⟩
  show wpAny _ A (load s.heap.objs.size >>= _) _ _ s'
  refine wpAny_bind (wpAny_load hS' ?_)
  have e1 := items_perm hacc
  refine wpAny_pure ?_
  rw [e1]
  obtain ⟨heap', gens', drawn', toks', os'⟩ := s'
  have e2 : gens' = s.gens := hm.gens
  have e3 : os' = s.os := hm.os
  subst e2 e3
  refine hQ _ heap' drawn' toks' hp fun b o e => hm.heap b o (fun hb => ?_) (kG b o (Nat.ne_of_lt (Heap.lt_size e)) (keep b o (by rw [← hH]; exact Heap.get?_push_of_some _ e)))
  have hlt2 := Heap.lt_size e
  rcases List.mem_cons.mp hb with h | h
  · exact absurd hlt2 (h ▸ Nat.lt_irrefl _)
  · rw [List.mem_singleton.mp h] at hlt2
    rw [hHs] at hIge
    exact absurd (Nat.lt_of_lt_of_le (Nat.lt_succ_of_lt hlt2) hIge) (Nat.lt_irrefl _)
end
end
section
open PySem PySem.Calls PyProof.Rows PySem.W PySem.Spec
section
variable {prog : Program} {w : World} {A : Around} {E : Value → Shared → Prop} {s : Shared} {h₀ : Heap} {L : Addr} {m : Str → Option Value} {news : List (Addr × Obj)}
theorem call_entry_go {T : String} {name : Str} {id : String} {b : Builtin} {self : Value} {rest : List Value} {Q : Value → Shared → Prop} (h : Slot T name id) (hT : s.TypeIs self T) (hb : entryFor table id = some b)
    (hc : wpAny (model prog w) A.in1 (b ⟨self :: rest, []⟩) (fun fin s' => match fin with | .done (.ret v) => Q v s' | .done _ => False | .again c' => c'.quiet = true ∧ codeAny (model prog w) A c' (wants Q E) s') E s) (ha : argsOk id ⟨self :: rest, []⟩) :
    wpAny (model prog w) A (call (.builtin id) (self :: rest)) Q E s := by
  refine wpAny_call (codeAny_call_builtin h.plain hb (h.check _ _ _ _ _ _ _ _ hT ha (wpAny_mono hc (fun fin s' h' => ?_) fun _ _ h' => h')))
  cases fin with
  | done f => cases f <;> first | exact h' | exact h'.elim
  | again c => exact h'
theorem plain_eq_loop' : plainId "list.__eq__.loop" = true := by decide +kernel
theorem entry_eq_loop' : entryFor table "list.__eq__.loop" = some Builtin.«list.__eq__.loop» := entryFor_of_fast (by kernel_rfl)
theorem rich_lt_str {a b : Str} {t u : Tok} {Q : Value → Shared → Prop} (h : Q (.bool (decide (a.cps.toList < b.cps.toList))) s) : wpAny (model prog w) A (richCompare .Lt (.str a t) (.str b u)) Q E s :=
  wpAny_richCompare_same (typeIs_str s a t) (typeIs_str s b u) F.slot_str_lt (call_str_lt ⟨by simp, h⟩)
theorem lt_list1 {l1 l2 : Addr} {a b : Str} {t u : Tok} {n1 n2 : Nat} {Q : Bool → Shared → Prop} (hu : A.units < cLine) (h1 : s.heap.get? l1 = some (listOf #[.str a t] n1)) (h2 : s.heap.get? l2 = some (listOf #[.str b u] n2)) (hab : a ≠ b)
    (h : Q (decide (a.cps.toList < b.cps.toList)) s) : wpAny (model prog w) A (keyLt' oneType' (.ref l1) (.ref l2)) Q E s := by
  rw [keyLt'_oneType, oneLt'_eq]
  simp only [if_true]
  refine wpAny_bind (wpAny_cRoomFor hu ?_)
  have hT1 : s.TypeIs (.ref l1) "list" := ⟨_, h1, rfl⟩
  have hT2 : s.TypeIs (.ref l2) "list" := ⟨_, h2, rfl⟩
  refine wpAny_bind (wpAny_callSpecialIfBound?_slot hT1 PySem.F.slot_list_lt (call_entry_go PySem.F.slot_list_lt hT1 PySem.F.entry_list_lt ?_ (PySem.F.args_list_lt_2 _ _)))
  show wpAny _ _ (do
    if !(← isInstance (.ref l2) (.type "list")) then return ← ret .notImplemented
    if CmpOp.Lt == .Eq || CmpOp.Lt == .NotEq then
      if (← Builtin.List.listItems (.ref l1)).size != (← Builtin.List.listItems (.ref l2)).size then rule "list.compare.lengths-differ"; return ← ret (.bool (CmpOp.Lt == .NotEq))
    again (.builtin "list.__eq__.loop" ⟨[.ref l1, .ref l2, rawInt 0, rawInt 0], []⟩)) _ _ s
  refine wpAny_bind (wpAny_isInstance (b := true) hT2 (by rw [isSubtype_type]; kernel_rfl) ?_)
  rw [if_neg (by decide), if_neg (by decide)]
  refine wpAny_pure ⟨Code.quiet_builtin _ (by decide +kernel), codeAny_builtin entry_eq_loop' ?_⟩
  rw [Around.under_plainId plain_eq_loop' _]
  unfold Builtin.«list.__eq__.loop»
  refine wpAny_bind (listItems_at h1 rfl ?_)
  refine wpAny_bind (listItems_at h2 rfl ?_)
  show wpAny _ _ (eqBool (.str a t) (.str b u) >>= _) _ _ s
  refine wpAny_bind (wpAny_eqBool_str ?_)
  rw [if_neg (by simpa using hab)]
  refine wpAny_bind (listItems_at h1 rfl ?_)
  refine wpAny_bind (listItems_at h2 rfl ?_)
  show wpAny _ _ (richCompare .Lt (.str a t) (.str b u) >>= _) _ _ s
  refine wpAny_bind (rich_lt_str ?_)
  refine wpAny_pure ?_
  exact wpAny_truthy_bool h

theorem looks_list {h : Heap} {l : Addr} {its : Array Value} {n : Nat} (ho : h.get? l = some (listOf its n)) : Looks (model prog w) h (typeOf (.ref l)) (.type "list") :=
  fun _ _ _ _ k q => wpAny_typeOf (T := "list") ⟨_, k _ _ ho, rfl⟩ q
def KeyOne (prog : Program) (w : World) (A : Around) (h₀ : Heap) (L : Addr) (m : Str → Option Value) (news : List (Addr × Obj)) (f : Value) (xs : List Str) : Prop :=
  ∀ (x : Str) (tx : Tok) (s' : Shared) (news' : List (Addr × Obj)) (Q' : Value → Shared → Prop), x ∈ xs → Fr h₀ L s'.heap m → News h₀ L s'.heap news' → (∀ p ∈ news, p ∈ news') →
    (∀ (l : Nat) h' tk' t' k, Fr h₀ L h' m → News h₀ L h' ((l, listOf #[.str x t'] k) :: news') → (∀ p ∈ news', p.1 < l) → Q' (.ref l) { s' with heap := h', toks := tk' }) →
    wpAny (model prog w) A (call f [.str x tx]) Q' (fun _ _ => False) s'
theorem sorted_any {D : Addr} {o : Obj} {ks : List (Str × Tok)} {lam : Addr} {Q : Value → Shared → Prop} (hh : A.handled = none) (F : Fr h₀ L s.heap m) (N : News h₀ L s.heap news) (hD : (D, o) ∈ news) (hs : TSet prog w o ks) (hk : 0 < ks.length) (hk2 : ks.length < 64)
    (h : ∀ (R : Addr) (vs : List Value) h' d' tk', vs.Perm (strValues ks) → Fr h₀ L h' m → News h₀ L h' news → h'.get? R = some (seqObj "list" vs.toArray 0) → R ≠ L → h₀.get? R = none → (∀ p ∈ news, p.1 < R) →
      wpAny (model prog w) A.in1.in1 (ksk_tree R (.ref lam) false) (fun fin s' => ∃ v, fin = .done (.ret v) ∧ Q (.ref R) s') E { s with heap := h', drawn := d', toks := tk' }) :
    wpAny (model prog w) A (call (.builtin "sorted") [.ref D] [(Str.ofString "key", .ref lam)]) Q E s := by
  refine call_function_entry_kw kind_sorted plain_sorted entry_sorted (ksk_s1 _ _) ?_
  unfold Builtin.«sorted»
  refine wpAny_bind (m := checkCount "sorted" 1 1 _) (wpAny_pure ?_)
  refine wpAny_bind (collect_tset hh (N.get hD) hs hk (Nat.lt_trans hk2 (by decide)) fun vs h' d' tk' hp keep => ?_)
  have hlen : vs.length = ks.length := by rw [hp.length_eq]; simp [strValues]
  refine wpAny_bind (wpAny_newList ?_ (by rw [hlen, sizeLine_eq]; lia))
  dsimp only
  have hL : L < h'.objs.size := (F.keeps keep).ns.lt
  have F1 : Fr h₀ L (h'.push (seqObj "list" vs.toArray 0)) m := (F.keeps keep).push _
  have N1 : News h₀ L (h'.push (seqObj "list" vs.toArray 0)) news := fun p hp => ⟨Heap.get?_push_of_some _ (keep _ _ (N p hp).1), (N p hp).2⟩
  refine wpAny_bind (wpAny_holding (wpAny_call_entry_kw slot_list_sort ⟨_, Heap.get?_push_size _ rfl, rfl⟩ entry_list_sort ?_ (ksk_l1 _ _)))
  show wpAny (model prog w) A.in1.in1 (Builtin.«list.sort» ⟨[.ref h'.objs.size], [(Str.ofString "key", .ref lam)]⟩) _ _ _
  rw [ksk_t1]
  refine wpAny_mono (h h'.objs.size vs _ d' tk' hp F1 N1 (Heap.get?_push_size _ rfl) (Nat.ne_of_gt hL) (Heap.get?_none_of_le (Nat.le_trans F.above (Nat.le_of_lt hL))) (fun p hp => Heap.lt_size (keep _ _ (N p hp).1))) (fun fin s' hq => ?_) fun _ _ x => x
  obtain ⟨v, rfl, q⟩ := hq
  exact ⟨v, rfl, wpAny_pure ⟨_, rfl, q⟩⟩

theorem sorted_one {D : Addr} {o : Obj} {x : Str} {tx : Tok} {lam : Addr} {Q : Value → Shared → Prop} (hh : A.handled = none) (F : Fr h₀ L s.heap m) (N : News h₀ L s.heap news) (hD : (D, o) ∈ news) (hs : TSet prog w o [(x, tx)])
    (hf : KeyOne prog w A.in1.in1 h₀ L m news (.ref lam) [x])
    (h : ∀ (R k : Nat) h' d' tk', Fr h₀ L h' m → News h₀ L h' ((R, listOf #[.str x tx] k) :: news) → (∀ p ∈ news, p.1 < R) → Q (.ref R) { s with heap := h', drawn := d', toks := tk' }) :
    wpAny (model prog w) A (call (.builtin "sorted") [.ref D] [(Str.ofString "key", .ref lam)]) Q E s := by
  refine sorted_any hh F N hD hs (by simp) (by simp) fun R vs h1 d' tk' hp F1 N1 ho hRL hR0 hRN => ?_
  have hvs : vs = [.str x tx] := by
    have hp' : vs.Perm [.str x tx] := hp
    exact List.perm_singleton.mp hp'
  subst hvs
  have hna : ∀ p ∈ news, p.1 ≠ R := fun p hp => Nat.ne_of_lt (hRN p hp)
  have ha : R < h1.objs.size := Heap.lt_size ho
  have s1 := Heap.SameBut.update h1 R (Obj.mapSeq fun _ => (#[] : Array Value))
  obtain ⟨e1, ho1⟩ : ∃ e1, (h1.update R (Obj.mapSeq fun _ => (#[] : Array Value))).get? R = some (seqObj "list" #[] e1) := ⟨_, get?_update_seq ho fun _ => #[]⟩
  have F2 := kas_fr F1 s1 hRL hR0
  have N2 := kas_news N1 s1 hna
  unfold ksk_tree
  refine wpAny_bind (listItems_at ho rfl ?_)
  refine wpAny_bind (listUpdate_at ho rfl ?_ (by rw [List.size_toArray, sizeLine_eq]; simp) (Nat.zero_le _))
  refine wpAny_bind (seqEpoch_at ho1 rfl ?_)
  refine wpAny_bind (wpAny_newTuple ?_ (by show ([Value.str x tx] : List Value).length ≤ _; rw [sizeLine_eq]; simp))
  refine wpAny_bind (wpAny_newList ?_ (Nat.zero_le _))
  refine wpAny_holding ?_
  generalize hH : h1.update R (Obj.mapSeq fun _ => (#[] : Array Value)) = H at F2 N2 ho1 ⊢
  have hHs : H.objs.size = h1.objs.size := by rw [← hH, Heap.size_update]
  have ha' : @LT.lt Nat _ R H.objs.size := by rw [hHs]; exact ha
  have hkS : (H.push (seqObj "tuple" [Value.str x tx].toArray 0)).objs.size = H.objs.size + 1 := by rw [size_push']
  have hLk : L < (H.push (seqObj "tuple" [Value.str x tx].toArray 0)).objs.size := (F2.push _).ns.lt
  have F3 : Fr h₀ L ((H.push (seqObj "tuple" [Value.str x tx].toArray 0)).push (seqObj "list" #[] 0)) m := (F2.push _).push _
  have N3 : News h₀ L ((H.push (seqObj "tuple" [Value.str x tx].toArray 0)).push (seqObj "list" #[] 0)) (((H.push (seqObj "tuple" [Value.str x tx].toArray 0)).objs.size, seqObj "list" #[] 0) :: (R, seqObj "list" #[] e1) :: news) := fun p hp => by
    rcases List.mem_cons.mp hp with rfl | hp
    · exact ⟨Heap.get?_push_size _ rfl, Nat.ne_of_gt hLk, Heap.get?_none_of_le (Nat.le_trans F.above (Nat.le_of_lt hLk))⟩
    · rcases List.mem_cons.mp hp with rfl | hp
      · exact ⟨Heap.get?_push_of_some _ (Heap.get?_push_of_some _ ho1), hRL, hR0⟩
      · exact ⟨Heap.get?_push_of_some _ (Heap.get?_push_of_some _ (N2 p hp).1), (N2 p hp).2⟩
  have l0 : @LT.lt Nat _ R (H.push (seqObj "tuple" [Value.str x tx].toArray 0)).objs.size := by rw [hkS]; exact Nat.lt_succ_of_lt ha'
  have l1 : ∀ p ∈ news, @LT.lt Nat _ p.1 (H.push (seqObj "tuple" [Value.str x tx].toArray 0)).objs.size := fun p hp => Nat.lt_trans (hRN p hp) l0
  show wpAny _ _ (ksk_rest R (.ref lam) false [Value.str x tx].toArray e1 (.ref (H.push (seqObj "tuple" [Value.str x tx].toArray 0)).objs.size)) _ _ { s with heap := (H.push (seqObj "tuple" [Value.str x tx].toArray 0)).push (seqObj "list" #[] 0), drawn := d', toks := tk' }
  generalize hG : (H.push (seqObj "tuple" [Value.str x tx].toArray 0)).push (seqObj "list" #[] 0) = G at F3 N3
  generalize (H.push (seqObj "tuple" [Value.str x tx].toArray 0)).objs.size = kS at N3 l0 l1
  have neR : ∀ p ∈ (R, seqObj "list" #[] e1) :: news, p.1 ≠ kS := fun p hp => by
    rcases List.mem_cons.mp hp with rfl | hp
    · exact Nat.ne_of_lt l0
    · exact Nat.ne_of_lt (l1 p hp)
  unfold ksk_rest
  refine wpAny_bind (wpAny_rule ?_)
  rw [List.forIn_toArray, List.forIn_cons]
  have hcall := hf x tx { s with heap := G, drawn := d', toks := tk' } _ (KatBack h₀ L m kS [] 0 (fun k c s' => KatFin h₀ L m kS R [k] c e1 [.str x tx] (fun s4 => ∃ v, PySem.Fin.done (.ret .none) = PySem.Fin.done (.ret v) ∧ Q (.ref R) s4) s')) (by simp) F3 N3 (fun p hp => .tail _ (.tail _ hp)) fun la h3 tk3 t3 k3 F4 N4 lla => by
    have nela : la ≠ kS := Nat.ne_of_gt (lla _ (.head _))
    refine KatBack.intro F4 N4 (.tail nela (.head neR)) fun h4 c4 F5 N5 => ?_
    (try dsimp only at N5)
    refine KatFin.intro F5 N5 (.tail nela (.head neR)) fun h7 c7 F7 N7 => ?_
    (try dsimp only at N7)
    have neaR : la ≠ R := Nat.ne_of_gt (lla _ (.tail _ (.head _)))
    refine KasFin.intro F7 N7 (.tail neaR (.tail (Ne.symm (Nat.ne_of_lt l0)) (.head hna))) fun h8 c8 F8 N8 => ?_
    (try dsimp only at N8)
    refine ⟨_, rfl, h R c8 h8 d' tk3 F8 (fun q hq => N8 q ?_) hRN⟩
    rcases List.mem_cons.mp hq with rfl | hq
    · exact .tail _ (.tail _ (.head _))
    · exact .tail _ (.tail _ (.tail _ hq))
  refine wpAny_bind (wpAny_bind ?_)
  refine wpAny_bind (wpAny_attempt (wpAny_mono hcall (fun k s'' hk => ?_) fun _ _ hF => hF.elim))
  obtain ⟨news', g, F', N', U, c⟩ := hk
  obtain ⟨pre, post, e0, hg, x1, x2⟩ := U.split
  rw [e0] at N'
  have nk := N' (kS, seqObj "list" (List.toArray []) 0) (List.mem_append_right _ (.head _))
  have sb := Heap.SameBut.update s''.heap kS (Obj.mapSeq (·.push k))
  obtain ⟨c2, hc2⟩ : ∃ c2, (s''.heap.update kS (Obj.mapSeq (·.push k))).get? kS = some (seqObj "list" (List.toArray [k]) c2) := ⟨_, get?_update_seq nk.1 (·.push k)⟩
  refine wpAny_bind (listUpdate_at nk.1 rfl ?_ (by simp) (by simp [sizeLine_eq]))
  refine wpAny_pure ?_
  dsimp only
  rw [List.forIn_nil]
  refine wpAny_pure ?_
  refine wpAny_bind (listItems_at hc2 rfl ?_)
  have fin := c _ c2 (kas_fr F' sb nk.2.1 nk.2.2) (by rw [hg]; exact news_set N' x1 x2 sb hc2)
  unfold ksk_end
  (try dsimp only)
  rw [if_neg (by decide), if_pos (by simp), if_pos (by simp)]
  refine wpAny_bind (wpAny_pure ?_)
  rw [if_neg (by decide), StateT.run_pure]
  refine wpAny_bind (wpAny_pure ?_)
  dsimp only
  exact kat_tail (ks := [k]) (out := [Value.str x tx]) (by show (#[k].zip #[Value.str x tx]).map (·.2) = _; simp) (by simp) (by simp) rfl fin
end
end
section
open PySem PySem.Calls PyProof.Rows PySem.W PySem.Spec
inductive TailF (rest : List (Addr × Obj)) : List (Addr × Obj) → (List (Addr × Obj) → List (Addr × Obj)) → Prop
  | here : TailF rest rest (fun r => r)
  | cons {p l k} : TailF rest l k → TailF rest (p :: l) (fun r => p :: k r)
inductive UpdT (d : Addr) (o : Obj) (rest : List (Addr × Obj)) : List (Addr × Obj) → (Obj → List (Addr × Obj) → List (Addr × Obj)) → Prop
  | head {r k} : (∀ p ∈ r, p.1 ≠ d) → TailF rest r k → UpdT d o rest ((d, o) :: r) (fun o' r' => (d, o') :: k r')
  | tail {p r G} : p.1 ≠ d → UpdT d o rest r G → UpdT d o rest (p :: r) (fun o' r' => p :: G o' r')
theorem TailF.self {rest l : List (Addr × Obj)} {k : List (Addr × Obj) → List (Addr × Obj)} (h : TailF rest l k) : k rest = l := by
  induction h with
  | here => rfl
  | cons _ ih => show _ :: _ = _; rw [ih]
theorem TailF.sub {rest l : List (Addr × Obj)} {k : List (Addr × Obj) → List (Addr × Obj)} (h : TailF rest l k) (r' : List (Addr × Obj)) : ∀ p ∈ k r', p ∈ r' ∨ ∀ r0, p ∈ k r0 := by
  induction h with
  | here => intro p hp; exact .inl hp
  | cons _ ih =>
    intro p hp
    rcases List.mem_cons.mp hp with rfl | hp
    · exact .inr fun _ => .head _
    · rcases ih p hp with h | h
      · exact .inl h
      · exact .inr fun r0 => .tail _ (h r0)
theorem TailF.mem {rest l : List (Addr × Obj)} {k : List (Addr × Obj) → List (Addr × Obj)} (h : TailF rest l k) (r' : List (Addr × Obj)) : ∀ p ∈ r', p ∈ k r' := by
  induction h with
  | here => intro p hp; exact hp
  | cons _ ih => intro p hp; exact .tail _ (ih p hp)
theorem UpdT.toF {d : Addr} {o : Obj} {rest l : List (Addr × Obj)} {G : Obj → List (Addr × Obj) → List (Addr × Obj)} (h : UpdT d o rest l G) : UpdF d o l (fun o' => G o' rest) := by
  induction h with
  | head h1 t => rw [show (fun o' => (d, o') :: _) = fun o' => (d, o') :: _ from rfl]; simp only [t.self]; exact .head h1
  | tail h1 _ ih => exact .tail h1 ih
theorem UpdT.self {d : Addr} {o : Obj} {rest l : List (Addr × Obj)} {G : Obj → List (Addr × Obj) → List (Addr × Obj)} (h : UpdT d o rest l G) : G o rest = l := by
  induction h with
  | head h1 t => show _ :: _ = _; rw [t.self]
  | tail h1 _ ih => show _ :: _ = _; rw [ih]
theorem UpdT.sub {d : Addr} {o : Obj} {rest l : List (Addr × Obj)} {G : Obj → List (Addr × Obj) → List (Addr × Obj)} (h : UpdT d o rest l G) (o' : Obj) (r' : List (Addr × Obj)) : ∀ p ∈ G o' r', p ∈ r' ∨ ∀ r0, p ∈ G o' r0 := by
  induction h with
  | head h1 t =>
    intro p hp
    rcases List.mem_cons.mp hp with rfl | hp
    · exact .inr fun _ => .head _
    · rcases t.sub r' p hp with h | h
      · exact .inl h
      · exact .inr fun r0 => .tail _ (h r0)
  | tail h1 _ ih =>
    intro p hp
    rcases List.mem_cons.mp hp with rfl | hp
    · exact .inr fun _ => .head _
    · rcases ih p hp with h | h
      · exact .inl h
      · exact .inr fun r0 => .tail _ (h r0)
theorem UpdT.mem {d : Addr} {o : Obj} {rest l : List (Addr × Obj)} {G : Obj → List (Addr × Obj) → List (Addr × Obj)} (h : UpdT d o rest l G) (o' : Obj) (r' : List (Addr × Obj)) : ∀ p ∈ r', p ∈ G o' r' := by
  induction h with
  | head h1 t => intro p hp; exact .tail _ (t.mem r' p hp)
  | tail h1 _ ih => intro p hp; exact .tail _ (ih p hp)
theorem UpdT.addr {d : Addr} {o : Obj} {rest l : List (Addr × Obj)} {G : Obj → List (Addr × Obj) → List (Addr × Obj)} (h : UpdT d o rest l G) (o' : Obj) : ∀ p ∈ G o' rest, p.1 = d ∨ p ∈ l := by
  induction h with
  | head h1 t =>
    intro p hp
    rcases List.mem_cons.mp hp with rfl | hp
    · exact .inl rfl
    · rw [t.self] at hp; exact .inr (.tail _ hp)
  | tail h1 _ ih =>
    intro p hp
    rcases List.mem_cons.mp hp with rfl | hp
    · exact .inr (.head _)
    · rcases ih p hp with h | h
      · exact .inl h
      · exact .inr (.tail _ h)
def CodeObj (qual : Str) (c' : Addr) (rest : List (Addr × Obj)) : Prop := ∃ oc vs t, (c', oc) ∈ rest ∧ oc.data = .fields vs ∧ vs[1]? = some (.str qual t)
def TabIs (pos : Pos) (tb : Array Value) (c' : Addr) : Prop := tb = #[rawInt pos.line, rawInt pos.col, .ref c']
def TabSt (pos : Pos) (qual : Str) (tb : Array Value) (rest : List (Addr × Obj)) : Prop := tb = #[] ∨ ∃ c', TabIs pos tb c' ∧ CodeObj qual c' rest
theorem CodeObj.rec_ {qual : Str} {c' : Addr} {rest news : List (Addr × Obj)} {h₀ h : Heap} {L : Addr} (C : CodeObj qual c' rest) (N : News h₀ L h news) (hs : ∀ p ∈ rest, p ∈ news) : h.CodeRec (.ref c') qual := by
  obtain ⟨oc, vs, t, hm, hd, hv⟩ := C
  exact ⟨c', oc, vs, t, rfl, N.get (hs _ hm), hd, hv⟩
theorem CodeObj.mono {qual : Str} {c' : Addr} {rest rest' : List (Addr × Obj)} (C : CodeObj qual c' rest) (hs : ∀ p ∈ rest, p ∈ rest') : CodeObj qual c' rest' := by
  obtain ⟨oc, vs, t, hm, hd, hv⟩ := C
  exact ⟨oc, vs, t, hs _ hm, hd, hv⟩
section
variable {M : Model} {A : Around} {E : Value → Shared → Prop} {s : Shared} {h₀ : Heap} {L a c P : Addr} {m mg mb : Str → Option Value} {cn : Str} {cs : Scope} {ccd : Value} {cl : List (Str × Addr)} {news rest : List (Addr × Obj)} {G : Obj → List (Addr × Obj) → List (Addr × Obj)}
  {p : Program} {loose : List Str} {mean : ExcName → Option Value} {name qual : Str} {params : Arguments} {body : Expr} {scope : Scope} {tb : Array Value} {pos : Pos} {firstLine : Nat} {clos : List (Str × Addr)}
theorem lam_make {Q : Value → Shared → Prop} (offs : List Addr) (F : Fr h₀ L s.heap m) (N : News h₀ L s.heap news) (T : Top p loose mean mg mb h₀) (C : CodeHd h₀ c P) (hcd : ccd = .ref c) (U : UpdT P (tabObj tb) rest news G) (ht : TabSt pos qual tb rest)
    (hcl : closureFor scope (envX cn cs L a ccd cl) = pure clos) (ho : ∀ d ∈ offs, (∀ q ∈ rest, q.1 ≠ d) ∧ ∃ o, (d, o) ∈ news)
    (h : ∀ f c' ctv h' tk tb' rest', Fr h₀ L h' m → News h₀ L h' ((f, kla_obj name qual params body scope clos ((mg "__name__").getD .none) c' ctv) :: G (tabObj tb') rest') →
      (∀ q ∈ rest, q ∈ rest') → (∀ d ∈ offs, ∀ q ∈ rest', q.1 ≠ d) → TabIs pos tb' c' → CodeObj qual c' rest' → (∀ q ∈ G (tabObj tb') rest', q.1 < f) → Q (.ref f) { s with heap := h', toks := tk }) :
    wpAny M A (makeFunction name qual params (.expr body) scope (envX cn cs L a ccd cl) [] [] [] pos firstLine) Q E s := by
  have hP : (P, tabObj tb) ∈ news := by
    obtain ⟨pre, post, e, _⟩ := U.toF.split
    rw [e]; exact List.mem_append_right _ (.head _)
  rcases ht with rfl | ⟨c', rfl, hco⟩
  · refine kla_nest F N T C hcd U.toF (by exact True.intro) rfl hcl fun f c' oc vs t ctv h' tk F' N' d1 d2 l1 l2 => ?_
    have e0 : (#[] : Array Value) ++ #[rawInt pos.line, rawInt pos.col, .ref c'] = #[rawInt pos.line, rawInt pos.col, .ref c'] := by simp
    rw [e0] at N'
    have hP2 := U.self
    have hrest : ∀ q ∈ rest, q ∈ news := fun q hq => by rw [← hP2]; exact U.mem _ _ q hq
    have hlt : ∀ q ∈ G (tabObj #[rawInt pos.line, rawInt pos.col, .ref c']) rest, q.1 < c' := fun q hq => by
      rcases U.addr _ q hq with e | e
      · rw [e]; exact l1 _ hP
      · exact l1 q e
    refine h f c' ctv h' tk _ ((c', oc) :: rest) F' (fun q hq => ?_) (fun q hq => .tail _ hq) (fun d hd q hq => ?_) rfl ⟨oc, vs, t, .head _, d1, d2⟩ (fun q hq => ?_)
    · rcases List.mem_cons.mp hq with rfl | hq
      · exact N' _ (.head _)
      · rcases U.sub _ _ q hq with h | h
        · rcases List.mem_cons.mp h with rfl | h
          · exact N' _ (.tail _ (.head _))
          · exact N' _ (.tail _ (.tail _ (U.mem _ _ q h)))
        · exact N' _ (.tail _ (.tail _ (h rest)))
    · obtain ⟨hd1, o, hd2⟩ := ho d hd
      rcases List.mem_cons.mp hq with rfl | hq
      · exact Nat.ne_of_gt (l1 _ hd2)
      · exact hd1 q hq
    · rcases U.sub _ _ q hq with h | h
      · rcases List.mem_cons.mp h with rfl | h
        · exact l2
        · exact Nat.lt_trans (l1 q (hrest q h)) l2
      · exact Nat.lt_trans (hlt q (h rest)) l2
  · refine kla_hit (c' := c') F N T C hcd hP (by exact True.intro) (by simp [codeAmong, rawInt]) hcl fun f ctv h' tk F' N' l1 => ?_
    refine h f c' ctv h' tk _ rest F' ?_ (fun _ hq => hq) (fun d hd => (ho d hd).1) rfl hco ?_
    · rw [U.self]; exact N'
    · rw [U.self]; exact l1
end
end
section
theorem dec_lt {n i k : Nat} (h : i < n) (e : k = n + 1 - i) : n + 1 - (i + 1) < k := e ▸ Nat.sub_lt_sub_left (Nat.lt_succ_of_lt h) (Nat.lt_succ_self i)
theorem cast1 (i : Nat) : (((i + 1 : Nat) : Int)) = (i : Int) + 1 := rfl
theorem ne_of_lt1 {a n : Nat} (h : a < n) : n + 1 ≠ a := Nat.ne_of_gt (Nat.lt_succ_of_lt h)
theorem ne_of_lt2 {a n : Nat} (h : a < n) : n + 2 ≠ a := Nat.ne_of_gt (Nat.lt_succ_of_lt (Nat.lt_succ_of_lt h))
theorem sub_more {n i : Nat} (h : i < n) : n - i = n - i - 1 + 1 := (Nat.sub_add_cancel (Nat.sub_pos_of_lt h)).symm
theorem sub_next {n i j : Nat} (h : n - i = j + 1) : n - (i + 1) = j := by rw [Nat.sub_succ, h]; rfl
end
section
open PySem PySem.Calls PyProof.Rows PySem.W PySem.Spec PyProof.Rows.LCg

def CompEndG (h₀ : Heap) (L : Addr) (m : Str → Option Value) (I : Addr) (oI : Obj) (C : Addr) (oC : Obj) (D : Addr) (oD : Obj) (S : List (Addr × Obj) → Prop) (rest : Value → List (Addr × Obj) → Shared → Prop) (y : Value) (s₂ : Shared) : Prop :=
  ∃ news', Fr h₀ L s₂.heap m ∧ News h₀ L s₂.heap ((I, oI) :: (C, oC) :: (D, oD) :: news') ∧ Off3 I C D news' ∧ S news' ∧ rest y news' s₂
def DRest (prog : Program) (w : World) (A : Around) (h₀ : Heap) (L : Addr) (m : Str → Option Value) (env : Env) (elt : Expr) (x : Str) (scope : Scope) (cl : List (Str × Addr)) (S : List (Addr × Obj) → Prop) (P : Nat → Value → Prop)
    (Fin : List (Str × Value) → List (Addr × Obj) → Shared → Prop) : Nat → Nat → List (Str × Value) → List (Addr × Obj) → Shared → Prop
  | 0, _, kvs, news, s => Fin kvs news s
  | k + 1, i, kvs, news, s => ∀ v I oI C oC D oD m₂ h tk (E' : Value → Shared → Prop), P i v → NsObj oC m₂ → m₂ x = some v → Fr h₀ L h m → News h₀ L h ((I, oI) :: (C, oC) :: (D, oD) :: news) → Off3 I C D news → ((@Ne Nat I C) ∧ (@Ne Nat I D) ∧ (@Ne Nat C D)) →
      ∃ key t, v = .str key t ∧ wpAny (model prog w) A (eval elt (compEnvC scope cl C env)) (CompEndG h₀ L m I oI C oC D oD S (fun y news' s' => DRest prog w A h₀ L m env elt x scope cl S P Fin k (i + 1) (stored kvs key y) news' s')) E' { s with heap := h, toks := tk }
section
variable {prog : Program} {w : World} {A : Around} {E : Value → Shared → Prop} {s : Shared} {h₀ : Heap} {L : Addr} {m : Str → Option Value} {env : Env}

theorem drest_shift {elt : Expr} {x : Str} {scope : Scope} {cl : List (Str × Addr)} {S : List (Addr × Obj) → Prop} {P : Nat → Value → Prop} {Fin : List (Str × Value) → List (Addr × Obj) → Shared → Prop}
    (hFin : ∀ kvs news s h tk, Fin kvs news s → Fin kvs news { s with heap := h, toks := tk }) {k i : Nat} {kvs : List (Str × Value)} {s : Shared} {h : Heap} {tk : Nat} (H : DRest prog w A h₀ L m env elt x scope cl S P Fin k i kvs news s) :
    DRest prog w A h₀ L m env elt x scope cl S P Fin k i kvs news { s with heap := h, toks := tk } := by
  cases k with
  | zero => exact hFin _ _ _ _ _ H
  | succ k => exact H
inductive CompD (prog : Program) (w : World) (A : Around) (h₀ : Heap) (L : Addr) (m : Str → Option Value) (env : Env) (elt : Expr) (x : Str) (scope : Scope) (cl : List (Str × Addr)) (I C D ax : Addr) (its : Array Value) (Fin : List (Str × Value) → List (Addr × Obj) → Shared → Prop) (k : Nat) (s' : Shared) : Prop
  | mk (i : Nat) (oD' : Obj) (kvs : List (Str × Value)) (m' : Str → Option Value) (news' : List (Addr × Obj)) (hi : i ≤ its.size) (hk : k = its.size + 1 - i) (hkl : kvs.length ≤ i) (hst : s'.heap.IsListIter I ax i) (F : Fr h₀ L s'.heap m) (hn : s'.heap.Ns C m') (N : News h₀ L s'.heap ((D, oD') :: news')) (hd : oD'.IsDictOf (strKind prog w) kvs)
      (off : Off3 I C D news') (hS : SrcAt h₀ ax its news') (R : DRest prog w A h₀ L m env elt x scope cl (SrcAt h₀ ax its) (fun i v => its[i]? = some v) Fin (its.size - i) i kvs news' s') : CompD prog w A h₀ L m env elt x scope cl I C D ax its Fin k s'
theorem dloop {elt iter : Expr} {x : Str} {px pk : Pos} {scope : Scope} {cl : List (Str × Addr)} {pos : Pos} {s₂ : Shared} {I C D ax : Addr} {its : Array Value} {S : List (Addr × Obj) → Prop} {news : List (Addr × Obj)}
    {Fin : List (Str × Value) → List (Addr × Obj) → Shared → Prop} {R : Result → Shared → Prop} (hh : A.handled = none) (hIax : I ≠ ax) (hsz : its.size ≤ sizeLine) (hdb : (x == ("__debug__" : Str)) = false)
    (hkind : scope.kind = .function) (hx : scope.names.lookup x = some .local) (S_def : S = SrcAt h₀ ax its)
    (hCI : I ≠ C) (hDI : I ≠ D) (hCD : C ≠ D) (hIL : I ≠ L) (hCL : C ≠ L) (hDL : D ≠ L) (hI₀ : h₀.get? I = none) (hC₀ : h₀.get? C = none) (hD₀ : h₀.get? D = none) (hCax : C ≠ ax) (hDax : D ≠ ax)
    {oD : Obj} {m₁ : Str → Option Value} {hs : Heap} {tks : Nat} (hit : hs.IsListIter I ax 0) (hn : hs.Ns C m₁) (hd : oD.IsDictOf (strKind prog w) [])
    (F : Fr h₀ L hs m) (N : News h₀ L hs ((D, oD) :: news)) (off : Off3 I C D news) (hS : S news)
    (hFin : ∀ kvs news s h tk, Fin kvs news s → Fin kvs news { s with heap := h, toks := tk }) (RR : DRest prog w A h₀ L m env elt x scope cl S (fun i v => its[i]? = some v) Fin its.size 0 [] news s₂)
    (hRR : ∀ s' m' oD' kvs news', Fr h₀ L s'.heap m → News h₀ L s'.heap ((D, oD') :: news') → oD'.IsDictOf (strKind prog w) kvs → Off3 I C D news' → s'.heap.Ns C m' → Fin kvs news' s' → R (.ok .next) s') :
    codeAny (model prog w) A (.compLoop (.DictComp (.Name x pk) elt [⟨.Name x px, iter, [], 0⟩] scope pos) 0 (.ref I) (.ref D) (compEnvC scope cl C env)) R { s₂ with heap := hs, toks := tks } := by
  have W := Walks.list (prog := prog) (w := w) (A := A) hh I ax (Ne.symm hIax) its
  subst S_def
  refine codeAny_compLoop_testsD
    (CompD prog w A h₀ L m env elt x scope cl I C D ax its Fin) ?_ (its.size + 1)
    (CompD.mk 0 oD [] m₁ news (Nat.zero_le _) rfl (Nat.zero_le _) hit F hn N hd off hS (drest_shift hFin RR))
  rintro k s' ⟨i, oD', kvs, m', news', hi, hkk, hkl, hst', F', hn', N', hd', off', hS', R'⟩
  have hl : s'.heap.IsList ax its := hS'.list F'.keep fun p hp => N' p (.tail _ hp)
  have off3 := off'.mem
  by_cases hlt : i < its.size
  · obtain ⟨j, hj⟩ : ∃ j, its.size - i = j + 1 := ⟨its.size - i - 1, sub_more hlt⟩
    rw [hj] at R'
    refine W.item i _ _ _ hlt ⟨hst', hl⟩ fun v h₂ tk₂ hPv hst₂ hk₂ => ?_
    refine wpAny_assign_Name (wpAny_storeName_local (lookup_relabel_local hx) (hn'.at' fun o e => hk₂ _ o (by simpa using Ne.symm hCI) e) (fun h₃ hn₃ hs₃ => ?_) (by simp [compEnvC, relabel, hkind]))
    refine wpAny_tests_nil ?_
    simp only [if_true]
    obtain ⟨oI, heI₂, cI⟩ := hst₂.1
    have heI : h₃.get? I = some oI := hs₃.extBut _ _ hCI heI₂
    obtain ⟨oC, heC, hoC⟩ := ns_obj hn₃
    have F₃ : Fr h₀ L h₃ m := (fr_but F' hk₂ (Ne.symm hIL) hI₀).change hs₃ hCL hC₀
    have N₂ : News h₀ L h₂ ((D, oD') :: news') := news_but N' hk₂ fun p hp => by
      rcases List.mem_cons.mp hp with rfl | hp
      · exact Ne.symm hDI
      · exact (off3 p hp).1
    have N₃ : News h₀ L h₃ ((I, oI) :: (C, oC) :: (D, oD') :: news') := fun p hp => by
      rcases List.mem_cons.mp hp with rfl | hp
      · exact ⟨heI, hIL, hI₀⟩
      · rcases List.mem_cons.mp hp with rfl | hp
        · exact ⟨heC, hCL, hC₀⟩
        · have z := N₂ p hp
          refine ⟨hs₃.extBut _ _ ?_ z.1, z.2⟩
          rcases List.mem_cons.mp hp with rfl | hp
          · exact Ne.symm hCD
          · exact (off3 p hp).2.1
    refine wpAny_Name (wpAny_loadName_local hkind (lookup_relabel_local hx) hn₃ (by simp; rfl) ?_) hdb
    obtain ⟨key, t, rfl, hw⟩ := R' v I oI C oC D oD' _ h₃ _ (notedBy (model prog w) A (compEnvC scope cl C env) fun e s' => R (.error e) s') hPv hoC (by simp) F₃ N₃ off' ⟨hCI, hDI, hCD⟩
    refine wpAny_mono hw (fun y s₄ h₄ => ?_) fun _ _ e => e
    obtain ⟨news₄, F₄, N₄, off₄, hS₄, R₄⟩ := h₄
    have zI := (N₄ (I, oI) List.mem_cons_self).1
    have zC := (N₄ (C, oC) (List.mem_cons_of_mem _ List.mem_cons_self)).1
    have zD := (N₄ (D, oD') (List.mem_cons_of_mem _ (List.mem_cons_of_mem _ List.mem_cons_self))).1
    have N₄' : News h₀ L s₄.heap news₄ := fun p hp => N₄ p (List.mem_cons_of_mem _ (List.mem_cons_of_mem _ (List.mem_cons_of_mem _ hp)))
    have off4 := off₄.mem
    refine wpAny_dictSet_pairs (knd := strKind prog w) (kvs := kvs) (strKind_is _ _ _ _) (Heap.dictOf_iff.mpr ⟨oD', zD, hd'⟩) (fun h₅ hd₅ hs₅ => ?_) (Nat.le_trans hkl (Nat.le_trans hi hsz))
    obtain ⟨oD5, ho5, hd5⟩ := Heap.dictOf_iff.mp hd₅
    refine ⟨its.size + 1 - (i + 1), dec_lt hlt hkk, i + 1, oD5, stored kvs key y, _, news₄, hlt, rfl, ?_, ⟨oI, hs₅.extBut _ _ hDI zI, cI⟩, F₄.change hs₅ hDL hD₀, (hoC.ns zC).sameBut hs₅ hCD, fun p hp => ?_, hd5, off₄, hS₄, ?_⟩
    · exact Nat.le_trans (stored_length_le kvs key y) (Nat.succ_le_succ hkl)
    · rcases List.mem_cons.mp hp with rfl | hp
      · exact ⟨ho5, hDL, hD₀⟩
      · exact ⟨hs₅.extBut _ _ (off4 p hp).2.2 (N₄' p hp).1, (N₄' p hp).2⟩
    · rw [sub_next hj]
      exact drest_shift hFin R₄
  · obtain rfl : i = its.size := Nat.le_antisymm hi (Nat.not_lt.mp hlt)
    rw [Nat.sub_self] at R'
    refine W.done _ _ _ ⟨hst', hl⟩ fun h₂ tk₂ hk₂ => ?_
    refine hRR _ _ oD' kvs news' (fr_but F' hk₂ (Ne.symm hIL) hI₀) (news_but N' hk₂ fun p hp => ?_) hd' off' (hn'.at' fun o e => hk₂ _ o (by simpa using Ne.symm hCI) e) (hFin _ _ _ _ _ R')
    rcases List.mem_cons.mp hp with rfl | hp
    · exact Ne.symm hDI
    · exact (off3 p hp).1
def DFin (prog : Program) (w : World) (h₀ : Heap) (L : Addr) (m : Str → Option Value) (y : Str) (Q : Flow → Shared → Prop) (kvs : List (Str × Value)) (news : List (Addr × Obj)) (s : Shared) : Prop :=
  ∀ (D : Nat) oD h tk, Fr h₀ L h (fun z => if z = y then some (.ref D) else m z) → News h₀ L h ((D, oD) :: news) → oD.IsDictOf (strKind prog w) kvs → (∀ p ∈ news, p.1 ≠ D) → L < D → Q .next { s with heap := h, toks := tk }
abbrev DSrc (prog : Program) (w : World) (A : Around) (h₀ : Heap) (L : Addr) (m : Str → Option Value) (env : Env) (elt : Expr) (x : Str) (scope : Scope) (cl : List (Str × Addr)) (Fin : List (Addr × Obj) → List (Str × Value) → List (Addr × Obj) → Shared → Prop) (xv : Value) (s₁ : Shared) : Prop :=
  ∃ ax its k news, xv = .ref ax ∧ Fr h₀ L s₁.heap m ∧ News h₀ L s₁.heap news ∧ (ax, listOf its k) ∈ news ∧ its.size ≤ sizeLine ∧ DRest prog w A h₀ L m env elt x scope cl (SrcAt h₀ ax its) (fun i v => its[i]? = some v) (Fin news) its.size 0 [] news s₁
theorem dsrc {elt iter : Expr} {x : Str} {px pk : Pos} {scope : Scope} {cl : List (Str × Addr)} {pos : Pos} {RR : Value → Addr → Result → Shared → Prop} {Fin : List (Addr × Obj) → List (Str × Value) → List (Addr × Obj) → Shared → Prop} {xv : Value} {s₁ : Shared}
    (hFin : ∀ base kvs news s h tk, Fin base kvs news s → Fin base kvs news { s with heap := h, toks := tk }) (hcell : ∀ z ∈ scope.names, z.2 ≠ .cell) (hkind : scope.kind = .function) (hx : scope.names.lookup x = some .local) (hdb : (x == ("__debug__" : Str)) = false) (hh : A.handled = none)
    (h₁ : DSrc prog w A h₀ L m env elt x scope cl Fin xv s₁)
    (hRR : ∀ base (s' : Shared) (D C : Nat) m' oD' kvs news', (∀ q ∈ base, @LT.lt Nat _ q.1 D) → Fr h₀ L s'.heap m → News h₀ L s'.heap ((D, oD') :: news') → oD'.IsDictOf (strKind prog w) kvs → (∀ p ∈ news', @Ne Nat p.1 D) → (∀ p ∈ news', @Ne Nat p.1 C) → s'.heap.Ns C m' → h₀.get? C = none → @Ne Nat C L → @Ne Nat C D → @LT.lt Nat _ L D → Fin base kvs news' s' → RR (.ref D) C (.ok .next) s') :
    wpAny (model prog w) A (pyIter xv) (fun it s₂ => wpAny (model prog w) A newDict (fun acc s₃ => wpAny (model prog w) A (newFunctionEnv scope env.globals cl [] env.qual none .none (some env)) (fun cenv s₄ =>
      codeAny (model prog w) A (.compStart (.DictComp (.Name x pk) elt [⟨.Name x px, iter, [], 0⟩] scope pos) 0 it acc { cenv with scope := relabel scope env }) (RR acc cenv.locals) s₄) E s₃) E s₂) E s₁ := by
  obtain ⟨ax, its, k, news, rfl, F, N, hm, hsz, R⟩ := h₁
  have hl : s₁.heap.IsList ax its := listOf_isList (N.get hm)
  have hlt : ax < s₁.heap.objs.size := Heap.lt_size (N.get hm)
  refine wpAny_pyIter_list hl ?_
  have hI := kdx_fresh F (Nat.le_refl s₁.heap.objs.size)
  have hD := kdx_fresh F (Nat.le_succ s₁.heap.objs.size)
  have hC := kdx_fresh F (Nat.le_succ_of_le (Nat.le_succ s₁.heap.objs.size))
  generalize hn : s₁.heap.objs.size = n at hI hD hC hlt ⊢
  generalize hH1 : s₁.heap.push { cls := .type "list_iterator", data := .fields #[.ref ax, .int 0 0] } = H1
  have z1 : H1.objs.size = n + 1 := by rw [← hH1, Heap.size_push, hn]
  have k1 : ∀ b o, s₁.heap.get? b = some o → H1.get? b = some o := fun b o e => hH1 ▸ Heap.get?_push_of_some _ e
  have g1 : H1.get? n = some { cls := .type "list_iterator", data := .fields #[.ref ax, .int 0 0] } := by rw [← hH1, ← hn]; exact Heap.get?_push_size _ rfl
  refine wpAny_newObj_type ?_
  dsimp only
  generalize hH2 : H1.push { cls := .type "dict", dict := none, data := .dict #[] } = H2
  have z2 : H2.objs.size = n + 2 := by rw [← hH2, Heap.size_push, z1]
  have k2 : ∀ b o, H1.get? b = some o → H2.get? b = some o := fun b o e => hH2 ▸ Heap.get?_push_of_some _ e
  have g2 : H2.get? (n + 1) = some { cls := .type "dict", dict := none, data := .dict #[] } := by rw [← hH2, ← z1]; exact Heap.get?_push_size _ rfl
  refine wpAny_newFunctionEnv hcell (by intro y hy; simp at hy) (fun h₁ hns₁ hsb₁ => ?_) hkind
  dsimp only at hns₁ hsb₁ ⊢
  rw [z2] at hns₁ hsb₁ ⊢
  rw [z1]
  have k3 : ∀ b o, b < n + 2 → H2.get? b = some o → h₁.get? b = some o := fun b o hb e => hsb₁.extBut b o (Nat.ne_of_lt hb) (Heap.get?_push_of_some _ e)
  have up : ∀ b o, s₁.heap.get? b = some o → h₁.get? b = some o := fun b o e => k3 b o (by have := Heap.lt_size e; rw [hn] at this; exact Nat.lt_succ_of_lt (Nat.lt_succ_of_lt this)) (k2 b o (k1 b o e))
  have below : ∀ p ∈ news, p.1 < n := fun p hp => by have := Heap.lt_size (N p hp).1; rw [hn] at this; exact this
  have F1 : Fr h₀ L h₁ m := F.keeps up
  have hit : h₁.IsListIter n ax 0 := ⟨_, k3 _ _ (Nat.lt_succ_of_lt (Nat.lt_succ_self n)) (k2 _ _ g1), rfl, rfl⟩
  have hD1 : h₁.get? (n + 1) = some { cls := .type "dict", dict := none, data := .dict #[] } := k3 _ _ (Nat.lt_succ_self (n + 1)) g2
  have hdd : ({ cls := .type "dict", dict := none, data := .dict #[] } : Obj).IsDictOf (strKind prog w) [] := ⟨#[], 0, ⟨rfl, rfl, rfl⟩, rfl, fun _ he => by simp at he, Pairs.nil, List.nodup_nil⟩
  have N1 : News h₀ L h₁ ((n + 1, { cls := .type "dict", dict := none, data := .dict #[] }) :: news) := fun p hp => by
    rcases List.mem_cons.mp hp with rfl | hp
    · exact ⟨hD1, hD⟩
    · exact ⟨up _ _ (N p hp).1, (N p hp).2⟩
  have off : Off3 n (n + 2) (n + 1) news := Off3.of fun p hp => ⟨Nat.ne_of_lt (below p hp), Nat.ne_of_lt (Nat.lt_succ_of_lt (Nat.lt_succ_of_lt (below p hp))), Nat.ne_of_lt (Nat.lt_succ_of_lt (below p hp))⟩
  have hS : SrcAt h₀ ax its news := .inr ⟨_, hm, rfl, _, rfl⟩
  have e1 : @Ne Nat n (n + 2) := Nat.ne_of_lt (Nat.lt_succ_of_lt (Nat.lt_succ_self n))
  have e2 : @Ne Nat n (n + 1) := (Nat.succ_ne_self n).symm
  have e3 : @Ne Nat (n + 2) (n + 1) := Nat.succ_ne_self (n + 1)
  have e4 : @Ne Nat (n + 2) ax := ne_of_lt2 hlt
  have e5 : @Ne Nat (n + 1) ax := ne_of_lt1 hlt
  have e6 : @LT.lt Nat _ L (n + 1) := by have h9 : @LT.lt Nat _ L s₁.heap.objs.size := F.ns.lt; rw [hn] at h9; exact Nat.lt_succ_of_lt h9
  have loop : ∀ tks, codeAny (model prog w) A (.compLoop (.DictComp (.Name x pk) elt [⟨.Name x px, iter, [], 0⟩] scope pos) 0 (.ref n) (.ref (n + 1)) (compEnvC scope cl (n + 2) env)) (RR (.ref (n + 1)) (n + 2)) { s₁ with heap := h₁, toks := tks } := fun tks =>
    dloop hh (Ne.symm (Nat.ne_of_lt hlt)) hsz hdb hkind hx rfl e1 e2 e3 hI.1 hC.1 hD.1 hI.2 hC.2 hD.2 e4 e5 hit hns₁ hdd F1 N1 off hS (hFin news) R fun s9 m' oD' kvs news' F' N' hd' off' hn' fin =>
      hRR news s9 (n + 1) (n + 2) m' oD' kvs news' (fun q hq => Nat.lt_succ_of_lt (below q hq)) F' N' hd' (fun p hp => (off'.mem p hp).2.2) (fun p hp => (off'.mem p hp).2.1) hn' hC.2 hC.1 e3 e6 fin
  exact codeAny_compStart_dict (loop _) ((Walks.list (prog := prog) (w := w) (A := A) hh n ax (Nat.ne_of_lt hlt) its).self 0 _ _ _ ⟨hit, hS.list F1.keep (fun p hp => N1 p (.tail _ hp))⟩ (loop _))
theorem Assign_DComp {elt iter : Expr} {x y : Str} {px py pk : Pos} {scope : Scope} {cl : List (Str × Addr)} {pos spos : Pos} {Q : Flow → Shared → Prop} (_F : Fr h₀ L s.heap m) (hLe : env.locals = L)
    (hsw : swapsWith (.DictComp (.Name x pk) elt [⟨.Name x px, iter, [], 0⟩] scope pos) (some (.Name y py)) spos.line env = pure true)
    (hclos : closureFor scope env = pure cl) (hcell : ∀ z ∈ scope.names, z.2 ≠ .cell) (hkind : scope.kind = .function)
    (hnames : ∀ z ∈ scope.names, z.2 = .local → scope.names.lookup z.1 = some .local) (hx : scope.names.lookup x = some .local) (hdb : (x == ("__debug__" : Str)) = false)
    (hy : env.kindOf y = some .local) (hp : (env.scope.kind == .class || (env.scope.kind == .module && env.locals != env.globals)) = false) (hh : A.handled = none)
    (h : wpAny (model prog w) A (eval iter env) (DSrc prog w A h₀ L m env elt x scope cl fun _ => DFin prog w h₀ L m y Q) E s)
    (hs : ∀ x, foldedSetIterable iter env x = pure x := by intro _; rfl) :
    wpAny (model prog w) A (exec (.Assign [.Name y py] (.DictComp (.Name x pk) elt [⟨.Name x px, iter, [], 0⟩] scope pos) spos) env) Q E s := by
  subst hLe
  rw [exec_Assign_Name_used _ _ _ _ hsw]
  refine wpAny_bind (wpAny_standAt (wpAny_bind ?_))
  show wpAny _ A (do let _ ← comprehension (.DictComp (.Name x pk) elt [⟨.Name x px, iter, [], 0⟩] scope pos) scope env _ newDict false (eval iter env) (some (assign (.Name y py) env))) _ _ s
  refine wpAny_bind (wpAny_mono (wpAny_comprehension_free (use := some (assign (.Name y py) env)) (Q := fun _ s' => Q .next s') rfl hs hclos hkind hnames
    (wpAny_mono h (fun xv s₁ h₁ => ?_) fun _ _ e => e)) (fun _ s' hq => wpAny_pure (wpAny_pure hq)) fun _ _ e => e)
  refine dsrc (fun _ _ _ _ _ _ x => x) hcell hkind hx hdb hh h₁ fun base s9 D C m' oD' kvs news' hb9 F' N' hd' o1 o2 hn' hC0 hCL hCD e6 fin => ?_
  show wpAny _ A (assign (.Name y py) env (.ref D)) _ _ _
  refine wpAny_assign_Name (wpAny_storeName_local hy F'.ns (fun h₂ hn₂ hs₂ => ?_) hp)
  have hL₀ : h₀.get? env.locals = none := Heap.get?_none_of_le F'.above
  have F₂ : Fr h₀ env.locals h₂ (fun z => if z = y then some (.ref D) else m z) := ⟨hn₂, fun b o e => hs₂.extBut b o (fun q => by rw [q, hL₀] at e; cases e) (F'.keep b o e), F'.above⟩
  refine ⟨m', hn'.sameBut hs₂ hCL, fun h'' hs'' => fin D oD' h'' _ (F₂.change hs'' hCL hC0) (fun p hp => ?_) hd' o1 e6⟩
  have z : h₂.get? p.1 = some p.2 := hs₂.extBut _ _ (N' p hp).2.1 (N' p hp).1
  refine ⟨hs''.extBut _ _ ?_ z, (N' p hp).2⟩
  rcases List.mem_cons.mp hp with rfl | hp
  · exact Ne.symm hCD
  · exact o2 p hp
def DFinE (prog : Program) (w : World) (h₀ : Heap) (L : Addr) (m : Str → Option Value) (Q : Value → Shared → Prop) (base : List (Addr × Obj)) (kvs : List (Str × Value)) (news : List (Addr × Obj)) (s : Shared) : Prop :=
  ∀ (D : Nat) oD h tk, (∀ q ∈ base, @LT.lt Nat _ q.1 D) → Fr h₀ L h m → News h₀ L h ((D, oD) :: news) → oD.IsDictOf (strKind prog w) kvs → (∀ p ∈ news, p.1 ≠ D) → L < D → Q (.ref D) { s with heap := h, toks := tk }
theorem Eval_DComp {elt iter : Expr} {x : Str} {px pk : Pos} {scope : Scope} {cl : List (Str × Addr)} {pos : Pos} {Q : Value → Shared → Prop} (_F : Fr h₀ L s.heap m)
    (hclos : closureFor scope env = pure cl) (hcell : ∀ z ∈ scope.names, z.2 ≠ .cell) (hkind : scope.kind = .function)
    (hnames : ∀ z ∈ scope.names, z.2 = .local → scope.names.lookup z.1 = some .local) (hx : scope.names.lookup x = some .local) (hdb : (x == ("__debug__" : Str)) = false) (hh : A.handled = none)
    (h : wpAny (model prog w) A (eval iter env) (DSrc prog w A h₀ L m env elt x scope cl (DFinE prog w h₀ L m Q)) E s)
    (hs : ∀ x, foldedSetIterable iter env x = pure x := by intro _; rfl) :
    wpAny (model prog w) A (eval (.DictComp (.Name x pk) elt [⟨.Name x px, iter, [], 0⟩] scope pos) env) Q E s := by
  rw [show eval (.DictComp (.Name x pk) elt [⟨.Name x px, iter, [], 0⟩] scope pos) env = comprehension (.DictComp (.Name x pk) elt [⟨.Name x px, iter, [], 0⟩] scope pos) scope env (firstIterPos [⟨.Name x px, iter, [], 0⟩] pos) newDict (firstAsync [⟨.Name x px, iter, [], 0⟩]) (firstIter [⟨.Name x px, iter, [], 0⟩] env) from rfl]
  refine wpAny_comprehension_free (use := none) rfl hs hclos hkind hnames (wpAny_mono h (fun xv s₁ h₁ => ?_) fun _ _ e => e)
  refine dsrc (fun _ _ _ _ _ _ x => x) hcell hkind hx hdb hh h₁ fun base s9 D C m' oD' kvs news' hb9 F' N' hd' o1 o2 hn' hC0 hCL hCD e6 fin => ?_
  refine ⟨m', hn', fun h'' hs'' => fin D oD' h'' _ hb9 (F'.change hs'' hCL hC0) (fun p hp => ?_) hd' o1 e6⟩
  refine ⟨hs''.extBut _ _ ?_ (N' p hp).1, (N' p hp).2⟩
  rcases List.mem_cons.mp hp with rfl | hp
  · exact Ne.symm hCD
  · exact o2 p hp
theorem ld_cell {x : Str} {pos : Pos} {v : Value} {o : Obj} {c C : Addr} {scope : Scope} {cl : List (Str × Addr)} {news : List (Addr × Obj)} {Q : Value → Shared → Prop} (N : News h₀ L s.heap news) (hc : (compEnvC scope cl C env).cells.lookup x = some c) (hm : (c, o) ∈ news) (hd : o.data = .cell (some v)) (h : Q v s)
    (hk : (compEnvC scope cl C env).scope.kind = .function := by rfl) (hx : (compEnvC scope cl C env).kindOf x = some .cell := by rfl) (hb : (x == ("__debug__" : Str)) = false := by decide) :
    wpAny (model prog w) A (eval (.Name x pos) (compEnvC scope cl C env)) Q E s := wpAny_Name (wpAny_loadName_cell hk hx hc ⟨o, N.get hm, hd⟩ h) hb
theorem compEnd_push {I C D R : Addr} {o oI oC oD : Obj} {S : List (Addr × Obj) → Prop} {rest : Value → List (Addr × Obj) → Shared → Prop} {y : Value} {s₂ : Shared} {news : List (Addr × Obj)} (F : Fr h₀ L s₂.heap m) (N : News h₀ L s₂.heap ((R, o) :: (I, oI) :: (C, oC) :: (D, oD) :: news)) (off : Off3 I C D news)
    (l : ∀ p ∈ (I, oI) :: (C, oC) :: (D, oD) :: news, p.1 < R) (hS : S ((R, o) :: news)) (r : rest y ((R, o) :: news) s₂) : CompEndG h₀ L m I oI C oC D oD S rest y s₂ := by
  refine ⟨(R, o) :: news, F, fun p hp => N p ?_, ⟨⟨Nat.ne_of_gt (l _ (.head _)), Nat.ne_of_gt (l _ (.tail _ (.head _))), Nat.ne_of_gt (l _ (.tail _ (.tail _ (.head _))))⟩, off⟩, hS, r⟩
  rcases List.mem_cons.mp hp with rfl | hp
  · exact .tail _ (.head _)
  · rcases List.mem_cons.mp hp with rfl | hp
    · exact .tail _ (.tail _ (.head _))
    · rcases List.mem_cons.mp hp with rfl | hp
      · exact .tail _ (.tail _ (.tail _ (.head _)))
      · rcases List.mem_cons.mp hp with rfl | hp
        · exact .head _
        · exact .tail _ (.tail _ (.tail _ (.tail _ hp)))
end
end
section
open PySem PySem.Calls PyProof.Rows PySem.W PySem.Spec
def AllNe (D : Nat) : List (Addr × Obj) → Prop
  | [] => True
  | p :: r => (@Ne Nat p.1 D) ∧ AllNe D r
theorem allNe_of {D : Nat} : ∀ {l : List (Addr × Obj)}, (∀ p ∈ l, p.1 ≠ D) → AllNe D l
  | [], _ => trivial
  | _ :: _, h => ⟨h _ (.head _), allNe_of fun p hp => h p (.tail _ hp)⟩
inductive TruthL : Obj → Bool → Prop
  | e0 {n} : TruthL (listOf #[] n) false
  | s0 {n} : TruthL (listOf (strValues []).toArray n) false
  | s1 {a n} : TruthL (listOf (strValues [a]).toArray n) true
section
variable {prog : Program} {w : World} {A : Around} {E : Value → Shared → Prop} {s : Shared} {h₀ : Heap} {L : Addr} {m : Str → Option Value} {news : List (Addr × Obj)}
theorem truthyL0 {a : Addr} {n : Nat} {Q : Bool → Shared → Prop} (N : News h₀ L s.heap news) (hm : (a, listOf #[] n) ∈ news) (h : Q false { s with toks := s.toks + 1 + 1 }) : wpAny (model prog w) A (truthy (.ref a)) Q E s :=
  wpAny_truthy_list (items := #[]) ⟨_, N.get hm, rfl, n, rfl⟩ (by decide) h
theorem truthyL1 {a : Addr} {n : Nat} {x : Value} {xs : List Value} {Q : Bool → Shared → Prop} (N : News h₀ L s.heap news) (hm : (a, listOf (x :: xs).toArray n) ∈ news) (hz : (x :: xs).length < 1000) (h : Q true { s with toks := s.toks + 1 + 1 }) : wpAny (model prog w) A (truthy (.ref a)) Q E s :=
  wpAny_truthy_list (items := (x :: xs).toArray) ⟨_, N.get hm, rfl, n, rfl⟩ (by rw [List.size_toArray]; lia) (by simpa using h)
theorem truthyD0 {a : Addr} {o : Obj} {Q : Bool → Shared → Prop} (N : News h₀ L s.heap news) (hm : (a, o) ∈ news) (hd : o.IsDictOf (strKind prog w) []) (hs : (a == sysModules) = false) (h : Q false { s with toks := s.toks + 1 + 1 }) : wpAny (model prog w) A (truthy (.ref a)) Q E s :=
  wpAny_truthy_dict (knd := strKind prog w) (kvs := []) hs (Heap.dictOf_iff.mpr ⟨o, N.get hm, hd⟩) (by decide) h
theorem truthyD1 {a : Addr} {o : Obj} {kv : Str × Value} {kvs : List (Str × Value)} {Q : Bool → Shared → Prop} (N : News h₀ L s.heap news) (hm : (a, o) ∈ news) (hd : o.IsDictOf (strKind prog w) (kv :: kvs)) (hs : (a == sysModules) = false) (hz : (kv :: kvs).length < 1000) (h : Q true { s with toks := s.toks + 1 + 1 }) : wpAny (model prog w) A (truthy (.ref a)) Q E s :=
  wpAny_truthy_dict (knd := strKind prog w) (kvs := kv :: kvs) hs (Heap.dictOf_iff.mpr ⟨o, N.get hm, hd⟩) (by lia) (by simpa using h)
theorem itemLast {value slice : PySem.Expr} {l : Addr} {ys : List Value} {v : Value} {n : Nat} {u : Tok} {Q : Value → Shared → Prop} (N : News h₀ L s.heap news) (hm : (l, listOf (ys ++ [v]).toArray n) ∈ news) (hz : ys.length < 1000) (h : Q v s)
    (hs : subscripted slice false (.ref l) (.int (-1) u) = operate [.ref l, .int (-1) u] (getItem (.ref l) (.int (-1) u)) := by with_unfolding_all rfl) :
    wpAny (model prog w) A (subscriptTail value slice (.ref l) (.int (-1) u)) Q E s := by
  have hl : s.heap.IsList l (ys ++ [v]).toArray := ⟨_, N.get hm, rfl, n, rfl⟩
  refine tail_any hl.typeIs slot_list_getitem.lookup (wpAny_getItem_list_neg hl (by decide) (by simp; lia) (by decide) (x := v) ?_ h) hs
  have e : ((-1 : Int) + ((ys ++ [v]).toArray.size : Int)).toNat = ys.length := by simp; lia
  rw [e]
  simp
theorem appL {D : Addr} {l : List Value} {n : Nat} {x : Value} {news' : List (Addr × Obj)} {Q : Value → Shared → Prop} (F : Fr h₀ L s.heap m) (N : News h₀ L s.heap news) (U : Upd D (listOf l.toArray n) (listOf (l ++ [x]).toArray (n + 1)) news news')
    (hz : l.length ≤ 2000) (h : ∀ h', Fr h₀ L h' m → News h₀ L h' news' → Q .none { s with heap := h' }) : wpAny (model prog w) A (call (.builtin "list.append") [.ref D, x]) Q E s := by
  obtain ⟨pre, post, rfl, rfl, a, b⟩ := U.split
  have z := N (D, listOf l.toArray n) (List.mem_append.mpr (.inr (.head _)))
  refine wpAny_call_entry PySem.F.slot_list_append ⟨_, z.1, rfl⟩ PySem.F.entry_list_append ?_ (PySem.F.args_list_append_2 _ _)
  show wpAny _ _ (updateSeq D (·.push x) >>= fun _ => ret .none) _ _ s
  refine wpAny_bind ?_
  refine wpAny_updateSeq z.1 rfl (wpAny_pure ⟨_, rfl, ?_⟩) (by rw [List.size_toArray, sizeLine_eq]; lia) (by rw [Array.size_push, List.size_toArray, sizeLine_eq]; lia)
  have hs := Heap.SameBut.update D (Obj.mapSeq (·.push x)) (h := s.heap)
  have e : l.toArray.push x = (l ++ [x]).toArray := by simp
  refine h _ (F.change hs z.2.1 z.2.2) (news_set N a b hs ?_)
  rw [Heap.get?_update_self _ z.1 (by rw [mapSeq_push]; rfl), mapSeq_push, e]
theorem dictItem {value slice : PySem.Expr} {d : Addr} {o : Obj} {kvs : List (Str × Value)} {x : Str} {t : Tok} {v : Value} {Q : Value → Shared → Prop} (N : News h₀ L s.heap news) (hp : (d, o) ∈ news) (hd : o.IsDictOf (strKind prog w) kvs) (hl : PySem.valueAt kvs x = some v) (h : Q v { s with toks := s.toks + 1 })
    (hs : subscripted slice false (.ref d) (.str x t) = operate [.ref d, .str x t] (getItem (.ref d) (.str x t)) := by with_unfolding_all rfl) : wpAny (model prog w) A (subscriptTail value slice (.ref d) (.str x t)) Q E s :=
  kdt_tail (knd := strKind prog w) N hp hd (kdt_getItem (knd := strKind prog w) N hp hd (strKind_is _ _ _ _) hl h) hs
theorem valueAt_one {x : Str} {v : Value} : PySem.valueAt [(x, v)] x = some v := by simp [PySem.valueAt]
theorem tupItem {value slice : PySem.Expr} {a : Addr} {vs : List Value} {k : Nat} {u : Tok} {v : Value} {Q : Value → Shared → Prop} (N : News h₀ L s.heap news) (hm : (a, tupOf vs) ∈ news) (hk : k < vs.length) (hz : vs.length < 1000) (hx : vs[k]? = some v) (h : Q v s)
    (hs : subscripted slice false (.ref a) (.int (k : Int) u) = operate [.ref a, .int (k : Int) u] (getItem (.ref a) (.int (k : Int) u)) := by with_unfolding_all rfl) :
    wpAny (model prog w) A (subscriptTail value slice (.ref a) (.int (k : Int) u)) Q E s := by
  refine item_tupleT (l := vs) (j := k) ⟨_, N.get hm, rfl, 0, rfl⟩ (by lia) (by lia) ?_ hx h hs
  unfold seqIndex?
  simp
  lia
theorem tupItem0 {value slice : PySem.Expr} {a : Addr} {vs : List Value} {u : Tok} {v : Value} {Q : Value → Shared → Prop} (N : News h₀ L s.heap news) (hm : (a, tupOf vs) ∈ news) (hk : 0 < vs.length) (hz : vs.length < 1000) (hx : vs[0]? = some v) (h : Q v s)
    (hs : subscripted slice false (.ref a) (.int 0 u) = operate [.ref a, .int 0 u] (getItem (.ref a) (.int 0 u)) := by with_unfolding_all rfl) :
    wpAny (model prog w) A (subscriptTail value slice (.ref a) (.int 0 u)) Q E s := tupItem (k := 0) N hm hk hz hx h hs
theorem truthyT {a : Addr} {o : Obj} {b : Bool} {Q : Bool → Shared → Prop} (N : News h₀ L s.heap news) (hm : (a, o) ∈ news) (T : TruthL o b) (h : Q b { s with toks := s.toks + 1 + 1 }) : wpAny (model prog w) A (truthy (.ref a)) Q E s := by
  cases T with
  | e0 => exact truthyL0 N hm h
  | s0 => exact truthyL0 N hm h
  | s1 => exact truthyL1 N hm (by simp) h
theorem mapSeq_list {f : Array Value → Array Value} {its : Array Value} {n : Nat} (h : (f its).size ≠ its.size) : Obj.mapSeq f (listOf its n) = listOf (f its) (n + 1) := by simp [Obj.mapSeq, h]
theorem popL {D : Addr} {l : List Value} {n : Nat} {x : Value} {news' : List (Addr × Obj)} {Q : Value → Shared → Prop} (F : Fr h₀ L s.heap m) (N : News h₀ L s.heap news) (U : Upd D (listOf (l ++ [x]).toArray n) (listOf l.toArray (n + 1)) news news')
    (hz : l.length ≤ 2000) (h : ∀ h', Fr h₀ L h' m → News h₀ L h' news' → Q x { s with heap := h' }) : wpAny (model prog w) A (call (.builtin "list.pop") [.ref D]) Q E s := by
  obtain ⟨pre, post, rfl, rfl, a, b⟩ := U.split
  have z := N (D, listOf (l ++ [x]).toArray n) (List.mem_append.mpr (.inr (.head _)))
  have hsz : (l ++ [x]).toArray.size = l.length + 1 := by simp
  refine call_meets PySem.F.slot_list_pop ⟨_, z.1, rfl⟩ PySem.F.entry_list_pop (PySem.F.args_list_pop_1 _) (PySem.MeetsSeq.list_pop_last D (l ++ [x]).toArray n x (by rw [hsz]; simp) (by rw [hsz, sizeLine_eq]; lia)) ⟨z.1, ?_⟩
  have hs := Heap.SameBut.update D (Obj.mapSeq fun xs => xs.eraseIdxIfInBounds ((l ++ [x]).toArray.size - 1)) (h := s.heap)
  refine h _ (F.change hs z.2.1 z.2.2) (news_set N a b hs ?_)
  have e : (l ++ [x]).toArray.eraseIdxIfInBounds ((l ++ [x]).toArray.size - 1) = l.toArray := by
    rw [hsz]
    apply Array.ext'
    unfold Array.eraseIdxIfInBounds
    rw [dif_pos (by simp), Array.toList_eraseIdx]
    show (l ++ [x]).eraseIdx (l.length + 1 - 1) = l
    rw [Nat.add_sub_cancel, List.eraseIdx_append_of_length_le (Nat.le_refl _)]
    simp
  have e2 : Obj.mapSeq (fun xs => xs.eraseIdxIfInBounds ((l ++ [x]).toArray.size - 1)) (listOf (l ++ [x]).toArray n) = listOf l.toArray (n + 1) := by
    rw [mapSeq_list (by (try dsimp only); rw [e, hsz, List.size_toArray]; lia), e]
  have g := Heap.get?_update_self (Obj.mapSeq fun xs => xs.eraseIdxIfInBounds ((l ++ [x]).toArray.size - 1)) z.1 (by rw [e2]; rfl)
  rw [e2] at g
  exact g
theorem lenL {D : Addr} {l : List Value} {n : Nat} {Q : Value → Shared → Prop} (N : News h₀ L s.heap news) (hm : (D, listOf l.toArray n) ∈ news) (hz : l.length ≤ 2000) (h : Q (.int (l.length : Int) (s.toks + 1)) { s with toks := s.toks + 1 + 1 }) : wpAny (model prog w) A (call (.builtin "len") [.ref D]) Q E s :=
  Calls.call_len_list (items := l.toArray) ⟨_, N.get hm, rfl, n, rfl⟩ (by rw [List.size_toArray]; lia) (by rw [List.size_toArray]; exact h)
end
end
section
open PySem PySem.W PyProof.Rows PySem.Calls PySem.Spec
noncomputable abbrev P3 := PySem.Challenge.rw_pg0301_01.row.prog
noncomputable abbrev lo3 : List Str :=
    (looseW hd1.view_39
            [Str.ofString "_twin_re_1", Str.ofString "_namespace_map", Str.ofString "_looks_like_prefix_name",
              Str.ofString "C14NWriterTarget"] ++
          List.map (fun x => x.name) (recsOf hd1.view_39) ++
        List.map (fun x => x.fst) (litsOf hd1.view_39) ++
      List.map (fun x => x.name)
        (clssOf hd1.view_39
          (looseW hd1.view_39
            [Str.ofString "_twin_re_1", Str.ofString "_namespace_map", Str.ofString "_looks_like_prefix_name",
              Str.ofString "C14NWriterTarget"])))
noncomputable abbrev en (P : Params) (n : String) (tk : Tok) (v : Value) : DictEntry := ⟨PyData.keyHash P (Str.ofString n), .str (Str.ofString n) tk, v⟩
noncomputable abbrev wdict (P : Params) (tk : Nat → Tok) (q dl nsd ns pm ps pend : Value) (seen done : Bool) (t0 : Tok): List DictEntry := [
  en P "_write" (tk 0) q, en P "_data" (tk 1) dl, en P "_with_comments" (tk 2) (.bool false), en P "_strip_text" (tk 3) (.bool false),
  en P "_exclude_attrs" (tk 4) .none, en P "_exclude_tags" (tk 5) .none, en P "_rewrite_prefixes" (tk 6) (.bool false),
  en P "_qname_aware_tags" (tk 7) .none, en P "_find_qname_aware_attrs" (tk 8) .none,
  en P "_declared_ns_stack" (tk 9) nsd, en P "_ns_stack" (tk 10) ns, en P "_prefix_map" (tk 11) pm, en P "_preserve_space" (tk 12) ps,
  en P "_pending_start" (tk 13) pend, en P "_root_seen" (tk 14) (.bool seen), en P "_root_done" (tk 15) (.bool done), en P "_ignored_depth" (tk 16) (.int 0 t0)]
abbrev tStr (s : String) (t : Tok) : Value := .str (Str.ofString s) t
noncomputable abbrev wCells (P : Params) (tk : Nat → Tok) (t0 : Tok) (wd wr q pc dl nsd ns pm ps : Nat) (seen done : Bool) (pcs : List (Str × Tok)) (dts : List (Str × Tok)) (nsds nss pss : List Value) (tb : Array Value) (e0 e1 e2 e3 e4 e5 : Nat) (rest : List (Addr × Obj)) : List (Addr × Obj) :=
  (wd, dictOf (wdict P tk (.ref q) (.ref dl) (.ref nsd) (.ref ns) (.ref pm) (.ref ps) .none seen done t0) e0) :: (wr, instObj 150 wd) :: (q, bfmObj "list.append" (.ref pc)) ::
  (pc, listOf (strValues pcs).toArray e1) :: (dl, listOf (strValues dts).toArray e2) :: (nsd, listOf nsds.toArray e3) :: (ns, listOf nss.toArray e4) :: (ps, listOf pss.toArray e5) :: (123, tabObj tb) :: rest
def WOrd (wd wr q pc dl nsd ns pm ps : Nat) : Prop := 123 < pc ∧ pc < q ∧ q < wd ∧ wd < wr ∧ wr < dl ∧ dl < nsd ∧ nsd < ns ∧ ns < pm ∧ pm < ps
def WOff (wd pc dl nsd ns ps : Nat) (rest : List (Addr × Obj)) : Prop := (∀ p ∈ rest, p.1 ≠ 123) ∧ (∀ p ∈ rest, p.1 ≠ pc) ∧ (∀ p ∈ rest, p.1 ≠ wd) ∧ (∀ p ∈ rest, p.1 ≠ dl) ∧ (∀ p ∈ rest, p.1 ≠ nsd) ∧ (∀ p ∈ rest, p.1 ≠ ns) ∧ (∀ p ∈ rest, p.1 ≠ ps)
theorem strValues_push {l : List (Str × Tok)} {x : Str} {t : Tok} : (strValues l).toArray.push (.str x t) = (strValues (l ++ [(x, t)])).toArray := by simp [strValues]
end
section
open PySem PySem.W PyProof.Rows PySem.Calls PySem.Spec
inductive InA (a : Nat) : List (Addr × Obj) → Prop
  | head {o : Obj} {l : List (Addr × Obj)} : InA a ((a, o) :: l)
  | tail {q : Addr × Obj} {l : List (Addr × Obj)} (h : InA a l) : InA a (q :: l)
inductive Suf (r : List (Addr × Obj)) : List (Addr × Obj) → Prop
  | here : Suf r r
  | tail {q : Addr × Obj} {l : List (Addr × Obj)} (h : Suf r l) : Suf r (q :: l)
inductive Has (b : Nat) : List Nat → Prop
  | head {l : List Nat} : Has b (b :: l)
  | tail {x : Nat} {l : List Nat} (h : Has b l) : Has b (x :: l)
inductive Bef (a b : Nat) : List Nat → Prop
  | head {l : List Nat} (h : Has b l) : Bef a b (a :: l)
  | tail {x : Nat} {l : List Nat} (h : Bef a b l) : Bef a b (x :: l)
theorem InA.mem {a : Nat} {l : List (Addr × Obj)} (h : InA a l) : ∃ o, (a, o) ∈ l := by
  induction h with
  | head => exact ⟨_, .head _⟩
  | tail _ ih => obtain ⟨o, h⟩ := ih; exact ⟨o, .tail _ h⟩
theorem Suf.mem {r l : List (Addr × Obj)} (h : Suf r l) : ∀ p ∈ r, p ∈ l := by
  induction h with
  | here => exact fun _ h => h
  | tail _ ih => exact fun p hp => .tail _ (ih p hp)
theorem lt_in {a d : Nat} {l : List (Addr × Obj)} (h : ∀ p ∈ l, p.1 < d) (m : InA a l) : a < d := by
  obtain ⟨o, m⟩ := m.mem
  exact h _ m
theorem ne_suf {d : Nat} {l r : List (Addr × Obj)} (h : ∀ p ∈ l, p.1 < d) (m : Suf r l) : ∀ p ∈ r, p.1 ≠ d := fun p hp => Nat.ne_of_lt (h p (m.mem p hp))
theorem lt_suf {d : Nat} {l r : List (Addr × Obj)} (h : ∀ p ∈ l, p.1 < d) (m : Suf r l) : ∀ p ∈ r, p.1 < d := fun p hp => h p (m.mem p hp)
theorem far_suf {d : Nat} {l r : List (Addr × Obj)} (h : ∀ p ∈ l, p.1 < d) (m : Suf r l) : (∀ p ∈ r, p.1 ≠ d + 1) ∧ (∀ p ∈ r, p.1 ≠ d + 1 + 1) := ⟨fun p hp => Nat.ne_of_lt (Nat.lt_succ_of_lt (h p (m.mem p hp))), fun p hp => Nat.ne_of_lt (Nat.lt_succ_of_lt (Nat.lt_succ_of_lt (h p (m.mem p hp))))⟩
theorem ne_cons {d : Nat} {q : Addr × Obj} {l : List (Addr × Obj)} (h : q.1 ≠ d) (r : ∀ p ∈ l, p.1 ≠ d) : ∀ p ∈ q :: l, p.1 ≠ d := List.forall_mem_cons.mpr ⟨h, r⟩
theorem sub_c {q : Addr × Obj} {l big : List (Addr × Obj)} (h : q ∈ big) (r : ∀ p ∈ l, p ∈ big) : ∀ p ∈ q :: l, p ∈ big := List.forall_mem_cons.mpr ⟨h, r⟩
theorem news_c {h₀ h : Heap} {L : Addr} {l big : List (Addr × Obj)} {p : Addr × Obj} (N : News h₀ L h big) (m : p ∈ big) (r : News h₀ L h l) : News h₀ L h (p :: l) := List.forall_mem_cons.2 ⟨N _ m, r⟩
theorem Has.mem {b : Nat} {l : List Nat} (h : Has b l) : b ∈ l := by
  induction h with
  | head => exact .head _
  | tail _ ih => exact .tail _ ih
theorem lt_bef {a b : Nat} {l : List Nat} (h : l.Pairwise (· < ·)) (m : Bef a b l) : a < b := by
  induction m with
  | head hb => exact (List.pairwise_cons.mp h).1 _ hb.mem
  | tail _ ih => exact ih (List.pairwise_cons.mp h).2
theorem pw_cons {a b : Nat} {l : List Nat} (h : a < b) (p : (b :: l).Pairwise (· < ·)) : (a :: b :: l).Pairwise (· < ·) := by
  refine List.pairwise_cons.mpr ⟨fun c hc => ?_, p⟩
  rcases List.mem_cons.mp hc with rfl | hc
  · exact h
  · exact Nat.lt_trans h ((List.pairwise_cons.mp p).1 c hc)
theorem lt_wo {a b wd wr q pc dl nsd ns pm ps : Nat} (h : WOrd wd wr q pc dl nsd ns pm ps) (m : Bef a b [123, pc, q, wd, wr, dl, nsd, ns, pm, ps]) : a < b := by
  obtain ⟨o1, o2, o3, o4, o5, o6, o7, o8, o9⟩ := h
  exact lt_bef (pw_cons o1 (pw_cons o2 (pw_cons o3 (pw_cons o4 (pw_cons o5 (pw_cons o6 (pw_cons o7 (pw_cons o8 (pw_cons o9 (List.pairwise_singleton _ _)))))))))) m
end
section
open PySem PySem.W PyProof.Rows PySem.Calls PySem.Spec
theorem bl {a b : Nat} (e : Nat.ble a b = true) : a ≤ b := Nat.le_of_ble_eq_true e
theorem rm0 {d a L : Nat} (h : d + a < L) : d < L := Nat.lt_of_le_of_lt (Nat.le_add_right d a) h
theorem rm1 {d a b L : Nat} (h : d + a < L) (e : Nat.ble b a = true) : d + b < L := Nat.lt_of_le_of_lt (Nat.add_le_add_left (bl e) d) h
theorem rm2 {d a b c L : Nat} (h : d + a < L) (e : Nat.ble (b + c) a = true) : d + b + c < L := by rw [Nat.add_assoc]; exact rm1 h e
theorem rm3 {d a b c f L : Nat} (h : d + a < L) (e : Nat.ble (b + (c + f)) a = true) : d + b + c + f < L := by rw [Nat.add_assoc]; exact rm2 h e
theorem rm4 {d a b c f g L : Nat} (h : d + a < L) (e : Nat.ble (b + (c + (f + g))) a = true) : d + b + c + f + g < L := by rw [Nat.add_assoc]; exact rm3 h e
theorem rnA {d m a L : Nat} (h : d + m + a < L) : d + a < L := Nat.lt_of_le_of_lt (Nat.add_le_add_right (Nat.le_add_right d m) a) h
theorem rn0 {d m a L : Nat} (h : d + m + a < L) : d < L := rm0 (rnA h)
theorem rn1 {d m a b L : Nat} (h : d + m + a < L) (e : Nat.ble b a = true) : d + b < L := rm1 (rnA h) e
theorem rn2 {d m a b c L : Nat} (h : d + m + a < L) (e : Nat.ble (b + c) a = true) : d + b + c < L := rm2 (rnA h) e
theorem rr {d k n a b L : Nat} (h : d + k * (n + 1) + a < L) (e : Nat.ble b k = true) : d + b + k * n + a < L := by
  refine Nat.lt_of_le_of_lt (Nat.add_le_add_right ?_ a) h
  rw [Nat.mul_succ, Nat.add_assoc, Nat.add_comm b]
  exact Nat.add_le_add_left (Nat.add_le_add_left (bl e) _) d
theorem l0 {x a b : Nat} (h : x ≤ a) (e : Nat.ble a b = true) : x ≤ b := Nat.le_trans h (bl e)
theorem l1 {x a b c : Nat} (h : x ≤ a) (e : Nat.ble (a + c) b = true) : x + c ≤ b := Nat.le_trans (Nat.add_le_add_right h c) (bl e)
theorem s1 {x a b c : Nat} (h : x < a) (e : Nat.ble (a + c) (b + 1) = true) : x + c ≤ b := Nat.le_of_lt_succ (Nat.lt_of_lt_of_le (Nat.add_lt_add_right h c) (bl e))
theorem s0 {x a b : Nat} (h : x < a) (e : Nat.ble a (b + 1) = true) : x ≤ b := s1 (c := 0) h e
theorem q1 {x a b c : Nat} (h : x = a) (e : Nat.ble (a + c) b = true) : x + c ≤ b := l1 (Nat.le_of_eq h) e
theorem q0 {x a b : Nat} (h : x = a) (e : Nat.ble a b = true) : x ≤ b := l0 (Nat.le_of_eq h) e
theorem w0 {x y a b : Nat} (h : x = y) (g : y ≤ a) (e : Nat.ble a b = true) : x ≤ b := l0 (Nat.le_trans (Nat.le_of_eq h) g) e
theorem w2 {x y a b c : Nat} (h : x = y + c) (g : y ≤ a) (e : Nat.ble (a + c) b = true) : x ≤ b := Nat.le_trans (Nat.le_of_eq h) (l1 g e)
theorem a2 {x y a b c : Nat} (h : x ≤ a) (g : y ≤ b) (e : Nat.ble (a + b) c = true) : x + y ≤ c := Nat.le_trans (Nat.add_le_add h g) (bl e)
theorem a3 {x y a b c d : Nat} (h : x ≤ a) (g : y ≤ b) (e : Nat.ble (a + b + d) c = true) : x + y + d ≤ c := Nat.le_trans (Nat.add_le_add_right (Nat.add_le_add h g) d) (bl e)
theorem ltOf {x a : Nat} (h : x + 1 ≤ a) : x < a := h
theorem ngt {x a : Nat} (h : x ≤ a) : ¬ x > a := Nat.not_lt.mpr h
theorem dfl {p : Prop} [Decidable p] (h : ¬ p) : decide p = false := decide_eq_false h
theorem len_app {x y : Str} : (x ++ y).length = x.length + y.length := by show (_ ++ _ : Array Nat).size = _; rw [Array.size_append]; rfl
theorem slx {x y : Str} {a b : Nat} (h : x.length ≤ a) (g : y.length ≤ b) : (x ++ y).length ≤ a + b := Nat.le_trans (Nat.le_of_eq len_app) (Nat.add_le_add h g)
theorem z0 {x a b : Nat} (h : x ≤ a) (e : Nat.ble a b = true) : 0 + x ≤ b := Nat.le_trans (Nat.le_of_eq (Nat.zero_add x)) (l0 h e)
theorem sq {x : Str} {a : Nat} (h : x.length = a) : x.length ≤ a := Nat.le_of_eq h
end
section
open PySem PySem.W PyProof.Rows PySem.Calls PySem.Spec
theorem get_seen {P : Params} {tk : Nat → Tok} {q dl nsd ns pm ps pend : Value} {seen done : Bool} {t0 : Tok} : (getL (Str.ofString "_root_seen") (wdict P tk q dl nsd ns pm ps pend seen done t0)).isSome = true := by rfl
theorem put_seen {P : Params} {tk : Nat → Tok} {q dl nsd ns pm ps pend : Value} {seen done : Bool} {t0 : Tok} {h : Int} {k : Value} {n : Nat} :
    (putL (Str.ofString "_root_seen") h k (.bool true) (wdict P tk q dl nsd ns pm ps pend seen done t0), putN (Str.ofString "_root_seen") (wdict P tk q dl nsd ns pm ps pend seen done t0) n) = (wdict P tk q dl nsd ns pm ps pend true done t0, n) := by rfl
theorem get_done {P : Params} {tk : Nat → Tok} {q dl nsd ns pm ps pend : Value} {seen done : Bool} {t0 : Tok} : (getL (Str.ofString "_root_done") (wdict P tk q dl nsd ns pm ps pend seen done t0)).isSome = true := by rfl
theorem put_done {P : Params} {tk : Nat → Tok} {q dl nsd ns pm ps pend : Value} {seen done b : Bool} {t0 : Tok} {h : Int} {k : Value} {n : Nat} :
    (putL (Str.ofString "_root_done") h k (.bool b) (wdict P tk q dl nsd ns pm ps pend seen done t0), putN (Str.ofString "_root_done") (wdict P tk q dl nsd ns pm ps pend seen done t0) n) = (wdict P tk q dl nsd ns pm ps pend seen b t0, n) := by rfl
theorem mkAB {a b : Addr × Obj} {r r' : List (Addr × Obj)} {P : Addr × Obj → Prop} (h : ∀ p ∈ a :: b :: r, P p) (h' : ∀ p ∈ r', P p) : ∀ p ∈ a :: b :: r', P p := fun p hp => by
  rcases List.mem_cons.mp hp with rfl | hp
  · exact h _ (.head _)
  · rcases List.mem_cons.mp hp with rfl | hp
    · exact h _ (.tail _ (.head _))
    · exact h' p hp
def NsOk (nsds : List Value) (rest : List (Addr × Obj)) : Prop :=
  ∃ (n0 n2 tp : Nat) (t1 t2 : Tok), nsds[0]? = some (.ref n0) ∧ (n0, listOf #[.ref tp] n2) ∈ rest ∧ (tp, tupOf [.str (Str.ofString "http://www.w3.org/XML/1998/namespace") t1, .str (Str.ofString "xml") t2]) ∈ rest ∧
    ∀ (k : Nat) (v : Value), 0 < k → nsds[k]? = some v → ∃ e n, v = .ref e ∧ (e, listOf #[] n) ∈ rest
theorem NsOk.mono {nsds : List Value} {rest rest' : List (Addr × Obj)} (H : NsOk nsds rest) (hs : ∀ p ∈ rest, p ∈ rest') : NsOk nsds rest' := by
  obtain ⟨n0, n2, tp, t1, t2, a, b, c, d⟩ := H
  exact ⟨n0, n2, tp, t1, t2, a, hs _ b, hs _ c, fun k v hk hv => let ⟨e, n, x, y⟩ := d k v hk hv; ⟨e, n, x, hs _ y⟩⟩
theorem NsOk.push {nsds : List Value} {rest : List (Addr × Obj)} {nn n3 : Nat} (H : NsOk nsds rest) (hm : (nn, listOf #[] n3) ∈ rest) : NsOk (nsds ++ [.ref nn]) rest := by
  obtain ⟨n0, n2, tp, t1, t2, a, b, c, d⟩ := H
  refine ⟨n0, n2, tp, t1, t2, ?_, b, c, fun k v hk hv => ?_⟩
  · rw [List.getElem?_append_left]
    · exact a
    · exact (List.getElem?_eq_some_iff.mp a).1
  · by_cases hlt : k < nsds.length
    · rw [List.getElem?_append_left hlt] at hv
      exact d k v hk hv
    · rw [List.getElem?_append_right (by lia)] at hv
      cases hz : k - nsds.length with
      | zero => rw [hz] at hv; simp at hv; exact ⟨nn, n3, hv.symm, hm⟩
      | succ j => rw [hz] at hv; simp at hv
theorem wOff_cons {wd pc dl nsd ns ps l : Nat} {o : Obj} {rest : List (Addr × Obj)} (W : WOff wd pc dl nsd ns ps rest) (a1 : @Ne Nat l 123) (a2 : @Ne Nat l pc) (a3 : @Ne Nat l wd) (a4 : @Ne Nat l dl) (a5 : @Ne Nat l nsd) (a6 : @Ne Nat l ns) (a7 : @Ne Nat l ps) : WOff wd pc dl nsd ns ps ((l, o) :: rest) := by
  obtain ⟨w1, w2, w3, w4, w5, w6, w7⟩ := W
  exact ⟨List.forall_mem_cons.mpr ⟨a1, w1⟩, List.forall_mem_cons.mpr ⟨a2, w2⟩, List.forall_mem_cons.mpr ⟨a3, w3⟩, List.forall_mem_cons.mpr ⟨a4, w4⟩, List.forall_mem_cons.mpr ⟨a5, w5⟩, List.forall_mem_cons.mpr ⟨a6, w6⟩, List.forall_mem_cons.mpr ⟨a7, w7⟩⟩
theorem news_behind {h₀ h : Heap} {L : Addr} {a c1 c2 c3 c4 c5 c6 c7 c8 c9 : Addr × Obj} {rest : List (Addr × Obj)} (N : News h₀ L h (a :: c1 :: c2 :: c3 :: c4 :: c5 :: c6 :: c7 :: c8 :: c9 :: rest)) : News h₀ L h (c1 :: c2 :: c3 :: c4 :: c5 :: c6 :: c7 :: c8 :: c9 :: a :: rest) := fun p hp => N p (by
  simp only [List.mem_cons] at hp ⊢
  rcases hp with h | h | h | h | h | h | h | h | h | h | h
  all_goals simp [h])
theorem push_list {l : List Value} {x : Value} : l.toArray.push x = (l ++ [x]).toArray := by simp
theorem app_two {l : List Value} {x y : Value} : l ++ [x, y] = l ++ [x] ++ [y] := by simp
end
section
open PySem PySem.Calls PyProof.Rows PySem.W PySem.Spec PyProof.Rows.LCg
abbrev Gens := Array GenState
def ItObj (o : Obj) : Prop := ∃ vs i t, o.data = .fields vs ∧ vs[1]? = some (.int i t)
theorem ItObj.no {o : Obj} (h : ItObj o) : ∃ vs, o.data = .fields vs ∧ ∀ q t, vs[1]? ≠ some (.str q t) := by
  obtain ⟨vs, i, t, e, h⟩ := h
  exact ⟨vs, e, fun q t' e' => by rw [h] at e'; cases e'⟩
abbrev stG (s : Shared) (h : Heap) (tk : Nat) (g : Gens) (d : Drawn) : Shared := { s with heap := h, toks := tk, gens := g, drawn := d }
inductive CEndJ (h₀ : Heap) (L : Addr) (m : Str → Option Value) (s : Shared) (I : Addr) (oI : Obj) (C : Addr) (oC : Obj) (D : Addr) (ys : List Value) (S : List (Addr × Obj) → Prop) (J : List Value → List (Addr × Obj) → Gens → Prop) (y : Value) : Shared → Prop
  | mk (h' : Heap) (tk' : Nat) (g' : Gens) (d' : Drawn) (news' : List (Addr × Obj)) (F : Fr h₀ L h' m) (N : News h₀ L h' ((I, oI) :: (C, oC) :: (D, lst ys) :: news')) (off : Off3 I C D news') (hS : S news') (hJ : J (ys ++ [y]) news' g') : CEndJ h₀ L m s I oI C oC D ys S J y (stG s h' tk' g' d')
def EltJ (prog : Program) (w : World) (A : Around) (h₀ : Heap) (L : Addr) (m : Str → Option Value) (env : Env) (elt : Expr) (x : Str) (scope : Scope) (cl : List (Str × Addr)) (s : Shared) (S : List (Addr × Obj) → Prop) (P : Nat → Value → Prop) (n : Nat) (J : Nat → List Value → List (Addr × Obj) → Gens → Prop) : Prop :=
  ∀ i v I oI C oC D m₂ h tk g d ys news (E' : Value → Shared → Prop), i < n → P i v → J i ys news g → S news → NsObj oC m₂ → m₂ x = some v → Fr h₀ L h m → News h₀ L h ((I, oI) :: (C, oC) :: (D, lst ys) :: news) → Off3 I C D news → ((@Ne Nat I C) ∧ (@Ne Nat I D) ∧ (@Ne Nat C D)) → ItObj oI →
    wpAny (model prog w) A (eval elt (compEnvC scope cl C env)) (CEndJ h₀ L m s I oI C oC D ys S (J (i + 1))) E' (stG s h tk g d)
inductive CompI (h₀ : Heap) (L : Addr) (m : Str → Option Value) (s : Shared) (I C D : Addr) (n : Nat) (St : Nat → Heap → Prop) (S : List (Addr × Obj) → Prop) (J : Nat → List Value → List (Addr × Obj) → Gens → Prop) (b : Bool) (k : Nat) : Shared → Prop
  | mk (h' : Heap) (tk : Nat) (g : Gens) (d : Drawn) (i : Nat) (ys : List Value) (m' : Str → Option Value) (news' : List (Addr × Obj)) (hi : i ≤ n) (hk : k = n + 1 - i) (hyl : b = true → ys.length ≤ i) (hst : St i h') (F : Fr h₀ L h' m) (hn : h'.Ns C m') (N : News h₀ L h' ((D, lst ys) :: news')) (off : Off3 I C D news') (hS : S news') (hJ : J i ys news' g) : CompI h₀ L m s I C D n St S J b k (stG s h' tk g d)
inductive ForI (h₀ : Heap) (L : Addr) (s : Shared) (I : Addr) (n : Nat) (St : Nat → Heap → Prop) (S : List (Addr × Obj) → Prop) (J : Nat → (Str → Option Value) → List (Addr × Obj) → Gens → Prop) (k : Nat) : Shared → Prop
  | mk (h' : Heap) (tk : Nat) (g : Gens) (d : Drawn) (i : Nat) (m' : Str → Option Value) (news' : List (Addr × Obj)) (hi : i ≤ n) (hk : k = n + 1 - i) (hst : St i h') (F : Fr h₀ L h' m') (N : News h₀ L h' news') (off : ∀ p ∈ news', p.1 ≠ I) (hS : S news') (hJ : J i m' news' g) : ForI h₀ L s I n St S J k (stG s h' tk g d)
theorem it_list {o : Obj} {a : Value} {i : Int} {t : Tok} (h : o.data = .fields #[a, .int i t]) : ItObj o := ⟨_, _, _, h, rfl⟩
theorem it_range {a c : Value} {i : Int} {t : Tok} {cl : Value} {x y} : ItObj { cls := cl, dict := x, data := .fields #[a, .int i t, c], slots := y } := ⟨_, _, _, rfl, rfl⟩
inductive SkipJ (h₀ : Heap) (L : Addr) (m : Str → Option Value) (s : Shared) (I : Addr) (oI : Obj) (C : Addr) (oC : Obj) (D : Addr) (ys : List Value) (S : List (Addr × Obj) → Prop) (J : List Value → List (Addr × Obj) → Gens → Prop) : Shared → Prop
  | mk (h' : Heap) (tk' : Nat) (g' : Gens) (d' : Drawn) (news' : List (Addr × Obj)) (F : Fr h₀ L h' m) (N : News h₀ L h' ((I, oI) :: (C, oC) :: (D, lst ys) :: news')) (off : Off3 I C D news') (hS : S news') (hJ : J ys news' g') : SkipJ h₀ L m s I oI C oC D ys S J (stG s h' tk' g' d')
def EltT (prog : Program) (w : World) (A : Around) (h₀ : Heap) (L : Addr) (m : Str → Option Value) (env : Env) (elt : Expr) (ifs : List Expr) (x : Str) (scope : Scope) (cl : List (Str × Addr)) (s : Shared) (S : List (Addr × Obj) → Prop) (P : Nat → Value → Prop) (n : Nat) (J : Nat → List Value → List (Addr × Obj) → Gens → Prop) : Prop :=
  ∀ i v I oI C oC D m₂ h tk g d ys news (E' : Value → Shared → Prop), i < n → P i v → J i ys news g → S news → NsObj oC m₂ → m₂ x = some v → Fr h₀ L h m → News h₀ L h ((I, oI) :: (C, oC) :: (D, lst ys) :: news) → Off3 I C D news → ((@Ne Nat I C) ∧ (@Ne Nat I D) ∧ (@Ne Nat C D)) → ItObj oI →
    wpAny (model prog w) A (forIn ifs true fun c r => if r = true then do let ok ← isTrue c (compEnvC scope cl C env) (eval c (compEnvC scope cl C env)); pure (ForInStep.yield ok) else pure (ForInStep.yield r)) (fun ok s₃ => if ok = true then wpAny (model prog w) A (eval elt (compEnvC scope cl C env)) (CEndJ h₀ L m s I oI C oC D ys S (J (i + 1))) E' s₃ else SkipJ h₀ L m s I oI C oC D ys S (J (i + 1)) s₃) E' (stG s h tk g d)
section
variable {prog : Program} {w : World} {A : Around} {E : Value → Shared → Prop} {s : Shared} {h₀ : Heap} {L : Addr} {m : Str → Option Value} {env : Env}
theorem lblockT {elt iter : Expr} {ifs : List Expr} {x : Str} {px : Pos} {scope : Scope} {cl : List (Str × Addr)} {pos : Pos} {s₂ : Shared} {I : Addr} {fp : List Addr} {n : Nat} {P : Nat → Value → Prop} {St : Nat → Heap → Prop} {S : List (Addr × Obj) → Prop} {news : List (Addr × Obj)}
    {J : Nat → List Value → List (Addr × Obj) → Gens → Prop} {RR : Value → Addr → Result → Shared → Prop}
    (W : Walks prog w A I fp [I] n P St) (hsz : n ≤ sizeLine) (hIo : ∀ i h, St i h → ∃ o, h.get? I = some o ∧ ItObj o)
    (hSt : ∀ i h h' o nw, St i h → h.get? I = some o → h'.get? I = some o → (∀ b o, h₀.get? b = some o → h'.get? b = some o) → News h₀ L h' nw → S nw → St i h')
    (hcell : ∀ y ∈ scope.names, y.2 ≠ .cell) (hkind : scope.kind = .function) (hx : scope.names.lookup x = some .local) (hst : St 0 s₂.heap) (hfp : ∀ b ∈ fp, b < s₂.heap.objs.size)
    (F : Fr h₀ L s₂.heap m) (N : News h₀ L s₂.heap news) (hIL : L ≠ I) (hI₀ : h₀.get? I = none) (off : ∀ p ∈ news, p.1 ≠ I) (hS : S news) (hs : ∃ h, s₂ = { s with heap := h })
    (hJ : J 0 [] news s.gens) (R : EltT prog w A h₀ L m env elt ifs x scope cl s S P n J)
    (hRR : ∀ D C h tk g d m' ys news', J n ys news' g → Fr h₀ L h m → News h₀ L h ((D, lst ys) :: news') → Off1 D news' → h.Ns C m' → h₀.get? C = none → h₀.get? D = none → C ≠ L → D ≠ L → C ≠ D → (∀ p ∈ news', p.1 ≠ C) → (∀ q ∈ news, q.1 < D) → RR (.ref D) C (.ok .next) (stG s h tk g d)) :
    wpAny (model prog w) A (newList []) (fun acc s₃ => wpAny (model prog w) A (newFunctionEnv scope env.globals cl [] env.qual none .none (some env)) (fun cenv s₄ =>
      codeAny (model prog w) A (.compStart (.ListComp elt [⟨.Name x px, iter, ifs, 0⟩] scope pos) 0 (.ref I) acc { cenv with scope := relabel scope env }) (RR acc cenv.locals) s₄) E s₃) E s₂ := by
  obtain ⟨hp, rfl⟩ := hs
  dsimp only at hst hfp F N ⊢
  refine wpAny_newObj_type (wpAny_newFunctionEnv hcell (by intro y hy; simp at hy) (fun h₁ hns₁ hsb₁ => ?_) hkind)
  dsimp only at hns₁ hsb₁ ⊢
  generalize hH2 : hp.push { cls := .type "list", dict := none, data := .seq ([] : List Value).toArray } = H2 at hns₁ hsb₁ ⊢
  have hC : H2.objs.size = hp.objs.size + 1 := by rw [← hH2, Heap.size_push]
  have hDC : hp.objs.size ≠ H2.objs.size := by rw [hC]; exact Nat.ne_of_lt (Nat.lt_succ_self _)
  have below : ∀ b, b < hp.objs.size → b ≠ H2.objs.size ∧ b ≠ hp.objs.size := fun b hb => ⟨by rw [hC]; exact Nat.ne_of_lt (Nat.lt_succ_of_lt hb), Nat.ne_of_lt hb⟩
  have hDf : hp.objs.size ∉ fp := fun hm => Nat.lt_irrefl _ (hfp _ hm)
  have hCf : H2.objs.size ∉ fp := fun hm => by have := hfp _ hm; rw [hC] at this; exact Nat.lt_irrefl _ (Nat.lt_of_succ_lt this)
  have hIlt : I < hp.objs.size := hfp I (W.sub I (List.mem_singleton.mpr rfl))
  have old : ∀ b o, hp.get? b = some o → h₁.get? b = some o := fun b o e => hsb₁.extBut b o (below b (Heap.lt_size e)).1 (Heap.get?_push_of_some _ (hH2 ▸ Heap.get?_push_of_some _ e))
  have hacc : h₁.get? hp.objs.size = some (lst []) := hsb₁.extBut _ _ hDC (Heap.get?_push_of_some _ (hH2 ▸ Heap.get?_push_size _ rfl))
  have hst₁ : St 0 h₁ := W.frame _ _ _ hst fun b _ o e => old b o e
  have hD0 := kdx_fresh F (Nat.le_refl hp.objs.size)
  have hC0 := kdx_fresh F (x := H2.objs.size) (by rw [hC]; exact Nat.le_succ _)
  obtain ⟨hDL, hD₀⟩ := hD0
  obtain ⟨hCL, hC₀⟩ := hC0
  have hCI : I ≠ H2.objs.size := (below I hIlt).1
  have hDI : I ≠ hp.objs.size := (below I hIlt).2
  have off₀ : Off3 I H2.objs.size hp.objs.size news := Off3.of fun p hq => ⟨off p hq, (below _ (Heap.lt_size (N p hq).1)).1, (below _ (Heap.lt_size (N p hq).1)).2⟩
  have loop : ∀ tk0, codeAny (model prog w) A (.compLoop (.ListComp elt [⟨.Name x px, iter, ifs, 0⟩] scope pos) 0 (.ref I) (.ref hp.objs.size) (compEnvC scope cl H2.objs.size env)) (RR (.ref hp.objs.size) H2.objs.size) { s with heap := h₁, toks := tk0 } := by
    intro tk0
    refine codeAny_compLoop_tests
      (CompI h₀ L m s I H2.objs.size hp.objs.size n St S J true) ?_ (n + 1)
      (CompI.mk h₁ _ _ _ 0 [] _ news (Nat.zero_le _) rfl (fun _ => Nat.le_refl _) hst₁ (F.keeps old) hns₁ (fun p hq => ?_) off₀ hS hJ)
    · rintro k s' ⟨h', tk, g, d, i, ys, m', news', hi, hkk, hyl, hst', F', hn', N', off', hS', R'⟩
      replace hyl := hyl rfl
      have off3 := off'.mem
      have hDn : ∀ p ∈ (hp.objs.size, lst ys) :: news', p.1 ≠ I := fun p hq => by
        rcases List.mem_cons.mp hq with rfl | hq
        · exact Ne.symm hDI
        · exact (off3 p hq).1
      by_cases hlt : i < n
      · refine W.item i _ _ _ hlt hst' fun v h₂ tk₂ hPv hst₂ hk₂ => ?_
        refine wpAny_assign_Name (wpAny_storeName_local (lookup_relabel_local hx) (hn'.at' fun o e => hk₂ _ o (by simpa using Ne.symm hCI) e) (fun h₃ hn₃ hs₃ => ?_) (by simp [compEnvC, relabel, hkind]))
        have hst₃ : St (i + 1) h₃ := W.frame _ _ _ hst₂ fun b hb o e => hs₃.extBut b o (fun q => hCf (by have q' : b = H2.objs.size := q; rw [← q']; exact hb)) e
        obtain ⟨oI, heI, hoI⟩ := hIo _ _ hst₃
        obtain ⟨oC, heC, hoC⟩ := ns_obj hn₃
        have F₃ : Fr h₀ L h₃ m := (fr_but F' hk₂ hIL hI₀).change hs₃ hCL hC₀
        have N₂ := news_but N' hk₂ hDn
        have N₃ : News h₀ L h₃ ((I, oI) :: (H2.objs.size, oC) :: (hp.objs.size, lst ys) :: news') := fun p hq => by
          rcases List.mem_cons.mp hq with rfl | hq
          · exact ⟨heI, Ne.symm hIL, hI₀⟩
          · rcases List.mem_cons.mp hq with rfl | hq
            · exact ⟨heC, hCL, hC₀⟩
            · have z := N₂ p hq
              refine ⟨hs₃.extBut _ _ ?_ z.1, z.2⟩
              rcases List.mem_cons.mp hq with rfl | hq
              · exact hDC
              · exact (off3 p hq).2.1
        refine wpAny_mono (R i v I oI H2.objs.size oC hp.objs.size _ h₃ _ _ _ _ _ _ hlt hPv R' hS' hoC (by simp) F₃ N₃ off' ⟨hCI, hDI, Ne.symm hDC⟩ hoI) (fun ok s₃ hok => ?_) fun _ _ e => e
        cases ok with
        | false =>
          rw [if_neg Bool.false_ne_true] at hok ⊢
          obtain ⟨h₄, tk₄, g₄, d₄, news₄, F₄, N₄, off₄, hS₄, R₄⟩ := hok
          have zI := (N₄ _ (.head _)).1
          have zC := (N₄ _ (.tail _ (.head _))).1
          have N₄' : News h₀ L h₄ news₄ := fun p hq => N₄ p (.tail _ (.tail _ (.tail _ hq)))
          have hst₄ : St (i + 1) h₄ := hSt _ _ _ _ _ hst₃ heI zI F₄.keep N₄' hS₄
          exact ⟨n + 1 - (i + 1), dec_lt hlt hkk, h₄, tk₄, g₄, d₄, i + 1, ys, _, news₄, hlt, rfl, (fun _ => Nat.le_succ_of_le hyl), hst₄, F₄, hoC.ns zC, fun p hq => N₄ p (.tail _ (.tail _ hq)), off₄, hS₄, R₄⟩
        | true =>
          rw [if_pos rfl] at hok ⊢
          refine wpAny_mono hok (fun y s₄ h₄ => ?_) fun _ _ e => e
          obtain ⟨h₄, tk₄, g₄, d₄, news₄, F₄, N₄, off₄, hS₄, R₄⟩ := h₄
          have zI := (N₄ _ (.head _)).1
          have zC := (N₄ _ (.tail _ (.head _))).1
          have zD := (N₄ _ (.tail _ (.tail _ (.head _)))).1
          have N₄' : News h₀ L h₄ news₄ := fun p hq => N₄ p (.tail _ (.tail _ (.tail _ hq)))
          have hst₄ : St (i + 1) h₄ := hSt _ _ _ _ _ hst₃ heI zI F₄.keep N₄' hS₄
          refine append_at (hsz := by show ys.toArray.size ≤ sizeLine; rw [List.size_toArray]; exact Nat.le_trans hyl (Nat.le_trans hi hsz)) zD fun h₅ hs₅ hD₅ => ?_
          have off4 := off₄.mem
          refine ⟨n + 1 - (i + 1), dec_lt hlt hkk, h₅, tk₄, g₄, d₄, i + 1, ys ++ [y], _, news₄, hlt, rfl, (fun _ => by rw [List.length_append, List.length_singleton]; exact Nat.succ_le_succ hyl), W.frame _ _ _ hst₄ fun b hb o e => hs₅.extBut b o (fun q => hDf (q ▸ hb)) e, F₄.change hs₅ hDL hD₀,
            (hoC.ns zC).sameBut hs₅ (Ne.symm hDC), fun p hq => ?_, off₄, hS₄, R₄⟩
          rcases List.mem_cons.mp hq with rfl | hq
          · exact ⟨hD₅.trans (congrArg some (lst_snoc ys y)), hDL, hD₀⟩
          · exact ⟨hs₅.extBut _ _ (off4 p hq).2.2 (N₄' p hq).1, (N₄' p hq).2⟩
      · obtain rfl : i = n := Nat.le_antisymm hi (Nat.not_lt.mp hlt)
        refine W.done _ _ _ hst' fun h₂ tk₂ hk₂ => ?_
        exact hRR _ _ h₂ tk₂ g d _ ys news' R' (fr_but F' hk₂ hIL hI₀) (news_but N' hk₂ hDn) off'.one (hn'.at' fun o e => hk₂ _ o (by simpa using Ne.symm hCI) e) hC₀ hD₀ hCL hDL (Ne.symm hDC) (fun p hq => (off3 p hq).2.1) (fun q hq => Heap.lt_size (N q hq).1)
    · rcases List.mem_cons.mp hq with rfl | hq
      · exact ⟨hacc, hDL, hD₀⟩
      · exact ⟨old _ _ (N p hq).1, (N p hq).2⟩
  exact codeAny_compStart_list (loop _) (W.self 0 _ _ _ hst₁ (loop _))
theorem elt_nil {elt : Expr} {x : Str} {scope : Scope} {cl : List (Str × Addr)} {S : List (Addr × Obj) → Prop} {P : Nat → Value → Prop} {n : Nat} {J : Nat → List Value → List (Addr × Obj) → Gens → Prop} (R : EltJ prog w A h₀ L m env elt x scope cl s S P n J) : EltT prog w A h₀ L m env elt [] x scope cl s S P n J :=
  fun i v I oI C oC D m₂ h tk g d ys news E' a1 a2 a3 a4 a5 a6 a7 a8 a9 b1 b2 => wpAny_tests_nil (by rw [if_pos rfl]; exact R i v I oI C oC D m₂ h tk g d ys news E' a1 a2 a3 a4 a5 a6 a7 a8 a9 b1 b2)
inductive GoJ (prog : Program) (w : World) (A : Around) (h₀ : Heap) (L : Addr) (m : Str → Option Value) (env : Env) (elt : Expr) (x : Str) (scope : Scope) (cl : List (Str × Addr)) (Fin : List (Addr × Obj) → List Value → List (Addr × Obj) → Gens → Shared → Prop) (n : Nat) (P : Nat → Value → Prop) (S : List (Addr × Obj) → Prop) (news : List (Addr × Obj)) (s₁ : Shared) : Prop
  | mk (J : Nat → List Value → List (Addr × Obj) → Gens → Prop) (j0 : J 0 [] news s₁.gens) (R : EltJ prog w A h₀ L m env elt x scope cl s₁ S P n J) (fin : ∀ ys nw g, J n ys nw g → Fin news ys nw g s₁) : GoJ prog w A h₀ L m env elt x scope cl Fin n P S news s₁
inductive SrcJL (prog : Program) (w : World) (A : Around) (h₀ : Heap) (L : Addr) (m : Str → Option Value) (env : Env) (elt : Expr) (x : Str) (scope : Scope) (cl : List (Str × Addr)) (Fin : List (Addr × Obj) → List Value → List (Addr × Obj) → Gens → Shared → Prop) : Value → Shared → Prop
  | mk {s₁ : Shared} (ax : Addr) (its : Array Value) (k : Nat) (news : List (Addr × Obj)) (hh : A.handled = none) (F : Fr h₀ L s₁.heap m) (N : News h₀ L s₁.heap news) (hm : (ax, listOf its k) ∈ news) (hsz : its.size ≤ sizeLine) (G : GoJ prog w A h₀ L m env elt x scope cl Fin its.size (fun i v => its[i]? = some v) (SrcAt h₀ ax its) news s₁) : SrcJL prog w A h₀ L m env elt x scope cl Fin (.ref ax) s₁
inductive SrcJR (prog : Program) (w : World) (A : Around) (h₀ : Heap) (L : Addr) (m : Str → Option Value) (env : Env) (elt : Expr) (x : Str) (scope : Scope) (cl : List (Str × Addr)) (Fin : List (Addr × Obj) → List Value → List (Addr × Obj) → Gens → Shared → Prop) : Value → Shared → Prop
  | mk {s₁ : Shared} (r : Addr) (a b : Int) (t u v : Tok) (n : Nat) (news : List (Addr × Obj)) (hh : A.handled = none) (F : Fr h₀ L s₁.heap m) (N : News h₀ L s₁.heap news) (hr : IsRange s₁.heap r a b 1 t u v) (hsm : Builtin.Range.small a b 1 = true) (hn : Builtin.Range.rangeSize a b 1 = ((n : Nat) : Int)) (hsz : n ≤ sizeLine)
    (G : GoJ prog w A h₀ L m env elt x scope cl Fin n (fun i v => ∃ t, v = .int (a + (i : Int)) t) (fun _ => True) news s₁) : SrcJR prog w A h₀ L m env elt x scope cl Fin (.ref r) s₁
def SrcJ (prog : Program) (w : World) (A : Around) (h₀ : Heap) (L : Addr) (m : Str → Option Value) (env : Env) (elt : Expr) (x : Str) (scope : Scope) (cl : List (Str × Addr)) (Fin : List (Addr × Obj) → List Value → List (Addr × Obj) → Gens → Shared → Prop) (xv : Value) (s₁ : Shared) : Prop :=
  SrcJL prog w A h₀ L m env elt x scope cl Fin xv s₁ ∨ SrcJR prog w A h₀ L m env elt x scope cl Fin xv s₁
def FinEJ (h₀ : Heap) (L : Addr) (m : Str → Option Value) (Q : Value → Shared → Prop) (base : List (Addr × Obj)) (ys : List Value) (news : List (Addr × Obj)) (g : Gens) (s : Shared) : Prop :=
  ∀ D h tk d, (∀ q ∈ base, q.1 < D) → Fr h₀ L h m → News h₀ L h ((D, lst ys) :: news) → Off1 D news → Q (.ref D) (stG s h tk g d)
def FinAJ (h₀ : Heap) (L : Addr) (m : Str → Option Value) (y : Str) (Q : Flow → Shared → Prop) (base : List (Addr × Obj)) (ys : List Value) (news : List (Addr × Obj)) (g : Gens) (s : Shared) : Prop :=
  ∀ D h tk d, (∀ q ∈ base, q.1 < D) → Fr h₀ L h (fun z => if z = y then some (.ref D) else m z) → News h₀ L h ((D, lst ys) :: news) → Off1 D news → Q .next (stG s h tk g d)

theorem lsrc {elt iter : Expr} {x : Str} {px : Pos} {scope : Scope} {cl : List (Str × Addr)} {pos : Pos} {RR : Value → Addr → Result → Shared → Prop} {Fin : List (Addr × Obj) → List Value → List (Addr × Obj) → Gens → Shared → Prop} {xv : Value} {s₁ : Shared}
    (hcell : ∀ y ∈ scope.names, y.2 ≠ .cell) (hkind : scope.kind = .function) (hx : scope.names.lookup x = some .local)
    (h : SrcJ prog w A h₀ L m env elt x scope cl Fin xv s₁)
    (hRR : ∀ base D C h tk g d m' ys news', Fin base ys news' g s₁ → Fr h₀ L h m → News h₀ L h ((D, lst ys) :: news') → Off1 D news' → h.Ns C m' → h₀.get? C = none → h₀.get? D = none → C ≠ L → D ≠ L → C ≠ D → (∀ p ∈ news', p.1 ≠ C) → (∀ q ∈ base, q.1 < D) → RR (.ref D) C (.ok .next) (stG s₁ h tk g d)) :
    wpAny (model prog w) A (pyIter xv) (fun it s₂ => wpAny (model prog w) A (newList []) (fun acc s₃ => wpAny (model prog w) A (newFunctionEnv scope env.globals cl [] env.qual none .none (some env)) (fun cenv s₄ =>
      codeAny (model prog w) A (.compStart (.ListComp elt [⟨.Name x px, iter, [], 0⟩] scope pos) 0 it acc { cenv with scope := relabel scope env }) (RR acc cenv.locals) s₄) E s₃) E s₂) E s₁ := by
  rcases h with ⟨ax, its, k, news, hh, F, N, hm, hsz, J, j0, R, fin⟩ | ⟨r, a, b, t, u, v, n, news, hh, F, N, hr, hsm, hn, hsz, J, j0, R, fin⟩
  · have hl : s₁.heap.IsList ax its := listOf_isList (N.get hm)
    have hlt : ax < s₁.heap.objs.size := Heap.lt_size (N.get hm)
    refine wpAny_pyIter_list hl ?_
    have up : ∀ b o, s₁.heap.get? b = some o → (s₁.heap.push { cls := .type "list_iterator", data := .fields #[.ref ax, .int 0 0] }).get? b = some o := fun b o e => Heap.get?_push_of_some _ e
    refine lblockT (ifs := []) (Walks.list hh s₁.heap.objs.size ax (Nat.ne_of_lt hlt) its) hsz (fun i h st => by obtain ⟨o, e, _, d⟩ := st.1; exact ⟨o, e, it_list d⟩) list_st hcell hkind hx ⟨⟨_, Heap.get?_push_size _ rfl, rfl, rfl⟩, hl.push _⟩ (fun b hb => ?_)
      (F.keeps up) (N.grown up) (Nat.ne_of_lt F.ns.lt) (next_is_new F) (fun p hp => Nat.ne_of_lt (Heap.lt_size (N p hp).1)) (.inr ⟨_, hm, rfl, _, rfl⟩) ⟨_, rfl⟩ j0 (elt_nil R) fun D C h tk g d m' ys news' hJ => hRR _ D C h tk g d m' ys news' (fin _ _ _ hJ)
    show b < (s₁.heap.push _).objs.size
    rw [Heap.size_push]
    rcases List.mem_cons.mp hb with rfl | hb
    · exact Nat.lt_succ_self _
    · rw [List.mem_singleton.mp hb]; exact Nat.lt_succ_of_lt hlt
  · refine wpAny_pyIter_range hr hsm ?_
    refine lblockT (ifs := []) (range_walks hh a n) hsz (fun i h st => ⟨_, st, it_range⟩) range_st hcell hkind hx (by show IsRangeIter _ _ _ _ _; rw [hn]; simpa using Heap.get?_push_size _ rfl) (fun b hb => ?_)
      (F.keeps fun _ _ e => Heap.get?_push_of_some _ e) (N.grown fun _ _ e => Heap.get?_push_of_some _ e) (Nat.ne_of_lt F.ns.lt) (next_is_new F) (fun p hp => Nat.ne_of_lt (Heap.lt_size (N p hp).1)) trivial ⟨_, rfl⟩ j0 (elt_nil R) fun D C h tk g d m' ys news' hJ => hRR _ D C h tk g d m' ys news' (fin _ _ _ hJ)
    rw [List.mem_singleton.mp hb]
    show s₁.heap.objs.size < (s₁.heap.push _).objs.size
    rw [Heap.size_push]; exact Nat.lt_succ_self _
theorem ListComp_J {elt iter : Expr} {x : Str} {px : Pos} {scope : Scope} {cl : List (Str × Addr)} {pos : Pos} {Q : Value → Shared → Prop} (_F₀ : Fr h₀ L s.heap m)
    (hclos : closureFor scope env = pure cl) (hcell : ∀ y ∈ scope.names, y.2 ≠ .cell) (hkind : scope.kind = .function)
    (hnames : ∀ y ∈ scope.names, y.2 = .local → scope.names.lookup y.1 = some .local) (hx : scope.names.lookup x = some .local)
    (h : wpAny (model prog w) A (eval iter env) (SrcJ prog w A h₀ L m env elt x scope cl (FinEJ h₀ L m Q)) E s)
    (hs : ∀ x, foldedSetIterable iter env x = pure x := by intro _; rfl) :
    wpAny (model prog w) A (eval (.ListComp elt [⟨.Name x px, iter, [], 0⟩] scope pos) env) Q E s := by
  rw [eval_ListComp]
  refine wpAny_comprehension_free (use := none) rfl hs hclos hkind hnames (wpAny_mono h (fun xv s₁ h₁ => ?_) fun _ _ e => e)
  refine lsrc hcell hkind hx h₁ fun base D C h tk g d m' ys news' fin F' N' o1 hn hC₀ hD₀ hCL hDL hCD offC hbs => ?_
  refine ⟨m', hn, fun h'' hs'' => fin D h'' tk d hbs (F'.change hs'' hCL hC₀) (fun p hp => ?_) o1⟩
  refine ⟨hs''.extBut _ _ ?_ (N' p hp).1, (N' p hp).2⟩
  rcases List.mem_cons.mp hp with rfl | hp
  · exact Ne.symm hCD
  · exact offC p hp
inductive ForEndJ (h₀ : Heap) (L : Addr) (s : Shared) (I : Addr) (oI : Obj) (S : List (Addr × Obj) → Prop) (J : (Str → Option Value) → List (Addr × Obj) → Gens → Prop) : Shared → Prop
  | mk (h' : Heap) (tk' : Nat) (g' : Gens) (d' : Drawn) (m' : Str → Option Value) (news' : List (Addr × Obj)) (F : Fr h₀ L h' m') (N : News h₀ L h' ((I, oI) :: news')) (off : Off1 I news') (hS : S news') (hJ : J m' news' g') : ForEndJ h₀ L s I oI S J (stG s h' tk' g' d')
def ForTurn (h₀ : Heap) (L : Addr) (s : Shared) (I : Addr) (oI : Obj) (S : List (Addr × Obj) → Prop) (J : (Str → Option Value) → List (Addr × Obj) → Gens → Prop) (Q : Flow → Shared → Prop) (f : Flow) (s₂ : Shared) : Prop :=
  match f with
  | .ret v => Q (.ret v) s₂
  | .brk => False
  | _ => ForEndJ h₀ L s I oI S J s₂
inductive GoF (prog : Program) (w : World) (A : Around) (h₀ : Heap) (L : Addr) (m : Str → Option Value) (env : Env) (x : Str) (body : List Stmt) (Q : Flow → Shared → Prop) (E : Value → Shared → Prop) (n : Nat) (P : Nat → Value → Prop) (S : List (Addr × Obj) → Prop) (news : List (Addr × Obj)) (s : Shared) : Prop
  | mk (J : Nat → (Str → Option Value) → List (Addr × Obj) → Gens → Prop) (j0 : J 0 m news s.gens)
    (turn : ∀ i v I oI m₁ h tk g d nw, i < n → P i v → J i m₁ nw g → S nw → Fr h₀ L h (fun z => if z = x then some v else m₁ z) → News h₀ L h ((I, oI) :: nw) → Off1 I nw → ItObj oI →
      wpAny (model prog w) A (execs body env) (ForTurn h₀ L s I oI S (J (i + 1)) Q) E (stG s h tk g d))
    (done : ∀ m₁ nw h tk g d, J n m₁ nw g → Fr h₀ L h m₁ → News h₀ L h nw → Q .next (stG s h tk g d)) : GoF prog w A h₀ L m env x body Q E n P S news s
theorem fblock {x : Str} {px : Pos} {body : List Stmt} {Q : Flow → Shared → Prop} {I : Addr} {fp : List Addr} {n : Nat} {P : Nat → Value → Prop} {St : Nat → Heap → Prop} {S : List (Addr × Obj) → Prop} {news : List (Addr × Obj)} {hp : Heap}
    (W : Walks prog w A I fp [I] n P St) (hIo : ∀ i h, St i h → ∃ o, h.get? I = some o ∧ ItObj o)
    (hSt : ∀ i h h' o nw, St i h → h.get? I = some o → h'.get? I = some o → (∀ b o, h₀.get? b = some o → h'.get? b = some o) → News h₀ env.locals h' nw → S nw → St i h')
    (hx : env.kindOf x = some .local) (hpk : (env.scope.kind == .class || (env.scope.kind == .module && env.locals != env.globals)) = false) (hst : St 0 hp) (hLf : env.locals ∉ fp)
    (F : Fr h₀ env.locals hp m) (N : News h₀ env.locals hp news) (hI₀ : h₀.get? I = none) (off : ∀ p ∈ news, p.1 ≠ I) (hS : S news)
    (hE : PassesOwn (model prog w) A env E)
    (G : GoF prog w A h₀ env.locals m env x body Q E n P S news s) :
    codeAny (model prog w) A (.forLoop (.Name x px) (.ref I) body [] env) (fun r s' => match r with | .ok f => Q f s' | .error e => cameBackBy (model prog w) A env E e s') { s with heap := hp } := by
  obtain ⟨J, j0, turn, done⟩ := G
  have hIL : env.locals ≠ I := fun e => hLf (e ▸ W.sub I (List.mem_singleton.mpr rfl))
  have hL₀ : h₀.get? env.locals = none := Heap.get?_none_of_le F.above
  have one : ∀ l : List (Addr × Obj), (∀ p ∈ l, p.1 ≠ I) → Off1 I l := by
    intro l
    induction l with
    | nil => intro _; trivial
    | cons p r ih => exact fun h => ⟨h _ (.head _), ih fun q hq => h q (.tail _ hq)⟩
  have mem1 : ∀ l : List (Addr × Obj), Off1 I l → ∀ p ∈ l, p.1 ≠ I := by
    intro l
    induction l with
    | nil => intro _ p hp; cases hp
    | cons p r ih =>
      intro h q hq
      rcases List.mem_cons.mp hq with rfl | hq
      · exact h.1
      · exact ih h.2 q hq
  refine codeAny_forLoop
    (ForI h₀ env.locals s I n St S J) ?_ (n + 1)
    (ForI.mk hp _ _ _ 0 m news (Nat.zero_le _) rfl hst F N off hS j0)
  rintro k s' ⟨h', tk, g, d, i, m', news', hi, hkk, hst', F', N', off', hS', R'⟩
  by_cases hlt : i < n
  · refine W.item i _ _ _ hlt hst' fun v h₂ tk₂ hPv hst₂ hk₂ => ?_
    have F₂ : Fr h₀ env.locals h₂ m' := fr_but F' hk₂ hIL hI₀
    have N₂ : News h₀ env.locals h₂ news' := news_but N' hk₂ off'
    refine wpAny_assign_Name (wpAny_storeName_local hx F₂.ns (fun h₃ hn₃ hs₃ => ?_) hpk)
    have hst₃ : St (i + 1) h₃ := W.frame _ _ _ hst₂ fun b hb o e => hs₃.extBut b o (fun q => hLf (by have q' : b = env.locals := q; rw [← q']; exact hb)) e
    obtain ⟨oI, heI, hoI⟩ := hIo _ _ hst₃
    have F₃ : Fr h₀ env.locals h₃ (fun z => if z = x then some v else m' z) := ⟨hn₃, fun b o e => hs₃.extBut b o (fun q => by rw [q, hL₀] at e; cases e) (F₂.keep b o e), F₂.above⟩
    have N₃ : News h₀ env.locals h₃ ((I, oI) :: news') := fun p hq => by
      rcases List.mem_cons.mp hq with rfl | hq
      · exact ⟨heI, Ne.symm hIL, hI₀⟩
      · exact ⟨hs₃.extBut _ _ (N₂ p hq).2.1 (N₂ p hq).1, (N₂ p hq).2⟩
    refine wpAny_passesOwn hE (wpAny_mono (turn i v I oI m' h₃ _ g d news' hlt hPv R' hS' F₃ N₃ (one _ off') hoI) (fun f s₃ h₄ => ?_) fun _ _ e => e)
    have fin : ForEndJ h₀ env.locals s I oI S (J (i + 1)) s₃ → ∃ m, m < k ∧ ForI h₀ env.locals s I n St S J m s₃ := by
      rintro ⟨h₅, tk₄, g₄, d₄, m₄, news₄, F₄, N₄, off₄, hS₄, R₄⟩
      exact ⟨n + 1 - (i + 1), dec_lt hlt hkk, h₅, tk₄, g₄, d₄, i + 1, m₄, news₄, hlt, rfl, hSt _ _ _ _ _ hst₃ heI (N₄ _ (.head _)).1 F₄.keep (fun p hp => N₄ p (.tail _ hp)) hS₄, F₄, fun p hp => N₄ p (.tail _ hp), mem1 _ off₄, hS₄, R₄⟩
    cases f with
    | ret v => exact h₄
    | brk => exact h₄.elim
    | cont => exact fin h₄
    | next => exact fin h₄
  · obtain rfl : i = n := Nat.le_antisymm hi (Nat.not_lt.mp hlt)
    refine W.done _ _ _ hst' fun h₂ tk₂ hk₂ => wpAny_execs_nil ?_
    exact done _ _ _ _ _ _ R' (fr_but F' hk₂ hIL hI₀) (news_but N' hk₂ off')
inductive SrcFL (prog : Program) (w : World) (A : Around) (h₀ : Heap) (L : Addr) (env : Env) (x : Str) (body : List Stmt) (Q : Flow → Shared → Prop) (E : Value → Shared → Prop) : Value → Shared → Prop
  | mk {s₁ : Shared} (ax : Addr) (its : Array Value) (k : Nat) (news : List (Addr × Obj)) (m : Str → Option Value) (hh : A.handled = none) (F : Fr h₀ L s₁.heap m) (N : News h₀ L s₁.heap news) (hm : (ax, listOf its k) ∈ news) (G : GoF prog w A h₀ L m env x body Q E its.size (fun i v => its[i]? = some v) (SrcAt h₀ ax its) news s₁) : SrcFL prog w A h₀ L env x body Q E (.ref ax) s₁
inductive SrcFR (prog : Program) (w : World) (A : Around) (h₀ : Heap) (L : Addr) (env : Env) (x : Str) (body : List Stmt) (Q : Flow → Shared → Prop) (E : Value → Shared → Prop) : Value → Shared → Prop
  | mk {s₁ : Shared} (r : Addr) (a b : Int) (t u v : Tok) (n : Nat) (news : List (Addr × Obj)) (m : Str → Option Value) (hh : A.handled = none) (F : Fr h₀ L s₁.heap m) (N : News h₀ L s₁.heap news) (hr : IsRange s₁.heap r a b 1 t u v) (hsm : Builtin.Range.small a b 1 = true) (hn : Builtin.Range.rangeSize a b 1 = ((n : Nat) : Int))
    (G : GoF prog w A h₀ L m env x body Q E n (fun i v => ∃ t, v = .int (a + (i : Int)) t) (fun _ => True) news s₁) : SrcFR prog w A h₀ L env x body Q E (.ref r) s₁
def SrcF (prog : Program) (w : World) (A : Around) (h₀ : Heap) (L : Addr) (env : Env) (x : Str) (body : List Stmt) (Q : Flow → Shared → Prop) (E : Value → Shared → Prop) (xv : Value) (s₁ : Shared) : Prop :=
  SrcFL prog w A h₀ L env x body Q E xv s₁ ∨ SrcFR prog w A h₀ L env x body Q E xv s₁
theorem For_J {x : Str} {px pos : Pos} {iter : Expr} {body : List Stmt} {Q : Flow → Shared → Prop} (_F₀ : Fr h₀ L s.heap m) (hLe : env.locals = L)
    (hx : env.kindOf x = some .local) (hpk : (env.scope.kind == .class || (env.scope.kind == .module && env.locals != env.globals)) = false)
    (h : wpAny (model prog w) A (eval iter env) (SrcF prog w A h₀ L env x body Q E) E s)
    (hs : ∀ x, foldedSetIterable iter env x = pure x := by intro _; rfl)
    (hE : PassesOwn (model prog w) A env E := by passes_own) :
    wpAny (model prog w) A (exec (.For (.Name x px) iter body [] pos) env) Q E s := by
  subst hLe
  refine wpAny_For (wpAny_mono h (fun xv s₁ h₁ => ?_) fun _ _ e => e) hs
  rcases h₁ with ⟨ax, its, k, news, m, hh, F, N, hm, G⟩ | ⟨r, a, b, t, u, v, n, news, m, hh, F, N, hr, hsm, hn, G⟩
  · have hl : s₁.heap.IsList ax its := listOf_isList (N.get hm)
    have hlt : ax < s₁.heap.objs.size := Heap.lt_size (N.get hm)
    refine wpAny_pyIter_list hl ?_
    have up : ∀ b o, s₁.heap.get? b = some o → (s₁.heap.push { cls := .type "list_iterator", data := .fields #[.ref ax, .int 0 0] }).get? b = some o := fun b o e => Heap.get?_push_of_some _ e
    refine fblock (Walks.list hh s₁.heap.objs.size ax (Nat.ne_of_lt hlt) its) (fun i h st => by obtain ⟨o, e, _, d⟩ := st.1; exact ⟨o, e, it_list d⟩) list_st hx hpk ⟨⟨_, Heap.get?_push_size _ rfl, rfl, rfl⟩, hl.push _⟩ (fun hb => ?_)
      (F.keeps up) (N.grown up) (next_is_new F) (fun p hp => Nat.ne_of_lt (Heap.lt_size (N p hp).1)) (.inr ⟨_, hm, rfl, _, rfl⟩) hE G
    rcases List.mem_cons.mp hb with hb | hb
    · exact Nat.ne_of_lt F.ns.lt hb
    · exact (N _ hm).2.1 (List.mem_singleton.mp hb).symm
  · refine wpAny_pyIter_range hr hsm ?_
    refine fblock (range_walks hh a n) (fun i h st => ⟨_, st, it_range⟩) range_st hx hpk (by show IsRangeIter _ _ _ _ _; rw [hn]; simpa using Heap.get?_push_size _ rfl) (fun hb => ?_)
      (F.keeps fun _ _ e => Heap.get?_push_of_some _ e) (N.grown fun _ _ e => Heap.get?_push_of_some _ e) (next_is_new F) (fun p hp => Nat.ne_of_lt (Heap.lt_size (N p hp).1)) trivial hE G
    exact Nat.ne_of_lt F.ns.lt (List.mem_singleton.mp hb)
theorem off1_of {I : Nat} : ∀ l : List (Addr × Obj), (∀ p ∈ l, p.1 ≠ I) → Off1 I l
  | [], _ => trivial
  | p :: r, h => ⟨h _ (.head _), off1_of r fun q hq => h q (.tail _ hq)⟩
theorem off1_mem {I : Nat} : ∀ l : List (Addr × Obj), Off1 I l → ∀ p ∈ l, p.1 ≠ I
  | [], _, _, h => nomatch h
  | p :: r, x, q, hq => by
    rcases List.mem_cons.mp hq with rfl | hq
    · exact x.1
    · exact off1_mem r x.2 q hq
end
end
section
open PySem PySem.Calls PyProof.Rows PySem.W PySem.Spec
open Builtin Builtin.Str
section
variable {prog : Program} {w : World} {A : Around} {E : Value → Shared → Prop} {s : Shared} {h₀ : Heap} {L : Addr} {m : Str → Option Value} {news : List (Addr × Obj)}
theorem glued_one (sep x : Str) : glued sep [x] = x := rfl
theorem join_led {D : Nat} {sep : Str} {t : Tok} {l : List (Str × Tok)} {c : Nat} {Q : Value → Shared → Prop} (N : News h₀ L s.heap news) (hm : (D, listOf (strValues l).toArray c) ∈ news)
    (hz : tooLong ((l.map (·.1)).toArray.foldl (· + ·.length + sep.length) 0) = false) (hg : (glued sep (l.map (·.1))).length ≤ sizeLine) (h : ∀ t' tk', s.toks ≤ tk' → Q (.str (glued sep (l.map (·.1))) t') { s with toks := tk' }) :
    wpAny (model prog w) A (call (.builtin "str.join") [.str sep t, .ref D]) Q E s := by
  have hl : s.heap.IsList D (strValues l).toArray := listOf_isList (N.get hm)
  refine call_meets PySem.F.slot_str_join (typeIs_str _ _ _) PySem.F.entry_str_join (PySem.F.args_str_join_2 _ _) (meets_str_join_list sep t D l hz) ⟨hl, ?_⟩
  match l, hg, h with
  | [], hg, h => exact ⟨hg, h _ _ (Nat.le_succ _)⟩
  | [p], hg, h => exact h p.2 s.toks (Nat.le_refl _)
  | p :: q :: r, hg, h => exact ⟨hg, h _ _ (Nat.le_succ _)⟩
theorem join_led' {D : Nat} {sep x : Str} {t : Tok} {l : List (Str × Tok)} {c : Nat} {Q : Value → Shared → Prop} (N : News h₀ L s.heap news) (hm : (D, listOf (strValues l).toArray c) ∈ news)
    (hz : tooLong ((l.map (·.1)).toArray.foldl (· + ·.length + sep.length) 0) = false) (hx : glued sep (l.map (·.1)) = x) (hg : x.length ≤ sizeLine) (h : ∀ t' tk', s.toks ≤ tk' → Q (.str x t') { s with toks := tk' }) :
    wpAny (model prog w) A (call (.builtin "str.join") [.str sep t, .ref D]) Q E s := by
  subst hx
  exact join_led N hm hz hg h
end
end
section
open PySem PySem.W PyProof.Rows PySem.Calls PySem.Spec
theorem fin_start3 {P : Params} {h₀ h : Heap} {L : Addr} {l wd wr q pc dl nsd ns pm ps nn at_ : Nat} {tk : Nat → Tok} {t0 : Tok} {done : Bool} {PC : Array Value} {X dts : List (Str × Tok)} {nsds nss pss : List Value} {tb : Array Value} {e0 f1 e2 e3 f4 f5 n3 : Nat} {oA : Obj} {rest big : List (Addr × Obj)}
    (N : News h₀ L h big) (m0 : (l, listOf #[] 0) ∈ big)
    (m1 : (wd, dictOf (wdict P tk (.ref q) (.ref dl) (.ref nsd) (.ref ns) (.ref pm) (.ref ps) .none true done t0) e0) ∈ big) (m2 : (wr, instObj 150 wd) ∈ big) (m3 : (q, bfmObj "list.append" (.ref pc)) ∈ big) (m4 : (pc, listOf PC f1) ∈ big) (m5 : (dl, listOf (strValues dts).toArray e2) ∈ big) (m6 : (nsd, listOf nsds.toArray e3) ∈ big) (m7 : (ns, listOf (nss.toArray.push (Value.ref l)) f4) ∈ big) (m8 : (ps, listOf (pss ++ [Value.bool false] ++ [Value.bool false]).toArray f5) ∈ big) (m9 : (123, tabObj tb) ∈ big) (m10 : (nn, listOf #[] n3) ∈ big) (m11 : (at_, oA) ∈ big) (mr : ∀ p ∈ rest, p ∈ big)
    (hX : PC = (strValues X).toArray) (a1 : @Ne Nat l 123) (a2 : @Ne Nat l pc) (a3 : @Ne Nat l wd) (a4 : @Ne Nat l dl) (a5 : @Ne Nat l nsd) (a6 : @Ne Nat l ns) (a7 : @Ne Nat l ps)
    (W : WOff wd pc dl nsd ns ps ((nn, listOf #[] n3) :: (at_, oA) :: rest)) :
    ∃ (l' : Nat) (rest' : List (Addr × Obj)), News h₀ L h (wCells P tk t0 wd wr q pc dl nsd ns pm ps true done X dts nsds (nss ++ [Value.ref l']) (pss ++ [Value.bool false, Value.bool false]) tb e0 f1 e2 e3 f4 f5 rest') ∧ WOff wd pc dl nsd ns ps rest' ∧ (l', listOf #[] 0) ∈ rest' ∧ (nn, listOf #[] n3) ∈ rest' ∧ (at_, oA) ∈ rest' ∧ ∀ p ∈ rest, p ∈ rest' := by
  refine ⟨l, (l, listOf #[] 0) :: (nn, listOf #[] n3) :: (at_, oA) :: rest, ?_, wOff_cons W a1 a2 a3 a4 a5 a6 a7, .head _, .tail _ (.head _), .tail _ (.tail _ (.head _)), fun p hp => .tail _ (.tail _ (.tail _ hp))⟩
  dsimp only [wCells]
  rw [show (nss ++ [Value.ref l]).toArray = nss.toArray.push (.ref l) from push_list.symm, app_two, ← hX]
  exact news_c N m1 (news_c N m2 (news_c N m3 (news_c N m4 (news_c N m5 (news_c N m6 (news_c N m7 (news_c N m8 (news_c N m9 (news_c N m0 (news_c N m10 (news_c N m11 fun p hp => N p (mr p hp))))))))))))
end
section
open PySem PySem.W PyProof.Rows PySem.Calls PySem.Spec
theorem fillIt_aNs : (PySem.Challenge.rw_pg0301_01 = PySem.Challenge.rw_pg0301_01) ∧ (hd1.heap_39 = hd1.heap_39) := by
  k_fill
  exact ⟨rfl, rfl⟩
noncomputable abbrev nsE (P : Params) (k v : String) (a b : Nat) : DictEntry := ⟨PyData.keyHash P (Str.ofString k), .str (Str.ofString k) a, .str (Str.ofString v) b⟩
noncomputable abbrev nsObj (P : Params) : Obj := { cls := .type "dict", data := .dict #[
  nsE P "http://www.w3.org/XML/1998/namespace" "xml" 329 330, nsE P "http://www.w3.org/1999/xhtml" "html" 331 332, nsE P "http://www.w3.org/1999/02/22-rdf-syntax-ns#" "rdf" 333 334,
  nsE P "http://schemas.xmlsoap.org/wsdl/" "wsdl" 335 336, nsE P "http://www.w3.org/2001/XMLSchema" "xs" 337 338, nsE P "http://www.w3.org/2001/XMLSchema-instance" "xsi" 339 340, nsE P "http://purl.org/dc/elements/1.1/" "dc" 341 342] 7 }
theorem nsLook (P : Params) : (hd1.heap_39 P).lookup 44 = some (nsObj P) := by kernel_rfl
abbrev nsKvs : List (Str × Value) := [(Str.ofString "http://www.w3.org/XML/1998/namespace", .str (Str.ofString "xml") 330), (Str.ofString "http://www.w3.org/1999/xhtml", .str (Str.ofString "html") 332),
  (Str.ofString "http://www.w3.org/1999/02/22-rdf-syntax-ns#", .str (Str.ofString "rdf") 334), (Str.ofString "http://schemas.xmlsoap.org/wsdl/", .str (Str.ofString "wsdl") 336),
  (Str.ofString "http://www.w3.org/2001/XMLSchema", .str (Str.ofString "xs") 338), (Str.ofString "http://www.w3.org/2001/XMLSchema-instance", .str (Str.ofString "xsi") 340), (Str.ofString "http://purl.org/dc/elements/1.1/", .str (Str.ofString "dc") 342)]
theorem nsAt {w : World} {h : Heap} (X : (hd1.heap_39 w.params).In h) : h.DictAt (strKind P3 w) 44 nsKvs 7 := by
  refine ⟨nsObj w.params, _, X _ _ (nsLook _), ⟨rfl, rfl, rfl⟩, rfl, ?_, ?_, by decide +kernel⟩
  · intro e he
    simp only [List.mem_toArray, List.mem_cons, List.not_mem_nil, or_false] at he
    rcases he with rfl | rfl | rfl | rfl | rfl | rfl | rfl
    all_goals exact ⟨_, PySem.strKind_is _ _ _ _, rfl⟩
  · repeat (first | exact Pairs.nil | refine Pairs.cons (PySem.strKind_is _ _ _ _) rfl ?_)
section
variable {w : World} {A : Around} {E : Value → Shared → Prop} {s : Shared} {h₀ : Heap} {L : Addr} {m : Str → Option Value} {news : List (Addr × Obj)}
theorem ns_method {pl : Sem Bool} {Q : Value × List Value → Shared → Prop} (F : Fr h₀ L s.heap m) (X : (hd1.heap_39 w.params).In h₀) (h : Q (.builtin "dict.items", [.ref 44]) s) :
    wpAny (model P3 w) A (getMethod (.ref 44) (Str.ofString "items") pl) Q E s := by
  have hD := (nsAt (X.keeps F.keep)).dictOf
  exact getMethod_builtin hD.typeIs PySem.F.plainAttrs_dict PySem.F.slot_dict_items PySem.F.type_dict_items hD.mapOf.noDict h
theorem ns_view {Q : Value → Shared → Prop} (F : Fr h₀ L s.heap m) (N : News h₀ L s.heap news) (X : (hd1.heap_39 w.params).In h₀)
    (h : ∀ (D : Nat) h', Fr h₀ L h' m → News h₀ L h' ((D, { cls := .type "dict_items", data := .fields #[.ref 44] }) :: news) → (∀ q ∈ news, q.1 < D) → Q (.ref D) { s with heap := h' }) :
    wpAny (model P3 w) A (call (.builtin "dict.items") [.ref 44]) Q E s :=
  have hD := (nsAt (X.keeps F.keep)).dictOf
  call_meetsIn PySem.F.slot_dict_items hD.typeIs PySem.F.entry_dict_items (PySem.F.args_dict_items_1 _) (meets_dict_items (strKind P3 w) 44 rfl) ⟨⟨nsKvs, hD⟩, h _ _ (F.push _) (News.push F N _) fun q hq => Heap.lt_size (N q hq).1⟩
theorem ns_list {D : Nat} {Q : Value → Shared → Prop} (hh : A.handled = none) (F : Fr h₀ L s.heap m) (X : (hd1.heap_39 w.params).In h₀) (N : News h₀ L s.heap ((D, { cls := .type "dict_items", data := .fields #[.ref 44] }) :: news))
    (h : ∀ (B : Nat) h' tk, Fr h₀ L h' m → News h₀ L h' news → (∀ q ∈ news, q.1 < B) → L < B → Q (.ref B) { s with heap := h', toks := tk }) :
    wpAny (model P3 w) A (call (.type "list") [.ref D]) Q E s := by
  refine kdx_call (knd := strKind P3 w) (kvs := nsKvs) (ep := 7) hh ⟨_, (N _ (.head _)).1, rfl, rfl⟩ (nsAt (X.keeps F.keep)) (Nat.le_of_ble_eq_true rfl) fun h' tk acc c as hk hS hl hG hacc => ?_
  exact h _ h' tk (F.keeps hk) (fun q hq => ⟨hk _ _ (N q (.tail _ hq)).1, (N q (.tail _ hq)).2⟩) (fun q hq => Heap.lt_size (N q (.tail _ hq)).1) F.ns.lt
end
end
section
open PySem PySem.W PyProof.Rows PySem.Calls PySem.Spec
local macro_rules | `(tactic| walk_at "BF") => `(tactic| (refine lt_bef (by with_reducible assumption) ?_; (repeat (first | (with_reducible refine Bef.head ?_; (repeat (first | with_reducible exact Has.head | with_reducible refine Has.tail ?_)); done) | with_reducible refine Bef.tail ?_)); done))
local macro_rules | `(tactic| k_ne) => `(tactic| (refine neN ?_; (try dsimp only); first | (refine Nat.ne_of_lt ?_; walk_at "BF") | (refine Nat.ne_of_gt ?_; walk_at "BF")))
theorem fin_init {P : Params} {h₀ h : Heap} {L : Addr} {ps pm l2 ns nsd l4 D dl wr wd q pc : Nat} {o : Obj} {B : Value} {tb : Array Value} {e0 e1 e4 : Nat} {t1 t2 t0 a0 a1 a2 a3 a4 a5 a6 a7 a8 a9 a10 a11 a12 a13 a14 a15 a16 : Tok} {rest : List (Addr × Obj)}
    (N : News h₀ L h ((ps, listOf #[.bool false] 0) :: (pm, o) :: (l2, listOf #[] 0) :: (ns, listOf ([] ++ [B] ++ [Value.ref l2]).toArray e4) :: (nsd, listOf #[.ref l4] 0) :: (l4, listOf #[.ref D] 0) ::
      (D, tupOf [.str (Str.ofString "http://www.w3.org/XML/1998/namespace") t1, .str (Str.ofString "xml") t2]) :: (dl, listOf #[] 0) :: (wr, instObj 150 wd) ::
      (wd, dictOf [⟨PyData.keyHash P (Str.ofString "_write"), .str (Str.ofString "_write") a0, .ref q⟩, ⟨PyData.keyHash P (Str.ofString "_data"), .str (Str.ofString "_data") a1, .ref dl⟩, ⟨PyData.keyHash P (Str.ofString "_with_comments"), .str (Str.ofString "_with_comments") a2, .bool false⟩, ⟨PyData.keyHash P (Str.ofString "_strip_text"), .str (Str.ofString "_strip_text") a3, .bool false⟩, ⟨PyData.keyHash P (Str.ofString "_exclude_attrs"), .str (Str.ofString "_exclude_attrs") a4, .none⟩, ⟨PyData.keyHash P (Str.ofString "_exclude_tags"), .str (Str.ofString "_exclude_tags") a5, .none⟩, ⟨PyData.keyHash P (Str.ofString "_rewrite_prefixes"), .str (Str.ofString "_rewrite_prefixes") a6, .bool false⟩, ⟨PyData.keyHash P (Str.ofString "_qname_aware_tags"), .str (Str.ofString "_qname_aware_tags") a7, .none⟩, ⟨PyData.keyHash P (Str.ofString "_find_qname_aware_attrs"), .str (Str.ofString "_find_qname_aware_attrs") a8, .none⟩, ⟨PyData.keyHash P (Str.ofString "_declared_ns_stack"), .str (Str.ofString "_declared_ns_stack") a9, .ref nsd⟩, ⟨PyData.keyHash P (Str.ofString "_ns_stack"), .str (Str.ofString "_ns_stack") a10, .ref ns⟩, ⟨PyData.keyHash P (Str.ofString "_prefix_map"), .str (Str.ofString "_prefix_map") a11, .ref pm⟩, ⟨PyData.keyHash P (Str.ofString "_preserve_space"), .str (Str.ofString "_preserve_space") a12, .ref ps⟩, ⟨PyData.keyHash P (Str.ofString "_pending_start"), .str (Str.ofString "_pending_start") a13, .none⟩, ⟨PyData.keyHash P (Str.ofString "_root_seen"), .str (Str.ofString "_root_seen") a14, .bool false⟩, ⟨PyData.keyHash P (Str.ofString "_root_done"), .str (Str.ofString "_root_done") a15, .bool false⟩, ⟨PyData.keyHash P (Str.ofString "_ignored_depth"), .str (Str.ofString "_ignored_depth") a16, .int 0 t0⟩] e0) :: (q, bfmObj "list.append" (.ref pc)) :: (pc, listOf #[] e1) :: (123, tabObj tb) :: rest))
    (hlt : ∀ p ∈ rest, p.1 < wd) (r1 : ∀ p ∈ rest, p.1 ≠ 123) (r2 : ∀ p ∈ rest, p.1 ≠ pc)
    (hp : [123, pc, q, wd, wr, dl, D, l4, nsd, ns, l2, pm, ps].Pairwise (· < ·)) :
    ∃ (rest' : List (Addr × Obj)) (tk : Nat → Tok), News h₀ L h (wCells P tk t0 wd wr q pc dl nsd ns pm ps false false [] [] [.ref l4] [B, .ref l2] [.bool false] tb e0 e1 0 0 e4 0 rest') ∧ WOrd wd wr q pc dl nsd ns pm ps ∧ WOff wd pc dl nsd ns ps rest' ∧ NsOk [.ref l4] rest' ∧ (∀ p ∈ rest, p ∈ rest') := by
  have g : ∀ a : Nat, wd < a → ∀ p ∈ rest, p.1 ≠ a := fun a ha p h => Nat.ne_of_lt (Nat.lt_trans (hlt p h) ha)
  have W : WOff wd pc dl nsd ns ps rest := ⟨r1, r2, fun p h => Nat.ne_of_lt (hlt p h), g _ (by walk_at "BF"), g _ (by walk_at "BF"), g _ (by walk_at "BF"), g _ (by walk_at "BF")⟩
  refine ⟨(pm, o) :: (l2, listOf #[] 0) :: (l4, listOf #[.ref D] 0) :: (D, tupOf [.str (Str.ofString "http://www.w3.org/XML/1998/namespace") t1, .str (Str.ofString "xml") t2]) :: rest, fun i => ([a0, a1, a2, a3, a4, a5, a6, a7, a8, a9, a10, a11, a12, a13, a14, a15, a16] : List Tok).getD i 0, ?_, ⟨by walk_at "BF", by walk_at "BF", by walk_at "BF", by walk_at "BF", by walk_at "BF", by walk_at "BF", by walk_at "BF", by walk_at "BF", by walk_at "BF"⟩, wOff_cons (wOff_cons (wOff_cons (wOff_cons W (by k_ne) (by k_ne) (by k_ne) (by k_ne) (by k_ne) (by k_ne) (by k_ne) ) (by k_ne) (by k_ne) (by k_ne) (by k_ne) (by k_ne) (by k_ne) (by k_ne) ) (by k_ne) (by k_ne) (by k_ne) (by k_ne) (by k_ne) (by k_ne) (by k_ne) ) (by k_ne) (by k_ne) (by k_ne) (by k_ne) (by k_ne) (by k_ne) (by k_ne) , ?_, fun p hp => .tail _ (.tail _ (.tail _ (.tail _ hp)))⟩
  · exact news_c N (.tail _ (.tail _ (.tail _ (.tail _ (.tail _ (.tail _ (.tail _ (.tail _ (.tail _ (.head _)))))))))) (news_c N (.tail _ (.tail _ (.tail _ (.tail _ (.tail _ (.tail _ (.tail _ (.tail _ (.head _))))))))) (news_c N (.tail _ (.tail _ (.tail _ (.tail _ (.tail _ (.tail _ (.tail _ (.tail _ (.tail _ (.tail _ (.head _))))))))))) (news_c N (.tail _ (.tail _ (.tail _ (.tail _ (.tail _ (.tail _ (.tail _ (.tail _ (.tail _ (.tail _ (.tail _ (.head _)))))))))))) (news_c N (.tail _ (.tail _ (.tail _ (.tail _ (.tail _ (.tail _ (.tail _ (.head _)))))))) (news_c N (.tail _ (.tail _ (.tail _ (.tail _ (.head _))))) (news_c N (.tail _ (.tail _ (.tail _ (.head _)))) (news_c N (.head _) (news_c N (.tail _ (.tail _ (.tail _ (.tail _ (.tail _ (.tail _ (.tail _ (.tail _ (.tail _ (.tail _ (.tail _ (.tail _ (.head _))))))))))))) (news_c N (.tail _ (.head _)) (news_c N (.tail _ (.tail _ (.head _))) (news_c N (.tail _ (.tail _ (.tail _ (.tail _ (.tail _ (.head _)))))) (news_c N (.tail _ (.tail _ (.tail _ (.tail _ (.tail _ (.tail _ (.head _))))))) (fun p hp => N p (.tail _ (.tail _ (.tail _ (.tail _ (.tail _ (.tail _ (.tail _ (.tail _ (.tail _ (.tail _ (.tail _ (.tail _ (.tail _ (hp)))))))))))))))))))))))))))
  · refine ⟨l4, 0, D, t1, t2, rfl, .tail _ (.tail _ (.head _)), .tail _ (.tail _ (.tail _ (.head _))), fun k v hk hv => ?_⟩
    cases k with
    | zero => exact absurd hk (Nat.lt_irrefl 0)
    | succ k => simp at hv
end
section
open PySem PySem.Calls PyProof.Rows PySem.W PySem.Spec
section
variable {prog : Program} {w : World} {A : Around} {E : Value → Shared → Prop} {s : Shared} {h₀ : Heap} {L : Addr} {m : Str → Option Value} {env : Env}
theorem name_fr {x : Str} {pos : Pos} {v : Value} {Q : Value → Shared → Prop} (F : Fr h₀ L s.heap m) (hL : env.locals = L) (hk : env.scope.kind = .function) (hx : env.kindOf x = some .local) (hb : (x == ("__debug__" : Str)) = false) (hm : m x = some v) (h : Q v s) :
    wpAny (model prog w) A (eval (.Name x pos) env) Q E s := by
  subst hL
  exact wpAny_Name (wpAny_loadName_local hk hx F.ns hm h) hb
theorem load_fr {x : Str} {v : Value} {Q : Value → Shared → Prop} (F : Fr h₀ L s.heap m) (hL : env.locals = L) (hk : env.scope.kind = .function) (hx : env.kindOf x = some .local) (hm : m x = some v) (h : Q v s) :
    wpAny (model prog w) A (loadName env x) Q E s := by
  subst hL
  exact wpAny_loadName_local hk hx F.ns hm h
end
end
section
open PySem PySem.Calls PyProof.Rows PySem.W PySem.Spec
section
variable {prog : Program} {w : World} {A : Around} {E : Value → Shared → Prop} {s : Shared} {h₀ : Heap} {L : Addr} {m : Str → Option Value} {news : List (Addr × Obj)}
theorem itemAt {value slice : PySem.Expr} {l : Addr} {its : Array Value} {v : Value} {n : Nat} {p : Nat} {u : Tok} {Q : Value → Shared → Prop} (N : News h₀ L s.heap news) (hm : (l, listOf its n) ∈ news) (hv : its[p]? = some v) (hz : p < 1000) (h : Q v s)
    (hs : subscripted slice false (.ref l) (.int (p : Int) u) = operate [.ref l, .int (p : Int) u] (getItem (.ref l) (.int (p : Int) u))) :
    wpAny (model prog w) A (subscriptTail value slice (.ref l) (.int (p : Int) u)) Q E s := by
  have hl : s.heap.IsList l its := ⟨_, N.get hm, rfl, n, rfl⟩
  have hlt : p < its.size := (Array.getElem?_eq_some_iff.mp hv).1
  have h63 : (p : Int) < 2 ^ 63 := by lia
  exact tail_any hl.typeIs slot_list_getitem.lookup (wpAny_getItem_list hl (Int.natCast_nonneg p) h63 (by rw [Int.toNat_natCast]; exact hv) h) hs
end
end
section
open PySem PySem.Calls PyProof.Rows PySem.W PySem.Spec
def catS : List Str → Str
  | [] => Str.ofString ""
  | x :: r => x ++ catS r
theorem str_ext {x y : Str} (h : x.cps = y.cps) : x = y := by cases x; cases y; simp_all
theorem cps_app (x y : Str) : (x ++ y).cps = x.cps ++ y.cps := rfl
theorem cps_nil : (Str.ofString "").cps = #[] := by decide +kernel
theorem app_nil' (x : Str) : x ++ Str.ofString "" = x := str_ext (by rw [cps_app, cps_nil]; simp)
theorem nil_app' (x : Str) : Str.ofString "" ++ x = x := str_ext (by rw [cps_app, cps_nil]; simp)
theorem app_assoc' (x y z : Str) : x ++ y ++ z = x ++ (y ++ z) := str_ext (by simp only [cps_app]; simp)
theorem glue_fold : ∀ (l : List Str) (a : Array Nat), l.foldl (fun acc p => acc ++ (Str.ofString "").cps ++ p.cps) a = a ++ (catS l).cps
  | [], a => by simp [catS, cps_nil]
  | x :: r, a => by rw [List.foldl_cons, glue_fold r, catS, cps_app, cps_nil]; simp
theorem glued_cat (l : List Str) : Builtin.Str.glued (Str.ofString "") l = catS l := by
  cases l with
  | nil => exact str_ext (by rw [catS, cps_nil]; rfl)
  | cons x r => exact str_ext (by unfold Builtin.Str.glued; simp only [List.drop_succ_cons, List.drop_zero, List.headD_cons]; rw [glue_fold, catS, cps_app])
theorem catS_append (a b : List Str) : catS (a ++ b) = catS a ++ catS b := by
  induction a with
  | nil => rw [List.nil_append, catS, nil_app']
  | cons x r ih => rw [List.cons_append, catS, ih, catS, app_assoc']
theorem take_one {α : Type} {l : List α} {i : Nat} {x : α} (h : l[i]? = some x) : l.take (i + 1) = l.take i ++ [x] := by
  rw [List.take_add_one, h]; rfl
end
section
open PySem PySem.Calls PyProof.Rows PySem.W PySem.Spec
def AllL (n : Nat) {α : Type} (P : α → Prop) : KasT α → Prop
  | .ret a => P a
  | .ask i j k => i < n ∧ j < n ∧ ∀ b, AllL n P (k b)
variable {n₀ : Nat}
theorem AllL.bind {α β : Type} {P : α → Prop} {R : β → Prop} {f : α → KasT β} : ∀ {t : KasT α}, AllL n₀ P t → (∀ a, P a → AllL n₀ R (f a)) → AllL n₀ R (t.bind f)
  | .ret a, h, hf => hf a h
  | .ask _ _ k, h, hf => ⟨h.1, h.2.1, fun b => AllL.bind (t := k b) (h.2.2 b) hf⟩
def PermR (n : Nat) (p : Array Nat) : Prop := 0 < n ∧ p.Perm (List.toArray (List.range n))
theorem PermR.lt {p : Array Nat} (h : PermR n₀ p) (k : Nat) : p.getD k 0 < n₀ := by
  by_cases hk : k < p.size
  · have e : p.getD k 0 = p[k] := by simp [Array.getD, hk]
    rw [e]
    have hm : p[k] ∈ p.toList := by simp
    have hm' := (Array.perm_iff_toList_perm.mp h.2).mem_iff.mp hm
    exact List.mem_range.mp hm'
  · have e : p.getD k 0 = 0 := by simp [Array.getD, hk]
    rw [e]; exact h.1
theorem PermR.rev {p : Array Nat} (h : PermR n₀ p) (i j : Nat) : PermR n₀ (kas_rev p i j) := ⟨h.1, (mirror_perm _ _ _ _ : (kas_rev p i j).Perm p).trans h.2⟩
theorem PermR.bub {p : Array Nat} (h : PermR n₀ p) (i j : Nat) : PermR n₀ (bubble p i j) := ⟨h.1, (bubble_perm _ _ _).trans h.2⟩
theorem all_asc {p : Array Nat} (h : PermR n₀ p) : ∀ (f n : Nat), AllL n₀ (fun _ => True) (kas_asc p f n)
  | 0, _ => trivial
  | f + 1, n => by
    refine ⟨h.lt _, h.lt _, fun b => ?_⟩
    dsimp only
    split
    · trivial
    · exact all_asc h f (n + 1)
theorem all_place {p : Array Nat} (h : PermR n₀ p) (k : Nat) : ∀ (f l r : Nat), AllL n₀ (fun _ => True) (kas_place p k f l r)
  | 0, _, _ => trivial
  | f + 1, l, r => by
    unfold kas_place
    split
    · trivial
    · refine ⟨h.lt _, h.lt _, fun b => ?_⟩
      dsimp only
      split
      · exact all_place h k f _ _
      · exact all_place h k f _ _
theorem all_desc : ∀ (f : Nat) (p : Array Nat) (n q : Nat), PermR n₀ p → AllL n₀ (fun r : Array Nat × Nat × Nat => PermR n₀ r.1) (kas_desc f p n q)
  | 0, _, _, _, h => h
  | f + 1, p, n, q, h => by
    refine ⟨h.lt _, h.lt _, fun c => ?_⟩
    dsimp only
    split
    · split
      · exact all_desc f _ _ _ (h.rev _ _)
      · exact all_desc f _ _ _ h
    · refine ⟨h.lt _, h.lt _, fun d => ?_⟩
      dsimp only
      split
      · exact h
      · exact all_desc f _ _ _ h
theorem all_tail {p : Array Nat} (n r : Nat) (h : PermR n₀ p) : AllL n₀ (fun x : Nat × Array Nat => PermR n₀ x.2) (kas_tail3 n r p) :=
  AllL.bind (all_asc (h.rev _ _) _ _) fun _ _ => h.rev _ _
theorem all_descPart {p : Array Nat} (n r : Nat) (h : PermR n₀ p) : AllL n₀ (fun x : Nat × Array Nat => PermR n₀ x.2) (kas_descPart n r p) := by
  refine AllL.bind (all_desc _ _ _ _ h) fun a ha => ?_
  split
  · exact all_tail _ _ (ha.rev _ _)
  · exact all_tail _ _ ha
theorem all_count {p : Array Nat} (r : Nat) (h : PermR n₀ p) : AllL n₀ (fun x : Nat × Array Nat => PermR n₀ x.2) (kas_count r p) := by
  refine AllL.bind (all_asc h _ _) fun n _ => ?_
  split
  · exact h
  · split
    · refine ⟨h.lt _, h.lt _, fun c => ?_⟩
      dsimp only
      split
      · exact h
      · exact all_descPart _ _ (h.rev _ _)
    · exact all_descPart _ _ h
theorem all_bin : ∀ (f : Nat) (p : Array Nat) (k : Nat), PermR n₀ p → AllL n₀ (fun x : Array Nat => PermR n₀ x) (kas_bin f p k)
  | 0, _, _, h => h
  | f + 1, _, _, h => AllL.bind (all_place h _ _ _ _) fun _ _ => all_bin f _ _ (h.bub _ _)
theorem all_sort (hn : 0 < n₀) : AllL n₀ (fun x : Array Nat => PermR n₀ x) (kas_sort n₀) := by
  refine AllL.bind (all_count n₀ ⟨hn, Array.Perm.refl _⟩) fun r hr => ?_
  split
  · exact all_bin _ _ _ hr
  · exact hr
section
variable {prog : Program} {w : World} {A : Around} {E : Value → Shared → Prop} {s : Shared} {h₀ : Heap} {L : Addr} {m : Str → Option Value} {news : List (Addr × Obj)}
theorem ask_all {n : Nat} {cmp : Nat → Nat → (Bool → Shared → Prop) → Shared → Prop} {Q : Array Nat → Shared → Prop} {P : Array Nat → Prop} (hc : ∀ i j (C : Bool → Shared → Prop), i < n → j < n → (∀ b, C b s) → cmp i j C s) (hQ : ∀ p, P p → Q p s) :
    ∀ (t : KasT (Array Nat)), AllL n P t → t.kasWp cmp Q s
  | .ret _, h => hQ _ h
  | .ask i j k, h => hc i j _ h.1 h.2.1 fun b => ask_all hc hQ (k b) (h.2.2 b)
theorem lt_list1e {l1 l2 : Addr} {a b : Str} {t u : Tok} {n1 n2 : Nat} {Q : Bool → Shared → Prop} (hu : A.units < cLine) (h1 : s.heap.get? l1 = some (listOf #[.str a t] n1)) (h2 : s.heap.get? l2 = some (listOf #[.str b u] n2))
    (h : ∀ c, Q c s) : wpAny (model prog w) A (keyLt' oneType' (.ref l1) (.ref l2)) Q E s := by
  by_cases hab : a = b
  · rw [keyLt'_oneType, oneLt'_eq]
    simp only [if_true]
    refine wpAny_bind (wpAny_cRoomFor hu ?_)
    have hT1 : s.TypeIs (.ref l1) "list" := ⟨_, h1, rfl⟩
    have hT2 : s.TypeIs (.ref l2) "list" := ⟨_, h2, rfl⟩
    refine wpAny_bind (wpAny_callSpecialIfBound?_slot hT1 PySem.F.slot_list_lt (call_entry_go PySem.F.slot_list_lt hT1 PySem.F.entry_list_lt ?_ (PySem.F.args_list_lt_2 _ _)))
    show wpAny _ _ (do
      if !(← isInstance (.ref l2) (.type "list")) then return ← ret .notImplemented
      if CmpOp.Lt == .Eq || CmpOp.Lt == .NotEq then
        if (← Builtin.List.listItems (.ref l1)).size != (← Builtin.List.listItems (.ref l2)).size then rule "list.compare.lengths-differ"; return ← ret (.bool (CmpOp.Lt == .NotEq))
      again (.builtin "list.__eq__.loop" ⟨[.ref l1, .ref l2, rawInt 0, rawInt 0], []⟩)) _ _ s
    refine wpAny_bind (wpAny_isInstance (b := true) hT2 (by rw [isSubtype_type]; kernel_rfl) ?_)
    rw [if_neg (by decide), if_neg (by decide)]
    refine wpAny_pure ⟨Code.quiet_builtin _ (by decide +kernel), codeAny_builtin entry_eq_loop' ?_⟩
    rw [Around.under_plainId plain_eq_loop' _]
    unfold Builtin.«list.__eq__.loop»
    refine wpAny_bind (listItems_at h1 rfl ?_)
    refine wpAny_bind (listItems_at h2 rfl ?_)
    show wpAny _ _ (eqBool (.str a t) (.str b u) >>= _) _ _ s
    refine wpAny_bind (wpAny_eqBool_str ?_)
    rw [if_pos (by simpa using hab)]
    refine wpAny_pure ⟨Code.quiet_builtin _ (by decide +kernel), codeAny_builtin entry_eq_loop' ?_⟩
    rw [Around.under_plainId plain_eq_loop' _]
    unfold Builtin.«list.__eq__.loop»
    refine wpAny_bind (listItems_at h1 rfl ?_)
    refine wpAny_bind (listItems_at h2 rfl ?_)
    refine wpAny_bind (listItems_at h1 rfl ?_)
    refine wpAny_bind (listItems_at h2 rfl ?_)
    refine wpAny_pure ?_
    exact wpAny_truthy_bool (h _)
  · exact lt_list1 hu h1 h2 hab (h _)
theorem updF_app {a : Addr} {o : Obj} {tl rest : List (Addr × Obj)} (h1 : ∀ p ∈ tl, p.1 ≠ a) (h2 : ∀ p ∈ rest, p.1 ≠ a) : UpdF a o (tl ++ (a, o) :: rest) (fun o' => tl ++ (a, o') :: rest) := by
  induction tl with
  | nil => exact UpdF.head h2
  | cons p tl ih => exact UpdF.tail (h1 p (.head _)) (ih fun q hq => h1 q (.tail _ hq))
theorem vals_back {vs : List Value} {ks : List (Str × Tok)} (h : vs.Perm (strValues ks)) : ∃ zs : List (Str × Tok), vs = strValues zs ∧ zs.Perm ks := by
  let g : Value → Str × Tok := fun v => match v with | .str x t => (x, t) | _ => (Str.empty, 0)
  refine ⟨vs.map g, ?_, ?_⟩
  · have hm : ∀ v ∈ vs, ∃ p : Str × Tok, v = .str p.1 p.2 := fun v hv => by
      obtain ⟨p, _, rfl⟩ := List.mem_map.mp (h.mem_iff.mp hv)
      exact ⟨p, rfl⟩
    clear h
    induction vs with
    | nil => rfl
    | cons v vs ih =>
      obtain ⟨p, rfl⟩ := hm v (.head _)
      show _ :: vs = _ :: strValues (vs.map g)
      rw [← ih fun u hu => hm u (.tail _ hu)]
  · have h2 := h.map g
    have e : (strValues ks).map g = ks := by
      show (ks.map _).map g = ks
      rw [List.map_map]
      exact List.map_id'' (fun p => rfl) ks
    rw [e] at h2
    exact h2
theorem sorted_n {D : Addr} {o : Obj} {ks : List (Str × Tok)} {lam : Addr} {Q : Value → Shared → Prop} (hh : A.handled = none) (hu : A.units + 2 < cLine) (F : Fr h₀ L s.heap m) (N : News h₀ L s.heap news) (hD : (D, o) ∈ news) (hs : TSet prog w o ks)
    (h2 : 2 ≤ ks.length) (h64 : ks.length < 64) (hf : KeyOne prog w A.in1.in1 h₀ L m news (.ref lam) (ks.map (·.1)))
    (h : ∀ (R k : Nat) (zs : List (Str × Tok)) h' d' tk', zs.Perm ks → Fr h₀ L h' m → News h₀ L h' ((R, listOf (strValues zs).toArray k) :: news) → (∀ p ∈ news, p.1 < R) → Q (.ref R) { s with heap := h', drawn := d', toks := tk' }) :
    wpAny (model prog w) A (call (.builtin "sorted") [.ref D] [(Str.ofString "key", .ref lam)]) Q E s := by
  refine sorted_any hh F N hD hs (by lia) h64 fun R vs h' d' tk' hp F1 N1 hR hRL hR0 hRN => ?_
  obtain ⟨zs, rfl, hz⟩ := vals_back hp
  have hlz : zs.length = ks.length := hz.length_eq
  have hlv : (strValues zs).length = ks.length := by rw [← hlz]; simp [strValues]
  refine kat_keyed (s := { s with heap := h', drawn := d', toks := tk' }) F1 N1 hR hRL hR0 (fun p hp => Nat.ne_of_lt (hRN p hp)) (by rw [hlv]; exact h2) (by rw [hlv]; exact h64) fun kS e1 h2' F2 N2 l0 l1 => ?_
  have neR : ∀ p ∈ (R, seqObj "list" #[] e1) :: news, p.1 ≠ kS := fun p hp => by
    rcases List.mem_cons.mp hp with rfl | hp
    · exact Nat.ne_of_lt l0
    · exact Nat.ne_of_lt (l1 p hp)
  have go : ∀ (r : List (Str × Tok)) (kk : List Value) (tl : List (Addr × Obj)) (e tk9 : Nat) (h9 : Heap), (∀ p ∈ r, p.1 ∈ ks.map (·.1)) → kk.length + r.length = ks.length →
      (∀ v ∈ kk, ∃ la x t k, v = .ref la ∧ (la, listOf #[.str x t] k) ∈ tl) → (∀ p ∈ tl, p.1 ≠ kS ∧ p.1 ≠ R) → Fr h₀ L h9 m → News h₀ L h9 (tl ++ (kS, seqObj "list" (List.toArray kk) e) :: (R, seqObj "list" #[] e1) :: news) →
      KatKeys prog w A.in1.in1 h₀ L m kS (.ref lam) (fun ks' e s' => wpAny (model prog w) A.in1.in1 (keyKind' (List.toArray ks')) (fun κ s'' => (kas_sort (strValues zs).length).kasWp (kas_ask prog w A.in1.in1 κ (katRev false ks')) (fun p s3 => KatFin h₀ L m kS R ks' e e1 (katRev false (p.toList.map fun i => (katRev false (strValues zs)).getD i Value.none)) (fun s4 => ∃ v, PySem.Fin.done (.ret .none) = PySem.Fin.done (.ret v) ∧ Q (.ref R) s4) s3) s'') (fun _ _ => False) s') (strValues r) kk e
        { s with heap := h9, drawn := d', toks := tk9 } := by
    intro r
    induction r with
    | nil =>
      intro kk tl e tk9 h9 _ hlen hkk hoff F9 N9
      refine KatKeys.nil ?_
      have hlk : kk.length = ks.length := by simpa using hlen
      refine kas_kind (T := Value.type "list") (by lia) (fun v hv => ?_) (by decide) (by decide) ?_
      · obtain ⟨la, x, t, k, rfl, hm⟩ := hkk v hv
        exact looks_list (N9.get (List.mem_append_left _ hm))
      rw [hlv]
      refine ask_all (n := ks.length) (P := fun p => PermR ks.length p) (fun i j C hi hj hC => ?_) (fun p hpp => ?_) _ (all_sort (by lia))
      · have ai : ∀ i, i < ks.length → ∃ la x t k, kk.getD i Value.none = .ref la ∧ (la, listOf #[.str x t] k) ∈ tl := fun i hi => by
          have hi' : i < kk.length := by lia
          have e : kk.getD i Value.none = kk[i] := by simp [hi']
          rw [e]
          exact hkk _ (List.getElem_mem hi')
        obtain ⟨la, x, t, k, e3, hm⟩ := ai i hi
        obtain ⟨lb, y, u, k', e4, hm'⟩ := ai j hj
        show wpAny (model prog w) A.in1.in1 (keyLt' oneType' (kk.getD i Value.none) (kk.getD j Value.none)) C _ _
        rw [e3, e4]
        exact lt_list1e (by show A.units + 1 + 1 < cLine; exact hu) (N9.get (List.mem_append_left _ hm)) (N9.get (List.mem_append_left _ hm')) hC
      · refine KatFin.intro F9 N9 (updF_app (fun p hp => (hoff p hp).1) neR) fun h7 c7 F7 N7 => ?_
        have e5 : tl ++ (kS, seqObj "list" #[] c7) :: (R, seqObj "list" #[] e1) :: news = (tl ++ [(kS, seqObj "list" #[] c7)]) ++ (R, seqObj "list" #[] e1) :: news := by simp
        (try dsimp only at N7)
        have N7' : News h₀ L h7 ((tl ++ [(kS, seqObj "list" #[] c7)]) ++ (R, seqObj "list" #[] e1) :: news) := by rw [← e5]; exact N7
        refine KasFin.intro F7 N7' (updF_app (fun p hp => ?_) (fun p hp => Nat.ne_of_lt (hRN p hp))) fun h8 c8 F8 N8 => ?_
        · rcases List.mem_append.mp hp with q | q
          · exact (hoff p q).2
          · rw [List.mem_singleton.mp q]
            exact Nat.ne_of_gt l0
        · have hperm := Array.perm_iff_toList_perm.mp hpp.2
          have e6 : ((List.toArray (List.range ks.length)).toList.map fun i => (strValues zs).getD i Value.none) = strValues zs := by
            show (List.range ks.length).map _ = _
            rw [← hlv]
            apply List.ext_getElem?
            intro i
            by_cases hi : i < (strValues zs).length
            · simp [hi]
            · simp [hi]
          have hpz : (p.toList.map fun i => (strValues zs).getD i Value.none).Perm (strValues ks) := by
            have q := hperm.map fun i => (strValues zs).getD i Value.none
            rw [e6] at q
            exact q.trans hp
          obtain ⟨ys, e7, hy⟩ := vals_back hpz
          refine ⟨_, rfl, h R c8 ys h8 d' tk9 hy F8 (fun q hq => ?_) hRN⟩
          rcases List.mem_cons.mp hq with rfl | hq
          · have e8 : katRev false (p.toList.map fun i => (katRev false (strValues zs)).getD i Value.none) = strValues ys := e7
            have := N8 (R, listOf (List.toArray (katRev false (p.toList.map fun i => (katRev false (strValues zs)).getD i Value.none))) c8) (List.mem_append_right _ (.head _))
            rw [e8] at this
            exact this
          · exact N8 q (List.mem_append_right _ (.tail _ hq))
    | cons y r ih =>
      intro kk tl e tk9 h9 hr hlen hkk hoff F9 N9
      refine KatKeys.cons (hf y.1 y.2 _ _ _ (hr y (.head _)) F9 N9 (fun p hp => List.mem_append_right _ (.tail _ (.tail _ hp))) fun la h3 tk3 t3 k3 F3 N3 lla => ?_)
      have nela : la ≠ kS := Nat.ne_of_gt (lla _ (List.mem_append_right _ (.head _)))
      have nelR : la ≠ R := Nat.ne_of_gt (lla _ (List.mem_append_right _ (.tail _ (.head _))))
      have hoff' : ∀ p ∈ (la, listOf #[.str y.1 t3] k3) :: tl, p.1 ≠ kS ∧ p.1 ≠ R := fun p hp => by
        rcases List.mem_cons.mp hp with rfl | hp
        · exact ⟨nela, nelR⟩
        · exact hoff p hp
      refine KatBack.intro F3 (N3 : News h₀ L h3 (((la, listOf #[.str y.1 t3] k3) :: tl) ++ (kS, seqObj "list" (List.toArray kk) e) :: (R, seqObj "list" #[] e1) :: news)) (updF_app (fun p hp => (hoff' p hp).1) neR) fun h4 c4 F4 N4 => ?_
      refine ih (kk ++ [.ref la]) ((la, listOf #[.str y.1 t3] k3) :: tl) c4 tk3 h4 (fun p hp => hr p (.tail _ hp)) (by rw [List.length_append, List.length_singleton]; rw [List.length_cons] at hlen; lia) (fun v hv => ?_) hoff' F4 N4
      rcases List.mem_append.mp hv with q | q
      · obtain ⟨la', x, t, k, e9, hm⟩ := hkk v q
        exact ⟨la', x, t, k, e9, .tail _ hm⟩
      · rw [List.mem_singleton.mp q]
        exact ⟨la, _, _, _, rfl, .head _⟩
  exact go zs [] [] 0 tk' h2' (fun p hp => List.mem_map_of_mem (hz.mem_iff.mp hp)) (by simpa using hlz) (fun v hv => absurd hv List.not_mem_nil) (fun p hp => absurd hp List.not_mem_nil) F2 N2
end
end
section
open PySem PySem.Calls PyProof.Rows PySem.W PySem.Spec
theorem hideQ {M : Model} {A : Around} {α : Type} {t : Sem α} {E : Value → Shared → Prop} {Q : α → Shared → Prop} {s : Shared} (h : ∀ Q' : α → Shared → Prop, (∀ v s', Q v s' → Q' v s') → wpAny M A t Q' E s) : wpAny M A t Q E s := h Q fun _ _ h => h
theorem kdxOpen_all {lo : Addr} {news : List (Addr × Obj)} {C : List Value → List (Addr × Obj) → Prop} : ∀ (ps : List ((Tok → Value) × Value)) (vs : List Value) (tups : List (Addr × Obj)),
    (∀ (as : List Addr) (tf : List (Addr × Obj)), as.length = ps.length → (∀ (i : Nat) (a : Addr) (p : (Tok → Value) × Value), as[i]? = some a → ps[i]? = some p → ∃ t, (a, ({ cls := .type "tuple", data := .seq #[p.1 t, p.2] } : Obj)) ∈ tf) →
      (∀ p ∈ tf, p ∈ tups ∨ (lo < p.1 ∧ ∀ q ∈ news, q.1 < p.1)) → (∀ p ∈ tups, p ∈ tf) → C (vs ++ as.map .ref) tf) → KdxOpen lo news ps vs tups C
  | [], vs, tups, h => by
    have := h [] tups rfl (fun i a p e => by simp at e) (fun p hp => .inl hp) (fun p hp => hp)
    rw [List.map_nil, List.append_nil] at this
    exact KdxOpen.nil this
  | p :: ps, vs, tups, h => by
    refine KdxOpen.cons fun a t b1 b2 b3 => ?_
    refine kdxOpen_all ps _ _ fun as tf hl hm ho hs => ?_
    have := h (a :: as) tf (by simp [hl]) (fun i b q hb hq => ?_) (fun q hq => ?_) (fun q hq => hs q (.tail _ hq))
    · rw [List.append_assoc]
      exact this
    · match i with
      | 0 =>
        simp only [List.getElem?_cons_zero, Option.some.injEq] at hb hq
        subst hb; subst hq
        exact ⟨t, hs _ (.head _)⟩
      | i + 1 => exact hm i b q (by simpa using hb) (by simpa using hq)
    · rcases ho q hq with ho | ho
      · rcases List.mem_cons.mp ho with rfl | ho
        · exact .inr ⟨b1, b2⟩
        · exact .inl ho
      · exact .inr ho
section
variable {prog : Program} {w : World} {A : Around} {E : Value → Shared → Prop} {s : Shared} {h₀ : Heap} {L : Addr} {m : Str → Option Value} {news : List (Addr × Obj)}
theorem sorted_g {D : Addr} {o : Obj} {ks : List (Str × Tok)} {lam : Addr} {Q : Value → Shared → Prop} (hh : A.handled = none) (hu : A.units + 2 < cLine) (F : Fr h₀ L s.heap m) (N : News h₀ L s.heap news) (hD : (D, o) ∈ news) (hs : TSet prog w o ks)
    (h1 : 1 ≤ ks.length) (h64 : ks.length < 64) (hf : KeyOne prog w A.in1.in1 h₀ L m news (.ref lam) (ks.map (·.1)))
    (h : ∀ (R k : Nat) (zs : List (Str × Tok)) h' d' tk', zs.Perm ks → Fr h₀ L h' m → News h₀ L h' ((R, listOf (strValues zs).toArray k) :: news) → (∀ p ∈ news, p.1 < R) → Q (.ref R) { s with heap := h', drawn := d', toks := tk' }) :
    wpAny (model prog w) A (call (.builtin "sorted") [.ref D] [(Str.ofString "key", .ref lam)]) Q E s := by
  match ks, h1, hs, hf, h with
  | [x], _, hs, hf, h => exact sorted_one hh F N hD hs hf fun R k h' d' tk' F' N' l' => h R k [x] h' d' tk' (.refl _) F' N' l'
  | x :: y :: r, _, hs, hf, h => exact sorted_n hh hu F N hD hs (by simp) h64 hf h
theorem items_all {env : Env} {target : PySem.Expr} {body : List Stmt} {Q : Flow → Shared → Prop} {I : Addr} {keep : List (Addr × Obj)} {P : Nat → (Str → Option Value) → List (Addr × Obj) → Prop} (vs : List Value)
    (hstep : ∀ (i : Nat) v h tk m' n' oI, vs[i]? = some v → P i m' n' → Fr h₀ env.locals h m' → oI.cls = .type "list_iterator" → News h₀ env.locals h ((I, oI) :: n') →
      wpAny (model prog w) A (assign target env v) (fun _ s₂ => wpAny (model prog w) A (execs body env) (UnrPostW h₀ env.locals { s with heap := h, toks := tk } [(I, oI)] (fun m'' n'' => SubL keep n'' ∧ P (i + 1) m'' n'') Q) E s₂) E { s with heap := h, toks := tk })
    (hfin : ∀ m' n' h tk, P vs.length m' n' → Fr h₀ env.locals h m' → News h₀ env.locals h n' → Q .next { s with heap := h, toks := tk }) :
    ∀ (k i : Nat) m' n', i + k = vs.length → P i m' n' → ItemsRest prog w A E h₀ env target body Q s [(I, "list_iterator")] keep ((vs.drop i).map .val) m' n'
  | 0, i, m', n', e, hP => by
    rw [List.drop_of_length_le (by lia)]
    exact ItemsRest.zero fun h tk F N => hfin m' n' h tk (by rw [show vs.length = i by lia]; exact hP) F N
  | k + 1, i, m', n', e, hP => by
    have hi : i < vs.length := by lia
    rw [List.drop_eq_getElem_cons hi]
    refine ItemsRest.val fun h tk F => ?_
    refine fun oI hc N => ?_
    refine wpAny_mono (hstep i _ h tk m' n' oI (List.getElem?_eq_getElem hi) hP F hc N) (fun _ s₂ hw => ?_) fun _ _ x => x
    refine wpAny_mono hw (fun fl s₃ hp => ?_) fun _ _ x => x
    have up : ∀ s₃, UnrEndW h₀ env.locals { s with heap := h, toks := tk } [(I, oI)] (fun m'' n'' => SubL keep n'' ∧ P (i + 1) m'' n'') s₃ →
        UnrEndW h₀ env.locals { s with heap := h, toks := tk } [(I, oI)] (fun m'' n'' => SubL keep n'' ∧ ItemsRest prog w A E h₀ env target body Q s [(I, "list_iterator")] keep ((vs.drop (i + 1)).map .val) m'' n'') s₃ := by
      rintro s₃ ⟨h', tk', m'', n'', e1, e2, e3, e4, e5, e6⟩
      exact ⟨h', tk', m'', n'', e1, e2, e3, e4, e5, items_all vs hstep hfin k (i + 1) m'' n'' (by lia) e6⟩
    unfold UnrPostW at hp ⊢
    cases fl <;> first | exact hp | exact up _ hp
theorem compP_all {elt : PySem.Expr} {x x₂ : Str} {env : Env} {scope : Scope} {cl : List (Str × Addr)} {S : List (Addr × Obj) → Prop} {its : Array Value} {P : Nat → List Value → List (Addr × Obj) → Prop} {Fin : List Value → List (Addr × Obj) → Prop}
    (hstep : ∀ (i : Nat) v ys nw, its[i]? = some v → P i ys nw → ∃ (t : Addr) (ot : Obj) (v₁ v₂ : Value) (nt : Nat), v = .ref t ∧ (t, ot) ∈ nw ∧ ot.cls = .type "tuple" ∧ ot.data = .seq #[v₁, v₂] nt ∧
      ∀ I oI C oC D m₂ h tk (E' : Value → Shared → Prop), LCg.NsObj oC m₂ → m₂ x = some v₁ → m₂ x₂ = some v₂ → Fr h₀ L h m → News h₀ L h ((I, oI) :: (C, oC) :: (D, LCg.lst ys) :: nw) → LCg.Off3 I C D nw → ((@Ne Nat I C) ∧ (@Ne Nat I D) ∧ (@Ne Nat C D)) →
      wpAny (model prog w) A (eval elt (compEnvC scope cl C env)) (LCg.CompEnd h₀ L m { s with heap := h, toks := tk } I oI C oC D (LCg.lst ys) S (fun y nw' => P (i + 1) (ys ++ [y]) nw')) E' { s with heap := h, toks := tk })
    (hfin : ∀ ys nw, P its.size ys nw → Fin ys nw) : ∀ (k i : Nat) ys nw, i + k = its.size → P i ys nw → LCp.CompRestP prog w A h₀ L m env elt x x₂ scope cl s S (fun i v => its[i]? = some v) Fin k i ys nw
  | 0, i, ys, nw, e, hP => LCp.CompRestP.zero (hfin ys nw (by rw [show its.size = i by lia]; exact hP))
  | k + 1, i, ys, nw, e, hP => by
    refine LCp.CompRestP.succ fun v hv => ?_
    obtain ⟨t, ot, v₁, v₂, nt, a1, a2, a3, a4, a5⟩ := hstep i v ys nw hv hP
    refine ⟨t, ot, v₁, v₂, nt, a1, a2, a3, a4, fun I oI C oC D m₂ h tk E' b1 b2 b3 b4 b5 b6 b7 => ?_⟩
    refine wpAny_mono (a5 I oI C oC D m₂ h tk E' b1 b2 b3 b4 b5 b6 b7) (fun y s₂ hc => ?_) fun _ _ x => x
    obtain ⟨h', tk', nw', c1, c2, c3, c4, c5, c6⟩ := hc
    exact ⟨h', tk', nw', c1, c2, c3, c4, c5, compP_all hstep hfin k (i + 1) _ nw' (by lia) c6⟩
theorem drest_all {elt : PySem.Expr} {x : Str} {env : Env} {scope : Scope} {cl : List (Str × Addr)} {S : List (Addr × Obj) → Prop} {Pv : Nat → Value → Prop} {Fin : List (Str × Value) → List (Addr × Obj) → Shared → Prop} {n : Nat} {P : Nat → List (Str × Value) → List (Addr × Obj) → Shared → Prop}
    (hstep : ∀ (i : Nat) v kvs nw s, i < n → Pv i v → P i kvs nw s → ∀ I oI C oC D oD m₂ h tk (E' : Value → Shared → Prop), LCg.NsObj oC m₂ → m₂ x = some v → Fr h₀ L h m → News h₀ L h ((I, oI) :: (C, oC) :: (D, oD) :: nw) → LCg.Off3 I C D nw → ((@Ne Nat I C) ∧ (@Ne Nat I D) ∧ (@Ne Nat C D)) →
      ∃ key t, v = .str key t ∧ wpAny (model prog w) A (eval elt (compEnvC scope cl C env)) (CompEndG h₀ L m I oI C oC D oD S (fun y nw' s' => P (i + 1) (stored kvs key y) nw' s')) E' { s with heap := h, toks := tk })
    (hfin : ∀ kvs nw s, P n kvs nw s → Fin kvs nw s) : ∀ (k i : Nat) kvs nw s, i + k = n → P i kvs nw s → DRest prog w A h₀ L m env elt x scope cl S Pv Fin k i kvs nw s
  | 0, i, kvs, nw, s, e, hP => hfin kvs nw s (by rw [show n = i by lia]; exact hP)
  | k + 1, i, kvs, nw, s, e, hP => by
    intro v I oI C oC D oD m₂ h tk E' a1 a2 a3 a4 a5 a6 a7
    obtain ⟨key, t, e1, hw⟩ := hstep i v kvs nw s (by lia) a1 hP I oI C oC D oD m₂ h tk E' a2 a3 a4 a5 a6 a7
    refine ⟨key, t, e1, wpAny_mono hw (fun y s₂ hc => ?_) fun _ _ x => x⟩
    obtain ⟨nw', c1, c2, c3, c4, c5⟩ := hc
    exact ⟨nw', c1, c2, c3, c4, drest_all hstep hfin k (i + 1) _ nw' s₂ (by lia) c5⟩
end
end
section
open PySem PySem.Calls PyProof.Rows PySem.W PySem.Spec PyProof.Rows.LCg
section
variable {prog : Program} {w : World} {A : Around} {E : Value → Shared → Prop} {s : Shared} {env : Env} {h₀ : Heap} {L : Addr} {m : Str → Option Value}
inductive SrcFS (prog : Program) (w : World) (A : Around) (h₀ : Heap) (L : Addr) (env : Env) (x : Str) (body : List Stmt) (Q : Flow → Shared → Prop) (E : Value → Shared → Prop) : Value → Shared → Prop
  | mk {s₁ : Shared} (tx : Str) (t : Tok) (news : List (Addr × Obj)) (m : Str → Option Value) (hh : A.handled = none) (F : Fr h₀ L s₁.heap m) (N : News h₀ L s₁.heap news) (G : GoF prog w A h₀ L m env x body Q E tx.cps.size (SignAt tx) (fun _ => True) news s₁) : SrcFS prog w A h₀ L env x body Q E (.str tx t) s₁
theorem For_S {x : Str} {px pos : Pos} {iter : Expr} {body : List Stmt} {Q : Flow → Shared → Prop} (_F₀ : Fr h₀ L s.heap m) (hLe : env.locals = L)
    (hx : env.kindOf x = some .local) (hpk : (env.scope.kind == .class || (env.scope.kind == .module && env.locals != env.globals)) = false)
    (h : wpAny (model prog w) A (eval iter env) (SrcFS prog w A h₀ L env x body Q E) E s)
    (hs : ∀ x, foldedSetIterable iter env x = pure x := by intro _; rfl)
    (hE : PassesOwn (model prog w) A env E := by passes_own) :
    wpAny (model prog w) A (exec (.For (.Name x px) iter body [] pos) env) Q E s := by
  subst hLe
  refine wpAny_For (wpAny_mono h (fun xv s₁ h₁ => ?_) fun _ _ e => e) hs
  obtain ⟨tx, t, news, m, hh, F, N, G⟩ := h₁
  have go : ∀ (T : String) (o : Obj), Walks prog w A s₁.heap.objs.size [s₁.heap.objs.size] [s₁.heap.objs.size] tx.cps.size (SignAt tx) (fun i h => h.IsStrIter s₁.heap.objs.size T tx t i) →
      (s₁.heap.push o).IsStrIter s₁.heap.objs.size T tx t 0 → codeAny (model prog w) A (.forLoop (.Name x px) (.ref s₁.heap.objs.size) body [] env) (fun r s' => match r with | .ok f => Q f s' | .error e => cameBackBy (model prog w) A env E e s') { s₁ with heap := s₁.heap.push o } := by
    intro T o W hst
    have up : ∀ b o', s₁.heap.get? b = some o' → (s₁.heap.push o).get? b = some o' := fun b o' e => Heap.get?_push_of_some _ e
    refine fblock W (fun i h st => ?_) (fun i h h' o nw st e e' _ _ _ => ?_) hx hpk hst (fun hb => ?_) (F.keeps up) (N.grown up) (next_is_new F) (fun p hp => Nat.ne_of_lt (Heap.lt_size (N p hp).1)) trivial hE G
    · obtain ⟨o, e, _, d⟩ := st
      exact ⟨o, e, _, _, _, d, rfl⟩
    · obtain ⟨o2, e2, r⟩ := st
      rw [e] at e2
      obtain rfl := Option.some.inj e2
      exact ⟨_, e', r⟩
    · exact Nat.ne_of_lt F.ns.lt (List.mem_singleton.mp hb)
  cases ha : tx.cps.all (· < 128)
  · exact wpAny_pyIter_wide ha (go "str_iterator" _ (Walks.strWide hh _ tx t) ⟨_, Heap.get?_push_size _ rfl, rfl, rfl⟩)
  · exact wpAny_pyIter_ascii ha (go "str_ascii_iterator" _ (Walks.strAscii hh _ tx t) ⟨_, Heap.get?_push_size _ rfl, rfl, rfl⟩)
end
end
section
open PySem PySem.Calls PyProof.Rows PySem.W PySem.Spec
theorem bind_rest {K : Frag} {S : Setting} {n1 n2 : Str} {b : List Stmt} {sc : Scope} {p1 p2 : Pos} {doc pm cdv ct : Value} {an : Option Addr} {x : Value} {vs : List Value} (hz : vs.length ≤ sizeLine) :
  peek1 K S (bindArgs (fnOf n1 n2 { posonlyargs := [], args := [{ arg := Str.ofString "text", annotation := none, pos := p1 }], vararg := some { arg := Str.ofString "pairs", annotation := none, pos := p2 }, kwonlyargs := [], kw_defaults := [], kwarg := none, defaults := [] } b sc .none .none doc pm an cdv ct) ⟨x :: vs, []⟩) = some (({ cls := .type "tuple", data := .seq vs.toArray } : Obj), fun D => some [(Str.ofString "text", x), (Str.ofString "pairs", .ref D)]) := by
  have e : newTuple vs = newObjAsIs (.type "tuple") (.seq vs.toArray) := by
    unfold newTuple newObj
    have h : ¬ vs.toArray.size > sizeLine := by rw [List.size_toArray]; exact Nat.not_lt.mpr hz
    simp only [if_neg h]
  unfold bindArgs
  simp only [List.forIn_nil, pure_bind, Option.isNone_some, Bool.and_false, Bool.false_eq_true, if_false]
  simp only [List.map_nil, List.map_cons, List.nil_append, List.length_cons, List.length_nil, Nat.zero_add, List.drop_succ_cons, List.drop_zero, e]
  rfl
end
section
open PySem
def stripS (x : Str) (y : Str) : Str := catS (Txt.split x y)
def stripL (y : List Nat) : Nat → List Nat → List Nat
  | _, [] => []
  | 0, c :: r => if y.isPrefixOf (c :: r) then stripL y (y.length - 1) r else c :: stripL y 0 r
  | s + 1, _ :: r => stripL y s r
def occR (x y : List Nat) : Nat → Nat → Nat → List Nat
  | 0, _, _ => []
  | n + 1, i, free => if free ≤ i ∧ y.isPrefixOf (x.drop i) then i :: occR x y n (i + 1) (i + y.length) else occR x y n (i + 1) free
def between (x : List Nat) (w : Nat) : Nat → List Nat → List Nat
  | a, [] => x.drop a
  | a, c :: cs => (x.take c).drop a ++ between x w (c + w) cs
theorem between_strip (x y : List Nat) (hy : y ≠ []) : ∀ (n i a : Nat), n + i = x.length + 1 → a ≤ x.length → between x y.length a (occR x y n i a) = (x.take i).drop a ++ stripL y (a - i) (x.drop i)
  | 0, i, a, hn, ha => by
    rw [occR, between, List.take_of_length_le (by lia), List.drop_of_length_le (i := i) (by lia), stripL, List.append_nil]
  | n + 1, i, a, hn, ha => by
    have hw : 0 < y.length := List.length_pos_iff.mpr hy
    by_cases hi : i < x.length
    · have hd : x.drop i = x[i] :: x.drop (i + 1) := List.drop_eq_getElem_cons hi
      rw [occR]
      by_cases hm : a ≤ i ∧ y.isPrefixOf (x.drop i) = true
      · rw [if_pos hm, between]
        have hl : i + y.length ≤ x.length := by
          have h := (List.isPrefixOf_iff_prefix.mp hm.2).length_le
          rw [List.length_drop] at h; lia
        rw [between_strip x y hy n (i + 1) (i + y.length) (by lia) hl]
        have e1 : a - i = 0 := by lia
        have e2 : (x.take (i + 1)).drop (i + y.length) = [] := List.drop_of_length_le (by rw [List.length_take]; lia)
        have e3 : i + y.length - (i + 1) = y.length - 1 := by lia
        rw [e1, e2, e3, List.nil_append, hd, stripL, ← hd, if_pos hm.2]
      · rw [if_neg hm, between_strip x y hy n (i + 1) a (by lia) ha]
        by_cases hai : a ≤ i
        · have hnp : ¬ y.isPrefixOf (x.drop i) = true := fun h => hm ⟨hai, h⟩
          have e1 : a - i = 0 := by lia
          have e2 : a - (i + 1) = 0 := by lia
          have e4 : (x.take (i + 1)).drop a = (x.take i).drop a ++ [x[i]] := by
            rw [List.take_succ_eq_append_getElem hi, List.drop_append_of_le_length (by rw [List.length_take]; lia)]
          rw [e1, e2, e4, hd, stripL, ← hd, if_neg hnp, List.append_assoc]; rfl
        · have e2 : (x.take (i + 1)).drop a = [] := List.drop_of_length_le (by rw [List.length_take]; lia)
          have e3 : (x.take i).drop a = [] := List.drop_of_length_le (by rw [List.length_take]; lia)
          obtain ⟨b, hb⟩ : ∃ b, a - i = b + 1 := ⟨a - i - 1, by lia⟩
          have e5 : a - (i + 1) = b := by lia
          rw [e2, e3, hb, e5, hd, stripL]
    · have hn0 : n = 0 := by lia
      subst hn0
      have hnp : ¬ (a ≤ i ∧ y.isPrefixOf (x.drop i) = true) := by
        rw [List.drop_of_length_le (by lia)]
        rintro ⟨_, h⟩
        cases y with
        | nil => exact hy rfl
        | cons c r => cases h
      rw [occR, if_neg hnp, occR, between, List.take_of_length_le (by lia), List.drop_of_length_le (i := i) (by lia), stripL, List.append_nil]
theorem pre_iff {s y : Str} (hy : y.cps.toList ≠ []) (i : Nat) : (i + y.length ≤ s.length ∧ Builtin.Str.subAt s y i = true) ↔ y.cps.toList.isPrefixOf (s.cps.toList.drop i) = true := by
  have hyl : y.length = y.cps.toList.length := by show y.cps.size = _; simp
  have hsl : s.length = s.cps.toList.length := by show s.cps.size = _; simp
  have hw : 0 < y.cps.toList.length := List.length_pos_iff.mpr hy
  rw [List.isPrefixOf_iff_prefix, List.prefix_iff_eq_take]
  unfold Builtin.Str.subAt
  rw [beq_iff_eq]
  have e : s.cps.extract i (i + y.length) = y.cps ↔ y.cps.toList = (s.cps.toList.drop i).take y.cps.toList.length := by
    constructor
    · intro h
      have h2 := congrArg Array.toList h
      rw [Array.toList_extract] at h2
      rw [← h2]
      simp [List.extract, hyl]
    · intro h
      apply Array.ext'
      rw [Array.toList_extract, h]
      simp [List.extract, hyl]
  rw [e]
  constructor
  · exact fun h => h.2
  · intro h
    refine ⟨?_, h⟩
    have h2 := congrArg List.length h
    rw [List.length_take, List.length_drop] at h2
    lia
theorem occ_R {s y : Str} (hy : y.cps.toList ≠ []) (limit : Nat) : ∀ (n i : Nat) (found : Array Nat) (free : Nat), found.size + n ≤ limit →
    (forIn (List.range' i n) (found, free) (StrLaws.occBody s y s.length limit)).run.fst.toList = found.toList ++ occR s.cps.toList y.cps.toList n i free
  | 0, i, found, free, h => by simp [occR]
  | n + 1, i, found, free, h => by
    have hyl : y.length = y.cps.toList.length := by show y.cps.size = _; simp
    rw [List.range'_succ, List.forIn_cons, occR]
    unfold StrLaws.occBody
    by_cases hm : free ≤ i ∧ y.cps.toList.isPrefixOf (s.cps.toList.drop i) = true
    · have h2 := (pre_iff hy i).mpr hm.2
      rw [if_pos hm, if_pos ⟨⟨⟨by show found.size < limit; lia, hm.1⟩, h2.1⟩, h2.2⟩]
      have ih := occ_R (s := s) hy limit n (i + 1) (found.push i) (i + y.length) (by rw [Array.size_push]; lia)
      refine Eq.trans ih ?_
      rw [Array.toList_push, hyl, List.append_assoc]; rfl
    · have h2 : ¬ (((found.size < limit ∧ free ≤ i) ∧ i + y.length ≤ s.length) ∧ Builtin.Str.subAt s y i = true) := fun q => hm ⟨q.1.1.2, (pre_iff hy i).mp ⟨q.1.2, q.2⟩⟩
      rw [if_neg hm, if_neg h2]
      exact occ_R (s := s) hy limit n (i + 1) found free (by lia)
theorem cat_list (l : List Str) : (catS l).cps.toList = (l.map fun x => x.cps.toList).flatten := by
  induction l with
  | nil => rw [catS]; simp [cps_nil]
  | cons x r ih => rw [catS, cps_app, Array.toList_append, ih]; rfl
theorem parts_between (s : Str) (w : Nat) : ∀ (cuts : List Nat) (a : Nat), (catS (((a :: cuts.map (· + w)).zip (cuts ++ [s.length])).map fun p => Builtin.Str.strSub s p.1 p.2)).cps.toList = between s.cps.toList w a cuts
  | [], a => by
    have hsl : s.length = s.cps.toList.length := by show s.cps.size = _; simp
    rw [cat_list]
    simp [between, Builtin.Str.strSub, List.extract, hsl]
    exact List.take_of_length_le (by rw [List.length_drop]; simp)
  | c :: cs, a => by
    have ih := parts_between s w cs (c + w)
    rw [cat_list] at ih ⊢
    simp only [List.map_cons, List.cons_append, List.zip_cons_cons, List.flatten_cons] at ih ⊢
    rw [between, ← ih]
    congr 1
    simp only [Builtin.Str.strSub, Array.toList_extract, List.extract]
    rw [List.drop_take]
theorem strip_split {x y : Str} (hy : y.cps.toList ≠ []) (hk : Builtin.Str.strKind y = 1) : (stripS x y).cps.toList = stripL y.cps.toList 0 x.cps.toList := by
  have hyl : y.length = y.cps.toList.length := by show y.cps.size = _; simp
  have hxl : x.length = x.cps.toList.length := by show x.cps.size = _; simp
  have hocc : Builtin.Str.occurrences x y 0 x.length (x.length + 1) = occR x.cps.toList y.cps.toList (x.length + 1) 0 0 := by
    rw [StrLaws.occ_eq]
    have h := occ_R (s := x) hy (x.length + 1) (x.length + 1) 0 #[] 0 (by simp)
    simpa using h
  have hb := between_strip x.cps.toList y.cps.toList hy (x.length + 1) 0 0 (by lia) (Nat.zero_le _)
  rw [List.take_zero, List.drop_nil, List.nil_append, Nat.sub_self, List.drop_zero] at hb
  rw [← hb, ← hocc]
  unfold stripS Txt.split
  have one : (catS [x]).cps.toList = x.cps.toList := by rw [cat_list]; simp
  split
  · rename_i h
    have hlt : x.length < y.length := by
      rcases Bool.or_eq_true_iff.mp h with h | h
      · exact of_decide_eq_true h
      · have := of_decide_eq_true h
        rw [hk] at this
        unfold Builtin.Str.strKind at this
        split at this
        · lia
        · split at this <;> lia
    have hno : Builtin.Str.occurrences x y 0 x.length (x.length + 1) = [] := by
      rw [hocc]
      have : ∀ n i f, occR x.cps.toList y.cps.toList n i f = [] := by
        intro n
        induction n with
        | zero => intro i f; rfl
        | succ n ih =>
          intro i f
          rw [occR, if_neg, ih]
          rintro ⟨_, hp⟩
          have := (List.isPrefixOf_iff_prefix.mp hp).length_le
          rw [List.length_drop] at this
          lia
      exact this _ _ _
    rw [hno, between, List.drop_zero, one]
  · split
    · rename_i h2
      have hno : Builtin.Str.occurrences x y 0 x.length (x.length + 1) = [] := List.isEmpty_iff.mp h2
      rw [hno, between, List.drop_zero, one]
    · have h3 := parts_between x y.length (Builtin.Str.occurrences x y 0 x.length (x.length + 1)) 0
      rw [← hyl]
      exact h3
def piecesL (x : List Nat) (w : Nat) : Nat → List Nat → List (List Nat)
  | a, [] => [x.drop a]
  | a, c :: cs => (x.take c).drop a :: piecesL x w (c + w) cs
def splitA (c : Nat) : List Nat → List Nat → List (List Nat)
  | acc, [] => [acc]
  | acc, d :: r => if d = c then acc :: splitA c [] r else splitA c (acc ++ [d]) r
theorem pieces_split (x : List Nat) (c : Nat) : ∀ (n i a : Nat), n + i = x.length + 1 → a ≤ i → i ≤ x.length → piecesL x 1 a (occR x [c] n i a) = splitA c ((x.take i).drop a) (x.drop i)
  | 0, i, a, hn, _, hi => by lia
  | n + 1, i, a, hn, ha, hi => by
    by_cases hlt : i < x.length
    · have hd : x.drop i = x[i] :: x.drop (i + 1) := List.drop_eq_getElem_cons hlt
      have ht : (x.take (i + 1)).drop a = (x.take i).drop a ++ [x[i]] := by
        rw [List.take_succ_eq_append_getElem hlt, List.drop_append_of_le_length (by rw [List.length_take]; lia)]
      rw [occR, hd]
      by_cases hc : x[i] = c
      · rw [if_pos ⟨ha, by simp [List.isPrefixOf, hc]⟩, piecesL, splitA, if_pos hc]
        have h := pieces_split x c n (i + 1) (i + 1) (by lia) (Nat.le_refl _) hlt
        rw [List.drop_of_length_le (by rw [List.length_take]; lia)] at h
        rw [show [c].length = 1 from rfl, h]
      · rw [if_neg (by rintro ⟨_, h⟩; simp [List.isPrefixOf] at h; exact hc h.symm), splitA, if_neg hc, ← ht]
        exact pieces_split x c n (i + 1) a (by lia) (by lia) hlt
    · have hil : i = x.length := by lia
      have hn0 : n = 0 := by lia
      subst hn0
      rw [occR, if_neg (by rw [hil, List.drop_length]; rintro ⟨_, h⟩; cases h), occR, piecesL, hil, List.drop_length, splitA, List.take_length]
theorem parts_pieces (s : Str) (w : Nat) : ∀ (cuts : List Nat) (a : Nat), (((a :: cuts.map (· + w)).zip (cuts ++ [s.length])).map fun p => (Builtin.Str.strSub s p.1 p.2).cps.toList) = piecesL s.cps.toList w a cuts
  | [], a => by
    have hsl : s.length = s.cps.toList.length := by show s.cps.size = _; simp
    simp [piecesL, Builtin.Str.strSub, List.extract, hsl]
    exact List.take_of_length_le (by rw [List.length_drop]; simp)
  | c :: cs, a => by
    have ih := parts_pieces s w cs (c + w)
    simp only [List.map_cons, List.cons_append, List.zip_cons_cons] at ih ⊢
    rw [piecesL, ← ih]
    congr 1
    simp only [Builtin.Str.strSub, Array.toList_extract, List.extract]
    rw [List.drop_take]
theorem splitA_none {c : Nat} : ∀ (l acc : List Nat), c ∉ l → splitA c acc l = [acc ++ l]
  | [], acc, _ => by rw [splitA, List.append_nil]
  | d :: r, acc, h => by
    have hd : d ≠ c := fun e => h (by rw [e]; exact .head _)
    rw [splitA, if_neg hd, splitA_none r _ fun q => h (.tail _ q), List.append_assoc]; rfl
theorem split_one {x y : Str} {c : Nat} (hy : y.cps = #[c]) (hk : Builtin.Str.strKind y = 1) : (Txt.split x y).map (fun p => p.cps.toList) = splitA c [] x.cps.toList := by
  have hyl : y.cps.toList = [c] := by rw [hy]
  have hyn : y.length = 1 := by show y.cps.size = 1; rw [hy]; rfl
  have hxl : x.length = x.cps.toList.length := by show x.cps.size = _; simp
  have hocc : Builtin.Str.occurrences x y 0 x.length (x.length + 1) = occR x.cps.toList y.cps.toList (x.length + 1) 0 0 := by
    rw [StrLaws.occ_eq]
    have h := occ_R (s := x) (y := y) (by rw [hyl]; exact List.cons_ne_nil _ _) (x.length + 1) (x.length + 1) 0 #[] 0 (by simp)
    simpa using h
  have hb := pieces_split x.cps.toList c (x.length + 1) 0 0 (by lia) (Nat.le_refl _) (Nat.zero_le _)
  rw [List.take_zero, List.drop_nil, List.drop_zero, ← hyl, ← hocc] at hb
  rw [← hb]
  unfold Txt.split
  split
  · rename_i h
    have hlt : x.length < y.length := by
      rcases Bool.or_eq_true_iff.mp h with h | h
      · exact of_decide_eq_true h
      · have := of_decide_eq_true h
        rw [hk] at this
        unfold Builtin.Str.strKind at this
        split at this
        · lia
        · split at this <;> lia
    have hx0 : x.cps.toList = [] := List.eq_nil_of_length_eq_zero (by lia)
    have hno : Builtin.Str.occurrences x y 0 x.length (x.length + 1) = [] := by
      rw [hocc, hxl, hx0, hyl]
      rfl
    rw [hno, piecesL, List.drop_zero]; rfl
  · split
    · rename_i h2
      rw [List.isEmpty_iff.mp h2, piecesL, List.drop_zero]; rfl
    · have h3 := parts_pieces x y.length (Builtin.Str.occurrences x y 0 x.length (x.length + 1)) 0
      rw [hyn] at h3 ⊢
      rw [← h3, Builtin.Str.partsBetween, List.map_map]
      rfl
theorem strip_skip (y : List Nat) : ∀ (u v : List Nat), stripL y u.length (u ++ v) = stripL y 0 v
  | [], v => rfl
  | c :: u, v => by rw [List.length_cons, List.cons_append, stripL, strip_skip y u v]
theorem strip_hit (c : Nat) (p v : List Nat) : stripL (c :: p) 0 (c :: p ++ v) = stripL (c :: p) 0 v := by
  rw [List.cons_append, stripL, if_pos (by simp [List.isPrefixOf]), List.length_cons, Nat.add_sub_cancel, strip_skip]
theorem strip_pass (c : Nat) (p : List Nat) : ∀ (u v : List Nat), (∀ d ∈ u, d ≠ c) → stripL (c :: p) 0 (u ++ v) = u ++ stripL (c :: p) 0 v
  | [], v, _ => rfl
  | d :: u, v, h => by
    have hc := h d (.head _)
    rw [List.cons_append, stripL, if_neg (by simp [List.isPrefixOf, Ne.symm hc]), strip_pass c p u v fun e he => h e (.tail _ he), List.cons_append]
theorem strip_nil (y : List Nat) : stripL y 0 [] = [] := rfl
end
section
open PySem PySem.Calls PyProof.Rows PySem.W PySem.Spec
section
variable {prog : Program} {w : World} {A : Around} {E : Value → Shared → Prop} {s : Shared} {h₀ : Heap} {L : Addr} {m : Str → Option Value} {env : Env}
theorem storeN_cell {y : Str} {v : Value} {Q : Unit → Shared → Prop} {cc : Addr} {oc : Obj} {v₀ : Option Value} {pre post : List (Addr × Obj)} (F' : Fr h₀ L s.heap m) (N' : News h₀ L s.heap (pre ++ (cc, oc) :: post))
    (hk : env.scope.kind = .function) (hy : env.kindOf y = some .cell) (hc : env.cells.lookup y = some cc) (hoc : oc.data = .cell v₀) (o1 : ∀ p ∈ pre, p.1 ≠ cc) (o2 : ∀ p ∈ post, p.1 ≠ cc)
    (fin : ∀ h₂ oc', oc'.data = .cell (some v) → Fr h₀ L h₂ m → News h₀ L h₂ (pre ++ (cc, oc') :: post) → Q () { s with heap := h₂ }) :
    wpAny (model prog w) A (storeName env y v) Q E s := by
  have z := N' _ (List.mem_append_right _ (.head _))
  refine wpAny_storeName_cell hk hy hc ⟨_, z.1, hoc⟩ fun h₂ hce₂ hs₂ => ?_
  obtain ⟨oc', heo, hdo⟩ := hce₂
  refine fin h₂ oc' hdo (F'.change hs₂ z.2.1 z.2.2) (fun p hp => ?_)
  rcases List.mem_append.mp hp with hp | hp
  · have q := N' p (List.mem_append_left _ hp)
    exact ⟨hs₂.extBut _ _ (o1 p hp) q.1, q.2⟩
  · rcases List.mem_cons.mp hp with rfl | hp
    · exact ⟨heo, z.2⟩
    · have q := N' p (List.mem_append_right _ (.tail _ hp))
      exact ⟨hs₂.extBut _ _ (o2 p hp) q.1, q.2⟩
end
end
section
open PySem PySem.Calls PyProof.Rows PySem.W PySem.Spec
theorem updF_mid {a : Addr} {o : Obj} {tl rest : List (Addr × Obj)} (h1 : ∀ p ∈ tl, p.1 ≠ a) (h2 : ∀ p ∈ rest, p.1 ≠ a) : UpdF a o (tl ++ (a, o) :: rest) (fun o' => tl ++ (a, o') :: rest) := by
  induction tl with
  | nil => exact UpdF.head h2
  | cons p tl ih => exact UpdF.tail (h1 p (.head _)) (ih fun q hq => h1 q (.tail _ hq))
theorem relaid_one (t : SetTable) (h : Int) : ∃ i, i < 16 ∧ t.relaid #[h] 14 = some ({ mask := 15, place := #[i], dummies := #[], finger := t.finger, led := t.led, moves := t.movedTo 15, plain := t.plain }, #[0]) := by
  have hs : SetTable.sizeAbove 14 = 16 := by decide +kernel
  have hlt : SetTable.bits h % 16 < 16 := Nat.mod_lt _ (by decide)
  refine ⟨SetTable.bits h % 16, hlt, ?_⟩
  unfold SetTable.relaid
  rw [hs]
  show SetTable.laid 15 _ _ _ _ _ = _
  unfold SetTable.laid SetTable.layClean
  have key : ∀ i, i < 16 → ∀ p, SetTable.layClean.free 15 (Array.replicate (15 + 1) none) (SetTable.turns 15) i p = some i := by
    intro i hi p
    show SetTable.layClean.free 15 _ (29 + 1) i p = _
    unfold SetTable.layClean.free
    have hf : (List.range (SetTable.runEnd 15 i + 1 - i)).find? (fun k => ((Array.replicate (15 + 1) (none : Option Nat)).getD (i + k) (some 0)).isNone) = some 0 := by
      revert i
      decide +kernel
    rw [hf]
    rfl
  have live : ∀ i, i < 16 → (List.range (15 + 1)).filterMap (fun j => Option.map (fun x => (j, x)) (((Array.replicate (15 + 1) (none : Option Nat)).setIfInBounds i (some 0)).getD j none)) = [(i, 0)] := by decide +kernel
  simp only [List.foldl_toArray', List.foldl_cons, List.foldl_nil, Option.bind_eq_bind, Option.bind_some, Option.pure_def]
  rw [key _ hlt]
  simp only [Option.bind_some, Option.map_some]
  rw [live _ hlt]
  rfl
section
variable {prog : Program} {w : World} {A : Around} {E : Value → Shared → Prop} {s : Shared} {h₀ : Heap} {L : Addr} {m : Str → Option Value} {news : List (Addr × Obj)} {g : Obj → List (Addr × Obj)}
theorem room_one {D : Addr} {x : Str} {tx : Tok} {t : SetTable} {Q : Unit → Shared → Prop} (F : Fr h₀ L s.heap m) (N : News h₀ L s.heap news) (U : UpdF D (oneSet ((strKind prog w).hash x) (.str x tx) t) news g) (ht : LowT (ledOf w) t)
    (h : ∀ h' o', Fr h₀ L h' m → News h₀ L h' (g o') → TSet prog w o' [(x, tx)] → Q () { s with heap := h' }) :
    wpAny (model prog w) A (setRoomFor D 6) Q E s := by
  obtain ⟨pre, post, rfl, hg, a, b⟩ := U.split
  have hm := N (D, _) (List.mem_append_right _ (.head _))
  have ho := hm.1
  obtain ⟨t1, t2, t3, t4, t5⟩ := ht
  have hps : t.place.size = 1 := by
    have q := t3
    simp only [SetTable.fits, Bool.and_eq_true, beq_iff_eq] at q
    exact q.1
  unfold setRoomFor
  refine wpAny_bind (wpAny_setState_of ho rfl t3 ?_)
  dsimp only
  have hr : t.roomFor 6 = some 14 := by
    unfold SetTable.roomFor
    rw [t1, t2, hps]
    rfl
  rw [hr]
  dsimp only
  unfold setRelay
  refine wpAny_bind (wpAny_setState_of ho rfl t3 ?_)
  dsimp only
  rw [if_neg (by decide +kernel)]
  obtain ⟨i, hi, e⟩ := relaid_one t ((strKind prog w).hash x)
  have e2 : (#[((strKind prog w).hash x, (Value.str x tx))] : Array (Int × Value)).map (·.1) = #[(strKind prog w).hash x] := by simp
  rw [e2, e]
  refine wpAny_bind (wpAny_pure ?_)
  have e3 : Array.filterMap (fun k => (#[((strKind prog w).hash x, (Value.str x tx))] : Array (Int × Value))[k]?) #[0] = #[((strKind prog w).hash x, Value.str x tx)] := by simp
  dsimp only
  rw [e3]
  have g1 : (s.heap.update D (Obj.putSet #[((strKind prog w).hash x, Value.str x tx)] { mask := 15, place := #[i], dummies := #[], finger := t.finger, led := t.led, moves := t.movedTo 15, plain := t.plain })).get? D =
      some { cls := .type "set", dict := none, data := .set #[((strKind prog w).hash x, Value.str x tx)] (1 + 1) { mask := 15, place := #[i], dummies := #[], finger := t.finger, led := t.led, moves := t.movedTo 15, plain := t.plain } } := by
    have q := Heap.get?_update_self (Obj.putSet #[((strKind prog w).hash x, Value.str x tx)] { mask := 15, place := #[i], dummies := #[], finger := t.finger, led := t.led, moves := t.movedTo 15, plain := t.plain }) ho (by rw [putSet_of (ep := 1) _ _ rfl]; rfl)
    rw [putSet_of (ep := 1) _ _ rfl] at q
    exact q
  have sb1 := Heap.SameBut.update s.heap D (Obj.putSet #[((strKind prog w).hash x, Value.str x tx)] { mask := 15, place := #[i], dummies := #[], finger := t.finger, led := t.led, moves := t.movedTo 15, plain := t.plain })
  refine wpAny_storeSet_of ho rfl ?_ (by rw [sizeLine_eq]; simp)
  have hT : TSet prog w { cls := .type "set", dict := none, data := .set #[((strKind prog w).hash x, Value.str x tx)] (1 + 1) { mask := 15, place := #[i], dummies := #[], finger := t.finger, led := t.led, moves := t.movedTo 15, plain := t.plain } } [(x, tx)] :=
    ⟨#[((strKind prog w).hash x, Value.str x tx)], 1 + 1, { mask := 15, place := #[i], dummies := #[], finger := t.finger, led := t.led, moves := t.movedTo 15, plain := t.plain }, rfl, rfl, t4, t5, .rfl, by simp⟩
  exact h _ _ (F.change sb1 hm.2.1 hm.2.2) (hg _ ▸ N.setIn a b sb1 g1) hT
theorem get_nth {kvs : List (Str × Value)} {es : Array DictEntry} (hp : Pairs (strKind prog w) es.toList kvs) (hk : KeysOf (strKind prog w) es) {i : Nat} (hi : i < kvs.length) : ∃ e t, es[i]? = some e ∧ e.key = .str kvs[i].1 t ∧ e.hash = (strKind prog w).hash kvs[i].1 := by
  have hsz : es.toList.length = kvs.length := hp.length
  have hi' : i < es.size := by rw [← hsz] at hi; simpa using hi
  have he : es[i]? = some es[i] := Array.getElem?_eq_getElem hi'
  have hel : es.toList[i]? = some es[i] := by rw [Array.getElem?_toList]; exact he
  have q := (hp.get? (i := i) (e := es[i]) (k := kvs[i].1) (v := kvs[i].2) hel (by rw [List.getElem?_eq_getElem hi])).1
  obtain ⟨t, ht⟩ := str_of_is q
  obtain ⟨k', hk', hh⟩ := hk es[i] (by simp)
  exact ⟨_, t, he, ht, by rw [hh, (strKind prog w).inj _ _ _ hk' q]⟩
set_option maxHeartbeats 2000000 in
theorem star6T {D at_ : Addr} {oA : Obj} {x : Str} {tx : Tok} {kvs : List (Str × Value)} {t : SetTable} {Q : Unit → Shared → Prop} (F : Fr h₀ L s.heap m) (N : News h₀ L s.heap news) (hh : A.handled = none)
    (hA : (at_, oA) ∈ news) (hd : oA.IsDictOf (strKind prog w) kvs) (h6 : kvs.length = 6) (hsm : (at_ == sysModules) = false) (hne : at_ ≠ D) (hxk : x ∉ kvs.map (·.1))
    (U : UpdF D (oneSet ((strKind prog w).hash x) (.str x tx) t) news g) (ht : LowT (ledOf w) t)
    (h : ∀ h' so' tk' zs, Fr h₀ L h' m → News h₀ L h' (g so') → TSet prog w so' zs → zs.map (·.1) = (kvs.map (·.1)).reverse ++ [x] → Q () { s with heap := h', toks := tk' }) :
    wpAny (model prog w) A (setDisplayStar D (.ref at_)) Q E s := by
  have hd' := hd
  obtain ⟨es, ep, hx, hdd, hkk, hp, hnn⟩ := hd'
  have hc : oA.cls = .type "dict" := hx.1
  have ho := N.get hA
  have hT : s.TypeIs (.ref at_) "dict" := ⟨_, ho, hc⟩
  have U' := U
  obtain ⟨pre, post, rfl, hg, a, b⟩ := U'.split
  have hm := N (D, _) (List.mem_append_right _ (.head _))
  have hso := tset_one (prog := prog) (w := w) (x := x) (tx := tx) ht
  have hes : es.size = 6 := by have := hp.length; rw [h6] at this; simpa using this
  have UU : ∀ o', UpdF D o' (g o') g := fun o' => by rw [hg]; rw [show g = fun o' => pre ++ (D, o') :: post from funext hg]; exact updF_mid a b
  have inA : ∀ o', (at_, oA) ∈ g o' := fun o' => by
    rw [hg]
    rcases List.mem_append.mp hA with q | q
    · exact List.mem_append_left _ q
    · rcases List.mem_cons.mp q with q | q
      · exact absurd (congrArg Prod.fst q) hne
      · exact List.mem_append_right _ (.tail _ q)
  have hndk : ∀ i (hi : i < kvs.length), kvs[i].1 ∉ ((kvs.take i).map (·.1)).reverse ++ [x] := fun i hi hm => by
    rcases List.mem_append.mp hm with q | q
    · rw [List.mem_reverse] at q
      obtain ⟨p, hp', e⟩ := List.mem_map.mp q
      obtain ⟨j, hj, e2⟩ := List.mem_take_iff_getElem.mp hp'
      have hj' : j < kvs.length := by omega
      have hji : j < i := by omega
      have q1 : (kvs.map (·.1))[j]? = (kvs.map (·.1))[i]? := by
        rw [List.getElem?_map, List.getElem?_map, List.getElem?_eq_getElem hj', List.getElem?_eq_getElem hi]
        simp only [Option.map_some]
        rw [e2, e]
      exact absurd ((List.getElem?_inj (by simpa using hj') hnn).mp q1) (by omega)
    · rw [List.mem_singleton] at q
      exact hxk (q ▸ List.mem_map_of_mem (List.getElem_mem hi))
  have tk1 : ∀ i (hi : i < kvs.length), ((kvs.take (i + 1)).map (·.1)).reverse ++ [x] = kvs[i].1 :: (((kvs.take i).map (·.1)).reverse ++ [x]) := fun i hi => by
    rw [List.take_succ_eq_append_getElem hi, List.map_append, List.reverse_append]; rfl
  unfold setDisplayStar
  dsimp only
  refine wpAny_bind (wpAny_isInstance hT sub_dict_set ?_)
  simp only [Bool.false_eq_true, if_false]
  refine wpAny_bind (wpAny_isInstance hT sub_dict_fset ?_)
  refine wpAny_bind (wpAny_askSetting ?_)
  cases hb : (w.params.followText "set-display-star-reads-storage")
  · rw [if_neg (by rw [show ({ program := (model prog w).prog, params := (model prog w).w.params } : Setting).params = w.params from rfl, hb]; exact Bool.false_ne_true)]
    dsimp only
    rw [if_neg Bool.false_ne_true]
    refine wpAny_bind (wpAny_typeOf hT ?_)
    rw [if_pos (by decide)]
    refine wpAny_bind (wpAny_rule ?_)
    rw [if_neg (by rw [hsm]; exact Bool.false_ne_true)]
    refine wpAny_bind (wpAny_dictEpoch ho hdd ?_)
    refine wpAny_bind (wpAny_dictEntries ho hdd ?_)
    rw [hes]
    refine wpAny_bind (m := setRoomFor D 6) (room_one F N U ht fun g0 so0 F0 N0 hs0 => ?_)
    rw [Std.Legacy.Range.forIn_eq_forIn_range']
    have hr : ([:6] : Std.Legacy.Range).size = 6 := by simp [Std.Legacy.Range.size]
    rw [hr]
    show wpAny _ _ (forIn [0, 1, 2, 3, 4, 5] _ _ >>= _) _ _ _
    have hz0 : ([(x, tx)] : List (Str × Tok)).map (·.1) = ((kvs.take 0).map (·.1)).reverse ++ [x] := rfl
    obtain ⟨e0, u0, ge0, ek0, eh0⟩ := get_nth hp hkk (i := 0) (by omega)
    rw [List.forIn_cons]
    refine wpAny_bind (wpAny_bind (wpAny_bind (wpAny_dictEntries (N0.get (inA _)) hdd ?_)))
    rw [ge0]
    dsimp only
    show wpAny _ _ (holding [e0.key] (setAddHashed D e0.key e0.hash >>= fun _ => pure PUnit.unit) >>= _) _ _ _
    rw [ek0, eh0]
    refine wpAny_bind (wpAny_holding (wpAny_bind ?_))
    refine tset_addHashed F0 N0 (UU _) hs0 (by rw [hz0]; exact hndk 0 (by omega)) (by simp) fun g1 so1 F1 N1 hs1 => ?_
    have hz1 : ((kvs[0].1, u0) :: [(x, tx)]).map (·.1) = ((kvs.take (0 + 1)).map (·.1)).reverse ++ [x] := (congrArg (kvs[0].1 :: ·) hz0).trans (tk1 0 (by omega)).symm
    refine wpAny_pure ?_
    refine wpAny_bind (wpAny_dictEpoch (N1.get (inA _)) hdd ?_)
    rw [if_neg (by simp)]
    refine wpAny_pure ?_
    dsimp only
    obtain ⟨e1, u1, ge1, ek1, eh1⟩ := get_nth hp hkk (i := 1) (by omega)
    rw [List.forIn_cons]
    refine wpAny_bind ((wpAny_bind (wpAny_dictEntries (N1.get (inA _)) hdd ?_)))
    rw [ge1]
    dsimp only
    show wpAny _ _ (holding [e1.key] (setAddHashed D e1.key e1.hash >>= fun _ => pure PUnit.unit) >>= _) _ _ _
    rw [ek1, eh1]
    refine wpAny_bind (wpAny_holding (wpAny_bind ?_))
    refine tset_addHashed F1 N1 (UU _) hs1 (by rw [hz1]; exact hndk 1 (by omega)) (by have := congrArg List.length hz1; simp only [List.length_map, List.length_append, List.length_reverse, List.length_take, List.length_singleton] at this; omega) fun g2 so2 F2 N2 hs2 => ?_
    have hz2 : ((kvs[1].1, u1) :: _).map (·.1) = ((kvs.take (1 + 1)).map (·.1)).reverse ++ [x] := (congrArg (kvs[1].1 :: ·) hz1).trans (tk1 1 (by omega)).symm
    refine wpAny_pure ?_
    refine wpAny_bind (wpAny_dictEpoch (N2.get (inA _)) hdd ?_)
    rw [if_neg (by simp)]
    refine wpAny_pure ?_
    dsimp only
    obtain ⟨e2, u2, ge2, ek2, eh2⟩ := get_nth hp hkk (i := 2) (by omega)
    rw [List.forIn_cons]
    refine wpAny_bind ((wpAny_bind (wpAny_dictEntries (N2.get (inA _)) hdd ?_)))
    rw [ge2]
    dsimp only
    show wpAny _ _ (holding [e2.key] (setAddHashed D e2.key e2.hash >>= fun _ => pure PUnit.unit) >>= _) _ _ _
    rw [ek2, eh2]
    refine wpAny_bind (wpAny_holding (wpAny_bind ?_))
    refine tset_addHashed F2 N2 (UU _) hs2 (by rw [hz2]; exact hndk 2 (by omega)) (by have := congrArg List.length hz2; simp only [List.length_map, List.length_append, List.length_reverse, List.length_take, List.length_singleton] at this; omega) fun g3 so3 F3 N3 hs3 => ?_
    have hz3 : ((kvs[2].1, u2) :: _).map (·.1) = ((kvs.take (2 + 1)).map (·.1)).reverse ++ [x] := (congrArg (kvs[2].1 :: ·) hz2).trans (tk1 2 (by omega)).symm
    refine wpAny_pure ?_
    refine wpAny_bind (wpAny_dictEpoch (N3.get (inA _)) hdd ?_)
    rw [if_neg (by simp)]
    refine wpAny_pure ?_
    dsimp only
    obtain ⟨e3, u3, ge3, ek3, eh3⟩ := get_nth hp hkk (i := 3) (by omega)
    rw [List.forIn_cons]
    refine wpAny_bind ((wpAny_bind (wpAny_dictEntries (N3.get (inA _)) hdd ?_)))
    rw [ge3]
    dsimp only
    show wpAny _ _ (holding [e3.key] (setAddHashed D e3.key e3.hash >>= fun _ => pure PUnit.unit) >>= _) _ _ _
    rw [ek3, eh3]
    refine wpAny_bind (wpAny_holding (wpAny_bind ?_))
    refine tset_addHashed F3 N3 (UU _) hs3 (by rw [hz3]; exact hndk 3 (by omega)) (by have := congrArg List.length hz3; simp only [List.length_map, List.length_append, List.length_reverse, List.length_take, List.length_singleton] at this; omega) fun g4 so4 F4 N4 hs4 => ?_
    have hz4 : ((kvs[3].1, u3) :: _).map (·.1) = ((kvs.take (3 + 1)).map (·.1)).reverse ++ [x] := (congrArg (kvs[3].1 :: ·) hz3).trans (tk1 3 (by omega)).symm
    refine wpAny_pure ?_
    refine wpAny_bind (wpAny_dictEpoch (N4.get (inA _)) hdd ?_)
    rw [if_neg (by simp)]
    refine wpAny_pure ?_
    dsimp only
    obtain ⟨e4, u4, ge4, ek4, eh4⟩ := get_nth hp hkk (i := 4) (by omega)
    rw [List.forIn_cons]
    refine wpAny_bind ((wpAny_bind (wpAny_dictEntries (N4.get (inA _)) hdd ?_)))
    rw [ge4]
    dsimp only
    show wpAny _ _ (holding [e4.key] (setAddHashed D e4.key e4.hash >>= fun _ => pure PUnit.unit) >>= _) _ _ _
    rw [ek4, eh4]
    refine wpAny_bind (wpAny_holding (wpAny_bind ?_))
    refine tset_addHashed F4 N4 (UU _) hs4 (by rw [hz4]; exact hndk 4 (by omega)) (by have := congrArg List.length hz4; simp only [List.length_map, List.length_append, List.length_reverse, List.length_take, List.length_singleton] at this; omega) fun g5 so5 F5 N5 hs5 => ?_
    have hz5 : ((kvs[4].1, u4) :: _).map (·.1) = ((kvs.take (4 + 1)).map (·.1)).reverse ++ [x] := (congrArg (kvs[4].1 :: ·) hz4).trans (tk1 4 (by omega)).symm
    refine wpAny_pure ?_
    refine wpAny_bind (wpAny_dictEpoch (N5.get (inA _)) hdd ?_)
    rw [if_neg (by simp)]
    refine wpAny_pure ?_
    dsimp only
    obtain ⟨e5, u5, ge5, ek5, eh5⟩ := get_nth hp hkk (i := 5) (by omega)
    rw [List.forIn_cons]
    refine wpAny_bind ((wpAny_bind (wpAny_dictEntries (N5.get (inA _)) hdd ?_)))
    rw [ge5]
    dsimp only
    show wpAny _ _ (holding [e5.key] (setAddHashed D e5.key e5.hash >>= fun _ => pure PUnit.unit) >>= _) _ _ _
    rw [ek5, eh5]
    refine wpAny_bind (wpAny_holding (wpAny_bind ?_))
    refine tset_addHashed F5 N5 (UU _) hs5 (by rw [hz5]; exact hndk 5 (by omega)) (by have := congrArg List.length hz5; simp only [List.length_map, List.length_append, List.length_reverse, List.length_take, List.length_singleton] at this; omega) fun g6 so6 F6 N6 hs6 => ?_
    have hz6 : ((kvs[5].1, u5) :: _).map (·.1) = ((kvs.take (5 + 1)).map (·.1)).reverse ++ [x] := (congrArg (kvs[5].1 :: ·) hz5).trans (tk1 5 (by omega)).symm
    refine wpAny_pure ?_
    refine wpAny_bind (wpAny_dictEpoch (N6.get (inA _)) hdd ?_)
    rw [if_neg (by simp)]
    refine wpAny_pure ?_
    dsimp only
    rw [List.forIn_nil]
    refine wpAny_pure (wpAny_pure ?_)
    refine h _ _ _ _ F6 N6 hs6 ?_
    rw [hz6, List.take_of_length_le (by omega)]
  · rw [if_pos (by exact hb)]
    obtain ⟨ep, hmm⟩ := dictAt_of ho hd
    obtain ⟨om, em, e1, e2, e3, e4, e5, e6⟩ := id hmm
    rw [ho] at e1
    cases e1
    have nI : ∀ p ∈ pre ++ (D, oneSet ((strKind prog w).hash x) (.str x tx) t) :: post, p.1 ≠ s.heap.objs.size := fun p hp => Nat.ne_of_lt (Heap.lt_size (N p hp).1)
    have hI := kdx_fresh F (Nat.le_refl s.heap.objs.size)
    have nIg : ∀ o' p, p ∈ g o' → p.1 ≠ s.heap.objs.size := fun o' p hp => by
      rw [hg] at hp
      rcases List.mem_append.mp hp with q | q
      · exact nI p (List.mem_append_left _ q)
      · rcases List.mem_cons.mp q with q | q
        · subst q; exact nI (D, oneSet ((strKind prog w).hash x) (.str x tx) t) (List.mem_append_right _ (.head _))
        · exact nI p (List.mem_append_right _ (.tail _ q))
    have nD : ∀ io : Obj, (s.heap.objs.size, io).1 ≠ D := fun io => Ne.symm (nI (D, oneSet ((strKind prog w).hash x) (.str x tx) t) (List.mem_append_right _ (.head _)))
    refine wpAny_bind (wpAny_pyIter_dict hsm hmm ?_)
    rw [h6]
    refine wpAny_bind (wpAny_runValue ?_)
    have hz0 : ([(x, tx)] : List (Str × Tok)).map (·.1) = ((kvs.take 0).map (·.1)).reverse ++ [x] := rfl
    have N0 : News h₀ L (s.heap.push { cls := .type "dict_keyiterator", data := .fields #[.ref at_, .int 0 0, .int 6 0, .int ep 0] }) ((s.heap.objs.size, { cls := .type "dict_keyiterator", data := .fields #[.ref at_, .int 0 0, .int 6 0, .int ep 0] }) :: (pre ++ (D, oneSet ((strKind prog w).hash x) (.str x tx) t) :: post)) := fun p hp => by
      rcases List.mem_cons.mp hp with rfl | hp
      · exact ⟨Heap.get?_push_size _ rfl, hI⟩
      · exact news_push0 N p hp
    rw [show pre ++ (D, oneSet ((strKind prog w).hash x) (.str x tx) t) :: post = g (oneSet ((strKind prog w).hash x) (.str x tx) t) from (hg _).symm] at N0
    have F0 : Fr h₀ L (s.heap.push { cls := .type "dict_keyiterator", data := .fields #[.ref at_, .int 0 0, .int 6 0, .int ep 0] }) m := F.push _
    have hs0 := hso
    have hit0 : (s.heap.push { cls := .type "dict_keyiterator", data := .fields #[.ref at_, .int 0 0, .int 6 0, .int ep 0] }).IsKeyIter s.heap.objs.size at_ 0 kvs.length ep := ⟨_, Heap.get?_push_size _ rfl, rfl, by rw [h6]; rfl⟩
    generalize s.heap.push { cls := .type "dict_keyiterator", data := .fields #[.ref at_, .int 0 0, .int 6 0, .int ep 0] } = g0 at N0 F0 hit0 ⊢
    generalize ({ cls := .type "dict_keyiterator", data := .fields #[.ref at_, .int 0 0, .int 6 0, .int ep 0] } : Obj) = io0 at N0
    have dAt : ∀ h' o' io, News h₀ L h' ((s.heap.objs.size, io) :: g o') → h'.DictAt (strKind prog w) at_ kvs ep := fun h' o' io N' => ⟨_, em, N'.get (.tail _ (inA _)), e2, e3, e4, e5, e6⟩
    refine codeAny_builtin PyProof.Rows.F.entry_set_update_loop ?_
    rw [Around.under_plainId PyProof.Rows.F.plain_set_update_loop]
    show wpAny _ _ (pyNext (.ref s.heap.objs.size) >>= _) _ _ _
    refine wpAny_bind (wpAny_pyNext_dict_item (d := at_) (i := 0) (ep := ep) (kvs := kvs) (k := kvs[0].1) (v := kvs[0].2) (knd := strKind prog w) hit0 (dAt _ _ _ N0) (by rw [List.getElem?_eq_getElem (show 0 < kvs.length by omega)]) fun key0 j0 hkey0 it0 sb0 => ?_)
    obtain ⟨u0, rfl⟩ := str_of_is hkey0
    have Fa0 : Fr h₀ L j0 m := fr_ext F0 hI sb0.extBut
    have Na0 : News h₀ L j0 (g _) := news_ext (newsSub N0 fun p hp => .tail _ hp) (nIg _) sb0.extBut
    obtain ⟨io1, hio1, c0, d0⟩ := id it0
    have Nb0 : News h₀ L j0 ((s.heap.objs.size, io1) :: g _) := fun p hp => by
      rcases List.mem_cons.mp hp with rfl | hp
      · exact ⟨hio1, hI⟩
      · exact Na0 p hp
    show wpAny _ _ (holding [_] (setAdd D (.str kvs[0].1 u0)) >>= _) _ _ _
    refine wpAny_bind (wpAny_holding ?_)
    refine tset_add Fa0 Nb0 (UpdF.tail (p := (s.heap.objs.size, io1)) (nD io1) (UU _)) hs0 (by rw [hz0]; exact hndk 0 (by omega)) (by simp) fun g1 so1 tq1 F1 N1 hs1 => ?_
    have hit1 : g1.IsKeyIter s.heap.objs.size at_ (0 + 1) kvs.length ep := ⟨io1, N1.get (.head _), c0, d0⟩
    have hz1 : ((kvs[0].1, u0) :: [(x, tx)]).map (·.1) = ((kvs.take (0 + 1)).map (·.1)).reverse ++ [x] := (congrArg (kvs[0].1 :: ·) hz0).trans (tk1 0 (by omega)).symm
    refine wpAny_pure ⟨plainId_quiet PyProof.Rows.F.plain_set_update_loop _, codeAny_builtin PyProof.Rows.F.entry_set_update_loop ?_⟩
    rw [Around.under_plainId PyProof.Rows.F.plain_set_update_loop]
    show wpAny _ _ (pyNext (.ref s.heap.objs.size) >>= _) _ _ _
    refine wpAny_bind (wpAny_pyNext_dict_item (d := at_) (i := 1) (ep := ep) (kvs := kvs) (k := kvs[1].1) (v := kvs[1].2) (knd := strKind prog w) hit1 (dAt _ _ _ N1) (by rw [List.getElem?_eq_getElem (show 1 < kvs.length by omega)]) fun key1 j1 hkey1 it1 sb1 => ?_)
    obtain ⟨u1, rfl⟩ := str_of_is hkey1
    have Fa1 : Fr h₀ L j1 m := fr_ext F1 hI sb1.extBut
    have Na1 : News h₀ L j1 (g _) := news_ext (newsSub N1 fun p hp => .tail _ hp) (nIg _) sb1.extBut
    obtain ⟨io2, hio2, c1, d1⟩ := id it1
    have Nb1 : News h₀ L j1 ((s.heap.objs.size, io2) :: g _) := fun p hp => by
      rcases List.mem_cons.mp hp with rfl | hp
      · exact ⟨hio2, hI⟩
      · exact Na1 p hp
    show wpAny _ _ (holding [_] (setAdd D (.str kvs[1].1 u1)) >>= _) _ _ _
    refine wpAny_bind (wpAny_holding ?_)
    refine tset_add Fa1 Nb1 (UpdF.tail (p := (s.heap.objs.size, io2)) (nD io2) (UU _)) hs1 (by rw [hz1]; exact hndk 1 (by omega)) (by have := congrArg List.length hz1; simp only [List.length_map, List.length_append, List.length_reverse, List.length_take, List.length_singleton] at this; omega) fun g2 so2 tq2 F2 N2 hs2 => ?_
    have hit2 : g2.IsKeyIter s.heap.objs.size at_ (1 + 1) kvs.length ep := ⟨io2, N2.get (.head _), c1, d1⟩
    have hz2 : ((kvs[1].1, u1) :: _).map (·.1) = ((kvs.take (1 + 1)).map (·.1)).reverse ++ [x] := (congrArg (kvs[1].1 :: ·) hz1).trans (tk1 1 (by omega)).symm
    refine wpAny_pure ⟨plainId_quiet PyProof.Rows.F.plain_set_update_loop _, codeAny_builtin PyProof.Rows.F.entry_set_update_loop ?_⟩
    rw [Around.under_plainId PyProof.Rows.F.plain_set_update_loop]
    show wpAny _ _ (pyNext (.ref s.heap.objs.size) >>= _) _ _ _
    refine wpAny_bind (wpAny_pyNext_dict_item (d := at_) (i := 2) (ep := ep) (kvs := kvs) (k := kvs[2].1) (v := kvs[2].2) (knd := strKind prog w) hit2 (dAt _ _ _ N2) (by rw [List.getElem?_eq_getElem (show 2 < kvs.length by omega)]) fun key2 j2 hkey2 it2 sb2 => ?_)
    obtain ⟨u2, rfl⟩ := str_of_is hkey2
    have Fa2 : Fr h₀ L j2 m := fr_ext F2 hI sb2.extBut
    have Na2 : News h₀ L j2 (g _) := news_ext (newsSub N2 fun p hp => .tail _ hp) (nIg _) sb2.extBut
    obtain ⟨io3, hio3, c2, d2⟩ := id it2
    have Nb2 : News h₀ L j2 ((s.heap.objs.size, io3) :: g _) := fun p hp => by
      rcases List.mem_cons.mp hp with rfl | hp
      · exact ⟨hio3, hI⟩
      · exact Na2 p hp
    show wpAny _ _ (holding [_] (setAdd D (.str kvs[2].1 u2)) >>= _) _ _ _
    refine wpAny_bind (wpAny_holding ?_)
    refine tset_add Fa2 Nb2 (UpdF.tail (p := (s.heap.objs.size, io3)) (nD io3) (UU _)) hs2 (by rw [hz2]; exact hndk 2 (by omega)) (by have := congrArg List.length hz2; simp only [List.length_map, List.length_append, List.length_reverse, List.length_take, List.length_singleton] at this; omega) fun g3 so3 tq3 F3 N3 hs3 => ?_
    have hit3 : g3.IsKeyIter s.heap.objs.size at_ (2 + 1) kvs.length ep := ⟨io3, N3.get (.head _), c2, d2⟩
    have hz3 : ((kvs[2].1, u2) :: _).map (·.1) = ((kvs.take (2 + 1)).map (·.1)).reverse ++ [x] := (congrArg (kvs[2].1 :: ·) hz2).trans (tk1 2 (by omega)).symm
    refine wpAny_pure ⟨plainId_quiet PyProof.Rows.F.plain_set_update_loop _, codeAny_builtin PyProof.Rows.F.entry_set_update_loop ?_⟩
    rw [Around.under_plainId PyProof.Rows.F.plain_set_update_loop]
    show wpAny _ _ (pyNext (.ref s.heap.objs.size) >>= _) _ _ _
    refine wpAny_bind (wpAny_pyNext_dict_item (d := at_) (i := 3) (ep := ep) (kvs := kvs) (k := kvs[3].1) (v := kvs[3].2) (knd := strKind prog w) hit3 (dAt _ _ _ N3) (by rw [List.getElem?_eq_getElem (show 3 < kvs.length by omega)]) fun key3 j3 hkey3 it3 sb3 => ?_)
    obtain ⟨u3, rfl⟩ := str_of_is hkey3
    have Fa3 : Fr h₀ L j3 m := fr_ext F3 hI sb3.extBut
    have Na3 : News h₀ L j3 (g _) := news_ext (newsSub N3 fun p hp => .tail _ hp) (nIg _) sb3.extBut
    obtain ⟨io4, hio4, c3, d3⟩ := id it3
    have Nb3 : News h₀ L j3 ((s.heap.objs.size, io4) :: g _) := fun p hp => by
      rcases List.mem_cons.mp hp with rfl | hp
      · exact ⟨hio4, hI⟩
      · exact Na3 p hp
    show wpAny _ _ (holding [_] (setAdd D (.str kvs[3].1 u3)) >>= _) _ _ _
    refine wpAny_bind (wpAny_holding ?_)
    refine tset_add Fa3 Nb3 (UpdF.tail (p := (s.heap.objs.size, io4)) (nD io4) (UU _)) hs3 (by rw [hz3]; exact hndk 3 (by omega)) (by have := congrArg List.length hz3; simp only [List.length_map, List.length_append, List.length_reverse, List.length_take, List.length_singleton] at this; omega) fun g4 so4 tq4 F4 N4 hs4 => ?_
    have hit4 : g4.IsKeyIter s.heap.objs.size at_ (3 + 1) kvs.length ep := ⟨io4, N4.get (.head _), c3, d3⟩
    have hz4 : ((kvs[3].1, u3) :: _).map (·.1) = ((kvs.take (3 + 1)).map (·.1)).reverse ++ [x] := (congrArg (kvs[3].1 :: ·) hz3).trans (tk1 3 (by omega)).symm
    refine wpAny_pure ⟨plainId_quiet PyProof.Rows.F.plain_set_update_loop _, codeAny_builtin PyProof.Rows.F.entry_set_update_loop ?_⟩
    rw [Around.under_plainId PyProof.Rows.F.plain_set_update_loop]
    show wpAny _ _ (pyNext (.ref s.heap.objs.size) >>= _) _ _ _
    refine wpAny_bind (wpAny_pyNext_dict_item (d := at_) (i := 4) (ep := ep) (kvs := kvs) (k := kvs[4].1) (v := kvs[4].2) (knd := strKind prog w) hit4 (dAt _ _ _ N4) (by rw [List.getElem?_eq_getElem (show 4 < kvs.length by omega)]) fun key4 j4 hkey4 it4 sb4 => ?_)
    obtain ⟨u4, rfl⟩ := str_of_is hkey4
    have Fa4 : Fr h₀ L j4 m := fr_ext F4 hI sb4.extBut
    have Na4 : News h₀ L j4 (g _) := news_ext (newsSub N4 fun p hp => .tail _ hp) (nIg _) sb4.extBut
    obtain ⟨io5, hio5, c4, d4⟩ := id it4
    have Nb4 : News h₀ L j4 ((s.heap.objs.size, io5) :: g _) := fun p hp => by
      rcases List.mem_cons.mp hp with rfl | hp
      · exact ⟨hio5, hI⟩
      · exact Na4 p hp
    show wpAny _ _ (holding [_] (setAdd D (.str kvs[4].1 u4)) >>= _) _ _ _
    refine wpAny_bind (wpAny_holding ?_)
    refine tset_add Fa4 Nb4 (UpdF.tail (p := (s.heap.objs.size, io5)) (nD io5) (UU _)) hs4 (by rw [hz4]; exact hndk 4 (by omega)) (by have := congrArg List.length hz4; simp only [List.length_map, List.length_append, List.length_reverse, List.length_take, List.length_singleton] at this; omega) fun g5 so5 tq5 F5 N5 hs5 => ?_
    have hit5 : g5.IsKeyIter s.heap.objs.size at_ (4 + 1) kvs.length ep := ⟨io5, N5.get (.head _), c4, d4⟩
    have hz5 : ((kvs[4].1, u4) :: _).map (·.1) = ((kvs.take (4 + 1)).map (·.1)).reverse ++ [x] := (congrArg (kvs[4].1 :: ·) hz4).trans (tk1 4 (by omega)).symm
    refine wpAny_pure ⟨plainId_quiet PyProof.Rows.F.plain_set_update_loop _, codeAny_builtin PyProof.Rows.F.entry_set_update_loop ?_⟩
    rw [Around.under_plainId PyProof.Rows.F.plain_set_update_loop]
    show wpAny _ _ (pyNext (.ref s.heap.objs.size) >>= _) _ _ _
    refine wpAny_bind (wpAny_pyNext_dict_item (d := at_) (i := 5) (ep := ep) (kvs := kvs) (k := kvs[5].1) (v := kvs[5].2) (knd := strKind prog w) hit5 (dAt _ _ _ N5) (by rw [List.getElem?_eq_getElem (show 5 < kvs.length by omega)]) fun key5 j5 hkey5 it5 sb5 => ?_)
    obtain ⟨u5, rfl⟩ := str_of_is hkey5
    have Fa5 : Fr h₀ L j5 m := fr_ext F5 hI sb5.extBut
    have Na5 : News h₀ L j5 (g _) := news_ext (newsSub N5 fun p hp => .tail _ hp) (nIg _) sb5.extBut
    obtain ⟨io6, hio6, c5, d5⟩ := id it5
    have Nb5 : News h₀ L j5 ((s.heap.objs.size, io6) :: g _) := fun p hp => by
      rcases List.mem_cons.mp hp with rfl | hp
      · exact ⟨hio6, hI⟩
      · exact Na5 p hp
    show wpAny _ _ (holding [_] (setAdd D (.str kvs[5].1 u5)) >>= _) _ _ _
    refine wpAny_bind (wpAny_holding ?_)
    refine tset_add Fa5 Nb5 (UpdF.tail (p := (s.heap.objs.size, io6)) (nD io6) (UU _)) hs5 (by rw [hz5]; exact hndk 5 (by omega)) (by have := congrArg List.length hz5; simp only [List.length_map, List.length_append, List.length_reverse, List.length_take, List.length_singleton] at this; omega) fun g6 so6 tq6 F6 N6 hs6 => ?_
    have hit6 : g6.IsKeyIter s.heap.objs.size at_ (5 + 1) kvs.length ep := ⟨io6, N6.get (.head _), c5, d5⟩
    have hz6 : ((kvs[5].1, u5) :: _).map (·.1) = ((kvs.take (5 + 1)).map (·.1)).reverse ++ [x] := (congrArg (kvs[5].1 :: ·) hz5).trans (tk1 5 (by omega)).symm
    refine wpAny_pure ⟨plainId_quiet PyProof.Rows.F.plain_set_update_loop _, codeAny_builtin PyProof.Rows.F.entry_set_update_loop ?_⟩
    rw [Around.under_plainId PyProof.Rows.F.plain_set_update_loop]
    show wpAny _ _ (pyNext (.ref s.heap.objs.size) >>= _) _ _ _
    refine wpAny_bind (wpAny_pyNext_dict_end (d := at_) (i := 6) (ep := ep) (kvs := kvs) (knd := strKind prog w) hh hit6 (dAt _ _ _ N6) (by rw [List.getElem?_eq_none]; omega) fun h3 hx3 => ?_)
    refine wpAny_pure (wpAny_pure ?_)
    refine h _ _ _ _ (fr_ext F6 hI hx3) (news_ext (newsSub N6 fun p hp => .tail _ hp) (nIg _) hx3) hs6 ?_
    rw [hz6, List.take_of_length_le (by omega)]
end
end
section
open PySem PySem.Calls PyProof.Rows PySem.W PySem.Spec
def nth : List Nat → Nat → Nat
  | [], _ => 0
  | x :: _, 0 => x
  | _ :: l, k + 1 => nth l k
def addGo (i u : Nat) : Nat → List Nat → List Nat
  | _, [] => []
  | a, r :: l => (bif Nat.beq a i || r.testBit i then (r ||| u) else r) :: addGo i u (a + 1) l
def addR (K : List Nat) (i j : Nat) : List Nat := addGo i (nth K j ||| (1 <<< j)) 0 K
def chk (n : Nat) : KasT (Array Nat) → List Nat → Bool
  | .ret p, K => Nat.beq p.size n && (List.range (n - 1)).all fun k => (nth K (p.getD k 0)).testBit (p.getD (k + 1) 0)
  | .ask i j k, K => bif (nth K i).testBit j then chk n (k true) K else bif (nth K j).testBit i then chk n (k false) K else !(Nat.beq i j) && Nat.blt i n && Nat.blt j n && chk n (k true) (addR K i j) && chk n (k false) (addR K j i)
theorem chk6 : chk 6 (kas_sort 6) [0, 0, 0, 0, 0, 0] = true := by decide +kernel
theorem nth_add (i u : Nat) : ∀ (K : List Nat) (a b : Nat), (nth (addGo i u a K) b).testBit = fun j => ((nth K b).testBit j || (decide (b < K.length) && (Nat.beq (a + b) i || (nth K b).testBit i) && u.testBit j))
  | [], a, b => by funext j; simp [addGo, nth]
  | r :: l, a, 0 => by
    funext j
    show (bif Nat.beq a i || r.testBit i then (r ||| u) else r).testBit j = _
    rw [Nat.add_zero]
    show _ = (r.testBit j || (decide (0 < (r :: l).length) && (Nat.beq a i || r.testBit i) && u.testBit j))
    cases Nat.beq a i || r.testBit i <;> simp [Nat.testBit_or]
  | r :: l, a, b + 1 => by
    show (nth (addGo i u (a + 1) l) b).testBit = _
    rw [nth_add i u l (a + 1) b]
    funext j
    show _ = ((nth l b).testBit j || _)
    rw [show a + 1 + b = a + (b + 1) by omega]
    simp
    rfl
def KOk (n : Nat) (lt : Nat → Nat → Bool) (K : List Nat) : Prop := K.length = n ∧ ∀ i j, (nth K i).testBit j = true → i < n ∧ j < n ∧ lt i j = true
theorem addR_ok {n : Nat} {lt : Nat → Nat → Bool} (tr : ∀ a b c, lt a b = true → lt b c = true → lt a c = true) {K : List Nat} (h : KOk n lt K) {i j : Nat} (hi : i < n) (hj : j < n) (hlt : lt i j = true) : KOk n lt (addR K i j) := by
  have hlen : ∀ (i u a : Nat) (K : List Nat), (addGo i u a K).length = K.length := by
    intro i u a K
    induction K generalizing a with
    | nil => rfl
    | cons r l ih => show _ + 1 = _ + 1; rw [ih]
  refine ⟨(hlen _ _ _ _).trans h.1, fun b c hb => ?_⟩
  unfold addR at hb
  rw [nth_add] at hb
  simp only [Bool.or_eq_true, Bool.and_eq_true, decide_eq_true_eq, Nat.testBit_or, Nat.zero_add] at hb
  rcases hb with hb | ⟨⟨hbn, hbi⟩, hc⟩
  · exact h.2 b c hb
  · have hbn' : b < n := by rw [← h.1]; exact hbn
    have hjc : c < n ∧ (c = j ∨ lt j c = true) := by
      rcases hc with hc | hc
      · have := h.2 j c hc; exact ⟨this.2.1, .inr this.2.2⟩
      · rw [Nat.one_shiftLeft, Nat.testBit_two_pow] at hc
        have hc' : j = c := by simpa using hc
        exact ⟨hc' ▸ hj, .inl hc'.symm⟩
    have hic : lt i c = true := by
      rcases hjc.2 with rfl | e
      · exact hlt
      · exact tr _ _ _ hlt e
    refine ⟨hbn', hjc.1, ?_⟩
    rcases hbi with hbi | hbi
    · have : b = i := Nat.eq_of_beq_eq_true hbi
      rw [this]; exact hic
    · exact tr _ _ _ (h.2 b i hbi).2.2 hic
theorem ask_chk {n : Nat} {s : Shared} {lt : Nat → Nat → Bool} (tr : ∀ a b c, lt a b = true → lt b c = true → lt a c = true) (tot : ∀ i j, i < n → j < n → i ≠ j → lt i j = false → lt j i = true) (asy : ∀ i j, lt i j = true → lt j i = false) {cmp : Nat → Nat → (Bool → Shared → Prop) → Shared → Prop} {Q : Array Nat → Shared → Prop}
    (hc : ∀ i j (C : Bool → Shared → Prop), i < n → j < n → i ≠ j → C (lt i j) s → cmp i j C s)
    (hQ : ∀ p : Array Nat, PermR n p → (∀ k, k + 1 < n → lt (p.getD k 0) (p.getD (k + 1) 0) = true) → Q p s) :
    ∀ (t : KasT (Array Nat)) (K : List Nat), KOk n lt K → AllL n (fun p => PermR n p) t → chk n t K = true → t.kasWp cmp Q s
  | .ret p, K, hK, hp, h => by
    simp only [chk, Bool.and_eq_true, List.all_eq_true, List.mem_range] at h
    exact hQ p hp fun k hk => (hK.2 _ _ (h.2 k (by omega))).2.2
  | .ask i j k, K, hK, hp, h => by
    simp only [chk] at h
    have hij : i ≠ j → i < n → j < n → ∀ b, lt i j = b → (k b).kasWp cmp Q s → cmp i j (fun b s' => (k b).kasWp cmp Q s') s := fun e hi hj b hb hk => hc i j _ hi hj e (by rw [hb]; exact hk)
    cases h1 : (nth K i).testBit j with
    | true =>
      rw [h1] at h
      obtain ⟨hi, hj, e⟩ := hK.2 i j h1
      have hne : i ≠ j := fun q => by rw [q] at e; have := asy _ _ e; rw [e] at this; cases this
      exact hij hne hi hj true e (ask_chk tr tot asy hc hQ (k true) K hK (hp.2.2 true) h)
    | false =>
      rw [h1] at h
      simp only [cond_false] at h
      cases h2 : (nth K j).testBit i with
      | true =>
        rw [h2] at h
        obtain ⟨hj, hi, e⟩ := hK.2 j i h2
        have hne : i ≠ j := fun q => by rw [q] at e; have := asy _ _ e; rw [e] at this; cases this
        exact hij hne hi hj false (asy _ _ e) (ask_chk tr tot asy hc hQ (k false) K hK (hp.2.2 false) h)
      | false =>
        rw [h2] at h
        simp only [cond_false, Bool.and_eq_true, Bool.not_eq_true', Nat.blt_eq] at h
        obtain ⟨⟨⟨⟨hne, hi⟩, hj⟩, ht⟩, hf⟩ := h
        have hne' : i ≠ j := fun q => by rw [q] at hne; simp at hne
        cases hb : lt i j with
        | true => exact hij hne' hi hj true hb (ask_chk tr tot asy hc hQ (k true) _ (addR_ok tr hK hi hj hb) (hp.2.2 true) ht)
        | false => exact hij hne' hi hj false hb (ask_chk tr tot asy hc hQ (k false) _ (addR_ok tr hK hj hi (tot i j hi hj hne' hb)) (hp.2.2 false) hf)
theorem str_extT {x y : Str} (h : x.cps = y.cps) : x = y := by cases x; cases y; simp_all
theorem ll_trans : ∀ {a b c : List Nat}, a < b → b < c → a < c := fun h1 h2 => List.lt_trans h1 h2
theorem ll_asymm {a b : List Nat} (h : a < b) : ¬ b < a := List.lt_asymm h
theorem ll_tot : ∀ {a b : List Nat}, a ≠ b → ¬ a < b → b < a
  | [], [], h, _ => absurd rfl h
  | [], _ :: _, _, h => absurd (List.nil_lt_cons _ _) h
  | _ :: _, [], _, _ => List.nil_lt_cons _ _
  | x :: a, y :: b, h, h' => by
    rw [List.cons_lt_cons_iff] at h' ⊢
    rcases Nat.lt_trichotomy x y with e | e | e
    · exact absurd (.inl e) h'
    · subst e
      refine .inr ⟨rfl, ll_tot (fun q => h (by rw [q])) fun q => h' (.inr ⟨rfl, q⟩)⟩
    · exact .inl e
section
variable {prog : Program} {w : World} {A : Around} {E : Value → Shared → Prop} {s : Shared} {h₀ : Heap} {L : Addr} {m : Str → Option Value} {news : List (Addr × Obj)}
abbrev tupO (x : Str) (t : Tok) (v : Value) : Obj := { cls := .type "tuple", data := .seq #[.str x t, v] }
theorem tups_firsts {h : Heap} : ∀ (as : List Addr) (kv : List (Str × Tok × Value)), as.length = kv.length → (∀ (i : Nat) (a : Addr) (p : Str × Tok × Value), as[i]? = some a → kv[i]? = some p → h.get? a = some (tupO p.1 p.2.1 p.2.2)) → KatTups h (as.map Value.ref) (kv.map fun p => .str p.1 p.2.1)
  | [], [], _, _ => trivial
  | a :: as, p :: kv, hl, hm => KatTups.cons (hm 0 a p rfl rfl) rfl rfl rfl (tups_firsts as kv (by simpa using hl) fun i b q hb hq => hm (i + 1) b q hb hq)
theorem lsort_tups {c : Addr} {as : List Addr} {kv : List (Str × Tok × Value)} {e : Nat} {Q : Value → Shared → Prop} (F : Fr h₀ L s.heap m) (N : News h₀ L s.heap ((c, listOf (as.map Value.ref).toArray e) :: news)) (hl : as.length = 6) (hk : kv.length = 6)
    (hnc : ∀ p ∈ news, p.1 ≠ c) (hm : ∀ (i : Nat) (a : Addr) (p : Str × Tok × Value), as[i]? = some a → kv[i]? = some p → (a, tupO p.1 p.2.1 p.2.2) ∈ news) (hnd : (kv.map (·.1)).Nodup)
    (h : ∀ (p : List Nat) e' h', p.Perm (List.range 6) → (∀ k i j, k + 1 < 6 → p[k]? = some i → p[k + 1]? = some j → ∀ x y, kv[i]? = some x → kv[j]? = some y → x.1.cps.toList < y.1.cps.toList) → Fr h₀ L h' m →
      News h₀ L h' ((c, listOf (p.map fun i => (as.map Value.ref).getD i Value.none).toArray e') :: news) → Q .none { s with heap := h' }) :
    wpAny (model prog w) A (call (.builtin "list.sort") [.ref c]) Q E s := by
  have hlr : (as.map Value.ref).length = 6 := by simpa using hl
  refine kat_lsort (vs := as.map Value.ref) F N (UpdF.head hnc) (by simp) (by omega) (by omega) fun e1 h' F' N' => ?_
  (try dsimp only at N')
  refine kat_kind (T := .type "str") (tups_firsts as kv (by omega) fun i a p ha hp => N'.get (.tail _ (hm i a p ha hp))) (by simp; omega) (fun v hv => ?_) (by decide) ?_
  · obtain ⟨p, _, rfl⟩ := List.mem_map.mp hv
    exact fun _ _ _ _ k q => wpAny_typeOf (T := "str") (typeIs_str _ _ _) q
  have hb : ((Value.type "str") != Value.type "tuple") = true := by decide
  rw [hb, hlr]
  let key : Nat → List Nat := fun i => ((kv[i]?).map (fun p => p.1.cps.toList)).getD []
  have hkey : ∀ i (hi : i < 6), key i = (kv[i]'(by omega)).1.cps.toList := fun i hi => by
    show ((kv[i]?).map _).getD [] = _
    rw [List.getElem?_eq_getElem (by omega)]
    rfl
  have hne : ∀ i j, i < 6 → j < 6 → i ≠ j → key i ≠ key j := fun i j hi hj e q => by
    rw [hkey i hi, hkey j hj] at q
    have q1 : (kv[i]'(by omega)).1 = (kv[j]'(by omega)).1 := str_extT (Array.ext' q)
    have q2 : (kv.map (·.1))[i]? = (kv.map (·.1))[j]? := by
      rw [List.getElem?_map, List.getElem?_map, List.getElem?_eq_getElem (show i < kv.length by omega), List.getElem?_eq_getElem (show j < kv.length by omega)]
      simp only [Option.map_some]
      rw [q1]
    exact e ((List.getElem?_inj (by simpa using (show i < kv.length by omega)) hnd).mp q2)
  refine ask_chk (n := 6) (lt := fun i j => decide (key i < key j)) (fun a b c h1 h2 => ?_) (fun i j hi hj e h1 => ?_) (fun i j h1 => ?_) (fun i j C hi hj e hC => ?_) (fun p hp hs => ?_) _ [0, 0, 0, 0, 0, 0] ⟨rfl, fun i j hb => ?_⟩ (all_sort (by decide)) chk6
  · simp only [decide_eq_true_eq] at h1 h2 ⊢
    exact ll_trans h1 h2
  · simp only [decide_eq_true_eq, decide_eq_false_iff_not] at h1 ⊢
    exact ll_tot (hne i j hi hj e) h1
  · simp only [decide_eq_true_eq, decide_eq_false_iff_not] at h1 ⊢
    exact ll_asymm h1
  · have gi : ∀ i (hi : i < 6), (as.map Value.ref).getD i Value.none = .ref (as[i]'(by omega)) := fun i hi => by
      rw [List.getD_eq_getElem?_getD, List.getElem?_map, List.getElem?_eq_getElem (by omega)]
      rfl
    have oi : ∀ i (hi : i < 6), h'.get? (as[i]'(by omega)) = some (tupO (kv[i]'(by omega)).1 (kv[i]'(by omega)).2.1 (kv[i]'(by omega)).2.2) := fun i hi => N'.get (.tail _ (hm i _ _ (List.getElem?_eq_getElem (by omega)) (List.getElem?_eq_getElem (by omega))))
    show wpAny (model prog w) A.in1 (keyLt' (tuples' true) ((as.map Value.ref).getD i Value.none) ((as.map Value.ref).getD j Value.none)) C _ _
    rw [gi i hi, gi j hj]
    refine kat_lt (oi i hi) rfl (oi j hj) rfl ?_
    refine kat_cons ?_
    refine wpAny_eqBool_str ?_
    have hde : decide ((kv[i]'(by omega)).1 = (kv[j]'(by omega)).1) = false := decide_eq_false fun q => hne i j hi hj e (by rw [hkey i hi, hkey j hj, q])
    have hbe : ((kv[i]'(by omega)).1 == (kv[j]'(by omega)).1) = false := by rw [beq_eq_false_iff_ne]; exact fun q => hne i j hi hj e (by rw [hkey i hi, hkey j hj, q])
    first | rw [hbe] | rw [hde] | simp only [hbe]
    refine kat_no (oneLt_str ?_)
    rw [← hkey i hi, ← hkey j hj]
    exact hC
  · refine KasFin.intro F' N' (UpdF.head hnc) fun h2 c2 F2 N2 => ?_
    (try dsimp only at N2)
    refine h p.toList c2 h2 (Array.perm_iff_toList_perm.mp hp.2) (fun k i j hk hi hj x y hx hy => ?_) F2 N2
    have e1 : p.getD k 0 = i := by
      rw [Array.getElem?_toList] at hi
      simp [Array.getD_eq_getD_getElem?, hi]
    have e2 : p.getD (k + 1) 0 = j := by
      rw [Array.getElem?_toList] at hj
      simp [Array.getD_eq_getD_getElem?, hj]
    have q := hs k hk
    simp only [decide_eq_true_eq] at q
    rw [e1, e2] at q
    have ki : key i = x.1.cps.toList := by show ((kv[i]?).map _).getD [] = _; rw [hx]; rfl
    have kj : key j = y.1.cps.toList := by show ((kv[j]?).map _).getD [] = _; rw [hy]; rfl
    rw [ki, kj] at q
    exact q
  · exfalso
    have : ∀ i, nth [0, 0, 0, 0, 0, 0] i = 0 := fun i => by
      match i with
      | 0 | 1 | 2 | 3 | 4 | 5 => rfl
      | k + 6 => rfl
    rw [this] at hb
    simp at hb
end
end
section
open PySem PySem.Calls PyProof.Rows PySem.W PySem.Spec
section
variable {prog : Program} {w : World} {A : Around} {E : Value → Shared → Prop} {s : Shared} {h₀ : Heap} {L : Addr} {m : Str → Option Value} {news : List (Addr × Obj)}
theorem inplace_seq {M : Model} {a b : Value} {T id : String} {Q : Value → Shared → Prop} (ha : s.TypeIs a T) (hb : s.TypeIs b T)
    (hf : typeLookup (.type T) (dunderI "add") = pure (some (.builtin id))) (hs : isSeqSlot (some (.builtin id)) = true) (hfill : fillsNumberSlot (.type T) "add" = pure false)
    (hc : wpAny M A (call (.builtin id) [a, b]) Q E s) : wpAny M A (inplaceOp .Add a b) Q E s := by
  unfold inplaceOp
  refine wpAny_holding ?_
  have hfi : fillsInplaceSlot (.type T) "add" (Operator.Add == .Add) = pure false := by
    unfold fillsInplaceSlot
    show (typeLookup (.type T) (dunderI "add") >>= fun fi => pure (fi.isSome && !isSeqSlot fi)) = pure false
    rw [hf]
    show (pure (true && !isSeqSlot (some (.builtin id))) : Sem Bool) = pure false
    rw [hs]; rfl
  have hsi : seqSlot? (.type T) (dunderI "add") = pure (some (.builtin id)) := PySem.seqSlot_of hf hs
  refine wpAny_bind (wpAny_typeOf ha (wpAny_bind (wpAny_of_eq hfi ?_)))
  show wpAny M A (if false = true then _ else _) Q E s
  rw [if_neg Bool.false_ne_true]
  refine wpAny_bind (wpAny_binaryOp1_none (nm := "add") ha hb hfill ?_)
  refine wpAny_bind (wpAny_of_eq hsi ?_)
  exact wpAny_bind (wpAny_rule hc)
theorem iadd_led {a b : Nat} {vs ws : List Value} {ka kb : Nat} {Q : Value → Shared → Prop} {news' : List (Addr × Obj)} (F : Fr h₀ L s.heap m) (N : News h₀ L s.heap news) (hb : (b, listOf ws.toArray kb) ∈ news)
    (U : Upd a (listOf vs.toArray ka) (listOf (vs ++ ws).toArray (ka + 1)) news news') (hne : ws ≠ []) (hsz : vs.length + ws.length ≤ 100000)
    (h : ∀ h', Fr h₀ L h' m → News h₀ L h' news' → Q (.ref a) { s with heap := h' }) : wpAny (model prog w) A (inplaceOp .Add (.ref a) (.ref b)) Q E s := by
  obtain ⟨pre, post, rfl, rfl, p1, p2⟩ := U.split
  have z := N (a, listOf vs.toArray ka) (List.mem_append.mpr (.inr (.head _)))
  have zb := N _ hb
  have hs1 : vs.toArray.size ≤ sizeLine := by rw [List.size_toArray, sizeLine_eq]; lia
  have hs2 : vs.toArray.size + ws.toArray.size ≤ sizeLine + 1 := by rw [List.size_toArray, List.size_toArray, sizeLine_eq]; lia
  have hs0 : ¬(!vs.toArray.isEmpty && Builtin.List.listTooLong (vs.toArray.size + ws.toArray.size)) = true := by
    have h9 : Builtin.List.listTooLong (vs.toArray.size + ws.toArray.size) = false := by
      unfold Builtin.List.listTooLong
      rw [List.size_toArray, List.size_toArray]
      exact decide_eq_false (by rw [sizeLine_eq]; lia)
    rw [h9]; simp
  refine inplace_seq ⟨_, z.1, rfl⟩ ⟨_, zb.1, rfl⟩ PySem.F.slot_list_iadd.lookup (by decide +kernel) noFill_list_add ?_
  refine call_meets PySem.F.slot_list_iadd ⟨_, z.1, rfl⟩ PySem.F.entry_list_iadd (PySem.F.args_list_iadd_2 _ _) (AutoSeq1.list___iadd___list_list_0 a vs.toArray ka b ws.toArray kb hs0 hs1 hs2) ⟨z.1, zb.1, ?_⟩
  have hs := Heap.SameBut.update a (Obj.mapSeq fun x => x ++ ws.toArray) (h := s.heap)
  refine h _ (F.change hs z.2.1 z.2.2) (news_set N p1 p2 hs ?_)
  have e : vs.toArray ++ ws.toArray = (vs ++ ws).toArray := by simp
  have hl : 0 < ws.length := List.length_pos_iff.mpr hne
  have e2 : Obj.mapSeq (fun x => x ++ ws.toArray) (listOf vs.toArray ka) = listOf (vs ++ ws).toArray (ka + 1) := by
    rw [mapSeq_list (by (try dsimp only); rw [e, List.size_toArray, List.size_toArray, List.length_append]; lia), e]
  have g := Heap.get?_update_self (Obj.mapSeq fun x => x ++ ws.toArray) z.1 (by rw [e2]; rfl)
  rw [e2] at g
  exact g
end
end
section
open PySem PySem.Calls PyProof.Rows PySem.W PySem.Spec
namespace F2
theorem typeOf_append : typeOf (.builtin "list.append") = pure (.type "method_descriptor") := by kernel_rfl
theorem slot_md_get : Slot "method_descriptor" "__get__" "method_descriptor.__get__" :=
  .of (owner := "method_descriptor") (n := "__get__") (by rw [typeLookup_type, builtinLookup_eq_fast]; kernel_rfl) (by decide +kernel) (by decide +kernel) (by decide +kernel)
    (by first | exact .inl (by decide +kernel) | exact .inr (by decide +kernel)) (by rw [isSubtype_type]; kernel_rfl)
theorem no_md_set : typeLookup (.type "method_descriptor") "__set__" = pure none := by rw [typeLookup_type, builtinLookup_eq_fast]; kernel_rfl
theorem no_md_del : typeLookup (.type "method_descriptor") "__delete__" = pure none := by rw [typeLookup_type, builtinLookup_eq_fast]; kernel_rfl
theorem entry_md_get : entryFor table "method_descriptor.__get__" = some Builtin.«method_descriptor.__get__» := entryFor_of_tree (by kernel_rfl)
theorem args_md_get (a b c : Value) : argsOk "method_descriptor.__get__" ⟨[a, b, c], []⟩ := by unfold argsOk; kernel_rfl
theorem lk_list_append : typeLookup (.type "list") "append" = pure (some (.builtin "list.append")) := by rw [typeLookup_type, builtinLookup_eq_fast]; kernel_rfl
theorem owner_append : (".".intercalate ("list.append".cutAt '.').dropLast) = "list" := by
  have e0 : "list.append".cutAt '.' = ["list", "append"] := by first | rfl | decide +kernel
  rw [e0]; decide +kernel
theorem sub_list_append_owner : isSubtype (.type "list") (.type (".".intercalate ("list.append".cutAt '.').dropLast)) = pure true := by
  rw [owner_append, isSubtype_type]; kernel_rfl
theorem told : Manifest.toldItsClass.contains "list.append" = false := by decide +kernel
end F2
section
variable {prog : Program} {w : World} {A : Around} {E : Value → Shared → Prop} {h : Heap} {g : Array GenState} {d : Drawn} {t : Nat} {os : OsState} {a : Addr} {its : Array Value} {n : Nat}
set_option maxHeartbeats 1000000 in
theorem append_get {R : Result → Shared → Prop} (hx : h.get? a = some (listOf its n)) (hq : R (.ok (.ret (.ref h.objs.size))) ⟨h.push (bfmObj "list.append" (.ref a)), g, d, t, os⟩) :
    codeAny (model prog w) A (.call (.builtin "method_descriptor.__get__") ⟨[.builtin "list.append", .ref a, .type "list"], []⟩) R ⟨h, g, d, t, os⟩ := by
  have hT : (⟨h, g, d, t, os⟩ : Shared).TypeIs (.ref a) "list" := ⟨_, hx, rfl⟩
  have hT5 : (⟨h, g, d, t, os⟩ : Shared).TypeIs (.builtin "list.append") "method_descriptor" := F2.typeOf_append
  have f8 := F2.sub_list_append_owner
  have f9 := F2.told
  refine codeAny_call_builtin F2.slot_md_get.plain F2.entry_md_get (F2.slot_md_get.check _ _ _ _ _ _ _ _ hT5 (F2.args_md_get _ _ _) ?_)
  iterate 20 (any_goals (first | assumption | wp_step))
  refine wpAny_pure ?_
  refine wpAny_bind ?_
  refine wpAny_newObj_type ?_
  exact wpAny_pure hq
theorem append_entry {tk : Tok} {Q : Fin → Shared → Prop} (hx : h.get? a = some (listOf its n)) (hq : Q (.done (.ret (.ref h.objs.size))) ⟨h.push (bfmObj "list.append" (.ref a)), g, d, t, os⟩) :
    wpAny (model prog w) A (Builtin.«object.__getattribute__» ⟨[.ref a, .str "append" tk], []⟩) Q E ⟨h, g, d, t, os⟩ := by
  have hT : (⟨h, g, d, t, os⟩ : Shared).TypeIs (.ref a) "list" := ⟨_, hx, rfl⟩
  have hT5 : (⟨h, g, d, t, os⟩ : Shared).TypeIs (.builtin "list.append") "method_descriptor" := F2.typeOf_append
  have f4 := F2.lk_list_append
  have f5 := F2.typeOf_append
  have f6 := F2.slot_md_get.lookup
  have f7 := F2.no_md_set
  have f8 := F2.no_md_del
  iterate 37 (any_goals (first | assumption | wp_step))
  refine wpAny_loadPart hx ?_
  show wpAny _ _ (instanceDict a false) _ _ _
  unfold instanceDict
  refine wpAny_bind (wpAny_loadPart hx ?_)
  show wpAny _ _ (pure none) _ _ _
  refine wpAny_pure ?_
  repeat (any_goals (first | assumption | wp_step))
  refine append_get hx ?_
  repeat (any_goals (first | assumption | wp_step))
theorem append_call {tk : Tok} {R : Result → Shared → Prop} (hx : h.get? a = some (listOf its n)) (hq : R (.ok (.ret (.ref h.objs.size))) ⟨h.push (bfmObj "list.append" (.ref a)), g, d, t, os⟩) :
    codeAny (model prog w) A (.call (.builtin "list.__getattribute__") ⟨[.ref a, .str "append" tk], []⟩) R ⟨h, g, d, t, os⟩ :=
  codeAny_call_builtin F.slot_list_getattribute.plain F.entry_list_ga (F.slot_list_getattribute.check _ _ _ _ _ _ _ _ (show (⟨h, g, d, t, os⟩ : Shared).TypeIs (.ref a) "list" from ⟨_, hx, rfl⟩) (F.args_list_getattribute_2 _ _) (append_entry hx hq))
theorem append_by {tk : Tok} {Q : Value → Shared → Prop} (hx : h.get? a = some (listOf its n)) (hq : Q (.ref h.objs.size) ⟨h.push (bfmObj "list.append" (.ref a)), g, d, t, os⟩) : wpAny (model prog w) A (getAttrBy (.ref a) (.str "append" tk) true true) Q E ⟨h, g, d, t, os⟩ := by
  have hT : (⟨h, g, d, t, os⟩ : Shared).TypeIs (.ref a) "list" := ⟨_, hx, rfl⟩
  have f2 := F.slot_list_getattribute.lookup
  have f3 := F.slot_list_getattribute.bind (.ref a)
  repeat (any_goals (first | assumption | wp_step))
  refine append_call hx ?_
  repeat (any_goals (first | assumption | wp_step))
end
section
variable {prog : Program} {w : World} {A : Around} {E : Value → Shared → Prop} {s : Shared} {h₀ : Heap} {L : Addr} {m : Str → Option Value} {news : List (Addr × Obj)}
theorem append_attr {l : Addr} {its : Array Value} {n : Nat} {Q : Value → Shared → Prop} (F : Fr h₀ L s.heap m) (N : News h₀ L s.heap news) (hm : (l, listOf its n) ∈ news)
    (k : ∀ q h' tk', Fr h₀ L h' m → News h₀ L h' ((q, bfmObj "list.append" (.ref l)) :: news) → (∀ p ∈ news, p.1 < q) → Q (.ref q) { s with heap := h', toks := tk' }) :
    wpAny (model prog w) A (getAttr (.ref l) (Str.ofString "append") true) Q E s := by
  unfold getAttr
  refine wpAny_bind (wpAny_mkText ?_)
  obtain ⟨h, g, d, t, os⟩ := s
  exact append_by (N.get hm) (k _ _ _ (F.push _) (N.push F _) fun p hp => Heap.lt_size (N p hp).1)
end
end
section
open PySem
def defParts : List Stmt → List Stmt × Scope
  | [.FunctionDef _ _ body _ _ _ scope _ _ _] => (body, scope)
  | _ :: r => defParts r
  | [] => ([], { kind := .module, names := [], isGenerator := false, isCoroutine := false, more := [] })
def lawScope : Scope := (defParts PySem.Challenge.pw_pg0301_01.main.body).2
def lawFrom (k : Nat) : List Stmt := (defParts PySem.Challenge.pw_pg0301_01.main.body).1.drop k
end
section
open PySem PySem.W PyProof.Rows PySem.Calls PySem.Spec
theorem news_midL {h₀ h : Heap} {L : Addr} (l1 : List (Addr × Obj)) {q : Addr × Obj} {l2 : List (Addr × Obj)} (N : News h₀ L h (l1 ++ q :: l2)) : News h₀ L h (q :: (l1 ++ l2)) := List.forall_mem_cons.2 ⟨N _ (List.mem_append_right _ (.head _)), fun p hp => N p (by
  rcases List.mem_append.mp hp with h | h
  · exact List.mem_append_left _ h
  · exact List.mem_append_right _ (.tail _ h))⟩
theorem app_sub {α : Type} {l1 l2 l3 : List α} (h : ∀ p ∈ l2, p ∈ l3) : ∀ p ∈ l1 ++ l2, p ∈ l1 ++ l3 := fun p hp => by
  rcases List.mem_append.mp hp with g | g
  · exact List.mem_append_left _ g
  · exact List.mem_append_right _ (h p g)
theorem all_app {α : Type} {P : α → Prop} {l1 l2 : List α} (h : ∀ p ∈ l1, P p) (g : ∀ p ∈ l2, P p) : ∀ p ∈ l1 ++ l2, P p := List.forall_mem_append.2 ⟨h, g⟩
theorem all_cons {α : Type} {P : α → Prop} {q : α} {l : List α} (h : P q) (g : ∀ p ∈ l, P p) : ∀ p ∈ q :: l, P p := List.forall_mem_cons.2 ⟨h, g⟩
theorem off_all {I C D : Addr} {l : List (Addr × Obj)} (h1 : ∀ p ∈ l, @Ne Nat p.1 I) (h2 : ∀ p ∈ l, @Ne Nat p.1 C) (h3 : ∀ p ∈ l, @Ne Nat p.1 D) : ∀ p ∈ l, @Ne Nat p.1 I ∧ @Ne Nat p.1 C ∧ @Ne Nat p.1 D := fun p hp => ⟨h1 p hp, h2 p hp, h3 p hp⟩
end
section
open PySem PySem.W PyProof.Rows PySem.Calls PySem.Spec
local macro_rules | `(tactic| k_room) => `(tactic| ktr_room)
local macro_rules | `(tactic| k_mem) => `(tactic| (first | with_reducible_and_instances assumption | (repeat (first | with_reducible_and_instances exact List.Mem.head _ | with_reducible_and_instances assumption | apply List.Mem.tail)); done))
local macro_rules | `(tactic| k_lt $_h) => `(tactic| skip)
local macro_rules | `(tactic| walk_at "L1") => `(tactic| (first | with_reducible assumption | (refine lt_in (by with_reducible_and_instances assumption) ?_; (repeat (first | with_reducible exact InA.head | with_reducible refine InA.tail ?_)); done) | (refine lt_wo (by with_reducible assumption) ?_; (repeat (first | (with_reducible refine Bef.head ?_; (repeat (first | with_reducible exact Has.head | with_reducible refine Has.tail ?_)); done) | with_reducible refine Bef.tail ?_)); done)))
local macro_rules | `(tactic| walk_at "LT") => `(tactic| (first | walk_at "L1" | exact Nat.lt_succ_self _ | (refine Nat.lt_succ_of_lt ?_; walk_at "L1") | (refine Nat.lt_succ_of_lt (Nat.lt_succ_of_lt ?_); walk_at "L1")))
local macro_rules | `(tactic| k_ne) => `(tactic| (refine neN ?_; (try dsimp only); first | with_reducible assumption | (refine Nat.ne_of_lt ?_; walk_at "LT") | (refine Nat.ne_of_gt ?_; walk_at "LT") | omega))
local macro_rules | `(tactic| k_all) => `(tactic| first | with_reducible assumption | exact List.forall_mem_nil _ | (with_reducible refine' ne_cons ?a ?b; (case a => k_ne); (case b => k_all)) | (refine ne_suf (by with_reducible_and_instances assumption) ?_; (repeat (first | with_reducible exact Suf.here | with_reducible refine Suf.tail ?_)); done))
local macro_rules | `(tactic| k_enter) => `(tactic| (refine' code_def ?k1 ?k2 ?k3 ?k4 ?k5 ?kA ?kF ?kK ?k6 ?k7 ?k8 ?k9 ?kB ?_ ?c2 ?c3 ?c4 ?c5; (case kA => exact rfl); (case kF => exact rfl); (case kK => first | exact rfl | assumption); (case k1 => k_asm); (case k2 => k_asm); (case k3 => k_asm); (case k4 => k_asm); (case k5 => k_asm); (case k6 => k_is); (case k7 => k_is); (case k8 => ktr_room); (case k9 => first | exact BindsTo.of_eq rfl | exact binds_K (by k_in) rfl (by k_is) rfl rfl rfl | (refine' kp_binds ?kx ?ke; (case kx => k_in); (case ke => exact fun _ => rfl))); (case c5 => decide); (case kB => exact locs rfl); (case c2 => exact rfl); (case c3 => exact rfl); (case c4 => exact rfl); k_whole; intro g' L' h' FG' F' N' B' X' T'; (try dsimp only); (try k_fold)))
local macro_rules | `(tactic| walk_at "callWith ref") => `(tactic| (k_here; (with_reducible show wpAny _ _ (callWith _ (Value.ref _) [] (backTo _ (starEach (_ :: _) _)) []) _ _ _); k_dflt (first | (refine' callWith_bfmN ?n1 ?n2 ?_; (case n1 => k_asm); (case n2 => k_mem); k_whole) | (refine' callWith_bfmK ?n0 ?n1 ?_; (case n0 => k_asm); (case n1 => k_is); k_whole))))
local macro_rules | `(tactic| walk_at "And") => `(tactic| ((with_reducible show IsBfm _ _ _ _ ∧ _); k_dflt (first | (refine' And.intro (bfm_of ?n1 ?n2) ?_; (case n1 => k_asm); (case n2 => k_mem)) | (refine' And.intro (bfm_ofK ?n1 ?n2) ?_; (case n1 => k_in); (case n2 => k_is))); (try dsimp only [List.nil_append, List.cons_append])))
local macro_rules | `(tactic| walk_at "delItem ref ref") => `(tactic| (k_here; (with_reducible show wpAny _ _ (delItem (Value.ref _) (Value.ref _)) _ _ _); k_dflt (refine' delAllP ?d1 ?d2 ?d3 ?_ ?d6 ?d7; (case d1 => k_asm); (case d2 => k_asm); (case d3 => k_upd); (case d6 => (simp [strValues, sizeLine])); (case d7 => (simp [strValues]))); intro h' F' N'))
local macro_rules | `(tactic| walk_at "call ref") => `(tactic| (k_here; (with_reducible show wpAny _ _ (call (Value.ref _) [Value.str _ _]) _ _ _); k_dflt (refine' bfm_append ?b1 ?b2 (bfm_of ?b3 ?b4) ?b5 ?_ ?b6; (case b1 => k_asm); (case b2 => k_asm); (case b3 => k_asm); (case b4 => k_mem); (case b5 => k_upd); (case b6 => (simp [strValues, sizeLine]; try walk_at "AR"))); intro h' F' N'))
local macro_rules | `(tactic| k_upd) => `(tactic| first | exact TailF.here | (refine' TailF.cons ?tb; (case tb => k_upd)))
local macro_rules | `(tactic| k_updF) => `(tactic| first | (refine' UpdT.head ?ua ?ut; (case ua => k_all); (case ut => k_upd)) | (refine' UpdT.tail ?ua ?ub; (case ua => k_ne); (case ub => k_updF)))
local macro_rules | `(tactic| walk_at "truthy ref") => `(tactic| (k_here; k_dflt (first | (refine' truthyD0 ?N ?m ?d ?z ?_; (case N => k_asm); (case m => k_mem); (case d => with_reducible assumption); (case z => with_reducible assumption)) | (refine' truthyT ?N ?m ?T ?_; (case N => k_asm); (case m => k_mem); (case T => first | with_reducible exact TruthL.e0 | with_reducible exact TruthL.s0 | with_reducible exact TruthL.s1)))))
local macro_rules | `(tactic| walk_at "subscriptTail") => `(tactic| (k_here; (with_reducible show wpAny _ _ (subscriptTail _ _ (Value.ref _) (Value.int (-1) _)) _ _ _); k_dflt (refine' itemLast ?N ?m ?z ?_ ?hs; (case N => k_asm); (case m => k_mem); (case z => assumption); (case hs => with_unfolding_all rfl))))
local macro_rules | `(tactic| walk_at "call builtin:list.append") => `(tactic| (k_here; (with_reducible show wpAny _ _ (call (Value.builtin "list.append") [Value.ref _, _]) _ _ _); k_dflt (refine' appL ?F ?N ?U ?z ?_; (case F => k_asm); (case N => k_asm); (case U => k_upd); (case z => (simp only [List.length_append, List.length_cons, List.length_nil, strValues, List.length_map]; walk_at "AR"))); intro h' F' N'; (try dsimp only at N')))
local macro_rules | `(tactic| walk_at "subscriptTail") => `(tactic| (k_here; (with_reducible show wpAny _ _ (subscriptTail _ _ (Value.ref _) (Value.str _ _)) _ _ _); k_dflt (refine' dictItem ?N ?m ?d ?v ?_ ?hs; (case N => k_asm); (case m => k_mem); (case d => with_reducible assumption); (case v => with_reducible assumption); (case hs => with_unfolding_all rfl))))
local macro_rules | `(tactic| walk_at "setAttr ref") => `(tactic| (k_here; k_dflt (refine' set_dict ?k1 ?k2 ?k3 ?k4 ?k5 ?k6 ?k7 ?k8 ?k9 ?k10 ?k11 ?k12 ?k13 ?_; (case k1 => k_asm); (case k2 => k_asm); (case k3 => k_asm); (case k4 => k_inst); (case k5 => exact rfl); (case k6 => k_is); (case k7 => k_is); (case k8 => k_is); (case k9 => k_is); (case k10 => first | exact get_seen | exact get_done); (case k11 => first | with_reducible exact put_seen | with_reducible exact put_done); (case k12 => k_upd); (case k13 => exact Nat.le_of_ble_eq_true rfl)); intro h' F' N'; (try k_sweep)))
local macro_rules | `(tactic| walk_at "call builtin:list.pop") => `(tactic| (k_here; (with_reducible show wpAny _ _ (call (Value.builtin "list.pop") [Value.ref _]) _ _ _); k_dflt (refine' popL ?F ?N ?U ?z ?_; (case F => k_asm); (case N => k_asm); (case U => k_upd); (case z => walk_at "AR")); intro h' F' N'; (try dsimp only at N')))
local macro_rules | `(tactic| walk_at "call builtin:len") => `(tactic| (k_here; (with_reducible show wpAny _ _ (call (Value.builtin "len") [Value.ref _]) _ _ _); k_dflt (refine' lenL ?N ?m ?z ?_; (case N => k_asm); (case m => k_mem); (case z => walk_at "AR"))))
local macro_rules | `(tactic| walk_at "eval Name") => `(tactic| (k_here; k_dflt (refine' name_fr ?F ?l ?k ?x ?b ?m ?_; (case l => with_reducible rfl); (case x => exact rfl); (case k => exact rfl); (case b => decide +kernel); (case F => k_asm); (case m => ((try dsimp only); repeat (first | with_reducible assumption | exact if_pos rfl | refine Eq.trans (if_neg (by decide +kernel)) ?_))))))
local macro_rules | `(tactic| walk_at "loadName") => `(tactic| (k_here; k_dflt (refine' load_fr ?F ?l ?k ?x ?m ?_; (case l => with_reducible rfl); (case x => exact rfl); (case k => exact rfl); (case F => k_asm); (case m => ((try dsimp only); repeat (first | with_reducible assumption | exact if_pos rfl | refine Eq.trans (if_neg (by decide +kernel)) ?_))))))
local macro_rules | `(tactic| walk_at "AR0") => `(tactic| (first | (with_reducible assumption) | decide | (refine l0 (a := ?ara) ?arh ?are; (case arh => with_reducible assumption); (case are => rfl)) | (refine l1 (a := ?ara) ?arh ?are; (case arh => with_reducible assumption); (case are => rfl)) | (refine s0 (a := ?ara) ?arh ?are; (case arh => with_reducible assumption); (case are => rfl)) | (refine s1 (a := ?ara) ?arh ?are; (case arh => with_reducible assumption); (case are => rfl)) | (refine q0 (a := ?ara) ?arh ?are; (case arh => with_reducible assumption); (case are => rfl)) | (refine q1 (a := ?ara) ?arh ?are; (case arh => with_reducible assumption); (case are => rfl)) | (refine ltOf ?_; refine l1 (a := ?ara) ?arh ?are; (case arh => with_reducible assumption); (case are => rfl)) | (refine ltOf ?_; refine s1 (a := ?ara) ?arh ?are; (case arh => with_reducible assumption); (case are => rfl)) | (refine ltOf ?_; refine q1 (a := ?ara) ?arh ?are; (case arh => with_reducible assumption); (case are => rfl)) | (refine w0 (y := ?ary) (a := ?ara) ?arh ?arg ?are; (case arh => with_reducible assumption); (case arg => with_reducible assumption); (case are => rfl)) | (refine w2 (y := ?ary) (a := ?ara) ?arh ?arg ?are; (case arh => with_reducible assumption); (case arg => with_reducible assumption); (case are => rfl)) | (refine a2 (a := ?ara) (b := ?arb) ?arh ?arg ?are; (case arh => with_reducible assumption); (case arg => with_reducible assumption); (case are => rfl)) | (refine a3 (a := ?ara) (b := ?arb) ?arh ?arg ?are; (case arh => with_reducible assumption); (case arg => with_reducible assumption); (case are => rfl)) | (refine ngt ?_; refine z0 (a := ?ara) ?arh ?are; (case arh => with_reducible assumption); (case are => rfl)) | (refine l0 (a := ?ara) ?arh ?are; (case arh => (repeat (first | with_reducible assumption | (with_reducible refine slx ?_ ?_) | exact sq (by with_reducible assumption)))); (case are => rfl))))
local macro_rules | `(tactic| walk_at "AR") => `(tactic| (first | walk_at "AR0" | lia | omega))
local macro_rules | `(tactic| walk_at "RM") => `(tactic| (first | decide | (refine rm1 (a := ?ara) ?arh ?are; (case arh => with_reducible assumption); (case are => rfl)) | (refine rm2 (a := ?ara) ?arh ?are; (case arh => with_reducible assumption); (case are => rfl)) | (refine rm0 (a := ?ara) ?arh; (case arh => with_reducible assumption)) | (refine rm3 (a := ?ara) ?arh ?are; (case arh => with_reducible assumption); (case are => rfl)) | (refine rm4 (a := ?ara) ?arh ?are; (case arh => with_reducible assumption); (case are => rfl)) | (refine rn1 (m := ?arm) (a := ?ara) ?arh ?are; (case arh => with_reducible assumption); (case are => rfl)) | (refine rn2 (m := ?arm) (a := ?ara) ?arh ?are; (case arh => with_reducible assumption); (case are => rfl)) | (refine rn0 (m := ?arm) (a := ?ara) ?arh; (case arh => with_reducible assumption)) | (refine rr ?arh ?are; (case arh => with_reducible assumption); (case are => rfl))))
local macro_rules | `(tactic| ktr_room) => `(tactic| ((try dsimp only [depth_under_make, depth_under_kw, depth_in1, depth_deeper, depth_caller]); walk_at "RM"))
local macro_rules | `(tactic| ktr_units) => `(tactic| ((try dsimp only [units_in1, units_deeper, Around.mark_units, units_caller]); walk_at "RM"))
theorem topOff2 : True := by
  w_top off
  trivial
section
open PySem PySem.W PyProof.Rows PySem.Calls PySem.Spec
local macro_rules | `(tactic| walk_at "ite") => `(tactic| first | (with_reducible refine' occ_pos ?oc ?_; (case oc => decide +kernel)) | (with_reducible refine' occ_neg ?oc ?_; (case oc => decide +kernel)))
local macro_rules | `(tactic| walk_at "execs cons") => `(tactic| (k_here; (with_reducible refine wpAny_execs_cons ?_); try dsimp only))
local macro_rules | `(tactic| walk_at "execs nil") => `(tactic| (k_here; (with_reducible refine wpAny_execs_nil ?_); try dsimp only))
local macro_rules | `(tactic| walk_at "call builtin:str.replace") => `(tactic| (k_here; refine' replaceP ?p1 ?p2 ?p3 ?p4 ?p5 ?p6 ?_; (case p1 => exact Nat.succ_ne_zero _); (case p2 => exact Nat.succ_ne_zero _); (case p3 => first | exact Nat.succ_ne_self _ | exact Nat.ne_of_lt (Nat.lt_succ_self _)); (case p4 => decide +kernel); (case p5 => decide +kernel); (case p6 => decide +kernel)))
inductive Mark : Str → Str → Prop
  | amp : Mark (Str.ofString "&") (Str.ofString "&amp;")
  | lt : Mark (Str.ofString "<") (Str.ofString "&lt;")
  | gt : Mark (Str.ofString ">") (Str.ofString "&gt;")
  | cr : Mark (Str.ofString "\r") (Str.ofString "&#xD;")
  | quot : Mark (Str.ofString "\"") (Str.ofString "\"")
  | dot : Mark (Str.ofString ".") (Str.ofString ".")
theorem Mark.ne {x y : Str} (h : Mark x y) : (x.length == 0) = false := by cases h <;> decide +kernel
theorem Mark.pos {x y : Str} (h : Mark x y) : 1 ≤ x.length := by cases h <;> decide +kernel
theorem Mark.len {x y : Str} (h : Mark x y) : x.length ≤ 10 ∧ y.length ≤ 10 := by cases h <;> decide +kernel
set_option maxHeartbeats 2000000 in
theorem esc_mark (w : World) (dp un : Nat) (gd : Option (List Code)) (cn : Str) (cs : Scope) (a : Addr) (ccd : Value) (cl : List (Str × Addr)) (outer : List Env) (A₀ : Around) (base h₀ : Heap) (L : Addr) (m mg mb : Str → Option Value) (mean : ExcName → Option Value) (s : Shared) (Q E : Value → Shared → Prop)
    (news : List (Addr × Obj)) (tx : Tok) (mk im : Str) (hmk : Mark mk im)
    (B : Below A₀ base outer h₀) (F : Fr h₀ L s.heap m) (X : (hd1.heap_39 w.params).In h₀) (T : Top topProg lo3 mean mg mb h₀)
    (hk : cs.kind = .function) (hd : dp + 20 < recursionLimit) (hu : un + 200 < cLine)
    (N : News h₀ L s.heap (news))
    
    (hQ : ∀ t h' tk', 0 < tk' → Fr h₀ L h' m → News h₀ L h' news → Q (.str im t) { s with heap := h', toks := tk' }) :
    wpAny (model P3 w) (ktrTop dp un gd cn cs L a ccd cl outer) (call (.ref 161) [.str mk tx]) Q E s := by
  cases hmk
  all_goals
    refine wpAny_call ?_
    k_dflt k_enter
    k_steps
    refine' hQ _ _ _ ?pp ?pq ?pr
    case pq => assumption
    case pr => assumption
    case pp => exact Nat.succ_pos _

set_option maxHeartbeats 2000000 in
theorem esc_attr0 (w : World) (dp un : Nat) (gd : Option (List Code)) (cn : Str) (cs : Scope) (a : Addr) (ccd : Value) (cl : List (Str × Addr)) (outer : List Env) (A₀ : Around) (base h₀ : Heap) (L : Addr) (m mg mb : Str → Option Value) (mean : ExcName → Option Value) (s : Shared) (Q E : Value → Shared → Prop)
    (news : List (Addr × Obj)) (tx : Tok)
    (B : Below A₀ base outer h₀) (F : Fr h₀ L s.heap m) (X : (hd1.heap_39 w.params).In h₀) (T : Top topProg lo3 mean mg mb h₀)
    (hk : cs.kind = .function) (hd : dp + 20 < recursionLimit) (hu : un + 200 < cLine)
    (N : News h₀ L s.heap (news))
    
    (hQ : ∀ t h' tk', 0 < tk' → Fr h₀ L h' m → News h₀ L h' news → Q (.str (Str.ofString "") t) { s with heap := h', toks := tk' }) :
    wpAny (model P3 w) (ktrTop dp un gd cn cs L a ccd cl outer) (call (.ref 168) [.str (Str.ofString "") tx]) Q E s := by
  refine wpAny_call ?_
  k_dflt k_enter
  k_steps
  refine' hQ _ _ _ ?pp ?pq ?pr
  case pq => assumption
  case pr => assumption
  case pp => exact Nat.succ_pos _


def AttrV (v ev : Str) : Prop := v = Str.ofString "" ∧ ev = Str.ofString ""
theorem AttrV.len {v ev : Str} (h : AttrV v ev) : v.length ≤ 100 ∧ ev.length ≤ 100 := by obtain ⟨rfl, rfl⟩ := h; decide +kernel
set_option maxHeartbeats 2000000 in
theorem esc_attrV (w : World) (dp un : Nat) (gd : Option (List Code)) (cn : Str) (cs : Scope) (a : Addr) (ccd : Value) (cl : List (Str × Addr)) (outer : List Env) (A₀ : Around) (base h₀ : Heap) (L : Addr) (m mg mb : Str → Option Value) (mean : ExcName → Option Value) (s : Shared) (Q E : Value → Shared → Prop)
    (news : List (Addr × Obj)) (tx : Tok) (v ev : Str) (hav : AttrV v ev)
    (B : Below A₀ base outer h₀) (F : Fr h₀ L s.heap m) (X : (hd1.heap_39 w.params).In h₀) (T : Top topProg lo3 mean mg mb h₀)
    (hk : cs.kind = .function) (hd : dp + 20 < recursionLimit) (hu : un + 200 < cLine)
    (N : News h₀ L s.heap (news))
    
    (hQ : ∀ t h' tk', 0 < tk' → Fr h₀ L h' m → News h₀ L h' news → Q (.str ev t) { s with heap := h', toks := tk' }) :
    wpAny (model P3 w) (ktrTop dp un gd cn cs L a ccd cl outer) (call (.ref 168) [.str v tx]) Q E s := by
  obtain ⟨rfl, rfl⟩ := hav
  exact esc_attr0 w dp un gd cn cs a ccd cl outer A₀ base h₀ L m mg mb mean s Q E news tx B F X T hk hd hu N hQ
end
theorem topOff3 : True := by
  w_top off
  trivial
section
open PySem PySem.W PyProof.Rows PySem.Calls PySem.Spec
local macro_rules | `(tactic| walk_at "call ref") => `(tactic| (k_here; (with_reducible show wpAny _ _ (call (Value.ref 161) _) _ _ _); k_dflt (refine' esc_mark _ _ _ _ _ _ _ _ _ _ _ _ _ _ _ _ _ _ _ _ _ _ _ _ _ (by assumption) ?uB ?uF ?uX ?uT ?uk ?ud ?uu ?uN  ?_; (case uB => k_asm); (case uF => k_asm); (case uX => k_in); (case uT => k_asm); (case uk => first | exact rfl | assumption); (case ud => ktr_room); (case uu => ktr_units); (case uN => k_asm)); intro t' h' tk' p' F' N'))
local macro_rules | `(tactic| walk_at "truthy str") => `(tactic| (k_here; (try dsimp only); (refine KXt.truthy_pos (K := 10) (Mark.pos (by assumption)) (Mark.len (by assumption)).1 (by decide) ?_); intro _))
set_option maxHeartbeats 2000000 in
theorem flush_c (w : World) (dp un : Nat) (gd : Option (List Code)) (cn : Str) (cs : Scope) (a : Addr) (ccd : Value) (cl : List (Str × Addr)) (outer : List Env) (A₀ : Around) (base h₀ : Heap) (L : Addr) (m mg mb : Str → Option Value) (mean : ExcName → Option Value) (s : Shared) (Q E : Value → Shared → Prop)
    (rest : List (Addr × Obj)) (tk : Nat → Tok) (t0 : Tok) (wd wr q pc dl nsd ns pm ps : Nat) (seen done : Bool) (pcs dts : List (Str × Tok)) (nsds nss pss : List Value) (tb : Array Value) (e0 e1 e2 e3 e4 e5 : Nat) (tx : Tok) (mk im : Str) (hmk : Mark mk im)
    (B : Below A₀ base outer h₀) (F : Fr h₀ L s.heap m) (X : (hd1.heap_39 w.params).In h₀) (T : Top topProg lo3 mean mg mb h₀)
    (hk : cs.kind = .function) (hd : dp + 30 < recursionLimit) (hu : un + 400 < cLine)
    (N : News h₀ L s.heap (wCells w.params tk t0 wd wr q pc dl nsd ns pm ps true done pcs [(mk, tx)] nsds nss pss tb e0 e1 e2 e3 e4 e5 rest))
    (ho : WOrd wd wr q pc dl nsd ns pm ps) (hr : WOff wd pc dl nsd ns ps rest) (hpc : pcs.length ≤ 1000)
    (hQ : ∀ t h' tk' f1 f2, Fr h₀ L h' m → News h₀ L h' (wCells w.params tk t0 wd wr q pc dl nsd ns pm ps true done (pcs ++ [(im, t)]) [] nsds nss pss tb e0 f1 f2 e3 e4 e5 rest) → Q .none { s with heap := h', toks := tk' }) :
    wpAny (model P3 w) (ktrTop dp un gd cn cs L a ccd cl outer) (call (.ref 106) [.ref wr]) Q E s := by
  obtain ⟨r1, r2, r3, r4, r5, r6, r7⟩ := id hr
  have hmn := hmk.ne
  have hml := hmk.len
  dsimp only [wCells] at N
  refine wpAny_call ?_
  k_dflt k_enter
  k_steps
  refine' bfm_join (l := [(mk, tx)]) (bfm_ofK ?j1 ?j2) (listOf_isList (News.get ?j3 ?j4)) ?j5 ?_
  case j1 => k_in
  case j2 => k_is
  case j3 => k_asm
  case j4 => k_mem
  case j5 =>
    simp only [Builtin.Str.tooLong, decide_eq_false_iff_not, Nat.not_lt, sizeLine_eq]
    show 0 + mk.length + _ ≤ _
    have e9 : (Str.ofString "").length = 0 := by decide +kernel
    rw [e9]
    lia
  show wpAny _ _ _ _ _ _
  k_steps
  refine' hQ _ _ _ _ _ ?z1 ?z2
  case z1 => assumption
  case z2 =>
    dsimp only [wCells]
    rw [← strValues_push]
    rename (News _ _ _ _) => N9
    exact N9
end
theorem topOff4 : True := by
  w_top off
  trivial
section
open PySem PySem.W PyProof.Rows PySem.Calls PySem.Spec
local macro_rules | `(tactic| walk_at "ite") => `(tactic| (with_reducible refine' occ_neg ?oc ?_; (case oc => assumption)))
set_option maxHeartbeats 2000000 in
theorem qname_code (w : World) (dp un : Nat) (gd : Option (List Code)) (cn : Str) (cs : Scope) (a : Addr) (ccd : Value) (cl : List (Str × Addr)) (outer : List Env) (A₀ : Around) (base h₀ : Heap) (L : Addr) (m mg mb : Str → Option Value) (mean : ExcName → Option Value) (s : Shared) (Q E : Value → Shared → Prop)
    (news : List (Addr × Obj)) (wr wd nsd n0 tp : Nat) (q dl ns pm ps : Value) (tk : Nat → Tok) (t0 t1 t2 tx : Tok) (n1 n2 nd : Nat) (seen done : Bool) (items : Array Value) (x : Str)
    (B : Below A₀ base outer h₀) (F : Fr h₀ L s.heap m) (X : (hd1.heap_39 w.params).In h₀) (T : Top topProg lo3 mean mg mb h₀)
    (hk : cs.kind = .function) (hd : dp + 20 < recursionLimit) (hu : un + 200 < cLine)
    (N : News h₀ L s.heap (news))
    (w1 : (wd, dictOf (wdict w.params tk q dl (.ref nsd) ns pm ps .none seen done t0) nd) ∈ news) (w2 : (wr, instObj 150 wd) ∈ news)
    (w3 : (nsd, listOf items n1) ∈ news) (h0 : items[0]? = some (.ref n0)) (w4 : (n0, listOf #[.ref tp] n2) ∈ news)
    (w5 : (tp, tupOf [.str (Str.ofString "http://www.w3.org/XML/1998/namespace") t1, .str (Str.ofString "xml") t2]) ∈ news)
    (w6 : ∀ (k : Nat) (v : Value), 0 < k → items[k]? = some v → ∃ e n, v = .ref e ∧ (e, listOf #[] n) ∈ news) (hb : AllBare s.gens) (hx : ¬ ((Txt.slice x none (some 1) == Str.ofString "{") = true)) (hl : x.length ≤ 1024)
    (hQ : ∀ (R : Nat) u1 u2 u3 h' tk' gens', Fr h₀ L h' m → News h₀ L h' ((R, tupOf [.str x u1, .str x u2, .str (Str.ofString "") u3]) :: news) → (∀ p ∈ news, p.1 < R) → AllBare gens' → Q (.ref R) { s with heap := h', toks := tk', gens := gens' }) :
    codeAny (model P3 w) (ktrTop dp un gd cn cs L a ccd cl outer) (.call (.ref 90) ⟨[.ref wr, .str x tx], []⟩) (fun r s' => match r with | .ok (.ret v) => Q v s' | .ok _ => False | .error e => E e s') s := by
  k_dflt k_enter
  k_steps
  refine gnf_for 4 ?_
  k_steps
  k_dflt (refine' k_callGen ?cF ?cX ?cN ?cL ?cho ?chc ?cro ?cbi ?clo ?ch ?cco ?cge ?ckd ?cce)
  case cF => k_asm
  case cX => k_asm
  case cN => k_asm
  case cL => exact TopRead.nolimit (by k_asm)
  case cho => k_is
  case chc => k_is
  case cro => ktr_room
  case cbi => first | exact BindsTo.of_eq rfl | exact binds_K (by k_in) rfl (by k_is) rfl rfl rfl | (refine' kp_binds ?kx ?ke; (case kx => k_in); (case ke => exact fun _ => rfl))
  case clo => exact locs rfl
  case cco => exact rfl
  case cge => exact rfl
  case ckd => exact rfl
  case cce => decide
  case ch =>
    intro L₂ oF G tg h₁ tk₁ F₁ N₁ lts lG hFr
    refine ⟨_, _, rfl, genObj_isGen (N₁ _ (.head _)).1, ⟨_, (N₁ _ (.head _)).1, rfl⟩, ?_⟩
    refine' k_ns1 (n0 := n0) (n1 := n1) (n2 := n2) F₁ N₁ ?a1 ?a2 ?a3 ?a4 ?a5 ?a6 hFr ?a7 ?a8 ?a9 h0 ?aA ?aB lts lG ?aC
    case a7 => exact rfl
    case a8 => exact rfl
    case a5 => (simp only [Array.getElem?_push_size]; exact rfl)
    case a6 => exact rfl
    case a1 => exact rfl
    case a2 => exact TopRead.nolimit (by k_asm)
    case a3 => ktr_room
    case a4 => constructor <;> exact rfl
    case a9 => k_mem
    case aA => k_mem
    case aB => exact fun k v hk hv => let ⟨e, n, a, b⟩ := w6 k v hk hv; ⟨e, n, a, by k_mem⟩
    case aC =>
    intro I oI oJ h₂ tk₂ gs' F₂ N₂ lt₂ hS hJ hI
    refine ⟨⟨_, (N₂ _ (.tail _ (.tail _ (.head _)))).1, rfl⟩, ?_⟩
    dsimp only [GnfTurn]
    have e3 := fun p hp => Nat.lt_trans (lts p hp) lG
    have e1 : @LT.lt Nat _ I (I + 1) := Nat.lt_succ_self I
    have e2 : @LT.lt Nat _ G I := lt₂ _ (.head _)
    k_steps
    dsimp only [GnfFlow, GnfRest]
    refine ⟨newsGen (nm := Str.ofString "_iter_namespaces") (by k_asm) (by k_mem), ?_⟩
    refine' k_ns2 ?b1 ?b2 ?b3 ?b4 ?b5 ?b6 hS hJ hI ?b7 ?b8 ?b9 ?bA
    case b1 => k_asm
    case b2 => k_asm
    case b3 => exact rfl
    case b4 => exact TopRead.nolimit (by k_asm)
    case b5 => ktr_room
    case b6 => simp
    case b7 => k_mem
    case b8 => exact e2
    case b9 =>
      exact List.forall_mem_cons.2 ⟨lt_in lt₂ (.tail .head), fun p hp => lt₂ p (.tail _ (.tail _ hp))⟩
    intro h₃ F₃ N₃
    refine ⟨⟨_, (N₃ _ (.head _)).1, rfl⟩, ?_⟩
    dsimp only [GnfTurn]
    k_steps
    refine' hQ _ _ _ _ _ _ _ ?z1 (newsSub ?z2 ?z3) ?z4 (bareDone hb)
    case z1 => assumption
    case z2 => assumption
    case z4 => exact lt_suf (by with_reducible_and_instances assumption) (by repeat (first | with_reducible exact Suf.here | with_reducible refine Suf.tail ?_))
    case z3 =>
      intro p hp
      rcases List.mem_cons.mp hp with rfl | hp
      · exact List.Mem.head _
      · k_mem

set_option maxHeartbeats 2000000 in
theorem qname_c (w : World) (dp un : Nat) (gd : Option (List Code)) (cn : Str) (cs : Scope) (a : Addr) (ccd : Value) (cl : List (Str × Addr)) (outer : List Env) (A₀ : Around) (base h₀ : Heap) (L : Addr) (m mg mb : Str → Option Value) (mean : ExcName → Option Value) (s : Shared) (Q E : Value → Shared → Prop)
    (news : List (Addr × Obj)) (wr wd nsd n0 tp : Nat) (q dl ns pm ps : Value) (tk : Nat → Tok) (t0 t1 t2 tx : Tok) (n1 n2 nd : Nat) (seen done : Bool) (items : Array Value) (x : Str)
    (B : Below A₀ base outer h₀) (F : Fr h₀ L s.heap m) (X : (hd1.heap_39 w.params).In h₀) (T : Top topProg lo3 mean mg mb h₀)
    (hk : cs.kind = .function) (hd : dp + 20 < recursionLimit) (hu : un + 200 < cLine)
    (N : News h₀ L s.heap (news))
    (w1 : (wd, dictOf (wdict w.params tk q dl (.ref nsd) ns pm ps .none seen done t0) nd) ∈ news) (w2 : (wr, instObj 150 wd) ∈ news)
    (w3 : (nsd, listOf items n1) ∈ news) (h0 : items[0]? = some (.ref n0)) (w4 : (n0, listOf #[.ref tp] n2) ∈ news)
    (w5 : (tp, tupOf [.str (Str.ofString "http://www.w3.org/XML/1998/namespace") t1, .str (Str.ofString "xml") t2]) ∈ news)
    (w6 : ∀ (k : Nat) (v : Value), 0 < k → items[k]? = some v → ∃ e n, v = .ref e ∧ (e, listOf #[] n) ∈ news) (hb : AllBare s.gens) (hx : ¬ ((Txt.slice x none (some 1) == Str.ofString "{") = true)) (hl : x.length ≤ 1024)
    (hQ : ∀ (R : Nat) u1 u2 u3 h' tk' gens', Fr h₀ L h' m → News h₀ L h' ((R, tupOf [.str x u1, .str x u2, .str (Str.ofString "") u3]) :: news) → (∀ p ∈ news, p.1 < R) → AllBare gens' → Q (.ref R) { s with heap := h', toks := tk', gens := gens' }) :
    wpAny (model P3 w) (ktrTop dp un gd cn cs L a ccd cl outer) (call (.ref 90) [.ref wr, .str x tx]) Q E s := by
  exact wpAny_call (qname_code w dp un gd cn cs a ccd cl outer A₀ base h₀ L m mg mb mean s Q E news wr wd nsd n0 tp q dl ns pm ps tk t0 t1 t2 tx n1 n2 nd seen done items x B F X T hk hd hu N w1 w2 w3 h0 w4 w5 w6 hb hx hl hQ)
end
theorem topOff5 : True := by
  w_top off
  trivial
section
open PySem PySem.W PyProof.Rows PySem.Calls PySem.Spec

abbrev lamBody : PySem.Expr := .Call (.Attribute (.Name (Str.ofString "n") ⟨135, 81, 135, 82⟩) (Str.ofString "split") ⟨135, 81, 135, 88⟩) [.Constant (.str (Str.ofString "}")) 0 ⟨135, 89, 135, 92⟩, .Constant (.int 1) 0 ⟨135, 94, 135, 95⟩] [] ⟨135, 81, 135, 96⟩
abbrev lamScope : Scope := { kind := .function, names := [(Str.ofString "n", .local)], isGenerator := false, isCoroutine := false }
abbrev lamArgs : Arguments := { posonlyargs := [], args := [{ arg := Str.ofString "n", annotation := none, pos := ⟨135, 78, 135, 79⟩ }], vararg := none, kwonlyargs := [], kw_defaults := [], kwarg := none, defaults := [] }
abbrev lamPos : Pos := ⟨135, 71, 135, 96⟩
abbrev lamQ : Str := Str.ofString "C14NWriterTarget._start" ++ ".<locals>." ++ "<lambda>"
theorem one_of {l : List (Str × Tok)} {x : Str} (h : l.map (·.1) = [x]) : ∃ t, l = [(x, t)] := by
  match l, h with
  | [(y, t)], h => exact ⟨t, by simp at h; rw [h]⟩
set_option maxHeartbeats 1000000 in
theorem lam_one (w : World) (A A₀ : Around) (env : Env) (outer : List Env) (base h₀ : Heap) (L : Addr) (m mg mb : Str → Option Value) (mean : ExcName → Option Value) (s : Shared) (Q E : Value → Shared → Prop) (news rest : List (Addr × Obj)) (fa c' : Addr) (q x : Str) (tx : Tok) (pm ctv : Value)
    (B : Below A₀ base outer h₀) (F : Fr h₀ L s.heap m) (X : (hd1.heap_39 w.params).In h₀) (T : Top topProg lo3 mean mg mb h₀) (hA : A.frames = some (env :: outer)) (hfr : env.frame = some L) (hke : env.scope.kind = .function) (hd : A.depth + 20 < recursionLimit) (hu : A.units + 50 < cLine)
    (N : News h₀ L s.heap news) (hm : (fa, kla_obj (Str.ofString "<lambda>") q lamArgs lamBody lamScope [] pm c' ctv) ∈ news) (hc : CodeObj q c' rest) (hsub : ∀ p ∈ rest, p ∈ news) (hx : Txt.splitMax x (Str.ofString "}") 1 = [x]) (hl : x.length ≤ 1024)
    (hQ : ∀ (l : Nat) h' tk' t' k, Fr h₀ L h' m → News h₀ L h' ((l, listOf #[.str x t'] k) :: news) → (∀ p ∈ news, p.1 < l) → Q (.ref l) { s with heap := h', toks := tk' }) :
    wpAny (model P3 w) A (call (.ref fa) [.str x tx]) Q E s := by
  refine wpAny_call ?_
  refine kla_code B F X N T hA hfr hke hm (hc.rec_ N hsub) (by lia) (binds := [(Str.ofString "n", .str x tx)]) rfl (locs rfl) ?_ rfl rfl rfl (by decide)
  intro g' L' h1 FG F' N' B' X' T'
  have hlt9 : ∀ p ∈ news, p.1 < h1.objs.size := fun p hp => Heap.lt_size (N' p hp).1
  dsimp only [lamBody, lamScope, lamArgs]
  (try k_fold)
  repeat (first | (k_unfold; (try dsimp only)) | walk1 | (dsimp only; walk1) | (leave1; try dsimp only))
  rename (List.map _ _ = Txt.splitMax x (Str.ofString "}") 1) => e9
  rename (News h₀ L _ _) => N9
  rw [hx] at e9
  obtain ⟨t', e8⟩ := one_of e9
  subst e8
  exact hQ _ _ _ t' 0 (by assumption) N9 hlt9
end
local macro_rules | `(tactic| walk_at "eval Set") => `(tactic| (k_here; k_dflt (refine' set_star ?F ?N ?X ?c ?_; (case F => k_asm); (case N => k_asm); (case X => k_asm); (case c => first | k_is | kernel_rfl!)); intro d' h' F' N' l1; (try k_lt l1)))
local macro_rules | `(tactic| walk_at "setAdd str") => `(tactic| (k_here; (with_reducible show wpAny _ _ (setAdd _ (Value.str _ _)) _ _ _); k_dflt (refine' setAdd_first ?F ?N ?U ?_; (case F => k_asm); (case N => k_asm); (case U => k_updF)); intro h' t' tl' F' N'; (try dsimp only at N')))
local macro_rules | `(tactic| walk_at "setDisplayStar") => `(tactic| (k_here; k_dflt (refine' star0 ?F ?N ?hh ?hA ?hd ?hs ?hD ?ht ?_; (case F => k_asm); (case N => k_asm); (case hh => exact rfl); (case hA => k_mem); (case hd => assumption); (case hs => assumption); (case hD => k_mem); (case ht => assumption)); intro h' F' N'))
local macro_rules | `(tactic| walk_at "subscriptTail") => `(tactic| (k_here; (with_reducible show wpAny _ _ (subscriptTail _ _ (Value.ref _) (Value.int 0 _)) _ _ _); k_dflt (refine' tupItem0 ?N ?m ?k ?z ?x ?_ ?hs; (case N => k_asm); (case m => k_mem); (case k => exact Nat.zero_lt_succ _); (case z => exact Nat.le_of_ble_eq_true rfl); (case x => exact rfl); (case hs => with_unfolding_all rfl))))
local macro_rules | `(tactic| walk_at "eval Name") => `(tactic| (k_here; (with_reducible show wpAny _ _ (eval _ (compEnvC _ _ _ _)) _ _ _); k_dflt (refine' ld_cell ?N ?c ?m ?d ?_; (case N => k_asm); (case c => exact rfl); (case m => k_mem); (case d => with_reducible assumption))))
theorem topOff6 : True := by
  w_top off
  trivial
section
open PySem PySem.W PyProof.Rows PySem.Calls PySem.Spec
inductive QP (nb : List (Addr × Obj)) (zs : List (Str × Tok)) (s₁ : Shared) (i : Nat) (kv : List (Str × Value)) (nw : List (Addr × Obj)) (s : Shared) : Prop
  | mk (h : Heap) (tk : Nat) (g : Array GenState) (d : Drawn) (e : s = { s₁ with heap := h, toks := tk, gens := g, drawn := d }) (hk : kv.map (·.1) = (zs.take i).map (·.1))
    (hm : ∀ p ∈ kv, ∃ R u1 u2 u3, p.2 = .ref R ∧ (R, tupOf [.str p.1 u1, .str p.1 u2, .str (Str.ofString "") u3]) ∈ nw) (hs : ∀ p ∈ nb, p ∈ nw) (hb : AllBare g)
theorem stored_new {kv : List (Str × Value)} {z : Str} {y : Value} (h : z ∉ kv.map (·.1)) : stored kv z y = kv ++ [(z, y)] := by
  unfold stored
  have e : (kv.any fun p => decide (p.1 = z)) = false := by
    rw [List.any_eq_false]
    intro p hp q
    exact h ((of_decide_eq_true q) ▸ List.mem_map_of_mem hp)
  rw [e, if_neg (by decide)]
def NameOk (n : Str) : Prop := ¬ ((Txt.slice n none (some 1) == Str.ofString "{") = true) ∧ n.length ≤ 1024 ∧ Txt.splitMax n (Str.ofString "}") 1 = [n] ∧ (n == Str.ofString "{http://www.w3.org/XML/1998/namespace}space") = false
def atKv (v : Str) (kvs : List (Str × Tok)) : List (Str × Value) := kvs.map fun p => (p.1, .str v p.2)
theorem zs_nodup {w : World} {oA : Obj} {kvs zs : List (Str × Tok)} {v x : Str} (hzn : zs.map (·.1) = (kvs.map (·.1)).reverse ++ [x]) (d1 : oA.IsDictOf (PySem.strKind P3 w) (atKv v kvs)) (hxk : x ∉ kvs.map (·.1)) : (zs.map (·.1)).Nodup := by
  obtain ⟨es, ep, hx, hdd, hkk, hp, hnn⟩ := d1
  have hnn' : (kvs.map (·.1)).Nodup := by
    unfold atKv at hnn
    rw [List.map_map] at hnn
    exact hnn
  rw [hzn, List.nodup_append]
  exact ⟨(List.reverse_perm _).nodup_iff.mpr hnn', by simp, fun a ha b hb e => by
    rw [List.mem_singleton] at hb
    exact hxk (hb ▸ e ▸ List.mem_reverse.mp ha)⟩
def atOne (ev y : Str) : Str := Str.empty ++ Str.ofString " " ++ y ++ Str.ofString "=\"" ++ ev ++ Str.ofString "\""
def atPcs (so : List (Str × Tok)) (ev : Str) (t : Tok) : List (Str × Tok) := if so = [] then [] else [(catS (so.map fun p => atOne ev p.1), t)]
abbrev tupO' (x : Str) (t : Tok) (v : Value) : Obj := { cls := .type "tuple", data := .seq #[.str x t, v] }
inductive AtMid (h₀ : Heap) (L : Addr) (s₁ : Shared) (v : Str) (so : List (Str × Tok)) (m0 : Str → Option Value) (nb : List (Addr × Obj)) (la : Addr) (g : Array GenState) (d : Drawn) : Flow → Shared → Prop
  | mk (h : Heap) (tk : Nat) (m' : Str → Option Value) (as : List Addr) (e : Nat) (nw : List (Addr × Obj)) (F : Fr h₀ L h m') (hm : ∀ y, y ≠ Str.ofString "k" → y ≠ Str.ofString "v" → y ≠ Str.ofString "attr_qname" → y ≠ Str.ofString "attr_name" → y ≠ Str.ofString "uri" → m' y = m0 y)
    (N : News h₀ L h ((la, listOf (as.map Value.ref).toArray e) :: nw)) (hs : ∀ p ∈ nb, p ∈ nw) (ho : ∀ p ∈ nw, p.1 ≠ la) (hl : as.length = so.length) (ha : ∀ (i : Nat) (a : Addr) (p : Str × Tok), as[i]? = some a → so[i]? = some p → ∃ t t', (a, tupO' p.1 t (.str v t')) ∈ nw) :
    AtMid h₀ L s₁ v so m0 nb la g d .next { s₁ with heap := h, toks := tk, gens := g, drawn := d }
theorem allLt_mem {d : Addr} {l : List (Addr × Obj)} {p : Addr × Obj} (h : AllLt d l) (hp : p ∈ l) : @LT.lt Nat _ p.1 d := by
  induction l with
  | nil => exact absurd hp List.not_mem_nil
  | cons q l ih =>
    rcases List.mem_cons.mp hp with e | hp
    · rw [e]; exact h.1
    · exact ih h.2 hp
theorem news_ne {h₀ h : Heap} {L : Addr} {l : List (Addr × Obj)} {a b : Addr} {oa ob : Obj} (N : News h₀ L h l) (ha : (a, oa) ∈ l) (hb : (b, ob) ∈ l) (hc : oa ≠ ob) : a ≠ b := fun e => by
  have q := N.get hb
  rw [← e, N.get ha] at q
  exact hc (Option.some.inj q)
theorem cut4 {h₀ h : Heap} {L : Addr} {l a b c d : Addr × Obj} {nw : List (Addr × Obj)} (N : News h₀ L h (l :: nw)) (ha : a ∈ nw) (hb : b ∈ nw) (hc : c ∈ nw) (hd : d ∈ nw) :
    ∃ nx, News h₀ L h (l :: a :: b :: c :: d :: nx) ∧ (∀ p ∈ nw, p.1 ≠ a.1 → p.1 ≠ b.1 → p.1 ≠ c.1 → p.1 ≠ d.1 → p ∈ nx) ∧ (∀ p ∈ nx, p.1 ≠ a.1 ∧ p.1 ≠ b.1 ∧ p.1 ≠ c.1 ∧ p.1 ≠ d.1 ∧ p ∈ nw) := by
  refine ⟨nw.filter fun p => decide (p.1 ≠ a.1 ∧ p.1 ≠ b.1 ∧ p.1 ≠ c.1 ∧ p.1 ≠ d.1), fun p hp => N p ?_, fun p hp h1 h2 h3 h4 => List.mem_filter.mpr ⟨hp, decide_eq_true ⟨h1, h2, h3, h4⟩⟩, fun p hp => ?_⟩
  · simp only [List.mem_cons, List.mem_filter] at hp ⊢
    rcases hp with h | h | h | h | h | h
    · exact .inl h
    · exact .inr (h ▸ ha)
    · exact .inr (h ▸ hb)
    · exact .inr (h ▸ hc)
    · exact .inr (h ▸ hd)
    · exact .inr h.1
  · obtain ⟨h1, h2⟩ := List.mem_filter.mp hp
    have h3 := of_decide_eq_true h2
    exact ⟨h3.1, h3.2.1, h3.2.2.1, h3.2.2.2, h1⟩
inductive PcMid (h₀ : Heap) (L : Addr) (s₁ : Shared) (m' : Str → Option Value) (la wdo nso pso : Addr × Obj) (nx : List (Addr × Obj)) (pc : Addr) (X0 : List (Str × Tok)) (so : List (Str × Tok)) (ev : Str) (g : Array GenState) (d : Drawn) : Flow → Shared → Prop
  | mk (h : Heap) (tk t3 f : Nat) (F : Fr h₀ L h m') (N : News h₀ L h (la :: wdo :: (pc, W.listOf (strValues (X0 ++ atPcs so ev t3)).toArray f) :: nso :: pso :: nx)) : PcMid h₀ L s₁ m' la wdo nso pso nx pc X0 so ev g d .next { s₁ with heap := h, toks := tk, gens := g, drawn := d }
theorem pc_mid {M : Model} {A : Around} {t : Sem Flow} {E : Value → Shared → Prop} {Q : Flow → Shared → Prop} {s s9 : Shared} {h₀ h : Heap} {L : Addr} {m' : Str → Option Value} {la wdo nso pso : Addr × Obj} {nx : List (Addr × Obj)} {pc : Addr} {X0 : List (Str × Tok)} {f0 : Nat} {so : List (Str × Tok)} {ev : Str} {g : Array GenState} {d : Drawn}
    (_F : Fr h₀ L h m') (_N : News h₀ L h (la :: wdo :: (pc, W.listOf (strValues X0).toArray f0) :: nso :: pso :: nx))
    (h1 : wpAny M A t (PcMid h₀ L s m' la wdo nso pso nx pc X0 so ev g d) E s9) (h2 : ∀ fl s', PcMid h₀ L s m' la wdo nso pso nx pc X0 so ev g d fl s' → Q fl s') : wpAny M A t Q E s9 := wpAny_mono h1 h2 fun _ _ x => x
inductive CP (N0 : List (Addr × Obj)) (so : List (Str × Tok)) (ev : Str) (i : Nat) (ys : List Value) (nw : List (Addr × Obj)) : Prop
  | mk (l : List (Str × Tok)) (hy : ys = strValues l) (hl : l.map (·.1) = (so.take i).map fun p => atOne ev p.1) (hn : nw = N0)
theorem truthyLm {prog : Program} {w : World} {A : Around} {E : Value → Shared → Prop} {s : Shared} {h₀ : Heap} {L : Addr} {news : List (Addr × Obj)} {a : Addr} {n : Nat} {as : List Addr} {Q : Bool → Shared → Prop} (N : News h₀ L s.heap news) (hm : (a, W.listOf (as.map Value.ref).toArray n) ∈ news) (hne : as ≠ []) (hz : as.length ≤ 6) (h : Q true { s with toks := s.toks + 1 + 1 }) : wpAny (model prog w) A (truthy (.ref a)) Q E s := by
  cases as with
  | nil => exact absurd rfl hne
  | cons x r => exact truthyL1 (x := .ref x) (xs := r.map Value.ref) N hm (by simp at hz ⊢; lia) h
theorem fold_len' : ∀ (l : List Str) (n : Nat), (l.toArray.foldl (fun a x => a + x.length + (Str.ofString "").length) n) = n + (catS l).length := by
  have e0 : (Str.ofString "").length = 0 := by decide +kernel
  intro l
  induction l with
  | nil => intro n; simp [catS, e0]
  | cons x r ih =>
    intro n
    have h := ih (n + x.length + (Str.ofString "").length)
    rw [List.foldl_toArray'] at h ⊢
    · rw [List.foldl_cons, h, catS, PySem.Str.length_append, e0]
      lia
    all_goals rfl
theorem catS_len (b : Nat) : ∀ l : List Str, (∀ x ∈ l, x.length ≤ b) → (catS l).length ≤ l.length * b
  | [], _ => by have e0 : (Str.ofString "").length = 0 := by decide +kernel
                rw [catS, e0]; lia
  | x :: r, h => by
    have h1 := h x (.head _)
    have h2 := catS_len b r fun y hy => h y (.tail _ hy)
    rw [catS, PySem.Str.length_append, List.length_cons, Nat.succ_mul]
    lia
theorem atOne_len {ev y : Str} (h : y.length ≤ 1024) (he : ev.length ≤ 100) : (atOne ev y).length ≤ 1200 := by
  have z1 : (Str.ofString " ").length = 1 := by decide +kernel
  have z2 : (Str.ofString "=\"").length = 2 := by decide +kernel
  have z3 : (Str.ofString "\"").length = 1 := by decide +kernel
  have z6 : Str.empty.length = 0 := rfl
  unfold atOne
  simp only [PySem.Str.length_append]
  lia
theorem at_mid {M : Model} {A : Around} {t : Sem Flow} {E : Value → Shared → Prop} {Q : Flow → Shared → Prop} {s s9 : Shared} {h₀ h : Heap} {L : Addr} {v : Str} {so : List (Str × Tok)} {m0 : Str → Option Value} {nb : List (Addr × Obj)} {la : Addr} {g : Array GenState} {d : Drawn} (_F : Fr h₀ L h m0)
    (h1 : wpAny M A t (AtMid h₀ L s v so m0 nb la g d) E s9) (h2 : ∀ fl s', AtMid h₀ L s v so m0 nb la g d fl s' → Q fl s') : wpAny M A t Q E s9 := wpAny_mono h1 h2 fun _ _ x => x
inductive AtI (v : Str) (so : List (Str × Tok)) (m0 : Str → Option Value) (nb : List (Addr × Obj)) (la I : Addr) (i : Nat) (m' : Str → Option Value) (n' : List (Addr × Obj)) : Prop
  | mk (as : List Addr) (e : Nat) (nw : List (Addr × Obj)) (hn : n' = (la, listOf (as.map Value.ref).toArray e) :: nw) (hs : ∀ p ∈ nb, p ∈ nw) (ho : ∀ p ∈ nw, p.1 ≠ la) (hI : ∀ p ∈ n', p.1 ≠ I) (hl : as.length = i)
    (ha : ∀ (j : Nat) (a : Addr) (p : Str × Tok), as[j]? = some a → so[j]? = some p → ∃ t t', (a, tupO' p.1 t (.str v t')) ∈ nw)
    (hm : ∀ y, y ≠ Str.ofString "k" → y ≠ Str.ofString "v" → y ≠ Str.ofString "attr_qname" → y ≠ Str.ofString "attr_name" → y ≠ Str.ofString "uri" → m' y = m0 y)
theorem news_fr {h₀ h : Heap} {L : Addr} {b c l : Addr × Obj} {tf r : List (Addr × Obj)} (N : News h₀ L h (b :: (tf ++ c :: l :: r))) : News h₀ L h (l :: (b :: (tf ++ r))) := fun p hp => N p (by
  simp only [List.mem_cons, List.mem_append] at hp ⊢
  rcases hp with h | h | h | h
  · exact .inr (.inr (.inr (.inl h)))
  · exact .inl h
  · exact .inr (.inl h)
  · exact .inr (.inr (.inr (.inr h))))
theorem valueAt_mem {kv : List (Str × Value)} {y : Str} {r : Value} (hn : (kv.map (·.1)).Nodup) (hm : (y, r) ∈ kv) : PySem.valueAt kv y = some r := by
  induction kv with
  | nil => exact absurd hm List.not_mem_nil
  | cons p kv ih =>
    obtain ⟨h1, h2⟩ := List.nodup_cons.mp hn
    rcases List.mem_cons.mp hm with rfl | hm
    · simp [PySem.valueAt]
    · have hne : p.1 ≠ y := fun e => h1 (by show p.1 ∈ _; rw [e]; exact List.mem_map_of_mem (f := (·.1)) hm)
      have := ih h2 hm
      unfold PySem.valueAt at this ⊢
      simp only [List.find?_cons, decide_eq_false hne]
      exact this
def StarOf (w : World) (at_ : Nat) (oA : Obj) (kvs : List (Str × Value)) (x : Str) : Prop := ∀ (A : Around) (E : Value → Shared → Prop) (s : Shared) (Q : Unit → Shared → Prop) (h₀ : Heap) (L : Addr) (m : Str → Option Value) (news : List (Addr × Obj)) (g : Obj → List (Addr × Obj)) (D : Addr) (tx : Tok) (t : SetTable),
  Fr h₀ L s.heap m → News h₀ L s.heap news → A.handled = none → (at_, oA) ∈ news → at_ ≠ D → UpdF D (oneSet ((PySem.strKind P3 w).hash x) (.str x tx) t) news g → LowT (ledOf w) t →
  (∀ h' so' tk' zs, Fr h₀ L h' m → News h₀ L h' (g so') → TSet P3 w so' zs → zs.map (·.1) = (kvs.map (·.1)).reverse ++ [x] → Q () { s with heap := h', toks := tk' }) → wpAny (model P3 w) A (setDisplayStar D (.ref at_)) Q E s
def LSortOf (w : World) (kvs so : List (Str × Value)) : Prop := ∀ (A : Around) (E : Value → Shared → Prop) (s : Shared) (Q : Value → Shared → Prop) (h₀ : Heap) (L : Addr) (m : Str → Option Value) (news : List (Addr × Obj)) (c : Addr) (as : List Addr) (e : Nat),
  Fr h₀ L s.heap m → News h₀ L s.heap ((c, listOf (as.map Value.ref).toArray e) :: news) → (∀ p ∈ news, p.1 ≠ c) → as.length = kvs.length → (∀ (i : Nat) (a : Addr) (p : Str × Value), as[i]? = some a → kvs[i]? = some p → ∃ t, (a, tupO' p.1 t p.2) ∈ news) →
  (∀ (as' : List Addr) e' h', as'.length = so.length → (∀ (i : Nat) (a : Addr) (p : Str × Value), as'[i]? = some a → so[i]? = some p → ∃ t, (a, tupO' p.1 t p.2) ∈ news) → Fr h₀ L h' m → News h₀ L h' ((c, listOf (as'.map Value.ref).toArray e') :: news) → Q .none { s with heap := h' }) →
  wpAny (model P3 w) A (call (.builtin "list.sort") [.ref c]) Q E s
local macro_rules | `(tactic| walk_at "call ref") => `(tactic| (k_here; (with_reducible show wpAny _ _ (call (Value.ref 168) _) _ _ _); k_dflt (refine' esc_attrV _ _ _ _ _ _ _ _ _ _ _ _ _ _ _ _ _ _ _ _ _ _ _ _ _ (by assumption) ?uB ?uF ?uX ?uT ?uk ?ud ?uu ?uN ?_; (case uB => k_asm); (case uF => k_asm); (case uX => k_in); (case uT => k_asm); (case uk => first | exact rfl | assumption); (case ud => ktr_room); (case uu => ktr_units); (case uN => k_asm)); intro t' h' tk' p' F' N'))
local macro_rules | `(tactic| walk_at "truthy ref") => `(tactic| (k_here; (with_reducible show wpAny _ _ (truthy (Value.ref _)) _ _ _); k_dflt (refine' truthyLm ?N ?m ?d ?z ?_; (case N => k_asm); (case m => k_mem); (case d => with_reducible assumption); (case z => with_reducible assumption))))
local macro_rules | `(tactic| walk_at "newTuple") => `(tactic| (k_here; k_dflt (refine' kup_newTuple ?F ?N ?_ ?z; (case F => k_asm); (case N => k_asm); (case z => kmk_size)); intro D' h' F' N' l1; (try k_lt l1)))
local macro_rules | `(tactic| walk_at "truthy ref") => `(tactic| (k_here; (with_reducible show wpAny _ _ (truthy (Value.ref _)) _ _ _); k_dflt (refine' truthyD1 ?N ?m ?d ?z ?hz ?_; (case N => k_asm); (case m => k_mem); (case d => with_reducible assumption); (case z => with_reducible assumption); (case hz => with_reducible assumption))))
set_option maxHeartbeats 4000000 in
theorem start_g (w : World) (dp un : Nat) (gd : Option (List Code)) (cn : Str) (cs : Scope) (a : Addr) (ccd : Value) (cl : List (Str × Addr)) (outer : List Env) (A₀ : Around) (base h₀ : Heap) (L : Addr) (m mg mb : Str → Option Value) (mean : ExcName → Option Value) (s : Shared) (Q E : Value → Shared → Prop)
    (rest : List (Addr × Obj)) (tkW : Nat → Tok) (t0 : Tok) (wd wr q pc dl nsd ns pm ps : Nat) (seen done : Bool) (pcs dts : List (Str × Tok)) (nsds nss pss : List Value) (tb : Array Value) (e0 e1 e2 e3 e4 e5 : Nat) (x : Str) (tx : Tok) (at_ nn : Nat) (oA : Obj) (n0 n2 n3 : Nat) (tp : Nat) (t1 t2 : Tok) (kvs so : List (Str × Tok)) (v ev : Str)
    (B : Below A₀ base outer h₀) (F : Fr h₀ L s.heap m) (X : (hd1.heap_39 w.params).In h₀) (T : Top topProg lo3 mean mg mb h₀)
    (hk : cs.kind = .function) (hd : dp + 40 < recursionLimit) (hu : un + 600 < cLine)
    (N : News h₀ L s.heap (wCells w.params tkW t0 wd wr q pc dl nsd ns pm ps seen done pcs dts nsds nss (pss ++ [.bool false]) tb e0 e1 e2 e3 e4 e5 ((nn, listOf #[] n3) :: (at_, oA) :: rest)))
    (ho : WOrd wd wr q pc dl nsd ns pm ps) (hr : WOff wd pc dl nsd ns ps ((nn, listOf #[] n3) :: (at_, oA) :: rest)) (hpc : pcs.length ≤ 1000)
    (g1 : nsds[0]? = some (.ref n0)) (g2 : (n0, listOf #[.ref tp] n2) ∈ rest)
    (g3 : (tp, tupOf [.str (Str.ofString "http://www.w3.org/XML/1998/namespace") t1, .str (Str.ofString "xml") t2]) ∈ rest)
    (g4 : ∀ (k : Nat) (v : Value), 0 < k → nsds[k]? = some v → ∃ e n, v = .ref e ∧ (e, listOf #[] n) ∈ (nn, listOf #[] n3) :: rest) (hb : AllBare s.gens)
    (hnm : ∀ n ∈ x :: kvs.map (·.1), NameOk n) (hxk : x ∉ kvs.map (·.1)) (hk6 : kvs.length ≤ 6) (hav : AttrV v ev) (hst : StarOf w at_ oA (atKv v kvs) x) (hlo : kvs ≠ [] → LSortOf w (atKv v kvs) (atKv v so)) (hso : so.Perm kvs)
    (d1 : oA.IsDictOf (PySem.strKind P3 w) (atKv v kvs)) (d3 : (at_ == sysModules) = false) (d4 : ps < at_) (d5 : at_ < nn) (hps : pss.length < 1000) (hns : nss.length < 1000) (hC : CodeHd h₀ 125 123) (htb : TabSt lamPos lamQ tb rest)
    (hQ : ∀ (l' : Nat) (rest' : List (Addr × Obj)) t1' t2' t3' tb' f1 f4 f5 h' tk' gens' d', Fr h₀ L h' m → News h₀ L h' (wCells w.params tkW t0 wd wr q pc dl nsd ns pm ps true done (pcs ++ [(Str.ofString "<" ++ x, t1')] ++ atPcs so ev t3' ++ [(Str.ofString ">", t2')]) dts nsds (nss ++ [Value.ref l']) (pss ++ [Value.bool false, Value.bool false]) tb' e0 f1 e2 e3 f4 f5 rest') → WOff wd pc dl nsd ns ps rest' → TabSt lamPos lamQ tb' rest' → (l', listOf #[] 0) ∈ rest' → (nn, listOf #[] n3) ∈ rest' → (∀ p ∈ rest, p ∈ rest') → AllBare gens' → Q .none { s with heap := h', toks := tk', gens := gens', drawn := d' }) :
    wpAny (model P3 w) (ktrTop dp un gd cn cs L a ccd cl outer) (call (.ref 126) [.ref wr, .str x tx, .ref at_, .ref nn]) Q E s := by
  obtain ⟨r1, r2, r3, r4, r5, r6, r7⟩ := hr
  dsimp only [wCells] at N
  refine wpAny_call ?_
  k_dflt (refine' code_defC ?k1 ?k2 ?k3 ?k4 ?k5 ?kA ?kF ?kK ?k6 ?k7 ?k8 ?k9 ?kB ?kD ?_ ?c2 ?c3 ?c4; (case kA => exact rfl); (case kF => exact rfl); (case kK => first | exact rfl | assumption); (case k1 => k_asm); (case k2 => k_asm); (case k3 => k_asm); (case k4 => k_asm); (case k5 => k_asm); (case k6 => k_is); (case k7 => k_is); (case k8 => ktr_room); (case k9 => first | exact BindsTo.of_eq rfl | exact binds_K (by k_in) rfl (by k_is) rfl rfl rfl | (refine' kp_binds ?kx ?ke; (case kx => k_in); (case ke => exact fun _ => rfl))); (case kB => exact rfl); (case kD => decide +kernel); (case c2 => exact rfl); (case c3 => exact rfl); (case c4 => exact rfl); k_whole; intro g' L' h' tk' cells' FG' F' N' Y' B' X' T' l1; (try k_lt l1); k_cells Y'; (try simp only [List.cons_append, List.nil_append] at N'); (try dsimp only); (try k_fold))
  rename (∀ p : Addr × Obj, p ∈ _ → p.1 < _) => l9
  obtain ⟨r8, r9⟩ := far_suf (r := rest) l9 (by repeat (first | with_reducible exact Suf.here | with_reducible refine Suf.tail ?_))
  iterate 20 (first | (k_unfold; (try dsimp only)) | walk1 | (dsimp only; walk1) | (leave1; try dsimp only))
  refine' hst _ _ _ _ _ _ _ _ _ _ _ _ ?F ?N ?hh ?hA ?hne ?U ?ht ?_
  case F => k_asm
  case N => k_asm
  case hh => exact rfl
  case hA => k_mem
  case hne => k_ne
  case U => k_updF
  case ht => assumption
  intro h1 so1 tk1 zs1 F1 N1 hso1 hzs1
  (try dsimp only at N1)
  iterate 40 (first | (k_unfold; (try dsimp only)) | walk1 | (dsimp only; walk1) | (leave1; try dsimp only))
  refine' Assign_DComp ?hF ?hLe ?hsw ?hclos ?hcell ?hkind ?hnames ?hx ?hdb ?hy ?hp ?hh ?h
  case hF => k_asm
  case hLe => exact rfl
  case hsw => exact rfl
  case hclos => exact rfl
  case hcell => decide
  case hkind => exact rfl
  case hnames => decide
  case hx => exact rfl
  case hdb => exact rfl
  case hy => exact rfl
  case hp => exact rfl
  case hh => exact rfl
  case h =>
  iterate 7 (first | (k_unfold; (try dsimp only)) | walk1 | (dsimp only; walk1) | (leave1; try dsimp only))
  refine' kla_eval ?d0 ?_
  case d0 => exact rfl
  refine' lam_make [123, pc, wd, dl, nsd, ns, ps] ?F ?N ?T ?C ?cd ?U ?ht ?cl ?ho ?_
  case F => k_asm
  case N => k_asm
  case T => k_asm
  case C => exact CodeHd.keeps hC (Fr.keep (by assumption))
  case cd => exact rfl
  case ht => exact htb
  case cl => exact rfl
  case U => k_updF
  case ho =>
    intro d hd
    simp only [List.mem_cons, List.not_mem_nil, or_false] at hd
    rcases hd with rfl | rfl | rfl | rfl | rfl | rfl | rfl
    · exact ⟨fun q hq => r1 q (.tail _ (.tail _ hq)), _, by k_mem⟩
    · exact ⟨fun q hq => r2 q (.tail _ (.tail _ hq)), _, by k_mem⟩
    · exact ⟨fun q hq => r3 q (.tail _ (.tail _ hq)), _, by k_mem⟩
    · exact ⟨fun q hq => r4 q (.tail _ (.tail _ hq)), _, by k_mem⟩
    · exact ⟨fun q hq => r5 q (.tail _ (.tail _ hq)), _, by k_mem⟩
    · exact ⟨fun q hq => r6 q (.tail _ (.tail _ hq)), _, by k_mem⟩
    · exact ⟨fun q hq => r7 q (.tail _ (.tail _ hq)), _, by k_mem⟩
  intro lam cc ctv h2 tk2 tb2 rest2 F2 N2 hsub2 hoff2 htb2 hco2 llam
  generalize hlam : kla_obj _ _ _ _ _ _ _ cc ctv = oLam at N2
  have hlam2 : ∃ pm, oLam = kla_obj (Str.ofString "<lambda>") lamQ lamArgs lamBody lamScope [] pm cc ctv := ⟨_, hlam.symm⟩
  clear hlam
  have q1 := hoff2 123 (by simp)
  have q2 := hoff2 pc (by simp)
  have q3 := hoff2 wd (by simp)
  have q4 := hoff2 dl (by simp)
  have q5 := hoff2 nsd (by simp)
  have q6 := hoff2 ns (by simp)
  have q7 := hoff2 ps (by simp)
  iterate 1 (first | (k_unfold; (try dsimp only)) | walk1 | (dsimp only; walk1) | (leave1; try dsimp only))
  show wpAny _ _ (call (Value.builtin "sorted") [Value.ref _] [(Str.ofString "key", Value.ref lam)]) _ _ _
  have hzn : zs1.map (·.1) = (kvs.map (·.1)).reverse ++ [x] := by rw [hzs1]; unfold atKv; rw [List.map_map]; rfl
  have hzl : zs1.length = kvs.length + 1 := by have := congrArg List.length hzn; simpa using this
  have hnz1 : ∀ z ∈ zs1.map (·.1), NameOk z := fun z hz => hnm z (by rw [hzn] at hz; simpa [or_comm] using hz)
  refine' sorted_g (ks := zs1) ?hh ?hu ?F ?N ?hD ?hs (by lia) (by lia) ?hf ?_
  case hh => exact rfl
  case hu => ktr_units
  case F => k_asm
  case N => k_asm
  case hD => k_mem
  case hs => exact hso1
  case hf =>
    intro z tz s3 news3 Q3 hy F3 N3 hsub3 hQ3
    have hzs := hnz1 z hy
    have hin9 : (lam, oLam) ∈ news3 := hsub3 _ (by k_mem)
    obtain ⟨pm9, hpm⟩ := hlam2
    rw [hpm] at hin9
    refine' lam_one w _ _ _ _ _ _ _ _ _ _ _ s3 Q3 _ news3 rest2 lam cc _ z tz pm9 ctv ?l1 F3 ?l2 ?l3 ?l4 ?l5 ?l6 ?l7 ?l8 N3 ?l9 hco2 ?l10 hzs.2.2.1 hzs.2.1 hQ3
    case l1 => k_asm
    case l2 => k_in
    case l3 => k_asm
    case l4 => exact rfl
    case l5 => exact rfl
    case l6 => exact rfl
    case l7 => ktr_room
    case l8 => ktr_units
    case l9 => exact hin9
    case l10 => exact fun p hp => hsub3 p (by
      have hp' : List.Mem p rest2 := hp
      repeat (first | with_reducible exact hp' | apply List.Mem.tail))
  intro R3 k3 zs h3 d3' tk3 hz3 F3 N3 l3
  have hnz : ∀ z ∈ zs.map (·.1), NameOk z := fun z hz => hnz1 z ((hz3.map (·.1)).mem_iff.mp hz)
  have hznd : (zs.map (·.1)).Nodup := (hz3.map (·.1)).nodup_iff.mpr (zs_nodup hzn d1 hxk)
  have hzl3 : zs.length = kvs.length + 1 := hz3.length_eq.trans hzl
  obtain ⟨nb, N3b, mb⟩ : ∃ nb, News _ _ h3 nb ∧ ∀ p ∈ (_ : List (Addr × Obj)), p ∈ nb := ⟨_, N3, fun _ h => h⟩
  have mR3 := mb _ (.head _)
  have mlam := mb _ (.tail _ (.head _))
  have mme := mb _ (.tail _ (.tail _ (.head _)))
  have mse := mb _ (.tail _ (.tail _ (.tail _ (.tail _ (.head _)))))
  have mcq := mb _ (.tail _ (.tail _ (.tail _ (.tail _ (.tail _ (.head _))))))
  have mcs := mb _ (.tail _ (.tail _ (.tail _ (.tail _ (.tail _ (.tail _ (.head _)))))))
  have mcl : ∀ p ∈ (wCells w.params tkW t0 wd wr q pc dl nsd ns pm ps seen done pcs dts nsds nss (pss ++ [.bool false]) tb2 e0 e1 e2 e3 e4 e5 ((nn, listOf #[] n3) :: (at_, oA) :: rest2)), p ∈ nb := fun p hp => mb p (.tail _ (.tail _ (.tail _ (.tail _ (.tail _ (.tail _ (.tail _ hp)))))))
  clear mb N3 N2 F2
  (try k_sweep)
  have mwd := mcl _ (.head _)
  have mwr := mcl _ (.tail _ (.head _))
  have mnsd := mcl _ (.tail _ (.tail _ (.tail _ (.tail _ (.tail _ (.head _))))))
  have mr2 : ∀ p ∈ (nn, listOf #[] n3) :: (at_, oA) :: rest2, p ∈ nb := fun p hp => mcl p (.tail _ (.tail _ (.tail _ (.tail _ (.tail _ (.tail _ (.tail _ (.tail _ (.tail _ hp)))))))))
  refine ⟨R3, _, k3, nb, rfl, F3, N3b, mR3, by simp [strValues, sizeLine_eq]; lia, ?_⟩
  refine drest_all (n := (strValues zs).toArray.size) (P := QP nb zs s) (fun i v kv nw s9 hi hPv hP I4 oI4 C4 oC4 D4 oD4 m4 h4 tk4 E4 hNs4 hm4 F4 N4 off4 ne4 => ?turn) (fun kv nw s9 hP => ?fin) (strValues zs).toArray.size 0 [] nb _ (Nat.zero_add _) ?p0
  case p0 => exact QP.mk _ _ _ _ rfl rfl (fun p hp => absurd hp List.not_mem_nil) (fun p hp => hp) hb
  case turn =>
    obtain ⟨h9, tk9, g9, d9, rfl, hk9, hm9, hs9, hb9⟩ := hP
    obtain ⟨ne41, ne42, ne43⟩ := ne4
    have hsz9 : (strValues zs).toArray.size = zs.length := by simp [strValues]
    have hi9 : i < zs.length := by rw [← hsz9]; exact hi
    have hv4 : v = .str zs[i].1 zs[i].2 := by
      have e : (strValues zs).toArray[i]? = some (.str zs[i].1 zs[i].2) := by simp [strValues, hi9]
      exact Option.some.inj (hPv.symm.trans e)
    have hzi : NameOk zs[i].1 := hnz _ (List.mem_map_of_mem (List.getElem_mem hi9))
    have hnew : zs[i].1 ∉ kv.map (·.1) := by
      rw [hk9]
      intro q
      obtain ⟨p, hp, e⟩ := List.mem_map.mp q
      obtain ⟨j, hj, e2⟩ := List.mem_take_iff_getElem.mp hp
      have hj' : j < zs.length := by lia
      have q1 : (zs.map (·.1))[j]? = (zs.map (·.1))[i]? := by
        rw [List.getElem?_map, List.getElem?_map, List.getElem?_eq_getElem hj', List.getElem?_eq_getElem hi9]
        simp only [Option.map_some]
        rw [e2, e]
      exact absurd ((List.getElem?_inj (by simpa using hj') hznd).mp q1) (by lia)
    have htk : (zs.take (i + 1)).map (·.1) = (zs.take i).map (·.1) ++ [zs[i].1] := by rw [List.take_succ_eq_append_getElem hi9, List.map_append]; rfl
    generalize zs[i].1 = z at hv4 hzi hnew htk
    generalize zs[i].2 = tz at hv4
    subst hv4
    refine ⟨z, tz, rfl, ?_⟩
    have ncq := hs9 _ mcq
    have ncs := hs9 _ mcs
    have nme := hs9 _ mme
    have nwd := hs9 _ mwd
    have nwr := hs9 _ mwr
    have nnsd := hs9 _ mnsd
    have nR3 := hs9 _ mR3
    iterate 2 (first | (k_unfold; (try dsimp only)) | walk1 | (dsimp only; walk1) | (leave1; try dsimp only))
    refine' ld_cell ?N ?c ?m ?d ?_
    case N => k_asm
    case c => exact rfl
    case m => k_mem
    case d => assumption
    refine' callWith_M ?X ?N ?q ?hf ?_
    case X => k_in
    case N => k_asm
    case q => k_mem
    case hf => k_is
    iterate 3 (first | (k_unfold; (try dsimp only)) | walk1 | (dsimp only; walk1) | (leave1; try dsimp only))
    refine' And.intro (methP ?N ?q ?X) ?_
    case N => k_asm
    case q => k_mem
    case X => exact Frag.In.keeps (by k_in) F4.keep
    refine' call_meth ?N ?q ?_
    case N => k_asm
    case q => k_mem
    refine' qname_code _ _ _ _ _ _ _ _ _ _ _ _ _ _ _ _ _ _ _ _ _ _ wr wd nsd n0 tp _ _ _ _ _ _ _ t1 t2 tz _ n2 _ _ _ _ z ?uB ?uF ?uX ?uT ?uk ?ud ?uu ?uN ?w1 ?w2 ?w3 ?h0 ?w4 ?w5 ?w6 ?hb hzi.1 hzi.2.1 ?hQ
    case uB => k_asm
    case uF => exact F4
    case uX => k_in
    case uT => k_asm
    case uk => exact rfl
    case ud => ktr_room
    case uu => ktr_units
    case uN => exact N4
    case w1 => k_mem
    case w2 => k_mem
    case w3 => k_mem
    case h0 => simpa using g1
    case w4 => exact .tail _ (.tail _ (.tail _ (hs9 _ (mr2 _ (.tail _ (.tail _ (hsub2 _ g2)))))))
    case w5 => exact .tail _ (.tail _ (.tail _ (hs9 _ (mr2 _ (.tail _ (.tail _ (hsub2 _ g3)))))))
    case w6 =>
      intro k v hk hv
      obtain ⟨e, n, he, hm⟩ := g4 k v hk (by simpa using hv)
      refine ⟨e, n, he, .tail _ (.tail _ (.tail _ (hs9 _ (mr2 _ ?_))))⟩
      rcases List.mem_cons.mp hm with hm | hm
      · rw [hm]; exact .head _
      · exact .tail _ (.tail _ (hsub2 _ hm))
    case hb => exact hb9
    case hQ =>
    intro R5 u1 u2 u3 h5 tk5 gens5 F5 N5 l5 hbg
    refine' compEnd_push F5 N5 off4 l5 ?hS ?_
    case hS => exact .inr ⟨_, .tail _ nR3, rfl, _, rfl⟩
    refine QP.mk _ _ _ _ rfl ?_ (fun p hp => ?_) (fun p hp => .tail _ (hs9 p hp)) hbg
    · rw [stored_new hnew, List.map_append, hk9, htk]; rfl
    · rw [stored_new hnew] at hp
      rcases List.mem_append.mp hp with hp | hp
      · obtain ⟨R, u1, u2, u3, e, hm⟩ := hm9 p hp
        exact ⟨R, u1, u2, u3, e, .tail _ hm⟩
      · rw [List.mem_singleton.mp hp]
        exact ⟨R5, u1, u2, u3, rfl, .head _⟩
  case fin =>
  intro D6 oD6 h6 tk6 F6 N6 hD6 off6 lD6
  obtain ⟨h9, tk9, g9, d9, rfl, hk9, hm9, hs9, hb9⟩ := hP
  have nD6 : ∀ p ∈ nw, p.1 ≠ D6 := off6
  clear off6
  have nnn := hs9 _ (mr2 _ (.head _))
  have nat := hs9 _ (mr2 _ (.tail _ (.head _)))
  have ncs := hs9 _ mcs
  have nwd := hs9 _ mwd
  have nwr := hs9 _ mwr
  have lnw : ∀ p ∈ nw, AllLt 0 [p] → True := fun _ _ _ => trivial
  clear lnw
  have hvals : ∀ y, y ∈ x :: kvs.map (·.1) → ∃ R u1 u2 u3, PySem.valueAt kv y = some (.ref R) ∧ (R, tupOf [.str y u1, .str y u2, .str (Str.ofString "") u3]) ∈ nw := fun y hy => by
    have hkz : kv.map (·.1) = zs.map (·.1) := by rw [hk9, List.take_of_length_le (by simp [strValues])]
    have hyz : y ∈ kv.map (·.1) := by
      rw [hkz]
      refine (hz3.map (·.1)).mem_iff.mpr ?_
      rw [hzn]
      simpa [or_comm] using hy
    obtain ⟨p, hp, rfl⟩ := List.mem_map.mp hyz
    obtain ⟨R, u1, u2, u3, e, hm⟩ := hm9 p hp
    exact ⟨R, u1, u2, u3, valueAt_mem (by rw [hkz]; exact hznd) (by rw [← e]; exact hp), hm⟩
  show wpAny _ _ (execs _ _) _ _ _
  iterate 16 (first | (k_unfold; (try dsimp only)) | walk1 | (dsimp only; walk1) | (leave1; try dsimp only))
  rename_i la9 hq1 ll9 hq2 F8 N8
  obtain ⟨m0, hm0, F0⟩ : ∃ m0, m0 = _ ∧ Fr _ _ _ m0 := ⟨_, rfl, F8⟩
  have m_attrs : m0 (Str.ofString "attrs") = some (.ref at_) := by rw [hm0]; rfl
  have m_attr_list : m0 (Str.ofString "attr_list") = some (.ref la9) := by rw [hm0]; rfl
  have m_parsed_qnames : m0 (Str.ofString "parsed_qnames") = some (.ref D6) := by rw [hm0]; rfl
  have m_qattrs : m0 (Str.ofString "qattrs") = some Value.none := by rw [hm0]; rfl
  have m_tag : m0 (Str.ofString "tag") = some (.str x tx) := by rw [hm0]; rfl
  have m_qname_text : m0 (Str.ofString "qname_text") = some Value.none := by rw [hm0]; rfl
  clear F8 hm0
  refine at_mid (s := s) (v := v) (so := so) (nb := (D6, oD6) :: nw) (la := la9) (g := g9) (d := d9) F0 ?cif (fun fl s9 hM => ?tail)
  case cif =>
    by_cases hkv : kvs = []
    · have d0 : oA.IsDictOf (PySem.strKind P3 w) [] := by rw [hkv] at d1; exact d1
      have hso0 : so = [] := by rw [hkv] at hso; exact List.perm_nil.mp hso
      repeat (first | (k_unfold; (try dsimp only)) | walk1 | (dsimp only; walk1) | (leave1; try dsimp only))
      exact AtMid.mk _ _ m0 [] 0 ((D6, oD6) :: nw) (by assumption) (fun y _ _ _ _ _ => rfl) (by assumption) (fun p hp => hp) (fun p hp => Nat.ne_of_lt (ll9 p hp)) (by rw [hso0]; rfl) (fun i a p ha _ => by simp at ha)
    · obtain ⟨p1, r1, hpr⟩ : ∃ p1 r1, atKv v kvs = p1 :: r1 := by
        cases kvs with
        | nil => exact absurd rfl hkv
        | cons p r => exact ⟨_, _, rfl⟩
      have d2 : oA.IsDictOf (PySem.strKind P3 w) (p1 :: r1) := by rw [← hpr]; exact d1
      have hlen1 : (p1 :: r1).length < 1000 := by rw [← hpr]; simp only [atKv, List.length_map]; lia
      iterate 7 (first | (k_unfold; (try dsimp only)) | walk1 | (dsimp only; walk1) | (leave1; try dsimp only))
      refine For_turns F0 ?_ (by intro _; rfl)
      iterate 10 (first | (k_unfold; (try dsimp only)) | walk1 | (dsimp only; walk1) | (leave1; try dsimp only))
      refine kdx_sortedN (knd := PySem.strKind P3 w) (enc := PyData.str) (kvs := atKv v kvs) (ps := (atKv v kvs).map fun p => ((fun t => Value.str p.1 t), p.2)) rfl (by assumption) (by assumption) (by k_mem) (by k_mem) d1 (by simp only [atKv, List.length_map]; lia) (fun _ _ h => Value.isStrOf_shape h) rfl ?_
      intro lo9 l9
      refine kdxOpen_all _ _ _ fun as1 tf hal ham hao _ => ?_
      intro B9 h10 tk10 lB F10 N10
      have hak : as1.length = (atKv v kvs).length := by rw [hal, List.length_map]
      refine hlo hkv _ _ _ _ _ _ _ _ B9 as1 0 F10 N10 ?nB hak ?mB fun as2 e2 h12 hal2 ham2 F12 N12 => ?_
      case nB => exact fun p hp => Nat.ne_of_lt (lB p hp)
      case mB =>
        intro i a p ha hp
        obtain ⟨t, hm⟩ := ham i a (fun t => .str p.1 t, p.2) ha (by rw [List.getElem?_map, hp]; rfl)
        exact ⟨t, List.mem_append_left _ hm⟩
      have lla : @LT.lt Nat _ la9 B9 := lB _ (List.mem_append_right _ (.tail _ (.head _)))
      have nla : ∀ p ∈ (B9, listOf (as2.map Value.ref).toArray e2) :: (tf ++ (D6, oD6) :: nw), p.1 ≠ la9 := fun p hp => by
        rcases List.mem_cons.mp hp with rfl | hp
        · exact Nat.ne_of_gt lla
        · rcases List.mem_append.mp hp with hp | hp
          · rcases hao p hp with h | h
            · exact absurd h List.not_mem_nil
            · exact Nat.ne_of_gt (h.2 _ (.tail _ (.head _)))
          · exact Nat.ne_of_lt (ll9 p hp)
      have ham3 : ∀ (i : Nat) (a : Addr) (p : Str × Tok), as2[i]? = some a → so[i]? = some p → ∃ t, (a, tupO' p.1 t (.str v p.2)) ∈ (B9, listOf (as2.map Value.ref).toArray e2) :: (tf ++ (D6, oD6) :: nw) := fun i a p ha hp => by
        obtain ⟨t, hm⟩ := ham2 i a (p.1, .str v p.2) ha (by unfold atKv; rw [List.getElem?_map, hp]; rfl)
        refine ⟨t, .tail _ ?_⟩
        rcases List.mem_append.mp hm with hm | hm
        · exact List.mem_append_left _ hm
        · rcases List.mem_cons.mp hm with hm | hm
          · injection hm with _ e; injection e with e; simp at e
          · rcases List.mem_cons.mp hm with hm | hm
            · injection hm with _ e; injection e with e; simp at e
            · exact List.mem_append_right _ hm
      obtain ⟨nb2, N13, hb2, hsb2, nla2, ham4⟩ : ∃ nb2, News _ _ h12 ((la9, listOf #[] 0) :: nb2) ∧ (B9, listOf (as2.map Value.ref).toArray e2) ∈ nb2 ∧ (∀ p ∈ (D6, oD6) :: nw, p ∈ nb2) ∧ (∀ p ∈ nb2, p.1 ≠ la9) ∧ (∀ (i : Nat) (a : Addr) (p : Str × Tok), as2[i]? = some a → so[i]? = some p → ∃ t, (a, tupO' p.1 t (.str v p.2)) ∈ nb2) :=
        ⟨_, news_fr N12, .head _, fun p hp => .tail _ (List.mem_append_right _ hp), nla, ham3⟩
      clear N12 N10 F10 ham ham2 ham3 hao nla lB lla N8
      refine iter_listTurns (vs := as2.map Value.ref) (by with_unfolding_all rfl) F12 N13 (.tail _ hb2) (by with_unfolding_all rfl) (by with_unfolding_all rfl) ?_
      intro I9 lI
      refine items_all (P := AtI v so m0 nb2 la9 I9) (as2.map Value.ref) (fun i v9 h15 tk15 m15 n15 oI hv9 hP15 F15 hc15 N15 => ?turn2) (fun m15 n15 h15 tk15 hP15 F15 N15 => ?fin2) (as2.map Value.ref).length 0 m0 _ (Nat.zero_add _) ?p2
      case p2 => exact AtI.mk [] 0 nb2 rfl (fun p hp => hp) nla2 (fun p hp => Nat.ne_of_lt (lI p hp)) rfl (fun j a p ha _ => by simp at ha) (fun y _ _ _ _ _ => rfl)
      case fin2 =>
        obtain ⟨as3, e3, nw3, rfl, hs3, ho3, hI3, hl3, ha3, hm3⟩ := hP15
        dsimp only
        repeat (first | (k_unfold; (try dsimp only)) | walk1 | (dsimp only; walk1) | (leave1; try dsimp only))
        exact AtMid.mk _ _ m15 as3 e3 nw3 (by assumption) hm3 (by assumption) (fun p hp => hs3 _ (hsb2 p hp)) ho3 (by rw [hl3, List.length_map, hal2]; unfold atKv; rw [List.length_map]) ha3
      case turn2 =>
        obtain ⟨as3, e3, nw3, rfl, hs3, ho3, hI3, hl3, ha3, hm3⟩ := hP15
        have hi2 : i < as2.length := by
          have := (List.getElem?_eq_some_iff.mp hv9).1
          simpa using this
        have hi3 : i < so.length := by rw [hal2] at hi2; unfold atKv at hi2; simpa using hi2
        have hv10 : v9 = .ref as2[i] := by
          rw [List.getElem?_map, List.getElem?_eq_getElem hi2] at hv9
          exact (Option.some.inj hv9).symm
        obtain ⟨ty, hty⟩ := ham4 i as2[i] so[i] (List.getElem?_eq_getElem hi2) (List.getElem?_eq_getElem hi3)
        obtain ⟨R7, u1, u2, u3, hva, hR7⟩ := hvals so[i].1 (.tail _ ((hso.map (·.1)).mem_iff.mp (List.mem_map_of_mem (List.getElem_mem hi3))))
        have hye : so[i]? = some so[i] := List.getElem?_eq_getElem hi3
        generalize so[i] = y9 at hty hva hR7 hye
        generalize as2[i] = a9 at hv10 hty
        subst hv10
        have ity := hs3 _ hty
        have nI9 : @Ne Nat la9 I9 := hI3 _ (.head _)
        have hz9 : as3.length ≤ 6 := by have := hso.length_eq; lia
        have iR7 := hs3 _ (hsb2 _ (.tail _ hR7))
        have iD6 := hs3 _ (hsb2 _ (.head _))
        have i_attr_list : m15 (Str.ofString "attr_list") = some (.ref la9) := (hm3 _ (by decide) (by decide) (by decide) (by decide) (by decide)).trans m_attr_list
        have i_parsed_qnames : m15 (Str.ofString "parsed_qnames") = some (.ref D6) := (hm3 _ (by decide) (by decide) (by decide) (by decide) (by decide)).trans m_parsed_qnames
        have i_qattrs : m15 (Str.ofString "qattrs") = some Value.none := (hm3 _ (by decide) (by decide) (by decide) (by decide) (by decide)).trans m_qattrs
        repeat (first | (k_unfold; (try dsimp only)) | walk1 | (dsimp only; walk1) | (leave1; try dsimp only))
        rename_i D9 hA FA NA lD9 h16 F16 N16
        have iB := hs3 _ hb2
        refine ⟨h16, tk, _, (la9, W.listOf (as3.map Value.ref ++ [Value.ref D9]).toArray (e3 + 1)) :: (D9, tupO' y9.1 u2 (.str v y9.2)) :: nw3, rfl, F16, fun p hp => N16 p ?nn, fun p hp q hq => ?off, ⟨by k_subL, ?ati⟩⟩
        case nn =>
          rcases List.mem_cons.mp hp with rfl | hp
          · exact .tail _ (.head _)
          · rcases List.mem_cons.mp hp with rfl | hp
            · exact .tail _ (.tail _ (.head _))
            · rcases List.mem_cons.mp hp with rfl | hp
              · exact .head _
              · exact .tail _ (.tail _ (.tail _ hp))
        case off =>
          rw [List.mem_singleton.mp hq]
          rcases List.mem_cons.mp hp with rfl | hp
          · exact nI9
          · rcases List.mem_cons.mp hp with rfl | hp
            · exact Nat.ne_of_gt (lD9 _ (.head _))
            · exact hI3 _ (.tail _ hp)
        case ati =>
          refine AtI.mk (as3 ++ [D9]) (e3 + 1) ((D9, tupO' y9.1 u2 (.str v y9.2)) :: nw3) (by rw [List.map_append]; rfl) (fun p hp => .tail _ (hs3 _ hp)) (List.forall_mem_cons.2 ⟨Nat.ne_of_gt (lD9 _ (.tail _ (.head _))), ho3⟩) (fun p hp => ?_) (by rw [List.length_append, hl3]; rfl) (fun j a p ha hp => ?_) (fun y e1 e2 e3 e4 e5 => ?_)
          · rcases List.mem_cons.mp hp with rfl | hp
            · exact nI9
            · rcases List.mem_cons.mp hp with rfl | hp
              · exact Nat.ne_of_gt (lD9 _ (.head _))
              · exact hI3 _ (.tail _ hp)
          · by_cases hj : j < as3.length
            · rw [List.getElem?_append_left hj] at ha
              obtain ⟨t, t', hm⟩ := ha3 j a p ha hp
              exact ⟨t, t', .tail _ hm⟩
            · have hj2 : j = as3.length := by
                have := (List.getElem?_eq_some_iff.mp ha).1
                rw [List.length_append, List.length_singleton] at this
                lia
              subst hj2
              rw [List.getElem?_append_right (Nat.le_refl _), Nat.sub_self] at ha
              rw [hl3, hye] at hp
              have ea : D9 = a := Option.some.inj ha
              have ep : y9 = p := Option.some.inj hp
              subst ea; subst ep
              exact ⟨_, _, .head _⟩
          · show (if y = Str.ofString "uri" then _ else _) = _
            rw [if_neg e5]
            show (if y = Str.ofString "attr_name" then _ else _) = _
            rw [if_neg e4]
            show (if y = Str.ofString "attr_qname" then _ else _) = _
            rw [if_neg e3]
            show (if y = Str.ofString "v" then _ else _) = _
            rw [if_neg e2]
            show (if y = Str.ofString "k" then _ else _) = _
            rw [if_neg e1]
            exact hm3 y e1 e2 e3 e4 e5
  case tail =>
  obtain ⟨h16, tk16, m16, as, e16, nw6, F16, hm16, N16, hs16, ho16, hl16, ha16⟩ := hM
  dsimp only
  have j_attrs : m16 (Str.ofString "attrs") = some (.ref at_) := (hm16 _ (by decide) (by decide) (by decide) (by decide) (by decide)).trans m_attrs
  have j_attr_list : m16 (Str.ofString "attr_list") = some (.ref la9) := (hm16 _ (by decide) (by decide) (by decide) (by decide) (by decide)).trans m_attr_list
  have j_parsed_qnames : m16 (Str.ofString "parsed_qnames") = some (.ref D6) := (hm16 _ (by decide) (by decide) (by decide) (by decide) (by decide)).trans m_parsed_qnames
  have j_tag : m16 (Str.ofString "tag") = some (.str x tx) := (hm16 _ (by decide) (by decide) (by decide) (by decide) (by decide)).trans m_tag
  have j_qname_text : m16 (Str.ofString "qname_text") = some Value.none := (hm16 _ (by decide) (by decide) (by decide) (by decide) (by decide)).trans m_qname_text
  have inw : ∀ p ∈ nw, p ∈ nw6 := fun p hp => hs16 _ (.tail _ hp)
  have inb : ∀ p ∈ nb, p ∈ nw6 := fun p hp => inw _ (hs9 p hp)
  obtain ⟨Rx, ux1, ux2, ux3, hvx, hRx⟩ := hvals x (.head _)
  have c_wd := mcl _ (.head _)
  have c_wr := mcl _ (.tail _ (.head _))
  have c_q := mcl _ (.tail _ (.tail _ (.head _)))
  have c_pc := mcl _ (.tail _ (.tail _ (.tail _ (.head _))))
  have c_dl := mcl _ (.tail _ (.tail _ (.tail _ (.tail _ (.head _)))))
  have c_nsd := mcl _ (.tail _ (.tail _ (.tail _ (.tail _ (.tail _ (.head _))))))
  have c_ns := mcl _ (.tail _ (.tail _ (.tail _ (.tail _ (.tail _ (.tail _ (.head _)))))))
  have c_ps := mcl _ (.tail _ (.tail _ (.tail _ (.tail _ (.tail _ (.tail _ (.tail _ (.head _))))))))
  have c_tab := mcl _ (.tail _ (.tail _ (.tail _ (.tail _ (.tail _ (.tail _ (.tail _ (.tail _ (.head _)))))))))
  have y_wd := inb _ c_wd
  have y_pc := inb _ c_pc
  have y_ns := inb _ c_ns
  have y_ps := inb _ c_ps
  have lpc : pc < la9 := ll9 _ (.tail _ (hs9 _ c_pc))
  have lwd : wd < la9 := ll9 _ (.tail _ (hs9 _ c_wd))
  have lns : ns < la9 := ll9 _ (.tail _ (hs9 _ c_ns))
  have lps : ps < la9 := ll9 _ (.tail _ (hs9 _ c_ps))
  obtain ⟨nx, N17, fx, gx⟩ := cut4 N16 y_wd y_pc y_ns y_ps
  have N6' : News _ _ h16 nw6 := fun p hp => N16 p (.tail _ hp)
  have xat : (at_, oA) ∈ nx := fx _ (inb _ (mr2 _ (.tail _ (.head _)))) (r3 _ (.tail _ (.head _))) (r2 _ (.tail _ (.head _))) (r6 _ (.tail _ (.head _))) (r7 _ (.tail _ (.head _)))
  have xnn : (nn, listOf #[] n3) ∈ nx := fx _ (inb _ (mr2 _ (.head _))) (r3 _ (.head _)) (r2 _ (.head _)) (r6 _ (.head _)) (r7 _ (.head _))
  have xr2 : ∀ p ∈ rest2, p ∈ nx := fun p hp => fx _ (inb _ (mr2 _ (.tail _ (.tail _ hp)))) (q3 p hp) (q2 p hp) (q6 p hp) (q7 p hp)
  have xD6 : (D6, oD6) ∈ nx := fx _ (hs16 _ (.head _)) (Ne.symm (nD6 _ (hs9 _ c_wd))) (Ne.symm (nD6 _ (hs9 _ c_pc))) (Ne.symm (nD6 _ (hs9 _ c_ns))) (Ne.symm (nD6 _ (hs9 _ c_ps)))
  have xRx : (Rx, tupOf [.str x ux1, .str x ux2, .str (Str.ofString "") ux3]) ∈ nx := fx _ (inw _ hRx) (news_ne N6' (inw _ hRx) y_wd (by simp [tupOf, dictOf])) (news_ne N6' (inw _ hRx) y_pc (by simp [tupOf, W.listOf])) (news_ne N6' (inw _ hRx) y_ns (by simp [tupOf, W.listOf])) (news_ne N6' (inw _ hRx) y_ps (by simp [tupOf, W.listOf]))
  have xcs := fx _ (inb _ mcs) (by k_ne) (by k_ne) (by k_ne) (by k_ne)
  have xwr := fx _ (inb _ c_wr) (by k_ne) (by k_ne) (by k_ne) (by k_ne)
  have xq := fx _ (inb _ c_q) (by k_ne) (by k_ne) (by k_ne) (by k_ne)
  have xdl := fx _ (inb _ c_dl) (by k_ne) (by k_ne) (by k_ne) (by k_ne)
  have xnsd := fx _ (inb _ c_nsd) (by k_ne) (by k_ne) (by k_ne) (by k_ne)
  have xtab := fx _ (inb _ c_tab) (by k_ne) (by k_ne) (by k_ne) (by k_ne)
  have xtp : ∀ (i : Nat) (a : Addr) (p : Str × Tok), as[i]? = some a → so[i]? = some p → ∃ t t', (a, tupO' p.1 t (.str v t')) ∈ nx := fun i a p ha hp => by
    obtain ⟨t, t', hm⟩ := ha16 i a p ha hp
    exact ⟨t, t', fx _ hm (news_ne N6' hm y_wd (by simp [dictOf])) (news_ne N6' hm y_pc (by simp [W.listOf])) (news_ne N6' hm y_ns (by simp [W.listOf])) (news_ne N6' hm y_ps (by simp [W.listOf]))⟩
  have gwd : ∀ p ∈ nx, p.1 ≠ wd := fun p hp => (gx p hp).1
  have gpc : ∀ p ∈ nx, p.1 ≠ pc := fun p hp => (gx p hp).2.1
  have gns : ∀ p ∈ nx, p.1 ≠ ns := fun p hp => (gx p hp).2.2.1
  have gps : ∀ p ∈ nx, p.1 ≠ ps := fun p hp => (gx p hp).2.2.2.1
  clear N16 N6' fx gx y_wd y_pc y_ns y_ps inb inw
  iterate 9 (first | (k_unfold; (try dsimp only)) | walk1 | (dsimp only; walk1) | (leave1; try dsimp only))
  rename (News _ _ _ _) => N18
  have hl : x.length ≤ 1024 := (hnm x (.head _)).2.1
  refine' kdg_get1 (knd := PySem.strKind P3 w) N18 ?hp d1 d3 (PySem.strKind_is _ _ _ _) none ?hl ?_
  case hp => k_mem
  case hl =>
    unfold PySem.valueAt
    have e : (atKv v kvs).find? (fun kv => decide (kv.1 = Str.ofString "{http://www.w3.org/XML/1998/namespace}space")) = none := by
      rw [List.find?_eq_none]
      intro p hp q
      obtain ⟨p2, hp2, rfl⟩ := List.mem_map.mp hp
      have := (hnm p2.1 (.tail _ (List.mem_map_of_mem hp2))).2.2.2
      rw [of_decide_eq_true q] at this
      simp at this
    rw [e]; rfl
  show wpAny _ _ (storeName _ _ Value.none) _ _ _
  iterate 54 (first | (k_unfold; (try dsimp only)) | walk1 | (dsimp only; walk1) | (leave1; try dsimp only))
  rename_i tq9 kq9 aq9 h17 F17 N17a
  rw [strValues_push] at N17a
  have has6 : as.length ≤ 6 := by have := hso.length_eq; lia
  refine pc_mid (s := s) (X0 := pcs ++ [(Str.ofString "<" ++ x, tq9)]) (so := so) (ev := ev) (g := g9) (d := d9) F17 N17a ?cpc (fun fl s10 hM2 => ?tail2)
  case cpc =>
    by_cases hsn : so = []
    · have has : as = [] := List.eq_nil_of_length_eq_zero (by rw [hl16, hsn]; rfl)
      subst has
      simp only [List.map_nil] at N17a
      repeat (first | (k_unfold; (try dsimp only)) | walk1 | (dsimp only; walk1) | (leave1; try dsimp only))
      refine PcMid.mk _ _ 0 (e1 + 1) (by assumption) ?_
      rw [show atPcs so ev 0 = [] from if_pos hsn, List.append_nil]
      assumption
    · have hasn : as ≠ [] := fun e => hsn (List.eq_nil_of_length_eq_zero (by rw [← hl16, e]; rfl))
      iterate 17 (first | (k_unfold; (try dsimp only)) | walk1 | (dsimp only; walk1) | (leave1; try dsimp only))
      refine' LCp.ListComp_P (F₀ := by k_asm) (by with_unfolding_all rfl) (by decide) (by rfl) (by decide) (by rfl) (by rfl) (by decide) ?_
      iterate 1 (first | (k_unfold; (try dsimp only)) | walk1 | (dsimp only; walk1) | (leave1; try dsimp only))
      rename (News _ _ _ _) => N15
      rename (Fr _ _ _ _) => F15
      obtain ⟨nl, hnl, N15b⟩ : ∃ nl, nl = _ ∧ News _ _ _ nl := ⟨_, rfl, N15⟩
      have knl : ∀ p ∈ nx, p ∈ nl := fun p hp => by rw [hnl]; exact .tail _ (.tail _ (.tail _ (.tail _ (.tail _ hp))))
      have kla : (la9, W.listOf (as.map Value.ref).toArray e16) ∈ nl := by rw [hnl]; exact .head _
      clear N15
      refine' LCp.SrcLP.ledger ?hh F15 N15b ?hm ?hz ?_
      case hh => exact rfl
      case hm => exact kla
      case hz => simp [sizeLine_eq]; lia
      intro g15
      refine compP_all (P := CP nl so ev) (fun i v9 ys nw9 hv9 hP9 => ?turn3) (fun ys nw9 hP9 => ?fin3) ((as.map Value.ref).toArray).size 0 [] nl (Nat.zero_add _) (CP.mk [] rfl rfl rfl)
      case turn3 =>
        obtain ⟨l9, rfl, hl9, rfl⟩ := hP9
        have hle : ev.length ≤ 100 := hav.len.2
        have hi2 : i < as.length := by
          have := (Array.getElem?_eq_some_iff.mp hv9).1
          simpa using this
        have hi3 : i < so.length := by rw [← hl16]; exact hi2
        have hv10 : v9 = .ref as[i] := by
          rw [List.getElem?_toArray, List.getElem?_map, List.getElem?_eq_getElem hi2] at hv9
          exact (Option.some.inj hv9).symm
        obtain ⟨ty, ty', hty⟩ := xtp i as[i] so[i] (List.getElem?_eq_getElem hi2) (List.getElem?_eq_getElem hi3)
        have hly : so[i].1.length ≤ 1024 := (hnm _ (.tail _ ((hso.map (·.1)).mem_iff.mp (List.mem_map_of_mem (List.getElem_mem hi3))))).2.1
        have htk9 : (so.take (i + 1)).map (fun p => atOne ev p.1) = (so.take i).map (fun p => atOne ev p.1) ++ [atOne ev so[i].1] := by rw [List.take_succ_eq_append_getElem hi3, List.map_append]; rfl
        generalize so[i].1 = y9 at hty hly htk9
        generalize as[i] = a9 at hv10 hty
        subst hv10
        refine ⟨_, _, Value.str y9 ty, Value.str v ty', _, rfl, knl _ hty, rfl, rfl, ?_⟩
        intro I15 oI15 C15 oC15 D15 m15b h15 tk15 E15 hNs15 hmx15 hmy15 F16b N16b off16 ne15
        obtain ⟨ne151, ne152, ne153⟩ := ne15
        have hb1 : (Str.ofString " ").length ≤ 1 := by decide +kernel
        have hb2 : (Str.ofString "=\"").length ≤ 2 := by decide +kernel
        have hb3 : (Str.ofString "\"").length ≤ 1 := by decide +kernel
        have hc1 := slx hb1 hly
        have hc2 := slx hc1 hb2
        have hc3 := slx hc2 hle
        have hc4 := slx hc3 hb3
        have hd1 := Nat.le_trans hc1 (show _ ≤ sizeLine by rw [sizeLine_eq]; decide)
        have hd2 := Nat.le_trans hc2 (show _ ≤ sizeLine by rw [sizeLine_eq]; decide)
        have hd3' := Nat.le_trans hc3 (show _ ≤ sizeLine by rw [sizeLine_eq]; decide)
        have hd4 := Nat.le_trans hc4 (show _ ≤ sizeLine by rw [sizeLine_eq]; decide)
        clear hc1 hc2 hc3 hc4 hb1 hb2 hb3
        iterate 29 (first | (k_unfold; (try dsimp only)) | walk1 | (dsimp only; walk1) | (leave1; try dsimp only))
        show wpAny _ _ (mkStr _) _ _ _
        refine' wpAny_mkStr ?_ ?hsz
        case hsz => exact Nat.le_trans (atOne_len hly hle) (by rw [sizeLine_eq]; decide)
        rename (News _ _ _ _) => N17
        rename (Fr _ _ _ _) => F17
        refine' LCg.CompEnd.intro F17 N17 nw9 (fun p hp => hp) off16 ?S ?_
        case S => exact .inr ⟨_, kla, rfl, _, rfl⟩
        exact CP.mk (l9 ++ [(atOne ev y9, _)]) (by simp only [strValues, List.map_append]; rfl) (by rw [List.map_append, hl9, htk9]; rfl) rfl
      case fin3 =>
        obtain ⟨l9, rfl, hl9, hnw⟩ := hP9
        intro D18 h18 tk18 F18 N18 off18
        rw [hnw, hnl] at N18
        have hl10 : l9.map (·.1) = so.map fun p => atOne ev p.1 := by rw [hl9, List.take_of_length_le (by simp [hl16])]
        have hcl : (catS (so.map fun p => atOne ev p.1)).length ≤ 7200 := by
          refine Nat.le_trans (catS_len 1200 _ fun z hz => ?_) (by rw [List.length_map]; have := hso.length_eq; lia)
          obtain ⟨p, hp, rfl⟩ := List.mem_map.mp hz
          exact atOne_len (hnm _ (.tail _ ((hso.map (·.1)).mem_iff.mp (List.mem_map_of_mem hp)))).2.1 hav.len.2
        iterate 1 (first | (k_unfold; (try dsimp only)) | walk1 | (dsimp only; walk1) | (leave1; try dsimp only))
        refine join_led' (l := l9) N18 (.head _) ?hz (x := catS (so.map fun p => atOne ev p.1)) ?hx ?hg ?hh
        case hz => rw [hl10, fold_len']; exact decide_eq_false (by rw [sizeLine_eq]; lia)
        case hx => rw [hl10, glued_cat]
        case hg => rw [sizeLine_eq]; lia
        case hh =>
        intro uj tkj _
        have N19 := newsSub N18 (fun p hp => .tail _ hp)
        clear N18 hnw hnl N15b knl kla off18
        repeat (first | (k_unfold; (try dsimp only)) | walk1 | (dsimp only; walk1) | (leave1; try dsimp only))
        refine PcMid.mk _ _ uj (e1 + 1 + 1) (by assumption) ?_
        rw [show atPcs so ev uj = [(catS (so.map fun p => atOne ev p.1), uj)] from if_neg hsn, ← strValues_push]
        assumption
  case tail2 =>
  obtain ⟨h18, tk18, t3, f18, F18, N18⟩ := hM2
  dsimp only
  clear N17a
  generalize hX1 : pcs ++ [(Str.ofString "<" ++ x, tq9)] ++ atPcs so ev t3 = X1 at N18
  have hX1l : X1.length ≤ 1002 := by
    rw [← hX1, List.length_append, List.length_append, List.length_singleton]
    unfold atPcs
    split <;> simp <;> lia
  repeat (first | (k_unfold; (try dsimp only)) | walk1 | (dsimp only; walk1) | (leave1; try dsimp only))
  rename (News h₀ L _ _) => N20
  rename (∀ p : Addr × Obj, p ∈ _ → p.1 < _) => l20
  have W0 : WOff wd pc dl nsd ns ps ((nn, listOf #[] n3) :: (at_, oA) :: rest2) := ⟨mkAB r1 q1, mkAB r2 q2, mkAB r3 q3, mkAB r4 q4, mkAB r5 q5, mkAB r6 q6, mkAB r7 q7⟩
  obtain ⟨lf, restf, Nf, Wf, mf1, mf2, mf3, sf⟩ := fin_start3 (rest := rest2) N20 (.head _) (by k_mem) (by k_mem) (by k_mem) (by k_mem) (by k_mem) (by k_mem) (by k_mem) (by k_mem) (by k_mem) (by k_mem) (by k_mem) (fun p hp => .tail _ (.tail _ (.tail _ (.tail _ (.tail _ (.tail _ (xr2 p hp))))))) strValues_push (Nat.ne_of_gt (l20 _ (.tail _ (.tail _ (.tail _ (.tail _ (.tail _ xtab))))))) (by k_ne) (by k_ne) (Nat.ne_of_gt (l20 _ (.tail _ (.tail _ (.tail _ (.tail _ (.tail _ xdl))))))) (Nat.ne_of_gt (l20 _ (.tail _ (.tail _ (.tail _ (.tail _ (.tail _ xnsd))))))) (by k_ne) (by k_ne) W0
  subst hX1
  exact hQ lf restf _ _ _ tb2 _ _ _ _ _ _ _ (by assumption) Nf Wf (.inr ⟨cc, htb2, hco2.mono sf⟩) mf1 mf2 (fun p hp => sf p (hsub2 p hp)) hb9
end
local macro_rules | `(tactic| size_fits) => `(tactic| (first | decide | (simp only [sizeLine_eq]; walk_at "AR0")))
theorem topOff7 : True := by
  w_top off
  trivial
section
open PySem PySem.W PyProof.Rows PySem.Calls PySem.Spec
theorem NsOk.push4 {nsds : List Value} {rest : List (Addr × Obj)} {nn n3 : Nat} (d : ∀ (k : Nat) (v : Value), 0 < k → nsds[k]? = some v → ∃ e n, v = .ref e ∧ (e, listOf #[] n) ∈ rest) (h0 : nsds ≠ []) : ∀ (k : Nat) (v : Value), 0 < k → (nsds ++ [.ref nn])[k]? = some v → ∃ e n, v = .ref e ∧ (e, listOf #[] n) ∈ (nn, listOf #[] n3) :: rest := by
  intro k v hk hv
  by_cases hlt : k < nsds.length
  · rw [List.getElem?_append_left hlt] at hv
    obtain ⟨e, n, x, y⟩ := d k v hk hv
    exact ⟨e, n, x, .tail _ y⟩
  · rw [List.getElem?_append_right (by walk_at "AR")] at hv
    cases hz : k - nsds.length with
    | zero => rw [hz] at hv; simp at hv; exact ⟨nn, n3, hv.symm, .head _⟩
    | succ j => rw [hz] at hv; simp at hv
theorem star_nil {w : World} {at_ : Nat} {oA : Obj} {x : Str} (hd : oA.IsDictOf (PySem.strKind P3 w) []) (hsm : (at_ == sysModules) = false) : StarOf w at_ oA [] x := by
  intro A E s Q h₀ L m news g D tx t F N hh hA hne U ht h
  obtain ⟨pre, post, rfl, hg, a, b⟩ := U.split
  refine star0 F N hh hA hd hsm (List.mem_append_right _ (.head _)) ht fun h' F' N' => h h' _ _ [(x, tx)] F' (by rw [hg]; exact N') (tset_one ht) rfl
def begA (x : Str) (so : List (Str × Tok)) (ev : Str) : Str := Str.ofString "<" ++ x ++ catS (so.map fun p => atOne ev p.1) ++ Str.ofString ">"
theorem beg_cat {x : Str} {so : List (Str × Tok)} {ev : Str} {t1 t2 t3 : Tok} : catS (((Str.ofString "<" ++ x, t1) :: (atPcs so ev t3 ++ [(Str.ofString ">", t2)])).map (·.1)) = begA x so ev := by
  unfold atPcs begA
  split
  · rename_i h
    subst h
    simp only [List.nil_append, List.map, catS, app_nil', app_assoc', nil_app']
  · simp only [List.cons_append, List.nil_append, List.map, catS, app_nil', app_assoc']
theorem atPcs_len {so : List (Str × Tok)} {ev : Str} {t : Tok} : (atPcs so ev t).length ≤ 1 := by
  unfold atPcs
  split <;> simp
inductive FlMid (h₀ : Heap) (L : Addr) (s₁ : Shared) (m' : Str → Option Value) (C : Bool → List (Str × Tok) → Nat → Nat → List (Addr × Obj)) (seen : Bool) (pt : Str) : Flow → Shared → Prop
  | mk (h : Heap) (tk : Nat) (seen' : Bool) (new : List (Str × Tok)) (f1 f2 : Nat) (F : Fr h₀ L h m') (N : News h₀ L h (C seen' new f1 f2)) (hs : seen = true → seen' = true) (hc : catS (new.map (·.1)) = pt) (hl : new.length ≤ 1) : FlMid h₀ L s₁ m' C seen pt .next { s₁ with heap := h, toks := tk }
theorem fl_mid {M : Model} {A : Around} {t : Sem Flow} {E : Value → Shared → Prop} {Q : Flow → Shared → Prop} {s s9 : Shared} {h₀ h : Heap} {L : Addr} {m' : Str → Option Value} {C : Bool → List (Str × Tok) → Nat → Nat → List (Addr × Obj)} {seen : Bool} {pt : Str} (_F : Fr h₀ L h m')
    (h1 : wpAny M A t (FlMid h₀ L s m' C seen pt) E s9) (h2 : ∀ fl s', FlMid h₀ L s m' C seen pt fl s' → Q fl s') : wpAny M A t Q E s9 := wpAny_mono h1 h2 fun _ _ x => x
set_option maxHeartbeats 4000000 in
theorem start_c (w : World) (dp un : Nat) (gd : Option (List Code)) (cn : Str) (cs : Scope) (a : Addr) (ccd : Value) (cl : List (Str × Addr)) (outer : List Env) (A₀ : Around) (base h₀ : Heap) (L : Addr) (m mg mb : Str → Option Value) (mean : ExcName → Option Value) (s : Shared) (Q E : Value → Shared → Prop)
    (rest : List (Addr × Obj)) (tkW : Nat → Tok) (t0 : Tok) (wd wr q pc dl nsd ns pm ps : Nat) (seen done : Bool) (pcs : List (Str × Tok)) (nsds nss pss : List Value) (tb : Array Value) (e0 e1 e2 e3 e4 e5 : Nat) (x : Str) (tx : Tok) (at_ : Nat) (oA : Obj) (kvs so : List (Str × Tok)) (v ev : Str)
    (B : Below A₀ base outer h₀) (F : Fr h₀ L s.heap m) (X : (hd1.heap_39 w.params).In h₀) (T : Top topProg lo3 mean mg mb h₀)
    (hk : cs.kind = .function) (hd : dp + 60 < recursionLimit) (hu : un + 900 < cLine)
    (N : News h₀ L s.heap (wCells w.params tkW t0 wd wr q pc dl nsd ns pm ps seen done pcs [] nsds nss (pss ++ [Value.bool false]) tb e0 e1 e2 e3 e4 e5 ((at_, oA) :: rest)))
    (ho : WOrd wd wr q pc dl nsd ns pm ps) (hr : WOff wd pc dl nsd ns ps ((at_, oA) :: rest)) (hpc : pcs.length ≤ 990)
    (hn : NsOk nsds rest) (hb : AllBare s.gens) (hnm : ∀ n ∈ x :: kvs.map (·.1), NameOk n) (hxk : x ∉ kvs.map (·.1)) (hk6 : kvs.length ≤ 6) (hav : AttrV v ev) (hst : StarOf w at_ oA (atKv v kvs) x) (hlo : kvs ≠ [] → LSortOf w (atKv v kvs) (atKv v so)) (hso : so.Perm kvs)
    (d1 : oA.IsDictOf (PySem.strKind P3 w) (atKv v kvs)) (d3 : (at_ == sysModules) = false) (d4 : ps < at_) (hps : pss.length < 1000) (hns : nss.length < 1000) (hnd : nsds.length < 1000) (hC : CodeHd h₀ 125 123) (htb : TabSt lamPos lamQ tb rest)
    (hQ : ∀ (nn l' : Nat) (rest' : List (Addr × Obj)) (new : List (Str × Tok)) tb' f1 f2 f3 f4 f5 h' tk' gens' d', Fr h₀ L h' m → News h₀ L h' (wCells w.params tkW t0 wd wr q pc dl nsd ns pm ps true done (pcs ++ new) [] (nsds ++ [Value.ref nn]) (nss ++ [Value.ref l']) (pss ++ [Value.bool false] ++ [Value.bool false]) tb' e0 f1 f2 f3 f4 f5 rest') → WOff wd pc dl nsd ns ps rest' → TabSt lamPos lamQ tb' rest' → NsOk (nsds ++ [Value.ref nn]) rest' → (∀ p ∈ rest, p ∈ rest') → AllBare gens' → catS (new.map (·.1)) = begA x so ev → new.length ≤ 3 → Q .none { s with heap := h', toks := tk', gens := gens', drawn := d' }) :
    wpAny (model P3 w) (ktrTop dp un gd cn cs L a ccd cl outer) (call (.ref 120) [.ref wr, .str x tx, .ref at_]) Q E s := by
  have hr0 := hr
  obtain ⟨r1, r2, r3, r4, r5, r6, r7⟩ := hr
  dsimp only [wCells] at N
  refine wpAny_call ?_
  k_dflt k_enter
  obtain ⟨n0, n2, tp, t1, t2, g1, g2, g3, g4⟩ := id hn
  repeat ((fail_if_success (with_reducible show wpAny _ _ (call (Value.ref 126) _) _ _ _)); (first | (k_unfold; (try dsimp only)) | walk1 | (dsimp only; walk1) | (leave1; try dsimp only)))
  rename (News _ _ _ ((_, listOf #[] 0) :: _)) => N9
  rw [push_list] at N9
  refine' start_g _ _ _ _ _ _ _ _ _ _ _ _ _ _ _ _ _ _ _ _ _ rest _ _ wd wr q pc dl nsd ns pm ps seen done pcs [] (nsds ++ [Value.ref _]) nss pss tb _ _ _ _ _ _ x tx at_ _ oA n0 n2 0 tp t1 t2 kvs so v ev ?uB ?uF ?uX ?uT ?uk ?ud ?uu ?uN ho ?hr ?hpc ?g1 g2 g3 ?g4 ?hb hnm hxk hk6 hav hst hlo hso d1 d3 d4 ?d5 hps hns ?hC htb ?hQ
  case uB => k_asm
  case uF => k_asm
  case uX => k_in
  case uT => k_asm
  case uk => exact rfl
  case ud => ktr_room
  case uu => ktr_units
  case uN =>
    have N8 := news_behind N9
    dsimp only [wCells]
    exact N8
  case hr => exact wOff_cons hr0 (by k_ne) (by k_ne) (by k_ne) (by k_ne) (by k_ne) (by k_ne) (by k_ne)
  case hpc => walk_at "AR"
  case g1 =>
    rw [List.getElem?_append_left (List.getElem?_eq_some_iff.mp g1).1]
    exact g1
  case g4 => exact NsOk.push4 g4 (fun e => by rw [e] at g1; cases g1)
  case hb => exact hb
  case d5 => exact lt_in (by assumption) (by repeat (first | with_reducible exact InA.head | with_reducible refine InA.tail ?_))
  case hC => exact CodeHd.keeps hC (Fr.keep (by assumption))
  case hQ =>
  intro l' rest' t1' t2' t3' tb' f1 f4 f5 h8 tk8 gens8 d8 F8 N8 W8 T8 m1 m2 s8 b8
  repeat (first | (k_unfold; (try dsimp only)) | walk1 | (dsimp only; walk1) | (leave1; try dsimp only))
  rename (News h₀ L _ _) => N10
  rw [app_two, List.append_assoc pcs, List.append_assoc pcs] at N10
  refine hQ _ l' rest' _ tb' _ _ _ _ _ _ _ _ _ (by assumption) N10 W8 T8 (NsOk.push (hn.mono s8) m2) s8 b8 ?_ ?_
  · exact beg_cat
  · have h9 : (atPcs so ev t3').length ≤ 1 := atPcs_len
    simp only [List.length_append, List.length_singleton, List.length_cons, List.length_nil]
    walk_at "AR"
end
theorem topOff8 : True := by
  w_top off
  trivial
section
local macro_rules | `(tactic| walk_at "ZZ") => `(tactic| skip)
open PySem PySem.W PyProof.Rows PySem.Calls PySem.Spec
def penL (mk : Str) (b : Bool) (td : Tok) : List (Str × Tok) := if b then [(mk, td)] else []
def penT (im : Str) (b : Bool) : Str := if b then im else Str.ofString ""
def endA (x : Str) : Str := Str.ofString "</" ++ x ++ Str.ofString ">"
set_option maxHeartbeats 4000000 in
theorem end_c (w : World) (dp un : Nat) (gd : Option (List Code)) (cn : Str) (cs : Scope) (a : Addr) (ccd : Value) (cl : List (Str × Addr)) (outer : List Env) (A₀ : Around) (base h₀ : Heap) (L : Addr) (m mg mb : Str → Option Value) (mean : ExcName → Option Value) (s : Shared) (Q E : Value → Shared → Prop)
    (rest : List (Addr × Obj)) (tkW : Nat → Tok) (t0 : Tok) (wd wr q pc dl nsd ns pm ps : Nat) (seen done : Bool) (pcs : List (Str × Tok)) (nsds nss pss : List Value) (tb : Array Value) (e0 e1 e2 e3 e4 e5 : Nat) (pend : Bool) (td : Tok) (mk im : Str) (hmk : Mark mk im) (x : Str) (tx : Tok) (nn l2 : Nat)
    (B : Below A₀ base outer h₀) (F : Fr h₀ L s.heap m) (X : (hd1.heap_39 w.params).In h₀) (T : Top topProg lo3 mean mg mb h₀)
    (hk : cs.kind = .function) (hd : dp + 60 < recursionLimit) (hu : un + 900 < cLine)
    (N : News h₀ L s.heap (wCells w.params tkW t0 wd wr q pc dl nsd ns pm ps true done pcs (penL mk pend td) (nsds ++ [Value.ref nn]) (nss ++ [Value.ref l2]) (pss ++ [Value.bool false]) tb e0 e1 e2 e3 e4 e5 rest))
    (ho : WOrd wd wr q pc dl nsd ns pm ps) (hr : WOff wd pc dl nsd ns ps rest) (hpc : pcs.length ≤ 990)
    (hn : NsOk (nsds ++ [Value.ref nn]) rest) (hb : AllBare s.gens) (hx : ¬ ((Txt.slice x none (some 1) == Str.ofString "{") = true)) (hl : x.length ≤ 1024) (hps : pss.length < 1000) (hns : nss.length < 1000) (hnd : nsds.length < 1000) (hC : CodeHd h₀ 125 123)
    (hQ : ∀ (done' : Bool) (new : List (Str × Tok)) f1 f2 f3 f4 f5 h' tk' gens', Fr h₀ L h' m → News h₀ L h' (wCells w.params tkW t0 wd wr q pc dl nsd ns pm ps true done' (pcs ++ new) [] nsds nss pss tb e0 f1 f2 f3 f4 f5 rest) → AllBare gens' → catS (new.map (·.1)) = penT im pend ++ endA x → new.length ≤ 2 → Q .none { s with heap := h', toks := tk', gens := gens' }) :
    wpAny (model P3 w) (ktrTop dp un gd cn cs L a ccd cl outer) (call (.ref 133) [.ref wr, .str x tx]) Q E s := by
  have hr0 := hr
  have hend : ∀ t, catS ([(Str.empty ++ Str.ofString "</" ++ x ++ Str.ofString ">", t)].map (fun p : Str × Tok => p.1)) = endA x := fun t => by
    simp only [List.map, catS, app_nil']
    exact congrArg (· ++ x ++ Str.ofString ">") (nil_app' _)
  obtain ⟨r1, r2, r3, r4, r5, r6, r7⟩ := hr
  dsimp only [wCells] at N
  refine wpAny_call ?_
  k_dflt k_enter
  obtain ⟨n0, nz2, tp, t1, t2, g1, g2, g3, g4⟩ := id hn
  iterate 12 (first | (k_unfold; (try dsimp only)) | walk1 | (dsimp only; walk1) | (leave1; try dsimp only))
  rename (Fr _ _ _ _) => F5
  rename (News _ _ _ _) => N5
  refine fl_mid (s := s) (C := (fun se new f1 f2 => wCells w.params tkW t0 wd wr q pc dl nsd ns pm ps se done (pcs ++ new) [] (nsds ++ [Value.ref nn]) (nss ++ [Value.ref l2]) (pss ++ [Value.bool false]) tb e0 f1 f2 e3 e4 e5 rest)) (seen := true) (pt := penT im pend) F5 ?cif (fun fl s6 hM => ?tail)
  case cif =>
    cases pend with
    | false =>
      rw [show penL mk false td = [] from rfl] at N5
      repeat (first | (k_unfold; (try dsimp only)) | walk1 | (dsimp only; walk1) | (leave1; try dsimp only))
      exact FlMid.mk _ _ true [] _ _ (by assumption) (by rw [List.append_nil]; dsimp only [wCells]; assumption) id rfl (Nat.zero_le _)
    | true =>
      rw [show penL mk true td = [(mk, td)] from rfl] at N5
      iterate 14 (first | (k_unfold; (try dsimp only)) | walk1 | (dsimp only; walk1) | (leave1; try dsimp only))
      show wpAny _ _ (call (Value.ref 106) [Value.ref wr]) _ _ _
      refine' flush_c _ _ _ _ _ _ _ _ _ _ _ _ _ _ _ _ _ _ _ _ _ rest _ _ wd wr q pc dl nsd ns pm ps true done pcs [] _ _ _ tb _ _ _ _ _ _ td mk im hmk ?vB ?vF ?vX ?vT ?vk ?vd ?vu ?vN ho hr0 (by walk_at "AR") ?vQ
      case vB => k_asm
      case vF => k_asm
      case vX => k_in
      case vT => k_asm
      case vk => exact rfl
      case vd => ktr_room
      case vu => ktr_units
      case vN =>
        dsimp only [wCells]
        k_asm
      case vQ =>
        intro t3' h7 tk7 f1' f2' F7 N7
        repeat (first | (k_unfold; (try dsimp only)) | walk1 | (dsimp only; walk1) | (leave1; try dsimp only))
        exact FlMid.mk _ _ true [_] _ _ (by assumption) N7 id (by simp only [List.map, catS, app_nil']; rfl) (Nat.le_refl _)
  case tail =>
  obtain ⟨h6, tk6, se6, new0, f1, f2, F6, N6, hs6, hc6, hl6⟩ := hM
  obtain rfl := hs6 rfl
  have hpc2 : (pcs ++ new0).length ≤ 991 := by rw [List.length_append]; walk_at "AR"
  have hall : ∀ t, catS ((new0 ++ [(Str.empty ++ Str.ofString "</" ++ x ++ Str.ofString ">", t)] : List (Str × Tok)).map (·.1)) = penT im pend ++ endA x := fun t => by
    rw [List.map_append, catS_append, hc6]
    exact congrArg _ (hend t)
  have hln : ∀ t, (new0 ++ [(Str.empty ++ Str.ofString "</" ++ x ++ Str.ofString ">", t)] : List (Str × Tok)).length ≤ 2 := fun t => by rw [List.length_append, List.length_singleton]; walk_at "AR"
  have hap : ∀ t, pcs ++ new0 ++ [t] = pcs ++ (new0 ++ [t]) := fun t => List.append_assoc _ _ _
  generalize pcs ++ new0 = pcx at N6 hpc2 hap
  dsimp only [wCells] at N6
  clear N5 F5
  have N7 := N6
  clear N6
  iterate 23 (first | (k_unfold; (try dsimp only)) | walk1 | (dsimp only; walk1) | (leave1; try dsimp only))
  refine' qname_c _ _ _ _ _ _ _ _ _ _ _ _ _ _ _ _ _ _ _ _ _ _ wr wd nsd n0 tp _ _ _ _ _ _ _ t1 t2 tx _ _ _ _ _ _ x ?uB ?uF ?uX ?uT ?uk ?ud ?uu ?uN ?w1 ?w2 ?w3 ?h0 ?w4 ?w5 ?w6 ?hb hx hl ?hQ
  case uB => k_asm
  case uF => k_asm
  case uX => k_in
  case uT => k_asm
  case uk => exact rfl
  case ud => ktr_room
  case uu => ktr_units
  case uN => k_asm
  case w1 => k_mem
  case w2 => k_mem
  case w3 => k_mem
  case h0 => simpa using g1
  case w4 =>
    have hp' : List.Mem _ rest := g2
    repeat (first | with_reducible exact hp' | apply List.Mem.tail)
  case w5 =>
    have hp' : List.Mem _ rest := g3
    repeat (first | with_reducible exact hp' | apply List.Mem.tail)
  case w6 =>
    intro k v hk hv
    obtain ⟨e, n, he, hm⟩ := g4 k v hk (by simpa using hv)
    refine ⟨e, n, he, ?_⟩
    have hp' : List.Mem _ rest := hm
    repeat (first | with_reducible exact hp' | apply List.Mem.tail)
  case hb => exact hb
  case hQ =>
  intro R5 u1 u2 u3 h5 tk5 gens5 F5 N5 l5 hbg
  repeat (first | (k_unfold; (try dsimp only)) | walk1 | (dsimp only; walk1) | (leave1; try dsimp only))
  rename (News h₀ L _ _) => N9
  rw [strValues_push, hap] at N9
  exact hQ _ _ _ _ _ _ _ _ _ _ (by assumption) (newsSub N9 fun p hp => .tail _ hp) hbg (hall _) (hln _)

set_option maxHeartbeats 2000000 in
theorem data_c (w : World) (dp un : Nat) (gd : Option (List Code)) (cn : Str) (cs : Scope) (a : Addr) (ccd : Value) (cl : List (Str × Addr)) (outer : List Env) (A₀ : Around) (base h₀ : Heap) (L : Addr) (m mg mb : Str → Option Value) (mean : ExcName → Option Value) (s : Shared) (Q E : Value → Shared → Prop)
    (rest : List (Addr × Obj)) (tk : Nat → Tok) (t0 : Tok) (wd wr q pc dl nsd ns pm ps : Nat) (seen done : Bool) (pcs dts : List (Str × Tok)) (nsds nss pss : List Value) (tb : Array Value) (e0 e1 e2 e3 e4 e5 : Nat) (d : Str) (td : Tok)
    (B : Below A₀ base outer h₀) (F : Fr h₀ L s.heap m) (X : (hd1.heap_39 w.params).In h₀) (T : Top topProg lo3 mean mg mb h₀)
    (hk : cs.kind = .function) (hd : dp + 20 < recursionLimit) (hu : un + 200 < cLine)
    (N : News h₀ L s.heap (wCells w.params tk t0 wd wr q pc dl nsd ns pm ps seen done pcs [] nsds nss pss tb e0 e1 e2 e3 e4 e5 rest))
    (ho : WOrd wd wr q pc dl nsd ns pm ps) (hr : WOff wd pc dl nsd ns ps rest) (hpc : pcs.length ≤ 1000)
    (hQ : ∀ f2 h' tk', Fr h₀ L h' m → News h₀ L h' (wCells w.params tk t0 wd wr q pc dl nsd ns pm ps seen done pcs [(d, td)] nsds nss pss tb e0 e1 f2 e3 e4 e5 rest) → Q .none { s with heap := h', toks := tk' }) :
    wpAny (model P3 w) (ktrTop dp un gd cn cs L a ccd cl outer) (call (.ref 97) [.ref wr, .str d td]) Q E s := by
  obtain ⟨r1, r2, r3, r4, r5, r6, r7⟩ := hr
  dsimp only [wCells] at N
  refine wpAny_call ?_
  k_dflt k_enter
  repeat (first | (k_unfold; (try dsimp only)) | walk1 | (dsimp only; walk1) | (leave1; try dsimp only))
  rename (News h₀ L _ _) => N9
  exact hQ _ _ _ (by assumption) N9
end
theorem topOff9 : True := by
  w_top off
  trivial
section
open PySem PySem.W PyProof.Rows PySem.Calls PySem.Spec
set_option maxHeartbeats 8000000 in
theorem init_c (w : World) (dp un : Nat) (gd : Option (List Code)) (cn : Str) (cs : Scope) (a : Addr) (ccd : Value) (cl : List (Str × Addr)) (outer : List Env) (A₀ : Around) (base h₀ : Heap) (L : Addr) (m mg mb : Str → Option Value) (mean : ExcName → Option Value) (s : Shared) (Q E : Value → Shared → Prop)
    (rest : List (Addr × Obj)) (pc q : Nat) (e1 : Nat) (tb : Array Value)
    (B : Below A₀ base outer h₀) (F : Fr h₀ L s.heap m) (X : (hd1.heap_39 w.params).In h₀) (T : Top topProg lo3 mean mg mb h₀)
    (hk : cs.kind = .function) (hd : dp + 40 < recursionLimit) (hu : un + 600 < cLine)
    (N : News h₀ L s.heap ((q, bfmObj "list.append" (.ref pc)) :: (pc, listOf #[] e1) :: (123, tabObj tb) :: rest))
    (hq : 123 < pc ∧ pc < q) (r1 : ∀ p ∈ rest, p.1 ≠ 123) (r2 : ∀ p ∈ rest, p.1 ≠ pc)
    (hQ : ∀ (wd wr dl nsd ns pm ps : Nat) (rest' : List (Addr × Obj)) tk t0 nsds nss e0 e1 e2 e3 e4 e5 h' tk', Fr h₀ L h' m → News h₀ L h' (wCells w.params tk t0 wd wr q pc dl nsd ns pm ps false false [] [] nsds nss [Value.bool false] tb e0 e1 e2 e3 e4 e5 rest') → WOrd wd wr q pc dl nsd ns pm ps → WOff wd pc dl nsd ns ps rest' → NsOk nsds rest' → nsds.length = 1 → nss.length = 2 → (∀ p ∈ rest, p ∈ rest') → Q (.ref wr) { s with heap := h', toks := tk' }) :
    wpAny (model P3 w) (ktrTop dp un gd cn cs L a ccd cl outer) (call (.ref 150) [.ref q]) Q E s := by
  obtain ⟨hq1, hq2⟩ := hq
  iterate 1 (first | (k_unfold; (try dsimp only)) | walk1 | (dsimp only; walk1) | (leave1; try dsimp only))
  rename (Fr _ _ _ _) => F0
  obtain ⟨m9, hm9, F1⟩ : ∃ m', m' = _ ∧ Fr _ _ _ m' := ⟨_, rfl, F0⟩
  obtain ⟨v9, hv9, i_self⟩ : ∃ v, v = Value.ref _ ∧ m9 (Str.ofString "self") = some v := ⟨_, rfl, by rw [hm9]; exact rfl⟩
  subst hv9
  have i_write : m9 (Str.ofString "write") = some (Value.ref q) := by rw [hm9]; exact rfl
  have i_with_comments : m9 (Str.ofString "with_comments") = some (Value.bool false) := by rw [hm9]; exact rfl
  have i_strip_text : m9 (Str.ofString "strip_text") = some (Value.bool false) := by rw [hm9]; exact rfl
  have i_rewrite_prefixes : m9 (Str.ofString "rewrite_prefixes") = some (Value.bool false) := by rw [hm9]; exact rfl
  have i_qname_aware_tags : m9 (Str.ofString "qname_aware_tags") = some Value.none := by rw [hm9]; exact rfl
  have i_qname_aware_attrs : m9 (Str.ofString "qname_aware_attrs") = some Value.none := by rw [hm9]; exact rfl
  have i_exclude_attrs : m9 (Str.ofString "exclude_attrs") = some Value.none := by rw [hm9]; exact rfl
  have i_exclude_tags : m9 (Str.ofString "exclude_tags") = some Value.none := by rw [hm9]; exact rfl
  clear hm9 F0
  iterate 124 (first | (k_unfold; (try dsimp only)) | walk1 | (dsimp only; walk1) | (leave1; try dsimp only))
  ((with_reducible show wpAny _ _ (getMethod (Value.ref 44) _ _) _ _ _); k_dflt (refine' ns_method ?nF ?nX ?_; (case nF => k_asm); (case nX => k_asm)))
  iterate 1 (first | (k_unfold; (try dsimp only)) | walk1 | (dsimp only; walk1) | (leave1; try dsimp only))
  ((with_reducible show wpAny _ _ (call (Value.builtin "dict.items") [Value.ref 44]) _ _ _); k_dflt (refine' ns_view ?nF ?nN ?nX ?_; (case nF => k_asm); (case nN => k_asm); (case nX => k_asm)); intro D' h' F' N' l1; (try k_lt l1))
  iterate 1 (first | (k_unfold; (try dsimp only)) | walk1 | (dsimp only; walk1) | (leave1; try dsimp only))
  ((with_reducible show wpAny _ _ (call (Value.type "list") [Value.ref _]) _ _ _); k_dflt (refine' ns_list ?nh ?nF ?nX ?nN ?_; (case nh => exact rfl); (case nF => k_asm); (case nX => k_asm); (case nN => k_asm)); intro B' h' tk' F' N' l1 l2; (try k_lt l1))
  repeat (first | (k_unfold; (try dsimp only)) | walk1 | (dsimp only; walk1) | (leave1; try dsimp only))
  rename (News _ _ _ _) => N9
  (try dsimp only at N9)
  obtain ⟨rest9, tk9, N9x, o9, W9, n9, s9⟩ := fin_init N9 (lt_suf (by assumption) (by repeat (first | with_reducible exact Suf.here | with_reducible refine Suf.tail ?_))) r1 r2 (by
    refine pw_cons ?_ (pw_cons ?_ (pw_cons ?_ (pw_cons ?_ (pw_cons ?_ (pw_cons ?_ (pw_cons ?_ (pw_cons ?_ (pw_cons ?_ (pw_cons ?_ (pw_cons ?_ (pw_cons ?_ (List.pairwise_singleton _ _))))))))))))
    all_goals (walk_at "LT"))
  exact hQ _ _ _ _ _ _ _ rest9 tk9 _ _ _ _ _ _ _ _ _ _ _ (by assumption) N9x o9 W9 n9 rfl rfl s9
end
section
open PySem PySem.W PyProof.Rows PySem.Calls PySem.Spec
open PyProof.Rows.LCg
abbrev cutI (I : Nat) (l : List (Addr × Obj)) : List (Addr × Obj) := l.filter fun p => decide (@Ne Nat p.1 I)
theorem cut_mem {I : Nat} {l : List (Addr × Obj)} {p : Addr × Obj} (h : p ∈ l) (hn : @Ne Nat p.1 I) : p ∈ cutI I l := List.mem_filter.mpr ⟨h, decide_eq_true hn⟩
theorem cut_sub {I : Nat} {l : List (Addr × Obj)} {p : Addr × Obj} (h : p ∈ cutI I l) : p ∈ l := (List.mem_filter.mp h).1
theorem cut_ne {I : Nat} {l : List (Addr × Obj)} {p : Addr × Obj} (h : p ∈ cutI I l) : @Ne Nat p.1 I := of_decide_eq_true (List.mem_filter.mp h).2
theorem tabSt_cut {pos : Pos} {q : Str} {tb : Array Value} {rest : List (Addr × Obj)} {I : Nat} {oI : Obj} {h₀ h : Heap} {L : Addr} (T : TabSt pos q tb rest) (N : News h₀ L h rest) (hI : h.get? I = some oI) (it : ItObj oI) : TabSt pos q tb (cutI I rest) := by
  rcases T with T | ⟨c', T, oc, vs, t, hm, hd, hv⟩
  · exact .inl T
  · refine .inr ⟨c', T, oc, vs, t, cut_mem hm (fun e => ?_), hd, hv⟩
    have h1 := (N _ hm).1
    dsimp only at e h1
    rw [e] at h1
    rw [h1] at hI
    obtain ⟨vs', e', h'⟩ := it.no
    obtain rfl := Option.some.inj hI
    rw [hd] at e'
    obtain rfl := Data.fields.inj e'
    exact h' _ _ hv
theorem tabSt_mono {pos : Pos} {q : Str} {tb : Array Value} {rest rest' : List (Addr × Obj)} (T : TabSt pos q tb rest) (hs : ∀ p ∈ rest, p ∈ rest') : TabSt pos q tb rest' := by
  rcases T with T | ⟨c', T, C⟩
  · exact .inl T
  · exact .inr ⟨c', T, C.mono hs⟩
theorem wOff_sub {wd pc dl nsd ns ps : Nat} {rest rest' : List (Addr × Obj)} (W : WOff wd pc dl nsd ns ps rest) (hs : ∀ p ∈ rest', p ∈ rest) : WOff wd pc dl nsd ns ps rest' := by
  obtain ⟨w1, w2, w3, w4, w5, w6, w7⟩ := W
  exact ⟨fun q hq => w1 q (hs q hq), fun q hq => w2 q (hs q hq), fun q hq => w3 q (hs q hq), fun q hq => w4 q (hs q hq), fun q hq => w5 q (hs q hq), fun q hq => w6 q (hs q hq), fun q hq => w7 q (hs q hq)⟩
theorem news_ahead {h₀ h : Heap} {L : Addr} {a c1 c2 c3 c4 c5 c6 c7 c8 c9 : Addr × Obj} {rest rest' : List (Addr × Obj)} (N : News h₀ L h (c1 :: c2 :: c3 :: c4 :: c5 :: c6 :: c7 :: c8 :: c9 :: rest)) (ha : a ∈ rest) (hs : ∀ p ∈ rest', p ∈ rest) : News h₀ L h (a :: c1 :: c2 :: c3 :: c4 :: c5 :: c6 :: c7 :: c8 :: c9 :: rest') := news_c N (.tail _ (.tail _ (.tail _ (.tail _ (.tail _ (.tail _ (.tail _ (.tail _ (.tail _ (ha)))))))))) (news_c N (.head _) (news_c N (.tail _ (.head _)) (news_c N (.tail _ (.tail _ (.head _))) (news_c N (.tail _ (.tail _ (.tail _ (.head _)))) (news_c N (.tail _ (.tail _ (.tail _ (.tail _ (.head _))))) (news_c N (.tail _ (.tail _ (.tail _ (.tail _ (.tail _ (.head _)))))) (news_c N (.tail _ (.tail _ (.tail _ (.tail _ (.tail _ (.tail _ (.head _))))))) (news_c N (.tail _ (.tail _ (.tail _ (.tail _ (.tail _ (.tail _ (.tail _ (.head _)))))))) (news_c N (.tail _ (.tail _ (.tail _ (.tail _ (.tail _ (.tail _ (.tail _ (.tail _ (.head _))))))))) (fun p hp => N p (.tail _ (.tail _ (.tail _ (.tail _ (.tail _ (.tail _ (.tail _ (.tail _ (.tail _ (hs p hp))))))))))))))))))))
inductive Wr (w : World) (wr pc : Nat) (rest : List (Addr × Obj)) (n : Nat) (out : Str) (len : Nat) (pd : List (Str × Tok)) (nw : List (Addr × Obj)) (g : Gens) : Prop
  | mk (tkW : Nat → Tok) (t0 : Tok) (wd q dl nsd ns pm ps : Nat) (seen done : Bool) (pcs : List (Str × Tok)) (v0 : Value) (s0 : List Value) (ds ls : List Nat) (tb : Array Value) (e0 e1 e2 e3 e4 e5 : Nat) (rest' : List (Addr × Obj))
    (hnw : nw = wCells w.params tkW t0 wd wr q pc dl nsd ns pm ps seen done pcs pd (v0 :: ds.map Value.ref) (s0 ++ ls.map Value.ref) (List.replicate (n + 1) (Value.bool false)) tb e0 e1 e2 e3 e4 e5 rest')
    (O : WOrd wd wr q pc dl nsd ns pm ps) (W : WOff wd pc dl nsd ns ps rest') (T : TabSt lamPos lamQ tb rest') (sub : ∀ p ∈ rest, p ∈ rest') (B : AllBare g) (Ns : NsOk (v0 :: ds.map Value.ref) rest') (hd : ds.length = n) (hs : ls.length = n) (h0 : s0.length = 2) (hc : catS (pcs.map (·.1)) = out) (hl : pcs.length ≤ len) (hsn : 0 < n → seen = true) : Wr w wr pc rest n out len pd nw g
section
variable {w : World} {wr pc : Nat} {rest : List (Addr × Obj)} {n : Nat} {out : Str} {len : Nat} {pd : List (Str × Tok)} {nw : List (Addr × Obj)} {g : Gens}
theorem Wr.mem (h : Wr w wr pc rest n out len pd nw g) {p : Addr × Obj} (hp : p ∈ rest) : p ∈ nw := by
  obtain ⟨tkW, t0, wd, q, dl, nsd, ns, pm, ps, seen, done, pcs, v0, s0, ds, ls, tb, e0, e1, e2, e3, e4, e5, rest', rfl, O, W, T, sub, B, Ns, hd, hs, h0, hc, hl, hsn⟩ := h
  exact .tail _ (.tail _ (.tail _ (.tail _ (.tail _ (.tail _ (.tail _ (.tail _ (.tail _ (sub p hp)))))))))
theorem Wr.pieces (h : Wr w wr pc rest n out len pd nw g) : ∃ pcs e, (pc, listOf (strValues pcs).toArray e) ∈ nw ∧ catS (pcs.map (·.1)) = out ∧ pcs.length ≤ len := by
  obtain ⟨tkW, t0, wd, q, dl, nsd, ns, pm, ps, seen, done, pcs, v0, s0, ds, ls, tb, e0, e1, e2, e3, e4, e5, rest', rfl, O, W, T, sub, B, Ns, hd, hs, h0, hc, hl, hsn⟩ := h
  exact ⟨pcs, e1, .tail _ (.tail _ (.tail _ (.head _))), hc, hl⟩
theorem Wr.gens (h : Wr w wr pc rest n out len pd nw g) : AllBare g := by
  obtain ⟨tkW, t0, wd, q, dl, nsd, ns, pm, ps, seen, done, pcs, v0, s0, ds, ls, tb, e0, e1, e2, e3, e4, e5, rest', rfl, O, W, T, sub, B, Ns, hd, hs, h0, hc, hl, hsn⟩ := h
  exact B
theorem Wr.less (h : Wr w wr pc rest n out len pd nw g) {r2 : List (Addr × Obj)} (hs : ∀ p ∈ r2, p ∈ rest) {len2 : Nat} (hl2 : len ≤ len2) : Wr w wr pc r2 n out len2 pd nw g := by
  obtain ⟨tkW, t0, wd, q, dl, nsd, ns, pm, ps, seen, done, pcs, v0, s0, ds, ls, tb, e0, e1, e2, e3, e4, e5, rest', rfl, O, W, T, sub, B, Ns, hd, hs', h0, hc, hl, hsn⟩ := h
  exact .mk tkW t0 wd q dl nsd ns pm ps seen done pcs v0 s0 ds ls tb e0 e1 e2 e3 e4 e5 rest' rfl O W T (fun p hp => sub p (hs p hp)) B Ns hd hs' h0 hc (Nat.le_trans hl hl2) hsn
theorem Wr.keep (h : Wr w wr pc rest n out len pd nw g) {a : Nat} {o : Obj} (ha : ∀ p ∈ nw, @Ne Nat p.1 a) : ∃ nw', Wr w wr pc ((a, o) :: rest) n out len pd nw' g ∧ (∀ p ∈ nw', p ∈ (a, o) :: nw) := by
  obtain ⟨tkW, t0, wd, q, dl, nsd, ns, pm, ps, seen, done, pcs, v0, s0, ds, ls, tb, e0, e1, e2, e3, e4, e5, rest', rfl, O, W, T, sub, B, Ns, hd, hs, h0, hc, hl, hsn⟩ := h
  refine ⟨_, .mk tkW t0 wd q dl nsd ns pm ps seen done pcs v0 s0 ds ls tb e0 e1 e2 e3 e4 e5 ((a, o) :: rest') rfl O ?_ ?_ ?_ B (Ns.mono fun p hp => .tail _ hp) hd hs h0 hc hl hsn, ?_⟩
  · exact wOff_cons W (Ne.symm (ha _ (.tail _ (.tail _ (.tail _ (.tail _ (.tail _ (.tail _ (.tail _ (.tail _ (.head _)))))))))))
      (Ne.symm (ha _ (.tail _ (.tail _ (.tail _ (.head _)))))) (Ne.symm (ha _ (.head _))) (Ne.symm (ha _ (.tail _ (.tail _ (.tail _ (.tail _ (.head _)))))))
      (Ne.symm (ha _ (.tail _ (.tail _ (.tail _ (.tail _ (.tail _ (.head _)))))))) (Ne.symm (ha _ (.tail _ (.tail _ (.tail _ (.tail _ (.tail _ (.tail _ (.head _)))))))))
      (Ne.symm (ha _ (.tail _ (.tail _ (.tail _ (.tail _ (.tail _ (.tail _ (.tail _ (.head _))))))))))
  · exact tabSt_mono T fun p hp => .tail _ hp
  · exact List.forall_mem_cons.2 ⟨.head _, fun p hp => .tail _ (sub p hp)⟩
  · intro p hp
    simp only [List.mem_cons] at hp ⊢
    rcases hp with h | h | h | h | h | h | h | h | h | h | h
    all_goals simp [h]
theorem seq_fld {vs : List Value} {e : Nat} {o : Obj} {fs : Array Value} (h : o.data = .fields fs) : W.listOf vs.toArray e ≠ o := fun q => by rw [← q] at h; simp at h
theorem tup_fld {vs : List Value} {o : Obj} {fs : Array Value} (h : o.data = .fields fs) : tupOf vs ≠ o := fun q => by rw [← q] at h; simp at h
theorem Wr.cut {I : Nat} {oI : Obj} {h₀ hp : Heap} {L : Addr} (h : Wr w wr pc ((I, oI) :: rest) n out len pd nw g) (N : News h₀ L hp nw) (it : ItObj oI) (hr : ∀ p ∈ rest, @Ne Nat p.1 I) :
    ∃ nw', Wr w wr pc rest n out len pd nw' g ∧ News h₀ L hp ((I, oI) :: nw') ∧ Off1 I nw' := by
  obtain ⟨tkW, t0, wd, q, dl, nsd, ns, pm, ps, seen, done, pcs, v0, s0, ds, ls, tb, e0, e1, e2, e3, e4, e5, rest', rfl, O, W, T, sub, B, Ns, hd, hs, h0, hc, hl, hsn⟩ := h
  have hI := sub _ (.head _)
  have Nr : News h₀ L hp rest' := fun p hp => N p (.tail _ (.tail _ (.tail _ (.tail _ (.tail _ (.tail _ (.tail _ (.tail _ (.tail _ hp)))))))))
  obtain ⟨fs, iI, tI, hfs, hit⟩ := id it
  obtain ⟨w1, w2, w3, w4, w5, w6, w7⟩ := id W
  have cut : ∀ p ∈ rest', p.2 ≠ oI → p ∈ cutI I rest' := fun p hp hne => cut_mem hp fun e => by
    have h1 := (Nr _ hp).1
    have h2 := (Nr _ hI).1
    dsimp only at e h1 h2
    rw [e, h2] at h1
    exact hne (Option.some.inj h1).symm
  have nwr : @Ne Nat wr I := fun e => by
    have h1 := (N (wr, instObj 150 wd) (.tail _ (.head _))).1
    have h2 := (Nr _ hI).1
    dsimp only at h1 h2
    rw [e, h2] at h1
    rw [Option.some.inj h1] at hfs
    simp at hfs
  have nq : @Ne Nat q I := fun e => by
    have h1 := (N (q, bfmObj "list.append" (.ref pc)) (.tail _ (.tail _ (.head _)))).1
    have h2 := (Nr _ hI).1
    dsimp only at h1 h2
    rw [e, h2] at h1
    rw [Option.some.inj h1] at hfs
    rw [← Data.fields.inj hfs] at hit
    simp at hit
  refine ⟨_, .mk tkW t0 wd q dl nsd ns pm ps seen done pcs v0 s0 ds ls tb e0 e1 e2 e3 e4 e5 (cutI I rest') rfl O (wOff_sub W fun p hp => cut_sub hp) (tabSt_cut T Nr (Nr _ hI).1 it) (fun p hp => cut_mem (sub p (.tail _ hp)) (hr p hp)) B ?_ hd hs h0 hc hl hsn, ?_, ?_⟩
  · obtain ⟨n0, n2, tp, t1, t2, a, b, c, d⟩ := Ns
    exact ⟨n0, n2, tp, t1, t2, a, cut _ b (seq_fld (vs := [.ref tp]) hfs), cut _ c (tup_fld hfs), fun k v hk hv => let ⟨e, n, x, y⟩ := d k v hk hv; ⟨e, n, x, cut _ y (seq_fld (vs := []) hfs)⟩⟩
  · exact news_ahead N hI fun p hp => cut_sub hp
  · refine ⟨Ne.symm (w3 _ hI), nwr, nq, Ne.symm (w2 _ hI), Ne.symm (w4 _ hI), Ne.symm (w5 _ hI), Ne.symm (w6 _ hI), Ne.symm (w7 _ hI), Ne.symm (w1 _ hI), off1_of _ fun p hp => cut_ne hp⟩
def CodeLike (o : Obj) : Prop := ∃ vs q t, o.data = .fields vs ∧ vs[1]? = some (.str q t)
theorem tab_new {pos : Pos} {q : Str} {tb : Array Value} {rest rest' : List (Addr × Obj)} (T : TabSt pos q tb rest') : ∃ new : List (Addr × Obj), (∀ p ∈ new, p ∈ rest') ∧ (∀ p ∈ new, CodeLike p.2) ∧ TabSt pos q tb (new ++ rest) := by
  rcases T with T | ⟨c', T, oc, vs, t, hm, hd, hv⟩
  · exact ⟨[], (by intro p hp; cases hp), (by intro p hp; cases hp), Or.inl T⟩
  · have hm' : (c', oc) ∈ [(c', oc)] ++ rest := List.mem_append_left _ (List.mem_singleton.mpr rfl)
    have C' : CodeObj q c' ([(c', oc)] ++ rest) := ⟨oc, vs, t, hm', hd, hv⟩
    have T' : TabSt pos q tb ([(c', oc)] ++ rest) := Or.inr ⟨c', T, C'⟩
    refine ⟨[(c', oc)], ?_, ?_, T'⟩
    · intro p hp; rw [List.mem_singleton.mp hp]; exact hm
    · intro p hp; rw [List.mem_singleton.mp hp]; exact ⟨vs, q, t, hd, hv⟩
theorem Wr.fin (h : Wr w wr pc rest n out len pd nw g) : ∃ tb' new, (∀ p ∈ (123, tabObj tb') :: (new ++ rest), p ∈ nw) ∧ TabSt lamPos lamQ tb' new ∧ (∀ p ∈ new, CodeLike p.2) ∧ (∀ p ∈ new, @Ne Nat p.1 123) := by
  obtain ⟨tkW, t0, wd, q, dl, nsd, ns, pm, ps, seen, done, pcs, v0, s0, ds, ls, tb, e0, e1, e2, e3, e4, e5, rest', rfl, O, W, T, sub, B, Ns, hd, hs, h0, hc, hl, hsn⟩ := h
  obtain ⟨new, hn1, hn2, T9⟩ := tab_new (rest := []) T
  rw [List.append_nil] at T9
  refine ⟨tb, new, fun p hp => ?_, T9, hn2, fun p hp => W.1 p (hn1 p hp)⟩
  rcases List.mem_cons.mp hp with h | hp
  · rw [h]; exact .tail _ (.tail _ (.tail _ (.tail _ (.tail _ (.tail _ (.tail _ (.tail _ (.head _))))))))
  · refine .tail _ (.tail _ (.tail _ (.tail _ (.tail _ (.tail _ (.tail _ (.tail _ (.tail _ ?_))))))))
    rcases List.mem_append.mp hp with h | h
    · exact hn1 p h
    · exact sub p h
theorem Wr.base (h : Wr w wr pc rest n out len pd nw g) : 123 < pc := by
  obtain ⟨tkW, t0, wd, q, dl, nsd, ns, pm, ps, seen, done, pcs, v0, s0, ds, ls, tb, e0, e1, e2, e3, e4, e5, rest', rfl, O, W, T, sub, B, Ns, hd, hs, h0, hc, hl, hsn⟩ := h
  exact O.1
theorem Wr.objs (h : Wr w wr pc rest n out len pd nw g) : ∃ (wd : Nat) (tk : Nat → Tok) (q dl nsd ns pm ps : Value) (seen done : Bool) (t0 : Tok) (e : Nat), (wr, instObj 150 wd) ∈ nw ∧ (wd, dictOf (wdict w.params tk q dl nsd ns pm ps .none seen done t0) e) ∈ nw := by
  obtain ⟨tkW, t0, wd, q, dl, nsd, ns, pm, ps, seen, done, pcs, v0, s0, ds, ls, tb, e0, e1, e2, e3, e4, e5, rest', rfl, O, W, T, sub, B, Ns, hd, hs, h0, hc, hl, hsn⟩ := h
  exact ⟨wd, tkW, .ref q, .ref dl, .ref nsd, .ref ns, .ref pm, .ref ps, seen, done, t0, e0, .tail _ (.head _), .head _⟩
theorem last_ref {ds : List Nat} {n : Nat} (h : ds.length = n + 1) : ∃ ds' d, ds = ds' ++ [d] ∧ ds'.length = n := by
  rcases List.eq_nil_or_concat ds with e | ⟨r, d, e⟩
  · rw [e] at h; cases h
  · rw [List.concat_eq_append] at e
    refine ⟨r, d, e, ?_⟩
    rw [e, List.length_append, List.length_singleton] at h
    omega
theorem rep_push {n : Nat} : List.replicate (n + 1 + 1) (Value.bool false) = List.replicate (n + 1) (Value.bool false) ++ [Value.bool false] := List.replicate_succ'
theorem ref_push {v0 : Value} {ds : List Nat} {d : Nat} : v0 :: (ds ++ [d]).map Value.ref = v0 :: ds.map Value.ref ++ [Value.ref d] := by simp
theorem ref_push' {s0 : List Value} {ds : List Nat} {d : Nat} : s0 ++ (ds ++ [d]).map Value.ref = s0 ++ ds.map Value.ref ++ [Value.ref d] := by simp
end
set_option maxHeartbeats 2000000 in
theorem start_w (w : World) (dp un : Nat) (gd : Option (List Code)) (cn : Str) (cs : Scope) (a : Addr) (ccd : Value) (cl : List (Str × Addr)) (outer : List Env) (A₀ : Around) (base h₀ : Heap) (L : Addr) (m mg mb : Str → Option Value) (mean : ExcName → Option Value) (s : Shared) (Q E : Value → Shared → Prop)
    (rest nw : List (Addr × Obj)) (wr pc n : Nat) (out : Str) (len : Nat) (x : Str) (tx : Tok) (at_ : Nat) (oA : Obj) (kvs so : List (Str × Tok)) (v ev : Str)
    (B : Below A₀ base outer h₀) (F : Fr h₀ L s.heap m) (X : (hd1.heap_39 w.params).In h₀) (T : Top topProg lo3 mean mg mb h₀)
    (hk : cs.kind = .function) (hd : dp + 60 < recursionLimit) (hu : un + 900 < cLine)
    (N : News h₀ L s.heap ((at_, oA) :: nw))
    (hW : Wr w wr pc rest n out len [] nw s.gens) (lt : ∀ p ∈ nw, @LT.lt Nat _ p.1 at_) (hlen : len ≤ 990) (hn9 : n < 900) (hnm : ∀ n ∈ x :: kvs.map (·.1), NameOk n) (hxk : x ∉ kvs.map (·.1)) (hk6 : kvs.length ≤ 6) (hav : AttrV v ev) (hst : StarOf w at_ oA (atKv v kvs) x) (hlo : kvs ≠ [] → LSortOf w (atKv v kvs) (atKv v so)) (hso : so.Perm kvs)
    (d1 : oA.IsDictOf (PySem.strKind P3 w) (atKv v kvs)) (d3 : (at_ == sysModules) = false) (hC : CodeHd h₀ 125 123)
    (hQ : ∀ nw' h' tk' g' d', Fr h₀ L h' m → News h₀ L h' nw' → Wr w wr pc rest (n + 1) (out ++ begA x so ev) (len + 3) [] nw' g' → Q .none { s with heap := h', toks := tk', gens := g', drawn := d' }) :
    wpAny (model P3 w) (ktrTop dp un gd cn cs L a ccd cl outer) (call (.ref 120) [.ref wr, .str x tx, .ref at_]) Q E s := by
  obtain ⟨tkW, t0, wd, q, dl, nsd, ns, pm, ps, seen, done, pcs, v0, s0, ds, ls, tb, e0, e1, e2, e3, e4, e5, rest', rfl, O, W, T', sub, Bg, Ns, hds, hls, h0, hc, hl, hsn⟩ := hW
  refine start_c w dp un gd cn cs a ccd cl outer A₀ base h₀ L m mg mb mean s Q E rest' tkW t0 wd wr q pc dl nsd ns pm ps seen done pcs (v0 :: ds.map Value.ref) (s0 ++ ls.map Value.ref) (List.replicate n (Value.bool false)) tb e0 e1 e2 e3 e4 e5 x tx at_ oA kvs so v ev B F X T hk hd hu (by rw [← List.replicate_succ']; exact news_behind N) O ?hr (Nat.le_trans hl hlen) Ns Bg hnm hxk hk6 hav hst hlo hso d1 d3 ?d4 ?hps ?hns ?hnd hC T' ?hQ
  case hr =>
    exact wOff_cons W (Ne.symm (Nat.ne_of_lt (lt _ (.tail _ (.tail _ (.tail _ (.tail _ (.tail _ (.tail _ (.tail _ (.tail _ (.head _))))))))))))
      (Ne.symm (Nat.ne_of_lt (lt _ (.tail _ (.tail _ (.tail _ (.head _))))))) (Ne.symm (Nat.ne_of_lt (lt _ (.head _)))) (Ne.symm (Nat.ne_of_lt (lt _ (.tail _ (.tail _ (.tail _ (.tail _ (.head _))))))))
      (Ne.symm (Nat.ne_of_lt (lt _ (.tail _ (.tail _ (.tail _ (.tail _ (.tail _ (.head _))))))))) (Ne.symm (Nat.ne_of_lt (lt _ (.tail _ (.tail _ (.tail _ (.tail _ (.tail _ (.tail _ (.head _))))))))))
      (Ne.symm (Nat.ne_of_lt (lt _ (.tail _ (.tail _ (.tail _ (.tail _ (.tail _ (.tail _ (.tail _ (.head _)))))))))))
  case d4 => exact lt _ (.tail _ (.tail _ (.tail _ (.tail _ (.tail _ (.tail _ (.tail _ (.head _))))))))
  case hps => rw [List.length_replicate]; omega
  case hns => rw [List.length_append, List.length_map]; omega
  case hnd => rw [List.length_cons, List.length_map]; omega
  case hQ =>
    intro nn l' rest2 new tb' f1 f2 f3 f4 f5 h' tk' g' d' F' N' W' T2 Ns' s2 B' c2 l2
    refine hQ _ h' tk' g' d' F' N' ?_
    refine .mk tkW t0 wd q dl nsd ns pm ps true done (pcs ++ new) v0 s0 (ds ++ [nn]) (ls ++ [l']) tb' e0 f1 f2 f3 f4 f5 rest2 ?_ O W' T2 (fun p hp => s2 p (sub p hp)) B' ?_ ?_ ?_ h0 ?_ ?_ fun _ => rfl
    · rw [ref_push, ref_push', rep_push, List.replicate_succ']
    · rw [ref_push]; exact Ns'
    · rw [List.length_append, hds]; rfl
    · rw [List.length_append, hls]; rfl
    · rw [List.map_append, catS_append, hc, c2]
    · rw [List.length_append]; omega

set_option maxHeartbeats 2000000 in
theorem end_w (w : World) (dp un : Nat) (gd : Option (List Code)) (cn : Str) (cs : Scope) (a : Addr) (ccd : Value) (cl : List (Str × Addr)) (outer : List Env) (A₀ : Around) (base h₀ : Heap) (L : Addr) (m mg mb : Str → Option Value) (mean : ExcName → Option Value) (s : Shared) (Q E : Value → Shared → Prop)
    (rest nw : List (Addr × Obj)) (wr pc n : Nat) (out : Str) (len : Nat) (pend : Bool) (td : Tok) (mk im : Str) (hmk : Mark mk im) (x : Str) (tx : Tok)
    (B : Below A₀ base outer h₀) (F : Fr h₀ L s.heap m) (X : (hd1.heap_39 w.params).In h₀) (T : Top topProg lo3 mean mg mb h₀)
    (hk : cs.kind = .function) (hd : dp + 60 < recursionLimit) (hu : un + 900 < cLine)
    (N : News h₀ L s.heap nw)
    (hW : Wr w wr pc rest (n + 1) out len (penL mk pend td) nw s.gens) (hlen : len ≤ 990) (hn9 : n < 900) (hx : ¬ ((Txt.slice x none (some 1) == Str.ofString "{") = true)) (hlx : x.length ≤ 1024) (hC : CodeHd h₀ 125 123)
    (hQ : ∀ nw' h' tk' g' d', Fr h₀ L h' m → News h₀ L h' nw' → Wr w wr pc rest n (out ++ penT im pend ++ endA x) (len + 2) [] nw' g' → Q .none { s with heap := h', toks := tk', gens := g', drawn := d' }) :
    wpAny (model P3 w) (ktrTop dp un gd cn cs L a ccd cl outer) (call (.ref 133) [.ref wr, .str x tx]) Q E s := by
  obtain ⟨tkW, t0, wd, q, dl, nsd, ns, pm, ps, seen, done, pcs, v0, s0, ds, ls, tb, e0, e1, e2, e3, e4, e5, rest', rfl, O, W, T', sub, Bg, Ns, hds, hls, h0, hc, hl, hsn⟩ := hW
  obtain ⟨ds, nn, rfl, hds'⟩ := last_ref hds
  obtain ⟨ls, l2, rfl, hls'⟩ := last_ref hls
  obtain rfl := hsn (Nat.succ_pos n)
  rw [ref_push, ref_push', rep_push] at N
  rw [ref_push] at Ns
  refine end_c w dp un gd cn cs a ccd cl outer A₀ base h₀ L m mg mb mean s Q E rest' tkW t0 wd wr q pc dl nsd ns pm ps true done pcs (v0 :: ds.map Value.ref) (s0 ++ ls.map Value.ref) (List.replicate (n + 1) (Value.bool false)) tb e0 e1 e2 e3 e4 e5 pend td mk im hmk x tx nn l2 B F X T hk hd hu N O W (Nat.le_trans hl hlen) Ns Bg hx hlx ?hps ?hns ?hnd hC ?hQ
  case hps => rw [List.length_replicate]; omega
  case hns => rw [List.length_append, List.length_map]; omega
  case hnd => rw [List.length_cons, List.length_map]; omega
  case hQ =>
    intro done' new f1 f2 f3 f4 f5 h' tk' g' F' N' B' c2 l3
    refine hQ _ h' tk' g' s.drawn F' N' ?_
    refine .mk tkW t0 wd q dl nsd ns pm ps true done' (pcs ++ new) v0 s0 ds ls tb e0 f1 f2 f3 f4 f5 rest' rfl O W T' sub B' ?_ hds' hls' h0 ?_ ?_ fun _ => rfl
    · obtain ⟨n0, n2, tp, t1, t2, a, b, c, d⟩ := Ns
      exact ⟨n0, n2, tp, t1, t2, a, b, c, fun k v hk hv => d k v hk (by rw [List.getElem?_append_left (List.getElem?_eq_some_iff.mp hv).1]; exact hv)⟩
    · rw [List.map_append, catS_append, hc, c2, app_assoc']
    · rw [List.length_append]; omega

set_option maxHeartbeats 2000000 in
theorem data_w (w : World) (dp un : Nat) (gd : Option (List Code)) (cn : Str) (cs : Scope) (a : Addr) (ccd : Value) (cl : List (Str × Addr)) (outer : List Env) (A₀ : Around) (base h₀ : Heap) (L : Addr) (m mg mb : Str → Option Value) (mean : ExcName → Option Value) (s : Shared) (Q E : Value → Shared → Prop)
    (rest nw : List (Addr × Obj)) (wr pc n : Nat) (out : Str) (len : Nat) (mk : Str) (td : Tok)
    (B : Below A₀ base outer h₀) (F : Fr h₀ L s.heap m) (X : (hd1.heap_39 w.params).In h₀) (T : Top topProg lo3 mean mg mb h₀)
    (hk : cs.kind = .function) (hd : dp + 20 < recursionLimit) (hu : un + 200 < cLine)
    (N : News h₀ L s.heap nw)
    (hW : Wr w wr pc rest n out len [] nw s.gens) (hlen : len ≤ 990)
    (hQ : ∀ nw' h' tk' g' d', Fr h₀ L h' m → News h₀ L h' nw' → Wr w wr pc rest n out len [(mk, td)] nw' g' → Q .none { s with heap := h', toks := tk', gens := g', drawn := d' }) :
    wpAny (model P3 w) (ktrTop dp un gd cn cs L a ccd cl outer) (call (.ref 97) [.ref wr, .str mk td]) Q E s := by
  obtain ⟨tkW, t0, wd, q, dl, nsd, ns, pm, ps, seen, done, pcs, v0, s0, ds, ls, tb, e0, e1, e2, e3, e4, e5, rest', rfl, O, W, T', sub, Bg, Ns, hds, hls, h0, hc, hl, hsn⟩ := hW
  refine data_c w dp un gd cn cs a ccd cl outer A₀ base h₀ L m mg mb mean s Q E rest' tkW t0 wd wr q pc dl nsd ns pm ps seen done pcs [] (v0 :: ds.map Value.ref) (s0 ++ ls.map Value.ref) (List.replicate (n + 1) (Value.bool false)) tb e0 e1 e2 e3 e4 e5 mk td B F X T hk hd hu N O W (by omega) ?hQ
  intro f2 h' tk' F' N'
  exact hQ _ h' tk' s.gens s.drawn F' N' (.mk tkW t0 wd q dl nsd ns pm ps seen done pcs v0 s0 ds ls tb e0 e1 f2 e3 e4 e5 rest' rfl O W T' sub Bg Ns hds hls h0 hc hl hsn)

set_option maxHeartbeats 2000000 in
theorem init_w (w : World) (dp un : Nat) (gd : Option (List Code)) (cn : Str) (cs : Scope) (a : Addr) (ccd : Value) (cl : List (Str × Addr)) (outer : List Env) (A₀ : Around) (base h₀ : Heap) (L : Addr) (m mg mb : Str → Option Value) (mean : ExcName → Option Value) (s : Shared) (Q E : Value → Shared → Prop)
    (rest : List (Addr × Obj)) (pc q : Nat) (e1 : Nat) (tb : Array Value)
    (B : Below A₀ base outer h₀) (F : Fr h₀ L s.heap m) (X : (hd1.heap_39 w.params).In h₀) (T : Top topProg lo3 mean mg mb h₀)
    (hk : cs.kind = .function) (hd : dp + 40 < recursionLimit) (hu : un + 600 < cLine)
    (N : News h₀ L s.heap ((q, bfmObj "list.append" (.ref pc)) :: (pc, listOf #[] e1) :: (123, tabObj tb) :: rest))
    (hq : 123 < pc ∧ pc < q) (r1 : ∀ p ∈ rest, p.1 ≠ 123) (r2 : ∀ p ∈ rest, p.1 ≠ pc) (hb : AllBare s.gens) (htb : TabSt lamPos lamQ tb rest)
    (hQ : ∀ (wr : Nat) nw' h' tk', Fr h₀ L h' m → News h₀ L h' nw' → Wr w wr pc rest 0 (Str.ofString "") 0 [] nw' s.gens → Q (.ref wr) { s with heap := h', toks := tk' }) :
    wpAny (model P3 w) (ktrTop dp un gd cn cs L a ccd cl outer) (call (.ref 150) [.ref q]) Q E s := by
  refine init_c w dp un gd cn cs a ccd cl outer A₀ base h₀ L m mg mb mean s Q E rest pc q e1 tb B F X T hk hd hu N hq r1 r2 ?_
  intro wd wr dl nsd ns pm ps rest1 tkW t0 nsds nss e0 e1 e2 e3 e4 e5 h1h tk1 F1 N1 O1 W1 Ns1 l1 l2 sub1
  obtain ⟨v0, rfl⟩ := List.length_eq_one_iff.mp l1
  refine hQ wr _ h1h tk1 F1 N1 (.mk tkW t0 wd q dl nsd ns pm ps false false [] v0 nss [] [] tb e0 e1 e2 e3 e4 e5 rest1 ?_ O1 W1 (tabSt_mono htb sub1) sub1 hb Ns1 rfl rfl l2 rfl (Nat.le_refl _) fun h => absurd h (Nat.lt_irrefl _))
  rw [List.map_nil, List.append_nil]
  rfl
end
theorem topOff10 : True := by
  w_top off
  trivial
section
local macro_rules | `(tactic| walk_at "ZZ") => `(tactic| skip)
open PySem PySem.W PyProof.Rows PySem.Calls PySem.Spec
abbrev sg (c : Nat) : Str := ⟨#[c]⟩
def opS (l : List Nat) : Str := catS (l.map fun c => begA (sg c) [] (Str.ofString ""))
def clS (l : List Nat) : Str := catS (l.map fun c => endA (sg c))
def wordT (im : Str) (l : List Nat) : Str := opS l ++ im ++ clS l.reverse
def toldT (im : Str) (ls : List (List Nat)) : Str := begA (Str.ofString "r") [] (Str.ofString "") ++ catS (ls.map (wordT im)) ++ endA (Str.ofString "r")
def SignOk (c : Nat) : Prop := 97 ≤ c ∧ c ≤ 100
def WordsOk (ws : List (Str × Tok)) : Prop := ws.length ≤ 6 ∧ ∀ p ∈ ws, 0 < p.1.cps.size ∧ p.1.cps.size ≤ 6 ∧ ∀ c ∈ p.1.cps.toList, SignOk c
theorem sg_name {c : Nat} (h : SignOk c) : NameOk (sg c) := by
  obtain ⟨h1, h2⟩ := h
  have : c = 97 ∨ c = 98 ∨ c = 99 ∨ c = 100 := by walk_at "AR"
  rcases this with rfl | rfl | rfl | rfl <;> exact ⟨by decide +kernel, by decide +kernel, by decide +kernel, by decide +kernel⟩
theorem r_name : NameOk (Str.ofString "r") := ⟨by decide +kernel, by decide +kernel, by decide +kernel, by decide +kernel⟩
theorem opS_step {l : List Nat} {j c : Nat} (h : l[j]? = some c) : opS (l.take (j + 1)) = opS (l.take j) ++ begA (sg c) [] (Str.ofString "") := by
  unfold opS
  rw [List.take_add_one, h, List.map_append, catS_append]
  simp only [Option.toList, List.map, catS, app_nil']
theorem clS_step {l : List Nat} {j c : Nat} (h : l[j]? = some c) : clS (l.take (j + 1)) = clS (l.take j) ++ endA (sg c) := by
  unfold clS
  rw [List.take_add_one, h, List.map_append, catS_append]
  simp only [Option.toList, List.map, catS, app_nil']
theorem word_step {im : Str} {ws : List (Str × Tok)} {i : Nat} {p : Str × Tok} (h : ws[i]? = some p) : catS ((ws.take (i + 1)).map fun p => wordT im p.1.cps.toList) = catS ((ws.take i).map fun p => wordT im p.1.cps.toList) ++ wordT im p.1.cps.toList := by
  rw [List.take_add_one, h, List.map_append, catS_append]
  simp only [Option.toList, List.map, catS, app_nil']
theorem sv_at {ws : List (Str × Tok)} {i : Nat} {v : Value} (h : (strValues ws).toArray[i]? = some v) : ∃ p, ws[i]? = some p ∧ v = .str p.1 p.2 := by
  rw [List.getElem?_toArray, strValues, List.getElem?_map] at h
  cases e : ws[i]? with
  | none => rw [e] at h; cases h
  | some p => rw [e] at h; exact ⟨p, rfl, (Option.some.inj h).symm⟩
theorem rev_cps (x : Str) (u : Tok) : (Txt.sliceBy x none none (-1, u)).cps.toList = x.cps.toList.reverse := by
  rw [step_rev_list]
  have hlen : x.length = x.cps.toList.length := (Array.length_toList).symm
  refine List.ext_getElem (by rw [List.length_map, List.length_range, List.length_reverse, hlen]) fun k h1 h2 => ?_
  rw [List.getElem_map, List.getElem_range, List.getElem_reverse]
  have h3 : x.length - 1 - k < x.cps.size := by
    rw [List.length_map, List.length_range] at h1
    show x.cps.size - 1 - k < _
    have : k < x.cps.size := h1
    walk_at "AR"
  rw [Array.getD_eq_getD_getElem?, Array.getElem?_eq_getElem h3, Option.getD_some, Array.getElem_toList]
  simp only [Array.length_toList]
  rfl
theorem pen_step {o im e : Str} {l : List Nat} (j : Nat) : o ++ im ++ (clS (l.take j) ++ e) = o ++ penT im (decide (0 < j)) ++ clS (l.take j) ++ penT im (decide (j = 0)) ++ e := by
  cases j with
  | zero =>
    show o ++ im ++ (Str.ofString "" ++ e) = o ++ Str.ofString "" ++ Str.ofString "" ++ im ++ e
    rw [nil_app', app_nil', app_nil']
  | succ j =>
    show _ = o ++ im ++ _ ++ Str.ofString "" ++ e
    rw [app_nil', ← app_assoc']
theorem cat_len {α : Type} (b : Nat) (f : α → Str) : ∀ l : List α, (∀ x ∈ l, (f x).length ≤ b) → (catS (l.map f)).length ≤ l.length * b := fun l h => by
  have h9 := catS_len b (l.map f) fun y hy => by obtain ⟨x, hx, rfl⟩ := List.mem_map.mp hy; exact h x hx
  rw [List.length_map] at h9
  exact h9
theorem beg_len (x : Str) : (begA x [] (Str.ofString "")).length = x.length + 2 := by
  unfold begA
  simp only [PySem.Str.length_append, List.map_nil, catS]
  rw [show (Str.ofString "<").length = 1 from by decide +kernel, show (Str.ofString ">").length = 1 from by decide +kernel, show (Str.ofString "").length = 0 from by decide +kernel]
  walk_at "AR"
theorem end_len (x : Str) : (endA x).length = x.length + 3 := by
  unfold endA
  simp only [PySem.Str.length_append]
  rw [show (Str.ofString "</").length = 2 from by decide +kernel, show (Str.ofString ">").length = 1 from by decide +kernel]
  walk_at "AR"
theorem word_len {im : Str} {l : List Nat} (hl : l.length ≤ 6) (hi : im.length ≤ 10) : (wordT im l).length ≤ 100 := by
  have h1 := cat_len 3 (fun c => begA (sg c) [] (Str.ofString "")) l fun c _ => Nat.le_of_eq (beg_len (sg c))
  have h2 := cat_len 4 (fun c => endA (sg c)) l.reverse fun c _ => Nat.le_of_eq (end_len (sg c))
  rw [List.length_reverse] at h2
  unfold wordT opS clS
  simp only [PySem.Str.length_append]
  walk_at "AR"
theorem told_len {im : Str} {ws : List (Str × Tok)} (hok : WordsOk ws) (hi : im.length ≤ 10) : (toldT im (ws.map fun p => p.1.cps.toList)).length ≤ 1000 := by
  have h0 := hok.1
  have h1 := cat_len 100 (wordT im) (ws.map fun p => p.1.cps.toList) fun l hl => by
    obtain ⟨p, hp, rfl⟩ := List.mem_map.mp hl
    exact word_len (by rw [Array.length_toList]; exact (hok.2 p hp).2.1) hi
  rw [List.length_map] at h1
  have e1 : (Str.ofString "r").length = 1 := by decide +kernel
  unfold toldT
  simp only [PySem.Str.length_append, beg_len, end_len]
  walk_at "AR"
inductive ToJ (w : World) (wr pc : Nat) (rest : List (Addr × Obj)) (mk : Str) (td : Tok) (wd : Option (Str × Tok)) (n : Nat) (out : Str) (len : Nat) (pd : List (Str × Tok)) (m₁ : Str → Option Value) (nw : List (Addr × Obj)) (g : Gens) : Prop
  | mk (W : Wr w wr pc rest n out len pd nw g) (mw : m₁ (Str.ofString "writer") = some (.ref wr)) (mm : m₁ (Str.ofString "mark") = some (.str mk td)) (mp : m₁ (Str.ofString "pieces") = some (.ref pc)) (mwd : ∀ p, wd = some p → m₁ (Str.ofString "word") = some (.str p.1 p.2)) : ToJ w wr pc rest mk td wd n out len pd m₁ nw g
set_option maxHeartbeats 2000000 in
theorem start0_w (w : World) (dp un : Nat) (gd : Option (List Code)) (cn : Str) (cs : Scope) (a : Addr) (ccd : Value) (cl : List (Str × Addr)) (outer : List Env) (A₀ : Around) (base h₀ : Heap) (L : Addr) (m mg mb : Str → Option Value) (mean : ExcName → Option Value) (s : Shared) (Q E : Value → Shared → Prop)
    (rest nw : List (Addr × Obj)) (wr pc n : Nat) (out : Str) (len : Nat) (x : Str) (tx : Tok) (at_ : Nat) (oA : Obj)
    (B : Below A₀ base outer h₀) (F : Fr h₀ L s.heap m) (X : (hd1.heap_39 w.params).In h₀) (T : Top topProg lo3 mean mg mb h₀)
    (hk : cs.kind = .function) (hd : dp + 60 < recursionLimit) (hu : un + 900 < cLine)
    (N : News h₀ L s.heap ((at_, oA) :: nw))
    (hW : Wr w wr pc rest n out len [] nw s.gens) (lt : ∀ p ∈ nw, @LT.lt Nat _ p.1 at_) (hlen : len ≤ 990) (hn9 : n < 900) (hnm : NameOk x) (d1 : oA.IsDictOf (PySem.strKind P3 w) []) (d3 : (at_ == sysModules) = false) (hC : CodeHd h₀ 125 123)
    (hQ : ∀ nw' h' tk' g' d', Fr h₀ L h' m → News h₀ L h' nw' → Wr w wr pc rest (n + 1) (out ++ begA x [] (Str.ofString "")) (len + 3) [] nw' g' → Q .none { s with heap := h', toks := tk', gens := g', drawn := d' }) :
    wpAny (model P3 w) (ktrTop dp un gd cn cs L a ccd cl outer) (call (.ref 120) [.ref wr, .str x tx, .ref at_]) Q E s := by
  exact start_w w dp un gd cn cs a ccd cl outer A₀ base h₀ L m mg mb mean s Q E rest nw wr pc n out len x tx at_ oA [] [] (Str.ofString "") (Str.ofString "") B F X T hk hd hu N hW lt hlen hn9 (List.forall_mem_cons.2 ⟨hnm, fun _ h => absurd h List.not_mem_nil⟩) List.not_mem_nil (Nat.zero_le _) ⟨rfl, rfl⟩ (star_nil d1 d3) (fun h => absurd rfl h) .rfl d1 d3 hC hQ

set_option maxHeartbeats 4000000 in
theorem told_c (w : World) (dp un : Nat) (gd : Option (List Code)) (cn : Str) (cs : Scope) (a : Addr) (ccd : Value) (cl : List (Str × Addr)) (outer : List Env) (A₀ : Around) (base h₀ : Heap) (L : Addr) (m mg mb : Str → Option Value) (mean : ExcName → Option Value) (s : Shared) (Q E : Value → Shared → Prop)
    (rest : List (Addr × Obj)) (tb : Array Value) (lw : Nat) (ws : List (Str × Tok)) (kw : Nat) (mk im : Str) (td : Tok)
    (B : Below A₀ base outer h₀) (F : Fr h₀ L s.heap m) (X : (hd1.heap_39 w.params).In h₀) (T : Top topProg lo3 mean mg mb h₀)
    (hk : cs.kind = .function) (hd : dp + 200 < recursionLimit) (hu : un + 2000 < cLine)
    (N : News h₀ L s.heap ((123, tabObj tb) :: rest))
    (hmk : Mark mk im) (r1 : ∀ p ∈ rest, p.1 ≠ 123) (htb : TabSt lamPos lamQ tb rest) (hb : AllBare s.gens) (hC : CodeHd h₀ 125 123) (hW : (lw, listOf (strValues ws).toArray kw) ∈ rest) (hok : WordsOk ws)
    (hQ : ∀ (tb' : Array Value) (new : List (Addr × Obj)) t' h' tk' gens' d', Fr h₀ L h' m → News h₀ L h' ((123, tabObj tb') :: (new ++ rest)) → TabSt lamPos lamQ tb' new → (∀ p ∈ new, CodeLike p.2) → (∀ p ∈ new, p.1 ≠ 123) → AllBare gens' → Q (.str (toldT im (ws.map fun p => p.1.cps.toList)) t') { s with heap := h', toks := tk', gens := gens', drawn := d' }) :
    wpAny (model P3 w) (ktrTop dp un gd cn cs L a ccd cl outer) (call (.ref 187) [.ref lw, .str mk td]) Q E s := by
  have hWt : (lw, listOf (strValues ws).toArray kw) ∈ (123, tabObj tb) :: rest := .tail _ hW
  refine wpAny_call ?_
  k_dflt k_enter
  rename (Fr _ _ _ _) => F0
  obtain ⟨m9, hm9, F1⟩ : ∃ m', m' = _ ∧ Fr _ _ _ m' := ⟨_, rfl, F0⟩
  have i_words : m9 (Str.ofString "words") = some (.ref lw) := by rw [hm9]; exact rfl
  have i_mark : m9 (Str.ofString "mark") = some (.str mk td) := by rw [hm9]; exact rfl
  clear hm9 F0
  repeat ((fail_if_success (with_reducible show wpAny _ _ (getAttr (Value.ref _) (Str.ofString "append") true) _ _ _)); (first | (k_unfold; (try dsimp only)) | walk1 | (dsimp only; walk1) | (leave1; try dsimp only)))
  ((with_reducible show wpAny _ _ (getAttr (Value.ref _) (Str.ofString "append") true) _ _ _); k_dflt (refine' append_attr ?F ?N ?m ?_; (case F => k_asm); (case N => k_asm); (case m => k_mem)); intro q' h' tk' F' N' l1; (try k_lt l1))
  repeat ((fail_if_success (with_reducible show wpAny _ _ (call (Value.ref 150) _) _ _ _)); (first | (k_unfold; (try dsimp only)) | walk1 | (dsimp only; walk1) | (leave1; try dsimp only)))
  rename (News _ _ _ _) => N2
  refine' init_w _ _ _ _ _ _ _ _ _ _ _ _ _ _ _ _ _ _ _ _ _ rest _ _ _ tb ?uB ?uF ?uX ?uT ?uk ?ud ?uu ?uN ?uq r1 ?ur2 hb htb ?uQ
  case uB => k_asm
  case uF => k_asm
  case uX => k_in
  case uT => k_asm
  case uk => exact rfl
  case ud => ktr_room
  case uu => ktr_units
  case uN => exact N2
  case uq => (refine ⟨?_, ?_⟩ <;> walk_at "LT")
  case ur2 => k_all
  case uQ =>
  intro wr nw1 h1 tk1 F1 N1 W1
  obtain ⟨pc, epc, W1⟩ : ∃ q : Nat, q = _ ∧ Wr w wr q rest 0 _ 0 [] nw1 _ := ⟨_, rfl, W1⟩
  subst epc
  obtain ⟨wd1, tkA, qA, dlA, nsdA, nsA, pmA, psA, seA, doA, t0A, eA, hwr1, hwd1⟩ := W1.objs
  repeat ((fail_if_success (with_reducible show wpAny _ _ (call (Value.ref 120) _) _ _ _)); (first | (k_unfold; (try dsimp only)) | walk1 | (dsimp only; walk1) | (leave1; try dsimp only)))
  refine' start0_w _ _ _ _ _ _ _ _ _ _ _ _ _ _ _ _ _ _ _ _ _ rest nw1 wr _ 0 _ _ _ _ _ _ ?uB ?uF ?uX ?uT ?uk ?ud ?uu ?uN W1 ?lt (by decide) (by decide) r_name ?d1 ?d3 ?hC ?hQ
  case uB => k_asm
  case uF => k_asm
  case uX => k_in
  case uT => k_asm
  case uk => exact rfl
  case ud => ktr_room
  case uu => ktr_units
  case uN => k_asm
  case lt => k_asm
  case d1 => assumption
  case d3 => assumption
  case hC => exact CodeHd.keeps hC (Fr.keep (by assumption))
  case hQ =>
  clear hwr1 hwd1
  intro nw2 h2 tk2 g2 d2 F2 N2 W2
  have hW2 := W2.mem hW
  rw [nil_app'] at W2
  repeat ((fail_if_success (with_reducible show wpAny _ _ (exec (Stmt.For _ _ _ _ _) _) _ _ _)); (first | (k_unfold; (try dsimp only)) | walk1 | (dsimp only; walk1) | (leave1; try dsimp only)))
  rename (Fr _ _ _ _) => F5
  refine' For_J F5 rfl rfl (by exact rfl) ?_
  iterate 1 (first | (k_unfold; (try dsimp only)) | walk1 | (dsimp only; walk1) | (leave1; try dsimp only))
  refine .inl ⟨lw, (strValues ws).toArray, kw, _, _, rfl, F5, N2, hW2, (fun i => ToJ w wr pc rest mk td none 1 (begA (Str.ofString "r") [] (Str.ofString "") ++ catS ((ws.take i).map fun p => wordT im p.1.cps.toList)) (3 + 32 * i) []), ?j0, ?turn, ?done⟩
  case j0 =>
    dsimp only
    rw [List.take_zero]
    refine .mk ?_ ?_ ?_ ?_ (fun p h => nomatch h)
    · rw [List.map_nil, catS, app_nil']
      exact W2
    all_goals repeat (first | with_reducible assumption | exact if_pos rfl | refine Eq.trans (if_neg (by decide +kernel)) ?_)
  case turn =>
    intro i v I oI m₁ h6 tk6 g6 d6 nw hi hv hJ hS F6 N6 off6 it6
    obtain ⟨W6, mw, mm, mp, _⟩ := hJ
    obtain ⟨⟨x, tx⟩, hp9, rfl⟩ := sv_at hv
    have hil : i < 6 := Nat.lt_of_lt_of_le (List.getElem?_eq_some_iff.mp hp9).1 hok.1
    obtain ⟨hz1, hz2, hsg⟩ := hok.2 _ (List.mem_of_getElem? hp9)
    dsimp only at hz1 hz2 hsg
    obtain ⟨nwk, W7, sub7⟩ := W6.keep (a := I) (o := oI) (off1_mem nw off6)
    have offr : ∀ p ∈ rest, @Ne Nat p.1 I := fun p hp => off1_mem nw off6 p (W6.mem hp)
    have N7 := newsSub N6 sub7
    clear N6 sub7 hv W6
    dsimp only [stG]
    repeat ((fail_if_success (with_reducible show wpAny _ _ (exec (Stmt.For _ _ _ _ _) _) _ _ _)); (first | (k_unfold; (try dsimp only)) | walk1 | (dsimp only; walk1) | (leave1; try dsimp only)))
    rename (Fr _ _ _ _) => F7
    refine' For_S F7 rfl rfl (by exact rfl) ?_
    iterate 1 (first | (k_unfold; (try dsimp only)) | walk1 | (dsimp only; walk1) | (leave1; try dsimp only))
    refine .mk x tx _ _ rfl F7 N7 ⟨(fun j => ToJ w wr pc ((I, oI) :: rest) mk td (some (x, tx)) (1 + j) ((begA (Str.ofString "r") [] (Str.ofString "") ++ catS ((ws.take i).map fun p => wordT im p.1.cps.toList)) ++ opS (x.cps.toList.take j)) (3 + 32 * i + 3 * j) []), ?ij0, ?iturn, ?idone⟩
    case ij0 =>
      dsimp only
      rw [List.take_zero, show opS [] = Str.ofString "" from rfl, app_nil']
      refine .mk W7 (Eq.trans (if_neg (by decide +kernel)) mw) (Eq.trans (if_neg (by decide +kernel)) mm) (Eq.trans (if_neg (by decide +kernel)) mp) (fun p h => ?_)
      obtain rfl := Option.some.inj h
      exact if_pos rfl
    case iturn =>
      intro j v2 I2 oI2 m₂ h8 tk8 g8 d8 nw8 hj hv2 hJ2 _ F8 N8 off8 it8
      obtain ⟨W8, mw2, mm2, mp2, mwd2⟩ := hJ2
      obtain ⟨c, u2, hc2, rfl⟩ := hv2
      have hcl : x.cps.toList[j]? = some c := by rw [Array.getElem?_toList]; exact hc2
      obtain ⟨nw9, W9, sub9⟩ := W8.keep (a := I2) (o := oI2) (off1_mem nw8 off8)
      have offr2 : ∀ p ∈ (I, oI) :: rest, @Ne Nat p.1 I2 := fun p hp => off1_mem nw8 off8 p (W8.mem hp)
      have N9 := newsSub N8 sub9
      clear N8 sub9 W8
      obtain ⟨wd1, tkA, qA, dlA, nsdA, nsA, pmA, psA, seA, doA, t0A, eA, hwr1, hwd1⟩ := W9.objs
      dsimp only [stG]
      repeat ((fail_if_success (with_reducible show wpAny _ _ (call (Value.ref 120) _) _ _ _)); (first | (k_unfold; (try dsimp only)) | walk1 | (dsimp only; walk1) | (leave1; try dsimp only)))
      refine' start0_w _ _ _ _ _ _ _ _ _ _ _ _ _ _ _ _ _ _ _ _ _ ((I2, oI2) :: (I, oI) :: rest) nw9 wr _ (1 + j) _ _ _ _ _ _ ?uB ?uF ?uX ?uT ?uk ?ud ?uu ?uN W9 ?lt (by walk_at "AR") (by walk_at "AR") (sg_name (hsg _ (List.mem_of_getElem? hcl))) ?d1 ?d3 ?hC ?hQ
      case uB => k_asm
      case uF => k_asm
      case uX => k_in
      case uT => k_asm
      case uk => exact rfl
      case ud => ktr_room
      case uu => ktr_units
      case uN => k_asm
      case lt => k_asm
      case d1 => assumption
      case d3 => assumption
      case hC => exact CodeHd.keeps hC (Fr.keep (by assumption))
      case hQ =>
      clear hwr1 hwd1
      intro nw10 h10 tk10 g10 d10 F10 N10 W10
      repeat (first | (k_unfold; (try dsimp only)) | walk1 | (dsimp only; walk1) | (leave1; try dsimp only))
      obtain ⟨nw11, W11, N11, off11⟩ := W10.cut N10 it8 offr2
      refine ⟨h10, tk10, g10, d10, _, nw11, F10, N11, off11, trivial, ?_⟩
      refine .mk ?_ (Eq.trans (if_neg (by decide +kernel)) mw2) (Eq.trans (if_neg (by decide +kernel)) mm2) (Eq.trans (if_neg (by decide +kernel)) mp2) (fun p h => Eq.trans (if_neg (by decide +kernel)) (mwd2 p h))
      rw [opS_step hcl, ← app_assoc']
      exact W11
    case idone =>
      intro m₃ nw12 h12 tk12 g12 d12 hJ3 F12 N12
      obtain ⟨W12, mw3, mm3, mp3, mwd3⟩ := hJ3
      have mwd4 := mwd3 _ rfl
      dsimp only at mwd4
      rw [show x.cps.toList.take x.cps.size = x.cps.toList from by rw [← Array.length_toList, List.take_length]] at W12
      obtain ⟨wd1, tkA, qA, dlA, nsdA, nsA, pmA, psA, seA, doA, t0A, eA, hwr1, hwd1⟩ := W12.objs
      dsimp only [stG]
      repeat ((fail_if_success (with_reducible show wpAny _ _ (call (Value.ref 97) _) _ _ _)); (first | (k_unfold; (try dsimp only)) | walk1 | (dsimp only; walk1) | (leave1; try dsimp only)))
      refine' data_w _ _ _ _ _ _ _ _ _ _ _ _ _ _ _ _ _ _ _ _ _ ((I, oI) :: rest) nw12 wr pc (1 + x.cps.size) _ _ mk td ?uB ?uF ?uX ?uT ?uk ?ud ?uu ?uN W12 (by walk_at "AR") ?hQ
      case uB => k_asm
      case uF => k_asm
      case uX => k_in
      case uT => k_asm
      case uk => exact rfl
      case ud => ktr_room
      case uu => ktr_units
      case uN => k_asm
      case hQ =>
      clear hwr1 hwd1
      intro nw13 h13 tk13 g13 d13 F13 N13 W13
      repeat ((fail_if_success (with_reducible show wpAny _ _ (exec (Stmt.For _ _ _ _ _) _) _ _ _)); (first | (k_unfold; (try dsimp only)) | walk1 | (dsimp only; walk1) | (leave1; try dsimp only)))
      rename (Fr _ _ _ _) => F14
      refine' For_S F14 rfl rfl (by exact rfl) ?_
      repeat (first | (k_unfold; (try dsimp only)) | walk1 | (dsimp only; walk1) | (leave1; try dsimp only))
      rename (Fr _ _ _ _) => F15
      rename (News _ _ _ _) => N15
      generalize hsr : Txt.sliceBy x none none _ = rx
      have hrx : rx.cps.toList = x.cps.toList.reverse := by rw [← hsr]; exact rev_cps x _
      have hrs : rx.cps.size = x.cps.size := by rw [← Array.length_toList, hrx, List.length_reverse, Array.length_toList]
      clear hsr
      refine .mk rx _ _ _ rfl F15 N15 ⟨(fun j => ToJ w wr pc ((I, oI) :: rest) mk td none (1 + (x.cps.size - j)) ((begA (Str.ofString "r") [] (Str.ofString "") ++ catS ((ws.take i).map fun p => wordT im p.1.cps.toList)) ++ opS x.cps.toList ++ penT im (decide (0 < j)) ++ clS (rx.cps.toList.take j)) (3 + 32 * i + 3 * x.cps.size + 2 * j) (penL mk (decide (j = 0)) td)), ?kj0, ?kturn, ?kdone⟩
      case kj0 =>
        dsimp only
        rw [List.take_zero, show clS [] = Str.ofString "" from rfl, app_nil', show penT im (decide (0 < 0)) = Str.ofString "" from rfl, app_nil', Nat.sub_zero, Nat.mul_zero, Nat.add_zero, show penL mk (decide (0 = 0)) td = [(mk, td)] from rfl]
        exact .mk W13 mw3 mm3 mp3 (fun p h => nomatch h)
      case kturn =>
        intro j v2 I2 oI2 m₄ h8 tk8 g8 d8 nw8 hj hv2 hJ2 _ F8 N8 off8 it8
        obtain ⟨W8, mw4, mm4, mp4, _⟩ := hJ2
        obtain ⟨c, u2, hc2, rfl⟩ := hv2
        have hcl : rx.cps.toList[j]? = some c := by rw [Array.getElem?_toList]; exact hc2
        have hcs : SignOk c := hsg c (by have h9 := List.mem_of_getElem? hcl; rw [hrx] at h9; exact List.mem_reverse.mp h9)
        have hjx : j < x.cps.size := by rw [← hrs]; exact hj
        obtain ⟨nw9, W9, sub9⟩ := W8.keep (a := I2) (o := oI2) (off1_mem nw8 off8)
        have offr2 : ∀ p ∈ (I, oI) :: rest, @Ne Nat p.1 I2 := fun p hp => off1_mem nw8 off8 p (W8.mem hp)
        have N9 := newsSub N8 sub9
        clear N8 sub9 W8
        rw [show 1 + (x.cps.size - j) = (1 + (x.cps.size - (j + 1))) + 1 from by walk_at "AR"] at W9
        obtain ⟨wd1, tkA, qA, dlA, nsdA, nsA, pmA, psA, seA, doA, t0A, eA, hwr1, hwd1⟩ := W9.objs
        dsimp only [stG]
        repeat ((fail_if_success (with_reducible show wpAny _ _ (call (Value.ref 133) _) _ _ _)); (first | (k_unfold; (try dsimp only)) | walk1 | (dsimp only; walk1) | (leave1; try dsimp only)))
        refine' end_w _ _ _ _ _ _ _ _ _ _ _ _ _ _ _ _ _ _ _ _ _ ((I2, oI2) :: (I, oI) :: rest) nw9 wr pc (1 + (x.cps.size - (j + 1))) _ _ (decide (j = 0)) td mk im hmk _ _ ?uB ?uF ?uX ?uT ?uk ?ud ?uu ?uN W9 (by walk_at "AR") (by walk_at "AR") (sg_name hcs).1 (sg_name hcs).2.1 ?hC ?hQ
        case uB => k_asm
        case uF => k_asm
        case uX => k_in
        case uT => k_asm
        case uk => exact rfl
        case ud => ktr_room
        case uu => ktr_units
        case uN => k_asm
        case hC => exact CodeHd.keeps hC (Fr.keep (by assumption))
        case hQ =>
        clear hwr1 hwd1
        intro nw10 h10 tk10 g10 d10 F10 N10 W10
        repeat (first | (k_unfold; (try dsimp only)) | walk1 | (dsimp only; walk1) | (leave1; try dsimp only))
        obtain ⟨nw11, W11, N11, off11⟩ := W10.cut N10 it8 offr2
        refine ⟨h10, tk10, g10, d10, _, nw11, F10, N11, off11, trivial, ?_⟩
        refine .mk ?_ (Eq.trans (if_neg (by decide +kernel)) mw4) (Eq.trans (if_neg (by decide +kernel)) mm4) (Eq.trans (if_neg (by decide +kernel)) mp4) (fun p h => nomatch h)
        rw [clS_step hcl, show penT im (decide (0 < j + 1)) = im from by rw [decide_eq_true (Nat.succ_pos j)]; rfl, show penL mk (decide (j + 1 = 0)) td = [] from by rw [decide_eq_false (Nat.succ_ne_zero j)]; rfl, Nat.mul_succ, ← Nat.add_assoc]
        rw [pen_step]
        exact W11
      case kdone =>
        intro m₅ nw14 h14 tk14 g14 d14 hJ4 F14 N14
        obtain ⟨W14, mw5, mm5, mp5, _⟩ := hJ4
        rw [hrs, Nat.sub_self, show rx.cps.toList.take x.cps.size = rx.cps.toList from by rw [← hrs, ← Array.length_toList, List.take_length], hrx, decide_eq_true hz1, show decide (x.cps.size = 0) = false from decide_eq_false (Nat.ne_of_gt hz1)] at W14
        dsimp only [stG]
        repeat (first | (k_unfold; (try dsimp only)) | walk1 | (dsimp only; walk1) | (leave1; try dsimp only))
        obtain ⟨nw15, W15, N15, off15⟩ := W14.cut N14 it6 offr
        refine ⟨h14, tk14, g14, d14, _, nw15, F14, N15, off15, .inr ⟨_, W15.mem hW, rfl, _, rfl⟩, .mk ?_ mw5 mm5 mp5 (fun p h => nomatch h)⟩
        rw [word_step hp9, ← app_assoc']
        have e9 : (begA (Str.ofString "r") [] (Str.ofString "") ++ catS ((ws.take i).map fun p => wordT im p.1.cps.toList)) ++ wordT im x.cps.toList = (begA (Str.ofString "r") [] (Str.ofString "") ++ catS ((ws.take i).map fun p => wordT im p.1.cps.toList)) ++ opS x.cps.toList ++ penT im true ++ clS x.cps.toList.reverse := by
          rw [wordT, ← app_assoc', ← app_assoc']
          rfl
        rw [e9]
        exact W15.less (fun _ h => h) (by walk_at "AR")
  case done =>
    intro m₁ nw h6 tk6 g6 d6 hJ F6 N6
    obtain ⟨W6, mw, mm, mp, _⟩ := hJ
    have e9 : ws.take (strValues ws).toArray.size = ws := by
      rw [List.size_toArray, strValues, List.length_map, List.take_length]
    rw [e9] at W6
    have hl6 : 3 + 32 * (strValues ws).toArray.size ≤ 200 := by
      have h9 := hok.1
      rw [List.size_toArray, strValues, List.length_map]
      walk_at "AR"
    obtain ⟨wd1, tkA, qA, dlA, nsdA, nsA, pmA, psA, seA, doA, t0A, eA, hwr1, hwd1⟩ := W6.objs
    dsimp only [stG]
    repeat ((fail_if_success (with_reducible show wpAny _ _ (call (Value.ref 133) _) _ _ _)); (first | (k_unfold; (try dsimp only)) | walk1 | (dsimp only; walk1) | (leave1; try dsimp only)))
    refine' end_w _ _ _ _ _ _ _ _ _ _ _ _ _ _ _ _ _ _ _ _ _ rest nw wr pc 0 _ _ false 0 mk im hmk _ _ ?uB ?uF ?uX ?uT ?uk ?ud ?uu ?uN W6 (by walk_at "AR") (by decide) r_name.1 r_name.2.1 ?hC ?hQ
    case uB => k_asm
    case uF => k_asm
    case uX => k_in
    case uT => k_asm
    case uk => exact rfl
    case ud => ktr_room
    case uu => ktr_units
    case uN => k_asm
    case hC => exact CodeHd.keeps hC (Fr.keep (by assumption))
    case hQ =>
    clear hwr1 hwd1
    intro nw7 h7 tk7 g7 d7 F7 N7 W7
    obtain ⟨pcs, e1, hpc, hcat, hlen⟩ := W7.pieces
    repeat ((fail_if_success (with_reducible show wpAny _ _ (call (Value.builtin "str.join") _) _ _ _)); (first | (k_unfold; (try dsimp only)) | walk1 | (dsimp only; walk1) | (leave1; try dsimp only)))
    have e8 : begA (Str.ofString "r") [] (Str.ofString "") ++ catS (ws.map fun p => wordT im p.1.cps.toList) ++ penT im false ++ endA (Str.ofString "r") = toldT im (ws.map fun p => p.1.cps.toList) := by
      rw [show penT im false = Str.ofString "" from rfl, app_nil', toldT, List.map_map]
      rfl
    rw [e8] at hcat
    have hl8 := told_len (im := im) hok hmk.len.2
    refine join_led' (l := pcs) (by assumption) hpc ?hz (x := toldT im (ws.map fun p => p.1.cps.toList)) ?hx ?hg ?hh
    case hz => rw [fold_len', hcat]; exact decide_eq_false (by rw [sizeLine_eq]; walk_at "AR")
    case hx => rw [glued_cat, hcat]
    case hg => rw [sizeLine_eq]; walk_at "AR"
    case hh =>
    intro uj tkj _
    repeat (first | (k_unfold; (try dsimp only)) | walk1 | (dsimp only; walk1) | (leave1; try dsimp only))
    obtain ⟨tb', new, Nf, Tf, c1, c2⟩ := W7.fin
    exact hQ tb' new uj _ _ _ _ (by assumption) (newsSub (by assumption) Nf) Tf c1 c2 W7.gens
end
local macro_rules | `(tactic| walk_at "subscriptTail") => `(tactic| (k_here; (with_reducible show wpAny _ _ (subscriptTail _ _ (Value.ref _) (Value.int _ _)) _ _ _); k_dflt (refine' itemAt ?N ?m ?v ?z ?_ ?hs; (case N => k_asm); (case m => k_mem); (case v => first | with_reducible assumption | exact rfl); (case z => walk_at "AR"); (case hs => with_unfolding_all rfl))))
theorem topOff11 : True := by
  w_top off
  trivial
section
local macro_rules | `(tactic| walk_at "ZZ") => `(tactic| skip)
open PySem PySem.W PyProof.Rows PySem.Calls PySem.Spec
section
variable {prog : Program} {w : World} {A : Around} {E : Value → Shared → Prop} {s : Shared} {h₀ : Heap} {L : Addr} {m : Str → Option Value} {news : List (Addr × Obj)}
theorem tupItem1 {value slice : PySem.Expr} {a : Addr} {vs : List Value} {u : Tok} {v : Value} {Q : Value → Shared → Prop} (N : News h₀ L s.heap news) (hm : (a, tupOf vs) ∈ news) (hk : 1 < vs.length) (hz : vs.length < 1000) (hx : vs[1]? = some v) (h : Q v s)
    (hs : subscripted slice false (.ref a) (.int 1 u) = operate [.ref a, .int 1 u] (getItem (.ref a) (.int 1 u)) := by with_unfolding_all rfl) :
    wpAny (model prog w) A (subscriptTail value slice (.ref a) (.int 1 u)) Q E s := tupItem (k := 1) N hm hk hz hx h hs
end
def replS (x y z : Str) : Str := Builtin.Str.glued z (Txt.split x y)
def replAll : List (Str × Str) → Str → Str
  | [], x => x
  | p :: r, x => replAll r (replS x p.1 p.2)
theorem replAll_append (a b : List (Str × Str)) (x : Str) : replAll (a ++ b) x = replAll b (replAll a x) := by
  induction a generalizing x with
  | nil => rfl
  | cons y r ih => exact ih _
abbrev PV := Str × Str × Tok × Tok
def pairArgs : List PV → List Value
  | [] => []
  | p :: r => .str p.1 p.2.2.1 :: .str p.2.1 p.2.2.2 :: pairArgs r
abbrev pvs (l : List PV) : List (Str × Str) := l.map fun p => (p.1, p.2.1)
inductive PJ (news : List (Addr × Obj)) (pv : List PV) (x : Str) (n : Nat) (m₁ : Str → Option Value) (nw : List (Addr × Obj)) : Prop
  | mk (T k : Nat) (u : Tok) (hk : k ≤ pv.length) (hn : n = pv.length - k) (mp : m₁ (Str.ofString "pairs") = some (.ref T)) (mt : m₁ (Str.ofString "text") = some (.str (replAll (pvs (pv.take k)) x) u)) (hT : (T, tupOf (pairArgs (pv.drop k))) ∈ nw) (hs : ∀ p ∈ news, p ∈ nw) : PJ news pv x n m₁ nw
theorem pairArgs_len : ∀ l : List PV, (pairArgs l).length = 2 * l.length
  | [] => rfl
  | p :: r => by rw [pairArgs, List.length_cons, List.length_cons, pairArgs_len r, List.length_cons]; walk_at "AR"
theorem fold_sep (z : Str) : ∀ (l : List Str) (n : Nat), (l.toArray.foldl (fun a x => a + x.length + z.length) n) = n + (catS l).length + l.length * z.length := by
  have e0 : (Str.ofString "").length = 0 := by decide +kernel
  intro l
  induction l with
  | nil => intro n; simp [catS, e0]
  | cons x r ih =>
    intro n
    have h := ih (n + x.length + z.length)
    rw [List.foldl_toArray'] at h ⊢
    · rw [List.foldl_cons, h, catS, PySem.Str.length_append, List.length_cons, Nat.succ_mul]
      walk_at "AR"
    all_goals rfl
theorem glued_fold (z : Array Nat) : ∀ (l : List Str) (a : Array Nat), (l.foldl (fun acc p => acc ++ z ++ p.cps) a).size = a.size + (l.foldl (fun n p => n + z.size + p.cps.size) 0)
  | [], a => by simp
  | x :: r, a => by
    have hs : ∀ (l : List Str) (k : Nat), l.foldl (fun n p => n + z.size + p.cps.size) k = k + l.foldl (fun n p => n + z.size + p.cps.size) 0 := by
      intro l
      induction l with
      | nil => intro k; simp
      | cons y l ih => intro k; rw [List.foldl_cons, List.foldl_cons, ih, ih (0 + _ + _)]; walk_at "AR"
    rw [List.foldl_cons, List.foldl_cons, glued_fold z r, hs r (0 + _ + _), Array.size_append, Array.size_append]
    walk_at "AR"
theorem glued_len (z : Str) : ∀ l : List Str, l ≠ [] → (Builtin.Str.glued z l).length + z.length = (catS l).length + l.length * z.length
  | [], h => absurd rfl h
  | x :: r, _ => by
    have h : (Builtin.Str.glued z (x :: r)).length = x.length + (r.foldl (fun n p => n + z.cps.size + p.cps.size) 0) := glued_fold z.cps r x.cps
    have h2 : ∀ (l : List Str), l.foldl (fun n p => n + z.cps.size + p.cps.size) 0 = (catS l).length + l.length * z.length := by
      intro l
      have h3 := fold_sep z l 0
      have h4 : ∀ (l : List Str) (k : Nat), l.foldl (fun n p => n + z.cps.size + p.cps.size) k = l.foldl (fun a x => a + x.length + z.length) k := by
        intro l
        induction l with
        | nil => intro k; rfl
        | cons y l ih =>
          intro k
          have e : k + z.cps.size + y.cps.size = k + y.length + z.length := by show k + z.length + y.length = _; walk_at "AR"
          rw [List.foldl_cons, List.foldl_cons, ih, e]
      rw [h4, ← List.foldl_toArray']
      · rw [h3]; walk_at "AR"
      · rfl
    rw [h, h2, catS, PySem.Str.length_append, List.length_cons, Nat.succ_mul]
    walk_at "AR"
theorem tooLong_glued {z : Str} {l : List Str} (h1 : z.length ≤ 1000) (h2 : (Builtin.Str.glued z l).length ≤ 100000) : Builtin.Str.tooLong (l.toArray.foldl (· + ·.length + z.length) 0) = false := by
  rw [fold_sep]
  refine decide_eq_false ?_
  rw [sizeLine_eq]
  cases l with
  | nil => 
    have e0 : (Str.ofString "").length = 0 := by decide +kernel
    rw [catS, e0]; simp
  | cons x r =>
    have h := glued_len z (x :: r) (List.cons_ne_nil _ _)
    walk_at "AR"
set_option maxHeartbeats 4000000 in
theorem replace_g (w : World) (dp un : Nat) (gd : Option (List Code)) (cn : Str) (cs : Scope) (a : Addr) (ccd : Value) (cl : List (Str × Addr)) (outer : List Env) (A₀ : Around) (base h₀ : Heap) (L : Addr) (m mg mb : Str → Option Value) (mean : ExcName → Option Value) (s : Shared) (Q E : Value → Shared → Prop)
    (news : List (Addr × Obj)) (pv : List PV) (x : Str) (tx : Tok)
    (B : Below A₀ base outer h₀) (F : Fr h₀ L s.heap m) (X : (hd1.heap_39 w.params).In h₀) (T : Top topProg lo3 mean mg mb h₀)
    (hk : cs.kind = .function) (hd : dp + 40 < recursionLimit) (hu : un + 400 < cLine)
    (N : News h₀ L s.heap (news))
    (hne : ∀ p ∈ pv, (p.1.length == 0) = false ∧ p.2.1.length ≤ 1000) (hlen : pv.length ≤ 100) (hsz : ∀ k, k ≤ pv.length → (replAll (pvs (pv.take k)) x).length ≤ 100000)
    (hQ : ∀ t' h' tk', Fr h₀ L h' m → News h₀ L h' news → Q (.str (replAll (pvs pv) x) t') { s with heap := h', toks := tk' }) :
    wpAny (model P3 w) (ktrTop dp un gd cn cs L a ccd cl outer) (call (.ref 175) (.str x tx :: pairArgs pv)) Q E s := by
  refine wpAny_call ?_
  refine' kp_rest (vs := pairArgs pv) (g₁ := fun D => some [(Str.ofString "text", .str x tx), (Str.ofString "pairs", .ref D)]) (binds := fun D => [(Str.ofString "text", .str x tx), (Str.ofString "pairs", .ref D)]) ?k1 ?k2 ?k3 ?k4 ?k5 ?kA ?kF ?kK ?k6 ?k7 ?k8 ?kV ?kP ?kG ?kB ?_ ?c2 ?c3 ?c4 ?c5
  case kA => exact rfl
  case kF => exact rfl
  case kK => first | exact rfl | assumption
  case k1 => k_asm
  case k2 => k_asm
  case k3 => k_asm
  case k4 => k_asm
  case k5 => k_asm
  case k6 => k_is
  case k7 => k_is
  case k8 => ktr_room
  case kV => exact rfl
  case kP =>
    skip
    exact bind_rest (by rw [pairArgs_len, sizeLine_eq]; walk_at "AR")
  case kG => exact fun _ => rfl
  case kB => exact fun _ => locs rfl
  case c5 => decide
  case c2 => exact rfl
  case c3 => exact rfl
  case c4 => exact rfl
  k_whole
  intro T5 g5 L5 h5 l5 FG5 F5 N5 B5 X5 T5'
  (try dsimp only)
  (try k_fold)
  iterate 2 (first | (k_unfold; (try dsimp only)) | walk1 | (dsimp only; walk1) | (leave1; try dsimp only))
  rename (News _ _ _ _) => N6
  rename (Fr _ _ _ _) => F6
  refine' While_inv (n₀ := pv.length) (PJ news pv x) F6 N6 ?j0 ?turn
  case j0 => exact ⟨T5, 0, tx, Nat.zero_le _, rfl, (by with_unfolding_all rfl), (by with_unfolding_all rfl), .head _, fun p hp => .tail _ hp⟩
  case turn =>
    intro n9 m₁ nw h₁ tk₁ F1 N1 hJ
    obtain ⟨T, k, u, hk9, rfl, mp, mt, hT, hsub⟩ := hJ
    have hszk := hsz k hk9
    by_cases hkl : k = pv.length
    · subst hkl
      rw [List.take_length] at mt hszk
      rw [List.drop_length] at hT
      iterate 2 (first | (k_unfold; (try dsimp only)) | walk1 | (dsimp only; walk1) | (leave1; try dsimp only))
      refine ktl_truthy (N1.get hT) (by simp only [pairArgs]; decide) ?_
      have hb : (!(pairArgs []).toArray.isEmpty) = false := rfl
      rw [hb, if_neg (by decide)]
      repeat (first | (k_unfold; (try dsimp only)) | walk1 | (dsimp only; walk1) | (leave1; try dsimp only))
      exact hQ _ _ _ (by assumption) (newsSub (by assumption) hsub)
    · obtain ⟨p9, hp9⟩ : ∃ p9, pv[k]? = some p9 := ⟨pv[k]'(by walk_at "AR"), List.getElem?_eq_getElem _⟩
      have hdr : pv.drop k = p9 :: pv.drop (k + 1) := by
        have hlt : k < pv.length := by walk_at "AR"
        rw [List.drop_eq_getElem_cons hlt]
        rw [List.getElem?_eq_getElem hlt] at hp9
        rw [Option.some.inj hp9]
      rw [hdr, pairArgs] at hT
      have hpl := pairArgs_len (pv.drop (k + 1))
      rw [List.length_drop] at hpl
      have hpl2 : (pairArgs (pv.drop (k + 1))).length + 1 + 1 ≤ 202 := by walk_at "AR"
      iterate 2 (first | (k_unfold; (try dsimp only)) | walk1 | (dsimp only; walk1) | (leave1; try dsimp only))
      refine ktl_truthy (N1.get hT) (by simp only [List.size_toArray, List.length_cons]; walk_at "AR") ?_
      have hb : (!(Value.str p9.1 p9.2.2.1 :: Value.str p9.2.1 p9.2.2.2 :: pairArgs (pv.drop (k + 1))).toArray.isEmpty) = true := rfl
      rw [hb, if_pos rfl]
      iterate 7 (first | (k_unfold; (try dsimp only)) | walk1 | (dsimp only; walk1) | (leave1; try dsimp only))
      ((with_reducible show wpAny _ _ (subscriptTail _ _ (Value.ref _) (Value.int 1 _)) _ _ _); k_dflt (refine' tupItem1 ?N ?m ?k ?z ?x ?_ ?hs; (case N => k_asm); (case m => k_mem); (case k => (simp only [List.length_cons]; walk_at "AR")); (case z => (simp only [List.length_cons]; walk_at "AR")); (case x => exact rfl); (case hs => with_unfolding_all rfl)))
      iterate 11 (first | (k_unfold; (try dsimp only)) | walk1 | (dsimp only; walk1) | (leave1; try dsimp only))
      ((with_reducible show wpAny _ _ (subscriptTail _ _ (Value.ref _) (Value.int 0 _)) _ _ _); k_dflt (refine' tupItem0 ?N ?m ?k ?z ?x ?_ ?hs; (case N => k_asm); (case m => k_mem); (case k => exact Nat.zero_lt_succ _); (case z => (simp only [List.length_cons]; walk_at "AR")); (case x => exact rfl); (case hs => with_unfolding_all rfl)))
      iterate 1 (first | (k_unfold; (try dsimp only)) | walk1 | (dsimp only; walk1) | (leave1; try dsimp only))
      refine KSpl.split1 (by assumption) (by assumption) (hne p9 (List.mem_of_getElem? hp9)).1 ?hsp ?hz1
      case hz1 => rw [sizeLine_eq]; walk_at "AR"
      case hsp =>
      intro D l9 h9 tk9 hl9 hS9 F9 N9 lt9
      have hst : replAll (pvs (pv.take (k + 1))) x = Builtin.Str.glued p9.2.1 (l9.map (·.1)) := by
        rw [take_one hp9, pvs, List.map_append, replAll_append, hl9]; rfl
      have hsz1 := hsz (k + 1) (by walk_at "AR")
      rw [hst] at hsz1
      iterate 1 (first | (k_unfold; (try dsimp only)) | walk1 | (dsimp only; walk1) | (leave1; try dsimp only))
      refine join_led' (l := l9) (by assumption) (.head _) ?hz (x := Builtin.Str.glued p9.2.1 (l9.map (·.1))) rfl ?hg ?hh
      case hz => exact tooLong_glued (hne p9 (List.mem_of_getElem? hp9)).2 hsz1
      case hg => rw [sizeLine_eq]; walk_at "AR"
      case hh =>
      intro uj tkj _
      iterate 11 (first | (k_unfold; (try dsimp only)) | walk1 | (dsimp only; walk1) | (leave1; try dsimp only))
      rename (News _ _ _ _) => N10
      rename (Fr _ _ _ _) => F10
      refine' slice_tuple_from (a := 2) (items := (Value.str p9.1 p9.2.2.1 :: Value.str p9.2.1 p9.2.2.2 :: pairArgs (pv.drop (k + 1))).toArray) F10 N10 ?sT ?s1 ?s2 ?sh ?ss ?sg ?sz
      case sT => exact News.isTup N10 (.tail _ hT)
      case s1 => decide
      case s2 => simp only [List.size_toArray, List.length_cons]; walk_at "AR"
      case ss => with_unfolding_all rfl
      case sg => intro _; with_unfolding_all rfl
      case sz => simp only [List.size_toArray, List.length_cons]; rw [sizeLine_eq]; walk_at "AR"
      case sh =>
      intro h11 F11 N11
      iterate 2 (first | (k_unfold; (try dsimp only)) | walk1 | (dsimp only; walk1) | (leave1; try dsimp only))
      rename (News _ _ _ _) => N12
      rename (Fr _ _ _ _) => F12
      refine WhileStep.intro F12 N12 (n' := pv.length - (k + 1)) (Nat.sub_lt_sub_left (Nat.lt_of_le_of_ne hk9 hkl) (Nat.lt_succ_self k)) ⟨_, k + 1, uj, by walk_at "AR", rfl, ?fp, ?ft, .head _, fun p hp => .tail _ (.tail _ (hsub p hp))⟩
      case fp => exact if_pos rfl
      case ft =>
        rw [hst]
        exact Eq.trans (if_neg (by decide +kernel)) (if_pos rfl)
end
section
open PySem PySem.W PyProof.Rows PySem.Calls PySem.Spec
abbrev kLt (a b : Str × Value) : Prop := a.1.cps.toList < b.1.cps.toList
theorem pick_tups {news : List (Addr × Obj)} : ∀ (as : List Addr) (kvs : List (Str × Value)), as.length = kvs.length → (∀ (i : Nat) (a : Addr) (p : Str × Value), as[i]? = some a → kvs[i]? = some p → ∃ t, (a, tupO' p.1 t p.2) ∈ news) →
    ∃ kv : List (Str × Tok × Value), kv.map (fun p => (p.1, p.2.2)) = kvs ∧ ∀ (i : Nat) (a : Addr) (p : Str × Tok × Value), as[i]? = some a → kv[i]? = some p → (a, tupO p.1 p.2.1 p.2.2) ∈ news
  | _, [], hl, _ => ⟨[], rfl, fun i a p _ h => by simp at h⟩
  | [], _ :: _, hl, _ => nomatch hl
  | a :: as, p :: kvs, hl, h => by
    obtain ⟨kv, h1, h2⟩ := pick_tups as kvs (Nat.succ.inj hl) fun i a p ha hp => h (i + 1) a p ha hp
    obtain ⟨t, ht⟩ := h 0 a p rfl rfl
    refine ⟨(p.1, t, p.2) :: kv, by rw [List.map_cons, h1], fun i b q hb hq => ?_⟩
    cases i with
    | zero =>
      obtain rfl := Option.some.inj hb
      obtain rfl := Option.some.inj hq
      exact ht
    | succ i => exact h2 i b q hb hq
theorem sorted_uniq {l1 l2 : List (Str × Value)} (h : l1.Perm l2) (h1 : l1.Pairwise kLt) (h2 : l2.Pairwise kLt) : l1 = l2 :=
  List.Perm.eq_of_pairwise (fun _ _ _ _ x y => absurd y (ll_asymm x)) h1 h2 h
theorem lsort_6 {w : World} {kvs so : List (Str × Value)} (h6 : kvs.length = 6) (hnd : (kvs.map (·.1)).Nodup) (hso : so.Perm kvs) (hs : so.Pairwise kLt) : LSortOf w kvs so := by
  intro A E s Q h₀ L m news c as e F N hc hl hm h
  obtain ⟨kv, e1, e2⟩ := pick_tups as kvs hl hm
  have hk6 : kv.length = 6 := by rw [← h6, ← e1, List.length_map]
  have hl6 : as.length = 6 := hl.trans h6
  have e3 : kv.map (·.1) = kvs.map (·.1) := by rw [← e1, List.map_map]; rfl
  refine lsort_tups (kv := kv) F N hl6 hk6 hc e2 (by rw [e3]; exact hnd) fun p e' h' hp hord F' N' => ?_
  have hlt : ∀ i ∈ p, i < 6 := fun i hi => List.mem_range.mp (hp.mem_iff.mp hi)
  let d : Str × Value := (Str.empty, Value.none)
  have hq : so = p.map fun i => kvs.getD i d := by
    refine sorted_uniq (hso.trans ?_) hs ?_
    · have e5 : kvs = (List.range 6).map fun i => kvs.getD i d := by
        refine List.ext_getElem (by simp [h6]) fun i h1 h2 => ?_
        rw [List.getElem_map, List.getElem_range, List.getD_eq_getElem?_getD, List.getElem?_eq_getElem h1]
        rfl
      have e6 := (hp.map fun i => kvs.getD i d).symm
      rw [← e5] at e6
      exact e6
    · rw [List.pairwise_map]
      have hp6 : p.length = 6 := by rw [hp.length_eq, List.length_range]
      have key : ∀ (l : List Nat), (∀ k i j, l[k]? = some i → l[k + 1]? = some j → kLt (kvs.getD i d) (kvs.getD j d)) → l.Pairwise fun i j => kLt (kvs.getD i d) (kvs.getD j d) := by
        intro l
        induction l with
        | nil => intro _; exact .nil
        | cons x l ih =>
          intro hn
          have ih' := ih fun k i j a b => hn (k + 1) i j a b
          refine List.pairwise_cons.mpr ⟨fun y hy => ?_, ih'⟩
          cases l with
          | nil => cases hy
          | cons z r =>
            have h1 := hn 0 x z rfl rfl
            rcases List.mem_cons.mp hy with rfl | hy
            · exact h1
            · exact ll_trans h1 ((List.pairwise_cons.mp ih').1 y hy)
      refine key p fun k i j hi hj => ?_
      have hi6 := hlt i (List.mem_of_getElem? hi)
      have hj6 := hlt j (List.mem_of_getElem? hj)
      have hk : k + 1 < 6 := by rw [← hp6]; exact (List.getElem?_eq_some_iff.mp hj).1
      have hx := hord k i j hk hi hj kv[i] kv[j] (List.getElem?_eq_getElem _) (List.getElem?_eq_getElem _)
      have g : ∀ i (h : i < kv.length), kvs.getD i d = ((kv[i]'h).1, (kv[i]'h).2.2) := fun i h => by
        rw [← e1, List.getD_eq_getElem?_getD, List.getElem?_map, List.getElem?_eq_getElem h]
        rfl
      show (kvs.getD i d).1.cps.toList < (kvs.getD j d).1.cps.toList
      rw [g i (by omega), g j (by omega)]
      exact hx
  refine h (p.map fun i => as.getD i 0) e' h' (by rw [hq, List.length_map, List.length_map]) (fun i a q ha hq2 => ?_) F' ?_
  · rw [hq] at hq2
    rw [List.getElem?_map] at ha hq2
    cases e7 : p[i]? with
    | none => rw [e7] at ha; cases ha
    | some j =>
      rw [e7] at ha hq2
      have hj6 := hlt j (List.mem_of_getElem? e7)
      have ha' := Option.some.inj ha
      have hq' := Option.some.inj hq2
      refine hm j a q ?_ ?_
      · rw [← ha', List.getElem?_eq_getElem (by omega)]
        dsimp only
        rw [List.getD_eq_getElem?_getD, List.getElem?_eq_getElem (by omega)]
        rfl
      · rw [← hq', List.getElem?_eq_getElem (by omega)]
        dsimp only
        rw [List.getD_eq_getElem?_getD, List.getElem?_eq_getElem (by omega)]
        rfl
  · rw [List.map_map]
    have e8 : (p.map fun i => (as.map Value.ref).getD i Value.none) = p.map (Value.ref ∘ fun i => as.getD i 0) := by
      refine List.map_congr_left fun i hi => ?_
      have hi6 := hlt i hi
      rw [List.getD_eq_getElem?_getD, List.getElem?_map, List.getElem?_eq_getElem (by omega)]
      show _ = Value.ref (as.getD i 0)
      rw [List.getD_eq_getElem?_getD, List.getElem?_eq_getElem (by omega)]
      rfl
    rw [← e8]
    exact N'
end
section
open PySem
theorem strip_len (y : List Nat) : ∀ (l : List Nat) (s : Nat), (stripL y s l).length ≤ l.length
  | [], s => by cases s <;> exact Nat.le_refl _
  | c :: r, 0 => by
    rw [stripL]
    split
    · exact Nat.le_succ_of_le (strip_len y r _)
    · exact Nat.succ_le_succ (strip_len y r 0)
  | c :: r, s + 1 => by
    rw [stripL]
    exact Nat.le_succ_of_le (strip_len y r s)
abbrev PatOk (y : Str) : Prop := y.cps.toList ≠ [] ∧ Builtin.Str.strKind y = 1
theorem repl_strip {x y : Str} (h : PatOk y) : (replS x y (Str.ofString "")).cps.toList = stripL y.cps.toList 0 x.cps.toList := by
  rw [replS, glued_cat]
  exact strip_split h.1 h.2
theorem repl_len : ∀ (pv : List (Str × Str)) (x : Str), (∀ p ∈ pv, PatOk p.1 ∧ p.2 = Str.ofString "") → (replAll pv x).length ≤ x.length
  | [], x, _ => Nat.le_refl _
  | p :: r, x, h => by
    rw [replAll]
    refine Nat.le_trans (repl_len r _ fun q hq => h q (.tail _ hq)) ?_
    obtain ⟨h1, h2⟩ := h p (.head _)
    rw [h2]
    have e1 : ∀ z : Str, z.length = z.cps.toList.length := fun z => (Array.length_toList).symm
    rw [e1, e1, repl_strip h1]
    exact strip_len _ _ _
def bodyS (G : List (List Nat)) : List Nat := (G.map fun w => 32 :: (w ++ [61, 34, 34])).flatten
def joinS (G : List (List Nat)) : List Nat := (G.map fun w => 32 :: w).flatten
theorem beg_cps (so : List (Str × Tok)) : (begA (Str.ofString "r") so (Str.ofString "")).cps.toList = [60, 114] ++ bodyS (so.map fun p => p.1.cps.toList) ++ [62] := by
  unfold begA
  rw [cps_app, cps_app, cps_app, Array.toList_append, Array.toList_append, Array.toList_append, cat_list]
  have e1 : (Str.ofString "<").cps.toList ++ (Str.ofString "r").cps.toList = [60, 114] := by decide +kernel
  have e2 : (Str.ofString ">").cps.toList = [62] := by decide +kernel
  have e3 : ∀ y : Str, (atOne (Str.ofString "") y).cps.toList = 32 :: (y.cps.toList ++ [61, 34, 34]) := fun y => by
    unfold atOne
    rw [cps_app, cps_app, cps_app, cps_app, cps_app, Array.toList_append, Array.toList_append, Array.toList_append, Array.toList_append, Array.toList_append]
    have a1 : Str.empty.cps.toList = [] := rfl
    have a2 : (Str.ofString " ").cps.toList = [32] := by decide +kernel
    have a3 : (Str.ofString "=\"").cps.toList = [61, 34] := by decide +kernel
    have a4 : (Str.ofString "").cps.toList = [] := by decide +kernel
    have a5 : (Str.ofString "\"").cps.toList = [34] := by decide +kernel
    rw [a1, a2, a3, a4, a5]
    simp
  rw [e1, e2, bodyS, List.map_map, List.map_map]
  congr 3
  exact List.map_congr_left fun p _ => e3 p.1
abbrev WOk (w : List Nat) : Prop := ∀ c ∈ w, 97 ≤ c ∧ c ≤ 100
theorem body_ne (d : Nat) (hd : d ≠ 32 ∧ d ≠ 61 ∧ d ≠ 34 ∧ (d < 97 ∨ 100 < d)) : ∀ G : List (List Nat), (∀ w ∈ G, WOk w) → ∀ c ∈ bodyS G, c ≠ d := by
  intro G hG c hc
  obtain ⟨l, hl, hcl⟩ := List.mem_flatten.mp hc
  obtain ⟨w, hw, rfl⟩ := List.mem_map.mp hl
  have hW := hG w hw
  simp only [List.mem_cons, List.mem_append, List.not_mem_nil, or_false] at hcl
  rcases hcl with rfl | h | rfl | rfl | rfl
  · omega
  · have := hW c h; omega
  all_goals omega
theorem ne_ok {w : List Nat} (h : WOk w) {d : Nat} (hd : d < 97) : ∀ c ∈ w, c ≠ d := fun c hc e => by have := h c hc; omega
theorem step1 {w : List Nat} {G : List (List Nat)} (hw : WOk w) (hG : ∀ w ∈ G, WOk w) : stripL [60, 114, 32] 0 ([60, 114] ++ bodyS (w :: G) ++ [62]) = w ++ [61, 34, 34] ++ bodyS G ++ [62] := by
  have e : [60, 114] ++ bodyS (w :: G) ++ [62] = 60 :: [114, 32] ++ ((w ++ [61, 34, 34] ++ bodyS G ++ [62]) ++ []) := by
    simp [bodyS]
  rw [e, strip_hit, strip_pass, strip_nil, List.append_nil]
  intro c hc
  simp only [List.mem_append, List.mem_cons, List.not_mem_nil, or_false] at hc
  rcases hc with ((h | h | h | h) | h) | h
  · exact ne_ok hw (by omega) c h
  · omega
  · omega
  · omega
  · exact body_ne 60 (by omega) G hG c h
  · omega
theorem step2 : ∀ (G : List (List Nat)) (w : List Nat), WOk w → (∀ w ∈ G, WOk w) → stripL [61, 34, 34] 0 (w ++ [61, 34, 34] ++ bodyS G ++ [62]) = w ++ joinS G ++ [62]
  | [], w, hw, _ => by
    have e : w ++ [61, 34, 34] ++ bodyS [] ++ [62] = w ++ (61 :: [34, 34] ++ ([62] ++ [])) := by simp [bodyS]
    rw [e, strip_pass _ _ _ _ (ne_ok hw (by omega)), strip_hit, strip_pass _ _ _ _ (by simp), strip_nil]
    simp [joinS]
  | v :: G, w, hw, hG => by
    have ih := step2 G v (hG v (.head _)) fun x hx => hG x (.tail _ hx)
    have e : w ++ [61, 34, 34] ++ bodyS (v :: G) ++ [62] = w ++ (61 :: [34, 34] ++ ([32] ++ (v ++ [61, 34, 34] ++ bodyS G ++ [62]))) := by simp [bodyS]
    rw [e, strip_pass _ _ _ _ (ne_ok hw (by omega)), strip_hit, strip_pass _ _ _ _ (by simp), ih]
    simp [joinS]
theorem step4 : ∀ (G : List (List Nat)) (w acc : List Nat), WOk w → (∀ w ∈ G, WOk w) → splitA 32 acc (w ++ joinS G) = (acc ++ w) :: G
  | G, c :: w, acc, hw, hG => by
    have h1 := hw c (.head _)
    have hc : c ≠ 32 := by omega
    rw [List.cons_append, splitA, if_neg hc, step4 G w _ (fun d hd => hw d (.tail _ hd)) hG, List.append_assoc]
    rfl
  | [], [], acc, _, _ => by
    show splitA 32 acc [] = _
    rw [splitA, List.append_nil]
  | v :: G, [], acc, _, hG => by
    have e : ([] : List Nat) ++ joinS (v :: G) = 32 :: (v ++ joinS G) := by simp [joinS]
    rw [e, splitA, if_pos rfl, step4 G v [] (hG v (.head _)) fun x hx => hG x (.tail _ hx), List.append_nil, List.nil_append]
abbrev sortPairs : List (Str × Str) := [(Str.ofString "<r ", Str.ofString ""), (Str.ofString "=\"\"", Str.ofString ""), (Str.ofString ">", Str.ofString "")]
theorem sortPairs_ok : ∀ p ∈ sortPairs, PatOk p.1 ∧ p.2 = Str.ofString "" := by
  intro p hp
  simp only [List.mem_cons, List.not_mem_nil, or_false] at hp
  rcases hp with rfl | rfl | rfl <;> exact ⟨⟨by decide +kernel, by decide +kernel⟩, rfl⟩
theorem sorted_plain {so : List (Str × Tok)} (hne : so ≠ []) (hs : ∀ p ∈ so, WOk p.1.cps.toList) : Txt.split (replAll sortPairs (begA (Str.ofString "r") so (Str.ofString ""))) (Str.ofString " ") = so.map (·.1) := by
  obtain ⟨p, r, rfl⟩ := List.exists_cons_of_ne_nil hne
  have hw := hs p (.head _)
  have hG : ∀ w ∈ r.map fun p => p.1.cps.toList, WOk w := fun w h => by
    obtain ⟨q, hq, rfl⟩ := List.mem_map.mp h
    exact hs q (.tail _ hq)
  have inj : ∀ (a b : List Str), a.map (fun p => p.cps.toList) = b.map (fun p => p.cps.toList) → a = b := fun a b h => by
    refine List.map_inj_right (fun x y e => ?_) |>.mp h
    exact str_ext (Array.toList_inj.mp e)
  apply inj
  have e1 : (Str.ofString "<r ").cps.toList = [60, 114, 32] := by decide +kernel
  have e2 : (Str.ofString "=\"\"").cps.toList = [61, 34, 34] := by decide +kernel
  have e3 : (Str.ofString ">").cps.toList = [62] := by decide +kernel
  rw [split_one (c := 32) (by decide +kernel) (by decide +kernel), List.map_map]
  show splitA 32 [] (replS (replS (replS _ _ _) _ _) _ _).cps.toList = _
  rw [repl_strip (sortPairs_ok _ (.tail _ (.tail _ (.head _)))).1, repl_strip (sortPairs_ok _ (.tail _ (.head _))).1, repl_strip (sortPairs_ok _ (.head _)).1, e1, e2, e3, beg_cps, List.map_cons, step1 hw hG, step2 _ _ hw hG]
  have e5 : stripL [62] 0 (p.1.cps.toList ++ joinS (r.map fun p => p.1.cps.toList) ++ [62]) = p.1.cps.toList ++ joinS (r.map fun p => p.1.cps.toList) := by
    have e : p.1.cps.toList ++ joinS (r.map fun p => p.1.cps.toList) ++ [62] = (p.1.cps.toList ++ joinS (r.map fun p => p.1.cps.toList)) ++ (62 :: [] ++ []) := by simp
    rw [e, strip_pass, strip_hit, strip_nil, List.append_nil]
    intro c hc
    rcases List.mem_append.mp hc with h | h
    · exact ne_ok hw (by omega) c h
    · obtain ⟨l, hl, hcl⟩ := List.mem_flatten.mp h
      obtain ⟨w, hw2, rfl⟩ := List.mem_map.mp hl
      rcases List.mem_cons.mp hcl with rfl | h
      · decide
      · exact ne_ok (hG w hw2) (by omega) c h
  rw [e5, step4 _ _ _ hw hG]
  rfl
end
section
open PySem
theorem slice_mem {x : Str} {c : Nat} (h : c ∈ (Txt.slice x none (some 1)).cps.toList) : c ∈ x.cps.toList := by
  unfold Txt.slice at h
  split at h
  · exact h
  · simp only [List.mem_filterMap] at h
    obtain ⟨i, _, hi⟩ := h
    rw [← Array.getElem?_toList] at hi
    exact List.mem_of_getElem? hi
theorem no_occ {x y : Str} {d : Nat} (hy : y.cps.toList = [d]) (hx : d ∉ x.cps.toList) (limit : Nat) (hl : 1 ≤ limit) : Builtin.Str.occurrences x y 0 x.length limit = [] := by
  rcases StrLaws.occ_head x y limit hl with ⟨h, _⟩ | ⟨i, r, _, hA, _⟩
  · exact h
  · have h9 := (pre_iff (s := x) (y := y) (by rw [hy]; exact List.cons_ne_nil _ _) i).mp hA
    rw [hy, List.isPrefixOf_iff_prefix] at h9
    exact absurd (List.mem_of_mem_drop (h9.subset (List.mem_singleton.mpr rfl))) hx
theorem word_name {x : Str} (h6 : x.cps.size ≤ 6) (hs : ∀ c ∈ x.cps.toList, SignOk c) : NameOk x := by
  refine ⟨fun h => ?_, Nat.le_trans h6 (by decide), ?_, ?_⟩
  · have e := eq_of_beq h
    have h1 := slice_mem (x := x) (c := 123) (by rw [e]; decide +kernel)
    obtain ⟨_, h2⟩ := hs _ h1
    omega
  · unfold Txt.splitMax
    have hn : Builtin.Str.occurrences x (Str.ofString "}") 0 x.length (limitOf x 1) = [] := no_occ (d := 125) (by decide +kernel) (fun h => by
      obtain ⟨_, h2⟩ := hs _ h
      omega) _ (by unfold limitOf; simp)
    rw [hn]
    split
    · rfl
    · rfl
  · refine beq_eq_false_iff_ne.mpr fun e => ?_
    have h1 : (Str.ofString "{http://www.w3.org/XML/1998/namespace}space").cps.size = 43 := by decide +kernel
    rw [e, h1] at h6
    omega
theorem qw_new {ws l : List (Str × Tok)} {i : Nat} {p : Str × Tok} (hnd : (ws.map (·.1)).Nodup) (h : ws[i]? = some p) (hl : l.map (·.1) = (ws.take i).map (·.1)) : p.1 ∉ (atKv (Str.ofString "") l).map (·.1) := by
  rw [atKv, List.map_map]
  show p.1 ∉ l.map (·.1)
  rw [hl]
  intro hm
  obtain ⟨hi, e⟩ := List.getElem?_eq_some_iff.mp h
  have h1 : ws.map (·.1) = (ws.take i).map (·.1) ++ p.1 :: (ws.drop (i + 1)).map (·.1) := by
    have h2 : ws = ws.take i ++ p :: ws.drop (i + 1) := by
      rw [← e, ← List.drop_eq_getElem_cons hi, List.take_append_drop]
    conv => lhs; rw [h2]
    rw [List.map_append, List.map_cons]
  rw [h1] at hnd
  exact (List.nodup_append.mp hnd).2.2 _ hm _ (.head _) rfl
def insW (p : Str × Tok) : List (Str × Tok) → List (Str × Tok)
  | [] => [p]
  | q :: r => if p.1.cps.toList < q.1.cps.toList then p :: q :: r else q :: insW p r
theorem insW_perm (p : Str × Tok) : ∀ l, (insW p l).Perm (p :: l)
  | [] => .refl _
  | q :: r => by
    rw [insW]
    split
    · exact .refl _
    · exact ((insW_perm p r).cons q).trans (.swap p q r)
theorem insW_sort (p : Str × Tok) : ∀ l : List (Str × Tok), p.1 ∉ l.map (·.1) → l.Pairwise (fun a b => a.1.cps.toList < b.1.cps.toList) → (insW p l).Pairwise (fun a b => a.1.cps.toList < b.1.cps.toList)
  | [], _, _ => List.pairwise_singleton _ _
  | q :: r, hn, hs => by
    obtain ⟨h1, h2⟩ := List.pairwise_cons.mp hs
    rw [insW]
    split
    · rename_i hlt
      refine List.pairwise_cons.mpr ⟨fun y hy => ?_, hs⟩
      rcases List.mem_cons.mp hy with rfl | hy
      · exact hlt
      · exact ll_trans hlt (h1 y hy)
    · rename_i hlt
      have hne : p.1.cps.toList ≠ q.1.cps.toList := fun e => hn (by rw [str_ext (Array.toList_inj.mp e)]; exact .head _)
      refine List.pairwise_cons.mpr ⟨fun y hy => ?_, insW_sort p r (fun h => hn (.tail _ h)) h2⟩
      rcases List.mem_cons.mp ((insW_perm p r).mem_iff.mp hy) with rfl | hy
      · exact ll_tot hne hlt
      · exact h1 y hy
theorem exists_sorted : ∀ (l : List (Str × Tok)), (l.map (·.1)).Nodup → ∃ so : List (Str × Tok), so.Perm l ∧ so.Pairwise fun a b => a.1.cps.toList < b.1.cps.toList
  | [], _ => ⟨[], .refl _, .nil⟩
  | p :: l, h => by
    obtain ⟨h1, h2⟩ := List.nodup_cons.mp h
    obtain ⟨so, a, b⟩ := exists_sorted l h2
    refine ⟨insW p so, (insW_perm p so).trans (a.cons p), insW_sort p so (fun hm => h1 ?_) b⟩
    exact (a.map (·.1)).mem_iff.mp hm
theorem begr_len {so : List (Str × Tok)} (hl : so.length ≤ 6) (hn : ∀ p ∈ so, p.1.length ≤ 1024) : (begA (Str.ofString "r") so (Str.ofString "")).length ≤ 8000 := by
  unfold begA
  have h1 := catS_len 1200 (so.map fun p => atOne (Str.ofString "") p.1) fun z hz => by
    obtain ⟨p, hp, rfl⟩ := List.mem_map.mp hz
    exact atOne_len (hn p hp) (by decide +kernel)
  rw [List.length_map] at h1
  simp only [PySem.Str.length_append]
  have e1 : (Str.ofString "<").length = 1 := by decide +kernel
  have e2 : (Str.ofString "r").length = 1 := by decide +kernel
  have e3 : (Str.ofString ">").length = 1 := by decide +kernel
  omega
end
theorem topOff12 : True := by
  w_top off
  trivial
section
open PySem PySem.W PyProof.Rows PySem.Calls PySem.Spec
inductive QW (nb : List (Addr × Obj)) (ws : List (Str × Tok)) (s₁ : Shared) (i : Nat) (kv : List (Str × Value)) (nw : List (Addr × Obj)) (s : Shared) : Prop
  | mk (h : Heap) (tk : Nat) (e : s = { s₁ with heap := h, toks := tk }) (l : List (Str × Tok)) (hk : kv = atKv (Str.ofString "") l) (hl : l.map (·.1) = (ws.take i).map (·.1)) (hn : nw = nb) : QW nb ws s₁ i kv nw s
theorem atKv_push (v : Str) (l : List (Str × Tok)) (x : Str) (t : Tok) : atKv v (l ++ [(x, t)]) = atKv v l ++ [(x, .str v t)] := by
  rw [atKv, List.map_append]; rfl
theorem qw_step {ws l : List (Str × Tok)} {i : Nat} {p : Str × Tok} (h : ws[i]? = some p) (hl : l.map (·.1) = (ws.take i).map (·.1)) (t : Tok) : (l ++ [(p.1, t)]).map (·.1) = (ws.take (i + 1)).map (·.1) := by
  rw [List.take_add_one, h, List.map_append, List.map_append, hl]
  rfl
set_option maxHeartbeats 4000000 in
theorem sorted_c (w : World) (dp un : Nat) (gd : Option (List Code)) (cn : Str) (cs : Scope) (a : Addr) (ccd : Value) (cl : List (Str × Addr)) (outer : List Env) (A₀ : Around) (base h₀ : Heap) (L : Addr) (m mg mb : Str → Option Value) (mean : ExcName → Option Value) (s : Shared) (Q E : Value → Shared → Prop)
    (rest : List (Addr × Obj)) (tb : Array Value) (lw : Nat) (ws : List (Str × Tok)) (kw : Nat)
    (B : Below A₀ base outer h₀) (F : Fr h₀ L s.heap m) (X : (hd1.heap_39 w.params).In h₀) (T : Top topProg lo3 mean mg mb h₀)
    (hk : cs.kind = .function) (hd : dp + 200 < recursionLimit) (hu : un + 2000 < cLine)
    (N : News h₀ L s.heap ((123, tabObj tb) :: rest))
    (r1 : ∀ p ∈ rest, p.1 ≠ 123) (htb : TabSt lamPos lamQ tb rest) (hb : AllBare s.gens) (hC : CodeHd h₀ 125 123) (hW : (lw, listOf (strValues ws).toArray kw) ∈ rest) (hok : WordsOk ws) (h6 : ws.length = 6) (hnd : (ws.map (·.1)).Nodup)
    (hQ : ∀ (D : Nat) (l : List (Str × Tok)) (k : Nat) (tb' : Array Value) (new : List (Addr × Obj)) h' tk' gens' d', Fr h₀ L h' m → News h₀ L h' ((D, listOf (strValues l).toArray k) :: (123, tabObj tb') :: (new ++ rest)) → (∀ p ∈ (123, tabObj tb') :: (new ++ rest), p.1 < D) → (l.map (·.1)).Perm (ws.map (·.1)) → (l.map fun p => p.1.cps.toList).Pairwise (· < ·) → TabSt lamPos lamQ tb' new → (∀ p ∈ new, CodeLike p.2) → (∀ p ∈ new, p.1 ≠ 123) → AllBare gens' → Q (.ref D) { s with heap := h', toks := tk', gens := gens', drawn := d' }) :
    wpAny (model P3 w) (ktrTop dp un gd cn cs L a ccd cl outer) (call (.ref 180) [.ref lw]) Q E s := by
  have hWt : (lw, listOf (strValues ws).toArray kw) ∈ (123, tabObj tb) :: rest := .tail _ hW
  refine wpAny_call ?_
  k_dflt k_enter
  rename (Fr _ _ _ _) => F0
  obtain ⟨m9, hm9, F1⟩ : ∃ m', m' = _ ∧ Fr _ _ _ m' := ⟨_, rfl, F0⟩
  have i_words : m9 (Str.ofString "words") = some (.ref lw) := by rw [hm9]; exact rfl
  clear hm9 F0
  repeat ((fail_if_success (with_reducible show wpAny _ _ (getAttr (Value.ref _) (Str.ofString "append") true) _ _ _)); (first | (k_unfold; (try dsimp only)) | walk1 | (dsimp only; walk1) | (leave1; try dsimp only)))
  ((with_reducible show wpAny _ _ (getAttr (Value.ref _) (Str.ofString "append") true) _ _ _); k_dflt (refine' append_attr ?F ?N ?m ?_; (case F => k_asm); (case N => k_asm); (case m => k_mem)); intro q' h' tk' F' N' l1; (try k_lt l1))
  repeat ((fail_if_success (with_reducible show wpAny _ _ (call (Value.ref 150) _) _ _ _)); (first | (k_unfold; (try dsimp only)) | walk1 | (dsimp only; walk1) | (leave1; try dsimp only)))
  rename (News _ _ _ _) => N2
  refine' init_w _ _ _ _ _ _ _ _ _ _ _ _ _ _ _ _ _ _ _ _ _ rest _ _ _ tb ?uB ?uF ?uX ?uT ?uk ?ud ?uu ?uN ?uq r1 ?ur2 hb htb ?uQ
  case uB => k_asm
  case uF => k_asm
  case uX => k_in
  case uT => k_asm
  case uk => exact rfl
  case ud => ktr_room
  case uu => ktr_units
  case uN => exact N2
  case uq => (refine ⟨?_, ?_⟩ <;> walk_at "LT")
  case ur2 => k_all
  case uQ =>
  intro wr nw1 h1 tk1 F1 N1 W1
  obtain ⟨pc, epc, W1⟩ : ∃ q : Nat, q = _ ∧ Wr w wr q rest 0 _ 0 [] nw1 _ := ⟨_, rfl, W1⟩
  subst epc
  have hW1 := W1.mem hW
  obtain ⟨wd1, tkA, qA, dlA, nsdA, nsA, pmA, psA, seA, doA, t0A, eA, hwr1, hwd1⟩ := W1.objs
  repeat ((fail_if_success (with_reducible show wpAny _ _ (eval (Expr.DictComp _ _ _ _ _) _) _ _ _)); (first | (k_unfold; (try dsimp only)) | walk1 | (dsimp only; walk1) | (leave1; try dsimp only)))
  rename (Fr _ _ _ _) => F2
  rename (News _ _ _ _) => N3
  refine' Eval_DComp F2 ?hclos ?hcell ?hkind ?hnames ?hx ?hdb ?hh ?h
  case hclos => exact rfl
  case hcell => decide
  case hkind => exact rfl
  case hnames => decide
  case hx => exact rfl
  case hdb => exact rfl
  case hh => exact rfl
  case h =>
  iterate 1 (first | (k_unfold; (try dsimp only)) | walk1 | (dsimp only; walk1) | (leave1; try dsimp only))
  refine ⟨lw, _, kw, nw1, rfl, F2, N3, hW1, by simp [strValues, sizeLine_eq]; walk_at "AR", ?_⟩
  refine drest_all (n := (strValues ws).toArray.size) (P := QW nw1 ws s) (fun i v kv nw s9 hi hPv hP I4 oI4 C4 oC4 D4 oD4 m4 h4 tk4 E4 hNs4 hm4 F4 N4 off4 ne4 => ?turn) (fun kv nw s9 hP => ?fin) (strValues ws).toArray.size 0 [] nw1 _ (Nat.zero_add _) ?p0
  case p0 => exact QW.mk _ _ rfl [] rfl rfl rfl
  case turn =>
    obtain ⟨h9, tk9, rfl, l9, rfl, hl9, rfl⟩ := hP
    obtain ⟨p9, hp9, rfl⟩ := sv_at hPv
    refine ⟨p9.1, p9.2, rfl, ?_⟩
    repeat (first | (k_unfold; (try dsimp only)) | walk1 | (dsimp only; walk1) | (leave1; try dsimp only))
    refine ⟨nw, F4, N4, off4, .inr ⟨_, hW1, rfl, _, rfl⟩, ?_⟩
    dsimp only
    rw [stored_new (qw_new hnd hp9 hl9)]
    exact QW.mk _ _ rfl (l9 ++ [(p9.1, _)]) (atKv_push _ _ _ _).symm (qw_step hp9 hl9 _) rfl
  case fin =>
    obtain ⟨h9, tk9, rfl, l9, rfl, hl9, rfl⟩ := hP
    rw [show ws.take (strValues ws).toArray.size = ws from by rw [List.size_toArray, strValues, List.length_map, List.take_length]] at hl9
    intro D oD h10 tk10 lt10 F10 N10 hd10 ne10 lD10
    obtain ⟨pcs0, e0, hpc0, _, _⟩ := W1.pieces
    have hpcD : @LT.lt Nat _ pc D := lt10 _ hpc0
    have hD3 : (D == sysModules) = false := beq_eq_false_iff_ne.mpr (fun e => by
      have h9 := W1.base
      have h8 : sysModules = 1 := rfl
      have h7 : @Eq Nat D sysModules := e
      rw [h8] at h7
      walk_at "AR")
    have h69 : l9.length = 6 := by have h8 := congrArg List.length hl9; rw [List.length_map, List.length_map, h6] at h8; exact h8
    have hnd9 : (l9.map (·.1)).Nodup := by rw [hl9]; exact hnd
    obtain ⟨so, hso, hss⟩ := exists_sorted l9 hnd9
    have hname : ∀ n ∈ l9.map (·.1), NameOk n := fun n hn => by
      rw [hl9] at hn
      obtain ⟨p, hp, rfl⟩ := List.mem_map.mp hn
      obtain ⟨z1, z2, z3⟩ := hok.2 p hp
      exact word_name z2 z3
    have hrn : Str.ofString "r" ∉ l9.map (·.1) := fun hn => by
      rw [hl9] at hn
      obtain ⟨p, hp, e⟩ := List.mem_map.mp hn
      obtain ⟨z1, z2, z3⟩ := hok.2 p hp
      rw [e] at z3
      have h9 := z3 114 (by decide +kernel)
      obtain ⟨_, h9⟩ := h9
      walk_at "AR"
    have hlso : LSortOf w (atKv (Str.ofString "") l9) (atKv (Str.ofString "") so) := lsort_6 (by rw [atKv, List.length_map]; exact h69) (by rw [atKv, List.map_map]; exact hnd9) (hso.map _) (by rw [atKv, List.pairwise_map]; exact hss)
    have hst9 : StarOf w D oD (atKv (Str.ofString "") l9) (Str.ofString "r") := fun _ _ _ _ _ _ _ _ _ _ _ _ F N hh hA hne U ht h => star6T F N hh hA hd10 (by rw [atKv, List.length_map]; exact h69) hD3 hne (by rw [atKv, List.map_map]; exact hrn) U ht h
    repeat ((fail_if_success (with_reducible show wpAny _ _ (call (Value.ref 120) _) _ _ _)); (first | (k_unfold; (try dsimp only)) | walk1 | (dsimp only; walk1) | (leave1; try dsimp only)))
    refine' start_w _ _ _ _ _ _ _ _ _ _ _ _ _ _ _ _ _ _ _ _ _ rest nw wr pc 0 _ _ (Str.ofString "r") _ D oD l9 so (Str.ofString "") (Str.ofString "") ?uB ?uF ?uX ?uT ?uk ?ud ?uu ?uN W1 lt10 (by decide) (by decide) (List.forall_mem_cons.2 ⟨r_name, hname⟩) hrn (by walk_at "AR") ⟨rfl, rfl⟩ hst9 (fun _ => hlso) hso hd10 hD3 ?hC ?hQ
    case uB => k_asm
    case uF => k_asm
    case uX => k_in
    case uT => k_asm
    case uk => exact rfl
    case ud => ktr_room
    case uu => ktr_units
    case uN => k_asm
    case hC => exact CodeHd.keeps hC (Fr.keep (by assumption))
    case hQ =>
    clear hwr1 hwd1 hlso hst9
    intro nw2 h2 tk2 g2 d2 F2 N2 W2
    rw [nil_app'] at W2
    obtain ⟨pcs, e1, hpc, hcat, hlen⟩ := W2.pieces
    repeat ((fail_if_success (with_reducible show wpAny _ _ (call (Value.builtin "str.join") _) _ _ _)); (first | (k_unfold; (try dsimp only)) | walk1 | (dsimp only; walk1) | (leave1; try dsimp only)))
    have hlx : (begA (Str.ofString "r") so (Str.ofString "")).length ≤ 8000 := begr_len (by rw [hso.length_eq, h69]; exact Nat.le_refl _) fun p hp => (hname _ (List.mem_map_of_mem (hso.mem_iff.mp hp))).2.1
    refine join_led' (l := pcs) (by assumption) hpc ?hz (x := begA (Str.ofString "r") so (Str.ofString "")) ?hx ?hg ?hh
    case hz => rw [fold_len', hcat]; exact decide_eq_false (by rw [sizeLine_eq]; walk_at "AR")
    case hx => rw [glued_cat, hcat]
    case hg => rw [sizeLine_eq]; walk_at "AR"
    case hh =>
    intro uj tkj _
    repeat ((fail_if_success (with_reducible show wpAny _ _ (call (Value.ref 175) _) _ _ _)); (first | (k_unfold; (try dsimp only)) | walk1 | (dsimp only; walk1) | (leave1; try dsimp only)))
    rename (News _ _ _ _) => N6
    show wpAny _ _ (call (Value.ref 175) (Value.str _ _ :: pairArgs [(Str.ofString "<r ", Str.ofString "", _, _), (Str.ofString "=\"\"", Str.ofString "", _, _), (Str.ofString ">", Str.ofString "", _, _)])) _ _ _
    refine' replace_g _ _ _ _ _ _ _ _ _ _ _ _ _ _ _ _ _ _ _ _ _ nw2 _ _ _ ?uB ?uF ?uX ?uT ?uk ?ud ?uu ?uN ?hne (Nat.le_of_ble_eq_true rfl) ?hsz ?hQ
    case uB => k_asm
    case uF => k_asm
    case uX => k_in
    case uT => k_asm
    case uk => exact rfl
    case ud => ktr_room
    case uu => ktr_units
    case uN => exact N6
    case hne =>
      intro p hp
      simp only [List.mem_cons, List.not_mem_nil, or_false] at hp
      rcases hp with rfl | rfl | rfl <;> (dsimp only; exact ⟨by decide +kernel, by decide +kernel⟩)
    case hsz =>
      intro k _
      refine Nat.le_trans (repl_len _ _ fun p hp => ?_) (Nat.le_trans hlx (by decide))
      refine sortPairs_ok p ?_
      have hp2 := ((List.take_sublist k _).map _).mem hp
      exact hp2
    case hQ =>
    intro t3 h3 tk3 F3 N3
    repeat ((fail_if_success (with_reducible show wpAny _ _ (call (Value.builtin "str.split") _) _ _ _)); (first | (k_unfold; (try dsimp only)) | walk1 | (dsimp only; walk1) | (leave1; try dsimp only)))
    refine KSpl.split1 (by assumption) (by assumption) (by decide +kernel) ?hsp ?hz1
    case hz1 => exact Nat.le_trans (Nat.add_le_add_right (Nat.le_trans (repl_len sortPairs _ sortPairs_ok) hlx) 2) (by rw [sizeLine_eq]; decide)
    case hsp =>
    intro D l11 h9 tk9 hl11 hS9 F9 N9 lt9
    repeat (first | (k_unfold; (try dsimp only)) | walk1 | (dsimp only; walk1) | (leave1; try dsimp only))
    have hne9 : so ≠ [] := fun e => by rw [e] at hso; have h8 := hso.length_eq; rw [h69] at h8; cases h8
    have hwk : ∀ p ∈ so, WOk p.1.cps.toList := fun p hp => by
      have h8 := List.mem_map_of_mem (f := (·.1)) (hso.mem_iff.mp hp)
      rw [hl9] at h8
      obtain ⟨q, hq, e⟩ := List.mem_map.mp h8
      rw [← e]
      exact (hok.2 q hq).2.2
    have hl12 : l11.map (·.1) = so.map (·.1) := hl11.trans (sorted_plain hne9 hwk)
    obtain ⟨tb', new, Nf, Tf, c1, c2⟩ := W2.fin
    rename (News h₀ L _ _) => N10
    refine hQ D l11 0 tb' new _ _ _ _ (by assumption) (fun p hp => ?_) (fun p hp => lt9 p (Nf p hp)) ?nP ?nS Tf c1 c2 W2.gens
    · rcases List.mem_cons.mp hp with rfl | hp
      · exact N10 _ (.head _)
      · exact N10 _ (.tail _ (Nf p hp))
    case nP => rw [hl12, ← hl9]; exact hso.map _
    case nS =>
      have e8 : (l11.map fun p => p.1.cps.toList) = so.map fun p => p.1.cps.toList := by
        have h8 := congrArg (List.map fun x : Str => x.cps.toList) hl12
        rw [List.map_map, List.map_map] at h8
        exact h8
      rw [e8, List.pairwise_map]
      exact hss
end
theorem topOff13 : True := by
  w_top off
  trivial
section
local macro_rules | `(tactic| walk_at "ZZ") => `(tactic| skip)
open PySem PySem.W PyProof.Rows PySem.Calls PySem.Spec
def laid0 (x im y : Str) : Str := if (y != Str.ofString "") = true ∧ (Txt.slice x (some ((x.length : Int) - (y.length : Int))) none == y) = true then im else Str.ofString ""
abbrev missP (x y : Str) : Bool := (Builtin.Str.occurrences x y 0 x.length 1).isEmpty
abbrev wrapT (c : Nat) (r : Str) : Str := Str.ofString "<" ++ sg c ++ Str.ofString ">" ++ r ++ Str.ofString "</" ++ sg c ++ Str.ofString ">"
def laidT : Nat → Str → Str → Str → Str
  | 0, _, _, _ => Str.ofString ""
  | n + 1, x, im, y => laid0 x im y ++ catS ([97, 98, 99, 100].map fun c => if missP x (y ++ sg c) = true then Str.ofString "" else wrapT c (laidT n x im (y ++ sg c)))
def oneT (n : Nat) (x im y : Str) (c : Nat) : Str := if missP x (y ++ sg c) = true then Str.ofString "" else wrapT c (laidT n x im (y ++ sg c))
def laidP (n : Nat) (x im y : Str) (j : Nat) : Str := laid0 x im y ++ catS (([97, 98, 99, 100].take j).map (oneT n x im y))
theorem laidP0 (n : Nat) (x im y : Str) : laidP n x im y 0 = laid0 x im y := app_nil' _
theorem laidP4 (n : Nat) (x im y : Str) : laidP n x im y 4 = laidT (n + 1) x im y := by
  rw [laidT]; rfl
theorem laidP_step {n : Nat} {x im y : Str} {j c : Nat} (h : (Str.ofString "abcd").cps[j]? = some c) : laidP n x im y (j + 1) = laidP n x im y j ++ oneT n x im y c := by
  have e : (Str.ofString "abcd").cps = #[97, 98, 99, 100] := by decide +kernel
  rw [e, ← Array.getElem?_toList] at h
  unfold laidP
  rw [List.take_add_one, h, List.map_append, catS_append, app_assoc']
  simp only [Option.toList, List.map, catS, app_nil']
theorem laid0_len {x im y : Str} (hi : im.length ≤ 10) : (laid0 x im y).length ≤ 10 := by
  unfold laid0
  split
  · exact hi
  · decide +kernel
theorem wrap_len (c : Nat) (r : Str) : (wrapT c r).length = r.length + 7 := by
  have e1 : (Str.ofString "<").length = 1 := by decide +kernel
  have e2 : (Str.ofString ">").length = 1 := by decide +kernel
  have e3 : (Str.ofString "</").length = 2 := by decide +kernel
  have e4 : (sg c).length = 1 := rfl
  simp only [PySem.Str.length_append]
  walk_at "AR"
theorem five_step {k a b : Nat} (h3 : 0 < k) (h2 : a ≤ 10) (h1 : b ≤ (0 + 1 + 1 + 1 + 1) * (100 * k + 7)) : a + b ≤ 100 * (k * 5) := by walk_at "AR"
theorem laid_len {x im : Str} (hi : im.length ≤ 10) (n : Nat) : ∀ (y : Str), (laidT n x im y).length ≤ 100 * 5 ^ n := by
  have e : (Str.ofString "").length = 0 := by decide +kernel
  induction n with
  | zero => intro y; rw [laidT, e]; exact Nat.zero_le _
  | succ n ih =>
    intro y
    have h3 : 0 < 5 ^ n := Nat.pow_pos (by decide)
    have h1 := cat_len (100 * 5 ^ n + 7) (oneT n x im y) [97, 98, 99, 100] fun c _ => by
      unfold oneT
      split
      · rw [e]; exact Nat.zero_le _
      · rw [wrap_len]
        exact Nat.add_le_add_right (ih _) 7
    have h2 := laid0_len (x := x) (y := y) hi
    have e2 : laidT (n + 1) x im y = laid0 x im y ++ catS ([97, 98, 99, 100].map (oneT n x im y)) := by rw [laidT]; rfl
    rw [e2, PySem.Str.length_append, Nat.pow_succ]
    simp only [List.length_cons, List.length_nil] at h1
    exact five_step h3 h2 h1
theorem laidP_len {x im y : Str} (hi : im.length ≤ 10) (n j : Nat) (hn : n ≤ 6) (hj : j ≤ 4) : (laidP n x im y j).length ≤ 8000000 := by
  have h1 := cat_len (100 * 5 ^ n + 7) (oneT n x im y) ([97, 98, 99, 100].take j) fun c _ => by
    unfold oneT
    split
    · have e : (Str.ofString "").length = 0 := by decide +kernel
      walk_at "AR"
    · rw [wrap_len]
      exact Nat.add_le_add_right (laid_len hi n _) 7
  have h2 := laid0_len (x := x) (y := y) hi
  have h3 : 5 ^ n ≤ 5 ^ 6 := Nat.pow_le_pow_right (by decide) hn
  have h4 : ([97, 98, 99, 100].take j : List Nat).length ≤ 4 := by rw [List.length_take]; simp only [List.length_cons, List.length_nil]; walk_at "AR"
  rw [laidP, PySem.Str.length_append]
  have h5 := Nat.mul_le_mul_right (100 * 5 ^ n + 7) h4
  generalize 5 ^ n = k at *
  have h6 : 5 ^ 6 = 15625 := by decide
  rw [h6] at h3
  walk_at "AR"
theorem laidR_len {x im y : Str} (hi : im.length ≤ 10) (n : Nat) (hn : n ≤ 6) : (laidT n x im y).length ≤ 2000000 := by
  have h1 := laid_len (x := x) hi n y
  have h3 : 5 ^ n ≤ 5 ^ 6 := Nat.pow_le_pow_right (by decide) hn
  have h6 : 5 ^ 6 = 15625 := by decide
  rw [h6] at h3
  walk_at "AR"
theorem occ_le {x z : Str} (h : missP x z = false) : z.length ≤ x.length := by
  rcases StrLaws.occ_head x z 1 (Nat.le_refl _) with ⟨e, _⟩ | ⟨i, r, _, hA, _⟩
  · rw [missP, e] at h; cases h
  · exact Nat.le_trans (Nat.le_add_left _ _) hA.1
inductive LdMid (h₀ : Heap) (L : Addr) (s₁ : Shared) (m9 : Str → Option Value) (news : List (Addr × Obj)) (v : Str) : Flow → Shared → Prop
  | mk (h : Heap) (tk : Nat) (t : Tok) (F : Fr h₀ L h (fun z => if z = Str.ofString "laid" then some (.str v t) else m9 z)) (N : News h₀ L h news) : LdMid h₀ L s₁ m9 news v .next { s₁ with heap := h, toks := tk }
theorem LdMid.of {h₀ : Heap} {L : Addr} {s₁ : Shared} {m9 : Str → Option Value} {news : List (Addr × Obj)} {v v' : Str} {h : Heap} {tk : Nat} {t : Tok} (F : Fr h₀ L h (fun z => if z = Str.ofString "laid" then some (.str v' t) else m9 z)) (N : News h₀ L h news) (e : v' = v) : LdMid h₀ L s₁ m9 news v .next { s₁ with heap := h, toks := tk } := by
  subst e
  exact .mk h tk t F N
inductive LJ (x im y : Str) (t1 t2 t3 : Tok) (news : List (Addr × Obj)) (v : Str) (g₀ : Gens) (m₁ : Str → Option Value) (nw : List (Addr × Obj)) (g : Gens) : Prop
  | mk (mt : m₁ (Str.ofString "text") = some (.str x t1)) (mi : m₁ (Str.ofString "image") = some (.str im t2)) (mp : m₁ (Str.ofString "piece") = some (.str y t3)) (tl : Tok) (ml : m₁ (Str.ofString "laid") = some (.str v tl)) (hn : nw = news) (hg : g = g₀) : LJ x im y t1 t2 t3 news v g₀ m₁ nw g
theorem ld_mid {M : Model} {A : Around} {t : Sem Flow} {E : Value → Shared → Prop} {Q : Flow → Shared → Prop} {s s9 : Shared} {h₀ h : Heap} {L : Addr} {m9 : Str → Option Value} {news : List (Addr × Obj)} {v : Str} (_F : Fr h₀ L h m9)
    (h1 : wpAny M A t (LdMid h₀ L s m9 news v) E s9) (h2 : ∀ fl s', LdMid h₀ L s m9 news v fl s' → Q fl s') : wpAny M A t Q E s9 := wpAny_mono h1 h2 fun _ _ x => x
set_option maxHeartbeats 4000000 in
theorem laid_c {x im : Str} (hx : x.length = 6) (hi : im.length ≤ 10) (n : Nat) : ∀ (w : World) (dp un : Nat) (gd : Option (List Code)) (cn : Str) (cs : Scope) (a : Addr) (ccd : Value) (cl : List (Str × Addr)) (outer : List Env) (A₀ : Around) (base h₀ : Heap) (L : Addr) (m mg mb : Str → Option Value) (mean : ExcName → Option Value) (s : Shared) (Q E : Value → Shared → Prop)
    (news : List (Addr × Obj)) (y : Str) (t1 t2 t3 : Tok)
    (B : Below A₀ base outer h₀) (F : Fr h₀ L s.heap m) (X : (hd1.heap_39 w.params).In h₀) (T : Top topProg lo3 mean mg mb h₀)
    (hk : cs.kind = .function) (hd : dp + 20 * n + 60 < recursionLimit) (hu : un + 300 * n + 600 < cLine)
    (N : News h₀ L s.heap (news))
    (hy : y.length ≤ x.length) (hn : y.length + n = 7)
    (hQ : ∀ t' h' tk' d', Fr h₀ L h' m → News h₀ L h' news → Q (.str (laidT n x im y) t') { s with heap := h', toks := tk', drawn := d' }),
    wpAny (model P3 w) (ktrTop dp un gd cn cs L a ccd cl outer) (call (.ref 194) [.str x t1, .str im t2, .str y t3]) Q E s := by
  induction n with
  | zero => intro w dp un gd cn cs a ccd cl outer A₀ base h₀ L m mg mb mean s Q E news y t1 t2 t3 B F X T hk hd hu N hy hn hQ; exact absurd hy (by walk_at "AR")
  | succ n ih =>
  intro w dp un gd cn cs a ccd cl outer A₀ base h₀ L m mg mb mean s Q E news y t1 t2 t3 B F X T hk hd hu N hy hn hQ
  have hn6 : n ≤ 6 := by walk_at "AR"
  refine wpAny_call ?_
  k_dflt k_enter
  rename (Fr _ _ _ _) => F0
  obtain ⟨m9, hm9, F1⟩ : ∃ m', m' = _ ∧ Fr _ _ _ m' := ⟨_, rfl, F0⟩
  have i_text : m9 (Str.ofString "text") = some (.str x t1) := by rw [hm9]; exact rfl
  have i_image : m9 (Str.ofString "image") = some (.str im t2) := by rw [hm9]; exact rfl
  have i_piece : m9 (Str.ofString "piece") = some (.str y t3) := by rw [hm9]; exact rfl
  clear hm9 F0
  repeat ((fail_if_success (with_reducible show wpAny _ _ (exec (Stmt.Assign _ _ _) _) _ _ _)); (first | (k_unfold; (try dsimp only)) | walk1 | (dsimp only; walk1) | (leave1; try dsimp only)))
  refine ld_mid (s := s) (news := news) (v := laid0 x im y) F1 ?cif (fun fl s6 hM => ?tail)
  case cif =>
    repeat (any_goals (first | (k_unfold; (try dsimp only)) | walk1 | (dsimp only; walk1) | (leave1; try dsimp only)))
    all_goals (rename (Fr _ _ _ _) => F3; refine LdMid.of F3 (by assumption) ?_)
    all_goals first | exact (if_pos ⟨by assumption, by assumption⟩).symm | exact (if_neg (fun hh => Bool.noConfusion (hh.2.symm.trans (by assumption)))).symm | exact (if_neg (fun hh => Bool.noConfusion (hh.1.symm.trans (by assumption)))).symm
  case tail =>
  obtain ⟨h6, tk6, t6, F6, N6⟩ := hM
  dsimp only
  repeat ((fail_if_success (with_reducible show wpAny _ _ (exec (Stmt.For _ _ _ _ _) _) _ _ _)); (first | (k_unfold; (try dsimp only)) | walk1 | (dsimp only; walk1) | (leave1; try dsimp only)))
  rename (Fr _ _ _ _) => F5
  refine' For_S F5 rfl rfl (by exact rfl) ?_
  iterate 1 (first | (k_unfold; (try dsimp only)) | walk1 | (dsimp only; walk1) | (leave1; try dsimp only))
  refine .mk (Str.ofString "abcd") _ _ _ rfl F5 N6 ⟨(fun j m₁ nw g => LJ x im y t1 t2 t3 news (laidP n x im y j) s.gens m₁ nw g), ?j0, ?turn, ?done⟩
  case j0 => exact .mk (Eq.trans (if_neg (by decide +kernel)) i_text) (Eq.trans (if_neg (by decide +kernel)) i_image) (Eq.trans (if_neg (by decide +kernel)) i_piece) t6 ((if_pos rfl).trans (by rw [laidP0])) rfl rfl
  case turn =>
    intro j v2 I oI m₂ h8 tk8 g8 d8 nw8 hj hv hJ _ F8 N8 off8 it8
    obtain ⟨mt, mi, mp, tl, ml, rfl, rfl⟩ := hJ
    obtain ⟨c, u2, hc, rfl⟩ := hv
    have hj4 : j ≤ 4 := Nat.le_of_lt hj
    have hP := laidP_len (x := x) (y := y) hi n j hn6 hj4
    have hstep := laidP_step (n := n) (x := x) (im := im) (y := y) hc
    have hyl : y.length ≤ 7 := by walk_at "AR"
    have hcl : (sg c).length ≤ 1 := Nat.le_refl 1
    dsimp only [stG]
    repeat ((fail_if_success (with_reducible show wpAny _ _ (exec (Stmt.If _ _ _ _) _) _ _ _)); (first | (k_unfold; (try dsimp only)) | walk1 | (dsimp only; walk1) | (leave1; try dsimp only)))
    repeat (any_goals ((fail_if_success (with_reducible show wpAny _ _ (call (Value.ref 194) _) _ _ _)); (first | (k_unfold; (try dsimp only)) | walk1 | (dsimp only; walk1) | (leave1; try dsimp only))))
    · rename (_ = true) => hocc
      refine' ⟨_, _, _, _, _, nw8, ?fF, ?fN, off8, trivial, ?fJ⟩
      case fF => assumption
      case fN => assumption
      case fJ => exact .mk (Eq.trans (if_neg (by decide +kernel)) mt) (Eq.trans (if_neg (by decide +kernel)) mi) (Eq.trans (if_neg (by decide +kernel)) mp) tl ((if_neg (by decide +kernel)).trans (by rw [hstep, oneT, if_pos hocc, app_nil']; exact ml)) rfl rfl
    · rename (_ = false) => hocc
      have hlz := occ_le hocc
      refine' ih _ _ _ _ _ _ _ _ _ _ _ _ _ _ _ _ _ _ _ _ _ ((I, oI) :: nw8) _ _ _ _ ?uB ?uF ?uX ?uT ?uk ?ud ?uu ?uN hlz ?hn2 ?hQ2
      case uB => k_asm
      case uF => k_asm
      case uX => k_in
      case uT => k_asm
      case uk => exact rfl
      case ud => ktr_room
      case uu => ktr_units
      case uN => k_asm
      case hn2 => rw [PySem.Str.length_append]; show y.length + 1 + n = 7; walk_at "AR"
      case hQ2 =>
      intro t9 h9 tk9 d9 F9 N9
      have hR := laidR_len (x := x) (y := y ++ sg c) hi n hn6
      have hone : oneT n x im y c = wrapT c (laidT n x im (y ++ sg c)) := if_neg fun h => Bool.noConfusion (h.symm.trans hocc)
      rw [hone] at hstep
      generalize laidT n x im (y ++ sg c) = R at *
      generalize laidP n x im y j = P9 at *
      have z1 : (Str.ofString "<").length ≤ 1 := by decide +kernel
      have z2 : (Str.ofString ">").length ≤ 1 := by decide +kernel
      have z3 : (Str.ofString "</").length ≤ 2 := by decide +kernel
      repeat (first | (k_unfold; (try dsimp only)) | walk1 | (dsimp only; walk1) | (leave1; try dsimp only))
      refine' ⟨_, _, _, _, _, nw8, ?fF, ?fN, off8, trivial, ?fJ⟩
      case fF => assumption
      case fN => assumption
      case fJ => exact .mk (Eq.trans (if_neg (by decide +kernel)) (Eq.trans (if_neg (by decide +kernel)) mt)) (Eq.trans (if_neg (by decide +kernel)) (Eq.trans (if_neg (by decide +kernel)) mi)) (Eq.trans (if_neg (by decide +kernel)) (Eq.trans (if_neg (by decide +kernel)) mp)) _ ((if_pos rfl).trans (by rw [hstep])) rfl rfl
  case done =>
    intro m₁ nw h7 tk7 g7 d7 hJ F7 N7
    obtain ⟨mt, mi, mp, tl, ml, rfl, rfl⟩ := hJ
    rw [show (Str.ofString "abcd").cps.size = 4 from by decide +kernel, laidP4] at ml
    dsimp only [stG]
    repeat (first | (k_unfold; (try dsimp only)) | walk1 | (dsimp only; walk1) | (leave1; try dsimp only))
    exact hQ _ _ _ _ (by assumption) (by assumption)
end
theorem topOff14 : True := by
  w_top off
  trivial
section
open PySem PySem.W PyProof.Rows PySem.Calls PySem.Spec
theorem news_swap {h₀ h : Heap} {L : Addr} {a b : Addr × Obj} {l : List (Addr × Obj)} (N : News h₀ L h (a :: b :: l)) : News h₀ L h (b :: a :: l) := List.forall_mem_cons.2 ⟨N _ (.tail _ (.head _)), List.forall_mem_cons.2 ⟨N _ (.head _), fun p hp => N p (.tail _ (.tail _ hp))⟩⟩
theorem sv_push {l : List (Str × Tok)} {x : Str} {t : Tok} : strValues l ++ [Value.str x t] = strValues (l ++ [(x, t)]) := by rw [strValues, strValues, List.map_append]; rfl
theorem slice_cps {x : Str} {k : Nat} (h : k ≤ x.cps.size) : (Txt.slice x (some ((k : Nat) : Int)) none).cps.toList = x.cps.toList.drop k := by
  rw [slice_from_eq (b := (x.length : Int)) (Int.natCast_nonneg k) (by exact Int.ofNat_le.mpr h) rfl]
  show (x.cps.toList.drop (k : Int).toNat).take ((x.length : Int) - (k : Int)).toNat = _
  rw [Int.toNat_natCast, List.take_of_length_le]
  rw [List.length_drop, Array.length_toList]
  have : x.length = x.cps.size := rfl
  walk_at "AR"
inductive Sufs (x : Str) (ws : List (Str × Tok)) : Prop
  | mk (h6 : ws.length = 6) (hok : WordsOk ws) (hnd : (ws.map (·.1)).Nodup) (hd : (ws.map fun p => p.1.cps.toList) = (List.range 6).map fun k => x.cps.toList.drop k) : Sufs x ws
theorem sufs_of {x : Str} (hx6 : x.cps.size = 6) (hxs : ∀ c ∈ x.cps.toList, SignOk c) {ws : List (Str × Tok)} (hws : ws.map (·.1) = (List.range 6).map fun k : Nat => Txt.slice x (some ((k : Nat) : Int)) none) : Sufs x ws := by
  have h6 : ws.length = 6 := by have h := congrArg List.length hws; rw [List.length_map, List.length_map, List.length_range] at h; exact h
  have hd : (ws.map fun p => p.1.cps.toList) = (List.range 6).map fun k => x.cps.toList.drop k := by
    have h := congrArg (List.map fun z : Str => z.cps.toList) hws
    rw [List.map_map, List.map_map] at h
    refine h.trans (List.map_congr_left fun k hk => ?_)
    exact slice_cps (by rw [hx6]; exact Nat.le_of_lt (List.mem_range.mp hk))
  have hat : ∀ p ∈ ws, ∃ k, k < 6 ∧ p.1.cps.toList = x.cps.toList.drop k := fun p hp => by
    have h := List.mem_map_of_mem (f := fun p : Str × Tok => p.1.cps.toList) hp
    rw [hd] at h
    obtain ⟨k, hk, e⟩ := List.mem_map.mp h
    exact ⟨k, List.mem_range.mp hk, e.symm⟩
  refine .mk h6 ⟨Nat.le_of_eq h6, fun p hp => ?_⟩ ?_ hd
  · obtain ⟨k, hk, e⟩ := hat p hp
    have hl : p.1.cps.size = 6 - k := by rw [← Array.length_toList, e, List.length_drop, Array.length_toList, hx6]
    refine ⟨by walk_at "AR", by walk_at "AR", fun c hc => ?_⟩
    rw [e] at hc
    exact hxs c (List.mem_of_mem_drop hc)
  · have h2 : ((List.range 6).map fun k => x.cps.toList.drop k).Nodup := by
      refine List.pairwise_map.mpr (List.nodup_range.imp_of_mem fun {a b} ha hb hne e => hne ?_)
      have h9 := congrArg List.length e
      rw [List.length_drop, List.length_drop, Array.length_toList, hx6] at h9
      have := List.mem_range.mp ha
      have := List.mem_range.mp hb
      walk_at "AR"
    rw [← hd] at h2
    have h3 : (ws.map fun p => p.1.cps.toList) = (ws.map (·.1)).map fun z => z.cps.toList := by rw [List.map_map]; rfl
    rw [h3] at h2
    exact List.Pairwise.imp (fun hne e => hne (by rw [e])) (List.pairwise_map.mp h2)
abbrev seamPairs : List (Str × Str) := [(Str.ofString "</a><a>", Str.ofString ""), (Str.ofString "</b><b>", Str.ofString ""), (Str.ofString "</c><c>", Str.ofString ""), (Str.ofString "</d><d>", Str.ofString "")]
abbrev foldPairs : List (Str × Str) := (List.replicate 5 seamPairs).flatten
def PlainLaw : Prop := ∀ (x mk im : Str) (ws : List (List Nat)), Mark mk im → x.cps.size = 6 → (∀ c ∈ x.cps.toList, SignOk c) → ws.Perm ((List.range 6).map fun k => x.cps.toList.drop k) → ws.Pairwise (· < ·) → replAll foldPairs (toldT im ws) = Str.ofString "<r>" ++ laidT 7 x im (Str.ofString "") ++ Str.ofString "</r>"
theorem seam_ok : ∀ p ∈ seamPairs, PatOk p.1 ∧ p.2 = Str.ofString "" := by
  intro p hp
  simp only [List.mem_cons, List.not_mem_nil, or_false] at hp
  rcases hp with rfl | rfl | rfl | rfl <;> exact ⟨⟨by decide +kernel, by decide +kernel⟩, rfl⟩
theorem fold_ok : ∀ p ∈ foldPairs, PatOk p.1 ∧ p.2 = Str.ofString "" := fun p hp => by
  obtain ⟨l, hl, hp⟩ := List.mem_flatten.mp hp
  rw [(List.mem_replicate.mp hl).2] at hp
  exact seam_ok p hp
theorem pairArgs_app : ∀ a b : List PV, pairArgs (a ++ b) = pairArgs a ++ pairArgs b
  | [], _ => rfl
  | p :: r, b => by rw [List.cons_append, pairArgs, pairArgs, pairArgs_app r b]; rfl
def fold5 (pv : List PV) : List PV := pv ++ (pv ++ (pv ++ (pv ++ (pv ++ []))))
theorem fold5_pvs {pv : List PV} (h : pvs pv = seamPairs) : pvs (fold5 pv) = foldPairs := by
  have e : pvs (fold5 pv) = pvs pv ++ (pvs pv ++ (pvs pv ++ (pvs pv ++ (pvs pv ++ [])))) := by
    simp only [fold5, pvs, List.map_append, List.map_nil]
  rw [e, h]
  rfl
theorem fold5_arr {pv : List PV} (h : pv.length = 4) : List.foldl (fun x1 x2 => x1 ++ x2) #[] (List.replicate (if (pairArgs pv).toArray.isEmpty = true then 0 else (5 : Int).toNat) (pairArgs pv).toArray) = (pairArgs (fold5 pv)).toArray := by
  have e : (pairArgs pv).toArray.isEmpty = false := by
    rw [List.isEmpty_toArray, List.isEmpty_eq_false_iff_exists_mem]
    cases pv with
    | nil => cases h
    | cons p r => exact ⟨_, .head _⟩
  rw [e, if_neg (by decide)]
  show ((((#[] ++ (pairArgs pv).toArray) ++ (pairArgs pv).toArray) ++ (pairArgs pv).toArray) ++ (pairArgs pv).toArray) ++ (pairArgs pv).toArray = _
  rw [fold5, pairArgs_app, pairArgs_app, pairArgs_app, pairArgs_app, pairArgs_app]
  simp [pairArgs]
theorem news_third {h₀ h : Heap} {L : Addr} {a b c : Addr × Obj} {l : List (Addr × Obj)} (N : News h₀ L h (a :: b :: c :: l)) : News h₀ L h (c :: a :: b :: l) := List.forall_mem_cons.2 ⟨N _ (.tail _ (.tail _ (.head _))), List.forall_mem_cons.2 ⟨N _ (.head _), List.forall_mem_cons.2 ⟨N _ (.tail _ (.head _)), fun p hp => N p (.tail _ (.tail _ (.tail _ hp)))⟩⟩⟩
theorem fold5_ne {pv : List PV} (h : pvs pv = seamPairs) : ∀ p ∈ fold5 pv, (p.1.length == 0) = false ∧ p.2.1.length ≤ 1000 := fun p hp => by
  have h1 : (p.1, p.2.1) ∈ pvs (fold5 pv) := List.mem_map_of_mem (f := fun p : PV => (p.1, p.2.1)) hp
  rw [fold5_pvs h] at h1
  obtain ⟨⟨h2, _⟩, h3⟩ := fold_ok _ h1
  dsimp only at h2 h3
  refine ⟨beq_eq_false_iff_ne.mpr fun e => h2 (List.eq_nil_of_length_eq_zero ?_), ?_⟩
  · rw [Array.length_toList]; exact e
  · rw [h3]; decide +kernel
theorem suf_perm {x : Str} {ws l : List (Str × Tok)} (h : (l.map (·.1)).Perm (ws.map (·.1))) (hd : (ws.map fun p => p.1.cps.toList) = (List.range 6).map fun k => x.cps.toList.drop k) : (l.map fun p => p.1.cps.toList).Perm ((List.range 6).map fun k => x.cps.toList.drop k) := by
  rw [← hd]
  have h2 := h.map fun z : Str => z.cps.toList
  rw [List.map_map, List.map_map] at h2
  exact h2
theorem words_perm {ws l : List (Str × Tok)} (h : (l.map (·.1)).Perm (ws.map (·.1))) (hok : WordsOk ws) : WordsOk l := by
  refine ⟨?_, fun p hp => ?_⟩
  · have := h.length_eq
    rw [List.length_map, List.length_map] at this
    rw [this]; exact hok.1
  · obtain ⟨q, hq, e⟩ := List.mem_map.mp (h.mem_iff.mp (List.mem_map_of_mem hp))
    rw [← e]; exact hok.2 q hq
inductive WJ (g0 : Gens) (base : List (Addr × Obj)) (x : Str) (i : Nat) (ys : List Value) (nw : List (Addr × Obj)) (g : Gens) : Prop
  | mk (hg : g = g0) (hn : nw = base) (l : List (Str × Tok)) (hy : ys = strValues l) (hl : l.map (·.1) = (List.range i).map fun k : Nat => Txt.slice x (some ((k : Nat) : Int)) none) : WJ g0 base x i ys nw g
set_option maxHeartbeats 4000000 in
theorem lawC (w : World) (h₀ : Heap) (L fa : Nat) (cd : Value) (m mg mb : Str → Option Value) (mean : ExcName → Option Value) (s : Shared) (Q : Flow → Shared → Prop) (E : Value → Shared → Prop)
    (rest : List (Addr × Obj)) (tb : Array Value) (sl sk : Nat) (pv : List PV) (x : Str) (tx tm ti : Tok) (mk im : Str) (oc : Obj)
    (hE : PassesOwn (model P3 w) (callerA.deeper (envOfC (Str.ofString "law") lawScope L fa cd)) (envOfC (Str.ofString "law") lawScope L fa cd) E) (B : Below callerA h₀ [] h₀) (F : Fr h₀ L s.heap m) (X : (hd1.heap_39 w.params).In h₀) (T : Top topProg lo3 mean mg mb h₀) (hC : CodeHd h₀ 125 123) (hb : AllBare s.gens)
    (N : News h₀ L s.heap ((123, tabObj tb) :: rest))
    (r1 : ∀ p ∈ rest, p.1 ≠ 123) (htb : TabSt lamPos lamQ tb rest) (hpl : PlainLaw) (hS : (sl, listOf (pairArgs pv).toArray sk) ∈ rest) (hpv : pvs pv = seamPairs) (hct : (L + 1, oc) ∈ rest) (hoc : oc.data = .cell (some (.str x tx))) (hmk : Mark mk im) (hx6 : x.cps.size = 6) (hxs : ∀ c ∈ x.cps.toList, SignOk c)
    (msl : m (Str.ofString "seams") = some (.ref sl)) (mmk : m (Str.ofString "mark") = some (.str mk tm)) (mim : m (Str.ofString "image") = some (.str im ti))
    (hQ : ∀ (m' : Str → Option Value) (news' : List (Addr × Obj)) h' tk' gens' d', Fr h₀ L h' m' → News h₀ L h' news' → AllBare gens' → (∃ tb', (123, tabObj tb') ∈ news') → Q (.ret (.bool true)) { s with heap := h', toks := tk', gens := gens', drawn := d' }) :
    wpAny (model P3 w) (callerA.deeper (envOfC (Str.ofString "law") lawScope L fa cd)) (execs (lawFrom 7) (envOfC (Str.ofString "law") lawScope L fa cd)) Q E s := by
  generalize hl : lawFrom 7 = l
  conv at hl => lhs; whnf
  generalize hsc : lawScope = sc
  conv at hsc => lhs; whnf
  subst hl
  subst hsc
  have hct1 : (L + 1, oc) ∈ (123, tabObj tb) :: rest := .tail _ hct
  repeat ((fail_if_success (with_reducible show wpAny _ _ (eval (Expr.ListComp _ _ _ _) _) _ _ _)); (first | (k_unfold; (try dsimp only)) | walk1 | (dsimp only; walk1) | (leave1; try dsimp only)))
  refine' ListComp_J (by assumption) ?hclos ?hcl ?hkind ?hnames ?hx ?h
  case hclos => exact rfl
  case hcl => decide
  case hkind => exact rfl
  case hnames => decide
  case hx => exact rfl
  case h =>
  repeat (first | (k_unfold; (try dsimp only)) | walk1 | (dsimp only; walk1) | (leave1; try dsimp only))
  rename (IsRange _ _ _ _ _ _ _ _) => hr5
  rename (News _ _ _ _) => N5
  rename (Fr _ _ _ _) => F5
  refine .inr ⟨_, 0, 6, _, _, _, 6, (123, tabObj tb) :: rest, rfl, F5, N5, hr5, by decide +kernel, by decide +kernel, by rw [sizeLine_eq]; decide, WJ s.gens ((123, tabObj tb) :: rest) x, .mk rfl rfl [] rfl rfl, ?turn, ?fin⟩
  case turn =>
    intro i v I oI C oC D9 m₂ h8 tk8 g8 d8 ys nw E' hi hv hJ hS hNs hmx F8 N8 off8 ne8 it8
    obtain ⟨rfl, rfl, l9, rfl, hl9⟩ := hJ
    obtain ⟨t9, rfl⟩ := hv
    rw [Int.zero_add] at hmx
    dsimp only [stG]
    repeat (first | (k_unfold; (try dsimp only)) | walk1 | (dsimp only; walk1) | (leave1; try dsimp only))
    refine ⟨_, _, _, _, _, (by assumption), (by assumption), off8, trivial, rfl, rfl, l9 ++ [(_, _)], sv_push, ?_⟩
    rw [List.map_append, hl9, List.range_succ, List.map_append]
    rfl
  case fin =>
    intro ys nw g hJ D9 h9 tk9 d9 hbD9 F9 N9 off9
    obtain ⟨rfl, rfl, ws, rfl, hws⟩ := hJ
    obtain ⟨ws6, wsok, wsnd, wsd⟩ := sufs_of hx6 hxs hws
    dsimp only [stG]
    repeat ((fail_if_success (with_reducible show wpAny _ _ (call (Value.ref 180) _) _ _ _)); (first | (k_unfold; (try dsimp only)) | walk1 | (dsimp only; walk1) | (leave1; try dsimp only)))
    rename (News _ _ _ _) => N10
    rename (Fr _ _ _ _) => F10
    refine' sorted_c _ _ _ _ _ _ _ _ _ _ _ _ _ _ _ _ _ _ _ _ _ ((D9, W.listOf (strValues ws).toArray (strValues ws).length) :: rest) tb D9 ws _ ?uB ?uF ?uX ?uT ?uk ?ud ?uu ?uN ?sr ?stb hb hC (.head _) wsok ws6 wsnd ?hQ
    case uB => k_asm
    case uF => k_asm
    case uX => k_in
    case uT => k_asm
    case uk => exact rfl
    case ud => ktr_room
    case uu => ktr_units
    case uN => exact news_swap N10
    case sr => exact List.forall_mem_cons.2 ⟨Ne.symm off9.1, r1⟩
    case stb => exact tabSt_mono htb fun p hp => .tail _ hp
    case hQ =>
    intro D10 l10 k10 tb2 new2 h10 tk10 g10 d10 F11 N11 lt10 pm10 so10 T10 c10 o10 B10
    repeat ((fail_if_success (with_reducible show wpAny _ _ (binaryOp _ _ _) _ _ _)); (first | (k_unfold; (try dsimp only)) | walk1 | (dsimp only; walk1) | (leave1; try dsimp only)))
    have hpl4 : pv.length = 4 := by have h9 := congrArg List.length hpv; rw [List.length_map] at h9; exact h9
    rename (Fr _ _ _ _) => F12
    rename (News _ _ _ _) => N12
    refine mul_list (items := (pairArgs pv).toArray) F12 N12 (N12.get (.tail _ (.tail _ (List.mem_append_right _ (.tail _ hS))))) (by decide) (by decide) ?hz ?hh
    case hz => rw [List.size_toArray, pairArgs_len, hpl4]; decide
    case hh =>
    intro h13 F13 N13
    have lt13 := fun (p : Addr × Obj) hp => Heap.lt_size (N12 p hp).1
    rw [fold5_arr hpl4] at N13
    obtain ⟨hv5, hn5⟩ := And.intro (fold5_pvs hpv) (fold5_ne hpv)
    have hl5 : (fold5 pv).length = 20 := by rw [fold5]; simp only [List.length_append, List.length_nil, hpl4]
    generalize fold5 pv = pv5 at N13 hv5 hn5 hl5
    obtain ⟨fl, efl, N13⟩ : ∃ fl : Nat, fl = _ ∧ News h₀ L h13 ((fl, W.listOf (pairArgs pv5).toArray 0) :: _) := ⟨_, rfl, N13⟩
    rw [← efl] at lt13 ⊢
    have hfl : @LT.lt Nat _ 123 fl := lt13 _ (.tail _ (.head _))
    clear efl lt13
    repeat ((fail_if_success (with_reducible show wpAny _ _ (call (Value.ref 187) _) _ _ _)); (first | (k_unfold; (try dsimp only)) | walk1 | (dsimp only; walk1) | (leave1; try dsimp only)))
    rename (News _ _ _ _) => N14
    refine' told_c _ _ _ _ _ _ _ _ _ _ _ _ _ _ _ _ _ _ _ _ _ ((fl, W.listOf (pairArgs pv5).toArray 0) :: (D10, W.listOf (strValues l10).toArray k10) :: (new2 ++ (D9, W.listOf (strValues ws).toArray (strValues ws).length) :: rest)) tb2 D10 l10 k10 mk im tm ?uB ?uF ?uX ?uT ?uk ?ud ?uu ?uN hmk ?sr ?stb B10 hC (.tail _ (.head _)) (words_perm pm10 wsok) ?hQ
    case uB => k_asm
    case uF => k_asm
    case uX => k_in
    case uT => k_asm
    case uk => exact rfl
    case ud => ktr_room
    case uu => ktr_units
    case uN => exact news_third N14
    case sr => exact List.forall_mem_cons.2 ⟨Nat.ne_of_gt hfl, List.forall_mem_cons.2 ⟨Nat.ne_of_gt (lt10 _ (.head _)), all_app o10 (List.forall_mem_cons.2 ⟨Ne.symm off9.1, r1⟩)⟩⟩
    case stb => exact tabSt_mono T10 fun p hp => .tail _ (.tail _ (List.mem_append_left _ hp))
    case hQ =>
    intro tb3 new3 t14 h14 tk14 g14 d14 F14 N15 T14 c14 o14 B14
    have mfl : (fl, W.listOf (pairArgs pv5).toArray 0) ∈ (123, tabObj tb3) :: (new3 ++ (fl, W.listOf (pairArgs pv5).toArray 0) :: (D10, W.listOf (strValues l10).toArray k10) :: (new2 ++ (D9, W.listOf (strValues ws).toArray (strValues ws).length) :: rest)) := .tail _ (List.mem_append_right _ (.head _))
    have mct : (L + 1, oc) ∈ (123, tabObj tb3) :: (new3 ++ (fl, W.listOf (pairArgs pv5).toArray 0) :: (D10, W.listOf (strValues l10).toArray k10) :: (new2 ++ (D9, W.listOf (strValues ws).toArray (strValues ws).length) :: rest)) := .tail _ (List.mem_append_right _ (.tail _ (.tail _ (List.mem_append_right _ (.tail _ hct)))))
    have mtb : (123, tabObj tb3) ∈ (123, tabObj tb3) :: (new3 ++ (fl, W.listOf (pairArgs pv5).toArray 0) :: (D10, W.listOf (strValues l10).toArray k10) :: (new2 ++ (D9, W.listOf (strValues ws).toArray (strValues ws).length) :: rest)) := .head _
    generalize (123, tabObj tb3) :: (new3 ++ (fl, W.listOf (pairArgs pv5).toArray 0) :: (D10, W.listOf (strValues l10).toArray k10) :: (new2 ++ (D9, W.listOf (strValues ws).toArray (strValues ws).length) :: rest)) = nw15 at N15 mfl mct mtb
    iterate 2 (first | (k_unfold; (try dsimp only)) | walk1 | (dsimp only; walk1) | (leave1; try dsimp only))
    refine' star_seq (ws := pairArgs pv5) (by assumption) (by assumption) mfl rfl rfl (.inl rfl) rfl ?sz9 ?sh9
    case sz9 => rw [List.size_toArray, pairArgs_len, hl5, sizeLine_eq]; decide
    case sh9 =>
    intro h15 F15 N16
    iterate 2 (first | (k_unfold; (try dsimp only)) | walk1 | (dsimp only; walk1) | (leave1; try dsimp only))
    rw [List.append_nil (pairArgs pv5)]
    have hxl := told_len (im := im) (words_perm pm10 wsok) hmk.len.2
    have hpx := hpl x mk im (l10.map fun p => p.1.cps.toList) hmk hx6 hxs (suf_perm pm10 wsd) so10
    generalize toldT im (l10.map fun p => p.1.cps.toList) = xx at hxl hpx ⊢
    rename (News _ _ _ _) => N17
    refine' replace_g _ _ _ _ _ _ _ _ _ _ _ _ _ _ _ _ _ _ _ _ _ nw15 pv5 xx t14 ?uB ?uF ?uX ?uT ?uk ?ud ?uu ?uN ?hne ?hln ?hsz ?hQ
    case uB => k_asm
    case uF => k_asm
    case uX => k_in
    case uT => k_asm
    case uk => exact rfl
    case ud => ktr_room
    case uu => ktr_units
    case uN => exact N17
    case hne => exact hn5
    case hln => rw [hl5]; decide
    case hsz =>
      intro k _
      refine Nat.le_trans (repl_len _ _ fun p hp => ?_) (Nat.le_trans hxl (by decide))
      refine fold_ok p ?_
      rw [← hv5]
      exact ((List.take_sublist k _).map _).mem hp
    case hQ =>
    intro t18 h18 tk18 F18 N18
    rw [hv5, hpx]
    repeat ((fail_if_success (with_reducible show wpAny _ _ (call (Value.ref 194) _) _ _ _)); (first | (k_unfold; (try dsimp only)) | walk1 | (dsimp only; walk1) | (leave1; try dsimp only)))
    rename (News _ _ _ _) => N19
    rename (Fr _ _ _ _) => F19
    have hR : (laidT 7 x im (Str.ofString "")).length ≤ 7812500 := laid_len (x := x) hmk.len.2 7 (Str.ofString "")
    refine' laid_c hx6 hmk.len.2 7 _ _ _ _ _ _ _ _ _ _ _ _ _ _ _ _ _ _ _ _ _ nw15 (Str.ofString "") _ _ _ ?uB ?uF ?uX ?uT ?uk ?ud ?uu ?uN ?ly ?ln ?hQ
    case uB => k_asm
    case uF => k_asm
    case uX => k_in
    case uT => k_asm
    case uk => exact rfl
    case ud => ktr_room
    case uu => ktr_units
    case uN => exact N19
    case ly => rw [show (Str.ofString "").length = 0 from by decide +kernel]; exact Nat.zero_le _
    case ln => rw [show (Str.ofString "").length = 0 from by decide +kernel]
    case hQ =>
    intro t20 h20 tk20 d20 F20 N20
    generalize laidT 7 x im (Str.ofString "") = R at *
    have z1 : (Str.ofString "<r>").length ≤ 3 := by decide +kernel
    have z2 : (Str.ofString "</r>").length ≤ 4 := by decide +kernel
    repeat (first | (k_unfold; (try dsimp only)) | walk1 | (dsimp only; walk1) | (leave1; try dsimp only))
    rw [beq_self_eq_true]
    exact hQ _ nw15 _ _ _ _ (by assumption) (by assumption) B14 ⟨_, mtb⟩
end
theorem topOff15 : True := by
  w_top off
  trivial
section
local macro_rules | `(tactic| walk_at "ZZ") => `(tactic| skip)

open PySem PySem.W PyProof.Rows PySem.Calls PySem.Spec
def seamT (c : Nat) : Str := Str.ofString "</" ++ sg c ++ Str.ofString "><" ++ sg c ++ Str.ofString ">"
theorem seam_take : [97, 98, 99, 100].map (fun c => (seamT c, Str.ofString "")) = seamPairs := by decide +kernel
theorem pairArgs_snoc (pv : List PV) (p : PV) : pairArgs pv ++ [Value.str p.1 p.2.2.1, Value.str p.2.1 p.2.2.2] = pairArgs (pv ++ [p]) := by rw [pairArgs_app]; rfl
theorem seam_step {j c : Nat} {pv : List PV} {t u : Tok} (h : (Str.ofString "abcd").cps[j]? = some c) (hp : pvs pv = ([97, 98, 99, 100].take j).map fun c => (seamT c, Str.ofString "")) : pvs (pv ++ [(seamT c, Str.ofString "", t, u)]) = ([97, 98, 99, 100].take (j + 1)).map fun c => (seamT c, Str.ofString "") := by
  have e : (Str.ofString "abcd").cps = #[97, 98, 99, 100] := by decide +kernel
  rw [e, ← Array.getElem?_toList] at h
  rw [List.take_add_one, h, pvs, List.map_append, show pv.map (fun p => (p.1, p.2.1)) = _ from hp, List.map_append]
  rfl
inductive BJ (g0 : Gens) (base : List (Addr × Obj)) (sl : Nat) (m0 : Str → Option Value) (j : Nat) (m₁ : Str → Option Value) (nw : List (Addr × Obj)) (g : Gens) : Prop
  | mk (hg : g = g0) (pv : List PV) (k : Nat) (hn : nw = (sl, listOf (pairArgs pv).toArray k) :: base) (hp : pvs pv = ([97, 98, 99, 100].take j).map fun c => (seamT c, Str.ofString "")) (ms : m₁ (Str.ofString "seams") = some (.ref sl)) (hm : m₁ (Str.ofString "mark") = m0 (Str.ofString "mark")) (hi : m₁ (Str.ofString "image") = m0 (Str.ofString "image")) : BJ g0 base sl m0 j m₁ nw g
set_option maxHeartbeats 4000000 in
theorem lawB (w : World) (h₀ : Heap) (L fa : Nat) (cd : Value) (m mg mb : Str → Option Value) (mean : ExcName → Option Value) (s : Shared) (Q : Flow → Shared → Prop) (E : Value → Shared → Prop)
    (rest : List (Addr × Obj)) (tb : Array Value) (x : Str) (tx tm ti : Tok) (mk im : Str) (oc : Obj)
    (hE : PassesOwn (model P3 w) (callerA.deeper (envOfC (Str.ofString "law") lawScope L fa cd)) (envOfC (Str.ofString "law") lawScope L fa cd) E) (B : Below callerA h₀ [] h₀) (F : Fr h₀ L s.heap m) (X : (hd1.heap_39 w.params).In h₀) (T : Top topProg lo3 mean mg mb h₀) (hC : CodeHd h₀ 125 123) (hb : AllBare s.gens)
    (N : News h₀ L s.heap ((123, tabObj tb) :: rest))
    (r1 : ∀ p ∈ rest, p.1 ≠ 123) (htb : TabSt lamPos lamQ tb rest) (hpl : PlainLaw) (hct : (L + 1, oc) ∈ rest) (hoc : oc.data = .cell (some (.str x tx))) (hmk : Mark mk im) (hx6 : x.cps.size = 6) (hxs : ∀ c ∈ x.cps.toList, SignOk c)
    (mmk : m (Str.ofString "mark") = some (.str mk tm)) (mim : m (Str.ofString "image") = some (.str im ti))
    (hQ : ∀ (m' : Str → Option Value) (news' : List (Addr × Obj)) h' tk' gens' d', Fr h₀ L h' m' → News h₀ L h' news' → AllBare gens' → (∃ tb', (123, tabObj tb') ∈ news') → Q (.ret (.bool true)) { s with heap := h', toks := tk', gens := gens', drawn := d' }) :
    wpAny (model P3 w) (callerA.deeper (envOfC (Str.ofString "law") lawScope L fa cd)) (execs (lawFrom 5) (envOfC (Str.ofString "law") lawScope L fa cd)) Q E s := by
  generalize hl : lawFrom 5 = l
  conv at hl => lhs; whnf
  generalize hsc : lawScope = sc
  conv at hsc => lhs; whnf
  subst hl
  subst hsc
  have hct1 : (L + 1, oc) ∈ (123, tabObj tb) :: rest := .tail _ hct
  repeat ((fail_if_success (with_reducible show wpAny _ _ (exec (Stmt.For _ _ _ _ _) _) _ _ _)); (first | (k_unfold; (try dsimp only)) | walk1 | (dsimp only; walk1) | (leave1; try dsimp only)))
  rename (Fr _ _ _ _) => F5
  rename (News _ _ _ _) => N5
  rename (∀ p : Addr × Obj, p ∈ _ → p.1 < _) => l5
  obtain ⟨sl, esl, N5, l5⟩ : ∃ sl : Nat, sl = _ ∧ News h₀ L _ ((sl, W.listOf #[] 0) :: (123, tabObj tb) :: rest) ∧ ∀ p ∈ (123, tabObj tb) :: rest, @LT.lt Nat _ p.1 sl := ⟨_, rfl, N5, l5⟩
  rw [← esl] at F5
  clear esl
  have hsl : @LT.lt Nat _ 123 sl := l5 _ (.head _)
  refine' For_S F5 rfl rfl (by exact rfl) ?_ (hE := hE)
  iterate 1 (first | (k_unfold; (try dsimp only)) | walk1 | (dsimp only; walk1) | (leave1; try dsimp only))
  refine .mk (Str.ofString "abcd") _ _ _ rfl F5 N5 ⟨(fun j m₁ nw g => BJ s.gens ((123, tabObj tb) :: rest) sl m j m₁ nw g), ?j0, ?turn, ?done⟩
  case j0 => exact .mk rfl [] 0 rfl rfl (if_pos rfl) (if_neg (by decide +kernel)) (if_neg (by decide +kernel))
  case turn =>
    intro j v2 I oI m₂ h8 tk8 g8 d8 nw8 hj hv hJ _ F8 N8 off8 it8
    obtain ⟨rfl, pv, k, rfl, hpv, ms, hm, hi⟩ := hJ
    obtain ⟨c, u2, hc, rfl⟩ := hv
    have hj4 : j < 4 := hj
    have hpl : pv.length ≤ 4 := by
      have h9 := congrArg List.length hpv
      rw [List.length_map, List.length_map, List.length_take] at h9
      rw [h9]
      exact Nat.min_le_right _ _
    have z1 : (Str.ofString "</").length ≤ 2 := by decide +kernel
    have z2 : (Str.ofString "><").length ≤ 2 := by decide +kernel
    have z3 : (Str.ofString ">").length ≤ 1 := by decide +kernel
    have hcl : (sg c).length ≤ 1 := Nat.le_refl 1
    dsimp only [stG]
    repeat ((fail_if_success (with_reducible show wpAny _ _ (inplaceOp _ _ _) _ _ _)); (first | (k_unfold; (try dsimp only)) | walk1 | (dsimp only; walk1) | (leave1; try dsimp only)))
    rename (Fr _ _ _ _) => F9
    rename (News _ _ _ _) => N9
    rename (∀ p : Addr × Obj, p ∈ _ → p.1 < _) => l9
    refine' iadd_led (vs := pairArgs pv) (ws := [Value.str (seamT c) _, Value.str (Str.ofString "") _]) F9 N9 (.head _) ?iU (by simp) ?iz ?ih
    case iU => exact .tail (Nat.ne_of_gt (l9 _ (.tail _ (.head _)))) (.tail (Ne.symm off8.1) (.head fun p hp => Nat.ne_of_lt (l5 p hp)))
    case iz => rw [pairArgs_len]; simp only [List.length_cons, List.length_nil]; lia
    case ih =>
    intro h12 F12 N12
    rw [pairArgs_snoc pv (seamT c, Str.ofString "", _, _)] at N12
    repeat (first | (k_unfold; (try dsimp only)) | walk1 | (dsimp only; walk1) | (leave1; try dsimp only))
    refine' ⟨_, _, _, _, _, (sl, listOf (pairArgs (pv ++ [(seamT c, Str.ofString "", _, _)])).toArray (k + 1)) :: (123, tabObj tb) :: rest, ?fF, ?fN, off8, trivial, ?fJ⟩
    case fF => assumption
    case fN => exact newsSub (by assumption) fun p hp => .tail _ hp
    case fJ => exact .mk rfl _ (k + 1) rfl (seam_step hc hpv) (if_pos rfl) (Eq.trans (if_neg (by decide +kernel)) (Eq.trans (if_neg (by decide +kernel)) hm)) (Eq.trans (if_neg (by decide +kernel)) (Eq.trans (if_neg (by decide +kernel)) hi))
  case done =>
    intro m₁ nw h6 tk6 g6 d6 hJ F6 N6
    obtain ⟨rfl, pv, k, rfl, hpv, ms, hm, hi⟩ := hJ
    have e4 : (Str.ofString "abcd").cps.size = 4 := by decide +kernel
    rw [e4] at hpv
    dsimp only [stG]
    refine lawC w h₀ L fa cd m₁ mg mb mean _ Q E ((sl, listOf (pairArgs pv).toArray k) :: rest) tb sl k pv x tx tm ti mk im oc hE B F6 X T hC hb ?cN ?cr ?ct hpl (.head _) (hpv.trans seam_take) (.tail _ hct) hoc hmk hx6 hxs ms (hm.trans mmk) (hi.trans mim) hQ
    case cN => exact news_swap N6
    case cr => exact List.forall_mem_cons.2 ⟨Nat.ne_of_gt hsl, r1⟩
    case ct => exact tabSt_mono htb fun p hp => .tail _ hp
end
theorem topOff16 : True := by
  w_top off
  trivial
section
open PySem PySem.W PyProof.Rows PySem.Calls PySem.Spec
theorem item_abcd {n : Int} (h : 0 ≤ n) : Txt.item (Str.ofString "abcd") (n.fmod 4) = sg (97 + (n.toNat % 4)) := by
  have e : n.fmod 4 = ((n.toNat % 4 : Nat) : Int) := by
    rw [Int.fmod_eq_emod_of_nonneg _ (by decide)]
    walk_at "AR"
  have hlt : n.toNat % 4 < 4 := Nat.mod_lt _ (by decide)
  rw [e]
  generalize n.toNat % 4 = k at hlt
  have : k = 0 ∨ k = 1 ∨ k = 2 ∨ k = 3 := by walk_at "AR"
  rcases this with rfl | rfl | rfl | rfl <;> decide +kernel
def sgn (c : Int) : Nat := 97 + (c.toNat % 4)
def xT (cs : List Int) : Str := catS (cs.map fun c => sg (sgn c))
theorem xT_cps : ∀ cs : List Int, (xT cs).cps.toList = cs.map sgn
  | [] => by decide +kernel
  | c :: r => by
    rw [xT, List.map_cons, catS, cps_app, Array.toList_append, List.map_cons]
    have h := xT_cps r
    rw [xT] at h
    rw [h]
    rfl
theorem xT_ok {cs : List Int} : ∀ c ∈ (xT cs).cps.toList, SignOk c := fun c h => by
  rw [xT_cps] at h
  obtain ⟨z, _, rfl⟩ := List.mem_map.mp h
  have : z.toNat % 4 < 4 := Nat.mod_lt _ (by decide)
  unfold SignOk sgn
  walk_at "AR"
def markL : List Str := [Str.ofString "&", Str.ofString "<", Str.ofString ">", Str.ofString "\r", Str.ofString "\"", Str.ofString "."]
def imgL : List Str := [Str.ofString "&amp;", Str.ofString "&lt;", Str.ofString "&gt;", Str.ofString "&#xD;", Str.ofString "\"", Str.ofString "."]
theorem six {k : Nat} (h : k < 6) : k = 0 ∨ k = 1 ∨ k = 2 ∨ k = 3 ∨ k = 4 ∨ k = 5 := by walk_at "AR"
theorem mark_at {k : Nat} (h : k < 6) (a b c d e f : Tok) : ∃ t, (#[Value.str (Str.ofString "&") a, .str (Str.ofString "<") b, .str (Str.ofString ">") c, .str (Str.ofString "\r") d, .str (Str.ofString "\"") e, .str (Str.ofString ".") f] : Array Value)[k]? = some (.str (markL.getD k Str.empty) t) := by
  rcases six h with rfl | rfl | rfl | rfl | rfl | rfl <;> exact ⟨_, rfl⟩
theorem img_at {k : Nat} (h : k < 6) (a b c d e f : Tok) : ∃ t, (#[Value.str (Str.ofString "&amp;") a, .str (Str.ofString "&lt;") b, .str (Str.ofString "&gt;") c, .str (Str.ofString "&#xD;") d, .str (Str.ofString "\"") e, .str (Str.ofString ".") f] : Array Value)[k]? = some (.str (imgL.getD k Str.empty) t) := by
  rcases six h with rfl | rfl | rfl | rfl | rfl | rfl <;> exact ⟨_, rfl⟩
theorem mark_ok {k : Nat} (h : k < 6) : Mark (markL.getD k Str.empty) (imgL.getD k Str.empty) := by
  rcases six h with rfl | rfl | rfl | rfl | rfl | rfl
  · exact .amp
  · exact .lt
  · exact .gt
  · exact .cr
  · exact .quot
  · exact .dot
theorem fmod6 (z : Int) : ∃ k : Nat, k < 6 ∧ z.fmod 6 = (k : Int) := by
  have h1 : 0 ≤ z.fmod 6 := Int.fmod_nonneg_of_pos z (by decide)
  have h2 : z.fmod 6 < 6 := Int.fmod_lt_of_pos z (by decide)
  exact ⟨(z.fmod 6).toNat, by walk_at "AR", (Int.toNat_of_nonneg h1).symm⟩
inductive XJ (g0 : Gens) (base : List (Addr × Obj)) (cs : List Int) (i : Nat) (ys : List Value) (nw : List (Addr × Obj)) (g : Gens) : Prop
  | mk (hg : g = g0) (hn : nw = base) (l : List (Str × Tok)) (hy : ys = strValues l) (hl : l.map (·.1) = (cs.take i).map fun c => sg (sgn c)) : XJ g0 base cs i ys nw g
inductive QJ (g0 : Gens) (base : List (Addr × Obj)) (cs : List Int) (i : Nat) (ys : List Value) (nw : List (Addr × Obj)) (g : Gens) : Prop
  | mk (hg : g = g0) (hn : nw = base) (hI : IntsAre ys ((cs.take i).map fun c => c.fdiv 4)) : QJ g0 base cs i ys nw g
set_option maxHeartbeats 4000000 in
theorem lawA (w : World) (h₀ : Heap) (L fa : Nat) (cd : Value) (m mg mb : Str → Option Value) (mean : ExcName → Option Value) (s : Shared) (Q : Flow → Shared → Prop) (E : Value → Shared → Prop)
    (D kc : Nat) (ws : List Value) (cs : List Int) (oc : Obj)
    (hE : PassesOwn (model P3 w) (callerA.deeper (envOfC (Str.ofString "law") lawScope L fa cd)) (envOfC (Str.ofString "law") lawScope L fa cd) E) (B : Below callerA h₀ [] h₀) (F : Fr h₀ L s.heap m) (X : (hd1.heap_39 w.params).In h₀) (T : Top topProg lo3 mean mg mb h₀) (hC : CodeHd h₀ 125 123) (hb : AllBare s.gens)
    (N : News h₀ L s.heap ((D, listOf ws.toArray kc) :: (L + 1, oc) :: (123, tabObj #[]) :: []))
    (hpl : PlainLaw) (hI : IntsAre ws cs) (h6 : cs.length = 6) (h0 : ∀ c ∈ cs, 0 ≤ c ∧ c < 1000000) (lD : @LT.lt Nat _ (L + 1) D) (l130 : @LT.lt Nat _ 123 L) (hoc : oc.data = .cell none) (mc : m (Str.ofString "cells") = some (.ref D))
    (hQ : ∀ (m' : Str → Option Value) (news' : List (Addr × Obj)) h' tk' gens' d', Fr h₀ L h' m' → News h₀ L h' news' → AllBare gens' → (∃ tb', (123, tabObj tb') ∈ news') → Q (.ret (.bool true)) { s with heap := h', toks := tk', gens := gens', drawn := d' }) :
    wpAny (model P3 w) (callerA.deeper (envOfC (Str.ofString "law") lawScope L fa cd)) (execs (lawFrom 1) (envOfC (Str.ofString "law") lawScope L fa cd)) Q E s := by
  generalize hl : lawFrom 1 = l
  conv at hl => lhs; whnf
  generalize hsc : lawScope = sc
  conv at hsc => lhs; whnf
  subst hl
  subst hsc
  have lD3 : @LT.lt Nat _ 123 D := by walk_at "AR"
  repeat ((fail_if_success (with_reducible show wpAny _ _ (eval (Expr.ListComp _ _ _ _) _) _ _ _)); (first | (k_unfold; (try dsimp only)) | walk1 | (dsimp only; walk1) | (leave1; try dsimp only)))
  refine' ListComp_J (by assumption) ?hclos ?hcl ?hkind ?hnames ?hx ?h
  case hclos => exact rfl
  case hcl => decide
  case hkind => exact rfl
  case hnames => decide
  case hx => exact rfl
  case h =>
  iterate 1 (first | (k_unfold; (try dsimp only)) | walk1 | (dsimp only; walk1) | (leave1; try dsimp only))
  rename (News _ _ _ _) => N5
  rename (Fr _ _ _ _) => F5
  refine .inl ⟨D, ws.toArray, _, _, rfl, F5, N5, .head _, by rw [List.size_toArray, hI.length, h6, sizeLine_eq]; decide, XJ s.gens ((D, listOf ws.toArray kc) :: (L + 1, oc) :: (123, tabObj #[]) :: []) cs, .mk rfl rfl [] rfl rfl, ?turn, ?fin⟩
  case turn =>
    intro i v I oI C oC D9 m₂ h8 tk8 g8 d8 ys nw E' hi hv hJ hS hNs hmx F8 N8 off8 ne8 it8
    obtain ⟨rfl, rfl, l9, rfl, hl9⟩ := hJ
    obtain ⟨n9, t9, rfl, hn9⟩ := hI.at i v (by simpa using hv)
    have hb9 := h0 n9 (List.mem_of_getElem? hn9)
    dsimp only [stG]
    repeat (first | (k_unfold; (try dsimp only)) | walk1 | (dsimp only; walk1) | (leave1; try dsimp only))
    rw [item_abcd hb9.1]
    refine ⟨_, _, _, _, _, F8, N8, off8, hS, rfl, rfl, l9 ++ [(_, _)], sv_push, ?_⟩
    rw [List.map_append, hl9, take_one hn9, List.map_append]
    rfl
  case fin =>
    intro ys nw g hJ D9 h9 tk9 d9 hbD9 F9 N9 off9
    obtain ⟨rfl, rfl, l9, rfl, hl9⟩ := hJ
    rw [show ws.toArray.size = cs.length from by rw [List.size_toArray, hI.length], List.take_length] at hl9
    dsimp only [stG]
    repeat ((fail_if_success (with_reducible show wpAny _ _ (call (Value.builtin "str.join") _) _ _ _)); (first | (k_unfold; (try dsimp only)) | walk1 | (dsimp only; walk1) | (leave1; try dsimp only)))
    have hxc := xT_cps cs
    have hxl : (xT cs).length = 6 := by rw [← h6]; show (xT cs).cps.size = _; rw [← Array.length_toList, hxc, List.length_map]
    refine join_led' (l := l9) (by assumption) (.head _) ?hz (x := xT cs) ?hx ?hg ?hh
    case hz => rw [fold_len', hl9]; exact decide_eq_false (by rw [sizeLine_eq]; show ¬ 0 + (xT cs).length > _; walk_at "AR")
    case hx => rw [glued_cat, hl9]; rfl
    case hg => rw [sizeLine_eq]; walk_at "AR"
    case hh =>
    intro uj tkj _
    repeat ((fail_if_success (with_reducible show wpAny _ _ (storeName _ _ _) _ _ _)); (first | (k_unfold; (try dsimp only)) | walk1 | (dsimp only; walk1) | (leave1; try dsimp only)))
    refine storeN_cell (pre := [(D9, LCg.lst (strValues l9)), (D, listOf ws.toArray kc)]) (post := [(123, tabObj #[])]) (cc := L + 1) F9 N9 rfl rfl rfl hoc ?o1 ?o2 ?sf
    case o1 => exact List.forall_mem_cons.2 ⟨Nat.ne_of_gt (hbD9 _ (.tail _ (.head _))), List.forall_mem_cons.2 ⟨Nat.ne_of_gt lD, fun p h => absurd h List.not_mem_nil⟩⟩
    case o2 => exact List.forall_mem_cons.2 ⟨Nat.ne_of_lt (Nat.lt_succ_of_lt l130), fun p h => absurd h List.not_mem_nil⟩
    case sf =>
    intro h3 oc' hoc' F3 N3
    repeat ((fail_if_success (with_reducible show wpAny _ _ (eval (Expr.ListComp _ _ _ _) _) _ _ _)); (first | (k_unfold; (try dsimp only)) | walk1 | (dsimp only; walk1) | (leave1; try dsimp only)))
    refine' ListComp_J (by assumption) ?hclos ?hcl ?hkind ?hnames ?hx ?h
    case hclos => exact rfl
    case hcl => decide
    case hkind => exact rfl
    case hnames => decide
    case hx => exact rfl
    case h =>
    iterate 1 (first | (k_unfold; (try dsimp only)) | walk1 | (dsimp only; walk1) | (leave1; try dsimp only))
    rename (News _ _ _ _) => N6
    rename (Fr _ _ _ _) => F6
    refine .inl ⟨D, ws.toArray, _, _, rfl, F6, N6, .tail _ (.head _), by rw [List.size_toArray, hI.length, h6, sizeLine_eq]; decide, QJ s.gens [(D9, LCg.lst (strValues l9)), (D, listOf ws.toArray kc), (L + 1, oc'), (123, tabObj #[])] cs, .mk rfl rfl .nil, ?turn2, ?fin2⟩
    case turn2 =>
      intro i v I oI C oC D9 m₂ h8 tk8 g8 d8 ys nw E' hi hv hJ hS hNs hmx F8 N8 off8 ne8 it8
      obtain ⟨rfl, rfl, hys⟩ := hJ
      obtain ⟨n9, t9, rfl, hn9⟩ := hI.at i v (by simpa using hv)
      have hb9 := h0 n9 (List.mem_of_getElem? hn9)
      dsimp only [stG]
      repeat (first | (k_unfold; (try dsimp only)) | walk1 | (dsimp only; walk1) | (leave1; try dsimp only))
      refine ⟨_, _, _, _, _, F8, N8, off8, hS, rfl, rfl, ?_⟩
      rw [take_one hn9, List.map_append]
      exact hys.append (.cons _ _ .nil)
    case fin2 =>
      intro ys nw g hJ D7 h7 tk7 d7 hbD7 F7 N7 off7
      obtain ⟨rfl, rfl, hys⟩ := hJ
      rw [show ws.toArray.size = cs.length from by rw [List.size_toArray, hI.length], List.take_length] at hys
      dsimp only [stG]
      repeat ((fail_if_success (with_reducible show wpAny _ _ (storeName _ _ _) _ _ _)); (first | (k_unfold; (try dsimp only)) | walk1 | (dsimp only; walk1) | (leave1; try dsimp only)))
      obtain ⟨k, hk, ek⟩ := fmod6 (cs.map fun c => c.fdiv 4).sum
      rw [ek]
      repeat ((fail_if_success (with_reducible show wpAny _ _ (subscriptTail _ _ _ _) _ _ _)); (first | (k_unfold; (try dsimp only)) | walk1 | (dsimp only; walk1) | (leave1; try dsimp only)))
      rename (News _ _ _ _) => N8
      obtain ⟨tm, hm8⟩ := mark_at hk _ _ _ _ _ _
      refine' itemAt N8 (.head _) hm8 (by walk_at "AR") ?_ ?hs
      case hs => with_unfolding_all rfl
      iterate 1 (first | (k_unfold; (try dsimp only)) | walk1 | (dsimp only; walk1) | (leave1; try dsimp only))
      repeat ((fail_if_success (with_reducible show wpAny _ _ (subscriptTail _ _ _ _) _ _ _)); (first | (k_unfold; (try dsimp only)) | walk1 | (dsimp only; walk1) | (leave1; try dsimp only)))
      rename (News _ _ _ _) => N8b
      obtain ⟨ti, hi8⟩ := img_at hk _ _ _ _ _ _
      refine' itemAt N8b (.head _) hi8 (by walk_at "AR") ?_ ?hs
      case hs => with_unfolding_all rfl
      repeat ((fail_if_success (with_reducible show wpAny _ _ (execs (Stmt.Assign [Expr.Name (Str.ofString "seams") _] _ _ :: _) _) _ _ _)); (first | (k_unfold; (try dsimp only)) | walk1 | (dsimp only; walk1) | (leave1; try dsimp only)))
      rename (News _ _ _ _) => N9c
      rename (Fr _ _ _ _) => F9c
      refine lawB w h₀ L fa cd _ mg mb mean _ Q E [(L + 1, oc')] #[] (xT cs) uj tm ti (markL.getD k Str.empty) (imgL.getD k Str.empty) oc' hE B F9c X T hC ?cb ?cN ?cr (.inl rfl) hpl (.head _) hoc' (mark_ok hk) hxl xT_ok (Eq.trans (if_neg (by decide +kernel)) (if_pos rfl)) (if_pos rfl) hQ
      case cb => exact hb
      case cN =>
        refine newsSub N9c fun p hp => ?_
        rcases List.mem_cons.mp hp with rfl | hp
        · exact .tail _ (.tail _ (.tail _ (.tail _ (.tail _ (.tail _ (.head _))))))
        · rw [List.mem_singleton.mp hp]
          exact .tail _ (.tail _ (.tail _ (.tail _ (.tail _ (.head _)))))
      case cr => exact fun p hp => by rw [List.mem_singleton.mp hp]; exact Nat.ne_of_gt (Nat.lt_succ_of_lt l130)
end
end
theorem topOff17 : True := by
  w_top off
  trivial
section
open PySem PySem.W PyProof.Rows
theorem cells_ok (w : List Int) : ((List.map (fun k' : Int => k'.fmod (10 ^ Int.toNat 6)) (List.take 6 w) ++ [4, 1, 8, 0, 5, 10]).take 6).length = 6 ∧ ∀ c ∈ (List.map (fun k' : Int => k'.fmod (10 ^ Int.toNat 6)) (List.take 6 w) ++ [4, 1, 8, 0, 5, 10]).take 6, 0 ≤ c ∧ c < 1000000 := by
  refine ⟨?_, fun c hc => ?_⟩
  · rw [List.length_take, List.length_append]; simp only [List.length_cons, List.length_nil]; lia
  · have h := List.mem_of_mem_take hc
    rcases List.mem_append.mp h with h | h
    · obtain ⟨x, _, rfl⟩ := List.mem_map.mp h
      exact ⟨Int.fmod_nonneg_of_pos x (by decide), Int.fmod_lt_of_pos x (by decide)⟩
    · simp only [List.mem_cons, List.not_mem_nil, or_false] at h
      lia
def EndB (tabs : List (Addr × Addr)) (s₁ : Shared) (r : Result) (s' : Shared) : Prop :=
  (r = .ok (.ret (.bool true)) ∧ (∀ b o, (ghostOf s₁.heap tabs).get? b = some o → s'.heap.get? b = some o) ∧ s'.os = s₁.os ∧ AllBare s'.gens) ∧ GrownAll tabs s'.heap
theorem post_true {M : Model} {A : Around} {cd : Code} {s s₁ : Shared} {cw : ClaimW} {cl : Str → Option Addr} {mean : ExcName → Option Value} {args : List WData} {tabs : List (Addr × Addr)} (hT : TabsAt tabs s₁.heap) (hr : ∀ a x, cw.raises a x = false) (hp : cw.post args (.bool true) args = true)
    (h : codeAny M A cd (EndB tabs s₁) s) : codeAny M A cd (GoodWG cw cl mean args s₁) s :=
  codeAny_mono h fun r s' ⟨⟨hres, hk, hos, hg⟩, hgr⟩ => by
    have keep : ∀ b o, b ∉ tabs.map (·.2) → s₁.heap.get? b = some o → s'.heap.get? b = some o := fun b o hb e => hk b o (ghost_ne e hb)
    have grown : ∀ b o, b ∈ tabs.map (·.2) → s₁.heap.get? b = some o → isCodeTable s₁.heap b ∧ o = tabObj #[] ∧ ∃ ps, s'.heap.get? b = some (tabObj ps) := fun b o hb e => by
      obtain ⟨q, hq, rfl⟩ := List.mem_map.mp hb
      have e2 := (hT q hq).2
      rw [e] at e2
      exact ⟨((hT q hq).1.tab (hT q hq).2).isCodeTable, Option.some.inj e2, hgr.get q hq⟩
    refine ⟨.inl ⟨_, _, [], hres, hr args, ReadsW.bool true, hp, fun _ => ⟨List.nodup_nil, fun a ha => absurd ha List.not_mem_nil⟩⟩, ⟨fun b o e => ?_, fun b o e => ?_⟩, hos, hg⟩
    · by_cases hb : b ∈ tabs.map (·.2)
      · obtain ⟨ht, rfl, ps, hP⟩ := grown b o hb e
        exact .inr (.inl ⟨ht, rfl, #[], ps, rfl, by rw [Array.empty_append]; exact hP⟩)
      · exact .inl (keep b o hb e)
    · by_cases hb : b ∈ tabs.map (·.2)
      · obtain ⟨_, _, ps, hP⟩ := grown b o hb e
        exact ⟨_, hP⟩
      · exact ⟨o, keep b o hb e⟩
section
variable {prog : Program} {w : World} {A : Around} {E : Value → Shared → Prop} {s : Shared} {h₀ : Heap} {L : Addr} {m : Str → Option Value} {news : List (Addr × Obj)}
theorem slice_listT {value slice : PySem.Expr} {l : Addr} {items : Array Value} {vl vu : Value} {lo hi : Option Int} {Q : Value → Shared → Prop}
    (F : Fr h₀ L s.heap m) (N : News h₀ L s.heap news) (hl : s.heap.IsList l items) (pl : IsPart vl lo) (pu : IsPart vu hi)
    (h : ∀ D h', Fr h₀ L h' m → News h₀ L h' ((D, listOf (slicePick items lo hi none) 0) :: news) → (∀ p ∈ news, p.1 < D) → Q (.ref D) { s with heap := h' })
    (hs : subscripted slice false (.ref l) (.ref s.heap.objs.size) = operate [.ref s.heap.objs.size, .ref l] (getItem (.ref l) (.ref s.heap.objs.size)))
    (hsz : items.size ≤ sizeLine) :
    wpAny (model prog w) A (subscriptTail value slice (.ref l) (.ref s.heap.objs.size)) Q E { s with heap := s.heap.push { cls := .type "slice", data := .fields #[vl, vu, .none] } } := by
  refine tail_any (Heap.IsList.typeIs (s := { s with heap := s.heap.push { cls := .type "slice", data := .fields #[vl, vu, .none] } }) (hl.push _)) list_getitem_lookup
    (wpAny_getItem_list_slice (hl.push _) (Heap.IsSliceOf.new ..) pl pu .none (by simp) ?_ hsz) hs
  have N1 := News.push (F.push { cls := .type "slice", data := .fields #[vl, vu, .none] }) (N.grown fun _ _ e => Heap.get?_push_of_some _ e) { cls := .type "list", data := .seq (slicePick items lo hi none) }
  rw [Heap.size_push] at N1
  show Q (.ref (s.heap.push _).objs.size) _
  rw [Heap.size_push]
  exact h _ _ ((F.push _).push _) N1 fun p hp => Nat.lt_succ_of_lt (Heap.lt_size (N p hp).1)
end
local macro_rules | `(tactic| k_go0) => `(tactic| (
  k_fill
  intro w s₀ s₁ mg mb G Y fa o pm cd doc dV kV ho hd hcd hD hmg hg args vals as hpre hlay hrd hwl hlo
  have KX := km_in_of Y
  km_tabs Y
  have X := (Ground.X G).1
  have V := (Ground.X G).2
  refine Ground.open G ?_
  intro T B D TE TW
  try (refine guard_noD D (by decide +kernel) ?_; clear D)
  km_lay T hmg ho hd cd
  clear hmg
  wrow_args hpre hlay hrd hwl hlo
  first | refine callC_kw (enter_call ?_) | refine enter_call ?_
  w_top on
  (refine post_true (by assumption) (fun _ _ => rfl) (by kc_post) ?_)
  w_call any ho hd hcd hD T F
  clear hd
  kn_ghosts F T
  k_drop
  skip))
set_option maxHeartbeats 20000000 in
theorem law_of_plain (hpl : PlainLaw) : PySem.Challenge.rw_pg0301_01.Holds := hd1 (by
  k_go0
  all_goals (try k_fold)
  iterate 44 (first | (k_unfold; (try dsimp only)) | walk1 | (dsimp only; walk1) | (leave1; try dsimp only))
  rename (News _ _ _ _) => N1
  rename (Fr _ _ _ _) => F1
  rename (IntsAre _ (_ ++ [4, 1, 8, 0, 5, 10])) => hI1
  refine' slice_listT (hi := some 6) F1 N1 ?ql9 ?qp9 ?qq9 ?qg9 ?qs9 ?qz9
  case ql9 => exact News.isList N1 (.head _)
  case qp9 => exact IsPart.none
  case qq9 => exact IsPart.int _ _
  case qs9 => with_unfolding_all rfl
  case qz9 =>
    rw [List.size_toArray, hI1.length, List.length_append, List.length_map, List.length_take, sizeLine_eq]
    simp only [List.length_cons, List.length_nil]; lia
  case qg9 =>
  intro D2 h2 F2 N2 l2
  have hI2 := kmk_upto (y := 6) hI1 (by decide)
  rw [← Array.toArray_toList (xs := slicePick _ _ _ _)] at N2
  iterate 2 (first | (k_unfold; (try dsimp only)) | walk1 | (dsimp only; walk1) | (leave1; try dsimp only))
  rename (News _ _ _ _) => N3
  rename (Fr _ _ _ _) => F3
  rename (_ = Data.cell _) => hcA
  refine' lawA _ _ _ _ _ _ _ _ _ _ _ _ D2 0 _ _ _ ?hE9 ?hB9 F3 ?hX9 ?hT9 ?hC9 ?hb9 ?hN9 hpl hI2 (cells_ok _).1 (cells_ok _).2 ?lD9 ?l130 hcA ?mc9 ?hQ9
  case hE9 => passes_own
  case hB9 => k_asm
  case hX9 => k_in
  case hT9 => k_asm
  case hC9 => k_asm
  case hb9 => exact AllBare.of_eq (by assumption)
  case hN9 =>
    intro p hp
    refine N3 p ?_
    simp only [List.mem_cons, List.not_mem_nil, or_false] at hp ⊢
    rcases hp with h | h | h <;> simp [h]
  case lD9 => exact l2 (_, _) (by repeat (first | exact List.Mem.head _ | apply List.Mem.tail))
  case l130 => show @LT.lt Nat _ _ _; lia
  case mc9 => exact if_pos rfl
  case hQ9 =>
  intro m9 news9 h9 tk9 gens9 d9 F9 N9 B9 T9
  obtain ⟨tb9, hm9⟩ := T9
  exact ⟨⟨rfl, fun b o e => F9.keep b o e, rfl, B9⟩, ⟨tb9, (N9 _ hm9).1⟩, trivial⟩)
end
section
open PySem
inductive Tk where
  | op (c : Nat) | cl (c : Nat) | mk
  deriving DecidableEq
def strK (im : List Nat) : Tk → List Nat
  | .op c => [60, c, 62]
  | .cl c => [60, 47, c, 62]
  | .mk => im
def flatK (im : List Nat) (l : List Tk) : List Nat := (l.map (strK im)).flatten
def okT : Tk → Prop
  | .op c => 97 ≤ c
  | .cl c => 97 ≤ c
  | .mk => True
def patK (k : Nat) : List Nat := [60, 47, k, 62, 60, k, 62]
def stripK (k : Nat) : List Tk → List Tk
  | [] => []
  | [x] => [x]
  | x :: y :: r => if x = .cl k ∧ y = .op k then stripK k r else x :: stripK k (y :: r)
theorem flat_cons (im : List Nat) (x : Tk) (r : List Tk) : flatK im (x :: r) = strK im x ++ flatK im r := rfl
theorem flat_app (im : List Nat) (a b : List Tk) : flatK im (a ++ b) = flatK im a ++ flatK im b := by
  unfold flatK; rw [List.map_append, List.flatten_append]
theorem strip_ok (k : Nat) : ∀ ts : List Tk, (∀ x ∈ ts, okT x) → ∀ x ∈ stripK k ts, okT x
  | [], _ => fun x h => absurd h List.not_mem_nil
  | [y], h => fun x hx => h x hx
  | a :: b :: r, h => by
    rw [stripK]
    split
    · exact strip_ok k r fun x hx => h x (.tail _ (.tail _ hx))
    · intro x hx
      rcases List.mem_cons.mp hx with rfl | hx
      · exact h _ (.head _)
      · exact strip_ok k (b :: r) (fun x hx => h x (.tail _ hx)) x hx
theorem emit_one {im : List Nat} (hi : ∀ c ∈ im, c ≠ 60) {k : Nat} {x : Tk} (hx : okT x) (v : List Nat) (hn : x = .cl k → [60, k, 62].isPrefixOf v = false) : stripL (patK k) 0 (strK im x ++ v) = strK im x ++ stripL (patK k) 0 v := by
  unfold patK
  cases x with
  | mk => exact strip_pass 60 _ im v hi
  | op c =>
    have h1 : c ≠ 47 := by unfold okT at hx; lia
    have h2 : c ≠ 60 := by unfold okT at hx; lia
    show stripL _ 0 (60 :: ([c, 62] ++ v)) = 60 :: ([c, 62] ++ _)
    rw [stripL, if_neg (by simp [List.isPrefixOf, Ne.symm h1]), strip_pass 60 _ [c, 62] v (by simp [h2])]
  | cl c =>
    have h2 : c ≠ 60 := by unfold okT at hx; lia
    show stripL _ 0 (60 :: ([47, c, 62] ++ v)) = 60 :: ([47, c, 62] ++ _)
    rw [stripL, if_neg ?_, strip_pass 60 _ [47, c, 62] v (by simp [h2])]
    by_cases hc : c = k
    · have h3 := hn (by rw [hc])
      subst hc
      simp only [List.isPrefixOf, List.cons_append, List.nil_append, beq_self_eq_true, Bool.true_and] at h3 ⊢
      rw [h3]; decide
    · simp [List.isPrefixOf, Ne.symm hc]
theorem pre_no {im : List Nat} (hi : ∀ c ∈ im, c ≠ 60) (hne : im ≠ []) {k : Nat} (hk : 97 ≤ k) {y : Tk} (v : List Nat) (hy : y ≠ .op k) : [60, k, 62].isPrefixOf (strK im y ++ v) = false := by
  cases y with
  | mk =>
    obtain ⟨c, u, rfl⟩ := List.exists_cons_of_ne_nil hne
    have h := hi c (.head _)
    simp [strK, List.isPrefixOf, Ne.symm h]
  | op c =>
    have h : c ≠ k := fun e => hy (by rw [e])
    simp [strK, List.isPrefixOf, Ne.symm h]
  | cl c =>
    have h : k ≠ 47 := by lia
    simp [strK, List.isPrefixOf, h]
theorem strip_tok {im : List Nat} (hi : ∀ c ∈ im, c ≠ 60) (hne : im ≠ []) {k : Nat} (hk : 97 ≤ k) : ∀ ts : List Tk, (∀ x ∈ ts, okT x) → stripL (patK k) 0 (flatK im ts) = flatK im (stripK k ts)
  | [], _ => by rw [stripK]; rfl
  | [x], h => by
    rw [stripK, flat_cons]
    show stripL _ 0 (strK im x ++ []) = strK im x ++ []
    rw [emit_one hi (h x (.head _)) [] (fun _ => rfl)]; rfl
  | x :: y :: r, h => by
    rw [stripK]
    by_cases hm : x = .cl k ∧ y = .op k
    · rw [if_pos hm, flat_cons, flat_cons, hm.1, hm.2, ← strip_tok hi hne hk r fun z hz => h z (.tail _ (.tail _ hz))]
      exact strip_hit 60 [47, k, 62, 60, k, 62] _
    · rw [if_neg hm, flat_cons, flat_cons im x, ← strip_tok hi hne hk (y :: r) fun z hz => h z (.tail _ hz)]
      refine emit_one hi (h x (.head _)) _ fun hx => ?_
      rw [flat_cons]
      exact pre_no hi hne hk _ fun hy => hm ⟨hx, hy⟩
theorem pass_ne {k : Nat} {x : Tk} (h : x ≠ .cl k) : ∀ r, stripK k (x :: r) = x :: stripK k r
  | [] => by rw [stripK, stripK]
  | y :: r => by rw [stripK, if_neg fun e => h e.1]
theorem pass_op {k : Nat} (x : Tk) {y : Tk} (h : y ≠ .op k) (r : List Tk) : stripK k (x :: y :: r) = x :: stripK k (y :: r) := by rw [stripK, if_neg fun e => h e.2]
theorem pass_ops (k : Nat) : ∀ (w : List Nat) (r : List Tk), stripK k (w.map .op ++ r) = w.map .op ++ stripK k r
  | [], r => rfl
  | c :: w, r => by rw [List.map_cons, List.cons_append, pass_ne (by intro e; cases e), pass_ops k w r]; rfl
theorem pass_cls (k : Nat) : ∀ (w : List Nat) (x : Tk) (r : List Tk), x ≠ .op k → stripK k (w.map .cl ++ x :: r) = w.map .cl ++ stripK k (x :: r)
  | [], x, r, _ => rfl
  | [c], x, r, h => by
    show stripK k (Tk.cl c :: x :: r) = _
    rw [pass_op _ h]; rfl
  | c :: d :: w, x, r, h => by
    show stripK k (Tk.cl c :: Tk.cl d :: (w.map .cl ++ x :: r)) = _
    rw [pass_op _ (by intro e; cases e)]
    have ih := pass_cls k (d :: w) x r h
    rw [List.map_cons, List.cons_append] at ih
    rw [ih]; rfl
def emit : Nat → List (List Nat × Nat) → List Tk
  | _, [] => []
  | r, p :: l => (p.1.drop r).map .op ++ Tk.mk :: ((p.1.drop p.2).reverse.map .cl ++ emit p.2 l)
def up (k : Nat) (w v : List Nat) (r : Nat) : Nat := if w[r]? = some k ∧ v[r]? = some k then r + 1 else r
def raise (k : Nat) : List (List Nat × Nat) → List (List Nat × Nat)
  | [] => []
  | [p] => [p]
  | p :: q :: l => (p.1, up k p.1 q.1 p.2) :: raise k (q :: l)
theorem raise_head (k : Nat) (p : List Nat × Nat) (l : List (List Nat × Nat)) : ∃ r l', raise k (p :: l) = (p.1, r) :: l' := by
  cases l with
  | nil => exact ⟨p.2, [], rfl⟩
  | cons q l => exact ⟨_, _, rfl⟩
theorem emit_head (r : Nat) (p : List Nat × Nat) (l : List (List Nat × Nat)) : emit r (p :: l) = (p.1.drop r).map .op ++ Tk.mk :: ((p.1.drop p.2).reverse.map .cl ++ emit p.2 l) := rfl
theorem strip_emit {k R : Nat} (hR : R ≠ k) : ∀ (l : List (List Nat × Nat)) (r : Nat), stripK k (emit r l ++ [.cl R]) = emit r (raise k l) ++ [.cl R]
  | [], r => by rw [raise]; rfl
  | [p], r => by
    rw [raise, emit_head, emit, List.append_nil, List.append_assoc, pass_ops, List.cons_append, pass_ne (by intro e; cases e), pass_cls _ _ _ _ (by intro e; cases e)]
    rfl
  | p :: q :: l, r => by
    have ih := strip_emit hR (q :: l)
    have key : ∀ (x : Tk) (rest : List Tk), emit p.2 (q :: l) ++ [Tk.cl R] = x :: rest → x ≠ .op k → stripK k ((p.1.drop p.2).reverse.map .cl ++ (emit p.2 (q :: l) ++ [Tk.cl R])) = (p.1.drop p.2).reverse.map .cl ++ (emit p.2 (raise k (q :: l)) ++ [Tk.cl R]) := fun x rest e hx => by
      rw [e, pass_cls _ _ _ _ hx, ← e, ih]
    have seam : stripK k ((p.1.drop p.2).reverse.map .cl ++ (emit p.2 (q :: l) ++ [Tk.cl R])) = (p.1.drop (up k p.1 q.1 p.2)).reverse.map .cl ++ (emit (up k p.1 q.1 p.2) (raise k (q :: l)) ++ [Tk.cl R]) := by
      by_cases hm : p.1[p.2]? = some k ∧ q.1[p.2]? = some k
      · rw [up, if_pos hm]
        obtain ⟨h1, e1⟩ := List.getElem?_eq_some_iff.mp hm.1
        obtain ⟨h2, e2⟩ := List.getElem?_eq_some_iff.mp hm.2
        have d1 : (p.1.drop p.2).reverse.map Tk.cl = (p.1.drop (p.2 + 1)).reverse.map .cl ++ [.cl k] := by
          rw [List.drop_eq_getElem_cons h1, e1, List.reverse_cons, List.map_append]; rfl
        have d2 : emit p.2 (q :: l) = .op k :: emit (p.2 + 1) (q :: l) := by
          rw [emit_head, emit_head, List.drop_eq_getElem_cons h2, e2]; rfl
        rw [d1, d2, List.append_assoc]
        have pc : ∀ (u : List Nat) (z : List Tk), stripK k (u.map .cl ++ ([Tk.cl k] ++ (Tk.op k :: z))) = u.map .cl ++ stripK k z := fun u z => by
          have h9 := pass_cls k u (.cl k) (Tk.op k :: z) (by intro e; cases e)
          show stripK k (u.map .cl ++ Tk.cl k :: Tk.op k :: z) = _
          rw [h9, stripK, if_pos ⟨rfl, rfl⟩]
        exact (pc _ (emit (p.2 + 1) (q :: l) ++ [Tk.cl R])).trans (congrArg _ (ih (p.2 + 1)))
      · rw [up, if_neg hm]
        by_cases h1 : p.1[p.2]? = some k
        · have h2 : q.1[p.2]? ≠ some k := fun e => hm ⟨h1, e⟩
          by_cases hq : p.2 < q.1.length
          · have dq := List.drop_eq_getElem_cons hq
            refine key (.op q.1[p.2]) _ (by rw [emit_head, dq]; rfl) ?_
            intro e
            apply h2
            rw [List.getElem?_eq_getElem hq]
            exact congrArg some (Tk.op.inj e)
          · refine key .mk _ (by rw [emit_head, List.drop_of_length_le (Nat.not_lt.mp hq)]; rfl) (by intro e; cases e)
        · -- the last closing is another one, or there is none
          by_cases hp : p.2 < p.1.length
          · have d1 : (p.1.drop p.2).reverse.map Tk.cl = (p.1.drop (p.2 + 1)).reverse.map .cl ++ [.cl p.1[p.2]] := by
              rw [List.drop_eq_getElem_cons hp, List.reverse_cons, List.map_append]; rfl
            have hne : (Tk.cl p.1[p.2]) ≠ .cl k := fun e => h1 (by rw [List.getElem?_eq_getElem hp]; exact congrArg some (Tk.cl.inj e))
            rw [d1, List.append_assoc, List.append_assoc]
            have h9 := pass_cls k (p.1.drop (p.2 + 1)).reverse (.cl p.1[p.2]) (emit p.2 (q :: l) ++ [Tk.cl R]) (by intro e; cases e)
            rw [pass_ne hne, ih] at h9
            exact h9
          · rw [List.drop_of_length_le (Nat.not_lt.mp hp)]
            exact ih p.2
    have e1 : emit r (p :: q :: l) ++ [Tk.cl R] = (p.1.drop r).map .op ++ Tk.mk :: ((p.1.drop p.2).reverse.map .cl ++ (emit p.2 (q :: l) ++ [Tk.cl R])) := by
      rw [emit_head, List.append_assoc, List.cons_append, List.append_assoc]
    rw [e1, pass_ops, pass_ne (by intro e; cases e), seam, raise, emit_head r (_, _), List.append_assoc, List.cons_append, List.append_assoc]
theorem raise_words (k : Nat) : ∀ l : List (List Nat × Nat), (raise k l).map (·.1) = l.map (·.1)
  | [] => rfl
  | [p] => rfl
  | p :: q :: l => by rw [raise, List.map_cons, raise_words k (q :: l)]; rfl
def lev (w v : List Nat) (ks : List Nat) (r : Nat) : Nat := ks.foldl (fun r k => up k w v r) r
theorem fold_one (ks : List Nat) (p : List Nat × Nat) : ks.foldl (fun l k => raise k l) [p] = [p] := by
  induction ks with
  | nil => rfl
  | cons k ks ih => rw [List.foldl_cons, raise, ih]
theorem fold_two (ks : List Nat) : ∀ (w v : List Nat) (r r2 : Nat) (l : List (List Nat × Nat)), ks.foldl (fun l k => raise k l) ((w, r) :: (v, r2) :: l) = (w, lev w v ks r) :: ks.foldl (fun l k => raise k l) ((v, r2) :: l) := by
  induction ks with
  | nil => intro w v r r2 l; rfl
  | cons k ks ih =>
    intro w v r r2 l
    obtain ⟨r3, l', e⟩ := raise_head k (v, r2) l
    rw [List.foldl_cons, List.foldl_cons, raise, e, ih]
    rfl
def lcp : List Nat → List Nat → Nat
  | c :: w, d :: v => if c = d then lcp w v + 1 else 0
  | _, _ => 0
theorem lcp_le : ∀ (w v : List Nat), lcp w v ≤ w.length ∧ lcp w v ≤ v.length
  | [], v => ⟨Nat.le_refl _, Nat.zero_le _⟩
  | c :: w, [] => ⟨Nat.zero_le _, Nat.le_refl _⟩
  | c :: w, d :: v => by
    have h := lcp_le w v
    rw [lcp]
    split
    · exact ⟨Nat.succ_le_succ h.1, Nat.succ_le_succ h.2⟩
    · exact ⟨Nat.zero_le _, Nat.zero_le _⟩
theorem lcp_same : ∀ (w v : List Nat) (r : Nat), r < lcp w v → w[r]? = v[r]? ∧ ∃ k, w[r]? = some k
  | [], v, r, h => by cases v <;> (rw [lcp] at h; exact absurd h (Nat.not_lt_zero _)) <;> simp
  | c :: w, [], r, h => by rw [lcp] at h <;> first | exact absurd h (Nat.not_lt_zero _) | simp
  | c :: w, d :: v, r, h => by
    rw [lcp] at h
    split at h
    · rename_i e
      subst e
      cases r with
      | zero => exact ⟨rfl, c, rfl⟩
      | succ r =>
        obtain ⟨h1, k, h2⟩ := lcp_same w v r (Nat.lt_of_succ_lt_succ h)
        exact ⟨by simpa using h1, k, by simpa using h2⟩
    · exact absurd h (Nat.not_lt_zero _)
theorem lcp_stop : ∀ (w v : List Nat) (k : Nat), w[lcp w v]? = some k → v[lcp w v]? = some k → False
  | [], v, k, h, _ => by simp at h
  | c :: w, [], k, _, h => by simp at h
  | c :: w, d :: v, k, h1, h2 => by
    rw [lcp] at h1 h2
    split at h1
    · rename_i e
      rw [if_pos e] at h2
      exact lcp_stop w v k (by simpa using h1) (by simpa using h2)
    · rename_i e
      rw [if_neg e] at h2
      simp at h1 h2
      exact e (h1.trans h2.symm)
theorem lcp_eq : ∀ (w v : List Nat), lcp w v = w.length → lcp w v = v.length → w = v
  | [], [], _, _ => rfl
  | [], d :: v, _, h => by rw [lcp] at h <;> first | cases h | simp
  | c :: w, [], h, _ => by rw [lcp] at h <;> first | cases h | simp
  | c :: w, d :: v, h1, h2 => by
    rw [lcp] at h1 h2
    split at h1
    · rename_i e
      rw [if_pos e] at h2
      rw [e, lcp_eq w v (Nat.succ.inj h1) (Nat.succ.inj h2)]
    · cases h1
theorem up_le {k : Nat} {w v : List Nat} {r : Nat} (h : r ≤ lcp w v) : r ≤ up k w v r ∧ up k w v r ≤ lcp w v := by
  unfold up
  split
  · rename_i hm
    rcases Nat.lt_or_eq_of_le h with h | h
    · exact ⟨Nat.le_succ _, h⟩
    · rw [h] at hm
      exact (lcp_stop w v k hm.1 hm.2).elim
  · exact ⟨Nat.le_refl _, h⟩
theorem lev_le {w v : List Nat} : ∀ (ks : List Nat) (r : Nat), r ≤ lcp w v → r ≤ lev w v ks r ∧ lev w v ks r ≤ lcp w v
  | [], r, h => ⟨Nat.le_refl _, h⟩
  | k :: ks, r, h => by
    obtain ⟨h1, h2⟩ := up_le (k := k) h
    obtain ⟨h3, h4⟩ := lev_le ks _ h2
    exact ⟨Nat.le_trans h1 h3, h4⟩
theorem lev_app {w v : List Nat} (a b : List Nat) (r : Nat) : lev w v (a ++ b) r = lev w v b (lev w v a r) := by
  unfold lev; rw [List.foldl_append]
theorem lev_round {w v : List Nat} {r : Nat} (hs : ∀ c ∈ w, 97 ≤ c ∧ c ≤ 100) (h : r < lcp w v) : r < lev w v [97, 98, 99, 100] r := by
  obtain ⟨h1, k, h2⟩ := lcp_same w v r h
  have hk := hs k (List.mem_of_getElem? h2)
  rw [h2] at h1
  have hu : ∀ (a : List Nat) (b : List Nat), [97, 98, 99, 100] = a ++ k :: b → r < lev w v [97, 98, 99, 100] r := fun a b e => by
    rw [e, lev_app]
    obtain ⟨h3, h4⟩ := lev_le a r (Nat.le_of_lt h)
    rcases Nat.lt_or_eq_of_le h3 with h5 | h5
    · exact Nat.lt_of_lt_of_le h5 (lev_le _ _ h4).1
    · rw [← h5]
      have e2 : up k w v r = r + 1 := by rw [up, if_pos ⟨h2, h1.symm⟩]
      show r < lev w v b (up k w v r)
      rw [e2]
      exact (lev_le b (r + 1) h).1
  have : k = 97 ∨ k = 98 ∨ k = 99 ∨ k = 100 := by lia
  rcases this with rfl | rfl | rfl | rfl
  · exact hu [] _ rfl
  · exact hu [97] _ rfl
  · exact hu [97, 98] _ rfl
  · exact hu [97, 98, 99] _ rfl
theorem lev_rounds {w v : List Nat} (hs : ∀ c ∈ w, 97 ≤ c ∧ c ≤ 100) : ∀ (n r : Nat), r ≤ lcp w v → min (r + n) (lcp w v) ≤ lev w v (List.replicate n [97, 98, 99, 100]).flatten r
  | 0, r, h => by
    show min (r + 0) _ ≤ r
    rw [Nat.add_zero]; exact Nat.min_le_left _ _
  | n + 1, r, h => by
    rw [List.replicate_succ, List.flatten_cons, lev_app]
    obtain ⟨h1, h2⟩ := lev_le [97, 98, 99, 100] r h
    have ih := lev_rounds hs n _ h2
    by_cases hlt : r < lcp w v
    · have h3 := lev_round hs hlt
      generalize lev w v [97, 98, 99, 100] r = r2 at *
      refine Nat.le_trans ?_ ih
      lia
    · have h5 := (lev_le (w := w) (v := v) (List.replicate n [97, 98, 99, 100]).flatten _ h2).1
      refine Nat.le_trans (Nat.min_le_right _ _) (Nat.le_trans ?_ h5)
      lia
theorem lev_all {w v : List Nat} (hs : ∀ c ∈ w, 97 ≤ c ∧ c ≤ 100) (h5 : lcp w v ≤ 5) : lev w v (List.replicate 5 [97, 98, 99, 100]).flatten 0 = lcp w v := by
  have h1 := lev_rounds hs 5 0 (Nat.zero_le (lcp w v))
  have h2 := (lev_le (w := w) (v := v) (List.replicate 5 [97, 98, 99, 100]).flatten 0 (Nat.zero_le _)).2
  generalize lev w v (List.replicate 5 [97, 98, 99, 100]).flatten 0 = z at *
  lia
end
section
open PySem
def lvl : List (List Nat) → List (List Nat × Nat)
  | [] => []
  | [w] => [(w, 0)]
  | w :: v :: r => (w, lcp w v) :: lvl (v :: r)
abbrev rounds : List Nat := (List.replicate 5 [97, 98, 99, 100]).flatten
theorem fold_lvl : ∀ ws : List (List Nat), (∀ w ∈ ws, ∀ c ∈ w, 97 ≤ c ∧ c ≤ 100) → (ws.Pairwise fun w v => lcp w v ≤ 5) → rounds.foldl (fun l k => raise k l) (ws.map fun w => (w, 0)) = lvl ws
  | [], _, _ => by
    have h : ∀ ks : List Nat, ks.foldl (fun l k => raise k l) ([] : List (List Nat × Nat)) = [] := fun ks => by
      induction ks with
      | nil => rfl
      | cons k ks ih => rw [List.foldl_cons, raise, ih]
    exact h _
  | [w], _, _ => fold_one _ _
  | w :: v :: r, hs, hl => by
    obtain ⟨h1, h2⟩ := List.pairwise_cons.mp hl
    have ih := fold_lvl (v :: r) (fun x hx => hs x (.tail _ hx)) h2
    rw [List.map_cons, List.map_cons, fold_two, lev_all (hs w (.head _)) (h1 v (.head _)), lvl, ← ih, List.map_cons]
theorem emit_lvl_app : ∀ (A : List (List Nat)) (a : List Nat) (B : List (List Nat)) (r : Nat), (∀ x ∈ a :: A, ∀ b ∈ B, lcp x b = 0) → emit r (lvl (a :: A ++ B)) = emit r (lvl (a :: A)) ++ emit 0 (lvl B)
  | [], a, [], r, _ => by rw [List.append_nil]; show _ = _ ++ []; rw [List.append_nil]
  | [], a, b :: B, r, h => by
    show emit r (lvl (a :: b :: B)) = emit r (lvl [a]) ++ _
    rw [lvl, lvl, h a (.head _) b (.head _), emit_head, emit_head]
    show _ = _ ++ Tk.mk :: (_ ++ []) ++ _
    rw [List.append_nil, List.append_assoc, List.cons_append]
  | a2 :: A, a, B, r, h => by
    have ih := emit_lvl_app A a2 B (lcp a a2) fun x hx => h x (.tail _ hx)
    show emit r (lvl (a :: a2 :: (A ++ B))) = emit r (lvl (a :: a2 :: A)) ++ _
    rw [lvl, lvl, emit_head, emit_head, List.append_assoc, List.cons_append, List.append_assoc]
    dsimp only
    rw [← ih]; rfl
theorem emit_app {A B : List (List Nat)} (h : ∀ a ∈ A, ∀ b ∈ B, lcp a b = 0) : emit 0 (lvl (A ++ B)) = emit 0 (lvl A) ++ emit 0 (lvl B) := by
  cases A with
  | nil => rfl
  | cons a A => exact emit_lvl_app A a B 0 h
theorem emit_cons (c : Nat) : ∀ (G : List (List Nat)) (w : List Nat) (r : Nat), emit (r + 1) (lvl ((w :: G).map (c :: ·))) = emit r (lvl (w :: G)) ++ [.cl c]
  | [], w, r => by
    show emit (r + 1) (lvl [c :: w]) = emit r (lvl [w]) ++ _
    rw [lvl, lvl, emit_head, emit_head]
    show (w.drop r).map Tk.op ++ Tk.mk :: (((c :: w).reverse.map .cl) ++ []) = (w.drop r).map Tk.op ++ Tk.mk :: ((w.reverse.map .cl) ++ []) ++ [.cl c]
    rw [List.append_nil, List.append_nil, List.reverse_cons, List.map_append, List.append_assoc, List.cons_append]; rfl
  | v :: G, w, r => by
    have ih := emit_cons c G v (lcp w v)
    show emit (r + 1) (lvl ((c :: w) :: (c :: v) :: G.map (c :: ·))) = emit r (lvl (w :: v :: G)) ++ _
    rw [lvl, lvl, emit_head, emit_head, lcp, if_pos rfl]
    dsimp only
    rw [List.map_cons] at ih
    rw [ih, List.drop_succ_cons, List.drop_succ_cons, List.append_assoc, List.cons_append, List.append_assoc]
theorem emit_group (c : Nat) (G : List (List Nat)) : emit 0 (lvl (G.map (c :: ·))) = if G = [] then [] else .op c :: (emit 0 (lvl G) ++ [.cl c]) := by
  cases G with
  | nil => rfl
  | cons w G =>
    rw [if_neg (List.cons_ne_nil _ _), ← emit_cons]
    cases G with
    | nil => rfl
    | cons v G => rfl
def part (c : Nat) (G : List (List Nat)) : List (List Nat) := G.filterMap fun w => match w with | d :: u => if d = c then some u else none | [] => none
theorem mem_part {c : Nat} {G : List (List Nat)} {u : List Nat} : u ∈ part c G ↔ c :: u ∈ G := by
  unfold part
  rw [List.mem_filterMap]
  constructor
  · rintro ⟨w, hw, h⟩
    match w, h with
    | d :: v, h =>
      dsimp only at h
      split at h
      · rename_i e
        rw [← e, ← Option.some.inj h]; exact hw
      · cases h
  · intro h
    exact ⟨c :: u, h, by dsimp only; rw [if_pos rfl]⟩
theorem part_cons_ne {c : Nat} {w : List Nat} {G : List (List Nat)} (h : ∀ u, w ≠ c :: u) : part c (w :: G) = part c G := by
  unfold part
  rw [List.filterMap_cons]
  match w, h with
  | [], _ => rfl
  | d :: u, h =>
    dsimp only
    rw [if_neg fun e => h u (by rw [e])]
theorem part_cons_eq {c : Nat} {u : List Nat} {G : List (List Nat)} : part c ((c :: u) :: G) = u :: part c G := by
  unfold part
  rw [List.filterMap_cons]
  dsimp only
  rw [if_pos rfl]
theorem part_nil {c : Nat} {G : List (List Nat)} (h : ∀ u, c :: u ∉ G) : part c G = [] := List.eq_nil_iff_forall_not_mem.mpr fun u hu => h u (mem_part.mp hu)
theorem part_sorted {c : Nat} : ∀ {G : List (List Nat)}, G.Pairwise (· < ·) → (part c G).Pairwise (· < ·)
  | [], _ => .nil
  | w :: G, h => by
    obtain ⟨h1, h2⟩ := List.pairwise_cons.mp h
    have ih := part_sorted (c := c) h2
    by_cases hw : ∃ u, w = c :: u
    · obtain ⟨u, rfl⟩ := hw
      rw [part_cons_eq]
      refine List.pairwise_cons.mpr ⟨fun v hv => ?_, ih⟩
      have h3 := h1 _ (mem_part.mp hv)
      rw [List.cons_lt_cons_iff] at h3
      rcases h3 with h3 | ⟨_, h3⟩
      · exact absurd h3 (Nat.lt_irrefl _)
      · exact h3
    · rw [part_cons_ne fun u e => hw ⟨u, e⟩]; exact ih
def nilp (G : List (List Nat)) : List (List Nat) := if [] ∈ G then [[]] else []
theorem not_lt_head {c d : Nat} {u v : List Nat} (h : d < c) : ¬ (c :: u) < (d :: v) := fun e => by
  rw [List.cons_lt_cons_iff] at e
  rcases e with e | ⟨e, _⟩ <;> lia
theorem sorted_split : ∀ {G : List (List Nat)}, G.Pairwise (· < ·) → (∀ w ∈ G, ∀ c ∈ w, 97 ≤ c ∧ c ≤ 100) → G = nilp G ++ ((part 97 G).map (97 :: ·) ++ ((part 98 G).map (98 :: ·) ++ ((part 99 G).map (99 :: ·) ++ (part 100 G).map (100 :: ·))))
  | [], _, _ => rfl
  | w :: G, hs, hc => by
    obtain ⟨h1, h2⟩ := List.pairwise_cons.mp hs
    have ih := sorted_split h2 fun x hx => hc x (.tail _ hx)
    cases w with
    | nil =>
      have hn : [] ∉ G := fun h => absurd (h1 _ h) (List.lt_irrefl _)
      have e1 : nilp ([] :: G) = [[]] := if_pos (.head _)
      have e2 : nilp G = [] := if_neg hn
      rw [e2, List.nil_append] at ih
      rw [e1, part_cons_ne (by intro v e; cases e), part_cons_ne (by intro v e; cases e), part_cons_ne (by intro v e; cases e), part_cons_ne (by intro v e; cases e), ← ih]; rfl
    | cons d u =>
      have hn : [] ∉ G := fun h => absurd (h1 _ h) (by simp)
      have e2 : nilp G = [] := if_neg hn
      have e1 : nilp ((d :: u) :: G) = [] := if_neg fun h => by
        rcases List.mem_cons.mp h with h | h
        · cases h
        · exact hn h
      have small : ∀ c, c < d → part c G = [] := fun c hcd => part_nil fun v hv => not_lt_head hcd (h1 _ hv)
      have hd := hc (d :: u) (.head _) d (.head _)
      rw [e2, List.nil_append] at ih
      rw [e1, List.nil_append]
      have : d = 97 ∨ d = 98 ∨ d = 99 ∨ d = 100 := by lia
      rcases this with rfl | rfl | rfl | rfl
      · rw [part_cons_eq, part_cons_ne (by intro v e; cases e), part_cons_ne (by intro v e; cases e), part_cons_ne (by intro v e; cases e), List.map_cons, List.cons_append, ← ih]
      · rw [part_cons_eq, part_cons_ne (by intro v e; cases e), part_cons_ne (by intro v e; cases e), part_cons_ne (by intro v e; cases e)]
        rw [small 97 (by decide)] at ih ⊢
        rw [List.map_cons]
        exact congrArg ((98 :: u) :: ·) ih
      · rw [part_cons_eq, part_cons_ne (by intro v e; cases e), part_cons_ne (by intro v e; cases e), part_cons_ne (by intro v e; cases e)]
        rw [small 97 (by decide), small 98 (by decide)] at ih ⊢
        rw [List.map_cons]
        exact congrArg ((99 :: u) :: ·) ih
      · rw [part_cons_eq, part_cons_ne (by intro v e; cases e), part_cons_ne (by intro v e; cases e), part_cons_ne (by intro v e; cases e)]
        rw [small 97 (by decide), small 98 (by decide), small 99 (by decide)] at ih ⊢
        rw [List.map_cons]
        exact congrArg ((100 :: u) :: ·) ih
def oneE (G : List (List Nat)) (c : Nat) : List Tk := if part c G = [] then [] else .op c :: (emit 0 (lvl (part c G)) ++ [.cl c])
theorem emit_split {G : List (List Nat)} (hs : G.Pairwise (· < ·)) (hc : ∀ w ∈ G, ∀ c ∈ w, 97 ≤ c ∧ c ≤ 100) : emit 0 (lvl G) = (if [] ∈ G then [Tk.mk] else []) ++ ([97, 98, 99, 100].map (oneE G)).flatten := by
  have hl : ∀ {c d : Nat} {A B : List (List Nat)}, c ≠ d → ∀ a ∈ A.map (c :: ·), ∀ b ∈ B.map (d :: ·), lcp a b = 0 := fun {c d A B} hcd a ha b hb => by
    obtain ⟨u, _, rfl⟩ := List.mem_map.mp ha
    obtain ⟨v, _, rfl⟩ := List.mem_map.mp hb
    rw [lcp, if_neg hcd]
  have ho : ∀ {P : List Nat → List Nat → Prop} {A B C : List (List Nat)}, (∀ a ∈ A, ∀ b ∈ B, P a b) → (∀ a ∈ A, ∀ b ∈ C, P a b) → ∀ a ∈ A, ∀ b ∈ B ++ C, P a b := fun h1 h2 a ha b hb => by
    rcases List.mem_append.mp hb with h | h
    · exact h1 a ha b h
    · exact h2 a ha b h
  have hn : ∀ {B : List (List Nat)}, ∀ a ∈ nilp G, ∀ b ∈ B, lcp a b = 0 := fun a ha b _ => by
    unfold nilp at ha
    split at ha
    · rw [List.mem_singleton.mp ha, lcp]; simp
    · cases ha
  have e := sorted_split hs hc
  have e0 : emit 0 (lvl G) = emit 0 (lvl (nilp G ++ ((part 97 G).map (97 :: ·) ++ ((part 98 G).map (98 :: ·) ++ ((part 99 G).map (99 :: ·) ++ (part 100 G).map (100 :: ·)))))) := by rw [← e]
  rw [e0, emit_app hn, emit_app (ho (hl (by decide)) (ho (hl (by decide)) (hl (by decide)))), emit_app (ho (hl (by decide)) (hl (by decide))), emit_app (hl (by decide)), emit_group, emit_group, emit_group, emit_group]
  have en : emit 0 (lvl (nilp G)) = if [] ∈ G then [Tk.mk] else [] := by
    unfold nilp
    split <;> rfl
  rw [en]
  simp only [List.map_cons, List.map_nil, List.flatten_cons, List.flatten_nil, List.append_nil, oneE]
end
section
open PySem
theorem lt_cps : (Str.ofString "<").cps.toList = [60] := by decide +kernel
theorem gt_cps : (Str.ofString ">").cps.toList = [62] := by decide +kernel
theorem sl_cps : (Str.ofString "</").cps.toList = [60, 47] := by decide +kernel
theorem no_cps : (Str.ofString "").cps.toList = [] := by decide +kernel
theorem cpsA (x y : Str) : (x ++ y).cps.toList = x.cps.toList ++ y.cps.toList := by rw [cps_app, Array.toList_append]
theorem begA_cps (im : List Nat) (c : Nat) : (begA (sg c) [] (Str.ofString "")).cps.toList = strK im (.op c) := by
  unfold begA
  rw [List.map_nil, catS, cpsA, cpsA, cpsA, lt_cps, no_cps, gt_cps]; rfl
theorem endA_cps (im : List Nat) (c : Nat) : (endA (sg c)).cps.toList = strK im (.cl c) := by
  unfold endA
  rw [cpsA, cpsA, sl_cps, gt_cps]; rfl
theorem wrap_cps (im : List Nat) (c : Nat) (r : Str) (l : List Tk) (h : r.cps.toList = flatK im l) : (wrapT c r).cps.toList = flatK im (.op c :: (l ++ [.cl c])) := by
  unfold wrapT
  rw [cpsA, cpsA, cpsA, cpsA, cpsA, cpsA, lt_cps, sl_cps, gt_cps, h, flat_cons, flat_app]
  show [60] ++ [c] ++ [62] ++ flatK im l ++ [60, 47] ++ [c] ++ [62] = [60, c, 62] ++ (flatK im l ++ ([60, 47, c, 62] ++ []))
  simp
theorem catS_flat {α : Type} (im : List Nat) (f : α → Str) (g : α → List Tk) (l : List α) (h : ∀ a ∈ l, (f a).cps.toList = flatK im (g a)) : (catS (l.map f)).cps.toList = flatK im (l.map g).flatten := by
  induction l with
  | nil => rw [List.map_nil, catS, no_cps]; rfl
  | cons a r ih => rw [List.map_cons, catS, cpsA, h a (.head _), ih fun b hb => h b (.tail _ hb), List.map_cons, List.flatten_cons, flat_app]
theorem opS_cps (im : List Nat) (w : List Nat) : (opS w).cps.toList = flatK im (w.map .op) := by
  have h := catS_flat im (fun c => begA (sg c) [] (Str.ofString "")) (fun c => [Tk.op c]) w fun c _ => by rw [begA_cps im]; simp [flatK]
  rw [opS, h]
  clear h
  congr 1
  induction w with
  | nil => rfl
  | cons c w ih => rw [List.map_cons, List.flatten_cons, ih]; rfl
theorem clS_cps (im : List Nat) (w : List Nat) : (clS w).cps.toList = flatK im (w.map .cl) := by
  have h := catS_flat im (fun c => endA (sg c)) (fun c => [Tk.cl c]) w fun c _ => by rw [endA_cps im]; simp [flatK]
  rw [clS, h]
  clear h
  congr 1
  induction w with
  | nil => rfl
  | cons c w ih => rw [List.map_cons, List.flatten_cons, ih]; rfl
def wordK (w : List Nat) : List Tk := w.map .op ++ Tk.mk :: w.reverse.map .cl
theorem word_cps (im : Str) (w : List Nat) : (wordT im w).cps.toList = flatK im.cps.toList (wordK w) := by
  rw [wordT, cpsA, cpsA, opS_cps im.cps.toList, clS_cps im.cps.toList, wordK, flat_app, flat_cons, List.append_assoc]; rfl
theorem emit_zero : ∀ ws : List (List Nat), emit 0 (ws.map fun w => (w, 0)) = (ws.map wordK).flatten
  | [] => rfl
  | w :: r => by
    rw [List.map_cons, emit_head, emit_zero r, List.map_cons, List.flatten_cons, wordK, List.append_assoc, List.cons_append]; rfl
theorem r_sg : Str.ofString "r" = sg 114 := by decide +kernel
theorem told_cps (im : Str) (ws : List (List Nat)) : (toldT im ws).cps.toList = flatK im.cps.toList (.op 114 :: (emit 0 (ws.map fun w => (w, 0)) ++ [.cl 114])) := by
  rw [toldT, r_sg, cpsA, cpsA, begA_cps im.cps.toList, endA_cps im.cps.toList, catS_flat im.cps.toList (wordT im) wordK ws (fun w _ => word_cps im w), flat_cons, flat_app, emit_zero, List.append_assoc]
  congr 2
theorem seamT_cps (k : Nat) : (seamT k).cps.toList = patK k := by
  unfold seamT
  rw [cpsA, cpsA, cpsA, cpsA, sl_cps, gt_cps, show (Str.ofString "><").cps.toList = [62, 60] from by decide +kernel]; rfl
theorem fold_rounds : foldPairs = rounds.map fun k => (seamT k, Str.ofString "") := by decide +kernel
theorem repl_toks {im : List Nat} (hi : ∀ c ∈ im, c ≠ 60) (hne : im ≠ []) : ∀ (ks : List Nat) (z : Str) (ts : List Tk), (∀ k ∈ ks, 97 ≤ k ∧ PatOk (seamT k)) → (∀ y ∈ ts, okT y) → z.cps.toList = flatK im ts → (replAll (ks.map fun k => (seamT k, Str.ofString "")) z).cps.toList = flatK im (ks.foldl (fun ts k => stripK k ts) ts)
  | [], z, ts, _, _, h => h
  | k :: ks, z, ts, hk, ho, h => by
    rw [List.map_cons, replAll, List.foldl_cons]
    obtain ⟨h1, h2⟩ := hk k (.head _)
    refine repl_toks hi hne ks _ _ (fun x hx => hk x (.tail _ hx)) (strip_ok k ts ho) ?_
    rw [repl_strip h2, seamT_cps, h, strip_tok hi hne h1 ts ho]
theorem fold_emit {R : Nat} : ∀ (ks : List Nat) (l : List (List Nat × Nat)), (∀ k ∈ ks, R ≠ k) → ks.foldl (fun ts k => stripK k ts) (.op R :: (emit 0 l ++ [.cl R])) = .op R :: (emit 0 (ks.foldl (fun l k => raise k l) l) ++ [.cl R])
  | [], l, _ => rfl
  | k :: ks, l, h => by
    rw [List.foldl_cons, pass_ne (by intro e; cases e), strip_emit (h k (.head _)), fold_emit ks _ fun x hx => h x (.tail _ hx)]; rfl
theorem emit_ok : ∀ (l : List (List Nat × Nat)) (r : Nat), (∀ p ∈ l, ∀ c ∈ p.1, 97 ≤ c) → ∀ x ∈ emit r l, okT x
  | [], r, _ => fun x h => absurd h List.not_mem_nil
  | p :: l, r, h => by
    intro x hx
    rw [emit_head] at hx
    simp only [List.mem_append, List.mem_cons, List.mem_map, List.mem_reverse] at hx
    rcases hx with ⟨c, hc, rfl⟩ | rfl | ⟨c, hc, rfl⟩ | hx
    · exact h p (.head _) c (List.mem_of_mem_drop hc)
    · trivial
    · exact h p (.head _) c (List.mem_of_mem_drop hc)
    · exact emit_ok l _ (fun q hq => h q (.tail _ hq)) x hx
section
variable {x im : Str} {ws : List (List Nat)}
theorem miss_iff (hw : ∀ z, z ∈ ws ↔ ∃ k, k < 6 ∧ z = x.cps.toList.drop k) (hx6 : x.cps.size = 6) {y : Str} {c : Nat} {G : List (List Nat)} (hG : ∀ u, u ∈ G ↔ y.cps.toList ++ u ∈ ws) : missP x (y ++ sg c) = true ↔ part c G = [] := by
  have hyc : (y ++ sg c).cps.toList = y.cps.toList ++ [c] := cpsA y (sg c)
  have hne : (y ++ sg c).cps.toList ≠ [] := by rw [hyc]; simp
  have hlen : x.cps.toList.length = 6 := by rw [Array.length_toList]; exact hx6
  rcases StrLaws.occ_head x (y ++ sg c) 1 (Nat.le_refl _) with ⟨e, hno⟩ | ⟨i, r, e, hA, _⟩
  · refine ⟨fun _ => List.eq_nil_iff_forall_not_mem.mpr fun u hu => ?_, fun _ => by rw [missP, e]; rfl⟩
    obtain ⟨k, hk, hz⟩ := (hw _).mp ((hG _).mp (mem_part.mp hu))
    refine hno k ((pre_iff hne k).mpr ?_)
    rw [← hz, hyc, List.isPrefixOf_iff_prefix]
    exact ⟨u, by simp⟩
  · have h1 := (pre_iff hne i).mp hA
    rw [List.isPrefixOf_iff_prefix] at h1
    obtain ⟨u, hu⟩ := h1
    have hi : i < 6 := by
      have h2 := congrArg List.length hu
      rw [List.length_append, List.length_drop, hlen, hyc, List.length_append] at h2
      simp only [List.length_cons, List.length_nil] at h2
      omega
    have hm : u ∈ part c G := mem_part.mpr ((hG _).mpr ((hw _).mpr ⟨i, hi, by rw [← hu, hyc]; simp⟩))
    refine ⟨fun h => ?_, fun h => ?_⟩
    · rw [missP, e] at h; cases h
    · rw [h] at hm; cases hm
theorem laid0_cps (hw : ∀ z, z ∈ ws ↔ ∃ k, k < 6 ∧ z = x.cps.toList.drop k) (hx6 : x.cps.size = 6) {y : Str} (hy : y.length ≤ 6) {G : List (List Nat)} (hG : ∀ u, u ∈ G ↔ y.cps.toList ++ u ∈ ws) : (laid0 x im y).cps.toList = flatK im.cps.toList (if [] ∈ G then [Tk.mk] else []) := by
  have hlen : x.cps.toList.length = 6 := by rw [Array.length_toList]; exact hx6
  have hxl : x.length = 6 := hx6
  have hyl : y.cps.toList.length = y.length := Array.length_toList
  have hsl : Txt.slice x (some ((x.length : Int) - (y.length : Int))) none = ⟨(x.cps.toList.drop (6 - y.length)).toArray⟩ := by
    have e : (x.length : Int) - (y.length : Int) = ((6 - y.length : Nat) : Int) := by rw [hxl]; omega
    have h := slice_cps (x := x) (k := 6 - y.length) (by rw [hx6]; omega)
    rw [e]
    apply str_ext
    apply Array.toList_inj.mp
    rw [h]
  have key : ([] ∈ G) ↔ ((y != Str.ofString "") = true ∧ (Txt.slice x (some ((x.length : Int) - (y.length : Int))) none == y) = true) := by
    rw [hG, List.append_nil, hw, hsl]
    constructor
    · rintro ⟨k, hk, e⟩
      have hl := congrArg List.length e
      rw [hyl, List.length_drop, hlen] at hl
      refine ⟨?_, beq_iff_eq.mpr ?_⟩
      · rw [bne_iff_ne]
        intro e2
        rw [e2, show (Str.ofString "").length = 0 from by decide +kernel] at hl
        omega
      · apply str_ext
        apply Array.toList_inj.mp
        show x.cps.toList.drop (6 - y.length) = y.cps.toList
        rw [e, hl]
        congr 1
        omega
    · rintro ⟨h1, h2⟩
      have e := congrArg (fun z : Str => z.cps.toList) (beq_iff_eq.mp h2)
      dsimp only at e
      refine ⟨6 - y.length, ?_, e.symm⟩
      rw [bne_iff_ne] at h1
      have : y.length ≠ 0 := fun e0 => h1 (str_ext (Array.toList_inj.mp (by rw [no_cps]; exact List.eq_nil_of_length_eq_zero (hyl.trans e0))))
      omega
  unfold laid0
  by_cases h : [] ∈ G
  · rw [if_pos (key.mp h), if_pos h, flat_cons]; show _ = im.cps.toList ++ []; rw [List.append_nil]
  · rw [if_neg (fun e => h (key.mpr e)), if_neg h, no_cps]; rfl
theorem laid_emit (hw : ∀ z, z ∈ ws ↔ ∃ k, k < 6 ∧ z = x.cps.toList.drop k) (hx6 : x.cps.size = 6) (hxs : ∀ c ∈ x.cps.toList, SignOk c) (n : Nat) : ∀ (y : Str) (G : List (List Nat)), y.length + n = 7 → G.Pairwise (· < ·) → (∀ u, u ∈ G ↔ y.cps.toList ++ u ∈ ws) → (laidT n x im y).cps.toList = flatK im.cps.toList (emit 0 (lvl G)) := by
  have hlen : x.cps.toList.length = 6 := by rw [Array.length_toList]; exact hx6
  induction n with
  | zero =>
    intro y G hy _ hG
    have hg : G = [] := List.eq_nil_iff_forall_not_mem.mpr fun u hu => by
      obtain ⟨k, _, e⟩ := (hw _).mp ((hG u).mp hu)
      have h := congrArg List.length e
      rw [List.length_append, List.length_drop, hlen, Array.length_toList] at h
      have : y.cps.size = 7 := hy
      omega
    rw [hg, laidT, no_cps]; rfl
  | succ n ih =>
    intro y G hy hs hG
    have hc : ∀ w ∈ G, ∀ c ∈ w, 97 ≤ c ∧ c ≤ 100 := fun w h c hcw => by
      obtain ⟨k, _, e⟩ := (hw _).mp ((hG w).mp h)
      exact hxs c (List.mem_of_mem_drop (i := k) (by rw [← e]; exact List.mem_append_right _ hcw))
    rw [← laidP4, laidP, show ([97, 98, 99, 100].take 4 : List Nat) = [97, 98, 99, 100] from rfl, cpsA, laid0_cps hw hx6 (by omega) hG, emit_split hs hc, flat_app]
    have hcat := catS_flat im.cps.toList (oneT n x im y) (oneE G) [97, 98, 99, 100] fun c _ => ?hone
    case hone =>
      unfold oneT oneE
      have hm := miss_iff hw hx6 (c := c) hG
      by_cases h : part c G = []
      · rw [if_pos (hm.mpr h), if_pos h, no_cps]; rfl
      · rw [if_neg (fun e => h (hm.mp e)), if_neg h]
        refine wrap_cps _ c _ _ (ih (y ++ sg c) (part c G) ?_ (part_sorted hs) fun u => ?_)
        · rw [PySem.Str.length_append]
          show y.length + 1 + n = 7
          omega
        · rw [mem_part, hG, cpsA, List.append_assoc]; rfl
    rw [hcat]
end
theorem mark_im {mk im : Str} (h : Mark mk im) : (∀ c ∈ im.cps.toList, c ≠ 60) ∧ im.cps.toList ≠ [] := by
  cases h <;> decide +kernel
theorem lt_ne {w v : List Nat} (h : w < v) : w ≠ v := fun e => by rw [e] at h; exact List.lt_irrefl _ h
theorem plain_law : PlainLaw := by
  intro x mk im ws hmk hx6 hxs hp hs
  obtain ⟨hi, hne⟩ := mark_im hmk
  have hlen : x.cps.toList.length = 6 := by rw [Array.length_toList]; exact hx6
  have hw : ∀ z, z ∈ ws ↔ ∃ k, k < 6 ∧ z = x.cps.toList.drop k := fun z => by
    rw [hp.mem_iff, List.mem_map]
    constructor
    · rintro ⟨k, hk, e⟩; exact ⟨k, List.mem_range.mp hk, e.symm⟩
    · rintro ⟨k, hk, e⟩; exact ⟨k, List.mem_range.mpr hk, e.symm⟩
  have hc : ∀ w ∈ ws, ∀ c ∈ w, 97 ≤ c ∧ c ≤ 100 := fun w h c hcw => by
    obtain ⟨k, _, e⟩ := (hw _).mp h
    rw [e] at hcw
    exact hxs c (List.mem_of_mem_drop hcw)
  have h5 : ws.Pairwise fun w v => lcp w v ≤ 5 := by
    refine List.Pairwise.imp_of_mem (fun {w v} h1 h2 hlt => ?_) hs
    obtain ⟨k, hk, e1⟩ := (hw _).mp h1
    obtain ⟨j, hj, e2⟩ := (hw _).mp h2
    have l1 : w.length = 6 - k := by rw [e1, List.length_drop, hlen]
    have l2 : v.length = 6 - j := by rw [e2, List.length_drop, hlen]
    obtain ⟨a1, a2⟩ := lcp_le w v
    by_cases h : lcp w v ≤ 5
    · exact h
    · exact absurd (lcp_eq w v (by omega) (by omega)) (lt_ne hlt)
  apply str_ext
  apply Array.toList_inj.mp
  have hk : ∀ k ∈ rounds, 97 ≤ k ∧ PatOk (seamT k) := fun k hk => by
    have h1 : (seamT k, Str.ofString "") ∈ foldPairs := by rw [fold_rounds]; exact List.mem_map_of_mem (f := fun k => (seamT k, Str.ofString "")) hk
    refine ⟨?_, (fold_ok _ h1).1⟩
    have : ∀ k ∈ rounds, 97 ≤ k := by decide
    exact this k hk
  have hR : ∀ k ∈ rounds, (114 : Nat) ≠ k := by decide
  have hok : ∀ y ∈ (Tk.op 114 :: (emit 0 (ws.map fun w => (w, 0)) ++ [.cl 114])), okT y := by
    intro y hy
    rcases List.mem_cons.mp hy with rfl | hy
    · show 97 ≤ 114; decide
    · rcases List.mem_append.mp hy with hy | hy
      · refine emit_ok _ 0 (fun p h c hcp => ?_) y hy
        obtain ⟨w, hw2, rfl⟩ := List.mem_map.mp h
        exact (hc w hw2 c hcp).1
      · rw [List.mem_singleton.mp hy]; show 97 ≤ 114; decide
  rw [fold_rounds, repl_toks hi hne rounds _ _ hk hok (told_cps im ws), fold_emit rounds _ hR, fold_lvl ws hc h5]
  have hl := laid_emit (im := im) hw hx6 hxs 7 (Str.ofString "") ws (by rw [show (Str.ofString "").length = 0 from by decide +kernel]) hs fun u => by rw [no_cps, List.nil_append]
  rw [cpsA, cpsA, hl, flat_cons, flat_app, show (Str.ofString "<r>").cps.toList = [60, 114, 62] from by decide +kernel, show (Str.ofString "</r>").cps.toList = [60, 47, 114, 62] from by decide +kernel, List.append_assoc]
  rfl
end
end Mine
theorem PySem.Challenge.cw_pg0301_01_holds : PySem.Challenge.rw_pg0301_01.Holds :=
  Mine.law_of_plain Mine.plain_law
