import PyProof.Rows.All
import Wide.All
import OpenK.AllK
import Wide.FinOn
import PyProof.IsiH_list
import Lean
import PySem.Challenge.RW_pg0301_02
set_option Elab.async false
set_option maxRecDepth 100000
set_option compiler.extract_closed false
set_option genSizeOf false
set_option genInjectivity false
set_option linter.all false
namespace Mine
section
open PySem PySem.W PyProof.Rows
noncomputable def tq.tw4135862668627964031 : PySem.Program := PySem.Challenge.pw_pg0301_02
theorem tq.te4135862668627964031 : PySem.Challenge.pw_pg0301_02 = tq.tw4135862668627964031 := rfl
set_option Elab.async true in
set_option maxRecDepth 100000 in
theorem tq : True := by
  first
    | (refine (fun (_ : PySem.Challenge.rw_pg0301_02.Holds) => trivial) ?_
       o_law
       fail)
    | exact trivial
#print axioms tq
set_option maxRecDepth 100000 in
set_option maxHeartbeats 8000000 in
open_top hd2 for PySem.Challenge.rw_pg0301_02
end
theorem topOff1 : True := by
  w_top off
  trivial
section
set_option compiler.extract_closed false
section
open Lean
def mqN (k : Name) (l : List Syntax) : Syntax := .node .none k l.toArray
def mqL (l : List Syntax) : Syntax := mqN nullKind l
def mqK (s : String) : Name := .str `Lean.Parser.Tactic s
def mqM (s : String) : Name := .str `Lean.Parser.Term s
def mqA (s : String) : Syntax := mkAtom s
def mqQ (ts : List Syntax) : Syntax := mqN (mqK "tacticSeq") [mqN (mqK "tacticSeq1Indented") [mqL (ts.intersperse (mqA ";"))]]
def mqTok (cs : List Char) : List String :=
  let r := cs.foldl (fun (p : List String × String) c =>
    if c = ' ' || c = '(' || c = ')' then
      let l := if p.2 = "" then p.1 else p.2 :: p.1
      (if c = ' ' then l else String.singleton c :: l, "")
    else (p.1, p.2.push c)) ([], "")
  (if r.2 = "" then r.1 else r.2 :: r.1).reverse
def mqTree (s : String) : Syntax :=
  let r := (mqTok s.toList).foldl (fun (st : List (List Syntax)) t =>
    if t = "(" then [] :: st
    else match st with
      | l :: k :: st' => if t = ")" then (mqL l.reverse :: k) :: st' else (mqA t :: l) :: k :: st'
      | [l] => [mqA t :: l]
      | [] => []) [[]]
  ((r.headD []).headD .missing)
def mqWord : Syntax → String | .atom _ w => w | _ => ""
def mqLet (c : Char) : String :=
  let s := String.singleton c ++ " "
  let t := "a k_asm;m k_mem;r (red assumption);s assumption;f (exact rfl);g (red rfl);u k_upd;U k_updF;i k_is;n k_in;w (unf rfl);A (at AR);b (exact (Nat.le_of_ble_eq_true rfl));d decide;D decide+;I k_inst;R ktr_room;T ktr_units;x kmk_size;k (exact (strKind_is _ _ _ _));B (seq (unfold scanBound) decide);q (first (red assumption) (exact rfl));h (first (exact rfl) assumption);E (seq (intro x) (exact rfl));K k_all;N k_ne;z (exact (Nat.zero_lt_succ _));M (seq (try (ds)) (rep (first (red assumption) (exact (if_pos rfl)) (refine (Eq.trans (if_neg (by decide+)) ?_)))));W k_whole;H (intro h' F' N');P (try (dsat N'));S (try k_sweep);L (seq (intro d' h' F' N' l1) (try (k_lt l1)));O (try (ds));o (try k_fold);V (seq (intro h' t' tl' F' N') (try (dsat N')));Y (intro t' h' tk' p' F' N')"
  (((t.splitOn ";").find? fun x => x.startsWith s).map fun x => (x.drop 2).toString).getD "done"
def mqOrd (c : Char) : Nat := if c.isDigit then c.toNat - 48 else c.toNat - 87
def mqExp : Nat → Syntax → Syntax
  | n + 1, .node _ _ a =>
    let l := a.toList.map (mqExp n)
    let ww := l.map mqWord
    let w := fun i => ww.getD i ""
    let x := fun i => l.getD i .missing
    let go := fun s => mqExp n (mqTree s)
    let ops := fun t s => mqL [mqA t, s]
    if w 0 = "line" then
      let g := if w 2 = "-" then [] else [ops "red" (ops "show" (mqL (mqA "wpAny" :: mqA "_" :: mqA "_" :: x 2 :: List.replicate 3 (mqA "_"))))]
      mqL (mqA "seq" :: mqA "k_here" :: (g ++ ops "dflt" (x 3) :: (if w 1 = "-" then [] else (w 1).toList.map fun c => go (mqLet c))))
    else if w 0 = "rule" then
      let own := l.drop 4
      let r := (w 2).toList.foldl (fun (st : List Syntax × List (Nat × Syntax) × Bool × Nat × Nat) c =>
        let (as, cs, bang, i, o) := st
        if bang then (ops "by" (go (mqLet c)) :: as, cs, false, i, o)
        else if c = '!' then (as, cs, true, i, o)
        else if c = '#' then (own.getD o .missing :: as, cs, false, i, o + 1)
        else if c = '.' then (mqA "?_" :: as, cs, false, i + 1, o)
        else if c = '_' then (mqA "_" :: as, cs, false, i + 1, o)
        else
          let v := ("rule" ++ w 1).replace "." "" ++ toString i
          (mqA ("?" ++ v) :: as, (i, ops "seq" (mqL [mqA "case", mqA v, if c.isDigit then own.getD (c.toNat - 48) .missing else go (mqLet c)])) :: cs, false, i + 1, o)) ([], [], false, 0, 0)
      let cs := r.2.1.reverse
      mqL (mqA "seq" :: ops "refine'" (mqL (x 1 :: r.1.reverse)) :: (if w 3 = "-" then cs.map (·.2) else (w 3).toList.filterMap fun c => cs.lookup (mqOrd c)))
    else mqL l
  | _, s => s
def mqWs : Nat → Syntax → List String
  | n + 1, .node _ _ a => a.toList.flatMap (mqWs n)
  | _, s => [mqWord s]
def mqHd (h : String) : List String :=
  let s := h ++ " "
  let t := "red W withReducible with_reducible;redi W withReducibleAndInstances with_reducible_and_instances;unf W withUnfoldingAll with_unfolding_all;rep W tacticRepeat_ repeat;try W tacticTry_ try;refine E refine refine;refine' E refine' refine';exact E exact exact;show E show show;apply E apply apply;seq P;first F;case C;intro I;at A;dflt D;k_lt L;unfold U;ds S dsimp y;dsat T;simp S simp n;simp1 S simp y"
  (((t.splitOn ";").find? fun x => (x ++ " ").startsWith s).getD "").splitOn " "
def mqGo (g s : String → Syntax) : Nat → Bool → Syntax → Syntax
  | n + 1, true, .node _ _ a =>
    let l := a.toList.tail
    let h := mqWord (a.toList.headD .missing)
    if h = "by" then mqN (mqM "byTactic") [mqA "by", mqQ (l.map (mqGo g s n false))]
    else
      let l := a.toList.map (mqGo g s n true)
      if h = ":=" then mqN (mqM "namedArgument") [mqA "(", l.getD 1 .missing, mqA ":=", l.getD 2 .missing, mqA ")"]
      else mqN (mqM "app") [l.headD .missing, mqL l.tail]
  | n + 1, false, .node _ _ a =>
    let l := a.toList.tail
    let h := mqWord (a.toList.headD .missing)
    let w0 := mqWord (l.headD .missing)
    let e := mqHd h
    let k := mqK (e.getD 2 "")
    let t := mqA (e.getD 3 "")
    let oc := mqN (mqK "optConfig") [mqL []]
    let none := mqL []
    let c := (e.getD 1 "").toList.headD ' '
    if c = 'E' then mqN k [t, mqGo g s n true (l.headD .missing)]
    else if c = 'I' then mqN (mqK h) [mqA h, mqL (l.map fun x => s (mqWord x))]
    else if c = 'A' then mqN `PyProof.Rows.tacticWalk_at_ [mqA "walk_at", (Syntax.mkStrLit w0).raw]
    else if c = 'L' then mqN `PySem.W.tacticK_lt_ [mqA h, s w0]
    else if c = 'U' then mqN (mqK h) [mqA h, mqL [g w0], none]
    else if c = 'T' then mqN (mqK "dsimp") [mqA "dsimp", oc, none, mqL [mqA "only"], none, mqL [mqN (mqK "location") [mqA "at", mqN (mqK "locationHyp") [mqL [s w0]]]]]
    else if c = 'S' then
      let ls := (l.map fun x => mqN (mqK "simpLemma") [none, none, g (mqWord x)]).intersperse (mqA ",")
      mqN k [mqA (e.getD 2 ""), oc, none, mqL (if e.getD 3 "" = "y" then [mqA "only"] else []), mqL (if ls.isEmpty then [] else [mqA "[", mqL ls, mqA "]"]), none]
    else if c = 'C' then mqN (mqK h) [mqA h, mqL [mqN (mqK "caseArg") [mqN `Lean.binderIdent [s w0], none]], mqA "=>", mqQ (l.tail.map (mqGo g s n false))]
    else
      let ts := l.map (mqGo g s n false)
      if c = 'W' then mqN k [t, mqQ ts]
      else if c = 'P' then mqN (mqK "paren") [mqA "(", mqQ ts, mqA ")"]
      else if c = 'F' then mqN (mqK h) [mqA h, mqL (ts.map fun x => mqN groupKind [mqA "|", mqQ [x]])]
      else mqN `PySem.W.tacticK_dflt_ (mqA "k_dflt" :: ts)
  | _, true, .atom _ w =>
    if w = "_" then mqN (mqM "hole") [mqA w]
    else if w = "?_" then mqN (mqM "syntheticHole") [mqA "?", mqA "_"]
    else if w.startsWith "?" then mqN (mqM "syntheticHole") [mqA "?", s (w.drop 1).toString]
    else if w.startsWith "'" then (Syntax.mkStrLit ((w.drop 1).dropEnd 1).toString).raw
    else if w = "-1" then mqN `«term-_» [mqA "-", (Syntax.mkNumLit "1").raw]
    else if w.all Char.isDigit then (Syntax.mkNumLit w).raw
    else g w
  | _, false, .atom _ w =>
    let oc := fun l => [mqA w, mqN (mqK "optConfig") [mqL l]]
    if w.startsWith "k" then mqN (.str (if w = "kernel_rfl!" then `PyProof.Rows else `PySem.W) ("tactic" ++ w.capitalize)) [mqA w]
    else if w = "rfl" then mqN (mqK "tacticRfl") [mqA w]
    else if w = "decide" || w = "omega" || w = "lia" then mqN (mqK w) (oc [])
    else if w = "decide+" then mqN (mqK "decide") (mqA "decide" :: (oc [mqN (mqK "configItem") [mqN (mqK "posConfigItem") [mqA "+", mkIdent `kernel]]]).tail)
    else mqN (mqK w) [mqA w]
  | _, _, x => x
def mqT (s : String) : MacroM Syntax := do
  let t := mqExp 60 (mqTree s)
  let tab ← (mqWs 60 t).mapM fun w => do
    let v := if w.startsWith "?" then (w.drop 1).toString else w
    let n := v.toName
    let m ← Macro.addMacroScope n
    return (v, mkIdent m, Syntax.ident .none v.toRawSubstring m ((← Macro.resolveGlobalName n).map fun p => .decl p.1 p.2))
  let f := fun w => (tab.find? fun p => p.1 = w).map (·.2)
  return mqGo (fun w => ((f w).map fun p => p.2).getD .missing) (fun w => ((f w).map fun p => p.1.raw).getD .missing) 60 false t
end
end
section
open PySem PySem.Calls PyProof.Rows PySem.W PySem.Spec
theorem hideTok {M : Model} {A : Around} {α : Type} {t : Sem α} {E : Value → Shared → Prop} {Q : α → Shared → Prop} {h : Heap} {g : Array GenState} {d : Drawn} {n : Nat} {o : OsState} (H : ∀ k, wpAny M A t Q E ⟨h, g, d, k, o⟩) : wpAny M A t Q E ⟨h, g, d, n, o⟩ := H n
end
section
open PySem PySem.Calls PyProof.Rows PySem.W
open Sem (wp)

section
variable {M : Model} {A : Around} {R : GenEnd} {Y : Protocol} {n : Nat} {s₀ : Shared} {c : Code} {fs : List Frame} {s : Shared} {env : Env}
theorem seg_bindw {α β : Type} {m : Sem α} {f : α → Sem β} {K : β → Sem Fin} {H : Value → Sem Fin} {gd : Bool → Bool} {lv : List Value → List Value}
    (h : wpAny M (A.over c fs) m (fun a s' => Seg M A R Y n s₀ c ((f a).wrap K H gd lv) fs s') (fun x s' => Seg M A R Y n s₀ c (H x) fs s') s) :
    Seg M A R Y n s₀ c ((m >>= f).wrap K H gd lv) fs s := by
  rw [Sem.bind_eq_wrap', Sem.wrap_wrap]
  exact seg_wrap h
theorem seg_runOwn {c' : Code} {K : Flow → Sem Fin} {H : Value → Sem Fin} {gd : Bool → Bool} {lv : List Value → List Value}
    (h : ∀ p, Seg M A R Y n s₀ c' (M.den c')
      (.ret (fun r => ((match r with | .ok f => (.pure f : Sem Flow) | .error e => .raise e).onRaise fun (x : Value) => do
        if (← field x 1) == Value.none then unsupported "frame.own-activation:exception-without-traceback"
        setFlight x env.frame).wrap K H gd lv) none (gd false) (lv []) c p [] :: fs) s) :
    Seg M A R Y n s₀ c ((runOwn c' env).wrap K H gd lv) fs s :=
  seg_call h
end

section
variable {prog : Program} {w : World} {A : Around} {R : GenEnd} {Y : Protocol} {n : Nat} {s₀ : Shared} {fs : List Frame} {s : Shared} {env : Env}
noncomputable abbrev noteH (env : Env) : Value → Sem Fin := fun e => (do noteFrame e env; theTreesLotGoes e : Sem Unit).bind fun _ => .raise e
theorem seg_forLoop {target : Expr} {it : Value} {body orelse : List Stmt}
    (h : wpAny (model prog w) (A.over (.forLoop target it body orelse env) fs) (pyNext it) (fun r s' => match r with
        | none => Seg (model prog w) A R Y n s₀ (.forLoop target it body orelse env) (.pure (.again (.block orelse env))) fs s'
        | some v => wpAny (model prog w) (A.over (.forLoop target it body orelse env) fs) (letOwnedTupleGo target it v) (fun _ s₁ =>
            wpAny (model prog w) (A.over (.forLoop target it body orelse env) fs) (assign target env v) (fun _ s₂ =>
              Seg (model prog w) A R Y n s₀ (.forLoop target it body orelse env) ((execs body env).wrap (fun f => match f with
                | .next | .cont => .pure (.again (.forLoop target it body orelse env))
                | .brk => .pure (.done .next)
                | .ret v => .pure (.done (.ret v))) (noteH env) id id) fs s₂) (fun _ _ => False) s₁) (fun _ _ => False) s')
      (fun _ _ => False) s) :
    Seg (model prog w) A R Y n s₀ (.forLoop target it body orelse env) ((model prog w).den (.forLoop target it body orelse env)) fs s := by
  show Seg _ A R Y n s₀ _ ((forTurn target it body orelse env).onRaise (fun x => do noteFrame x env; theTreesLotGoes x)) fs s
  unfold forTurn
  rw [Sem.onRaise_eq_wrap]
  refine seg_bindw (wpAny_standAt ?_)
  refine seg_bindw (wpAny_onRaise (wpAny_mono h (fun r s' hr => ?_) fun _ _ z => z.elim))
  cases r with
  | none => exact hr
  | some v =>
    refine seg_bindw (wpAny_mono hr (fun _ s₁ h₁ => ?_) fun _ _ z => z.elim)
    refine seg_bindw (wpAny_mono h₁ (fun _ s₂ h₂ => ?_) fun _ _ z => z.elim)
    rw [Sem.bind_eq_wrap', Sem.wrap_wrap]
    exact cast (congrArg (fun t => Seg (model prog w) A R Y n s₀ (.forLoop target it body orelse env) t fs s₂) (Sem.wrap_congr (execs body env) id id (fun f => by cases f <;> rfl) (fun e => rfl))) h₂
theorem entry_yf : entryFor table "proto.yield_from" = some Builtin.«proto.yield_from» := entryFor_of_tree (by kernel_rfl)
theorem den_builtin {id : String} {b : Builtin} (h : entryFor table id = some b) (args : Args) : (model prog w).den (.builtin id args) = b args := by
  show (match entryFor table id with | some b => b args | none => _) = _
  rw [h]
theorem li_close : typeLookup (.type "list_iterator") "close" = pure none := by rw [typeLookup_type, builtinLookup_eq_fast]; kernel_rfl
noncomputable abbrev cYF (J : Addr) : Code := .builtin "proto.yield_from" ⟨[.ref J, .bool false, .none], []⟩
theorem slept_li {A : Around} {E : Value → Shared → Prop} {s : Shared} {J l : Addr} {i : Nat} {b : Bool} {Q : Unit → Shared → Prop} (hit : s.heap.IsListIter J l i) (h : Q () s) :
    wpAny (model prog w) A (Builtin.Generator.sleptOver (.ref J) b) Q E s := by
  obtain ⟨o, ho, hc, hd⟩ := hit
  unfold Builtin.Generator.sleptOver
  refine wpAny_bind (wpAny_load ho ?_)
  rw [if_pos (by rw [hc]; decide)]
  exact wpAny_pure h

theorem li_step_item {A : Around} {E : Value → Shared → Prop} {s : Shared} {it l : Addr} {i : Nat} {items : Array Value} {x : Value} {Q : Option Value → Shared → Prop} (hit : s.heap.IsListIter it l i)
    (hl : s.heap.IsList l items) (hx : items[i]? = some x)
    (hQ : ∀ h', h'.IsListIter it l (i + 1) → Heap.SameBut it s.heap h' → Q (some x) { s with heap := h' }) :
    wpAny (model prog w) A (callSpecial? (.ref it) (Str.ofString "__next__")) Q E s := by
  obtain ⟨o, ho, hc, hd⟩ := id hit
  obtain ⟨ol, hol, _, nl, hdl⟩ := hl
  refine wpAny_callSpecial?_slot (name := Str.ofString "__next__") hit.typeIs slot_listiter_next
    (wpAny_call_entry slot_listiter_next hit.typeIs entry_listiter_next ?_ (args_listiter_next _))
  show wpAny _ _ (field (.ref it) 0 >>= _) _ _ s
  refine wpAny_bind (wpAny_field ho hd (x := .ref l) rfl ?_)
  show wpAny _ _ (if (Value.ref l == Value.none) = true then _ else _) _ _ s
  rw [if_neg (show ¬ ((Value.ref l == Value.none) = true) from Bool.false_ne_true)]
  show wpAny _ _ (field (.ref it) 1 >>= _) _ _ s
  refine wpAny_bind (wpAny_field ho hd (x := .int i 0) rfl ?_)
  show wpAny _ _ (seqItems? (.ref l) >>= _) _ _ s
  refine wpAny_bind (wpAny_seqItems hol hdl ?_)
  simp only [Int.toNat_natCast, hx]
  refine wpAny_bind (wpAny_setField ho hd (by simp) (wpAny_pure ⟨x, rfl, hQ _ ?_ (Heap.SameBut.update ..)⟩))
  exact ⟨_, Heap.get?_update_self _ ho (Obj.isFreed_of_fields (Obj.data_mapFields hd _)), (Obj.cls_mapFields ..).trans hc, by
    rw [Obj.data_mapFields hd]; simp [rawInt]⟩

theorem li_step_end {A : Around} {E : Value → Shared → Prop} {s : Shared} {it l : Addr} {i : Nat} {items : Array Value} {Q : Option Value → Shared → Prop} (hh : A.handled = none) (hit : s.heap.IsListIter it l i)
    (hl : s.heap.IsList l items) (hx : items[i]? = none)
    (hE : ∀ e h' o, h'.get? e = some o → o.cls = .type "StopIteration" → (∃ vs, o.data = .fields vs ∧ vs[5]? = some .none) → Heap.ExtBut it s.heap h' → E (.ref e) { s with heap := h' }) :
    wpAny (model prog w) A (callSpecial? (.ref it) (Str.ofString "__next__")) Q E s := by
  obtain ⟨o, ho, hc, hd⟩ := id hit
  obtain ⟨ol, hol, _, nl, hdl⟩ := hl
  refine wpAny_callSpecial?_slot (name := Str.ofString "__next__") hit.typeIs slot_listiter_next
    (wpAny_call_entry slot_listiter_next hit.typeIs entry_listiter_next ?_ (args_listiter_next _))
  show wpAny _ _ (field (.ref it) 0 >>= _) _ _ s
  refine wpAny_bind (wpAny_field ho hd (x := .ref l) rfl ?_)
  show wpAny _ _ (if (Value.ref l == Value.none) = true then _ else _) _ _ s
  rw [if_neg (show ¬ ((Value.ref l == Value.none) = true) from Bool.false_ne_true)]
  show wpAny _ _ (field (.ref it) 1 >>= _) _ _ s
  refine wpAny_bind (wpAny_field ho hd (x := .int i 0) rfl ?_)
  show wpAny _ _ (seqItems? (.ref l) >>= _) _ _ s
  refine wpAny_bind (wpAny_seqItems hol hdl ?_)
  simp only [Int.toNat_natCast, hx]
  refine wpAny_bind (wpAny_rule (wpAny_bind (wpAny_setField ho hd (by simp) ?_)))
  show wpAny _ _ (newExc (.type "StopIteration") [] >>= _) _ _ _
  refine wpAny_bind ?_
  simp only [newExc, newTuple]
  refine wpAny_bind (wpAny_newObj_type ?_ (by size_fits))
  refine wpAny_bind (m := firstArgMember _ _) (wpAny_of_eq (a := Value.none) (by first | rfl | (simp only [firstArgMember]; rfl)) ?_)
  refine wpAny_newObj_type ?_ (by size_fits)
  simp only [raiseNew]
  refine wpAny_bind (wpAny_handled ?_)
  rw [show A.in1.handled = none from hh]
  refine wpAny_bind (wpAny_pure (wpAny_throw ?_))
  exact hE _ _ _ (Heap.get?_push_size _ rfl) rfl ⟨_, rfl, rfl⟩ (((Heap.SameBut.update ..).extBut.push _).push _)

theorem seg_yf1 {J l : Addr} {i : Nat} {items : Array Value} {x : Value} (hfs : splitAtGen fs = none) (hfg : fs.any Frame.guarded = false)
    (hit : s.heap.IsListIter J l i) (hl : s.heap.IsList l items) (hx : items[i]? = some x)
    (h : ∀ h' κ, h'.IsListIter J l (i + 1) → Heap.SameBut J s.heap h' → (∀ s'' : Shared, s''.heap.IsListIter J l (i + 1) → Seg (model prog w) A R Y n s'' (cYF J) ((model prog w).den (cYF J)) fs s'' → κ (.send .none) s'') → Y n s₀ x { s with heap := h' } κ) :
    Seg (model prog w) A R Y (n + 1) s₀ (cYF J) ((model prog w).den (cYF J)) fs s := by
  rw [den_builtin entry_yf]
  unfold Builtin.«proto.yield_from»
  dsimp only
  refine seg_bind (wpAny_pure ?_)
  refine seg_bind (wpAny_attempt (wpAny_holding ?_))
  rw [if_neg (by decide), if_pos (by decide)]
  refine wpAny_bind (wpAny_rule ?_)
  refine wpAny_bind (li_step_item hit hl hx fun h' hit' hsb => ?_)
  refine wpAny_pure ?_
  dsimp only
  refine seg_bind (wpAny_typeOf hit'.typeIs ?_)
  dsimp only
  refine seg_bind (wpAny_of_eq li_close ?_)
  refine seg_bind (wpAny_pure ?_)
  refine seg_bind (slept_li hit' ?_)
  show Seg _ A R Y (n + 1) s₀ _ (.yield x false [] fun r => _) fs _
  refine seg_yield hfs rfl hfg ?_
  refine h h' _ hit' hsb fun s'' hi hs => ?_
  show Seg _ A R Y n s'' _ (Builtin.Generator.sleptOver (.ref J) false >>= _) fs s''
  refine seg_bind (slept_li hi ?_)
  exact seg_again (plainId_quiet (id := "proto.yield_from") (by decide +kernel) _) hs

theorem seg_yf2 {J l : Addr} {i : Nat} {items : Array Value} (hh : (A.over (cYF J) fs).handled = none)
    (hit : s.heap.IsListIter J l i) (hl : s.heap.IsList l items) (hx : items[i]? = none)
    (h : ∀ h', Heap.ExtBut J s.heap h' → Seg (model prog w) A R Y n s₀ (cYF J) (.pure (.done (.ret .none))) fs { s with heap := h' }) :
    Seg (model prog w) A R Y n s₀ (cYF J) ((model prog w).den (cYF J)) fs s := by
  rw [den_builtin entry_yf]
  unfold Builtin.«proto.yield_from»
  dsimp only
  refine seg_bind (wpAny_pure ?_)
  refine seg_bind (wpAny_attempt (wpAny_holding ?_))
  rw [if_neg (by decide), if_pos (by decide)]
  refine wpAny_bind (wpAny_rule ?_)
  refine wpAny_bind (li_step_end hh hit hl hx fun e h' o ho hc hv hx' => ?_)
  dsimp only
  obtain ⟨vs, hvs, h5⟩ := hv
  have hT : Shared.TypeIs { s with heap := h' } (.ref e) "StopIteration" := ⟨_, ho, hc⟩
  refine seg_bind ?_
  unfold Builtin.Generator.endsTheTurnAsAValue Builtin.Generator.isStopAndMetaclass
  refine wpAny_bind (wpAny_bind (wpAny_typeOf hT ?_))
  refine wpAny_bind (wpAny_of_eq isSubtype_stop ?_)
  refine wpAny_bind (wpAny_of_eq (a := Value.type "type") (by first | rfl | kernel_rfl) (wpAny_pure ?_))
  rw [if_neg (by decide)]
  refine wpAny_pure ?_
  rw [if_pos rfl]
  first | rw [if_neg (by decide)] | skip
  refine seg_bind (wpAny_rule ?_)
  refine seg_bind (wpAny_field ho hvs h5 ?_)
  exact h h' hx'

theorem seg_runValue {c c' : Code} {K : Value → Sem Fin} {H : Value → Sem Fin} {gd : Bool → Bool} {lv : List Value → List Value}
    (h : ∀ p, Seg (model prog w) A R Y n s₀ c' ((model prog w).den c')
      (.ret (fun r => ((match r with | .ok f => (.pure f : Sem Flow) | .error e => .raise e) >>= fun f => match f with | .ret v => (pure v : Sem Value) | _ => unsupported "internal:call-without-return-value").wrap K H gd lv) none (gd false) (lv []) c p [] :: fs) s) :
    Seg (model prog w) A R Y n s₀ c ((runValue c').wrap K H gd lv) fs s :=
  seg_call h

noncomputable abbrev sNs : Str := Str.ofString "namespaces"
noncomputable abbrev sSt : Str := Str.ofString "ns_stack"
noncomputable abbrev sRv : Str := Str.ofString "_reversed"
noncomputable abbrev ifS (pa pb pc pd pe : Pos) : Stmt := .If (.Name sNs pa) [.Expr (.YieldFrom (.Name sNs pb) pc) pd] [] pe

structure NsEnv (env : Env) : Prop where
  kind : env.scope.kind = .function
  k1 : env.kindOf sNs = some .local
  k2 : env.kindOf sSt = some .local
  k3 : env.kindOf sRv = some .local
  inter : interactive env = false
  plain : (env.scope.kind == .class || (env.scope.kind == .module && env.locals != env.globals)) = false

theorem if_tree {test : Expr} {body orelse : List Stmt} {pos : Pos} {env : Env} : exec (.If test body orelse pos) env = (do standAt pos; if ← isTrue test env (eval test env) then execs body env else execs orelse env) := rfl
theorem isTrue_Name {x : Str} {pos : Pos} {env : Env} {whole : Sem Value} : PySem.isTrue (.Name x pos) env whole = (do let v ← whole; standAt pos; holding [v] (truthy v)) := rfl

theorem seg_ns_empty {pa pb pc pd pe : Pos} {e : Addr} {m : Str → Option Value} (ne : NsEnv env) {K : Flow → Sem Fin} {H : Value → Sem Fin}
    {c : Code} (hm : s.heap.Ns env.locals m) (hv : m sNs = some (.ref e)) (hl : s.heap.IsList e #[])
    (h : ∀ tk, Seg (model prog w) A R Y n s₀ c (K .next) fs { s with toks := tk }) :
    Seg (model prog w) A R Y n s₀ c ((execs [ifS pa pb pc pd pe] env).wrap K H id id) fs s := by
  refine seg_execs_cons ?_
  rw [if_tree]
  refine seg_bindw (wpAny_standAt ?_)
  refine seg_bindw ?_
  rw [isTrue_Name]
  refine wpAny_bind (wpAny_Name (wpAny_loadName_local ne.kind ne.k1 hm hv ?_))
  refine wpAny_bind (wpAny_standAt (wpAny_holding (wpAny_truthy_list hl (by decide) ?_)))
  have hb : (!(#[] : Array Value).isEmpty) = false := rfl
  simp only [hb, Bool.false_eq_true, if_false]
  exact seg_execs_nil (h _)

theorem bind_wrap_eq {α β : Type} {m : Sem α} {f : α → Sem β} {K : β → Sem Fin} {H : Value → Sem Fin} {gd : Bool → Bool} {lv : List Value → List Value} :
    (m >>= f).wrap K H gd lv = m.wrap (fun x => (f x).wrap K H gd lv) H gd lv := by
  rw [Sem.bind_eq_wrap', Sem.wrap_wrap]; rfl

theorem seg_ns_full {pa pb pc pd pe : Pos} {n0 : Addr} {tp : Value} {m : Str → Option Value} (ne : NsEnv env) {K : Flow → Sem Fin} {H : Value → Sem Fin}
    {c : Code} (hfs : splitAtGen fs = none) (hfg : fs.any Frame.guarded = false) (hmk : (marksOver fs (A.handled, A.handled)).1 = none)
    (hm : s.heap.Ns env.locals m) (hv : m sNs = some (.ref n0)) (hl : s.heap.IsList n0 #[tp])
    (h : ∀ h' tk κ, h'.IsListIter s.heap.objs.size n0 1 → (∀ b o, s.heap.get? b = some o → h'.get? b = some o) →
      (∀ s'' : Shared, s''.heap.IsListIter s.heap.objs.size n0 1 → s''.heap.IsList n0 #[tp] → (∀ h'', Heap.ExtBut s.heap.objs.size s''.heap h'' → Seg (model prog w) A R Y n s'' c (K .next) fs { s'' with heap := h'' }) → κ (.send .none) s'') →
      Y n s₀ tp { s with heap := h', toks := tk } κ) :
    Seg (model prog w) A R Y (n + 1) s₀ c ((execs [ifS pa pb pc pd pe] env).wrap K H id id) fs s := by
  refine seg_execs_cons ?_
  rw [if_tree]
  refine seg_bindw (wpAny_standAt ?_)
  refine seg_bindw ?_
  rw [isTrue_Name]
  refine wpAny_bind (wpAny_Name (wpAny_loadName_local ne.kind ne.k1 hm hv ?_))
  refine wpAny_bind (wpAny_standAt (wpAny_holding (wpAny_truthy_list hl (show ((1 : Nat) : Int) < 2 ^ 63 by decide) ?_)))
  have hb : (!(#[tp] : Array Value).isEmpty) = true := rfl
  simp only [hb, if_true]
  refine seg_execs_cons ?_
  rw [exec_Expr env _ pd ne.inter rfl, arm_eval_YieldFrom]
  refine seg_bindw (wpAny_standAt ?_)
  rw [bind_wrap_eq]
  refine seg_bindw (wpAny_Name (wpAny_loadName_local ne.kind ne.k1 hm hv ?_))
  refine seg_bindw (wpAny_standAt ?_)
  unfold yieldFrom
  refine seg_bindw (wpAny_typeOf hl.typeIs ?_)
  rw [if_neg (by decide)]
  refine seg_bindw (wpAny_holding (wpAny_pyIter_list hl ?_))
  refine seg_runValue fun p => ?_
  have hit : (s.heap.push { cls := .type "list_iterator", data := .fields #[.ref n0, .int 0 0] }).IsListIter s.heap.objs.size n0 0 := ⟨_, Heap.get?_push_size _ rfl, rfl, rfl⟩
  have hl' : (s.heap.push { cls := .type "list_iterator", data := .fields #[.ref n0, .int 0 0] }).IsList n0 #[tp] := let ⟨o, ho, r⟩ := hl; ⟨o, Heap.get?_push_of_some _ ho, r⟩
  refine seg_yf1 (by simp only [splitAtGen, hfs]; rfl) (by simp only [List.any_cons, Frame.guarded, hfg]; rfl) hit hl' rfl fun h' κ hit' hsb hk => ?_
  refine h h' _ κ hit' (fun b o e => (hsb.2 b (Nat.ne_of_lt (Heap.lt_size e))).trans (Heap.get?_push_of_some _ e)) fun s'' a1 a2 a3 => hk s'' a1 ?_
  refine seg_yf2 hmk a1 a2 rfl fun h'' hx => ?_
  refine seg_leaf (.ok (.ret .none)) ?_
  exact a3 h'' hx

noncomputable abbrev cNS (I : Addr) (pf pa pb pc pd pe : Pos) (env : Env) : Code := .forLoop (.Name sNs pf) (.ref I) [ifS pa pb pc pd pe] [] env

structure NsInv (L I st n0 : Addr) (tp : Value) (items : Array Value) (h : Heap) : Prop where
  stack : h.IsList st items
  first : h.IsList n0 #[tp]
  more : ∀ (k : Nat) (v : Value), 0 < k → items[k]? = some v → ∃ e, v = .ref e ∧ e ≠ L ∧ e ≠ I ∧ h.IsList e #[]
theorem isList_keep {h h' : Heap} {l : Addr} {xs : Array Value} (x : h.IsList l xs) (k : ∀ o, h.get? l = some o → h'.get? l = some o) : h'.IsList l xs := let ⟨o, ho, r⟩ := x; ⟨o, k o ho, r⟩
theorem NsInv.keep {L I st n0 : Addr} {tp : Value} {items : Array Value} {h h' : Heap} (x : NsInv L I st n0 tp items h) (k : ∀ b o, b ≠ L → b ≠ I → h.get? b = some o → h'.get? b = some o)
    (d1 : st ≠ L) (d2 : st ≠ I) (d3 : n0 ≠ L) (d4 : n0 ≠ I) : NsInv L I st n0 tp items h' :=
  ⟨isList_keep x.stack fun o => k st o d1 d2, isList_keep x.first fun o => k n0 o d3 d4, fun j v hj hv => let ⟨e, a, b, c, d⟩ := x.more j v hj hv; ⟨e, a, b, c, isList_keep d fun o => k e o b c⟩⟩

theorem seg_ns_loop {pa pb pc pd pe pf : Pos} {I st n0 : Addr} {tp : Value} {items : Array Value} {sB : Shared} (ne : NsEnv env)
    (hfs : splitAtGen fs = none) (hfg : fs.any Frame.guarded = false) (hmk : (marksOver fs (A.handled, A.handled)).1 = none)
    (d0 : I ≠ env.locals) (d1 : st ≠ env.locals) (d2 : st ≠ I) (d3 : n0 ≠ env.locals) (d4 : n0 ≠ I) (hI : I < sB.heap.objs.size) (h0 : items[0]? = some (.ref n0))
    (hY : ∀ h' tk κ m', h'.IsListIter sB.heap.objs.size n0 1 → h'.IsRevIter I st (-1) → h'.Ns env.locals m' → (∀ b o, b ≠ env.locals → b ≠ I → sB.heap.get? b = some o → h'.get? b = some o) →
      (∀ s'' : Shared, s''.heap.IsListIter sB.heap.objs.size n0 1 → s''.heap.IsList n0 #[tp] → s''.heap.IsRevIter I st (-1) →
        (∀ h'', (∀ b o, b ≠ sB.heap.objs.size → b ≠ I → s''.heap.get? b = some o → h''.get? b = some o) → Seg (model prog w) A R Y 0 s'' (.block [] env) (.pure (.done .next)) fs { s'' with heap := h'' }) → κ (.send .none) s'') →
      Y 0 s₀ tp { sB with heap := h', toks := tk } κ) :
    ∀ (i : Nat) (h : Heap) (tk : Nat) (m : Str → Option Value), i < items.size → h.IsRevIter I st (i : Int) → NsInv env.locals I st n0 tp items h → h.Ns env.locals m →
      (∀ b o, b ≠ env.locals → b ≠ I → sB.heap.get? b = some o → h.get? b = some o) → h.objs.size = sB.heap.objs.size →
      Seg (model prog w) A R Y 1 s₀ (cNS I pf pa pb pc pd pe env) ((model prog w).den (cNS I pf pa pb pc pd pe env)) fs { sB with heap := h, toks := tk } := by
  intro i
  induction i with
  | zero =>
    intro h tk m hi hit hv hm hk hz
    refine seg_forLoop (wpAny_pyNext_rev_item hit hv.stack h0 fun h₁ hit₁ hsb => ?_)
    have hm₁ : h₁.Ns env.locals m := hm.sameBut hsb (Ne.symm d0)
    have hv₁ : NsInv env.locals I st n0 tp items h₁ := hv.keep (fun b o _ b2 e => (hsb.2 b b2).trans e) d1 d2 d3 d4
    refine wpAny_pure (wpAny_assign_Name (wpAny_storeName_local ne.k1 hm₁ (fun h₂ hm₂ hsb₂ => ?_) ne.plain))
    have hv₂ : NsInv env.locals I st n0 tp items h₂ := hv₁.keep (fun b o b1 _ e => (hsb₂.2 b b1).trans e) d1 d2 d3 d4
    have hit₂ : h₂.IsRevIter I st (-1) := by
      have z := hit₁.at fun o e => (hsb₂.2 I d0).trans e
      simpa using z
    have hz₂ : h₂.objs.size = sB.heap.objs.size := (hsb₂.1.trans hsb.1).trans hz
    refine seg_ns_full ne hfs hfg hmk hm₂ (by simp) hv₂.first fun h' tk' κ hj hkp hκ => ?_
    rw [hz₂] at hj hκ
    refine hY h' tk' κ _ hj (hit₂.at fun o e => hkp _ _ e) (hm₂.keeps hkp) (fun b o b1 b2 e => hkp _ _ ((hsb₂.2 b b1).trans ((hsb.2 b b2).trans (hk b o b1 b2 e)))) fun s'' a1 a2 a3 a4 => hκ s'' a1 a2 fun h'' hx => ?_
    refine seg_again rfl (seg_forLoop (wpAny_pyNext_rev_end hmk (a3.at fun o e => hx I o (Nat.ne_of_lt hI) e) fun h₃ hx₃ => ?_))
    refine seg_again rfl ?_
    exact a4 h₃ fun b o b1 b2 e => hx₃ b o b2 (hx b o b1 e)
  | succ i ih =>
    intro h tk m hi hit hv hm hk hz
    obtain ⟨v, hiv⟩ : ∃ v, items[i + 1]? = some v := ⟨items[i + 1], Array.getElem?_eq_getElem hi⟩
    obtain ⟨e, rfl, e1, e2, e3⟩ := hv.more (i + 1) v (Nat.succ_pos _) hiv
    refine seg_forLoop (wpAny_pyNext_rev_item hit hv.stack hiv fun h₁ hit₁ hsb => ?_)
    have hm₁ : h₁.Ns env.locals m := hm.sameBut hsb (Ne.symm d0)
    have hv₁ : NsInv env.locals I st n0 tp items h₁ := hv.keep (fun b o _ b2 e => (hsb.2 b b2).trans e) d1 d2 d3 d4
    refine wpAny_pure (wpAny_assign_Name (wpAny_storeName_local ne.k1 hm₁ (fun h₂ hm₂ hsb₂ => ?_) ne.plain))
    have hv₂ : NsInv env.locals I st n0 tp items h₂ := hv₁.keep (fun b o b1 _ e => (hsb₂.2 b b1).trans e) d1 d2 d3 d4
    have he₂ : h₂.IsList e #[] := isList_keep e3 fun o z => (hsb₂.2 e e1).trans ((hsb.2 e e2).trans z)
    refine seg_ns_empty ne hm₂ (by simp) he₂ fun tk' => ?_
    refine seg_again rfl (ih h₂ tk' _ (Nat.lt_of_succ_lt hi) ?_ hv₂ hm₂ (fun b o b1 b2 z => (hsb₂.2 b b1).trans ((hsb.2 b b2).trans (hk b o b1 b2 z))) ((hsb₂.1.trans hsb.1).trans hz))
    have z := hit₁.at fun o z => (hsb₂.2 I d0).trans z
    have ec : (((i + 1 : Nat) : Int) - 1) = (i : Int) := by lia
    rw [ec] at z
    exact z

noncomputable def nsP (I : Addr) : Nat → Shared → Shared → Prop := fun n s₀ s₁ => n = 0 ∧ ∃ h, s₁ = { s₀ with heap := h } ∧ ∀ b o, b ≠ I + 1 → b ≠ I → s₀.heap.get? b = some o → h.get? b = some o
noncomputable def nsR (I : Addr) : GenEnd := fun n s₀ r s₁ => r = .ok (.ret .none) ∧ nsP I n s₀ s₁
noncomputable def nsY (L I st n0 : Addr) (tp : Value) : Protocol := fun _ s₀ v s' κ => v = tp ∧ ∃ h' tk' m', s' = { s₀ with heap := h', toks := tk' } ∧ h'.IsListIter (I + 1) n0 1 ∧ h'.IsRevIter I st (-1) ∧ h'.IsList n0 #[tp] ∧ h'.Ns L m' ∧
  (∀ b o, b ≠ L → s₀.heap.get? b = some o → h'.get? b = some o) ∧ ∀ s'' : Shared, s''.heap.IsListIter (I + 1) n0 1 → s''.heap.IsList n0 #[tp] → s''.heap.IsRevIter I st (-1) → κ (.send .none) s''
noncomputable abbrev nsBody (pa pb pc pd pe pf pg ph pi pj : Pos) : List Stmt := [.For (.Name sNs pf) (.Call (.Name sRv pg) [.Name sSt ph] [] pi) [ifS pa pb pc pd pe] [] pj]

theorem seg_ns_all {pa pb pc pd pe pf pg ph pi pj : Pos} {st n0 : Addr} {tp : Value} {items : Array Value} {m : Str → Option Value} (ne : NsEnv env) (hh : A.handled = none)
    (hm : s.heap.Ns env.locals m) (m1 : m sSt = some (.ref st)) (m2 : m sRv = some (.type "reversed"))
    (h0 : items[0]? = some (.ref n0)) (hl : s.heap.IsList st items) (hl0 : s.heap.IsList n0 #[tp])
    (hmore : ∀ (k : Nat) (v : Value), 0 < k → items[k]? = some v → ∃ e, v = .ref e ∧ e ≠ env.locals ∧ s.heap.IsList e #[])
    (d1 : st ≠ env.locals) (d3 : n0 ≠ env.locals) :
    Seg (model prog w) A (nsR s.heap.objs.size) (nsY env.locals s.heap.objs.size st n0 tp) 1 s (.func (nsBody pa pb pc pd pe pf pg ph pi pj) env) ((model prog w).den (.func (nsBody pa pb pc pd pe pf pg ph pi pj) env)) [] s := by
  refine seg_func (seg_execs_cons ?_)
  rw [exec_For]
  refine seg_bindw (wpAny_standAt ?_)
  refine seg_bindw (PyProof.Rows.Call_Name1 (wpAny_Name (wpAny_loadName_local ne.kind ne.k3 hm m2 ?_)))
  refine PySem.callWith_type1 (wpAny_Name (wpAny_loadName_local ne.kind ne.k2 hm m1 ?_))
  refine call_reversed_list hl ?_
  refine seg_bindw (wpAny_of_eq (a := Value.ref s.heap.objs.size) rfl ?_)
  refine seg_bindw (wpAny_standAt ?_)
  have hlt : ∀ {b o}, s.heap.get? b = some o → b ≠ s.heap.objs.size := fun e => Nat.ne_of_lt (Heap.lt_size e)
  have hpos : 0 < items.size := by
    rcases Nat.eq_zero_or_pos items.size with z | z
    · rw [Array.getElem?_eq_none (by lia)] at h0; cases h0
    · exact z
  have hit : (s.heap.push (revObj st ((items.size : Int) - 1))).IsRevIter s.heap.objs.size st ((items.size : Int) - 1) := ⟨_, Heap.get?_push_size _ rfl, rfl, rfl⟩
  refine seg_bindw (wpAny_holding (wpAny_pyIter_revIter hit ?_))
  refine seg_runOwn fun p => ?_
  have hm' := hm.push (revObj st ((items.size : Int) - 1))
  have hz : (s.heap.push (revObj st ((items.size : Int) - 1))).objs.size = s.heap.objs.size + 1 := Heap.size_push ..
  have kp : ∀ b o, s.heap.get? b = some o → (s.heap.push (revObj st ((items.size : Int) - 1))).get? b = some o := fun b o e => Heap.get?_push_of_some _ e
  have dL : s.heap.objs.size ≠ env.locals := Nat.ne_of_gt hm.lt
  have dst : st ≠ s.heap.objs.size := let ⟨_, ho, _⟩ := hl; hlt ho
  have dn0 : n0 ≠ s.heap.objs.size := let ⟨_, ho, _⟩ := hl0; hlt ho
  have hcast : ((items.size : Int) - 1) = ((items.size - 1 : Nat) : Int) := by lia
  rw [hcast] at hit
  refine seg_ns_loop (sB := { s with heap := s.heap.push (revObj st ((items.size : Int) - 1)) }) ne (by rfl) (by rfl) (by show A.handled = none; exact hh) dL d1 dst d3 dn0 (by show _ < (s.heap.push _).objs.size; rw [hz]; exact Nat.lt_succ_self _) h0 ?_ (items.size - 1) _ s.toks m (by lia) (by rw [hcast]; exact hit)
    ⟨isList_keep hl fun o => kp _ o, isList_keep hl0 fun o => kp _ o, fun k v hk hv => ?_⟩ hm' (fun _ _ _ _ e => e) rfl
  · intro h' tk κ m' y1 y2 y3 y4 y5
    have y1' : h'.IsListIter (s.heap.objs.size + 1) n0 1 := by rw [← hz]; exact y1
    refine ⟨rfl, h', tk, m', rfl, y1', y2, isList_keep hl0 fun o e => y4 _ o d3 dn0 (kp _ o e), y3, fun b o b1 e => y4 b o b1 (hlt e) (kp b o e), fun s'' z1 z2 z3 => y5 s'' (by show s''.heap.IsListIter (s.heap.push _).objs.size n0 1; rw [hz]; exact z1) z2 z3 fun h'' hx => ?_⟩
    refine seg_leaf (.ok .next) ?_
    refine seg_execs_nil (env := env) ?_
    refine seg_end (.ok (.ret .none)) ⟨rfl, rfl, h'', rfl, fun b o b1 b2 e => hx b o (by show b ≠ (s.heap.push _).objs.size; rw [hz]; exact b1) b2 e⟩
  · obtain ⟨e, e1, e2, e3⟩ := hmore k v hk hv
    exact ⟨e, e1, e2, (let ⟨_, ho, _⟩ := e3; hlt ho), isList_keep e3 fun o => kp _ o⟩

noncomputable def NsSusp (prog : Program) (w : World) (A : Around) (L I st n0 : Addr) (tp : Value) (gs : GenState) : Prop :=
  ∀ s'' : Shared, s''.heap.IsListIter (I + 1) n0 1 → s''.heap.IsList n0 #[tp] → s''.heap.IsRevIter I st (-1) → gs.Goes (model prog w) A.in1 (nsR I) (nsY L I st n0 tp) 0 (.send .none) s''

theorem ns_next1 {A : Around} {E : Value → Shared → Prop} {s : Shared} {env : Env} {pa pb pc pd pe pf pg ph pi pj : Pos} {G g st n0 : Addr} {tp : Value} {items : Array Value} {m : Str → Option Value} {Q : Option Value → Shared → Prop}
    (ne : NsEnv env) (hh : A.handled = none) (hlim : s.heap.NoLimit) (hroom : A.depth < recursionLimit) (hg : s.heap.IsGen G g) (hgs : s.gens[g]? = some (.fresh (.func (nsBody pa pb pc pd pe pf pg ph pi pj) env)))
    (hm : s.heap.Ns env.locals m) (m1 : m sSt = some (.ref st)) (m2 : m sRv = some (.type "reversed"))
    (h0 : items[0]? = some (.ref n0)) (hl : s.heap.IsList st items) (hl0 : s.heap.IsList n0 #[tp])
    (hmore : ∀ (k : Nat) (v : Value), 0 < k → items[k]? = some v → ∃ e, v = .ref e ∧ e ≠ env.locals ∧ s.heap.IsList e #[])
    (d1 : st ≠ env.locals) (d3 : n0 ≠ env.locals)
    (hQ : ∀ h' tk' gs', h'.IsListIter (s.heap.objs.size + 1) n0 1 → h'.IsRevIter s.heap.objs.size st (-1) → (∃ m', h'.Ns env.locals m') → (∀ b o, b ≠ env.locals → s.heap.get? b = some o → h'.get? b = some o) →
      NsSusp prog w A env.locals s.heap.objs.size st n0 tp gs' → Q (some tp) { s with heap := h', toks := tk', gens := s.gens.setIfInBounds g gs' }) :
    wpAny (model prog w) A (pyNext (.ref G)) Q E s := by
  refine wpAny_pyNext_gen (n := 1) (P := nsP s.heap.objs.size) (Y := nsY env.locals s.heap.objs.size st n0 tp) hh hlim hroom hg hgs ⟨rfl, ?_⟩ (fun v s₁ gs' hy => ?_) (fun s₁ hp => ?_)
  · exact seg_ns_all (s := s.setGen g .running) (A := A.in1) ne hh hm m1 m2 h0 hl hl0 hmore d1 d3
  · obtain ⟨rfl, h', tk', m', rfl, y1, y2, y3, y4, y5, y6⟩ := hy
    have e : (({ s.setGen g .running with heap := h', toks := tk' } : Shared).setGen g gs') = { s with heap := h', toks := tk', gens := s.gens.setIfInBounds g gs' } := by
      unfold Shared.setGen
      simp only [Array.setIfInBounds_setIfInBounds]
    have q := hQ h' tk' gs' y1 y2 ⟨m', y4⟩ y5 y6
    rw [← e] at q
    exact q
  · exact absurd hp.1 (by decide)

theorem ns_next2 {A : Around} {E : Value → Shared → Prop} {s : Shared} {G g L I st n0 : Addr} {tp : Value} {gs : GenState} {Q : Option Value → Shared → Prop}
    (hh : A.handled = none) (hlim : s.heap.NoLimit) (hroom : A.depth < recursionLimit) (hg : s.heap.IsGen G g) (hgs : s.gens[g]? = some gs) (hS : NsSusp prog w A L I st n0 tp gs)
    (a1 : s.heap.IsListIter (I + 1) n0 1) (a2 : s.heap.IsRevIter I st (-1)) (a3 : s.heap.IsList n0 #[tp])
    (hQ : ∀ h', (∀ b o, b ≠ I + 1 → b ≠ I → s.heap.get? b = some o → h'.get? b = some o) → Q none { s with heap := h', gens := s.gens.setIfInBounds g .finished }) :
    wpAny (model prog w) A (pyNext (.ref G)) Q E s := by
  refine wpAny_pyNext_gen (n := 0) (P := nsP I) (Y := nsY L I st n0 tp) hh hlim hroom hg hgs (hS (s.setGen g .running) a1 a3 a2) (fun v s₁ gs' hy => ?_) (fun s₁ hp h' hk => ?_)
  · obtain ⟨rfl, h', tk', m', rfl, y1, y2, y3, y4, y5, y6⟩ := hy
    exact (y6 { s with heap := h' } y1 y3 y2).elim
  · obtain ⟨_, h₁, rfl, hk₁⟩ := hp
    have e : ({ ({ s.setGen g .running with heap := h₁ } : Shared).setGen g .finished with heap := h' } : Shared) = { s with heap := h', gens := s.gens.setIfInBounds g .finished } := by
      unfold Shared.setGen
      simp only [Array.setIfInBounds_setIfInBounds]
    have q := hQ h' fun b o b1 b2 z => hk b o (hk₁ b o b1 b2 z)
    rw [← e] at q
    exact q
end
end
section
open PySem PySem.Calls PyProof.Rows PySem.W PySem.Spec

noncomputable abbrev genObj (g : Nat) (nm qn : Str) (t : Tok) : Obj := { cls := .type "generator", data := .fields #[.int g 0, .str nm t, .str qn (t + 1)] }
section
variable {prog : Program} {w : World} {A : Around} {E : Value → Shared → Prop} {s : Shared} {K : Frag} {L : Addr} {h₀ : Heap} {m : Str → Option Value} {news : List (Addr × Obj)} {Q : Value → Shared → Prop}

theorem k_callGen {name qual : Str} {params : Arguments} {body : List Stmt} {scope : Scope} {dV kV doc pm cdv ct oc : Value} {an od : Option Addr} {osl : Array (Option Value)} {f : Addr} {args : List Value} {binds : List (Str × Value)}
    (F : Fr h₀ L s.heap m) (X₀ : K.In h₀) (N : News h₀ L s.heap news) (hlim : h₀.NoLimit)
    (ho : K.lookup f = some ⟨oc, od, .func (fnOf name qual params body scope dV kV doc pm an cdv ct), osl⟩) (hcd : codeIn K cdv qual = true) (hroom : A.depth < recursionLimit)
    (hbind : BindsTo s (fnOf name qual params body scope dV kV doc pm an cdv ct) ⟨args, []⟩ binds) (hloc : ∀ y ∈ binds, scope.names.lookup y.1 = some .local)
    (h : ∀ L₂ oF G tg h' tk', Fr h₀ L h' m → News h₀ L h' ((G, genObj s.gens.size name qual tg) :: (L₂, oF) :: news) → (∀ p ∈ news, p.1 < L₂) → @LT.lt Nat _ L₂ G →
      (∀ h'' : Heap, h''.get? L₂ = some oF → h''.Ns L₂ (fun x => binds.reverse.lookup x)) →
      Q (.ref G) { s with heap := h', toks := tk', gens := s.gens.push (.fresh (.func body (envX qual scope L₂ f cdv []))) })
    (hco : scope.isCoroutine = false) (hgen : scope.isGenerator = true) (hk : scope.kind = .function)
    (hcell : ∀ x ∈ scope.names, x.2 ≠ .cell) : wpAny (model prog w) A (call (.ref f) args) Q E s := by
  refine wpAny_call (codeAny_call_generator (fd := fnOf name qual params body scope dV kV doc pm an cdv ct) (body := body) hroom ((X₀.keeps F.keep) _ _ ho) rfl hco hgen rfl (codeRec_of (X₀.keeps F.keep) hcd) ?_)
  refine hbind _ _ _ _ (wpAny_newFunctionEnv hcell hloc (fun h₁ hns hsb => ?_) hk)
  have hk₁ : ∀ b o, s.heap.get? b = some o → h₁.get? b = some o := fun b o e => hsb.extBut b o (Nat.ne_of_lt (Heap.lt_size e)) (Heap.get?_push_of_some _ e)
  have lim₁ : h₁.NoLimit := (hlim.keeps F.keep).fresh _ hsb
  refine ⟨lim₁, ?_⟩
  have F₁ : Fr h₀ L h₁ m := F.keeps hk₁
  have hns' := hns
  obtain ⟨oF, es, ep, hoF, hdF, hsF, hfF⟩ := hns'
  have N₁ : News h₀ L h₁ ((s.heap.objs.size, oF) :: news) := by
    intro p hp
    rcases List.mem_cons.mp hp with rfl | hp
    · refine ⟨hoF, Nat.ne_of_gt F.ns.lt, ?_⟩
      cases e : h₀.get? s.heap.objs.size with
      | none => rfl
      | some o => exact absurd (Heap.lt_size (F.keep _ _ e)) (Nat.lt_irrefl _)
    · exact ⟨hk₁ _ _ (N p hp).1, (N p hp).2⟩
  have lt₁ : s.heap.objs.size < h₁.objs.size := hns.lt
  exact h s.heap.objs.size oF h₁.objs.size _ (h₁.push _) _ (F₁.push _) (News.push F₁ N₁ _ rfl) (fun p hp => Heap.lt_size (N p hp).1) lt₁ fun h'' e => ⟨oF, es, ep, e, hdF, hsF, hfF⟩

noncomputable def GnfFlow (Q : Flow → Shared → Prop) (rest : Shared → Prop) (f : Flow) (s₃ : Shared) : Prop := match f with
  | .next => rest s₃
  | .cont => rest s₃
  | .brk => Q .next s₃
  | .ret v => Q (.ret v) s₃
noncomputable def GnfTurn (prog : Program) (w : World) (A : Around) (E : Value → Shared → Prop) (env : Env) (tgt : Expr) (body : List Stmt) (Q : Flow → Shared → Prop) (rest : Shared → Prop) (r : Option Value) (s₁ : Shared) : Prop := match r with
  | none => Q .next s₁
  | some y => wpAny (model prog w) A (assign tgt env y) (fun _ s₂ => wpAny (model prog w) A (execs body env) (GnfFlow Q rest) E s₂) E s₁
noncomputable def GnfRest (prog : Program) (w : World) (A : Around) (E : Value → Shared → Prop) (env : Env) (tgt : Expr) (body : List Stmt) (Q : Flow → Shared → Prop) (G : Addr) : Nat → Shared → Prop
  | 0, _ => False
  | n + 1, s => (∃ o, s.heap.get? G = some o ∧ o.cls = .type "generator") ∧ wpAny (model prog w) A (pyNext (.ref G)) (fun r s₁ => (∃ o, s₁.heap.get? G = some o ∧ o.cls = .type "generator") ∧ GnfTurn prog w A E env tgt body Q (GnfRest prog w A E env tgt body Q G n) r s₁) E s
theorem letOwned_gen {tgt : Expr} {G : Addr} {y : Value} {Q : Unit → Shared → Prop} (h : ∃ o, s.heap.get? G = some o ∧ o.cls = .type "generator") (hq : Q () s) : wpAny (model prog w) A (letOwnedTupleGo tgt (.ref G) y) Q E s := by
  obtain ⟨o, ho, hc⟩ := h
  obtain ⟨c, d, dt, sl⟩ := o
  dsimp only at hc
  subst hc
  have key : ∀ a : Addr, wpAny (model prog w) A (load G >>= fun o => match o.cls, o.data with
      | .type n, .fields vs =>
        if ["enumerate", "zip", "dict_itemiterator", "dict_reverseitemiterator", "odict_iterator", "itertools.zip_longest", "itertools.pairwise"].contains n && vs[0]? == some (rawInt a) then do
          rule "for.unpacks-the-owned-tuple"
          updateField G 0 .none
        else pure ()
      | _, _ => pure ()) Q E s := fun a => by
    refine wpAny_bind (wpAny_load ho ?_)
    cases dt with
    | fields vs =>
      have e : (["enumerate", "zip", "dict_itemiterator", "dict_reverseitemiterator", "odict_iterator", "itertools.zip_longest", "itertools.pairwise"].contains "generator") = false := by decide
      simp only [e, Bool.false_and, Bool.false_eq_true, if_false]
      exact wpAny_pure hq
    | _ => exact wpAny_pure hq
  cases tgt <;> first | exact wpAny_pure hq | (cases y <;> first | exact wpAny_pure hq | exact key _)

theorem gnf_for {env : Env} {tgt iter : Expr} {body : List Stmt} {pos : Pos} {Q : Flow → Shared → Prop} (n : Nat)
    (h : wpAny (model prog w) A (eval iter env) (fun xv s₁ => ∃ G g, xv = .ref G ∧ s₁.heap.IsGen G g ∧ GnfRest prog w A E env tgt body Q G n s₁) E s)
    (hs : ∀ x, foldedSetIterable iter env x = pure x := by intro _; rfl) (hE : PassesOwn (model prog w) A env E := by passes_own) :
    wpAny (model prog w) A (exec (.For tgt iter body [] pos) env) Q E s := by
  refine wpAny_For (wpAny_mono h (fun xv s₁ h₁ => ?_) fun _ _ z => z) hs
  obtain ⟨G, g, rfl, hg, h₂⟩ := h₁
  refine wpAny_pyIter_gen hg ?_
  refine codeAny_forLoop_any (R := fun r s' => match r with | .ok f => Q f s' | .error e => cameBackBy (model prog w) A env E e s') (fun k s' => GnfRest prog w A E env tgt body Q G k s') ?_ n h₂
  intro k s' hk
  cases k with
  | zero => exact hk.elim
  | succ k =>
    refine wpAny_passesOwn hE (wpAny_mono hk.2 (fun r s₁ hr => ?_) fun _ _ z => z)
    cases r with
    | none => exact wpAny_execs_nil hr.2
    | some y =>
      refine letOwned_gen hr.1 ?_
      refine wpAny_passesOwn hE (wpAny_mono hr.2 (fun _ s₂ h₂ => ?_) fun _ _ z => z)
      refine wpAny_passesOwn hE (wpAny_mono h₂ (fun f s₃ h₃ => ?_) fun _ _ z => z)
      cases f with
      | next => exact ⟨k, Nat.lt_succ_self k, h₃⟩
      | cont => exact ⟨k, Nat.lt_succ_self k, h₃⟩
      | brk => exact h₃
      | ret _ => exact h₃

theorem genObj_isGen {h : Heap} {G g : Nat} {nm qn : Str} {t : Tok} (e : h.get? G = some (genObj g nm qn t)) : h.IsGen G g := ⟨_, _, _, e, rfl, rfl, rfl⟩
theorem listOf_isList {h : Heap} {l : Addr} {its : Array Value} {n : Nat} (e : h.get? l = some (listOf its n)) : h.IsList l its := ⟨_, e, rfl, n, rfl⟩

theorem k_ns1 {pa pb pc pd pe pf pg ph pi pj : Pos} {env₂ : Env} {G g L₂ st n0 : Nat} {n1 n2 : Nat} {nm qn : Str} {tg : Tok} {oF : Obj} {tp : Value} {items : Array Value} {m₂ : Str → Option Value} {Q : Option Value → Shared → Prop}
    (F : Fr h₀ L s.heap m) (N : News h₀ L s.heap ((G, genObj g nm qn tg) :: (L₂, oF) :: news)) (hh : A.handled = none) (hlim : h₀.NoLimit) (hroom : A.depth < recursionLimit)
    (ne : NsEnv env₂) (hgs : s.gens[g]? = some (.fresh (.func (nsBody pa pb pc pd pe pf pg ph pi pj) env₂))) (hL : env₂.locals = L₂)
    (hF : ∀ h'' : Heap, h''.get? L₂ = some oF → h''.Ns L₂ m₂) (m1 : m₂ sSt = some (.ref st)) (m2 : m₂ sRv = some (.type "reversed"))
    (hst : (st, listOf items n1) ∈ news) (h0 : items[0]? = some (.ref n0)) (hn0 : (n0, listOf #[tp] n2) ∈ news)
    (hmore : ∀ (k : Nat) (v : Value), 0 < k → items[k]? = some v → ∃ e n, v = .ref e ∧ (e, listOf #[] n) ∈ news)
    (lts : ∀ p ∈ news, p.1 < L₂) (lG : @LT.lt Nat _ L₂ G)
    (h : ∀ (I : Nat) oI oJ h' tk' gs', Fr h₀ L h' m → News h₀ L h' ((I + 1, oJ) :: (I, oI) :: (G, genObj g nm qn tg) :: news) → (∀ p ∈ (G, genObj g nm qn tg) :: news, p.1 < I) → NsSusp prog w A L₂ I st n0 tp gs' →
      (∀ h'' : Heap, h''.get? (I + 1) = some oJ → h''.IsListIter (I + 1) n0 1) → (∀ h'' : Heap, h''.get? I = some oI → h''.IsRevIter I st (-1)) → Q (some tp) { s with heap := h', toks := tk', gens := s.gens.setIfInBounds g gs' }) :
    wpAny (model prog w) A (pyNext (.ref G)) Q E s := by
  subst hL
  have mem : ∀ {p : Addr × Obj}, p ∈ news → p ∈ (G, genObj g nm qn tg) :: (env₂.locals, oF) :: news := fun hp => .tail _ (.tail _ hp)
  have neL : ∀ {p : Addr × Obj}, p ∈ news → p.1 ≠ env₂.locals := fun hp => Nat.ne_of_lt (lts _ hp)
  refine ns_next1 ne hh (hlim.keeps F.keep) hroom (genObj_isGen (N _ (.head _)).1) hgs (hF _ (N _ (.tail _ (.head _))).1) m1 m2 h0 (listOf_isList (N _ (mem hst)).1) (listOf_isList (N _ (mem hn0)).1)
    (fun k v hk hv => let ⟨e, n, a, b⟩ := hmore k v hk hv; ⟨e, a, neL b, listOf_isList (N _ (mem b)).1⟩) (neL hst) (neL hn0) fun h' tk' gs' y1 y2 y3 y4 y5 => ?_
  have fresh : ∀ {x : Addr}, s.heap.objs.size ≤ x → x ≠ L ∧ h₀.get? x = none := fun hx => kdx_fresh F hx
  have LL : L ≠ env₂.locals := fun e => (N (env₂.locals, oF) (.tail _ (.head _))).2.1 e.symm
  have F' : Fr h₀ L h' m := ⟨F.ns.at fun o e => y4 L o LL e, fun b o e => y4 b o (fun z => by subst z; have q := (N (env₂.locals, oF) (.tail _ (.head _))).2.2; rw [e] at q; cases q) (F.keep b o e), F.above⟩
  have y2' := y2
  obtain ⟨oI, hI, cI, dI⟩ := y2'
  have y1' := y1
  obtain ⟨oJ, hJ, cJ, dJ⟩ := y1'
  refine h s.heap.objs.size oI oJ h' tk' gs' F' ?_ (fun p hp => ?_) y5 (fun h'' e => ⟨oJ, e, cJ, dJ⟩) (fun h'' e => ⟨oI, e, cI, dI⟩)
  · intro p hp
    rcases List.mem_cons.mp hp with rfl | hp
    · exact ⟨hJ, fresh (Nat.le_succ _)⟩
    · rcases List.mem_cons.mp hp with rfl | hp
      · exact ⟨hI, fresh (Nat.le_refl _)⟩
      · rcases List.mem_cons.mp hp with rfl | hp
        · have z := N _ (.head _)
          exact ⟨y4 _ _ (Nat.ne_of_gt lG) z.1, z.2⟩
        · have z := N _ (mem hp)
          exact ⟨y4 _ _ (neL hp) z.1, z.2⟩
  · rcases List.mem_cons.mp hp with rfl | hp
    · exact Heap.lt_size (N _ (.head _)).1
    · exact Heap.lt_size (N _ (mem hp)).1

theorem k_ns2 {G g L₂ I st n0 : Nat} {n2 : Nat} {nm qn : Str} {tg : Tok} {oI oJ : Obj} {tp : Value} {gs : GenState} {Q : Option Value → Shared → Prop}
    (F : Fr h₀ L s.heap m) (N : News h₀ L s.heap ((I + 1, oJ) :: (I, oI) :: (G, genObj g nm qn tg) :: news)) (hh : A.handled = none) (hlim : h₀.NoLimit) (hroom : A.depth < recursionLimit)
    (hgs : s.gens[g]? = some gs) (hS : NsSusp prog w A L₂ I st n0 tp gs) (hJ : ∀ h'' : Heap, h''.get? (I + 1) = some oJ → h''.IsListIter (I + 1) n0 1) (hI : ∀ h'' : Heap, h''.get? I = some oI → h''.IsRevIter I st (-1))
    (hn0 : (n0, listOf #[tp] n2) ∈ news) (lG : @LT.lt Nat _ G I) (lts : ∀ p ∈ news, p.1 < I)
    (h : ∀ h', Fr h₀ L h' m → News h₀ L h' ((G, genObj g nm qn tg) :: news) → Q none { s with heap := h', gens := s.gens.setIfInBounds g .finished }) :
    wpAny (model prog w) A (pyNext (.ref G)) Q E s := by
  refine ns_next2 hh (hlim.keeps F.keep) hroom (genObj_isGen (N _ (.tail _ (.tail _ (.head _)))).1) hgs hS (hJ _ (N _ (.head _)).1) (hI _ (N _ (.tail _ (.head _))).1) (listOf_isList (N _ (.tail _ (.tail _ (.tail _ hn0)))).1) fun h' hk => ?_
  have nI := N (I, oI) (.tail _ (.head _))
  have nJ := N (I + 1, oJ) (.head _)
  refine h h' ⟨F.ns.at fun o e => hk L o (Ne.symm nJ.2.1) (Ne.symm nI.2.1) e, fun b o e => hk b o (fun z => by subst z; have q := nJ.2.2; rw [e] at q; cases q) (fun z => by subst z; have q := nI.2.2; rw [e] at q; cases q) (F.keep b o e), F.above⟩ fun p hp => ?_
  have z := N p (.tail _ (.tail _ hp))
  rcases List.mem_cons.mp hp with rfl | hp
  · exact ⟨hk _ _ (Nat.ne_of_lt (Nat.lt_succ_of_lt lG)) (Nat.ne_of_lt lG) z.1, z.2⟩
  · exact ⟨hk _ _ (Nat.ne_of_lt (Nat.lt_succ_of_lt (lts p hp))) (Nat.ne_of_lt (lts p hp)) z.1, z.2⟩
end
end
section
open PySem PySem.W PyProof.Rows PySem.Calls PySem.Spec
theorem bareDone {gens : Array GenState} {x y : GenState} (h : AllBare gens) : AllBare (((gens.push x).setIfInBounds gens.size y).setIfInBounds gens.size .finished) := by
  intro z hz
  obtain ⟨i, hi⟩ := Array.mem_iff_getElem?.mp hz
  simp only [Array.getElem?_setIfInBounds, Array.size_setIfInBounds, Array.size_push, Array.getElem?_push] at hi
  by_cases e : gens.size = i
  · subst e
    simp at hi
    subst hi
    rfl
  · simp only [if_neg e, if_neg (Ne.symm e)] at hi
    exact h z (Array.mem_of_getElem? hi)
theorem newsGen {h₀ h : Heap} {L : Addr} {l : List (Addr × Obj)} {G g : Nat} {nm qn : Str} {t : Tok} (N : News h₀ L h l) (hm : (G, genObj g nm qn t) ∈ l) : ∃ o, h.get? G = some o ∧ o.cls = .type "generator" := ⟨_, (N _ hm).1, rfl⟩
theorem newsSub {h₀ h : Heap} {L : Addr} {l l' : List (Addr × Obj)} (N : News h₀ L h l) (hs : ∀ p ∈ l', p ∈ l) : News h₀ L h l' := fun p hp => N p (hs p hp)
noncomputable abbrev tupOf (vs : List Value) : Obj := { cls := .type "tuple", data := .seq vs.toArray }
end
section
open PySem PySem.Calls PyProof.Rows PySem.W PySem.Spec KFB PySem.F

noncomputable abbrev bfmObj (id : String) (recv : Value) : Obj := { cls := .type "builtin_function_or_method", data := .fields #[.builtin id, recv] }
noncomputable def IsBfm (h : Heap) (q : Addr) (id : String) (recv : Value) : Prop := h.get? q = some (bfmObj id recv)
section
variable {prog : Program} {w : World} {M : Model} {A : Around} {E : Value → Shared → Prop} {s : Shared} {K : Frag} {h₀ : Heap} {L : Addr} {m : Str → Option Value} {news news' : List (Addr × Obj)}
theorem bfm_of {q : Addr} {id : String} {recv : Value} {h : Heap} (N : News h₀ L h news) (hm : (q, bfmObj id recv) ∈ news) : IsBfm h q id recv := (N _ hm).1
theorem bfm_ofK {q : Addr} {id : String} {recv : Value} {h : Heap} (X : K.In h) (hm : K.lookup q = some (bfmObj id recv)) : IsBfm h q id recv := X _ _ hm

theorem callWith_bfmF {pos : Pos} {u : Addr} {id : String} {recv : Value} {first : List Value} {args : List (Bool × Sem Value)} {Q : Value → Shared → Prop} (hplain : args.any (·.1) = false)
    (h : wpAny M A (evalArgs (.ref u) true args []) (fun x s₁ => IsBfm s₁.heap u id recv ∧ wpAny M A (call (.ref u) (first ++ x.pos) x.kw) Q E s₁) E s) : wpAny M A (callWith pos (.ref u) first args []) Q E s := by
  unfold callWith
  refine wpAny_bind (wpAny_holding (wpAny_mono h (fun x s₁ h₁ => wpAny_bind (wpAny_standAt ?_)) fun _ _ x => x))
  obtain ⟨ho, hcall⟩ := h₁
  simp only [hplain, List.any_nil, Bool.or_false]
  refine wpAny_bind (m := keeperOf (.ref u)) ?_
  unfold keeperOf
  refine wpAny_bind (wpAny_load ho ?_)
  simp only [bfmObj, show (Value.type "builtin_function_or_method" != Value.type "method") = true by decide, show (Value.type "builtin_function_or_method" == Value.type "builtin_function_or_method" || Value.type "builtin_function_or_method" == Value.type "method-wrapper") = true by decide, if_true]
  refine wpAny_pure ?_
  exact wpAny_bind (wpAny_mono hcall (fun r s₂ hr => wpAny_bind (wpAny_holding (wpAny_point (wpAny_pure hr)))) fun _ _ x => x)
theorem callWith_bfm {pos : Pos} {u : Addr} {id : String} {recv : Value} {env : Env} {e : Expr} {rest : List Expr} {Q : Value → Shared → Prop}
    (h : wpAny M A (spliced (backTo pos (starEach (e :: rest) env))) (fun vs s₁ => IsBfm s₁.heap u id recv ∧ wpAny M A (call (.ref u) vs) Q E s₁) E s)
    (he : starEach (e :: rest) env = (false, eval e env) :: starEach rest env := by rfl) (hplain : (backTo pos (starEach rest env)).any (·.1) = false := by rfl) :
    wpAny M A (callWith pos (.ref u) [] (backTo pos (starEach (e :: rest) env)) []) Q E s := by
  rw [he] at h ⊢
  refine callWith_bfmF (id := id) (recv := recv) (by show (false || (backTo pos (starEach rest env)).any (·.1)) = false; rw [hplain]; rfl) ?_
  exact evalArgs_plain h

theorem call_bfm {u : Addr} {id : String} {recv : Value} {vals : List Value} {b : Builtin} {Q : Value → Shared → Prop} (ho : IsBfm s.heap u id recv) (hq : plainId id = true) (hb : entryFor table id = some b)
    (hc : ∀ {A : Around} {Q : Unit → Shared → Prop}, Q () s → wpAny (model prog w) A (checkBoundCall id ⟨recv :: vals, []⟩) Q E s)
    (h : wpAny (model prog w) (A.under (.builtin id ⟨recv :: vals, []⟩)) (b ⟨recv :: vals, []⟩) (fun fin s' => match fin with | .done (.ret v) => Q v s' | .done _ => False | .again c' => c'.quiet = true ∧ codeAny (model prog w) A c' (wants Q E) s') E s) :
    wpAny (model prog w) A (call (.ref u) vals) Q E s := by
  refine wpAny_call (codeAny_of_tree ?_)
  show wpAny _ A.in1 (callAny (.ref u) ⟨vals, []⟩) _ _ s
  simp only [callAny]
  refine wpAny_bind (wpAny_load ho ?_)
  simp only [bfmObj, show (Value.type "builtin_function_or_method" == Value.type "method" || Value.type "builtin_function_or_method" == Value.type "builtin_function_or_method" || Value.type "builtin_function_or_method" == Value.type "method-wrapper") = true by decide, if_true]
  refine if_so (by decide) ?_
  refine wpAny_bind (hc ?_)
  refine wpAny_bind (wpAny_pure (wpAny_pure ?_))
  refine ⟨plainId_quiet hq _, codeAny_builtin hb (wpAny_mono h (fun fin s' h' => ?_) fun _ _ z => z)⟩
  cases fin with
  | done f => cases f <;> first | exact h' | exact h'.elim
  | again c => exact h'

theorem isType_ref {D : Addr} {o : Obj} {A : Around} {Q : Bool → Shared → Prop} (ho : s.heap.get? D = some o) (hd : ∃ xs n, o.data = .seq xs n) (h : Q false s) : wpAny M A (isType (.ref D)) Q E s := by
  obtain ⟨xs, n, hd⟩ := hd
  unfold isType loadHead
  refine wpAny_bind (wpAny_loadPart ho ?_)
  rw [hd]
  exact wpAny_pure h
theorem check_append {D : Addr} {x : Value} {A : Around} {o : Obj} {Q : Unit → Shared → Prop} (ho : s.heap.get? D = some o) (hc : o.cls = .type "list") (hd : ∃ xs n, o.data = .seq xs n) (h : Q () s) :
    wpAny (model prog w) A (checkBoundCall "list.append" ⟨[.ref D, x], []⟩) Q E s := by
  have hT : s.TypeIs (.ref D) "list" := ⟨_, ho, hc⟩
  have e1 : Manifest.signature? "list.append" = some ((Manifest.signature? "list.append").get (by kernel_rfl)) := by simp
  have e2 : builtinKind "list.append" = some .method := by kernel_rfl
  have e3 : isSubtype (.type "list") (.type "module") = pure false := by kernel_rfl
  unfold checkBoundCall
  rw [e1, e2]
  dsimp only
  refine if_not (by decide) ?_
  refine wpAny_bind (wpAny_isInstance hT e3 ?_)
  refine if_not (by decide +kernel) ?_
  refine wpAny_bind (isType_ref ho hd ?_)
  refine if_not (by decide) ?_
  refine wpAny_bind (wpAny_typeOf hT ?_)
  dsimp only
  refine wpAny_of_eq (a := ()) (by kernel_rfl) h
theorem check_join {x : Str} {t : Tok} {v : Value} {A : Around} {Q : Unit → Shared → Prop} (h : Q () s) :
    wpAny (model prog w) A (checkBoundCall "str.join" ⟨[.str x t, v], []⟩) Q E s :=
  wpAny_of_eq (a := ()) (by kernel_rfl) h

theorem bfm_append {D u : Addr} {its : Array Value} {n : Nat} {x : Value} {Q : Value → Shared → Prop} (F : Fr h₀ L s.heap m) (N : News h₀ L s.heap news) (ho : IsBfm s.heap u "list.append" (.ref D)) (U : Upd D (listOf its n) (listOf (its.push x) (n + 1)) news news')
    (h : ∀ h', Fr h₀ L h' m → News h₀ L h' news' → Q .none { s with heap := h' }) (hsz : its.size ≤ sizeLine) : wpAny (model prog w) A (call (.ref u) [x]) Q E s := by
  obtain ⟨pre, post, rfl, rfl, a, b⟩ := U.split
  have z := N (D, listOf its n) (List.mem_append.mpr (.inr (.head _)))
  refine call_bfm ho PySem.F.slot_list_append.plain PySem.F.entry_list_append (fun q => check_append z.1 rfl ⟨_, _, rfl⟩ q) ?_
  show wpAny _ _ (updateSeq D (·.push x) >>= fun _ => ret .none) _ _ s
  refine wpAny_bind ?_
  refine wpAny_updateSeq z.1 rfl (wpAny_pure ?_)
  have hs := Heap.SameBut.update D (Obj.mapSeq (·.push x)) (h := s.heap)
  refine h _ (F.change hs z.2.1 z.2.2) (news_set N a b hs ?_)
  rw [Heap.get?_update_self _ z.1 (by rw [mapSeq_push]; rfl), mapSeq_push]

theorem bfm_join {D u : Addr} {sep : Str} {t : Tok} {l : List (Str × Tok)} {Q : Value → Shared → Prop} (ho : IsBfm s.heap u "str.join" (.str sep t)) (hl : s.heap.IsList D (strValues l).toArray)
    (hz : Builtin.Str.tooLong ((l.map (·.1)).toArray.foldl (· + ·.length + sep.length) 0) = false) (h : (joinMade sep l).post Q s) : wpAny (model prog w) A (call (.ref u) [.ref D]) Q E s := by
  refine call_bfm ho slot_str_join.plain entry_str_join (fun q => check_join q) ?_
  have hu : A.under (.builtin "str.join" ⟨[.str sep t, .ref D], []⟩) = A.in1 := Around.under_plainId slot_str_join.plain _
  rw [hu]
  refine wpAny_mono (meets_str_join_list sep t D l hz prog w A (wants Q E) s ⟨hl, ?_⟩) (fun fin s' h' => ?_) fun _ _ z => z
  · exact h
  · cases fin with
    | done f => cases f <;> exact h'
    | again c => exact h'
theorem callWith_bfmN {pos : Pos} {u : Addr} {id : String} {recv : Value} {env : Env} {e : Expr} {rest : List Expr} {Q : Value → Shared → Prop} (_N : News h₀ L s.heap news) (_hm : (u, bfmObj id recv) ∈ news)
    (h : wpAny M A (spliced (backTo pos (starEach (e :: rest) env))) (fun vs s₁ => IsBfm s₁.heap u id recv ∧ wpAny M A (call (.ref u) vs) Q E s₁) E s)
    (he : starEach (e :: rest) env = (false, eval e env) :: starEach rest env := by rfl) (hplain : (backTo pos (starEach rest env)).any (·.1) = false := by rfl) :
    wpAny M A (callWith pos (.ref u) [] (backTo pos (starEach (e :: rest) env)) []) Q E s := callWith_bfm h he hplain
theorem callWith_bfmK {pos : Pos} {u : Addr} {id : String} {recv : Value} {env : Env} {e : Expr} {rest : List Expr} {Q : Value → Shared → Prop} (_X : K.In h₀) (_hm : K.lookup u = some (bfmObj id recv))
    (h : wpAny M A (spliced (backTo pos (starEach (e :: rest) env))) (fun vs s₁ => IsBfm s₁.heap u id recv ∧ wpAny M A (call (.ref u) vs) Q E s₁) E s)
    (he : starEach (e :: rest) env = (false, eval e env) :: starEach rest env := by rfl) (hplain : (backTo pos (starEach rest env)).any (·.1) = false := by rfl) :
    wpAny M A (callWith pos (.ref u) [] (backTo pos (starEach (e :: rest) env)) []) Q E s := callWith_bfm h he hplain
end
end
section
open PySem PySem.Calls PyProof.Rows PySem.W PySem.Spec Builtin Builtin.Str
section
variable {prog : Program} {w : World} {A : Around} {E : Value → Shared → Prop} {s : Shared} {x y z : Str} {t u v : Tok} {Q : Value → Shared → Prop}
end
theorem occ_pos {c : Prop} [Decidable c] {a b : Prop} (h : c) (x : a) : if c then a else b := by rw [if_pos h]; exact x
theorem occ_neg {c : Prop} [Decidable c] {a b : Prop} (h : ¬ c) (x : b) : if c then a else b := by rw [if_neg h]; exact x
end
section
open PySem PySem.Calls PyProof.Rows PySem.W PySem.Spec KFB
section
variable {prog : Program} {w : World} {A : Around} {E : Value → Shared → Prop} {s : Shared} {h₀ : Heap} {L : Addr} {m : Str → Option Value} {news news' : List (Addr × Obj)}
noncomputable def selC (start stop step : Int) (i : Nat) : Bool :=
  if step > 0 then start ≤ i && i < stop && (i - start) % step == 0
  else stop < i && i ≤ start && (start - i) % (-step) == 0
theorem selects_all (n k : Nat) (h : k < n) : selC 0 n 1 k = true := by
  unfold selC
  simp
  lia
theorem none_left {xs : Array Value} {f : Value × Nat → Option Value} (h : ∀ x k, k < xs.size → f (x, k) = none) : (xs.toList.zipIdx.filterMap f).toArray = #[] := by
  have : xs.toList.zipIdx.filterMap f = [] := by
    rw [List.filterMap_eq_nil_iff]
    rintro ⟨x, k⟩ hk
    have := List.mem_zipIdx hk
    simp at this
    exact h x k this.1
  rw [this]
theorem delAll {D sl : Addr} {its : Array Value} {n : Nat} {Q : Unit → Shared → Prop} (F : Fr h₀ L s.heap m) (N : News h₀ L s.heap news) (U : Upd D (listOf its n) (listOf #[] (n + 1)) news news')
    (hs : s.heap.IsSliceOf sl .none .none .none)
    (h : ∀ h', Fr h₀ L h' m → News h₀ L h' news' → Q () { s with heap := h' }) (hsz : its.size ≤ sizeLine) (hne : its.size ≠ 0) : wpAny (model prog w) A (delItem (.ref D) (.ref sl)) Q E s := by
  obtain ⟨pre, post, rfl, rfl, a, b⟩ := U.split
  have z := N (D, listOf its n) (List.mem_append.mpr (.inr (.head _)))
  obtain ⟨os, hos, hcs, hds⟩ := id hs
  have hT : s.TypeIs (.ref D) "list" := ⟨_, z.1, rfl⟩
  have hTs : s.TypeIs (.ref sl) "slice" := ⟨os, hos, hcs⟩
  refine wpAny_delItem_slot hT (by decide) PySem.F.slot_list_delitem ?_
  refine wpAny_call_entry PySem.F.slot_list_delitem hT PySem.F.entry_list_delitem ?_ (PySem.F.args_list_delitem_2 _ _)
  show wpAny _ _ (Builtin.List.listSubscript? (.ref sl) >>= _) _ _ s
  refine wpAny_bind ?_
  unfold Builtin.List.listSubscript?
  refine wpAny_bind (wpAny_specialOf hTs slice_no_index ?_)
  simp only [Option.isNone_none, if_true]
  refine wpAny_pure ?_
  show wpAny _ _ (typeOf (.ref sl) >>= _) _ _ s
  refine wpAny_bind (wpAny_typeOf hTs ?_)
  rw [if_neg (by decide)]
  rw [listSliceParts_eq]
  have hstep : ¬ ((rawPart none == rawInt 0) = true) := Bool.false_ne_true
  refine wpAny_bind (wpAny_bind (wpAny_field hos hds (x := .none) rfl (wpAny_bind (wpAny_listPart .none ?_))))
  rw [if_neg hstep]
  refine wpAny_bind (wpAny_field hos hds (x := .none) rfl (wpAny_bind (wpAny_listPart .none ?_)))
  refine wpAny_bind (wpAny_field hos hds (x := .none) rfl (wpAny_bind (wpAny_listPart .none (wpAny_pure ?_))))
  refine wpAny_bind (m := Builtin.List.listItems (.ref D)) ?_
  unfold Builtin.List.listItems
  refine wpAny_bind (wpAny_seqItems z.1 rfl (wpAny_pure ?_))
  refine wpAny_bind (wpAny_of_eq (sliceIndices_raw none none none its.size (by simp)) ?_)
  refine wpAny_bind (wpAny_rule ?_)
  refine wpAny_bind ?_
  show wpAny _ _ (updateSeq D _) _ _ s
  have zz : listOf its n = { cls := .type "list", data := .seq its n } := rfl
  refine wpAny_updateSeq z.1 rfl ?_ hsz ?_
  · refine wpAny_bind (wpAny_letGo (wpAny_pure ⟨_, rfl, ?_⟩))
    refine h _ (F.change (Heap.SameBut.update ..) z.2.1 z.2.2) (kl_turn _ N a b ?_ ?_)
    · refine none_left fun x k hk => ?_
      exact if_pos (selects_all its.size k hk)
    · exact Ne.symm hne
  · refine Nat.le_succ_of_le ?_
    refine Nat.le_trans (Nat.le_of_eq ?_) (Nat.zero_le _)
    refine (congrArg Array.size (none_left (xs := its) fun x k hk => ?_)).trans rfl
    exact if_pos (selects_all its.size k hk)
theorem sliceOf_news {sl : Addr} {h : Heap} (N : News h₀ L h news) (hm : (sl, ({ cls := .type "slice", data := .fields #[.none, .none, .none] } : Obj)) ∈ news) : h.IsSliceOf sl .none .none .none := ⟨_, N.get hm, rfl, rfl⟩
theorem upd_mem {D : Addr} {o o' : Obj} {l l' : List (Addr × Obj)} (U : Upd D o o' l l') : (D, o) ∈ l := by
  obtain ⟨pre, post, rfl, _, _, _⟩ := U.split
  exact List.mem_append.mpr (.inr (.head _))
theorem delAllP {D : Addr} {its : Array Value} {n : Nat} {Q : Unit → Shared → Prop} {h : Heap} {g : Array GenState} {d : Drawn} {t : Nat} {os : OsState} (F : Fr h₀ L h m) (N : News h₀ L h news) (U : Upd D (listOf its n) (listOf #[] (n + 1)) news news')
    (hQ : ∀ h', Fr h₀ L h' m → News h₀ L h' news' → Q () ⟨h', g, d, t, os⟩) (hsz : its.size ≤ sizeLine) (hne : its.size ≠ 0) :
    wpAny (model prog w) A (delItem (.ref D) (.ref h.objs.size)) Q E ⟨h.push { cls := .type "slice", data := .fields #[.none, .none, .none] }, g, d, t, os⟩ := by
  refine delAll (F.push _) (News.push F N _ rfl) (Upd.tail (p := (h.objs.size, _)) ?_ U) (sliceOf_news (News.push F N _ rfl) (.head _)) (fun h' F' N' => hQ h' F' (newsSub N' fun p hp => .tail _ hp)) hsz hne
  exact Nat.ne_of_gt (Heap.lt_size (N.get (upd_mem U)))
end
end
section
open PySem PySem.Calls PyProof.Rows PySem.W PySem.Spec
noncomputable abbrev oneSet (hs : Int) (x : Value) (t : SetTable) : Obj := { cls := .type "set", dict := none, data := .set #[(hs, x)] 1 t }
noncomputable def LowT0 (led : Bool) (t : SetTable) : Prop := t.mask = 7 ∧ t.fill = 1 ∧ t.fits 1 = true ∧ t.led = led
noncomputable def LowT (led : Bool) (t : SetTable) : Prop := t.mask = 7 ∧ t.fill = 1 ∧ t.fits 1 = true ∧ t.led = led ∧ t.plain = false
noncomputable abbrev ledOf (w : World) : Bool := !(w.params.followText "set-order")
theorem fresh_probe (led : Bool) (f : Nat → Int) (hs : Int) : (SetTable.fresh 0 0 led).probe f hs ((SetTable.fresh 0 0 led).probeStart hs) = some (.empty ((SetTable.fresh 0 0 led).probeStart hs).j none) := by
  unfold SetTable.probe
  show SetTable.probe.go _ f hs (9 + 211) _ = _
  rfl
theorem layNew_fresh (led : Bool) (hs : Int) (x : Value) : ∃ t, layNew (SetTable.fresh 0 0 led) #[] hs x = (#[(hs, x)], t, false, false) ∧ LowT0 led t := by
  unfold layNew SetTable.freeSlot
  rw [fresh_probe]
  exact ⟨_, rfl, rfl, rfl, rfl, rfl⟩
theorem low_plain {led : Bool} {t : SetTable} (h : LowT0 led t) : LowT led { t with plain := false } := ⟨h.1, h.2.1, h.2.2.1, h.2.2.2, rfl⟩
theorem low_full {led : Bool} {t : SetTable} (h : LowT led t) : t.tooFull = false := by
  unfold SetTable.tooFull
  rw [h.1, h.2.1]
  decide
theorem low_room {led : Bool} {t : SetTable} (h : LowT led t) (k : Nat) (hk : k ≤ 2) : t.roomFor k = none := by
  unfold SetTable.roomFor
  rw [h.1, h.2.1, if_neg]
  show ¬ ((1 + k) * 5 ≥ 21)
  lia
section
variable {prog : Program} {w : World} {A : Around} {E : Value → Shared → Prop} {s : Shared} {h₀ : Heap} {L : Addr} {m : Str → Option Value} {news : List (Addr × Obj)} {g : Obj → List (Addr × Obj)}
theorem setAdd_first {D : Addr} {led : Bool} {x : Str} {tx : Tok} {Q : Bool → Shared → Prop} (F : Fr h₀ L s.heap m) (N : News h₀ L s.heap news)
    (U : UpdF D { cls := .type "set", dict := none, data := .set #[] 0 (.fresh 0 0 led) } news g)
    (h : ∀ h' t, LowT led t → Fr h₀ L h' m → News h₀ L h' (g (oneSet ((strKind prog w).hash x) (.str x tx) t)) → Q true { s with heap := h', toks := s.toks + 1 }) :
    wpAny (model prog w) A (setAdd D (.str x tx)) Q E s := by
  obtain ⟨pre, post, rfl, hg, a, b⟩ := U.split
  have hm := N (D, _) (List.mem_append_right _ (.head _))
  have hkey : (strKind prog w).is x (.str x tx) = true := strKind_is _ _ _ _
  have ho := hm.1
  have hd : ({ cls := .type "set", dict := none, data := .set #[] 0 (.fresh 0 0 led) } : Obj).data = .set #[] 0 (.fresh 0 0 led) := rfl
  have hf : (SetTable.fresh 0 0 led).fits (#[] : Array (Int × Value)).size = true := rfl
  have hel : ElemsOf (strKind prog w) (#[] : Array (Int × Value)).toList := fun e he => by simp at he
  unfold setAdd
  refine wpAny_holding (wpAny_bind ((strKind prog w).pyHash hkey ?_))
  unfold setAddHashed setAddHashedIn
  refine wpAny_holding (wpAny_bind (wpAny_setState_of ho hd hf ?_))
  dsimp only
  rw [byScan_of rfl (by decide) hel]
  simp only [↓reduceIte]
  unfold setAddByScan
  refine wpAny_bind ?_
  refine wpAny_bind (wpAny_rule ?_)
  refine wpAny_bind (wpAny_setScan_of hkey ho hd hf hel ?_)
  obtain ⟨t, e, ht⟩ := layNew_fresh led ((strKind prog w).hash x) (.str x tx)
  simp only [List.findIdx?_nil]
  rw [e]
  dsimp only
  have fin : ∀ t', LowT led t' → Q true { s with heap := s.heap.update D (Obj.putSet #[((strKind prog w).hash x, .str x tx)] t'), toks := s.toks + 1 } := fun t' h' => by
    refine h _ t' h' (F.change (Heap.SameBut.update ..) hm.2.1 hm.2.2) (hg _ ▸ N.setIn a b (Heap.SameBut.update ..) ?_)
    have q := Heap.get?_update_self (Obj.putSet #[((strKind prog w).hash x, .str x tx)] t') ho (by rw [putSet_of _ t' hd]; rfl)
    rw [putSet_of _ t' hd] at q
    exact q
  refine wpAny_bind (wpAny_of_eq (a := ()) rfl ?_)
  split
  · refine wpAny_bind ?_
    rw [hashByValue_scannable 8 rfl]
    refine wpAny_pure ?_
    refine wpAny_bind (wpAny_storeSet_of ho hd ?_ (by show 1 ≤ sizeLine; decide))
    rw [if_neg (fun hb => by
      have hb' : ((!false && ({ t with plain := false } : SetTable).tooFull) = true) := hb
      rw [low_full (low_plain ht)] at hb'
      cases hb')]
    exact wpAny_pure (wpAny_pure (fin _ (low_plain ht)))
  · rename_i hpl
    have hpl' : t.plain = false := by simpa using hpl
    have ht' : LowT led t := ⟨ht.1, ht.2.1, ht.2.2.1, ht.2.2.2, hpl'⟩
    refine wpAny_bind (wpAny_pure ?_)
    refine wpAny_bind (wpAny_storeSet_of ho hd ?_ (by show 1 ≤ sizeLine; decide))
    rw [if_neg (fun hb => by
      have hb' : ((!false && t.tooFull) = true) := hb
      rw [low_full ht'] at hb'
      cases hb')]
    exact wpAny_pure (wpAny_pure (fin _ ht'))
theorem sub_dict_set : isSubtype (.type "dict") (.type "set") = pure false := by kernel_rfl
theorem sub_dict_fset : isSubtype (.type "dict") (.type "frozenset") = pure false := by kernel_rfl
theorem dictAt_of {o : Obj} {h : Heap} {a : Addr} {kvs : List (Str × Value)} (ho : h.get? a = some o) (x : o.IsDictOf (strKind prog w) kvs) : ∃ ep, h.DictAt (strKind prog w) a kvs ep := by
  obtain ⟨es, ep, hx, hd, hk, hp, hn⟩ := x
  exact ⟨ep, o, es, ho, hx, hd, hk, hp, hn⟩
theorem fr_ext {h h' : Heap} {I : Addr} (F : Fr h₀ L h m) (hI : I ≠ L ∧ h₀.get? I = none) (hx : Heap.ExtBut I h h') : Fr h₀ L h' m :=
  ⟨F.ns.extBut hx (Ne.symm hI.1), fun b o e => hx b o (fun q => by subst q; rw [hI.2] at e; cases e) (F.keep b o e), F.above⟩
theorem news_ext {h h' : Heap} {I : Addr} (N : News h₀ L h news) (hn : ∀ p ∈ news, p.1 ≠ I) (hx : Heap.ExtBut I h h') : News h₀ L h' news := fun p hp => ⟨hx _ _ (hn p hp) (N p hp).1, (N p hp).2⟩
theorem news_push0 {h : Heap} {o : Obj} (N : News h₀ L h news) : News h₀ L (h.push o) news := fun p hp => ⟨Heap.get?_push_of_some _ (N p hp).1, (N p hp).2⟩
theorem str_of_is {k : Str} {v : Value} (h : (strKind prog w).is k v = true) : ∃ t, v = .str k t := Value.isStrOf_shape h
theorem get_single {l : List (Str × Value)} {k : Str} {v : Value} {es : Array DictEntry} (hp : Pairs (strKind prog w) es.toList [(k, v)]) (hk : KeysOf (strKind prog w) es) : ∃ e t, es = #[e] ∧ e.key = .str k t ∧ e.hash = (strKind prog w).hash k := by
  have hsz : es.toList.length = 1 := hp.length
  obtain ⟨e, he⟩ := List.length_eq_one_iff.mp hsz
  have hes : es = #[e] := by rw [← Array.toArray_toList (xs := es), he]
  subst hes
  have q := (hp.get? (i := 0) (e := e) (k := k) (v := v) rfl rfl).1
  obtain ⟨t, ht⟩ := str_of_is q
  obtain ⟨k', hk', hh⟩ := hk e (by simp)
  refine ⟨e, t, rfl, ht, ?_⟩
  rw [hh, (strKind prog w).inj _ _ _ hk' q]
theorem newSet_led {Q : Value → Shared → Prop} (h : Q (.ref s.heap.objs.size) { s with heap := s.heap.push { cls := .type "set", dict := none, data := .set #[] 0 (.fresh 0 0 (ledOf w)) } }) : wpAny (model prog w) A (newSet (.type "set")) Q E s := by
  unfold newSet setsByText
  refine wpAny_bind (wpAny_bind (wpAny_askSetting (wpAny_pure ?_)))
  dsimp only
  simp only [newObj]
  exact wpAny_bind (wpAny_alloc (wpAny_pure h))
theorem set_star {K : Frag} {e d : PySem.Expr} {pos p2 : Pos} {env : Env} {Q : Value → Shared → Prop} (F : Fr h₀ L s.heap m) (N : News h₀ L s.heap news) (X : K.In h₀) (hc : kdsCode K env.code = true)
    (h : ∀ (D : Nat) h', Fr h₀ L h' m → News h₀ L h' ((D, { cls := .type "set", dict := none, data := .set #[] 0 (.fresh 0 0 (ledOf w)) }) :: news) → (∀ p ∈ news, p.1 < D) →
      wpAny (model prog w) A (eval e env) (fun v s1 => wpAny (model prog w) A (setAdd D v) (fun _ s2 => wpAny (model prog w) A (eval d env) (fun dv s3 => wpAny (model prog w) A (setDisplayStar D dv) (fun _ s4 => Q (.ref D) s4) E s3) E s2) E s1) E { s with heap := h' })
    (hs : starEach [e, .Starred d p2] env = [(false, eval e env), (true, eval d env)] := by rfl) :
    wpAny (model prog w) A (eval (.Set [e, .Starred d p2] 0 pos) env) Q E s := by
  rw [arm_eval_Set]
  refine wpAny_bind (wpAny_standAt ?_)
  refine wpAny_bind (kds_main (X.keeps F.keep) hc fun b => ?_)
  rw [hs]
  unfold setDisplay
  try dsimp only
  have hr : displayRoad 0 [e, .Starred d p2] = .oneByOne := rfl
  rw [hr, if_neg (by decide)]
  refine wpAny_bind (newSet_led ?_)
  dsimp only
  have h1 := h _ _ (F.push _) (News.push F N { cls := .type "set", dict := none, data := .set #[] 0 (.fresh 0 0 (ledOf w)) } rfl) (fun p hp => Heap.lt_size (N p hp).1)
  refine wpAny_bind (wpAny_holding ?_)
  refine wpAny_bind (m := evalAll [do let v ← eval e env; standAt pos; pure v]) ?_
  show wpAny _ _ ((eval e env >>= fun v => standAt pos >>= fun _ => pure v) >>= fun v => holding [v] (evalAll []) >>= fun r => pure (v :: r)) _ _ _
  refine wpAny_bind (wpAny_bind (wpAny_mono h1 (fun v s1 q1 => ?_) fun _ _ z => z))
  refine wpAny_bind (wpAny_standAt (wpAny_pure ?_))
  refine wpAny_bind (wpAny_holding (wpAny_pure (wpAny_pure ?_)))
  refine wpAny_bind (wpAny_holding (wpAny_bind ?_))
  rw [List.forIn_cons]
  refine wpAny_bind (wpAny_bind (wpAny_mono q1 (fun _ s2 q2 => ?_) fun _ _ z => z))
  refine wpAny_pure ?_
  dsimp only
  rw [List.forIn_nil]
  refine wpAny_pure ?_
  rw [if_neg (by decide)]
  refine wpAny_pure ?_
  show wpAny _ _ (forIn [(true, _)] _ _ >>= _) _ _ _
  rw [List.forIn_cons]
  refine wpAny_bind (wpAny_bind (wpAny_bind (wpAny_bind (wpAny_mono q2 (fun dv s3 q3 => ?_) fun _ _ z => z))))
  refine wpAny_bind (wpAny_standAt (wpAny_pure ?_))
  simp only [↓reduceIte]
  refine wpAny_bind (wpAny_holding (wpAny_mono q3 (fun _ s4 q4 => ?_) fun _ _ z => z))
  refine wpAny_pure ?_
  dsimp only
  rw [List.forIn_nil]
  exact wpAny_pure (wpAny_pure (wpAny_pure q4))
end
end
section
open PySem PySem.Calls PyProof.Rows PySem.W PySem.Spec
theorem slot_sit_next : Slot "set_iterator" "__next__" "set_iterator.__next__" :=
  .of (owner := "set_iterator") (n := "__next__") (by rw [typeLookup_type, builtinLookup_eq_fast]; kernel_rfl) (by decide +kernel) (by decide +kernel) (by decide +kernel)
    (by first | exact .inl (by decide +kernel) | exact .inr (by decide +kernel)) (by rw [isSubtype_type]; kernel_rfl)
theorem entry_sit_next : entryFor table "set_iterator.__next__" = some Builtin.«set_iterator.__next__» := entryFor_of_tree (by kernel_rfl)
theorem args_sit_next (a : Value) : argsOk "set_iterator.__next__" ⟨[a], []⟩ := by unfold argsOk; kernel_rfl
theorem entry_set_it : entryFor table "set.__iter__" = some Builtin.«frozenset.__iter__» :=
  entryFor_alias (id' := "frozenset.__iter__") (by kernel_rfl) rfl (by decide +kernel) (by kernel_rfl)
section
variable {prog : Program} {w : World} {A : Around} {E : Value → Shared → Prop} {s : Shared}
noncomputable abbrev setIt (D : Addr) (slot i : Nat) : Obj := { cls := .type "set_iterator", data := .fields #[.int slot 0, .int i 0, .ref D, .int 1 0, .int 1 0] }
end
end
section
open PySem PySem.Calls PyProof.Rows PySem.W PySem.Spec

noncomputable def pairT (prog : Program) (w : World) (x : Str × Tok) : Int × Value := ((strKind prog w).hash x.1, .str x.1 x.2)
noncomputable def TSet (prog : Program) (w : World) (o : Obj) (ks : List (Str × Tok)) : Prop :=
  ∃ es ep t, o = ({ cls := .type "set", dict := none, data := .set es ep t } : Obj) ∧ t.fits es.size = true ∧ t.led = ledOf w ∧ t.plain = false ∧
    es.toList.Perm (ks.map (pairT prog w)) ∧ (ks.map (·.1)).Nodup

theorem layNew_led (t : SetTable) (es : Array (Int × Value)) (h : Int) (x : Value) : (layNew t es h x).2.1.led = t.led := by
  unfold layNew
  split
  · show (SetTable.orStandIn _ _).led = _
    unfold SetTable.orStandIn
    split <;> rfl
  · rfl
theorem layNew_plain (t : SetTable) (es : Array (Int × Value)) (h : Int) (x : Value) (hp : t.plain = false) : (layNew t es h x).2.1.plain = false := by
  unfold layNew
  split
  · show (SetTable.orStandIn _ _).plain = _
    unfold SetTable.orStandIn
    split
    · exact hp
    · rfl
  · rfl
theorem wpAny_choose {M : Model} {A : Around} {E : Value → Shared → Prop} {s : Shared} {src : Source} {n : Nat} {Q : Nat → Shared → Prop} (hn : 0 < n)
    (h : ∀ i d, i < n → Q i { s with drawn := d }) : wpAny M A (choose src n) Q E s := by
  intro Γ p hΓ
  show Sem.wp M Γ (.choose src n .pure) _ _ p s
  rw [Sem.wp_choose]
  exact ⟨Nat.ne_of_gt hn, h _ _ (Nat.mod_lt _ hn)⟩
theorem wpAny_drawOrder {α : Type} {M : Model} {A : Around} {E : Value → Shared → Prop} : ∀ (n : Nat) (l : List α) {s : Shared} {Q : List α → Shared → Prop}, l.length ≤ n →
    (∀ l' d, l'.Perm l → Q l' { s with drawn := d }) → wpAny M A (drawOrder n l) Q E s
  | 0, l, s, Q, hl, h => by
    have : l = [] := List.length_eq_zero_iff.mp (by lia)
    subst this
    exact wpAny_pure (h [] s.drawn .rfl)
  | n + 1, [], s, Q, hl, h => wpAny_pure (h [] s.drawn .rfl)
  | n + 1, a :: l, s, Q, hl, h => by
    show wpAny M A (choose .order (a :: l).length >>= fun i => match (a :: l)[i]? with | some x => (do return x :: (← drawOrder n ((a :: l).eraseIdx i))) | none => unsupported "internal:drawOrder") Q E s
    refine wpAny_bind (wpAny_choose (by simp) fun i d hi => ?_)
    rw [List.getElem?_eq_getElem hi]
    refine wpAny_bind (wpAny_drawOrder n ((a :: l).eraseIdx i) (by rw [List.length_eraseIdx]; simp only [hi, if_true]; simp only [List.length_cons] at *; lia) fun l' d' hp => ?_)
    refine wpAny_pure (h _ _ ?_)
    have hp2 := List.Perm.cons ((a :: l)[i]) hp
    refine hp2.trans ?_
    rw [List.eraseIdx_eq_take_drop_succ]
    have e : a :: l = (a :: l).take i ++ (a :: l)[i] :: (a :: l).drop (i + 1) := by rw [← List.drop_eq_getElem_cons hi, List.take_append_drop]
    exact List.perm_middle.symm.trans (List.Perm.of_eq e.symm)
theorem pick_go {α : Type} (f : Nat → Nat) : ∀ (fuel k : Nat) (l : List α) (out : Array α), l.length ≤ fuel → (pickOrder.go f fuel k l out).toList.Perm (out.toList ++ l)
  | 0, k, l, out, hl => by
    have : l = [] := List.length_eq_zero_iff.mp (by lia)
    subst this
    have e : pickOrder.go f 0 k [] out = out := rfl
    rw [e]; simp
  | fuel + 1, k, [], out, hl => by
    have : pickOrder.go f (fuel + 1) k [] out = out := rfl
    rw [this]; simp
  | fuel + 1, k, a :: l, out, hl => by
    have hi : f k % (a :: l).length < (a :: l).length := Nat.mod_lt _ (by simp)
    have e0 : pickOrder.go f (fuel + 1) k (a :: l) out = pickOrder.go f fuel (k + 1) ((a :: l).eraseIdx (f k % (a :: l).length)) (out.push ((a :: l)[f k % (a :: l).length])) := by
      show (match (a :: l)[f k % (a :: l).length]? with | some x => _ | none => _) = _
      rw [List.getElem?_eq_getElem hi]
    rw [e0]
    refine (pick_go f fuel (k + 1) _ _ (by rw [List.length_eraseIdx]; simp only [hi, if_true]; simp only [List.length_cons] at *; lia)).trans ?_
    rw [Array.toList_push, List.append_assoc]
    refine List.Perm.append_left _ ?_
    rw [List.eraseIdx_eq_take_drop_succ]
    have e : a :: l = (a :: l).take (f k % (a :: l).length) ++ (a :: l)[f k % (a :: l).length] :: (a :: l).drop (f k % (a :: l).length + 1) := by rw [← List.drop_eq_getElem_cons hi, List.take_append_drop]
    exact List.Perm.trans (List.perm_middle (l₁ := (a :: l).take (f k % (a :: l).length))).symm (List.Perm.of_eq e.symm)
theorem pick_perm {α : Type} (f : Nat → Nat) (xs : Array α) : (pickOrder f xs).toList.Perm xs.toList := by
  unfold pickOrder
  have := pick_go f xs.size 0 xs.toList #[] (by simp)
  simpa using this

theorem laid_led {mask finger moves : Nat} {led plain : Bool} {hs : Array Int} {r : SetTable × Array Nat} (h : SetTable.laid mask finger moves led plain hs = some r) : r.1.led = led ∧ r.1.plain = plain := by
  unfold SetTable.laid at h
  cases q : SetTable.layClean mask hs with
  | none => rw [q] at h; cases h
  | some o => rw [q] at h; cases h; exact ⟨rfl, rfl⟩
theorem relayAll_led (t : SetTable) (es : Array (Int × Value)) (n : Nat) : (relayAll t es n).2.1.led = t.led := by
  unfold relayAll
  split
  · rename_i t' order h
    have q := laid_led h
    dsimp only
    split <;> first | exact q.1 | rfl
  · rfl
theorem relayAll_plain (t : SetTable) (es : Array (Int × Value)) (n : Nat) (hp : t.plain = false) : (relayAll t es n).2.1.plain = false := by
  unfold relayAll
  split
  · rename_i t' order h
    have q := laid_led h
    dsimp only
    split <;> first | exact q.2.trans hp | rfl
  · rfl
section
variable {prog : Program} {w : World} {A : Around} {E : Value → Shared → Prop} {s : Shared} {h₀ : Heap} {L : Addr} {m : Str → Option Value} {news : List (Addr × Obj)} {g : Obj → List (Addr × Obj)} {o : Obj} {ks : List (Str × Tok)}
theorem elems_of {es : Array (Int × Value)} (hp : es.toList.Perm (ks.map (pairT prog w))) : ElemsOf (strKind prog w) es.toList := fun e he => by
  obtain ⟨x, _, rfl⟩ := List.mem_map.mp (hp.mem_iff.mp he)
  exact ⟨⟨x.1, strKind_is _ _ _ _, rfl⟩, rfl⟩
theorem size_of {es : Array (Int × Value)} (hp : es.toList.Perm (ks.map (pairT prog w))) : es.size = ks.length := by
  have := hp.length_eq
  simpa using this
theorem tset_addHashed {D : Addr} {x : Str} {tx : Tok} {Q : Bool → Shared → Prop} (F : Fr h₀ L s.heap m) (N : News h₀ L s.heap news) (U : UpdF D o news g) (hs : TSet prog w o ks) (hx : x ∉ ks.map (·.1)) (hb : ks.length < 1000)
    (h : ∀ h' o', Fr h₀ L h' m → News h₀ L h' (g o') → TSet prog w o' ((x, tx) :: ks) → Q true { s with heap := h' }) :
    wpAny (model prog w) A (setAddHashed D (.str x tx) ((strKind prog w).hash x)) Q E s := by
  obtain ⟨pre, post, rfl, hg, a, b⟩ := U.split
  obtain ⟨es, ep, t, rfl, hf, hl, hpl, hp, hn⟩ := hs
  have hm := N (D, _) (List.mem_append_right _ (.head _))
  have ho := hm.1
  have hkey : (strKind prog w).is x (.str x tx) = true := strKind_is _ _ _ _
  have hel := elems_of hp
  have hsz := size_of hp
  have hsc : es.size < scanBound := by rw [hsz]; have : scanBound = 4096 := rfl; lia
  have hno : es.toList.findIdx? (fun e => (strKind prog w).is x e.2) = none := by
    rw [List.findIdx?_eq_none_iff]
    intro e he
    obtain ⟨y, hy, rfl⟩ := List.mem_map.mp (hp.mem_iff.mp he)
    cases q : (strKind prog w).is x (pairT prog w y).2 with
    | false => rfl
    | true =>
      exfalso
      apply hx
      obtain ⟨_, q'⟩ := str_of_is q
      have : y.1 = x := by injection q'
      exact this ▸ List.mem_map_of_mem hy
  unfold setAddHashed setAddHashedIn
  refine wpAny_holding (wpAny_bind (wpAny_setState_of ho rfl hf ?_))
  dsimp only
  rw [byScan_of rfl hsc hel]
  simp only [↓reduceIte]
  unfold setAddByScan
  refine wpAny_bind ?_
  refine wpAny_bind (wpAny_rule ?_)
  refine wpAny_bind (wpAny_setScan_of hkey ho rfl hf hel ?_)
  rw [hno]
  dsimp only
  have hperm := layNew_perm t es ((strKind prog w).hash x) (.str x tx)
  have hfits := layNew_fits t es ((strKind prog w).hash x) (.str x tx)
  have hled := layNew_led t es ((strKind prog w).hash x) (.str x tx)
  have hplain := layNew_plain t es ((strKind prog w).hash x) (.str x tx) hpl
  generalize hL : layNew t es ((strKind prog w).hash x) (.str x tx) = Ln at hperm hfits hled hplain ⊢
  obtain ⟨es1, t1, wasDummy, gave⟩ := Ln
  dsimp only at hperm hfits hled hplain ⊢
  have hgw : ∀ (b : Bool) {s₁ : Shared} {Q' : Unit → Shared → Prop}, Q' () s₁ → wpAny (model prog w) A (match b with | true => rule "set.scan.the-table-gave-way" | false => pure ()) Q' E s₁ :=
    fun b s₁ Q' hq => by cases b <;> first | exact wpAny_pure hq | exact wpAny_rule hq
  have hp1 : es1.toList.Perm (((x, tx) :: ks).map (pairT prog w)) := by
    refine hperm.trans ?_
    rw [Array.toList_push, List.map_cons]
    exact (List.perm_append_comm (l₂ := [_])).trans (List.Perm.cons _ hp)
  have hz1 : es1.size ≤ sizeLine := by rw [size_of hp1, sizeLine_eq]; simp only [List.length_cons]; lia
  have hn1 : (((x, tx) :: ks).map (·.1)).Nodup := List.nodup_cons.mpr ⟨hx, hn⟩
  have fin : ∀ (h' : Heap) (es' : Array (Int × Value)) (ep' : Nat) (t' : SetTable), Heap.SameBut D s.heap h' → h'.get? D = some { cls := .type "set", dict := none, data := .set es' ep' t' } → t'.fits es'.size = true → t'.led = ledOf w → t'.plain = false →
      es'.toList.Perm (((x, tx) :: ks).map (pairT prog w)) → Q true { s with heap := h' } := fun h' es' ep' t' hsb hg' c1 c2 c3 c4 =>
    h h' _ (F.change hsb hm.2.1 hm.2.2) (hg _ ▸ N.setIn a b hsb hg') ⟨es', ep', t', rfl, c1, c2, c3, c4, hn1⟩
  refine wpAny_bind (hgw _ ?_)
  rw [if_neg (by rw [hplain]; decide)]
  refine wpAny_bind (wpAny_pure ?_)
  rw [if_pos rfl]
  have g1 : (s.heap.update D (Obj.putSet es1 t1)).get? D = some { cls := .type "set", dict := none, data := .set es1 (ep + 1) t1 } := by
    have q := Heap.get?_update_self (Obj.putSet es1 t1) ho (by rw [putSet_of (ep := ep) _ _ rfl]; rfl)
    rw [putSet_of (ep := ep) _ _ rfl] at q
    exact q
  have sb1 := Heap.SameBut.update s.heap D (Obj.putSet es1 t1)
  refine wpAny_bind (wpAny_storeSet_of ho rfl ?_ hz1)
  split
  · have hpr := relayAll_perm t1 es1 (SetTable.grown es1.size)
    have hfr := relayAll_fits t1 es1 (SetTable.grown es1.size)
    have hlr := relayAll_led t1 es1 (SetTable.grown es1.size)
    have hpl1 := relayAll_plain t1 es1 (SetTable.grown es1.size) hplain
    generalize hRl : relayAll t1 es1 (SetTable.grown es1.size) = Rl at hpr hfr hlr hpl1 ⊢
    obtain ⟨es2, t3, gave2⟩ := Rl
    dsimp only at hpr hfr hlr hpl1 ⊢
    refine wpAny_bind (hgw _ ?_)
    have hp2 := hpr.trans hp1
    have g2 : ((s.heap.update D (Obj.putSet es1 t1)).update D (Obj.putSet es2 t3)).get? D = some { cls := .type "set", dict := none, data := .set es2 (ep + 1 + 1) t3 } := by
      have q := Heap.get?_update_self (Obj.putSet es2 t3) g1 (by rw [putSet_of (ep := ep + 1) _ _ rfl]; rfl)
      rw [putSet_of (ep := ep + 1) _ _ rfl] at q
      exact q
    refine wpAny_bind (wpAny_storeSet_of g1 rfl ?_ (by rw [size_of hp2, sizeLine_eq]; simp only [List.length_cons]; lia))
    exact wpAny_pure (wpAny_pure (fin _ es2 _ t3 (sb1.trans (Heap.SameBut.update _ D _)) g2 hfr (hlr.trans (hled.trans hl)) hpl1 hp2))
  · exact wpAny_pure (wpAny_pure (fin _ es1 _ t1 sb1 g1 hfits (hled.trans hl) hplain hp1))
theorem tset_add {D : Addr} {x : Str} {tx : Tok} {Q : Bool → Shared → Prop} (F : Fr h₀ L s.heap m) (N : News h₀ L s.heap news) (U : UpdF D o news g) (hs : TSet prog w o ks) (hx : x ∉ ks.map (·.1)) (hb : ks.length < 1000)
    (h : ∀ h' o' tk', Fr h₀ L h' m → News h₀ L h' (g o') → TSet prog w o' ((x, tx) :: ks) → Q true { s with heap := h', toks := tk' }) :
    wpAny (model prog w) A (setAdd D (.str x tx)) Q E s := by
  unfold setAdd
  refine wpAny_holding (wpAny_bind ((strKind prog w).pyHash (strKind_is _ _ _ _) ?_))
  exact tset_addHashed F N U hs hx hb fun h' o' F' N' hs' => h h' o' _ F' N' hs'
theorem tset_one {x : Str} {tx : Tok} {t : SetTable} (ht : LowT (ledOf w) t)   : TSet prog w (oneSet ((strKind prog w).hash x) (.str x tx) t) [(x, tx)] :=
  ⟨_, _, t, rfl, ht.2.2.1, ht.2.2.2.1, ht.2.2.2.2, .rfl, by simp⟩
theorem star1T {D at_ : Addr} {oA : Obj} {x k : Str} {tx : Tok} {v : Value} {t : SetTable} {Q : Unit → Shared → Prop} (F : Fr h₀ L s.heap m) (N : News h₀ L s.heap news) (hh : A.handled = none)
    (hA : (at_, oA) ∈ news) (hd : oA.IsDictOf (strKind prog w) [(k, v)]) (hsm : (at_ == sysModules) = false) (hne : at_ ≠ D) (hxk : k ≠ x)
    (U : UpdF D (oneSet ((strKind prog w).hash x) (.str x tx) t) news g) (ht : LowT (ledOf w) t)
    (h : ∀ h' so' tk' t9, Fr h₀ L h' m → News h₀ L h' (g so') → TSet prog w so' [(k, t9), (x, tx)] → Q () { s with heap := h', toks := tk' }) :
    wpAny (model prog w) A (setDisplayStar D (.ref at_)) Q E s := by
  have hd' := hd
  obtain ⟨es, ep, hx, hdd, hkk, hp, hnn⟩ := hd'
  have hc : oA.cls = .type "dict" := hx.1
  have ho := N.get hA
  have hT : s.TypeIs (.ref at_) "dict" := ⟨_, ho, hc⟩
  have U' := U
  obtain ⟨pre, post, rfl, hg, a, b⟩ := U'.split
  have hm := N (D, _) (List.mem_append_right _ (.head _))
  obtain ⟨e, tk, rfl, ek, eh⟩ := get_single (l := []) hp hkk
  have hso := tset_one (prog := prog) (w := w) (x := x) (tx := tx) ht
  have hS1 : k ∉ ([(x, tx)] : List (Str × Tok)).map (·.1) := by simpa using hxk
  unfold setDisplayStar
  dsimp only
  refine wpAny_bind (wpAny_isInstance hT sub_dict_set ?_)
  simp only [Bool.false_eq_true, if_false]
  refine wpAny_bind (wpAny_isInstance hT sub_dict_fset ?_)
  refine wpAny_bind (wpAny_askSetting ?_)
  cases hb : (w.params.followText "set-display-star-reads-storage")
  · rw [if_neg (by rw [show ({ program := (model prog w).prog, params := (model prog w).w.params } : Setting).params = w.params from rfl, hb]; exact Bool.false_ne_true)]
    dsimp only
    rw [if_neg Bool.false_ne_true]
    refine wpAny_bind (wpAny_typeOf hT ?_)
    rw [if_pos (by decide)]
    refine wpAny_bind (wpAny_rule ?_)
    rw [if_neg (by rw [hsm]; exact Bool.false_ne_true)]
    refine wpAny_bind (wpAny_dictEpoch ho hdd ?_)
    refine wpAny_bind (wpAny_dictEntries ho hdd ?_)
    refine wpAny_bind (m := setRoomFor D 1) ?_
    unfold setRoomFor
    refine wpAny_bind (wpAny_setState_of hm.1 rfl ht.2.2.1 ?_)
    dsimp only
    rw [low_room ht 1 (by decide)]
    refine wpAny_pure ?_
    rw [Std.Legacy.Range.forIn_eq_forIn_range']
    have hr : ([:(#[e] : Array DictEntry).size] : Std.Legacy.Range).size = 1 := by simp [Std.Legacy.Range.size]
    rw [hr]
    show wpAny _ _ (forIn [0] _ _ >>= _) _ _ _
    rw [List.forIn_cons]
    refine wpAny_bind (wpAny_bind (wpAny_bind (wpAny_dictEntries ho hdd ?_)))
    show wpAny _ _ (holding [e.key] (setAddHashed D e.key e.hash >>= fun _ => pure PUnit.unit) >>= _) _ _ _
    rw [ek, eh]
    refine wpAny_bind (wpAny_holding (wpAny_bind ?_))
    refine tset_addHashed F N U hso hS1 (by simp) fun h' so' F' N' hs' => ?_
    refine wpAny_pure ?_
    have hA2 : (at_, oA) ∈ g so' := by
      rw [hg]
      rcases List.mem_append.mp hA with q | q
      · exact List.mem_append_left _ q
      · rcases List.mem_cons.mp q with q | q
        · exact absurd (congrArg Prod.fst q) hne
        · exact List.mem_append_right _ (.tail _ q)
    refine wpAny_bind (wpAny_dictEpoch (N'.get hA2) hdd ?_)
    rw [if_neg (by simp)]
    refine wpAny_pure ?_
    dsimp only
    rw [List.forIn_nil]
    refine wpAny_pure (wpAny_pure ?_)
    exact h h' so' _ tk F' N' hs'
  · rw [if_pos (by exact hb)]
    obtain ⟨ep, hmm⟩ := dictAt_of ho hd
    obtain ⟨om, em, e1, e2, e3, e4, e5, e6⟩ := id hmm
    refine wpAny_bind (wpAny_pyIter_dict hsm hmm ?_)
    refine wpAny_bind (wpAny_runValue ?_)
    refine codeAny_builtin PyProof.Rows.F.entry_set_update_loop ?_
    rw [Around.under_plainId PyProof.Rows.F.plain_set_update_loop]
    show wpAny _ _ (pyNext (.ref s.heap.objs.size) >>= _) _ _ _
    refine wpAny_bind (wpAny_pyNext_dict_item (d := at_) (i := 0) (ep := ep) (kvs := [(k, v)]) (k := k) (v := v) (knd := strKind prog w) ⟨_, Heap.get?_push_size _ rfl, rfl, rfl⟩ ⟨om, em, Heap.get?_push_of_some _ e1, e2, e3, e4, e5, e6⟩ rfl fun key h' hkey hit hsb => ?_)
    obtain ⟨t9, rfl⟩ := str_of_is hkey
    have hI := kdx_fresh F (Nat.le_refl s.heap.objs.size)
    have nI : ∀ p ∈ pre ++ (D, oneSet ((strKind prog w).hash x) (.str x tx) t) :: post, p.1 ≠ s.heap.objs.size := fun p hp => Nat.ne_of_lt (Heap.lt_size (N p hp).1)
    have F1 : Fr h₀ L h' m := fr_ext (F.push _) hI hsb.extBut
    have N1 : News h₀ L h' (pre ++ (D, oneSet ((strKind prog w).hash x) (.str x tx) t) :: post) := news_ext (news_push0 N) nI hsb.extBut
    obtain ⟨io, hio, c1, c2⟩ := hit
    have N2 : News h₀ L h' ((s.heap.objs.size, io) :: (pre ++ (D, oneSet ((strKind prog w).hash x) (.str x tx) t) :: post)) := fun p hp => by
      rcases List.mem_cons.mp hp with rfl | hp
      · exact ⟨hio, hI⟩
      · exact N1 p hp
    show wpAny _ _ (holding [_] (setAdd D (.str k t9)) >>= _) _ _ _
    refine wpAny_bind (wpAny_holding ?_)
    refine tset_add F1 N2 (UpdF.tail (p := (s.heap.objs.size, io)) (Ne.symm (nI _ (List.mem_append_right _ (.head _)))) U) hso hS1 (by simp) fun h2 so' tk9 F2 N3 hso2 => ?_
    have hA2 : (at_, oA) ∈ (s.heap.objs.size, io) :: g so' := by
      rw [hg]
      refine .tail _ ?_
      rcases List.mem_append.mp hA with q | q
      · exact List.mem_append_left _ q
      · rcases List.mem_cons.mp q with q | q
        · exact absurd (congrArg Prod.fst q) hne
        · exact List.mem_append_right _ (.tail _ q)
    refine wpAny_pure ⟨plainId_quiet PyProof.Rows.F.plain_set_update_loop _, codeAny_builtin PyProof.Rows.F.entry_set_update_loop ?_⟩
    rw [Around.under_plainId PyProof.Rows.F.plain_set_update_loop]
    show wpAny _ _ (pyNext (.ref s.heap.objs.size) >>= _) _ _ _
    refine wpAny_bind (wpAny_pyNext_dict_end (d := at_) (i := 1) (ep := ep) (kvs := [(k, v)]) (knd := strKind prog w) hh ⟨io, N3.get (.head _), c1, c2⟩ ⟨om, em, ?_, e2, e3, e4, e5, e6⟩ rfl fun h3 hx3 => ?_)
    · rw [ho] at e1
      cases e1
      exact N3.get hA2
    · refine wpAny_pure ?_
      have N4 : News h₀ L h2 (g so') := newsSub N3 fun p hp => .tail _ hp
      have nI2 : ∀ p ∈ g so', p.1 ≠ s.heap.objs.size := fun p hp => by
        rw [hg] at hp
        rcases List.mem_append.mp hp with q | q
        · exact nI p (List.mem_append_left _ q)
        · rcases List.mem_cons.mp q with q | q
          · subst q; exact nI (D, oneSet ((strKind prog w).hash x) (.str x tx) t) (List.mem_append_right _ (.head _))
          · exact nI p (List.mem_append_right _ (.tail _ q))
      exact wpAny_pure (h h3 so' _ _ (fr_ext F2 hI hx3) (news_ext N4 nI2 hx3) hso2)
end
end
section
open PySem PySem.Calls PyProof.Rows PySem.W PySem.Spec
theorem slot_sit_iter : Slot "set_iterator" "__iter__" "set_iterator.__iter__" :=
  .of (owner := "set_iterator") (n := "__iter__") (by rw [typeLookup_type, builtinLookup_eq_fast]; kernel_rfl) (by decide +kernel) (by decide +kernel) (by decide +kernel)
    (by first | exact .inl (by decide +kernel) | exact .inr (by decide +kernel)) (by rw [isSubtype_type]; kernel_rfl)
theorem entry_sit_iter : entryFor table "set_iterator.__iter__" = some Builtin.«dict_keyiterator.__iter__» :=
  entryFor_alias (id' := "dict_keyiterator.__iter__") (by kernel_rfl) rfl (by decide +kernel) (by kernel_rfl)
theorem args_sit_iter (a : Value) : argsOk "set_iterator.__iter__" ⟨[a], []⟩ := by unfold argsOk; kernel_rfl
noncomputable abbrev sitObj (first : Value) (i : Nat) (D : Addr) (n ep : Nat) : Obj := { cls := .type "set_iterator", data := .fields #[first, .int i 0, .ref D, .int n 0, .int ep 0] }
section
variable {prog : Program} {w : World} {A : Around} {E : Value → Shared → Prop} {s : Shared}
theorem sit_self {I : Addr} {f : Value} {i : Nat} {D : Addr} {n ep : Nat} {Q : Value → Shared → Prop} (ho : s.heap.get? I = some (sitObj f i D n ep)) (h : Q (.ref I) s) : wpAny (model prog w) A (pyIter (.ref I)) Q E s := by
  have hT : s.TypeIs (.ref I) "set_iterator" := ⟨_, ho, rfl⟩
  refine wpAny_pyIter_slot hT slot_sit_iter (wpAny_call_entry slot_sit_iter hT entry_sit_iter ?_ (args_sit_iter _))
  show wpAny _ _ (ret (.ref I)) _ _ s
  exact wpAny_pure ⟨_, rfl, "set_iterator", _, hT, slot_sit_next.lookup, h⟩
noncomputable abbrev setObj (es : Array (Int × Value)) (ep : Nat) (t : SetTable) : Obj := { cls := .type "set", dict := none, data := .set es ep t }
theorem upd_field {h : Heap} {I : Addr} {vs : Array Value} {c : Value} {i : Nat} {x : Value} (ho : h.get? I = some { cls := c, data := .fields vs }) :
    (h.update I (Obj.mapFields (·.setIfInBounds i x))).get? I = some { cls := c, data := .fields (vs.setIfInBounds i x) } := by
  rw [Heap.get?_update_self _ ho rfl]
  rfl
theorem sit_head {I D : Addr} {first : Value} {i n ep : Nat} {es : Array (Int × Value)} {t : SetTable} {Q : Option Value → Shared → Prop}
    (ho : s.heap.get? I = some (sitObj first i D n ep)) (hD : s.heap.get? D = some (setObj es ep t)) (hf : t.fits es.size = true) (hn : es.size = n)
    (h : wpAny (model prog w) A.in1 (if let .int slot _ := first then do
        match ← setNext D slot.toNat (i : Int).toNat (ep : Int).toNat with
        | some (x, next) =>
          setField (.ref I) 0 (rawInt next)
          setField (.ref I) 1 (rawInt ((i : Int) + 1))
          ret x
        | none => setField (.ref I) 2 .none; raiseNew (← newExc (.type "StopIteration") [])
      else do
        let some places ← seqItems? first | unsupported "internal:set_iterator"
        match places[(i : Int).toNat]? with
        | some (.int place _) =>
          let x ← setNextDrawn D place.toNat (ep : Int).toNat
          setField (.ref I) 1 (rawInt ((i : Int) + 1))
          ret x
        | some _ => unsupported "internal:set_iterator"
        | none => setField (.ref I) 0 (rawInt 0); setField (.ref I) 2 .none; raiseNew (← newExc (.type "StopIteration") []))
      (fun fin s' => ∃ v, fin = .done (.ret v) ∧ Q (some v) s') (fun e s' => wpAny (model prog w) A (isInstance e (.type "StopIteration")) (fun b s'' => b = true ∧ Q none s'') E s') s) :
    wpAny (model prog w) A (pyNext (.ref I)) Q E s := by
  have hT : s.TypeIs (.ref I) "set_iterator" := ⟨_, ho, rfl⟩
  unfold pyNext
  refine wpAny_bind (wpAny_attempt (wpAny_callSpecial?_slot (name := Str.ofString "__next__") hT slot_sit_next (wpAny_call_entry slot_sit_next hT entry_sit_next ?_ (args_sit_next _))))
  unfold Builtin.«set_iterator.__next__»
  refine wpAny_bind (wpAny_pure ?_)
  refine wpAny_bind (wpAny_fieldsOf ho rfl ?_)
  dsimp only
  refine wpAny_bind (wpAny_setEntries_of hD rfl hf ?_)
  rw [if_neg (by rw [hn]; simp)]
  refine wpAny_mono h (fun fin s' hq => ?_) fun e s' hq => ?_
  · obtain ⟨v, rfl, q⟩ := hq
    exact ⟨v, rfl, wpAny_pure q⟩
  · refine wpAny_bind (wpAny_mono hq (fun b s'' hb => ?_) fun _ _ x => x)
    obtain ⟨rfl, q⟩ := hb
    exact wpAny_pure q
theorem stop_end {A' : Around} {P : PySem.Fin → Shared → Prop} {Q : Option Value → Shared → Prop} (hh : A.handled = none) (h : ∀ h', (∀ b o, s.heap.get? b = some o → h'.get? b = some o) → Q none { s with heap := h' }) :
    wpAny (model prog w) A (newExc (.type "StopIteration") [] >>= fun e => (raiseNew e : Sem PySem.Fin)) P (fun e s' => wpAny (model prog w) A' (isInstance e (.type "StopIteration")) (fun b s'' => b = true ∧ Q none s'') E s') s := by
  refine wpAny_bind ?_
  simp only [newExc, newTuple]
  refine wpAny_bind (wpAny_newObj_type ?_ (by size_fits))
  refine wpAny_bind (m := firstArgMember _ _) (wpAny_of_eq (a := Value.none) (by first | rfl | (simp only [firstArgMember]; rfl)) ?_)
  refine wpAny_newObj_type ?_ (by size_fits)
  simp only [raiseNew]
  refine wpAny_bind (wpAny_handled ?_)
  rw [hh]
  refine wpAny_bind (wpAny_pure (wpAny_throw ?_))
  refine wpAny_isInstance (T := "StopIteration") (b := true) ⟨_, Heap.get?_push_size _ rfl, rfl⟩ isSubtype_stop ?_
  exact ⟨rfl, h _ fun b o e => Heap.get?_push_of_some _ (Heap.get?_push_of_some _ e)⟩
noncomputable def StD (D : Addr) (es : Array (Int × Value)) (ep : Nat) (t : SetTable) (I TP : Addr) (pl : List Nat) (i : Nat) (h : Heap) : Prop :=
  h.get? D = some (setObj es ep t) ∧ h.get? I = some (sitObj (.ref TP) i D es.size ep) ∧ h.get? TP = some { cls := .type "tuple", data := .seq (pl.map fun (j : Nat) => rawInt j).toArray }
theorem walksD {D I TP : Addr} {es : Array (Int × Value)} {ep : Nat} {t : SetTable} {pl : List Nat} (hh : A.handled = none) (hf : t.fits es.size = true) (hp : pl.Perm (List.range es.size)) (hDI : D ≠ I) (hTI : TP ≠ I) :
    Walks prog w A I [I, D, TP] [I] pl.length (fun i v => (pl.map fun j => (es.getD j (0, .none)).2)[i]? = some v) (StD D es ep t I TP pl) where
  sub := fun b hb => by simp at hb; simp [hb]
  frame := fun i h h' st hk => ⟨hk _ (by simp) _ st.1, hk _ (by simp) _ st.2.1, hk _ (by simp) _ st.2.2⟩
  self := fun _ _ _ _ st hQ => sit_self st.2.1 hQ
  item := fun i s Q E hi st hQ => by
    have hj : pl[i] < es.size := by
      have := hp.mem_iff.mp (List.getElem_mem hi)
      simpa using this
    refine sit_head st.2.1 st.1 hf rfl ?_
    dsimp only
    refine wpAny_bind (m := seqItems? (.ref TP)) ?_
    unfold seqItems?
    refine wpAny_bind (wpAny_load st.2.2 (wpAny_pure ?_))
    dsimp only
    rw [Int.toNat_natCast]
    have e1 : ((pl.map fun (j : Nat) => rawInt j).toArray)[i]? = some (.int (pl[i] : Nat) 0) := by simp [hi, rawInt]
    rw [e1]
    dsimp only
    refine wpAny_bind (m := setNextDrawn _ _ _) ?_
    unfold setNextDrawn
    refine wpAny_bind (wpAny_setState_of st.1 rfl hf ?_)
    dsimp only
    rw [Int.toNat_natCast, Int.toNat_natCast, if_neg (by simp), Array.getElem?_eq_getElem hj]
    refine wpAny_pure ?_
    refine wpAny_bind (wpAny_setField st.2.1 rfl (by simp) ?_)
    have u := upd_field (i := 1) (x := rawInt ((i : Int) + 1)) st.2.1
    have sb := Heap.SameBut.update s.heap I (Obj.mapFields (·.setIfInBounds 1 (rawInt ((i : Int) + 1))))
    refine wpAny_pure ⟨_, rfl, hQ _ _ s.toks ?_ ⟨(sb.2 _ hDI).trans st.1, u, (sb.2 _ hTI).trans st.2.2⟩ fun b o hb e => (sb.2 b (by simpa using hb)).trans e⟩
    simp [hi, hj]
  done := fun s Q E st hQ => by
    refine sit_head st.2.1 st.1 hf rfl ?_
    dsimp only
    refine wpAny_bind (m := seqItems? (.ref TP)) ?_
    unfold seqItems?
    refine wpAny_bind (wpAny_load st.2.2 (wpAny_pure ?_))
    dsimp only
    rw [Int.toNat_natCast]
    have e1 : ((pl.map fun (j : Nat) => rawInt j).toArray)[pl.length]? = none := by simp
    rw [e1]
    dsimp only
    refine wpAny_bind (wpAny_setField st.2.1 rfl (by simp) ?_)
    have u := upd_field (i := 0) (x := rawInt 0) st.2.1
    have sb := Heap.SameBut.update s.heap I (Obj.mapFields (·.setIfInBounds 0 (rawInt 0)))
    refine wpAny_bind (wpAny_setField u rfl (by simp) ?_)
    have sb2 := Heap.SameBut.update (s.heap.update I (Obj.mapFields (·.setIfInBounds 0 (rawInt 0)))) I (Obj.mapFields (·.setIfInBounds 2 Value.none))
    exact stop_end hh fun h' k => hQ h' s.toks fun b o hb e => k _ _ ((sb2.2 b (by simpa using hb)).trans ((sb.2 b (by simpa using hb)).trans e))
noncomputable def StT (w : World) (D : Addr) (es : Array (Int × Value)) (ep : Nat) (t : SetTable) (I : Addr) (i : Nat) (h : Heap) : Prop :=
  h.get? D = some (setObj es ep t) ∧ h.get? I = some (sitObj (.int (0 : Nat) 0) i D es.size ep)
theorem walksT {D I : Addr} {es : Array (Int × Value)} {ep : Nat} {t : SetTable} (hh : A.handled = none) (hf : t.fits es.size = true) (hb : w.params.followText "set-order" = true) (hDI : D ≠ I) :
    Walks prog w A I [I, D] [I] es.size (fun i v => ((pickOrder (w.params.setOrder D ep) es).toList.map (·.2))[i]? = some v) (StT w D es ep t I) where
  sub := fun b hb => by simp at hb; simp [hb]
  frame := fun i h h' st hk => ⟨hk _ (by simp) _ st.1, hk _ (by simp) _ st.2⟩
  self := fun _ _ _ _ st hQ => sit_self st.2 hQ
  item := fun i s Q E hi st hQ => by
    have hsz : (pickOrder (w.params.setOrder D ep) es).size = es.size := by
      have := (pick_perm (w.params.setOrder D ep) es).length_eq
      simpa using this
    refine sit_head st.2 st.1 hf rfl ?_
    dsimp only
    refine wpAny_bind (m := setNext _ _ _ _) ?_
    unfold setNext
    refine wpAny_bind (wpAny_setState_of st.1 rfl hf ?_)
    dsimp only
    refine wpAny_bind (m := setsByText) ?_
    unfold setsByText
    refine wpAny_bind (wpAny_askSetting (wpAny_pure ?_))
    rw [if_pos (by exact hb), Int.toNat_natCast, Int.toNat_natCast, if_neg (by simp)]
    refine wpAny_bind (m := setWalk D) ?_
    unfold setWalk
    refine wpAny_bind (wpAny_setState_of st.1 rfl hf ?_)
    dsimp only
    refine wpAny_bind (m := setsByText) ?_
    unfold setsByText
    refine wpAny_bind (wpAny_askSetting (wpAny_pure ?_))
    rw [if_pos (by exact hb)]
    refine wpAny_bind (wpAny_askSetting (wpAny_pure ?_))
    have hi' : i < (pickOrder (w.params.setOrder D ep) es).size := by rw [hsz]; exact hi
    refine wpAny_pure ?_
    show wpAny _ _ (match ((pickOrder (w.params.setOrder D ep) es)[i]?).map fun e => (e.2, (Int.toNat ((0 : Nat) : Int))) with | some (x, next) => _ | none => _) _ _ s
    rw [Array.getElem?_eq_getElem hi']
    dsimp only [Option.map]
    refine wpAny_bind (wpAny_setField st.2 rfl (by simp) ?_)
    have u := upd_field (i := 0) (x := rawInt (Int.toNat ((0 : Nat) : Int))) st.2
    have sb := Heap.SameBut.update s.heap I (Obj.mapFields (·.setIfInBounds 0 (rawInt (Int.toNat ((0 : Nat) : Int)))))
    refine wpAny_bind (wpAny_setField u rfl (by simp) ?_)
    have u2 := upd_field (i := 1) (x := rawInt ((i : Int) + 1)) u
    have sb2 := Heap.SameBut.update (s.heap.update I (Obj.mapFields (·.setIfInBounds 0 (rawInt (Int.toNat ((0 : Nat) : Int)))))) I (Obj.mapFields (·.setIfInBounds 1 (rawInt ((i : Int) + 1))))
    refine wpAny_pure ⟨_, rfl, hQ _ _ s.toks ?_ ⟨(sb2.2 _ hDI).trans ((sb.2 _ hDI).trans st.1), u2⟩ fun b o hb e => (sb2.2 b (by simpa using hb)).trans ((sb.2 b (by simpa using hb)).trans e)⟩
    simp [hi']
  done := fun s Q E st hQ => by
    have hsz : (pickOrder (w.params.setOrder D ep) es).size = es.size := by
      have := (pick_perm (w.params.setOrder D ep) es).length_eq
      simpa using this
    refine sit_head st.2 st.1 hf rfl ?_
    dsimp only
    refine wpAny_bind (m := setNext _ _ _ _) ?_
    unfold setNext
    refine wpAny_bind (wpAny_setState_of st.1 rfl hf ?_)
    dsimp only
    refine wpAny_bind (m := setsByText) ?_
    unfold setsByText
    refine wpAny_bind (wpAny_askSetting (wpAny_pure ?_))
    rw [if_pos (by exact hb), Int.toNat_natCast, Int.toNat_natCast, if_neg (by simp)]
    refine wpAny_bind (m := setWalk D) ?_
    unfold setWalk
    refine wpAny_bind (wpAny_setState_of st.1 rfl hf ?_)
    dsimp only
    refine wpAny_bind (m := setsByText) ?_
    unfold setsByText
    refine wpAny_bind (wpAny_askSetting (wpAny_pure ?_))
    rw [if_pos (by exact hb)]
    refine wpAny_bind (wpAny_askSetting (wpAny_pure ?_))
    refine wpAny_pure ?_
    show wpAny _ _ (match ((pickOrder (w.params.setOrder D ep) es)[es.size]?).map fun e => (e.2, (Int.toNat ((0 : Nat) : Int))) with | some (x, next) => _ | none => _) _ _ s
    rw [Array.getElem?_eq_none (by rw [hsz]; exact Nat.le_refl _)]
    dsimp only [Option.map]
    refine wpAny_bind (wpAny_setField st.2 rfl (by simp) ?_)
    have sb := Heap.SameBut.update s.heap I (Obj.mapFields (·.setIfInBounds 2 Value.none))
    exact stop_end hh fun h' k => hQ h' s.toks fun b o hb e => k _ _ ((sb.2 b (by simpa using hb)).trans e)

noncomputable def StO (D : Addr) (es : Array (Int × Value)) (ep : Nat) (t : SetTable) (I : Addr) (p0 : Nat) (i : Nat) (h : Heap) : Prop :=
  h.get? D = some (setObj es ep t) ∧ ∃ sl : Nat, h.get? I = some (sitObj (.int sl 0) i D es.size ep) ∧ ((i = 0 ∧ sl = 0) ∨ (i = 1 ∧ sl = p0 + 1))
theorem below_ite (p0 j : Nat) : SetTable.below #[p0] j = if p0 < j then 1 else 0 := by
  show (if 0 < 1 then (if (#[p0].getD ((0 + 1) / 2) j) < j then SetTable.below.go #[p0] j 0 ((0 + 1) / 2 + 1) 1 else SetTable.below.go #[p0] j 0 0 ((0 + 1) / 2)) else 0) = _
  rw [if_pos Nat.zero_lt_one]
  rfl
theorem below_zero (p0 : Nat) : SetTable.below #[p0] 0 = 0 := (below_ite p0 0).trans (if_neg (Nat.not_lt_zero p0))
theorem below_next (p0 : Nat) : SetTable.below #[p0] (p0 + 1) = 1 := (below_ite p0 (p0 + 1)).trans (if_pos (Nat.lt_succ_self p0))
theorem walksO {D I : Addr} {e0 : Int × Value} {ep p0 : Nat} {t : SetTable} (hh : A.handled = none) (hf : t.fits 1 = true) (hb : w.params.followText "set-order" = false) (hl : t.led = true) (hpl : t.place = #[p0]) (hDI : D ≠ I) :
    Walks prog w A I [I, D] [I] 1 (fun i v => [e0.2][i]? = some v) (StO D #[e0] ep t I p0) where
  sub := fun b hb => by simp at hb; simp [hb]
  frame := fun i h h' st hk => let ⟨a, sl, b, c⟩ := st; ⟨hk _ (by simp) _ a, sl, hk _ (by simp) _ b, c⟩
  self := fun _ _ _ _ st hQ => let ⟨_, _, b, _⟩ := st; sit_self b hQ
  item := fun i s Q E hi st hQ => by
    obtain ⟨hD, sl, hI, hc⟩ := st
    have i0 : i = 0 := by lia
    subst i0
    have s0 : sl = 0 := by rcases hc with c | c <;> lia
    subst s0
    refine sit_head hI hD hf rfl ?_
    dsimp only
    refine wpAny_bind (m := setNext _ _ _ _) ?_
    unfold setNext
    refine wpAny_bind (wpAny_setState_of hD rfl hf ?_)
    dsimp only
    refine wpAny_bind (m := setsByText) ?_
    unfold setsByText
    refine wpAny_bind (wpAny_askSetting (wpAny_pure ?_))
    rw [if_neg (by rw [show ({ program := (model prog w).prog, params := (model prog w).w.params } : Setting).params = w.params from rfl, hb]; decide)]
    rw [if_neg (by show ¬ ((!t.plain && decide ((#[e0] : Array (Int × Value)).size > 1)) = true); simp)]
    refine wpAny_bind (wpAny_of_eq (a := ()) (by
      show (if (!t.led && !(#[e0] : Array (Int × Value)).isEmpty) = true then unsupported "set:maker-not-led" else pure () : Sem Unit) = pure ()
      rw [hl]; rfl) ?_)
    rw [hpl]
    have b0 : SetTable.below #[p0] (Int.toNat ((0 : Nat) : Int)) = 0 := below_zero p0
    rw [b0]
    refine wpAny_pure ?_
    (try dsimp only)
    (try simp only [List.getElem?_toArray, List.getElem?_cons_zero])
    refine wpAny_bind (wpAny_setField hI rfl (by simp) ?_)
    have u := upd_field (i := 0) (x := rawInt ((p0 + 1 : Nat) : Int)) hI
    have sb := Heap.SameBut.update s.heap I (Obj.mapFields (·.setIfInBounds 0 (rawInt ((p0 + 1 : Nat) : Int))))
    refine wpAny_bind (wpAny_setField u rfl (by simp) ?_)
    have u2 := upd_field (i := 1) (x := rawInt (((0 : Nat) : Int) + 1)) u
    have sb2 := Heap.SameBut.update (s.heap.update I (Obj.mapFields (·.setIfInBounds 0 (rawInt ((p0 + 1 : Nat) : Int))))) I (Obj.mapFields (·.setIfInBounds 1 (rawInt (((0 : Nat) : Int) + 1))))
    refine wpAny_pure ⟨_, rfl, hQ _ _ s.toks rfl ⟨(sb2.2 _ hDI).trans ((sb.2 _ hDI).trans hD), p0 + 1, u2, .inr ⟨rfl, rfl⟩⟩ fun b o hb e => (sb2.2 b (by simpa using hb)).trans ((sb.2 b (by simpa using hb)).trans e)⟩
  done := fun s Q E st hQ => by
    obtain ⟨hD, sl, hI, hc⟩ := st
    have s0 : sl = p0 + 1 := by rcases hc with c | c <;> lia
    subst s0
    refine sit_head hI hD hf rfl ?_
    dsimp only
    refine wpAny_bind (m := setNext _ _ _ _) ?_
    unfold setNext
    refine wpAny_bind (wpAny_setState_of hD rfl hf ?_)
    dsimp only
    refine wpAny_bind (m := setsByText) ?_
    unfold setsByText
    refine wpAny_bind (wpAny_askSetting (wpAny_pure ?_))
    rw [if_neg (by rw [show ({ program := (model prog w).prog, params := (model prog w).w.params } : Setting).params = w.params from rfl, hb]; decide)]
    rw [if_neg (by show ¬ ((!t.plain && decide ((#[e0] : Array (Int × Value)).size > 1)) = true); simp)]
    refine wpAny_bind (wpAny_of_eq (a := ()) (by
      show (if (!t.led && !(#[e0] : Array (Int × Value)).isEmpty) = true then unsupported "set:maker-not-led" else pure () : Sem Unit) = pure ()
      rw [hl]; rfl) ?_)
    rw [hpl]
    have b0 : SetTable.below #[p0] (Int.toNat ((p0 + 1 : Nat) : Int)) = 1 := below_next p0
    rw [b0]
    refine wpAny_pure ?_
    (try dsimp only)
    (try simp only [List.getElem?_toArray, List.getElem?_cons_zero])
    refine wpAny_bind (wpAny_setField hI rfl (by simp) ?_)
    have sb := Heap.SameBut.update s.heap I (Obj.mapFields (·.setIfInBounds 2 Value.none))
    exact stop_end hh fun h' k => hQ h' s.toks fun b o hb e => k _ _ ((sb.2 b (by simpa using hb)).trans e)
theorem tset_iter {D : Addr} {o : Obj} {ks : List (Str × Tok)} {Q : Value → Shared → Prop} (ho : s.heap.get? D = some o) (hs : TSet prog w o ks) (hk : 0 < ks.length) (hk2 : ks.length < 1000)
    (h : ∀ (I : Addr) (order : List Value) (h' : Heap) (d' : Drawn) (fp : List Addr) (St : Nat → Heap → Prop), order.Perm (strValues ks) → (∀ A' : Around, A'.handled = none → Walks prog w A' I fp [I] order.length (fun i v => order[i]? = some v) St) → St 0 h' →
      (∀ b ∈ fp, b < h'.objs.size) → I ∈ fp → (∀ b o, s.heap.get? b = some o → h'.get? b = some o) → s.heap.objs.size ≤ I → (∀ b ∈ fp, b = D ∨ s.heap.objs.size ≤ b) → Q (.ref I) { s with heap := h', drawn := d' }) :
    wpAny (model prog w) A (pyIter (.ref D)) Q E s := by
  obtain ⟨es, ep, t, rfl, hf, hl, hpl, hp, hn⟩ := hs
  have hT : s.TypeIs (.ref D) "set" := ⟨_, ho, rfl⟩
  have hlt := Heap.lt_size ho
  have hsz : es.size = ks.length := size_of hp
  have hvals : (es.toList.map (·.2)).Perm (strValues ks) := by
    have := hp.map (·.2)
    rw [List.map_map] at this
    exact this
  refine wpAny_pyIter_slot hT PySem.F.slot_set_iter (wpAny_call_entry PySem.F.slot_set_iter hT entry_set_it ?_ (PySem.F.args_set_iter_1 _))
  unfold Builtin.«frozenset.__iter__» Builtin.Frozenset.slot0 slotArgs
  simp only [List.isEmpty_nil, Bool.not_true, Bool.false_eq_true, ↓reduceIte, bind_assoc, List.length_nil, bne_self_eq_false]
  unfold Builtin.Frozenset.addrOf Builtin.Frozenset.sizeOf
  refine wpAny_bind (wpAny_pure ?_)
  dsimp only
  refine wpAny_bind (wpAny_pure ?_)
  refine wpAny_bind (wpAny_bind (wpAny_setEntries_of ho rfl hf (wpAny_pure ?_)))
  refine wpAny_bind (m := setDrawn D) ?_
  unfold setDrawn
  refine wpAny_bind (wpAny_setState_of ho rfl hf ?_)
  unfold setsByText
  refine wpAny_bind (wpAny_bind (wpAny_askSetting (wpAny_pure ?_)))
  refine wpAny_pure ?_
  show wpAny _ _ (if (!w.params.followText "set-order" && (!t.plain && decide (es.size > 1))) = true then _ else _) _ _ _
  by_cases hdr : (!w.params.followText "set-order" && (!t.plain && decide (es.size > 1))) = true
  · rw [if_pos hdr]
    refine wpAny_bind (wpAny_drawOrder es.size (List.range es.size) (by simp) fun pl d hpl2 => ?_)
    refine wpAny_bind ?_
    refine wpAny_newTuple ?_ (by rw [List.length_map, hpl2.length_eq, List.length_range, hsz, sizeLine_eq]; lia)
    dsimp only
    have hD1 : (s.heap.push { cls := .type "tuple", data := .seq (pl.map fun (j : Nat) => rawInt j).toArray }).get? D = some (setObj es ep t) := Heap.get?_push_of_some _ ho
    refine wpAny_bind (m := setEpoch D) ?_
    unfold setEpoch
    refine wpAny_bind (wpAny_setState_of hD1 rfl hf (wpAny_pure ?_))
    refine wpAny_bind (wpAny_newObj_type (wpAny_pure ⟨_, rfl, "set_iterator", _, ⟨_, Heap.get?_push_size _ rfl, rfl⟩, slot_sit_next.lookup, ?_⟩))
    generalize hH : s.heap.push { cls := .type "tuple", data := .seq (pl.map fun (j : Nat) => rawInt j).toArray } = H at hD1 ⊢
    have hHs : H.objs.size = s.heap.objs.size + 1 := by rw [← hH, Heap.size_push]
    have hTP : H.get? s.heap.objs.size = some { cls := .type "tuple", data := .seq (pl.map fun (j : Nat) => rawInt j).toArray } := by rw [← hH]; exact Heap.get?_push_size _ rfl
    have hlen : pl.length = es.size := by rw [hpl2.length_eq, List.length_range]
    have hne : D ≠ H.objs.size := by rw [hHs]; have h9 : @LT.lt Nat _ D s.heap.objs.size := hlt; exact Nat.ne_of_lt (Nat.lt_succ_of_lt h9)
    have hne2 : s.heap.objs.size ≠ H.objs.size := by rw [hHs]; exact Nat.ne_of_lt (Nat.lt_succ_self _)
    refine h H.objs.size (pl.map fun j => (es.getD j (0, .none)).2) _ d [H.objs.size, D, s.heap.objs.size] (StD D es ep t H.objs.size s.heap.objs.size pl) ?_ (fun A' hA' => ?_) ⟨Heap.get?_push_of_some _ hD1, ?_, Heap.get?_push_of_some _ hTP⟩ (fun b hb => ?_) (by simp) (fun b o e => Heap.get?_push_of_some _ (by rw [← hH]; exact Heap.get?_push_of_some _ e)) (by rw [hHs]; exact Nat.le_succ _) (fun b hb => by
      simp only [List.mem_cons, List.not_mem_nil, or_false] at hb
      rcases hb with rfl | rfl | rfl
      · right; rw [hHs]; exact Nat.le_succ _
      · left; rfl
      · right; exact Nat.le_refl _)
    · refine (hpl2.map _).trans ?_
      refine List.Perm.trans (List.Perm.of_eq ?_) hvals
      apply List.ext_getElem?
      intro i
      by_cases hi : i < es.size
      · simp [hi]
      · simp [hi]
    · have W := walksD (prog := prog) (w := w) (A := A') (I := H.objs.size) (TP := s.heap.objs.size) (ep := ep) hA' hf hpl2 hne hne2
      simpa using W
    · exact Heap.get?_push_size _ rfl
    · rw [Heap.size_push, hHs]
      have h9 : @LT.lt Nat _ D s.heap.objs.size := hlt
      simp only [List.mem_cons, List.not_mem_nil, or_false] at hb
      rcases hb with rfl | rfl | rfl
      · rw [hHs]; exact Nat.lt_succ_self _
      · exact Nat.lt_succ_of_lt (Nat.lt_succ_of_lt h9)
      · exact Nat.lt_succ_of_lt (Nat.lt_succ_self _)
  · rw [if_neg hdr]
    refine wpAny_bind (wpAny_pure ?_)
    refine wpAny_bind (m := setEpoch D) ?_
    unfold setEpoch
    refine wpAny_bind (wpAny_setState_of ho rfl hf (wpAny_pure ?_))
    refine wpAny_bind (wpAny_newObj_type (wpAny_pure ⟨_, rfl, "set_iterator", _, ⟨_, Heap.get?_push_size _ rfl, rfl⟩, slot_sit_next.lookup, ?_⟩))
    have hne : D ≠ s.heap.objs.size := Nat.ne_of_lt hlt
    have fp : ∀ b ∈ [s.heap.objs.size, D], b < (s.heap.push (sitObj (.int (0 : Nat) 0) 0 D es.size ep)).objs.size := fun b hb => by
      rw [Heap.size_push]
      simp only [List.mem_cons, List.not_mem_nil, or_false] at hb
      rcases hb with rfl | rfl
      · exact Nat.lt_succ_self _
      · exact Nat.lt_succ_of_lt hlt
    cases hb : w.params.followText "set-order" with
    | true =>
      have hord : ((pickOrder (w.params.setOrder D ep) es).toList.map (·.2)).Perm (strValues ks) := ((pick_perm _ es).map (·.2)).trans hvals
      refine h s.heap.objs.size _ _ s.drawn [s.heap.objs.size, D] (StT w D es ep t s.heap.objs.size) hord (fun A' hA' => ?_) ⟨Heap.get?_push_of_some _ ho, Heap.get?_push_size _ rfl⟩ fp (by simp) (fun b o e => Heap.get?_push_of_some _ e) (Nat.le_refl _) (fun b hb => by
        simp only [List.mem_cons, List.not_mem_nil, or_false] at hb
        rcases hb with rfl | rfl
        · right; exact Nat.le_refl _
        · left; rfl)
      have W := walksT (prog := prog) (w := w) (A := A') (I := s.heap.objs.size) (ep := ep) hA' hf hb hne
      have : es.size = ((pickOrder (w.params.setOrder D ep) es).toList.map (·.2)).length := by rw [hord.length_eq, hsz]; simp [strValues]
      rw [← this]; exact W
    | false =>
      have h1 : es.size = 1 := by
        rw [hb, hpl] at hdr
        simp only [Bool.not_false, Bool.true_and, decide_eq_true_eq, Nat.not_lt, gt_iff_lt] at hdr
        lia
      obtain ⟨e0, he0⟩ : ∃ e0, es = #[e0] := by
        have : es.toList.length = 1 := by simpa using h1
        obtain ⟨e, he⟩ := List.length_eq_one_iff.mp this
        exact ⟨e, by rw [← Array.toArray_toList (xs := es), he]⟩
      subst he0
      have hled : t.led = true := by rw [hl]; show (!w.params.followText "set-order") = true; rw [hb]; rfl
      obtain ⟨p0, hp0⟩ : ∃ p0, t.place = #[p0] := by
        have hpz : t.place.size = 1 := by
          have hf' := hf
          unfold SetTable.fits at hf'
          simp only [Bool.and_eq_true, beq_iff_eq] at hf'
          exact hf'.1
        have : t.place.toList.length = 1 := by simpa using hpz
        obtain ⟨e, he⟩ := List.length_eq_one_iff.mp this
        exact ⟨e, by rw [← Array.toArray_toList (xs := t.place), he]⟩
      refine h s.heap.objs.size [e0.2] _ s.drawn [s.heap.objs.size, D] (StO D #[e0] ep t s.heap.objs.size p0) hvals (fun A' hA' => ?_) ⟨Heap.get?_push_of_some _ ho, 0, Heap.get?_push_size _ rfl, .inl ⟨rfl, rfl⟩⟩ fp (by simp) (fun b o e => Heap.get?_push_of_some _ e) (Nat.le_refl _) (fun b hb => by
        simp only [List.mem_cons, List.not_mem_nil, or_false] at hb
        rcases hb with rfl | rfl
        · right; exact Nat.le_refl _
        · left; rfl)
      exact walksO (prog := prog) (w := w) (A := A') (I := s.heap.objs.size) (ep := ep) hA' hf hb hled hp0 hne

theorem len_set : typeLookup (.type "set") "__len__" = pure (some (.builtin "set.__len__")) := by rw [typeLookup_type, builtinLookup_eq_fast]; kernel_rfl
theorem items_perm {acc : Array Value} {order : List Value} (h : ItemsOf (fun i v => order[i]? = some v) acc order.length) : acc.toList = order := by
  obtain ⟨h1, h2⟩ := h
  apply List.ext_getElem?
  intro i
  by_cases hi : i < acc.size
  · have := h2 i acc[i] (by simp [hi])
    rw [this]; simp [hi]
  · rw [List.getElem?_eq_none (by simpa using hi), List.getElem?_eq_none (by rw [← h1]; lia)]
theorem collect_tset {D : Addr} {o : Obj} {ks : List (Str × Tok)} {Q : List Value → Shared → Prop} (hh : A.handled = none) (ho : s.heap.get? D = some o) (hs : TSet prog w o ks) (hk : 0 < ks.length) (hk2 : ks.length < 1000)
    (hQ : ∀ vs h' d' tk', vs.Perm (strValues ks) → (∀ b o, s.heap.get? b = some o → h'.get? b = some o) → Q vs { s with heap := h', drawn := d', toks := tk' }) :
    wpAny (model prog w) A (collect (.ref D)) Q E s := by
  unfold collect
  refine wpAny_bind (wpAny_runValue (codeAny_builtin PySem.F.entry_proto_collect ?_))
  rw [Around.under_plainId PySem.F.plain_proto_collect _]
  show wpAny _ A.in1 (newList [] >>= fun l => again (.builtin "list.__iadd__" ⟨[l, .ref D], []⟩)) _ _ s
  refine wpAny_bind (wpAny_newObj_type ?_)
  refine wpAny_pure ⟨plainId_quiet PySem.F.plain_list_iadd _, codeAny_builtin PySem.F.entry_list_iadd ?_⟩
  rw [Around.under_plainId PySem.F.plain_list_iadd _]
  have hlt := Heap.lt_size ho
  have hDS : s.heap.objs.size ≠ D := Nat.ne_of_gt hlt
  show wpAny _ A.in1 (Builtin.List.listExtendWith (.ref s.heap.objs.size) (.ref D) (.ref s.heap.objs.size)) _ _ _
  generalize hH : s.heap.push { cls := .type "list", data := .seq ([] : List Value).toArray } = H
  have hHs : H.objs.size = s.heap.objs.size + 1 := by rw [← hH, Heap.size_push]
  have ho1 : H.get? D = some o := by rw [← hH]; exact Heap.get?_push_of_some _ ho
  have hS : H.get? s.heap.objs.size = some { cls := .type "list", data := .seq ([] : List Value).toArray } := by rw [← hH]; exact Heap.get?_push_size _ rfl
  have hT : ∀ s' : Shared, s'.heap.get? D = some o → s'.TypeIs (.ref D) "set" := fun s' h => by
    obtain ⟨es, ep, t, rfl, _⟩ := hs
    exact ⟨_, h, rfl⟩
  have h1 : Builtin.List.listSameRef (.ref s.heap.objs.size) (.ref D) = false := by simp [Builtin.List.listSameRef, hDS]
  unfold Builtin.List.listExtendWith
  refine wpAny_bind (wpAny_typeOf (hT _ ho1) ?_)
  rw [if_neg (by rw [h1]; decide)]
  refine wpAny_bind (tset_iter (s := { s with heap := H }) ho1 hs hk hk2 fun I order h' d' fp St hp W st hfp hI keep hIge hfp2 => ?_)
  have hoS : h'.get? s.heap.objs.size = some { cls := .type "list", data := .seq ([] : List Value).toArray } := keep _ _ hS
  have ho2 : h'.get? D = some o := keep _ _ ho1
  refine wpAny_bind (wpAny_holding ?_)
  unfold Builtin.List.listLengthHint
  refine wpAny_bind (wpAny_specialOf (hT { s with heap := h', drawn := d' } ho2) len_set ?_)
  wp_delta
  refine wpAny_bind (wpAny_isInstance (b := true) (hT _ ho2) (by rw [isSubtype_type]; kernel_rfl) ?_)
  show wpAny _ A.in1 (typeOf (Value.ref D) >>= _) _ _ _
  refine wpAny_bind (wpAny_typeOf (hT _ ho2) ?_)
  refine wpAny_pure ?_

  rw [if_pos (by decide)]
  have hlen : order.length = ks.length := by rw [hp.length_eq]; simp [strValues]
  have hn : order.length ≤ sizeLine := by rw [hlen, sizeLine_eq]; lia
  have hIS : s.heap.objs.size ≠ I := by
    rw [hHs] at hIge
    exact Nat.ne_of_lt hIge
  have hSf : s.heap.objs.size ∉ fp := fun hm => by
    rcases hfp2 _ hm with e | e
    · exact hDS e
    · rw [hHs] at e
      exact absurd e (Nat.not_le_of_lt (Nat.lt_succ_self _))
  refine wpAny_bind (wpAny_rule ?_)
  show wpAny _ _ (Builtin.List.listTouch (.ref s.heap.objs.size) >>= _) _ _ _
  refine wpAny_bind ?_
  unfold Builtin.List.listTouch
  show wpAny _ _ (updateSeq s.heap.objs.size (·.push .none) >>= fun _ => updateSeq s.heap.objs.size (·.pop)) _ _ _
  refine wpAny_bind (wpAny_updateSeq hoS rfl ?_)
  have g1 := Heap.get?_update_self (Obj.mapSeq (·.push .none)) hoS rfl
  have sb1 := Heap.SameBut.update h' s.heap.objs.size (Obj.mapSeq (·.push .none))
  refine wpAny_updateSeq (s := { s with heap := h'.update s.heap.objs.size (Obj.mapSeq (·.push .none)), drawn := d' }) g1 rfl ?_
  have g2 := Heap.get?_update_self (Obj.mapSeq (·.pop)) g1 rfl
  have sb2 := Heap.SameBut.update (h'.update s.heap.objs.size (Obj.mapSeq (·.push .none))) s.heap.objs.size (Obj.mapSeq (·.pop))
  generalize hG : (h'.update s.heap.objs.size (Obj.mapSeq (·.push .none))).update s.heap.objs.size (Obj.mapSeq (·.pop)) = G at g2 sb2
  have kG : ∀ b o, b ≠ s.heap.objs.size → h'.get? b = some o → G.get? b = some o := fun b o hb e => (sb2.2 b hb).trans ((sb1.2 b hb).trans e)
  have stG : St 0 G := (W A hh).frame 0 _ _ st fun b hb o e => kG b o (fun q => hSf (q ▸ hb)) e
  refine wpAny_pure ⟨plainId_quiet PySem.F.plain_extend_loop _, codeAny_extend_loopS (W A.in1 hh).toS hn _ hSf _ order.length 0 _ _ _ rfl (Nat.zero_le _) stG g2 (ItemsOf.nil _) fun s' acc' c' hm hS' hacc => ?_⟩
  show wpAny _ A (load s.heap.objs.size >>= _) _ _ s'
  refine wpAny_bind (wpAny_load hS' ?_)
  have e1 := items_perm hacc
  refine wpAny_pure ?_
  rw [e1]
  obtain ⟨heap', gens', drawn', toks', os'⟩ := s'
  have e2 : gens' = s.gens := hm.gens
  have e3 : os' = s.os := hm.os
  subst e2 e3
  refine hQ _ heap' drawn' toks' hp fun b o e => hm.heap b o (fun hb => ?_) (kG b o (Nat.ne_of_lt (Heap.lt_size e)) (keep b o (by rw [← hH]; exact Heap.get?_push_of_some _ e)))
  have hlt2 := Heap.lt_size e
  rcases List.mem_cons.mp hb with h | h
  · exact absurd hlt2 (h ▸ Nat.lt_irrefl _)
  · rw [List.mem_singleton.mp h] at hlt2
    rw [hHs] at hIge
    exact absurd (Nat.lt_of_lt_of_le (Nat.lt_succ_of_lt hlt2) hIge) (Nat.lt_irrefl _)
end
end
section
open PySem PySem.Calls PyProof.Rows PySem.W PySem.Spec
section
variable {prog : Program} {w : World} {A : Around} {E : Value → Shared → Prop} {s : Shared} {h₀ : Heap} {L : Addr} {m : Str → Option Value} {news : List (Addr × Obj)}
theorem call_entry_go {T : String} {name : Str} {id : String} {b : Builtin} {self : Value} {rest : List Value} {Q : Value → Shared → Prop} (h : Slot T name id) (hT : s.TypeIs self T) (hb : entryFor table id = some b)
    (hc : wpAny (model prog w) A.in1 (b ⟨self :: rest, []⟩) (fun fin s' => match fin with | .done (.ret v) => Q v s' | .done _ => False | .again c' => c'.quiet = true ∧ codeAny (model prog w) A c' (wants Q E) s') E s) (ha : argsOk id ⟨self :: rest, []⟩) :
    wpAny (model prog w) A (call (.builtin id) (self :: rest)) Q E s := by
  refine wpAny_call (codeAny_call_builtin h.plain hb (h.check _ _ _ _ _ _ _ _ hT ha (wpAny_mono hc (fun fin s' h' => ?_) fun _ _ h' => h')))
  cases fin with
  | done f => cases f <;> first | exact h' | exact h'.elim
  | again c => exact h'
theorem plain_eq_loop' : plainId "list.__eq__.loop" = true := by decide +kernel
theorem entry_eq_loop' : entryFor table "list.__eq__.loop" = some Builtin.«list.__eq__.loop» := entryFor_of_fast (by kernel_rfl)
theorem rich_lt_str {a b : Str} {t u : Tok} {Q : Value → Shared → Prop} (h : Q (.bool (decide (a.cps.toList < b.cps.toList))) s) : wpAny (model prog w) A (richCompare .Lt (.str a t) (.str b u)) Q E s :=
  wpAny_richCompare_same (typeIs_str s a t) (typeIs_str s b u) F.slot_str_lt (call_str_lt ⟨by simp, h⟩)
theorem lt_list1 {l1 l2 : Addr} {a b : Str} {t u : Tok} {n1 n2 : Nat} {Q : Bool → Shared → Prop} (hu : A.units < cLine) (h1 : s.heap.get? l1 = some (listOf #[.str a t] n1)) (h2 : s.heap.get? l2 = some (listOf #[.str b u] n2)) (hab : a ≠ b)
    (h : Q (decide (a.cps.toList < b.cps.toList)) s) : wpAny (model prog w) A (keyLt' oneType' (.ref l1) (.ref l2)) Q E s := by
  rw [keyLt'_oneType, oneLt'_eq]
  simp only [if_true]
  refine wpAny_bind (wpAny_cRoomFor hu ?_)
  have hT1 : s.TypeIs (.ref l1) "list" := ⟨_, h1, rfl⟩
  have hT2 : s.TypeIs (.ref l2) "list" := ⟨_, h2, rfl⟩
  refine wpAny_bind (wpAny_callSpecialIfBound?_slot hT1 PySem.F.slot_list_lt (call_entry_go PySem.F.slot_list_lt hT1 PySem.F.entry_list_lt ?_ (PySem.F.args_list_lt_2 _ _)))
  show wpAny _ _ (do
    if !(← isInstance (.ref l2) (.type "list")) then return ← ret .notImplemented
    if CmpOp.Lt == .Eq || CmpOp.Lt == .NotEq then
      if (← Builtin.List.listItems (.ref l1)).size != (← Builtin.List.listItems (.ref l2)).size then rule "list.compare.lengths-differ"; return ← ret (.bool (CmpOp.Lt == .NotEq))
    again (.builtin "list.__eq__.loop" ⟨[.ref l1, .ref l2, rawInt 0, rawInt 0], []⟩)) _ _ s
  refine wpAny_bind (wpAny_isInstance (b := true) hT2 (by rw [isSubtype_type]; kernel_rfl) ?_)
  rw [if_neg (by decide), if_neg (by decide)]
  refine wpAny_pure ⟨Code.quiet_builtin _ (by decide +kernel), codeAny_builtin entry_eq_loop' ?_⟩
  rw [Around.under_plainId plain_eq_loop' _]
  unfold Builtin.«list.__eq__.loop»
  refine wpAny_bind (listItems_at h1 rfl ?_)
  refine wpAny_bind (listItems_at h2 rfl ?_)
  show wpAny _ _ (eqBool (.str a t) (.str b u) >>= _) _ _ s
  refine wpAny_bind (wpAny_eqBool_str ?_)
  rw [if_neg (by simpa using hab)]
  refine wpAny_bind (listItems_at h1 rfl ?_)
  refine wpAny_bind (listItems_at h2 rfl ?_)
  show wpAny _ _ (richCompare .Lt (.str a t) (.str b u) >>= _) _ _ s
  refine wpAny_bind (rich_lt_str ?_)
  refine wpAny_pure ?_
  exact wpAny_truthy_bool h

theorem looks_list {h : Heap} {l : Addr} {its : Array Value} {n : Nat} (ho : h.get? l = some (listOf its n)) : Looks (model prog w) h (typeOf (.ref l)) (.type "list") :=
  fun _ _ _ _ k q => wpAny_typeOf (T := "list") ⟨_, k _ _ ho, rfl⟩ q
noncomputable def KeyOne (prog : Program) (w : World) (A : Around) (h₀ : Heap) (L : Addr) (m : Str → Option Value) (news : List (Addr × Obj)) (f : Value) (xs : List Str) : Prop :=
  ∀ (x : Str) (tx : Tok) (s' : Shared) (news' : List (Addr × Obj)) (Q' : Value → Shared → Prop), x ∈ xs → Fr h₀ L s'.heap m → News h₀ L s'.heap news' → (∀ p ∈ news, p ∈ news') →
    (∀ (l : Nat) h' tk' t' k, Fr h₀ L h' m → News h₀ L h' ((l, listOf #[.str x t'] k) :: news') → (∀ p ∈ news', p.1 < l) → Q' (.ref l) { s' with heap := h', toks := tk' }) →
    wpAny (model prog w) A (call f [.str x tx]) Q' (fun _ _ => False) s'
theorem sorted_any {D : Addr} {o : Obj} {ks : List (Str × Tok)} {lam : Addr} {Q : Value → Shared → Prop} (hh : A.handled = none) (F : Fr h₀ L s.heap m) (N : News h₀ L s.heap news) (hD : (D, o) ∈ news) (hs : TSet prog w o ks) (hk : 0 < ks.length) (hk2 : ks.length < 64)
    (h : ∀ (R : Addr) (vs : List Value) h' d' tk', vs.Perm (strValues ks) → Fr h₀ L h' m → News h₀ L h' news → h'.get? R = some (seqObj "list" vs.toArray 0) → R ≠ L → h₀.get? R = none → (∀ p ∈ news, p.1 < R) →
      wpAny (model prog w) A.in1.in1 (ksk_tree R (.ref lam) false) (fun fin s' => ∃ v, fin = .done (.ret v) ∧ Q (.ref R) s') E { s with heap := h', drawn := d', toks := tk' }) :
    wpAny (model prog w) A (call (.builtin "sorted") [.ref D] [(Str.ofString "key", .ref lam)]) Q E s := by
  refine call_function_entry_kw kind_sorted plain_sorted entry_sorted (ksk_s1 _ _) ?_
  unfold Builtin.«sorted»
  refine wpAny_bind (m := checkCount "sorted" 1 1 _) (wpAny_pure ?_)
  refine wpAny_bind (collect_tset hh (N.get hD) hs hk (Nat.lt_trans hk2 (by decide)) fun vs h' d' tk' hp keep => ?_)
  have hlen : vs.length = ks.length := by rw [hp.length_eq]; simp [strValues]
  refine wpAny_bind (wpAny_newList ?_ (by rw [hlen, sizeLine_eq]; lia))
  dsimp only
  have hL : L < h'.objs.size := (F.keeps keep).ns.lt
  have F1 : Fr h₀ L (h'.push (seqObj "list" vs.toArray 0)) m := (F.keeps keep).push _
  have N1 : News h₀ L (h'.push (seqObj "list" vs.toArray 0)) news := fun p hp => ⟨Heap.get?_push_of_some _ (keep _ _ (N p hp).1), (N p hp).2⟩
  refine wpAny_bind (wpAny_holding (wpAny_call_entry_kw slot_list_sort ⟨_, Heap.get?_push_size _ rfl, rfl⟩ entry_list_sort ?_ (ksk_l1 _ _)))
  show wpAny (model prog w) A.in1.in1 (Builtin.«list.sort» ⟨[.ref h'.objs.size], [(Str.ofString "key", .ref lam)]⟩) _ _ _
  rw [ksk_t1]
  refine wpAny_mono (h h'.objs.size vs _ d' tk' hp F1 N1 (Heap.get?_push_size _ rfl) (Nat.ne_of_gt hL) (Heap.get?_none_of_le (Nat.le_trans F.above (Nat.le_of_lt hL))) (fun p hp => Heap.lt_size (keep _ _ (N p hp).1))) (fun fin s' hq => ?_) fun _ _ x => x
  obtain ⟨v, rfl, q⟩ := hq
  exact ⟨v, rfl, wpAny_pure ⟨_, rfl, q⟩⟩

end
end
section
open PySem PySem.Calls PyProof.Rows PySem.W PySem.Spec
inductive TailF (rest : List (Addr × Obj)) : List (Addr × Obj) → (List (Addr × Obj) → List (Addr × Obj)) → Prop
  | here : TailF rest rest (fun r => r)
  | cons {p l k} : TailF rest l k → TailF rest (p :: l) (fun r => p :: k r)
inductive UpdT (d : Addr) (o : Obj) (rest : List (Addr × Obj)) : List (Addr × Obj) → (Obj → List (Addr × Obj) → List (Addr × Obj)) → Prop
  | head {r k} : (∀ p ∈ r, p.1 ≠ d) → TailF rest r k → UpdT d o rest ((d, o) :: r) (fun o' r' => (d, o') :: k r')
  | tail {p r G} : p.1 ≠ d → UpdT d o rest r G → UpdT d o rest (p :: r) (fun o' r' => p :: G o' r')
theorem TailF.self {rest l : List (Addr × Obj)} {k : List (Addr × Obj) → List (Addr × Obj)} (h : TailF rest l k) : k rest = l := by
  induction h with
  | here => rfl
  | cons _ ih => show _ :: _ = _; rw [ih]
theorem TailF.sub {rest l : List (Addr × Obj)} {k : List (Addr × Obj) → List (Addr × Obj)} (h : TailF rest l k) (r' : List (Addr × Obj)) : ∀ p ∈ k r', p ∈ r' ∨ ∀ r0, p ∈ k r0 := by
  induction h with
  | here => intro p hp; exact .inl hp
  | cons _ ih =>
    intro p hp
    rcases List.mem_cons.mp hp with rfl | hp
    · exact .inr fun _ => .head _
    · rcases ih p hp with h | h
      · exact .inl h
      · exact .inr fun r0 => .tail _ (h r0)
theorem TailF.mem {rest l : List (Addr × Obj)} {k : List (Addr × Obj) → List (Addr × Obj)} (h : TailF rest l k) (r' : List (Addr × Obj)) : ∀ p ∈ r', p ∈ k r' := by
  induction h with
  | here => intro p hp; exact hp
  | cons _ ih => intro p hp; exact .tail _ (ih p hp)
theorem UpdT.toF {d : Addr} {o : Obj} {rest l : List (Addr × Obj)} {G : Obj → List (Addr × Obj) → List (Addr × Obj)} (h : UpdT d o rest l G) : UpdF d o l (fun o' => G o' rest) := by
  induction h with
  | head h1 t => rw [show (fun o' => (d, o') :: _) = fun o' => (d, o') :: _ from rfl]; simp only [t.self]; exact .head h1
  | tail h1 _ ih => exact .tail h1 ih
theorem UpdT.self {d : Addr} {o : Obj} {rest l : List (Addr × Obj)} {G : Obj → List (Addr × Obj) → List (Addr × Obj)} (h : UpdT d o rest l G) : G o rest = l := by
  induction h with
  | head h1 t => show _ :: _ = _; rw [t.self]
  | tail h1 _ ih => show _ :: _ = _; rw [ih]
theorem UpdT.sub {d : Addr} {o : Obj} {rest l : List (Addr × Obj)} {G : Obj → List (Addr × Obj) → List (Addr × Obj)} (h : UpdT d o rest l G) (o' : Obj) (r' : List (Addr × Obj)) : ∀ p ∈ G o' r', p ∈ r' ∨ ∀ r0, p ∈ G o' r0 := by
  induction h with
  | head h1 t =>
    intro p hp
    rcases List.mem_cons.mp hp with rfl | hp
    · exact .inr fun _ => .head _
    · rcases t.sub r' p hp with h | h
      · exact .inl h
      · exact .inr fun r0 => .tail _ (h r0)
  | tail h1 _ ih =>
    intro p hp
    rcases List.mem_cons.mp hp with rfl | hp
    · exact .inr fun _ => .head _
    · rcases ih p hp with h | h
      · exact .inl h
      · exact .inr fun r0 => .tail _ (h r0)
theorem UpdT.mem {d : Addr} {o : Obj} {rest l : List (Addr × Obj)} {G : Obj → List (Addr × Obj) → List (Addr × Obj)} (h : UpdT d o rest l G) (o' : Obj) (r' : List (Addr × Obj)) : ∀ p ∈ r', p ∈ G o' r' := by
  induction h with
  | head h1 t => intro p hp; exact .tail _ (t.mem r' p hp)
  | tail h1 _ ih => intro p hp; exact .tail _ (ih p hp)
theorem UpdT.addr {d : Addr} {o : Obj} {rest l : List (Addr × Obj)} {G : Obj → List (Addr × Obj) → List (Addr × Obj)} (h : UpdT d o rest l G) (o' : Obj) : ∀ p ∈ G o' rest, p.1 = d ∨ p ∈ l := by
  induction h with
  | head h1 t =>
    intro p hp
    rcases List.mem_cons.mp hp with rfl | hp
    · exact .inl rfl
    · rw [t.self] at hp; exact .inr (.tail _ hp)
  | tail h1 _ ih =>
    intro p hp
    rcases List.mem_cons.mp hp with rfl | hp
    · exact .inr (.head _)
    · rcases ih p hp with h | h
      · exact .inl h
      · exact .inr (.tail _ h)
noncomputable def CodeObj (qual : Str) (c' : Addr) (rest : List (Addr × Obj)) : Prop := ∃ oc vs t, (c', oc) ∈ rest ∧ oc.data = .fields vs ∧ vs[1]? = some (.str qual t)
noncomputable def TabIs (pos : Pos) (tb : Array Value) (c' : Addr) : Prop := tb = #[rawInt pos.line, rawInt pos.col, .ref c']
noncomputable def TabSt (pos : Pos) (qual : Str) (tb : Array Value) (rest : List (Addr × Obj)) : Prop := tb = #[] ∨ ∃ c', TabIs pos tb c' ∧ CodeObj qual c' rest
theorem CodeObj.rec_ {qual : Str} {c' : Addr} {rest news : List (Addr × Obj)} {h₀ h : Heap} {L : Addr} (C : CodeObj qual c' rest) (N : News h₀ L h news) (hs : ∀ p ∈ rest, p ∈ news) : h.CodeRec (.ref c') qual := by
  obtain ⟨oc, vs, t, hm, hd, hv⟩ := C
  exact ⟨c', oc, vs, t, rfl, N.get (hs _ hm), hd, hv⟩
theorem CodeObj.mono {qual : Str} {c' : Addr} {rest rest' : List (Addr × Obj)} (C : CodeObj qual c' rest) (hs : ∀ p ∈ rest, p ∈ rest') : CodeObj qual c' rest' := by
  obtain ⟨oc, vs, t, hm, hd, hv⟩ := C
  exact ⟨oc, vs, t, hs _ hm, hd, hv⟩
section
variable {M : Model} {A : Around} {E : Value → Shared → Prop} {s : Shared} {h₀ : Heap} {L a c P : Addr} {m mg mb : Str → Option Value} {cn : Str} {cs : Scope} {ccd : Value} {cl : List (Str × Addr)} {news rest : List (Addr × Obj)} {G : Obj → List (Addr × Obj) → List (Addr × Obj)}
  {p : Program} {loose : List Str} {mean : ExcName → Option Value} {name qual : Str} {params : Arguments} {body : Expr} {scope : Scope} {tb : Array Value} {pos : Pos} {firstLine : Nat} {clos : List (Str × Addr)}
theorem lam_make {Q : Value → Shared → Prop} (offs : List Addr) (F : Fr h₀ L s.heap m) (N : News h₀ L s.heap news) (T : Top p loose mean mg mb h₀) (C : CodeHd h₀ c P) (hcd : ccd = .ref c) (U : UpdT P (tabObj tb) rest news G) (ht : TabSt pos qual tb rest)
    (hcl : closureFor scope (envX cn cs L a ccd cl) = pure clos) (ho : ∀ d ∈ offs, (∀ q ∈ rest, q.1 ≠ d) ∧ ∃ o, (d, o) ∈ news)
    (h : ∀ f c' ctv h' tk tb' rest', Fr h₀ L h' m → News h₀ L h' ((f, kla_obj name qual params body scope clos ((mg "__name__").getD .none) c' ctv) :: G (tabObj tb') rest') →
      (∀ q ∈ rest, q ∈ rest') → (∀ d ∈ offs, ∀ q ∈ rest', q.1 ≠ d) → TabIs pos tb' c' → CodeObj qual c' rest' → (∀ q ∈ G (tabObj tb') rest', q.1 < f) → Q (.ref f) { s with heap := h', toks := tk }) :
    wpAny M A (makeFunction name qual params (.expr body) scope (envX cn cs L a ccd cl) [] [] [] pos firstLine) Q E s := by
  have hP : (P, tabObj tb) ∈ news := by
    obtain ⟨pre, post, e, _⟩ := U.toF.split
    rw [e]; exact List.mem_append_right _ (.head _)
  rcases ht with rfl | ⟨c', rfl, hco⟩
  · refine kla_nest F N T C hcd U.toF (by exact True.intro) rfl hcl fun f c' oc vs t ctv h' tk F' N' d1 d2 l1 l2 => ?_
    have e0 : (#[] : Array Value) ++ #[rawInt pos.line, rawInt pos.col, .ref c'] = #[rawInt pos.line, rawInt pos.col, .ref c'] := by simp
    rw [e0] at N'
    have hP2 := U.self
    have hrest : ∀ q ∈ rest, q ∈ news := fun q hq => by rw [← hP2]; exact U.mem _ _ q hq
    have hlt : ∀ q ∈ G (tabObj #[rawInt pos.line, rawInt pos.col, .ref c']) rest, q.1 < c' := fun q hq => by
      rcases U.addr _ q hq with e | e
      · rw [e]; exact l1 _ hP
      · exact l1 q e
    refine h f c' ctv h' tk _ ((c', oc) :: rest) F' (fun q hq => ?_) (fun q hq => .tail _ hq) (fun d hd q hq => ?_) rfl ⟨oc, vs, t, .head _, d1, d2⟩ (fun q hq => ?_)
    · rcases List.mem_cons.mp hq with rfl | hq
      · exact N' _ (.head _)
      · rcases U.sub _ _ q hq with h | h
        · rcases List.mem_cons.mp h with rfl | h
          · exact N' _ (.tail _ (.head _))
          · exact N' _ (.tail _ (.tail _ (U.mem _ _ q h)))
        · exact N' _ (.tail _ (.tail _ (h rest)))
    · obtain ⟨hd1, o, hd2⟩ := ho d hd
      rcases List.mem_cons.mp hq with rfl | hq
      · exact Nat.ne_of_gt (l1 _ hd2)
      · exact hd1 q hq
    · rcases U.sub _ _ q hq with h | h
      · rcases List.mem_cons.mp h with rfl | h
        · exact l2
        · exact Nat.lt_trans (l1 q (hrest q h)) l2
      · exact Nat.lt_trans (hlt q (h rest)) l2
  · refine kla_hit (c' := c') F N T C hcd hP (by exact True.intro) (by simp [codeAmong, rawInt]) hcl fun f ctv h' tk F' N' l1 => ?_
    refine h f c' ctv h' tk _ rest F' ?_ (fun _ hq => hq) (fun d hd => (ho d hd).1) rfl hco ?_
    · rw [U.self]; exact N'
    · rw [U.self]; exact l1
end
end
section
theorem dec_lt {n i k : Nat} (h : i < n) (e : k = n + 1 - i) : n + 1 - (i + 1) < k := e ▸ Nat.sub_lt_sub_left (Nat.lt_succ_of_lt h) (Nat.lt_succ_self i)
theorem cast1 (i : Nat) : (((i + 1 : Nat) : Int)) = (i : Int) + 1 := rfl
theorem ne_of_lt1 {a n : Nat} (h : a < n) : n + 1 ≠ a := Nat.ne_of_gt (Nat.lt_succ_of_lt h)
theorem ne_of_lt2 {a n : Nat} (h : a < n) : n + 2 ≠ a := Nat.ne_of_gt (Nat.lt_succ_of_lt (Nat.lt_succ_of_lt h))
theorem sub_more {n i : Nat} (h : i < n) : n - i = n - i - 1 + 1 := (Nat.sub_add_cancel (Nat.sub_pos_of_lt h)).symm
theorem sub_next {n i j : Nat} (h : n - i = j + 1) : n - (i + 1) = j := by rw [Nat.sub_succ, h]; rfl
end
section
open PySem PySem.Calls PyProof.Rows PySem.W PySem.Spec PyProof.Rows.LCg

noncomputable def CompEndG (h₀ : Heap) (L : Addr) (m : Str → Option Value) (I : Addr) (oI : Obj) (C : Addr) (oC : Obj) (D : Addr) (oD : Obj) (S : List (Addr × Obj) → Prop) (rest : Value → List (Addr × Obj) → Shared → Prop) (y : Value) (s₂ : Shared) : Prop :=
  ∃ news', Fr h₀ L s₂.heap m ∧ News h₀ L s₂.heap ((I, oI) :: (C, oC) :: (D, oD) :: news') ∧ Off3 I C D news' ∧ S news' ∧ rest y news' s₂
noncomputable def DRest (prog : Program) (w : World) (A : Around) (h₀ : Heap) (L : Addr) (m : Str → Option Value) (env : Env) (elt : Expr) (x : Str) (scope : Scope) (cl : List (Str × Addr)) (S : List (Addr × Obj) → Prop) (P : Nat → Value → Prop)
    (Fin : List (Str × Value) → List (Addr × Obj) → Shared → Prop) : Nat → Nat → List (Str × Value) → List (Addr × Obj) → Shared → Prop
  | 0, _, kvs, news, s => Fin kvs news s
  | k + 1, i, kvs, news, s => ∀ v I oI C oC D oD m₂ h tk (E' : Value → Shared → Prop), P i v → NsObj oC m₂ → m₂ x = some v → Fr h₀ L h m → News h₀ L h ((I, oI) :: (C, oC) :: (D, oD) :: news) → Off3 I C D news → ((@Ne Nat I C) ∧ (@Ne Nat I D) ∧ (@Ne Nat C D)) →
      ∃ key t, v = .str key t ∧ wpAny (model prog w) A (eval elt (compEnvC scope cl C env)) (CompEndG h₀ L m I oI C oC D oD S (fun y news' s' => DRest prog w A h₀ L m env elt x scope cl S P Fin k (i + 1) (stored kvs key y) news' s')) E' { s with heap := h, toks := tk }
section
variable {prog : Program} {w : World} {A : Around} {E : Value → Shared → Prop} {s : Shared} {h₀ : Heap} {L : Addr} {m : Str → Option Value} {env : Env}

theorem drest_shift {elt : Expr} {x : Str} {scope : Scope} {cl : List (Str × Addr)} {S : List (Addr × Obj) → Prop} {P : Nat → Value → Prop} {Fin : List (Str × Value) → List (Addr × Obj) → Shared → Prop}
    (hFin : ∀ kvs news s h tk, Fin kvs news s → Fin kvs news { s with heap := h, toks := tk }) {k i : Nat} {kvs : List (Str × Value)} {s : Shared} {h : Heap} {tk : Nat} (H : DRest prog w A h₀ L m env elt x scope cl S P Fin k i kvs news s) :
    DRest prog w A h₀ L m env elt x scope cl S P Fin k i kvs news { s with heap := h, toks := tk } := by
  cases k with
  | zero => exact hFin _ _ _ _ _ H
  | succ k => exact H
inductive CompD (prog : Program) (w : World) (A : Around) (h₀ : Heap) (L : Addr) (m : Str → Option Value) (env : Env) (elt : Expr) (x : Str) (scope : Scope) (cl : List (Str × Addr)) (I C D ax : Addr) (its : Array Value) (Fin : List (Str × Value) → List (Addr × Obj) → Shared → Prop) (k : Nat) (s' : Shared) : Prop
  | mk (i : Nat) (oD' : Obj) (kvs : List (Str × Value)) (m' : Str → Option Value) (news' : List (Addr × Obj)) (hi : i ≤ its.size) (hk : k = its.size + 1 - i) (hkl : kvs.length ≤ i) (hst : s'.heap.IsListIter I ax i) (F : Fr h₀ L s'.heap m) (hn : s'.heap.Ns C m') (N : News h₀ L s'.heap ((D, oD') :: news')) (hd : oD'.IsDictOf (strKind prog w) kvs)
      (off : Off3 I C D news') (hS : SrcAt h₀ ax its news') (R : DRest prog w A h₀ L m env elt x scope cl (SrcAt h₀ ax its) (fun i v => its[i]? = some v) Fin (its.size - i) i kvs news' s') : CompD prog w A h₀ L m env elt x scope cl I C D ax its Fin k s'
theorem dloop {elt iter : Expr} {x : Str} {px pk : Pos} {scope : Scope} {cl : List (Str × Addr)} {pos : Pos} {s₂ : Shared} {I C D ax : Addr} {its : Array Value} {S : List (Addr × Obj) → Prop} {news : List (Addr × Obj)}
    {Fin : List (Str × Value) → List (Addr × Obj) → Shared → Prop} {R : Result → Shared → Prop} (hh : A.handled = none) (hIax : I ≠ ax) (hsz : its.size ≤ sizeLine) (hdb : (x == ("__debug__" : Str)) = false)
    (hkind : scope.kind = .function) (hx : scope.names.lookup x = some .local) (S_def : S = SrcAt h₀ ax its)
    (hCI : I ≠ C) (hDI : I ≠ D) (hCD : C ≠ D) (hIL : I ≠ L) (hCL : C ≠ L) (hDL : D ≠ L) (hI₀ : h₀.get? I = none) (hC₀ : h₀.get? C = none) (hD₀ : h₀.get? D = none) (hCax : C ≠ ax) (hDax : D ≠ ax)
    {oD : Obj} {m₁ : Str → Option Value} {hs : Heap} {tks : Nat} (hit : hs.IsListIter I ax 0) (hn : hs.Ns C m₁) (hd : oD.IsDictOf (strKind prog w) [])
    (F : Fr h₀ L hs m) (N : News h₀ L hs ((D, oD) :: news)) (off : Off3 I C D news) (hS : S news)
    (hFin : ∀ kvs news s h tk, Fin kvs news s → Fin kvs news { s with heap := h, toks := tk }) (RR : DRest prog w A h₀ L m env elt x scope cl S (fun i v => its[i]? = some v) Fin its.size 0 [] news s₂)
    (hRR : ∀ s' m' oD' kvs news', Fr h₀ L s'.heap m → News h₀ L s'.heap ((D, oD') :: news') → oD'.IsDictOf (strKind prog w) kvs → Off3 I C D news' → s'.heap.Ns C m' → Fin kvs news' s' → R (.ok .next) s') :
    codeAny (model prog w) A (.compLoop (.DictComp (.Name x pk) elt [⟨.Name x px, iter, [], 0⟩] scope pos) 0 (.ref I) (.ref D) (compEnvC scope cl C env)) R { s₂ with heap := hs, toks := tks } := by
  have W := Walks.list (prog := prog) (w := w) (A := A) hh I ax (Ne.symm hIax) its
  subst S_def
  refine codeAny_compLoop_testsD
    (CompD prog w A h₀ L m env elt x scope cl I C D ax its Fin) ?_ (its.size + 1)
    (CompD.mk 0 oD [] m₁ news (Nat.zero_le _) rfl (Nat.zero_le _) hit F hn N hd off hS (drest_shift hFin RR))
  rintro k s' ⟨i, oD', kvs, m', news', hi, hkk, hkl, hst', F', hn', N', hd', off', hS', R'⟩
  have hl : s'.heap.IsList ax its := hS'.list F'.keep fun p hp => N' p (.tail _ hp)
  have off3 := off'.mem
  by_cases hlt : i < its.size
  · obtain ⟨j, hj⟩ : ∃ j, its.size - i = j + 1 := ⟨its.size - i - 1, sub_more hlt⟩
    rw [hj] at R'
    refine W.item i _ _ _ hlt ⟨hst', hl⟩ fun v h₂ tk₂ hPv hst₂ hk₂ => ?_
    refine wpAny_assign_Name (wpAny_storeName_local (lookup_relabel_local hx) (hn'.at' fun o e => hk₂ _ o (by simpa using Ne.symm hCI) e) (fun h₃ hn₃ hs₃ => ?_) (by simp [compEnvC, relabel, hkind]))
    refine wpAny_tests_nil ?_
    simp only [if_true]
    obtain ⟨oI, heI₂, cI⟩ := hst₂.1
    have heI : h₃.get? I = some oI := hs₃.extBut _ _ hCI heI₂
    obtain ⟨oC, heC, hoC⟩ := ns_obj hn₃
    have F₃ : Fr h₀ L h₃ m := (fr_but F' hk₂ (Ne.symm hIL) hI₀).change hs₃ hCL hC₀
    have N₂ : News h₀ L h₂ ((D, oD') :: news') := news_but N' hk₂ fun p hp => by
      rcases List.mem_cons.mp hp with rfl | hp
      · exact Ne.symm hDI
      · exact (off3 p hp).1
    have N₃ : News h₀ L h₃ ((I, oI) :: (C, oC) :: (D, oD') :: news') := fun p hp => by
      rcases List.mem_cons.mp hp with rfl | hp
      · exact ⟨heI, hIL, hI₀⟩
      · rcases List.mem_cons.mp hp with rfl | hp
        · exact ⟨heC, hCL, hC₀⟩
        · have z := N₂ p hp
          refine ⟨hs₃.extBut _ _ ?_ z.1, z.2⟩
          rcases List.mem_cons.mp hp with rfl | hp
          · exact Ne.symm hCD
          · exact (off3 p hp).2.1
    refine wpAny_Name (wpAny_loadName_local hkind (lookup_relabel_local hx) hn₃ (by simp; rfl) ?_) hdb
    obtain ⟨key, t, rfl, hw⟩ := R' v I oI C oC D oD' _ h₃ _ (notedBy (model prog w) A (compEnvC scope cl C env) fun e s' => R (.error e) s') hPv hoC (by simp) F₃ N₃ off' ⟨hCI, hDI, hCD⟩
    refine wpAny_mono hw (fun y s₄ h₄ => ?_) fun _ _ e => e
    obtain ⟨news₄, F₄, N₄, off₄, hS₄, R₄⟩ := h₄
    have zI := (N₄ (I, oI) List.mem_cons_self).1
    have zC := (N₄ (C, oC) (List.mem_cons_of_mem _ List.mem_cons_self)).1
    have zD := (N₄ (D, oD') (List.mem_cons_of_mem _ (List.mem_cons_of_mem _ List.mem_cons_self))).1
    have N₄' : News h₀ L s₄.heap news₄ := fun p hp => N₄ p (List.mem_cons_of_mem _ (List.mem_cons_of_mem _ (List.mem_cons_of_mem _ hp)))
    have off4 := off₄.mem
    refine wpAny_dictSet_pairs (knd := strKind prog w) (kvs := kvs) (strKind_is _ _ _ _) (Heap.dictOf_iff.mpr ⟨oD', zD, hd'⟩) (fun h₅ hd₅ hs₅ => ?_) (Nat.le_trans hkl (Nat.le_trans hi hsz))
    obtain ⟨oD5, ho5, hd5⟩ := Heap.dictOf_iff.mp hd₅
    refine ⟨its.size + 1 - (i + 1), dec_lt hlt hkk, i + 1, oD5, stored kvs key y, _, news₄, hlt, rfl, ?_, ⟨oI, hs₅.extBut _ _ hDI zI, cI⟩, F₄.change hs₅ hDL hD₀, (hoC.ns zC).sameBut hs₅ hCD, fun p hp => ?_, hd5, off₄, hS₄, ?_⟩
    · exact Nat.le_trans (stored_length_le kvs key y) (Nat.succ_le_succ hkl)
    · rcases List.mem_cons.mp hp with rfl | hp
      · exact ⟨ho5, hDL, hD₀⟩
      · exact ⟨hs₅.extBut _ _ (off4 p hp).2.2 (N₄' p hp).1, (N₄' p hp).2⟩
    · rw [sub_next hj]
      exact drest_shift hFin R₄
  · obtain rfl : i = its.size := Nat.le_antisymm hi (Nat.not_lt.mp hlt)
    rw [Nat.sub_self] at R'
    refine W.done _ _ _ ⟨hst', hl⟩ fun h₂ tk₂ hk₂ => ?_
    refine hRR _ _ oD' kvs news' (fr_but F' hk₂ (Ne.symm hIL) hI₀) (news_but N' hk₂ fun p hp => ?_) hd' off' (hn'.at' fun o e => hk₂ _ o (by simpa using Ne.symm hCI) e) (hFin _ _ _ _ _ R')
    rcases List.mem_cons.mp hp with rfl | hp
    · exact Ne.symm hDI
    · exact (off3 p hp).1
noncomputable def DFin (prog : Program) (w : World) (h₀ : Heap) (L : Addr) (m : Str → Option Value) (y : Str) (Q : Flow → Shared → Prop) (kvs : List (Str × Value)) (news : List (Addr × Obj)) (s : Shared) : Prop :=
  ∀ (D : Nat) oD h tk, Fr h₀ L h (fun z => if z = y then some (.ref D) else m z) → News h₀ L h ((D, oD) :: news) → oD.IsDictOf (strKind prog w) kvs → (∀ p ∈ news, p.1 ≠ D) → L < D → Q .next { s with heap := h, toks := tk }
noncomputable abbrev DSrc (prog : Program) (w : World) (A : Around) (h₀ : Heap) (L : Addr) (m : Str → Option Value) (env : Env) (elt : Expr) (x : Str) (scope : Scope) (cl : List (Str × Addr)) (Fin : List (Addr × Obj) → List (Str × Value) → List (Addr × Obj) → Shared → Prop) (xv : Value) (s₁ : Shared) : Prop :=
  ∃ ax its k news, xv = .ref ax ∧ Fr h₀ L s₁.heap m ∧ News h₀ L s₁.heap news ∧ (ax, listOf its k) ∈ news ∧ its.size ≤ sizeLine ∧ DRest prog w A h₀ L m env elt x scope cl (SrcAt h₀ ax its) (fun i v => its[i]? = some v) (Fin news) its.size 0 [] news s₁
theorem dsrc {elt iter : Expr} {x : Str} {px pk : Pos} {scope : Scope} {cl : List (Str × Addr)} {pos : Pos} {RR : Value → Addr → Result → Shared → Prop} {Fin : List (Addr × Obj) → List (Str × Value) → List (Addr × Obj) → Shared → Prop} {xv : Value} {s₁ : Shared}
    (hFin : ∀ base kvs news s h tk, Fin base kvs news s → Fin base kvs news { s with heap := h, toks := tk }) (hcell : ∀ z ∈ scope.names, z.2 ≠ .cell) (hkind : scope.kind = .function) (hx : scope.names.lookup x = some .local) (hdb : (x == ("__debug__" : Str)) = false) (hh : A.handled = none)
    (h₁ : DSrc prog w A h₀ L m env elt x scope cl Fin xv s₁)
    (hRR : ∀ base (s' : Shared) (D C : Nat) m' oD' kvs news', (∀ q ∈ base, @LT.lt Nat _ q.1 D) → Fr h₀ L s'.heap m → News h₀ L s'.heap ((D, oD') :: news') → oD'.IsDictOf (strKind prog w) kvs → (∀ p ∈ news', @Ne Nat p.1 D) → (∀ p ∈ news', @Ne Nat p.1 C) → s'.heap.Ns C m' → h₀.get? C = none → @Ne Nat C L → @Ne Nat C D → @LT.lt Nat _ L D → Fin base kvs news' s' → RR (.ref D) C (.ok .next) s') :
    wpAny (model prog w) A (pyIter xv) (fun it s₂ => wpAny (model prog w) A newDict (fun acc s₃ => wpAny (model prog w) A (newFunctionEnv scope env.globals cl [] env.qual none .none (some env)) (fun cenv s₄ =>
      codeAny (model prog w) A (.compStart (.DictComp (.Name x pk) elt [⟨.Name x px, iter, [], 0⟩] scope pos) 0 it acc { cenv with scope := relabel scope env }) (RR acc cenv.locals) s₄) E s₃) E s₂) E s₁ := by
  obtain ⟨ax, its, k, news, rfl, F, N, hm, hsz, R⟩ := h₁
  have hl : s₁.heap.IsList ax its := listOf_isList (N.get hm)
  have hlt : ax < s₁.heap.objs.size := Heap.lt_size (N.get hm)
  refine wpAny_pyIter_list hl ?_
  have hI := kdx_fresh F (Nat.le_refl s₁.heap.objs.size)
  have hD := kdx_fresh F (Nat.le_succ s₁.heap.objs.size)
  have hC := kdx_fresh F (Nat.le_succ_of_le (Nat.le_succ s₁.heap.objs.size))
  generalize hn : s₁.heap.objs.size = n at hI hD hC hlt ⊢
  generalize hH1 : s₁.heap.push { cls := .type "list_iterator", data := .fields #[.ref ax, .int 0 0] } = H1
  have z1 : H1.objs.size = n + 1 := by rw [← hH1, Heap.size_push, hn]
  have k1 : ∀ b o, s₁.heap.get? b = some o → H1.get? b = some o := fun b o e => hH1 ▸ Heap.get?_push_of_some _ e
  have g1 : H1.get? n = some { cls := .type "list_iterator", data := .fields #[.ref ax, .int 0 0] } := by rw [← hH1, ← hn]; exact Heap.get?_push_size _ rfl
  refine wpAny_newObj_type ?_
  dsimp only
  generalize hH2 : H1.push { cls := .type "dict", dict := none, data := .dict #[] } = H2
  have z2 : H2.objs.size = n + 2 := by rw [← hH2, Heap.size_push, z1]
  have k2 : ∀ b o, H1.get? b = some o → H2.get? b = some o := fun b o e => hH2 ▸ Heap.get?_push_of_some _ e
  have g2 : H2.get? (n + 1) = some { cls := .type "dict", dict := none, data := .dict #[] } := by rw [← hH2, ← z1]; exact Heap.get?_push_size _ rfl
  refine wpAny_newFunctionEnv hcell (by intro y hy; simp at hy) (fun h₁ hns₁ hsb₁ => ?_) hkind
  dsimp only at hns₁ hsb₁ ⊢
  rw [z2] at hns₁ hsb₁ ⊢
  rw [z1]
  have k3 : ∀ b o, b < n + 2 → H2.get? b = some o → h₁.get? b = some o := fun b o hb e => hsb₁.extBut b o (Nat.ne_of_lt hb) (Heap.get?_push_of_some _ e)
  have up : ∀ b o, s₁.heap.get? b = some o → h₁.get? b = some o := fun b o e => k3 b o (by have := Heap.lt_size e; rw [hn] at this; exact Nat.lt_succ_of_lt (Nat.lt_succ_of_lt this)) (k2 b o (k1 b o e))
  have below : ∀ p ∈ news, p.1 < n := fun p hp => by have := Heap.lt_size (N p hp).1; rw [hn] at this; exact this
  have F1 : Fr h₀ L h₁ m := F.keeps up
  have hit : h₁.IsListIter n ax 0 := ⟨_, k3 _ _ (Nat.lt_succ_of_lt (Nat.lt_succ_self n)) (k2 _ _ g1), rfl, rfl⟩
  have hD1 : h₁.get? (n + 1) = some { cls := .type "dict", dict := none, data := .dict #[] } := k3 _ _ (Nat.lt_succ_self (n + 1)) g2
  have hdd : ({ cls := .type "dict", dict := none, data := .dict #[] } : Obj).IsDictOf (strKind prog w) [] := ⟨#[], 0, ⟨rfl, rfl, rfl⟩, rfl, fun _ he => by simp at he, Pairs.nil, List.nodup_nil⟩
  have N1 : News h₀ L h₁ ((n + 1, { cls := .type "dict", dict := none, data := .dict #[] }) :: news) := fun p hp => by
    rcases List.mem_cons.mp hp with rfl | hp
    · exact ⟨hD1, hD⟩
    · exact ⟨up _ _ (N p hp).1, (N p hp).2⟩
  have off : Off3 n (n + 2) (n + 1) news := Off3.of fun p hp => ⟨Nat.ne_of_lt (below p hp), Nat.ne_of_lt (Nat.lt_succ_of_lt (Nat.lt_succ_of_lt (below p hp))), Nat.ne_of_lt (Nat.lt_succ_of_lt (below p hp))⟩
  have hS : SrcAt h₀ ax its news := .inr ⟨_, hm, rfl, _, rfl⟩
  have e1 : @Ne Nat n (n + 2) := Nat.ne_of_lt (Nat.lt_succ_of_lt (Nat.lt_succ_self n))
  have e2 : @Ne Nat n (n + 1) := (Nat.succ_ne_self n).symm
  have e3 : @Ne Nat (n + 2) (n + 1) := Nat.succ_ne_self (n + 1)
  have e4 : @Ne Nat (n + 2) ax := ne_of_lt2 hlt
  have e5 : @Ne Nat (n + 1) ax := ne_of_lt1 hlt
  have e6 : @LT.lt Nat _ L (n + 1) := by have h9 : @LT.lt Nat _ L s₁.heap.objs.size := F.ns.lt; rw [hn] at h9; exact Nat.lt_succ_of_lt h9
  have loop : ∀ tks, codeAny (model prog w) A (.compLoop (.DictComp (.Name x pk) elt [⟨.Name x px, iter, [], 0⟩] scope pos) 0 (.ref n) (.ref (n + 1)) (compEnvC scope cl (n + 2) env)) (RR (.ref (n + 1)) (n + 2)) { s₁ with heap := h₁, toks := tks } := fun tks =>
    dloop hh (Ne.symm (Nat.ne_of_lt hlt)) hsz hdb hkind hx rfl e1 e2 e3 hI.1 hC.1 hD.1 hI.2 hC.2 hD.2 e4 e5 hit hns₁ hdd F1 N1 off hS (hFin news) R fun s9 m' oD' kvs news' F' N' hd' off' hn' fin =>
      hRR news s9 (n + 1) (n + 2) m' oD' kvs news' (fun q hq => Nat.lt_succ_of_lt (below q hq)) F' N' hd' (fun p hp => (off'.mem p hp).2.2) (fun p hp => (off'.mem p hp).2.1) hn' hC.2 hC.1 e3 e6 fin
  exact codeAny_compStart_dict (loop _) ((Walks.list (prog := prog) (w := w) (A := A) hh n ax (Nat.ne_of_lt hlt) its).self 0 _ _ _ ⟨hit, hS.list F1.keep (fun p hp => N1 p (.tail _ hp))⟩ (loop _))
theorem Assign_DComp {elt iter : Expr} {x y : Str} {px py pk : Pos} {scope : Scope} {cl : List (Str × Addr)} {pos spos : Pos} {Q : Flow → Shared → Prop} (_F : Fr h₀ L s.heap m) (hLe : env.locals = L)
    (hsw : swapsWith (.DictComp (.Name x pk) elt [⟨.Name x px, iter, [], 0⟩] scope pos) (some (.Name y py)) spos.line env = pure true)
    (hclos : closureFor scope env = pure cl) (hcell : ∀ z ∈ scope.names, z.2 ≠ .cell) (hkind : scope.kind = .function)
    (hnames : ∀ z ∈ scope.names, z.2 = .local → scope.names.lookup z.1 = some .local) (hx : scope.names.lookup x = some .local) (hdb : (x == ("__debug__" : Str)) = false)
    (hy : env.kindOf y = some .local) (hp : (env.scope.kind == .class || (env.scope.kind == .module && env.locals != env.globals)) = false) (hh : A.handled = none)
    (h : wpAny (model prog w) A (eval iter env) (DSrc prog w A h₀ L m env elt x scope cl fun _ => DFin prog w h₀ L m y Q) E s)
    (hs : ∀ x, foldedSetIterable iter env x = pure x := by intro _; rfl) :
    wpAny (model prog w) A (exec (.Assign [.Name y py] (.DictComp (.Name x pk) elt [⟨.Name x px, iter, [], 0⟩] scope pos) spos) env) Q E s := by
  subst hLe
  rw [exec_Assign_Name_used _ _ _ _ hsw]
  refine wpAny_bind (wpAny_standAt (wpAny_bind ?_))
  show wpAny _ A (do let _ ← comprehension (.DictComp (.Name x pk) elt [⟨.Name x px, iter, [], 0⟩] scope pos) scope env _ newDict false (eval iter env) (some (assign (.Name y py) env))) _ _ s
  refine wpAny_bind (wpAny_mono (wpAny_comprehension_free (use := some (assign (.Name y py) env)) (Q := fun _ s' => Q .next s') rfl hs hclos hkind hnames
    (wpAny_mono h (fun xv s₁ h₁ => ?_) fun _ _ e => e)) (fun _ s' hq => wpAny_pure (wpAny_pure hq)) fun _ _ e => e)
  refine dsrc (fun _ _ _ _ _ _ x => x) hcell hkind hx hdb hh h₁ fun base s9 D C m' oD' kvs news' hb9 F' N' hd' o1 o2 hn' hC0 hCL hCD e6 fin => ?_
  show wpAny _ A (assign (.Name y py) env (.ref D)) _ _ _
  refine wpAny_assign_Name (wpAny_storeName_local hy F'.ns (fun h₂ hn₂ hs₂ => ?_) hp)
  have hL₀ : h₀.get? env.locals = none := Heap.get?_none_of_le F'.above
  have F₂ : Fr h₀ env.locals h₂ (fun z => if z = y then some (.ref D) else m z) := ⟨hn₂, fun b o e => hs₂.extBut b o (fun q => by rw [q, hL₀] at e; cases e) (F'.keep b o e), F'.above⟩
  refine ⟨m', hn'.sameBut hs₂ hCL, fun h'' hs'' => fin D oD' h'' _ (F₂.change hs'' hCL hC0) (fun p hp => ?_) hd' o1 e6⟩
  have z : h₂.get? p.1 = some p.2 := hs₂.extBut _ _ (N' p hp).2.1 (N' p hp).1
  refine ⟨hs''.extBut _ _ ?_ z, (N' p hp).2⟩
  rcases List.mem_cons.mp hp with rfl | hp
  · exact Ne.symm hCD
  · exact o2 p hp
noncomputable def DFinE (prog : Program) (w : World) (h₀ : Heap) (L : Addr) (m : Str → Option Value) (Q : Value → Shared → Prop) (base : List (Addr × Obj)) (kvs : List (Str × Value)) (news : List (Addr × Obj)) (s : Shared) : Prop :=
  ∀ (D : Nat) oD h tk, (∀ q ∈ base, @LT.lt Nat _ q.1 D) → Fr h₀ L h m → News h₀ L h ((D, oD) :: news) → oD.IsDictOf (strKind prog w) kvs → (∀ p ∈ news, p.1 ≠ D) → L < D → Q (.ref D) { s with heap := h, toks := tk }
theorem ld_cell {x : Str} {pos : Pos} {v : Value} {o : Obj} {c C : Addr} {scope : Scope} {cl : List (Str × Addr)} {news : List (Addr × Obj)} {Q : Value → Shared → Prop} (N : News h₀ L s.heap news) (hc : (compEnvC scope cl C env).cells.lookup x = some c) (hm : (c, o) ∈ news) (hd : o.data = .cell (some v)) (h : Q v s)
    (hk : (compEnvC scope cl C env).scope.kind = .function := by rfl) (hx : (compEnvC scope cl C env).kindOf x = some .cell := by rfl) (hb : (x == ("__debug__" : Str)) = false := by decide) :
    wpAny (model prog w) A (eval (.Name x pos) (compEnvC scope cl C env)) Q E s := wpAny_Name (wpAny_loadName_cell hk hx hc ⟨o, N.get hm, hd⟩ h) hb
theorem compEnd_push {I C D R : Addr} {o oI oC oD : Obj} {S : List (Addr × Obj) → Prop} {rest : Value → List (Addr × Obj) → Shared → Prop} {y : Value} {s₂ : Shared} {news : List (Addr × Obj)} (F : Fr h₀ L s₂.heap m) (N : News h₀ L s₂.heap ((R, o) :: (I, oI) :: (C, oC) :: (D, oD) :: news)) (off : Off3 I C D news)
    (l : ∀ p ∈ (I, oI) :: (C, oC) :: (D, oD) :: news, p.1 < R) (hS : S ((R, o) :: news)) (r : rest y ((R, o) :: news) s₂) : CompEndG h₀ L m I oI C oC D oD S rest y s₂ := by
  refine ⟨(R, o) :: news, F, fun p hp => N p ?_, ⟨⟨Nat.ne_of_gt (l _ (.head _)), Nat.ne_of_gt (l _ (.tail _ (.head _))), Nat.ne_of_gt (l _ (.tail _ (.tail _ (.head _))))⟩, off⟩, hS, r⟩
  rcases List.mem_cons.mp hp with rfl | hp
  · exact .tail _ (.head _)
  · rcases List.mem_cons.mp hp with rfl | hp
    · exact .tail _ (.tail _ (.head _))
    · rcases List.mem_cons.mp hp with rfl | hp
      · exact .tail _ (.tail _ (.tail _ (.head _)))
      · rcases List.mem_cons.mp hp with rfl | hp
        · exact .head _
        · exact .tail _ (.tail _ (.tail _ (.tail _ hp)))
end
end
section
open PySem PySem.Calls PyProof.Rows PySem.W PySem.Spec
noncomputable def AllNe (D : Nat) : List (Addr × Obj) → Prop
  | [] => True
  | p :: r => (@Ne Nat p.1 D) ∧ AllNe D r
theorem allNe_of {D : Nat} : ∀ {l : List (Addr × Obj)}, (∀ p ∈ l, p.1 ≠ D) → AllNe D l
  | [], _ => trivial
  | _ :: _, h => ⟨h _ (.head _), allNe_of fun p hp => h p (.tail _ hp)⟩
inductive TruthL : Obj → Bool → Prop
  | e0 {n} : TruthL (listOf #[] n) false
  | s0 {n} : TruthL (listOf (strValues []).toArray n) false
  | s1 {a n} : TruthL (listOf (strValues [a]).toArray n) true
section
variable {prog : Program} {w : World} {A : Around} {E : Value → Shared → Prop} {s : Shared} {h₀ : Heap} {L : Addr} {m : Str → Option Value} {news : List (Addr × Obj)}
theorem truthyL0 {a : Addr} {n : Nat} {Q : Bool → Shared → Prop} (N : News h₀ L s.heap news) (hm : (a, listOf #[] n) ∈ news) (h : Q false { s with toks := s.toks + 1 + 1 }) : wpAny (model prog w) A (truthy (.ref a)) Q E s :=
  wpAny_truthy_list (items := #[]) ⟨_, N.get hm, rfl, n, rfl⟩ (by decide) h
theorem truthyL1 {a : Addr} {n : Nat} {x : Value} {xs : List Value} {Q : Bool → Shared → Prop} (N : News h₀ L s.heap news) (hm : (a, listOf (x :: xs).toArray n) ∈ news) (hz : (x :: xs).length < 1000) (h : Q true { s with toks := s.toks + 1 + 1 }) : wpAny (model prog w) A (truthy (.ref a)) Q E s :=
  wpAny_truthy_list (items := (x :: xs).toArray) ⟨_, N.get hm, rfl, n, rfl⟩ (by rw [List.size_toArray]; lia) (by simpa using h)
theorem truthyD1 {a : Addr} {o : Obj} {kv : Str × Value} {kvs : List (Str × Value)} {Q : Bool → Shared → Prop} (N : News h₀ L s.heap news) (hm : (a, o) ∈ news) (hd : o.IsDictOf (strKind prog w) (kv :: kvs)) (hs : (a == sysModules) = false) (hz : (kv :: kvs).length < 1000) (h : Q true { s with toks := s.toks + 1 + 1 }) : wpAny (model prog w) A (truthy (.ref a)) Q E s :=
  wpAny_truthy_dict (knd := strKind prog w) (kvs := kv :: kvs) hs (Heap.dictOf_iff.mpr ⟨o, N.get hm, hd⟩) (by lia) (by simpa using h)
theorem itemLast {value slice : PySem.Expr} {l : Addr} {ys : List Value} {v : Value} {n : Nat} {u : Tok} {Q : Value → Shared → Prop} (N : News h₀ L s.heap news) (hm : (l, listOf (ys ++ [v]).toArray n) ∈ news) (hz : ys.length < 1000) (h : Q v s)
    (hs : subscripted slice false (.ref l) (.int (-1) u) = operate [.ref l, .int (-1) u] (getItem (.ref l) (.int (-1) u)) := by with_unfolding_all rfl) :
    wpAny (model prog w) A (subscriptTail value slice (.ref l) (.int (-1) u)) Q E s := by
  have hl : s.heap.IsList l (ys ++ [v]).toArray := ⟨_, N.get hm, rfl, n, rfl⟩
  refine tail_any hl.typeIs slot_list_getitem.lookup (wpAny_getItem_list_neg hl (by decide) (by simp; lia) (by decide) (x := v) ?_ h) hs
  have e : ((-1 : Int) + ((ys ++ [v]).toArray.size : Int)).toNat = ys.length := by simp; lia
  rw [e]
  simp
theorem appL {D : Addr} {l : List Value} {n : Nat} {x : Value} {news' : List (Addr × Obj)} {Q : Value → Shared → Prop} (F : Fr h₀ L s.heap m) (N : News h₀ L s.heap news) (U : Upd D (listOf l.toArray n) (listOf (l ++ [x]).toArray (n + 1)) news news')
    (hz : l.length ≤ 2000) (h : ∀ h', Fr h₀ L h' m → News h₀ L h' news' → Q .none { s with heap := h' }) : wpAny (model prog w) A (call (.builtin "list.append") [.ref D, x]) Q E s := by
  obtain ⟨pre, post, rfl, rfl, a, b⟩ := U.split
  have z := N (D, listOf l.toArray n) (List.mem_append.mpr (.inr (.head _)))
  refine wpAny_call_entry PySem.F.slot_list_append ⟨_, z.1, rfl⟩ PySem.F.entry_list_append ?_ (PySem.F.args_list_append_2 _ _)
  show wpAny _ _ (updateSeq D (·.push x) >>= fun _ => ret .none) _ _ s
  refine wpAny_bind ?_
  refine wpAny_updateSeq z.1 rfl (wpAny_pure ⟨_, rfl, ?_⟩) (by rw [List.size_toArray, sizeLine_eq]; lia) (by rw [Array.size_push, List.size_toArray, sizeLine_eq]; lia)
  have hs := Heap.SameBut.update D (Obj.mapSeq (·.push x)) (h := s.heap)
  have e : l.toArray.push x = (l ++ [x]).toArray := by simp
  refine h _ (F.change hs z.2.1 z.2.2) (news_set N a b hs ?_)
  rw [Heap.get?_update_self _ z.1 (by rw [mapSeq_push]; rfl), mapSeq_push, e]
theorem dictItem {value slice : PySem.Expr} {d : Addr} {o : Obj} {kvs : List (Str × Value)} {x : Str} {t : Tok} {v : Value} {Q : Value → Shared → Prop} (N : News h₀ L s.heap news) (hp : (d, o) ∈ news) (hd : o.IsDictOf (strKind prog w) kvs) (hl : PySem.valueAt kvs x = some v) (h : Q v { s with toks := s.toks + 1 })
    (hs : subscripted slice false (.ref d) (.str x t) = operate [.ref d, .str x t] (getItem (.ref d) (.str x t)) := by with_unfolding_all rfl) : wpAny (model prog w) A (subscriptTail value slice (.ref d) (.str x t)) Q E s :=
  kdt_tail (knd := strKind prog w) N hp hd (kdt_getItem (knd := strKind prog w) N hp hd (strKind_is _ _ _ _) hl h) hs
theorem tupItem {value slice : PySem.Expr} {a : Addr} {vs : List Value} {k : Nat} {u : Tok} {v : Value} {Q : Value → Shared → Prop} (N : News h₀ L s.heap news) (hm : (a, tupOf vs) ∈ news) (hk : k < vs.length) (hz : vs.length < 1000) (hx : vs[k]? = some v) (h : Q v s)
    (hs : subscripted slice false (.ref a) (.int (k : Int) u) = operate [.ref a, .int (k : Int) u] (getItem (.ref a) (.int (k : Int) u)) := by with_unfolding_all rfl) :
    wpAny (model prog w) A (subscriptTail value slice (.ref a) (.int (k : Int) u)) Q E s := by
  refine item_tupleT (l := vs) (j := k) ⟨_, N.get hm, rfl, 0, rfl⟩ (by lia) (by lia) ?_ hx h hs
  unfold seqIndex?
  simp
  lia
theorem tupItem0 {value slice : PySem.Expr} {a : Addr} {vs : List Value} {u : Tok} {v : Value} {Q : Value → Shared → Prop} (N : News h₀ L s.heap news) (hm : (a, tupOf vs) ∈ news) (hk : 0 < vs.length) (hz : vs.length < 1000) (hx : vs[0]? = some v) (h : Q v s)
    (hs : subscripted slice false (.ref a) (.int 0 u) = operate [.ref a, .int 0 u] (getItem (.ref a) (.int 0 u)) := by with_unfolding_all rfl) :
    wpAny (model prog w) A (subscriptTail value slice (.ref a) (.int 0 u)) Q E s := tupItem (k := 0) N hm hk hz hx h hs
theorem truthyT {a : Addr} {o : Obj} {b : Bool} {Q : Bool → Shared → Prop} (N : News h₀ L s.heap news) (hm : (a, o) ∈ news) (T : TruthL o b) (h : Q b { s with toks := s.toks + 1 + 1 }) : wpAny (model prog w) A (truthy (.ref a)) Q E s := by
  cases T with
  | e0 => exact truthyL0 N hm h
  | s0 => exact truthyL0 N hm h
  | s1 => exact truthyL1 N hm (by simp) h
theorem mapSeq_list {f : Array Value → Array Value} {its : Array Value} {n : Nat} (h : (f its).size ≠ its.size) : Obj.mapSeq f (listOf its n) = listOf (f its) (n + 1) := by simp [Obj.mapSeq, h]
theorem popL {D : Addr} {l : List Value} {n : Nat} {x : Value} {news' : List (Addr × Obj)} {Q : Value → Shared → Prop} (F : Fr h₀ L s.heap m) (N : News h₀ L s.heap news) (U : Upd D (listOf (l ++ [x]).toArray n) (listOf l.toArray (n + 1)) news news')
    (hz : l.length ≤ 2000) (h : ∀ h', Fr h₀ L h' m → News h₀ L h' news' → Q x { s with heap := h' }) : wpAny (model prog w) A (call (.builtin "list.pop") [.ref D]) Q E s := by
  obtain ⟨pre, post, rfl, rfl, a, b⟩ := U.split
  have z := N (D, listOf (l ++ [x]).toArray n) (List.mem_append.mpr (.inr (.head _)))
  have hsz : (l ++ [x]).toArray.size = l.length + 1 := by simp
  refine call_meets PySem.F.slot_list_pop ⟨_, z.1, rfl⟩ PySem.F.entry_list_pop (PySem.F.args_list_pop_1 _) (PySem.MeetsSeq.list_pop_last D (l ++ [x]).toArray n x (by rw [hsz]; simp) (by rw [hsz, sizeLine_eq]; lia)) ⟨z.1, ?_⟩
  have hs := Heap.SameBut.update D (Obj.mapSeq fun xs => xs.eraseIdxIfInBounds ((l ++ [x]).toArray.size - 1)) (h := s.heap)
  refine h _ (F.change hs z.2.1 z.2.2) (news_set N a b hs ?_)
  have e : (l ++ [x]).toArray.eraseIdxIfInBounds ((l ++ [x]).toArray.size - 1) = l.toArray := by
    rw [hsz]
    apply Array.ext'
    unfold Array.eraseIdxIfInBounds
    rw [dif_pos (by simp), Array.toList_eraseIdx]
    show (l ++ [x]).eraseIdx (l.length + 1 - 1) = l
    rw [Nat.add_sub_cancel, List.eraseIdx_append_of_length_le (Nat.le_refl _)]
    simp
  have e2 : Obj.mapSeq (fun xs => xs.eraseIdxIfInBounds ((l ++ [x]).toArray.size - 1)) (listOf (l ++ [x]).toArray n) = listOf l.toArray (n + 1) := by
    rw [mapSeq_list (by (try dsimp only); rw [e, hsz, List.size_toArray]; lia), e]
  have g := Heap.get?_update_self (Obj.mapSeq fun xs => xs.eraseIdxIfInBounds ((l ++ [x]).toArray.size - 1)) z.1 (by rw [e2]; rfl)
  rw [e2] at g
  exact g
theorem lenL {D : Addr} {l : List Value} {n : Nat} {Q : Value → Shared → Prop} (N : News h₀ L s.heap news) (hm : (D, listOf l.toArray n) ∈ news) (hz : l.length ≤ 2000) (h : Q (.int (l.length : Int) (s.toks + 1)) { s with toks := s.toks + 1 + 1 }) : wpAny (model prog w) A (call (.builtin "len") [.ref D]) Q E s :=
  Calls.call_len_list (items := l.toArray) ⟨_, N.get hm, rfl, n, rfl⟩ (by rw [List.size_toArray]; lia) (by rw [List.size_toArray]; exact h)
end
end
section
open PySem PySem.W PyProof.Rows PySem.Calls PySem.Spec
noncomputable abbrev P3 := PySem.Challenge.rw_pg0301_02.row.prog
noncomputable abbrev lo3 : List Str :=
    (looseW hd2.view_39
            [Str.ofString "_twin_re_1", Str.ofString "_namespace_map", Str.ofString "_looks_like_prefix_name",
              Str.ofString "C14NWriterTarget"] ++
          List.map (fun x => x.name) (recsOf hd2.view_39) ++
        List.map (fun x => x.fst) (litsOf hd2.view_39) ++
      List.map (fun x => x.name)
        (clssOf hd2.view_39
          (looseW hd2.view_39
            [Str.ofString "_twin_re_1", Str.ofString "_namespace_map", Str.ofString "_looks_like_prefix_name",
              Str.ofString "C14NWriterTarget"])))
structure XW where
  (ea et : Nat) (ig : Int) (t : Tok)
noncomputable abbrev en (P : Params) (n : String) (tk : Tok) (v : Value) : DictEntry := ⟨PyData.keyHash P (Str.ofString n), .str (Str.ofString n) tk, v⟩
noncomputable abbrev wdict (P : Params) (tk : Nat → Tok) (q dl nsd ns pm ps pend : Value) (seen done : Bool) (t0 : XW): List DictEntry := [
  en P "_write" (tk 0) q, en P "_data" (tk 1) dl, en P "_with_comments" (tk 2) (.bool false), en P "_strip_text" (tk 3) (.bool true),
  en P "_exclude_attrs" (tk 4) (.ref t0.ea), en P "_exclude_tags" (tk 5) (.ref t0.et), en P "_rewrite_prefixes" (tk 6) (.bool false),
  en P "_qname_aware_tags" (tk 7) .none, en P "_find_qname_aware_attrs" (tk 8) .none,
  en P "_declared_ns_stack" (tk 9) nsd, en P "_ns_stack" (tk 10) ns, en P "_prefix_map" (tk 11) pm, en P "_preserve_space" (tk 12) ps,
  en P "_pending_start" (tk 13) pend, en P "_root_seen" (tk 14) (.bool seen), en P "_root_done" (tk 15) (.bool done), en P "_ignored_depth" (tk 16) (.int t0.ig t0.t)]
noncomputable abbrev tStr (s : String) (t : Tok) : Value := .str (Str.ofString s) t
noncomputable abbrev wCells (P : Params) (tk : Nat → Tok) (t0 : XW) (wd wr q pc dl nsd ns pm ps : Nat) (seen done : Bool) (pcs : List (Str × Tok)) (dts : List (Str × Tok)) (nsds nss pss : List Value) (tb : Array Value) (e0 e1 e2 e3 e4 e5 : Nat) (rest : List (Addr × Obj)) : List (Addr × Obj) :=
  (wd, dictOf (wdict P tk (.ref q) (.ref dl) (.ref nsd) (.ref ns) (.ref pm) (.ref ps) .none seen done t0) e0) :: (wr, instObj 157 wd) :: (q, bfmObj "list.append" (.ref pc)) ::
  (pc, listOf (strValues pcs).toArray e1) :: (dl, listOf (strValues dts).toArray e2) :: (nsd, listOf nsds.toArray e3) :: (ns, listOf nss.toArray e4) :: (ps, listOf pss.toArray e5) :: (130, tabObj tb) :: rest
noncomputable def WOrd (wd wr q pc dl nsd ns pm ps : Nat) : Prop := 130 < pc ∧ pc < q ∧ q < wd ∧ wd < wr ∧ wr < dl ∧ dl < nsd ∧ nsd < ns ∧ ns < pm ∧ pm < ps
noncomputable def WOff (wd pc dl nsd ns ps : Nat) (rest : List (Addr × Obj)) : Prop := (∀ p ∈ rest, p.1 ≠ 130) ∧ (∀ p ∈ rest, p.1 ≠ pc) ∧ (∀ p ∈ rest, p.1 ≠ wd) ∧ (∀ p ∈ rest, p.1 ≠ dl) ∧ (∀ p ∈ rest, p.1 ≠ nsd) ∧ (∀ p ∈ rest, p.1 ≠ ns) ∧ (∀ p ∈ rest, p.1 ≠ ps)
theorem strValues_push {l : List (Str × Tok)} {x : Str} {t : Tok} : (strValues l).toArray.push (.str x t) = (strValues (l ++ [(x, t)])).toArray := by simp [strValues]
end
section
open PySem PySem.W PyProof.Rows PySem.Calls PySem.Spec
inductive InA (a : Nat) : List (Addr × Obj) → Prop
  | head {o : Obj} {l : List (Addr × Obj)} : InA a ((a, o) :: l)
  | tail {q : Addr × Obj} {l : List (Addr × Obj)} (h : InA a l) : InA a (q :: l)
inductive Suf (r : List (Addr × Obj)) : List (Addr × Obj) → Prop
  | here : Suf r r
  | tail {q : Addr × Obj} {l : List (Addr × Obj)} (h : Suf r l) : Suf r (q :: l)
inductive Has (b : Nat) : List Nat → Prop
  | head {l : List Nat} : Has b (b :: l)
  | tail {x : Nat} {l : List Nat} (h : Has b l) : Has b (x :: l)
inductive Bef (a b : Nat) : List Nat → Prop
  | head {l : List Nat} (h : Has b l) : Bef a b (a :: l)
  | tail {x : Nat} {l : List Nat} (h : Bef a b l) : Bef a b (x :: l)
theorem InA.mem {a : Nat} {l : List (Addr × Obj)} (h : InA a l) : ∃ o, (a, o) ∈ l := by
  induction h with
  | head => exact ⟨_, .head _⟩
  | tail _ ih => obtain ⟨o, h⟩ := ih; exact ⟨o, .tail _ h⟩
theorem Suf.mem {r l : List (Addr × Obj)} (h : Suf r l) : ∀ p ∈ r, p ∈ l := by
  induction h with
  | here => exact fun _ h => h
  | tail _ ih => exact fun p hp => .tail _ (ih p hp)
theorem lt_in {a d : Nat} {l : List (Addr × Obj)} (h : ∀ p ∈ l, p.1 < d) (m : InA a l) : a < d := by
  obtain ⟨o, m⟩ := m.mem
  exact h _ m
theorem ne_suf {d : Nat} {l r : List (Addr × Obj)} (h : ∀ p ∈ l, p.1 < d) (m : Suf r l) : ∀ p ∈ r, p.1 ≠ d := fun p hp => Nat.ne_of_lt (h p (m.mem p hp))
theorem lt_suf {d : Nat} {l r : List (Addr × Obj)} (h : ∀ p ∈ l, p.1 < d) (m : Suf r l) : ∀ p ∈ r, p.1 < d := fun p hp => h p (m.mem p hp)
theorem far_suf {d : Nat} {l r : List (Addr × Obj)} (h : ∀ p ∈ l, p.1 < d) (m : Suf r l) : (∀ p ∈ r, p.1 ≠ d + 1) ∧ (∀ p ∈ r, p.1 ≠ d + 1 + 1) := ⟨fun p hp => Nat.ne_of_lt (Nat.lt_succ_of_lt (h p (m.mem p hp))), fun p hp => Nat.ne_of_lt (Nat.lt_succ_of_lt (Nat.lt_succ_of_lt (h p (m.mem p hp))))⟩
theorem ne_cons {d : Nat} {q : Addr × Obj} {l : List (Addr × Obj)} (h : q.1 ≠ d) (r : ∀ p ∈ l, p.1 ≠ d) : ∀ p ∈ q :: l, p.1 ≠ d := List.forall_mem_cons.mpr ⟨h, r⟩
theorem news_c {h₀ h : Heap} {L : Addr} {l big : List (Addr × Obj)} {p : Addr × Obj} (N : News h₀ L h big) (m : p ∈ big) (r : News h₀ L h l) : News h₀ L h (p :: l) := List.forall_mem_cons.2 ⟨N _ m, r⟩
theorem Has.mem {b : Nat} {l : List Nat} (h : Has b l) : b ∈ l := by
  induction h with
  | head => exact .head _
  | tail _ ih => exact .tail _ ih
theorem lt_bef {a b : Nat} {l : List Nat} (h : l.Pairwise (· < ·)) (m : Bef a b l) : a < b := by
  induction m with
  | head hb => exact (List.pairwise_cons.mp h).1 _ hb.mem
  | tail _ ih => exact ih (List.pairwise_cons.mp h).2
theorem pw_cons {a b : Nat} {l : List Nat} (h : a < b) (p : (b :: l).Pairwise (· < ·)) : (a :: b :: l).Pairwise (· < ·) := by
  refine List.pairwise_cons.mpr ⟨fun c hc => ?_, p⟩
  rcases List.mem_cons.mp hc with rfl | hc
  · exact h
  · exact Nat.lt_trans h ((List.pairwise_cons.mp p).1 c hc)
theorem lt_wo {a b wd wr q pc dl nsd ns pm ps : Nat} (h : WOrd wd wr q pc dl nsd ns pm ps) (m : Bef a b [130, pc, q, wd, wr, dl, nsd, ns, pm, ps]) : a < b := by
  obtain ⟨o1, o2, o3, o4, o5, o6, o7, o8, o9⟩ := h
  exact lt_bef (pw_cons o1 (pw_cons o2 (pw_cons o3 (pw_cons o4 (pw_cons o5 (pw_cons o6 (pw_cons o7 (pw_cons o8 (pw_cons o9 (List.pairwise_singleton _ _)))))))))) m
end
section
open PySem PySem.W PyProof.Rows PySem.Calls PySem.Spec
theorem bl {a b : Nat} (e : Nat.ble a b = true) : a ≤ b := Nat.le_of_ble_eq_true e
theorem rm0 {d a L : Nat} (h : d + a < L) : d < L := Nat.lt_of_le_of_lt (Nat.le_add_right d a) h
theorem rm1 {d a b L : Nat} (h : d + a < L) (e : Nat.ble b a = true) : d + b < L := Nat.lt_of_le_of_lt (Nat.add_le_add_left (bl e) d) h
theorem rm2 {d a b c L : Nat} (h : d + a < L) (e : Nat.ble (b + c) a = true) : d + b + c < L := by rw [Nat.add_assoc]; exact rm1 h e
theorem rm3 {d a b c f L : Nat} (h : d + a < L) (e : Nat.ble (b + (c + f)) a = true) : d + b + c + f < L := by rw [Nat.add_assoc]; exact rm2 h e
theorem rm4 {d a b c f g L : Nat} (h : d + a < L) (e : Nat.ble (b + (c + (f + g))) a = true) : d + b + c + f + g < L := by rw [Nat.add_assoc]; exact rm3 h e
theorem rnA {d m a L : Nat} (h : d + m + a < L) : d + a < L := Nat.lt_of_le_of_lt (Nat.add_le_add_right (Nat.le_add_right d m) a) h
theorem rn0 {d m a L : Nat} (h : d + m + a < L) : d < L := rm0 (rnA h)
theorem rn1 {d m a b L : Nat} (h : d + m + a < L) (e : Nat.ble b a = true) : d + b < L := rm1 (rnA h) e
theorem rn2 {d m a b c L : Nat} (h : d + m + a < L) (e : Nat.ble (b + c) a = true) : d + b + c < L := rm2 (rnA h) e
theorem rr {d k n a b L : Nat} (h : d + k * (n + 1) + a < L) (e : Nat.ble b k = true) : d + b + k * n + a < L := by
  refine Nat.lt_of_le_of_lt (Nat.add_le_add_right ?_ a) h
  rw [Nat.mul_succ, Nat.add_assoc, Nat.add_comm b]
  exact Nat.add_le_add_left (Nat.add_le_add_left (bl e) _) d
theorem l0 {x a b : Nat} (h : x ≤ a) (e : Nat.ble a b = true) : x ≤ b := Nat.le_trans h (bl e)
theorem l1 {x a b c : Nat} (h : x ≤ a) (e : Nat.ble (a + c) b = true) : x + c ≤ b := Nat.le_trans (Nat.add_le_add_right h c) (bl e)
theorem s1 {x a b c : Nat} (h : x < a) (e : Nat.ble (a + c) (b + 1) = true) : x + c ≤ b := Nat.le_of_lt_succ (Nat.lt_of_lt_of_le (Nat.add_lt_add_right h c) (bl e))
theorem s0 {x a b : Nat} (h : x < a) (e : Nat.ble a (b + 1) = true) : x ≤ b := s1 (c := 0) h e
theorem q1 {x a b c : Nat} (h : x = a) (e : Nat.ble (a + c) b = true) : x + c ≤ b := l1 (Nat.le_of_eq h) e
theorem q0 {x a b : Nat} (h : x = a) (e : Nat.ble a b = true) : x ≤ b := l0 (Nat.le_of_eq h) e
theorem w0 {x y a b : Nat} (h : x = y) (g : y ≤ a) (e : Nat.ble a b = true) : x ≤ b := l0 (Nat.le_trans (Nat.le_of_eq h) g) e
theorem w2 {x y a b c : Nat} (h : x = y + c) (g : y ≤ a) (e : Nat.ble (a + c) b = true) : x ≤ b := Nat.le_trans (Nat.le_of_eq h) (l1 g e)
theorem a2 {x y a b c : Nat} (h : x ≤ a) (g : y ≤ b) (e : Nat.ble (a + b) c = true) : x + y ≤ c := Nat.le_trans (Nat.add_le_add h g) (bl e)
theorem a3 {x y a b c d : Nat} (h : x ≤ a) (g : y ≤ b) (e : Nat.ble (a + b + d) c = true) : x + y + d ≤ c := Nat.le_trans (Nat.add_le_add_right (Nat.add_le_add h g) d) (bl e)
theorem ltOf {x a : Nat} (h : x + 1 ≤ a) : x < a := h
theorem ngt {x a : Nat} (h : x ≤ a) : ¬ x > a := Nat.not_lt.mpr h
theorem dfl {p : Prop} [Decidable p] (h : ¬ p) : decide p = false := decide_eq_false h
theorem len_app {x y : Str} : (x ++ y).length = x.length + y.length := by show (_ ++ _ : Array Nat).size = _; rw [Array.size_append]; rfl
theorem slx {x y : Str} {a b : Nat} (h : x.length ≤ a) (g : y.length ≤ b) : (x ++ y).length ≤ a + b := Nat.le_trans (Nat.le_of_eq len_app) (Nat.add_le_add h g)
theorem z0 {x a b : Nat} (h : x ≤ a) (e : Nat.ble a b = true) : 0 + x ≤ b := Nat.le_trans (Nat.le_of_eq (Nat.zero_add x)) (l0 h e)
theorem sq {x : Str} {a : Nat} (h : x.length = a) : x.length ≤ a := Nat.le_of_eq h
end
section
open PySem PySem.W PyProof.Rows PySem.Calls PySem.Spec
theorem get_seen {P : Params} {tk : Nat → Tok} {q dl nsd ns pm ps pend : Value} {seen done : Bool} {t0 : XW} : (getL (Str.ofString "_root_seen") (wdict P tk q dl nsd ns pm ps pend seen done t0)).isSome = true := by rfl
theorem put_seen {P : Params} {tk : Nat → Tok} {q dl nsd ns pm ps pend : Value} {seen done : Bool} {t0 : XW} {h : Int} {k : Value} {n : Nat} :
    (putL (Str.ofString "_root_seen") h k (.bool true) (wdict P tk q dl nsd ns pm ps pend seen done t0), putN (Str.ofString "_root_seen") (wdict P tk q dl nsd ns pm ps pend seen done t0) n) = (wdict P tk q dl nsd ns pm ps pend true done t0, n) := by rfl
theorem get_done {P : Params} {tk : Nat → Tok} {q dl nsd ns pm ps pend : Value} {seen done : Bool} {t0 : XW} : (getL (Str.ofString "_root_done") (wdict P tk q dl nsd ns pm ps pend seen done t0)).isSome = true := by rfl
theorem put_done {P : Params} {tk : Nat → Tok} {q dl nsd ns pm ps pend : Value} {seen done b : Bool} {t0 : XW} {h : Int} {k : Value} {n : Nat} :
    (putL (Str.ofString "_root_done") h k (.bool b) (wdict P tk q dl nsd ns pm ps pend seen done t0), putN (Str.ofString "_root_done") (wdict P tk q dl nsd ns pm ps pend seen done t0) n) = (wdict P tk q dl nsd ns pm ps pend seen b t0, n) := by rfl
theorem get_ig {P : Params} {tk : Nat → Tok} {q dl nsd ns pm ps pend : Value} {seen done : Bool} {t0 : XW} : (getL (Str.ofString "_ignored_depth") (wdict P tk q dl nsd ns pm ps pend seen done t0)).isSome = true := by rfl
theorem put_ig {P : Params} {tk : Nat → Tok} {q dl nsd ns pm ps pend : Value} {seen done : Bool} {t0 : XW} {h : Int} {k : Value} {n : Nat} {i : Int} {t : Tok} :
    (putL (Str.ofString "_ignored_depth") h k (.int i t) (wdict P tk q dl nsd ns pm ps pend seen done t0), putN (Str.ofString "_ignored_depth") (wdict P tk q dl nsd ns pm ps pend seen done t0) n) = (wdict P tk q dl nsd ns pm ps pend seen done { t0 with ig := i, t := t }, n) := by rfl
theorem mkAB {a b : Addr × Obj} {r r' : List (Addr × Obj)} {P : Addr × Obj → Prop} (h : ∀ p ∈ a :: b :: r, P p) (h' : ∀ p ∈ r', P p) : ∀ p ∈ a :: b :: r', P p := fun p hp => by
  rcases List.mem_cons.mp hp with rfl | hp
  · exact h _ (.head _)
  · rcases List.mem_cons.mp hp with rfl | hp
    · exact h _ (.tail _ (.head _))
    · exact h' p hp
noncomputable def NsOk (nsds : List Value) (rest : List (Addr × Obj)) : Prop :=
  ∃ (n0 n2 tp : Nat) (t1 t2 : Tok), nsds[0]? = some (.ref n0) ∧ (n0, listOf #[.ref tp] n2) ∈ rest ∧ (tp, tupOf [.str (Str.ofString "http://www.w3.org/XML/1998/namespace") t1, .str (Str.ofString "xml") t2]) ∈ rest ∧
    ∀ (k : Nat) (v : Value), 0 < k → nsds[k]? = some v → ∃ e n, v = .ref e ∧ (e, listOf #[] n) ∈ rest
theorem NsOk.mono {nsds : List Value} {rest rest' : List (Addr × Obj)} (H : NsOk nsds rest) (hs : ∀ p ∈ rest, p ∈ rest') : NsOk nsds rest' := by
  obtain ⟨n0, n2, tp, t1, t2, a, b, c, d⟩ := H
  exact ⟨n0, n2, tp, t1, t2, a, hs _ b, hs _ c, fun k v hk hv => let ⟨e, n, x, y⟩ := d k v hk hv; ⟨e, n, x, hs _ y⟩⟩
theorem NsOk.push {nsds : List Value} {rest : List (Addr × Obj)} {nn n3 : Nat} (H : NsOk nsds rest) (hm : (nn, listOf #[] n3) ∈ rest) : NsOk (nsds ++ [.ref nn]) rest := by
  obtain ⟨n0, n2, tp, t1, t2, a, b, c, d⟩ := H
  refine ⟨n0, n2, tp, t1, t2, ?_, b, c, fun k v hk hv => ?_⟩
  · rw [List.getElem?_append_left]
    · exact a
    · exact (List.getElem?_eq_some_iff.mp a).1
  · by_cases hlt : k < nsds.length
    · rw [List.getElem?_append_left hlt] at hv
      exact d k v hk hv
    · rw [List.getElem?_append_right (by lia)] at hv
      cases hz : k - nsds.length with
      | zero => rw [hz] at hv; simp at hv; exact ⟨nn, n3, hv.symm, hm⟩
      | succ j => rw [hz] at hv; simp at hv
theorem wOff_cons {wd pc dl nsd ns ps l : Nat} {o : Obj} {rest : List (Addr × Obj)} (W : WOff wd pc dl nsd ns ps rest) (a1 : @Ne Nat l 130) (a2 : @Ne Nat l pc) (a3 : @Ne Nat l wd) (a4 : @Ne Nat l dl) (a5 : @Ne Nat l nsd) (a6 : @Ne Nat l ns) (a7 : @Ne Nat l ps) : WOff wd pc dl nsd ns ps ((l, o) :: rest) := by
  obtain ⟨w1, w2, w3, w4, w5, w6, w7⟩ := W
  exact ⟨List.forall_mem_cons.mpr ⟨a1, w1⟩, List.forall_mem_cons.mpr ⟨a2, w2⟩, List.forall_mem_cons.mpr ⟨a3, w3⟩, List.forall_mem_cons.mpr ⟨a4, w4⟩, List.forall_mem_cons.mpr ⟨a5, w5⟩, List.forall_mem_cons.mpr ⟨a6, w6⟩, List.forall_mem_cons.mpr ⟨a7, w7⟩⟩
theorem mid_mem {α : Type} {a p : α} (l : List α) {r : List α} (h : p ∈ l ++ a :: r) : p ∈ a :: (l ++ r) := List.perm_middle.mem_iff.mp h
theorem news_behind {h₀ h : Heap} {L : Addr} {a c1 c2 c3 c4 c5 c6 c7 c8 c9 : Addr × Obj} {rest : List (Addr × Obj)} (N : News h₀ L h (a :: c1 :: c2 :: c3 :: c4 :: c5 :: c6 :: c7 :: c8 :: c9 :: rest)) : News h₀ L h (c1 :: c2 :: c3 :: c4 :: c5 :: c6 :: c7 :: c8 :: c9 :: a :: rest) := fun p hp => N p (mid_mem [c1, c2, c3, c4, c5, c6, c7, c8, c9] hp)
theorem push_list {l : List Value} {x : Value} : l.toArray.push x = (l ++ [x]).toArray := by simp
theorem app_two {l : List Value} {x y : Value} : l ++ [x, y] = l ++ [x] ++ [y] := by simp
end
section
open PySem PySem.Calls PyProof.Rows PySem.W PySem.Spec PyProof.Rows.LCg
noncomputable abbrev Gens := Array GenState
noncomputable def ItObj (o : Obj) : Prop := ∃ vs i t, o.data = .fields vs ∧ vs[1]? = some (.int i t)
theorem ItObj.no {o : Obj} (h : ItObj o) : ∃ vs, o.data = .fields vs ∧ ∀ q t, vs[1]? ≠ some (.str q t) := by
  obtain ⟨vs, i, t, e, h⟩ := h
  exact ⟨vs, e, fun q t' e' => by rw [h] at e'; cases e'⟩
noncomputable abbrev stG (s : Shared) (h : Heap) (tk : Nat) (g : Gens) (d : Drawn) : Shared := { s with heap := h, toks := tk, gens := g, drawn := d }
inductive CEndJ (h₀ : Heap) (L : Addr) (m : Str → Option Value) (s : Shared) (I : Addr) (oI : Obj) (C : Addr) (oC : Obj) (D : Addr) (ys : List Value) (S : List (Addr × Obj) → Prop) (J : List Value → List (Addr × Obj) → Gens → Prop) (y : Value) : Shared → Prop
  | mk (h' : Heap) (tk' : Nat) (g' : Gens) (d' : Drawn) (news' : List (Addr × Obj)) (F : Fr h₀ L h' m) (N : News h₀ L h' ((I, oI) :: (C, oC) :: (D, lst ys) :: news')) (off : Off3 I C D news') (hS : S news') (hJ : J (ys ++ [y]) news' g') : CEndJ h₀ L m s I oI C oC D ys S J y (stG s h' tk' g' d')
noncomputable def EltJ (prog : Program) (w : World) (A : Around) (h₀ : Heap) (L : Addr) (m : Str → Option Value) (env : Env) (elt : Expr) (x : Str) (scope : Scope) (cl : List (Str × Addr)) (s : Shared) (S : List (Addr × Obj) → Prop) (P : Nat → Value → Prop) (n : Nat) (J : Nat → List Value → List (Addr × Obj) → Gens → Prop) : Prop :=
  ∀ i v I oI C oC D m₂ h tk g d ys news (E' : Value → Shared → Prop), i < n → P i v → J i ys news g → S news → NsObj oC m₂ → m₂ x = some v → Fr h₀ L h m → News h₀ L h ((I, oI) :: (C, oC) :: (D, lst ys) :: news) → Off3 I C D news → ((@Ne Nat I C) ∧ (@Ne Nat I D) ∧ (@Ne Nat C D)) → ItObj oI →
    wpAny (model prog w) A (eval elt (compEnvC scope cl C env)) (CEndJ h₀ L m s I oI C oC D ys S (J (i + 1))) E' (stG s h tk g d)
inductive CompI (h₀ : Heap) (L : Addr) (m : Str → Option Value) (s : Shared) (I C D : Addr) (n : Nat) (St : Nat → Heap → Prop) (S : List (Addr × Obj) → Prop) (J : Nat → List Value → List (Addr × Obj) → Gens → Prop) (b : Bool) (k : Nat) : Shared → Prop
  | mk (h' : Heap) (tk : Nat) (g : Gens) (d : Drawn) (i : Nat) (ys : List Value) (m' : Str → Option Value) (news' : List (Addr × Obj)) (hi : i ≤ n) (hk : k = n + 1 - i) (hyl : b = true → ys.length ≤ i) (hst : St i h') (F : Fr h₀ L h' m) (hn : h'.Ns C m') (N : News h₀ L h' ((D, lst ys) :: news')) (off : Off3 I C D news') (hS : S news') (hJ : J i ys news' g) : CompI h₀ L m s I C D n St S J b k (stG s h' tk g d)
inductive ForI (h₀ : Heap) (L : Addr) (s : Shared) (I : Addr) (n : Nat) (St : Nat → Heap → Prop) (S : List (Addr × Obj) → Prop) (J : Nat → (Str → Option Value) → List (Addr × Obj) → Gens → Prop) (k : Nat) : Shared → Prop
  | mk (h' : Heap) (tk : Nat) (g : Gens) (d : Drawn) (i : Nat) (m' : Str → Option Value) (news' : List (Addr × Obj)) (hi : i ≤ n) (hk : k = n + 1 - i) (hst : St i h') (F : Fr h₀ L h' m') (N : News h₀ L h' news') (off : ∀ p ∈ news', p.1 ≠ I) (hS : S news') (hJ : J i m' news' g) : ForI h₀ L s I n St S J k (stG s h' tk g d)
theorem it_list {o : Obj} {a : Value} {i : Int} {t : Tok} (h : o.data = .fields #[a, .int i t]) : ItObj o := ⟨_, _, _, h, rfl⟩
theorem it_range {a c : Value} {i : Int} {t : Tok} {cl : Value} {x y} : ItObj { cls := cl, dict := x, data := .fields #[a, .int i t, c], slots := y } := ⟨_, _, _, rfl, rfl⟩
inductive SkipJ (h₀ : Heap) (L : Addr) (m : Str → Option Value) (s : Shared) (I : Addr) (oI : Obj) (C : Addr) (oC : Obj) (D : Addr) (ys : List Value) (S : List (Addr × Obj) → Prop) (J : List Value → List (Addr × Obj) → Gens → Prop) : Shared → Prop
  | mk (h' : Heap) (tk' : Nat) (g' : Gens) (d' : Drawn) (news' : List (Addr × Obj)) (F : Fr h₀ L h' m) (N : News h₀ L h' ((I, oI) :: (C, oC) :: (D, lst ys) :: news')) (off : Off3 I C D news') (hS : S news') (hJ : J ys news' g') : SkipJ h₀ L m s I oI C oC D ys S J (stG s h' tk' g' d')
noncomputable def EltT (prog : Program) (w : World) (A : Around) (h₀ : Heap) (L : Addr) (m : Str → Option Value) (env : Env) (elt : Expr) (ifs : List Expr) (x : Str) (scope : Scope) (cl : List (Str × Addr)) (s : Shared) (S : List (Addr × Obj) → Prop) (P : Nat → Value → Prop) (n : Nat) (J : Nat → List Value → List (Addr × Obj) → Gens → Prop) : Prop :=
  ∀ i v I oI C oC D m₂ h tk g d ys news (E' : Value → Shared → Prop), i < n → P i v → J i ys news g → S news → NsObj oC m₂ → m₂ x = some v → Fr h₀ L h m → News h₀ L h ((I, oI) :: (C, oC) :: (D, lst ys) :: news) → Off3 I C D news → ((@Ne Nat I C) ∧ (@Ne Nat I D) ∧ (@Ne Nat C D)) → ItObj oI →
    wpAny (model prog w) A (forIn ifs true fun c r => if r = true then do let ok ← isTrue c (compEnvC scope cl C env) (eval c (compEnvC scope cl C env)); pure (ForInStep.yield ok) else pure (ForInStep.yield r)) (fun ok s₃ => if ok = true then wpAny (model prog w) A (eval elt (compEnvC scope cl C env)) (CEndJ h₀ L m s I oI C oC D ys S (J (i + 1))) E' s₃ else SkipJ h₀ L m s I oI C oC D ys S (J (i + 1)) s₃) E' (stG s h tk g d)
section
variable {prog : Program} {w : World} {A : Around} {E : Value → Shared → Prop} {s : Shared} {h₀ : Heap} {L : Addr} {m : Str → Option Value} {env : Env}
theorem lblockT {elt iter : Expr} {ifs : List Expr} {x : Str} {px : Pos} {scope : Scope} {cl : List (Str × Addr)} {pos : Pos} {s₂ : Shared} {I : Addr} {fp : List Addr} {n : Nat} {P : Nat → Value → Prop} {St : Nat → Heap → Prop} {S : List (Addr × Obj) → Prop} {news : List (Addr × Obj)}
    {J : Nat → List Value → List (Addr × Obj) → Gens → Prop} {RR : Value → Addr → Result → Shared → Prop}
    (W : Walks prog w A I fp [I] n P St) (hsz : n ≤ sizeLine) (hIo : ∀ i h, St i h → ∃ o, h.get? I = some o ∧ ItObj o)
    (hSt : ∀ i h h' o nw, St i h → h.get? I = some o → h'.get? I = some o → (∀ b o, h₀.get? b = some o → h'.get? b = some o) → News h₀ L h' nw → S nw → St i h')
    (hcell : ∀ y ∈ scope.names, y.2 ≠ .cell) (hkind : scope.kind = .function) (hx : scope.names.lookup x = some .local) (hst : St 0 s₂.heap) (hfp : ∀ b ∈ fp, b < s₂.heap.objs.size)
    (F : Fr h₀ L s₂.heap m) (N : News h₀ L s₂.heap news) (hIL : L ≠ I) (hI₀ : h₀.get? I = none) (off : ∀ p ∈ news, p.1 ≠ I) (hS : S news) (hs : ∃ h, s₂ = { s with heap := h })
    (hJ : J 0 [] news s.gens) (R : EltT prog w A h₀ L m env elt ifs x scope cl s S P n J)
    (hRR : ∀ D C h tk g d m' ys news', J n ys news' g → Fr h₀ L h m → News h₀ L h ((D, lst ys) :: news') → Off1 D news' → h.Ns C m' → h₀.get? C = none → h₀.get? D = none → C ≠ L → D ≠ L → C ≠ D → (∀ p ∈ news', p.1 ≠ C) → (∀ q ∈ news, q.1 < D) → RR (.ref D) C (.ok .next) (stG s h tk g d)) :
    wpAny (model prog w) A (newList []) (fun acc s₃ => wpAny (model prog w) A (newFunctionEnv scope env.globals cl [] env.qual none .none (some env)) (fun cenv s₄ =>
      codeAny (model prog w) A (.compStart (.ListComp elt [⟨.Name x px, iter, ifs, 0⟩] scope pos) 0 (.ref I) acc { cenv with scope := relabel scope env }) (RR acc cenv.locals) s₄) E s₃) E s₂ := by
  obtain ⟨hp, rfl⟩ := hs
  dsimp only at hst hfp F N ⊢
  refine wpAny_newObj_type (wpAny_newFunctionEnv hcell (by intro y hy; simp at hy) (fun h₁ hns₁ hsb₁ => ?_) hkind)
  dsimp only at hns₁ hsb₁ ⊢
  generalize hH2 : hp.push { cls := .type "list", dict := none, data := .seq ([] : List Value).toArray } = H2 at hns₁ hsb₁ ⊢
  have hC : H2.objs.size = hp.objs.size + 1 := by rw [← hH2, Heap.size_push]
  have hDC : hp.objs.size ≠ H2.objs.size := by rw [hC]; exact Nat.ne_of_lt (Nat.lt_succ_self _)
  have below : ∀ b, b < hp.objs.size → b ≠ H2.objs.size ∧ b ≠ hp.objs.size := fun b hb => ⟨by rw [hC]; exact Nat.ne_of_lt (Nat.lt_succ_of_lt hb), Nat.ne_of_lt hb⟩
  have hDf : hp.objs.size ∉ fp := fun hm => Nat.lt_irrefl _ (hfp _ hm)
  have hCf : H2.objs.size ∉ fp := fun hm => by have := hfp _ hm; rw [hC] at this; exact Nat.lt_irrefl _ (Nat.lt_of_succ_lt this)
  have hIlt : I < hp.objs.size := hfp I (W.sub I (List.mem_singleton.mpr rfl))
  have old : ∀ b o, hp.get? b = some o → h₁.get? b = some o := fun b o e => hsb₁.extBut b o (below b (Heap.lt_size e)).1 (Heap.get?_push_of_some _ (hH2 ▸ Heap.get?_push_of_some _ e))
  have hacc : h₁.get? hp.objs.size = some (lst []) := hsb₁.extBut _ _ hDC (Heap.get?_push_of_some _ (hH2 ▸ Heap.get?_push_size _ rfl))
  have hst₁ : St 0 h₁ := W.frame _ _ _ hst fun b _ o e => old b o e
  have hD0 := kdx_fresh F (Nat.le_refl hp.objs.size)
  have hC0 := kdx_fresh F (x := H2.objs.size) (by rw [hC]; exact Nat.le_succ _)
  obtain ⟨hDL, hD₀⟩ := hD0
  obtain ⟨hCL, hC₀⟩ := hC0
  have hCI : I ≠ H2.objs.size := (below I hIlt).1
  have hDI : I ≠ hp.objs.size := (below I hIlt).2
  have off₀ : Off3 I H2.objs.size hp.objs.size news := Off3.of fun p hq => ⟨off p hq, (below _ (Heap.lt_size (N p hq).1)).1, (below _ (Heap.lt_size (N p hq).1)).2⟩
  have loop : ∀ tk0, codeAny (model prog w) A (.compLoop (.ListComp elt [⟨.Name x px, iter, ifs, 0⟩] scope pos) 0 (.ref I) (.ref hp.objs.size) (compEnvC scope cl H2.objs.size env)) (RR (.ref hp.objs.size) H2.objs.size) { s with heap := h₁, toks := tk0 } := by
    intro tk0
    refine codeAny_compLoop_tests
      (CompI h₀ L m s I H2.objs.size hp.objs.size n St S J true) ?_ (n + 1)
      (CompI.mk h₁ _ _ _ 0 [] _ news (Nat.zero_le _) rfl (fun _ => Nat.le_refl _) hst₁ (F.keeps old) hns₁ (fun p hq => ?_) off₀ hS hJ)
    · rintro k s' ⟨h', tk, g, d, i, ys, m', news', hi, hkk, hyl, hst', F', hn', N', off', hS', R'⟩
      replace hyl := hyl rfl
      have off3 := off'.mem
      have hDn : ∀ p ∈ (hp.objs.size, lst ys) :: news', p.1 ≠ I := fun p hq => by
        rcases List.mem_cons.mp hq with rfl | hq
        · exact Ne.symm hDI
        · exact (off3 p hq).1
      by_cases hlt : i < n
      · refine W.item i _ _ _ hlt hst' fun v h₂ tk₂ hPv hst₂ hk₂ => ?_
        refine wpAny_assign_Name (wpAny_storeName_local (lookup_relabel_local hx) (hn'.at' fun o e => hk₂ _ o (by simpa using Ne.symm hCI) e) (fun h₃ hn₃ hs₃ => ?_) (by simp [compEnvC, relabel, hkind]))
        have hst₃ : St (i + 1) h₃ := W.frame _ _ _ hst₂ fun b hb o e => hs₃.extBut b o (fun q => hCf (by have q' : b = H2.objs.size := q; rw [← q']; exact hb)) e
        obtain ⟨oI, heI, hoI⟩ := hIo _ _ hst₃
        obtain ⟨oC, heC, hoC⟩ := ns_obj hn₃
        have F₃ : Fr h₀ L h₃ m := (fr_but F' hk₂ hIL hI₀).change hs₃ hCL hC₀
        have N₂ := news_but N' hk₂ hDn
        have N₃ : News h₀ L h₃ ((I, oI) :: (H2.objs.size, oC) :: (hp.objs.size, lst ys) :: news') := fun p hq => by
          rcases List.mem_cons.mp hq with rfl | hq
          · exact ⟨heI, Ne.symm hIL, hI₀⟩
          · rcases List.mem_cons.mp hq with rfl | hq
            · exact ⟨heC, hCL, hC₀⟩
            · have z := N₂ p hq
              refine ⟨hs₃.extBut _ _ ?_ z.1, z.2⟩
              rcases List.mem_cons.mp hq with rfl | hq
              · exact hDC
              · exact (off3 p hq).2.1
        refine wpAny_mono (R i v I oI H2.objs.size oC hp.objs.size _ h₃ _ _ _ _ _ _ hlt hPv R' hS' hoC (by simp) F₃ N₃ off' ⟨hCI, hDI, Ne.symm hDC⟩ hoI) (fun ok s₃ hok => ?_) fun _ _ e => e
        cases ok with
        | false =>
          rw [if_neg Bool.false_ne_true] at hok ⊢
          obtain ⟨h₄, tk₄, g₄, d₄, news₄, F₄, N₄, off₄, hS₄, R₄⟩ := hok
          have zI := (N₄ _ (.head _)).1
          have zC := (N₄ _ (.tail _ (.head _))).1
          have N₄' : News h₀ L h₄ news₄ := fun p hq => N₄ p (.tail _ (.tail _ (.tail _ hq)))
          have hst₄ : St (i + 1) h₄ := hSt _ _ _ _ _ hst₃ heI zI F₄.keep N₄' hS₄
          exact ⟨n + 1 - (i + 1), dec_lt hlt hkk, h₄, tk₄, g₄, d₄, i + 1, ys, _, news₄, hlt, rfl, (fun _ => Nat.le_succ_of_le hyl), hst₄, F₄, hoC.ns zC, fun p hq => N₄ p (.tail _ (.tail _ hq)), off₄, hS₄, R₄⟩
        | true =>
          rw [if_pos rfl] at hok ⊢
          refine wpAny_mono hok (fun y s₄ h₄ => ?_) fun _ _ e => e
          obtain ⟨h₄, tk₄, g₄, d₄, news₄, F₄, N₄, off₄, hS₄, R₄⟩ := h₄
          have zI := (N₄ _ (.head _)).1
          have zC := (N₄ _ (.tail _ (.head _))).1
          have zD := (N₄ _ (.tail _ (.tail _ (.head _)))).1
          have N₄' : News h₀ L h₄ news₄ := fun p hq => N₄ p (.tail _ (.tail _ (.tail _ hq)))
          have hst₄ : St (i + 1) h₄ := hSt _ _ _ _ _ hst₃ heI zI F₄.keep N₄' hS₄
          refine append_at (hsz := by show ys.toArray.size ≤ sizeLine; rw [List.size_toArray]; exact Nat.le_trans hyl (Nat.le_trans hi hsz)) zD fun h₅ hs₅ hD₅ => ?_
          have off4 := off₄.mem
          refine ⟨n + 1 - (i + 1), dec_lt hlt hkk, h₅, tk₄, g₄, d₄, i + 1, ys ++ [y], _, news₄, hlt, rfl, (fun _ => by rw [List.length_append, List.length_singleton]; exact Nat.succ_le_succ hyl), W.frame _ _ _ hst₄ fun b hb o e => hs₅.extBut b o (fun q => hDf (q ▸ hb)) e, F₄.change hs₅ hDL hD₀,
            (hoC.ns zC).sameBut hs₅ (Ne.symm hDC), fun p hq => ?_, off₄, hS₄, R₄⟩
          rcases List.mem_cons.mp hq with rfl | hq
          · exact ⟨hD₅.trans (congrArg some (lst_snoc ys y)), hDL, hD₀⟩
          · exact ⟨hs₅.extBut _ _ (off4 p hq).2.2 (N₄' p hq).1, (N₄' p hq).2⟩
      · obtain rfl : i = n := Nat.le_antisymm hi (Nat.not_lt.mp hlt)
        refine W.done _ _ _ hst' fun h₂ tk₂ hk₂ => ?_
        exact hRR _ _ h₂ tk₂ g d _ ys news' R' (fr_but F' hk₂ hIL hI₀) (news_but N' hk₂ hDn) off'.one (hn'.at' fun o e => hk₂ _ o (by simpa using Ne.symm hCI) e) hC₀ hD₀ hCL hDL (Ne.symm hDC) (fun p hq => (off3 p hq).2.1) (fun q hq => Heap.lt_size (N q hq).1)
    · rcases List.mem_cons.mp hq with rfl | hq
      · exact ⟨hacc, hDL, hD₀⟩
      · exact ⟨old _ _ (N p hq).1, (N p hq).2⟩
  exact codeAny_compStart_list (loop _) (W.self 0 _ _ _ hst₁ (loop _))
theorem elt_nil {elt : Expr} {x : Str} {scope : Scope} {cl : List (Str × Addr)} {S : List (Addr × Obj) → Prop} {P : Nat → Value → Prop} {n : Nat} {J : Nat → List Value → List (Addr × Obj) → Gens → Prop} (R : EltJ prog w A h₀ L m env elt x scope cl s S P n J) : EltT prog w A h₀ L m env elt [] x scope cl s S P n J :=
  fun i v I oI C oC D m₂ h tk g d ys news E' a1 a2 a3 a4 a5 a6 a7 a8 a9 b1 b2 => wpAny_tests_nil (by rw [if_pos rfl]; exact R i v I oI C oC D m₂ h tk g d ys news E' a1 a2 a3 a4 a5 a6 a7 a8 a9 b1 b2)
inductive GoJ (prog : Program) (w : World) (A : Around) (h₀ : Heap) (L : Addr) (m : Str → Option Value) (env : Env) (elt : Expr) (x : Str) (scope : Scope) (cl : List (Str × Addr)) (Fin : List (Addr × Obj) → List Value → List (Addr × Obj) → Gens → Shared → Prop) (n : Nat) (P : Nat → Value → Prop) (S : List (Addr × Obj) → Prop) (news : List (Addr × Obj)) (s₁ : Shared) : Prop
  | mk (J : Nat → List Value → List (Addr × Obj) → Gens → Prop) (j0 : J 0 [] news s₁.gens) (R : EltJ prog w A h₀ L m env elt x scope cl s₁ S P n J) (fin : ∀ ys nw g, J n ys nw g → Fin news ys nw g s₁) : GoJ prog w A h₀ L m env elt x scope cl Fin n P S news s₁
inductive SrcJL (prog : Program) (w : World) (A : Around) (h₀ : Heap) (L : Addr) (m : Str → Option Value) (env : Env) (elt : Expr) (x : Str) (scope : Scope) (cl : List (Str × Addr)) (Fin : List (Addr × Obj) → List Value → List (Addr × Obj) → Gens → Shared → Prop) : Value → Shared → Prop
  | mk {s₁ : Shared} (ax : Addr) (its : Array Value) (k : Nat) (news : List (Addr × Obj)) (hh : A.handled = none) (F : Fr h₀ L s₁.heap m) (N : News h₀ L s₁.heap news) (hm : (ax, listOf its k) ∈ news) (hsz : its.size ≤ sizeLine) (G : GoJ prog w A h₀ L m env elt x scope cl Fin its.size (fun i v => its[i]? = some v) (SrcAt h₀ ax its) news s₁) : SrcJL prog w A h₀ L m env elt x scope cl Fin (.ref ax) s₁
inductive SrcJR (prog : Program) (w : World) (A : Around) (h₀ : Heap) (L : Addr) (m : Str → Option Value) (env : Env) (elt : Expr) (x : Str) (scope : Scope) (cl : List (Str × Addr)) (Fin : List (Addr × Obj) → List Value → List (Addr × Obj) → Gens → Shared → Prop) : Value → Shared → Prop
  | mk {s₁ : Shared} (r : Addr) (a b : Int) (t u v : Tok) (n : Nat) (news : List (Addr × Obj)) (hh : A.handled = none) (F : Fr h₀ L s₁.heap m) (N : News h₀ L s₁.heap news) (hr : IsRange s₁.heap r a b 1 t u v) (hsm : Builtin.Range.small a b 1 = true) (hn : Builtin.Range.rangeSize a b 1 = ((n : Nat) : Int)) (hsz : n ≤ sizeLine)
    (G : GoJ prog w A h₀ L m env elt x scope cl Fin n (fun i v => ∃ t, v = .int (a + (i : Int)) t) (fun _ => True) news s₁) : SrcJR prog w A h₀ L m env elt x scope cl Fin (.ref r) s₁
noncomputable def SrcJ (prog : Program) (w : World) (A : Around) (h₀ : Heap) (L : Addr) (m : Str → Option Value) (env : Env) (elt : Expr) (x : Str) (scope : Scope) (cl : List (Str × Addr)) (Fin : List (Addr × Obj) → List Value → List (Addr × Obj) → Gens → Shared → Prop) (xv : Value) (s₁ : Shared) : Prop :=
  SrcJL prog w A h₀ L m env elt x scope cl Fin xv s₁ ∨ SrcJR prog w A h₀ L m env elt x scope cl Fin xv s₁
noncomputable def FinEJ (h₀ : Heap) (L : Addr) (m : Str → Option Value) (Q : Value → Shared → Prop) (base : List (Addr × Obj)) (ys : List Value) (news : List (Addr × Obj)) (g : Gens) (s : Shared) : Prop :=
  ∀ D h tk d, (∀ q ∈ base, q.1 < D) → Fr h₀ L h m → News h₀ L h ((D, lst ys) :: news) → Off1 D news → Q (.ref D) (stG s h tk g d)
noncomputable def FinAJ (h₀ : Heap) (L : Addr) (m : Str → Option Value) (y : Str) (Q : Flow → Shared → Prop) (base : List (Addr × Obj)) (ys : List Value) (news : List (Addr × Obj)) (g : Gens) (s : Shared) : Prop :=
  ∀ D h tk d, (∀ q ∈ base, q.1 < D) → Fr h₀ L h (fun z => if z = y then some (.ref D) else m z) → News h₀ L h ((D, lst ys) :: news) → Off1 D news → Q .next (stG s h tk g d)

theorem lsrc {elt iter : Expr} {x : Str} {px : Pos} {scope : Scope} {cl : List (Str × Addr)} {pos : Pos} {RR : Value → Addr → Result → Shared → Prop} {Fin : List (Addr × Obj) → List Value → List (Addr × Obj) → Gens → Shared → Prop} {xv : Value} {s₁ : Shared}
    (hcell : ∀ y ∈ scope.names, y.2 ≠ .cell) (hkind : scope.kind = .function) (hx : scope.names.lookup x = some .local)
    (h : SrcJ prog w A h₀ L m env elt x scope cl Fin xv s₁)
    (hRR : ∀ base D C h tk g d m' ys news', Fin base ys news' g s₁ → Fr h₀ L h m → News h₀ L h ((D, lst ys) :: news') → Off1 D news' → h.Ns C m' → h₀.get? C = none → h₀.get? D = none → C ≠ L → D ≠ L → C ≠ D → (∀ p ∈ news', p.1 ≠ C) → (∀ q ∈ base, q.1 < D) → RR (.ref D) C (.ok .next) (stG s₁ h tk g d)) :
    wpAny (model prog w) A (pyIter xv) (fun it s₂ => wpAny (model prog w) A (newList []) (fun acc s₃ => wpAny (model prog w) A (newFunctionEnv scope env.globals cl [] env.qual none .none (some env)) (fun cenv s₄ =>
      codeAny (model prog w) A (.compStart (.ListComp elt [⟨.Name x px, iter, [], 0⟩] scope pos) 0 it acc { cenv with scope := relabel scope env }) (RR acc cenv.locals) s₄) E s₃) E s₂) E s₁ := by
  rcases h with ⟨ax, its, k, news, hh, F, N, hm, hsz, J, j0, R, fin⟩ | ⟨r, a, b, t, u, v, n, news, hh, F, N, hr, hsm, hn, hsz, J, j0, R, fin⟩
  · have hl : s₁.heap.IsList ax its := listOf_isList (N.get hm)
    have hlt : ax < s₁.heap.objs.size := Heap.lt_size (N.get hm)
    refine wpAny_pyIter_list hl ?_
    have up : ∀ b o, s₁.heap.get? b = some o → (s₁.heap.push { cls := .type "list_iterator", data := .fields #[.ref ax, .int 0 0] }).get? b = some o := fun b o e => Heap.get?_push_of_some _ e
    refine lblockT (ifs := []) (Walks.list hh s₁.heap.objs.size ax (Nat.ne_of_lt hlt) its) hsz (fun i h st => by obtain ⟨o, e, _, d⟩ := st.1; exact ⟨o, e, it_list d⟩) list_st hcell hkind hx ⟨⟨_, Heap.get?_push_size _ rfl, rfl, rfl⟩, hl.push _⟩ (fun b hb => ?_)
      (F.keeps up) (N.grown up) (Nat.ne_of_lt F.ns.lt) (next_is_new F) (fun p hp => Nat.ne_of_lt (Heap.lt_size (N p hp).1)) (.inr ⟨_, hm, rfl, _, rfl⟩) ⟨_, rfl⟩ j0 (elt_nil R) fun D C h tk g d m' ys news' hJ => hRR _ D C h tk g d m' ys news' (fin _ _ _ hJ)
    show b < (s₁.heap.push _).objs.size
    rw [Heap.size_push]
    rcases List.mem_cons.mp hb with rfl | hb
    · exact Nat.lt_succ_self _
    · rw [List.mem_singleton.mp hb]; exact Nat.lt_succ_of_lt hlt
  · refine wpAny_pyIter_range hr hsm ?_
    refine lblockT (ifs := []) (range_walks hh a n) hsz (fun i h st => ⟨_, st, it_range⟩) range_st hcell hkind hx (by show IsRangeIter _ _ _ _ _; rw [hn]; simpa using Heap.get?_push_size _ rfl) (fun b hb => ?_)
      (F.keeps fun _ _ e => Heap.get?_push_of_some _ e) (N.grown fun _ _ e => Heap.get?_push_of_some _ e) (Nat.ne_of_lt F.ns.lt) (next_is_new F) (fun p hp => Nat.ne_of_lt (Heap.lt_size (N p hp).1)) trivial ⟨_, rfl⟩ j0 (elt_nil R) fun D C h tk g d m' ys news' hJ => hRR _ D C h tk g d m' ys news' (fin _ _ _ hJ)
    rw [List.mem_singleton.mp hb]
    show s₁.heap.objs.size < (s₁.heap.push _).objs.size
    rw [Heap.size_push]; exact Nat.lt_succ_self _
theorem Assign_ListComp_J {elt iter : Expr} {x y : Str} {px py : Pos} {scope : Scope} {cl : List (Str × Addr)} {pos spos : Pos} {Q : Flow → Shared → Prop} (_F₀ : Fr h₀ L s.heap m) (hLe : env.locals = L)
    (hsw : swapsWith (.ListComp elt [⟨.Name x px, iter, [], 0⟩] scope pos) (some (.Name y py)) spos.line env = pure true)
    (hclos : closureFor scope env = pure cl) (hcell : ∀ z ∈ scope.names, z.2 ≠ .cell) (hkind : scope.kind = .function)
    (hnames : ∀ z ∈ scope.names, z.2 = .local → scope.names.lookup z.1 = some .local) (hx : scope.names.lookup x = some .local)
    (hy : env.kindOf y = some .local) (hp : (env.scope.kind == .class || (env.scope.kind == .module && env.locals != env.globals)) = false)
    (h : wpAny (model prog w) A (eval iter env) (SrcJ prog w A h₀ L m env elt x scope cl (FinAJ h₀ L m y Q)) E s)
    (hs : ∀ x, foldedSetIterable iter env x = pure x := by intro _; rfl) :
    wpAny (model prog w) A (exec (.Assign [.Name y py] (.ListComp elt [⟨.Name x px, iter, [], 0⟩] scope pos) spos) env) Q E s := by
  subst hLe
  rw [exec_Assign_Name_used _ _ _ _ hsw]
  refine wpAny_bind (wpAny_standAt (wpAny_bind ?_))
  show wpAny _ A (do let _ ← comprehension (.ListComp elt [⟨.Name x px, iter, [], 0⟩] scope pos) scope env _ (newList []) false (eval iter env) (some (assign (.Name y py) env))) _ _ s
  refine wpAny_bind (wpAny_mono (wpAny_comprehension_free (use := some (assign (.Name y py) env)) (Q := fun _ s' => Q .next s') rfl hs hclos hkind hnames
    (wpAny_mono h (fun xv s₁ h₁ => ?_) fun _ _ e => e)) (fun _ s' hq => wpAny_pure (wpAny_pure hq)) fun _ _ e => e)
  refine lsrc hcell hkind hx h₁ fun base D C h' tk g d m' ys news' fin F' N' o1 hn hC₀ hD₀ hCL hDL hCD offC hbs => ?_
  show wpAny _ A (assign (.Name y py) env (.ref D)) _ _ _
  refine wpAny_assign_Name (wpAny_storeName_local hy F'.ns (fun h₂ hn₂ hs₂ => ?_) hp)
  have hL₀ : h₀.get? env.locals = none := Heap.get?_none_of_le F'.above
  have F₂ : Fr h₀ env.locals h₂ (fun z => if z = y then some (.ref D) else m z) := ⟨hn₂, fun b o e => hs₂.extBut b o (fun q => by rw [q, hL₀] at e; cases e) (F'.keep b o e), F'.above⟩
  refine ⟨m', hn.sameBut hs₂ hCL, fun h'' hs'' => fin D h'' _ d hbs (F₂.change hs'' hCL hC₀) (fun p hp => ?_) o1⟩
  have z : h₂.get? p.1 = some p.2 := hs₂.extBut _ _ (N' p hp).2.1 (N' p hp).1
  refine ⟨hs''.extBut _ _ ?_ z, (N' p hp).2⟩
  rcases List.mem_cons.mp hp with rfl | hp
  · exact Ne.symm hCD
  · exact offC p hp

inductive ForEndJ (h₀ : Heap) (L : Addr) (s : Shared) (I : Addr) (oI : Obj) (S : List (Addr × Obj) → Prop) (J : (Str → Option Value) → List (Addr × Obj) → Gens → Prop) : Shared → Prop
  | mk (h' : Heap) (tk' : Nat) (g' : Gens) (d' : Drawn) (m' : Str → Option Value) (news' : List (Addr × Obj)) (F : Fr h₀ L h' m') (N : News h₀ L h' ((I, oI) :: news')) (off : Off1 I news') (hS : S news') (hJ : J m' news' g') : ForEndJ h₀ L s I oI S J (stG s h' tk' g' d')
noncomputable def ForTurn (h₀ : Heap) (L : Addr) (s : Shared) (I : Addr) (oI : Obj) (S : List (Addr × Obj) → Prop) (J : (Str → Option Value) → List (Addr × Obj) → Gens → Prop) (Q : Flow → Shared → Prop) (f : Flow) (s₂ : Shared) : Prop :=
  match f with
  | .ret v => Q (.ret v) s₂
  | .brk => False
  | _ => ForEndJ h₀ L s I oI S J s₂
inductive GoF (prog : Program) (w : World) (A : Around) (h₀ : Heap) (L : Addr) (m : Str → Option Value) (env : Env) (x : Str) (body : List Stmt) (Q : Flow → Shared → Prop) (E : Value → Shared → Prop) (n : Nat) (P : Nat → Value → Prop) (S : List (Addr × Obj) → Prop) (news : List (Addr × Obj)) (s : Shared) : Prop
  | mk (J : Nat → (Str → Option Value) → List (Addr × Obj) → Gens → Prop) (j0 : J 0 m news s.gens)
    (turn : ∀ i v I oI m₁ h tk g d nw, i < n → P i v → J i m₁ nw g → S nw → Fr h₀ L h (fun z => if z = x then some v else m₁ z) → News h₀ L h ((I, oI) :: nw) → Off1 I nw → ItObj oI →
      wpAny (model prog w) A (execs body env) (ForTurn h₀ L s I oI S (J (i + 1)) Q) E (stG s h tk g d))
    (done : ∀ m₁ nw h tk g d, J n m₁ nw g → Fr h₀ L h m₁ → News h₀ L h nw → Q .next (stG s h tk g d)) : GoF prog w A h₀ L m env x body Q E n P S news s
theorem fblock {x : Str} {px : Pos} {body : List Stmt} {Q : Flow → Shared → Prop} {I : Addr} {fp : List Addr} {n : Nat} {P : Nat → Value → Prop} {St : Nat → Heap → Prop} {S : List (Addr × Obj) → Prop} {news : List (Addr × Obj)} {hp : Heap}
    (W : Walks prog w A I fp [I] n P St) (hIo : ∀ i h, St i h → ∃ o, h.get? I = some o ∧ ItObj o)
    (hSt : ∀ i h h' o nw, St i h → h.get? I = some o → h'.get? I = some o → (∀ b o, h₀.get? b = some o → h'.get? b = some o) → News h₀ env.locals h' nw → S nw → St i h')
    (hx : env.kindOf x = some .local) (hpk : (env.scope.kind == .class || (env.scope.kind == .module && env.locals != env.globals)) = false) (hst : St 0 hp) (hLf : env.locals ∉ fp)
    (F : Fr h₀ env.locals hp m) (N : News h₀ env.locals hp news) (hI₀ : h₀.get? I = none) (off : ∀ p ∈ news, p.1 ≠ I) (hS : S news)
    (hE : PassesOwn (model prog w) A env E)
    (G : GoF prog w A h₀ env.locals m env x body Q E n P S news s) :
    codeAny (model prog w) A (.forLoop (.Name x px) (.ref I) body [] env) (fun r s' => match r with | .ok f => Q f s' | .error e => cameBackBy (model prog w) A env E e s') { s with heap := hp } := by
  obtain ⟨J, j0, turn, done⟩ := G
  have hIL : env.locals ≠ I := fun e => hLf (e ▸ W.sub I (List.mem_singleton.mpr rfl))
  have hL₀ : h₀.get? env.locals = none := Heap.get?_none_of_le F.above
  have one : ∀ l : List (Addr × Obj), (∀ p ∈ l, p.1 ≠ I) → Off1 I l := by
    intro l
    induction l with
    | nil => intro _; trivial
    | cons p r ih => exact fun h => ⟨h _ (.head _), ih fun q hq => h q (.tail _ hq)⟩
  have mem1 : ∀ l : List (Addr × Obj), Off1 I l → ∀ p ∈ l, p.1 ≠ I := by
    intro l
    induction l with
    | nil => intro _ p hp; cases hp
    | cons p r ih =>
      intro h q hq
      rcases List.mem_cons.mp hq with rfl | hq
      · exact h.1
      · exact ih h.2 q hq
  refine codeAny_forLoop
    (ForI h₀ env.locals s I n St S J) ?_ (n + 1)
    (ForI.mk hp _ _ _ 0 m news (Nat.zero_le _) rfl hst F N off hS j0)
  rintro k s' ⟨h', tk, g, d, i, m', news', hi, hkk, hst', F', N', off', hS', R'⟩
  by_cases hlt : i < n
  · refine W.item i _ _ _ hlt hst' fun v h₂ tk₂ hPv hst₂ hk₂ => ?_
    have F₂ : Fr h₀ env.locals h₂ m' := fr_but F' hk₂ hIL hI₀
    have N₂ : News h₀ env.locals h₂ news' := news_but N' hk₂ off'
    refine wpAny_assign_Name (wpAny_storeName_local hx F₂.ns (fun h₃ hn₃ hs₃ => ?_) hpk)
    have hst₃ : St (i + 1) h₃ := W.frame _ _ _ hst₂ fun b hb o e => hs₃.extBut b o (fun q => hLf (by have q' : b = env.locals := q; rw [← q']; exact hb)) e
    obtain ⟨oI, heI, hoI⟩ := hIo _ _ hst₃
    have F₃ : Fr h₀ env.locals h₃ (fun z => if z = x then some v else m' z) := ⟨hn₃, fun b o e => hs₃.extBut b o (fun q => by rw [q, hL₀] at e; cases e) (F₂.keep b o e), F₂.above⟩
    have N₃ : News h₀ env.locals h₃ ((I, oI) :: news') := fun p hq => by
      rcases List.mem_cons.mp hq with rfl | hq
      · exact ⟨heI, Ne.symm hIL, hI₀⟩
      · exact ⟨hs₃.extBut _ _ (N₂ p hq).2.1 (N₂ p hq).1, (N₂ p hq).2⟩
    refine wpAny_passesOwn hE (wpAny_mono (turn i v I oI m' h₃ _ g d news' hlt hPv R' hS' F₃ N₃ (one _ off') hoI) (fun f s₃ h₄ => ?_) fun _ _ e => e)
    have fin : ForEndJ h₀ env.locals s I oI S (J (i + 1)) s₃ → ∃ m, m < k ∧ ForI h₀ env.locals s I n St S J m s₃ := by
      rintro ⟨h₅, tk₄, g₄, d₄, m₄, news₄, F₄, N₄, off₄, hS₄, R₄⟩
      exact ⟨n + 1 - (i + 1), dec_lt hlt hkk, h₅, tk₄, g₄, d₄, i + 1, m₄, news₄, hlt, rfl, hSt _ _ _ _ _ hst₃ heI (N₄ _ (.head _)).1 F₄.keep (fun p hp => N₄ p (.tail _ hp)) hS₄, F₄, fun p hp => N₄ p (.tail _ hp), mem1 _ off₄, hS₄, R₄⟩
    cases f with
    | ret v => exact h₄
    | brk => exact h₄.elim
    | cont => exact fin h₄
    | next => exact fin h₄
  · obtain rfl : i = n := Nat.le_antisymm hi (Nat.not_lt.mp hlt)
    refine W.done _ _ _ hst' fun h₂ tk₂ hk₂ => wpAny_execs_nil ?_
    exact done _ _ _ _ _ _ R' (fr_but F' hk₂ hIL hI₀) (news_but N' hk₂ off')
inductive SrcFL (prog : Program) (w : World) (A : Around) (h₀ : Heap) (L : Addr) (env : Env) (x : Str) (body : List Stmt) (Q : Flow → Shared → Prop) (E : Value → Shared → Prop) : Value → Shared → Prop
  | mk {s₁ : Shared} (ax : Addr) (its : Array Value) (k : Nat) (news : List (Addr × Obj)) (m : Str → Option Value) (hh : A.handled = none) (F : Fr h₀ L s₁.heap m) (N : News h₀ L s₁.heap news) (hm : (ax, listOf its k) ∈ news) (G : GoF prog w A h₀ L m env x body Q E its.size (fun i v => its[i]? = some v) (SrcAt h₀ ax its) news s₁) : SrcFL prog w A h₀ L env x body Q E (.ref ax) s₁
inductive SrcFR (prog : Program) (w : World) (A : Around) (h₀ : Heap) (L : Addr) (env : Env) (x : Str) (body : List Stmt) (Q : Flow → Shared → Prop) (E : Value → Shared → Prop) : Value → Shared → Prop
  | mk {s₁ : Shared} (r : Addr) (a b : Int) (t u v : Tok) (n : Nat) (news : List (Addr × Obj)) (m : Str → Option Value) (hh : A.handled = none) (F : Fr h₀ L s₁.heap m) (N : News h₀ L s₁.heap news) (hr : IsRange s₁.heap r a b 1 t u v) (hsm : Builtin.Range.small a b 1 = true) (hn : Builtin.Range.rangeSize a b 1 = ((n : Nat) : Int))
    (G : GoF prog w A h₀ L m env x body Q E n (fun i v => ∃ t, v = .int (a + (i : Int)) t) (fun _ => True) news s₁) : SrcFR prog w A h₀ L env x body Q E (.ref r) s₁
noncomputable def SrcF (prog : Program) (w : World) (A : Around) (h₀ : Heap) (L : Addr) (env : Env) (x : Str) (body : List Stmt) (Q : Flow → Shared → Prop) (E : Value → Shared → Prop) (xv : Value) (s₁ : Shared) : Prop :=
  SrcFL prog w A h₀ L env x body Q E xv s₁ ∨ SrcFR prog w A h₀ L env x body Q E xv s₁
theorem For_J {x : Str} {px pos : Pos} {iter : Expr} {body : List Stmt} {Q : Flow → Shared → Prop} (_F₀ : Fr h₀ L s.heap m) (hLe : env.locals = L)
    (hx : env.kindOf x = some .local) (hpk : (env.scope.kind == .class || (env.scope.kind == .module && env.locals != env.globals)) = false)
    (h : wpAny (model prog w) A (eval iter env) (SrcF prog w A h₀ L env x body Q E) E s)
    (hs : ∀ x, foldedSetIterable iter env x = pure x := by intro _; rfl)
    (hE : PassesOwn (model prog w) A env E := by passes_own) :
    wpAny (model prog w) A (exec (.For (.Name x px) iter body [] pos) env) Q E s := by
  subst hLe
  refine wpAny_For (wpAny_mono h (fun xv s₁ h₁ => ?_) fun _ _ e => e) hs
  rcases h₁ with ⟨ax, its, k, news, m, hh, F, N, hm, G⟩ | ⟨r, a, b, t, u, v, n, news, m, hh, F, N, hr, hsm, hn, G⟩
  · have hl : s₁.heap.IsList ax its := listOf_isList (N.get hm)
    have hlt : ax < s₁.heap.objs.size := Heap.lt_size (N.get hm)
    refine wpAny_pyIter_list hl ?_
    have up : ∀ b o, s₁.heap.get? b = some o → (s₁.heap.push { cls := .type "list_iterator", data := .fields #[.ref ax, .int 0 0] }).get? b = some o := fun b o e => Heap.get?_push_of_some _ e
    refine fblock (Walks.list hh s₁.heap.objs.size ax (Nat.ne_of_lt hlt) its) (fun i h st => by obtain ⟨o, e, _, d⟩ := st.1; exact ⟨o, e, it_list d⟩) list_st hx hpk ⟨⟨_, Heap.get?_push_size _ rfl, rfl, rfl⟩, hl.push _⟩ (fun hb => ?_)
      (F.keeps up) (N.grown up) (next_is_new F) (fun p hp => Nat.ne_of_lt (Heap.lt_size (N p hp).1)) (.inr ⟨_, hm, rfl, _, rfl⟩) hE G
    rcases List.mem_cons.mp hb with hb | hb
    · exact Nat.ne_of_lt F.ns.lt hb
    · exact (N _ hm).2.1 (List.mem_singleton.mp hb).symm
  · refine wpAny_pyIter_range hr hsm ?_
    refine fblock (range_walks hh a n) (fun i h st => ⟨_, st, it_range⟩) range_st hx hpk (by show IsRangeIter _ _ _ _ _; rw [hn]; simpa using Heap.get?_push_size _ rfl) (fun hb => ?_)
      (F.keeps fun _ _ e => Heap.get?_push_of_some _ e) (N.grown fun _ _ e => Heap.get?_push_of_some _ e) (next_is_new F) (fun p hp => Nat.ne_of_lt (Heap.lt_size (N p hp).1)) trivial hE G
    exact Nat.ne_of_lt F.ns.lt (List.mem_singleton.mp hb)
theorem off1_of {I : Nat} : ∀ l : List (Addr × Obj), (∀ p ∈ l, p.1 ≠ I) → Off1 I l
  | [], _ => trivial
  | p :: r, h => ⟨h _ (.head _), off1_of r fun q hq => h q (.tail _ hq)⟩
theorem off1_mem {I : Nat} : ∀ l : List (Addr × Obj), Off1 I l → ∀ p ∈ l, p.1 ≠ I
  | [], _, _, h => nomatch h
  | p :: r, x, q, hq => by
    rcases List.mem_cons.mp hq with rfl | hq
    · exact x.1
    · exact off1_mem r x.2 q hq
end
end
section
open PySem PySem.Calls PyProof.Rows PySem.W PySem.Spec PyProof.Rows.LCg
section
variable {prog : Program} {w : World} {A : Around} {E : Value → Shared → Prop} {s : Shared} {h₀ : Heap} {L : Addr} {m : Str → Option Value} {env : Env}
noncomputable abbrev enumObj (it : Addr) (i : Int) (old : Value) : Obj := { cls := .type "enumerate", dict := none, data := .fields #[.none, .bool false, .ref it, rawInt i, .none, old], slots := #[] }
noncomputable abbrev litObj (l : Addr) : Obj := { cls := .type "list_iterator", data := .fields #[.ref l, .int 0 0] }
inductive ForEnd2 (h₀ : Heap) (L : Addr) (s : Shared) (I : Addr) (oI : Obj) (I2 : Addr) (oI2 : Obj) (J : (Str → Option Value) → List (Addr × Obj) → Gens → Prop) : Shared → Prop
  | mk (h' : Heap) (tk' : Nat) (g' : Gens) (d' : Drawn) (m' : Str → Option Value) (news' : List (Addr × Obj)) (F : Fr h₀ L h' m') (N : News h₀ L h' ((I, oI) :: (I2, oI2) :: news')) (o1 : Off1 I news') (o2 : Off1 I2 news') (hJ : J m' news' g') : ForEnd2 h₀ L s I oI I2 oI2 J (stG s h' tk' g' d')
noncomputable def ForTurn2 (h₀ : Heap) (L : Addr) (s : Shared) (I : Addr) (oI : Obj) (I2 : Addr) (oI2 : Obj) (J : (Str → Option Value) → List (Addr × Obj) → Gens → Prop) (Q : Flow → Shared → Prop) (f : Flow) (s₂ : Shared) : Prop :=
  match f with
  | .ret v => Q (.ret v) s₂
  | .brk => False
  | _ => ForEnd2 h₀ L s I oI I2 oI2 J s₂
inductive EnumI (h₀ : Heap) (L : Addr) (s₁ : Shared) (e it l : Nat) (its : Array Value) (k : Nat) (J : Nat → (Str → Option Value) → List (Addr × Obj) → Gens → Prop) (k' : Nat) : Shared → Prop
  | mk (h' : Heap) (tk : Nat) (g : Gens) (d : Drawn) (i : Nat) (old : Value) (m' : Str → Option Value) (news' : List (Addr × Obj)) (hi : i ≤ its.size) (hk : k' = its.size + 1 - i) (hE : IsEnum h' e it ((i : Nat) : Int) old) (hI : h'.IsListIter it l i) (F : Fr h₀ L h' m') (N : News h₀ L h' news') (oe : ∀ p ∈ news', p.1 ≠ e) (oi : ∀ p ∈ news', p.1 ≠ it) (hm : (l, listOf its k) ∈ news') (hJ : J i m' news' g) : EnumI h₀ L s₁ e it l its k J k' (stG s₁ h' tk g d)
inductive EnumSrc (prog : Program) (w : World) (A : Around) (E : Value → Shared → Prop) (h₀ : Heap) (L : Addr) (env : Env) (xi xv : Str) (body : List Stmt) (Q : Flow → Shared → Prop) : Value → Shared → Prop
  | mk (s₁ : Shared) (e it l : Nat) (its : Array Value) (k : Nat) (news : List (Addr × Obj)) (m : Str → Option Value) (oit : Obj) (hc : oit.cls = .type "list_iterator") (hd : oit.data = .fields #[.ref l, .int 0 0]) (F : Fr h₀ L s₁.heap m) (N : News h₀ L s₁.heap ((e, enumObj it 0 .none) :: (it, oit) :: news)) (hm : (l, listOf its k) ∈ news) (hei : e ≠ it) (oe : ∀ p ∈ news, p.1 ≠ e) (oi : ∀ p ∈ news, p.1 ≠ it)
      (J : Nat → (Str → Option Value) → List (Addr × Obj) → Gens → Prop) (j0 : J 0 m news s₁.gens)
      (turn : ∀ i v I oI I2 oI2 t m₁ h tk g d nw, its[i]? = some v → J i m₁ nw g → Fr h₀ L h (fun y => if y = xv then some v else if y = xi then some (.int i t) else m₁ y) → News h₀ L h ((I, oI) :: (I2, oI2) :: nw) → Off1 I nw → Off1 I2 nw → @Ne Nat I I2 →
          wpAny (model prog w) A (execs body env) (ForTurn2 h₀ L s₁ I oI I2 oI2 (fun m n g => (l, listOf its k) ∈ n ∧ J (i + 1) m n g) Q) E (stG s₁ h tk g d))
      (done : ∀ m₁ nw h tk g d, J its.size m₁ nw g → Fr h₀ L h m₁ → News h₀ L h nw → Q .next (stG s₁ h tk g d)) : EnumSrc prog w A E h₀ L env xi xv body Q (.ref e) s₁
theorem For_enum {m0 : Str → Option Value} {xi xv : Str} {pi pv pt pos : Pos} {x1} {iter : Expr} {body : List Stmt} {Q : Flow → Shared → Prop} (_F₀ : Fr h₀ L s.heap m0) (hLe : env.locals = L) (hh : A.handled = none)
    (hxi : env.kindOf xi = some .local) (hxv : env.kindOf xv = some .local) (hpk : (env.scope.kind == .class || (env.scope.kind == .module && env.locals != env.globals)) = false)
    (h : wpAny (model prog w) A (eval iter env) (EnumSrc prog w A E h₀ L env xi xv body Q) E s)
    (hs : ∀ x, foldedSetIterable iter env x = pure x := by intro _; rfl)
    (hE : PassesOwn (model prog w) A env E := by passes_own) :
    wpAny (model prog w) A (exec (.For (.Tuple [.Name xi pi, .Name xv pv] x1 pt) iter body [] pos) env) Q E s := by
  subst hLe
  refine wpAny_For (wpAny_mono h (fun xv' s₁ h₁ => ?_) fun _ _ e => e) hs
  obtain ⟨_, e, it, l, its, k, news, m, oit, hc, hd, F, N, hm, hei, offe, offi, J, j0, turn, done⟩ := h₁
  have hT : s₁.TypeIs (.ref e) "enumerate" := ⟨_, (N _ (.head _)).1, rfl⟩
  have Ne' := N _ (.head _)
  have Ni := N _ (.tail _ (.head _))
  have heL : e ≠ env.locals := Ne'.2.1
  have hiL : it ≠ env.locals := Ni.2.1
  have hL₀ : h₀.get? env.locals = none := Heap.get?_none_of_le F.above
  refine wpAny_pyIter_slot hT PySem.F.slot_enumerate_iter (wpAny_call_entry PySem.F.slot_enumerate_iter hT PySem.F.entry_enumerate_iter ?_ (PySem.F.args_enumerate_iter_1 _))
  refine wpAny_pure ⟨_, rfl, "enumerate", _, hT, PySem.F.slot_enumerate_next.lookup, ?_⟩
  refine codeAny_forLoop_any (R := fun r s' => match r with | .ok f => Q f s' | .error e => cameBackBy (model prog w) A env E e s')
    (EnumI h₀ env.locals s₁ e it l its k J) ?_ (its.size + 1)
    (EnumI.mk s₁.heap _ _ _ 0 _ m news (Nat.zero_le _) rfl Ne'.1 ⟨_, Ni.1, hc, hd⟩ F (fun p hp => N p (.tail _ (.tail _ hp))) offe offi hm j0)
  rintro k' s' ⟨H, tk, g, d, i, old, m', news', hi, hkk, he', hit', F', N', offe', offi', hm', hJ⟩
  have hl' : H.IsList l its := listOf_isList (N'.get hm')
  cases hv : its[i]? with
  | none =>
    have hsz : i = its.size := Nat.le_antisymm hi (by simpa using hv)
    refine wpAny_pyNext_enum_end hh he' hit' hl' hv fun h₁ he₁ => wpAny_execs_nil ?_
    refine done m' news' h₁ tk g d (hsz ▸ hJ) ⟨F'.ns.at' fun o x => he₁ _ o (Ne.symm hiL) x, fun b o x => he₁ b o (fun q => by rw [q, Ni.2.2] at x; cases x) (F'.keep b o x), F'.above⟩ fun p hp => ⟨he₁ _ _ (offi' p hp) (N' p hp).1, (N' p hp).2⟩
  | some v =>
    have hlt : i < its.size := (Array.getElem?_eq_some_iff.mp hv).1
    have heH : e < H.objs.size := Heap.lt_size he'
    obtain ⟨oi, hoi, _⟩ := id hit'
    have hiH : it < H.objs.size := Heap.lt_size hoi
    have hLH : env.locals < H.objs.size := F'.ns.lt
    refine wpAny_pyNext_enum_item he' hit' hl' hv hei fun h₁ heo hit₁ ht₁ hz₁ hk₁ => ?_
    refine wpAny_letOwnedTupleGo_enum heo fun h₂ he₂ hs₂ => ?_
    replace hs₂ : Heap.SameBut e h₁ h₂ := hs₂
    have ht₂ : h₂.IsTuple H.objs.size #[.int i tk, v] := ⟨_, (hs₂.2 _ (Nat.ne_of_gt heH)).trans ht₁, rfl, _, rfl⟩
    have hz₂ : h₂.objs.size = H.objs.size + 1 := hs₂.1.trans hz₁
    refine wpAny_assign_Tuple hh ht₂ rfl rfl fun h₃ hx₃ => ?_
    replace hx₃ : Heap.ExtBut h₂.objs.size h₂ h₃ := hx₃
    have old₃ : ∀ b o, b < H.objs.size + 1 → h₂.get? b = some o → h₃.get? b = some o := fun b o hb x => hx₃ b o (by rw [hz₂]; exact Nat.ne_of_lt hb) x
    have up3 : ∀ b o, b ≠ e → b ≠ it → H.get? b = some o → h₃.get? b = some o := fun b o h1 h2 x => old₃ _ _ (Nat.lt_succ_of_lt (Heap.lt_size x)) (hs₂.extBut b o h1 (hk₁ b o h1 h2 x))
    have F₃ : Fr h₀ env.locals h₃ m' := ⟨F'.ns.at' fun o x => up3 _ o (Ne.symm heL) (Ne.symm hiL) x, fun b o x => up3 b o (fun q => by rw [q, Ne'.2.2] at x; cases x) (fun q => by rw [q, Ni.2.2] at x; cases x) (F'.keep b o x), F'.above⟩
    have e₃ : IsEnum h₃ e it ((i : Int) + 1) v := old₃ _ _ (Nat.lt_succ_of_lt heH) he₂
    obtain ⟨oi₁, hoi₁, di₁⟩ := id hit₁
    have i₃ : h₃.get? it = some oi₁ := old₃ _ _ (Nat.lt_succ_of_lt hiH) (hs₂.extBut _ _ (Ne.symm hei) hoi₁)
    show wpAny _ A (do holding [v] (assign (.Name xi pi) env (.int i tk)); do holding [] (assign (.Name xv pv) env v); pure ()) _ _ _
    refine wpAny_bind (wpAny_holding (wpAny_assign_Name (wpAny_storeName_local hxi F₃.ns (fun h₄ hn₄ hs₄ => ?_) hpk)))
    replace hs₄ : Heap.SameBut env.locals h₃ h₄ := hs₄
    refine wpAny_bind (wpAny_holding (wpAny_assign_Name (wpAny_storeName_local hxv hn₄ (fun h₅ hn₅ hs₅ => wpAny_pure ?_) hpk)))
    replace hs₅ : Heap.SameBut env.locals h₄ h₅ := hs₅
    have up5 : ∀ b o, b ≠ env.locals → h₃.get? b = some o → h₅.get? b = some o := fun b o h1 x => hs₅.extBut b o h1 (hs₄.extBut b o h1 x)
    have F₅ : Fr h₀ env.locals h₅ _ := ⟨hn₅, fun b o x => up5 b o (fun q => by rw [q, hL₀] at x; cases x) (F₃.keep b o x), F₃.above⟩
    have N₅ : News h₀ env.locals h₅ ((e, enumObj it ((i : Int) + 1) v) :: (it, oi₁) :: news') := fun p hp => by
      rcases List.mem_cons.mp hp with rfl | hp
      · exact ⟨up5 _ _ heL e₃, Ne'.2⟩
      · rcases List.mem_cons.mp hp with rfl | hp
        · exact ⟨up5 _ _ hiL i₃, Ni.2⟩
        · exact ⟨up5 _ _ (N' p hp).2.1 (up3 _ _ (offe' p hp) (offi' p hp) (N' p hp).1), (N' p hp).2⟩
    refine wpAny_passesOwn hE (wpAny_mono (turn i v e _ it oi₁ tk m' h₅ _ g d news' hv hJ F₅ N₅ (off1_of _ offe') (off1_of _ offi') hei) (fun f s₃ h₆ => ?_) fun _ _ x => x)
    have fin : ForEnd2 h₀ env.locals s₁ e (enumObj it ((i : Int) + 1) v) it oi₁ (fun m n g => (l, listOf its k) ∈ n ∧ J (i + 1) m n g) s₃ → ∃ m, m < k' ∧ EnumI h₀ env.locals s₁ e it l its k J m s₃ := by
      rintro ⟨h₇, tk₇, g₇, d₇, m₇, news₇, F₇, N₇, o1, o2, hm₇, J₇⟩
      refine ⟨its.size + 1 - (i + 1), dec_lt hlt hkk, EnumI.mk h₇ tk₇ g₇ d₇ (i + 1) v m₇ news₇ hlt rfl ?_ ⟨_, (N₇ _ (.tail _ (.head _))).1, di₁.1, di₁.2⟩ F₇ (fun p hp => N₇ p (.tail _ (.tail _ hp))) (off1_mem _ o1) (off1_mem _ o2) hm₇ J₇⟩
      have z := (N₇ _ (.head _)).1
      rw [cast1]
      exact z
    cases f with
    | ret v => exact h₆
    | brk => exact h₆.elim
    | cont => exact fin h₆
    | next => exact fin h₆
theorem enum_made {l : Nat} {its : Array Value} {k : Nat} {news : List (Addr × Obj)} {Q : Value → Shared → Prop} (F : Fr h₀ L s.heap m) (N : News h₀ L s.heap news) (hm : (l, listOf its k) ∈ news)
    (h : ∀ (it e : Nat) oit h', (oit.cls = .type "list_iterator" ∧ oit.data = .fields #[.ref l, .int 0 0]) → Fr h₀ L h' m → News h₀ L h' ((e, enumObj it 0 .none) :: (it, oit) :: news) → (∀ p ∈ news, p.1 < it) → it < e → Q (.ref e) { s with heap := h' }) :
    wpAny (model prog w) A (call (.type "enumerate") [.ref l]) Q E s := by
  have hl : s.heap.IsList l its := listOf_isList (N.get hm)
  refine call_enumerate_list hl fun h' hE hI hsz hk => ?_
  obtain ⟨o, ho, h1, h2⟩ := hI
  have f1 := kdx_fresh F (Nat.le_refl s.heap.objs.size)
  have f2 := kdx_fresh F (Nat.le_succ s.heap.objs.size)
  refine h s.heap.objs.size (s.heap.objs.size + 1) o h' ⟨h1, h2⟩ (F.keeps hk) (fun p hp => ?_) (fun p hp => Heap.lt_size (N p hp).1) (Nat.lt_succ_self _)
  rcases List.mem_cons.mp hp with rfl | hp
  · exact ⟨hE, f2⟩
  · rcases List.mem_cons.mp hp with rfl | hp
    · exact ⟨ho, f1⟩
    · exact ⟨hk _ _ (N p hp).1, (N p hp).2⟩
end
end
section
open PySem PySem.Calls PyProof.Rows PySem.W PySem.Spec PyProof.Rows.LCg
section
variable {prog : Program} {w : World} {A : Around} {E : Value → Shared → Prop} {s : Shared} {h₀ : Heap} {L : Addr} {m : Str → Option Value} {env : Env}
noncomputable def EltX (prog : Program) (w : World) (A : Around) (h₀ : Heap) (L : Addr) (m : Str → Option Value) (env : Env) (elt : Expr) (xi xv : Str) (scope : Scope) (cl : List (Str × Addr)) (s : Shared) (its : Array Value) (news : List (Addr × Obj)) (Pz : Nat → Value → Prop) : Prop :=
  ∀ (i : Nat) (v : Value) (ti : Tok) C oC m₂ h tk (E' : Value → Shared → Prop), its[i]? = some v → NsObj oC m₂ → m₂ xi = some (.int (i : Int) ti) → m₂ xv = some v → Fr h₀ L h m → News h₀ L h ((C, oC) :: news) → (∀ p ∈ news, p.1 ≠ C) →
    wpAny (model prog w) A (eval elt (compEnvC scope cl C env)) (fun y s₂ => (∃ tk', s₂ = { s with heap := h, toks := tk' }) ∧ Pz i y) E' { s with heap := h, toks := tk }
theorem enum_self {e : Addr} {Q : Value → Shared → Prop} (hT : s.TypeIs (.ref e) "enumerate") (h : Q (.ref e) s) : wpAny (model prog w) A (pyIter (.ref e)) Q E s := by
  refine wpAny_pyIter_slot hT PySem.F.slot_enumerate_iter (wpAny_call_entry PySem.F.slot_enumerate_iter hT PySem.F.entry_enumerate_iter ?_ (PySem.F.args_enumerate_iter_1 _))
  exact wpAny_pure ⟨_, rfl, "enumerate", _, hT, PySem.F.slot_enumerate_next.lookup, h⟩
inductive CompX (h₀ : Heap) (L : Addr) (m : Str → Option Value) (s : Shared) (e it l C D : Addr) (its : Array Value) (news : List (Addr × Obj)) (Pz : Nat → Value → Prop) (k' : Nat) : Shared → Prop
  | mk (H : Heap) (tk i : Nat) (old : Value) (ys : List Value) (m' : Str → Option Value) (hi : i ≤ its.size) (hk : k' = its.size + 1 - i) (hyl : ys.length = i) (hys : ∀ j y, ys[j]? = some y → Pz j y) (hE : IsEnum H e it ((i : Nat) : Int) old) (hI : H.IsListIter it l i) (F : Fr h₀ L H m) (hn : H.Ns C m') (N : News h₀ L H ((D, lst ys) :: news)) : CompX h₀ L m s e it l C D its news Pz k' { s with heap := H, toks := tk }
theorem lblockX {elt iter : Expr} {xi xv : Str} {pi pv pt : Pos} {x1} {scope : Scope} {cl : List (Str × Addr)} {pos : Pos} {hp : Heap} {tk₀ : Nat} {e it l : Nat} {its : Array Value} {k : Nat} {oit : Obj} {news : List (Addr × Obj)} {Pz : Nat → Value → Prop} {RR : Value → Addr → Result → Shared → Prop}
    (hh : A.handled = none) (hoit : oit.cls = .type "list_iterator" ∧ oit.data = .fields #[.ref l, .int 0 0]) (hsz : its.size ≤ sizeLine)
    (hcell : ∀ y ∈ scope.names, y.2 ≠ .cell) (hkind : scope.kind = .function) (hxi : scope.names.lookup xi = some .local) (hxv : scope.names.lookup xv = some .local) (hxx : xi ≠ xv)
    (F : Fr h₀ L hp m) (N : News h₀ L hp ((e, enumObj it 0 .none) :: (it, oit) :: news)) (hm : (l, listOf its k) ∈ news) (hei : it < e) (offi : ∀ p ∈ news, p.1 < it)
    (R : EltX prog w A h₀ L m env elt xi xv scope cl s its news Pz)
    (hRR : ∀ D C h tk m' ys, ys.length = its.size → (∀ j y, ys[j]? = some y → Pz j y) → Fr h₀ L h m → News h₀ L h ((D, lst ys) :: news) → (∀ q ∈ news, q.1 < D) → h.Ns C m' → h₀.get? C = none → h₀.get? D = none → C ≠ L → D ≠ L → C ≠ D → (∀ p ∈ news, p.1 ≠ C) → RR (.ref D) C (.ok .next) { s with heap := h, toks := tk }) :
    wpAny (model prog w) A (newList []) (fun acc s₃ => wpAny (model prog w) A (newFunctionEnv scope env.globals cl [] env.qual none .none (some env)) (fun cenv s₄ =>
      codeAny (model prog w) A (.compStart (.ListComp elt [⟨.Tuple [.Name xi pi, .Name xv pv] x1 pt, iter, [], 0⟩] scope pos) 0 (.ref e) acc { cenv with scope := relabel scope env }) (RR acc cenv.locals) s₄) E s₃) E { s with heap := hp, toks := tk₀ } := by
  refine wpAny_newObj_type (wpAny_newFunctionEnv hcell (by intro y hy; simp at hy) (fun h₁ hns₁ hsb₁ => ?_) hkind)
  dsimp only at hns₁ hsb₁ ⊢
  generalize hH2 : hp.push { cls := .type "list", dict := none, data := .seq ([] : List Value).toArray } = H2 at hns₁ hsb₁ ⊢
  have hC : H2.objs.size = hp.objs.size + 1 := by rw [← hH2, Heap.size_push]
  have hDC : hp.objs.size ≠ H2.objs.size := by rw [hC]; exact Nat.ne_of_lt (Nat.lt_succ_self _)
  have below : ∀ b, b < hp.objs.size → b ≠ H2.objs.size ∧ b ≠ hp.objs.size := fun b hb => ⟨by rw [hC]; exact Nat.ne_of_lt (Nat.lt_succ_of_lt hb), Nat.ne_of_lt hb⟩
  have old : ∀ b o, hp.get? b = some o → h₁.get? b = some o := fun b o q => hsb₁.extBut b o (below b (Heap.lt_size q)).1 (Heap.get?_push_of_some _ (hH2 ▸ Heap.get?_push_of_some _ q))
  have hacc : h₁.get? hp.objs.size = some (lst []) := hsb₁.extBut _ _ hDC (Heap.get?_push_of_some _ (hH2 ▸ Heap.get?_push_size _ rfl))
  obtain ⟨hDL, hD₀⟩ := kdx_fresh F (Nat.le_refl hp.objs.size)
  obtain ⟨hCL, hC₀⟩ := kdx_fresh F (x := H2.objs.size) (by rw [hC]; exact Nat.le_succ _)
  have Ne' := N _ (.head _)
  have Ni := N _ (.tail _ (.head _))
  have Nn : News h₀ L hp news := fun p hq => N p (.tail _ (.tail _ hq))
  have eB := below e (Heap.lt_size Ne'.1)
  have iB := below it (Heap.lt_size Ni.1)
  have nB : ∀ p ∈ news, p.1 ≠ H2.objs.size ∧ p.1 ≠ hp.objs.size := fun p hq => below _ (Heap.lt_size (Nn p hq).1)
  have offe : ∀ p ∈ news, p.1 ≠ e := fun p hq => Nat.ne_of_lt (Nat.lt_trans (offi p hq) hei)
  have offit : ∀ p ∈ news, p.1 ≠ it := fun p hq => Nat.ne_of_lt (offi p hq)
  have hne : e ≠ it := Ne.symm (Nat.ne_of_lt hei)
  have loop : ∀ tk0, codeAny (model prog w) A (.compLoop (.ListComp elt [⟨.Tuple [.Name xi pi, .Name xv pv] x1 pt, iter, [], 0⟩] scope pos) 0 (.ref e) (.ref hp.objs.size) (compEnvC scope cl H2.objs.size env)) (RR (.ref hp.objs.size) H2.objs.size) { s with heap := h₁, toks := tk0 } := by
    intro tk0
    refine kcp_loop
      (CompX h₀ L m s e it l H2.objs.size hp.objs.size its news Pz) ?_ (its.size + 1)
      (CompX.mk h₁ _ 0 _ [] _ (Nat.zero_le _) rfl rfl (fun j y q => by simp at q) (old _ _ Ne'.1) ⟨_, old _ _ Ni.1, hoit.1, hoit.2⟩ (F.keeps old) hns₁ (fun p hq => ?_))
    · rintro k' s' ⟨H, tk, i, oldv, ys, m', hi, hkk, hyl, hys, he', hit', F', hn', N'⟩
      have Nn' : News h₀ L H news := fun p hq => N' p (.tail _ hq)
      have hl' : H.IsList l its := listOf_isList (Nn'.get hm)
      have zD := (N' _ (.head _)).1
      cases hv : its[i]? with
      | none =>
        have hsz' : i = its.size := Nat.le_antisymm hi (by simpa using hv)
        refine wpAny_pyNext_enum_end hh he' hit' hl' hv fun hE heE => ?_
        have kE : ∀ b o, b ≠ it → H.get? b = some o → hE.get? b = some o := fun b o hb q => heE b o hb q
        refine hRR _ _ hE _ m' ys (hyl.trans hsz') hys ⟨F'.ns.at' fun o q => kE _ o (Ne.symm Ni.2.1) q, fun b o q => kE b o (fun c => by rw [c, Ni.2.2] at q; cases q) (F'.keep b o q), F'.above⟩ (fun p hq => ?_) (fun q hq => Heap.lt_size (Nn q hq).1) (hn'.at' fun o q => kE _ o (Ne.symm iB.1) q) hC₀ hD₀ hCL hDL (Ne.symm hDC) (fun p hq => (nB p hq).1)
        rcases List.mem_cons.mp hq with rfl | hq
        · exact ⟨kE _ _ (Ne.symm iB.2) zD, hDL, hD₀⟩
        · exact ⟨kE _ _ (offit p hq) (Nn' p hq).1, (Nn' p hq).2⟩
      | some v =>
        have hlt : i < its.size := (Array.getElem?_eq_some_iff.mp hv).1
        have heH : e < H.objs.size := Heap.lt_size he'
        obtain ⟨oi, hoi, _⟩ := id hit'
        have hiH : it < H.objs.size := Heap.lt_size hoi
        have hCH : H2.objs.size < H.objs.size := hn'.lt
        refine wpAny_pyNext_enum_item he' hit' hl' hv hne fun h₂ heo hit₂ ht₂ hz₂ hk₂ => ?_
        refine wpAny_letOwnedTupleGo_enum heo fun h₃ he₃ hs₃ => ?_
        replace hs₃ : Heap.SameBut e h₂ h₃ := hs₃
        have ht₃ : h₃.IsTuple H.objs.size #[.int i tk, v] := ⟨_, (hs₃.2 _ (Nat.ne_of_gt heH)).trans ht₂, rfl, _, rfl⟩
        have hz₃ : h₃.objs.size = H.objs.size + 1 := hs₃.1.trans hz₂
        have up3 : ∀ b o, b ≠ e → b ≠ it → H.get? b = some o → h₃.get? b = some o := fun b o h1 h2 q => hs₃.extBut b o h1 (hk₂ b o h1 h2 q)
        have hn₃ : h₃.Ns H2.objs.size m' := hn'.at' fun o q => up3 _ o (Ne.symm eB.1) (Ne.symm iB.1) q
        refine kcp_assign hh ht₃ (lookup_relabel_local hxi) (lookup_relabel_local hxv) (by simp [compEnvC, relabel, hkind]) hn₃ fun h₅ tk₅ hn₅ hk₅ => ?_
        replace hk₅ : ∀ c o, c ≠ H2.objs.size → h₃.get? c = some o → h₅.get? c = some o := hk₅
        have up5 : ∀ b o, b ≠ e → b ≠ it → b ≠ H2.objs.size → H.get? b = some o → h₅.get? b = some o := fun b o h1 h2 h3 q => hk₅ b o h3 (up3 b o h1 h2 q)
        have F₅ : Fr h₀ L h₅ m := ⟨F'.ns.at' fun o q => up5 _ o (Ne.symm Ne'.2.1) (Ne.symm Ni.2.1) (Ne.symm hCL) q, fun b o q => up5 b o (fun c => by rw [c, Ne'.2.2] at q; cases q) (fun c => by rw [c, Ni.2.2] at q; cases q) (fun c => by rw [c, hC₀] at q; cases q) (F'.keep b o q), F'.above⟩
        have N₅ : News h₀ L h₅ news := fun p hq => ⟨up5 _ _ (offe p hq) (offit p hq) (nB p hq).1 (Nn' p hq).1, (Nn' p hq).2⟩
        have e₅ : IsEnum h₅ e it ((i : Int) + 1) v := hk₅ _ _ eB.1 he₃
        obtain ⟨oi₂, hoi₂, di₂⟩ := id hit₂
        have i₅ : h₅.get? it = some oi₂ := hk₅ _ _ iB.1 (hs₃.extBut _ _ (Ne.symm hne) hoi₂)
        have D₅ : h₅.get? hp.objs.size = some (lst ys) := up5 _ _ (Ne.symm eB.2) (Ne.symm iB.2) hDC zD
        obtain ⟨oC, heC, hoC⟩ := ns_obj hn₅
        refine wpAny_mono (R i v tk H2.objs.size oC _ h₅ _ _ hv hoC (by rw [if_neg hxx, if_pos rfl]) (by rw [if_pos rfl]) F₅ (fun p hq => ?_) (fun p hq => (nB p hq).1)) (fun y s₆ h₆ => ?_) fun _ _ z => z
        · rcases List.mem_cons.mp hq with rfl | hq
          · exact ⟨heC, hCL, hC₀⟩
          · exact N₅ p hq
        obtain ⟨⟨tk₆, rfl⟩, hPy⟩ := h₆
        refine append_at (hsz := by show ys.toArray.size ≤ sizeLine; rw [List.size_toArray, hyl]; exact Nat.le_trans hi hsz) D₅ fun h₇ hs₇ hD₇ => ?_
        refine ⟨its.size + 1 - (i + 1), dec_lt hlt hkk, h₇, tk₆, i + 1, v, ys ++ [y], _, hlt, rfl, by rw [List.length_append, List.length_singleton, hyl], ?_, ?_, ⟨oi₂, hs₇.extBut _ _ iB.2 i₅, di₂⟩, F₅.change hs₇ hDL hD₀, hn₅.sameBut hs₇ (Ne.symm hDC), fun p hq => ?_⟩
        · intro j y' hj
          by_cases hji : j < i
          · rw [List.getElem?_append_left (by lia)] at hj; exact hys j y' hj
          · have hj2 : j = i := by
              have := (List.getElem?_eq_some_iff.mp hj).1
              rw [List.length_append, List.length_singleton] at this; lia
            subst hj2
            rw [List.getElem?_append_right (by lia), hyl, Nat.sub_self] at hj
            obtain rfl := Option.some.inj hj
            exact hPy
        · rw [cast1]
          exact hs₇.extBut _ _ eB.2 e₅
        · rcases List.mem_cons.mp hq with rfl | hq
          · exact ⟨hD₇.trans (congrArg some (lst_snoc ys y)), hDL, hD₀⟩
          · exact ⟨hs₇.extBut _ _ (nB p hq).2 (N₅ p hq).1, (N₅ p hq).2⟩
    · rcases List.mem_cons.mp hq with rfl | hq
      · exact ⟨hacc, hDL, hD₀⟩
      · exact ⟨old _ _ (Nn p hq).1, (Nn p hq).2⟩
  exact codeAny_compStart_list (loop _) (enum_self ⟨_, old _ _ Ne'.1, rfl⟩ (loop _))
inductive XSrc (prog : Program) (w : World) (A : Around) (h₀ : Heap) (L : Addr) (m : Str → Option Value) (env : Env) (elt : Expr) (xi xv : Str) (scope : Scope) (cl : List (Str × Addr)) (Fin : List (Addr × Obj) → Array Value → (Nat → Value → Prop) → Shared → Prop) : Value → Shared → Prop
  | mk {s₁ : Shared} (e it l : Nat) (its : Array Value) (k : Nat) (oit : Obj) (news : List (Addr × Obj)) (Pz : Nat → Value → Prop) (hh : A.handled = none) (hoit : oit.cls = .type "list_iterator" ∧ oit.data = .fields #[.ref l, .int 0 0]) (hsz : its.size ≤ sizeLine)
      (F : Fr h₀ L s₁.heap m) (N : News h₀ L s₁.heap ((e, enumObj it 0 .none) :: (it, oit) :: news)) (hm : (l, listOf its k) ∈ news) (hei : it < e) (offi : ∀ p ∈ news, p.1 < it) (R : EltX prog w A h₀ L m env elt xi xv scope cl s₁ its news Pz) (fin : Fin news its Pz s₁) : XSrc prog w A h₀ L m env elt xi xv scope cl Fin (.ref e) s₁
noncomputable def XFinE (h₀ : Heap) (L : Addr) (m : Str → Option Value) (Q : Value → Shared → Prop) (news : List (Addr × Obj)) (its : Array Value) (Pz : Nat → Value → Prop) (s₁ : Shared) : Prop :=
  ∀ D h' tk ys, ys.length = its.size → (∀ j y, ys[j]? = some y → Pz j y) → Fr h₀ L h' m → News h₀ L h' ((D, lst ys) :: news) → (∀ q ∈ news, q.1 < D) → Q (.ref D) { s₁ with heap := h', toks := tk }
noncomputable def XFinA (h₀ : Heap) (L : Addr) (m : Str → Option Value) (y : Str) (Q : Flow → Shared → Prop) (news : List (Addr × Obj)) (its : Array Value) (Pz : Nat → Value → Prop) (s₁ : Shared) : Prop :=
  ∀ D h' tk ys, ys.length = its.size → (∀ j y, ys[j]? = some y → Pz j y) → Fr h₀ L h' (fun z => if z = y then some (.ref D) else m z) → News h₀ L h' ((D, lst ys) :: news) → (∀ q ∈ news, q.1 < D) → Q .next { s₁ with heap := h', toks := tk }
theorem ListComp_X {elt iter : Expr} {xi xv : Str} {pi pv pt : Pos} {x1} {scope : Scope} {cl : List (Str × Addr)} {pos : Pos} {Q : Value → Shared → Prop} (_F₀ : Fr h₀ L s.heap m)
    (hclos : closureFor scope env = pure cl) (hcell : ∀ z ∈ scope.names, z.2 ≠ .cell) (hkind : scope.kind = .function)
    (hnames : ∀ z ∈ scope.names, z.2 = .local → scope.names.lookup z.1 = some .local) (hxi : scope.names.lookup xi = some .local) (hxv : scope.names.lookup xv = some .local) (hxx : xi ≠ xv)
    (h : wpAny (model prog w) A (eval iter env) (XSrc prog w A h₀ L m env elt xi xv scope cl (XFinE h₀ L m Q)) E s)
    (hs : ∀ x, foldedSetIterable iter env x = pure x := by intro _; rfl) :
    wpAny (model prog w) A (eval (.ListComp elt [⟨.Tuple [.Name xi pi, .Name xv pv] x1 pt, iter, [], 0⟩] scope pos) env) Q E s := by
  rw [eval_ListComp]
  refine wpAny_comprehension_free (use := none) rfl hs hclos hkind hnames (wpAny_mono h (fun xv' s₁ h₁ => ?_) fun _ _ e => e)
  obtain ⟨e, it, l, its, k, oit, news, Pz, hh, hoit, hsz, F, N, hm, hei, offi, R, fin⟩ := h₁
  refine enum_self ⟨_, (N _ (.head _)).1, rfl⟩ ?_
  refine lblockX (s := s₁) (hp := s₁.heap) (tk₀ := s₁.toks) hh hoit hsz hcell hkind hxi hxv hxx F N hm hei offi R fun D C h' tk m' ys a1 a2 F' N' lt hn hC₀ hD₀ hCL hDL hCD offC => ?_
  refine ⟨m', hn, fun h'' hs'' => fin D h'' tk ys a1 a2 (F'.change hs'' hCL hC₀) (fun p hp => ?_) lt⟩
  refine ⟨hs''.extBut _ _ ?_ (N' p hp).1, (N' p hp).2⟩
  rcases List.mem_cons.mp hp with rfl | hp
  · exact Ne.symm hCD
  · exact offC p hp
theorem Assign_plain {value : Expr} {y : Str} {py spos : Pos} {Q : Flow → Shared → Prop} (hs : swapsWith value (some (.Name y py)) spos.line env = pure false)
    (h : wpAny (model prog w) A (eval value env) (fun v s₁ => wpAny (model prog w) A (storeName env y v) (fun _ s₂ => Q .next s₂) E s₁) E s) : wpAny (model prog w) A (exec (.Assign [.Name y py] value spos) env) Q E s := by
  have e : exec (.Assign [.Name y py] value spos) env = (do
      standAt spos
      if ← swapsWith value (some (.Name y py)) spos.line env then
        evalThenUse value env (assign (.Name y py) env)
        return .next
      let v ← eval value env
      assign (.Name y py) env v
      pure .next) := rfl
  rw [e, hs]
  refine wpAny_bind (wpAny_standAt ?_)
  refine wpAny_bind (wpAny_pure ?_)
  rw [if_neg Bool.false_ne_true]
  exact wpAny_bind (wpAny_mono h (fun v s₁ h₁ => wpAny_bind (wpAny_mono (wpAny_assign_Name h₁) (fun _ s₂ h₂ => wpAny_pure h₂) fun _ _ z => z)) fun _ _ z => z)
theorem storeN_cell {y : Str} {v : Value} {Q : Unit → Shared → Prop} {cc : Addr} {oc : Obj} {v₀ : Option Value} {pre post : List (Addr × Obj)} (F' : Fr h₀ L s.heap m) (N' : News h₀ L s.heap (pre ++ (cc, oc) :: post))
    (hk : env.scope.kind = .function) (hy : env.kindOf y = some .cell) (hc : env.cells.lookup y = some cc) (hoc : oc.data = .cell v₀) (o1 : ∀ p ∈ pre, p.1 ≠ cc) (o2 : ∀ p ∈ post, p.1 ≠ cc)
    (fin : ∀ h₂ oc', oc'.data = .cell (some v) → Fr h₀ L h₂ m → News h₀ L h₂ (pre ++ (cc, oc') :: post) → Q () { s with heap := h₂ }) :
    wpAny (model prog w) A (storeName env y v) Q E s := by
  have z := N' _ (List.mem_append_right _ (.head _))
  refine wpAny_storeName_cell hk hy hc ⟨_, z.1, hoc⟩ fun h₂ hce₂ hs₂ => ?_
  obtain ⟨oc', heo, hdo⟩ := hce₂
  refine fin h₂ oc' hdo (F'.change hs₂ z.2.1 z.2.2) (fun p hp => ?_)
  rcases List.mem_append.mp hp with hp | hp
  · have q := N' p (List.mem_append_left _ hp)
    exact ⟨hs₂.extBut _ _ (o1 p hp) q.1, q.2⟩
  · rcases List.mem_cons.mp hp with rfl | hp
    · exact ⟨heo, z.2⟩
    · have q := N' p (List.mem_append_right _ (.tail _ hp))
      exact ⟨hs₂.extBut _ _ (o2 p hp) q.1, q.2⟩
end
end
section
open PySem PySem.Calls PyProof.Rows PySem.W PySem.Spec PyProof.Rows.LCg
noncomputable def Off4 (I C K D : Nat) (l : List (Addr × Obj)) : Prop := ∀ p ∈ l, @Ne Nat p.1 I ∧ @Ne Nat p.1 C ∧ @Ne Nat p.1 K ∧ @Ne Nat p.1 D
inductive CEndC (h₀ : Heap) (L : Addr) (m : Str → Option Value) (s : Shared) (I : Addr) (oI : Obj) (C : Addr) (oC : Obj) (K : Addr) (oK : Obj) (D : Addr) (ys : List Value) (S : List (Addr × Obj) → Prop) (J : List Value → List (Addr × Obj) → Gens → Prop) (y : Value) : Shared → Prop
  | mk (h' : Heap) (tk' : Nat) (g' : Gens) (d' : Drawn) (news' : List (Addr × Obj)) (F : Fr h₀ L h' m) (N : News h₀ L h' ((I, oI) :: (C, oC) :: (K, oK) :: (D, lst ys) :: news')) (off : Off4 I C K D news') (hS : S news') (hJ : J (ys ++ [y]) news' g') : CEndC h₀ L m s I oI C oC K oK D ys S J y (stG s h' tk' g' d')
noncomputable def EltC (prog : Program) (w : World) (A : Around) (h₀ : Heap) (L : Addr) (m : Str → Option Value) (env : Env) (elt : Expr) (x : Str) (scope : Scope) (cl : List (Str × Addr)) (s : Shared) (S : List (Addr × Obj) → Prop) (P : Nat → Value → Prop) (n : Nat) (J : Nat → List Value → List (Addr × Obj) → Gens → Prop) : Prop :=
  ∀ i v I oI C oC K oK D m₂ h tk g d ys news (E' : Value → Shared → Prop), i < n → P i v → J i ys news g → S news → NsObj oC m₂ → oK.data = .cell (some v) → Fr h₀ L h m → News h₀ L h ((I, oI) :: (C, oC) :: (K, oK) :: (D, lst ys) :: news) → Off4 I C K D news → ((@Ne Nat I C) ∧ (@Ne Nat I K) ∧ (@Ne Nat I D) ∧ (@Ne Nat C K) ∧ (@Ne Nat C D) ∧ (@Ne Nat K D)) → ItObj oI →
    wpAny (model prog w) A (eval elt (compEnvC scope ((x, K) :: cl) C env)) (CEndC h₀ L m s I oI C oC K oK D ys S (J (i + 1))) E' (stG s h tk g d)
theorem newEnvA {M : Model} {A : Around} {E : Value → Shared → Prop} {s : Shared} {scope : Scope} {globals : Addr} {cl : List (Str × Addr)} {qual : Str} {env : Env} {Q : Env → Shared → Prop}
    (h : Q (newEnv scope s.heap.objs.size globals (cellsFrom (s.heap.push { cls := .type "dict", data := .dict #[] }).objs.size scope.names cl) qual none .none (some env) builtinsNs) { s with heap := pushCells (s.heap.push { cls := .type "dict", data := .dict #[] }) scope.names }) :
    wpAny M A (newFunctionEnv scope globals cl [] qual none .none (some env)) Q E s := by
  simp only [newFunctionEnv, Option.isSome_some, if_true]
  refine wpAny_bind (wpAny_alloc ?_)
  refine wpAny_bind (wpAny_layCells _ (fun name kind cells => by cases hkc : kind == NameKind.cell <;> simp [hkc]) _ _ _ _ ?_)
  rw [List.forIn_nil]
  exact wpAny_bind (wpAny_pure (wpAny_pure h))
inductive CompC (h₀ : Heap) (L : Addr) (m : Str → Option Value) (s : Shared) (I C K D : Addr) (n : Nat) (St : Nat → Heap → Prop) (S : List (Addr × Obj) → Prop) (J : Nat → List Value → List (Addr × Obj) → Gens → Prop) (k : Nat) : Shared → Prop
  | mk (h' : Heap) (tk : Nat) (g : Gens) (d : Drawn) (i : Nat) (ys : List Value) (m' : Str → Option Value) (news' : List (Addr × Obj)) (v₀ : Option Value) (hi : i ≤ n) (hk : k = n + 1 - i) (hyl : ys.length = i) (hst : St i h') (F : Fr h₀ L h' m) (hn : h'.Ns C m') (hce : h'.IsCell K v₀) (N : News h₀ L h' ((D, lst ys) :: news')) (off : Off4 I C K D news') (hS : S news') (hJ : J i ys news' g) : CompC h₀ L m s I C K D n St S J k (stG s h' tk g d)
section
variable {prog : Program} {w : World} {A : Around} {E : Value → Shared → Prop} {s : Shared} {h₀ : Heap} {L : Addr} {m : Str → Option Value} {env : Env}
theorem lblockC {elt iter : Expr} {x : Str} {px : Pos} {scope : Scope} {cl : List (Str × Addr)} {pos : Pos} {s₂ : Shared} {I : Addr} {fp : List Addr} {n : Nat} {P : Nat → Value → Prop} {St : Nat → Heap → Prop} {S : List (Addr × Obj) → Prop} {news : List (Addr × Obj)}
    {J : Nat → List Value → List (Addr × Obj) → Gens → Prop} {RR : Value → Addr → Result → Shared → Prop}
    (W : Walks prog w A I fp [I] n P St) (hsz : n ≤ sizeLine) (hIo : ∀ i h, St i h → ∃ o, h.get? I = some o ∧ ItObj o)
    (hSt : ∀ i h h' o nw, St i h → h.get? I = some o → h'.get? I = some o → (∀ b o, h₀.get? b = some o → h'.get? b = some o) → News h₀ L h' nw → S nw → St i h')
    (hpc : ∀ h : Heap, pushCells h scope.names = h.push { cls := .type "cell", data := .cell none }) (hcf : ∀ (k : Nat) (l : List (Str × Addr)), cellsFrom k scope.names l = (x, k) :: l)
    (hkind : scope.kind = .function) (hx : ∀ C K : Addr, (compEnvC scope ((x, K) :: cl) C env).kindOf x = some .cell) (hst : St 0 s₂.heap) (hfp : ∀ b ∈ fp, b < s₂.heap.objs.size)
    (F : Fr h₀ L s₂.heap m) (N : News h₀ L s₂.heap news) (hIL : L ≠ I) (hI₀ : h₀.get? I = none) (off : ∀ p ∈ news, p.1 ≠ I) (hS : S news) (hs : ∃ h, s₂ = { s with heap := h })
    (hJ : J 0 [] news s.gens) (R : EltC prog w A h₀ L m env elt x scope cl s S P n J)
    (hRR : ∀ D C h tk g d m' ys news', J n ys news' g → Fr h₀ L h m → News h₀ L h ((D, lst ys) :: news') → Off1 D news' → h.Ns C m' → h₀.get? C = none → h₀.get? D = none → C ≠ L → D ≠ L → C ≠ D → (∀ p ∈ news', p.1 ≠ C) → (∀ q ∈ news, q.1 < D) → RR (.ref D) C (.ok .next) (stG s h tk g d)) :
    wpAny (model prog w) A (newList []) (fun acc s₃ => wpAny (model prog w) A (newFunctionEnv scope env.globals cl [] env.qual none .none (some env)) (fun cenv s₄ =>
      codeAny (model prog w) A (.compStart (.ListComp elt [⟨.Name x px, iter, [], 0⟩] scope pos) 0 (.ref I) acc { cenv with scope := relabel scope env }) (RR acc cenv.locals) s₄) E s₃) E s₂ := by
  obtain ⟨hp, rfl⟩ := hs
  dsimp only at hst hfp F N ⊢
  refine wpAny_newObj_type (newEnvA ?_)
  dsimp only
  rw [hpc, hcf]
  generalize hH2 : hp.push { cls := .type "list", dict := none, data := .seq ([] : List Value).toArray } = H2
  generalize hH3 : H2.push { cls := .type "dict", data := .dict #[] } = H3
  generalize hH1 : H3.push { cls := .type "cell", data := .cell none } = h₁
  have hC : H2.objs.size = hp.objs.size + 1 := by rw [← hH2, Heap.size_push]
  have hK : H3.objs.size = hp.objs.size + 2 := by rw [← hH3, Heap.size_push, hC]
  have hDC : hp.objs.size ≠ H2.objs.size := by rw [hC]; exact Nat.ne_of_lt (Nat.lt_succ_self _)
  have hDK : hp.objs.size ≠ H3.objs.size := by rw [hK]; exact Nat.ne_of_lt (Nat.lt_succ_of_lt (Nat.lt_succ_self _))
  have hCK : H2.objs.size ≠ H3.objs.size := by rw [hC, hK]; exact Nat.ne_of_lt (Nat.lt_succ_self _)
  have below : ∀ b, b < hp.objs.size → b ≠ H2.objs.size ∧ b ≠ hp.objs.size ∧ b ≠ H3.objs.size := fun b hb => ⟨by rw [hC]; exact Nat.ne_of_lt (Nat.lt_succ_of_lt hb), Nat.ne_of_lt hb, by rw [hK]; exact Nat.ne_of_lt (Nat.lt_succ_of_lt (Nat.lt_succ_of_lt hb))⟩
  have hDf : hp.objs.size ∉ fp := fun hm => Nat.lt_irrefl _ (hfp _ hm)
  have hCf : H2.objs.size ∉ fp := fun hm => (below _ (hfp _ hm)).1 rfl
  have hKf : H3.objs.size ∉ fp := fun hm => (below _ (hfp _ hm)).2.2 rfl
  have hIlt : I < hp.objs.size := hfp I (W.sub I (List.mem_singleton.mpr rfl))
  have up3 : ∀ b o, H3.get? b = some o → h₁.get? b = some o := fun b o e => hH1 ▸ Heap.get?_push_of_some _ e
  have up2 : ∀ b o, H2.get? b = some o → h₁.get? b = some o := fun b o e => up3 b o (hH3 ▸ Heap.get?_push_of_some _ e)
  have old : ∀ b o, hp.get? b = some o → h₁.get? b = some o := fun b o e => up2 b o (hH2 ▸ Heap.get?_push_of_some _ e)
  have hacc : h₁.get? hp.objs.size = some (lst []) := up2 _ _ (hH2 ▸ Heap.get?_push_size _ rfl)
  have hns₁ : h₁.Ns H2.objs.size (fun _ => none) := (hH3 ▸ Heap.Ns.new H2 (.type "dict")).keeps up3
  have hce₁ : h₁.IsCell H3.objs.size none := ⟨_, hH1 ▸ Heap.get?_push_size _ rfl, rfl⟩
  have hst₁ : St 0 h₁ := W.frame _ _ _ hst fun b _ o e => old b o e
  obtain ⟨hDL, hD₀⟩ := kdx_fresh F (Nat.le_refl hp.objs.size)
  obtain ⟨hCL, hC₀⟩ := kdx_fresh F (x := H2.objs.size) (by rw [hC]; exact Nat.le_succ _)
  obtain ⟨hKL, hK₀⟩ := kdx_fresh F (x := H3.objs.size) (by rw [hK]; exact Nat.le_add_right _ _)
  have hCI : I ≠ H2.objs.size := (below I hIlt).1
  have hDI : I ≠ hp.objs.size := (below I hIlt).2.1
  have hKI : I ≠ H3.objs.size := (below I hIlt).2.2
  have off₀ : Off4 I H2.objs.size H3.objs.size hp.objs.size news := fun p hq => ⟨off p hq, (below _ (Heap.lt_size (N p hq).1)).1, (below _ (Heap.lt_size (N p hq).1)).2.2, (below _ (Heap.lt_size (N p hq).1)).2.1⟩
  have one : ∀ {l : List (Addr × Obj)}, Off4 I H2.objs.size H3.objs.size hp.objs.size l → Off1 hp.objs.size l := by
    intro l
    induction l with
    | nil => intro _; trivial
    | cons p r ih => exact fun h => ⟨(h _ (.head _)).2.2.2, ih fun q hq => h q (.tail _ hq)⟩
  have loop : ∀ tk0, codeAny (model prog w) A (.compLoop (.ListComp elt [⟨.Name x px, iter, [], 0⟩] scope pos) 0 (.ref I) (.ref hp.objs.size) (compEnvC scope ((x, H3.objs.size) :: cl) H2.objs.size env)) (RR (.ref hp.objs.size) H2.objs.size) { s with heap := h₁, toks := tk0 } := by
    intro tk0
    refine codeAny_compLoop_tests
      (CompC h₀ L m s I H2.objs.size H3.objs.size hp.objs.size n St S J) ?_ (n + 1)
      (CompC.mk h₁ _ _ _ 0 [] _ news none (Nat.zero_le _) rfl rfl hst₁ (F.keeps old) hns₁ hce₁ (fun p hq => ?_) off₀ hS hJ)
    · rintro k s' ⟨h', tk, g, d, i, ys, m', news', v₀, hi, hkk, hyl, hst', F', hn', hce', N', off', hS', R'⟩
      have hDn : ∀ p ∈ (hp.objs.size, lst ys) :: news', p.1 ≠ I := fun p hq => by
        rcases List.mem_cons.mp hq with rfl | hq
        · exact Ne.symm hDI
        · exact (off' p hq).1
      by_cases hlt : i < n
      · refine W.item i _ _ _ hlt hst' fun v h₂ tk₂ hPv hst₂ hk₂ => ?_
        have hce₂ : h₂.IsCell H3.objs.size v₀ := by
          obtain ⟨oK, eK, dK⟩ := hce'
          exact ⟨oK, hk₂ _ oK (by simpa using Ne.symm hKI) eK, dK⟩
        refine wpAny_assign_Name (wpAny_storeName_cell (by simp [compEnvC, relabel, hkind]) (hx _ _) (by simp [compEnvC]) hce₂ fun h₃ hce₃ hs₃ => ?_)
        refine wpAny_tests_nil ?_
        simp only [if_true]
        have hst₃ : St (i + 1) h₃ := W.frame _ _ _ hst₂ fun b hb o e => hs₃.extBut b o (fun q => hKf (by have q' : b = H3.objs.size := q; rw [← q']; exact hb)) e
        obtain ⟨oI, heI, hoI⟩ := hIo _ _ hst₃
        have hn₃ : h₃.Ns H2.objs.size m' := (hn'.at' fun o e => hk₂ _ o (by simpa using Ne.symm hCI) e).sameBut hs₃ hCK
        obtain ⟨oC, heC, hoC⟩ := ns_obj hn₃
        obtain ⟨oK, heK, hoK⟩ := hce₃
        have F₃ : Fr h₀ L h₃ m := (fr_but F' hk₂ hIL hI₀).change hs₃ hKL hK₀
        have N₂ := news_but N' hk₂ hDn
        have N₃ : News h₀ L h₃ ((I, oI) :: (H2.objs.size, oC) :: (H3.objs.size, oK) :: (hp.objs.size, lst ys) :: news') := fun p hq => by
          rcases List.mem_cons.mp hq with rfl | hq
          · exact ⟨heI, Ne.symm hIL, hI₀⟩
          · rcases List.mem_cons.mp hq with rfl | hq
            · exact ⟨heC, hCL, hC₀⟩
            · rcases List.mem_cons.mp hq with rfl | hq
              · exact ⟨heK, hKL, hK₀⟩
              · have z := N₂ p hq
                refine ⟨hs₃.extBut _ _ ?_ z.1, z.2⟩
                rcases List.mem_cons.mp hq with rfl | hq
                · exact hDK
                · exact (off' p hq).2.2.1
        refine wpAny_mono (R i v I oI H2.objs.size oC H3.objs.size oK hp.objs.size _ h₃ _ _ _ _ _ _ hlt hPv R' hS' hoC hoK F₃ N₃ off' ⟨hCI, hKI, hDI, hCK, Ne.symm hDC, Ne.symm hDK⟩ hoI) (fun y s₄ h₄ => ?_) fun _ _ e => e
        obtain ⟨h₄, tk₄, g₄, d₄, news₄, F₄, N₄, off₄, hS₄, R₄⟩ := h₄
        have zI := (N₄ _ (.head _)).1
        have zC := (N₄ _ (.tail _ (.head _))).1
        have zK := (N₄ _ (.tail _ (.tail _ (.head _)))).1
        have zD := (N₄ _ (.tail _ (.tail _ (.tail _ (.head _))))).1
        have N₄' : News h₀ L h₄ news₄ := fun p hq => N₄ p (.tail _ (.tail _ (.tail _ (.tail _ hq))))
        have hst₄ : St (i + 1) h₄ := hSt _ _ _ _ _ hst₃ heI zI F₄.keep N₄' hS₄
        refine append_at (hsz := by show ys.toArray.size ≤ sizeLine; rw [List.size_toArray, hyl]; exact Nat.le_trans hi hsz) zD fun h₅ hs₅ hD₅ => ?_
        refine ⟨n + 1 - (i + 1), dec_lt hlt hkk, h₅, tk₄, g₄, d₄, i + 1, ys ++ [y], _, news₄, _, hlt, rfl, by rw [List.length_append, List.length_singleton, hyl], W.frame _ _ _ hst₄ fun b hb o e => hs₅.extBut b o (fun q => hDf (q ▸ hb)) e, F₄.change hs₅ hDL hD₀,
          (hoC.ns zC).sameBut hs₅ (Ne.symm hDC), ⟨oK, hs₅.extBut _ _ (Ne.symm hDK) zK, hoK⟩, fun p hq => ?_, off₄, hS₄, R₄⟩
        rcases List.mem_cons.mp hq with rfl | hq
        · exact ⟨hD₅.trans (congrArg some (lst_snoc ys y)), hDL, hD₀⟩
        · exact ⟨hs₅.extBut _ _ (off₄ p hq).2.2.2 (N₄' p hq).1, (N₄' p hq).2⟩
      · obtain rfl : i = n := Nat.le_antisymm hi (Nat.not_lt.mp hlt)
        refine W.done _ _ _ hst' fun h₂ tk₂ hk₂ => ?_
        exact hRR _ _ h₂ tk₂ g d _ ys news' R' (fr_but F' hk₂ hIL hI₀) (news_but N' hk₂ hDn) (one off') (hn'.at' fun o e => hk₂ _ o (by simpa using Ne.symm hCI) e) hC₀ hD₀ hCL hDL (Ne.symm hDC) (fun p hq => (off' p hq).2.1) (fun q hq => Heap.lt_size (N q hq).1)
    · rcases List.mem_cons.mp hq with rfl | hq
      · exact ⟨hacc, hDL, hD₀⟩
      · exact ⟨old _ _ (N p hq).1, (N p hq).2⟩
  exact codeAny_compStart_list (loop _) (W.self 0 _ _ _ hst₁ (loop _))
inductive SrcC (prog : Program) (w : World) (A : Around) (h₀ : Heap) (L : Addr) (m : Str → Option Value) (env : Env) (elt : Expr) (x : Str) (scope : Scope) (cl : List (Str × Addr)) (Fin : List (Addr × Obj) → List Value → List (Addr × Obj) → Gens → Shared → Prop) : Value → Shared → Prop
  | mk {s₁ : Shared} (r : Addr) (a b : Int) (t u v : Tok) (n : Nat) (news : List (Addr × Obj)) (hh : A.handled = none) (F : Fr h₀ L s₁.heap m) (N : News h₀ L s₁.heap news) (hr : IsRange s₁.heap r a b 1 t u v) (hsm : Builtin.Range.small a b 1 = true) (hn : Builtin.Range.rangeSize a b 1 = ((n : Nat) : Int)) (hsz : n ≤ sizeLine)
    (J : Nat → List Value → List (Addr × Obj) → Gens → Prop) (j0 : J 0 [] news s₁.gens) (R : EltC prog w A h₀ L m env elt x scope cl s₁ (fun _ => True) (fun i v => ∃ t, v = .int (a + (i : Int)) t) n J) (fin : ∀ ys nw g, J n ys nw g → Fin news ys nw g s₁) : SrcC prog w A h₀ L m env elt x scope cl Fin (.ref r) s₁
theorem lsrcC {elt iter : Expr} {x : Str} {px : Pos} {scope : Scope} {cl : List (Str × Addr)} {pos : Pos} {RR : Value → Addr → Result → Shared → Prop} {Fin : List (Addr × Obj) → List Value → List (Addr × Obj) → Gens → Shared → Prop} {xv : Value} {s₁ : Shared}
    (hpc : ∀ h : Heap, pushCells h scope.names = h.push { cls := .type "cell", data := .cell none }) (hcf : ∀ (k : Nat) (l : List (Str × Addr)), cellsFrom k scope.names l = (x, k) :: l) (hkind : scope.kind = .function) (hx : ∀ C K : Addr, (compEnvC scope ((x, K) :: cl) C env).kindOf x = some .cell)
    (h : SrcC prog w A h₀ L m env elt x scope cl Fin xv s₁)
    (hRR : ∀ base D C h tk g d m' ys news', Fin base ys news' g s₁ → Fr h₀ L h m → News h₀ L h ((D, lst ys) :: news') → Off1 D news' → h.Ns C m' → h₀.get? C = none → h₀.get? D = none → C ≠ L → D ≠ L → C ≠ D → (∀ p ∈ news', p.1 ≠ C) → (∀ q ∈ base, q.1 < D) → RR (.ref D) C (.ok .next) (stG s₁ h tk g d)) :
    wpAny (model prog w) A (pyIter xv) (fun it s₂ => wpAny (model prog w) A (newList []) (fun acc s₃ => wpAny (model prog w) A (newFunctionEnv scope env.globals cl [] env.qual none .none (some env)) (fun cenv s₄ =>
      codeAny (model prog w) A (.compStart (.ListComp elt [⟨.Name x px, iter, [], 0⟩] scope pos) 0 it acc { cenv with scope := relabel scope env }) (RR acc cenv.locals) s₄) E s₃) E s₂) E s₁ := by
  obtain ⟨r, a, b, t, u, v, n, news, hh, F, N, hr, hsm, hn, hsz, J, j0, R, fin⟩ := h
  refine wpAny_pyIter_range hr hsm ?_
  refine lblockC (range_walks hh a n) hsz (fun i h st => ⟨_, st, it_range⟩) range_st hpc hcf hkind hx (by show IsRangeIter _ _ _ _ _; rw [hn]; simpa using Heap.get?_push_size _ rfl) (fun b hb => ?_)
    (F.keeps fun _ _ e => Heap.get?_push_of_some _ e) (N.grown fun _ _ e => Heap.get?_push_of_some _ e) (Nat.ne_of_lt F.ns.lt) (next_is_new F) (fun p hp => Nat.ne_of_lt (Heap.lt_size (N p hp).1)) trivial ⟨_, rfl⟩ j0 R fun D C h tk g d m' ys news' hJ => hRR _ D C h tk g d m' ys news' (fin _ _ _ hJ)
  rw [List.mem_singleton.mp hb]
  show s₁.heap.objs.size < (s₁.heap.push _).objs.size
  rw [Heap.size_push]; exact Nat.lt_succ_self _
theorem Assign_ListComp_C {elt iter : Expr} {x y : Str} {px py : Pos} {scope : Scope} {cl : List (Str × Addr)} {pos spos : Pos} {Q : Flow → Shared → Prop} (_F₀ : Fr h₀ L s.heap m) (hLe : env.locals = L)
    (hsw : swapsWith (.ListComp elt [⟨.Name x px, iter, [], 0⟩] scope pos) (some (.Name y py)) spos.line env = pure true)
    (hclos : closureFor scope env = pure cl) (hpc : ∀ h : Heap, pushCells h scope.names = h.push { cls := .type "cell", data := .cell none }) (hcf : ∀ (k : Nat) (l : List (Str × Addr)), cellsFrom k scope.names l = (x, k) :: l) (hkind : scope.kind = .function)
    (hnames : ∀ z ∈ scope.names, z.2 = .local → scope.names.lookup z.1 = some .local) (hx : ∀ C K : Addr, (compEnvC scope ((x, K) :: cl) C env).kindOf x = some .cell)
    (hy : env.kindOf y = some .local) (hp : (env.scope.kind == .class || (env.scope.kind == .module && env.locals != env.globals)) = false)
    (h : wpAny (model prog w) A (eval iter env) (SrcC prog w A h₀ L m env elt x scope cl (FinAJ h₀ L m y Q)) E s)
    (hs : ∀ x, foldedSetIterable iter env x = pure x := by intro _; rfl) :
    wpAny (model prog w) A (exec (.Assign [.Name y py] (.ListComp elt [⟨.Name x px, iter, [], 0⟩] scope pos) spos) env) Q E s := by
  subst hLe
  rw [exec_Assign_Name_used _ _ _ _ hsw]
  refine wpAny_bind (wpAny_standAt (wpAny_bind ?_))
  show wpAny _ A (do let _ ← comprehension (.ListComp elt [⟨.Name x px, iter, [], 0⟩] scope pos) scope env _ (newList []) false (eval iter env) (some (assign (.Name y py) env))) _ _ s
  refine wpAny_bind (wpAny_mono (wpAny_comprehension_free (use := some (assign (.Name y py) env)) (Q := fun _ s' => Q .next s') rfl hs hclos hkind hnames
    (wpAny_mono h (fun xv s₁ h₁ => ?_) fun _ _ e => e)) (fun _ s' hq => wpAny_pure (wpAny_pure hq)) fun _ _ e => e)
  refine lsrcC hpc hcf hkind hx h₁ fun base D C h' tk g d m' ys news' fin F' N' o1 hn hC₀ hD₀ hCL hDL hCD offC hbs => ?_
  show wpAny _ A (assign (.Name y py) env (.ref D)) _ _ _
  refine wpAny_assign_Name (wpAny_storeName_local hy F'.ns (fun h₂ hn₂ hs₂ => ?_) hp)
  have hL₀ : h₀.get? env.locals = none := Heap.get?_none_of_le F'.above
  have F₂ : Fr h₀ env.locals h₂ (fun z => if z = y then some (.ref D) else m z) := ⟨hn₂, fun b o e => hs₂.extBut b o (fun q => by rw [q, hL₀] at e; cases e) (F'.keep b o e), F'.above⟩
  refine ⟨m', hn.sameBut hs₂ hCL, fun h'' hs'' => fin D h'' _ d hbs (F₂.change hs'' hCL hC₀) (fun p hp => ?_) o1⟩
  have z : h₂.get? p.1 = some p.2 := hs₂.extBut _ _ (N' p hp).2.1 (N' p hp).1
  refine ⟨hs''.extBut _ _ ?_ z, (N' p hp).2⟩
  rcases List.mem_cons.mp hp with rfl | hp
  · exact Ne.symm hCD
  · exact offC p hp

end
end
section
open PySem PySem.Calls PyProof.Rows PySem.W PySem.Spec PyProof.Rows.LCg
noncomputable def EltI (prog : Program) (w : World) (A : Around) (h₀ : Heap) (L : Addr) (m : Str → Option Value) (env : Env) (elt tst : Expr) (x : Str) (scope : Scope) (cl : List (Str × Addr)) (s : Shared) (S : List (Addr × Obj) → Prop) (P : Nat → Value → Prop) (n : Nat) (J : Nat → List Value → List (Addr × Obj) → Gens → Prop) : Prop :=
  ∀ i v I oI C oC D m₂ h tk g d ys news (E' : Value → Shared → Prop), i < n → P i v → J i ys news g → S news → NsObj oC m₂ → m₂ x = some v → Fr h₀ L h m → News h₀ L h ((I, oI) :: (C, oC) :: (D, lst ys) :: news) → Off3 I C D news → ((@Ne Nat I C) ∧ (@Ne Nat I D) ∧ (@Ne Nat C D)) → ItObj oI →
    wpAny (model prog w) A (isTrue tst (compEnvC scope cl C env) (eval tst (compEnvC scope cl C env))) (fun ok s₃ => if ok = true then wpAny (model prog w) A (eval elt (compEnvC scope cl C env)) (CEndJ h₀ L m s I oI C oC D ys S (J (i + 1))) E' s₃ else SkipJ h₀ L m s I oI C oC D ys S (J (i + 1)) s₃) E' (stG s h tk g d)
section
variable {prog : Program} {w : World} {A : Around} {E : Value → Shared → Prop} {s : Shared} {h₀ : Heap} {L : Addr} {m : Str → Option Value} {env : Env}
theorem elt_one {elt tst : Expr} {x : Str} {scope : Scope} {cl : List (Str × Addr)} {S : List (Addr × Obj) → Prop} {P : Nat → Value → Prop} {n : Nat} {J : Nat → List Value → List (Addr × Obj) → Gens → Prop} (R : EltI prog w A h₀ L m env elt tst x scope cl s S P n J) : EltT prog w A h₀ L m env elt [tst] x scope cl s S P n J :=
  fun i v I oI C oC D m₂ h tk g d ys news E' a1 a2 a3 a4 a5 a6 a7 a8 a9 b1 b2 => wpAny_tests_one (R i v I oI C oC D m₂ h tk g d ys news E' a1 a2 a3 a4 a5 a6 a7 a8 a9 b1 b2)
inductive SrcI (prog : Program) (w : World) (A : Around) (h₀ : Heap) (L : Addr) (m : Str → Option Value) (env : Env) (elt tst : Expr) (x : Str) (scope : Scope) (cl : List (Str × Addr)) (Fin : List (Addr × Obj) → List Value → List (Addr × Obj) → Gens → Shared → Prop) : Value → Shared → Prop
  | mk {s₁ : Shared} (r : Addr) (a b : Int) (t u v : Tok) (n : Nat) (news : List (Addr × Obj)) (hh : A.handled = none) (F : Fr h₀ L s₁.heap m) (N : News h₀ L s₁.heap news) (hr : IsRange s₁.heap r a b 1 t u v) (hsm : Builtin.Range.small a b 1 = true) (hn : Builtin.Range.rangeSize a b 1 = ((n : Nat) : Int)) (hsz : n ≤ sizeLine)
    (J : Nat → List Value → List (Addr × Obj) → Gens → Prop) (j0 : J 0 [] news s₁.gens) (R : EltI prog w A h₀ L m env elt tst x scope cl s₁ (fun _ => True) (fun i v => ∃ t, v = .int (a + (i : Int)) t) n J) (fin : ∀ ys nw g, J n ys nw g → Fin news ys nw g s₁) : SrcI prog w A h₀ L m env elt tst x scope cl Fin (.ref r) s₁
theorem lsrcI {elt iter tst : Expr} {x : Str} {px : Pos} {scope : Scope} {cl : List (Str × Addr)} {pos : Pos} {RR : Value → Addr → Result → Shared → Prop} {Fin : List (Addr × Obj) → List Value → List (Addr × Obj) → Gens → Shared → Prop} {xv : Value} {s₁ : Shared}
    (hcell : ∀ y ∈ scope.names, y.2 ≠ .cell) (hkind : scope.kind = .function) (hx : scope.names.lookup x = some .local)
    (h : SrcI prog w A h₀ L m env elt tst x scope cl Fin xv s₁)
    (hRR : ∀ base D C h tk g d m' ys news', Fin base ys news' g s₁ → Fr h₀ L h m → News h₀ L h ((D, lst ys) :: news') → Off1 D news' → h.Ns C m' → h₀.get? C = none → h₀.get? D = none → C ≠ L → D ≠ L → C ≠ D → (∀ p ∈ news', p.1 ≠ C) → (∀ q ∈ base, q.1 < D) → RR (.ref D) C (.ok .next) (stG s₁ h tk g d)) :
    wpAny (model prog w) A (pyIter xv) (fun it s₂ => wpAny (model prog w) A (newList []) (fun acc s₃ => wpAny (model prog w) A (newFunctionEnv scope env.globals cl [] env.qual none .none (some env)) (fun cenv s₄ =>
      codeAny (model prog w) A (.compStart (.ListComp elt [⟨.Name x px, iter, [tst], 0⟩] scope pos) 0 it acc { cenv with scope := relabel scope env }) (RR acc cenv.locals) s₄) E s₃) E s₂) E s₁ := by
  obtain ⟨r, a, b, t, u, v, n, news, hh, F, N, hr, hsm, hn, hsz, J, j0, R, fin⟩ := h
  refine wpAny_pyIter_range hr hsm ?_
  refine lblockT (ifs := [tst]) (range_walks hh a n) hsz (fun i h st => ⟨_, st, it_range⟩) range_st hcell hkind hx (by show IsRangeIter _ _ _ _ _; rw [hn]; simpa using Heap.get?_push_size _ rfl) (fun b hb => ?_)
    (F.keeps fun _ _ e => Heap.get?_push_of_some _ e) (N.grown fun _ _ e => Heap.get?_push_of_some _ e) (Nat.ne_of_lt F.ns.lt) (next_is_new F) (fun p hp => Nat.ne_of_lt (Heap.lt_size (N p hp).1)) trivial ⟨_, rfl⟩ j0 (elt_one R) fun D C h tk g d m' ys news' hJ => hRR _ D C h tk g d m' ys news' (fin _ _ _ hJ)
  rw [List.mem_singleton.mp hb]
  show s₁.heap.objs.size < (s₁.heap.push _).objs.size
  rw [Heap.size_push]; exact Nat.lt_succ_self _
theorem ListComp_I {elt iter tst : Expr} {x : Str} {px : Pos} {scope : Scope} {cl : List (Str × Addr)} {pos : Pos} {Q : Value → Shared → Prop} (_F₀ : Fr h₀ L s.heap m)
    (hclos : closureFor scope env = pure cl) (hcell : ∀ y ∈ scope.names, y.2 ≠ .cell) (hkind : scope.kind = .function)
    (hnames : ∀ y ∈ scope.names, y.2 = .local → scope.names.lookup y.1 = some .local) (hx : scope.names.lookup x = some .local)
    (h : wpAny (model prog w) A (eval iter env) (SrcI prog w A h₀ L m env elt tst x scope cl (FinEJ h₀ L m Q)) E s)
    (hs : ∀ x, foldedSetIterable iter env x = pure x := by intro _; rfl) :
    wpAny (model prog w) A (eval (.ListComp elt [⟨.Name x px, iter, [tst], 0⟩] scope pos) env) Q E s := by
  rw [eval_ListComp]
  refine wpAny_comprehension_free (use := none) rfl hs hclos hkind hnames (wpAny_mono h (fun xv s₁ h₁ => ?_) fun _ _ e => e)
  refine lsrcI hcell hkind hx h₁ fun base D C h tk g d m' ys news' fin F' N' o1 hn hC₀ hD₀ hCL hDL hCD offC hbs => ?_
  refine ⟨m', hn, fun h'' hs'' => fin D h'' tk d hbs (F'.change hs'' hCL hC₀) (fun p hp => ?_) o1⟩
  refine ⟨hs''.extBut _ _ ?_ (N' p hp).1, (N' p hp).2⟩
  rcases List.mem_cons.mp hp with rfl | hp
  · exact Ne.symm hCD
  · exact offC p hp
end
end
section
open PySem PySem.Calls PyProof.Rows PySem.W PySem.Spec PyProof.Rows.LCg
noncomputable def PairsAt (h₀ : Heap) (ax : Addr) (its : Array Value) (pr : List (Value × Value)) (nw : List (Addr × Obj)) : Prop :=
  SrcAt h₀ ax its nw ∧ its.size = pr.length ∧ ∀ (i : Nat) (a b : Value), pr[i]? = some (a, b) → ∃ T : Addr, its[i]? = some (.ref T) ∧ (T, tupOf [a, b]) ∈ nw
theorem PairsAt.get {h₀ : Heap} {ax : Addr} {its : Array Value} {pr : List (Value × Value)} {nw : List (Addr × Obj)} (h : PairsAt h₀ ax its pr nw) {i : Nat} {v : Value} (hv : its[i]? = some v) : ∃ T a b, v = .ref T ∧ (T, tupOf [a, b]) ∈ nw ∧ pr[i]? = some (a, b) := by
  have hi : i < pr.length := by rw [← h.2.1]; exact (Array.getElem?_eq_some_iff.mp hv).1
  obtain ⟨T, h1, h2⟩ := h.2.2 i pr[i].1 pr[i].2 (List.getElem?_eq_getElem hi)
  rw [hv] at h1
  exact ⟨T, _, _, Option.some.inj h1, h2, List.getElem?_eq_getElem hi⟩
theorem tup_two {h : Heap} {h₀ : Heap} {L : Addr} {nw : List (Addr × Obj)} {T : Addr} {a b : Value} (N : News h₀ L h nw) (hm : (T, tupOf [a, b]) ∈ nw) : h.IsTuple T #[a, b] := ⟨_, (N _ hm).1, rfl, _, rfl⟩
noncomputable def EltTP (prog : Program) (w : World) (A : Around) (h₀ : Heap) (L : Addr) (m : Str → Option Value) (env : Env) (elt : Expr) (ifs : List Expr) (xa xb : Str) (scope : Scope) (cl : List (Str × Addr)) (s : Shared) (S : List (Addr × Obj) → Prop) (pr : List (Value × Value)) (n : Nat) (J : Nat → List Value → List (Addr × Obj) → Gens → Prop) : Prop :=
  ∀ i va vb I oI C oC D m₂ h tk g d ys news (E' : Value → Shared → Prop), i < n → pr[i]? = some (va, vb) → J i ys news g → S news → NsObj oC m₂ → m₂ xa = some va → m₂ xb = some vb → Fr h₀ L h m → News h₀ L h ((I, oI) :: (C, oC) :: (D, lst ys) :: news) → Off3 I C D news → ((@Ne Nat I C) ∧ (@Ne Nat I D) ∧ (@Ne Nat C D)) → ItObj oI →
    wpAny (model prog w) A (forIn ifs true fun c r => if r = true then do let ok ← isTrue c (compEnvC scope cl C env) (eval c (compEnvC scope cl C env)); pure (ForInStep.yield ok) else pure (ForInStep.yield r)) (fun ok s₃ => if ok = true then wpAny (model prog w) A (eval elt (compEnvC scope cl C env)) (CEndJ h₀ L m s I oI C oC D ys S (J (i + 1))) E' s₃ else SkipJ h₀ L m s I oI C oC D ys S (J (i + 1)) s₃) E' (stG s h tk g d)
section
variable {prog : Program} {w : World} {A : Around} {E : Value → Shared → Prop} {s : Shared} {h₀ : Heap} {L : Addr} {m : Str → Option Value} {env : Env}
theorem compLoopP {elt target iter : Expr} {ifs : List Expr} {scope : Scope} {pos : Pos} {it acc : Value} {env : Env} {R : Result → Shared → Prop} (I : Nat → Shared → Prop)
    (turn : ∀ n s, I n s → wpAny (model prog w) A (pyNext it) (fun r s₁ => match r with
      | none => R (.ok .next) s₁
      | some v => wpAny (model prog w) A (letOwnedTupleGo target it v) (fun _ s₀ => wpAny (model prog w) A (assign target env v) (fun _ s₂ =>
          wpAny (model prog w) A (forIn ifs true fun c r => if r = true then do let ok ← isTrue c env (eval c env); pure (ForInStep.yield ok) else pure (ForInStep.yield r)) (fun ok s₃ =>
            if ok = true then wpAny (model prog w) A (eval elt env) (fun x s₄ =>
              wpAny (model prog w) A (call (.builtin "list.append") [acc, x]) (fun _ s₅ => ∃ m, m < n ∧ I m s₅) (notedBy (model prog w) A env fun e s' => R (.error e) s') s₄) (notedBy (model prog w) A env fun e s' => R (.error e) s') s₃
            else ∃ m, m < n ∧ I m s₃) (notedBy (model prog w) A env fun e s' => R (.error e) s') s₂) (notedBy (model prog w) A env fun e s' => R (.error e) s') s₀) (notedBy (model prog w) A env fun e s' => R (.error e) s') s₁) (notedBy (model prog w) A env fun e s' => R (.error e) s') s)
    (n : Nat) (h : I n s) : codeAny (model prog w) A (.compLoop (.ListComp elt [⟨target, iter, ifs, 0⟩] scope pos) 0 it acc env) R s := by
  refine codeAny_loop rfl I (fun n s hI => ?_) n h
  show wpAny _ A ((compTurn (.ListComp elt [⟨target, iter, ifs, 0⟩] scope pos) 0 it acc env).onRaise (fun x => do noteFrame x env; theTreesLotGoes x)) _ _ s
  refine wpAny_noted ?_
  rw [compTurn_list]
  refine wpAny_bind (wpAny_standAt (wpAny_bind (wpAny_mono (turn n s hI) (fun r s₁ h₁ => ?_) fun _ _ h' => h')))
  cases r with
  | none => exact wpAny_pure h₁
  | some v =>
    refine wpAny_bind (wpAny_mono h₁ (fun _ s₀ h₀' => ?_) fun _ _ h' => h')
    refine wpAny_bind (wpAny_mono h₀' (fun _ s₂ h₂ => wpAny_bind (wpAny_mono h₂ (fun ok s₃ h₃ => ?_) fun _ _ h' => h')) fun _ _ h' => h')
    cases ok with
    | false => exact wpAny_pure ⟨rfl, h₃⟩
    | true =>
      exact wpAny_bind (wpAny_bind (wpAny_mono h₃ (fun x s₄ h₄ => wpAny_bind (wpAny_mono h₄ (fun _ s₅ h₅ => wpAny_pure (wpAny_pure ⟨rfl, h₅⟩)) fun _ _ h' => h')) fun _ _ h' => h'))
theorem lblockP {elt iter : Expr} {ifs : List Expr} {xa xb : Str} {pa pb tp : Pos} {kk : Nat} {scope : Scope} {cl : List (Str × Addr)} {pos : Pos} {s₂ : Shared} {I ax : Addr} {its : Array Value} {pr : List (Value × Value)} {news : List (Addr × Obj)}
    {J : Nat → List Value → List (Addr × Obj) → Gens → Prop} {RR : Value → Addr → Result → Shared → Prop}
    (hh : A.handled = none) (hne : ax ≠ I) (hsz : its.size ≤ sizeLine) (hax : ax < s₂.heap.objs.size)
    (hcell : ∀ y ∈ scope.names, y.2 ≠ .cell) (hkind : scope.kind = .function) (hxa : scope.names.lookup xa = some .local) (hxb : scope.names.lookup xb = some .local) (hab : ¬ xa = xb) (hst : s₂.heap.IsListIter I ax 0 ∧ s₂.heap.IsList ax its)
    (F : Fr h₀ L s₂.heap m) (N : News h₀ L s₂.heap news) (hIL : L ≠ I) (hI₀ : h₀.get? I = none) (off : ∀ p ∈ news, p.1 ≠ I) (hS : PairsAt h₀ ax its pr news) (hs : ∃ h, s₂ = { s with heap := h })
    (hJ : J 0 [] news s.gens) (R : EltTP prog w A h₀ L m env elt ifs xa xb scope cl s (PairsAt h₀ ax its pr) pr its.size J)
    (hRR : ∀ D C h tk g d m' ys news', J its.size ys news' g → Fr h₀ L h m → News h₀ L h ((D, lst ys) :: news') → Off1 D news' → h.Ns C m' → h₀.get? C = none → h₀.get? D = none → C ≠ L → D ≠ L → C ≠ D → (∀ p ∈ news', p.1 ≠ C) → (∀ q ∈ news, q.1 < D) → RR (.ref D) C (.ok .next) (stG s h tk g d)) :
    wpAny (model prog w) A (newList []) (fun acc s₃ => wpAny (model prog w) A (newFunctionEnv scope env.globals cl [] env.qual none .none (some env)) (fun cenv s₄ =>
      codeAny (model prog w) A (.compStart (.ListComp elt [⟨.Tuple [.Name xa pa, .Name xb pb] kk tp, iter, ifs, 0⟩] scope pos) 0 (.ref I) acc { cenv with scope := relabel scope env }) (RR acc cenv.locals) s₄) E s₃) E s₂ := by
  obtain ⟨hp, rfl⟩ := hs
  dsimp only at hst hax F N ⊢
  refine wpAny_newObj_type (wpAny_newFunctionEnv hcell (by intro y hy; simp at hy) (fun h₁ hns₁ hsb₁ => ?_) hkind)
  dsimp only at hns₁ hsb₁ ⊢
  generalize hH2 : hp.push { cls := .type "list", dict := none, data := .seq ([] : List Value).toArray } = H2 at hns₁ hsb₁ ⊢
  have hC : H2.objs.size = hp.objs.size + 1 := by rw [← hH2, Heap.size_push]
  have hDC : hp.objs.size ≠ H2.objs.size := by rw [hC]; exact Nat.ne_of_lt (Nat.lt_succ_self _)
  have below : ∀ b, b < hp.objs.size → b ≠ H2.objs.size ∧ b ≠ hp.objs.size := fun b hb => ⟨by rw [hC]; exact Nat.ne_of_lt (Nat.lt_succ_of_lt hb), Nat.ne_of_lt hb⟩
  let W := Walks.list (prog := prog) (w := w) (A := A) hh I ax hne its
  have hI1 := hst.1
  obtain ⟨oi0, hoi0, _⟩ := hI1
  have hfp : ∀ b ∈ [I, ax], b < hp.objs.size := fun b hb => by
    rcases List.mem_cons.mp hb with rfl | hb
    · exact Heap.lt_size hoi0
    · rw [List.mem_singleton.mp hb]; exact hax
  have hDf : hp.objs.size ∉ [I, ax] := fun hm => Nat.lt_irrefl _ (hfp _ hm)
  have hCf : H2.objs.size ∉ [I, ax] := fun hm => by have := hfp _ hm; rw [hC] at this; exact Nat.lt_irrefl _ (Nat.lt_of_succ_lt this)
  have hIlt : I < hp.objs.size := Heap.lt_size hoi0
  have old : ∀ b o, hp.get? b = some o → h₁.get? b = some o := fun b o e => hsb₁.extBut b o (below b (Heap.lt_size e)).1 (Heap.get?_push_of_some _ (hH2 ▸ Heap.get?_push_of_some _ e))
  have hacc : h₁.get? hp.objs.size = some (lst []) := hsb₁.extBut _ _ hDC (Heap.get?_push_of_some _ (hH2 ▸ Heap.get?_push_size _ rfl))
  have hst₁ : h₁.IsListIter I ax 0 ∧ h₁.IsList ax its := W.frame _ _ _ hst fun b _ o e => old b o e
  have hD0 := kdx_fresh F (Nat.le_refl hp.objs.size)
  have hC0 := kdx_fresh F (x := H2.objs.size) (by rw [hC]; exact Nat.le_succ _)
  obtain ⟨hDL, hD₀⟩ := hD0
  obtain ⟨hCL, hC₀⟩ := hC0
  have hCI : I ≠ H2.objs.size := (below I hIlt).1
  have hDI : I ≠ hp.objs.size := (below I hIlt).2
  have off₀ : Off3 I H2.objs.size hp.objs.size news := Off3.of fun p hq => ⟨off p hq, (below _ (Heap.lt_size (N p hq).1)).1, (below _ (Heap.lt_size (N p hq).1)).2⟩
  have loop : ∀ tk0, codeAny (model prog w) A (.compLoop (.ListComp elt [⟨.Tuple [.Name xa pa, .Name xb pb] kk tp, iter, ifs, 0⟩] scope pos) 0 (.ref I) (.ref hp.objs.size) (compEnvC scope cl H2.objs.size env)) (RR (.ref hp.objs.size) H2.objs.size) { s with heap := h₁, toks := tk0 } := by
    intro tk0
    refine compLoopP
      (CompI h₀ L m s I H2.objs.size hp.objs.size its.size (fun i h => h.IsListIter I ax i ∧ h.IsList ax its) (PairsAt h₀ ax its pr) J true) ?_ (its.size + 1)
      (CompI.mk h₁ _ _ _ 0 [] _ news (Nat.zero_le _) rfl (fun _ => Nat.le_refl _) hst₁ (F.keeps old) hns₁ (fun p hq => ?_) off₀ hS hJ)
    · rintro k s' ⟨h', tk, g, d, i, ys, m', news', hi, hkk, hyl, hst', F', hn', N', off', hS', R'⟩
      replace hyl := hyl rfl
      have off3 := off'.mem
      have hDn : ∀ p ∈ (hp.objs.size, lst ys) :: news', p.1 ≠ I := fun p hq => by
        rcases List.mem_cons.mp hq with rfl | hq
        · exact Ne.symm hDI
        · exact (off3 p hq).1
      by_cases hlt : i < its.size
      · refine W.item i _ _ _ hlt hst' fun v h₂ tk₂ hPv hst₂ hk₂ => ?_
        obtain ⟨T, va, vb, rfl, hT, hPP⟩ := hS'.get hPv
        refine wpAny_letOwnedTupleGo_listiter hst₂.1 ?_
        have N₂ := news_but N' hk₂ hDn
        refine kcp_assign (env := compEnvC scope cl H2.objs.size env) hh (tup_two N₂ (.tail _ hT)) (lookup_relabel_local hxa) (lookup_relabel_local hxb) (by simp [compEnvC, relabel, hkind]) (hn'.at' fun o e => hk₂ _ o (by simpa using Ne.symm hCI) e) fun h₃ tk₃ hn₃ hs₃ => ?_
        have hst₃ : h₃.IsListIter I ax (i + 1) ∧ h₃.IsList ax its := W.frame _ _ _ hst₂ fun b hb o e => hs₃ b o (fun q => hCf (by have q' : b = H2.objs.size := q; rw [← q']; exact hb)) e
        obtain ⟨oI, heI, hoI⟩ : ∃ o, h₃.get? I = some o ∧ ItObj o := by obtain ⟨o, e, _, d⟩ := hst₃.1; exact ⟨o, e, it_list d⟩
        obtain ⟨oC, heC, hoC⟩ := ns_obj hn₃
        have F₂ := fr_but F' hk₂ hIL hI₀
        have F₃ : Fr h₀ L h₃ m := ⟨F₂.ns.at' fun o e => hs₃ _ o (Ne.symm hCL) e, fun b o e => hs₃ b o (fun q => by have q' : b = H2.objs.size := q; rw [q', hC₀] at e; cases e) (F₂.keep b o e), F₂.above⟩
        have N₃ : News h₀ L h₃ ((I, oI) :: (H2.objs.size, oC) :: (hp.objs.size, lst ys) :: news') := fun p hq => by
          rcases List.mem_cons.mp hq with rfl | hq
          · exact ⟨heI, Ne.symm hIL, hI₀⟩
          · rcases List.mem_cons.mp hq with rfl | hq
            · exact ⟨heC, hCL, hC₀⟩
            · have z := N₂ p hq
              refine ⟨hs₃ _ _ ?_ z.1, z.2⟩
              rcases List.mem_cons.mp hq with rfl | hq
              · exact hDC
              · exact (off3 p hq).2.1
        refine wpAny_mono (R i va vb I oI H2.objs.size oC hp.objs.size _ h₃ _ _ _ _ _ _ hlt hPP R' hS' hoC (by simp [hab]) (by simp) F₃ N₃ off' ⟨hCI, hDI, Ne.symm hDC⟩ hoI) (fun ok s₃ hok => ?_) fun _ _ e => e
        cases ok with
        | false =>
          rw [if_neg Bool.false_ne_true] at hok ⊢
          obtain ⟨h₄, tk₄, g₄, d₄, news₄, F₄, N₄, off₄, hS₄, R₄⟩ := hok
          have zI := (N₄ _ (.head _)).1
          have zC := (N₄ _ (.tail _ (.head _))).1
          have N₄' : News h₀ L h₄ news₄ := fun p hq => N₄ p (.tail _ (.tail _ (.tail _ hq)))
          have hst₄ : h₄.IsListIter I ax (i + 1) ∧ h₄.IsList ax its := list_st _ _ _ _ _ hst₃ heI zI F₄.keep N₄' hS₄.1
          exact ⟨its.size + 1 - (i + 1), dec_lt hlt hkk, h₄, tk₄, g₄, d₄, i + 1, ys, _, news₄, hlt, rfl, (fun _ => Nat.le_succ_of_le hyl), hst₄, F₄, hoC.ns zC, fun p hq => N₄ p (.tail _ (.tail _ hq)), off₄, hS₄, R₄⟩
        | true =>
          rw [if_pos rfl] at hok ⊢
          refine wpAny_mono hok (fun y s₄ h₄ => ?_) fun _ _ e => e
          obtain ⟨h₄, tk₄, g₄, d₄, news₄, F₄, N₄, off₄, hS₄, R₄⟩ := h₄
          have zI := (N₄ _ (.head _)).1
          have zC := (N₄ _ (.tail _ (.head _))).1
          have zD := (N₄ _ (.tail _ (.tail _ (.head _)))).1
          have N₄' : News h₀ L h₄ news₄ := fun p hq => N₄ p (.tail _ (.tail _ (.tail _ hq)))
          have hst₄ : h₄.IsListIter I ax (i + 1) ∧ h₄.IsList ax its := list_st _ _ _ _ _ hst₃ heI zI F₄.keep N₄' hS₄.1
          refine append_at (hsz := by show ys.toArray.size ≤ sizeLine; rw [List.size_toArray]; exact Nat.le_trans hyl (Nat.le_trans hi hsz)) zD fun h₅ hs₅ hD₅ => ?_
          have off4 := off₄.mem
          refine ⟨its.size + 1 - (i + 1), dec_lt hlt hkk, h₅, tk₄, g₄, d₄, i + 1, ys ++ [y], _, news₄, hlt, rfl, (fun _ => by rw [List.length_append, List.length_singleton]; exact Nat.succ_le_succ hyl), W.frame _ _ _ hst₄ fun b hb o e => hs₅.extBut b o (fun q => hDf (q ▸ hb)) e, F₄.change hs₅ hDL hD₀,
            (hoC.ns zC).sameBut hs₅ (Ne.symm hDC), fun p hq => ?_, off₄, hS₄, R₄⟩
          rcases List.mem_cons.mp hq with rfl | hq
          · exact ⟨hD₅.trans (congrArg some (lst_snoc ys y)), hDL, hD₀⟩
          · exact ⟨hs₅.extBut _ _ (off4 p hq).2.2 (N₄' p hq).1, (N₄' p hq).2⟩
      · obtain rfl : i = its.size := Nat.le_antisymm hi (Nat.not_lt.mp hlt)
        refine W.done _ _ _ hst' fun h₂ tk₂ hk₂ => ?_
        exact hRR _ _ h₂ tk₂ g d _ ys news' R' (fr_but F' hk₂ hIL hI₀) (news_but N' hk₂ hDn) off'.one (hn'.at' fun o e => hk₂ _ o (by simpa using Ne.symm hCI) e) hC₀ hD₀ hCL hDL (Ne.symm hDC) (fun p hq => (off3 p hq).2.1) (fun q hq => Heap.lt_size (N q hq).1)
    · rcases List.mem_cons.mp hq with rfl | hq
      · exact ⟨hacc, hDL, hD₀⟩
      · exact ⟨old _ _ (N p hq).1, (N p hq).2⟩
  exact codeAny_compStart_list (loop _) (W.self 0 _ _ _ hst₁ (loop _))
inductive SrcP (prog : Program) (w : World) (A : Around) (h₀ : Heap) (L : Addr) (m : Str → Option Value) (env : Env) (elt : Expr) (ifs : List Expr) (xa xb : Str) (scope : Scope) (cl : List (Str × Addr)) (Fin : List (Addr × Obj) → List Value → List (Addr × Obj) → Gens → Shared → Prop) : Value → Shared → Prop
  | mk {s₁ : Shared} (ax : Addr) (its : Array Value) (k : Nat) (pr : List (Value × Value)) (news : List (Addr × Obj)) (hh : A.handled = none) (F : Fr h₀ L s₁.heap m) (N : News h₀ L s₁.heap news) (hm : (ax, listOf its k) ∈ news) (hS : PairsAt h₀ ax its pr news) (hsz : its.size ≤ sizeLine)
    (J : Nat → List Value → List (Addr × Obj) → Gens → Prop) (j0 : J 0 [] news s₁.gens) (R : EltTP prog w A h₀ L m env elt ifs xa xb scope cl s₁ (PairsAt h₀ ax its pr) pr its.size J) (fin : ∀ ys nw g, J its.size ys nw g → Fin news ys nw g s₁) : SrcP prog w A h₀ L m env elt ifs xa xb scope cl Fin (.ref ax) s₁
theorem lsrcP {elt iter : Expr} {ifs : List Expr} {xa xb : Str} {pa pb tp : Pos} {kk : Nat} {scope : Scope} {cl : List (Str × Addr)} {pos : Pos} {RR : Value → Addr → Result → Shared → Prop} {Fin : List (Addr × Obj) → List Value → List (Addr × Obj) → Gens → Shared → Prop} {xv : Value} {s₁ : Shared}
    (hcell : ∀ y ∈ scope.names, y.2 ≠ .cell) (hkind : scope.kind = .function) (hxa : scope.names.lookup xa = some .local) (hxb : scope.names.lookup xb = some .local) (hab : ¬ xa = xb)
    (h : SrcP prog w A h₀ L m env elt ifs xa xb scope cl Fin xv s₁)
    (hRR : ∀ base D C h tk g d m' ys news', Fin base ys news' g s₁ → Fr h₀ L h m → News h₀ L h ((D, lst ys) :: news') → Off1 D news' → h.Ns C m' → h₀.get? C = none → h₀.get? D = none → C ≠ L → D ≠ L → C ≠ D → (∀ p ∈ news', p.1 ≠ C) → (∀ q ∈ base, q.1 < D) → RR (.ref D) C (.ok .next) (stG s₁ h tk g d)) :
    wpAny (model prog w) A (pyIter xv) (fun it s₂ => wpAny (model prog w) A (newList []) (fun acc s₃ => wpAny (model prog w) A (newFunctionEnv scope env.globals cl [] env.qual none .none (some env)) (fun cenv s₄ =>
      codeAny (model prog w) A (.compStart (.ListComp elt [⟨.Tuple [.Name xa pa, .Name xb pb] kk tp, iter, ifs, 0⟩] scope pos) 0 it acc { cenv with scope := relabel scope env }) (RR acc cenv.locals) s₄) E s₃) E s₂) E s₁ := by
  obtain ⟨ax, its, k, pr, news, hh, F, N, hm, hS, hsz, J, j0, R, fin⟩ := h
  have hl : s₁.heap.IsList ax its := listOf_isList (N.get hm)
  have hlt : ax < s₁.heap.objs.size := Heap.lt_size (N.get hm)
  refine wpAny_pyIter_list hl ?_
  have up : ∀ b o, s₁.heap.get? b = some o → (s₁.heap.push { cls := .type "list_iterator", data := .fields #[.ref ax, .int 0 0] }).get? b = some o := fun b o e => Heap.get?_push_of_some _ e
  refine lblockP hh (Nat.ne_of_lt hlt) hsz ?_ hcell hkind hxa hxb hab ⟨⟨_, Heap.get?_push_size _ rfl, rfl, rfl⟩, hl.push _⟩
    (F.keeps up) (N.grown up) (Nat.ne_of_lt F.ns.lt) (next_is_new F) (fun p hp => Nat.ne_of_lt (Heap.lt_size (N p hp).1)) hS ⟨_, rfl⟩ j0 R fun D C h tk g d m' ys news' hJ => hRR _ D C h tk g d m' ys news' (fin _ _ _ hJ)
  show ax < (s₁.heap.push _).objs.size
  rw [Heap.size_push]; exact Nat.lt_succ_of_lt hlt
theorem ListComp_P {elt iter : Expr} {ifs : List Expr} {xa xb : Str} {pa pb tp : Pos} {kk : Nat} {scope : Scope} {cl : List (Str × Addr)} {pos : Pos} {Q : Value → Shared → Prop} (_F₀ : Fr h₀ L s.heap m)
    (hclos : closureFor scope env = pure cl) (hcell : ∀ y ∈ scope.names, y.2 ≠ .cell) (hkind : scope.kind = .function)
    (hnames : ∀ y ∈ scope.names, y.2 = .local → scope.names.lookup y.1 = some .local) (hxa : scope.names.lookup xa = some .local) (hxb : scope.names.lookup xb = some .local) (hab : ¬ xa = xb)
    (h : wpAny (model prog w) A (eval iter env) (SrcP prog w A h₀ L m env elt ifs xa xb scope cl (FinEJ h₀ L m Q)) E s)
    (hs : ∀ x, foldedSetIterable iter env x = pure x := by intro _; rfl) :
    wpAny (model prog w) A (eval (.ListComp elt [⟨.Tuple [.Name xa pa, .Name xb pb] kk tp, iter, ifs, 0⟩] scope pos) env) Q E s := by
  rw [eval_ListComp]
  refine wpAny_comprehension_free (use := none) rfl hs hclos hkind hnames (wpAny_mono h (fun xv s₁ h₁ => ?_) fun _ _ e => e)
  refine lsrcP hcell hkind hxa hxb hab h₁ fun base D C h tk g d m' ys news' fin F' N' o1 hn hC₀ hD₀ hCL hDL hCD offC hbs => ?_
  refine ⟨m', hn, fun h'' hs'' => fin D h'' tk d hbs (F'.change hs'' hCL hC₀) (fun p hp => ?_) o1⟩
  refine ⟨hs''.extBut _ _ ?_ (N' p hp).1, (N' p hp).2⟩
  rcases List.mem_cons.mp hp with rfl | hp
  · exact Ne.symm hCD
  · exact offC p hp
theorem Assign_ListComp_P {elt iter : Expr} {ifs : List Expr} {xa xb y : Str} {pa pb tp py : Pos} {kk : Nat} {scope : Scope} {cl : List (Str × Addr)} {pos spos : Pos} {Q : Flow → Shared → Prop} (_F₀ : Fr h₀ L s.heap m) (hLe : env.locals = L)
    (hsw : swapsWith (.ListComp elt [⟨.Tuple [.Name xa pa, .Name xb pb] kk tp, iter, ifs, 0⟩] scope pos) (some (.Name y py)) spos.line env = pure true)
    (hclos : closureFor scope env = pure cl) (hcell : ∀ z ∈ scope.names, z.2 ≠ .cell) (hkind : scope.kind = .function)
    (hnames : ∀ z ∈ scope.names, z.2 = .local → scope.names.lookup z.1 = some .local) (hxa : scope.names.lookup xa = some .local) (hxb : scope.names.lookup xb = some .local) (hab : ¬ xa = xb)
    (hy : env.kindOf y = some .local) (hp : (env.scope.kind == .class || (env.scope.kind == .module && env.locals != env.globals)) = false)
    (h : wpAny (model prog w) A (eval iter env) (SrcP prog w A h₀ L m env elt ifs xa xb scope cl (FinAJ h₀ L m y Q)) E s)
    (hs : ∀ x, foldedSetIterable iter env x = pure x := by intro _; rfl) :
    wpAny (model prog w) A (exec (.Assign [.Name y py] (.ListComp elt [⟨.Tuple [.Name xa pa, .Name xb pb] kk tp, iter, ifs, 0⟩] scope pos) spos) env) Q E s := by
  subst hLe
  rw [exec_Assign_Name_used _ _ _ _ hsw]
  refine wpAny_bind (wpAny_standAt (wpAny_bind ?_))
  show wpAny _ A (do let _ ← comprehension (.ListComp elt [⟨.Tuple [.Name xa pa, .Name xb pb] kk tp, iter, ifs, 0⟩] scope pos) scope env _ (newList []) false (eval iter env) (some (assign (.Name y py) env))) _ _ s
  refine wpAny_bind (wpAny_mono (wpAny_comprehension_free (use := some (assign (.Name y py) env)) (Q := fun _ s' => Q .next s') rfl hs hclos hkind hnames
    (wpAny_mono h (fun xv s₁ h₁ => ?_) fun _ _ e => e)) (fun _ s' hq => wpAny_pure (wpAny_pure hq)) fun _ _ e => e)
  refine lsrcP hcell hkind hxa hxb hab h₁ fun base D C h' tk g d m' ys news' fin F' N' o1 hn hC₀ hD₀ hCL hDL hCD offC hbs => ?_
  show wpAny _ A (assign (.Name y py) env (.ref D)) _ _ _
  refine wpAny_assign_Name (wpAny_storeName_local hy F'.ns (fun h₂ hn₂ hs₂ => ?_) hp)
  have hL₀ : h₀.get? env.locals = none := Heap.get?_none_of_le F'.above
  have F₂ : Fr h₀ env.locals h₂ (fun z => if z = y then some (.ref D) else m z) := ⟨hn₂, fun b o e => hs₂.extBut b o (fun q => by rw [q, hL₀] at e; cases e) (F'.keep b o e), F'.above⟩
  refine ⟨m', hn.sameBut hs₂ hCL, fun h'' hs'' => fin D h'' _ d hbs (F₂.change hs'' hCL hC₀) (fun p hp => ?_) o1⟩
  have z : h₂.get? p.1 = some p.2 := hs₂.extBut _ _ (N' p hp).2.1 (N' p hp).1
  refine ⟨hs''.extBut _ _ ?_ z, (N' p hp).2⟩
  rcases List.mem_cons.mp hp with rfl | hp
  · exact Ne.symm hCD
  · exact offC p hp
inductive GoFP (prog : Program) (w : World) (A : Around) (h₀ : Heap) (L : Addr) (m : Str → Option Value) (env : Env) (xa xb : Str) (body : List Stmt) (Q : Flow → Shared → Prop) (E : Value → Shared → Prop) (n : Nat) (pr : List (Value × Value)) (S : List (Addr × Obj) → Prop) (news : List (Addr × Obj)) (s : Shared) : Prop
  | mk (J : Nat → (Str → Option Value) → List (Addr × Obj) → Gens → Prop) (j0 : J 0 m news s.gens)
    (turn : ∀ i va vb I oI m₁ h tk g d nw, i < n → pr[i]? = some (va, vb) → J i m₁ nw g → S nw → Fr h₀ L h (fun z => if z = xb then some vb else if z = xa then some va else m₁ z) → News h₀ L h ((I, oI) :: nw) → Off1 I nw → ItObj oI →
      wpAny (model prog w) A (execs body env) (ForTurn h₀ L s I oI S (J (i + 1)) Q) E (stG s h tk g d))
    (done : ∀ m₁ nw h tk g d, J n m₁ nw g → Fr h₀ L h m₁ → News h₀ L h nw → Q .next (stG s h tk g d)) : GoFP prog w A h₀ L m env xa xb body Q E n pr S news s
theorem fblockP {xa xb : Str} {pa pb tp : Pos} {kk : Nat} {body : List Stmt} {Q : Flow → Shared → Prop} {I ax : Addr} {its : Array Value} {pr : List (Value × Value)} {news : List (Addr × Obj)} {hp : Heap}
    (hh : A.handled = none) (hne : ax ≠ I)
    (hxa : env.kindOf xa = some .local) (hxb : env.kindOf xb = some .local) (hpk : (env.scope.kind == .class || (env.scope.kind == .module && env.locals != env.globals)) = false) (hst : hp.IsListIter I ax 0 ∧ hp.IsList ax its) (hLf : env.locals ∉ [I, ax])
    (F : Fr h₀ env.locals hp m) (N : News h₀ env.locals hp news) (hI₀ : h₀.get? I = none) (off : ∀ p ∈ news, p.1 ≠ I) (hS : PairsAt h₀ ax its pr news)
    (hE : PassesOwn (model prog w) A env E)
    (G : GoFP prog w A h₀ env.locals m env xa xb body Q E its.size pr (PairsAt h₀ ax its pr) news s) :
    codeAny (model prog w) A (.forLoop (.Tuple [.Name xa pa, .Name xb pb] kk tp) (.ref I) body [] env) (fun r s' => match r with | .ok f => Q f s' | .error e => cameBackBy (model prog w) A env E e s') { s with heap := hp } := by
  obtain ⟨J, j0, turn, done⟩ := G
  let W := Walks.list (prog := prog) (w := w) (A := A) hh I ax hne its
  have hIL : env.locals ≠ I := fun e => hLf (e ▸ W.sub I (List.mem_singleton.mpr rfl))
  have hL₀ : h₀.get? env.locals = none := Heap.get?_none_of_le F.above
  refine codeAny_forLoop_any (R := fun r s' => match r with | .ok f => Q f s' | .error e => cameBackBy (model prog w) A env E e s')
    (ForI h₀ env.locals s I its.size (fun i h => h.IsListIter I ax i ∧ h.IsList ax its) (PairsAt h₀ ax its pr) J) ?_ (its.size + 1)
    (ForI.mk hp _ _ _ 0 m news (Nat.zero_le _) rfl hst F N off hS j0)
  rintro k s' ⟨h', tk, g, d, i, m', news', hi, hkk, hst', F', N', off', hS', R'⟩
  by_cases hlt : i < its.size
  · refine W.item i _ _ _ hlt hst' fun v h₂ tk₂ hPv hst₂ hk₂ => ?_
    have F₂ : Fr h₀ env.locals h₂ m' := fr_but F' hk₂ hIL hI₀
    have N₂ : News h₀ env.locals h₂ news' := news_but N' hk₂ off'
    obtain ⟨T, va, vb, rfl, hT, hPP⟩ := hS'.get hPv
    refine wpAny_letOwnedTupleGo_listiter hst₂.1 ?_
    refine kcp_assign hh (tup_two N₂ hT) hxa hxb hpk F₂.ns fun h₃ tk₃ hn₃ hs₃ => ?_
    have hst₃ : h₃.IsListIter I ax (i + 1) ∧ h₃.IsList ax its := W.frame _ _ _ hst₂ fun b hb o e => hs₃ b o (fun q => hLf (by have q' : b = env.locals := q; rw [← q']; exact hb)) e
    obtain ⟨oI, heI, hoI⟩ : ∃ o, h₃.get? I = some o ∧ ItObj o := by obtain ⟨o, e, _, d⟩ := hst₃.1; exact ⟨o, e, it_list d⟩
    have F₃ : Fr h₀ env.locals h₃ (fun z => if z = xb then some vb else if z = xa then some va else m' z) := ⟨hn₃, fun b o e => hs₃ b o (fun q => by rw [q, hL₀] at e; cases e) (F₂.keep b o e), F₂.above⟩
    have N₃ : News h₀ env.locals h₃ ((I, oI) :: news') := fun p hq => by
      rcases List.mem_cons.mp hq with rfl | hq
      · exact ⟨heI, Ne.symm hIL, hI₀⟩
      · exact ⟨hs₃ _ _ (N₂ p hq).2.1 (N₂ p hq).1, (N₂ p hq).2⟩
    refine wpAny_passesOwn hE (wpAny_mono (turn i va vb I oI m' h₃ _ g d news' hlt hPP R' hS' F₃ N₃ (off1_of _ off') hoI) (fun f s₃ h₄ => ?_) fun _ _ e => e)
    have fin : ForEndJ h₀ env.locals s I oI (PairsAt h₀ ax its pr) (J (i + 1)) s₃ → ∃ m, m < k ∧ ForI h₀ env.locals s I its.size (fun i h => h.IsListIter I ax i ∧ h.IsList ax its) (PairsAt h₀ ax its pr) J m s₃ := by
      rintro ⟨h₅, tk₄, g₄, d₄, m₄, news₄, F₄, N₄, off₄, hS₄, R₄⟩
      exact ⟨its.size + 1 - (i + 1), dec_lt hlt hkk, h₅, tk₄, g₄, d₄, i + 1, m₄, news₄, hlt, rfl, list_st _ _ _ _ _ hst₃ heI (N₄ _ (.head _)).1 F₄.keep (fun p hp => N₄ p (.tail _ hp)) hS₄.1, F₄, fun p hp => N₄ p (.tail _ hp), off1_mem _ off₄, hS₄, R₄⟩
    cases f with
    | ret v => exact h₄
    | brk => exact h₄.elim
    | cont => exact fin h₄
    | next => exact fin h₄
  · obtain rfl : i = its.size := Nat.le_antisymm hi (Nat.not_lt.mp hlt)
    refine W.done _ _ _ hst' fun h₂ tk₂ hk₂ => wpAny_execs_nil ?_
    exact done _ _ _ _ _ _ R' (fr_but F' hk₂ hIL hI₀) (news_but N' hk₂ off')
inductive SrcFP (prog : Program) (w : World) (A : Around) (h₀ : Heap) (L : Addr) (env : Env) (xa xb : Str) (body : List Stmt) (Q : Flow → Shared → Prop) (E : Value → Shared → Prop) : Value → Shared → Prop
  | mk {s₁ : Shared} (ax : Addr) (its : Array Value) (k : Nat) (pr : List (Value × Value)) (news : List (Addr × Obj)) (m : Str → Option Value) (hh : A.handled = none) (F : Fr h₀ L s₁.heap m) (N : News h₀ L s₁.heap news) (hm : (ax, listOf its k) ∈ news) (hS : PairsAt h₀ ax its pr news) (G : GoFP prog w A h₀ L m env xa xb body Q E its.size pr (PairsAt h₀ ax its pr) news s₁) : SrcFP prog w A h₀ L env xa xb body Q E (.ref ax) s₁
theorem For_P {xa xb : Str} {pa pb tp pos : Pos} {kk : Nat} {iter : Expr} {body : List Stmt} {Q : Flow → Shared → Prop} (_F₀ : Fr h₀ L s.heap m) (hLe : env.locals = L)
    (hxa : env.kindOf xa = some .local) (hxb : env.kindOf xb = some .local) (hpk : (env.scope.kind == .class || (env.scope.kind == .module && env.locals != env.globals)) = false)
    (h : wpAny (model prog w) A (eval iter env) (SrcFP prog w A h₀ L env xa xb body Q E) E s)
    (hs : ∀ x, foldedSetIterable iter env x = pure x := by intro _; rfl)
    (hE : PassesOwn (model prog w) A env E := by passes_own) :
    wpAny (model prog w) A (exec (.For (.Tuple [.Name xa pa, .Name xb pb] kk tp) iter body [] pos) env) Q E s := by
  subst hLe
  refine wpAny_For (wpAny_mono h (fun xv s₁ h₁ => ?_) fun _ _ e => e) hs
  obtain ⟨ax, its, k, pr, news, m, hh, F, N, hm, hS, G⟩ := h₁
  have hl : s₁.heap.IsList ax its := listOf_isList (N.get hm)
  have hlt : ax < s₁.heap.objs.size := Heap.lt_size (N.get hm)
  refine wpAny_pyIter_list hl ?_
  have up : ∀ b o, s₁.heap.get? b = some o → (s₁.heap.push { cls := .type "list_iterator", data := .fields #[.ref ax, .int 0 0] }).get? b = some o := fun b o e => Heap.get?_push_of_some _ e
  refine fblockP hh (Nat.ne_of_lt hlt) hxa hxb hpk ⟨⟨_, Heap.get?_push_size _ rfl, rfl, rfl⟩, hl.push _⟩ (fun hb => ?_)
    (F.keeps up) (N.grown up) (next_is_new F) (fun p hp => Nat.ne_of_lt (Heap.lt_size (N p hp).1)) hS hE G
  rcases List.mem_cons.mp hb with hb | hb
  · exact Nat.ne_of_lt F.ns.lt hb
  · exact (N _ hm).2.1 (List.mem_singleton.mp hb).symm
end
end
section
open PySem PySem.Calls PyProof.Rows PySem.W PySem.Spec
open Builtin Builtin.Str
section
variable {prog : Program} {w : World} {A : Around} {E : Value → Shared → Prop} {s : Shared} {h₀ : Heap} {L : Addr} {m : Str → Option Value} {news : List (Addr × Obj)}
theorem join_led {D : Nat} {sep : Str} {t : Tok} {l : List (Str × Tok)} {c : Nat} {Q : Value → Shared → Prop} (N : News h₀ L s.heap news) (hm : (D, listOf (strValues l).toArray c) ∈ news)
    (hz : tooLong ((l.map (·.1)).toArray.foldl (· + ·.length + sep.length) 0) = false) (hg : (glued sep (l.map (·.1))).length ≤ sizeLine) (h : ∀ t' tk', s.toks ≤ tk' → Q (.str (glued sep (l.map (·.1))) t') { s with toks := tk' }) :
    wpAny (model prog w) A (call (.builtin "str.join") [.str sep t, .ref D]) Q E s := by
  have hl : s.heap.IsList D (strValues l).toArray := listOf_isList (N.get hm)
  refine call_meets PySem.F.slot_str_join (typeIs_str _ _ _) PySem.F.entry_str_join (PySem.F.args_str_join_2 _ _) (meets_str_join_list sep t D l hz) ⟨hl, ?_⟩
  clear hz hm hl
  cases l with
  | nil => exact ⟨hg, h _ _ (Nat.le_succ _)⟩
  | cons p l =>
    cases l with
    | nil => exact h p.2 s.toks (Nat.le_refl _)
    | cons q r => exact ⟨hg, h _ _ (Nat.le_succ _)⟩
theorem join_led' {D : Nat} {sep x : Str} {t : Tok} {l : List (Str × Tok)} {c : Nat} {Q : Value → Shared → Prop} (N : News h₀ L s.heap news) (hm : (D, listOf (strValues l).toArray c) ∈ news)
    (hz : tooLong ((l.map (·.1)).toArray.foldl (· + ·.length + sep.length) 0) = false) (hx : glued sep (l.map (·.1)) = x) (hg : x.length ≤ sizeLine) (h : ∀ t' tk', s.toks ≤ tk' → Q (.str x t') { s with toks := tk' }) :
    wpAny (model prog w) A (call (.builtin "str.join") [.str sep t, .ref D]) Q E s := by
  subst hx
  exact join_led N hm hz hg h
end
end
section
open PySem PySem.W PyProof.Rows PySem.Calls PySem.Spec
theorem fin_start3 {P : Params} {h₀ h : Heap} {L : Addr} {l wd wr q pc dl nsd ns pm ps nn at_ : Nat} {tk : Nat → Tok} {t0 : XW} {done : Bool} {PC : Array Value} {X dts : List (Str × Tok)} {nsds nss pss : List Value} {tb : Array Value} {e0 f1 e2 e3 f4 f5 n3 : Nat} {oA : Obj} {rest big : List (Addr × Obj)}
    (N : News h₀ L h big) (m0 : (l, listOf #[] 0) ∈ big)
    (m1 : (wd, dictOf (wdict P tk (.ref q) (.ref dl) (.ref nsd) (.ref ns) (.ref pm) (.ref ps) .none true done t0) e0) ∈ big) (m2 : (wr, instObj 157 wd) ∈ big) (m3 : (q, bfmObj "list.append" (.ref pc)) ∈ big) (m4 : (pc, listOf PC f1) ∈ big) (m5 : (dl, listOf (strValues dts).toArray e2) ∈ big) (m6 : (nsd, listOf nsds.toArray e3) ∈ big) (m7 : (ns, listOf (nss.toArray.push (Value.ref l)) f4) ∈ big) (m8 : (ps, listOf (pss ++ [Value.bool false] ++ [Value.bool false]).toArray f5) ∈ big) (m9 : (130, tabObj tb) ∈ big) (m10 : (nn, listOf #[] n3) ∈ big) (m11 : (at_, oA) ∈ big) (mr : ∀ p ∈ rest, p ∈ big)
    (hX : PC = (strValues X).toArray) (a1 : @Ne Nat l 130) (a2 : @Ne Nat l pc) (a3 : @Ne Nat l wd) (a4 : @Ne Nat l dl) (a5 : @Ne Nat l nsd) (a6 : @Ne Nat l ns) (a7 : @Ne Nat l ps)
    (W : WOff wd pc dl nsd ns ps ((nn, listOf #[] n3) :: (at_, oA) :: rest)) :
    ∃ (l' : Nat) (rest' : List (Addr × Obj)), News h₀ L h (wCells P tk t0 wd wr q pc dl nsd ns pm ps true done X dts nsds (nss ++ [Value.ref l']) (pss ++ [Value.bool false, Value.bool false]) tb e0 f1 e2 e3 f4 f5 rest') ∧ WOff wd pc dl nsd ns ps rest' ∧ (l', listOf #[] 0) ∈ rest' ∧ (nn, listOf #[] n3) ∈ rest' ∧ (at_, oA) ∈ rest' ∧ ∀ p ∈ rest, p ∈ rest' := by
  refine ⟨l, (l, listOf #[] 0) :: (nn, listOf #[] n3) :: (at_, oA) :: rest, ?_, wOff_cons W a1 a2 a3 a4 a5 a6 a7, .head _, .tail _ (.head _), .tail _ (.tail _ (.head _)), fun p hp => .tail _ (.tail _ (.tail _ hp))⟩
  dsimp only [wCells]
  rw [show (nss ++ [Value.ref l]).toArray = nss.toArray.push (.ref l) from push_list.symm, app_two, ← hX]
  exact news_c N m1 (news_c N m2 (news_c N m3 (news_c N m4 (news_c N m5 (news_c N m6 (news_c N m7 (news_c N m8 (news_c N m9 (news_c N m0 (news_c N m10 (news_c N m11 fun p hp => N p (mr p hp))))))))))))
end
section
open PySem PySem.W PyProof.Rows PySem.Calls PySem.Spec
theorem fillIt_bNs : (PySem.Challenge.rw_pg0301_02 = PySem.Challenge.rw_pg0301_02) ∧ (hd2.heap_39 = hd2.heap_39) := by
  k_fill
  exact ⟨rfl, rfl⟩
noncomputable abbrev nsE (P : Params) (k v : String) (a b : Nat) : DictEntry := ⟨PyData.keyHash P (Str.ofString k), .str (Str.ofString k) a, .str (Str.ofString v) b⟩
noncomputable abbrev nsObj (P : Params) : Obj := { cls := .type "dict", data := .dict #[
  nsE P "http://www.w3.org/XML/1998/namespace" "xml" 339 340, nsE P "http://www.w3.org/1999/xhtml" "html" 341 342, nsE P "http://www.w3.org/1999/02/22-rdf-syntax-ns#" "rdf" 343 344,
  nsE P "http://schemas.xmlsoap.org/wsdl/" "wsdl" 345 346, nsE P "http://www.w3.org/2001/XMLSchema" "xs" 347 348, nsE P "http://www.w3.org/2001/XMLSchema-instance" "xsi" 349 350, nsE P "http://purl.org/dc/elements/1.1/" "dc" 351 352] 7 }
theorem nsLook (P : Params) : (hd2.heap_39 P).lookup 51 = some (nsObj P) := by kernel_rfl
noncomputable abbrev nsKvs : List (Str × Value) := [(Str.ofString "http://www.w3.org/XML/1998/namespace", .str (Str.ofString "xml") 340), (Str.ofString "http://www.w3.org/1999/xhtml", .str (Str.ofString "html") 342),
  (Str.ofString "http://www.w3.org/1999/02/22-rdf-syntax-ns#", .str (Str.ofString "rdf") 344), (Str.ofString "http://schemas.xmlsoap.org/wsdl/", .str (Str.ofString "wsdl") 346),
  (Str.ofString "http://www.w3.org/2001/XMLSchema", .str (Str.ofString "xs") 348), (Str.ofString "http://www.w3.org/2001/XMLSchema-instance", .str (Str.ofString "xsi") 350), (Str.ofString "http://purl.org/dc/elements/1.1/", .str (Str.ofString "dc") 352)]
theorem nsAt {w : World} {h : Heap} (X : (hd2.heap_39 w.params).In h) : h.DictAt (strKind P3 w) 51 nsKvs 7 := by
  refine ⟨nsObj w.params, _, X _ _ (nsLook _), ⟨rfl, rfl, rfl⟩, rfl, ?_, ?_, by decide +kernel⟩
  · intro e he
    simp only [List.mem_toArray, List.mem_cons, List.not_mem_nil, or_false] at he
    rcases he with rfl | rfl | rfl | rfl | rfl | rfl | rfl
    all_goals exact ⟨_, PySem.strKind_is _ _ _ _, rfl⟩
  · repeat (first | exact Pairs.nil | refine Pairs.cons (PySem.strKind_is _ _ _ _) rfl ?_)
section
variable {w : World} {A : Around} {E : Value → Shared → Prop} {s : Shared} {h₀ : Heap} {L : Addr} {m : Str → Option Value} {news : List (Addr × Obj)}
theorem ns_method {pl : Sem Bool} {Q : Value × List Value → Shared → Prop} (F : Fr h₀ L s.heap m) (X : (hd2.heap_39 w.params).In h₀) (h : Q (.builtin "dict.items", [.ref 51]) s) :
    wpAny (model P3 w) A (getMethod (.ref 51) (Str.ofString "items") pl) Q E s := by
  have hD := (nsAt (X.keeps F.keep)).dictOf
  exact getMethod_builtin hD.typeIs PySem.F.plainAttrs_dict PySem.F.slot_dict_items PySem.F.type_dict_items hD.mapOf.noDict h
theorem ns_view {Q : Value → Shared → Prop} (F : Fr h₀ L s.heap m) (N : News h₀ L s.heap news) (X : (hd2.heap_39 w.params).In h₀)
    (h : ∀ (D : Nat) h', Fr h₀ L h' m → News h₀ L h' ((D, { cls := .type "dict_items", data := .fields #[.ref 51] }) :: news) → (∀ q ∈ news, q.1 < D) → Q (.ref D) { s with heap := h' }) :
    wpAny (model P3 w) A (call (.builtin "dict.items") [.ref 51]) Q E s :=
  have hD := (nsAt (X.keeps F.keep)).dictOf
  call_meetsIn PySem.F.slot_dict_items hD.typeIs PySem.F.entry_dict_items (PySem.F.args_dict_items_1 _) (meets_dict_items (strKind P3 w) 51 rfl) ⟨⟨nsKvs, hD⟩, h _ _ (F.push _) (News.push F N _) fun q hq => Heap.lt_size (N q hq).1⟩
theorem ns_list {D : Nat} {Q : Value → Shared → Prop} (hh : A.handled = none) (F : Fr h₀ L s.heap m) (X : (hd2.heap_39 w.params).In h₀) (N : News h₀ L s.heap ((D, { cls := .type "dict_items", data := .fields #[.ref 51] }) :: news))
    (h : ∀ (B : Nat) h' tk, Fr h₀ L h' m → News h₀ L h' news → (∀ q ∈ news, q.1 < B) → L < B → Q (.ref B) { s with heap := h', toks := tk }) :
    wpAny (model P3 w) A (call (.type "list") [.ref D]) Q E s := by
  refine kdx_call (knd := strKind P3 w) (kvs := nsKvs) (ep := 7) hh ⟨_, (N _ (.head _)).1, rfl, rfl⟩ (nsAt (X.keeps F.keep)) (Nat.le_of_ble_eq_true rfl) fun h' tk acc c as hk hS hl hG hacc => ?_
  exact h _ h' tk (F.keeps hk) (fun q hq => ⟨hk _ _ (N q (.tail _ hq)).1, (N q (.tail _ hq)).2⟩) (fun q hq => Heap.lt_size (N q (.tail _ hq)).1) F.ns.lt
end
end
section
open PySem PySem.Calls PyProof.Rows PySem.W PySem.Spec
section
variable {prog : Program} {w : World} {A : Around} {E : Value → Shared → Prop} {s : Shared} {h₀ : Heap} {L : Addr} {m : Str → Option Value} {env : Env}
theorem name_fr {x : Str} {pos : Pos} {v : Value} {Q : Value → Shared → Prop} (F : Fr h₀ L s.heap m) (hL : env.locals = L) (hk : env.scope.kind = .function) (hx : env.kindOf x = some .local) (hb : (x == ("__debug__" : Str)) = false) (hm : m x = some v) (h : Q v s) :
    wpAny (model prog w) A (eval (.Name x pos) env) Q E s := by
  subst hL
  exact wpAny_Name (wpAny_loadName_local hk hx F.ns hm h) hb
theorem load_fr {x : Str} {v : Value} {Q : Value → Shared → Prop} (F : Fr h₀ L s.heap m) (hL : env.locals = L) (hk : env.scope.kind = .function) (hx : env.kindOf x = some .local) (hm : m x = some v) (h : Q v s) :
    wpAny (model prog w) A (loadName env x) Q E s := by
  subst hL
  exact wpAny_loadName_local hk hx F.ns hm h
end
end
section
open PySem PySem.Calls PyProof.Rows PySem.W PySem.Spec
section
variable {prog : Program} {w : World} {A : Around} {E : Value → Shared → Prop} {s : Shared} {h₀ : Heap} {L : Addr} {m : Str → Option Value} {news : List (Addr × Obj)}
theorem itemAt {value slice : PySem.Expr} {l : Addr} {its : Array Value} {v : Value} {n : Nat} {p : Nat} {u : Tok} {Q : Value → Shared → Prop} (N : News h₀ L s.heap news) (hm : (l, listOf its n) ∈ news) (hv : its[p]? = some v) (hz : p < 1000) (h : Q v s)
    (hs : subscripted slice false (.ref l) (.int (p : Int) u) = operate [.ref l, .int (p : Int) u] (getItem (.ref l) (.int (p : Int) u))) :
    wpAny (model prog w) A (subscriptTail value slice (.ref l) (.int (p : Int) u)) Q E s := by
  have hl : s.heap.IsList l its := ⟨_, N.get hm, rfl, n, rfl⟩
  have hlt : p < its.size := (Array.getElem?_eq_some_iff.mp hv).1
  have h63 : (p : Int) < 2 ^ 63 := by lia
  exact tail_any hl.typeIs slot_list_getitem.lookup (wpAny_getItem_list hl (Int.natCast_nonneg p) h63 (by rw [Int.toNat_natCast]; exact hv) h) hs
end
end
section
open PySem PySem.Calls PyProof.Rows PySem.W PySem.Spec
noncomputable def catS : List Str → Str
  | [] => Str.ofString ""
  | x :: r => x ++ catS r
theorem str_ext {x y : Str} (h : x.cps = y.cps) : x = y := by cases x; cases y; simp_all
theorem cps_app (x y : Str) : (x ++ y).cps = x.cps ++ y.cps := rfl
theorem cps_nil : (Str.ofString "").cps = #[] := by decide +kernel
theorem app_nil' (x : Str) : x ++ Str.ofString "" = x := str_ext (by rw [cps_app, cps_nil]; simp)
theorem nil_app' (x : Str) : Str.ofString "" ++ x = x := str_ext (by rw [cps_app, cps_nil]; simp)
theorem app_assoc' (x y z : Str) : x ++ y ++ z = x ++ (y ++ z) := str_ext (by simp only [cps_app]; simp)
theorem glue_fold : ∀ (l : List Str) (a : Array Nat), l.foldl (fun acc p => acc ++ (Str.ofString "").cps ++ p.cps) a = a ++ (catS l).cps
  | [], a => by simp [catS, cps_nil]
  | x :: r, a => by rw [List.foldl_cons, glue_fold r, catS, cps_app, cps_nil]; simp
theorem glued_cat (l : List Str) : Builtin.Str.glued (Str.ofString "") l = catS l := by
  cases l with
  | nil => exact str_ext (by rw [catS, cps_nil]; rfl)
  | cons x r => exact str_ext (by unfold Builtin.Str.glued; simp only [List.drop_succ_cons, List.drop_zero, List.headD_cons]; rw [glue_fold, catS, cps_app])
theorem catS_append (a b : List Str) : catS (a ++ b) = catS a ++ catS b := by
  induction a with
  | nil => rw [List.nil_append, catS, nil_app']
  | cons x r ih => rw [List.cons_append, catS, ih, catS, app_assoc']
theorem take_one {α : Type} {l : List α} {i : Nat} {x : α} (h : l[i]? = some x) : l.take (i + 1) = l.take i ++ [x] := by
  rw [List.take_add_one, h]; rfl
end
section
open PySem PySem.Calls PyProof.Rows PySem.W PySem.Spec
noncomputable def AllL (n : Nat) {α : Type} (P : α → Prop) : KasT α → Prop
  | .ret a => P a
  | .ask i j k => i < n ∧ j < n ∧ ∀ b, AllL n P (k b)
variable {n₀ : Nat}
theorem AllL.bind {α β : Type} {P : α → Prop} {R : β → Prop} {f : α → KasT β} : ∀ {t : KasT α}, AllL n₀ P t → (∀ a, P a → AllL n₀ R (f a)) → AllL n₀ R (t.bind f)
  | .ret a, h, hf => hf a h
  | .ask _ _ k, h, hf => ⟨h.1, h.2.1, fun b => AllL.bind (t := k b) (h.2.2 b) hf⟩
noncomputable def PermR (n : Nat) (p : Array Nat) : Prop := 0 < n ∧ p.Perm (List.toArray (List.range n))
theorem PermR.lt {p : Array Nat} (h : PermR n₀ p) (k : Nat) : p.getD k 0 < n₀ := by
  by_cases hk : k < p.size
  · have e : p.getD k 0 = p[k] := by simp [Array.getD, hk]
    rw [e]
    have hm : p[k] ∈ p.toList := by simp
    have hm' := (Array.perm_iff_toList_perm.mp h.2).mem_iff.mp hm
    exact List.mem_range.mp hm'
  · have e : p.getD k 0 = 0 := by simp [Array.getD, hk]
    rw [e]; exact h.1
theorem PermR.rev {p : Array Nat} (h : PermR n₀ p) (i j : Nat) : PermR n₀ (kas_rev p i j) := ⟨h.1, (mirror_perm _ _ _ _ : (kas_rev p i j).Perm p).trans h.2⟩
theorem PermR.bub {p : Array Nat} (h : PermR n₀ p) (i j : Nat) : PermR n₀ (bubble p i j) := ⟨h.1, (bubble_perm _ _ _).trans h.2⟩
theorem all_asc {p : Array Nat} (h : PermR n₀ p) : ∀ (f n : Nat), AllL n₀ (fun _ => True) (kas_asc p f n)
  | 0, _ => trivial
  | f + 1, n => by
    refine ⟨h.lt _, h.lt _, fun b => ?_⟩
    dsimp only
    split
    · trivial
    · exact all_asc h f (n + 1)
theorem all_place {p : Array Nat} (h : PermR n₀ p) (k : Nat) : ∀ (f l r : Nat), AllL n₀ (fun _ => True) (kas_place p k f l r)
  | 0, _, _ => trivial
  | f + 1, l, r => by
    unfold kas_place
    split
    · trivial
    · refine ⟨h.lt _, h.lt _, fun b => ?_⟩
      dsimp only
      split
      · exact all_place h k f _ _
      · exact all_place h k f _ _
theorem all_desc : ∀ (f : Nat) (p : Array Nat) (n q : Nat), PermR n₀ p → AllL n₀ (fun r : Array Nat × Nat × Nat => PermR n₀ r.1) (kas_desc f p n q)
  | 0, _, _, _, h => h
  | f + 1, p, n, q, h => by
    refine ⟨h.lt _, h.lt _, fun c => ?_⟩
    dsimp only
    split
    · split
      · exact all_desc f _ _ _ (h.rev _ _)
      · exact all_desc f _ _ _ h
    · refine ⟨h.lt _, h.lt _, fun d => ?_⟩
      dsimp only
      split
      · exact h
      · exact all_desc f _ _ _ h
theorem all_tail {p : Array Nat} (n r : Nat) (h : PermR n₀ p) : AllL n₀ (fun x : Nat × Array Nat => PermR n₀ x.2) (kas_tail3 n r p) :=
  AllL.bind (all_asc (h.rev _ _) _ _) fun _ _ => h.rev _ _
theorem all_descPart {p : Array Nat} (n r : Nat) (h : PermR n₀ p) : AllL n₀ (fun x : Nat × Array Nat => PermR n₀ x.2) (kas_descPart n r p) := by
  refine AllL.bind (all_desc _ _ _ _ h) fun a ha => ?_
  split
  · exact all_tail _ _ (ha.rev _ _)
  · exact all_tail _ _ ha
theorem all_count {p : Array Nat} (r : Nat) (h : PermR n₀ p) : AllL n₀ (fun x : Nat × Array Nat => PermR n₀ x.2) (kas_count r p) := by
  refine AllL.bind (all_asc h _ _) fun n _ => ?_
  split
  · exact h
  · split
    · refine ⟨h.lt _, h.lt _, fun c => ?_⟩
      dsimp only
      split
      · exact h
      · exact all_descPart _ _ (h.rev _ _)
    · exact all_descPart _ _ h
theorem all_bin : ∀ (f : Nat) (p : Array Nat) (k : Nat), PermR n₀ p → AllL n₀ (fun x : Array Nat => PermR n₀ x) (kas_bin f p k)
  | 0, _, _, h => h
  | f + 1, _, _, h => AllL.bind (all_place h _ _ _ _) fun _ _ => all_bin f _ _ (h.bub _ _)
theorem all_sort (hn : 0 < n₀) : AllL n₀ (fun x : Array Nat => PermR n₀ x) (kas_sort n₀) := by
  refine AllL.bind (all_count n₀ ⟨hn, Array.Perm.refl _⟩) fun r hr => ?_
  split
  · exact all_bin _ _ _ hr
  · exact hr
section
variable {prog : Program} {w : World} {A : Around} {E : Value → Shared → Prop} {s : Shared} {h₀ : Heap} {L : Addr} {m : Str → Option Value} {news : List (Addr × Obj)}
theorem ask_all {n : Nat} {cmp : Nat → Nat → (Bool → Shared → Prop) → Shared → Prop} {Q : Array Nat → Shared → Prop} {P : Array Nat → Prop} (hc : ∀ i j (C : Bool → Shared → Prop), i < n → j < n → (∀ b, C b s) → cmp i j C s) (hQ : ∀ p, P p → Q p s) :
    ∀ (t : KasT (Array Nat)), AllL n P t → t.kasWp cmp Q s
  | .ret _, h => hQ _ h
  | .ask i j k, h => hc i j _ h.1 h.2.1 fun b => ask_all hc hQ (k b) (h.2.2 b)
theorem lt_list1e {l1 l2 : Addr} {a b : Str} {t u : Tok} {n1 n2 : Nat} {Q : Bool → Shared → Prop} (hu : A.units < cLine) (h1 : s.heap.get? l1 = some (listOf #[.str a t] n1)) (h2 : s.heap.get? l2 = some (listOf #[.str b u] n2))
    (h : ∀ c, Q c s) : wpAny (model prog w) A (keyLt' oneType' (.ref l1) (.ref l2)) Q E s := by
  by_cases hab : a = b
  · rw [keyLt'_oneType, oneLt'_eq]
    simp only [if_true]
    refine wpAny_bind (wpAny_cRoomFor hu ?_)
    have hT1 : s.TypeIs (.ref l1) "list" := ⟨_, h1, rfl⟩
    have hT2 : s.TypeIs (.ref l2) "list" := ⟨_, h2, rfl⟩
    refine wpAny_bind (wpAny_callSpecialIfBound?_slot hT1 PySem.F.slot_list_lt (call_entry_go PySem.F.slot_list_lt hT1 PySem.F.entry_list_lt ?_ (PySem.F.args_list_lt_2 _ _)))
    show wpAny _ _ (do
      if !(← isInstance (.ref l2) (.type "list")) then return ← ret .notImplemented
      if CmpOp.Lt == .Eq || CmpOp.Lt == .NotEq then
        if (← Builtin.List.listItems (.ref l1)).size != (← Builtin.List.listItems (.ref l2)).size then rule "list.compare.lengths-differ"; return ← ret (.bool (CmpOp.Lt == .NotEq))
      again (.builtin "list.__eq__.loop" ⟨[.ref l1, .ref l2, rawInt 0, rawInt 0], []⟩)) _ _ s
    refine wpAny_bind (wpAny_isInstance (b := true) hT2 (by rw [isSubtype_type]; kernel_rfl) ?_)
    rw [if_neg (by decide), if_neg (by decide)]
    refine wpAny_pure ⟨Code.quiet_builtin _ (by decide +kernel), codeAny_builtin entry_eq_loop' ?_⟩
    rw [Around.under_plainId plain_eq_loop' _]
    unfold Builtin.«list.__eq__.loop»
    refine wpAny_bind (listItems_at h1 rfl ?_)
    refine wpAny_bind (listItems_at h2 rfl ?_)
    show wpAny _ _ (eqBool (.str a t) (.str b u) >>= _) _ _ s
    refine wpAny_bind (wpAny_eqBool_str ?_)
    rw [if_pos (by simpa using hab)]
    refine wpAny_pure ⟨Code.quiet_builtin _ (by decide +kernel), codeAny_builtin entry_eq_loop' ?_⟩
    rw [Around.under_plainId plain_eq_loop' _]
    unfold Builtin.«list.__eq__.loop»
    refine wpAny_bind (listItems_at h1 rfl ?_)
    refine wpAny_bind (listItems_at h2 rfl ?_)
    refine wpAny_bind (listItems_at h1 rfl ?_)
    refine wpAny_bind (listItems_at h2 rfl ?_)
    refine wpAny_pure ?_
    exact wpAny_truthy_bool (h _)
  · exact lt_list1 hu h1 h2 hab (h _)
theorem updF_app {a : Addr} {o : Obj} {tl rest : List (Addr × Obj)} (h1 : ∀ p ∈ tl, p.1 ≠ a) (h2 : ∀ p ∈ rest, p.1 ≠ a) : UpdF a o (tl ++ (a, o) :: rest) (fun o' => tl ++ (a, o') :: rest) := by
  induction tl with
  | nil => exact UpdF.head h2
  | cons p tl ih => exact UpdF.tail (h1 p (.head _)) (ih fun q hq => h1 q (.tail _ hq))
theorem vals_back {vs : List Value} {ks : List (Str × Tok)} (h : vs.Perm (strValues ks)) : ∃ zs : List (Str × Tok), vs = strValues zs ∧ zs.Perm ks := by
  let g : Value → Str × Tok := fun v => match v with | .str x t => (x, t) | _ => (Str.empty, 0)
  refine ⟨vs.map g, ?_, ?_⟩
  · have hm : ∀ v ∈ vs, ∃ p : Str × Tok, v = .str p.1 p.2 := fun v hv => by
      obtain ⟨p, _, rfl⟩ := List.mem_map.mp (h.mem_iff.mp hv)
      exact ⟨p, rfl⟩
    clear h
    induction vs with
    | nil => rfl
    | cons v vs ih =>
      obtain ⟨p, rfl⟩ := hm v (.head _)
      show _ :: vs = _ :: strValues (vs.map g)
      rw [← ih fun u hu => hm u (.tail _ hu)]
  · have h2 := h.map g
    have e : (strValues ks).map g = ks := by
      show (ks.map _).map g = ks
      rw [List.map_map]
      exact List.map_id'' (fun p => rfl) ks
    rw [e] at h2
    exact h2
theorem sorted_n {D : Addr} {o : Obj} {ks : List (Str × Tok)} {lam : Addr} {Q : Value → Shared → Prop} (hh : A.handled = none) (hu : A.units + 2 < cLine) (F : Fr h₀ L s.heap m) (N : News h₀ L s.heap news) (hD : (D, o) ∈ news) (hs : TSet prog w o ks)
    (h2 : 2 ≤ ks.length) (h64 : ks.length < 64) (hf : KeyOne prog w A.in1.in1 h₀ L m news (.ref lam) (ks.map (·.1)))
    (h : ∀ (R k : Nat) (zs : List (Str × Tok)) h' d' tk', zs.Perm ks → Fr h₀ L h' m → News h₀ L h' ((R, listOf (strValues zs).toArray k) :: news) → (∀ p ∈ news, p.1 < R) → Q (.ref R) { s with heap := h', drawn := d', toks := tk' }) :
    wpAny (model prog w) A (call (.builtin "sorted") [.ref D] [(Str.ofString "key", .ref lam)]) Q E s := by
  refine sorted_any hh F N hD hs (by lia) h64 fun R vs h' d' tk' hp F1 N1 hR hRL hR0 hRN => ?_
  obtain ⟨zs, rfl, hz⟩ := vals_back hp
  have hlz : zs.length = ks.length := hz.length_eq
  have hlv : (strValues zs).length = ks.length := by rw [← hlz]; simp [strValues]
  refine kat_keyed (s := { s with heap := h', drawn := d', toks := tk' }) F1 N1 hR hRL hR0 (fun p hp => Nat.ne_of_lt (hRN p hp)) (by rw [hlv]; exact h2) (by rw [hlv]; exact h64) fun kS e1 h2' F2 N2 l0 l1 => ?_
  have neR : ∀ p ∈ (R, seqObj "list" #[] e1) :: news, p.1 ≠ kS := fun p hp => by
    rcases List.mem_cons.mp hp with rfl | hp
    · exact Nat.ne_of_lt l0
    · exact Nat.ne_of_lt (l1 p hp)
  have go : ∀ (r : List (Str × Tok)) (kk : List Value) (tl : List (Addr × Obj)) (e tk9 : Nat) (h9 : Heap), (∀ p ∈ r, p.1 ∈ ks.map (·.1)) → kk.length + r.length = ks.length →
      (∀ v ∈ kk, ∃ la x t k, v = .ref la ∧ (la, listOf #[.str x t] k) ∈ tl) → (∀ p ∈ tl, p.1 ≠ kS ∧ p.1 ≠ R) → Fr h₀ L h9 m → News h₀ L h9 (tl ++ (kS, seqObj "list" (List.toArray kk) e) :: (R, seqObj "list" #[] e1) :: news) →
      KatKeys prog w A.in1.in1 h₀ L m kS (.ref lam) (fun ks' e s' => wpAny (model prog w) A.in1.in1 (keyKind' (List.toArray ks')) (fun κ s'' => (kas_sort (strValues zs).length).kasWp (kas_ask prog w A.in1.in1 κ (katRev false ks')) (fun p s3 => KatFin h₀ L m kS R ks' e e1 (katRev false (p.toList.map fun i => (katRev false (strValues zs)).getD i Value.none)) (fun s4 => ∃ v, PySem.Fin.done (.ret .none) = PySem.Fin.done (.ret v) ∧ Q (.ref R) s4) s3) s'') (fun _ _ => False) s') (strValues r) kk e
        { s with heap := h9, drawn := d', toks := tk9 } := by
    intro r
    induction r with
    | nil =>
      intro kk tl e tk9 h9 _ hlen hkk hoff F9 N9
      refine KatKeys.nil ?_
      have hlk : kk.length = ks.length := by simpa using hlen
      refine kas_kind (T := Value.type "list") (by lia) (fun v hv => ?_) (by decide) (by decide) ?_
      · obtain ⟨la, x, t, k, rfl, hm⟩ := hkk v hv
        exact looks_list (N9.get (List.mem_append_left _ hm))
      rw [hlv]
      refine ask_all (n := ks.length) (P := fun p => PermR ks.length p) (fun i j C hi hj hC => ?_) (fun p hpp => ?_) _ (all_sort (by lia))
      · have ai : ∀ i, i < ks.length → ∃ la x t k, kk.getD i Value.none = .ref la ∧ (la, listOf #[.str x t] k) ∈ tl := fun i hi => by
          have hi' : i < kk.length := by lia
          have e : kk.getD i Value.none = kk[i] := by simp [hi']
          rw [e]
          exact hkk _ (List.getElem_mem hi')
        obtain ⟨la, x, t, k, e3, hm⟩ := ai i hi
        obtain ⟨lb, y, u, k', e4, hm'⟩ := ai j hj
        show wpAny (model prog w) A.in1.in1 (keyLt' oneType' (kk.getD i Value.none) (kk.getD j Value.none)) C _ _
        rw [e3, e4]
        exact lt_list1e (by show A.units + 1 + 1 < cLine; exact hu) (N9.get (List.mem_append_left _ hm)) (N9.get (List.mem_append_left _ hm')) hC
      · refine KatFin.intro F9 N9 (updF_app (fun p hp => (hoff p hp).1) neR) fun h7 c7 F7 N7 => ?_
        have e5 : tl ++ (kS, seqObj "list" #[] c7) :: (R, seqObj "list" #[] e1) :: news = (tl ++ [(kS, seqObj "list" #[] c7)]) ++ (R, seqObj "list" #[] e1) :: news := by simp
        (try dsimp only at N7)
        have N7' : News h₀ L h7 ((tl ++ [(kS, seqObj "list" #[] c7)]) ++ (R, seqObj "list" #[] e1) :: news) := by rw [← e5]; exact N7
        refine KasFin.intro F7 N7' (updF_app (fun p hp => ?_) (fun p hp => Nat.ne_of_lt (hRN p hp))) fun h8 c8 F8 N8 => ?_
        · rcases List.mem_append.mp hp with q | q
          · exact (hoff p q).2
          · rw [List.mem_singleton.mp q]
            exact Nat.ne_of_gt l0
        · have hperm := Array.perm_iff_toList_perm.mp hpp.2
          have e6 : ((List.toArray (List.range ks.length)).toList.map fun i => (strValues zs).getD i Value.none) = strValues zs := by
            show (List.range ks.length).map _ = _
            rw [← hlv]
            apply List.ext_getElem?
            intro i
            by_cases hi : i < (strValues zs).length
            · simp [hi]
            · simp [hi]
          have hpz : (p.toList.map fun i => (strValues zs).getD i Value.none).Perm (strValues ks) := by
            have q := hperm.map fun i => (strValues zs).getD i Value.none
            rw [e6] at q
            exact q.trans hp
          obtain ⟨ys, e7, hy⟩ := vals_back hpz
          refine ⟨_, rfl, h R c8 ys h8 d' tk9 hy F8 (fun q hq => ?_) hRN⟩
          rcases List.mem_cons.mp hq with rfl | hq
          · have e8 : katRev false (p.toList.map fun i => (katRev false (strValues zs)).getD i Value.none) = strValues ys := e7
            have := N8 (R, listOf (List.toArray (katRev false (p.toList.map fun i => (katRev false (strValues zs)).getD i Value.none))) c8) (List.mem_append_right _ (.head _))
            rw [e8] at this
            exact this
          · exact N8 q (List.mem_append_right _ (.tail _ hq))
    | cons y r ih =>
      intro kk tl e tk9 h9 hr hlen hkk hoff F9 N9
      refine KatKeys.cons (hf y.1 y.2 _ _ _ (hr y (.head _)) F9 N9 (fun p hp => List.mem_append_right _ (.tail _ (.tail _ hp))) fun la h3 tk3 t3 k3 F3 N3 lla => ?_)
      have nela : la ≠ kS := Nat.ne_of_gt (lla _ (List.mem_append_right _ (.head _)))
      have nelR : la ≠ R := Nat.ne_of_gt (lla _ (List.mem_append_right _ (.tail _ (.head _))))
      have hoff' : ∀ p ∈ (la, listOf #[.str y.1 t3] k3) :: tl, p.1 ≠ kS ∧ p.1 ≠ R := fun p hp => by
        rcases List.mem_cons.mp hp with rfl | hp
        · exact ⟨nela, nelR⟩
        · exact hoff p hp
      refine KatBack.intro F3 (N3 : News h₀ L h3 (((la, listOf #[.str y.1 t3] k3) :: tl) ++ (kS, seqObj "list" (List.toArray kk) e) :: (R, seqObj "list" #[] e1) :: news)) (updF_app (fun p hp => (hoff' p hp).1) neR) fun h4 c4 F4 N4 => ?_
      refine ih (kk ++ [.ref la]) ((la, listOf #[.str y.1 t3] k3) :: tl) c4 tk3 h4 (fun p hp => hr p (.tail _ hp)) (by rw [List.length_append, List.length_singleton]; rw [List.length_cons] at hlen; lia) (fun v hv => ?_) hoff' F4 N4
      rcases List.mem_append.mp hv with q | q
      · obtain ⟨la', x, t, k, e9, hm⟩ := hkk v q
        exact ⟨la', x, t, k, e9, .tail _ hm⟩
      · rw [List.mem_singleton.mp q]
        exact ⟨la, _, _, _, rfl, .head _⟩
  exact go zs [] [] 0 tk' h2' (fun p hp => List.mem_map_of_mem (hz.mem_iff.mp hp)) (by simpa using hlz) (fun v hv => absurd hv List.not_mem_nil) (fun p hp => absurd hp List.not_mem_nil) F2 N2
end
end
section
open PySem PySem.Calls PyProof.Rows PySem.W PySem.Spec
theorem kdxOpen_all {lo : Addr} {news : List (Addr × Obj)} {C : List Value → List (Addr × Obj) → Prop} : ∀ (ps : List ((Tok → Value) × Value)) (vs : List Value) (tups : List (Addr × Obj)),
    (∀ (as : List Addr) (tf : List (Addr × Obj)), as.length = ps.length → (∀ (i : Nat) (a : Addr) (p : (Tok → Value) × Value), as[i]? = some a → ps[i]? = some p → ∃ t, (a, ({ cls := .type "tuple", data := .seq #[p.1 t, p.2] } : Obj)) ∈ tf) →
      (∀ p ∈ tf, p ∈ tups ∨ (lo < p.1 ∧ ∀ q ∈ news, q.1 < p.1)) → (∀ p ∈ tups, p ∈ tf) → C (vs ++ as.map .ref) tf) → KdxOpen lo news ps vs tups C
  | [], vs, tups, h => by
    have := h [] tups rfl (fun i a p e => by simp at e) (fun p hp => .inl hp) (fun p hp => hp)
    rw [List.map_nil, List.append_nil] at this
    exact KdxOpen.nil this
  | p :: ps, vs, tups, h => by
    refine KdxOpen.cons fun a t b1 b2 b3 => ?_
    refine kdxOpen_all ps _ _ fun as tf hl hm ho hs => ?_
    have := h (a :: as) tf (by simp [hl]) (fun i b q hb hq => ?_) (fun q hq => ?_) (fun q hq => hs q (.tail _ hq))
    · rw [List.append_assoc]
      exact this
    · match i with
      | 0 =>
        simp only [List.getElem?_cons_zero, Option.some.injEq] at hb hq
        subst hb; subst hq
        exact ⟨t, hs _ (.head _)⟩
      | i + 1 => exact hm i b q (by simpa using hb) (by simpa using hq)
    · rcases ho q hq with ho | ho
      · rcases List.mem_cons.mp ho with rfl | ho
        · exact .inr ⟨b1, b2⟩
        · exact .inl ho
      · exact .inr ho
section
variable {prog : Program} {w : World} {A : Around} {E : Value → Shared → Prop} {s : Shared} {h₀ : Heap} {L : Addr} {m : Str → Option Value} {news : List (Addr × Obj)}
theorem items_all {env : Env} {target : PySem.Expr} {body : List Stmt} {Q : Flow → Shared → Prop} {I : Addr} {keep : List (Addr × Obj)} {P : Nat → (Str → Option Value) → List (Addr × Obj) → Prop} (vs : List Value)
    (hstep : ∀ (i : Nat) v h tk m' n' oI, vs[i]? = some v → P i m' n' → Fr h₀ env.locals h m' → oI.cls = .type "list_iterator" → News h₀ env.locals h ((I, oI) :: n') →
      wpAny (model prog w) A (assign target env v) (fun _ s₂ => wpAny (model prog w) A (execs body env) (UnrPostW h₀ env.locals { s with heap := h, toks := tk } [(I, oI)] (fun m'' n'' => SubL keep n'' ∧ P (i + 1) m'' n'') Q) E s₂) E { s with heap := h, toks := tk })
    (hfin : ∀ m' n' h tk, P vs.length m' n' → Fr h₀ env.locals h m' → News h₀ env.locals h n' → Q .next { s with heap := h, toks := tk }) :
    ∀ (k i : Nat) m' n', i + k = vs.length → P i m' n' → ItemsRest prog w A E h₀ env target body Q s [(I, "list_iterator")] keep ((vs.drop i).map .val) m' n'
  | 0, i, m', n', e, hP => by
    rw [List.drop_of_length_le (by lia)]
    exact ItemsRest.zero fun h tk F N => hfin m' n' h tk (by rw [show vs.length = i by lia]; exact hP) F N
  | k + 1, i, m', n', e, hP => by
    have hi : i < vs.length := by lia
    rw [List.drop_eq_getElem_cons hi]
    refine ItemsRest.val fun h tk F => ?_
    refine fun oI hc N => ?_
    refine wpAny_mono (hstep i _ h tk m' n' oI (List.getElem?_eq_getElem hi) hP F hc N) (fun _ s₂ hw => ?_) fun _ _ x => x
    refine wpAny_mono hw (fun fl s₃ hp => ?_) fun _ _ x => x
    have up : ∀ s₃, UnrEndW h₀ env.locals { s with heap := h, toks := tk } [(I, oI)] (fun m'' n'' => SubL keep n'' ∧ P (i + 1) m'' n'') s₃ →
        UnrEndW h₀ env.locals { s with heap := h, toks := tk } [(I, oI)] (fun m'' n'' => SubL keep n'' ∧ ItemsRest prog w A E h₀ env target body Q s [(I, "list_iterator")] keep ((vs.drop (i + 1)).map .val) m'' n'') s₃ := by
      rintro s₃ ⟨h', tk', m'', n'', e1, e2, e3, e4, e5, e6⟩
      exact ⟨h', tk', m'', n'', e1, e2, e3, e4, e5, items_all vs hstep hfin k (i + 1) m'' n'' (by lia) e6⟩
    unfold UnrPostW at hp ⊢
    cases fl <;> first | exact hp | exact up _ hp
theorem compP_all {elt : PySem.Expr} {x x₂ : Str} {env : Env} {scope : Scope} {cl : List (Str × Addr)} {S : List (Addr × Obj) → Prop} {its : Array Value} {P : Nat → List Value → List (Addr × Obj) → Prop} {Fin : List Value → List (Addr × Obj) → Prop}
    (hstep : ∀ (i : Nat) v ys nw, its[i]? = some v → P i ys nw → ∃ (t : Addr) (ot : Obj) (v₁ v₂ : Value) (nt : Nat), v = .ref t ∧ (t, ot) ∈ nw ∧ ot.cls = .type "tuple" ∧ ot.data = .seq #[v₁, v₂] nt ∧
      ∀ I oI C oC D m₂ h tk (E' : Value → Shared → Prop), LCg.NsObj oC m₂ → m₂ x = some v₁ → m₂ x₂ = some v₂ → Fr h₀ L h m → News h₀ L h ((I, oI) :: (C, oC) :: (D, LCg.lst ys) :: nw) → LCg.Off3 I C D nw → ((@Ne Nat I C) ∧ (@Ne Nat I D) ∧ (@Ne Nat C D)) →
      wpAny (model prog w) A (eval elt (compEnvC scope cl C env)) (LCg.CompEnd h₀ L m { s with heap := h, toks := tk } I oI C oC D (LCg.lst ys) S (fun y nw' => P (i + 1) (ys ++ [y]) nw')) E' { s with heap := h, toks := tk })
    (hfin : ∀ ys nw, P its.size ys nw → Fin ys nw) : ∀ (k i : Nat) ys nw, i + k = its.size → P i ys nw → LCp.CompRestP prog w A h₀ L m env elt x x₂ scope cl s S (fun i v => its[i]? = some v) Fin k i ys nw
  | 0, i, ys, nw, e, hP => LCp.CompRestP.zero (hfin ys nw (by rw [show its.size = i by lia]; exact hP))
  | k + 1, i, ys, nw, e, hP => by
    refine LCp.CompRestP.succ fun v hv => ?_
    obtain ⟨t, ot, v₁, v₂, nt, a1, a2, a3, a4, a5⟩ := hstep i v ys nw hv hP
    refine ⟨t, ot, v₁, v₂, nt, a1, a2, a3, a4, fun I oI C oC D m₂ h tk E' b1 b2 b3 b4 b5 b6 b7 => ?_⟩
    refine wpAny_mono (a5 I oI C oC D m₂ h tk E' b1 b2 b3 b4 b5 b6 b7) (fun y s₂ hc => ?_) fun _ _ x => x
    obtain ⟨h', tk', nw', c1, c2, c3, c4, c5, c6⟩ := hc
    exact ⟨h', tk', nw', c1, c2, c3, c4, c5, compP_all hstep hfin k (i + 1) _ nw' (by lia) c6⟩
theorem drest_all {elt : PySem.Expr} {x : Str} {env : Env} {scope : Scope} {cl : List (Str × Addr)} {S : List (Addr × Obj) → Prop} {Pv : Nat → Value → Prop} {Fin : List (Str × Value) → List (Addr × Obj) → Shared → Prop} {n : Nat} {P : Nat → List (Str × Value) → List (Addr × Obj) → Shared → Prop}
    (hstep : ∀ (i : Nat) v kvs nw s, i < n → Pv i v → P i kvs nw s → ∀ I oI C oC D oD m₂ h tk (E' : Value → Shared → Prop), LCg.NsObj oC m₂ → m₂ x = some v → Fr h₀ L h m → News h₀ L h ((I, oI) :: (C, oC) :: (D, oD) :: nw) → LCg.Off3 I C D nw → ((@Ne Nat I C) ∧ (@Ne Nat I D) ∧ (@Ne Nat C D)) →
      ∃ key t, v = .str key t ∧ wpAny (model prog w) A (eval elt (compEnvC scope cl C env)) (CompEndG h₀ L m I oI C oC D oD S (fun y nw' s' => P (i + 1) (stored kvs key y) nw' s')) E' { s with heap := h, toks := tk })
    (hfin : ∀ kvs nw s, P n kvs nw s → Fin kvs nw s) : ∀ (k i : Nat) kvs nw s, i + k = n → P i kvs nw s → DRest prog w A h₀ L m env elt x scope cl S Pv Fin k i kvs nw s
  | 0, i, kvs, nw, s, e, hP => hfin kvs nw s (by rw [show n = i by lia]; exact hP)
  | k + 1, i, kvs, nw, s, e, hP => by
    intro v I oI C oC D oD m₂ h tk E' a1 a2 a3 a4 a5 a6 a7
    obtain ⟨key, t, e1, hw⟩ := hstep i v kvs nw s (by lia) a1 hP I oI C oC D oD m₂ h tk E' a2 a3 a4 a5 a6 a7
    refine ⟨key, t, e1, wpAny_mono hw (fun y s₂ hc => ?_) fun _ _ x => x⟩
    obtain ⟨nw', c1, c2, c3, c4, c5⟩ := hc
    exact ⟨nw', c1, c2, c3, c4, drest_all hstep hfin k (i + 1) _ nw' s₂ (by lia) c5⟩
end
end
section
open PySem PySem.Calls PyProof.Rows PySem.W PySem.Spec
section
variable {prog : Program} {w : World} {A : Around} {E : Value → Shared → Prop} {s : Shared} {h₀ : Heap} {L : Addr} {m : Str → Option Value} {news : List (Addr × Obj)}
theorem lsort_one0 {a : Addr} {v : Value} {n : Nat} {P : PySem.Fin → Shared → Prop} (F : Fr h₀ L s.heap m) (N : News h₀ L s.heap news) (ho : s.heap.get? a = some (seqObj "list" [v].toArray n)) (haL : a ≠ L) (ha0 : h₀.get? a = none) (hna : ∀ p ∈ news, p.1 ≠ a)
    (h : ∀ e1 h', Fr h₀ L h' m → News h₀ L h' ((a, seqObj "list" [v].toArray e1) :: news) → P (.done (.ret .none)) { s with heap := h' }) :
    wpAny (model prog w) A (Builtin.«list.sort» ⟨[.ref a], []⟩) P E s := by
  have ha : a < s.heap.objs.size := Heap.lt_size ho
  have s1 := Heap.SameBut.update s.heap a (Obj.mapSeq fun _ => (#[] : Array Value))
  obtain ⟨e1, ho1⟩ : ∃ e1, (s.heap.update a (Obj.mapSeq fun _ => (#[] : Array Value))).get? a = some (seqObj "list" #[] e1) := ⟨_, get?_update_seq ho fun _ => #[]⟩
  have F3 : Fr h₀ L (((s.heap.update a (Obj.mapSeq fun _ => (#[] : Array Value))).push (seqObj "tuple" [v].toArray 0)).push (seqObj "list" #[] 0)) m := ((kas_fr F s1 haL ha0).push _).push _
  have N2 : News h₀ L (((s.heap.update a (Obj.mapSeq fun _ => (#[] : Array Value))).push (seqObj "tuple" [v].toArray 0)).push (seqObj "list" #[] 0)) news :=
    (kas_news N s1 hna).grown fun b x e => Heap.get?_push_of_some _ (Heap.get?_push_of_some _ e)
  have ho6 : (((s.heap.update a (Obj.mapSeq fun _ => (#[] : Array Value))).push (seqObj "tuple" [v].toArray 0)).push (seqObj "list" #[] 0)).get? a = some (seqObj "list" #[] e1) := Heap.get?_push_of_some _ (Heap.get?_push_of_some _ ho1)
  rw [list_sort_plain]
  refine wpAny_bind (listItems_at ho rfl ?_)
  refine wpAny_bind (listUpdate_at ho rfl ?_ (by rw [List.size_toArray, sizeLine_eq]; simp) (Nat.zero_le _))
  refine wpAny_bind (seqEpoch_at ho1 rfl ?_)
  refine wpAny_bind (wpAny_newTuple ?_ (by show ([v] : List Value).length ≤ _; rw [sizeLine_eq]; simp))
  refine wpAny_bind (wpAny_newList ?_ (Nat.zero_le _))
  refine wpAny_holding ?_
  show wpAny (model prog w) A _ P E { s with heap := ((s.heap.update a (Obj.mapSeq fun _ => (#[] : Array Value))).push (seqObj "tuple" [v].toArray 0)).push (seqObj "list" #[] 0) }
  generalize hH : ((s.heap.update a (Obj.mapSeq fun _ => (#[] : Array Value))).push (seqObj "tuple" [v].toArray 0)).push (seqObj "list" #[] 0) = H at F3 N2 ho6 ⊢
  dsimp only
  have h2 : [v].toArray.size < 2 := by simp
  rw [if_pos h2, if_pos h2]
  refine wpAny_bind (wpAny_pure ?_)
  rw [StateT.run_pure]
  refine wpAny_bind (wpAny_pure ?_)
  dsimp only
  refine wpAny_bind (seqEpoch_at ho6 rfl ?_)
  have e9 : Array.map (fun x => x.snd) (arrOf (SortSt.mk' general' ([v].toArray.zip [v].toArray) #[] 7 none)) = [v].toArray := by first | with_unfolding_all rfl | (show Array.map (fun x => x.snd) ([v].toArray.zip [v].toArray) = _; simp)
  rw [e9]
  refine wpAny_bind (listUpdate_at ho6 rfl ?_ (Nat.zero_le _) (by rw [sizeLine_eq]; simp))
  simp only [bne_self_eq_false, Bool.false_eq_true, if_false]
  have s2 := Heap.SameBut.update H a (Obj.mapSeq fun _ => [v].toArray)
  obtain ⟨c2, hc2⟩ : ∃ c2, (H.update a (Obj.mapSeq fun _ => [v].toArray)).get? a = some (seqObj "list" [v].toArray c2) := ⟨_, get?_update_seq ho6 fun _ => [v].toArray⟩
  refine wpAny_pure (h c2 _ (kas_fr F3 s2 haL ha0) fun p hp => ?_)
  rcases List.mem_cons.mp hp with rfl | hp
  · exact ⟨hc2, haL, ha0⟩
  · exact kas_news N2 s2 hna p hp
end
end
section
open PySem PySem.W PyProof.Rows PySem.Calls PySem.Spec
section
variable {prog : Program} {w : World} {A : Around} {E : Value → Shared → Prop} {s : Shared} {h₀ : Heap} {L sa : Addr} {news : List (Addr × Obj)} {so : Obj} {n : Nat} {S : Str → Bool} {k : Str} {t : Tok} {b : Bool}
theorem in_mem {Q : Value → Shared → Prop} (N : News h₀ L s.heap news) (hm : (sa, so) ∈ news) (hso : so.SetObjOf (PySem.strKind prog w) S n) (hb : n < scanBound) (hS : S k = b) (hkey : (PySem.strKind prog w).is k (.str k t) = true) (h : Q (.bool b) { s with toks := s.toks + 1 }) :
    wpAny (model prog w) A (compareOp .In (.str k t) (.ref sa)) Q E s := by
  obtain ⟨pre, post, rfl⟩ := List.append_of_mem hm
  exact in_sl1 N hso hb hkey rfl (hS ▸ h)
theorem notin_mem {Q : Value → Shared → Prop} (N : News h₀ L s.heap news) (hm : (sa, so) ∈ news) (hso : so.SetObjOf (PySem.strKind prog w) S n) (hb : n < scanBound) (hS : S k = b) (hkey : (PySem.strKind prog w).is k (.str k t) = true) (h : Q (.bool (!b)) { s with toks := s.toks + 1 }) :
    wpAny (model prog w) A (compareOp .NotIn (.str k t) (.ref sa)) Q E s := by
  obtain ⟨pre, post, rfl⟩ := List.append_of_mem hm
  exact notin_sl1 N hso hb hkey rfl (hS ▸ h)
end
end
section
open PySem PySem.Calls PyProof.Rows PySem.W PySem.Spec PyProof.Rows.LCg
section
variable {prog : Program} {w : World} {A : Around} {E : Value → Shared → Prop} {s : Shared} {h₀ : Heap} {L : Addr} {m : Str → Option Value} {env : Env}
theorem fl_loop {kx vx target iter c : PySem.Expr} {scope : Scope} {pos : Pos} {it : Value} {D : Addr} {env : Env} {R : Result → Shared → Prop} (I : Nat → Shared → Prop)
    (turn : ∀ n s, I n s → wpAny (model prog w) A (pyNext it) (fun r s₁ => match r with
      | none => R (.ok .next) s₁
      | some v => wpAny (model prog w) A (letOwnedTupleGo target it v) (fun _ s₀ => wpAny (model prog w) A (assign target env v) (fun _ s₂ =>
          wpAny (model prog w) A (isTrue c env (eval c env)) (fun ok s₃ =>
            if ok = true then wpAny (model prog w) A (eval kx env) (fun kv s₄ => wpAny (model prog w) A (eval vx env) (fun vv s₅ =>
              wpAny (model prog w) A (dictSet D kv vv) (fun _ s₆ => ∃ m, m < n ∧ I m s₆) (notedBy (model prog w) A env fun e s' => R (.error e) s') s₅) (notedBy (model prog w) A env fun e s' => R (.error e) s') s₄) (notedBy (model prog w) A env fun e s' => R (.error e) s') s₃
            else ∃ m, m < n ∧ I m s₃) (notedBy (model prog w) A env fun e s' => R (.error e) s') s₂) (notedBy (model prog w) A env fun e s' => R (.error e) s') s₀) (notedBy (model prog w) A env fun e s' => R (.error e) s') s₁) (notedBy (model prog w) A env fun e s' => R (.error e) s') s)
    (n : Nat) (h : I n s) : codeAny (model prog w) A (.compLoop (.DictComp kx vx [⟨target, iter, [c], 0⟩] scope pos) 0 it (.ref D) env) R s := by
  refine codeAny_loop rfl I (fun n s hI => ?_) n h
  show wpAny _ A ((compTurn (.DictComp kx vx [⟨target, iter, [c], 0⟩] scope pos) 0 it (.ref D) env).onRaise (fun x => do noteFrame x env; theTreesLotGoes x)) _ _ s
  refine wpAny_noted ?_
  rw [compTurn_dict]
  refine wpAny_bind (wpAny_standAt (wpAny_bind (wpAny_mono (turn n s hI) (fun r s₁ h₁ => ?_) fun _ _ h' => h')))
  cases r with
  | none => exact wpAny_pure h₁
  | some v =>
    refine wpAny_bind (wpAny_mono h₁ (fun _ s₀ h₀' => ?_) fun _ _ h' => h')
    refine wpAny_bind (wpAny_mono h₀' (fun _ s₂ h₂ => wpAny_bind (wpAny_mono (wpAny_tests_one h₂) (fun ok s₃ h₃ => ?_) fun _ _ h' => h')) fun _ _ h' => h')
    cases ok with
    | false => exact wpAny_pure ⟨rfl, h₃⟩
    | true =>
      exact wpAny_bind (wpAny_bind (wpAny_mono h₃ (fun kv s₄ h₄ => wpAny_bind (wpAny_holding (wpAny_mono h₄ (fun vv s₅ h₅ => wpAny_bind (wpAny_standAt (wpAny_holding (wpAny_mono h₅ (fun _ s₆ h₆ => wpAny_pure ⟨rfl, h₆⟩) fun _ _ h' => h')))) fun _ _ h' => h'))) fun _ _ h' => h'))
theorem fl_stored {kv : List (Str × Value)} {z : Str} {y : Value} (h : z ∉ kv.map (·.1)) : stored kv z y = kv ++ [(z, y)] := by
  unfold stored
  have e : (kv.any fun p => decide (p.1 = z)) = false := by
    rw [List.any_eq_false]
    intro p hp q
    exact h ((of_decide_eq_true q) ▸ List.mem_map_of_mem hp)
  rw [e, if_neg (by decide)]
noncomputable def fkeep (S : Str → Bool) (kvs : List (Str × Value)) : List (Str × Value) := kvs.filter fun p => S p.1
theorem fkeep_take {S : Str → Bool} {kvs : List (Str × Value)} {i : Nat} {k : Str} {x : Value} (h : kvs[i]? = some (k, x)) : fkeep S (kvs.take (i + 1)) = fkeep S (kvs.take i) ++ (if S k = true then [(k, x)] else []) := by
  obtain ⟨hi, e⟩ := List.getElem?_eq_some_iff.mp h
  unfold fkeep
  rw [List.take_succ_eq_append_getElem hi, List.filter_append, e]
  congr 1
  cases hS : S k <;> simp [hS]
theorem fkeep_new {S : Str → Bool} {kvs : List (Str × Value)} {i : Nat} {k : Str} {x : Value} (hn : (kvs.map (·.1)).Nodup) (h : kvs[i]? = some (k, x)) : k ∉ (fkeep S (kvs.take i)).map (·.1) := by
  intro hm
  obtain ⟨p, hp, e⟩ := List.mem_map.mp hm
  obtain ⟨j, hj, e2⟩ := List.mem_take_iff_getElem.mp (List.mem_filter.mp hp).1
  obtain ⟨hi, e3⟩ := List.getElem?_eq_some_iff.mp h
  have hj' : j < kvs.length := by omega
  have q1 : (kvs.map (·.1))[j]? = (kvs.map (·.1))[i]? := by
    rw [List.getElem?_map, List.getElem?_map, List.getElem?_eq_getElem hj', List.getElem?_eq_getElem hi]
    simp only [Option.map_some]
    rw [e2, e3, e]
  exact absurd ((List.getElem?_inj (by simpa using hj') hn).mp q1) (by omega)
theorem fkeep_len {S : Str → Bool} {kvs : List (Str × Value)} {i : Nat} (hi : i ≤ kvs.length) : (fkeep S (kvs.take i)).length ≤ i := by
  refine Nat.le_trans (List.length_filter_le _ _) ?_
  rw [List.length_take]; omega
noncomputable abbrev FTest (prog : Program) (w : World) (A : Around) (h₀ : Heap) (L : Addr) (m : Str → Option Value) (env : Env) (c : PySem.Expr) (a b : Str) (scope : Scope) (cl : List (Str × Addr)) (S : Str → Bool) (kvs : List (Str × Value)) (news : List (Addr × Obj)) (s : Shared) : Prop :=
  ∀ (k : Str) (x : Value) (t : Tok) (I : Nat) oI (C : Nat) oC (D : Nat) oD m₂ h tk (E' : Value → Shared → Prop), (k, x) ∈ kvs → NsObj oC m₂ → m₂ a = some (.str k t) → m₂ b = some x → Fr h₀ L h m → News h₀ L h ((I, oI) :: (C, oC) :: (D, oD) :: news) → (∀ p ∈ news, p.1 ≠ C) →
    wpAny (model prog w) A (isTrue c (compEnvC scope cl C env) (eval c (compEnvC scope cl C env))) (fun ok s' => ok = S k ∧ ∃ tk', s' = { s with heap := h, toks := tk' }) E' { s with heap := h, toks := tk }
inductive FlJ (prog : Program) (w : World) (h₀ : Heap) (L : Addr) (m : Str → Option Value) (s₂ : Shared) (I d D C : Nat) (S : Str → Bool) (kvs : List (Str × Value)) (ep : Nat) (news : List (Addr × Obj)) : Nat → Shared → Prop
  | mk (h' : Heap) (tk i : Nat) (m' : Str → Option Value) (oD : Obj) (hi : i ≤ kvs.length) (hit : ∃ ok ov, IsItemIter h' I d i kvs.length ep ok ov) (F : Fr h₀ L h' m) (hn : h'.Ns C m') (N : News h₀ L h' ((D, oD) :: news)) (hd : oD.IsDictOf (strKind prog w) (fkeep S (kvs.take i))) :
      FlJ prog w h₀ L m s₂ I d D C S kvs ep news (kvs.length + 1 - i) { s₂ with heap := h', toks := tk }
theorem fl_block {iter c : PySem.Expr} {a b : Str} {pa pb tp ka kb : Pos} {kk : Nat} {scope : Scope} {cl : List (Str × Addr)} {pos : Pos} {s₂ : Shared} {I d : Addr} {od : Obj} {ok ov : Value} {news : List (Addr × Obj)} {S : Str → Bool} {kvs : List (Str × Value)} {ep : Nat}
    {RR : Value → Addr → Result → Shared → Prop}
    (hh : A.handled = none) (hne : d ≠ I) (hsz : kvs.length ≤ sizeLine) (hat : KdkAt (strKind prog w) od kvs ep) (hnd : (kvs.map (·.1)).Nodup)
    (hit : IsItemIter s₂.heap I d 0 kvs.length ep ok ov) (hS : (d, od) ∈ news)
    (hcell : ∀ y ∈ scope.names, y.2 ≠ .cell) (hkind : scope.kind = .function) (hxa : scope.names.lookup a = some .local) (hxb : scope.names.lookup b = some .local) (hab : ¬ a = b) (hda : (a == ("__debug__" : Str)) = false) (hdb : (b == ("__debug__" : Str)) = false)
    (F : Fr h₀ L s₂.heap m) (N : News h₀ L s₂.heap news) (hIL : L ≠ I) (hI₀ : h₀.get? I = none) (off : ∀ p ∈ news, p.1 ≠ I)
    (hT : FTest prog w A h₀ L m env c a b scope cl S kvs news s₂)
    (hRR : ∀ (D C : Nat) oD h tk m', Fr h₀ L h m → News h₀ L h ((D, oD) :: news) → oD.IsDictOf (strKind prog w) (fkeep S kvs) → (∀ p ∈ news, @LT.lt Nat _ p.1 D) → h.Ns C m' → h₀.get? C = none → h₀.get? D = none → @Ne Nat C L → @LT.lt Nat _ L D → @Ne Nat C D → (∀ p ∈ news, @Ne Nat p.1 C) → RR (.ref D) C (.ok .next) { s₂ with heap := h, toks := tk }) :
    wpAny (model prog w) A newDict (fun acc s₃ => wpAny (model prog w) A (newFunctionEnv scope env.globals cl [] env.qual none .none (some env)) (fun cenv s₄ =>
      codeAny (model prog w) A (.compStart (.DictComp (.Name a ka) (.Name b kb) [⟨.Tuple [.Name a pa, .Name b pb] kk tp, iter, [c], 0⟩] scope pos) 0 (.ref I) acc { cenv with scope := relabel scope env }) (RR acc cenv.locals) s₄) E s₃) E s₂ := by
  refine wpAny_newObj_type (wpAny_newFunctionEnv hcell (by intro y hy; simp at hy) (fun h₁ hns₁ hsb₁ => ?_) hkind)
  dsimp only at hns₁ hsb₁ ⊢
  generalize hH2 : s₂.heap.push { cls := .type "dict", dict := none, data := .dict #[] } = H2 at hns₁ hsb₁ ⊢
  have hC : H2.objs.size = s₂.heap.objs.size + 1 := by rw [← hH2, Heap.size_push]
  have hDC : s₂.heap.objs.size ≠ H2.objs.size := by rw [hC]; exact Nat.ne_of_lt (Nat.lt_succ_self _)
  have below : ∀ b, b < s₂.heap.objs.size → b ≠ H2.objs.size ∧ b ≠ s₂.heap.objs.size := fun b hb => ⟨by rw [hC]; exact Nat.ne_of_lt (Nat.lt_succ_of_lt hb), Nat.ne_of_lt hb⟩
  have hIlt : I < s₂.heap.objs.size := Heap.lt_size hit
  have old : ∀ b o, s₂.heap.get? b = some o → h₁.get? b = some o := fun b o e => hsb₁.extBut b o (below b (Heap.lt_size e)).1 (Heap.get?_push_of_some _ (hH2 ▸ Heap.get?_push_of_some _ e))
  have hacc : h₁.get? s₂.heap.objs.size = some { cls := .type "dict", dict := none, data := .dict #[] } := hsb₁.extBut _ _ hDC (Heap.get?_push_of_some _ (hH2 ▸ Heap.get?_push_size _ rfl))
  have hit₁ : IsItemIter h₁ I d 0 kvs.length ep ok ov := old _ _ hit
  have fresh : ∀ a, s₂.heap.objs.size ≤ a → s₂.heap.get? a = none := fun a ha => by
    cases e : s₂.heap.get? a with
    | none => rfl
    | some o' => exact absurd (Heap.lt_size e) (Nat.not_lt.mpr ha)
  have fresh₀ : ∀ a, s₂.heap.objs.size ≤ a → h₀.get? a = none := fun a ha => by
    cases e : h₀.get? a with
    | none => rfl
    | some o' => have := F.keep a o' e; rw [fresh a ha] at this; cases this
  have hD₀ : h₀.get? s₂.heap.objs.size = none := fresh₀ _ (Nat.le_refl _)
  have hC₀ : h₀.get? H2.objs.size = none := fresh₀ _ (by rw [hC]; exact Nat.le_succ _)
  have hLlt : L < s₂.heap.objs.size := F.ns.lt
  have hDL : s₂.heap.objs.size ≠ L := Ne.symm (below L hLlt).2
  have hCL : H2.objs.size ≠ L := Ne.symm (below L hLlt).1
  have hCI : I ≠ H2.objs.size := (below I hIlt).1
  have hDI : I ≠ s₂.heap.objs.size := (below I hIlt).2
  have offC : ∀ p ∈ news, p.1 ≠ H2.objs.size := fun p hp => (below _ (Heap.lt_size (N p hp).1)).1
  have offD : ∀ p ∈ news, p.1 ≠ s₂.heap.objs.size := fun p hp => (below _ (Heap.lt_size (N p hp).1)).2
  have ltD : ∀ p ∈ news, @LT.lt Nat _ p.1 s₂.heap.objs.size := fun p hp => Heap.lt_size (N p hp).1
  have hdd : ({ cls := .type "dict", dict := none, data := .dict #[] } : Obj).IsDictOf (strKind prog w) [] := ⟨#[], 0, ⟨rfl, rfl, rfl⟩, rfl, fun _ he => by simp at he, Pairs.nil, List.nodup_nil⟩
  have W := kti_itemsTurns (knd := strKind prog w) (elts := [.Name a pa, .Name b pb]) (kk := kk) (pos := tp) hh I d hne kvs ep
  generalize hDn : s₂.heap.objs.size = Dn at *
  generalize hCn : H2.objs.size = Cn at *
  have loop : ∀ s₃ : Shared, (∃ tk, s₃ = { s₂ with heap := h₁, toks := tk }) →
      codeAny (model prog w) A (.compLoop (.DictComp (.Name a ka) (.Name b kb) [⟨.Tuple [.Name a pa, .Name b pb] kk tp, iter, [c], 0⟩] scope pos) 0 (.ref I) (.ref Dn) (compEnvC scope cl Cn env))
        (RR (.ref Dn) Cn) s₃ := by
    rintro s₃ ⟨tk0, rfl⟩
    refine fl_loop
      (FlJ prog w h₀ L m s₂ I d Dn Cn S kvs ep news) ?_ (kvs.length + 1)
      (FlJ.mk h₁ _ 0 _ _ (Nat.zero_le _) ⟨_, _, hit₁⟩ (F.keeps old) hns₁ (fun p hp => ?_) hdd)
    · intro k s' hJ
      obtain ⟨h', tk, i, m', oD, hi, hit', F', hn', N', hd'⟩ := hJ
      have hD' : h'.DictAt (strKind prog w) d kvs ep := hat.dictAt (N' _ (List.mem_cons_of_mem _ hS)).1
      by_cases hlt : i < kvs.length
      · refine W.item i _ _ _ hlt ⟨hit', hD'⟩ fun v h₂ tk₂ hMd hk₂ => ?_
        refine W.go i v _ _ _ hMd fun h₃ hP hst₃ hk₃ => ?_
        obtain ⟨T, key, k, x, rfl, hx, hkey, hTT⟩ := hP
        obtain ⟨t, rfl⟩ : ∃ t, key = .str k t := Value.isStrOf_shape hkey
        have up₃ : ∀ c o, c ≠ I → h'.get? c = some o → h₃.get? c = some o := fun c o hc e => hk₃ c o (by simpa using hc) (hk₂ c o (by simpa using hc) e)
        refine kcp_assign (env := compEnvC scope cl Cn env) hh hTT (lookup_relabel_local hxa) (lookup_relabel_local hxb) (by simp [compEnvC, relabel, hkind]) (hn'.at' fun o e => up₃ _ o (Ne.symm hCI) e) fun h₄ tk₄ hn₄ hs₄ => ?_
        have up : ∀ c o, c ≠ I → c ≠ Cn → h'.get? c = some o → h₄.get? c = some o := fun c o h1 h2 e => hs₄ c o h2 (up₃ c o h1 e)
        obtain ⟨⟨ok', ov', hI₃⟩, _⟩ := hst₃
        have hI₄ : IsItemIter h₄ I d (i + 1) kvs.length ep ok' ov' := hs₄ I _ hCI hI₃
        obtain ⟨oC, heC, hoC⟩ := ns_obj hn₄
        have F₄ : Fr h₀ L h₄ m := ⟨F'.ns.at' fun o e => up _ o hIL (Ne.symm hCL) e, fun c o e => up c o (fun q => by rw [q, hI₀] at e; cases e) (fun q => by rw [q, hC₀] at e; cases e) (F'.keep c o e), F'.above⟩
        have N₄ : News h₀ L h₄ ((I, _) :: (Cn, oC) :: (Dn, oD) :: news) := fun q hq => by
          rcases List.mem_cons.mp hq with rfl | hq
          · exact ⟨hI₄, Ne.symm hIL, hI₀⟩
          · rcases List.mem_cons.mp hq with rfl | hq
            · exact ⟨heC, hCL, hC₀⟩
            · have z := N' q hq
              refine ⟨up _ _ ?_ ?_ z.1, z.2⟩
              · rcases List.mem_cons.mp hq with rfl | hq
                · exact Ne.symm hDI
                · exact off q hq
              · rcases List.mem_cons.mp hq with rfl | hq
                · exact hDC
                · exact offC q hq
        refine wpAny_mono (hT k x t I _ Cn oC Dn oD _ h₄ _ _ (List.mem_of_getElem? hx) hoC (by simp [hab]) (by simp) F₄ N₄ offC) (fun ok9 s₅ h₅ => ?_) fun _ _ e => e
        obtain ⟨rfl, tk₅, rfl⟩ := h₅
        have hfk := fkeep_take (S := S) hx
        split
        · rename_i hSk
          rw [if_pos hSk] at hfk
          refine wpAny_Name (wpAny_loadName_local hkind (lookup_relabel_local hxa) hn₄ (by simp [hab]; rfl) ?_) hda
          refine wpAny_Name (wpAny_loadName_local hkind (lookup_relabel_local hxb) hn₄ (by simp; rfl) ?_) hdb
          have zD := (N₄ (Dn, oD) (List.mem_cons_of_mem _ (List.mem_cons_of_mem _ List.mem_cons_self))).1
          refine wpAny_dictSet_pairs (knd := strKind prog w) (kvs := fkeep S (kvs.take i)) (strKind_is _ _ _ _) (Heap.dictOf_iff.mpr ⟨oD, zD, hd'⟩) (fun h₆ hd₆ hs₆ => ?_) (Nat.le_trans (fkeep_len hi) (Nat.le_trans hi hsz))
          obtain ⟨oD5, ho5, hd5⟩ := Heap.dictOf_iff.mp hd₆
          rw [fl_stored (fkeep_new hnd hx), ← hfk] at hd5
          refine ⟨kvs.length + 1 - (i + 1), by omega, FlJ.mk h₆ _ (i + 1) _ oD5 hlt ⟨_, _, hs₆.extBut I _ hDI hI₄⟩ (F₄.change hs₆ hDL hD₀) ((hoC.ns heC).sameBut hs₆ (Ne.symm hDC)) (fun q hq => ?_) hd5⟩
          rcases List.mem_cons.mp hq with rfl | hq
          · exact ⟨ho5, hDL, hD₀⟩
          · have z := N₄ q (List.mem_cons_of_mem _ (List.mem_cons_of_mem _ (List.mem_cons_of_mem _ hq)))
            exact ⟨hs₆.extBut _ _ (offD q hq) z.1, z.2⟩
        · rename_i hSk
          rw [if_neg hSk, List.append_nil] at hfk
          exact ⟨kvs.length + 1 - (i + 1), by omega, FlJ.mk h₄ _ (i + 1) _ oD hlt ⟨_, _, hI₄⟩ F₄ hn₄ (fun q hq => N₄ q (List.mem_cons_of_mem _ (List.mem_cons_of_mem _ hq))) (by rw [hfk]; exact hd')⟩
      · have hin : i = kvs.length := Nat.le_antisymm hi (Nat.not_lt.mp hlt)
        subst hin
        rw [List.take_length] at hd'
        refine W.done _ _ _ ⟨hit', hD'⟩ fun h₂ tk₂ hk₂ => ?_
        exact hRR _ _ oD h₂ tk₂ _ (fr_but F' hk₂ hIL hI₀) (news_but N' hk₂ fun p hp => by
          rcases List.mem_cons.mp hp with rfl | hp
          · exact Ne.symm hDI
          · exact off p hp) hd' ltD (hn'.at' fun o e => hk₂ _ o (by simpa using Ne.symm hCI) e) hC₀ hD₀ hCL hLlt (Ne.symm hDC) offC
    · rcases List.mem_cons.mp hp with rfl | hp
      · exact ⟨hacc, hDL, hD₀⟩
      · exact ⟨old _ _ (N p hp).1, (N p hp).2⟩
  exact codeAny_compStart_dict (loop _ ⟨_, rfl⟩) (kcp_self hit₁ (loop _ ⟨_, rfl⟩))
inductive FSrc (prog : Program) (w : World) (A : Around) (h₀ : Heap) (L : Addr) (m : Str → Option Value) (env : Env) (c : PySem.Expr) (a b : Str) (scope : Scope) (cl : List (Str × Addr)) (y : Str) (Q : Flow → Shared → Prop) (xv : Value) (s₁ : Shared) : Prop
  | mk (vw d : Addr) (od : Obj) (kvs : List (Str × Value)) (news : List (Addr × Obj)) (S : Str → Bool) (e1 : xv = .ref vw) (e2 : A.handled = none) (e3 : Fr h₀ L s₁.heap m) (e4 : News h₀ L s₁.heap news)
    (e5 : ∃ ov, s₁.heap.get? vw = some ov ∧ ov.cls = .type "dict_items" ∧ ov.data = .fields #[.ref d]) (e6 : (d, od) ∈ news) (e7 : od.IsDictOf (strKind prog w) kvs) (e8 : kvs.length ≤ sizeLine)
    (e9 : ∀ g : Heap, FTest prog w A h₀ L m env c a b scope cl S kvs news { s₁ with heap := g })
    (hQ : ∀ (D : Nat) oD h tk, Fr h₀ L h (fun z => if z = y then some (.ref D) else m z) → News h₀ L h ((D, oD) :: news) → oD.IsDictOf (strKind prog w) (fkeep S kvs) → (∀ p ∈ news, p.1 < D) → L < D → Q .next { s₁ with heap := h, toks := tk }) : FSrc prog w A h₀ L m env c a b scope cl y Q xv s₁
theorem Assign_FilD {iter c : PySem.Expr} {a b y : Str} {pa pb tp ka kb py : Pos} {kk : Nat} {scope : Scope} {cl : List (Str × Addr)} {pos spos : Pos} {Q : Flow → Shared → Prop} (_F : Fr h₀ L s.heap m) (hLe : env.locals = L)
    (hsw : swapsWith (.DictComp (.Name a ka) (.Name b kb) [⟨.Tuple [.Name a pa, .Name b pb] kk tp, iter, [c], 0⟩] scope pos) (some (.Name y py)) spos.line env = pure true)
    (hclos : closureFor scope env = pure cl) (hcell : ∀ z ∈ scope.names, z.2 ≠ .cell) (hkind : scope.kind = .function)
    (hnames : ∀ z ∈ scope.names, z.2 = .local → scope.names.lookup z.1 = some .local) (hxa : scope.names.lookup a = some .local) (hxb : scope.names.lookup b = some .local) (hab : ¬ a = b) (hda : (a == ("__debug__" : Str)) = false) (hdb : (b == ("__debug__" : Str)) = false)
    (hy : env.kindOf y = some .local) (hp : (env.scope.kind == .class || (env.scope.kind == .module && env.locals != env.globals)) = false)
    (h : wpAny (model prog w) A (eval iter env) (FSrc prog w A h₀ L m env c a b scope cl y Q) E s)
    (hs : ∀ x, foldedSetIterable iter env x = pure x := by intro _; rfl) :
    wpAny (model prog w) A (exec (.Assign [.Name y py] (.DictComp (.Name a ka) (.Name b kb) [⟨.Tuple [.Name a pa, .Name b pb] kk tp, iter, [c], 0⟩] scope pos) spos) env) Q E s := by
  subst hLe
  rw [exec_Assign_Name_used _ _ _ _ hsw]
  refine wpAny_bind (wpAny_standAt (wpAny_bind ?_))
  show wpAny _ A (do let _ ← comprehension (.DictComp (.Name a ka) (.Name b kb) [⟨.Tuple [.Name a pa, .Name b pb] kk tp, iter, [c], 0⟩] scope pos) scope env _ newDict false (eval iter env) (some (assign (.Name y py) env))) _ _ s
  refine wpAny_bind (wpAny_mono (wpAny_comprehension_free (use := some (assign (.Name y py) env)) (Q := fun _ s' => Q .next s') rfl hs hclos hkind hnames
    (wpAny_mono h (fun xv s₁ h₁ => ?_) fun _ _ e => e)) (fun _ s' hq => wpAny_pure (wpAny_pure hq)) fun _ _ e => e)
  obtain ⟨vw, d, od, kvs, news, S, rfl, hh, F, N, hv, hmd, hd, hsz, hT, hQ⟩ := h₁
  obtain ⟨ep, hat⟩ := KdkAt.of hd
  have hnd : (kvs.map (·.1)).Nodup := by
    obtain ⟨_, _, _, _, _, _, hnn⟩ := hd
    exact hnn
  refine wpAny_pyIter_items hv (hat.dictAt (N _ hmd).1) ?_
  refine fl_block (kvs := kvs) (ep := ep) (S := S) hh (Nat.ne_of_lt (Heap.lt_size (N _ hmd).1)) hsz hat hnd (Heap.get?_push_size _ rfl) hmd hcell hkind hxa hxb hab hda hdb (F.push _)
    (fun p hp => ⟨Heap.get?_push_of_some _ (N p hp).1, (N p hp).2⟩) (Nat.ne_of_lt F.ns.lt) (next_is_new F) (fun p hp => Nat.ne_of_lt (Heap.lt_size (N p hp).1)) (hT _) ?_
  intro D C oD h tk m' F' N' hd' ltD hn' hC0 hD0 hCL hLD hCD offC
  show wpAny _ A (assign (.Name y py) env (.ref D)) _ _ _
  refine wpAny_assign_Name (wpAny_storeName_local hy F'.ns (fun h₂ hn₂ hs₂ => ?_) hp)
  have hL₀ : h₀.get? env.locals = none := Heap.get?_none_of_le F'.above
  have F₂ : Fr h₀ env.locals h₂ (fun z => if z = y then some (.ref D) else m z) := ⟨hn₂, fun b o e => hs₂.extBut b o (fun q => by rw [q, hL₀] at e; cases e) (F'.keep b o e), F'.above⟩
  refine ⟨m', hn'.sameBut hs₂ hCL, fun h'' hs'' => hQ D oD h'' _ (F₂.change hs'' hCL hC0) (fun p hp => ?_) hd' ltD hLD⟩
  have z : h₂.get? p.1 = some p.2 := hs₂.extBut _ _ (N' p hp).2.1 (N' p hp).1
  refine ⟨hs''.extBut _ _ ?_ z, (N' p hp).2⟩
  rcases List.mem_cons.mp hp with rfl | hp
  · exact Ne.symm hCD
  · exact offC p hp
end
end
section
open PySem PySem.Calls PyProof.Rows PySem.W PySem.Spec
section
variable {prog : Program} {w : World} {A : Around} {E : Value → Shared → Prop} {s : Shared} {h₀ : Heap} {L : Addr} {m : Str → Option Value} {news : List (Addr × Obj)}
theorem set_loop_one {l I S : Addr} {x : Str} {t : Tok} {R : Result → Shared → Prop} (hh : A.handled = none) (hIl : l ≠ I) (hSI : S ≠ I) (hSl : S ≠ l)
    (hst : s.heap.IsListIter I l 0 ∧ s.heap.IsList l #[.str x t]) (hS : s.heap.SetOf (strKind prog w) S (fun _ => false) 0)
    (hR : ∀ h' tk, h'.SetOf (strKind prog w) S (fun k => decide (k = x)) 1 → (∀ b o, b ≠ S → b ≠ I → s.heap.get? b = some o → h'.get? b = some o) → R (.ok (.ret .none)) { s with heap := h', toks := tk }) :
    codeAny (model prog w) A (.builtin "set.update.loop" ⟨[.ref S, .ref I], []⟩) R s := by
  have W := Walks.list (prog := prog) (w := w) (A := A.in1) (by simp [hh]) I l hIl #[.str x t]
  refine codeAny_builtin F.entry_set_update_loop ?_
  rw [Around.under_plainId F.plain_set_update_loop _]
  show wpAny _ A.in1 (pyNext (.ref I) >>= _) _ _ s
  refine wpAny_bind (W.item 0 s _ _ (by simp) hst fun v h1 tk1 hv st1 k1 => ?_)
  obtain rfl : v = .str x t := by simpa using hv.symm
  have hS1 : h1.SetOf (strKind prog w) S (fun _ => false) 0 := by
    obtain ⟨o, es, ep, tb, ho, r⟩ := hS
    exact ⟨o, es, ep, tb, k1 S o (by simpa using hSI) ho, r⟩
  show wpAny _ A.in1 (holding [.str x t] (setAdd S (.str x t)) >>= _) _ _ _
  refine wpAny_bind (wpAny_holding ?_)
  unfold setAdd
  refine wpAny_holding ?_
  refine wpAny_bind ((strKind prog w).pyHash (k := x) (strKind_is _ _ _ _) ?_)
  refine wpAny_setAddHashed_of (knd := strKind prog w) (strKind_is _ _ _ _) rfl hS1 (by decide) fun h2 hsb hS2 => ?_
  refine wpAny_pure ⟨plainId_quiet F.plain_set_update_loop _, ?_⟩
  have e2 : ∀ b o, b ≠ S → h1.get? b = some o → h2.get? b = some o := fun b o hb e => by rw [hsb.2 b hb]; exact e
  refine codeAny_builtin F.entry_set_update_loop ?_
  rw [Around.under_plainId F.plain_set_update_loop _]
  show wpAny _ A.in1 (pyNext (.ref I) >>= _) _ _ _
  refine wpAny_bind (W.done _ _ _ (W.frame _ _ _ st1 fun b hb o e => e2 b o (fun h => ?_) e) fun h3 tk3 k3 => ?_)
  · simp only [List.mem_cons, List.not_mem_nil, or_false] at hb
    rcases hb with hb | hb
    · exact hSI (h ▸ hb)
    · exact hSl (h ▸ hb)
  show wpAny _ A.in1 (ret Value.none) _ _ _
  refine wpAny_pure (hR h3 tk3 ?_ fun b o hb1 hb2 e => k3 b o (by simpa using hb2) (e2 b o hb1 (k1 b o (by simpa using hb2) e)))
  have hS3 := SetOf_congr hS2 (S' := fun k => decide (k = x)) (n' := 1) (fun k => by simp) rfl
  obtain ⟨o, es, ep, tb, ho, r⟩ := hS3
  exact ⟨o, es, ep, tb, k3 S o (by simpa using hSI) ho, r⟩
set_option maxHeartbeats 3200000 in
theorem call_set_one {l : Addr} {x : Str} {t : Tok} {Q : Value → Shared → Prop} (hh : A.handled = none) (hl : s.heap.IsList l #[.str x t])
    (h : ∀ (h' : Heap) (tk : Nat), h'.SetOf (strKind prog w) s.heap.objs.size (fun k => decide (k = x)) 1 → (∀ b o, b < s.heap.objs.size → s.heap.get? b = some o → h'.get? b = some o) → Q (.ref s.heap.objs.size) { s with heap := h', toks := tk }) :
    wpAny (model prog w) A (call (.type "set") [.ref l]) Q E s := by
  obtain ⟨c, tl, hmro⟩ := F.called_set.mro
  have hmade := F.called_set.made
  have hsub := F.called_set.sub
  refine wpAny_call (codeAny_of_tree ?_)
  show wpAny _ _ (callAny (.type "set") _) _ _ _
  refine wpAny_pure ⟨Code.quiet_builtin _ (by decide +kernel), codeAny_builtin F.entry_type_call ?_⟩
  rw [Around.under_plain (weight_type_call_type "set" [.ref l] []) rfl]
  have h1 := F.called_set.notType
  have h2 := F.called_set.canCreate
  have hct := F.typeCall_set_1 (.ref l)
  repeat (any_goals (first | assumption | wp_step))
  refine codeAny_mono (code_set_new_1 (.ref l) (E := E) (Q₁ := fun obj s₁ => ∃ led : Bool, obj = .ref s.heap.objs.size ∧ s₁ = { s with heap := s.heap.push { cls := .type "set", dict := none, data := .set #[] 0 (.fresh 0 0 led) } }) fun led => ⟨led, rfl, rfl⟩) fun r s₁ hr => ?_
  cases r with
  | error e => exact hr
  | ok fl =>
    cases fl with
    | ret obj =>
      obtain ⟨led, rfl, rfl⟩ := hr
      have hS : (s.heap.push { cls := .type "set", dict := none, data := .set #[] 0 (.fresh 0 0 led) }).get? s.heap.objs.size = some { cls := .type "set", dict := none, data := .set #[] 0 (.fresh 0 0 led) } := Heap.get?_push_size _ rfl
      have hT : Shared.TypeIs { s with heap := s.heap.push { cls := .type "set", dict := none, data := .set #[] 0 (.fresh 0 0 led) } } (.ref s.heap.objs.size) "set" := ⟨_, hS, rfl⟩
      have hli := F.called_set.init.lookup
      have hbi := F.called_set.init.bind (.ref s.heap.objs.size)
      repeat (any_goals (first | assumption | wp_step))
      refine codeAny_mono (codeAny_call_builtin (R := wants (fun r s₂ => r = .none ∧ ∃ h' tk, s₂ = { s with heap := h', toks := tk } ∧
          h'.SetOf (strKind prog w) s.heap.objs.size (fun k => decide (k = x)) 1 ∧ (∀ b o, b < s.heap.objs.size → s.heap.get? b = some o → h'.get? b = some o)) E) F.called_set.init.plain F.entry_set_init (check_set_init_1 hT ?_)) fun r₂ s₂ hr₂ => ?_
      · obtain ⟨ol, hol, hcl, nl, hdl⟩ := hl
        obtain ⟨ocls, odict, odata, oslots⟩ := ol
        simp only at hcl hdl
        subst hcl; subst hdl
        have hlS : l < s.heap.objs.size := Heap.lt_size hol
        have hol' : (s.heap.push { cls := .type "set", dict := none, data := .set #[] 0 (.fresh 0 0 led) }).get? l = some { cls := .type "list", dict := odict, data := .seq #[.str x t] nl, slots := oslots } := Heap.get?_push_of_some _ hol
        have hsls := F.sub_list_set
        have hslf := F.sub_list_frozenset
        have hne : (Value.type "list" == Value.type "dict") = false := by decide
        have hl1 : (s.heap.push { cls := .type "set", dict := none, data := .set #[] 0 (.fresh 0 0 led) }).IsList l #[.str x t] := ⟨_, hol', rfl, nl, rfl⟩
        unfold Builtin.«set.__init__» noKeywords Builtin.Frozenset.updateFrom
        generalize hPI : pyIter = PI
        wp_walk
        subst hPI
        refine wpAny_pyIter_list hl1 ?_
        refine wpAny_bind (wpAny_runValue ?_)
        have hneI : l ≠ (s.heap.push { cls := .type "set", dict := none, data := .set #[] 0 (.fresh 0 0 led) }).objs.size := by
          rw [Heap.size_push]; exact Nat.ne_of_lt (Nat.lt_succ_of_lt hlS)
        have hSI : s.heap.objs.size ≠ (s.heap.push { cls := .type "set", dict := none, data := .set #[] 0 (.fresh 0 0 led) }).objs.size := by
          rw [Heap.size_push]; exact Nat.ne_of_lt (Nat.lt_succ_self _)
        refine set_loop_one (x := x) (t := t) (by simp [hh]) hneI hSI (Nat.ne_of_gt hlS) ⟨⟨_, Heap.get?_push_size _ rfl, rfl, rfl⟩, hl1.push _⟩ ?hS0 ?hR
        case hS0 =>
          exact (setObjOf_fresh (knd := strKind prog w) led).setOf (Heap.get?_push_of_some _ hS) (by decide)
        case hR =>
          intro h' tk' hS' hk'
          refine wpAny_pure ?_
          show wpAny _ _ (ret Value.none) _ _ _
          refine wpAny_pure ⟨rfl, h', tk', rfl, hS', fun b o hb e => ?_⟩
          refine hk' b o (Nat.ne_of_lt hb) ?_ (Heap.get?_push_of_some _ (Heap.get?_push_of_some _ e))
          rw [Heap.size_push]; exact Nat.ne_of_lt (Nat.lt_succ_of_lt hb)
      · cases r₂ with
        | error e => exact hr₂
        | ok fl₂ =>
          cases fl₂ with
          | ret r =>
            obtain ⟨rfl, h', tk, rfl, hS', hk'⟩ := hr₂
            repeat (any_goals (first | assumption | wp_step))
            exact h _ _ hS' hk'
          | _ => exact hr₂.elim
    | _ => exact hr.elim
theorem set_one {l n : Nat} {x : Str} {t : Tok} {Q : Value → Shared → Prop} (F : Fr h₀ L s.heap m) (N : News h₀ L s.heap news) (hh : A.handled = none) (hl : (l, listOf (strValues [(x, t)]).toArray n) ∈ news)
    (h : ∀ D h' (tk : Nat) o, Fr h₀ L h' m → News h₀ L h' ((D, o) :: news) → (∀ p ∈ news, p.1 < D) → o.SetObjOf (strKind prog w) (fun k => decide (k = x)) 1 → Q (.ref D) { s with heap := h', toks := tk }) :
    wpAny (model prog w) A (call (.type "set") [.ref l]) Q E s := by
  refine call_set_one (x := x) (t := t) hh (listOf_isList (N.get hl)) fun h' tk hS hk => ?_
  obtain ⟨o, ho, hso⟩ := hS.objOf
  obtain ⟨oL, _, _, hL, _⟩ := F.ns
  have hLlt : L < s.heap.objs.size := Heap.lt_size hL
  refine h s.heap.objs.size h' tk o ⟨F.ns.at' fun o' e => hk L o' hLlt e, fun b o' e => hk b o' (Heap.lt_size (F.keep b o' e)) (F.keep b o' e), F.above⟩ (fun p hp => ?_) (fun p hp => Heap.lt_size (N p hp).1) hso
  rcases List.mem_cons.mp hp with rfl | hp
  · refine ⟨ho, Nat.ne_of_gt hLlt, ?_⟩
    cases hq : h₀.get? s.heap.objs.size with
    | none => rfl
    | some o' => exact absurd (Heap.lt_size (F.keep _ _ hq)) (Nat.lt_irrefl _)
  · exact ⟨hk _ _ (Heap.lt_size (N p hp).1) (N p hp).1, (N p hp).2.1, (N p hp).2.2⟩
end
end
section
open PySem PySem.W PyProof.Rows PySem.Calls PySem.Spec
local macro_rules | `(tactic| walk_at "BF") => mqT "(seq (refine (lt_bef (by (red assumption)) ?_)) (rep (first (red (refine (Bef.head ?_)) (rep (first (red (exact Has.head)) (red (refine (Has.tail ?_))))) done) (red (refine (Bef.tail ?_))))) done)"
local macro_rules | `(tactic| k_ne) => mqT "(seq (refine (neN ?_)) (try (ds)) (first (seq (refine (Nat.ne_of_lt ?_)) (at BF)) (seq (refine (Nat.ne_of_gt ?_)) (at BF))))"
theorem fin_init {P : Params} {h₀ h : Heap} {L : Addr} {ps pm l2 ns nsd l4 D et ea dl wr wd lb la q pc : Nat} {o oT oE oA oB : Obj} {B : Value} {tb : Array Value} {e0 e1 e4 : Nat} {t1 t2 t0 a0 a1 a2 a3 a4 a5 a6 a7 a8 a9 a10 a11 a12 a13 a14 a15 a16 : Tok} {rest : List (Addr × Obj)}
    (N : News h₀ L h ((ps, listOf #[.bool false] 0) :: (pm, o) :: (l2, listOf #[] 0) :: (ns, listOf ([] ++ [B] ++ [Value.ref l2]).toArray e4) :: (nsd, listOf #[.ref l4] 0) :: (l4, listOf #[.ref D] 0) :: (D, tupOf [.str (Str.ofString "http://www.w3.org/XML/1998/namespace") t1, .str (Str.ofString "xml") t2]) :: (et, oT) :: (ea, oE) :: (dl, listOf #[] 0) :: (wr, instObj 157 wd) :: (wd, dictOf [⟨PyData.keyHash P (Str.ofString "_write"), .str (Str.ofString "_write") a0, .ref q⟩, ⟨PyData.keyHash P (Str.ofString "_data"), .str (Str.ofString "_data") a1, .ref dl⟩, ⟨PyData.keyHash P (Str.ofString "_with_comments"), .str (Str.ofString "_with_comments") a2, .bool false⟩, ⟨PyData.keyHash P (Str.ofString "_strip_text"), .str (Str.ofString "_strip_text") a3, .bool true⟩, ⟨PyData.keyHash P (Str.ofString "_exclude_attrs"), .str (Str.ofString "_exclude_attrs") a4, .ref ea⟩, ⟨PyData.keyHash P (Str.ofString "_exclude_tags"), .str (Str.ofString "_exclude_tags") a5, .ref et⟩, ⟨PyData.keyHash P (Str.ofString "_rewrite_prefixes"), .str (Str.ofString "_rewrite_prefixes") a6, .bool false⟩, ⟨PyData.keyHash P (Str.ofString "_qname_aware_tags"), .str (Str.ofString "_qname_aware_tags") a7, .none⟩, ⟨PyData.keyHash P (Str.ofString "_find_qname_aware_attrs"), .str (Str.ofString "_find_qname_aware_attrs") a8, .none⟩, ⟨PyData.keyHash P (Str.ofString "_declared_ns_stack"), .str (Str.ofString "_declared_ns_stack") a9, .ref nsd⟩, ⟨PyData.keyHash P (Str.ofString "_ns_stack"), .str (Str.ofString "_ns_stack") a10, .ref ns⟩, ⟨PyData.keyHash P (Str.ofString "_prefix_map"), .str (Str.ofString "_prefix_map") a11, .ref pm⟩, ⟨PyData.keyHash P (Str.ofString "_preserve_space"), .str (Str.ofString "_preserve_space") a12, .ref ps⟩, ⟨PyData.keyHash P (Str.ofString "_pending_start"), .str (Str.ofString "_pending_start") a13, .none⟩, ⟨PyData.keyHash P (Str.ofString "_root_seen"), .str (Str.ofString "_root_seen") a14, .bool false⟩, ⟨PyData.keyHash P (Str.ofString "_root_done"), .str (Str.ofString "_root_done") a15, .bool false⟩, ⟨PyData.keyHash P (Str.ofString "_ignored_depth"), .str (Str.ofString "_ignored_depth") a16, .int 0 t0⟩] e0) :: (lb, oB) :: (la, oA) :: (q, bfmObj "list.append" (.ref pc)) :: (pc, listOf #[] e1) :: (130, tabObj tb) :: rest))
    (hlt : ∀ p ∈ rest, p.1 < wd) (r1 : ∀ p ∈ rest, p.1 ≠ 130) (r2 : ∀ p ∈ rest, p.1 ≠ pc)
    (hp : [130, pc, q, la, lb, wd, wr, dl, ea, et, D, l4, nsd, ns, l2, pm, ps].Pairwise (· < ·)) :
    ∃ (rest' : List (Addr × Obj)) (tk : Nat → Tok), News h₀ L h (wCells P tk ⟨ea, et, 0, t0⟩ wd wr q pc dl nsd ns pm ps false false [] [] [.ref l4] [B, .ref l2] [.bool false] tb e0 e1 0 0 e4 0 rest') ∧ WOrd wd wr q pc dl nsd ns pm ps ∧ WOff wd pc dl nsd ns ps rest' ∧ NsOk [.ref l4] rest' ∧ (∀ p ∈ rest, p ∈ rest') ∧ (ea, oE) ∈ rest' ∧ (et, oT) ∈ rest' := by
  have g : ∀ a : Nat, wd < a → ∀ p ∈ rest, p.1 ≠ a := fun a ha p h => Nat.ne_of_lt (Nat.lt_trans (hlt p h) ha)
  have W : WOff wd pc dl nsd ns ps rest := ⟨r1, r2, fun p h => Nat.ne_of_lt (hlt p h), g _ (by walk_at "BF"), g _ (by walk_at "BF"), g _ (by walk_at "BF"), g _ (by walk_at "BF")⟩
  refine ⟨(pm, o) :: (l2, listOf #[] 0) :: (l4, listOf #[.ref D] 0) :: (D, tupOf [.str (Str.ofString "http://www.w3.org/XML/1998/namespace") t1, .str (Str.ofString "xml") t2]) :: (et, oT) :: (ea, oE) :: (lb, oB) :: (la, oA) :: rest, fun i => ([a0, a1, a2, a3, a4, a5, a6, a7, a8, a9, a10, a11, a12, a13, a14, a15, a16] : List Tok).getD i 0, ?_, ⟨by walk_at "BF", by walk_at "BF", by walk_at "BF", by walk_at "BF", by walk_at "BF", by walk_at "BF", by walk_at "BF", by walk_at "BF", by walk_at "BF"⟩, (wOff_cons (wOff_cons (wOff_cons (wOff_cons (wOff_cons (wOff_cons (wOff_cons (wOff_cons W (by k_ne) (by k_ne) (by k_ne) (by k_ne) (by k_ne) (by k_ne) (by k_ne)) (by k_ne) (by k_ne) (by k_ne) (by k_ne) (by k_ne) (by k_ne) (by k_ne)) (by k_ne) (by k_ne) (by k_ne) (by k_ne) (by k_ne) (by k_ne) (by k_ne)) (by k_ne) (by k_ne) (by k_ne) (by k_ne) (by k_ne) (by k_ne) (by k_ne)) (by k_ne) (by k_ne) (by k_ne) (by k_ne) (by k_ne) (by k_ne) (by k_ne)) (by k_ne) (by k_ne) (by k_ne) (by k_ne) (by k_ne) (by k_ne) (by k_ne)) (by k_ne) (by k_ne) (by k_ne) (by k_ne) (by k_ne) (by k_ne) (by k_ne)) (by k_ne) (by k_ne) (by k_ne) (by k_ne) (by k_ne) (by k_ne) (by k_ne)), ?_, fun p hp => .tail _ (.tail _ (.tail _ (.tail _ (.tail _ (.tail _ (.tail _ (.tail _ (hp)))))))), (.tail _ (.tail _ (.tail _ (.tail _ (.tail _ (.head _)))))), (.tail _ (.tail _ (.tail _ (.tail _ (.head _)))))⟩
  · exact (news_c N (.tail _ (.tail _ (.tail _ (.tail _ (.tail _ (.tail _ (.tail _ (.tail _ (.tail _ (.tail _ (.tail _ (.head _)))))))))))) (news_c N (.tail _ (.tail _ (.tail _ (.tail _ (.tail _ (.tail _ (.tail _ (.tail _ (.tail _ (.tail _ (.head _))))))))))) (news_c N (.tail _ (.tail _ (.tail _ (.tail _ (.tail _ (.tail _ (.tail _ (.tail _ (.tail _ (.tail _ (.tail _ (.tail _ (.tail _ (.tail _ (.head _))))))))))))))) (news_c N (.tail _ (.tail _ (.tail _ (.tail _ (.tail _ (.tail _ (.tail _ (.tail _ (.tail _ (.tail _ (.tail _ (.tail _ (.tail _ (.tail _ (.tail _ (.head _)))))))))))))))) (news_c N (.tail _ (.tail _ (.tail _ (.tail _ (.tail _ (.tail _ (.tail _ (.tail _ (.tail _ (.head _)))))))))) (news_c N (.tail _ (.tail _ (.tail _ (.tail _ (.head _))))) (news_c N (.tail _ (.tail _ (.tail _ (.head _)))) (news_c N (.head _) (news_c N (.tail _ (.tail _ (.tail _ (.tail _ (.tail _ (.tail _ (.tail _ (.tail _ (.tail _ (.tail _ (.tail _ (.tail _ (.tail _ (.tail _ (.tail _ (.tail _ (.head _))))))))))))))))) (news_c N (.tail _ (.head _)) (news_c N (.tail _ (.tail _ (.head _))) (news_c N (.tail _ (.tail _ (.tail _ (.tail _ (.tail _ (.head _)))))) (news_c N (.tail _ (.tail _ (.tail _ (.tail _ (.tail _ (.tail _ (.head _))))))) (news_c N (.tail _ (.tail _ (.tail _ (.tail _ (.tail _ (.tail _ (.tail _ (.head _)))))))) (news_c N (.tail _ (.tail _ (.tail _ (.tail _ (.tail _ (.tail _ (.tail _ (.tail _ (.head _))))))))) (news_c N (.tail _ (.tail _ (.tail _ (.tail _ (.tail _ (.tail _ (.tail _ (.tail _ (.tail _ (.tail _ (.tail _ (.tail _ (.head _))))))))))))) (news_c N (.tail _ (.tail _ (.tail _ (.tail _ (.tail _ (.tail _ (.tail _ (.tail _ (.tail _ (.tail _ (.tail _ (.tail _ (.tail _ (.head _)))))))))))))) (fun p hp => N p (.tail _ (.tail _ (.tail _ (.tail _ (.tail _ (.tail _ (.tail _ (.tail _ (.tail _ (.tail _ (.tail _ (.tail _ (.tail _ (.tail _ (.tail _ (.tail _ (.tail _ (hp))))))))))))))))))))))))))))))))))))
  · refine ⟨l4, 0, D, t1, t2, rfl, (.tail _ (.tail _ (.head _))), (.tail _ (.tail _ (.tail _ (.head _)))), fun k v hk hv => ?_⟩
    cases k with
    | zero => exact absurd hk (Nat.lt_irrefl 0)
    | succ k => simp at hv
end
section
open PySem PySem.Calls PyProof.Rows PySem.W PySem.Spec
theorem bind_rest {K : Frag} {S : Setting} {n1 n2 : Str} {b : List Stmt} {sc : Scope} {p1 p2 : Pos} {doc pm cdv ct : Value} {an : Option Addr} {x : Value} {vs : List Value} (hz : vs.length ≤ sizeLine) :
  peek1 K S (bindArgs (fnOf n1 n2 { posonlyargs := [], args := [{ arg := Str.ofString "text", annotation := none, pos := p1 }], vararg := some { arg := Str.ofString "pairs", annotation := none, pos := p2 }, kwonlyargs := [], kw_defaults := [], kwarg := none, defaults := [] } b sc .none .none doc pm an cdv ct) ⟨x :: vs, []⟩) = some (({ cls := .type "tuple", data := .seq vs.toArray } : Obj), fun D => some [(Str.ofString "text", x), (Str.ofString "pairs", .ref D)]) := by
  have e : newTuple vs = newObjAsIs (.type "tuple") (.seq vs.toArray) := by
    unfold newTuple newObj
    have h : ¬ vs.toArray.size > sizeLine := by rw [List.size_toArray]; exact Nat.not_lt.mpr hz
    simp only [if_neg h]
  unfold bindArgs
  simp only [List.forIn_nil, pure_bind, Option.isNone_some, Bool.and_false, Bool.false_eq_true, if_false]
  simp only [List.map_nil, List.map_cons, List.nil_append, List.length_cons, List.length_nil, Nat.zero_add, List.drop_succ_cons, List.drop_zero, e]
  rfl
end
section
open PySem PySem.Calls PyProof.Rows PySem.W PySem.Spec
namespace F2
theorem typeOf_append : typeOf (.builtin "list.append") = pure (.type "method_descriptor") := by kernel_rfl
theorem slot_md_get : Slot "method_descriptor" "__get__" "method_descriptor.__get__" :=
  .of (owner := "method_descriptor") (n := "__get__") (by rw [typeLookup_type, builtinLookup_eq_fast]; kernel_rfl) (by decide +kernel) (by decide +kernel) (by decide +kernel)
    (by first | exact .inl (by decide +kernel) | exact .inr (by decide +kernel)) (by rw [isSubtype_type]; kernel_rfl)
theorem no_md_set : typeLookup (.type "method_descriptor") "__set__" = pure none := by rw [typeLookup_type, builtinLookup_eq_fast]; kernel_rfl
theorem no_md_del : typeLookup (.type "method_descriptor") "__delete__" = pure none := by rw [typeLookup_type, builtinLookup_eq_fast]; kernel_rfl
theorem entry_md_get : entryFor table "method_descriptor.__get__" = some Builtin.«method_descriptor.__get__» := entryFor_of_tree (by kernel_rfl)
theorem args_md_get (a b c : Value) : argsOk "method_descriptor.__get__" ⟨[a, b, c], []⟩ := by unfold argsOk; kernel_rfl
theorem lk_list_append : typeLookup (.type "list") "append" = pure (some (.builtin "list.append")) := by rw [typeLookup_type, builtinLookup_eq_fast]; kernel_rfl
theorem owner_append : (".".intercalate ("list.append".cutAt '.').dropLast) = "list" := by
  have e0 : "list.append".cutAt '.' = ["list", "append"] := by first | rfl | decide +kernel
  rw [e0]; decide +kernel
theorem sub_list_append_owner : isSubtype (.type "list") (.type (".".intercalate ("list.append".cutAt '.').dropLast)) = pure true := by
  rw [owner_append, isSubtype_type]; kernel_rfl
theorem told : Manifest.toldItsClass.contains "list.append" = false := by decide +kernel
end F2
section
variable {prog : Program} {w : World} {A : Around} {E : Value → Shared → Prop} {h : Heap} {g : Array GenState} {d : Drawn} {t : Nat} {os : OsState} {a : Addr} {its : Array Value} {n : Nat}
set_option maxHeartbeats 1000000 in
theorem append_get {R : Result → Shared → Prop} (hx : h.get? a = some (listOf its n)) (hq : R (.ok (.ret (.ref h.objs.size))) ⟨h.push (bfmObj "list.append" (.ref a)), g, d, t, os⟩) :
    codeAny (model prog w) A (.call (.builtin "method_descriptor.__get__") ⟨[.builtin "list.append", .ref a, .type "list"], []⟩) R ⟨h, g, d, t, os⟩ := by
  have hT : (⟨h, g, d, t, os⟩ : Shared).TypeIs (.ref a) "list" := ⟨_, hx, rfl⟩
  have hT5 : (⟨h, g, d, t, os⟩ : Shared).TypeIs (.builtin "list.append") "method_descriptor" := F2.typeOf_append
  have f8 := F2.sub_list_append_owner
  have f9 := F2.told
  refine codeAny_call_builtin F2.slot_md_get.plain F2.entry_md_get (F2.slot_md_get.check _ _ _ _ _ _ _ _ hT5 (F2.args_md_get _ _ _) ?_)
  iterate 20 (any_goals (first | assumption | wp_step))
  refine wpAny_pure ?_
  refine wpAny_bind ?_
  refine wpAny_newObj_type ?_
  exact wpAny_pure hq
theorem append_entry {tk : Tok} {Q : Fin → Shared → Prop} (hx : h.get? a = some (listOf its n)) (hq : Q (.done (.ret (.ref h.objs.size))) ⟨h.push (bfmObj "list.append" (.ref a)), g, d, t, os⟩) :
    wpAny (model prog w) A (Builtin.«object.__getattribute__» ⟨[.ref a, .str "append" tk], []⟩) Q E ⟨h, g, d, t, os⟩ := by
  have hT : (⟨h, g, d, t, os⟩ : Shared).TypeIs (.ref a) "list" := ⟨_, hx, rfl⟩
  have hT5 : (⟨h, g, d, t, os⟩ : Shared).TypeIs (.builtin "list.append") "method_descriptor" := F2.typeOf_append
  have f4 := F2.lk_list_append
  have f5 := F2.typeOf_append
  have f6 := F2.slot_md_get.lookup
  have f7 := F2.no_md_set
  have f8 := F2.no_md_del
  iterate 37 (any_goals (first | assumption | wp_step))
  refine wpAny_loadPart hx ?_
  show wpAny _ _ (instanceDict a false) _ _ _
  unfold instanceDict
  refine wpAny_bind (wpAny_loadPart hx ?_)
  show wpAny _ _ (pure none) _ _ _
  refine wpAny_pure ?_
  repeat (any_goals (first | assumption | wp_step))
  refine append_get hx ?_
  repeat (any_goals (first | assumption | wp_step))
theorem append_call {tk : Tok} {R : Result → Shared → Prop} (hx : h.get? a = some (listOf its n)) (hq : R (.ok (.ret (.ref h.objs.size))) ⟨h.push (bfmObj "list.append" (.ref a)), g, d, t, os⟩) :
    codeAny (model prog w) A (.call (.builtin "list.__getattribute__") ⟨[.ref a, .str "append" tk], []⟩) R ⟨h, g, d, t, os⟩ :=
  codeAny_call_builtin F.slot_list_getattribute.plain F.entry_list_ga (F.slot_list_getattribute.check _ _ _ _ _ _ _ _ (show (⟨h, g, d, t, os⟩ : Shared).TypeIs (.ref a) "list" from ⟨_, hx, rfl⟩) (F.args_list_getattribute_2 _ _) (append_entry hx hq))
theorem append_by {tk : Tok} {Q : Value → Shared → Prop} (hx : h.get? a = some (listOf its n)) (hq : Q (.ref h.objs.size) ⟨h.push (bfmObj "list.append" (.ref a)), g, d, t, os⟩) : wpAny (model prog w) A (getAttrBy (.ref a) (.str "append" tk) true true) Q E ⟨h, g, d, t, os⟩ := by
  have hT : (⟨h, g, d, t, os⟩ : Shared).TypeIs (.ref a) "list" := ⟨_, hx, rfl⟩
  have f2 := F.slot_list_getattribute.lookup
  have f3 := F.slot_list_getattribute.bind (.ref a)
  repeat (any_goals (first | assumption | wp_step))
  refine append_call hx ?_
  repeat (any_goals (first | assumption | wp_step))
end
section
variable {prog : Program} {w : World} {A : Around} {E : Value → Shared → Prop} {s : Shared} {h₀ : Heap} {L : Addr} {m : Str → Option Value} {news : List (Addr × Obj)}
theorem append_attr {l : Addr} {its : Array Value} {n : Nat} {Q : Value → Shared → Prop} (F : Fr h₀ L s.heap m) (N : News h₀ L s.heap news) (hm : (l, listOf its n) ∈ news)
    (k : ∀ q h' tk', Fr h₀ L h' m → News h₀ L h' ((q, bfmObj "list.append" (.ref l)) :: news) → (∀ p ∈ news, p.1 < q) → Q (.ref q) { s with heap := h', toks := tk' }) :
    wpAny (model prog w) A (getAttr (.ref l) (Str.ofString "append") true) Q E s := by
  unfold getAttr
  refine wpAny_bind (wpAny_mkText ?_)
  obtain ⟨h, g, d, t, os⟩ := s
  exact append_by (N.get hm) (k _ _ _ (F.push _) (N.push F _) fun p hp => Heap.lt_size (N p hp).1)
end
end
section
open PySem PySem.Calls PyProof.Rows PySem.W PySem.Spec
section
variable {prog : Program} {w : World} {A : Around} {E : Value → Shared → Prop} {s : Shared} {h₀ : Heap} {L : Addr} {m : Str → Option Value} {news : List (Addr × Obj)}
theorem inplace_seq {M : Model} {a b : Value} {T id : String} {Q : Value → Shared → Prop} (ha : s.TypeIs a T) (hb : s.TypeIs b T)
    (hf : typeLookup (.type T) (dunderI "add") = pure (some (.builtin id))) (hs : isSeqSlot (some (.builtin id)) = true) (hfill : fillsNumberSlot (.type T) "add" = pure false)
    (hc : wpAny M A (call (.builtin id) [a, b]) Q E s) : wpAny M A (inplaceOp .Add a b) Q E s := by
  unfold inplaceOp
  refine wpAny_holding ?_
  have hfi : fillsInplaceSlot (.type T) "add" (Operator.Add == .Add) = pure false := by
    unfold fillsInplaceSlot
    show (typeLookup (.type T) (dunderI "add") >>= fun fi => pure (fi.isSome && !isSeqSlot fi)) = pure false
    rw [hf]
    show (pure (true && !isSeqSlot (some (.builtin id))) : Sem Bool) = pure false
    rw [hs]; rfl
  have hsi : seqSlot? (.type T) (dunderI "add") = pure (some (.builtin id)) := PySem.seqSlot_of hf hs
  refine wpAny_bind (wpAny_typeOf ha (wpAny_bind (wpAny_of_eq hfi ?_)))
  show wpAny M A (if false = true then _ else _) Q E s
  rw [if_neg Bool.false_ne_true]
  refine wpAny_bind (wpAny_binaryOp1_none (nm := "add") ha hb hfill ?_)
  refine wpAny_bind (wpAny_of_eq hsi ?_)
  exact wpAny_bind (wpAny_rule hc)
theorem iadd_all {a b : Nat} {vs ws : List Value} {ka kb : Nat} {Q : Value → Shared → Prop} {pre post : List (Addr × Obj)} (F : Fr h₀ L s.heap m) (N : News h₀ L s.heap (pre ++ (a, listOf vs.toArray ka) :: post)) (hb : (b, listOf ws.toArray kb) ∈ pre ++ (a, listOf vs.toArray ka) :: post)
    (p1 : ∀ p ∈ pre, p.1 ≠ a) (p2 : ∀ p ∈ post, p.1 ≠ a) (hsz : vs.length + ws.length ≤ 100000)
    (h : ∀ h' k', Fr h₀ L h' m → News h₀ L h' (pre ++ (a, listOf (vs ++ ws).toArray k') :: post) → Q (.ref a) { s with heap := h' }) : wpAny (model prog w) A (inplaceOp .Add (.ref a) (.ref b)) Q E s := by
  have z := N (a, listOf vs.toArray ka) (List.mem_append.mpr (.inr (.head _)))
  have zb := N _ hb
  have hs1 : vs.toArray.size ≤ sizeLine := by rw [List.size_toArray, sizeLine_eq]; lia
  have hs2 : vs.toArray.size + ws.toArray.size ≤ sizeLine + 1 := by rw [List.size_toArray, List.size_toArray, sizeLine_eq]; lia
  have hs0 : ¬(!vs.toArray.isEmpty && Builtin.List.listTooLong (vs.toArray.size + ws.toArray.size)) = true := by
    have h9 : Builtin.List.listTooLong (vs.toArray.size + ws.toArray.size) = false := by
      unfold Builtin.List.listTooLong
      rw [List.size_toArray, List.size_toArray]
      exact decide_eq_false (by rw [sizeLine_eq]; lia)
    rw [h9]; simp
  refine inplace_seq ⟨_, z.1, rfl⟩ ⟨_, zb.1, rfl⟩ PySem.F.slot_list_iadd.lookup (by decide +kernel) noFill_list_add ?_
  refine call_meets PySem.F.slot_list_iadd ⟨_, z.1, rfl⟩ PySem.F.entry_list_iadd (PySem.F.args_list_iadd_2 _ _) (AutoSeq1.list___iadd___list_list_0 a vs.toArray ka b ws.toArray kb hs0 hs1 hs2) ⟨z.1, zb.1, ?_⟩
  have hs := Heap.SameBut.update a (Obj.mapSeq fun x => x ++ ws.toArray) (h := s.heap)
  refine h _ (if (vs.toArray ++ ws.toArray).size == vs.toArray.size then ka else ka + 1) (F.change hs z.2.1 z.2.2) (news_set N p1 p2 hs ?_)
  have e : vs.toArray ++ ws.toArray = (vs ++ ws).toArray := by simp
  have e2 : Obj.mapSeq (fun x => x ++ ws.toArray) (listOf vs.toArray ka) = listOf (vs ++ ws).toArray (if (vs.toArray ++ ws.toArray).size == vs.toArray.size then ka else ka + 1) := by rw [← e]; rfl
  have g := Heap.get?_update_self (Obj.mapSeq fun x => x ++ ws.toArray) z.1 (by rw [e2]; rfl)
  rw [e2] at g
  exact g
end
end
section
open PySem
noncomputable def defParts : List Stmt → List Stmt × Scope
  | [.FunctionDef _ _ body _ _ _ scope _ _ _] => (body, scope)
  | _ :: r => defParts r
  | [] => ([], { kind := .module, names := [], isGenerator := false, isCoroutine := false, more := [] })
noncomputable def lawScope : Scope := (defParts PySem.Challenge.pw_pg0301_02.main.body).2
noncomputable def lawFrom (k : Nat) : List Stmt := (defParts PySem.Challenge.pw_pg0301_02.main.body).1.drop k
end
section
open PySem PySem.W PyProof.Rows PySem.Calls PySem.Spec
theorem news_midL {h₀ h : Heap} {L : Addr} (l1 : List (Addr × Obj)) {q : Addr × Obj} {l2 : List (Addr × Obj)} (N : News h₀ L h (l1 ++ q :: l2)) : News h₀ L h (q :: (l1 ++ l2)) := List.forall_mem_cons.2 ⟨N _ (List.mem_append_right _ (.head _)), fun p hp => N p (by
  rcases List.mem_append.mp hp with h | h
  · exact List.mem_append_left _ h
  · exact List.mem_append_right _ (.tail _ h))⟩
theorem all_app {α : Type} {P : α → Prop} {l1 l2 : List α} (h : ∀ p ∈ l1, P p) (g : ∀ p ∈ l2, P p) : ∀ p ∈ l1 ++ l2, P p := List.forall_mem_append.2 ⟨h, g⟩
theorem all_cons {α : Type} {P : α → Prop} {q : α} {l : List α} (h : P q) (g : ∀ p ∈ l, P p) : ∀ p ∈ q :: l, P p := List.forall_mem_cons.2 ⟨h, g⟩

end
section
open PySem PySem.W PyProof.Rows PySem.Calls PySem.Spec
local macro_rules | `(tactic| k_room) => `(tactic| ktr_room)
local macro_rules | `(tactic| k_mem) => mqT "(first (redi assumption) (seq (rep (first (redi (exact (List.Mem.head _))) (redi assumption) (apply List.Mem.tail))) done))"
local macro_rules | `(tactic| k_lt $_h) => `(tactic| skip)
local macro_rules | `(tactic| walk_at "L1") => mqT "(first (red assumption) (seq (refine (lt_in (by (redi assumption)) ?_)) (rep (first (red (exact InA.head)) (red (refine (InA.tail ?_))))) done) (seq (refine (lt_wo (by (red assumption)) ?_)) (rep (first (red (refine (Bef.head ?_)) (rep (first (red (exact Has.head)) (red (refine (Has.tail ?_))))) done) (red (refine (Bef.tail ?_))))) done))"
local macro_rules | `(tactic| walk_at "LT") => mqT "(first (at L1) (exact (Nat.lt_succ_self _)) (seq (refine (Nat.lt_succ_of_lt ?_)) (at L1)) (seq (refine (Nat.lt_succ_of_lt (Nat.lt_succ_of_lt ?_))) (at L1)))"
local macro_rules | `(tactic| k_ne) => mqT "(seq (refine (neN ?_)) (try (ds)) (first (red assumption) (seq (refine (Nat.ne_of_lt ?_)) (at LT)) (seq (refine (Nat.ne_of_gt ?_)) (at LT)) omega))"
local macro_rules | `(tactic| k_all) => mqT "(first (red assumption) (exact (List.forall_mem_nil _)) (red (rule ne_cons NK -)) (seq (refine (ne_suf (by (redi assumption)) ?_)) (rep (first (red (exact Suf.here)) (red (refine (Suf.tail ?_))))) done))"
local macro_rules | `(tactic| k_enter) => mqT "(seq (rule code_def aaaaaffhiiR01.fffd 5670123489abhcefg (first (exact (BindsTo.of_eq rfl)) (exact (binds_K (by k_in) rfl (by k_is) rfl rfl rfl)) (rule kp_binds nE -)) (exact (locs rfl))) k_whole (intro g' L' h' FG' F' N' B' X' T') (try (ds)) (try k_fold))"
local macro_rules | `(tactic| walk_at "callWith ref") => mqT "(line - (callWith _ (Value.ref _) List.nil (backTo _ (starEach (List.cons _ _) _)) List.nil) (first (seq (rule callWith_bfmN am. -) k_whole) (seq (rule callWith_bfmK ai. -) k_whole)))"
local macro_rules | `(tactic| walk_at "And") => mqT "(seq (red (show (And (IsBfm _ _ _ _) _))) (dflt (first (rule And.intro 0. - (rule bfm_of am -)) (rule And.intro 0. - (rule bfm_ofK ni -)))) (try (ds List.nil_append List.cons_append)))"
local macro_rules | `(tactic| walk_at "delItem ref ref") => mqT "(line H (delItem (Value.ref _) (Value.ref _)) (rule delAllP aau.01 - (simp strValues sizeLine) (simp strValues)))"
local macro_rules | `(tactic| walk_at "call ref") => mqT "(line H (call (Value.ref _) (List.cons (Value.str _ _) List.nil)) (rule bfm_append aa0u.1 - (rule bfm_of am -) (seq (simp strValues sizeLine) (try (at AR)))))"
local macro_rules | `(tactic| k_upd) => mqT "(first (exact TailF.here) (rule TailF.cons u -))"
local macro_rules | `(tactic| k_updF) => mqT "(first (rule UpdT.head Ku -) (rule UpdT.tail NU -))"
local macro_rules | `(tactic| walk_at "truthy ref") => mqT "(line - - (first (rule truthyD0 amrr. -) (rule truthyT am0. - (first (red (exact TruthL.e0)) (red (exact TruthL.s0)) (red (exact TruthL.s1))))))"
local macro_rules | `(tactic| walk_at "subscriptTail") => mqT "(line - (subscriptTail _ _ (Value.ref _) (Value.int -1 _)) (rule itemLast ams.w -))"
local macro_rules | `(tactic| walk_at "call builtin:list.append") => mqT "(line HP (call (Value.builtin 'list.append') (List.cons (Value.ref _) (List.cons _ List.nil))) (rule appL aau0. - (seq (simp1 List.length_append List.length_cons List.length_nil strValues List.length_map) (at AR))))"
local macro_rules | `(tactic| walk_at "subscriptTail") => mqT "(line - (subscriptTail _ _ (Value.ref _) (Value.str _ _)) (rule dictItem amrr.w -))"
local macro_rules | `(tactic| walk_at "setAttr ref") => mqT "(line HS - (rule set_dict aaaIfiiii01ub. - (first (exact get_seen) (exact get_done)) (first (red (exact put_seen)) (red (exact put_done)))))"
local macro_rules | `(tactic| walk_at "call builtin:list.pop") => mqT "(line HP (call (Value.builtin 'list.pop') (List.cons (Value.ref _) List.nil)) (rule popL aauA. -))"
local macro_rules | `(tactic| walk_at "call builtin:len") => mqT "(line - (call (Value.builtin 'len') (List.cons (Value.ref _) List.nil)) (rule lenL amA. -))"
local macro_rules | `(tactic| walk_at "eval Name") => mqT "(line - - (rule name_fr agffDM. 132405))"
local macro_rules | `(tactic| walk_at "loadName") => mqT "(line - - (rule load_fr agffM. 13204))"
local macro_rules | `(tactic| walk_at "AR0") => mqT "(first (red assumption) decide (seq (refine (l0 (:= a ?ara) ?arh ?are)) (case arh (red assumption)) (case are rfl)) (seq (refine (l1 (:= a ?ara) ?arh ?are)) (case arh (red assumption)) (case are rfl)) (seq (refine (s0 (:= a ?ara) ?arh ?are)) (case arh (red assumption)) (case are rfl)) (seq (refine (s1 (:= a ?ara) ?arh ?are)) (case arh (red assumption)) (case are rfl)) (seq (refine (q0 (:= a ?ara) ?arh ?are)) (case arh (red assumption)) (case are rfl)) (seq (refine (q1 (:= a ?ara) ?arh ?are)) (case arh (red assumption)) (case are rfl)) (seq (refine (ltOf ?_)) (refine (l1 (:= a ?ara) ?arh ?are)) (case arh (red assumption)) (case are rfl)) (seq (refine (ltOf ?_)) (refine (s1 (:= a ?ara) ?arh ?are)) (case arh (red assumption)) (case are rfl)) (seq (refine (ltOf ?_)) (refine (q1 (:= a ?ara) ?arh ?are)) (case arh (red assumption)) (case are rfl)) (seq (refine (w0 (:= y ?ary) (:= a ?ara) ?arh ?arg ?are)) (case arh (red assumption)) (case arg (red assumption)) (case are rfl)) (seq (refine (w2 (:= y ?ary) (:= a ?ara) ?arh ?arg ?are)) (case arh (red assumption)) (case arg (red assumption)) (case are rfl)) (seq (refine (a2 (:= a ?ara) (:= b ?arb) ?arh ?arg ?are)) (case arh (red assumption)) (case arg (red assumption)) (case are rfl)) (seq (refine (a3 (:= a ?ara) (:= b ?arb) ?arh ?arg ?are)) (case arh (red assumption)) (case arg (red assumption)) (case are rfl)) (seq (refine (ngt ?_)) (refine (z0 (:= a ?ara) ?arh ?are)) (case arh (red assumption)) (case are rfl)) (seq (refine (l0 (:= a ?ara) ?arh ?are)) (case arh (rep (first (red assumption) (red (refine (slx ?_ ?_))) (exact (sq (by (red assumption))))))) (case are rfl)))"
local macro_rules | `(tactic| walk_at "AR") => mqT "(first (at AR0) lia omega)"
local macro_rules | `(tactic| walk_at "RM") => mqT "(first decide (seq (refine (rm1 (:= a ?ara) ?arh ?are)) (case arh (red assumption)) (case are rfl)) (seq (refine (rm2 (:= a ?ara) ?arh ?are)) (case arh (red assumption)) (case are rfl)) (seq (refine (rm0 (:= a ?ara) ?arh)) (case arh (red assumption))) (seq (refine (rm3 (:= a ?ara) ?arh ?are)) (case arh (red assumption)) (case are rfl)) (seq (refine (rm4 (:= a ?ara) ?arh ?are)) (case arh (red assumption)) (case are rfl)) (seq (refine (rn1 (:= m ?arm) (:= a ?ara) ?arh ?are)) (case arh (red assumption)) (case are rfl)) (seq (refine (rn2 (:= m ?arm) (:= a ?ara) ?arh ?are)) (case arh (red assumption)) (case are rfl)) (seq (refine (rn0 (:= m ?arm) (:= a ?ara) ?arh)) (case arh (red assumption))) (seq (refine (rr ?arh ?are)) (case arh (red assumption)) (case are rfl)))"
local macro_rules | `(tactic| ktr_room) => mqT "(seq (try (ds depth_under_make depth_under_kw depth_in1 depth_deeper depth_caller)) (at RM))"
local macro_rules | `(tactic| ktr_units) => mqT "(seq (try (ds units_in1 units_deeper Around.mark_units units_caller)) (at RM))"
theorem topOff2 : True := by
  w_top off
  trivial
section
open PySem PySem.W PyProof.Rows PySem.Calls PySem.Spec
local macro_rules | `(tactic| walk_at "ite") => mqT "(first (red (rule occ_pos D. -)) (red (rule occ_neg D. -)))"
local macro_rules | `(tactic| walk_at "execs cons") => mqT "(seq k_here (red (refine (wpAny_execs_cons ?_))) (try (ds)))"
local macro_rules | `(tactic| walk_at "execs nil") => mqT "(seq k_here (red (refine (wpAny_execs_nil ?_))) (try (ds)))"
inductive AttrV : Str → Str → Prop
  | r0 : AttrV (Str.ofString "0") (Str.ofString "0")
  | r1 : AttrV (Str.ofString "1") (Str.ofString "1")
  | r2 : AttrV (Str.ofString "2") (Str.ofString "2")
theorem AttrV.len {v ev : Str} (h : AttrV v ev) : v.length ≤ 100 ∧ ev.length ≤ 100 := by cases h <;> decide +kernel
set_option maxHeartbeats 2000000 in
theorem esc_attrV (w : World) (dp un : Nat) (gd : Option (List Code)) (cn : Str) (cs : Scope) (a : Addr) (ccd : Value) (cl : List (Str × Addr)) (outer : List Env) (A₀ : Around) (base h₀ : Heap) (L : Addr) (m mg mb : Str → Option Value) (mean : ExcName → Option Value) (s : Shared) (Q E : Value → Shared → Prop)
    (news : List (Addr × Obj)) (tx : Tok) (v ev : Str) (hav : AttrV v ev)
    (B : Below A₀ base outer h₀) (F : Fr h₀ L s.heap m) (X : (hd2.heap_39 w.params).In h₀) (T : Top topProg lo3 mean mg mb h₀)
    (hk : cs.kind = .function) (hd : dp + 20 < recursionLimit) (hu : un + 200 < cLine)
    (N : News h₀ L s.heap (news))
    
    (hQ : ∀ t h' tk', 0 < tk' → Fr h₀ L h' m → News h₀ L h' news → Q (.str ev t) { s with heap := h', toks := tk' }) :
    wpAny (model P3 w) (ktrTop dp un gd cn cs L a ccd cl outer) (call (.ref 175) [.str v tx]) Q E s := by
  cases hav
  all_goals
    refine wpAny_call ?_
    k_dflt k_enter
    k_steps
    refine' hQ _ _ _ ?pp ?pq ?pr
    case pq => assumption
    case pr => assumption
    case pp => exact Nat.succ_pos _
end
theorem topOff3 : True := by
  w_top off
  trivial
section
open PySem PySem.W PyProof.Rows PySem.Calls PySem.Spec
set_option maxHeartbeats 2000000 in
theorem flush_c (w : World) (dp un : Nat) (gd : Option (List Code)) (cn : Str) (cs : Scope) (a : Addr) (ccd : Value) (cl : List (Str × Addr)) (outer : List Env) (A₀ : Around) (base h₀ : Heap) (L : Addr) (m mg mb : Str → Option Value) (mean : ExcName → Option Value) (s : Shared) (Q E : Value → Shared → Prop)
    (rest : List (Addr × Obj)) (tkW : Nat → Tok) (t0 : XW) (wd wr q pc dl nsd ns pm ps : Nat) (seen done : Bool) (pcs dts : List (Str × Tok)) (nsds nss pss : List Value) (tb : Array Value) (e0 e1 e2 e3 e4 e5 : Nat) (tx : Tok)
    (B : Below A₀ base outer h₀) (F : Fr h₀ L s.heap m) (X : (hd2.heap_39 w.params).In h₀) (T : Top topProg lo3 mean mg mb h₀)
    (hk : cs.kind = .function) (hd : dp + 30 < recursionLimit) (hu : un + 400 < cLine)
    (N : News h₀ L s.heap (wCells w.params tkW t0 wd wr q pc dl nsd ns pm ps seen done pcs [((Str.ofString " \n"), tx)] nsds nss (pss ++ [Value.bool false]) tb e0 e1 e2 e3 e4 e5 rest))
    (ho : WOrd wd wr q pc dl nsd ns pm ps) (hr : WOff wd pc dl nsd ns ps rest) (hpc : pcs.length ≤ 1000) (hpl : pss.length < 1000)
    (hQ : ∀ h' tk' f2, Fr h₀ L h' m → News h₀ L h' (wCells w.params tkW t0 wd wr q pc dl nsd ns pm ps seen done pcs [] nsds nss (pss ++ [Value.bool false]) tb e0 e1 f2 e3 e4 e5 rest) → Q .none { s with heap := h', toks := tk' }) :
    wpAny (model P3 w) (ktrTop dp un gd cn cs L a ccd cl outer) (call (.ref 113) [.ref wr]) Q E s := by
  obtain ⟨r1, r2, r3, r4, r5, r6, r7⟩ := id hr
  dsimp only [wCells] at N
  refine wpAny_call ?_
  k_dflt k_enter
  refine hideTok fun tkZ => ?_
  k_steps
  refine' bfm_join (l := [((Str.ofString " \n"), tx)]) (bfm_ofK ?j1 ?j2) (listOf_isList (News.get ?j3 ?j4)) ?j5 ?_
  case j1 => k_in
  case j2 => k_is
  case j3 => k_asm
  case j4 => k_mem
  case j5 => (simp only [List.map]; decide +kernel)
  show wpAny _ _ _ _ _ _
  repeat (first | (k_unfold; (try dsimp only)) | walk1 | (dsimp only; walk1) | (leave1; try dsimp only))
  refine' hQ _ _ _ ?z1 ?z2
  case z1 => assumption
  case z2 =>
    dsimp only [wCells]
    rename (News _ _ _ _) => N9
    exact N9
end
theorem topOff4 : True := by
  w_top off
  trivial
section
open PySem PySem.W PyProof.Rows PySem.Calls PySem.Spec
local macro_rules | `(tactic| walk_at "ite") => mqT "(red (rule occ_neg s. -))"
set_option maxHeartbeats 2000000 in
theorem qname_code (w : World) (dp un : Nat) (gd : Option (List Code)) (cn : Str) (cs : Scope) (a : Addr) (ccd : Value) (cl : List (Str × Addr)) (outer : List Env) (A₀ : Around) (base h₀ : Heap) (L : Addr) (m mg mb : Str → Option Value) (mean : ExcName → Option Value) (s : Shared) (Q E : Value → Shared → Prop)
    (news : List (Addr × Obj)) (wr wd nsd n0 tp : Nat) (q dl ns pm ps : Value) (tk : Nat → Tok) (t0 : XW) (t1 t2 tx : Tok) (n1 n2 nd : Nat) (seen done : Bool) (items : Array Value) (x : Str)
    (B : Below A₀ base outer h₀) (F : Fr h₀ L s.heap m) (X : (hd2.heap_39 w.params).In h₀) (T : Top topProg lo3 mean mg mb h₀)
    (hk : cs.kind = .function) (hd : dp + 20 < recursionLimit) (hu : un + 200 < cLine)
    (N : News h₀ L s.heap (news))
    (w1 : (wd, dictOf (wdict w.params tk q dl (.ref nsd) ns pm ps .none seen done t0) nd) ∈ news) (w2 : (wr, instObj 157 wd) ∈ news)
    (w3 : (nsd, listOf items n1) ∈ news) (h0 : items[0]? = some (.ref n0)) (w4 : (n0, listOf #[.ref tp] n2) ∈ news)
    (w5 : (tp, tupOf [.str (Str.ofString "http://www.w3.org/XML/1998/namespace") t1, .str (Str.ofString "xml") t2]) ∈ news)
    (w6 : ∀ (k : Nat) (v : Value), 0 < k → items[k]? = some v → ∃ e n, v = .ref e ∧ (e, listOf #[] n) ∈ news) (hb : AllBare s.gens) (hx : ¬ ((Txt.slice x none (some 1) == Str.ofString "{") = true)) (hl : x.length ≤ 1024)
    (hQ : ∀ (R : Nat) u1 u2 u3 h' tk' gens', Fr h₀ L h' m → News h₀ L h' ((R, tupOf [.str x u1, .str x u2, .str (Str.ofString "") u3]) :: news) → (∀ p ∈ news, p.1 < R) → AllBare gens' → Q (.ref R) { s with heap := h', toks := tk', gens := gens' }) :
    codeAny (model P3 w) (ktrTop dp un gd cn cs L a ccd cl outer) (.call (.ref 97) ⟨[.ref wr, .str x tx], []⟩) (fun r s' => match r with | .ok (.ret v) => Q v s' | .ok _ => False | .error e => E e s') s := by
  k_dflt k_enter
  refine hideTok fun tkZ => ?_
  k_steps
  refine gnf_for 4 ?_
  k_steps
  k_dflt (refine' k_callGen ?cF ?cX ?cN ?cL ?cho ?chc ?cro ?cbi ?clo ?ch ?cco ?cge ?ckd ?cce)
  case cF => k_asm
  case cX => k_asm
  case cN => k_asm
  case cL => exact TopRead.nolimit (by k_asm)
  case cho => k_is
  case chc => k_is
  case cro => ktr_room
  case cbi => first | exact BindsTo.of_eq rfl | exact binds_K (by k_in) rfl (by k_is) rfl rfl rfl | (refine' kp_binds ?kx ?ke; (case kx => k_in); (case ke => exact fun _ => rfl))
  case clo => exact locs rfl
  case cco => exact rfl
  case cge => exact rfl
  case ckd => exact rfl
  case cce => decide
  case ch =>
    intro L₂ oF G tg h₁ tk₁ F₁ N₁ lts lG hFr
    refine ⟨_, _, rfl, genObj_isGen (N₁ _ (.head _)).1, ⟨_, (N₁ _ (.head _)).1, rfl⟩, ?_⟩
    refine' k_ns1 (n0 := n0) (n1 := n1) (n2 := n2) F₁ N₁ ?a1 ?a2 ?a3 ?a4 ?a5 ?a6 hFr ?a7 ?a8 ?a9 h0 ?aA ?aB lts lG ?aC
    case a7 => exact rfl
    case a8 => exact rfl
    case a5 => (simp only [Array.getElem?_push_size]; exact rfl)
    case a6 => exact rfl
    case a1 => exact rfl
    case a2 => exact TopRead.nolimit (by k_asm)
    case a3 => ktr_room
    case a4 => constructor <;> exact rfl
    case a9 => k_mem
    case aA => k_mem
    case aB => exact fun k v hk hv => let ⟨e, n, a, b⟩ := w6 k v hk hv; ⟨e, n, a, by k_mem⟩
    case aC =>
    intro I oI oJ h₂ tk₂ gs' F₂ N₂ lt₂ hS hJ hI
    refine ⟨⟨_, (N₂ _ (.tail _ (.tail _ (.head _)))).1, rfl⟩, ?_⟩
    dsimp only [GnfTurn]
    have e3 := fun p hp => Nat.lt_trans (lts p hp) lG
    have e1 : @LT.lt Nat _ I (I + 1) := Nat.lt_succ_self I
    have e2 : @LT.lt Nat _ G I := lt₂ _ (.head _)
    k_steps
    dsimp only [GnfFlow, GnfRest]
    refine ⟨newsGen (nm := Str.ofString "_iter_namespaces") (by k_asm) (by k_mem), ?_⟩
    refine' k_ns2 ?b1 ?b2 ?b3 ?b4 ?b5 ?b6 hS hJ hI ?b7 ?b8 ?b9 ?bA
    case b1 => k_asm
    case b2 => k_asm
    case b3 => exact rfl
    case b4 => exact TopRead.nolimit (by k_asm)
    case b5 => ktr_room
    case b6 => simp
    case b7 => k_mem
    case b8 => exact e2
    case b9 =>
      exact List.forall_mem_cons.2 ⟨lt_in lt₂ (.tail .head), fun p hp => lt₂ p (.tail _ (.tail _ hp))⟩
    intro h₃ F₃ N₃
    refine ⟨⟨_, (N₃ _ (.head _)).1, rfl⟩, ?_⟩
    dsimp only [GnfTurn]
    k_steps
    refine' hQ _ _ _ _ _ _ _ ?z1 (newsSub ?z2 ?z3) ?z4 (bareDone hb)
    case z1 => assumption
    case z2 => assumption
    case z4 => exact lt_suf (by with_reducible_and_instances assumption) (by repeat (first | with_reducible exact Suf.here | with_reducible refine Suf.tail ?_))
    case z3 =>
      intro p hp
      rcases List.mem_cons.mp hp with rfl | hp
      · exact List.Mem.head _
      · k_mem

set_option maxHeartbeats 2000000 in
theorem qname_c (w : World) (dp un : Nat) (gd : Option (List Code)) (cn : Str) (cs : Scope) (a : Addr) (ccd : Value) (cl : List (Str × Addr)) (outer : List Env) (A₀ : Around) (base h₀ : Heap) (L : Addr) (m mg mb : Str → Option Value) (mean : ExcName → Option Value) (s : Shared) (Q E : Value → Shared → Prop)
    (news : List (Addr × Obj)) (wr wd nsd n0 tp : Nat) (q dl ns pm ps : Value) (tk : Nat → Tok) (t0 : XW) (t1 t2 tx : Tok) (n1 n2 nd : Nat) (seen done : Bool) (items : Array Value) (x : Str)
    (B : Below A₀ base outer h₀) (F : Fr h₀ L s.heap m) (X : (hd2.heap_39 w.params).In h₀) (T : Top topProg lo3 mean mg mb h₀)
    (hk : cs.kind = .function) (hd : dp + 20 < recursionLimit) (hu : un + 200 < cLine)
    (N : News h₀ L s.heap (news))
    (w1 : (wd, dictOf (wdict w.params tk q dl (.ref nsd) ns pm ps .none seen done t0) nd) ∈ news) (w2 : (wr, instObj 157 wd) ∈ news)
    (w3 : (nsd, listOf items n1) ∈ news) (h0 : items[0]? = some (.ref n0)) (w4 : (n0, listOf #[.ref tp] n2) ∈ news)
    (w5 : (tp, tupOf [.str (Str.ofString "http://www.w3.org/XML/1998/namespace") t1, .str (Str.ofString "xml") t2]) ∈ news)
    (w6 : ∀ (k : Nat) (v : Value), 0 < k → items[k]? = some v → ∃ e n, v = .ref e ∧ (e, listOf #[] n) ∈ news) (hb : AllBare s.gens) (hx : ¬ ((Txt.slice x none (some 1) == Str.ofString "{") = true)) (hl : x.length ≤ 1024)
    (hQ : ∀ (R : Nat) u1 u2 u3 h' tk' gens', Fr h₀ L h' m → News h₀ L h' ((R, tupOf [.str x u1, .str x u2, .str (Str.ofString "") u3]) :: news) → (∀ p ∈ news, p.1 < R) → AllBare gens' → Q (.ref R) { s with heap := h', toks := tk', gens := gens' }) :
    wpAny (model P3 w) (ktrTop dp un gd cn cs L a ccd cl outer) (call (.ref 97) [.ref wr, .str x tx]) Q E s := by
  exact wpAny_call (qname_code w dp un gd cn cs a ccd cl outer A₀ base h₀ L m mg mb mean s Q E news wr wd nsd n0 tp q dl ns pm ps tk t0 t1 t2 tx n1 n2 nd seen done items x B F X T hk hd hu N w1 w2 w3 h0 w4 w5 w6 hb hx hl hQ)
end
theorem topOff5 : True := by
  w_top off
  trivial
section
open PySem PySem.W PyProof.Rows PySem.Calls PySem.Spec

noncomputable abbrev lamBody : PySem.Expr := .Call (.Attribute (.Name (Str.ofString "n") ⟨141, 81, 141, 82⟩) (Str.ofString "split") ⟨141, 81, 141, 88⟩) [.Constant (.str (Str.ofString "}")) 0 ⟨141, 89, 141, 92⟩, .Constant (.int 1) 0 ⟨141, 94, 141, 95⟩] [] ⟨141, 81, 141, 96⟩
noncomputable abbrev lamScope : Scope := { kind := .function, names := [(Str.ofString "n", .local)], isGenerator := false, isCoroutine := false }
noncomputable abbrev lamArgs : Arguments := { posonlyargs := [], args := [{ arg := Str.ofString "n", annotation := none, pos := ⟨141, 78, 141, 79⟩ }], vararg := none, kwonlyargs := [], kw_defaults := [], kwarg := none, defaults := [] }
noncomputable abbrev lamPos : Pos := ⟨141, 71, 141, 96⟩
noncomputable abbrev lamQ : Str := Str.ofString "C14NWriterTarget._start" ++ ".<locals>." ++ "<lambda>"
theorem one_of {l : List (Str × Tok)} {x : Str} (h : l.map (·.1) = [x]) : ∃ t, l = [(x, t)] := by
  cases l with
  | nil => cases h
  | cons p r =>
    cases r with
    | nil => exact ⟨p.2, by rw [← (List.cons.inj h).1]⟩
    | cons q r => cases (List.cons.inj h).2
set_option maxHeartbeats 1000000 in
theorem lam_one (w : World) (A A₀ : Around) (env : Env) (outer : List Env) (base h₀ : Heap) (L : Addr) (m mg mb : Str → Option Value) (mean : ExcName → Option Value) (s : Shared) (Q E : Value → Shared → Prop) (news rest : List (Addr × Obj)) (fa c' : Addr) (q x : Str) (tx : Tok) (pm ctv : Value)
    (B : Below A₀ base outer h₀) (F : Fr h₀ L s.heap m) (X : (hd2.heap_39 w.params).In h₀) (T : Top topProg lo3 mean mg mb h₀) (hA : A.frames = some (env :: outer)) (hfr : env.frame = some L) (hke : env.scope.kind = .function) (hd : A.depth + 20 < recursionLimit) (hu : A.units + 50 < cLine)
    (N : News h₀ L s.heap news) (hm : (fa, kla_obj (Str.ofString "<lambda>") q lamArgs lamBody lamScope [] pm c' ctv) ∈ news) (hc : CodeObj q c' rest) (hsub : ∀ p ∈ rest, p ∈ news) (hx : Txt.splitMax x (Str.ofString "}") 1 = [x]) (hl : x.length ≤ 1024)
    (hQ : ∀ (l : Nat) h' tk' t' k, Fr h₀ L h' m → News h₀ L h' ((l, listOf #[.str x t'] k) :: news) → (∀ p ∈ news, p.1 < l) → Q (.ref l) { s with heap := h', toks := tk' }) :
    wpAny (model P3 w) A (call (.ref fa) [.str x tx]) Q E s := by
  refine wpAny_call ?_
  refine kla_code B F X N T hA hfr hke hm (hc.rec_ N hsub) (by lia) (binds := [(Str.ofString "n", .str x tx)]) rfl (locs rfl) ?_ rfl rfl rfl (by decide)
  intro g' L' h1 FG F' N' B' X' T'
  have hlt9 : ∀ p ∈ news, p.1 < h1.objs.size := fun p hp => Heap.lt_size (N' p hp).1
  dsimp only [lamBody, lamScope, lamArgs]
  (try k_fold)
  repeat (first | (k_unfold; (try dsimp only)) | walk1 | (dsimp only; walk1) | (leave1; try dsimp only))
  rename (List.map _ _ = Txt.splitMax x (Str.ofString "}") 1) => e9
  rename (News h₀ L _ _) => N9
  rw [hx] at e9
  obtain ⟨t', e8⟩ := one_of e9
  subst e8
  exact hQ _ _ _ t' 0 (by assumption) N9 hlt9
end
local macro_rules | `(tactic| walk_at "eval Set") => mqT "(line L - (rule set_star aaa0. - (first k_is kernel_rfl!)))"
local macro_rules | `(tactic| walk_at "setAdd str") => mqT "(line V (setAdd _ (Value.str _ _)) (rule setAdd_first aaU. -))"
local macro_rules | `(tactic| walk_at "setDisplayStar") => mqT "(line H - (rule star0 aafmssms. -))"
local macro_rules | `(tactic| walk_at "subscriptTail") => mqT "(line - (subscriptTail _ _ (Value.ref _) (Value.int 0 _)) (rule tupItem0 amzbf.w -))"
local macro_rules | `(tactic| walk_at "eval Name") => mqT "(line - (eval _ (compEnvC _ _ _ _)) (rule ld_cell afmr. -))"
theorem topOff6 : True := by
  w_top off
  trivial
section
open PySem PySem.W PyProof.Rows PySem.Calls PySem.Spec
inductive QP (nb : List (Addr × Obj)) (zs : List (Str × Tok)) (s₁ : Shared) (i : Nat) (kv : List (Str × Value)) (nw : List (Addr × Obj)) (s : Shared) : Prop
  | mk (h : Heap) (tk : Nat) (g : Array GenState) (d : Drawn) (e : s = { s₁ with heap := h, toks := tk, gens := g, drawn := d }) (hk : kv.map (·.1) = (zs.take i).map (·.1))
    (hm : ∀ p ∈ kv, ∃ R u1 u2 u3, p.2 = .ref R ∧ (R, tupOf [.str p.1 u1, .str p.1 u2, .str (Str.ofString "") u3]) ∈ nw) (hs : ∀ p ∈ nb, p ∈ nw) (hb : AllBare g)
theorem stored_new {kv : List (Str × Value)} {z : Str} {y : Value} (h : z ∉ kv.map (·.1)) : stored kv z y = kv ++ [(z, y)] := by
  unfold stored
  have e : (kv.any fun p => decide (p.1 = z)) = false := by
    rw [List.any_eq_false]
    intro p hp q
    exact h ((of_decide_eq_true q) ▸ List.mem_map_of_mem hp)
  rw [e, if_neg (by decide)]
noncomputable def NameOk (n : Str) : Prop := ¬ ((Txt.slice n none (some 1) == Str.ofString "{") = true) ∧ n.length ≤ 1024 ∧ Txt.splitMax n (Str.ofString "}") 1 = [n] ∧ (n == Str.ofString "{http://www.w3.org/XML/1998/namespace}space") = false
noncomputable def atKv (v : Str) (kvs : List (Str × Tok)) : List (Str × Value) := kvs.map fun p => (p.1, .str v p.2)
theorem zs_nodup {w : World} {oA : Obj} {kvs zs : List (Str × Tok)} {v x : Str} (hzn : zs.map (·.1) = (kvs.map (·.1)).reverse ++ [x]) (d1 : oA.IsDictOf (PySem.strKind P3 w) (atKv v kvs)) (hxk : x ∉ kvs.map (·.1)) : (zs.map (·.1)).Nodup := by
  obtain ⟨es, ep, hx, hdd, hkk, hp, hnn⟩ := d1
  have hnn' : (kvs.map (·.1)).Nodup := by
    unfold atKv at hnn
    rw [List.map_map] at hnn
    exact hnn
  rw [hzn, List.nodup_append]
  exact ⟨(List.reverse_perm _).nodup_iff.mpr hnn', by simp, fun a ha b hb e => by
    rw [List.mem_singleton] at hb
    exact hxk (hb ▸ e ▸ List.mem_reverse.mp ha)⟩
noncomputable def atOne (ev y : Str) : Str := Str.empty ++ Str.ofString " " ++ y ++ Str.ofString "=\"" ++ ev ++ Str.ofString "\""
noncomputable def atPcs (so : List (Str × Tok)) (ev : Str) (t : Tok) : List (Str × Tok) := if so = [] then [] else [(catS (so.map fun p => atOne ev p.1), t)]
noncomputable abbrev tupO' (x : Str) (t : Tok) (v : Value) : Obj := { cls := .type "tuple", data := .seq #[.str x t, v] }
inductive AtMid (h₀ : Heap) (L : Addr) (s₁ : Shared) (v : Str) (so : List (Str × Tok)) (m0 : Str → Option Value) (nb : List (Addr × Obj)) (la : Addr) (g : Array GenState) (d : Drawn) : Flow → Shared → Prop
  | mk (h : Heap) (tk : Nat) (m' : Str → Option Value) (as : List Addr) (e : Nat) (nw : List (Addr × Obj)) (F : Fr h₀ L h m') (hm : ∀ y, y ≠ Str.ofString "k" → y ≠ Str.ofString "v" → y ≠ Str.ofString "attr_qname" → y ≠ Str.ofString "attr_name" → y ≠ Str.ofString "uri" → m' y = m0 y)
    (N : News h₀ L h ((la, listOf (as.map Value.ref).toArray e) :: nw)) (hs : ∀ p ∈ nb, p ∈ nw) (ho : ∀ p ∈ nw, p.1 ≠ la) (hl : as.length = so.length) (ha : ∀ (i : Nat) (a : Addr) (p : Str × Tok), as[i]? = some a → so[i]? = some p → ∃ t t', (a, tupO' p.1 t (.str v t')) ∈ nw) :
    AtMid h₀ L s₁ v so m0 nb la g d .next { s₁ with heap := h, toks := tk, gens := g, drawn := d }
theorem news_ne {h₀ h : Heap} {L : Addr} {l : List (Addr × Obj)} {a b : Addr} {oa ob : Obj} (N : News h₀ L h l) (ha : (a, oa) ∈ l) (hb : (b, ob) ∈ l) (hc : oa ≠ ob) : a ≠ b := fun e => by
  have q := N.get hb
  rw [← e, N.get ha] at q
  exact hc (Option.some.inj q)
theorem cut4 {h₀ h : Heap} {L : Addr} {l a b c d : Addr × Obj} {nw : List (Addr × Obj)} (N : News h₀ L h (l :: nw)) (ha : a ∈ nw) (hb : b ∈ nw) (hc : c ∈ nw) (hd : d ∈ nw) :
    ∃ nx, News h₀ L h (l :: a :: b :: c :: d :: nx) ∧ (∀ p ∈ nw, p.1 ≠ a.1 → p.1 ≠ b.1 → p.1 ≠ c.1 → p.1 ≠ d.1 → p ∈ nx) ∧ (∀ p ∈ nx, p.1 ≠ a.1 ∧ p.1 ≠ b.1 ∧ p.1 ≠ c.1 ∧ p.1 ≠ d.1 ∧ p ∈ nw) := by
  refine ⟨nw.filter fun p => decide (p.1 ≠ a.1 ∧ p.1 ≠ b.1 ∧ p.1 ≠ c.1 ∧ p.1 ≠ d.1), fun p hp => N p ?_, fun p hp h1 h2 h3 h4 => List.mem_filter.mpr ⟨hp, decide_eq_true ⟨h1, h2, h3, h4⟩⟩, fun p hp => ?_⟩
  · simp only [List.mem_cons, List.mem_filter] at hp ⊢
    rcases hp with h | h | h | h | h | h
    · exact .inl h
    · exact .inr (h ▸ ha)
    · exact .inr (h ▸ hb)
    · exact .inr (h ▸ hc)
    · exact .inr (h ▸ hd)
    · exact .inr h.1
  · obtain ⟨h1, h2⟩ := List.mem_filter.mp hp
    have h3 := of_decide_eq_true h2
    exact ⟨h3.1, h3.2.1, h3.2.2.1, h3.2.2.2, h1⟩
inductive PcMid (h₀ : Heap) (L : Addr) (s₁ : Shared) (m' : Str → Option Value) (la wdo nso pso : Addr × Obj) (nx : List (Addr × Obj)) (pc : Addr) (X0 : List (Str × Tok)) (so : List (Str × Tok)) (ev : Str) (g : Array GenState) (d : Drawn) : Flow → Shared → Prop
  | mk (h : Heap) (tk t3 f : Nat) (F : Fr h₀ L h m') (N : News h₀ L h (la :: wdo :: (pc, W.listOf (strValues (X0 ++ atPcs so ev t3)).toArray f) :: nso :: pso :: nx)) : PcMid h₀ L s₁ m' la wdo nso pso nx pc X0 so ev g d .next { s₁ with heap := h, toks := tk, gens := g, drawn := d }
theorem pc_mid {M : Model} {A : Around} {t : Sem Flow} {E : Value → Shared → Prop} {Q : Flow → Shared → Prop} {s s9 : Shared} {h₀ h : Heap} {L : Addr} {m' : Str → Option Value} {la wdo nso pso : Addr × Obj} {nx : List (Addr × Obj)} {pc : Addr} {X0 : List (Str × Tok)} {f0 : Nat} {so : List (Str × Tok)} {ev : Str} {g : Array GenState} {d : Drawn}
    (_F : Fr h₀ L h m') (_N : News h₀ L h (la :: wdo :: (pc, W.listOf (strValues X0).toArray f0) :: nso :: pso :: nx))
    (h1 : wpAny M A t (PcMid h₀ L s m' la wdo nso pso nx pc X0 so ev g d) E s9) (h2 : ∀ fl s', PcMid h₀ L s m' la wdo nso pso nx pc X0 so ev g d fl s' → Q fl s') : wpAny M A t Q E s9 := wpAny_mono h1 h2 fun _ _ x => x
inductive CP (N0 : List (Addr × Obj)) (so : List (Str × Tok)) (ev : Str) (i : Nat) (ys : List Value) (nw : List (Addr × Obj)) : Prop
  | mk (l : List (Str × Tok)) (hy : ys = strValues l) (hl : l.map (·.1) = (so.take i).map fun p => atOne ev p.1) (hn : nw = N0)
theorem truthyLm {prog : Program} {w : World} {A : Around} {E : Value → Shared → Prop} {s : Shared} {h₀ : Heap} {L : Addr} {news : List (Addr × Obj)} {a : Addr} {n : Nat} {as : List Addr} {Q : Bool → Shared → Prop} (N : News h₀ L s.heap news) (hm : (a, W.listOf (as.map Value.ref).toArray n) ∈ news) (hne : as ≠ []) (hz : as.length ≤ 6) (h : Q true { s with toks := s.toks + 1 + 1 }) : wpAny (model prog w) A (truthy (.ref a)) Q E s := by
  cases as with
  | nil => exact absurd rfl hne
  | cons x r => exact truthyL1 (x := .ref x) (xs := r.map Value.ref) N hm (by simp at hz ⊢; lia) h
theorem fold_len' : ∀ (l : List Str) (n : Nat), (l.toArray.foldl (fun a x => a + x.length + (Str.ofString "").length) n) = n + (catS l).length := by
  have e0 : (Str.ofString "").length = 0 := by decide +kernel
  intro l
  induction l with
  | nil => intro n; simp [catS, e0]
  | cons x r ih =>
    intro n
    have h := ih (n + x.length + (Str.ofString "").length)
    rw [List.foldl_toArray'] at h ⊢
    · rw [List.foldl_cons, h, catS, PySem.Str.length_append, e0]
      lia
    all_goals rfl
theorem catS_len (b : Nat) : ∀ l : List Str, (∀ x ∈ l, x.length ≤ b) → (catS l).length ≤ l.length * b
  | [], _ => by have e0 : (Str.ofString "").length = 0 := by decide +kernel
                rw [catS, e0]; lia
  | x :: r, h => by
    have h1 := h x (.head _)
    have h2 := catS_len b r fun y hy => h y (.tail _ hy)
    rw [catS, PySem.Str.length_append, List.length_cons, Nat.succ_mul]
    lia
theorem atOne_len {ev y : Str} (h : y.length ≤ 1024) (he : ev.length ≤ 100) : (atOne ev y).length ≤ 1200 := by
  have z1 : (Str.ofString " ").length = 1 := by decide +kernel
  have z2 : (Str.ofString "=\"").length = 2 := by decide +kernel
  have z3 : (Str.ofString "\"").length = 1 := by decide +kernel
  have z6 : Str.empty.length = 0 := rfl
  unfold atOne
  simp only [PySem.Str.length_append]
  lia
theorem at_mid {M : Model} {A : Around} {t : Sem Flow} {E : Value → Shared → Prop} {Q : Flow → Shared → Prop} {s s9 : Shared} {h₀ h : Heap} {L : Addr} {v : Str} {so : List (Str × Tok)} {m0 : Str → Option Value} {nb : List (Addr × Obj)} {la : Addr} {g : Array GenState} {d : Drawn} (_F : Fr h₀ L h m0)
    (h1 : wpAny M A t (AtMid h₀ L s v so m0 nb la g d) E s9) (h2 : ∀ fl s', AtMid h₀ L s v so m0 nb la g d fl s' → Q fl s') : wpAny M A t Q E s9 := wpAny_mono h1 h2 fun _ _ x => x
inductive AtI (v : Str) (so : List (Str × Tok)) (m0 : Str → Option Value) (nb : List (Addr × Obj)) (la I : Addr) (i : Nat) (m' : Str → Option Value) (n' : List (Addr × Obj)) : Prop
  | mk (as : List Addr) (e : Nat) (nw : List (Addr × Obj)) (hn : n' = (la, listOf (as.map Value.ref).toArray e) :: nw) (hs : ∀ p ∈ nb, p ∈ nw) (ho : ∀ p ∈ nw, p.1 ≠ la) (hI : ∀ p ∈ n', p.1 ≠ I) (hl : as.length = i)
    (ha : ∀ (j : Nat) (a : Addr) (p : Str × Tok), as[j]? = some a → so[j]? = some p → ∃ t t', (a, tupO' p.1 t (.str v t')) ∈ nw)
    (hm : ∀ y, y ≠ Str.ofString "k" → y ≠ Str.ofString "v" → y ≠ Str.ofString "attr_qname" → y ≠ Str.ofString "attr_name" → y ≠ Str.ofString "uri" → m' y = m0 y)
theorem news_fr {h₀ h : Heap} {L : Addr} {b c l : Addr × Obj} {tf r : List (Addr × Obj)} (N : News h₀ L h (b :: (tf ++ c :: l :: r))) : News h₀ L h (l :: (b :: (tf ++ r))) := fun p hp => N p (by
  simp only [List.mem_cons, List.mem_append] at hp ⊢
  rcases hp with h | h | h | h
  · exact .inr (.inr (.inr (.inl h)))
  · exact .inl h
  · exact .inr (.inl h)
  · exact .inr (.inr (.inr (.inr h))))
theorem valueAt_mem {kv : List (Str × Value)} {y : Str} {r : Value} (hn : (kv.map (·.1)).Nodup) (hm : (y, r) ∈ kv) : PySem.valueAt kv y = some r := by
  induction kv with
  | nil => exact absurd hm List.not_mem_nil
  | cons p kv ih =>
    obtain ⟨h1, h2⟩ := List.nodup_cons.mp hn
    rcases List.mem_cons.mp hm with rfl | hm
    · simp [PySem.valueAt]
    · have hne : p.1 ≠ y := fun e => h1 (by show p.1 ∈ _; rw [e]; exact List.mem_map_of_mem (f := (·.1)) hm)
      have := ih h2 hm
      unfold PySem.valueAt at this ⊢
      simp only [List.find?_cons, decide_eq_false hne]
      exact this
noncomputable def StarOf (w : World) (at_ : Nat) (oA : Obj) (kvs : List (Str × Value)) (x : Str) : Prop := ∀ (A : Around) (E : Value → Shared → Prop) (s : Shared) (Q : Unit → Shared → Prop) (h₀ : Heap) (L : Addr) (m : Str → Option Value) (news : List (Addr × Obj)) (g : Obj → List (Addr × Obj)) (D : Addr) (tx : Tok) (t : SetTable),
  Fr h₀ L s.heap m → News h₀ L s.heap news → A.handled = none → (at_, oA) ∈ news → at_ ≠ D → UpdF D (oneSet ((PySem.strKind P3 w).hash x) (.str x tx) t) news g → LowT (ledOf w) t →
  (∀ h' so' tk' zs, Fr h₀ L h' m → News h₀ L h' (g so') → TSet P3 w so' zs → zs.map (·.1) = (kvs.map (·.1)).reverse ++ [x] → Q () { s with heap := h', toks := tk' }) → wpAny (model P3 w) A (setDisplayStar D (.ref at_)) Q E s
noncomputable def LSortOf (w : World) (kvs so : List (Str × Value)) : Prop := ∀ (A : Around) (E : Value → Shared → Prop) (s : Shared) (Q : Value → Shared → Prop) (h₀ : Heap) (L : Addr) (m : Str → Option Value) (news : List (Addr × Obj)) (c : Addr) (as : List Addr) (e : Nat),
  Fr h₀ L s.heap m → News h₀ L s.heap ((c, listOf (as.map Value.ref).toArray e) :: news) → (∀ p ∈ news, p.1 ≠ c) → as.length = kvs.length → (∀ (i : Nat) (a : Addr) (p : Str × Value), as[i]? = some a → kvs[i]? = some p → ∃ t, (a, tupO' p.1 t p.2) ∈ news) →
  (∀ (as' : List Addr) e' h', as'.length = so.length → (∀ (i : Nat) (a : Addr) (p : Str × Value), as'[i]? = some a → so[i]? = some p → ∃ t, (a, tupO' p.1 t p.2) ∈ news) → Fr h₀ L h' m → News h₀ L h' ((c, listOf (as'.map Value.ref).toArray e') :: news) → Q .none { s with heap := h' }) →
  wpAny (model P3 w) A (call (.builtin "list.sort") [.ref c]) Q E s
local macro_rules | `(tactic| walk_at "call ref") => mqT "(line Y (call (Value.ref 175) _) (rule esc_attrV _________________________!saanahRTa. -))"
local macro_rules | `(tactic| walk_at "truthy ref") => mqT "(line - (truthy (Value.ref _)) (rule truthyLm amrr. -))"
local macro_rules | `(tactic| walk_at "newTuple") => mqT "(line L - (rule kup_newTuple aa.x -))"
local macro_rules | `(tactic| walk_at "truthy ref") => mqT "(line - (truthy (Value.ref _)) (rule truthyD1 amrrr. -))"
local macro_rules | `(tactic| walk_at "compareOp In str ref") => mqT "(line - - (first (rule in_mem #amrBrk. - (:= b true)) (rule in_mem #amrBrk. - (:= b false))))"
local macro_rules | `(tactic| walk_at "compareOp NotIn str ref") => mqT "(line - - (first (rule notin_mem #amrBrk. - (:= b true)) (rule notin_mem #amrBrk. - (:= b false))))"
local macro_rules | `(tactic| walk_at "getMethod ref") => mqT "(seq k_here (first (seq (red (show (wpAny _ _ (getMethod (Value.ref _) (Str.ofString 'items') _) _ _ _))) (dflt (refine (kdl_method (:= knd (PySem.strKind _ _)) PySem.F.slot_dict_items PySem.F.type_dict_items (by k_asm) (by k_mem) (by k_asm) ?_)))) (seq (red (show (wpAny _ _ (getMethod (Value.ref _) (Str.ofString 'get') _) _ _ _))) (dflt (refine (kdg_method (:= knd (PySem.strKind _ _)) (by k_asm) (by k_mem) (by k_asm) ?_))))))"
theorem mkIns {n a : Addr × Obj} {rest : List (Addr × Obj)} {d : Nat} (h : ∀ p ∈ n :: rest, p.1 ≠ d) (ha : @Ne Nat a.1 d) : ∀ p ∈ n :: a :: rest, p.1 ≠ d := fun p hp => by
  rcases List.mem_cons.mp hp with rfl | hp
  · exact h _ (.head _)
  · rcases List.mem_cons.mp hp with rfl | hp
    · exact ha
    · exact h _ (.tail _ hp)
theorem filt_behind {h₀ h : Heap} {L : Addr} {a b1 b2 c1 c2 c3 c4 c5 c6 c7 c8 c9 n1 : Addr × Obj} {rest : List (Addr × Obj)} (N : News h₀ L h (a :: b1 :: b2 :: c1 :: c2 :: c3 :: c4 :: c5 :: c6 :: c7 :: c8 :: c9 :: n1 :: rest)) : News h₀ L h (b1 :: b2 :: c1 :: c2 :: c3 :: c4 :: c5 :: c6 :: c7 :: c8 :: c9 :: n1 :: a :: rest) := fun p hp => N p (mid_mem [b1, b2, c1, c2, c3, c4, c5, c6, c7, c8, c9, n1] hp)
set_option maxHeartbeats 4000000 in
theorem start_g (w : World) (dp un : Nat) (gd : Option (List Code)) (cn : Str) (cs : Scope) (a : Addr) (ccd : Value) (cl : List (Str × Addr)) (outer : List Env) (A₀ : Around) (base h₀ : Heap) (L : Addr) (m mg mb : Str → Option Value) (mean : ExcName → Option Value) (s : Shared) (Q E : Value → Shared → Prop)
    (rest : List (Addr × Obj)) (tkW : Nat → Tok) (t0 : XW) (wd wr q pc dl nsd ns pm ps : Nat) (seen done : Bool) (pcs dts : List (Str × Tok)) (nsds nss pss : List Value) (tb : Array Value) (e0 e1 e2 e3 e4 e5 : Nat) (x : Str) (tx : Tok) (at0 nn : Nat) (oA0 : Obj) (n0 n2 n3 : Nat) (tp : Nat) (t1 t2 : Tok) (kvs so : List (Str × Tok)) (v ev : Str)
    (B : Below A₀ base outer h₀) (F : Fr h₀ L s.heap m) (X : (hd2.heap_39 w.params).In h₀) (T : Top topProg lo3 mean mg mb h₀)
    (hk : cs.kind = .function) (hd : dp + 40 < recursionLimit) (hu : un + 600 < cLine)
    (N : News h₀ L s.heap (wCells w.params tkW t0 wd wr q pc dl nsd ns pm ps seen done pcs dts nsds nss (pss ++ [.bool false]) tb e0 e1 e2 e3 e4 e5 ((nn, listOf #[] n3) :: (at0, oA0) :: rest)))
    (ho : WOrd wd wr q pc dl nsd ns pm ps) (hr : WOff wd pc dl nsd ns ps ((nn, listOf #[] n3) :: (at0, oA0) :: rest)) (hpc : pcs.length ≤ 1000)
    (g1 : nsds[0]? = some (.ref n0)) (g2 : (n0, listOf #[.ref tp] n2) ∈ rest)
    (g3 : (tp, tupOf [.str (Str.ofString "http://www.w3.org/XML/1998/namespace") t1, .str (Str.ofString "xml") t2]) ∈ rest)
    (g4 : ∀ (k : Nat) (v : Value), 0 < k → nsds[k]? = some v → ∃ e n, v = .ref e ∧ (e, listOf #[] n) ∈ (nn, listOf #[] n3) :: rest) (hb : AllBare s.gens)
    (hnm : ∀ n ∈ x :: kvs.map (·.1), NameOk n) (hxk : x ∉ kvs.map (·.1)) (hk6 : kvs.length ≤ 6) (hkv : kvs ≠ []) (hav : AttrV v ev) (hstA : ∀ (at_ : Nat) oA, oA.IsDictOf (PySem.strKind P3 w) (atKv v kvs) → (at_ == sysModules) = false → StarOf w at_ oA (atKv v kvs) x) (hlo : LSortOf w (atKv v kvs) (atKv v so)) (hso : so.Perm kvs)
    (kv0 : List (Str × Value)) (oE : Obj) (SE : Str → Bool) (d0 : oA0.IsDictOf (PySem.strKind P3 w) kv0) (hkv0 : kv0 ≠ []) (hkvl : kv0.length ≤ 10) (hkf : fkeep (fun k => !SE k) kv0 = atKv v kvs) (hea : (t0.ea, oE) ∈ rest) (hSE : oE.SetObjOf (PySem.strKind P3 w) SE 1) (d3 : (at0 == sysModules) = false) (d4 : ps < at0) (d5 : at0 < nn) (hps : pss.length < 1000) (hns : nss.length < 1000) (hC : CodeHd h₀ 132 130) (htb : TabSt lamPos lamQ tb rest)
    (hQ : ∀ (l' : Nat) (rest' : List (Addr × Obj)) t1' t2' t3' tb' f1 f4 f5 h' tk' gens' d', Fr h₀ L h' m → News h₀ L h' (wCells w.params tkW t0 wd wr q pc dl nsd ns pm ps true done (pcs ++ [(Str.ofString "<" ++ x, t1')] ++ atPcs so ev t3' ++ [(Str.ofString ">", t2')]) dts nsds (nss ++ [Value.ref l']) (pss ++ [Value.bool false, Value.bool false]) tb' e0 f1 e2 e3 f4 f5 rest') → WOff wd pc dl nsd ns ps rest' → TabSt lamPos lamQ tb' rest' → (l', listOf #[] 0) ∈ rest' → (nn, listOf #[] n3) ∈ rest' → (∀ p ∈ rest, p ∈ rest') → AllBare gens' → Q .none { s with heap := h', toks := tk', gens := gens', drawn := d' }) :
    wpAny (model P3 w) (ktrTop dp un gd cn cs L a ccd cl outer) (call (.ref 133) [.ref wr, .str x tx, .ref at0, .ref nn]) Q E s := by
  obtain ⟨r1, r2, r3, r4, r5, r6, r7⟩ := hr
  dsimp only [wCells] at N
  refine wpAny_call ?_
  k_dflt (refine' code_defC ?k1 ?k2 ?k3 ?k4 ?k5 ?kA ?kF ?kK ?k6 ?k7 ?k8 ?k9 ?kB ?kD ?_ ?c2 ?c3 ?c4; (case kA => exact rfl); (case kF => exact rfl); (case kK => first | exact rfl | assumption); (case k1 => k_asm); (case k2 => k_asm); (case k3 => k_asm); (case k4 => k_asm); (case k5 => k_asm); (case k6 => k_is); (case k7 => k_is); (case k8 => ktr_room); (case k9 => first | exact BindsTo.of_eq rfl | exact binds_K (by k_in) rfl (by k_is) rfl rfl rfl | (refine' kp_binds ?kx ?ke; (case kx => k_in); (case ke => exact fun _ => rfl))); (case kB => exact rfl); (case kD => decide +kernel); (case c2 => exact rfl); (case c3 => exact rfl); (case c4 => exact rfl); k_whole; intro g' L' h' tk' cells' FG' F' N' Y' B' X' T' l1; (try k_lt l1); k_cells Y'; (try simp only [List.cons_append, List.nil_append] at N'); (try dsimp only); (try k_fold))
  refine hideTok fun tkZ => ?_
  rename (∀ p : Addr × Obj, p ∈ _ → p.1 < _) => l9
  obtain ⟨r8, r9⟩ := far_suf (r := (at0, oA0) :: rest) l9 (by repeat (first | with_reducible exact Suf.here | with_reducible refine Suf.tail ?_))
  obtain ⟨kv1, kvs1, rfl⟩ := List.exists_cons_of_ne_nil hkv0
  have hkz9 : (kv1 :: kvs1).length < 1000 := by omega
  have hkz : (kv1 :: kvs1).length ≤ sizeLine := by rw [sizeLine_eq]; omega
  repeat ((fail_if_success (with_reducible show wpAny _ _ (exec (.Assign _ (.DictComp _ _ _ _ _) _) _) _ _ _)); (first | (k_unfold; (try dsimp only)) | walk1 | (dsimp only; walk1) | (leave1; try dsimp only)))
  refine' Assign_FilD ?hF ?hLe ?hsw ?hclos ?hcell ?hkind ?hnames ?hxa ?hxb ?hab ?hda ?hdb ?hy ?hp ?h
  case hF => k_asm
  case hLe => exact rfl
  case hsw => exact rfl
  case hclos => exact rfl
  case hcell => decide
  case hkind => exact rfl
  case hnames => decide
  case hxa => exact rfl
  case hxb => exact rfl
  case hab => decide
  case hda => exact rfl
  case hdb => exact rfl
  case hy => exact rfl
  case hp => exact rfl
  case h =>
  iterate 4 (first | (k_unfold; (try dsimp only)) | walk1 | (dsimp only; walk1) | (leave1; try dsimp only))
  show wpAny _ _ (call (Value.builtin "dict.items") [Value.ref at0]) _ _ _
  refine' kta_callItems (knd := PySem.strKind P3 w) ?iF ?iN ?im d0 d3 ?_
  case iF => k_asm
  case iN => k_asm
  case im => k_mem
  intro hI hv8 FI NI
  refine ⟨_, at0, oA0, _, _, fun k => !SE k, rfl, rfl, FI, NI, hv8, (by k_mem), d0, hkz, ?ftest, ?ffin⟩
  case ftest =>
    intro g8 k8 x8 t8 I8 oI8 C8 oC8 D8 oD8 m8 h8 tk8 E8 hin8 hns8 hm8 hmx8 F8 N8 off8
    iterate 3 (first | (k_unfold; (try dsimp only)) | walk1 | (dsimp only; walk1) | (leave1; try dsimp only))
    refine' ld_cell ?N ?c ?m ?d ?_
    case N => k_asm
    case c => exact rfl
    case m => k_mem
    case d => assumption
    iterate 1 (first | (k_unfold; (try dsimp only)) | walk1 | (dsimp only; walk1) | (leave1; try dsimp only))
    show wpAny _ _ (compareOp .NotIn (.str k8 t8) (.ref t0.ea)) _ _ _
    refine' notin_mem (b := SE k8) ?N ?m hSE ?z rfl (strKind_is _ _ _ _) ?_
    case N => k_asm
    case m =>
      have hp' : List.Mem _ rest := hea
      repeat (first | with_reducible exact hp' | apply List.Mem.tail)
    case z => unfold scanBound; decide
    iterate 1 (first | (k_unfold; (try dsimp only)) | walk1 | (dsimp only; walk1) | (leave1; try dsimp only))
    exact ⟨rfl, _, rfl⟩
  intro at_ oA h9 tk9 F9 N9 d1 lt9 hLD
  dsimp only
  have hpc9 : @LT.lt Nat _ pc at_ := lt9 (pc, W.listOf (strValues pcs).toArray e1) (by k_mem)
  have hwd9 : @LT.lt Nat _ wd at_ := lt9 (wd, _) (by k_mem)
  have hdl9 : @LT.lt Nat _ dl at_ := lt9 (dl, W.listOf (strValues dts).toArray e2) (by k_mem)
  have hnsd9 : @LT.lt Nat _ nsd at_ := lt9 (nsd, W.listOf nsds.toArray e3) (by k_mem)
  have hns9 : @LT.lt Nat _ ns at_ := lt9 (ns, W.listOf nss.toArray e4) (by k_mem)
  have d4n : @LT.lt Nat _ ps at_ := lt9 (ps, W.listOf (pss ++ [Value.bool false]).toArray e5) (by k_mem)
  have d5n : @LT.lt Nat _ nn at_ := lt9 (nn, W.listOf #[] n3) (by k_mem)
  have h130 : @LT.lt Nat _ 130 at_ := lt9 (130, tabObj tb) (by k_mem)
  have d3n : (at_ == sysModules) = false := beq_eq_false_iff_ne.mpr (fun e => by
    have h8 : sysModules = 1 := rfl
    have h7 : @Eq Nat at_ sysModules := e
    have h6 : @LT.lt Nat _ 130 at_ := h130
    rw [h7, h8] at h6
    exact absurd h6 (by decide))
  rw [hkf] at d1
  have hst := hstA at_ oA d1 d3n
  have N9b := filt_behind N9
  clear N9
  obtain ⟨rest1, hre⟩ : ∃ r : List (Addr × Obj), r = (at0, oA0) :: rest := ⟨_, rfl⟩
  have hsub1 : ∀ p ∈ rest, p ∈ rest1 := fun p hp => hre ▸ List.mem_cons_of_mem _ hp
  rw [← hre] at N9b r8 r9 r1 r2 r3 r4 r5 r6 r7
  have u1 := mkIns r1 (a := (at_, oA)) (Nat.ne_of_gt h130)
  have u2 := mkIns r2 (a := (at_, oA)) (Nat.ne_of_gt hpc9)
  have u3 := mkIns r3 (a := (at_, oA)) (Nat.ne_of_gt hwd9)
  have u4 := mkIns r4 (a := (at_, oA)) (Nat.ne_of_gt hdl9)
  have u5 := mkIns r5 (a := (at_, oA)) (Nat.ne_of_gt hnsd9)
  have u6 := mkIns r6 (a := (at_, oA)) (Nat.ne_of_gt hns9)
  have u7 := mkIns r7 (a := (at_, oA)) (Nat.ne_of_gt d4n)
  clear r1 r2 r3 r4 r5 r6 r7 d3
  have r1 := u1
  have r2 := u2
  have r3 := u3
  have r4 := u4
  have r5 := u5
  have r6 := u6
  have r7 := u7
  have d3 := d3n
  clear u1 u2 u3 u4 u5 u6 u7 d3n
  have g2n := hsub1 _ g2
  have g3n := hsub1 _ g3
  have g4n : ∀ (k : Nat) (v : Value), 0 < k → nsds[k]? = some v → ∃ e n, v = .ref e ∧ (e, listOf #[] n) ∈ (nn, listOf #[] n3) :: rest1 := fun k v hk hv => by
    obtain ⟨e, n, x1, x2⟩ := g4 k v hk hv
    refine ⟨e, n, x1, ?_⟩
    rcases List.mem_cons.mp x2 with x2 | x2
    · rw [x2]; exact .head _
    · exact .tail _ (hsub1 _ x2)
  have htbn : TabSt lamPos lamQ tb rest1 := by
    rcases htb with h | ⟨c', x1, x2⟩
    · exact .inl h
    · exact .inr ⟨c', x1, x2.mono hsub1⟩
  clear g2 g3 g4 htb hea
  have g2 := g2n
  have g3 := g3n
  have g4 := g4n
  have htb := htbn
  clear g2n g3n g4n htbn d0 hkf hstA hSE
  repeat ((fail_if_success (with_reducible show wpAny _ _ (setDisplayStar _ _) _ _ _)); (first | (k_unfold; (try dsimp only)) | walk1 | (dsimp only; walk1) | (leave1; try dsimp only)))
  refine' hst _ _ _ _ _ _ _ _ _ _ _ _ ?F ?N ?hh ?hA ?hne ?U ?ht ?_
  case F => k_asm
  case N => k_asm
  case hh => exact rfl
  case hA => k_mem
  case hne => k_ne
  case U => k_updF
  case ht => assumption
  intro h1 so1 tk1 zs1 F1 N1 hso1 hzs1
  (try dsimp only at N1)
  iterate 40 (first | (k_unfold; (try dsimp only)) | walk1 | (dsimp only; walk1) | (leave1; try dsimp only))
  refine' Assign_DComp ?hF ?hLe ?hsw ?hclos ?hcell ?hkind ?hnames ?hx ?hdb ?hy ?hp ?hh ?h
  case hF => k_asm
  case hLe => exact rfl
  case hsw => exact rfl
  case hclos => exact rfl
  case hcell => decide
  case hkind => exact rfl
  case hnames => decide
  case hx => exact rfl
  case hdb => exact rfl
  case hy => exact rfl
  case hp => exact rfl
  case hh => exact rfl
  case h =>
  iterate 7 (first | (k_unfold; (try dsimp only)) | walk1 | (dsimp only; walk1) | (leave1; try dsimp only))
  refine' kla_eval ?d0 ?_
  case d0 => exact rfl
  refine' lam_make [130, pc, wd, dl, nsd, ns, ps] ?F ?N ?T ?C ?cd ?U ?ht ?cl ?ho ?_
  case F => k_asm
  case N => k_asm
  case T => k_asm
  case C => exact CodeHd.keeps hC (Fr.keep (by assumption))
  case cd => exact rfl
  case ht => exact htb
  case cl => exact rfl
  case U => k_updF
  case ho =>
    intro d hd
    simp only [List.mem_cons, List.not_mem_nil, or_false] at hd
    rcases hd with e | e | e | e | e | e | e
    · rw [e]; exact ⟨fun q hq => r1 q (.tail _ (.tail _ hq)), _, by k_mem⟩
    · rw [e]; exact ⟨fun q hq => r2 q (.tail _ (.tail _ hq)), _, by k_mem⟩
    · rw [e]; exact ⟨fun q hq => r3 q (.tail _ (.tail _ hq)), _, by k_mem⟩
    · rw [e]; exact ⟨fun q hq => r4 q (.tail _ (.tail _ hq)), _, by k_mem⟩
    · rw [e]; exact ⟨fun q hq => r5 q (.tail _ (.tail _ hq)), _, by k_mem⟩
    · rw [e]; exact ⟨fun q hq => r6 q (.tail _ (.tail _ hq)), _, by k_mem⟩
    · rw [e]; exact ⟨fun q hq => r7 q (.tail _ (.tail _ hq)), _, by k_mem⟩
  intro lam cc ctv h2 tk2 tb2 rest2 F2 N2 hsub2 hoff2 htb2 hco2 llam
  generalize hlam : kla_obj _ _ _ _ _ _ _ cc ctv = oLam at N2
  have hlam2 : ∃ pm, oLam = kla_obj (Str.ofString "<lambda>") lamQ lamArgs lamBody lamScope [] pm cc ctv := ⟨_, hlam.symm⟩
  clear hlam
  have q1 := hoff2 130 (by simp)
  have q2 := hoff2 pc (by simp)
  have q3 := hoff2 wd (by simp)
  have q4 := hoff2 dl (by simp)
  have q5 := hoff2 nsd (by simp)
  have q6 := hoff2 ns (by simp)
  have q7 := hoff2 ps (by simp)
  iterate 1 (first | (k_unfold; (try dsimp only)) | walk1 | (dsimp only; walk1) | (leave1; try dsimp only))
  show wpAny _ _ (call (Value.builtin "sorted") [Value.ref _] [(Str.ofString "key", Value.ref lam)]) _ _ _
  have hzn : zs1.map (·.1) = (kvs.map (·.1)).reverse ++ [x] := by rw [hzs1]; unfold atKv; rw [List.map_map]; rfl
  have hzl : zs1.length = kvs.length + 1 := by have := congrArg List.length hzn; simpa using this
  have hnz1 : ∀ z ∈ zs1.map (·.1), NameOk z := fun z hz => hnm z (by rw [hzn] at hz; simpa [or_comm] using hz)
  refine' sorted_n (ks := zs1) ?hh ?hu ?F ?N ?hD ?hs (by have := List.length_pos_iff.mpr hkv; lia) (by lia) ?hf ?_
  case hh => exact rfl
  case hu => ktr_units
  case F => k_asm
  case N => k_asm
  case hD => k_mem
  case hs => exact hso1
  case hf =>
    intro z tz s3 news3 Q3 hy F3 N3 hsub3 hQ3
    have hzs := hnz1 z hy
    have hin9 : (lam, oLam) ∈ news3 := hsub3 _ (by k_mem)
    obtain ⟨pm9, hpm⟩ := hlam2
    rw [hpm] at hin9
    refine' lam_one w _ _ _ _ _ _ _ _ _ _ _ s3 Q3 _ news3 rest2 lam cc _ z tz pm9 ctv ?l1 F3 ?l2 ?l3 ?l4 ?l5 ?l6 ?l7 ?l8 N3 ?l9 hco2 ?l10 hzs.2.2.1 hzs.2.1 hQ3
    case l1 => k_asm
    case l2 => k_in
    case l3 => k_asm
    case l4 => exact rfl
    case l5 => exact rfl
    case l6 => exact rfl
    case l7 => ktr_room
    case l8 => ktr_units
    case l9 => exact hin9
    case l10 => exact fun p hp => hsub3 p (by
      have hp' : List.Mem p rest2 := hp
      repeat (first | with_reducible exact hp' | apply List.Mem.tail))
  intro R3 k3 zs h3 d3' tk3 hz3 F3 N3 l3
  have hnz : ∀ z ∈ zs.map (·.1), NameOk z := fun z hz => hnz1 z ((hz3.map (·.1)).mem_iff.mp hz)
  have hznd : (zs.map (·.1)).Nodup := (hz3.map (·.1)).nodup_iff.mpr (zs_nodup hzn d1 hxk)
  have hzl3 : zs.length = kvs.length + 1 := hz3.length_eq.trans hzl
  obtain ⟨nb, N3b, mb⟩ : ∃ nb, News _ _ h3 nb ∧ ∀ p ∈ (_ : List (Addr × Obj)), p ∈ nb := ⟨_, N3, fun _ h => h⟩
  have mR3 := mb _ (.head _)
  have mlam := mb _ (.tail _ (.head _))
  have mme := mb _ (.tail _ (.tail _ (.head _)))
  have mse := mb _ (.tail _ (.tail _ (.tail _ (.tail _ (.head _)))))
  have mcq := mb _ (.tail _ (.tail _ (.tail _ (.tail _ (.tail _ (.head _))))))
  have mcs := mb _ (.tail _ (.tail _ (.tail _ (.tail _ (.tail _ (.tail _ (.head _)))))))
  have mcl : ∀ p ∈ (wCells w.params tkW t0 wd wr q pc dl nsd ns pm ps seen done pcs dts nsds nss (pss ++ [.bool false]) tb2 e0 e1 e2 e3 e4 e5 ((nn, listOf #[] n3) :: (at_, oA) :: rest2)), p ∈ nb := fun p hp => mb p (.tail _ (.tail _ (.tail _ (.tail _ (.tail _ (.tail _ (.tail _ hp)))))))
  clear mb N3 N2 F2
  (try k_sweep)
  have mwd := mcl _ (.head _)
  have mwr := mcl _ (.tail _ (.head _))
  have mnsd := mcl _ (.tail _ (.tail _ (.tail _ (.tail _ (.tail _ (.head _))))))
  have mr2 : ∀ p ∈ (nn, listOf #[] n3) :: (at_, oA) :: rest2, p ∈ nb := fun p hp => mcl p (.tail _ (.tail _ (.tail _ (.tail _ (.tail _ (.tail _ (.tail _ (.tail _ (.tail _ hp)))))))))
  refine ⟨R3, _, k3, nb, rfl, F3, N3b, mR3, by simp [strValues, sizeLine_eq]; lia, ?_⟩
  refine drest_all (n := (strValues zs).toArray.size) (P := QP nb zs s) (fun i v kv nw s9 hi hPv hP I4 oI4 C4 oC4 D4 oD4 m4 h4 tk4 E4 hNs4 hm4 F4 N4 off4 ne4 => ?turn) (fun kv nw s9 hP => ?fin) (strValues zs).toArray.size 0 [] nb _ (Nat.zero_add _) ?p0
  case p0 => exact QP.mk _ _ _ _ rfl rfl (fun p hp => absurd hp List.not_mem_nil) (fun p hp => hp) hb
  case turn =>
    obtain ⟨h9, tk9, g9, d9, rfl, hk9, hm9, hs9, hb9⟩ := hP
    obtain ⟨ne41, ne42, ne43⟩ := ne4
    have hsz9 : (strValues zs).toArray.size = zs.length := by simp [strValues]
    have hi9 : i < zs.length := by rw [← hsz9]; exact hi
    have hv4 : v = .str zs[i].1 zs[i].2 := by
      have e : (strValues zs).toArray[i]? = some (.str zs[i].1 zs[i].2) := by simp [strValues, hi9]
      exact Option.some.inj (hPv.symm.trans e)
    have hzi : NameOk zs[i].1 := hnz _ (List.mem_map_of_mem (List.getElem_mem hi9))
    have hnew : zs[i].1 ∉ kv.map (·.1) := by
      rw [hk9]
      intro q
      obtain ⟨p, hp, e⟩ := List.mem_map.mp q
      obtain ⟨j, hj, e2⟩ := List.mem_take_iff_getElem.mp hp
      have hj' : j < zs.length := by lia
      have q1 : (zs.map (·.1))[j]? = (zs.map (·.1))[i]? := by
        rw [List.getElem?_map, List.getElem?_map, List.getElem?_eq_getElem hj', List.getElem?_eq_getElem hi9]
        simp only [Option.map_some]
        rw [e2, e]
      exact absurd ((List.getElem?_inj (by simpa using hj') hznd).mp q1) (by lia)
    have htk : (zs.take (i + 1)).map (·.1) = (zs.take i).map (·.1) ++ [zs[i].1] := by rw [List.take_succ_eq_append_getElem hi9, List.map_append]; rfl
    generalize zs[i].1 = z at hv4 hzi hnew htk
    generalize zs[i].2 = tz at hv4
    subst hv4
    refine ⟨z, tz, rfl, ?_⟩
    have ncq := hs9 _ mcq
    have ncs := hs9 _ mcs
    have nme := hs9 _ mme
    have nwd := hs9 _ mwd
    have nwr := hs9 _ mwr
    have nnsd := hs9 _ mnsd
    have nR3 := hs9 _ mR3
    iterate 2 (first | (k_unfold; (try dsimp only)) | walk1 | (dsimp only; walk1) | (leave1; try dsimp only))
    refine' ld_cell ?N ?c ?m ?d ?_
    case N => k_asm
    case c => exact rfl
    case m => k_mem
    case d => assumption
    refine' callWith_M ?X ?N ?q ?hf ?_
    case X => k_in
    case N => k_asm
    case q => k_mem
    case hf => k_is
    iterate 3 (first | (k_unfold; (try dsimp only)) | walk1 | (dsimp only; walk1) | (leave1; try dsimp only))
    refine' And.intro (methP ?N ?q ?X) ?_
    case N => k_asm
    case q => k_mem
    case X => exact Frag.In.keeps (by k_in) F4.keep
    refine' call_meth ?N ?q ?_
    case N => k_asm
    case q => k_mem
    refine' qname_code _ _ _ _ _ _ _ _ _ _ _ _ _ _ _ _ _ _ _ _ _ _ wr wd nsd n0 tp _ _ _ _ _ _ _ t1 t2 tz _ n2 _ _ _ _ z ?uB ?uF ?uX ?uT ?uk ?ud ?uu ?uN ?w1 ?w2 ?w3 ?h0 ?w4 ?w5 ?w6 ?hb hzi.1 hzi.2.1 ?hQ
    case uB => k_asm
    case uF => exact F4
    case uX => k_in
    case uT => k_asm
    case uk => exact rfl
    case ud => ktr_room
    case uu => ktr_units
    case uN => exact N4
    case w1 => k_mem
    case w2 => k_mem
    case w3 => k_mem
    case h0 => simpa using g1
    case w4 => exact .tail _ (.tail _ (.tail _ (hs9 _ (mr2 _ (.tail _ (.tail _ (hsub2 _ g2)))))))
    case w5 => exact .tail _ (.tail _ (.tail _ (hs9 _ (mr2 _ (.tail _ (.tail _ (hsub2 _ g3)))))))
    case w6 =>
      intro k v hk hv
      obtain ⟨e, n, he, hm⟩ := g4 k v hk (by simpa using hv)
      refine ⟨e, n, he, .tail _ (.tail _ (.tail _ (hs9 _ (mr2 _ ?_))))⟩
      rcases List.mem_cons.mp hm with hm | hm
      · rw [hm]; exact .head _
      · exact .tail _ (.tail _ (hsub2 _ hm))
    case hb => exact hb9
    case hQ =>
    intro R5 u1 u2 u3 h5 tk5 gens5 F5 N5 l5 hbg
    refine' compEnd_push F5 N5 off4 l5 ?hS ?_
    case hS => exact .inr ⟨_, .tail _ nR3, rfl, _, rfl⟩
    refine QP.mk _ _ _ _ rfl ?_ (fun p hp => ?_) (fun p hp => .tail _ (hs9 p hp)) hbg
    · rw [stored_new hnew, List.map_append, hk9, htk]; rfl
    · rw [stored_new hnew] at hp
      rcases List.mem_append.mp hp with hp | hp
      · obtain ⟨R, u1, u2, u3, e, hm⟩ := hm9 p hp
        exact ⟨R, u1, u2, u3, e, .tail _ hm⟩
      · rw [List.mem_singleton.mp hp]
        exact ⟨R5, u1, u2, u3, rfl, .head _⟩
  case fin =>
  intro D6 oD6 h6 tk6 F6 N6 hD6 off6 lD6
  obtain ⟨h9, tk9, g9, d9, rfl, hk9, hm9, hs9, hb9⟩ := hP
  have nD6 : ∀ p ∈ nw, p.1 ≠ D6 := off6
  clear off6
  have nnn := hs9 _ (mr2 _ (.head _))
  have nat := hs9 _ (mr2 _ (.tail _ (.head _)))
  have ncs := hs9 _ mcs
  have nwd := hs9 _ mwd
  have nwr := hs9 _ mwr
  have lnw : ∀ p ∈ nw, AllLt 0 [p] → True := fun _ _ _ => trivial
  clear lnw
  have hvals : ∀ y, y ∈ x :: kvs.map (·.1) → ∃ R u1 u2 u3, PySem.valueAt kv y = some (.ref R) ∧ (R, tupOf [.str y u1, .str y u2, .str (Str.ofString "") u3]) ∈ nw := fun y hy => by
    have hkz : kv.map (·.1) = zs.map (·.1) := by rw [hk9, List.take_of_length_le (by simp [strValues])]
    have hyz : y ∈ kv.map (·.1) := by
      rw [hkz]
      refine (hz3.map (·.1)).mem_iff.mpr ?_
      rw [hzn]
      simpa [or_comm] using hy
    obtain ⟨p, hp, rfl⟩ := List.mem_map.mp hyz
    obtain ⟨R, u1, u2, u3, e, hm⟩ := hm9 p hp
    exact ⟨R, u1, u2, u3, valueAt_mem (by rw [hkz]; exact hznd) (by rw [← e]; exact hp), hm⟩
  show wpAny _ _ (execs _ _) _ _ _
  iterate 16 (first | (k_unfold; (try dsimp only)) | walk1 | (dsimp only; walk1) | (leave1; try dsimp only))
  rename_i la9 hq1 ll9 hq2 F8 N8
  obtain ⟨m0, hm0, F0⟩ : ∃ m0, m0 = _ ∧ Fr _ _ _ m0 := ⟨_, rfl, F8⟩
  have m_attrs : m0 (Str.ofString "attrs") = some (.ref at_) := by rw [hm0]; rfl
  have m_attr_list : m0 (Str.ofString "attr_list") = some (.ref la9) := by rw [hm0]; rfl
  have m_parsed_qnames : m0 (Str.ofString "parsed_qnames") = some (.ref D6) := by rw [hm0]; rfl
  have m_qattrs : m0 (Str.ofString "qattrs") = some Value.none := by rw [hm0]; rfl
  have m_tag : m0 (Str.ofString "tag") = some (.str x tx) := by rw [hm0]; rfl
  have m_qname_text : m0 (Str.ofString "qname_text") = some Value.none := by rw [hm0]; rfl
  clear F8 hm0
  refine at_mid (s := s) (v := v) (so := so) (nb := (D6, oD6) :: nw) (la := la9) (g := g9) (d := d9) F0 ?cif (fun fl s9 hM => ?tail)
  case cif =>
      obtain ⟨p1, r1, hpr⟩ : ∃ p1 r1, atKv v kvs = p1 :: r1 := by
        cases kvs with
        | nil => exact absurd rfl hkv
        | cons p r => exact ⟨_, _, rfl⟩
      have d2 : oA.IsDictOf (PySem.strKind P3 w) (p1 :: r1) := by rw [← hpr]; exact d1
      have hlen1 : (p1 :: r1).length < 1000 := by rw [← hpr]; simp only [atKv, List.length_map]; lia
      iterate 7 (first | (k_unfold; (try dsimp only)) | walk1 | (dsimp only; walk1) | (leave1; try dsimp only))
      refine For_turns F0 ?_ (by intro _; rfl)
      iterate 10 (first | (k_unfold; (try dsimp only)) | walk1 | (dsimp only; walk1) | (leave1; try dsimp only))
      refine kdx_sortedN (knd := PySem.strKind P3 w) (enc := PyData.str) (kvs := atKv v kvs) (ps := (atKv v kvs).map fun p => ((fun t => Value.str p.1 t), p.2)) rfl (by assumption) (by assumption) (by k_mem) (by k_mem) d1 (by simp only [atKv, List.length_map]; lia) (fun _ _ h => Value.isStrOf_shape h) rfl ?_
      intro lo9 l9
      refine kdxOpen_all _ _ _ fun as1 tf hal ham hao _ => ?_
      intro B9 h10 tk10 lB F10 N10
      have hak : as1.length = (atKv v kvs).length := by rw [hal, List.length_map]
      refine hlo _ _ _ _ _ _ _ _ B9 as1 0 F10 N10 ?nB hak ?mB fun as2 e2 h12 hal2 ham2 F12 N12 => ?_
      case nB => exact fun p hp => Nat.ne_of_lt (lB p hp)
      case mB =>
        intro i a p ha hp
        obtain ⟨t, hm⟩ := ham i a (fun t => .str p.1 t, p.2) ha (by rw [List.getElem?_map, hp]; rfl)
        exact ⟨t, List.mem_append_left _ hm⟩
      have lla : @LT.lt Nat _ la9 B9 := lB _ (List.mem_append_right _ (.tail _ (.head _)))
      have nla : ∀ p ∈ (B9, listOf (as2.map Value.ref).toArray e2) :: (tf ++ (D6, oD6) :: nw), p.1 ≠ la9 := fun p hp => by
        rcases List.mem_cons.mp hp with rfl | hp
        · exact Nat.ne_of_gt lla
        · rcases List.mem_append.mp hp with hp | hp
          · rcases hao p hp with h | h
            · exact absurd h List.not_mem_nil
            · exact Nat.ne_of_gt (h.2 _ (.tail _ (.head _)))
          · exact Nat.ne_of_lt (ll9 p hp)
      have ham3 : ∀ (i : Nat) (a : Addr) (p : Str × Tok), as2[i]? = some a → so[i]? = some p → ∃ t, (a, tupO' p.1 t (.str v p.2)) ∈ (B9, listOf (as2.map Value.ref).toArray e2) :: (tf ++ (D6, oD6) :: nw) := fun i a p ha hp => by
        obtain ⟨t, hm⟩ := ham2 i a (p.1, .str v p.2) ha (by unfold atKv; rw [List.getElem?_map, hp]; rfl)
        refine ⟨t, .tail _ ?_⟩
        rcases List.mem_append.mp hm with hm | hm
        · exact List.mem_append_left _ hm
        · rcases List.mem_cons.mp hm with hm | hm
          · injection hm with _ e; injection e with e; simp at e
          · rcases List.mem_cons.mp hm with hm | hm
            · injection hm with _ e; injection e with e; simp at e
            · exact List.mem_append_right _ hm
      obtain ⟨nb2, N13, hb2, hsb2, nla2, ham4⟩ : ∃ nb2, News _ _ h12 ((la9, listOf #[] 0) :: nb2) ∧ (B9, listOf (as2.map Value.ref).toArray e2) ∈ nb2 ∧ (∀ p ∈ (D6, oD6) :: nw, p ∈ nb2) ∧ (∀ p ∈ nb2, p.1 ≠ la9) ∧ (∀ (i : Nat) (a : Addr) (p : Str × Tok), as2[i]? = some a → so[i]? = some p → ∃ t, (a, tupO' p.1 t (.str v p.2)) ∈ nb2) :=
        ⟨_, news_fr N12, .head _, fun p hp => .tail _ (List.mem_append_right _ hp), nla, ham3⟩
      clear N12 N10 F10 ham ham2 ham3 hao nla lB lla N8
      refine iter_listTurns (vs := as2.map Value.ref) (by with_unfolding_all rfl) F12 N13 (.tail _ hb2) (by with_unfolding_all rfl) (by with_unfolding_all rfl) ?_
      intro I9 lI
      refine items_all (P := AtI v so m0 nb2 la9 I9) (as2.map Value.ref) (fun i v9 h15 tk15 m15 n15 oI hv9 hP15 F15 hc15 N15 => ?turn2) (fun m15 n15 h15 tk15 hP15 F15 N15 => ?fin2) (as2.map Value.ref).length 0 m0 _ (Nat.zero_add _) ?p2
      case p2 => exact AtI.mk [] 0 nb2 rfl (fun p hp => hp) nla2 (fun p hp => Nat.ne_of_lt (lI p hp)) rfl (fun j a p ha _ => by simp at ha) (fun y _ _ _ _ _ => rfl)
      case fin2 =>
        obtain ⟨as3, e3, nw3, rfl, hs3, ho3, hI3, hl3, ha3, hm3⟩ := hP15
        dsimp only
        repeat (first | (k_unfold; (try dsimp only)) | walk1 | (dsimp only; walk1) | (leave1; try dsimp only))
        exact AtMid.mk _ _ m15 as3 e3 nw3 (by assumption) hm3 (by assumption) (fun p hp => hs3 _ (hsb2 p hp)) ho3 (by rw [hl3, List.length_map, hal2]; unfold atKv; rw [List.length_map]) ha3
      case turn2 =>
        obtain ⟨as3, e3, nw3, rfl, hs3, ho3, hI3, hl3, ha3, hm3⟩ := hP15
        have hi2 : i < as2.length := by
          have := (List.getElem?_eq_some_iff.mp hv9).1
          simpa using this
        have hi3 : i < so.length := by rw [hal2] at hi2; unfold atKv at hi2; simpa using hi2
        have hv10 : v9 = .ref as2[i] := by
          rw [List.getElem?_map, List.getElem?_eq_getElem hi2] at hv9
          exact (Option.some.inj hv9).symm
        obtain ⟨ty, hty⟩ := ham4 i as2[i] so[i] (List.getElem?_eq_getElem hi2) (List.getElem?_eq_getElem hi3)
        obtain ⟨R7, u1, u2, u3, hva, hR7⟩ := hvals so[i].1 (.tail _ ((hso.map (·.1)).mem_iff.mp (List.mem_map_of_mem (List.getElem_mem hi3))))
        have hye : so[i]? = some so[i] := List.getElem?_eq_getElem hi3
        generalize so[i] = y9 at hty hva hR7 hye
        generalize as2[i] = a9 at hv10 hty
        subst hv10
        have ity := hs3 _ hty
        have nI9 : @Ne Nat la9 I9 := hI3 _ (.head _)
        have hz9 : as3.length ≤ 6 := by have := hso.length_eq; lia
        have iR7 := hs3 _ (hsb2 _ (.tail _ hR7))
        have iD6 := hs3 _ (hsb2 _ (.head _))
        have i_attr_list : m15 (Str.ofString "attr_list") = some (.ref la9) := (hm3 _ (by decide) (by decide) (by decide) (by decide) (by decide)).trans m_attr_list
        have i_parsed_qnames : m15 (Str.ofString "parsed_qnames") = some (.ref D6) := (hm3 _ (by decide) (by decide) (by decide) (by decide) (by decide)).trans m_parsed_qnames
        have i_qattrs : m15 (Str.ofString "qattrs") = some Value.none := (hm3 _ (by decide) (by decide) (by decide) (by decide) (by decide)).trans m_qattrs
        repeat (first | (k_unfold; (try dsimp only)) | walk1 | (dsimp only; walk1) | (leave1; try dsimp only))
        rename_i D9 hA FA NA lD9 h16 F16 N16
        have iB := hs3 _ hb2
        refine ⟨h16, tk, _, (la9, W.listOf (as3.map Value.ref ++ [Value.ref D9]).toArray (e3 + 1)) :: (D9, tupO' y9.1 u2 (.str v y9.2)) :: nw3, rfl, F16, fun p hp => N16 p ?nn, fun p hp q hq => ?off, ⟨by k_subL, ?ati⟩⟩
        case nn =>
          rcases List.mem_cons.mp hp with rfl | hp
          · exact .tail _ (.head _)
          · rcases List.mem_cons.mp hp with rfl | hp
            · exact .tail _ (.tail _ (.head _))
            · rcases List.mem_cons.mp hp with rfl | hp
              · exact .head _
              · exact .tail _ (.tail _ (.tail _ hp))
        case off =>
          rw [List.mem_singleton.mp hq]
          rcases List.mem_cons.mp hp with rfl | hp
          · exact nI9
          · rcases List.mem_cons.mp hp with rfl | hp
            · exact Nat.ne_of_gt (lD9 _ (.head _))
            · exact hI3 _ (.tail _ hp)
        case ati =>
          refine AtI.mk (as3 ++ [D9]) (e3 + 1) ((D9, tupO' y9.1 u2 (.str v y9.2)) :: nw3) (by rw [List.map_append]; rfl) (fun p hp => .tail _ (hs3 _ hp)) (List.forall_mem_cons.2 ⟨Nat.ne_of_gt (lD9 _ (.tail _ (.head _))), ho3⟩) (fun p hp => ?_) (by rw [List.length_append, hl3]; rfl) (fun j a p ha hp => ?_) (fun y e1 e2 e3 e4 e5 => ?_)
          · rcases List.mem_cons.mp hp with rfl | hp
            · exact nI9
            · rcases List.mem_cons.mp hp with rfl | hp
              · exact Nat.ne_of_gt (lD9 _ (.head _))
              · exact hI3 _ (.tail _ hp)
          · by_cases hj : j < as3.length
            · rw [List.getElem?_append_left hj] at ha
              obtain ⟨t, t', hm⟩ := ha3 j a p ha hp
              exact ⟨t, t', .tail _ hm⟩
            · have hj2 : j = as3.length := by
                have := (List.getElem?_eq_some_iff.mp ha).1
                rw [List.length_append, List.length_singleton] at this
                lia
              subst hj2
              rw [List.getElem?_append_right (Nat.le_refl _), Nat.sub_self] at ha
              rw [hl3, hye] at hp
              have ea : D9 = a := Option.some.inj ha
              have ep : y9 = p := Option.some.inj hp
              subst ea; subst ep
              exact ⟨_, _, .head _⟩
          · show (if y = Str.ofString "uri" then _ else _) = _
            rw [if_neg e5]
            show (if y = Str.ofString "attr_name" then _ else _) = _
            rw [if_neg e4]
            show (if y = Str.ofString "attr_qname" then _ else _) = _
            rw [if_neg e3]
            show (if y = Str.ofString "v" then _ else _) = _
            rw [if_neg e2]
            show (if y = Str.ofString "k" then _ else _) = _
            rw [if_neg e1]
            exact hm3 y e1 e2 e3 e4 e5
  case tail =>
  obtain ⟨h16, tk16, m16, as, e16, nw6, F16, hm16, N16, hs16, ho16, hl16, ha16⟩ := hM
  dsimp only
  have j_attrs : m16 (Str.ofString "attrs") = some (.ref at_) := (hm16 _ (by decide) (by decide) (by decide) (by decide) (by decide)).trans m_attrs
  have j_attr_list : m16 (Str.ofString "attr_list") = some (.ref la9) := (hm16 _ (by decide) (by decide) (by decide) (by decide) (by decide)).trans m_attr_list
  have j_parsed_qnames : m16 (Str.ofString "parsed_qnames") = some (.ref D6) := (hm16 _ (by decide) (by decide) (by decide) (by decide) (by decide)).trans m_parsed_qnames
  have j_tag : m16 (Str.ofString "tag") = some (.str x tx) := (hm16 _ (by decide) (by decide) (by decide) (by decide) (by decide)).trans m_tag
  have j_qname_text : m16 (Str.ofString "qname_text") = some Value.none := (hm16 _ (by decide) (by decide) (by decide) (by decide) (by decide)).trans m_qname_text
  have inw : ∀ p ∈ nw, p ∈ nw6 := fun p hp => hs16 _ (.tail _ hp)
  have inb : ∀ p ∈ nb, p ∈ nw6 := fun p hp => inw _ (hs9 p hp)
  obtain ⟨Rx, ux1, ux2, ux3, hvx, hRx⟩ := hvals x (.head _)
  have c_wd := mcl _ (.head _)
  have c_wr := mcl _ (.tail _ (.head _))
  have c_q := mcl _ (.tail _ (.tail _ (.head _)))
  have c_pc := mcl _ (.tail _ (.tail _ (.tail _ (.head _))))
  have c_dl := mcl _ (.tail _ (.tail _ (.tail _ (.tail _ (.head _)))))
  have c_nsd := mcl _ (.tail _ (.tail _ (.tail _ (.tail _ (.tail _ (.head _))))))
  have c_ns := mcl _ (.tail _ (.tail _ (.tail _ (.tail _ (.tail _ (.tail _ (.head _)))))))
  have c_ps := mcl _ (.tail _ (.tail _ (.tail _ (.tail _ (.tail _ (.tail _ (.tail _ (.head _))))))))
  have c_tab := mcl _ (.tail _ (.tail _ (.tail _ (.tail _ (.tail _ (.tail _ (.tail _ (.tail _ (.head _)))))))))
  have y_wd := inb _ c_wd
  have y_pc := inb _ c_pc
  have y_ns := inb _ c_ns
  have y_ps := inb _ c_ps
  have lpc : pc < la9 := ll9 _ (.tail _ (hs9 _ c_pc))
  have lwd : wd < la9 := ll9 _ (.tail _ (hs9 _ c_wd))
  have lns : ns < la9 := ll9 _ (.tail _ (hs9 _ c_ns))
  have lps : ps < la9 := ll9 _ (.tail _ (hs9 _ c_ps))
  obtain ⟨nx, N17, fx, gx⟩ := cut4 N16 y_wd y_pc y_ns y_ps
  have N6' : News _ _ h16 nw6 := fun p hp => N16 p (.tail _ hp)
  have xat : (at_, oA) ∈ nx := fx _ (inb _ (mr2 _ (.tail _ (.head _)))) (r3 _ (.tail _ (.head _))) (r2 _ (.tail _ (.head _))) (r6 _ (.tail _ (.head _))) (r7 _ (.tail _ (.head _)))
  have xnn : (nn, listOf #[] n3) ∈ nx := fx _ (inb _ (mr2 _ (.head _))) (r3 _ (.head _)) (r2 _ (.head _)) (r6 _ (.head _)) (r7 _ (.head _))
  have xr2 : ∀ p ∈ rest2, p ∈ nx := fun p hp => fx _ (inb _ (mr2 _ (.tail _ (.tail _ hp)))) (q3 p hp) (q2 p hp) (q6 p hp) (q7 p hp)
  have xD6 : (D6, oD6) ∈ nx := fx _ (hs16 _ (.head _)) (Ne.symm (nD6 _ (hs9 _ c_wd))) (Ne.symm (nD6 _ (hs9 _ c_pc))) (Ne.symm (nD6 _ (hs9 _ c_ns))) (Ne.symm (nD6 _ (hs9 _ c_ps)))
  have xRx : (Rx, tupOf [.str x ux1, .str x ux2, .str (Str.ofString "") ux3]) ∈ nx := fx _ (inw _ hRx) (news_ne N6' (inw _ hRx) y_wd (by simp [tupOf, dictOf])) (news_ne N6' (inw _ hRx) y_pc (by simp [tupOf, W.listOf])) (news_ne N6' (inw _ hRx) y_ns (by simp [tupOf, W.listOf])) (news_ne N6' (inw _ hRx) y_ps (by simp [tupOf, W.listOf]))
  have xcs := fx _ (inb _ mcs) (by k_ne) (by k_ne) (by k_ne) (by k_ne)
  have xwr := fx _ (inb _ c_wr) (by k_ne) (by k_ne) (by k_ne) (by k_ne)
  have xq := fx _ (inb _ c_q) (by k_ne) (by k_ne) (by k_ne) (by k_ne)
  have xdl := fx _ (inb _ c_dl) (by k_ne) (by k_ne) (by k_ne) (by k_ne)
  have xnsd := fx _ (inb _ c_nsd) (by k_ne) (by k_ne) (by k_ne) (by k_ne)
  have xtab := fx _ (inb _ c_tab) (by k_ne) (by k_ne) (by k_ne) (by k_ne)
  have xtp : ∀ (i : Nat) (a : Addr) (p : Str × Tok), as[i]? = some a → so[i]? = some p → ∃ t t', (a, tupO' p.1 t (.str v t')) ∈ nx := fun i a p ha hp => by
    obtain ⟨t, t', hm⟩ := ha16 i a p ha hp
    exact ⟨t, t', fx _ hm (news_ne N6' hm y_wd (by simp [dictOf])) (news_ne N6' hm y_pc (by simp [W.listOf])) (news_ne N6' hm y_ns (by simp [W.listOf])) (news_ne N6' hm y_ps (by simp [W.listOf]))⟩
  have gwd : ∀ p ∈ nx, p.1 ≠ wd := fun p hp => (gx p hp).1
  have gpc : ∀ p ∈ nx, p.1 ≠ pc := fun p hp => (gx p hp).2.1
  have gns : ∀ p ∈ nx, p.1 ≠ ns := fun p hp => (gx p hp).2.2.1
  have gps : ∀ p ∈ nx, p.1 ≠ ps := fun p hp => (gx p hp).2.2.2.1
  clear N16 N6' fx gx y_wd y_pc y_ns y_ps inb inw
  iterate 9 (first | (k_unfold; (try dsimp only)) | walk1 | (dsimp only; walk1) | (leave1; try dsimp only))
  rename (News _ _ _ _) => N18
  have hl : x.length ≤ 1024 := (hnm x (.head _)).2.1
  refine' kdg_get1 (knd := PySem.strKind P3 w) N18 ?hp d1 d3 (PySem.strKind_is _ _ _ _) none ?hl ?_
  case hp => k_mem
  case hl =>
    unfold PySem.valueAt
    have e : (atKv v kvs).find? (fun kv => decide (kv.1 = Str.ofString "{http://www.w3.org/XML/1998/namespace}space")) = none := by
      rw [List.find?_eq_none]
      intro p hp q
      obtain ⟨p2, hp2, rfl⟩ := List.mem_map.mp hp
      have := (hnm p2.1 (.tail _ (List.mem_map_of_mem hp2))).2.2.2
      rw [of_decide_eq_true q] at this
      simp at this
    rw [e]; rfl
  show wpAny _ _ (storeName _ _ Value.none) _ _ _
  iterate 54 (first | (k_unfold; (try dsimp only)) | walk1 | (dsimp only; walk1) | (leave1; try dsimp only))
  rename_i tq9 kq9 aq9 h17 F17 N17a
  rw [strValues_push] at N17a
  have has6 : as.length ≤ 6 := by have := hso.length_eq; lia
  refine pc_mid (s := s) (X0 := pcs ++ [(Str.ofString "<" ++ x, tq9)]) (so := so) (ev := ev) (g := g9) (d := d9) F17 N17a ?cpc (fun fl s10 hM2 => ?tail2)
  case cpc =>
      have hsn : so ≠ [] := fun e => hkv (by rw [e] at hso; exact List.nil_perm.mp hso)
      have hasn : as ≠ [] := fun e => hsn (List.eq_nil_of_length_eq_zero (by rw [← hl16, e]; rfl))
      iterate 17 (first | (k_unfold; (try dsimp only)) | walk1 | (dsimp only; walk1) | (leave1; try dsimp only))
      refine' LCp.ListComp_P (F₀ := by k_asm) (by with_unfolding_all rfl) (by decide) (by rfl) (by decide) (by rfl) (by rfl) (by decide) ?_
      iterate 1 (first | (k_unfold; (try dsimp only)) | walk1 | (dsimp only; walk1) | (leave1; try dsimp only))
      rename (News _ _ _ _) => N15
      rename (Fr _ _ _ _) => F15
      obtain ⟨nl, hnl, N15b⟩ : ∃ nl, nl = _ ∧ News _ _ _ nl := ⟨_, rfl, N15⟩
      have knl : ∀ p ∈ nx, p ∈ nl := fun p hp => by rw [hnl]; exact .tail _ (.tail _ (.tail _ (.tail _ (.tail _ hp))))
      have kla : (la9, W.listOf (as.map Value.ref).toArray e16) ∈ nl := by rw [hnl]; exact .head _
      clear N15
      refine' LCp.SrcLP.ledger ?hh F15 N15b ?hm ?hz ?_
      case hh => exact rfl
      case hm => exact kla
      case hz => simp [sizeLine_eq]; lia
      intro g15
      refine compP_all (P := CP nl so ev) (fun i v9 ys nw9 hv9 hP9 => ?turn3) (fun ys nw9 hP9 => ?fin3) ((as.map Value.ref).toArray).size 0 [] nl (Nat.zero_add _) (CP.mk [] rfl rfl rfl)
      case turn3 =>
        obtain ⟨l9, rfl, hl9, rfl⟩ := hP9
        have hle : ev.length ≤ 100 := hav.len.2
        have hi2 : i < as.length := by
          have := (Array.getElem?_eq_some_iff.mp hv9).1
          simpa using this
        have hi3 : i < so.length := by rw [← hl16]; exact hi2
        have hv10 : v9 = .ref as[i] := by
          rw [List.getElem?_toArray, List.getElem?_map, List.getElem?_eq_getElem hi2] at hv9
          exact (Option.some.inj hv9).symm
        obtain ⟨ty, ty', hty⟩ := xtp i as[i] so[i] (List.getElem?_eq_getElem hi2) (List.getElem?_eq_getElem hi3)
        have hly : so[i].1.length ≤ 1024 := (hnm _ (.tail _ ((hso.map (·.1)).mem_iff.mp (List.mem_map_of_mem (List.getElem_mem hi3))))).2.1
        have htk9 : (so.take (i + 1)).map (fun p => atOne ev p.1) = (so.take i).map (fun p => atOne ev p.1) ++ [atOne ev so[i].1] := by rw [List.take_succ_eq_append_getElem hi3, List.map_append]; rfl
        generalize so[i].1 = y9 at hty hly htk9
        generalize as[i] = a9 at hv10 hty
        subst hv10
        refine ⟨_, _, Value.str y9 ty, Value.str v ty', _, rfl, knl _ hty, rfl, rfl, ?_⟩
        intro I15 oI15 C15 oC15 D15 m15b h15 tk15 E15 hNs15 hmx15 hmy15 F16b N16b off16 ne15
        obtain ⟨ne151, ne152, ne153⟩ := ne15
        have hb1 : (Str.ofString " ").length ≤ 1 := by decide +kernel
        have hb2 : (Str.ofString "=\"").length ≤ 2 := by decide +kernel
        have hb3 : (Str.ofString "\"").length ≤ 1 := by decide +kernel
        have hc1 := slx hb1 hly
        have hc2 := slx hc1 hb2
        have hc3 := slx hc2 hle
        have hc4 := slx hc3 hb3
        have hd1 := Nat.le_trans hc1 (show _ ≤ sizeLine by rw [sizeLine_eq]; decide)
        have hd2 := Nat.le_trans hc2 (show _ ≤ sizeLine by rw [sizeLine_eq]; decide)
        have hd3' := Nat.le_trans hc3 (show _ ≤ sizeLine by rw [sizeLine_eq]; decide)
        have hd4 := Nat.le_trans hc4 (show _ ≤ sizeLine by rw [sizeLine_eq]; decide)
        clear hc1 hc2 hc3 hc4 hb1 hb2 hb3
        iterate 29 (first | (k_unfold; (try dsimp only)) | walk1 | (dsimp only; walk1) | (leave1; try dsimp only))
        show wpAny _ _ (mkStr _) _ _ _
        refine' wpAny_mkStr ?_ ?hsz
        case hsz => exact Nat.le_trans (atOne_len hly hle) (by rw [sizeLine_eq]; decide)
        rename (News _ _ _ _) => N17
        rename (Fr _ _ _ _) => F17
        refine' LCg.CompEnd.intro F17 N17 nw9 (fun p hp => hp) off16 ?S ?_
        case S => exact .inr ⟨_, kla, rfl, _, rfl⟩
        exact CP.mk (l9 ++ [(atOne ev y9, _)]) (by simp only [strValues, List.map_append]; rfl) (by rw [List.map_append, hl9, htk9]; rfl) rfl
      case fin3 =>
        obtain ⟨l9, rfl, hl9, hnw⟩ := hP9
        intro D18 h18 tk18 F18 N18 off18
        rw [hnw, hnl] at N18
        have hl10 : l9.map (·.1) = so.map fun p => atOne ev p.1 := by rw [hl9, List.take_of_length_le (by simp [hl16])]
        have hcl : (catS (so.map fun p => atOne ev p.1)).length ≤ 7200 := by
          refine Nat.le_trans (catS_len 1200 _ fun z hz => ?_) (by rw [List.length_map]; have := hso.length_eq; lia)
          obtain ⟨p, hp, rfl⟩ := List.mem_map.mp hz
          exact atOne_len (hnm _ (.tail _ ((hso.map (·.1)).mem_iff.mp (List.mem_map_of_mem hp)))).2.1 hav.len.2
        iterate 1 (first | (k_unfold; (try dsimp only)) | walk1 | (dsimp only; walk1) | (leave1; try dsimp only))
        refine join_led' (l := l9) N18 (.head _) ?hz (x := catS (so.map fun p => atOne ev p.1)) ?hx ?hg ?hh
        case hz => rw [hl10, fold_len']; exact decide_eq_false (by rw [sizeLine_eq]; lia)
        case hx => rw [hl10, glued_cat]
        case hg => rw [sizeLine_eq]; lia
        case hh =>
        intro uj tkj _
        have N19 := newsSub N18 (fun p hp => .tail _ hp)
        clear N18 hnw hnl N15b knl kla off18
        repeat (first | (k_unfold; (try dsimp only)) | walk1 | (dsimp only; walk1) | (leave1; try dsimp only))
        refine PcMid.mk _ _ uj (e1 + 1 + 1) (by assumption) ?_
        rw [show atPcs so ev uj = [(catS (so.map fun p => atOne ev p.1), uj)] from if_neg hsn, ← strValues_push]
        assumption
  case tail2 =>
  obtain ⟨h18, tk18, t3, f18, F18, N18⟩ := hM2
  dsimp only
  clear N17a
  generalize hX1 : pcs ++ [(Str.ofString "<" ++ x, tq9)] ++ atPcs so ev t3 = X1 at N18
  have hX1l : X1.length ≤ 1002 := by
    rw [← hX1, List.length_append, List.length_append, List.length_singleton]
    unfold atPcs
    split <;> simp <;> lia
  repeat (first | (k_unfold; (try dsimp only)) | walk1 | (dsimp only; walk1) | (leave1; try dsimp only))
  rename (News h₀ L _ _) => N20
  rename (∀ p : Addr × Obj, p ∈ _ → p.1 < _) => l20
  have W0 : WOff wd pc dl nsd ns ps ((nn, listOf #[] n3) :: (at_, oA) :: rest2) := ⟨mkAB r1 q1, mkAB r2 q2, mkAB r3 q3, mkAB r4 q4, mkAB r5 q5, mkAB r6 q6, mkAB r7 q7⟩
  obtain ⟨lf, restf, Nf, Wf, mf1, mf2, mf3, sf⟩ := fin_start3 (rest := rest2) N20 (.head _) (by k_mem) (by k_mem) (by k_mem) (by k_mem) (by k_mem) (by k_mem) (by k_mem) (by k_mem) (by k_mem) (by k_mem) (by k_mem) (fun p hp => .tail _ (.tail _ (.tail _ (.tail _ (.tail _ (.tail _ (xr2 p hp))))))) strValues_push (Nat.ne_of_gt (l20 _ (.tail _ (.tail _ (.tail _ (.tail _ (.tail _ xtab))))))) (by k_ne) (by k_ne) (Nat.ne_of_gt (l20 _ (.tail _ (.tail _ (.tail _ (.tail _ (.tail _ xdl))))))) (Nat.ne_of_gt (l20 _ (.tail _ (.tail _ (.tail _ (.tail _ (.tail _ xnsd))))))) (by k_ne) (by k_ne) W0
  subst hX1
  exact hQ lf restf _ _ _ tb2 _ _ _ _ _ _ _ (by assumption) Nf Wf (.inr ⟨cc, htb2, hco2.mono sf⟩) mf1 mf2 (fun p hp => sf p (hsub2 p (hsub1 p hp))) hb9
end
local macro_rules | `(tactic| walk_at "setAttr ref") => mqT "(line HS - (rule set_dict aaaIfiiii01ub. - (first (exact get_seen) (exact get_done) (exact get_ig)) (first (red (exact put_seen)) (red (exact put_done)) (red (exact put_ig)))))"
local macro_rules | `(tactic| walk_at "compareOp In str ref") => mqT "(line - - (first (rule in_mem #amrBrk. - (:= b true)) (rule in_mem #amrBrk. - (:= b false))))"
local macro_rules | `(tactic| walk_at "compareOp NotIn str ref") => mqT "(line - - (first (rule notin_mem #amrBrk. - (:= b true)) (rule notin_mem #amrBrk. - (:= b false))))"
theorem topOff7 : True := by
  w_top off
  trivial
section
open PySem PySem.W PyProof.Rows PySem.Calls PySem.Spec
noncomputable def penW (b : Bool) (td : Tok) : List (Str × Tok) := if b then [(Str.ofString " \n", td)] else []
theorem NsOk.push4 {nsds : List Value} {rest : List (Addr × Obj)} {nn n3 : Nat} (d : ∀ (k : Nat) (v : Value), 0 < k → nsds[k]? = some v → ∃ e n, v = .ref e ∧ (e, listOf #[] n) ∈ rest) (h0 : nsds ≠ []) : ∀ (k : Nat) (v : Value), 0 < k → (nsds ++ [.ref nn])[k]? = some v → ∃ e n, v = .ref e ∧ (e, listOf #[] n) ∈ (nn, listOf #[] n3) :: rest := by
  intro k v hk hv
  by_cases hlt : k < nsds.length
  · rw [List.getElem?_append_left hlt] at hv
    obtain ⟨e, n, x, y⟩ := d k v hk hv
    exact ⟨e, n, x, .tail _ y⟩
  · rw [List.getElem?_append_right (by walk_at "AR")] at hv
    cases hz : k - nsds.length with
    | zero => rw [hz] at hv; simp at hv; exact ⟨nn, n3, hv.symm, .head _⟩
    | succ j => rw [hz] at hv; simp at hv
noncomputable def begA (x : Str) (so : List (Str × Tok)) (ev : Str) : Str := Str.ofString "<" ++ x ++ catS (so.map fun p => atOne ev p.1) ++ Str.ofString ">"
theorem beg_cat {x : Str} {so : List (Str × Tok)} {ev : Str} {t1 t2 t3 : Tok} : catS (((Str.ofString "<" ++ x, t1) :: (atPcs so ev t3 ++ [(Str.ofString ">", t2)])).map (·.1)) = begA x so ev := by
  unfold atPcs begA
  split
  · rename_i h
    subst h
    simp only [List.nil_append, List.map, catS, app_nil', app_assoc', nil_app']
  · simp only [List.cons_append, List.nil_append, List.map, catS, app_nil', app_assoc']
theorem atPcs_len {so : List (Str × Tok)} {ev : Str} {t : Tok} : (atPcs so ev t).length ≤ 1 := by
  unfold atPcs
  split <;> simp
inductive FlMid (h₀ : Heap) (L : Addr) (s₁ : Shared) (m' : Str → Option Value) (C : Bool → List (Str × Tok) → Nat → Nat → List (Addr × Obj)) (seen : Bool) (pt : Str) : Flow → Shared → Prop
  | mk (h : Heap) (tk : Nat) (seen' : Bool) (new : List (Str × Tok)) (f1 f2 : Nat) (F : Fr h₀ L h m') (N : News h₀ L h (C seen' new f1 f2)) (hs : seen = true → seen' = true) (hc : catS (new.map (·.1)) = pt) (hl : new.length ≤ 1) : FlMid h₀ L s₁ m' C seen pt .next { s₁ with heap := h, toks := tk }
theorem fl_mid {M : Model} {A : Around} {t : Sem Flow} {E : Value → Shared → Prop} {Q : Flow → Shared → Prop} {s s9 : Shared} {h₀ h : Heap} {L : Addr} {m' : Str → Option Value} {C : Bool → List (Str × Tok) → Nat → Nat → List (Addr × Obj)} {seen : Bool} {pt : Str} (_F : Fr h₀ L h m')
    (h1 : wpAny M A t (FlMid h₀ L s m' C seen pt) E s9) (h2 : ∀ fl s', FlMid h₀ L s m' C seen pt fl s' → Q fl s') : wpAny M A t Q E s9 := wpAny_mono h1 h2 fun _ _ x => x
set_option maxHeartbeats 4000000 in
theorem start_c (w : World) (dp un : Nat) (gd : Option (List Code)) (cn : Str) (cs : Scope) (a : Addr) (ccd : Value) (cl : List (Str × Addr)) (outer : List Env) (A₀ : Around) (base h₀ : Heap) (L : Addr) (m mg mb : Str → Option Value) (mean : ExcName → Option Value) (s : Shared) (Q E : Value → Shared → Prop)
    (rest : List (Addr × Obj)) (tkW : Nat → Tok) (ea et : Nat) (t0 : Tok) (wd wr q pc dl nsd ns pm ps : Nat) (seen done : Bool) (pcs : List (Str × Tok)) (nsds nss pss : List Value) (tb : Array Value) (e0 e1 e2 e3 e4 e5 : Nat) (x : Str) (tx : Tok) (at_ : Nat) (oA : Obj) (kvs so : List (Str × Tok)) (v ev : Str) (pend : Bool) (td : Tok) (oT oE : Obj) (ST SE : Str → Bool) (kv0 : List (Str × Value))
    (B : Below A₀ base outer h₀) (F : Fr h₀ L s.heap m) (X : (hd2.heap_39 w.params).In h₀) (T : Top topProg lo3 mean mg mb h₀)
    (hk : cs.kind = .function) (hd : dp + 60 < recursionLimit) (hu : un + 900 < cLine)
    (N : News h₀ L s.heap (wCells w.params tkW ⟨ea, et, 0, t0⟩ wd wr q pc dl nsd ns pm ps seen done pcs (penW pend td) nsds nss (pss ++ [Value.bool false]) tb e0 e1 e2 e3 e4 e5 ((at_, oA) :: rest)))
    (ho : WOrd wd wr q pc dl nsd ns pm ps) (hr : WOff wd pc dl nsd ns ps ((at_, oA) :: rest)) (hpc : pcs.length ≤ 990)
    (hn : NsOk nsds rest) (hb : AllBare s.gens) (hnm : ∀ n ∈ x :: kvs.map (·.1), NameOk n) (hxk : x ∉ kvs.map (·.1)) (hk6 : kvs.length ≤ 6) (hkv : kvs ≠ []) (hav : AttrV v ev) (hstA : ∀ (at_ : Nat) oA, oA.IsDictOf (PySem.strKind P3 w) (atKv v kvs) → (at_ == sysModules) = false → StarOf w at_ oA (atKv v kvs) x) (hlo : LSortOf w (atKv v kvs) (atKv v so)) (hso : so.Perm kvs)
    (d0 : oA.IsDictOf (PySem.strKind P3 w) kv0) (hkv0 : kv0 ≠ []) (hkvl : kv0.length ≤ 10) (hkf : fkeep (fun k => !SE k) kv0 = atKv v kvs) (hea : (ea, oE) ∈ rest) (hSE : oE.SetObjOf (PySem.strKind P3 w) SE 1) (het : (et, oT) ∈ rest) (hST : oT.SetObjOf (PySem.strKind P3 w) ST 1) (hx9 : ST x = false)
    (d3 : (at_ == sysModules) = false) (d4 : ps < at_) (hps : pss.length < 999) (hns : nss.length < 1000) (hnd : nsds.length < 1000) (hC : CodeHd h₀ 132 130) (htb : TabSt lamPos lamQ tb rest)
    (hQ : ∀ (nn l' : Nat) (rest' : List (Addr × Obj)) (new : List (Str × Tok)) tb' f1 f2 f3 f4 f5 h' tk' gens' d', Fr h₀ L h' m → News h₀ L h' (wCells w.params tkW ⟨ea, et, 0, t0⟩ wd wr q pc dl nsd ns pm ps true done (pcs ++ new) [] (nsds ++ [Value.ref nn]) (nss ++ [Value.ref l']) (pss ++ [Value.bool false] ++ [Value.bool false]) tb' e0 f1 f2 f3 f4 f5 rest') → WOff wd pc dl nsd ns ps rest' → TabSt lamPos lamQ tb' rest' → NsOk (nsds ++ [Value.ref nn]) rest' → (∀ p ∈ rest, p ∈ rest') → AllBare gens' → catS (new.map (·.1)) = begA x so ev → new.length ≤ 3 → Q .none { s with heap := h', toks := tk', gens := gens', drawn := d' }) :
    wpAny (model P3 w) (ktrTop dp un gd cn cs L a ccd cl outer) (call (.ref 127) [.ref wr, .str x tx, .ref at_]) Q E s := by
  have hr0 := hr
  obtain ⟨r1, r2, r3, r4, r5, r6, r7⟩ := hr
  dsimp only [wCells] at N
  refine wpAny_call ?_
  k_dflt k_enter
  refine hideTok fun tkZ => ?_
  obtain ⟨n0, n2, tp, t1, t2, g1, g2, g3, g4⟩ := id hn
  repeat ((fail_if_success (with_reducible show wpAny _ _ (truthy (.int _ _)) _ _ _)); (first | (k_unfold; (try dsimp only)) | walk1 | (dsimp only; walk1) | (leave1; try dsimp only)))
  iterate 1 walk1
  refine occ_neg (fun h => Bool.noConfusion (show false = true from h)) ?_
  repeat ((fail_if_success (with_reducible show wpAny _ _ (execs (.If (.Attribute _ _ _) _ _ _ :: _) _) _ _ _)); (first | (k_unfold; (try dsimp only)) | walk1 | (dsimp only; walk1) | (leave1; try dsimp only)))
  dsimp only
  repeat ((fail_if_success (with_reducible show wpAny _ _ (exec (.If (.Attribute _ _ _) _ _ _) _) _ _ _)); (first | (k_unfold; (try dsimp only)) | walk1 | (dsimp only; walk1) | (leave1; try dsimp only)))
  rename (Fr _ _ _ _) => F5
  rename (News _ _ _ _) => N5
  refine fl_mid (s := s) (C := (fun (se : Bool) (new : List (Str × Tok)) (f1 f2 : Nat) => wCells w.params tkW ⟨ea, et, 0, t0⟩ wd wr q pc dl nsd ns pm ps seen done pcs [] nsds nss (pss ++ [Value.bool false]) tb e0 e1 f2 e3 e4 e5 ((at_, oA) :: rest))) (seen := true) (pt := Str.ofString "") F5 ?cif (fun fl s6 hM => ?tail)
  case cif =>
    cases pend with
    | false =>
      rw [show penW false td = [] from rfl] at N5
      repeat (first | (k_unfold; (try dsimp only)) | walk1 | (dsimp only; walk1) | (leave1; try dsimp only))
      exact FlMid.mk _ _ true [] 0 _ (by assumption) (by assumption) id rfl (Nat.zero_le _)
    | true =>
      rw [show penW true td = [(Str.ofString " \n", td)] from rfl] at N5
      repeat ((fail_if_success (with_reducible show wpAny _ _ (call (Value.ref 113) _) _ _ _)); (first | (k_unfold; (try dsimp only)) | walk1 | (dsimp only; walk1) | (leave1; try dsimp only)))
      show wpAny _ _ (call (Value.ref 113) [Value.ref wr]) _ _ _
      refine' flush_c _ _ _ _ _ _ _ _ _ _ _ _ _ _ _ _ _ _ _ _ _ ((at_, oA) :: rest) _ _ wd wr q pc dl nsd ns pm ps seen done pcs [] nsds nss pss tb _ _ _ _ _ _ td ?vB ?vF ?vX ?vT ?vk ?vd ?vu ?vN ho hr0 (by walk_at "AR") (by walk_at "AR") ?vQ
      case vB => k_asm
      case vF => k_asm
      case vX => k_in
      case vT => k_asm
      case vk => exact rfl
      case vd => ktr_room
      case vu => ktr_units
      case vN =>
        dsimp only [wCells]
        k_asm
      case vQ =>
        intro h7 tk7 f2' F7 N7
        repeat (first | (k_unfold; (try dsimp only)) | walk1 | (dsimp only; walk1) | (leave1; try dsimp only))
        exact FlMid.mk _ _ true [] 0 _ (by assumption) N7 id rfl (Nat.zero_le _)
  case tail =>
  obtain ⟨h6, tk6, se6, new0, f1, f2, F6, N6, hs6, hc6, hl6⟩ := hM
  dsimp only [wCells] at N6
  clear N5 F5
  have N7 := N6
  clear N6
  repeat ((fail_if_success (with_reducible show wpAny _ _ (call (Value.ref 133) _) _ _ _)); (first | (k_unfold; (try dsimp only)) | walk1 | (dsimp only; walk1) | (leave1; try dsimp only)))
  rename (News _ _ _ ((_, listOf #[] 0) :: _)) => N9
  rw [push_list] at N9
  refine' start_g _ _ _ _ _ _ _ _ _ _ _ _ _ _ _ _ _ _ _ _ _ rest tkW ⟨ea, et, 0, t0⟩ wd wr q pc dl nsd ns pm ps seen done pcs [] (nsds ++ [Value.ref _]) nss pss tb _ _ _ _ _ _ x tx at_ _ oA n0 n2 0 tp t1 t2 kvs so v ev ?uB ?uF ?uX ?uT ?uk ?ud ?uu ?uN ho ?hr ?hpc ?g1 g2 g3 ?g4 ?hb hnm hxk hk6 hkv hav hstA hlo hso kv0 oE SE d0 hkv0 hkvl hkf hea hSE d3 d4 ?d5 (by walk_at "AR") hns ?hC htb ?hQ
  case uB => k_asm
  case uF => k_asm
  case uX => k_in
  case uT => k_asm
  case uk => exact rfl
  case ud => ktr_room
  case uu => ktr_units
  case uN =>
    have N8 := news_behind N9
    dsimp only [wCells]
    exact N8
  case hr => exact wOff_cons hr0 (by k_ne) (by k_ne) (by k_ne) (by k_ne) (by k_ne) (by k_ne) (by k_ne)
  case hpc => walk_at "AR"
  case g1 =>
    rw [List.getElem?_append_left (List.getElem?_eq_some_iff.mp g1).1]
    exact g1
  case g4 => exact NsOk.push4 g4 (fun e => by rw [e] at g1; cases g1)
  case hb => exact hb
  case d5 => exact lt_in (by assumption) (by repeat (first | with_reducible exact InA.head | with_reducible refine InA.tail ?_))
  case hC => exact CodeHd.keeps hC (Fr.keep (by assumption))
  case hQ =>
  intro l' rest' t1' t2' t3' tb' f1 f4 f5 h8 tk8 gens8 d8 F8 N8 W8 T8 m1 m2 s8 b8
  repeat (first | (k_unfold; (try dsimp only)) | walk1 | (dsimp only; walk1) | (leave1; try dsimp only))
  rename (News h₀ L _ _) => N10
  rw [app_two, List.append_assoc pcs, List.append_assoc pcs] at N10
  refine hQ _ l' rest' _ tb' _ _ _ _ _ _ _ _ _ (by assumption) N10 W8 T8 (NsOk.push (hn.mono s8) m2) s8 b8 ?_ ?_
  · exact beg_cat
  · have h9 : (atPcs so ev t3').length ≤ 1 := atPcs_len
    simp only [List.length_append, List.length_singleton, List.length_cons, List.length_nil]
    walk_at "AR"
end
theorem topOff8 : True := by
  w_top off
  trivial
section
local macro_rules | `(tactic| walk_at "ZZ") => `(tactic| skip)
open PySem PySem.W PyProof.Rows PySem.Calls PySem.Spec
noncomputable def endA (x : Str) : Str := Str.ofString "</" ++ x ++ Str.ofString ">"
set_option maxHeartbeats 4000000 in
theorem end_c (w : World) (dp un : Nat) (gd : Option (List Code)) (cn : Str) (cs : Scope) (a : Addr) (ccd : Value) (cl : List (Str × Addr)) (outer : List Env) (A₀ : Around) (base h₀ : Heap) (L : Addr) (m mg mb : Str → Option Value) (mean : ExcName → Option Value) (s : Shared) (Q E : Value → Shared → Prop)
    (rest : List (Addr × Obj)) (tkW : Nat → Tok) (ea et : Nat) (t0 : Tok) (wd wr q pc dl nsd ns pm ps : Nat) (seen done : Bool) (pcs : List (Str × Tok)) (nsds nss pss : List Value) (tb : Array Value) (e0 e1 e2 e3 e4 e5 : Nat) (pend : Bool) (td : Tok) (x : Str) (tx : Tok) (nn l2 : Nat)
    (B : Below A₀ base outer h₀) (F : Fr h₀ L s.heap m) (X : (hd2.heap_39 w.params).In h₀) (T : Top topProg lo3 mean mg mb h₀)
    (hk : cs.kind = .function) (hd : dp + 60 < recursionLimit) (hu : un + 900 < cLine)
    (N : News h₀ L s.heap (wCells w.params tkW ⟨ea, et, 0, t0⟩ wd wr q pc dl nsd ns pm ps true done pcs (penW pend td) (nsds ++ [Value.ref nn]) (nss ++ [Value.ref l2]) (pss ++ [Value.bool false]) tb e0 e1 e2 e3 e4 e5 rest))
    (ho : WOrd wd wr q pc dl nsd ns pm ps) (hr : WOff wd pc dl nsd ns ps rest) (hpc : pcs.length ≤ 990)
    (hn : NsOk (nsds ++ [Value.ref nn]) rest) (hb : AllBare s.gens) (hx : ¬ ((Txt.slice x none (some 1) == Str.ofString "{") = true)) (hl : x.length ≤ 1024) (hps : pss.length < 999) (hns : nss.length < 1000) (hnd : nsds.length < 1000) (hC : CodeHd h₀ 132 130)
    (hQ : ∀ (done' : Bool) (new : List (Str × Tok)) f1 f2 f3 f4 f5 h' tk' gens', Fr h₀ L h' m → News h₀ L h' (wCells w.params tkW ⟨ea, et, 0, t0⟩ wd wr q pc dl nsd ns pm ps true done' (pcs ++ new) [] nsds nss pss tb e0 f1 f2 f3 f4 f5 rest) → AllBare gens' → catS (new.map (·.1)) = endA x → new.length ≤ 1 → Q .none { s with heap := h', toks := tk', gens := gens' }) :
    wpAny (model P3 w) (ktrTop dp un gd cn cs L a ccd cl outer) (call (.ref 140) [.ref wr, .str x tx]) Q E s := by
  have hr0 := hr
  have hall : ∀ t, catS ([(Str.empty ++ Str.ofString "</" ++ x ++ Str.ofString ">", t)].map (fun p : Str × Tok => p.1)) = endA x := fun t => by
    simp only [List.map, catS, app_nil']
    exact congrArg (· ++ x ++ Str.ofString ">") (nil_app' _)
  obtain ⟨r1, r2, r3, r4, r5, r6, r7⟩ := hr
  dsimp only [wCells] at N
  refine wpAny_call ?_
  k_dflt k_enter
  refine hideTok fun tkZ => ?_
  obtain ⟨n0, nz2, tp, t1, t2, g1, g2, g3, g4⟩ := id hn
  repeat ((fail_if_success (with_reducible show wpAny _ _ (truthy (.int _ _)) _ _ _)); (first | (k_unfold; (try dsimp only)) | walk1 | (dsimp only; walk1) | (leave1; try dsimp only)))
  iterate 1 walk1
  refine occ_neg (fun h => Bool.noConfusion (show false = true from h)) ?_
  repeat ((fail_if_success (with_reducible show wpAny _ _ (execs (.If (.Attribute _ _ _) _ _ _ :: _) _) _ _ _)); (first | (k_unfold; (try dsimp only)) | walk1 | (dsimp only; walk1) | (leave1; try dsimp only)))
  dsimp only
  repeat ((fail_if_success (with_reducible show wpAny _ _ (exec (.If (.Attribute _ _ _) _ _ _) _) _ _ _)); (first | (k_unfold; (try dsimp only)) | walk1 | (dsimp only; walk1) | (leave1; try dsimp only)))
  rename (Fr _ _ _ _) => F5
  rename (News _ _ _ _) => N5
  refine fl_mid (s := s) (C := (fun (se : Bool) (new : List (Str × Tok)) (f1 f2 : Nat) => wCells w.params tkW ⟨ea, et, 0, t0⟩ wd wr q pc dl nsd ns pm ps true done pcs [] (nsds ++ [Value.ref nn]) (nss ++ [Value.ref l2]) (pss ++ [Value.bool false]) tb e0 e1 f2 e3 e4 e5 rest)) (seen := true) (pt := Str.ofString "") F5 ?cif (fun fl s6 hM => ?tail)
  case cif =>
    cases pend with
    | false =>
      rw [show penW false td = [] from rfl] at N5
      repeat (first | (k_unfold; (try dsimp only)) | walk1 | (dsimp only; walk1) | (leave1; try dsimp only))
      exact FlMid.mk _ _ true [] 0 _ (by assumption) (by assumption) id rfl (Nat.zero_le _)
    | true =>
      rw [show penW true td = [(Str.ofString " \n", td)] from rfl] at N5
      repeat ((fail_if_success (with_reducible show wpAny _ _ (call (Value.ref 113) _) _ _ _)); (first | (k_unfold; (try dsimp only)) | walk1 | (dsimp only; walk1) | (leave1; try dsimp only)))
      show wpAny _ _ (call (Value.ref 113) [Value.ref wr]) _ _ _
      refine' flush_c _ _ _ _ _ _ _ _ _ _ _ _ _ _ _ _ _ _ _ _ _ rest _ _ wd wr q pc dl nsd ns pm ps true done pcs [] (nsds ++ [Value.ref nn]) (nss ++ [Value.ref l2]) pss tb _ _ _ _ _ _ td ?vB ?vF ?vX ?vT ?vk ?vd ?vu ?vN ho hr0 (by walk_at "AR") (by walk_at "AR") ?vQ
      case vB => k_asm
      case vF => k_asm
      case vX => k_in
      case vT => k_asm
      case vk => exact rfl
      case vd => ktr_room
      case vu => ktr_units
      case vN =>
        dsimp only [wCells]
        k_asm
      case vQ =>
        intro h7 tk7 f2' F7 N7
        repeat (first | (k_unfold; (try dsimp only)) | walk1 | (dsimp only; walk1) | (leave1; try dsimp only))
        exact FlMid.mk _ _ true [] 0 _ (by assumption) N7 id rfl (Nat.zero_le _)
  case tail =>
  obtain ⟨h6, tk6, se6, new0, f1, f2, F6, N6, hs6, hc6, hl6⟩ := hM
  dsimp only [wCells] at N6
  clear N5 F5
  have N7 := N6
  clear N6
  repeat ((fail_if_success (with_reducible show wpAny _ _ (call (Value.ref 97) _) _ _ _)); (first | (k_unfold; (try dsimp only)) | walk1 | (dsimp only; walk1) | (leave1; try dsimp only)))
  refine' qname_c _ _ _ _ _ _ _ _ _ _ _ _ _ _ _ _ _ _ _ _ _ _ wr wd nsd n0 tp _ _ _ _ _ _ _ t1 t2 tx _ _ _ _ _ _ x ?uB ?uF ?uX ?uT ?uk ?ud ?uu ?uN ?w1 ?w2 ?w3 ?h0 ?w4 ?w5 ?w6 ?hb hx hl ?hQ
  case uB => k_asm
  case uF => k_asm
  case uX => k_in
  case uT => k_asm
  case uk => exact rfl
  case ud => ktr_room
  case uu => ktr_units
  case uN => k_asm
  case w1 => k_mem
  case w2 => k_mem
  case w3 => k_mem
  case h0 => simpa using g1
  case w4 =>
    have hp' : List.Mem _ rest := g2
    repeat (first | with_reducible exact hp' | apply List.Mem.tail)
  case w5 =>
    have hp' : List.Mem _ rest := g3
    repeat (first | with_reducible exact hp' | apply List.Mem.tail)
  case w6 =>
    intro k v hk hv
    obtain ⟨e, n, he, hm⟩ := g4 k v hk (by simpa using hv)
    refine ⟨e, n, he, ?_⟩
    have hp' : List.Mem _ rest := hm
    repeat (first | with_reducible exact hp' | apply List.Mem.tail)
  case hb => exact hb
  case hQ =>
  intro R5 u1 u2 u3 h5 tk5 gens5 F5 N5 l5 hbg
  repeat (first | (k_unfold; (try dsimp only)) | walk1 | (dsimp only; walk1) | (leave1; try dsimp only))
  rename (News h₀ L _ _) => N9
  rw [strValues_push] at N9
  exact hQ _ _ _ _ _ _ _ _ _ _ (by assumption) (newsSub N9 fun p hp => .tail _ hp) hbg (hall _) (Nat.le_refl _)
end
theorem topOff9 : True := by
  w_top off
  trivial
section
local macro_rules | `(tactic| walk_at "ZZ") => `(tactic| skip)
open PySem PySem.W PyProof.Rows PySem.Calls PySem.Spec
local macro_rules | `(tactic| size_fits) => mqT "(first decide (seq (simp1 sizeLine_eq) (at AR0)))"
local macro_rules | `(tactic| walk_at "setAttr ref") => mqT "(line HPS - (seq (rule set_dict aaaIfiiii01ub. - k_get k_put) k_whole))"

set_option maxHeartbeats 8000000 in
theorem init_c (w : World) (dp un : Nat) (gd : Option (List Code)) (cn : Str) (cs : Scope) (a : Addr) (ccd : Value) (cl : List (Str × Addr)) (outer : List Env) (A₀ : Around) (base h₀ : Heap) (L : Addr) (m mg mb : Str → Option Value) (mean : ExcName → Option Value) (s : Shared) (Q E : Value → Shared → Prop)
    (rest : List (Addr × Obj)) (pc q la lb : Nat) (e1 : Nat) (tb : Array Value) (tx ty : Tok)
    (B : Below A₀ base outer h₀) (F : Fr h₀ L s.heap m) (X : (hd2.heap_39 w.params).In h₀) (T : Top topProg lo3 mean mg mb h₀)
    (hk : cs.kind = .function) (hd : dp + 40 < recursionLimit) (hu : un + 600 < cLine)
    (N : News h₀ L s.heap ((lb, listOf (strValues [(Str.ofString "m", ty)]).toArray 0) :: (la, listOf (strValues [(Str.ofString "x", tx)]).toArray 0) :: (q, bfmObj "list.append" (.ref pc)) :: (pc, listOf #[] e1) :: (130, tabObj tb) :: rest))
    (hq : 130 < pc ∧ pc < q ∧ q < la ∧ la < lb) (r1 : ∀ p ∈ rest, p.1 ≠ 130) (r2 : ∀ p ∈ rest, p.1 ≠ pc)
    (hQ : ∀ (wd wr ea et dl nsd ns pm ps : Nat) (oE oT : Obj) (rest' : List (Addr × Obj)) tk t0 nsds nss e0 e1 e2 e3 e4 e5 h' tk', Fr h₀ L h' m → News h₀ L h' (wCells w.params tk ⟨ea, et, 0, t0⟩ wd wr q pc dl nsd ns pm ps false false [] [] nsds nss [Value.bool false] tb e0 e1 e2 e3 e4 e5 rest') → WOrd wd wr q pc dl nsd ns pm ps → WOff wd pc dl nsd ns ps rest' → NsOk nsds rest' → nsds.length = 1 → nss.length = 2 → (∀ p ∈ rest, p ∈ rest') → (ea, oE) ∈ rest' → (et, oT) ∈ rest' → oE.SetObjOf (PySem.strKind P3 w) (fun k => decide (k = Str.ofString "m")) 1 → oT.SetObjOf (PySem.strKind P3 w) (fun k => decide (k = Str.ofString "x")) 1 → Q (.ref wr) { s with heap := h', toks := tk' }) :
    wpAny (model P3 w) (ktrTop dp un gd cn cs L a ccd cl outer) (call (.ref 157) [.ref q] [(Str.ofString "strip_text", .bool true), (Str.ofString "exclude_tags", .ref la), (Str.ofString "exclude_attrs", .ref lb)]) Q E s := by
  obtain ⟨hq1, hq2, hq3, hq4⟩ := hq
  obtain ⟨rest0, hr0, N, hla, hlb⟩ : ∃ r : List (Addr × Obj), r = (lb, listOf (strValues [(Str.ofString "m", ty)]).toArray 0) :: (la, listOf (strValues [(Str.ofString "x", tx)]).toArray 0) :: (q, bfmObj "list.append" (.ref pc)) :: (pc, listOf #[] e1) :: (130, tabObj tb) :: rest ∧ News h₀ L s.heap r ∧ (la, W.listOf (strValues [(Str.ofString "x", tx)]).toArray 0) ∈ r ∧ (lb, W.listOf (strValues [(Str.ofString "m", ty)]).toArray 0) ∈ r := ⟨_, rfl, N, .tail _ (.head _), .head _⟩
  iterate 1 (first | (k_unfold; (try dsimp only)) | walk1 | (dsimp only; walk1) | (leave1; try dsimp only))
  rename (Fr _ _ _ _) => F0
  obtain ⟨m9, hm9, F1⟩ : ∃ m', m' = _ ∧ Fr _ _ _ m' := ⟨_, rfl, F0⟩
  obtain ⟨v9, hv9, i_self⟩ : ∃ v, v = Value.ref _ ∧ m9 (Str.ofString "self") = some v := ⟨_, rfl, by rw [hm9]; exact rfl⟩
  subst hv9
  have i_write : m9 (Str.ofString "write") = some (.ref q) := by rw [hm9]; exact rfl
  have i_with_comments : m9 (Str.ofString "with_comments") = some (.bool false) := by rw [hm9]; exact rfl
  have i_strip_text : m9 (Str.ofString "strip_text") = some (.bool true) := by rw [hm9]; exact rfl
  have i_rewrite_prefixes : m9 (Str.ofString "rewrite_prefixes") = some (.bool false) := by rw [hm9]; exact rfl
  have i_qname_aware_tags : m9 (Str.ofString "qname_aware_tags") = some (.none) := by rw [hm9]; exact rfl
  have i_qname_aware_attrs : m9 (Str.ofString "qname_aware_attrs") = some (.none) := by rw [hm9]; exact rfl
  have i_exclude_attrs : m9 (Str.ofString "exclude_attrs") = some (.ref lb) := by rw [hm9]; exact rfl
  have i_exclude_tags : m9 (Str.ofString "exclude_tags") = some (.ref la) := by rw [hm9]; exact rfl
  clear hm9 F0
  refine hideTok fun tkZ => ?_
  repeat ((fail_if_success (with_reducible show wpAny _ _ (call (Value.type "set") _) _ _ _)); (first | (k_unfold; (try dsimp only)) | walk1 | (dsimp only; walk1) | (leave1; try dsimp only)))
  ((with_reducible show wpAny _ _ (call (Value.type "set") [Value.ref _]) _ _ _); k_dflt (refine' set_one ?F ?N ?hh ?hm ?_; (case F => k_asm); (case N => k_asm); (case hh => exact rfl); (case hm => k_mem)); intro ea h' tk' oE F' N' l1 hE; (try k_lt l1))
  repeat ((fail_if_success (with_reducible show wpAny _ _ (call (Value.type "set") _) _ _ _)); (first | (k_unfold; (try dsimp only)) | walk1 | (dsimp only; walk1) | (leave1; try dsimp only)))
  ((with_reducible show wpAny _ _ (call (Value.type "set") [Value.ref _]) _ _ _); k_dflt (refine' set_one ?F ?N ?hh ?hm ?_; (case F => k_asm); (case N => k_asm); (case hh => exact rfl); (case hm => k_mem)); intro et h' tk' oT F' N' l1 hT; (try k_lt l1))
  repeat ((fail_if_success (with_reducible show wpAny _ _ (getMethod (Value.ref 51) _ _) _ _ _)); (first | (k_unfold; (try dsimp only)) | walk1 | (dsimp only; walk1) | (leave1; try dsimp only)))
  ((with_reducible show wpAny _ _ (getMethod (Value.ref 51) _ _) _ _ _); k_dflt (refine' ns_method ?nF ?nX ?_; (case nF => k_asm); (case nX => k_asm)))
  iterate 1 (first | (k_unfold; (try dsimp only)) | walk1 | (dsimp only; walk1) | (leave1; try dsimp only))
  ((with_reducible show wpAny _ _ (call (Value.builtin "dict.items") [Value.ref 51]) _ _ _); k_dflt (refine' ns_view ?nF ?nN ?nX ?_; (case nF => k_asm); (case nN => k_asm); (case nX => k_asm)); intro D' h' F' N' l1; (try k_lt l1))
  iterate 1 (first | (k_unfold; (try dsimp only)) | walk1 | (dsimp only; walk1) | (leave1; try dsimp only))
  ((with_reducible show wpAny _ _ (call (Value.type "list") [Value.ref _]) _ _ _); k_dflt (refine' ns_list ?nh ?nF ?nX ?nN ?_; (case nh => exact rfl); (case nF => k_asm); (case nX => k_asm); (case nN => k_asm)); intro B' h' tk' F' N' l1 l2; (try k_lt l1))
  repeat (first | (k_unfold; (try dsimp only)) | walk1 | (dsimp only; walk1) | (leave1; try dsimp only))
  rename (News _ _ _ _) => N9
  (try dsimp only at N9)
  rename (∀ p : Addr × Obj, p ∈ rest0 → p.1 < _) => l0
  have hlb9 : @LT.lt Nat _ lb _ := l0 _ hlb
  have l0r : ∀ p ∈ rest, @LT.lt Nat _ p.1 _ := fun p hp => l0 p (by rw [hr0]; exact .tail _ (.tail _ (.tail _ (.tail _ (.tail _ hp)))))
  rw [hr0] at N9
  obtain ⟨rest9, tk9, N9x, o9, W9, n9, s9, mE, mT⟩ := fin_init N9 l0r r1 r2 (by
    refine pw_cons ?_ (pw_cons ?_ (pw_cons ?_ (pw_cons ?_ (pw_cons ?_ (pw_cons ?_ (pw_cons ?_ (pw_cons ?_ (pw_cons ?_ (pw_cons ?_ (pw_cons ?_ (pw_cons ?_ (pw_cons ?_ (pw_cons ?_ (pw_cons ?_ (pw_cons ?_ (List.pairwise_singleton _ _))))))))))))))))
    all_goals (walk_at "LT"))
  exact hQ _ _ _ _ _ _ _ _ _ _ _ rest9 tk9 _ _ _ _ _ _ _ _ _ _ _ (by assumption) N9x o9 W9 n9 rfl rfl s9 mE mT hE hT
end
theorem topOff10 : True := by
  w_top off
  trivial
section
open PySem PySem.W PyProof.Rows PySem.Calls PySem.Spec
set_option maxHeartbeats 2000000 in
theorem start_i0 (w : World) (dp un : Nat) (gd : Option (List Code)) (cn : Str) (cs : Scope) (a : Addr) (ccd : Value) (cl : List (Str × Addr)) (outer : List Env) (A₀ : Around) (base h₀ : Heap) (L : Addr) (m mg mb : Str → Option Value) (mean : ExcName → Option Value) (s : Shared) (Q E : Value → Shared → Prop)
    (rest : List (Addr × Obj)) (tkW : Nat → Tok) (ea et : Nat) (t0 : Tok) (wd wr q pc dl nsd ns pm ps : Nat) (seen done : Bool) (pcs dts : List (Str × Tok)) (nsds nss pss : List Value) (tb : Array Value) (e0 e1 e2 e3 e4 e5 : Nat) (tg : Str) (td : Tok) (at_ : Nat) (oT : Obj) (ST : Str → Bool) (nT : Nat)
    (B : Below A₀ base outer h₀) (F : Fr h₀ L s.heap m) (X : (hd2.heap_39 w.params).In h₀) (T : Top topProg lo3 mean mg mb h₀)
    (hk : cs.kind = .function) (hd : dp + 20 < recursionLimit) (hu : un + 200 < cLine)
    (N : News h₀ L s.heap (wCells w.params tkW ⟨ea, et, 0, t0⟩ wd wr q pc dl nsd ns pm ps seen done pcs dts nsds nss pss tb e0 e1 e2 e3 e4 e5 rest))
    (ho : WOrd wd wr q pc dl nsd ns pm ps) (hr : WOff wd pc dl nsd ns ps rest) (hpc : pcs.length ≤ 1000) (hmT : (et, oT) ∈ rest) (hST : oT.SetObjOf (PySem.strKind P3 w) ST 1) (hx9 : ST tg = true)
    (hQ : ∀ t1 h' tk', Fr h₀ L h' m → News h₀ L h' (wCells w.params tkW ⟨ea, et, 1, t1⟩ wd wr q pc dl nsd ns pm ps seen done pcs dts nsds nss pss tb e0 e1 e2 e3 e4 e5 rest) → Q .none { s with heap := h', toks := tk' }) :
    wpAny (model P3 w) (ktrTop dp un gd cn cs L a ccd cl outer) (call (.ref 127) [.ref wr, .str tg td, .ref at_]) Q E s := by
  obtain ⟨r1, r2, r3, r4, r5, r6, r7⟩ := hr
  dsimp only [wCells] at N
  refine wpAny_call ?_
  k_dflt k_enter
  refine hideTok fun tkZ => ?_
  repeat (first | (k_unfold; (try dsimp only)) | walk1 | (dsimp only; walk1) | (leave1; try dsimp only))
  all_goals try first
    | (rename (XW.ig _ = 0) => h9; exfalso; revert h9; dsimp only; decide)
    | (rename (XW.ig _ ≠ 0) => h9; exact absurd rfl h9)
  repeat (first | (k_unfold; (try dsimp only)) | walk1 | (dsimp only; walk1) | (leave1; try dsimp only))
  clear N; rename (News _ _ _ _) => N9
  exact hQ _ _ _ (by assumption) N9

set_option maxHeartbeats 2000000 in
theorem start_i1 (w : World) (dp un : Nat) (gd : Option (List Code)) (cn : Str) (cs : Scope) (a : Addr) (ccd : Value) (cl : List (Str × Addr)) (outer : List Env) (A₀ : Around) (base h₀ : Heap) (L : Addr) (m mg mb : Str → Option Value) (mean : ExcName → Option Value) (s : Shared) (Q E : Value → Shared → Prop)
    (rest : List (Addr × Obj)) (tkW : Nat → Tok) (ea et : Nat) (t0 : Tok) (wd wr q pc dl nsd ns pm ps : Nat) (seen done : Bool) (pcs dts : List (Str × Tok)) (nsds nss pss : List Value) (tb : Array Value) (e0 e1 e2 e3 e4 e5 : Nat) (tg : Str) (td : Tok) (at_ : Nat)
    (B : Below A₀ base outer h₀) (F : Fr h₀ L s.heap m) (X : (hd2.heap_39 w.params).In h₀) (T : Top topProg lo3 mean mg mb h₀)
    (hk : cs.kind = .function) (hd : dp + 20 < recursionLimit) (hu : un + 200 < cLine)
    (N : News h₀ L s.heap (wCells w.params tkW ⟨ea, et, 1, t0⟩ wd wr q pc dl nsd ns pm ps seen done pcs dts nsds nss pss tb e0 e1 e2 e3 e4 e5 rest))
    (ho : WOrd wd wr q pc dl nsd ns pm ps) (hr : WOff wd pc dl nsd ns ps rest) (hpc : pcs.length ≤ 1000)
    (hQ : ∀ t1 h' tk', Fr h₀ L h' m → News h₀ L h' (wCells w.params tkW ⟨ea, et, 2, t1⟩ wd wr q pc dl nsd ns pm ps seen done pcs dts nsds nss pss tb e0 e1 e2 e3 e4 e5 rest) → Q .none { s with heap := h', toks := tk' }) :
    wpAny (model P3 w) (ktrTop dp un gd cn cs L a ccd cl outer) (call (.ref 127) [.ref wr, .str tg td, .ref at_]) Q E s := by
  obtain ⟨r1, r2, r3, r4, r5, r6, r7⟩ := hr
  dsimp only [wCells] at N
  refine wpAny_call ?_
  k_dflt k_enter
  refine hideTok fun tkZ => ?_
  repeat (first | (k_unfold; (try dsimp only)) | walk1 | (dsimp only; walk1) | (leave1; try dsimp only))
  all_goals try first
    | (rename (XW.ig _ = 0) => h9; exfalso; revert h9; dsimp only; decide)
    | (rename (XW.ig _ ≠ 0) => h9; exact absurd rfl h9)
  repeat (first | (k_unfold; (try dsimp only)) | walk1 | (dsimp only; walk1) | (leave1; try dsimp only))
  clear N; rename (News _ _ _ _) => N9
  exact hQ _ _ _ (by assumption) N9
end
theorem topOff11 : True := by
  w_top off
  trivial
section
local macro_rules | `(tactic| walk_at "ZZ") => `(tactic| skip)
open PySem PySem.W PyProof.Rows PySem.Calls PySem.Spec
set_option maxHeartbeats 2000000 in
theorem data_c (w : World) (dp un : Nat) (gd : Option (List Code)) (cn : Str) (cs : Scope) (a : Addr) (ccd : Value) (cl : List (Str × Addr)) (outer : List Env) (A₀ : Around) (base h₀ : Heap) (L : Addr) (m mg mb : Str → Option Value) (mean : ExcName → Option Value) (s : Shared) (Q E : Value → Shared → Prop)
    (rest : List (Addr × Obj)) (tkW : Nat → Tok) (ea et : Nat) (ig : Int) (t0 : Tok) (wd wr q pc dl nsd ns pm ps : Nat) (seen done : Bool) (pcs dts : List (Str × Tok)) (nsds nss pss : List Value) (tb : Array Value) (e0 e1 e2 e3 e4 e5 : Nat) (d : Str) (td : Tok)
    (B : Below A₀ base outer h₀) (F : Fr h₀ L s.heap m) (X : (hd2.heap_39 w.params).In h₀) (T : Top topProg lo3 mean mg mb h₀)
    (hk : cs.kind = .function) (hd : dp + 20 < recursionLimit) (hu : un + 200 < cLine)
    (N : News h₀ L s.heap (wCells w.params tkW ⟨ea, et, 0, t0⟩ wd wr q pc dl nsd ns pm ps seen done pcs [] nsds nss pss tb e0 e1 e2 e3 e4 e5 rest))
    (ho : WOrd wd wr q pc dl nsd ns pm ps) (hr : WOff wd pc dl nsd ns ps rest) (hpc : pcs.length ≤ 1000)
    (hQ : ∀ f2 h' tk', Fr h₀ L h' m → News h₀ L h' (wCells w.params tkW ⟨ea, et, 0, t0⟩ wd wr q pc dl nsd ns pm ps seen done pcs [(d, td)] nsds nss pss tb e0 e1 f2 e3 e4 e5 rest) → Q .none { s with heap := h', toks := tk' }) :
    wpAny (model P3 w) (ktrTop dp un gd cn cs L a ccd cl outer) (call (.ref 104) [.ref wr, .str d td]) Q E s := by
  obtain ⟨r1, r2, r3, r4, r5, r6, r7⟩ := hr
  dsimp only [wCells] at N
  refine wpAny_call ?_
  k_dflt k_enter
  refine hideTok fun tkZ => ?_
  repeat (first | (k_unfold; (try dsimp only)) | walk1 | (dsimp only; walk1) | (leave1; try dsimp only))
  all_goals try first
    | (rename (XW.ig _ = 0) => h9; exfalso; revert h9; dsimp only; decide)
    | (rename (XW.ig _ ≠ 0) => h9; exact absurd rfl h9)
  repeat (first | (k_unfold; (try dsimp only)) | walk1 | (dsimp only; walk1) | (leave1; try dsimp only))
  clear N; rename (News _ _ _ _) => N9
  exact hQ _ _ _ (by assumption) N9

set_option maxHeartbeats 2000000 in
theorem data_i (w : World) (dp un : Nat) (gd : Option (List Code)) (cn : Str) (cs : Scope) (a : Addr) (ccd : Value) (cl : List (Str × Addr)) (outer : List Env) (A₀ : Around) (base h₀ : Heap) (L : Addr) (m mg mb : Str → Option Value) (mean : ExcName → Option Value) (s : Shared) (Q E : Value → Shared → Prop)
    (rest : List (Addr × Obj)) (tkW : Nat → Tok) (ea et : Nat) (t0 : Tok) (wd wr q pc dl nsd ns pm ps : Nat) (seen done : Bool) (pcs dts : List (Str × Tok)) (nsds nss pss : List Value) (tb : Array Value) (e0 e1 e2 e3 e4 e5 : Nat) (d : Str) (td : Tok)
    (B : Below A₀ base outer h₀) (F : Fr h₀ L s.heap m) (X : (hd2.heap_39 w.params).In h₀) (T : Top topProg lo3 mean mg mb h₀)
    (hk : cs.kind = .function) (hd : dp + 20 < recursionLimit) (hu : un + 200 < cLine)
    (N : News h₀ L s.heap (wCells w.params tkW ⟨ea, et, 2, t0⟩ wd wr q pc dl nsd ns pm ps seen done pcs dts nsds nss pss tb e0 e1 e2 e3 e4 e5 rest))
    (ho : WOrd wd wr q pc dl nsd ns pm ps) (hr : WOff wd pc dl nsd ns ps rest) (hpc : pcs.length ≤ 1000)
    (hQ : ∀ h' tk', Fr h₀ L h' m → News h₀ L h' (wCells w.params tkW ⟨ea, et, 2, t0⟩ wd wr q pc dl nsd ns pm ps seen done pcs dts nsds nss pss tb e0 e1 e2 e3 e4 e5 rest) → Q .none { s with heap := h', toks := tk' }) :
    wpAny (model P3 w) (ktrTop dp un gd cn cs L a ccd cl outer) (call (.ref 104) [.ref wr, .str d td]) Q E s := by
  obtain ⟨r1, r2, r3, r4, r5, r6, r7⟩ := hr
  dsimp only [wCells] at N
  refine wpAny_call ?_
  k_dflt k_enter
  refine hideTok fun tkZ => ?_
  repeat (first | (k_unfold; (try dsimp only)) | walk1 | (dsimp only; walk1) | (leave1; try dsimp only))
  all_goals try first
    | (rename (XW.ig _ = 0) => h9; exfalso; revert h9; dsimp only; decide)
    | (rename (XW.ig _ ≠ 0) => h9; exact absurd rfl h9)
  repeat (first | (k_unfold; (try dsimp only)) | walk1 | (dsimp only; walk1) | (leave1; try dsimp only))
  clear N; rename (News _ _ _ _) => N9
  exact hQ _ _ (by assumption) N9

set_option maxHeartbeats 2000000 in
theorem comment_c (w : World) (dp un : Nat) (gd : Option (List Code)) (cn : Str) (cs : Scope) (a : Addr) (ccd : Value) (cl : List (Str × Addr)) (outer : List Env) (A₀ : Around) (base h₀ : Heap) (L : Addr) (m mg mb : Str → Option Value) (mean : ExcName → Option Value) (s : Shared) (Q E : Value → Shared → Prop)
    (rest : List (Addr × Obj)) (tkW : Nat → Tok) (t0 : XW) (wd wr q pc dl nsd ns pm ps : Nat) (seen done : Bool) (pcs dts : List (Str × Tok)) (nsds nss pss : List Value) (tb : Array Value) (e0 e1 e2 e3 e4 e5 : Nat) (d : Str) (td : Tok)
    (B : Below A₀ base outer h₀) (F : Fr h₀ L s.heap m) (X : (hd2.heap_39 w.params).In h₀) (T : Top topProg lo3 mean mg mb h₀)
    (hk : cs.kind = .function) (hd : dp + 20 < recursionLimit) (hu : un + 200 < cLine)
    (N : News h₀ L s.heap (wCells w.params tkW t0 wd wr q pc dl nsd ns pm ps seen done pcs dts nsds nss pss tb e0 e1 e2 e3 e4 e5 rest))
    (ho : WOrd wd wr q pc dl nsd ns pm ps) (hr : WOff wd pc dl nsd ns ps rest) (hpc : pcs.length ≤ 1000)
    (hQ : ∀ h' tk', Fr h₀ L h' m → News h₀ L h' (wCells w.params tkW t0 wd wr q pc dl nsd ns pm ps seen done pcs dts nsds nss pss tb e0 e1 e2 e3 e4 e5 rest) → Q .none { s with heap := h', toks := tk' }) :
    wpAny (model P3 w) (ktrTop dp un gd cn cs L a ccd cl outer) (call (.ref 147) [.ref wr, .str d td]) Q E s := by
  obtain ⟨r1, r2, r3, r4, r5, r6, r7⟩ := hr
  dsimp only [wCells] at N
  refine wpAny_call ?_
  k_dflt k_enter
  refine hideTok fun tkZ => ?_
  repeat (first | (k_unfold; (try dsimp only)) | walk1 | (dsimp only; walk1) | (leave1; try dsimp only))
  all_goals try first
    | (rename (XW.ig _ = 0) => h9; exfalso; revert h9; dsimp only; decide)
    | (rename (XW.ig _ ≠ 0) => h9; exact absurd rfl h9)
  repeat (first | (k_unfold; (try dsimp only)) | walk1 | (dsimp only; walk1) | (leave1; try dsimp only))
  clear N; rename (News _ _ _ _) => N9
  exact hQ _ _ (by assumption) N9

set_option maxHeartbeats 2000000 in
theorem end_i1 (w : World) (dp un : Nat) (gd : Option (List Code)) (cn : Str) (cs : Scope) (a : Addr) (ccd : Value) (cl : List (Str × Addr)) (outer : List Env) (A₀ : Around) (base h₀ : Heap) (L : Addr) (m mg mb : Str → Option Value) (mean : ExcName → Option Value) (s : Shared) (Q E : Value → Shared → Prop)
    (rest : List (Addr × Obj)) (tkW : Nat → Tok) (ea et : Nat) (t0 : Tok) (wd wr q pc dl nsd ns pm ps : Nat) (seen done : Bool) (pcs dts : List (Str × Tok)) (nsds nss pss : List Value) (tb : Array Value) (e0 e1 e2 e3 e4 e5 : Nat) (tg : Str) (td : Tok)
    (B : Below A₀ base outer h₀) (F : Fr h₀ L s.heap m) (X : (hd2.heap_39 w.params).In h₀) (T : Top topProg lo3 mean mg mb h₀)
    (hk : cs.kind = .function) (hd : dp + 20 < recursionLimit) (hu : un + 200 < cLine)
    (N : News h₀ L s.heap (wCells w.params tkW ⟨ea, et, 1, t0⟩ wd wr q pc dl nsd ns pm ps seen done pcs dts nsds nss pss tb e0 e1 e2 e3 e4 e5 rest))
    (ho : WOrd wd wr q pc dl nsd ns pm ps) (hr : WOff wd pc dl nsd ns ps rest) (hpc : pcs.length ≤ 1000)
    (hQ : ∀ t1 h' tk', Fr h₀ L h' m → News h₀ L h' (wCells w.params tkW ⟨ea, et, 0, t1⟩ wd wr q pc dl nsd ns pm ps seen done pcs dts nsds nss pss tb e0 e1 e2 e3 e4 e5 rest) → Q .none { s with heap := h', toks := tk' }) :
    wpAny (model P3 w) (ktrTop dp un gd cn cs L a ccd cl outer) (call (.ref 140) [.ref wr, .str tg td]) Q E s := by
  obtain ⟨r1, r2, r3, r4, r5, r6, r7⟩ := hr
  dsimp only [wCells] at N
  refine wpAny_call ?_
  k_dflt k_enter
  refine hideTok fun tkZ => ?_
  repeat (first | (k_unfold; (try dsimp only)) | walk1 | (dsimp only; walk1) | (leave1; try dsimp only))
  all_goals try first
    | (rename (XW.ig _ = 0) => h9; exfalso; revert h9; dsimp only; decide)
    | (rename (XW.ig _ ≠ 0) => h9; exact absurd rfl h9)
  repeat (first | (k_unfold; (try dsimp only)) | walk1 | (dsimp only; walk1) | (leave1; try dsimp only))
  clear N; rename (News _ _ _ _) => N9
  exact hQ _ _ _ (by assumption) N9

set_option maxHeartbeats 2000000 in
theorem end_i2 (w : World) (dp un : Nat) (gd : Option (List Code)) (cn : Str) (cs : Scope) (a : Addr) (ccd : Value) (cl : List (Str × Addr)) (outer : List Env) (A₀ : Around) (base h₀ : Heap) (L : Addr) (m mg mb : Str → Option Value) (mean : ExcName → Option Value) (s : Shared) (Q E : Value → Shared → Prop)
    (rest : List (Addr × Obj)) (tkW : Nat → Tok) (ea et : Nat) (t0 : Tok) (wd wr q pc dl nsd ns pm ps : Nat) (seen done : Bool) (pcs dts : List (Str × Tok)) (nsds nss pss : List Value) (tb : Array Value) (e0 e1 e2 e3 e4 e5 : Nat) (tg : Str) (td : Tok)
    (B : Below A₀ base outer h₀) (F : Fr h₀ L s.heap m) (X : (hd2.heap_39 w.params).In h₀) (T : Top topProg lo3 mean mg mb h₀)
    (hk : cs.kind = .function) (hd : dp + 20 < recursionLimit) (hu : un + 200 < cLine)
    (N : News h₀ L s.heap (wCells w.params tkW ⟨ea, et, 2, t0⟩ wd wr q pc dl nsd ns pm ps seen done pcs dts nsds nss pss tb e0 e1 e2 e3 e4 e5 rest))
    (ho : WOrd wd wr q pc dl nsd ns pm ps) (hr : WOff wd pc dl nsd ns ps rest) (hpc : pcs.length ≤ 1000)
    (hQ : ∀ t1 h' tk', Fr h₀ L h' m → News h₀ L h' (wCells w.params tkW ⟨ea, et, 1, t1⟩ wd wr q pc dl nsd ns pm ps seen done pcs dts nsds nss pss tb e0 e1 e2 e3 e4 e5 rest) → Q .none { s with heap := h', toks := tk' }) :
    wpAny (model P3 w) (ktrTop dp un gd cn cs L a ccd cl outer) (call (.ref 140) [.ref wr, .str tg td]) Q E s := by
  obtain ⟨r1, r2, r3, r4, r5, r6, r7⟩ := hr
  dsimp only [wCells] at N
  refine wpAny_call ?_
  k_dflt k_enter
  refine hideTok fun tkZ => ?_
  repeat (first | (k_unfold; (try dsimp only)) | walk1 | (dsimp only; walk1) | (leave1; try dsimp only))
  all_goals try first
    | (rename (XW.ig _ = 0) => h9; exfalso; revert h9; dsimp only; decide)
    | (rename (XW.ig _ ≠ 0) => h9; exact absurd rfl h9)
  repeat (first | (k_unfold; (try dsimp only)) | walk1 | (dsimp only; walk1) | (leave1; try dsimp only))
  clear N; rename (News _ _ _ _) => N9
  exact hQ _ _ _ (by assumption) N9
end
section
open PySem PySem.W PyProof.Rows PySem.Calls PySem.Spec
open PyProof.Rows.LCg
noncomputable abbrev cutI (I : Nat) (l : List (Addr × Obj)) : List (Addr × Obj) := l.filter fun p => decide (@Ne Nat p.1 I)
theorem cut_mem {I : Nat} {l : List (Addr × Obj)} {p : Addr × Obj} (h : p ∈ l) (hn : @Ne Nat p.1 I) : p ∈ cutI I l := List.mem_filter.mpr ⟨h, decide_eq_true hn⟩
theorem cut_sub {I : Nat} {l : List (Addr × Obj)} {p : Addr × Obj} (h : p ∈ cutI I l) : p ∈ l := (List.mem_filter.mp h).1
theorem cut_ne {I : Nat} {l : List (Addr × Obj)} {p : Addr × Obj} (h : p ∈ cutI I l) : @Ne Nat p.1 I := of_decide_eq_true (List.mem_filter.mp h).2
theorem tabSt_cut {pos : Pos} {q : Str} {tb : Array Value} {rest : List (Addr × Obj)} {I : Nat} {oI : Obj} {h₀ h : Heap} {L : Addr} (T : TabSt pos q tb rest) (N : News h₀ L h rest) (hI : h.get? I = some oI) (it : ItObj oI) : TabSt pos q tb (cutI I rest) := by
  rcases T with T | ⟨c', T, oc, vs, t, hm, hd, hv⟩
  · exact .inl T
  · refine .inr ⟨c', T, oc, vs, t, cut_mem hm (fun e => ?_), hd, hv⟩
    have h1 := (N _ hm).1
    dsimp only at e h1
    rw [e] at h1
    rw [h1] at hI
    obtain ⟨vs', e', h'⟩ := it.no
    obtain rfl := Option.some.inj hI
    rw [hd] at e'
    obtain rfl := Data.fields.inj e'
    exact h' _ _ hv
theorem tabSt_mono {pos : Pos} {q : Str} {tb : Array Value} {rest rest' : List (Addr × Obj)} (T : TabSt pos q tb rest) (hs : ∀ p ∈ rest, p ∈ rest') : TabSt pos q tb rest' := by
  rcases T with T | ⟨c', T, C⟩
  · exact .inl T
  · exact .inr ⟨c', T, C.mono hs⟩
theorem wOff_sub {wd pc dl nsd ns ps : Nat} {rest rest' : List (Addr × Obj)} (W : WOff wd pc dl nsd ns ps rest) (hs : ∀ p ∈ rest', p ∈ rest) : WOff wd pc dl nsd ns ps rest' := by
  obtain ⟨w1, w2, w3, w4, w5, w6, w7⟩ := W
  exact ⟨fun q hq => w1 q (hs q hq), fun q hq => w2 q (hs q hq), fun q hq => w3 q (hs q hq), fun q hq => w4 q (hs q hq), fun q hq => w5 q (hs q hq), fun q hq => w6 q (hs q hq), fun q hq => w7 q (hs q hq)⟩
theorem news_ahead {h₀ h : Heap} {L : Addr} {a c1 c2 c3 c4 c5 c6 c7 c8 c9 : Addr × Obj} {rest rest' : List (Addr × Obj)} (N : News h₀ L h (c1 :: c2 :: c3 :: c4 :: c5 :: c6 :: c7 :: c8 :: c9 :: rest)) (ha : a ∈ rest) (hs : ∀ p ∈ rest', p ∈ rest) : News h₀ L h (a :: c1 :: c2 :: c3 :: c4 :: c5 :: c6 :: c7 :: c8 :: c9 :: rest') := news_c N (.tail _ (.tail _ (.tail _ (.tail _ (.tail _ (.tail _ (.tail _ (.tail _ (.tail _ (ha)))))))))) (news_c N (.head _) (news_c N (.tail _ (.head _)) (news_c N (.tail _ (.tail _ (.head _))) (news_c N (.tail _ (.tail _ (.tail _ (.head _)))) (news_c N (.tail _ (.tail _ (.tail _ (.tail _ (.head _))))) (news_c N (.tail _ (.tail _ (.tail _ (.tail _ (.tail _ (.head _)))))) (news_c N (.tail _ (.tail _ (.tail _ (.tail _ (.tail _ (.tail _ (.head _))))))) (news_c N (.tail _ (.tail _ (.tail _ (.tail _ (.tail _ (.tail _ (.tail _ (.head _)))))))) (news_c N (.tail _ (.tail _ (.tail _ (.tail _ (.tail _ (.tail _ (.tail _ (.tail _ (.head _))))))))) (fun p hp => N p (.tail _ (.tail _ (.tail _ (.tail _ (.tail _ (.tail _ (.tail _ (.tail _ (.tail _ (hs p hp))))))))))))))))))))
inductive Wr (w : World) (wr pc : Nat) (rest : List (Addr × Obj)) (n : Nat) (out : Str) (len : Nat) (pend : Bool) (ig : Int) (nw : List (Addr × Obj)) (g : Gens) : Prop
  | mk (tkW : Nat → Tok) (ea et : Nat) (t0 td : Tok) (oE oT : Obj) (wd q dl nsd ns pm ps : Nat) (seen done : Bool) (pcs : List (Str × Tok)) (v0 : Value) (s0 : List Value) (ds ls : List Nat) (tb : Array Value) (e0 e1 e2 e3 e4 e5 : Nat) (rest' : List (Addr × Obj))
    (hnw : nw = wCells w.params tkW ⟨ea, et, ig, t0⟩ wd wr q pc dl nsd ns pm ps seen done pcs (penW pend td) (v0 :: ds.map Value.ref) (s0 ++ ls.map Value.ref) (List.replicate (n + 1) (Value.bool false)) tb e0 e1 e2 e3 e4 e5 rest')
    (O : WOrd wd wr q pc dl nsd ns pm ps) (W : WOff wd pc dl nsd ns ps rest') (T : TabSt lamPos lamQ tb rest') (sub : ∀ p ∈ rest, p ∈ rest') (B : AllBare g) (Ns : NsOk (v0 :: ds.map Value.ref) rest') (hd : ds.length = n) (hs : ls.length = n) (h0 : s0.length = 2) (hc : catS (pcs.map (·.1)) = out) (hl : pcs.length ≤ len) (hsn : 0 < n → seen = true) (hea : (ea, oE) ∈ rest') (het : (et, oT) ∈ rest') (hSE : oE.SetObjOf (PySem.strKind P3 w) (fun k => decide (k = Str.ofString "m")) 1) (hST : oT.SetObjOf (PySem.strKind P3 w) (fun k => decide (k = Str.ofString "x")) 1) : Wr w wr pc rest n out len pend ig nw g
section
variable {w : World} {wr pc : Nat} {rest : List (Addr × Obj)} {n : Nat} {out : Str} {len : Nat} {pend : Bool} {ig : Int} {nw : List (Addr × Obj)} {g : Gens}
theorem Wr.mem (h : Wr w wr pc rest n out len pend ig nw g) {p : Addr × Obj} (hp : p ∈ rest) : p ∈ nw := by
  obtain ⟨tkW, ea, et, t0, td, oE, oT, wd, q, dl, nsd, ns, pm, ps, seen, done, pcs, v0, s0, ds, ls, tb, e0, e1, e2, e3, e4, e5, rest', rfl, O, W, T, sub, B, Ns, hd, hs, h0, hc, hl, hsn, hea, het, hSE, hST⟩ := h
  exact .tail _ (.tail _ (.tail _ (.tail _ (.tail _ (.tail _ (.tail _ (.tail _ (.tail _ (sub p hp)))))))))
theorem Wr.pieces (h : Wr w wr pc rest n out len pend ig nw g) : ∃ pcs e, (pc, listOf (strValues pcs).toArray e) ∈ nw ∧ catS (pcs.map (·.1)) = out ∧ pcs.length ≤ len := by
  obtain ⟨tkW, ea, et, t0, td, oE, oT, wd, q, dl, nsd, ns, pm, ps, seen, done, pcs, v0, s0, ds, ls, tb, e0, e1, e2, e3, e4, e5, rest', rfl, O, W, T, sub, B, Ns, hd, hs, h0, hc, hl, hsn, hea, het, hSE, hST⟩ := h
  exact ⟨pcs, e1, .tail _ (.tail _ (.tail _ (.head _))), hc, hl⟩
theorem Wr.gens (h : Wr w wr pc rest n out len pend ig nw g) : AllBare g := by
  obtain ⟨tkW, ea, et, t0, td, oE, oT, wd, q, dl, nsd, ns, pm, ps, seen, done, pcs, v0, s0, ds, ls, tb, e0, e1, e2, e3, e4, e5, rest', rfl, O, W, T, sub, B, Ns, hd, hs, h0, hc, hl, hsn, hea, het, hSE, hST⟩ := h
  exact B
theorem Wr.less (h : Wr w wr pc rest n out len pend ig nw g) {r2 : List (Addr × Obj)} (hs : ∀ p ∈ r2, p ∈ rest) {len2 : Nat} (hl2 : len ≤ len2) : Wr w wr pc r2 n out len2 pend ig nw g := by
  obtain ⟨tkW, ea, et, t0, td, oE, oT, wd, q, dl, nsd, ns, pm, ps, seen, done, pcs, v0, s0, ds, ls, tb, e0, e1, e2, e3, e4, e5, rest', rfl, O, W, T, sub, B, Ns, hd, hs', h0, hc, hl, hsn, hea, het, hSE, hST⟩ := h
  exact .mk tkW ea et t0 td oE oT wd q dl nsd ns pm ps seen done pcs v0 s0 ds ls tb e0 e1 e2 e3 e4 e5 rest' rfl O W T (fun p hp => sub p (hs p hp)) B Ns hd hs' h0 hc (Nat.le_trans hl hl2) hsn hea het hSE hST
theorem Wr.keep (h : Wr w wr pc rest n out len pend ig nw g) {a : Nat} {o : Obj} (ha : ∀ p ∈ nw, @Ne Nat p.1 a) : ∃ nw', Wr w wr pc ((a, o) :: rest) n out len pend ig nw' g ∧ (∀ p ∈ nw', p ∈ (a, o) :: nw) := by
  obtain ⟨tkW, ea, et, t0, td, oE, oT, wd, q, dl, nsd, ns, pm, ps, seen, done, pcs, v0, s0, ds, ls, tb, e0, e1, e2, e3, e4, e5, rest', rfl, O, W, T, sub, B, Ns, hd, hs, h0, hc, hl, hsn, hea, het, hSE, hST⟩ := h
  refine ⟨_, .mk tkW ea et t0 td oE oT wd q dl nsd ns pm ps seen done pcs v0 s0 ds ls tb e0 e1 e2 e3 e4 e5 ((a, o) :: rest') rfl O ?_ ?_ ?_ B (Ns.mono fun p hp => .tail _ hp) hd hs h0 hc hl hsn (.tail _ hea) (.tail _ het) hSE hST, ?_⟩
  · exact wOff_cons W (Ne.symm (ha _ (.tail _ (.tail _ (.tail _ (.tail _ (.tail _ (.tail _ (.tail _ (.tail _ (.head _)))))))))))
      (Ne.symm (ha _ (.tail _ (.tail _ (.tail _ (.head _)))))) (Ne.symm (ha _ (.head _))) (Ne.symm (ha _ (.tail _ (.tail _ (.tail _ (.tail _ (.head _)))))))
      (Ne.symm (ha _ (.tail _ (.tail _ (.tail _ (.tail _ (.tail _ (.head _)))))))) (Ne.symm (ha _ (.tail _ (.tail _ (.tail _ (.tail _ (.tail _ (.tail _ (.head _)))))))))
      (Ne.symm (ha _ (.tail _ (.tail _ (.tail _ (.tail _ (.tail _ (.tail _ (.tail _ (.head _))))))))))
  · exact tabSt_mono T fun p hp => .tail _ hp
  · exact List.forall_mem_cons.2 ⟨.head _, fun p hp => .tail _ (sub p hp)⟩
  · exact fun p hp => mid_mem [_, _, _, _, _, _, _, _, _] hp
theorem seq_fld {vs : List Value} {e : Nat} {o : Obj} {fs : Array Value} (h : o.data = .fields fs) : W.listOf vs.toArray e ≠ o := fun q => by rw [← q] at h; simp at h
theorem tup_fld {vs : List Value} {o : Obj} {fs : Array Value} (h : o.data = .fields fs) : tupOf vs ≠ o := fun q => by rw [← q] at h; simp at h
theorem set_fld {w : World} {S : Str → Bool} {n : Nat} {o o' : Obj} {fs : Array Value} (hS : o.SetObjOf (PySem.strKind P3 w) S n) (h : o'.data = .fields fs) : o ≠ o' := fun e => by
  obtain ⟨_, es, ep, t, hd, _⟩ := hS
  rw [e, h] at hd
  cases hd
theorem Wr.cut {I : Nat} {oI : Obj} {h₀ hp : Heap} {L : Addr} (h : Wr w wr pc ((I, oI) :: rest) n out len pend ig nw g) (N : News h₀ L hp nw) (it : ItObj oI) (hr : ∀ p ∈ rest, @Ne Nat p.1 I) :
    ∃ nw', Wr w wr pc rest n out len pend ig nw' g ∧ News h₀ L hp ((I, oI) :: nw') ∧ Off1 I nw' := by
  obtain ⟨tkW, ea, et, t0, td, oE, oT, wd, q, dl, nsd, ns, pm, ps, seen, done, pcs, v0, s0, ds, ls, tb, e0, e1, e2, e3, e4, e5, rest', rfl, O, W, T, sub, B, Ns, hd, hs, h0, hc, hl, hsn, hea, het, hSE, hST⟩ := h
  have hI := sub _ (.head _)
  have Nr : News h₀ L hp rest' := fun p hp => N p (.tail _ (.tail _ (.tail _ (.tail _ (.tail _ (.tail _ (.tail _ (.tail _ (.tail _ hp)))))))))
  obtain ⟨fs, iI, tI, hfs, hit⟩ := id it
  obtain ⟨w1, w2, w3, w4, w5, w6, w7⟩ := id W
  have cut : ∀ p ∈ rest', p.2 ≠ oI → p ∈ cutI I rest' := fun p hp hne => cut_mem hp fun e => by
    have h1 := (Nr _ hp).1
    have h2 := (Nr _ hI).1
    dsimp only at e h1 h2
    rw [e, h2] at h1
    exact hne (Option.some.inj h1).symm
  have nwr : @Ne Nat wr I := fun e => by
    have h1 := (N (wr, instObj 157 wd) (.tail _ (.head _))).1
    have h2 := (Nr _ hI).1
    dsimp only at h1 h2
    rw [e, h2] at h1
    rw [Option.some.inj h1] at hfs
    simp at hfs
  have nq : @Ne Nat q I := fun e => by
    have h1 := (N (q, bfmObj "list.append" (.ref pc)) (.tail _ (.tail _ (.head _)))).1
    have h2 := (Nr _ hI).1
    dsimp only at h1 h2
    rw [e, h2] at h1
    rw [Option.some.inj h1] at hfs
    rw [← Data.fields.inj hfs] at hit
    simp at hit
  refine ⟨_, .mk tkW ea et t0 td oE oT wd q dl nsd ns pm ps seen done pcs v0 s0 ds ls tb e0 e1 e2 e3 e4 e5 (cutI I rest') rfl O (wOff_sub W fun p hp => cut_sub hp) (tabSt_cut T Nr (Nr _ hI).1 it) (fun p hp => cut_mem (sub p (.tail _ hp)) (hr p hp)) B ?_ hd hs h0 hc hl hsn (cut _ hea fun e => set_fld hSE hfs e) (cut _ het fun e => set_fld hST hfs e) hSE hST, ?_, ?_⟩
  · obtain ⟨n0, n2, tp, t1, t2, a, b, c, d⟩ := Ns
    exact ⟨n0, n2, tp, t1, t2, a, cut _ b (seq_fld (vs := [.ref tp]) hfs), cut _ c (tup_fld hfs), fun k v hk hv => let ⟨e, n, x, y⟩ := d k v hk hv; ⟨e, n, x, cut _ y (seq_fld (vs := []) hfs)⟩⟩
  · exact news_ahead N hI fun p hp => cut_sub hp
  · refine ⟨Ne.symm (w3 _ hI), nwr, nq, Ne.symm (w2 _ hI), Ne.symm (w4 _ hI), Ne.symm (w5 _ hI), Ne.symm (w6 _ hI), Ne.symm (w7 _ hI), Ne.symm (w1 _ hI), off1_of _ fun p hp => cut_ne hp⟩
noncomputable def CodeLike (o : Obj) : Prop := ∃ vs q t, o.data = .fields vs ∧ vs[1]? = some (.str q t)
theorem tab_new {pos : Pos} {q : Str} {tb : Array Value} {rest rest' : List (Addr × Obj)} (T : TabSt pos q tb rest') : ∃ new : List (Addr × Obj), (∀ p ∈ new, p ∈ rest') ∧ (∀ p ∈ new, CodeLike p.2) ∧ TabSt pos q tb (new ++ rest) := by
  rcases T with T | ⟨c', T, oc, vs, t, hm, hd, hv⟩
  · exact ⟨[], (by intro p hp; cases hp), (by intro p hp; cases hp), Or.inl T⟩
  · have hm' : (c', oc) ∈ [(c', oc)] ++ rest := List.mem_append_left _ (List.mem_singleton.mpr rfl)
    have C' : CodeObj q c' ([(c', oc)] ++ rest) := ⟨oc, vs, t, hm', hd, hv⟩
    have T' : TabSt pos q tb ([(c', oc)] ++ rest) := Or.inr ⟨c', T, C'⟩
    refine ⟨[(c', oc)], ?_, ?_, T'⟩
    · intro p hp; rw [List.mem_singleton.mp hp]; exact hm
    · intro p hp; rw [List.mem_singleton.mp hp]; exact ⟨vs, q, t, hd, hv⟩
theorem Wr.fin (h : Wr w wr pc rest n out len pend ig nw g) : ∃ tb' new, (∀ p ∈ (130, tabObj tb') :: (new ++ rest), p ∈ nw) ∧ TabSt lamPos lamQ tb' new ∧ (∀ p ∈ new, CodeLike p.2) ∧ (∀ p ∈ new, @Ne Nat p.1 130) := by
  obtain ⟨tkW, ea, et, t0, td, oE, oT, wd, q, dl, nsd, ns, pm, ps, seen, done, pcs, v0, s0, ds, ls, tb, e0, e1, e2, e3, e4, e5, rest', rfl, O, W, T, sub, B, Ns, hd, hs, h0, hc, hl, hsn, hea, het, hSE, hST⟩ := h
  obtain ⟨new, hn1, hn2, T9⟩ := tab_new (rest := []) T
  rw [List.append_nil] at T9
  refine ⟨tb, new, fun p hp => ?_, T9, hn2, fun p hp => W.1 p (hn1 p hp)⟩
  rcases List.mem_cons.mp hp with h | hp
  · rw [h]; exact .tail _ (.tail _ (.tail _ (.tail _ (.tail _ (.tail _ (.tail _ (.tail _ (.head _))))))))
  · refine .tail _ (.tail _ (.tail _ (.tail _ (.tail _ (.tail _ (.tail _ (.tail _ (.tail _ ?_))))))))
    rcases List.mem_append.mp hp with h | h
    · exact hn1 p h
    · exact sub p h
inductive WObjs (w : World) (wr : Nat) (ig : Int) (nw : List (Addr × Obj)) : Prop
  | mk (wd : Nat) (tk : Nat → Tok) (q dl nsd ns pm ps : Value) (seen done : Bool) (t0 : XW) (e : Nat) (hi : t0.ig = ig) (hw : (wr, instObj 157 wd) ∈ nw) (hd : (wd, dictOf (wdict w.params tk q dl nsd ns pm ps .none seen done t0) e) ∈ nw) : WObjs w wr ig nw
theorem Wr.objs (h : Wr w wr pc rest n out len pend ig nw g) : WObjs w wr ig nw := by
  obtain ⟨tkW, ea, et, t0, td, oE, oT, wd, q, dl, nsd, ns, pm, ps, seen, done, pcs, v0, s0, ds, ls, tb, e0, e1, e2, e3, e4, e5, rest', rfl, O, W, T, sub, B, Ns, hd, hs, h0, hc, hl, hsn, hea, het, hSE, hST⟩ := h
  exact ⟨wd, tkW, .ref q, .ref dl, .ref nsd, .ref ns, .ref pm, .ref ps, seen, done, _, e0, rfl, .tail _ (.head _), .head _⟩
theorem last_ref {ds : List Nat} {n : Nat} (h : ds.length = n + 1) : ∃ ds' d, ds = ds' ++ [d] ∧ ds'.length = n := by
  rcases List.eq_nil_or_concat ds with e | ⟨r, d, e⟩
  · rw [e] at h; cases h
  · rw [List.concat_eq_append] at e
    refine ⟨r, d, e, ?_⟩
    rw [e, List.length_append, List.length_singleton] at h
    omega
theorem rep_push {n : Nat} : List.replicate (n + 1 + 1) (Value.bool false) = List.replicate (n + 1) (Value.bool false) ++ [Value.bool false] := List.replicate_succ'
theorem ref_push {v0 : Value} {ds : List Nat} {d : Nat} : v0 :: (ds ++ [d]).map Value.ref = v0 :: ds.map Value.ref ++ [Value.ref d] := by simp
theorem ref_push' {s0 : List Value} {ds : List Nat} {d : Nat} : s0 ++ (ds ++ [d]).map Value.ref = s0 ++ ds.map Value.ref ++ [Value.ref d] := by simp
end
theorem star_one {w : World} {at_ : Nat} {oA : Obj} {x k : Str} {v : Value} (hd : oA.IsDictOf (PySem.strKind P3 w) [(k, v)]) (hsm : (at_ == sysModules) = false) (hxk : k ≠ x) : StarOf w at_ oA [(k, v)] x :=
  fun _ _ _ _ _ _ _ _ _ _ _ _ F N hh hA hne U ht h => star1T F N hh hA hd hsm hne hxk U ht fun h' so' tk' _ F' N' hs => h h' so' tk' _ F' N' hs rfl
theorem lsort_o {w : World} {p : Str × Value} : LSortOf w [p] [p] := by
  intro A E s Q h₀ L m news c as e F N hc hl hm h
  obtain ⟨a, rfl⟩ := List.length_eq_one_iff.mp hl
  have nz := N _ (.head _)
  exact wpAny_call_entry slot_list_sort ⟨_, nz.1, rfl⟩ entry_list_sort (lsort_one0 F (fun p hp => N p (.tail _ hp)) nz.1 nz.2.1 nz.2.2 hc fun e1 h' F' N' => ⟨_, rfl, h [a] e1 h' rfl hm F' N'⟩) (args_list_sort _)
noncomputable def opA (v : Str) : Str := Str.ofString "<a n=\"" ++ v ++ Str.ofString "\">"
noncomputable def clA : Str := Str.ofString "</a>"
theorem beg_op {v ev : Str} {t : Tok} (h : AttrV v ev) : begA (Str.ofString "a") [(Str.ofString "n", t)] ev = opA v := by
  unfold begA
  simp only [List.map, catS]
  cases h <;> decide +kernel
theorem end_cl : endA (Str.ofString "a") = clA := by decide +kernel
theorem a_name : NameOk (Str.ofString "a") := ⟨by decide +kernel, by decide +kernel, by decide +kernel, by decide +kernel⟩
theorem n_name : NameOk (Str.ofString "n") := ⟨by decide +kernel, by decide +kernel, by decide +kernel, by decide +kernel⟩
set_option maxHeartbeats 2000000 in
theorem start_w (w : World) (dp un : Nat) (gd : Option (List Code)) (cn : Str) (cs : Scope) (a : Addr) (ccd : Value) (cl : List (Str × Addr)) (outer : List Env) (A₀ : Around) (base h₀ : Heap) (L : Addr) (m mg mb : Str → Option Value) (mean : ExcName → Option Value) (s : Shared) (Q E : Value → Shared → Prop)
    (rest nw : List (Addr × Obj)) (wr pc n : Nat) (out : Str) (len : Nat) (pend : Bool) (tx : Tok) (at_ : Nat) (oA : Obj) (v ev mv : Str) (tm tv : Tok)
    (B : Below A₀ base outer h₀) (F : Fr h₀ L s.heap m) (X : (hd2.heap_39 w.params).In h₀) (T : Top topProg lo3 mean mg mb h₀)
    (hk : cs.kind = .function) (hd : dp + 60 < recursionLimit) (hu : un + 900 < cLine)
    (N : News h₀ L s.heap ((at_, oA) :: nw))
    (hW : Wr w wr pc rest n out len pend 0 nw s.gens) (lt : ∀ p ∈ nw, @LT.lt Nat _ p.1 at_) (hlen : len ≤ 990) (hn9 : n < 900) (hav : AttrV v ev)
    (d1 : oA.IsDictOf (PySem.strKind P3 w) [(Str.ofString "m", .str mv tm), (Str.ofString "n", .str v tv)]) (d3 : (at_ == sysModules) = false) (hC : CodeHd h₀ 132 130)
    (hQ : ∀ nw' h' tk' g' d', Fr h₀ L h' m → News h₀ L h' nw' → Wr w wr pc rest (n + 1) (out ++ opA v) (len + 3) false 0 nw' g' → Q .none { s with heap := h', toks := tk', gens := g', drawn := d' }) :
    wpAny (model P3 w) (ktrTop dp un gd cn cs L a ccd cl outer) (call (.ref 127) [.ref wr, .str (Str.ofString "a") tx, .ref at_]) Q E s := by
  obtain ⟨tkW, ea, et, t0, td, oE, oT, wd, q, dl, nsd, ns, pm, ps, seen, done, pcs, v0, s0, ds, ls, tb, e0, e1, e2, e3, e4, e5, rest', rfl, O, W, T', sub, Bg, Ns, hds, hls, h0, hc, hl, hsn, hea, het, hSE, hST⟩ := hW
  refine start_c w dp un gd cn cs a ccd cl outer A₀ base h₀ L m mg mb mean s Q E rest' tkW ea et t0 wd wr q pc dl nsd ns pm ps seen done pcs (v0 :: ds.map Value.ref) (s0 ++ ls.map Value.ref) (List.replicate n (Value.bool false)) tb e0 e1 e2 e3 e4 e5 (Str.ofString "a") tx at_ oA [(Str.ofString "n", tv)] [(Str.ofString "n", tv)] v ev pend td oT oE _ _ _ B F X T hk hd hu (by rw [← List.replicate_succ']; exact news_behind N) O ?hr (Nat.le_trans hl hlen) Ns Bg ?hnm ?hxk (show 1 ≤ 6 by decide) (List.cons_ne_nil _ _) hav (fun at_ oA h1 h2 => star_one h1 h2 (show Str.ofString "n" ≠ Str.ofString "a" by decide +kernel)) lsort_o (.refl _) d1 (List.cons_ne_nil _ _) (show 2 ≤ 10 by decide) ?hkf hea hSE het hST ?hx9 d3 ?d4 ?hps ?hns ?hnd hC T' ?hQ
  case hnm => exact List.forall_mem_cons.2 ⟨a_name, List.forall_mem_cons.2 ⟨n_name, fun _ h => absurd h List.not_mem_nil⟩⟩
  case hxk => exact fun h => absurd (show Str.ofString "a" = Str.ofString "n" from List.mem_singleton.mp h) (by decide +kernel)
  case hkf =>
    have e2 : decide (Str.ofString "n" = Str.ofString "m") = false := by decide +kernel
    simp only [fkeep, atKv, List.map, List.filter, e2, decide_true, Bool.not_true, Bool.not_false]
  case hx9 => decide +kernel
  case hr =>
    exact wOff_cons W (Ne.symm (Nat.ne_of_lt (lt _ (.tail _ (.tail _ (.tail _ (.tail _ (.tail _ (.tail _ (.tail _ (.tail _ (.head _))))))))))))
      (Ne.symm (Nat.ne_of_lt (lt _ (.tail _ (.tail _ (.tail _ (.head _))))))) (Ne.symm (Nat.ne_of_lt (lt _ (.head _)))) (Ne.symm (Nat.ne_of_lt (lt _ (.tail _ (.tail _ (.tail _ (.tail _ (.head _))))))))
      (Ne.symm (Nat.ne_of_lt (lt _ (.tail _ (.tail _ (.tail _ (.tail _ (.tail _ (.head _))))))))) (Ne.symm (Nat.ne_of_lt (lt _ (.tail _ (.tail _ (.tail _ (.tail _ (.tail _ (.tail _ (.head _))))))))))
      (Ne.symm (Nat.ne_of_lt (lt _ (.tail _ (.tail _ (.tail _ (.tail _ (.tail _ (.tail _ (.tail _ (.head _)))))))))))
  case d4 => exact lt _ (.tail _ (.tail _ (.tail _ (.tail _ (.tail _ (.tail _ (.tail _ (.head _))))))))
  case hps => rw [List.length_replicate]; omega
  case hns => rw [List.length_append, List.length_map]; omega
  case hnd => rw [List.length_cons, List.length_map]; omega
  case hQ =>
    intro nn l' rest2 new tb' f1 f2 f3 f4 f5 h' tk' g' d' F' N' W' T2 Ns' s2 B' c2 l2
    refine hQ _ h' tk' g' d' F' N' ?_
    refine .mk tkW ea et t0 0 oE oT wd q dl nsd ns pm ps true done (pcs ++ new) v0 s0 (ds ++ [nn]) (ls ++ [l']) tb' e0 f1 f2 f3 f4 f5 rest2 ?_ O W' T2 (fun p hp => s2 p (sub p hp)) B' ?_ ?_ ?_ h0 ?_ ?_ (fun _ => rfl) (s2 _ hea) (s2 _ het) hSE hST
    · rw [ref_push, ref_push', rep_push, List.replicate_succ']; rfl
    · rw [ref_push]; exact Ns'
    · rw [List.length_append, hds]; rfl
    · rw [List.length_append, hls]; rfl
    · rw [List.map_append, catS_append, hc, c2, beg_op hav]
    · rw [List.length_append]; omega

set_option maxHeartbeats 2000000 in
theorem end_w (w : World) (dp un : Nat) (gd : Option (List Code)) (cn : Str) (cs : Scope) (a : Addr) (ccd : Value) (cl : List (Str × Addr)) (outer : List Env) (A₀ : Around) (base h₀ : Heap) (L : Addr) (m mg mb : Str → Option Value) (mean : ExcName → Option Value) (s : Shared) (Q E : Value → Shared → Prop)
    (rest nw : List (Addr × Obj)) (wr pc n : Nat) (out : Str) (len : Nat) (pend : Bool) (tx : Tok)
    (B : Below A₀ base outer h₀) (F : Fr h₀ L s.heap m) (X : (hd2.heap_39 w.params).In h₀) (T : Top topProg lo3 mean mg mb h₀)
    (hk : cs.kind = .function) (hd : dp + 60 < recursionLimit) (hu : un + 900 < cLine)
    (N : News h₀ L s.heap nw)
    (hW : Wr w wr pc rest (n + 1) out len pend 0 nw s.gens) (hlen : len ≤ 990) (hn9 : n < 900) (hC : CodeHd h₀ 132 130)
    (hQ : ∀ nw' h' tk' g' d', Fr h₀ L h' m → News h₀ L h' nw' → Wr w wr pc rest n (out ++ clA) (len + 1) false 0 nw' g' → Q .none { s with heap := h', toks := tk', gens := g', drawn := d' }) :
    wpAny (model P3 w) (ktrTop dp un gd cn cs L a ccd cl outer) (call (.ref 140) [.ref wr, .str (Str.ofString "a") tx]) Q E s := by
  obtain ⟨tkW, ea, et, t0, td, oE, oT, wd, q, dl, nsd, ns, pm, ps, seen, done, pcs, v0, s0, ds, ls, tb, e0, e1, e2, e3, e4, e5, rest', rfl, O, W, T', sub, Bg, Ns, hds, hls, h0, hc, hl, hsn, hea, het, hSE, hST⟩ := hW
  obtain ⟨ds, nn, rfl, hds'⟩ := last_ref hds
  obtain ⟨ls, l2, rfl, hls'⟩ := last_ref hls
  obtain rfl := hsn (Nat.succ_pos n)
  rw [ref_push, ref_push', rep_push] at N
  rw [ref_push] at Ns
  refine end_c w dp un gd cn cs a ccd cl outer A₀ base h₀ L m mg mb mean s Q E rest' tkW ea et t0 wd wr q pc dl nsd ns pm ps true done pcs (v0 :: ds.map Value.ref) (s0 ++ ls.map Value.ref) (List.replicate (n + 1) (Value.bool false)) tb e0 e1 e2 e3 e4 e5 pend td (Str.ofString "a") tx nn l2 B F X T hk hd hu N O W (Nat.le_trans hl hlen) Ns Bg a_name.1 a_name.2.1 ?hps ?hns ?hnd hC ?hQ
  case hps => rw [List.length_replicate]; omega
  case hns => rw [List.length_append, List.length_map]; omega
  case hnd => rw [List.length_cons, List.length_map]; omega
  case hQ =>
    intro done' new f1 f2 f3 f4 f5 h' tk' g' F' N' B' c2 l3
    refine hQ _ h' tk' g' s.drawn F' N' ?_
    refine .mk tkW ea et t0 0 oE oT wd q dl nsd ns pm ps true done' (pcs ++ new) v0 s0 ds ls tb e0 f1 f2 f3 f4 f5 rest' rfl O W T' sub B' ?_ hds' hls' h0 ?_ ?_ (fun _ => rfl) hea het hSE hST
    · obtain ⟨n0, n2, tp, t1, t2, a, b, c, d⟩ := Ns
      exact ⟨n0, n2, tp, t1, t2, a, b, c, fun k v hk hv => d k v hk (by rw [List.getElem?_append_left (List.getElem?_eq_some_iff.mp hv).1]; exact hv)⟩
    · rw [List.map_append, catS_append, hc, c2, end_cl]
    · rw [List.length_append]; omega

set_option maxHeartbeats 2000000 in
theorem data_w (w : World) (dp un : Nat) (gd : Option (List Code)) (cn : Str) (cs : Scope) (a : Addr) (ccd : Value) (cl : List (Str × Addr)) (outer : List Env) (A₀ : Around) (base h₀ : Heap) (L : Addr) (m mg mb : Str → Option Value) (mean : ExcName → Option Value) (s : Shared) (Q E : Value → Shared → Prop)
    (rest nw : List (Addr × Obj)) (wr pc n : Nat) (out : Str) (len : Nat) (td1 : Tok)
    (B : Below A₀ base outer h₀) (F : Fr h₀ L s.heap m) (X : (hd2.heap_39 w.params).In h₀) (T : Top topProg lo3 mean mg mb h₀)
    (hk : cs.kind = .function) (hd : dp + 20 < recursionLimit) (hu : un + 200 < cLine)
    (N : News h₀ L s.heap nw)
    (hW : Wr w wr pc rest n out len false 0 nw s.gens) (hlen : len ≤ 990)
    (hQ : ∀ nw' h' tk' g' d', Fr h₀ L h' m → News h₀ L h' nw' → Wr w wr pc rest n out len true 0 nw' g' → Q .none { s with heap := h', toks := tk', gens := g', drawn := d' }) :
    wpAny (model P3 w) (ktrTop dp un gd cn cs L a ccd cl outer) (call (.ref 104) [.ref wr, .str (Str.ofString " \n") td1]) Q E s := by
  obtain ⟨tkW, ea, et, t0, td, oE, oT, wd, q, dl, nsd, ns, pm, ps, seen, done, pcs, v0, s0, ds, ls, tb, e0, e1, e2, e3, e4, e5, rest', rfl, O, W, T', sub, Bg, Ns, hds, hls, h0, hc, hl, hsn, hea, het, hSE, hST⟩ := hW
  refine data_c w dp un gd cn cs a ccd cl outer A₀ base h₀ L m mg mb mean s Q E rest' tkW ea et 0 t0 wd wr q pc dl nsd ns pm ps seen done pcs [] (v0 :: ds.map Value.ref) (s0 ++ ls.map Value.ref) (List.replicate (n + 1) (Value.bool false)) tb e0 e1 e2 e3 e4 e5 _ td1 B F X T hk hd hu N O W (by omega) ?hQ
  intro f2 h' tk' F' N'
  exact hQ _ h' tk' s.gens s.drawn F' N' (.mk tkW ea et t0 td1 oE oT wd q dl nsd ns pm ps seen done pcs v0 s0 ds ls tb e0 e1 f2 e3 e4 e5 rest' rfl O W T' sub Bg Ns hds hls h0 hc hl hsn hea het hSE hST)

set_option maxHeartbeats 2000000 in
theorem comment_w (w : World) (dp un : Nat) (gd : Option (List Code)) (cn : Str) (cs : Scope) (a : Addr) (ccd : Value) (cl : List (Str × Addr)) (outer : List Env) (A₀ : Around) (base h₀ : Heap) (L : Addr) (m mg mb : Str → Option Value) (mean : ExcName → Option Value) (s : Shared) (Q E : Value → Shared → Prop)
    (rest nw : List (Addr × Obj)) (wr pc n : Nat) (out : Str) (len : Nat) (pend : Bool) (ig : Int) (d : Str) (td1 : Tok)
    (B : Below A₀ base outer h₀) (F : Fr h₀ L s.heap m) (X : (hd2.heap_39 w.params).In h₀) (T : Top topProg lo3 mean mg mb h₀)
    (hk : cs.kind = .function) (hd : dp + 20 < recursionLimit) (hu : un + 200 < cLine)
    (N : News h₀ L s.heap nw)
    (hW : Wr w wr pc rest n out len pend ig nw s.gens) (hlen : len ≤ 990)
    (hQ : ∀ nw' h' tk' g' d', Fr h₀ L h' m → News h₀ L h' nw' → Wr w wr pc rest n out len pend ig nw' g' → Q .none { s with heap := h', toks := tk', gens := g', drawn := d' }) :
    wpAny (model P3 w) (ktrTop dp un gd cn cs L a ccd cl outer) (call (.ref 147) [.ref wr, .str d td1]) Q E s := by
  obtain ⟨tkW, ea, et, t0, td, oE, oT, wd, q, dl, nsd, ns, pm, ps, seen, done, pcs, v0, s0, ds, ls, tb, e0, e1, e2, e3, e4, e5, rest', rfl, O, W, T', sub, Bg, Ns, hds, hls, h0, hc, hl, hsn, hea, het, hSE, hST⟩ := hW
  refine comment_c w dp un gd cn cs a ccd cl outer A₀ base h₀ L m mg mb mean s Q E rest' tkW ⟨ea, et, ig, t0⟩ wd wr q pc dl nsd ns pm ps seen done pcs (penW pend td) (v0 :: ds.map Value.ref) (s0 ++ ls.map Value.ref) (List.replicate (n + 1) (Value.bool false)) tb e0 e1 e2 e3 e4 e5 d td1 B F X T hk hd hu N O W (by omega) ?hQ
  intro h' tk' F' N'
  exact hQ _ h' tk' s.gens s.drawn F' N' (.mk tkW ea et t0 td oE oT wd q dl nsd ns pm ps seen done pcs v0 s0 ds ls tb e0 e1 e2 e3 e4 e5 rest' rfl O W T' sub Bg Ns hds hls h0 hc hl hsn hea het hSE hST)

set_option maxHeartbeats 2000000 in
theorem data_wi (w : World) (dp un : Nat) (gd : Option (List Code)) (cn : Str) (cs : Scope) (a : Addr) (ccd : Value) (cl : List (Str × Addr)) (outer : List Env) (A₀ : Around) (base h₀ : Heap) (L : Addr) (m mg mb : Str → Option Value) (mean : ExcName → Option Value) (s : Shared) (Q E : Value → Shared → Prop)
    (rest nw : List (Addr × Obj)) (wr pc n : Nat) (out : Str) (len : Nat) (pend : Bool) (d : Str) (td1 : Tok)
    (B : Below A₀ base outer h₀) (F : Fr h₀ L s.heap m) (X : (hd2.heap_39 w.params).In h₀) (T : Top topProg lo3 mean mg mb h₀)
    (hk : cs.kind = .function) (hd : dp + 20 < recursionLimit) (hu : un + 200 < cLine)
    (N : News h₀ L s.heap nw)
    (hW : Wr w wr pc rest n out len pend 2 nw s.gens) (hlen : len ≤ 990)
    (hQ : ∀ nw' h' tk' g' d', Fr h₀ L h' m → News h₀ L h' nw' → Wr w wr pc rest n out len pend 2 nw' g' → Q .none { s with heap := h', toks := tk', gens := g', drawn := d' }) :
    wpAny (model P3 w) (ktrTop dp un gd cn cs L a ccd cl outer) (call (.ref 104) [.ref wr, .str d td1]) Q E s := by
  obtain ⟨tkW, ea, et, t0, td, oE, oT, wd, q, dl, nsd, ns, pm, ps, seen, done, pcs, v0, s0, ds, ls, tb, e0, e1, e2, e3, e4, e5, rest', rfl, O, W, T', sub, Bg, Ns, hds, hls, h0, hc, hl, hsn, hea, het, hSE, hST⟩ := hW
  refine data_i w dp un gd cn cs a ccd cl outer A₀ base h₀ L m mg mb mean s Q E rest' tkW ea et t0 wd wr q pc dl nsd ns pm ps seen done pcs (penW pend td) (v0 :: ds.map Value.ref) (s0 ++ ls.map Value.ref) (List.replicate (n + 1) (Value.bool false)) tb e0 e1 e2 e3 e4 e5 d td1 B F X T hk hd hu N O W (by omega) ?hQ
  intro h' tk' F' N'
  exact hQ _ h' tk' s.gens s.drawn F' N' (.mk tkW ea et t0 td oE oT wd q dl nsd ns pm ps seen done pcs v0 s0 ds ls tb e0 e1 e2 e3 e4 e5 rest' rfl O W T' sub Bg Ns hds hls h0 hc hl hsn hea het hSE hST)

set_option maxHeartbeats 2000000 in
theorem start_w0 (w : World) (dp un : Nat) (gd : Option (List Code)) (cn : Str) (cs : Scope) (a : Addr) (ccd : Value) (cl : List (Str × Addr)) (outer : List Env) (A₀ : Around) (base h₀ : Heap) (L : Addr) (m mg mb : Str → Option Value) (mean : ExcName → Option Value) (s : Shared) (Q E : Value → Shared → Prop)
    (rest nw : List (Addr × Obj)) (wr pc n : Nat) (out : Str) (len : Nat) (pend : Bool) (td1 : Tok) (at_ : Nat)
    (B : Below A₀ base outer h₀) (F : Fr h₀ L s.heap m) (X : (hd2.heap_39 w.params).In h₀) (T : Top topProg lo3 mean mg mb h₀)
    (hk : cs.kind = .function) (hd : dp + 20 < recursionLimit) (hu : un + 200 < cLine)
    (N : News h₀ L s.heap nw)
    (hW : Wr w wr pc rest n out len pend 0 nw s.gens) (hlen : len ≤ 990)
    (hQ : ∀ nw' h' tk' g' d', Fr h₀ L h' m → News h₀ L h' nw' → Wr w wr pc rest n out len pend 1 nw' g' → Q .none { s with heap := h', toks := tk', gens := g', drawn := d' }) :
    wpAny (model P3 w) (ktrTop dp un gd cn cs L a ccd cl outer) (call (.ref 127) [.ref wr, .str (Str.ofString "x") td1, .ref at_]) Q E s := by
  obtain ⟨tkW, ea, et, t0, td, oE, oT, wd, q, dl, nsd, ns, pm, ps, seen, done, pcs, v0, s0, ds, ls, tb, e0, e1, e2, e3, e4, e5, rest', rfl, O, W, T', sub, Bg, Ns, hds, hls, h0, hc, hl, hsn, hea, het, hSE, hST⟩ := hW
  refine start_i0 w dp un gd cn cs a ccd cl outer A₀ base h₀ L m mg mb mean s Q E rest' tkW ea et t0 wd wr q pc dl nsd ns pm ps seen done pcs (penW pend td) (v0 :: ds.map Value.ref) (s0 ++ ls.map Value.ref) (List.replicate (n + 1) (Value.bool false)) tb e0 e1 e2 e3 e4 e5 _ td1 at_ oT _ 0 B F X T hk hd hu N O W (by omega) het hST (by decide +kernel) ?hQ
  intro t1 h' tk' F' N'
  exact hQ _ h' tk' s.gens s.drawn F' N' (.mk tkW ea et t1 td oE oT wd q dl nsd ns pm ps seen done pcs v0 s0 ds ls tb e0 e1 e2 e3 e4 e5 rest' rfl O W T' sub Bg Ns hds hls h0 hc hl hsn hea het hSE hST)

set_option maxHeartbeats 2000000 in
theorem start_w1 (w : World) (dp un : Nat) (gd : Option (List Code)) (cn : Str) (cs : Scope) (a : Addr) (ccd : Value) (cl : List (Str × Addr)) (outer : List Env) (A₀ : Around) (base h₀ : Heap) (L : Addr) (m mg mb : Str → Option Value) (mean : ExcName → Option Value) (s : Shared) (Q E : Value → Shared → Prop)
    (rest nw : List (Addr × Obj)) (wr pc n : Nat) (out : Str) (len : Nat) (pend : Bool) (tg : Str) (td1 : Tok) (at_ : Nat)
    (B : Below A₀ base outer h₀) (F : Fr h₀ L s.heap m) (X : (hd2.heap_39 w.params).In h₀) (T : Top topProg lo3 mean mg mb h₀)
    (hk : cs.kind = .function) (hd : dp + 20 < recursionLimit) (hu : un + 200 < cLine)
    (N : News h₀ L s.heap nw)
    (hW : Wr w wr pc rest n out len pend 1 nw s.gens) (hlen : len ≤ 990)
    (hQ : ∀ nw' h' tk' g' d', Fr h₀ L h' m → News h₀ L h' nw' → Wr w wr pc rest n out len pend 2 nw' g' → Q .none { s with heap := h', toks := tk', gens := g', drawn := d' }) :
    wpAny (model P3 w) (ktrTop dp un gd cn cs L a ccd cl outer) (call (.ref 127) [.ref wr, .str tg td1, .ref at_]) Q E s := by
  obtain ⟨tkW, ea, et, t0, td, oE, oT, wd, q, dl, nsd, ns, pm, ps, seen, done, pcs, v0, s0, ds, ls, tb, e0, e1, e2, e3, e4, e5, rest', rfl, O, W, T', sub, Bg, Ns, hds, hls, h0, hc, hl, hsn, hea, het, hSE, hST⟩ := hW
  refine start_i1 w dp un gd cn cs a ccd cl outer A₀ base h₀ L m mg mb mean s Q E rest' tkW ea et t0 wd wr q pc dl nsd ns pm ps seen done pcs (penW pend td) (v0 :: ds.map Value.ref) (s0 ++ ls.map Value.ref) (List.replicate (n + 1) (Value.bool false)) tb e0 e1 e2 e3 e4 e5 _ td1 at_ B F X T hk hd hu N O W (by omega) ?hQ
  intro t1 h' tk' F' N'
  exact hQ _ h' tk' s.gens s.drawn F' N' (.mk tkW ea et t1 td oE oT wd q dl nsd ns pm ps seen done pcs v0 s0 ds ls tb e0 e1 e2 e3 e4 e5 rest' rfl O W T' sub Bg Ns hds hls h0 hc hl hsn hea het hSE hST)

set_option maxHeartbeats 2000000 in
theorem end_w1 (w : World) (dp un : Nat) (gd : Option (List Code)) (cn : Str) (cs : Scope) (a : Addr) (ccd : Value) (cl : List (Str × Addr)) (outer : List Env) (A₀ : Around) (base h₀ : Heap) (L : Addr) (m mg mb : Str → Option Value) (mean : ExcName → Option Value) (s : Shared) (Q E : Value → Shared → Prop)
    (rest nw : List (Addr × Obj)) (wr pc n : Nat) (out : Str) (len : Nat) (pend : Bool) (tg : Str) (td1 : Tok)
    (B : Below A₀ base outer h₀) (F : Fr h₀ L s.heap m) (X : (hd2.heap_39 w.params).In h₀) (T : Top topProg lo3 mean mg mb h₀)
    (hk : cs.kind = .function) (hd : dp + 20 < recursionLimit) (hu : un + 200 < cLine)
    (N : News h₀ L s.heap nw)
    (hW : Wr w wr pc rest n out len pend 1 nw s.gens) (hlen : len ≤ 990)
    (hQ : ∀ nw' h' tk' g' d', Fr h₀ L h' m → News h₀ L h' nw' → Wr w wr pc rest n out len pend 0 nw' g' → Q .none { s with heap := h', toks := tk', gens := g', drawn := d' }) :
    wpAny (model P3 w) (ktrTop dp un gd cn cs L a ccd cl outer) (call (.ref 140) [.ref wr, .str tg td1]) Q E s := by
  obtain ⟨tkW, ea, et, t0, td, oE, oT, wd, q, dl, nsd, ns, pm, ps, seen, done, pcs, v0, s0, ds, ls, tb, e0, e1, e2, e3, e4, e5, rest', rfl, O, W, T', sub, Bg, Ns, hds, hls, h0, hc, hl, hsn, hea, het, hSE, hST⟩ := hW
  refine end_i1 w dp un gd cn cs a ccd cl outer A₀ base h₀ L m mg mb mean s Q E rest' tkW ea et t0 wd wr q pc dl nsd ns pm ps seen done pcs (penW pend td) (v0 :: ds.map Value.ref) (s0 ++ ls.map Value.ref) (List.replicate (n + 1) (Value.bool false)) tb e0 e1 e2 e3 e4 e5 _ td1 B F X T hk hd hu N O W (by omega) ?hQ
  intro t1 h' tk' F' N'
  exact hQ _ h' tk' s.gens s.drawn F' N' (.mk tkW ea et t1 td oE oT wd q dl nsd ns pm ps seen done pcs v0 s0 ds ls tb e0 e1 e2 e3 e4 e5 rest' rfl O W T' sub Bg Ns hds hls h0 hc hl hsn hea het hSE hST)

set_option maxHeartbeats 2000000 in
theorem end_w2 (w : World) (dp un : Nat) (gd : Option (List Code)) (cn : Str) (cs : Scope) (a : Addr) (ccd : Value) (cl : List (Str × Addr)) (outer : List Env) (A₀ : Around) (base h₀ : Heap) (L : Addr) (m mg mb : Str → Option Value) (mean : ExcName → Option Value) (s : Shared) (Q E : Value → Shared → Prop)
    (rest nw : List (Addr × Obj)) (wr pc n : Nat) (out : Str) (len : Nat) (pend : Bool) (tg : Str) (td1 : Tok)
    (B : Below A₀ base outer h₀) (F : Fr h₀ L s.heap m) (X : (hd2.heap_39 w.params).In h₀) (T : Top topProg lo3 mean mg mb h₀)
    (hk : cs.kind = .function) (hd : dp + 20 < recursionLimit) (hu : un + 200 < cLine)
    (N : News h₀ L s.heap nw)
    (hW : Wr w wr pc rest n out len pend 2 nw s.gens) (hlen : len ≤ 990)
    (hQ : ∀ nw' h' tk' g' d', Fr h₀ L h' m → News h₀ L h' nw' → Wr w wr pc rest n out len pend 1 nw' g' → Q .none { s with heap := h', toks := tk', gens := g', drawn := d' }) :
    wpAny (model P3 w) (ktrTop dp un gd cn cs L a ccd cl outer) (call (.ref 140) [.ref wr, .str tg td1]) Q E s := by
  obtain ⟨tkW, ea, et, t0, td, oE, oT, wd, q, dl, nsd, ns, pm, ps, seen, done, pcs, v0, s0, ds, ls, tb, e0, e1, e2, e3, e4, e5, rest', rfl, O, W, T', sub, Bg, Ns, hds, hls, h0, hc, hl, hsn, hea, het, hSE, hST⟩ := hW
  refine end_i2 w dp un gd cn cs a ccd cl outer A₀ base h₀ L m mg mb mean s Q E rest' tkW ea et t0 wd wr q pc dl nsd ns pm ps seen done pcs (penW pend td) (v0 :: ds.map Value.ref) (s0 ++ ls.map Value.ref) (List.replicate (n + 1) (Value.bool false)) tb e0 e1 e2 e3 e4 e5 _ td1 B F X T hk hd hu N O W (by omega) ?hQ
  intro t1 h' tk' F' N'
  exact hQ _ h' tk' s.gens s.drawn F' N' (.mk tkW ea et t1 td oE oT wd q dl nsd ns pm ps seen done pcs v0 s0 ds ls tb e0 e1 e2 e3 e4 e5 rest' rfl O W T' sub Bg Ns hds hls h0 hc hl hsn hea het hSE hST)

set_option maxHeartbeats 2000000 in
theorem init_w (w : World) (dp un : Nat) (gd : Option (List Code)) (cn : Str) (cs : Scope) (a : Addr) (ccd : Value) (cl : List (Str × Addr)) (outer : List Env) (A₀ : Around) (base h₀ : Heap) (L : Addr) (m mg mb : Str → Option Value) (mean : ExcName → Option Value) (s : Shared) (Q E : Value → Shared → Prop)
    (rest : List (Addr × Obj)) (pc q la lb : Nat) (e1 : Nat) (tb : Array Value) (tx ty : Tok)
    (B : Below A₀ base outer h₀) (F : Fr h₀ L s.heap m) (X : (hd2.heap_39 w.params).In h₀) (T : Top topProg lo3 mean mg mb h₀)
    (hk : cs.kind = .function) (hd : dp + 40 < recursionLimit) (hu : un + 600 < cLine)
    (N : News h₀ L s.heap ((lb, listOf (strValues [(Str.ofString "m", ty)]).toArray 0) :: (la, listOf (strValues [(Str.ofString "x", tx)]).toArray 0) :: (q, bfmObj "list.append" (.ref pc)) :: (pc, listOf #[] e1) :: (130, tabObj tb) :: rest))
    (hq : 130 < pc ∧ pc < q ∧ q < la ∧ la < lb) (r1 : ∀ p ∈ rest, p.1 ≠ 130) (r2 : ∀ p ∈ rest, p.1 ≠ pc) (hb : AllBare s.gens) (htb : TabSt lamPos lamQ tb rest)
    (hQ : ∀ (wr : Nat) nw' h' tk', Fr h₀ L h' m → News h₀ L h' nw' → Wr w wr pc rest 0 (Str.ofString "") 0 false 0 nw' s.gens → Q (.ref wr) { s with heap := h', toks := tk' }) :
    wpAny (model P3 w) (ktrTop dp un gd cn cs L a ccd cl outer) (call (.ref 157) [.ref q] [(Str.ofString "strip_text", .bool true), (Str.ofString "exclude_tags", .ref la), (Str.ofString "exclude_attrs", .ref lb)]) Q E s := by
  refine init_c w dp un gd cn cs a ccd cl outer A₀ base h₀ L m mg mb mean s Q E rest pc q la lb e1 tb tx ty B F X T hk hd hu N hq r1 r2 ?_
  intro wd wr ea et dl nsd ns pm ps oE oT rest1 tkW t0 nsds nss e0 e1 e2 e3 e4 e5 h1h tk1 F1 N1 O1 W1 Ns1 l1 l2 sub1 hea het hSE hST
  obtain ⟨v0, rfl⟩ := List.length_eq_one_iff.mp l1
  refine hQ wr _ h1h tk1 F1 N1 (.mk tkW ea et t0 0 oE oT wd q dl nsd ns pm ps false false [] v0 nss [] [] tb e0 e1 e2 e3 e4 e5 rest1 ?_ O1 W1 (tabSt_mono htb sub1) sub1 hb Ns1 rfl rfl l2 rfl (Nat.le_refl _) (fun h => absurd h (Nat.lt_irrefl _)) hea het hSE hST)
  rw [List.map_nil, List.append_nil]
  rfl
end
local macro_rules | `(tactic| walk_at "subscriptTail") => mqT "(line - (subscriptTail _ _ (Value.ref _) (Value.int _ _)) (rule itemAt amqA.w -))"
theorem topOff12 : True := by
  w_top off
  trivial
section
open PySem PySem.W PyProof.Rows PySem.Calls PySem.Spec
noncomputable def rS : Nat → Str
  | 0 => Str.ofString "0"
  | 1 => Str.ofString "1"
  | _ => Str.ofString "2"
theorem rS_str {r : Nat} (h : r < 3) : Str.ofString (toString (r : Int)) = rS r := by
  obtain rfl | rfl | rfl : r = 0 ∨ r = 1 ∨ r = 2 := by walk_at "AR"
  all_goals decide +kernel
structure Box (p : Prop) : Prop where
  out : p
inductive Tq where
  | node (p r c : Nat) (ts : List Tq)
noncomputable def Tq.root : Tq → Nat
  | .node p _ _ _ => p
theorem rS_at {r : Nat} (h : r < 3) : AttrV (rS r) (rS r) := by
  obtain rfl | rfl | rfl : r = 0 ∨ r = 1 ∨ r = 2 := by walk_at "AR"
  · exact .r0
  · exact .r1
  · exact .r2
mutual
noncomputable def wrT : Tq → Str
  | .node _ r _ ts => opA (rS r) ++ wrL ts ++ clA
noncomputable def wrL : List Tq → Str
  | [] => Str.ofString ""
  | t :: r => wrT t ++ wrL r
end
theorem wrT_e1 (u1) (u2) (r) (ts) : wrT (.node u1 r u2 ts) = opA (rS r) ++ wrL ts ++ clA := rfl
theorem wrL_e1 : wrL [] = Str.ofString "" := rfl
theorem wrL_e2 (t) (r) : wrL (t :: r) = wrT t ++ wrL r := rfl
mutual
noncomputable def depq : Tq → Nat
  | .node _ _ _ ts => depqL ts + 1
noncomputable def depqL : List Tq → Nat
  | [] => 0
  | t :: r => max (depq t) (depqL r)
end
theorem depq_e1 (u1) (u2) (u3) (ts) : depq (.node u1 u2 u3 ts) = depqL ts + 1 := rfl
theorem depqL_e1 : depqL [] = 0 := rfl
theorem depqL_e2 (t) (r) : depqL (t :: r) = max (depq t) (depqL r) := rfl
mutual
noncomputable def sizq : Tq → Nat
  | .node _ _ _ ts => sizqL ts + 1
noncomputable def sizqL : List Tq → Nat
  | [] => 0
  | t :: r => sizq t + sizqL r
end
theorem sizq_e1 (u1) (u2) (u3) (ts) : sizq (.node u1 u2 u3 ts) = sizqL ts + 1 := rfl
theorem sizqL_e1 : sizqL [] = 0 := rfl
theorem sizqL_e2 (t) (r) : sizqL (t :: r) = sizq t + sizqL r := rfl
theorem depq_le : ∀ {ts : List Tq} {t : Tq}, t ∈ ts → depq t ≤ depqL ts
  | _ :: r, t, h => by
    rcases List.mem_cons.mp h with rfl | h
    · ((first | rw [depqL_e1] | rw [depqL_e2])); exact Nat.le_max_left _ _
    · ((first | rw [depqL_e1] | rw [depqL_e2])); exact Nat.le_trans (depq_le h) (Nat.le_max_right _ _)
theorem wrL_take {ts : List Tq} {i : Nat} {t : Tq} (h : ts[i]? = some t) : wrL (ts.take (i + 1)) = wrL (ts.take i) ++ wrT t := by
  induction ts generalizing i with
  | nil => simp at h
  | cons u r ih =>
    cases i with
    | zero =>
      simp at h; subst h
      show wrT u ++ Str.ofString "" = Str.ofString "" ++ wrT u
      rw [app_nil', nil_app']
    | succ i =>
      (rewrite [List.take_succ_cons, List.take_succ_cons]; (first | rewrite [wrL_e1] | rewrite [wrL_e2]); (first | rewrite [wrL_e1] | rewrite [wrL_e2]); rw [ih (by simpa using h), app_assoc'])
theorem sizqL_take {ts : List Tq} {i : Nat} {t : Tq} (h : ts[i]? = some t) : sizqL (ts.take (i + 1)) = sizqL (ts.take i) + sizq t ∧ sizqL (ts.take i) + sizq t ≤ sizqL ts := by
  induction ts generalizing i with
  | nil => simp at h
  | cons u r ih =>
    cases i with
    | zero =>
      simp at h; subst h
      simp only [List.take_succ_cons, List.take_zero, sizqL_e1, sizqL_e2]; exact ⟨Nat.add_comm _ _, by lia⟩
    | succ i =>
      have h9 := ih (i := i) (by simpa using h)
      simp only [List.take_succ_cons, sizqL_e1, sizqL_e2]; lia
inductive TqIn (news : List (Addr × Obj)) (ka rv cv : List Value) : Tq → Prop
  | node {p r c : Nat} {ts : List Tq} {a : Addr} {vs : List Value} {n : Nat} {t t2 : Tok} (hp : p < 100) (h1 : ka[p]? = some (.ref a)) (h2 : (a, listOf vs.toArray n) ∈ news) (h3 : IntsAre vs (ts.map fun t => (t.root : Int)))
      (h4 : rv[p]? = some (.int (r : Int) t)) (h5 : cv[p]? = some (.int (c : Int) t2)) (h6 : ∀ t' ∈ ts, TqIn news ka rv cv t') (h7 : ts.length ≤ 100) (h8 : r < 3) (h9 : c < 4) : TqIn news ka rv cv (.node p r c ts)
theorem TqIn.mono {news news' : List (Addr × Obj)} {ka rv cv : List Value} {t : Tq} (h : TqIn news ka rv cv t) (hs : ∀ p ∈ news, p ∈ news') : TqIn news' ka rv cv t := by
  induction h with
  | node hp h1 h2 h3 h4 h5 _ h7 h8 h9 ih => exact .node hp h1 (hs _ h2) h3 h4 h5 ih h7 h8 h9
inductive QMid (h₀ : Heap) (L : Addr) (s₁ : Shared) (m' : Str → Option Value) (w : World) (wr pc : Nat) (rest : List (Addr × Obj)) (n : Nat) (out : Str) (len : Nat) : Flow → Shared → Prop
  | mk (h : Heap) (tk : Nat) (g : Gens) (d : Drawn) (pend : Bool) (nw : List (Addr × Obj)) (F : Fr h₀ L h m') (N : News h₀ L h nw) (W : Wr w wr pc rest n out len pend 0 nw g) : QMid h₀ L s₁ m' w wr pc rest n out len .next { s₁ with heap := h, toks := tk, gens := g, drawn := d }
theorem q_mid {M : Model} {A : Around} {t : Sem Flow} {E : Value → Shared → Prop} {Q : Flow → Shared → Prop} {s s9 : Shared} {h₀ h : Heap} {L : Addr} {m' : Str → Option Value} {w : World} {wr pc : Nat} {rest : List (Addr × Obj)} {n : Nat} {out : Str} {len : Nat} (_F : Fr h₀ L h m')
    (h1 : wpAny M A t (QMid h₀ L s m' w wr pc rest n out len) E s9) (h2 : ∀ fl s', QMid h₀ L s m' w wr pc rest n out len fl s' → Q fl s') : wpAny M A t Q E s9 := wpAny_mono h1 h2 fun _ _ x => x
inductive TeJ (w : World) (wr pc : Nat) (rest : List (Addr × Obj)) (K R C : Nat) (n : Nat) (out : Str) (len : Nat) (m₁ : Str → Option Value) (nw : List (Addr × Obj)) (g : Gens) : Prop
  | mk (pend : Bool) (W : Wr w wr pc rest n out len pend 0 nw g) (mw : m₁ (Str.ofString "writer") = some (.ref wr)) (mk : m₁ (Str.ofString "kids") = some (.ref K)) (mr : m₁ (Str.ofString "rooms") = some (.ref R)) (mc : m₁ (Str.ofString "chaff") = some (.ref C)) : TeJ w wr pc rest K R C n out len m₁ nw g
local macro_rules | `(tactic| walk_at "callWith ref") => mqT "(line - (callWith _ (Value.ref _) (List.cons (Value.ref _) List.nil) (backTo _ (starEach (List.cons _ _) _)) List.nil) (seq (rule callWith_K ai. -) k_whole))"
set_option maxHeartbeats 4000000 in
theorem tell_c (n : Nat) : ∀ (t : Tq), depq t ≤ n → ∀ (w : World) (dp un : Nat) (gd : Option (List Code)) (cn : Str) (cs : Scope) (a : Addr) (ccd : Value) (cl : List (Str × Addr)) (outer : List Env) (A₀ : Around) (base h₀ : Heap) (L : Addr) (m mg mb : Str → Option Value) (mean : ExcName → Option Value) (s : Shared) (Q E : Value → Shared → Prop)
    (rest nw : List (Addr × Obj)) (wr pc k : Nat) (out : Str) (len : Nat) (pend : Bool) (K R C : Nat) (ka rv cv : List Value) (kn rn cn9 : Nat) (tp : Tok)
    (B : Below A₀ base outer h₀) (F : Fr h₀ L s.heap m) (X : (hd2.heap_39 w.params).In h₀) (T : Top topProg lo3 mean mg mb h₀)
    (hk : cs.kind = .function) (hd : dp + 20 * n + 80 < recursionLimit) (hu : un + 300 * n + 1200 < cLine)
    (N : News h₀ L s.heap nw)
    (hW : Wr w wr pc rest k out len pend 0 nw s.gens) (hlen : len + 4 * sizq t ≤ 900) (hk9 : k + n ≤ 800) (hC : CodeHd h₀ 132 130)
    (hK : (K, listOf ka.toArray kn) ∈ rest) (hR : (R, listOf rv.toArray rn) ∈ rest) (hCh : (C, listOf cv.toArray cn9) ∈ rest) (hT : TqIn rest ka rv cv t)
    (hQ : ∀ nw' h' tk' g' d', Fr h₀ L h' m → News h₀ L h' nw' → Wr w wr pc rest k (out ++ wrT t) (len + 4 * sizq t) false 0 nw' g' → Q .none { s with heap := h', toks := tk', gens := g', drawn := d' }),
    wpAny (model P3 w) (ktrTop dp un gd cn cs L a ccd cl outer) (call (.ref 182) [.ref wr, .ref K, .ref R, .ref C, .int (t.root : Int) tp]) Q E s := by
  induction n with
  | zero =>
    intro t ht
    cases t with
    | node p r c ts => rw [depq_e1] at ht; exact absurd ht (Nat.not_succ_le_zero _)
  | succ n ih =>
    intro t ht w dp un gd cn cs a ccd cl outer A₀ base h₀ L m mg mb mean s Q E rest nw wr pc k out len pend K R C ka rv cv kn rn cn9 tp B F X T hk hd hu N hW hlen hk9 hC hK hR hCh hT hQ
    have ihB := Box.mk ih
    clear ih
    obtain ⟨hp, h1, h2, h3, h4, h5, h6, h7, h8, h9⟩ := hT
    rename_i p r c ts aK vs nK tR tC
    dsimp only [Tq.root]
    have h6B := Box.mk h6
    clear h6
    have h1' : ka.toArray[p]? = some (Value.ref aK) := by simpa using h1
    have h4' : rv.toArray[p]? = some (Value.int (r : Int) tR) := by simpa using h4
    have h5' : cv.toArray[p]? = some (Value.int (c : Int) tC) := by simpa using h5
    have hsiz : sizq (.node p r c ts) = sizqL ts + 1 := by rw [sizq_e1]
    rw [hsiz] at hlen
    have hKt := hW.mem hK
    have hRt := hW.mem hR
    have hCt := hW.mem hCh
    obtain ⟨wd1, tkA, qA, dlA, nsdA, nsA, pmA, psA, seA, doA, t0A, eA, hig1, hwr1, hwd1⟩ := hW.objs
    refine wpAny_call ?_
    k_dflt k_enter
    refine hideTok fun tkZ => ?_
    rename (Fr _ _ _ _) => F0
    obtain ⟨m9, hm9, F1⟩ : ∃ m', m' = _ ∧ Fr _ _ _ m' := ⟨_, rfl, F0⟩
    have i_writer : m9 (Str.ofString "writer") = some (.ref wr) := by rw [hm9]; exact rfl
    have i_kids : m9 (Str.ofString "kids") = some (.ref K) := by rw [hm9]; exact rfl
    have i_rooms : m9 (Str.ofString "rooms") = some (.ref R) := by rw [hm9]; exact rfl
    have i_chaff : m9 (Str.ofString "chaff") = some (.ref C) := by rw [hm9]; exact rfl
    have i_place : m9 (Str.ofString "place") = some (.int (p : Int) tp) := by rw [hm9]; exact rfl
    clear hm9 F0
    repeat ((fail_if_success (with_reducible show wpAny _ _ (call (Value.ref 127) _) _ _ _)); (first | (k_unfold; (try dsimp only)) | walk1 | (dsimp only; walk1) | (leave1; try dsimp only)))
    rename (Obj.IsDictOf _ _ (strPairs _)) => hd9
    dsimp only [strPairs] at hd9
    rw [rS_str h8] at hd9
    clear hwr1 hwd1
    refine' start_w _ _ _ _ _ _ _ _ _ _ _ _ _ _ _ _ _ _ _ _ _ rest nw wr pc k out len pend _ _ _ (rS r) (rS r) _ _ _ ?uB ?uF ?uX ?uT ?uk ?ud ?uu ?uN hW ?lt (by walk_at "AR") (by walk_at "AR") (rS_at h8) hd9 ?d3 ?hC ?hQ
    case uB => k_asm
    case uF => k_asm
    case uX => k_in
    case uT => k_asm
    case uk => exact rfl
    case ud => ktr_room
    case uu => ktr_units
    case uN => k_asm
    case lt => k_asm
    case d3 => assumption
    case hC => exact CodeHd.keeps hC (Fr.keep (by assumption))
    case hQ =>
    intro nw2 h2h tk2 g2 d2 F2 N2 W2
    clear hd9
    have hKt2 := W2.mem hK
    have hRt2 := W2.mem hR
    have hCt2 := W2.mem hCh
    repeat ((fail_if_success (with_reducible show wpAny _ _ (exec (.If _ _ _ _) _) _ _ _)); (first | (k_unfold; (try dsimp only)) | walk1 | (dsimp only; walk1) | (leave1; try dsimp only)))
    rename (Fr _ _ _ _) => F5
    refine q_mid (s := s) (w := w) (wr := wr) (pc := pc) (rest := rest) (n := k + 1) (out := out ++ opA (rS r)) (len := len + 3) F5 ?c1 (fun fl s6 hM => ?t1)
    case c1 =>
      obtain ⟨wd1, tkA, qA, dlA, nsdA, nsA, pmA, psA, seA, doA, t0A, eA, hig1, hwr1, hwd1⟩ := W2.objs
      repeat ((fail_if_success (with_reducible show wpAny _ _ (truthy (.bool _)) _ _ _)); (first | (k_unfold; (try dsimp only)) | walk1 | (dsimp only; walk1) | (leave1; try dsimp only)))
      clear hwr1 hwd1
      cases hcb : ((c : Int).fmod 2 == 1) with
      | false =>
        repeat (first | (k_unfold; (try dsimp only)) | walk1 | (dsimp only; walk1) | (leave1; try dsimp only))
        rename (Fr _ _ _ _) => F6
        rename (News _ _ _ _) => N6
        exact QMid.mk _ _ _ _ _ _ F6 N6 W2
      | true =>
        obtain ⟨wd1, tkA, qA, dlA, nsdA, nsA, pmA, psA, seA, doA, t0A, eA, hig1, hwr1, hwd1⟩ := W2.objs
        repeat ((fail_if_success (with_reducible show wpAny _ _ (call (Value.ref 104) _) _ _ _)); (first | (k_unfold; (try dsimp only)) | walk1 | (dsimp only; walk1) | (leave1; try dsimp only)))
        rename (News _ _ _ _) => N3
        clear hwr1 hwd1
        refine' data_w _ _ _ _ _ _ _ _ _ _ _ _ _ _ _ _ _ _ _ _ _ rest nw2 wr pc (k + 1) _ _ _ ?uB ?uF ?uX ?uT ?uk ?ud ?uu ?uN W2 (by walk_at "AR") ?hQ
        case uB => k_asm
        case uF => k_asm
        case uX => k_in
        case uT => k_asm
        case uk => exact rfl
        case ud => ktr_room
        case uu => ktr_units
        case uN => first | exact N3 | exact newsSub N3 fun p hp => .tail _ hp
        case hQ =>
        clear N3
        intro nw3 h3h tk3 g3 d3 F3 N3 W3
        obtain ⟨wd1, tkA, qA, dlA, nsdA, nsA, pmA, psA, seA, doA, t0A, eA, hig1, hwr1, hwd1⟩ := W3.objs
        repeat ((fail_if_success (with_reducible show wpAny _ _ (call (Value.ref 147) _) _ _ _)); (first | (k_unfold; (try dsimp only)) | walk1 | (dsimp only; walk1) | (leave1; try dsimp only)))
        rename (News _ _ _ _) => N3
        clear hwr1 hwd1
        refine' comment_w _ _ _ _ _ _ _ _ _ _ _ _ _ _ _ _ _ _ _ _ _ rest nw3 wr pc (k + 1) _ _ true 0 _ _ ?uB ?uF ?uX ?uT ?uk ?ud ?uu ?uN W3 (by walk_at "AR") ?hQ
        case uB => k_asm
        case uF => k_asm
        case uX => k_in
        case uT => k_asm
        case uk => exact rfl
        case ud => ktr_room
        case uu => ktr_units
        case uN => first | exact N3 | exact newsSub N3 fun p hp => .tail _ hp
        case hQ =>
        clear N3
        intro nw4 h4h tk4 g4 d4 F4 N4 W4
        repeat (first | (k_unfold; (try dsimp only)) | walk1 | (dsimp only; walk1) | (leave1; try dsimp only))
        rename (Fr _ _ _ _) => F6
        rename (News _ _ _ _) => N6
        exact QMid.mk _ _ _ _ _ _ F6 N6 W4
    case t1 =>
    obtain ⟨h5h, tk5, g5, d5, pe5, nw5, F7, N5, W5⟩ := hM
    clear W2 N2 F5
    have hKt5 := W5.mem hK
    have hRt5 := W5.mem hR
    have hCt5 := W5.mem hCh
    repeat ((fail_if_success (with_reducible show wpAny _ _ (exec (.If _ _ _ _) _) _ _ _)); (first | (k_unfold; (try dsimp only)) | walk1 | (dsimp only; walk1) | (leave1; try dsimp only)))
    rename (Fr _ _ _ _) => F5
    refine q_mid (s := s) (w := w) (wr := wr) (pc := pc) (rest := rest) (n := k + 1) (out := out ++ opA (rS r)) (len := len + 3) F5 ?c2 (fun fl s6 hM => ?t2)
    case c2 =>
      repeat ((fail_if_success (with_reducible show wpAny _ _ (truthy (.bool _)) _ _ _)); (first | (k_unfold; (try dsimp only)) | walk1 | (dsimp only; walk1) | (leave1; try dsimp only)))
      cases hcb : ((c : Int).fdiv 2 == 1) with
      | false =>
        repeat (first | (k_unfold; (try dsimp only)) | walk1 | (dsimp only; walk1) | (leave1; try dsimp only))
        rename (Fr _ _ _ _) => F6
        rename (News _ _ _ _) => N6
        exact QMid.mk _ _ _ _ _ _ F6 N6 W5
      | true =>
        obtain ⟨wd1, tkA, qA, dlA, nsdA, nsA, pmA, psA, seA, doA, t0A, eA, hig1, hwr1, hwd1⟩ := W5.objs
        repeat ((fail_if_success (with_reducible show wpAny _ _ (call (Value.ref 127) _) _ _ _)); (first | (k_unfold; (try dsimp only)) | walk1 | (dsimp only; walk1) | (leave1; try dsimp only)))
        rename (News _ _ _ _) => N3
        clear hwr1 hwd1
        refine' start_w0 _ _ _ _ _ _ _ _ _ _ _ _ _ _ _ _ _ _ _ _ _ rest nw5 wr pc (k + 1) _ _ pe5 _ _ ?uB ?uF ?uX ?uT ?uk ?ud ?uu ?uN W5 (by walk_at "AR") ?hQ
        case uB => k_asm
        case uF => k_asm
        case uX => k_in
        case uT => k_asm
        case uk => exact rfl
        case ud => ktr_room
        case uu => ktr_units
        case uN => first | exact N3 | exact newsSub N3 fun p hp => .tail _ hp
        case hQ =>
        clear N3
        intro nw6 h6h tk6 g6 d6 F6 N6 W6
        obtain ⟨wd1, tkA, qA, dlA, nsdA, nsA, pmA, psA, seA, doA, t0A, eA, hig1, hwr1, hwd1⟩ := W6.objs
        repeat ((fail_if_success (with_reducible show wpAny _ _ (call (Value.ref 127) _) _ _ _)); (first | (k_unfold; (try dsimp only)) | walk1 | (dsimp only; walk1) | (leave1; try dsimp only)))
        rename (News _ _ _ _) => N3
        clear hwr1 hwd1
        refine' start_w1 _ _ _ _ _ _ _ _ _ _ _ _ _ _ _ _ _ _ _ _ _ rest nw6 wr pc (k + 1) _ _ pe5 _ _ _ ?uB ?uF ?uX ?uT ?uk ?ud ?uu ?uN W6 (by walk_at "AR") ?hQ
        case uB => k_asm
        case uF => k_asm
        case uX => k_in
        case uT => k_asm
        case uk => exact rfl
        case ud => ktr_room
        case uu => ktr_units
        case uN => first | exact N3 | exact newsSub N3 fun p hp => .tail _ hp
        case hQ =>
        clear N3
        intro nw7 h7h tk7 g7 d7 F7 N7 W7
        obtain ⟨wd1, tkA, qA, dlA, nsdA, nsA, pmA, psA, seA, doA, t0A, eA, hig1, hwr1, hwd1⟩ := W7.objs
        repeat ((fail_if_success (with_reducible show wpAny _ _ (call (Value.ref 104) _) _ _ _)); (first | (k_unfold; (try dsimp only)) | walk1 | (dsimp only; walk1) | (leave1; try dsimp only)))
        rename (News _ _ _ _) => N3
        clear hwr1 hwd1
        refine' data_wi _ _ _ _ _ _ _ _ _ _ _ _ _ _ _ _ _ _ _ _ _ rest nw7 wr pc (k + 1) _ _ pe5 _ _ ?uB ?uF ?uX ?uT ?uk ?ud ?uu ?uN W7 (by walk_at "AR") ?hQ
        case uB => k_asm
        case uF => k_asm
        case uX => k_in
        case uT => k_asm
        case uk => exact rfl
        case ud => ktr_room
        case uu => ktr_units
        case uN => first | exact N3 | exact newsSub N3 fun p hp => .tail _ hp
        case hQ =>
        clear N3
        intro nw8 h8h tk8 g8 d8 F8 N8 W8
        obtain ⟨wd1, tkA, qA, dlA, nsdA, nsA, pmA, psA, seA, doA, t0A, eA, hig1, hwr1, hwd1⟩ := W8.objs
        repeat ((fail_if_success (with_reducible show wpAny _ _ (call (Value.ref 140) _) _ _ _)); (first | (k_unfold; (try dsimp only)) | walk1 | (dsimp only; walk1) | (leave1; try dsimp only)))
        rename (News _ _ _ _) => N3
        clear hwr1 hwd1
        refine' end_w2 _ _ _ _ _ _ _ _ _ _ _ _ _ _ _ _ _ _ _ _ _ rest nw8 wr pc (k + 1) _ _ pe5 _ _ ?uB ?uF ?uX ?uT ?uk ?ud ?uu ?uN W8 (by walk_at "AR") ?hQ
        case uB => k_asm
        case uF => k_asm
        case uX => k_in
        case uT => k_asm
        case uk => exact rfl
        case ud => ktr_room
        case uu => ktr_units
        case uN => first | exact N3 | exact newsSub N3 fun p hp => .tail _ hp
        case hQ =>
        clear N3
        intro nw9 h9h tk9 g9 d9 F9 N9 W9
        obtain ⟨wd1, tkA, qA, dlA, nsdA, nsA, pmA, psA, seA, doA, t0A, eA, hig1, hwr1, hwd1⟩ := W9.objs
        repeat ((fail_if_success (with_reducible show wpAny _ _ (call (Value.ref 140) _) _ _ _)); (first | (k_unfold; (try dsimp only)) | walk1 | (dsimp only; walk1) | (leave1; try dsimp only)))
        rename (News _ _ _ _) => N3
        clear hwr1 hwd1
        refine' end_w1 _ _ _ _ _ _ _ _ _ _ _ _ _ _ _ _ _ _ _ _ _ rest nw9 wr pc (k + 1) _ _ pe5 _ _ ?uB ?uF ?uX ?uT ?uk ?ud ?uu ?uN W9 (by walk_at "AR") ?hQ
        case uB => k_asm
        case uF => k_asm
        case uX => k_in
        case uT => k_asm
        case uk => exact rfl
        case ud => ktr_room
        case uu => ktr_units
        case uN => first | exact N3 | exact newsSub N3 fun p hp => .tail _ hp
        case hQ =>
        clear N3
        intro nw10 h10h tk10 g10 d10 F10 N10 W10
        repeat (first | (k_unfold; (try dsimp only)) | walk1 | (dsimp only; walk1) | (leave1; try dsimp only))
        rename (Fr _ _ _ _) => F6
        rename (News _ _ _ _) => N6
        exact QMid.mk _ _ _ _ _ _ F6 N6 W10
    case t2 =>
    obtain ⟨h6h, tk6, g6, d6, pe6, nw6, F6, N6, W6⟩ := hM
    clear W5 N5 F5 hKt hRt hCt hKt2 hRt2 hCt2 hKt5 hRt5 hCt5
    have hKt6 := W6.mem hK
    have haK6 := W6.mem h2
    repeat ((fail_if_success (with_reducible show wpAny _ _ (exec (Stmt.For _ _ _ _ _) _) _ _ _)); (first | (k_unfold; (try dsimp only)) | walk1 | (dsimp only; walk1) | (leave1; try dsimp only)))
    refine' For_J F6 rfl rfl (by exact rfl) ?_
    iterate 4 (first | (k_unfold; (try dsimp only)) | walk1 | (dsimp only; walk1) | (leave1; try dsimp only))
    rename (News _ _ _ _) => N7
    refine .inl ⟨aK, vs.toArray, nK, _, _, rfl, F6, N7, haK6, (fun i => TeJ w wr pc rest K R C (k + 1) (out ++ opA (rS r) ++ wrL (ts.take i)) (len + 3 + 4 * sizqL (ts.take i))), ?j0, ?turn, ?done⟩
    case j0 =>
      dsimp only
      (rewrite [List.take_zero]; (first | rewrite [wrL_e1] | rewrite [wrL_e2]); rw [app_nil'])
      exact .mk pe6 W6 i_writer i_kids i_rooms i_chaff
    case turn =>
      intro i v I oI m₁ h6 tk6 g6 d6 nw hi hv hJ hS F7 N7 off7 it7
      obtain ⟨pe7, W7, mw, mk, mr, mc⟩ := hJ
      obtain ⟨n7, t7, rfl, hn7⟩ := h3.at i v (by simpa using hv)
      obtain ⟨t', hti, rfl⟩ : ∃ t', ts[i]? = some t' ∧ (t'.root : Int) = n7 := by
        rw [List.getElem?_map] at hn7
        cases e : ts[i]? with
        | none => rw [e] at hn7; cases hn7
        | some t' => rw [e] at hn7; exact ⟨t', rfl, Option.some.inj hn7⟩
      have hmem : t' ∈ ts := List.mem_of_getElem? hti
      obtain ⟨hsz7, hsz8⟩ := sizqL_take hti
      have hdp := depq_le hmem
      obtain ⟨nwk, W8, sub8⟩ := W7.keep (a := I) (o := oI) (off1_mem nw off7)
      have offr : ∀ p ∈ rest, @Ne Nat p.1 I := fun p hp => off1_mem nw off7 p (W7.mem hp)
      have N8 := newsSub N7 sub8
      clear N7 sub8 hv W7
      dsimp only [stG]
      repeat ((fail_if_success (with_reducible show wpAny _ _ (call (Value.ref 182) _) _ _ _)); (first | (k_unfold; (try dsimp only)) | walk1 | (dsimp only; walk1) | (leave1; try dsimp only)))
      refine' ihB.out t' ?q1 _ _ _ _ _ _ _ _ _ _ _ _ _ _ _ _ _ _ _ _ _ ((I, oI) :: rest) nwk wr pc (k + 1) _ _ pe7 K R C ka rv cv kn rn cn9 _ ?uB ?uF ?uX ?uT ?uk ?ud ?uu ?uN W8 (by walk_at "AR") (by walk_at "AR") ?hC (.tail _ hK) (.tail _ hR) (.tail _ hCh) ((h6B.out t' hmem).mono fun p hp => .tail _ hp) ?hQ
      case uB => k_asm
      case uF => k_asm
      case uX => k_in
      case uT => k_asm
      case uk => exact rfl
      case ud => ktr_room
      case uu => ktr_units
      case q1 => rw [depq_e1] at ht; walk_at "AR"
      case uN => k_asm
      case hC => exact CodeHd.keeps hC (Fr.keep (by assumption))
      case hQ =>
      intro nw9 h9h tk9 g9 d9 F9 N9 W9
      repeat (first | (k_unfold; (try dsimp only)) | walk1 | (dsimp only; walk1) | (leave1; try dsimp only))
      obtain ⟨nw10, W10, N10, off10⟩ := W9.cut N9 it7 offr
      refine ⟨_, _, _, _, _, nw10, F9, N10, off10, .inr ⟨_, W10.mem h2, rfl, _, rfl⟩, .mk false ?_ (Eq.trans (if_neg (by decide +kernel)) mw) (Eq.trans (if_neg (by decide +kernel)) mk) (Eq.trans (if_neg (by decide +kernel)) mr) (Eq.trans (if_neg (by decide +kernel)) mc)⟩
      rw [wrL_take hti, hsz7, ← app_assoc']
      exact W10.less (fun _ h => h) (by walk_at "AR")
    case done =>
      intro m₁ nw h6 tk6 g6 d6 hJ F7 N7
      obtain ⟨pe7, W7, mw, mk, mr, mc⟩ := hJ
      have e9 : ts.take vs.toArray.size = ts := by
        have h9 := h3.length
        rw [List.length_map] at h9
        rw [List.size_toArray, h9, List.take_length]
      rw [e9] at W7
      obtain ⟨wd1, tkA, qA, dlA, nsdA, nsA, pmA, psA, seA, doA, t0A, eA, hig1, hwr1, hwd1⟩ := W7.objs
      dsimp only [stG]
      repeat ((fail_if_success (with_reducible show wpAny _ _ (call (Value.ref 140) _) _ _ _)); (first | (k_unfold; (try dsimp only)) | walk1 | (dsimp only; walk1) | (leave1; try dsimp only)))
      refine' end_w _ _ _ _ _ _ _ _ _ _ _ _ _ _ _ _ _ _ _ _ _ rest nw wr pc k _ _ pe7 _ ?uB ?uF ?uX ?uT ?uk ?ud ?uu ?uN W7 (by walk_at "AR") (by walk_at "AR") ?hC ?hQ
      case uB => k_asm
      case uF => k_asm
      case uX => k_in
      case uT => k_asm
      case uk => exact rfl
      case ud => ktr_room
      case uu => ktr_units
      case uN => k_asm
      case hC => exact CodeHd.keeps hC (Fr.keep (by assumption))
      case hQ =>
      clear hwr1 hwd1
      intro nw8 h8h tk8 g8 d8 F8 N8 W8
      repeat (first | (k_unfold; (try dsimp only)) | walk1 | (dsimp only; walk1) | (leave1; try dsimp only))
      clear N
      rename (News h₀ L _ _) => N9
      refine hQ _ _ _ _ _ (by assumption) N9 ?_
      rw [wrT_e1, hsiz, ← app_assoc', ← app_assoc']
      exact W8.less (fun _ h => h) (by walk_at "AR")
end
theorem topOff13 : True := by
  w_top off
  trivial
section
local macro_rules | `(tactic| walk_at "ZZ") => `(tactic| skip)
open PySem PySem.W PyProof.Rows PySem.Calls PySem.Spec
local macro_rules | `(tactic| walk_at "callWith ref") => mqT "(line - (callWith _ (Value.ref _) (List.cons (Value.ref _) List.nil) (backTo _ (starEach (List.cons _ _) _)) List.nil) (seq (rule callWith_K ai. -) k_whole))"
set_option maxHeartbeats 4000000 in
theorem written_c (w : World) (dp un : Nat) (gd : Option (List Code)) (cn : Str) (cs : Scope) (a : Addr) (ccd : Value) (cl : List (Str × Addr)) (outer : List Env) (A₀ : Around) (base h₀ : Heap) (L : Addr) (m mg mb : Str → Option Value) (mean : ExcName → Option Value) (s : Shared) (Q E : Value → Shared → Prop)
    (rest : List (Addr × Obj)) (tb : Array Value) (t : Tq) (K R C : Nat) (ka rv cv : List Value) (kn rn cn9 : Nat)
    (B : Below A₀ base outer h₀) (F : Fr h₀ L s.heap m) (X : (hd2.heap_39 w.params).In h₀) (T : Top topProg lo3 mean mg mb h₀)
    (hk : cs.kind = .function) (hd : dp + 300 < recursionLimit) (hu : un + 6000 < cLine)
    (N : News h₀ L s.heap ((130, tabObj tb) :: rest))
    (r1 : ∀ p ∈ rest, p.1 ≠ 130) (htb : TabSt lamPos lamQ tb rest) (hb : AllBare s.gens) (hC : CodeHd h₀ 132 130)
    (hn : depq t ≤ 9) (hsz : 4 * sizq t ≤ 900) (hwl : (wrT t).length ≤ 5000) (hrt : t.root = 0) (hK : (K, listOf ka.toArray kn) ∈ rest) (hR : (R, listOf rv.toArray rn) ∈ rest) (hCh : (C, listOf cv.toArray cn9) ∈ rest) (hT : TqIn rest ka rv cv t)
    (hQ : ∀ (tb' : Array Value) (new : List (Addr × Obj)) t' h' tk' gens' d', Fr h₀ L h' m → News h₀ L h' ((130, tabObj tb') :: (new ++ rest)) → TabSt lamPos lamQ tb' new → (∀ p ∈ new, CodeLike p.2) → (∀ p ∈ new, p.1 ≠ 130) → AllBare gens' → Q (.str (wrT t) t') { s with heap := h', toks := tk', gens := gens', drawn := d' }) :
    wpAny (model P3 w) (ktrTop dp un gd cn cs L a ccd cl outer) (call (.ref 189) [.ref K, .ref R, .ref C]) Q E s := by
  have hKt : (K, listOf ka.toArray kn) ∈ (130, tabObj tb) :: rest := .tail _ hK
  refine wpAny_call ?_
  k_dflt k_enter
  refine hideTok fun tkZ => ?_
  rename (Fr _ _ _ _) => F0
  obtain ⟨m9, hm9, F1⟩ : ∃ m', m' = _ ∧ Fr _ _ _ m' := ⟨_, rfl, F0⟩
  have i_kids : m9 (Str.ofString "kids") = some (.ref K) := by rw [hm9]; exact rfl
  have i_rooms : m9 (Str.ofString "rooms") = some (.ref R) := by rw [hm9]; exact rfl
  have i_chaff : m9 (Str.ofString "chaff") = some (.ref C) := by rw [hm9]; exact rfl
  clear hm9 F0
  repeat ((fail_if_success (with_reducible show wpAny _ _ (getAttr (Value.ref _) (Str.ofString "append") true) _ _ _)); (first | (k_unfold; (try dsimp only)) | walk1 | (dsimp only; walk1) | (leave1; try dsimp only)))
  ((with_reducible show wpAny _ _ (getAttr (Value.ref _) (Str.ofString "append") true) _ _ _); k_dflt (refine' append_attr ?F ?N ?m ?_; (case F => k_asm); (case N => k_asm); (case m => k_mem)); intro q' h' tk' F' N' l1; (try k_lt l1))
  repeat ((fail_if_success (with_reducible show wpAny _ _ (call (Value.ref 157) _ _) _ _ _)); (first | (k_unfold; (try dsimp only)) | walk1 | (dsimp only; walk1) | (leave1; try dsimp only)))
  show wpAny _ _ (call (Value.ref 157) [Value.ref _] [(Str.ofString "strip_text", Value.bool true), (Str.ofString "exclude_tags", Value.ref _), (Str.ofString "exclude_attrs", Value.ref _)]) _ _ _
  rename (News _ _ _ _) => N2
  refine' init_w _ _ _ _ _ _ _ _ _ _ _ _ _ _ _ _ _ _ _ _ _ rest _ _ _ _ _ tb _ _ ?uB ?uF ?uX ?uT ?uk ?ud ?uu ?uN ?uq r1 ?ur2 hb htb ?uQ
  case uB => k_asm
  case uF => k_asm
  case uX => k_in
  case uT => k_asm
  case uk => exact rfl
  case ud => ktr_room
  case uu => ktr_units
  case uN => exact N2
  case uq => (refine ⟨?_, ?_, ?_, ?_⟩ <;> walk_at "LT")
  case ur2 => k_all
  case uQ =>
  intro wr nw1 h1 tk1 F1 N1 W1
  obtain ⟨pc, epc, W1⟩ : ∃ q : Nat, q = _ ∧ Wr w wr q rest 0 _ 0 false 0 nw1 _ := ⟨_, rfl, W1⟩
  subst epc
  repeat ((fail_if_success (with_reducible show wpAny _ _ (call (Value.ref 182) _) _ _ _)); (first | (k_unfold; (try dsimp only)) | walk1 | (dsimp only; walk1) | (leave1; try dsimp only)))
  rename (News _ _ _ _) => N3
  have e0 : (0 : Int) = (t.root : Int) := by rw [hrt]; rfl
  rw [e0]
  refine' tell_c 9 t hn _ _ _ _ _ _ _ _ _ _ _ _ _ _ _ _ _ _ _ _ _ rest nw1 wr pc 0 _ _ false K R C ka rv cv kn rn cn9 _ ?uB ?uF ?uX ?uT ?uk ?ud ?uu ?uN W1 (by walk_at "AR") (by walk_at "AR") ?hC hK hR hCh hT ?hQ
  case uB => k_asm
  case uF => k_asm
  case uX => k_in
  case uT => k_asm
  case uk => exact rfl
  case ud => ktr_room
  case uu => ktr_units
  case uN => exact N3
  case hC => exact CodeHd.keeps hC (Fr.keep (by assumption))
  case hQ =>
  intro nw4 h4 tk4 g4 d4 F4 N4 W4
  rw [nil_app', Nat.zero_add] at W4
  obtain ⟨pcs, e1, hpc, hcat, hlen⟩ := W4.pieces
  repeat ((fail_if_success (with_reducible show wpAny _ _ (call (Value.builtin "str.join") _) _ _ _)); (first | (k_unfold; (try dsimp only)) | walk1 | (dsimp only; walk1) | (leave1; try dsimp only)))
  refine join_led' (l := pcs) (by assumption) hpc ?hz (x := wrT t) ?hx ?hg ?hh
  case hz => rw [fold_len', hcat]; exact decide_eq_false (by rw [sizeLine_eq]; walk_at "AR")
  case hx => rw [glued_cat, hcat]
  case hg => rw [sizeLine_eq]; walk_at "AR"
  case hh =>
  intro uj tkj _
  repeat (first | (k_unfold; (try dsimp only)) | walk1 | (dsimp only; walk1) | (leave1; try dsimp only))
  obtain ⟨tb', new, Nf, Tf, c1, c2⟩ := W4.fin
  exact hQ tb' new uj _ _ _ _ (by assumption) (newsSub (by assumption) Nf) Tf c1 c2 W4.gens
end
theorem topOff14 : True := by
  w_top off
  trivial
section
open PySem PySem.W PyProof.Rows PySem.Calls PySem.Spec
section
variable {prog : Program} {w : World} {A : Around} {E : Value → Shared → Prop} {s : Shared} {h₀ : Heap} {L : Addr} {m : Str → Option Value} {news : List (Addr × Obj)}
theorem tupItem1 {value slice : PySem.Expr} {a : Addr} {vs : List Value} {u : Tok} {v : Value} {Q : Value → Shared → Prop} (N : News h₀ L s.heap news) (hm : (a, tupOf vs) ∈ news) (hk : 1 < vs.length) (hz : vs.length < 1000) (hx : vs[1]? = some v) (h : Q v s)
    (hs : subscripted slice false (.ref a) (.int 1 u) = operate [.ref a, .int 1 u] (getItem (.ref a) (.int 1 u)) := by with_unfolding_all rfl) :
    wpAny (model prog w) A (subscriptTail value slice (.ref a) (.int 1 u)) Q E s := tupItem (k := 1) N hm hk hz hx h hs
end
noncomputable def replS (x y z : Str) : Str := Builtin.Str.glued z (Txt.split x y)
noncomputable def replAll : List (Str × Str) → Str → Str
  | [], x => x
  | p :: r, x => replAll r (replS x p.1 p.2)
theorem replAll_e1 (x) : replAll [] x = x := rfl
theorem replAll_e2 (p) (r) (x) : replAll (p :: r) x = replAll r (replS x p.1 p.2) := rfl
theorem replAll_append (a b : List (Str × Str)) (x : Str) : replAll (a ++ b) x = replAll b (replAll a x) := by
  induction a generalizing x with
  | nil => rfl
  | cons y r ih => exact ih _
noncomputable abbrev PV := Str × Str × Tok × Tok
noncomputable def pairArgs : List PV → List Value
  | [] => []
  | p :: r => .str p.1 p.2.2.1 :: .str p.2.1 p.2.2.2 :: pairArgs r
theorem pairArgs_e1 : pairArgs [] = [] := rfl
theorem pairArgs_e2 (p) (r) : pairArgs (p :: r) = .str p.1 p.2.2.1 :: .str p.2.1 p.2.2.2 :: pairArgs r := rfl
noncomputable abbrev pvs (l : List PV) : List (Str × Str) := l.map fun p => (p.1, p.2.1)
inductive PJ (news : List (Addr × Obj)) (pv : List PV) (x : Str) (n : Nat) (m₁ : Str → Option Value) (nw : List (Addr × Obj)) : Prop
  | mk (T k : Nat) (u : Tok) (hk : k ≤ pv.length) (hn : n = pv.length - k) (mp : m₁ (Str.ofString "pairs") = some (.ref T)) (mt : m₁ (Str.ofString "text") = some (.str (replAll (pvs (pv.take k)) x) u)) (hT : (T, tupOf (pairArgs (pv.drop k))) ∈ nw) (hs : ∀ p ∈ news, p ∈ nw) : PJ news pv x n m₁ nw
theorem pairArgs_len : ∀ l : List PV, (pairArgs l).length = 2 * l.length
  | [] => rfl
  | p :: r => by ((first | rewrite [pairArgs_e1] | rewrite [pairArgs_e2]); rw [List.length_cons, List.length_cons, pairArgs_len r, List.length_cons]); walk_at "AR"
theorem fold_sep (z : Str) : ∀ (l : List Str) (n : Nat), (l.toArray.foldl (fun a x => a + x.length + z.length) n) = n + (catS l).length + l.length * z.length := by
  have e0 : (Str.ofString "").length = 0 := by decide +kernel
  intro l
  induction l with
  | nil => intro n; simp [catS, e0]
  | cons x r ih =>
    intro n
    have h := ih (n + x.length + z.length)
    rw [List.foldl_toArray'] at h ⊢
    · rw [List.foldl_cons, h, catS, PySem.Str.length_append, List.length_cons, Nat.succ_mul]
      walk_at "AR"
    all_goals rfl
theorem glued_fold (z : Array Nat) : ∀ (l : List Str) (a : Array Nat), (l.foldl (fun acc p => acc ++ z ++ p.cps) a).size = a.size + (l.foldl (fun n p => n + z.size + p.cps.size) 0)
  | [], a => by simp
  | x :: r, a => by
    have hs : ∀ (l : List Str) (k : Nat), l.foldl (fun n p => n + z.size + p.cps.size) k = k + l.foldl (fun n p => n + z.size + p.cps.size) 0 := by
      intro l
      induction l with
      | nil => intro k; simp
      | cons y l ih => intro k; rw [List.foldl_cons, List.foldl_cons, ih, ih (0 + _ + _)]; walk_at "AR"
    rw [List.foldl_cons, List.foldl_cons, glued_fold z r, hs r (0 + _ + _), Array.size_append, Array.size_append]
    walk_at "AR"
theorem glued_len (z : Str) : ∀ l : List Str, l ≠ [] → (Builtin.Str.glued z l).length + z.length = (catS l).length + l.length * z.length
  | [], h => absurd rfl h
  | x :: r, _ => by
    have h : (Builtin.Str.glued z (x :: r)).length = x.length + (r.foldl (fun n p => n + z.cps.size + p.cps.size) 0) := glued_fold z.cps r x.cps
    have h2 : ∀ (l : List Str), l.foldl (fun n p => n + z.cps.size + p.cps.size) 0 = (catS l).length + l.length * z.length := by
      intro l
      have h3 := fold_sep z l 0
      have h4 : ∀ (l : List Str) (k : Nat), l.foldl (fun n p => n + z.cps.size + p.cps.size) k = l.foldl (fun a x => a + x.length + z.length) k := by
        intro l
        induction l with
        | nil => intro k; rfl
        | cons y l ih =>
          intro k
          have e : k + z.cps.size + y.cps.size = k + y.length + z.length := by show k + z.length + y.length = _; walk_at "AR"
          rw [List.foldl_cons, List.foldl_cons, ih, e]
      rw [h4, ← List.foldl_toArray']
      · rw [h3]; walk_at "AR"
      · rfl
    rw [h, h2, catS, PySem.Str.length_append, List.length_cons, Nat.succ_mul]
    walk_at "AR"
theorem tooLong_glued {z : Str} {l : List Str} (h1 : z.length ≤ 1000) (h2 : (Builtin.Str.glued z l).length ≤ 100000) : Builtin.Str.tooLong (l.toArray.foldl (· + ·.length + z.length) 0) = false := by
  rw [fold_sep]
  refine decide_eq_false ?_
  rw [sizeLine_eq]
  cases l with
  | nil => 
    have e0 : (Str.ofString "").length = 0 := by decide +kernel
    rw [catS, e0]; simp
  | cons x r =>
    have h := glued_len z (x :: r) (List.cons_ne_nil _ _)
    walk_at "AR"
set_option maxHeartbeats 4000000 in
theorem replace_g (w : World) (dp un : Nat) (gd : Option (List Code)) (cn : Str) (cs : Scope) (a : Addr) (ccd : Value) (cl : List (Str × Addr)) (outer : List Env) (A₀ : Around) (base h₀ : Heap) (L : Addr) (m mg mb : Str → Option Value) (mean : ExcName → Option Value) (s : Shared) (Q E : Value → Shared → Prop)
    (news : List (Addr × Obj)) (pv : List PV) (x : Str) (tx : Tok)
    (B : Below A₀ base outer h₀) (F : Fr h₀ L s.heap m) (X : (hd2.heap_39 w.params).In h₀) (T : Top topProg lo3 mean mg mb h₀)
    (hk : cs.kind = .function) (hd : dp + 40 < recursionLimit) (hu : un + 400 < cLine)
    (N : News h₀ L s.heap (news))
    (hne : ∀ p ∈ pv, (p.1.length == 0) = false ∧ p.2.1.length ≤ 1000) (hlen : pv.length ≤ 100) (hsz : ∀ k, k ≤ pv.length → (replAll (pvs (pv.take k)) x).length ≤ 100000)
    (hQ : ∀ t' h' tk', Fr h₀ L h' m → News h₀ L h' news → Q (.str (replAll (pvs pv) x) t') { s with heap := h', toks := tk' }) :
    wpAny (model P3 w) (ktrTop dp un gd cn cs L a ccd cl outer) (call (.ref 45) (.str x tx :: pairArgs pv)) Q E s := by
  refine wpAny_call ?_
  refine' kp_rest (vs := pairArgs pv) (g₁ := fun D => some [(Str.ofString "text", .str x tx), (Str.ofString "pairs", .ref D)]) (binds := fun D => [(Str.ofString "text", .str x tx), (Str.ofString "pairs", .ref D)]) ?k1 ?k2 ?k3 ?k4 ?k5 ?kA ?kF ?kK ?k6 ?k7 ?k8 ?kV ?kP ?kG ?kB ?_ ?c2 ?c3 ?c4 ?c5
  case kA => exact rfl
  case kF => exact rfl
  case kK => first | exact rfl | assumption
  case k1 => k_asm
  case k2 => k_asm
  case k3 => k_asm
  case k4 => k_asm
  case k5 => k_asm
  case k6 => k_is
  case k7 => k_is
  case k8 => ktr_room
  case kV => exact rfl
  case kP =>
    skip
    exact bind_rest (by rw [pairArgs_len, sizeLine_eq]; walk_at "AR")
  case kG => exact fun _ => rfl
  case kB => exact fun _ => locs rfl
  case c5 => decide
  case c2 => exact rfl
  case c3 => exact rfl
  case c4 => exact rfl
  k_whole
  intro T5 g5 L5 h5 l5 FG5 F5 N5 B5 X5 T5'
  (try dsimp only)
  (try k_fold)
  iterate 2 (first | (k_unfold; (try dsimp only)) | walk1 | (dsimp only; walk1) | (leave1; try dsimp only))
  rename (News _ _ _ _) => N6
  rename (Fr _ _ _ _) => F6
  refine' While_inv (n₀ := pv.length) (PJ news pv x) F6 N6 ?j0 ?turn
  case j0 => exact ⟨T5, 0, tx, Nat.zero_le _, rfl, (by with_unfolding_all rfl), (by with_unfolding_all rfl), .head _, fun p hp => .tail _ hp⟩
  case turn =>
    intro n9 m₁ nw h₁ tk₁ F1 N1 hJ
    obtain ⟨T, k, u, hk9, rfl, mp, mt, hT, hsub⟩ := hJ
    have hszk := hsz k hk9
    by_cases hkl : k = pv.length
    · subst hkl
      rw [List.take_length] at mt hszk
      rw [List.drop_length] at hT
      iterate 2 (first | (k_unfold; (try dsimp only)) | walk1 | (dsimp only; walk1) | (leave1; try dsimp only))
      refine ktl_truthy (N1.get hT) (by simp only [pairArgs_e1, pairArgs_e2]; decide) ?_
      have hb : (!(pairArgs []).toArray.isEmpty) = false := rfl
      rw [hb, if_neg (by decide)]
      repeat (first | (k_unfold; (try dsimp only)) | walk1 | (dsimp only; walk1) | (leave1; try dsimp only))
      exact hQ _ _ _ (by assumption) (newsSub (by assumption) hsub)
    · obtain ⟨p9, hp9⟩ : ∃ p9, pv[k]? = some p9 := ⟨pv[k]'(by walk_at "AR"), List.getElem?_eq_getElem _⟩
      have hdr : pv.drop k = p9 :: pv.drop (k + 1) := by
        have hlt : k < pv.length := by walk_at "AR"
        rw [List.drop_eq_getElem_cons hlt]
        rw [List.getElem?_eq_getElem hlt] at hp9
        rw [Option.some.inj hp9]
      (rewrite [hdr] at hT; (first | rw [pairArgs_e1] at hT | rw [pairArgs_e2] at hT))
      have hpl := pairArgs_len (pv.drop (k + 1))
      rw [List.length_drop] at hpl
      have hpl2 : (pairArgs (pv.drop (k + 1))).length + 1 + 1 ≤ 202 := by walk_at "AR"
      iterate 2 (first | (k_unfold; (try dsimp only)) | walk1 | (dsimp only; walk1) | (leave1; try dsimp only))
      refine ktl_truthy (N1.get hT) (by simp only [List.size_toArray, List.length_cons]; walk_at "AR") ?_
      have hb : (!(Value.str p9.1 p9.2.2.1 :: Value.str p9.2.1 p9.2.2.2 :: pairArgs (pv.drop (k + 1))).toArray.isEmpty) = true := rfl
      rw [hb, if_pos rfl]
      iterate 7 (first | (k_unfold; (try dsimp only)) | walk1 | (dsimp only; walk1) | (leave1; try dsimp only))
      ((with_reducible show wpAny _ _ (subscriptTail _ _ (Value.ref _) (Value.int 1 _)) _ _ _); k_dflt (refine' tupItem1 ?N ?m ?k ?z ?x ?_ ?hs; (case N => k_asm); (case m => k_mem); (case k => (simp only [List.length_cons]; walk_at "AR")); (case z => (simp only [List.length_cons]; walk_at "AR")); (case x => exact rfl); (case hs => with_unfolding_all rfl)))
      iterate 11 (first | (k_unfold; (try dsimp only)) | walk1 | (dsimp only; walk1) | (leave1; try dsimp only))
      ((with_reducible show wpAny _ _ (subscriptTail _ _ (Value.ref _) (Value.int 0 _)) _ _ _); k_dflt (refine' tupItem0 ?N ?m ?k ?z ?x ?_ ?hs; (case N => k_asm); (case m => k_mem); (case k => exact Nat.zero_lt_succ _); (case z => (simp only [List.length_cons]; walk_at "AR")); (case x => exact rfl); (case hs => with_unfolding_all rfl)))
      iterate 1 (first | (k_unfold; (try dsimp only)) | walk1 | (dsimp only; walk1) | (leave1; try dsimp only))
      refine KSpl.split1 (by assumption) (by assumption) (hne p9 (List.mem_of_getElem? hp9)).1 ?hsp ?hz1
      case hz1 => rw [sizeLine_eq]; walk_at "AR"
      case hsp =>
      intro D l9 h9 tk9 hl9 hS9 F9 N9 lt9
      have hst : replAll (pvs (pv.take (k + 1))) x = Builtin.Str.glued p9.2.1 (l9.map (·.1)) := by
        rw [take_one hp9, pvs, List.map_append, replAll_append, hl9]; rfl
      have hsz1 := hsz (k + 1) (by walk_at "AR")
      rw [hst] at hsz1
      iterate 1 (first | (k_unfold; (try dsimp only)) | walk1 | (dsimp only; walk1) | (leave1; try dsimp only))
      refine join_led' (l := l9) (by assumption) (.head _) ?hz (x := Builtin.Str.glued p9.2.1 (l9.map (·.1))) rfl ?hg ?hh
      case hz => exact tooLong_glued (hne p9 (List.mem_of_getElem? hp9)).2 hsz1
      case hg => rw [sizeLine_eq]; walk_at "AR"
      case hh =>
      intro uj tkj _
      iterate 11 (first | (k_unfold; (try dsimp only)) | walk1 | (dsimp only; walk1) | (leave1; try dsimp only))
      rename (News _ _ _ _) => N10
      rename (Fr _ _ _ _) => F10
      refine' slice_tuple_from (a := 2) (items := (Value.str p9.1 p9.2.2.1 :: Value.str p9.2.1 p9.2.2.2 :: pairArgs (pv.drop (k + 1))).toArray) F10 N10 ?sT ?s1 ?s2 ?sh ?ss ?sg ?sz
      case sT => exact News.isTup N10 (.tail _ hT)
      case s1 => decide
      case s2 => simp only [List.size_toArray, List.length_cons]; walk_at "AR"
      case ss => with_unfolding_all rfl
      case sg => intro _; with_unfolding_all rfl
      case sz => simp only [List.size_toArray, List.length_cons]; rw [sizeLine_eq]; walk_at "AR"
      case sh =>
      intro h11 F11 N11
      iterate 2 (first | (k_unfold; (try dsimp only)) | walk1 | (dsimp only; walk1) | (leave1; try dsimp only))
      rename (News _ _ _ _) => N12
      rename (Fr _ _ _ _) => F12
      refine WhileStep.intro F12 N12 (n' := pv.length - (k + 1)) (Nat.sub_lt_sub_left (Nat.lt_of_le_of_ne hk9 hkl) (Nat.lt_succ_self k)) ⟨_, k + 1, uj, by walk_at "AR", rfl, ?fp, ?ft, .head _, fun p hp => .tail _ (.tail _ (hsub p hp))⟩
      case fp => exact if_pos rfl
      case ft =>
        rw [hst]
        exact Eq.trans (if_neg (by decide +kernel)) (if_pos rfl)
end
theorem topOff15 : True := by
  w_top off
  trivial
section
open PySem PySem.W PyProof.Rows PySem.Calls PySem.Spec
noncomputable def setStep (p k1 : Nat) (x : Int × Int) : Option (Int × Int) := if 0 < (x.2.fdiv (4 ^ p)).fmod 4 ∧ 0 < (x.2.fdiv (4 ^ k1)).fmod 4 then some (x.1 + 1, x.2 - 4 ^ p - 4 ^ k1) else none
noncomputable def setsF : List (Int × Int) → Nat → List Nat → List (Int × Int)
  | S, _, [] => S
  | S, k, p :: r => setsF (S ++ S.filterMap (setStep p (k + 1))) (k + 1) r
theorem setsF_e1 (S) (u1) : setsF S u1 [] = S := rfl
theorem setsF_e2 (S) (k) (p) (r) : setsF S k (p :: r) = setsF (S ++ S.filterMap (setStep p (k + 1))) (k + 1) r := rfl
noncomputable def packR (rm : List Nat) : Int := ((List.range rm.length).map fun i => ((rm.getD i 0 : Nat) : Int) * 4 ^ i).sum
noncomputable def IPair (p : Value × Value) (x : Int × Int) : Prop := ∃ t u, p = (.int x.1 t, .int x.2 u)
theorem setsF_snoc (p : Nat) : ∀ (l : List Nat) (S : List (Int × Int)) (k : Nat), setsF S k (l ++ [p]) = setsF S k l ++ (setsF S k l).filterMap (setStep p (k + l.length + 1))
  | [], S, k => rfl
  | q :: r, S, k => by
    (rewrite [List.cons_append]; (first | rewrite [setsF_e1] | rewrite [setsF_e2]); (first | rewrite [setsF_e1] | rewrite [setsF_e2]); rw [setsF_snoc p r, List.length_cons, show k + 1 + r.length + 1 = k + (r.length + 1) + 1 from by walk_at "AR"])
theorem setsF_len : ∀ (l : List Nat) (S : List (Int × Int)) (k : Nat), (setsF S k l).length ≤ S.length * 2 ^ l.length
  | [], S, k => by ((first | rewrite [setsF_e1] | rewrite [setsF_e2]); rw [List.length_nil, Nat.pow_zero, Nat.mul_one]); exact Nat.le_refl _
  | q :: r, S, k => by
    ((first | rewrite [setsF_e1] | rewrite [setsF_e2]); rw [List.length_cons, Nat.pow_succ])
    refine Nat.le_trans (setsF_len r _ _) ?_
    have h := List.length_filterMap_le (setStep q (k + 1)) S
    rw [List.length_append, Nat.mul_comm (2 ^ r.length), ← Nat.mul_assoc]
    exact Nat.mul_le_mul_right _ (by walk_at "AR")
theorem sets_128 {ab : List Nat} {x : Int × Int} (h7 : ab.length = 7) (i : Nat) : (setsF [x] 0 (ab.take i)).length ≤ 128 := by
  refine Nat.le_trans (setsF_len _ _ _) ?_
  rw [List.length_singleton, Nat.one_mul]
  exact Nat.le_trans (Nat.pow_le_pow_right (by decide) (show (ab.take i).length ≤ 7 by rw [List.length_take]; walk_at "AR")) (by decide)
noncomputable def TupAt (nw : List (Addr × Obj)) (v : Value) (x : Int × Int) : Prop := ∃ T t u, v = .ref T ∧ (T, tupOf [.int x.1 t, .int x.2 u]) ∈ nw
theorem tups_mono {nw nw' : List (Addr × Obj)} {vs : List Value} {S : List (Int × Int)} (h : Paired (TupAt nw) vs S) (hs : ∀ p ∈ nw, p ∈ nw') : Paired (TupAt nw') vs S := by
  induction h with
  | nil => exact .nil
  | cons h _ ih => obtain ⟨T, t, u, e, m⟩ := h; exact .cons ⟨T, t, u, e, hs _ m⟩ ih
theorem paired_app {α β : Type} {F : α → β → Prop} {a b : List α} {c d : List β} (h : Paired F a c) (h' : Paired F b d) : Paired F (a ++ b) (c ++ d) := by
  induction h with
  | nil => exact h'
  | cons x _ ih => exact .cons x ih
theorem paired_len {α β : Type} {F : α → β → Prop} {a : List α} {c : List β} (h : Paired F a c) : a.length = c.length := by
  induction h with
  | nil => rfl
  | cons _ _ ih => rw [List.length_cons, List.length_cons, ih]
theorem paired_at {α β : Type} {F : α → β → Prop} {a : List α} {c : List β} (h : Paired F a c) : ∀ {i : Nat} {x : α}, a[i]? = some x → ∃ y, c[i]? = some y ∧ F x y := by
  induction h with
  | nil => intro i x e; simp at e
  | cons hx _ ih =>
    intro i x e
    cases i with
    | zero => simp at e; subst e; exact ⟨_, rfl, hx⟩
    | succ i => simp at e; simpa using ih e
theorem pairs_of {nw : List (Addr × Obj)} {vs : List Value} {S : List (Int × Int)} (h : Paired (TupAt nw) vs S) : ∃ pr : List (Value × Value), Paired IPair pr S ∧ vs.length = pr.length ∧ ∀ (i : Nat) (a b : Value), pr[i]? = some (a, b) → ∃ T : Addr, vs[i]? = some (.ref T) ∧ (T, tupOf [a, b]) ∈ nw := by
  induction h with
  | nil => exact ⟨[], .nil, rfl, fun i a b h => by simp at h⟩
  | cons hx _ ih =>
    obtain ⟨pr, h1, h2, h3⟩ := ih
    obtain ⟨T, t, u, e, m⟩ := hx
    subst e
    refine ⟨_ :: pr, .cons ⟨t, u, rfl⟩ h1, by rw [List.length_cons, List.length_cons, h2], fun i a b h => ?_⟩
    cases i with
    | zero => simp at h; obtain ⟨rfl, rfl⟩ := h; exact ⟨T, rfl, m⟩
    | succ i => simpa using h3 i a b (by simpa using h)
theorem pairs_at {h₀ : Heap} {ax k : Nat} {vs : List Value} {pr : List (Value × Value)} {nw nw' : List (Addr × Obj)} (hm : (ax, listOf vs.toArray k) ∈ nw') (hl : vs.length = pr.length) (h : ∀ (i : Nat) (a b : Value), pr[i]? = some (a, b) → ∃ T : Addr, vs[i]? = some (.ref T) ∧ (T, tupOf [a, b]) ∈ nw) (hs : ∀ p ∈ nw, p ∈ nw') : PairsAt h₀ ax vs.toArray pr nw' :=
  ⟨.inr ⟨_, hm, rfl, _, rfl⟩, by rw [List.size_toArray]; exact hl, fun i a b e => by obtain ⟨T, x, y⟩ := h i a b e; exact ⟨T, by rw [List.getElem?_toArray]; exact x, hs _ y⟩⟩
theorem filt_one {p k1 j : Nat} {S : List (Int × Int)} {x : Int × Int} (h : S[j]? = some x) : (S.take (j + 1)).filterMap (setStep p k1) = (S.take j).filterMap (setStep p k1) ++ (setStep p k1 x).toList := by
  rw [List.take_add_one, h, List.filterMap_append]
  congr 1
theorem step_yes {p k1 : Nat} {z l : Int} (h1 : 0 < (l.fdiv (4 ^ p)).fmod 4) (h2 : 0 < (l.fdiv (4 ^ k1)).fmod 4) : setStep p k1 (z, l) = some (z + 1, l - 4 ^ p - 4 ^ k1) := if_pos ⟨h1, h2⟩
theorem step_no {p k1 : Nat} {z l : Int} (h : ¬ (0 < (l.fdiv (4 ^ p)).fmod 4 ∧ 0 < (l.fdiv (4 ^ k1)).fmod 4)) : setStep p k1 (z, l) = none := if_neg h
inductive SJ (news : List (Addr × Obj)) (g0 : Gens) (S : List (Int × Int)) (m₁ : Str → Option Value) (nw : List (Addr × Obj)) (g : Gens) : Prop
  | mk (Sx k : Nat) (iv : List Value) (nw₀ : List (Addr × Obj)) (hnw : nw = (Sx, listOf iv.toArray k) :: nw₀) (off : ∀ p ∈ nw₀, @Ne Nat p.1 Sx) (sub : ∀ p ∈ news, p ∈ nw₀) (hS : Paired (TupAt nw₀) iv S) (ms : m₁ (Str.ofString "sets") = some (.ref Sx)) (hg : g = g0) : SJ news g0 S m₁ nw g
inductive MJ (g0 : Gens) (Sx k I I2 : Nat) (oI oI2 : Obj) (iv : List Value) (nw₀ : List (Addr × Obj)) (i p : Nat) (S : List (Int × Int)) (m₁ : Str → Option Value) (nw : List (Addr × Obj)) (g : Gens) : Prop
  | mk (D e : Nat) (tp ti : Tok) (mv : List Value) (nw₁ : List (Addr × Obj)) (hnw : nw = (D, listOf mv.toArray e) :: (I, oI) :: (I2, oI2) :: (Sx, listOf iv.toArray k) :: nw₁) (offD : ∀ p ∈ (I, oI) :: (I2, oI2) :: (Sx, listOf iv.toArray k) :: nw₁, @Ne Nat p.1 D) (offI : ∀ p ∈ nw₁, @Ne Nat p.1 I) (offI2 : ∀ p ∈ nw₁, @Ne Nat p.1 I2) (offS : ∀ p ∈ nw₁, @Ne Nat p.1 Sx) (sub : ∀ p ∈ nw₀, p ∈ nw₁) (hS : Paired (TupAt nw₁) mv S)
      (ms : m₁ (Str.ofString "sets") = some (.ref Sx)) (mm : m₁ (Str.ofString "more") = some (.ref D)) (mp : m₁ (Str.ofString "place") = some (.int (p : Int) tp)) (mk : m₁ (Str.ofString "k") = some (.int (i : Int) ti)) (hg : g = g0) : MJ g0 Sx k I I2 oI oI2 iv nw₀ i p S m₁ nw g
theorem ints_pz {ys : List Value} {f : Nat → Int} {n : Nat} (hl : ys.length = n) (h : ∀ j y, ys[j]? = some y → ∃ t, y = Value.int (f j) t) : IntsAre ys ((List.range n).map f) := by
  induction ys generalizing n f with
  | nil => subst hl; exact .nil
  | cons y r ih =>
    subst hl
    obtain ⟨t, e⟩ := h 0 y rfl
    have h2 := ih (f := fun j => f (j + 1)) rfl fun j z hz => h (j + 1) z hz
    rw [List.length_cons, List.range_succ_eq_map, List.map_cons, List.map_map, e]
    exact .cons _ _ h2
theorem ite_in {c : Prop} [Decidable c] {A B : Prop} (h1 : c → A) (h2 : ¬ c → B) : if c then A else B := by
  by_cases h : c
  · rw [if_pos h]; exact h1 h
  · rw [if_neg h]; exact h2 h
theorem news_rot {h₀ h : Heap} {L : Addr} {a b c d e f : Addr × Obj} {r : List (Addr × Obj)} (N : News h₀ L h (a :: b :: c :: d :: e :: f :: r)) : News h₀ L h (b :: c :: d :: e :: f :: a :: r) := fun p hp => N p (by
  simp only [List.mem_cons] at hp ⊢
  rcases hp with h | h | h | h | h | h | h <;> simp only [h, true_or, or_true])
theorem news_rot4 {h₀ h : Heap} {L : Addr} {a b c d : Addr × Obj} {r : List (Addr × Obj)} (N : News h₀ L h (a :: b :: c :: d :: r)) : News h₀ L h (b :: c :: d :: a :: r) := fun p hp => N p (by
  simp only [List.mem_cons] at hp ⊢
  rcases hp with h | h | h | h | h <;> simp only [h, true_or, or_true])
section
variable {prog : Program} {w : World} {A : Around} {E : Value → Shared → Prop} {s : Shared}
theorem pow4 {i : Nat} {t u : Tok} {Q : Value → Shared → Prop} (hi : i ≤ 1000) (h : Q (.int (4 ^ i) s.toks) { s with toks := s.toks + 1 }) : wpAny (model prog w) A (binaryOp .Pow (.int 4 t) (.int (i : Int) u)) Q E s := pow_int_small (Int.natCast_nonneg i) (by walk_at "AR") (by decide) (by rw [Int.toNat_natCast]; exact h)
theorem pow4s {i : Nat} {t u : Tok} {Q : Value → Shared → Prop} (hi : i ≤ 900) (h : Q (.int (4 ^ (i + 1)) s.toks) { s with toks := s.toks + 1 }) : wpAny (model prog w) A (binaryOp .Pow (.int 4 t) (.int ((i : Int) + 1) u)) Q E s := pow4 (i := i + 1) (by walk_at "AR") h
theorem div4 {l : Int} {p : Nat} {t u : Tok} {Q : Value → Shared → Prop} (hp : p ≤ 14) (h : Q (.int (l.fdiv (4 ^ p)) s.toks) { s with toks := s.toks + 1 }) : wpAny (model prog w) A (binaryOp .FloorDiv (.int l t) (.int (4 ^ p) u)) Q E s :=
  floordiv_int (Int.ne_of_gt (Int.pow_pos (by decide))) h (.inl (PyProof.noPylong_small (by
    rw [Int.natAbs_pow]
    exact Nat.lt_of_le_of_lt (Nat.pow_le_pow_right (by decide) hp) (by decide))))
end
local macro_rules | `(tactic| walk_at "getMethod ref") => mqT "(line - (getMethod (Value.ref _) (Str.ofString 'append') _) (rule kf_method am##. - PySem.F.slot_list_append PySem.F.type_list_append))"
local macro_rules | `(tactic| walk_at "binaryOp FloorDiv int int") => mqT "(seq k_here (red (refine (div4 ?pa ?_))) (case pa (at AR)) (try (ds)))"
local macro_rules | `(tactic| walk_at "binaryOp Pow int int") => mqT "(seq k_here (first (red (refine (pow4s ?pa ?_))) (red (refine (pow4 ?pa ?_)))) (case pa (at AR)) (try (ds)))"
set_option maxHeartbeats 4000000 in
theorem sets_c (w : World) (dp un : Nat) (gd : Option (List Code)) (cn : Str) (cs : Scope) (a : Addr) (ccd : Value) (cl : List (Str × Addr)) (outer : List Env) (A₀ : Around) (base h₀ : Heap) (L : Addr) (m mg mb : Str → Option Value) (mean : ExcName → Option Value) (s : Shared) (Q E : Value → Shared → Prop)
    (news : List (Addr × Obj)) (A9 R9 : Nat) (av rv : List Value) (ab rm : List Nat) (an rn : Nat)
    (B : Below A₀ base outer h₀) (F : Fr h₀ L s.heap m) (X : (hd2.heap_39 w.params).In h₀) (T : Top topProg lo3 mean mg mb h₀)
    (hk : cs.kind = .function) (hd : dp + 60 < recursionLimit) (hu : un + 900 < cLine)
    (N : News h₀ L s.heap news)
    (hA : (A9, listOf av.toArray an) ∈ news) (hR : (R9, listOf rv.toArray rn) ∈ news) (hIA : IntsAre av (ab.map fun k : Nat => (k : Int))) (hIR : IntsAre rv (rm.map fun k : Nat => (k : Int))) (h7 : ab.length = 7) (h8 : rm.length = 8) (hab : ∀ a ∈ ab, a < 7) (hrm : ∀ a ∈ rm, a < 3)
    (hQ : ∀ (Sx k : Nat) (iv : List Value) news' h' tk' d', Fr h₀ L h' m → News h₀ L h' ((Sx, listOf iv.toArray k) :: news') → (∀ p ∈ news, p ∈ news') → (∀ p ∈ news', @Ne Nat p.1 Sx) → Paired (TupAt news') iv (setsF [(0, packR rm)] 0 ab) → Q (.ref Sx) { s with heap := h', toks := tk', drawn := d' }) :
    wpAny (model P3 w) (ktrTop dp un gd cn cs L a ccd cl outer) (call (.ref 194) [.ref A9, .ref R9]) Q E s := by
  refine wpAny_call ?_
  k_dflt k_enter
  refine hideTok fun tkZ => ?_
  rename (Fr _ _ _ _) => F0
  obtain ⟨m9, hm9, F1⟩ : ∃ m', m' = _ ∧ Fr _ _ _ m' := ⟨_, rfl, F0⟩
  have i_above : m9 (Str.ofString "above") = some (.ref A9) := by rw [hm9]; exact rfl
  have i_rooms : m9 (Str.ofString "rooms") = some (.ref R9) := by rw [hm9]; exact rfl
  clear hm9 F0
  repeat ((fail_if_success (with_reducible show wpAny _ _ (eval (.ListComp _ _ _ _) _) _ _ _)); (first | (k_unfold; (try dsimp only)) | walk1 | (dsimp only; walk1) | (leave1; try dsimp only)))
  refine' ListComp_X (by assumption) ?hclos ?hcl ?hkind ?hnames ?hxi ?hxv ?hxx ?h
  case hclos => exact rfl
  case hcl => decide
  case hkind => exact rfl
  case hnames => decide
  case hxi => exact rfl
  case hxv => exact rfl
  case hxx => decide +kernel
  case h =>
  repeat ((fail_if_success (with_reducible show wpAny _ _ (call (.type "enumerate") _) _ _ _)); (first | (k_unfold; (try dsimp only)) | walk1 | (dsimp only; walk1) | (leave1; try dsimp only)))
  rename (News _ _ _ _) => NN
  rename (Fr _ _ _ _) => FF
  refine enum_made FF NN hR ?_
  intro itA eA oitA hA9 hoitA FA NA ltA_ ieA
  refine ⟨eA, itA, R9, rv.toArray, rn, oitA, _, (fun i y => ∃ t, y = Value.int (((rm.getD i 0 : Nat) : Int) * 4 ^ i) t), rfl, hoitA, by rw [List.size_toArray, hIR.length, List.length_map, h8, sizeLine_eq]; decide, FA, NA, hR, ieA, ltA_, ?elt, ?store⟩
  case elt =>
    intro i v ti C9 oC9 m₉ h9 tk9 E9 hv hNs hmi hmv F9 N9 off9
    obtain ⟨c9, t9, rfl, hc9⟩ := hIR.at i v (by simpa using hv)
    rw [List.getElem?_map] at hc9
    obtain ⟨r9, hr9, rfl⟩ := Option.map_eq_some_iff.mp hc9
    have hi8 : i < 8 := by rw [← h8]; exact (List.getElem?_eq_some_iff.mp hr9).1
    have hr3 := hrm r9 (List.mem_of_getElem? hr9)
    repeat (first | (k_unfold; (try dsimp only)) | walk1 | (dsimp only; walk1) | (leave1; try dsimp only))
    rw [show rm.getD i 0 = r9 from by rw [List.getD_eq_getElem?_getD, hr9]; rfl]
  case store =>
    intro D2 h2 tk2 ysA hl hysA F2 N2 lt2
    rw [show rv.toArray.size = 8 from by rw [List.size_toArray, hIR.length, List.length_map, h8]] at hl
    have hIS : IntsAre ysA ((List.range rm.length).map fun i => ((rm.getD i 0 : Nat) : Int) * 4 ^ i) := ints_pz (by rw [hl, h8]) hysA
    repeat ((fail_if_success (with_reducible show wpAny _ _ (call (.builtin "sum") _) _ _ _)); (first | (k_unfold; (try dsimp only)) | walk1 | (dsimp only; walk1) | (leave1; try dsimp only)))
    rename (News _ _ _ _) => N3
    rename (Fr _ _ _ _) => F3
    refine LSm.sum_ints F3 N3 rfl (listOf_isList (N3.get (.head _))) hIS ?_
    intro h4 tk4 tS F4 N4
    repeat ((fail_if_success (with_reducible show wpAny _ _ (exec (Stmt.For _ _ _ _ _) _) _ _ _)); (first | (k_unfold; (try dsimp only)) | walk1 | (dsimp only; walk1) | (leave1; try dsimp only)))
    rename (Fr _ _ _ _) => F5
    rename (News _ _ _ _) => N5
    refine' For_enum F5 rfl rfl rfl rfl (by exact rfl) ?_
    repeat ((fail_if_success (with_reducible show wpAny _ _ (call (.type "enumerate") _) _ _ _)); (first | (k_unfold; (try dsimp only)) | walk1 | (dsimp only; walk1) | (leave1; try dsimp only)))
    rename (News _ _ _ _) => NN
    rename (Fr _ _ _ _) => FF
    refine enum_made FF NN (.tail _ (.tail _ (.tail _ hA))) ?_
    intro itA eA oitA hA9 hoitA FA NA ltA_ ieA
    refine .mk _ eA itA A9 av.toArray an _ _ oitA hoitA.1 hoitA.2 FA NA (.tail _ (.tail _ (.tail _ hA))) (Nat.ne_of_gt ieA) (fun p hp => Nat.ne_of_lt (Nat.lt_trans (ltA_ p hp) ieA)) (fun p hp => Nat.ne_of_lt (ltA_ p hp)) (fun i => SJ news s.gens (setsF [(0, packR rm)] 0 (ab.take i))) ?j0 ?turn ?done
    case j0 =>
      refine .mk _ _ [Value.ref _] _ rfl ?_ (fun p hp => .tail _ (.tail _ hp)) (.cons ⟨_, _, _, rfl, .head _⟩ .nil) ?_ rfl
      · k_all
      · exact if_pos rfl
    case turn =>
      intro i v I oI I2 oI2 ti m₁ h6 tk6 g6 d6 nw hv hJ F6 N6 off1 off2 ne12
      obtain ⟨Sx, k, iv, nw₀, rfl, offS, sub, hS, ms, rfl⟩ := hJ
      obtain ⟨n7, t7, rfl, hn7⟩ := hIA.at i v (by simpa using hv)
      rw [List.getElem?_map] at hn7
      obtain ⟨p, hp, rfl⟩ := Option.map_eq_some_iff.mp hn7
      have hp7 := hab p (List.mem_of_getElem? hp)
      have hi7 : i < 7 := by rw [← h7]; exact (List.getElem?_eq_some_iff.mp hp).1
      have hlen := sets_128 (x := (0, packR rm)) h7 i
      have hlen1 := sets_128 (x := (0, packR rm)) h7 (i + 1)
      rw [take_one hp, setsF_snoc, Nat.zero_add, List.length_take, Nat.min_eq_left (by walk_at "AR")] at hlen1 ⊢
      generalize setsF [(0, packR rm)] 0 (ab.take i) = X at hS hlen hlen1 ⊢
      obtain ⟨pr, hpr, hlv, hP⟩ := pairs_of hS
      have hvX := paired_len hS
      rw [List.length_append] at hlen1
      repeat ((fail_if_success (with_reducible show wpAny _ _ (exec (Stmt.For _ _ _ _ _) _) _ _ _)); (first | (k_unfold; (try dsimp only)) | walk1 | (dsimp only; walk1) | (leave1; try dsimp only)))
      rename (Fr _ _ _ _) => F7
      rename (News _ _ _ _) => N7
      refine' For_P F7 rfl rfl rfl (by exact rfl) ?_
      iterate 1 (first | (k_unfold; (try dsimp only)) | walk1 | (dsimp only; walk1) | (leave1; try dsimp only))
      refine .mk Sx iv.toArray k pr _ _ rfl F7 N7 (.tail _ (.tail _ (.tail _ (.head _)))) (pairs_at (.tail _ (.tail _ (.tail _ (.head _)))) hlv hP fun q hq => .tail _ (.tail _ (.tail _ (.tail _ hq)))) ⟨(fun j => MJ s.gens Sx k I I2 oI oI2 iv nw₀ i p ((X.take j).filterMap (setStep p (i + 1)))), ?mj0, ?mturn, ?mdone⟩
      case mj0 =>
        refine .mk _ _ t7 ti [] nw₀ rfl ?_ (off1_mem _ off1.2) (off1_mem _ off2.2) offS (fun q hq => hq) .nil ?_ ?_ ?_ ?_ rfl
        · k_all
        all_goals (repeat (first | with_reducible assumption | exact if_pos rfl | refine Eq.trans (if_neg (by decide +kernel)) ?_))
      case mturn =>
        intro j va vb I3 oI3 m₂ h8 tk8 g8 d8 nw2 hj hpj hJ2 hS2 F8 N8 off8 it8
        obtain ⟨D, e, tp, ti2, mv, nw₁, rfl, offD, offI, offI2, offS1, sub1, hM, ms2, mm2, mp2, mk2, rfl⟩ := hJ2
        obtain ⟨⟨z, l⟩, hzl, tz, tl, hval⟩ := paired_at hpr hpj
        obtain ⟨rfl, rfl⟩ := Prod.mk.inj hval
        have hml := paired_len hM
        have hml1 : mv.length ≤ 128 := by
          rw [hml]
          refine Nat.le_trans (List.length_filterMap_le _ _) ?_
          rw [List.length_take]
          walk_at "AR"
        dsimp only [stG]
        repeat ((fail_if_success (with_reducible show wpAny _ _ (truthy (.bool _)) _ _ _)); (first | (k_unfold; (try dsimp only)) | walk1 | (dsimp only; walk1) | (leave1; try dsimp only)))
        iterate 1 walk1
        refine ite_in (fun hc1 => ?b1) (fun hc1 => ?b0)
        case b0 =>
          repeat ((fail_if_success (with_reducible show ForTurn _ _ _ _ _ _ _ _ _ _)); (first | (k_unfold; (try dsimp only)) | walk1 | (dsimp only; walk1) | (leave1; try dsimp only)))
          rename (Fr _ _ _ _) => F9
          rename (News _ _ _ _) => N9
          refine ForEndJ.mk _ _ _ _ _ _ F9 N9 off8 hS2 (.mk D e tp ti2 mv nw₁ rfl offD offI offI2 offS1 sub1 ?_ (Eq.trans (if_neg (by decide +kernel)) (Eq.trans (if_neg (by decide +kernel)) ms2)) (Eq.trans (if_neg (by decide +kernel)) (Eq.trans (if_neg (by decide +kernel)) mm2)) (Eq.trans (if_neg (by decide +kernel)) (Eq.trans (if_neg (by decide +kernel)) mp2)) (Eq.trans (if_neg (by decide +kernel)) (Eq.trans (if_neg (by decide +kernel)) mk2)) rfl)
          rw [filt_one hzl, step_no (fun h => hc1 (decide_eq_true h.1)), Option.toList_none, List.append_nil]
          exact hM
        case b1 =>
          repeat ((fail_if_success (with_reducible show wpAny _ _ (truthy (.bool _)) _ _ _)); (first | (k_unfold; (try dsimp only)) | walk1 | (dsimp only; walk1) | (leave1; try dsimp only)))
          iterate 1 walk1
          refine ite_in (fun hc2 => ?b1) (fun hc2 => ?b0)
          case b0 =>
            repeat ((fail_if_success (with_reducible show ForTurn _ _ _ _ _ _ _ _ _ _)); (first | (k_unfold; (try dsimp only)) | walk1 | (dsimp only; walk1) | (leave1; try dsimp only)))
            rename (Fr _ _ _ _) => F9
            rename (News _ _ _ _) => N9
            refine ForEndJ.mk _ _ _ _ _ _ F9 N9 off8 hS2 (.mk D e tp ti2 mv nw₁ rfl offD offI offI2 offS1 sub1 ?_ (Eq.trans (if_neg (by decide +kernel)) (Eq.trans (if_neg (by decide +kernel)) ms2)) (Eq.trans (if_neg (by decide +kernel)) (Eq.trans (if_neg (by decide +kernel)) mm2)) (Eq.trans (if_neg (by decide +kernel)) (Eq.trans (if_neg (by decide +kernel)) mp2)) (Eq.trans (if_neg (by decide +kernel)) (Eq.trans (if_neg (by decide +kernel)) mk2)) rfl)
            rw [filt_one hzl, step_no (fun h => hc2 (decide_eq_true h.2)), Option.toList_none, List.append_nil]
            exact hM
          case b1 =>
            repeat ((fail_if_success (with_reducible show wpAny _ _ (call (.builtin "list.append") _) _ _ _)); (first | (k_unfold; (try dsimp only)) | walk1 | (dsimp only; walk1) | (leave1; try dsimp only)))
            rename (Fr _ _ _ _) => F9
            rename (News _ _ _ _) => N9
            rename (∀ p : Addr × Obj, p ∈ (I3, oI3) :: (D, listOf mv.toArray e) :: _ → _) => l9
            have lD := Nat.ne_of_gt (l9 _ (.tail _ (.head _)))
            refine appL F9 N9 (.tail lD (.tail (Ne.symm off8.1) (.head offD))) (by walk_at "AR") (fun h11 F11 N11 => ?_)
            repeat ((fail_if_success (with_reducible show ForTurn _ _ _ _ _ _ _ _ _ _)); (first | (k_unfold; (try dsimp only)) | walk1 | (dsimp only; walk1) | (leave1; try dsimp only)))
            refine ForEndJ.mk _ _ _ _ _ _ F11 (news_rot N11) ⟨off8.1, off8.2.1, off8.2.2.1, off8.2.2.2.1, Nat.ne_of_gt (l9 _ (.head _)), off8.2.2.2.2⟩ (pairs_at (.tail _ (.tail _ (.tail _ (.head _)))) hlv hP fun q hq => .tail _ (.tail _ (.tail _ (.tail _ (.tail _ (sub1 q hq)))))) (.mk D (e + 1) tp ti2 (mv ++ [Value.ref _]) ((_, _) :: nw₁) rfl ?oD ?oI ?oI2 ?oS (fun q hq => .tail _ (sub1 q hq)) ?pp (Eq.trans (if_neg (by decide +kernel)) (Eq.trans (if_neg (by decide +kernel)) ms2)) (Eq.trans (if_neg (by decide +kernel)) (Eq.trans (if_neg (by decide +kernel)) mm2)) (Eq.trans (if_neg (by decide +kernel)) (Eq.trans (if_neg (by decide +kernel)) mp2)) (Eq.trans (if_neg (by decide +kernel)) (Eq.trans (if_neg (by decide +kernel)) mk2)) rfl)
            case oD => exact List.forall_mem_cons.2 ⟨offD _ (.head _), List.forall_mem_cons.2 ⟨offD _ (.tail _ (.head _)), List.forall_mem_cons.2 ⟨offD _ (.tail _ (.tail _ (.head _))), List.forall_mem_cons.2 ⟨lD, fun q hq => offD _ (.tail _ (.tail _ (.tail _ hq)))⟩⟩⟩⟩
            case oI => exact List.forall_mem_cons.2 ⟨Nat.ne_of_gt (l9 _ (.tail _ (.tail _ (.head _)))), offI⟩
            case oI2 => exact List.forall_mem_cons.2 ⟨Nat.ne_of_gt (l9 _ (.tail _ (.tail _ (.tail _ (.head _))))), offI2⟩
            case oS => exact List.forall_mem_cons.2 ⟨Nat.ne_of_gt (l9 _ (.tail _ (.tail _ (.tail _ (.tail _ (.head _)))))), offS1⟩
            case pp =>
              rw [filt_one hzl, step_yes (of_decide_eq_true hc1) (of_decide_eq_true hc2)]
              exact paired_app (tups_mono hM fun q hq => .tail _ hq) (.cons ⟨_, _, _, rfl, .head _⟩ .nil)

      case mdone =>
        intro m₃ nw3 h10 tk10 g10 d10 hJ3 F10 N10
        obtain ⟨D, e, tp, ti2, mv, nw₁, rfl, offD, offI, offI2, offS1, sub1, hM, ms2, mm2, mp2, mk2, rfl⟩ := hJ3
        rw [show X.take iv.toArray.size = X from by rw [List.size_toArray, hvX, List.take_length]] at hM
        have hml := paired_len hM
        have hml1 := List.length_filterMap_le (setStep p (i + 1)) X
        have e9 : (A9, listOf av.toArray an) ∈ nw₁ := sub1 _ (sub _ hA)
        dsimp only [stG]
        repeat ((fail_if_success (with_reducible show wpAny _ _ (inplaceOp _ _ _) _ _ _)); (first | (k_unfold; (try dsimp only)) | walk1 | (dsimp only; walk1) | (leave1; try dsimp only)))
        refine iadd_all (pre := [(D, listOf mv.toArray e), (I, oI), (I2, oI2)]) (post := nw₁) F10 N10 (.head _) ?p1 offS1 (by walk_at "AR") (fun h11 k11 F11 N11 => ?_)
        case p1 => exact List.forall_mem_cons.2 ⟨Ne.symm (offD _ (.tail _ (.tail _ (.head _)))), List.forall_mem_cons.2 ⟨Ne.symm off1.1, List.forall_mem_cons.2 ⟨Ne.symm off2.1, fun q hq => absurd hq List.not_mem_nil⟩⟩⟩
        repeat ((fail_if_success (with_reducible show ForTurn2 _ _ _ _ _ _ _ _ _ _)); (first | (k_unfold; (try dsimp only)) | walk1 | (dsimp only; walk1) | (leave1; try dsimp only)))
        rename (Fr _ _ _ _) => F12
        rename (News _ _ _ _) => N12
        refine ForEnd2.mk _ _ _ _ _ _ F12 (news_rot4 N12) ⟨off1.1, Ne.symm (offD _ (.head _)), off1_of _ offI⟩ ⟨off2.1, Ne.symm (offD _ (.tail _ (.head _))), off1_of _ offI2⟩ ⟨.tail _ (.tail _ e9), .mk Sx k11 (iv ++ mv) _ rfl (List.forall_mem_cons.2 ⟨Ne.symm (offD _ (.tail _ (.tail _ (.head _)))), offS1⟩) (fun q hq => .tail _ (sub1 _ (sub _ hq))) (paired_app (tups_mono hS fun q hq => .tail _ (sub1 q hq)) (tups_mono hM fun q hq => .tail _ hq)) (if_pos rfl) rfl⟩
    case done =>
      intro m₃ nw3 h10 tk10 g10 d10 hJ3 F10 N10
      obtain ⟨Sx, k, iv, nw₀, rfl, offS, sub, hS, ms, rfl⟩ := hJ3
      rw [show ab.take av.toArray.size = ab from by rw [List.size_toArray, hIA.length, List.length_map, List.take_length]] at hS
      dsimp only [stG]
      repeat (first | (k_unfold; (try dsimp only)) | walk1 | (dsimp only; walk1) | (leave1; try dsimp only))
      rename (News h₀ L _ _) => N12
      clear N
      rename (News h₀ L _ _) => N12
      exact hQ Sx k iv nw₀ _ _ _ (by assumption) N12 sub offS hS
end
theorem topOff16 : True := by
  w_top off
  trivial
section
open PySem PySem.W PyProof.Rows PySem.Calls PySem.Spec
theorem sets_pos : ∀ (l : List Nat) (S : List (Int × Int)) (k : Nat), 0 < S.length → 0 < (setsF S k l).length
  | [], _, _, h => h
  | q :: r, S, k, h => by ((first | rw [setsF_e1] | rw [setsF_e2])); exact sets_pos r _ _ (by rw [List.length_append]; walk_at "AR")
inductive FJ1 (g0 : Gens) (base : List (Addr × Obj)) (S : List (Int × Int)) (j : Nat) (ys : List Value) (nw : List (Addr × Obj)) (g : Gens) : Prop
  | mk (hg : g = g0) (hn : nw = base) (hI : IntsAre ys ((S.take j).map (·.1))) : FJ1 g0 base S j ys nw g
noncomputable def isBest (M : Int) (x : Int × Int) : Bool := decide (x.1 = M ∧ 0 < x.2.fmod 4)
inductive FJ2 (g0 : Gens) (base : List (Addr × Obj)) (S : List (Int × Int)) (M : Int) (j : Nat) (ys : List Value) (nw : List (Addr × Obj)) (g : Gens) : Prop
  | mk (hg : g = g0) (hn : nw = base) (hI : IntsAre ys (((S.take j).filter (isBest M)).map fun _ => 1)) : FJ2 g0 base S M j ys nw g
noncomputable def AnswerOk (S : List (Int × Int)) (many : Int) (x : Str) : Prop := ∀ M, M ∈ S.map (·.1) → (∀ a ∈ S.map (·.1), a ≤ M) → many = M ∧ x = if S.filter (isBest M) = [] then Str.ofString "" else Str.ofString "u"
set_option maxHeartbeats 4000000 in
theorem lawF (w : World) (h₀ : Heap) (L fa : Nat) (cd : Value) (m mg mb : Str → Option Value) (mean : ExcName → Option Value) (s : Shared) (Q : Flow → Shared → Prop) (E : Value → Shared → Prop)
    (rest : List (Addr × Obj)) (tb : Array Value) (A9 R9 : Nat) (av rv : List Value) (ab rm : List Nat) (an rn : Nat) (x : Str) (tx tm : Tok) (mny : Int) (oa om : Obj)
    (hE : PassesOwn (model P3 w) (callerA.deeper (envOfC (Str.ofString "law") lawScope L fa cd)) (envOfC (Str.ofString "law") lawScope L fa cd) E) (B : Below callerA h₀ [] h₀) (F : Fr h₀ L s.heap m) (X : (hd2.heap_39 w.params).In h₀) (T : Top topProg lo3 mean mg mb h₀) (hC : CodeHd h₀ 132 130) (hb : AllBare s.gens)
    (N : News h₀ L s.heap ((130, tabObj tb) :: rest))
    (r1 : ∀ p ∈ rest, p.1 ≠ 130) (hA : (A9, listOf av.toArray an) ∈ rest) (hR : (R9, listOf rv.toArray rn) ∈ rest) (hIA : IntsAre av (ab.map fun k : Nat => (k : Int))) (hIR : IntsAre rv (rm.map fun k : Nat => (k : Int))) (h7 : ab.length = 7) (h8 : rm.length = 8) (hab : ∀ a ∈ ab, a < 7) (hrm : ∀ a ∈ rm, a < 3)
    (hca : (L + 1, oa) ∈ rest) (hoa : oa.data = .cell (some (.ref A9))) (hcm : (L + 1 + 1, om) ∈ rest) (hom : om.data = .cell none) (l130 : @LT.lt Nat _ 130 L)
    (hans : AnswerOk (setsF [(0, packR rm)] 0 ab) mny x)
    (mr : m (Str.ofString "rooms") = some (.ref R9)) (mx : m (Str.ofString "text") = some (.str x tx)) (mm : m (Str.ofString "many") = some (.int mny tm))
    (hQ : ∀ (m' : Str → Option Value) (news' : List (Addr × Obj)) h' tk' gens' d', Fr h₀ L h' m' → News h₀ L h' news' → AllBare gens' → (∃ tb', (130, tabObj tb') ∈ news') → Q (.ret (.bool true)) { s with heap := h', toks := tk', gens := gens', drawn := d' }) :
    wpAny (model P3 w) (callerA.deeper (envOfC (Str.ofString "law") lawScope L fa cd)) (execs (lawFrom 11) (envOfC (Str.ofString "law") lawScope L fa cd)) Q E s := by
  generalize hl : lawFrom 11 = l
  conv at hl => lhs; whnf
  generalize hsc : lawScope = sc
  conv at hsc => lhs; whnf
  subst hl
  subst hsc
  have hcat : (L + 1, oa) ∈ (130, tabObj tb) :: rest := .tail _ hca
  repeat ((fail_if_success (with_reducible show wpAny _ _ (call (Value.ref 194) _) _ _ _)); (first | (k_unfold; (try dsimp only)) | walk1 | (dsimp only; walk1) | (leave1; try dsimp only)))
  rename (News _ _ _ _) => N5
  refine' sets_c _ _ _ _ _ _ _ _ _ _ _ _ _ _ _ _ _ _ _ _ _ ((130, tabObj tb) :: rest) A9 R9 av rv ab rm an rn ?uB ?uF ?uX ?uT ?uk ?ud ?uu ?uN (.tail _ hA) (.tail _ hR) hIA hIR h7 h8 hab hrm ?hQ
  case uB => k_asm
  case uF => k_asm
  case uX => k_in
  case uT => k_asm
  case uk => exact rfl
  case ud => ktr_room
  case uu => ktr_units
  case uN => exact N5
  case hQ =>
  intro Sx k iv nw2 h2 tk2 d2 F2 N2 sub2 off2 hS2
  obtain ⟨pr, hpr, hlv, hP⟩ := pairs_of hS2
  have hvX := paired_len hS2
  have hX128 := sets_128 (x := (0, packR rm)) h7 ab.length
  rw [List.take_length] at hX128
  have hS0 : 0 < iv.length := by rw [hvX]; exact sets_pos _ _ _ (by simp)
  have hb9 := hb
  generalize setsF [(0, packR rm)] 0 ab = S at hS2 hpr hans hvX hX128
  repeat ((fail_if_success (with_reducible show wpAny _ _ (eval (Expr.ListComp _ _ _ _) _) _ _ _)); (first | (k_unfold; (try dsimp only)) | walk1 | (dsimp only; walk1) | (leave1; try dsimp only)))
  refine' ListComp_P (by assumption) ?hclos ?hcl ?hkind ?hnames ?hxa ?hxb ?hab ?h
  case hclos => exact rfl
  case hcl => decide
  case hkind => exact rfl
  case hnames => decide
  case hxa => exact rfl
  case hxb => exact rfl
  case hab => decide +kernel
  case h =>
  iterate 1 (first | (k_unfold; (try dsimp only)) | walk1 | (dsimp only; walk1) | (leave1; try dsimp only))
  rename (News _ _ _ _) => N5
  rename (Fr _ _ _ _) => F5
  refine .mk Sx iv.toArray k pr _ rfl F5 N5 (.head _) (pairs_at (.head _) hlv hP fun q hq => .tail _ hq) (by rw [List.size_toArray, sizeLine_eq]; walk_at "AR") (FJ1 s.gens ((Sx, listOf iv.toArray k) :: nw2) S) (.mk rfl rfl .nil) ?turn ?fin
  case turn =>
    intro i va vb I oI C oC D9 m₂ h8 tk8 g8 d8 ys nw E' hi hpj hJ hS hNs hma hmb F8 N8 off8 ne8 it8
    obtain ⟨rfl, rfl, hys⟩ := hJ
    obtain ⟨⟨z, l⟩, hzl, tz, tl, hval⟩ := paired_at hpr hpj
    obtain ⟨rfl, rfl⟩ := Prod.mk.inj hval
    refine wpAny_tests_nil ?_
    rw [if_pos rfl]
    dsimp only [stG]
    iterate 1 (first | (k_unfold; (try dsimp only)) | walk1 | (dsimp only; walk1) | (leave1; try dsimp only))
    refine ⟨_, _, _, _, _, F8, N8, off8, hS, rfl, rfl, ?_⟩
    rw [take_one hzl, List.map_append]
    exact hys.append (.cons _ _ .nil)
  case fin =>
    intro ys nw g hJ D9 h9 tk9 d9 hbD9 F9 N9 off9
    obtain ⟨rfl, rfl, hys⟩ := hJ
    rw [show S.take iv.toArray.size = S from by rw [List.size_toArray, hvX, List.take_length]] at hys
    dsimp only [stG]
    repeat ((fail_if_success (with_reducible show wpAny _ _ (call (.builtin "max") _) _ _ _)); (first | (k_unfold; (try dsimp only)) | walk1 | (dsimp only; walk1) | (leave1; try dsimp only)))
    have hSn : 0 < (S.map (·.1)).length := by rw [List.length_map, ← hvX]; exact hS0
    refine max_list_N rfl (by assumption) (by assumption) (listOf_isList (News.get (by assumption) (.head _))) hys hSn ?_
    intro h11 M tM tk11 F11 N11 hM1 hM2
    obtain ⟨rfl, hxA⟩ := hans M hM1 hM2
    repeat ((fail_if_success (with_reducible show wpAny _ _ (storeName _ _ _) _ _ _)); (first | (k_unfold; (try dsimp only)) | walk1 | (dsimp only; walk1) | (leave1; try dsimp only)))
    have hcm2 := sub2 _ (.tail _ hcm)
    have N12 : News h₀ L h11 ((L + 1 + 1, om) :: (Sx, listOf iv.toArray k) :: cutI (L + 1 + 1) nw2) := newsSub N11 fun q hq => by
      rcases List.mem_cons.mp hq with h | hq
      · rw [h]; exact .tail _ (.tail _ hcm2)
      · rcases List.mem_cons.mp hq with h | hq
        · rw [h]; exact .tail _ (.head _)
        · exact .tail _ (.tail _ (cut_sub hq))
    have hP2 : ∀ (i : Nat) (a b : Value), pr[i]? = some (a, b) → ∃ T : Addr, iv[i]? = some (.ref T) ∧ (T, tupOf [a, b]) ∈ cutI (L + 1 + 1) nw2 := fun i a b e => by
      obtain ⟨T, h1, h2⟩ := hP i a b e
      refine ⟨T, h1, cut_mem h2 fun e9 => ?_⟩
      have z1 := (N11 _ (.tail _ (.tail _ h2))).1
      have z2 := (N11 _ (.tail _ (.tail _ hcm2))).1
      dsimp only at e9 z1 z2
      rw [e9, z2] at z1
      have z3 := Option.some.inj z1
      rw [z3] at hom
      cases hom
    refine storeN_cell (pre := []) (post := (Sx, listOf iv.toArray k) :: cutI (L + 1 + 1) nw2) (cc := L + 1 + 1) F11 N12 rfl rfl rfl hom (fun q hq => absurd hq List.not_mem_nil) (List.forall_mem_cons.2 ⟨Ne.symm (off2 _ hcm2), fun q hq => cut_ne hq⟩) fun h13 om2 hom2 F13 N13 => ?_
    have hT13 : (130, tabObj tb) ∈ cutI (L + 1 + 1) nw2 := cut_mem (sub2 _ (.head _)) (Nat.ne_of_lt (Nat.lt_succ_of_lt (Nat.lt_succ_of_lt l130)))
    clear N11 N12 F11
    repeat ((fail_if_success (with_reducible show wpAny _ _ (exec (Stmt.Assign _ (Expr.ListComp _ _ _ _) _) _) _ _ _)); (first | (k_unfold; (try dsimp only)) | walk1 | (dsimp only; walk1) | (leave1; try dsimp only)))
    refine' Assign_ListComp_P (by assumption) rfl ?hsw ?hclos ?hcl ?hkind ?hnames ?hxa ?hxb ?hab ?hy ?hp ?h
    case hsw => exact rfl
    case hy => exact rfl
    case hp => exact rfl
    case hclos => exact rfl
    case hcl => decide
    case hkind => exact rfl
    case hnames => decide
    case hxa => exact rfl
    case hxb => exact rfl
    case hab => decide +kernel
    case h =>
    iterate 1 (first | (k_unfold; (try dsimp only)) | walk1 | (dsimp only; walk1) | (leave1; try dsimp only))
    rename (News _ _ _ _) => N5
    rename (Fr _ _ _ _) => F5
    refine .mk Sx iv.toArray k pr _ rfl F5 N5 (.tail _ (.head _)) (pairs_at (.tail _ (.head _)) hlv hP2 fun q hq => .tail _ (.tail _ hq)) (by rw [List.size_toArray, sizeLine_eq]; walk_at "AR") (FJ2 s.gens ((L + 1 + 1, om2) :: (Sx, listOf iv.toArray k) :: cutI (L + 1 + 1) nw2) S mny) (.mk rfl rfl .nil) ?turn2 ?fin2
    case turn2 =>
      intro i va vb I oI C oC D9 m₂ h8 tk8 g8 d8 ys nw E' hi hpj hJ hS hNs hma hmb F8 N8 off8 ne8 it8
      obtain ⟨rfl, rfl, hys⟩ := hJ
      obtain ⟨⟨z, l⟩, hzl, tz, tl, hval⟩ := paired_at hpr hpj
      obtain ⟨rfl, rfl⟩ := Prod.mk.inj hval
      refine wpAny_tests_one ?_
      dsimp only [stG]
      repeat ((fail_if_success (with_reducible show wpAny _ _ (truthy (.bool _)) _ _ _)); (first | (k_unfold; (try dsimp only)) | walk1 | (dsimp only; walk1) | (leave1; try dsimp only)))
      iterate 1 walk1
      refine ite_in (fun hc1 => ?b1) (fun hc1 => ?b0)
      case b0 =>
        repeat ((fail_if_success (with_reducible show SkipJ _ _ _ _ _ _ _ _ _ _ _ _ _)); (first | (k_unfold; (try dsimp only)) | walk1 | (dsimp only; walk1) | (leave1; try dsimp only)))
        rename (Fr _ _ _ _) => F9
        rename (News _ _ _ _) => N9
        refine ⟨_, _, _, _, _, F9, N9, off8, hS, rfl, rfl, ?_⟩
        rw [take_one hzl, List.filter_append, show [(z, l)].filter (isBest mny) = [] from List.filter_cons_of_neg (fun h => absurd (of_decide_eq_true h) (fun h => hc1 (beq_iff_eq.mpr h.1))), List.append_nil]
        exact hys
      case b1 =>
        repeat ((fail_if_success (with_reducible show wpAny _ _ (truthy (.bool _)) _ _ _)); (first | (k_unfold; (try dsimp only)) | walk1 | (dsimp only; walk1) | (leave1; try dsimp only)))
        iterate 1 walk1
        refine ite_in (fun hc2 => ?b1) (fun hc2 => ?b0)
        case b0 =>
          repeat ((fail_if_success (with_reducible show SkipJ _ _ _ _ _ _ _ _ _ _ _ _ _)); (first | (k_unfold; (try dsimp only)) | walk1 | (dsimp only; walk1) | (leave1; try dsimp only)))
          rename (Fr _ _ _ _) => F9
          rename (News _ _ _ _) => N9
          refine ⟨_, _, _, _, _, F9, N9, off8, hS, rfl, rfl, ?_⟩
          rw [take_one hzl, List.filter_append, show [(z, l)].filter (isBest mny) = [] from List.filter_cons_of_neg (fun h => absurd (of_decide_eq_true h) (fun h => hc2 (decide_eq_true h.2))), List.append_nil]
          exact hys
        case b1 =>
          repeat ((fail_if_success (with_reducible show CEndJ _ _ _ _ _ _ _ _ _ _ _ _ _ _)); (first | (k_unfold; (try dsimp only)) | walk1 | (dsimp only; walk1) | (leave1; try dsimp only)))
          rename (Fr _ _ _ _) => F9
          rename (News _ _ _ _) => N9
          refine ⟨_, _, _, _, _, F9, N9, off8, hS, rfl, rfl, ?_⟩
          rw [take_one hzl, List.filter_append, List.map_append, show [(z, l)].filter (isBest mny) = [(z, l)] from List.filter_cons_of_pos (decide_eq_true ⟨beq_iff_eq.mp hc1, of_decide_eq_true hc2⟩)]
          exact hys.append (.cons _ _ .nil)
    case fin2 =>
      intro ys nw g hJ D9 h9 tk9 d9 hbD9 F9 N9 off9
      obtain ⟨rfl, rfl, hys⟩ := hJ
      rw [show S.take iv.toArray.size = S from by rw [List.size_toArray, hvX, List.take_length]] at hys
      dsimp only [stG]
      repeat ((fail_if_success (with_reducible show wpAny _ _ (truthy (.bool _)) _ _ _)); (first | (k_unfold; (try dsimp only)) | walk1 | (dsimp only; walk1) | (leave1; try dsimp only)))
      rw [beq_self_eq_true mny]
      iterate 1 (first | (k_unfold; (try dsimp only)) | walk1 | (dsimp only; walk1) | (leave1; try dsimp only))
      repeat ((fail_if_success (with_reducible show wpAny _ _ (truthy (.bool _)) _ _ _)); (first | (k_unfold; (try dsimp only)) | walk1 | (dsimp only; walk1) | (leave1; try dsimp only)))
      by_cases hb : S.filter (isBest mny) = []
      · have e2 : (!decide (List.map (fun _ => (1 : Int)) (S.filter (isBest mny)) = [])) = false := by rw [hb]; rfl
        rw [e2]
        rw [if_pos hb] at hxA
        subst hxA
        repeat ((fail_if_success (with_reducible show Q (Flow.ret (Value.bool (_ == _))) _)); (first | (k_unfold; (try dsimp only)) | walk1 | (dsimp only; walk1) | (leave1; try dsimp only)))
        rw [beq_self_eq_true]
        exact hQ _ _ _ _ _ _ (by assumption) (by assumption) hb9 ⟨tb, by k_mem⟩
      · have e2 : (!decide (List.map (fun _ => (1 : Int)) (S.filter (isBest mny)) = [])) = true := by
          rw [decide_eq_false fun e => hb (List.map_eq_nil_iff.mp e)]; rfl
        rw [e2]
        rw [if_neg hb] at hxA
        subst hxA
        repeat ((fail_if_success (with_reducible show Q (Flow.ret (Value.bool (_ == _))) _)); (first | (k_unfold; (try dsimp only)) | walk1 | (dsimp only; walk1) | (leave1; try dsimp only)))
        rw [beq_self_eq_true]
        exact hQ _ _ _ _ _ _ (by assumption) (by assumption) hb9 ⟨tb, by k_mem⟩
end
theorem topOff17 : True := by
  w_top off
  trivial
section
local macro_rules | `(tactic| walk_at "ZZ") => `(tactic| skip)
open PySem PySem.W PyProof.Rows PySem.Calls PySem.Spec
noncomputable abbrev lawPairs : List (Str × Str) := [(Str.ofString "<a n=\"0\"></a>", Str.ofString ""), (Str.ofString "<a n=\"1\"></a>", Str.ofString "u"), (Str.ofString "<a n=\"2\"></a>", Str.ofString "u"), (Str.ofString "<a n=\"2\">u", Str.ofString "!<a n=\"1\">"), (Str.ofString "<a n=\"1\">u", Str.ofString "!<a n=\"0\">"), (Str.ofString "<a n=\"0\">u", Str.ofString "<a n=\"0\">")]
noncomputable def rnd (p : Str × Int) : Str × Int := (replS (replAll lawPairs p.1) (Str.ofString "!") (Str.ofString ""), p.2 + Txt.count (replAll lawPairs p.1) (Str.ofString "!"))
noncomputable def rnds : Nat → Str × Int → Str × Int
  | 0, p => p
  | n + 1, p => rnd (rnds n p)
theorem rnds_e1 (p) : rnds 0 p = p := rfl
theorem rnds_e2 (n) (p) : rnds (n + 1) p = rnd (rnds n p) := rfl
theorem one_rep {y : Str} {a b : Tok} : replAll (pvs ([(Str.ofString "!", Str.ofString "", a, b)] : List PV)) y = replS y (Str.ofString "!") (Str.ofString "") := by (rewrite [pvs, List.map_cons, List.map_nil]; (first | rewrite [replAll_e1] | rewrite [replAll_e2]); (first | rw [replAll_e1] | rw [replAll_e2]))
theorem one_size {y : Str} {a b : Tok} (hy : y.length ≤ 100000) (hz : (replS y (Str.ofString "!") (Str.ofString "")).length ≤ 100000) : ∀ k, k ≤ ([(Str.ofString "!", Str.ofString "", a, b)] : List PV).length → (replAll (pvs (([(Str.ofString "!", Str.ofString "", a, b)] : List PV).take k)) y).length ≤ 100000 := by
  intro k hk
  match k, hk with
  | 0, _ => (rewrite [List.take_zero, pvs, List.map_nil]; (first | rw [replAll_e1] | rw [replAll_e2])); exact hy
  | k + 1, _ => rw [List.take_succ_cons, List.take_nil, one_rep]; exact hz
theorem one_ne {a b : Tok} : ∀ p ∈ ([(Str.ofString "!", Str.ofString "", a, b)] : List PV), (p.1.length == 0) = false ∧ p.2.1.length ≤ 1000 := fun p hp => by
  rw [List.mem_singleton.mp hp]
  exact ⟨show ((Str.ofString "!").length == 0) = false by decide +kernel, show (Str.ofString "").length ≤ 1000 by decide +kernel⟩
theorem hz_of {i : Nat} {p : Str × Int} (h : (replAll (lawPairs.take 0) (rnds (i + 1) p).1).length ≤ 100000) : (replS (replAll lawPairs (rnds i p).1) (Str.ofString "!") (Str.ofString "")).length ≤ 100000 := by
  (rewrite [List.take_zero] at h; (first | rewrite [replAll_e1] at h | rewrite [replAll_e2] at h); (first | rewrite [rnds_e1] at h | rewrite [rnds_e2] at h); rw [rnd] at h)
  exact h
theorem hy_of {x : Str} (h : (replAll (lawPairs.take 6) x).length ≤ 100000) : (replAll lawPairs x).length ≤ 100000 := by
  rw [show lawPairs.take 6 = lawPairs from rfl] at h
  exact h
theorem law_ne {pv : List PV} (h : pvs pv = lawPairs) : ∀ p ∈ pv, (p.1.length == 0) = false ∧ p.2.1.length ≤ 1000 := fun p hp => by
  have h1 : (p.1, p.2.1) ∈ pvs pv := List.mem_map_of_mem (f := fun p : PV => (p.1, p.2.1)) hp
  rw [h] at h1
  have h2 : ∀ q ∈ lawPairs, (q.1.length == 0) = false ∧ q.2.length ≤ 1000 := by decide +kernel
  exact h2 _ h1
inductive RJ (g0 : Gens) (base : List (Addr × Obj)) (PA R9 : Nat) (x0 : Str) (i : Nat) (m₁ : Str → Option Value) (nw : List (Addr × Obj)) (g : Gens) : Prop
  | mk (hg : g = g0) (hn : nw = base) (tx tm : Tok) (mx : m₁ (Str.ofString "text") = some (.str (rnds i (x0, 0)).1 tx)) (mm : m₁ (Str.ofString "many") = some (.int (rnds i (x0, 0)).2 tm)) (mp : m₁ (Str.ofString "pairs") = some (.ref PA)) (mr : m₁ (Str.ofString "rooms") = some (.ref R9)) : RJ g0 base PA R9 x0 i m₁ nw g
theorem RJ.next {g0 : Gens} {base : List (Addr × Obj)} {PA R9 : Nat} {x0 a : Str} {b : Int} {i : Nat} {m₁ : Str → Option Value} {tx tm : Tok} (hr9 : rnds (i + 1) (x0, 0) = (a, b)) (mx : m₁ (Str.ofString "text") = some (.str a tx)) (mm : m₁ (Str.ofString "many") = some (.int b tm)) (mp : m₁ (Str.ofString "pairs") = some (.ref PA)) (mr : m₁ (Str.ofString "rooms") = some (.ref R9)) : RJ g0 base PA R9 x0 (i + 1) m₁ base g0 :=
  .mk rfl rfl tx tm (by rw [hr9]; exact mx) (by rw [hr9]; exact mm) mp mr
set_option maxHeartbeats 4000000 in
theorem lawE (w : World) (h₀ : Heap) (L fa : Nat) (cd : Value) (m mg mb : Str → Option Value) (mean : ExcName → Option Value) (s : Shared) (Q : Flow → Shared → Prop) (E : Value → Shared → Prop)
    (rest : List (Addr × Obj)) (tb : Array Value) (A9 R9 PA : Nat) (av rv : List Value) (ab rm : List Nat) (an rn pn : Nat) (pv : List PV) (x0 : Str) (tx tm : Tok) (oa om : Obj)
    (hE : PassesOwn (model P3 w) (callerA.deeper (envOfC (Str.ofString "law") lawScope L fa cd)) (envOfC (Str.ofString "law") lawScope L fa cd) E) (B : Below callerA h₀ [] h₀) (F : Fr h₀ L s.heap m) (X : (hd2.heap_39 w.params).In h₀) (T : Top topProg lo3 mean mg mb h₀) (hC : CodeHd h₀ 132 130) (hb : AllBare s.gens)
    (N : News h₀ L s.heap ((130, tabObj tb) :: rest))
    (r1 : ∀ p ∈ rest, p.1 ≠ 130) (hA : (A9, listOf av.toArray an) ∈ rest) (hR : (R9, listOf rv.toArray rn) ∈ rest) (hP : (PA, listOf (pairArgs pv).toArray pn) ∈ rest) (hpv : pvs pv = lawPairs) (hIA : IntsAre av (ab.map fun k : Nat => (k : Int))) (hIR : IntsAre rv (rm.map fun k : Nat => (k : Int))) (h7 : ab.length = 7) (h8 : rm.length = 8) (hab : ∀ a ∈ ab, a < 7) (hrm : ∀ a ∈ rm, a < 3)
    (hca : (L + 1, oa) ∈ rest) (hoa : oa.data = .cell (some (.ref A9))) (hcm : (L + 1 + 1, om) ∈ rest) (hom : om.data = .cell none) (l130 : @LT.lt Nat _ 130 L)
    (hsz : ∀ i, i ≤ 8 → ∀ k, k ≤ 6 → (replAll (lawPairs.take k) (rnds i (x0, 0)).1).length ≤ 100000) (hans : AnswerOk (setsF [(0, packR rm)] 0 ab) (rnds 8 (x0, 0)).2 (rnds 8 (x0, 0)).1)
    (mr : m (Str.ofString "rooms") = some (.ref R9)) (mp : m (Str.ofString "pairs") = some (.ref PA)) (mx : m (Str.ofString "text") = some (.str x0 tx)) (mm : m (Str.ofString "many") = some (.int 0 tm))
    (hQ : ∀ (m' : Str → Option Value) (news' : List (Addr × Obj)) h' tk' gens' d', Fr h₀ L h' m' → News h₀ L h' news' → AllBare gens' → (∃ tb', (130, tabObj tb') ∈ news') → Q (.ret (.bool true)) { s with heap := h', toks := tk', gens := gens', drawn := d' }) :
    wpAny (model P3 w) (callerA.deeper (envOfC (Str.ofString "law") lawScope L fa cd)) (execs (lawFrom 10) (envOfC (Str.ofString "law") lawScope L fa cd)) Q E s := by
  generalize hl : lawFrom 10 = l
  conv at hl => lhs; whnf
  generalize hsc : lawScope = sc
  conv at hsc => lhs; whnf
  subst hl
  subst hsc
  have hlp : pv.length = 6 := by have h9 := congrArg List.length hpv; rw [List.length_map] at h9; exact h9
  repeat ((fail_if_success (with_reducible show wpAny _ _ (exec (Stmt.For _ _ _ _ _) _) _ _ _)); (first | (k_unfold; (try dsimp only)) | walk1 | (dsimp only; walk1) | (leave1; try dsimp only)))
  refine' For_J (by assumption) rfl rfl (by exact rfl) ?_ (hE := hE)
  repeat (first | (k_unfold; (try dsimp only)) | walk1 | (dsimp only; walk1) | (leave1; try dsimp only))
  rename (IsRange _ _ _ _ _ _ _ _) => hr5
  rename (News _ _ _ _) => N5
  rename (Fr _ _ _ _) => F5
  refine .inr ⟨_, 0, 8, _, _, _, 8, (130, tabObj tb) :: rest, m, rfl, F5, N5, hr5, by decide +kernel, by decide +kernel, (fun i => RJ s.gens ((130, tabObj tb) :: rest) PA R9 x0 i), ⟨rfl, rfl, tx, tm, mx, mm, mp, mr⟩, ?turn, ?done⟩
  case turn =>
    intro i v I oI m₁ h6 tk6 g6 d6 nw hi hv hJ hS F6 N6 off6 it6
    obtain ⟨rfl, rfl, tx6, tm6, mx6, mm6, mp6, mr6⟩ := hJ
    obtain ⟨t9, rfl⟩ := hv
    have hPA6 : (PA, listOf (pairArgs pv).toArray pn) ∈ (I, oI) :: (130, tabObj tb) :: rest := .tail _ (.tail _ hP)
    dsimp only [stG]
    repeat (first | (k_unfold; (try dsimp only)) | walk1 | (dsimp only; walk1) | (leave1; try dsimp only))
    refine' star_seq (ws := pairArgs pv) (by assumption) (by assumption) (.tail _ (.tail _ hP)) rfl rfl (.inl rfl) rfl ?sz9 ?sh9
    case sz9 => rw [List.size_toArray, pairArgs_len, hlp, sizeLine_eq]; decide
    case sh9 =>
    intro h9 F9 N9
    repeat ((fail_if_success (with_reducible show wpAny _ _ (call (Value.ref 45) _) _ _ _)); (first | (k_unfold; (try dsimp only)) | walk1 | (dsimp only; walk1) | (leave1; try dsimp only)))
    rw [List.append_nil]
    rename (News _ _ _ _) => N10
    rename (Fr _ _ _ _) => F10
    refine' replace_g _ _ _ _ _ _ _ _ _ _ _ _ _ _ _ _ _ _ _ _ _ _ pv _ _ ?uB ?uF ?uX ?uT ?uk ?ud ?uu ?uN (law_ne hpv) (by walk_at "AR") ?rs ?rQ
    case uB => k_asm
    case uF => k_asm
    case uX => k_in
    case uT => k_asm
    case uk => exact rfl
    case ud => ktr_room
    case uu => ktr_units
    case uN => exact N10
    case rs =>
      intro k hk
      rw [pvs, List.map_take, ← pvs, hpv]
      exact hsz i (Nat.le_of_lt hi) k (by walk_at "AR")
    case rQ =>
    intro u11 h11 tk11 F11 N11
    rw [hpv]
    have hy := hy_of (hsz i (Nat.le_of_lt hi) 6 (by decide))
    have hz := hz_of (hsz (i + 1) hi 0 (by decide))
    have hr9 : rnds (i + 1) (x0, 0) = rnd (rnds i (x0, 0)) := rfl
    rw [rnd] at hr9
    generalize replAll lawPairs (rnds i (x0, 0)).1 = y at hy hz hr9 ⊢
    repeat ((fail_if_success (with_reducible show wpAny _ _ (call (Value.ref 45) _) _ _ _)); (first | (k_unfold; (try dsimp only)) | walk1 | (dsimp only; walk1) | (leave1; try dsimp only)))
    rename (News _ _ _ _) => N12
    rename (Fr _ _ _ _) => F12
    refine' replace_g _ _ _ _ _ _ _ _ _ _ _ _ _ _ _ _ _ _ _ _ _ _ [(Str.ofString "!", Str.ofString "", _, _)] y _ ?uB ?uF ?uX ?uT ?uk ?ud ?uu ?uN one_ne (show 1 ≤ 100 by decide) (one_size hy hz) ?rQ
    case uB => k_asm
    case uF => k_asm
    case uX => k_in
    case uT => k_asm
    case uk => exact rfl
    case ud => ktr_room
    case uu => ktr_units
    case uN => exact N12
    case rQ =>
    intro u13 h13 tk13 F13 N13
    rw [one_rep]
    repeat ((fail_if_success (with_reducible show ForTurn _ _ _ _ _ _ _ _ _ _)); (first | (k_unfold; (try dsimp only)) | walk1 | (dsimp only; walk1) | (leave1; try dsimp only)))
    rename (News _ _ _ _) => N14
    rename (Fr _ _ _ _) => F14
    refine ⟨_, _, _, _, _, _, F14, N14, off6, trivial, RJ.next hr9 (if_pos rfl) (Eq.trans (if_neg (by decide +kernel)) (if_pos rfl)) ?e3 ?e4⟩
    all_goals (repeat (first | with_reducible assumption | refine Eq.trans (if_neg (by decide +kernel)) ?_))
  case done =>
    intro m₁ nw h6 tk6 g6 d6 hJ F6 N6
    obtain ⟨rfl, rfl, tx6, tm6, mx6, mm6, mp6, mr6⟩ := hJ
    dsimp only [stG]
    refine' lawF w h₀ L fa cd _ mg mb mean _ Q E rest tb A9 R9 av rv ab rm an rn (rnds 8 (x0, 0)).1 tx6 tm6 (rnds 8 (x0, 0)).2 oa om hE B ?lF X T hC ?lB ?lN r1 hA hR hIA hIR h7 h8 hab hrm hca hoa hcm hom l130 hans ?lr ?lx ?lm ?lQ
    case lF => exact F6
    case lB => exact hb
    case lN => exact N6
    case lr => exact mr6
    case lx => exact mx6
    case lm => exact mm6
    case lQ => exact hQ
end
theorem topOff18 : True := by
  w_top off
  trivial
section
open PySem PySem.W PyProof.Rows PySem.Calls PySem.Spec
theorem news_mv {h₀ h : Heap} {L : Addr} {b a c : Addr × Obj} {r : List (Addr × Obj)} (N : News h₀ L h (b :: a :: c :: r)) : News h₀ L h (c :: a :: r) := fun p hp => N p (by
  simp only [List.mem_cons] at hp ⊢
  rcases hp with h | h | h <;> simp only [h, true_or, or_true])
set_option maxHeartbeats 4000000 in
theorem lawD (w : World) (h₀ : Heap) (L fa : Nat) (cd : Value) (m mg mb : Str → Option Value) (mean : ExcName → Option Value) (s : Shared) (Q : Flow → Shared → Prop) (E : Value → Shared → Prop)
    (rest : List (Addr × Obj)) (tb : Array Value) (A9 R9 C9 K9 : Nat) (av rv cv ka : List Value) (ab rm : List Nat) (an rn cn9 kn : Nat) (t : Tq) (oa om : Obj)
    (hE : PassesOwn (model P3 w) (callerA.deeper (envOfC (Str.ofString "law") lawScope L fa cd)) (envOfC (Str.ofString "law") lawScope L fa cd) E) (B : Below callerA h₀ [] h₀) (F : Fr h₀ L s.heap m) (X : (hd2.heap_39 w.params).In h₀) (T : Top topProg lo3 mean mg mb h₀) (hC : CodeHd h₀ 132 130) (hb : AllBare s.gens)
    (N : News h₀ L s.heap ((130, tabObj tb) :: rest))
    (r1 : ∀ p ∈ rest, p.1 ≠ 130) (htb : TabSt lamPos lamQ tb rest) (hA : (A9, listOf av.toArray an) ∈ rest) (hR : (R9, listOf rv.toArray rn) ∈ rest) (hCh : (C9, listOf cv.toArray cn9) ∈ rest) (hK : (K9, listOf ka.toArray kn) ∈ rest) (hIA : IntsAre av (ab.map fun k : Nat => (k : Int))) (hIR : IntsAre rv (rm.map fun k : Nat => (k : Int))) (h7 : ab.length = 7) (h8 : rm.length = 8) (hab : ∀ a ∈ ab, a < 7) (hrm : ∀ a ∈ rm, a < 3)
    (hT : TqIn rest ka rv cv t) (hrt : t.root = 0) (hdep : depq t ≤ 9) (hsq : 4 * sizq t ≤ 900) (hwl : (wrT t).length ≤ 5000)
    (hca : (L + 1, oa) ∈ rest) (hoa : oa.data = .cell (some (.ref A9))) (hcm : (L + 1 + 1, om) ∈ rest) (hom : om.data = .cell none) (l130 : @LT.lt Nat _ 130 L)
    (hsz : ∀ i, i ≤ 8 → ∀ k, k ≤ 6 → (replAll (lawPairs.take k) (rnds i (wrT t, 0)).1).length ≤ 100000) (hans : AnswerOk (setsF [(0, packR rm)] 0 ab) (rnds 8 (wrT t, 0)).2 (rnds 8 (wrT t, 0)).1)
    (mk : m (Str.ofString "kids") = some (.ref K9)) (mr : m (Str.ofString "rooms") = some (.ref R9)) (mc : m (Str.ofString "chaff") = some (.ref C9))
    (hQ : ∀ (m' : Str → Option Value) (news' : List (Addr × Obj)) h' tk' gens' d', Fr h₀ L h' m' → News h₀ L h' news' → AllBare gens' → (∃ tb', (130, tabObj tb') ∈ news') → Q (.ret (.bool true)) { s with heap := h', toks := tk', gens := gens', drawn := d' }) :
    wpAny (model P3 w) (callerA.deeper (envOfC (Str.ofString "law") lawScope L fa cd)) (execs (lawFrom 7) (envOfC (Str.ofString "law") lawScope L fa cd)) Q E s := by
  generalize hl : lawFrom 7 = l
  conv at hl => lhs; whnf
  generalize hsc : lawScope = sc
  conv at hsc => lhs; whnf
  subst hl
  subst hsc
  repeat ((fail_if_success (with_reducible show wpAny _ _ (inplaceOp _ _ _) _ _ _)); (first | (k_unfold; (try dsimp only)) | walk1 | (dsimp only; walk1) | (leave1; try dsimp only)))
  rename (News _ _ _ _) => N5
  rename (Fr _ _ _ _) => F5
  refine iadd_all (pre := [(_, _)]) (vs := [_, _, _, _, _, _]) (ws := [_, _, _, _, _, _]) (post := (130, tabObj tb) :: rest) F5 N5 (.head _) ?p1 ?p2 (by simp) (fun h6 pk F6 N6 => ?_)
  case p1 => k_all
  case p2 => k_all
  have lt5 := fun (p : Addr × Obj) hp => Nat.ne_of_gt (Heap.lt_size (N5 p hp).1)
  obtain ⟨PA, pv, ePA, hpv, hpA, N6⟩ : ∃ (PA : Nat) (pv : List PV), PA = _ ∧ pvs pv = lawPairs ∧ (∀ p ∈ (130, tabObj tb) :: rest, @Ne Nat p.1 PA) ∧ News h₀ L h6 ((_, _) :: (PA, listOf (pairArgs pv).toArray pk) :: (130, tabObj tb) :: rest) := ⟨_, [(_, _, _, _), (_, _, _, _), (_, _, _, _), (_, _, _, _), (_, _, _, _), (_, _, _, _)], rfl, rfl, by k_all, N6⟩
  rw [← ePA]
  clear ePA N5
  repeat ((fail_if_success (with_reducible show wpAny _ _ (call (Value.ref 189) _) _ _ _)); (first | (k_unfold; (try dsimp only)) | walk1 | (dsimp only; walk1) | (leave1; try dsimp only)))
  rename (News _ _ _ _) => N7
  rename (Fr _ _ _ _) => F7
  refine' written_c _ _ _ _ _ _ _ _ _ _ _ _ _ _ _ _ _ _ _ _ _ ((PA, listOf (pairArgs pv).toArray pk) :: rest) tb t K9 R9 C9 ka rv cv kn rn cn9 ?uB ?uF ?uX ?uT ?uk ?ud ?uu ?uN ?vr ?vt hb hC hdep hsq hwl hrt (.tail _ hK) (.tail _ hR) (.tail _ hCh) (hT.mono fun p hp => .tail _ hp) ?hQ
  case uB => k_asm
  case uF => k_asm
  case uX => k_in
  case uT => k_asm
  case uk => exact rfl
  case ud => ktr_room
  case uu => ktr_units
  case uN => exact news_mv N7
  case vr => exact List.forall_mem_cons.2 ⟨Ne.symm (hpA _ (.head _)), r1⟩
  case vt => exact tabSt_mono htb fun p hp => .tail _ hp
  case hQ =>
  intro tb8 new8 u8 h8h tk8 g8 d8 F8 N8 T8 c8 o8 B8
  repeat ((fail_if_success (with_reducible show wpAny _ _ (execs (Stmt.For _ _ _ _ _ :: _) _) _ _ _)); (first | (k_unfold; (try dsimp only)) | walk1 | (dsimp only; walk1) | (leave1; try dsimp only)))
  rename (News _ _ _ _) => N9
  rename (Fr _ _ _ _) => F9
  have sub9 : ∀ p ∈ rest, p ∈ new8 ++ (PA, listOf (pairArgs pv).toArray pk) :: rest := fun p hp => List.mem_append_right _ (.tail _ hp)
  refine' lawE w h₀ L fa cd _ mg mb mean _ Q E (new8 ++ (PA, listOf (pairArgs pv).toArray pk) :: rest) tb8 A9 R9 PA av rv ab rm an rn pk pv (wrT t) u8 tk8 oa om hE B ?lF X T hC ?lB ?lN ?lr (sub9 _ hA) (sub9 _ hR) (List.mem_append_right _ (.head _)) hpv hIA hIR h7 h8 hab hrm (sub9 _ hca) hoa (sub9 _ hcm) hom l130 hsz hans ?n1 ?n2 ?n3 ?n4 ?lQ
  case lF => exact F9
  case lB => exact B8
  case lN => exact newsSub N9 fun p hp => .tail _ hp
  case lr =>
    intro p hp
    rcases List.mem_append.mp hp with hp | hp
    · exact o8 p hp
    · rcases List.mem_cons.mp hp with h | hp
      · rw [h]; exact Ne.symm (hpA _ (.head _))
      · exact r1 p hp
  case n3 => exact if_pos rfl
  case n4 => exact Eq.trans (if_neg (by decide +kernel)) (if_pos rfl)
  case lQ => exact hQ
  all_goals (repeat (first | with_reducible assumption | exact if_pos rfl | refine Eq.trans (if_neg (by decide +kernel)) ?_))
end
section
open PySem PySem.Calls PyProof.Rows PySem.W PySem.Spec
noncomputable def kidsOf (ab : List Nat) (p : Nat) : List Nat := ((List.range 7).filter fun k => ab[k]? == some p).map (· + 1)
noncomputable def trF (ab rm cf : List Nat) : Nat → Nat → Tq
  | 0, p => .node p (rm.getD p 0) (cf.getD p 0) []
  | f + 1, p => .node p (rm.getD p 0) (cf.getD p 0) ((kidsOf ab p).map (trF ab rm cf f))
theorem trF_e1 (ab rm cf : List Nat) (p) : trF ab rm cf 0 p = .node p (rm.getD p 0) (cf.getD p 0) [] := rfl
theorem trF_e2 (ab rm cf : List Nat) (f) (p) : trF ab rm cf (f + 1) p = .node p (rm.getD p 0) (cf.getD p 0) ((kidsOf ab p).map (trF ab rm cf f)) := rfl
noncomputable def AbOk (ab : List Nat) : Prop := ab.length = 7 ∧ ∀ (k v : Nat), ab[k]? = some v → v ≤ k
theorem AbOk.lt {ab : List Nat} (h : AbOk ab) : ∀ a ∈ ab, a < 7 := fun a ha => by
  obtain ⟨k, hk⟩ := List.getElem?_of_mem ha
  have h1 := h.2 k a hk
  have h2 := (List.getElem?_eq_some_iff.mp hk).1
  have h3 := h.1
  omega
theorem kids_gt {ab : List Nat} (h : AbOk ab) {p c : Nat} (hc : c ∈ kidsOf ab p) : p < c ∧ c < 8 := by
  obtain ⟨k, hk, rfl⟩ := List.mem_map.mp hc
  obtain ⟨h1, h2⟩ := List.mem_filter.mp hk
  have h3 := h.2 k p (by simpa using h2)
  have h4 := List.mem_range.mp h1
  omega
theorem trF_root (ab rm cf : List Nat) (f p : Nat) : (trF ab rm cf f p).root = p := by
  cases f <;> rfl
theorem kids_len (ab : List Nat) (p : Nat) : (kidsOf ab p).length ≤ 7 := by
  rw [kidsOf, List.length_map]
  exact Nat.le_trans (List.length_filter_le _ _) (by rw [List.length_range]; exact Nat.le_refl _)
theorem depqL_le {ts : List Tq} {n : Nat} (h : ∀ t ∈ ts, depq t ≤ n) : depqL ts ≤ n := by
  induction ts with
  | nil => ((first | rw [depqL_e1] | rw [depqL_e2])); exact Nat.zero_le _
  | cons t r ih => ((first | rw [depqL_e1] | rw [depqL_e2])); exact Nat.max_le.mpr ⟨h t (.head _), ih fun t ht => h t (.tail _ ht)⟩
theorem trF_dep (ab rm cf : List Nat) : ∀ f p, depq (trF ab rm cf f p) ≤ f + 1
  | 0, p => by ((first | rewrite [trF_e1] | rewrite [trF_e2]); rewrite [depq_e1]; (first | rw [depqL_e1] | rw [depqL_e2])); exact Nat.le_refl _
  | f + 1, p => by
    ((first | rewrite [trF_e1] | rewrite [trF_e2]); rw [depq_e1])
    refine Nat.succ_le_succ (depqL_le fun t ht => ?_)
    obtain ⟨c, _, rfl⟩ := List.mem_map.mp ht
    exact trF_dep ab rm cf f c
theorem op_len (r : Nat) : (opA (rS r)).length = 9 := by
  match r with
  | 0 => decide +kernel
  | 1 => decide +kernel
  | r + 2 => exact (show (opA (rS (r + 2))).length = (opA (rS 2)).length from rfl).trans (by decide +kernel)
mutual
theorem wr_len : ∀ t : Tq, (wrT t).length = 13 * sizq t
  | .node p r c ts => by
    have h := wrL_len ts
    rw [wrT_e1, sizq_e1, PySem.Str.length_append, PySem.Str.length_append, op_len, h, show clA.length = 4 from by decide +kernel]; omega
theorem wrL_len : ∀ ts : List Tq, (wrL ts).length = 13 * sizqL ts
  | [] => by ((first | rewrite [wrL_e1] | rewrite [wrL_e2]); (first | rw [sizqL_e1] | rw [sizqL_e2])); decide +kernel
  | t :: r => by
    ((first | rewrite [wrL_e1] | rewrite [wrL_e2]); (first | rewrite [sizqL_e1] | rewrite [sizqL_e2]); rw [PySem.Str.length_append, wr_len t, wrL_len r]); omega
end
theorem row_lt {n : Nat} {l : List Nat} (h0 : 0 < n) (h : ∀ k ∈ l, k < n) (p : Nat) : l.getD p 0 < n := by
  rw [List.getD_eq_getElem?_getD]
  cases e : l[p]? with
  | none => exact h0
  | some k => exact h k (List.mem_of_getElem? e)
theorem row_at {kv : List Value} {l : List Nat} {n : Nat} (hkv : IntsAre kv (l.map fun k : Nat => (k : Int))) (hl : l.length = n) {p : Nat} (hp : p < n) : ∃ t, kv[p]? = some (Value.int ((l.getD p 0 : Nat) : Int) t) := by
  have hpk : p < l.length := by omega
  have hpv : p < kv.length := by rw [hkv.length, List.length_map]; exact hpk
  obtain ⟨n9, t9, e9, h9⟩ := hkv.at p kv[p] (List.getElem?_eq_getElem hpv)
  rw [List.getElem?_map, List.getElem?_eq_getElem hpk] at h9
  refine ⟨t9, ?_⟩
  rw [List.getElem?_eq_getElem hpv, e9, List.getD_eq_getElem?_getD, List.getElem?_eq_getElem hpk]
  obtain rfl := Option.some.inj h9
  rfl
theorem tree_in {news : List (Addr × Obj)} {ka rv cv : List Value} {ab rm cf : List Nat} (hab : AbOk ab) (hr3 : ∀ k ∈ rm, k < 3) (hr8 : rm.length = 8) (hrv : IntsAre rv (rm.map fun k : Nat => (k : Int))) (hc4 : ∀ k ∈ cf, k < 4) (hc8 : cf.length = 8) (hcv : IntsAre cv (cf.map fun k : Nat => (k : Int)))
    (hka : ∀ p, p < 8 → ∃ a vs n, ka[p]? = some (Value.ref a) ∧ (a, listOf vs.toArray n) ∈ news ∧ IntsAre vs ((kidsOf ab p).map fun c : Nat => (c : Int))) :
    ∀ f p, p < 8 → 8 ≤ p + f → TqIn news ka rv cv (trF ab rm cf f p)
  | 0, p, h1, h2 => by omega
  | f + 1, p, h1, h2 => by
    obtain ⟨a, vs, n, e1, e2, e3⟩ := hka p h1
    obtain ⟨t4, e4⟩ := row_at hrv hr8 h1
    obtain ⟨t5, e5⟩ := row_at hcv hc8 h1
    ((first | rw [trF_e1] | rw [trF_e2]))
    refine .node (by omega) e1 e2 ?_ e4 e5 ?_ ?_ (row_lt (by decide) hr3 p) (row_lt (by decide) hc4 p)
    · have : ((kidsOf ab p).map (trF ab rm cf f)).map (fun t => (t.root : Int)) = (kidsOf ab p).map fun c : Nat => (c : Int) := by
        rw [List.map_map]
        exact List.map_congr_left fun c _ => by show ((trF ab rm cf f c).root : Int) = _; rw [trF_root]
      rw [this]; exact e3
    · intro t' ht
      obtain ⟨c, hc, rfl⟩ := List.mem_map.mp ht
      have h9 := kids_gt hab hc
      exact tree_in hab hr3 hr8 hrv hc4 hc8 hcv hka f c h9.2 (by omega)
    · rw [List.length_map]; exact Nat.le_trans (kids_len ab p) (by decide)
end
section
open PySem
mutual
noncomputable def occ (q : Nat) : Tq → Nat
  | .node p _ _ ts => (if p = q then 1 else 0) + occL q ts
noncomputable def occL (q : Nat) : List Tq → Nat
  | [] => 0
  | t :: r => occ q t + occL q r
end
theorem occ_e1 (q : Nat) (u1) (u2) (p) (ts) : occ q (.node p u1 u2 ts) = (if p = q then 1 else 0) + occL q ts := rfl
theorem occL_e1 (q : Nat) : occL q [] = 0 := rfl
theorem occL_e2 (q : Nat) (t) (r) : occL q (t :: r) = occ q t + occL q r := rfl
theorem occL_app (q : Nat) (a b : List Tq) : occL q (a ++ b) = occL q a + occL q b := by
  induction a with
  | nil => (rewrite [List.nil_append]; (first | rewrite [occL_e1] | rewrite [occL_e2]); rw [Nat.zero_add])
  | cons t r ih => (rewrite [List.cons_append]; (first | rewrite [occL_e1] | rewrite [occL_e2]); (first | rewrite [occL_e1] | rewrite [occL_e2]); rw [ih, Nat.add_assoc])
theorem sizqL_app (a b : List Tq) : sizqL (a ++ b) = sizqL a + sizqL b := by
  induction a with
  | nil => (rewrite [List.nil_append]; (first | rewrite [sizqL_e1] | rewrite [sizqL_e2]); rw [Nat.zero_add])
  | cons t r ih => (rewrite [List.cons_append]; (first | rewrite [sizqL_e1] | rewrite [sizqL_e2]); (first | rewrite [sizqL_e1] | rewrite [sizqL_e2]); rw [ih, Nat.add_assoc])
mutual
noncomputable def ins (p : Nat) (lf : Tq) : Tq → Tq
  | .node q r c ts => .node q r c (insL p lf ts ++ (if q = p then [lf] else []))
noncomputable def insL (p : Nat) (lf : Tq) : List Tq → List Tq
  | [] => []
  | t :: r => ins p lf t :: insL p lf r
end
theorem ins_e1 (p : Nat) (lf : Tq) (q) (r) (c) (ts) : ins p lf (.node q r c ts) = .node q r c (insL p lf ts ++ (if q = p then [lf] else [])) := rfl
theorem insL_e1 (p : Nat) (lf : Tq) : insL p lf [] = [] := rfl
theorem insL_e2 (p : Nat) (lf : Tq) (t) (r) : insL p lf (t :: r) = ins p lf t :: insL p lf r := rfl
theorem insL_map (p : Nat) (lf : Tq) : ∀ ts : List Tq, insL p lf ts = ts.map (ins p lf)
  | [] => rfl
  | t :: r => by ((first | rewrite [insL_e1] | rewrite [insL_e2]); rw [insL_map p lf r]); rfl
section
variable {p v r' c' : Nat}
mutual
theorem occ_ins (q : Nat) : ∀ t : Tq, occ q (ins p (.node v r' c' []) t) = occ q t + (if v = q then occ p t else 0)
  | .node x r c ts => by
    have a := occL_ins q ts
    rw [ins_e1, occ_e1, occ_e1, occ_e1, occL_app, a]
    by_cases hx : x = p
    · (rewrite [if_pos hx, if_pos hx]; (first | rewrite [occL_e1] | rewrite [occL_e2]); (first | rewrite [occL_e1] | rewrite [occL_e2]); rewrite [occ_e1]; (first | rw [occL_e1] | rw [occL_e2]))
      by_cases hvq : v = q
      · simp only [if_pos hvq]; omega
      · simp only [if_neg hvq]; omega
    · (rewrite [if_neg hx, if_neg hx]; (first | rw [occL_e1] | rw [occL_e2]))
      by_cases hvq : v = q
      · simp only [if_pos hvq]; omega
      · simp only [if_neg hvq]; omega
theorem occL_ins (q : Nat) : ∀ ts : List Tq, occL q (insL p (.node v r' c' []) ts) = occL q ts + (if v = q then occL p ts else 0)
  | [] => by ((first | rewrite [insL_e1] | rewrite [insL_e2]); (first | rewrite [occL_e1] | rewrite [occL_e2]); (first | rw [occL_e1] | rw [occL_e2])); split <;> rfl
  | t :: r => by
    have a := occ_ins q t
    have b := occL_ins q r
    ((first | rewrite [insL_e1] | rewrite [insL_e2]); (first | rewrite [occL_e1] | rewrite [occL_e2]); (first | rewrite [occL_e1] | rewrite [occL_e2]); (first | rewrite [occL_e1] | rewrite [occL_e2]); rw [a, b])
    by_cases hvq : v = q
    · simp only [if_pos hvq]; omega
    · simp only [if_neg hvq]; omega
end
mutual
theorem siz_ins : ∀ t : Tq, sizq (ins p (.node v r' c' []) t) = sizq t + occ p t
  | .node x r c ts => by
    have a := sizL_ins ts
    rw [ins_e1, sizq_e1, sizq_e1, occ_e1, sizqL_app, a]
    by_cases hx : x = p
    · (rewrite [if_pos hx, if_pos hx]; (first | rewrite [sizqL_e1] | rewrite [sizqL_e2]); (first | rewrite [sizqL_e1] | rewrite [sizqL_e2]); rewrite [sizq_e1]; (first | rw [sizqL_e1] | rw [sizqL_e2])); omega
    · (rewrite [if_neg hx, if_neg hx]; (first | rw [sizqL_e1] | rw [sizqL_e2])); omega
theorem sizL_ins : ∀ ts : List Tq, sizqL (insL p (.node v r' c' []) ts) = sizqL ts + occL p ts
  | [] => by ((first | rewrite [insL_e1] | rewrite [insL_e2]); (first | rewrite [sizqL_e1] | rewrite [sizqL_e2]); (first | rw [occL_e1] | rw [occL_e2]))
  | t :: r => by
    have a := siz_ins t
    have b := sizL_ins r
    ((first | rewrite [insL_e1] | rewrite [insL_e2]); (first | rewrite [sizqL_e1] | rewrite [sizqL_e2]); (first | rewrite [sizqL_e1] | rewrite [sizqL_e2]); (first | rewrite [occL_e1] | rewrite [occL_e2]); rw [a, b]); omega
end
end
theorem kids_take {ab : List Nat} {n : Nat} (hn : n ≤ 7) (q : Nat) : kidsOf (ab.take n) q = ((List.range n).filter fun k => ab[k]? == some q).map (· + 1) := by
  unfold kidsOf
  congr 1
  rw [show List.range 7 = List.range (n + (7 - n)) from by rw [Nat.add_sub_cancel' hn], List.range_add, List.filter_append]
  have h2 : ((List.range (7 - n)).map fun x => n + x).filter (fun k => (ab.take n)[k]? == some q) = [] := by
    refine List.filter_eq_nil_iff.mpr fun x hx => ?_
    obtain ⟨j, _, rfl⟩ := List.mem_map.mp hx
    rw [List.getElem?_take, if_neg (by omega)]
    simp
  rw [h2, List.append_nil]
  refine List.filter_congr fun k hk => ?_
  rw [List.getElem?_take, if_pos (List.mem_range.mp hk)]
theorem kids_step {ab : List Nat} {n a : Nat} (hn : n < 7) (ha : ab[n]? = some a) (q : Nat) : kidsOf (ab.take (n + 1)) q = kidsOf (ab.take n) q ++ (if q = a then [n + 1] else []) := by
  rw [kids_take hn, kids_take (Nat.le_of_lt hn), List.range_succ, List.filter_append, List.map_append]
  congr 1
  by_cases h : q = a
  · rw [if_pos h, List.filter_cons_of_pos (by rw [ha, h]; simp)]; rfl
  · rw [if_neg h, List.filter_cons_of_neg (by rw [ha]; simpa using Ne.symm h)]; rfl
theorem kids_above {ab : List Nat} (hab : AbOk ab) {n q c : Nat} (hn : n ≤ 7) (hc : c ∈ kidsOf (ab.take n) q) : q < c ∧ c ≤ n := by
  rw [kids_take hn] at hc
  obtain ⟨k, hk, rfl⟩ := List.mem_map.mp hc
  obtain ⟨h1, h2⟩ := List.mem_filter.mp hk
  have h3 := hab.2 k q (by simpa using h2)
  have h4 := List.mem_range.mp h1
  omega
theorem leaf_tr {ab : List Nat} (rm cf : List Nat) (hab : AbOk ab) {n : Nat} (hn : n ≤ 7) (f v : Nat) (hv : n ≤ v) : trF (ab.take n) rm cf f v = .node v (rm.getD v 0) (cf.getD v 0) [] := by
  have h : kidsOf (ab.take n) v = [] := by
    cases e : kidsOf (ab.take n) v with
    | nil => rfl
    | cons c r =>
      have := kids_above hab hn (q := v) (c := c) (by rw [e]; exact .head _)
      omega
  cases f with
  | zero => rfl
  | succ f => ((first | rewrite [trF_e1] | rewrite [trF_e2]); rw [h]); rfl
theorem tr_ins {ab : List Nat} (rm cf : List Nat) (hab : AbOk ab) {n a : Nat} (hn : n < 7) (ha : ab[n]? = some a) : ∀ f q, 8 ≤ q + f → trF (ab.take (n + 1)) rm cf f q = ins a (.node (n + 1) (rm.getD (n + 1) 0) (cf.getD (n + 1) 0) []) (trF (ab.take n) rm cf f q)
  | 0, q, h => by
    have := hab.2 n a ha
    ((first | rewrite [trF_e1] | rewrite [trF_e2]); (first | rewrite [trF_e1] | rewrite [trF_e2]); rewrite [ins_e1]; (first | rewrite [insL_e1] | rewrite [insL_e2]); rw [if_neg (by omega)]); rfl
  | f + 1, q, h => by
    ((first | rewrite [trF_e1] | rewrite [trF_e2]); (first | rewrite [trF_e1] | rewrite [trF_e2]); rw [ins_e1, insL_map, kids_step hn ha, List.map_append, List.map_map])
    congr 2
    · refine List.map_congr_left fun c hc => ?_
      have h9 := kids_above hab (Nat.le_of_lt hn) hc
      exact tr_ins rm cf hab hn ha f c (by omega)
    · by_cases hq : q = a
      · rw [if_pos hq, if_pos hq]
        show [trF (ab.take (n + 1)) rm cf f (n + 1)] = _
        rw [leaf_tr rm cf hab hn f (n + 1) (Nat.le_refl _)]
      · rw [if_neg hq, if_neg hq]; rfl
theorem occ_tr {ab : List Nat} (rm cf : List Nat) (hab : AbOk ab) : ∀ n, n ≤ 7 → ∀ q, occ q (trF (ab.take n) rm cf 8 0) = if q ≤ n then 1 else 0
  | 0, _, q => by
    (rewrite [leaf_tr rm cf hab (Nat.zero_le _) 8 0 (Nat.le_refl _), occ_e1]; (first | rw [occL_e1] | rw [occL_e2]))
    by_cases h : q ≤ 0
    · rw [if_pos h, if_pos (by omega)]
    · rw [if_neg h, if_neg (by omega)]
  | n + 1, hn, q => by
    obtain ⟨a, ha⟩ : ∃ a, ab[n]? = some a := ⟨_, List.getElem?_eq_getElem (by rw [hab.1]; omega)⟩
    have h1 := hab.2 n a ha
    have ih := occ_tr rm cf hab n (by omega)
    rw [tr_ins rm cf hab (by omega) ha 8 0 (by omega), occ_ins, ih q, ih a, if_pos h1]
    by_cases h : q = n + 1
    · rw [if_pos h.symm, if_neg (by omega), if_pos (by omega)]
    · rw [if_neg (Ne.symm h)]
      by_cases h2 : q ≤ n
      · rw [if_pos h2, if_pos (by omega)]
      · rw [if_neg h2, if_neg (by omega)]
theorem siz_tr {ab : List Nat} (rm cf : List Nat) (hab : AbOk ab) : ∀ n, n ≤ 7 → sizq (trF (ab.take n) rm cf 8 0) = n + 1
  | 0, _ => by (rewrite [leaf_tr rm cf hab (Nat.zero_le _) 8 0 (Nat.le_refl _), sizq_e1]; (first | rw [sizqL_e1] | rw [sizqL_e2]))
  | n + 1, hn => by
    obtain ⟨a, ha⟩ : ∃ a, ab[n]? = some a := ⟨_, List.getElem?_eq_getElem (by rw [hab.1]; exact hn)⟩
    rw [tr_ins rm cf hab hn ha 8 0 (Nat.le_refl _), siz_ins, siz_tr rm cf hab n (Nat.le_of_lt hn), occ_tr rm cf hab n (Nat.le_of_lt hn), if_pos (hab.2 n a ha)]
theorem tr_siz {ab : List Nat} (rm cf : List Nat) (h : AbOk ab) : sizq (trF ab rm cf 8 0) = 8 := by
  have e := siz_tr rm cf h 7 (Nat.le_refl _)
  rwa [List.take_of_length_le (Nat.le_of_eq h.1)] at e
end
theorem topOff19 : True := by
  w_top off
  trivial
section
local macro_rules | `(tactic| walk_at "ZZ") => `(tactic| skip)
open PySem PySem.W PyProof.Rows PySem.Calls PySem.Spec
inductive BJ1 (g0 : Gens) (base : List (Addr × Obj)) (ab : List Nat) (i : Nat) (ys : List Value) (nw : List (Addr × Obj)) (g : Gens) : Prop
  | mk (hg : g = g0) (tl : List (Addr × Obj)) (hn : nw = tl ++ base) (h1 : ∀ p ∈ tl, p.1 ≠ 130) (hl : ys.length = i) (hy : ∀ p, p < i → ∃ a vs n, ys[p]? = some (Value.ref a) ∧ (a, listOf vs.toArray n) ∈ tl ∧ IntsAre vs ((kidsOf ab p).map fun c : Nat => (c : Int))) : BJ1 g0 base ab i ys nw g
inductive BJ2 (g0 : Gens) (base : List (Addr × Obj)) (ab : List Nat) (i j : Nat) (ys : List Value) (nw : List (Addr × Obj)) (g : Gens) : Prop
  | mk (hg : g = g0) (hn : nw = base) (hI : IntsAre ys ((((List.range j).filter fun k => ab[k]? == some i).map (· + 1)).map fun c : Nat => (c : Int))) : BJ2 g0 base ab i j ys nw g
theorem bj_one {ab : List Nat} {i j aj : Nat} (haj : ab[j]? = some aj) : (List.range (j + 1)).filter (fun k => ab[k]? == some i) = (List.range j).filter (fun k => ab[k]? == some i) ++ (if aj = i then [j] else []) := by
  rw [List.range_succ, List.filter_append]
  congr 1
  rw [List.filter_cons, haj]
  by_cases h : aj = i <;> simp [h]
theorem bj_av {ab : List Nat} {av : List Value} {j : Nat} (hab : AbOk ab) (hA : IntsAre av (ab.map fun k : Nat => (k : Int))) (hj : j < 7) : ∃ aj t, ab[j]? = some aj ∧ av.toArray[j]? = some (Value.int (aj : Int) t) := by
  have haj : ab[j]? = some (ab[j]'(by rw [hab.1]; exact hj)) := List.getElem?_eq_getElem _
  have hjl : j < av.length := by rw [hA.length, List.length_map, hab.1]; exact hj
  obtain ⟨n9, t9', e9, h9⟩ := hA.at j av[j] (List.getElem?_eq_getElem hjl)
  rw [List.getElem?_map, haj] at h9
  obtain rfl := Option.some.inj h9
  exact ⟨_, t9', haj, by rw [List.getElem?_toArray, List.getElem?_eq_getElem hjl, e9]⟩
theorem bj_news {h₀ h : Heap} {L : Addr} {a b c d e q : Addr × Obj} {tl rest : List (Addr × Obj)} (N : News h₀ L h (e :: a :: b :: c :: d :: (tl ++ q :: rest))) : News h₀ L h (a :: b :: c :: d :: ((e :: tl) ++ q :: rest)) := List.forall_mem_cons.2 ⟨N _ (.tail _ (.head _)), List.forall_mem_cons.2 ⟨N _ (.tail _ (.tail _ (.head _))), List.forall_mem_cons.2 ⟨N _ (.tail _ (.tail _ (.tail _ (.head _)))), List.forall_mem_cons.2 ⟨N _ (.tail _ (.tail _ (.tail _ (.tail _ (.head _))))), List.forall_mem_cons.2 ⟨N _ (.head _), fun p hp => N p (.tail _ (.tail _ (.tail _ (.tail _ (.tail _ hp)))))⟩⟩⟩⟩⟩
theorem bj_mid {h₀ h : Heap} {L : Addr} {d q : Addr × Obj} {tl rest : List (Addr × Obj)} (N : News h₀ L h (d :: (tl ++ q :: rest))) : News h₀ L h (q :: d :: (tl ++ rest)) := news_midL (d :: tl) N
theorem bj_more {ab : List Nat} {i D n2 : Nat} {ys ys2 : List Value} {tl : List (Addr × Obj)} (hl : ys.length = i) (hy : ∀ p, p < i → ∃ a vs n, ys[p]? = some (Value.ref a) ∧ (a, listOf vs.toArray n) ∈ tl ∧ IntsAre vs ((kidsOf ab p).map fun c : Nat => (c : Int))) (h2 : IntsAre ys2 ((kidsOf ab i).map fun c : Nat => (c : Int))) : ∀ p, p < i + 1 → ∃ a vs n, (ys ++ [Value.ref D])[p]? = some (Value.ref a) ∧ (a, listOf vs.toArray n) ∈ (D, listOf ys2.toArray n2) :: tl ∧ IntsAre vs ((kidsOf ab p).map fun c : Nat => (c : Int)) := by
  intro p hp
  by_cases hpi : p < i
  · obtain ⟨a, vs, n, e1, e2, e3⟩ := hy p hpi
    exact ⟨a, vs, n, by rw [List.getElem?_append_left (by walk_at "AR")]; exact e1, .tail _ e2, e3⟩
  · obtain rfl : p = i := by walk_at "AR"
    exact ⟨D, ys2, n2, by rw [List.getElem?_append_right (by walk_at "AR"), hl, Nat.sub_self]; rfl, .head _, h2⟩
set_option maxHeartbeats 4000000 in
theorem lawC (w : World) (h₀ : Heap) (L fa : Nat) (cd : Value) (m mg mb : Str → Option Value) (mean : ExcName → Option Value) (s : Shared) (Q : Flow → Shared → Prop) (E : Value → Shared → Prop)
    (rest : List (Addr × Obj)) (tb : Array Value) (AB R9 C9 : Nat) (av rv cv : List Value) (an rn cn9 : Nat) (ab rm cf : List Nat) (oa om : Obj)
    (hE : PassesOwn (model P3 w) (callerA.deeper (envOfC (Str.ofString "law") lawScope L fa cd)) (envOfC (Str.ofString "law") lawScope L fa cd) E) (B : Below callerA h₀ [] h₀) (F : Fr h₀ L s.heap m) (X : (hd2.heap_39 w.params).In h₀) (T : Top topProg lo3 mean mg mb h₀) (hC : CodeHd h₀ 132 130) (hb : AllBare s.gens)
    (N : News h₀ L s.heap ((130, tabObj tb) :: rest))
    (r1 : ∀ p ∈ rest, p.1 ≠ 130) (htb : TabSt lamPos lamQ tb rest) (hAB : (AB, listOf av.toArray an) ∈ rest) (hR : (R9, listOf rv.toArray rn) ∈ rest) (hCh : (C9, listOf cv.toArray cn9) ∈ rest) (hcella : (L + 1, oa) ∈ rest) (hoa : oa.data = .cell (some (.ref AB))) (hcm : (L + 1 + 1, om) ∈ rest) (hom : om.data = .cell none) (l130 : @LT.lt Nat _ 130 L)
    (hA : IntsAre av (ab.map fun k : Nat => (k : Int))) (hab : AbOk ab) (hIR : IntsAre rv (rm.map fun k : Nat => (k : Int))) (h8 : rm.length = 8) (hrm : ∀ a ∈ rm, a < 3) (hIC : IntsAre cv (cf.map fun k : Nat => (k : Int))) (h8c : cf.length = 8) (hcf : ∀ a ∈ cf, a < 4)
    (hpl : (∀ i, i ≤ 8 → ∀ k, k ≤ 6 → (replAll (lawPairs.take k) (rnds i (wrT (trF ab rm cf 8 0), 0)).1).length ≤ 100000) ∧ AnswerOk (setsF [(0, packR rm)] 0 ab) (rnds 8 (wrT (trF ab rm cf 8 0), 0)).2 (rnds 8 (wrT (trF ab rm cf 8 0), 0)).1)
    (mr : m (Str.ofString "rooms") = some (.ref R9)) (mc : m (Str.ofString "chaff") = some (.ref C9))
    (hQ : ∀ (m' : Str → Option Value) (news' : List (Addr × Obj)) h' tk' gens' d', Fr h₀ L h' m' → News h₀ L h' news' → AllBare gens' → (∃ tb', (130, tabObj tb') ∈ news') → Q (.ret (.bool true)) { s with heap := h', toks := tk', gens := gens', drawn := d' }) :
    wpAny (model P3 w) (callerA.deeper (envOfC (Str.ofString "law") lawScope L fa cd)) (execs (lawFrom 6) (envOfC (Str.ofString "law") lawScope L fa cd)) Q E s := by
  generalize hl : lawFrom 6 = l
  conv at hl => lhs; whnf
  generalize hsc : lawScope = sc
  conv at hsc => lhs; whnf
  subst hl
  subst hsc
  iterate 1 (first | (k_unfold; (try dsimp only)) | walk1 | (dsimp only; walk1) | (leave1; try dsimp only))
  refine' Assign_ListComp_C (by assumption) rfl ?hsw ?hclos ?hpc ?hcf ?hkind ?hnames ?hx ?hy ?hp ?h
  case hsw => exact rfl
  case hclos => exact rfl
  case hpc => intro _; rfl
  case hcf => intro _ _; rfl
  case hkind => exact rfl
  case hnames => decide
  case hx => intro _ _; rfl
  case hy => exact rfl
  case hp => exact rfl
  case h =>
  iterate 7 (first | (k_unfold; (try dsimp only)) | walk1 | (dsimp only; walk1) | (leave1; try dsimp only))
  rename (IsRange _ _ _ _ _ _ _ _) => hr5
  rename (News _ _ _ _) => N5
  rename (Fr _ _ _ _) => F5
  refine ⟨_, 0, 8, _, _, _, 8, (130, tabObj tb) :: rest, rfl, F5, N5, hr5, by decide +kernel, by decide +kernel, by decide +kernel, BJ1 s.gens ((130, tabObj tb) :: rest) ab, ⟨rfl, [], rfl, fun p hp => absurd hp List.not_mem_nil, rfl, fun p hp => absurd hp (Nat.not_lt_zero p)⟩, ?turn, ?fin⟩
  case turn =>
    intro i v I oI C oC K oK D m₂ h6 tk6 g6 d6 ys nw E' hi hv hJ hS hNs hoK F6 N6 off6 ne6 it6
    obtain ⟨rfl, tl, rfl, ht130, hyl, hys⟩ := hJ
    obtain ⟨t9, rfl⟩ := hv
    rw [Int.zero_add] at hoK
    dsimp only [stG]
    refine' ListComp_I (by assumption) ?hclos ?hcl ?hkind ?hnames ?hx ?h
    case hclos => exact rfl
    case hcl => decide
    case hkind => exact rfl
    case hnames => decide
    case hx => exact rfl
    case h =>
    iterate 7 (first | (k_unfold; (try dsimp only)) | walk1 | (dsimp only; walk1) | (leave1; try dsimp only))
    rename (IsRange _ _ _ _ _ _ _ _) => hr7
    rename (News _ _ _ _) => N7
    rename (Fr _ _ _ _) => F7
    refine ⟨_, 0, 7, _, _, _, 7, ((I, oI) :: (C, oC) :: (K, oK) :: (D, LCg.lst ys) :: (tl ++ (130, tabObj tb) :: rest)), rfl, F7, N7, hr7, by decide +kernel, by decide +kernel, by decide +kernel, BJ2 s.gens ((I, oI) :: (C, oC) :: (K, oK) :: (D, LCg.lst ys) :: (tl ++ (130, tabObj tb) :: rest)) ab i, ⟨rfl, rfl, .nil⟩, ?turn2, ?fin2⟩
    case turn2 =>
      intro j v2 I2 oI2 C2 oC2 D2 m3 h8 tk8 g8 d8 ys2 nw2 E2 hj hv2 hJ2 hS2 hNs2 hmx2 F8 N8 off8 ne8 it8
      obtain ⟨rfl, rfl, hys2⟩ := hJ2
      obtain ⟨t8, rfl⟩ := hv2
      rw [Int.zero_add] at hmx2
      obtain ⟨aj, t7, haj, hav⟩ := bj_av hab hA hj
      have hca : (L + 1, oa) ∈ tl ++ (130, tabObj tb) :: rest := List.mem_append_right _ (.tail _ hcella)
      have hAl : (AB, listOf av.toArray an) ∈ tl ++ (130, tabObj tb) :: rest := List.mem_append_right _ (.tail _ hAB)
      have hj10 : j < 1000 := by have : j < 7 := hj; walk_at "AR"
      dsimp only [stG]
      iterate 7 (first | (k_unfold; (try dsimp only)) | walk1 | (dsimp only; walk1) | (leave1; try dsimp only))
      have hrs := bj_one (i := i) haj
      by_cases haji : aj = i
      · rw [show ((aj : Int) == (i : Int)) = true from beq_iff_eq.mpr (by rw [haji])]
        rw [if_pos haji] at hrs
        iterate 6 (first | (k_unfold; (try dsimp only)) | walk1 | (dsimp only; walk1) | (leave1; try dsimp only))
        refine ⟨_, _, _, _, _, F8, N8, off8, hS2, rfl, rfl, ?_⟩
        rw [hrs, List.map_append, List.map_append]
        exact hys2.append (.cons _ _ .nil)
      · rw [show ((aj : Int) == (i : Int)) = false from beq_eq_false_iff_ne.mpr (by walk_at "AR")]
        rw [if_neg haji, List.append_nil] at hrs
        iterate 1 (first | (k_unfold; (try dsimp only)) | walk1 | (dsimp only; walk1) | (leave1; try dsimp only))
        rw [if_neg Bool.false_ne_true]
        refine ⟨_, _, _, _, _, F8, N8, off8, hS2, rfl, rfl, ?_⟩
        rw [hrs]
        exact hys2
    case fin2 =>
      intro ys2 nw2 g hJ2 D9 h9 tk9 d9 hbD9 F9 N9 off9
      obtain ⟨rfl, rfl, hys2⟩ := hJ2
      have b1 := hbD9 _ (.head _)
      have b2 := hbD9 _ (.tail _ (.head _))
      have b3 := hbD9 _ (.tail _ (.tail _ (.head _)))
      have b4 := hbD9 _ (.tail _ (.tail _ (.tail _ (.head _))))
      have b5 := hbD9 (130, tabObj tb) (.tail _ (.tail _ (.tail _ (.tail _ (List.mem_append_right _ (.head _))))))
      refine ⟨h9, tk9, s.gens, d9, (D9, LCg.lst ys2) :: tl ++ (130, tabObj tb) :: rest, F9, bj_news N9, ?cO, trivial, rfl, (D9, LCg.lst ys2) :: tl, rfl, ?c130, ?cl, bj_more hyl hys hys2⟩
      case cO => exact List.forall_mem_cons.mpr ⟨⟨Ne.symm (Nat.ne_of_lt b1), Ne.symm (Nat.ne_of_lt b2), Ne.symm (Nat.ne_of_lt b3), Ne.symm (Nat.ne_of_lt b4)⟩, off6⟩
      case c130 => exact List.forall_mem_cons.mpr ⟨Ne.symm (Nat.ne_of_lt b5), ht130⟩
      case cl => rw [List.length_append, List.length_singleton, hyl]
  case fin =>
    intro ys nw g hJ D h7 tk7 d7 hbD F7 N7 off7
    obtain ⟨rfl, tl, rfl, ht130, hyl, hys⟩ := hJ
    dsimp only [stG]
    have hDr : ∀ p ∈ tl ++ (130, tabObj tb) :: rest, p.1 ≠ D := off1_mem _ off7
    have hD130 : @Ne Nat D 130 := fun e => hDr (130, tabObj tb) (List.mem_append_right _ (.head _)) e.symm
    have sub9 : ∀ p ∈ rest, p ∈ (D, LCg.lst ys) :: (tl ++ rest) := fun p hp => .tail _ (List.mem_append_right _ hp)
    have hka : ∀ p, p < 8 → ∃ a vs n, ys[p]? = some (Value.ref a) ∧ (a, listOf vs.toArray n) ∈ (D, LCg.lst ys) :: (tl ++ rest) ∧ IntsAre vs ((kidsOf ab p).map fun c : Nat => (c : Int)) := by
      intro p hp
      obtain ⟨a, vs, n, e1, e2, e3⟩ := hys p hp
      exact ⟨a, vs, n, e1, .tail _ (List.mem_append_left _ e2), e3⟩
    have hsq := tr_siz rm cf hab
    refine' lawD w h₀ L fa cd _ mg mb mean _ Q E ((D, LCg.lst ys) :: (tl ++ rest)) tb AB R9 C9 D av rv cv ys ab rm an rn cn9 ys.length (trF ab rm cf 8 0) oa om hE B ?lF X T hC ?lB ?lN ?lr (tabSt_mono htb sub9) (sub9 _ hAB) (sub9 _ hR) (sub9 _ hCh) (.head _) hA hIR hab.1 h8 hab.lt hrm (tree_in hab hrm h8 hIR hcf h8c hIC hka 8 0 (by decide) (by decide)) (trF_root _ _ _ _ _) (trF_dep _ _ _ _ _) (by rw [hsq]; decide) (by rw [wr_len, hsq]; decide) (sub9 _ hcella) hoa (sub9 _ hcm) hom l130 hpl.1 hpl.2 ?_ ?_ ?_ hQ
    case lF => exact F7
    case lB => exact hb
    case lN => exact bj_mid N7
    case lr => exact all_cons hD130 (all_app ht130 r1)
    all_goals (repeat (first | with_reducible assumption | exact if_pos rfl | refine Eq.trans (if_neg (by decide +kernel)) ?_))
end
theorem topOff20 : True := by
  w_top off
  trivial
section
open PySem PySem.W PyProof.Rows PySem.Calls PySem.Spec
noncomputable def dawn (cs : List Int) : List Nat := cs.sum.toNat :: (List.range 7).map fun k => (cs.getD k 0).toNat / (k + 1)
noncomputable def PlainLaw : Prop := ∀ ab rm cf : List Nat, AbOk ab → rm.length = 8 → (∀ k ∈ rm, k < 3) → cf.length = 8 → (∀ k ∈ cf, k < 4) → (∀ i, i ≤ 8 → ∀ k, k ≤ 6 → (replAll (lawPairs.take k) (rnds i (wrT (trF ab rm cf 8 0), 0)).1).length ≤ 100000) ∧ AnswerOk (setsF [(0, packR rm)] 0 ab) (rnds 8 (wrT (trF ab rm cf 8 0), 0)).2 (rnds 8 (wrT (trF ab rm cf 8 0), 0)).1
noncomputable def abOf (cs : List Int) (k : Nat) : Nat := (cs.getD k 0).toNat % (k + 1)
noncomputable def drOf (cs : List Int) (k : Nat) : Nat := (cs.getD k 0).toNat / (k + 1)
theorem fmod_nat {c : Int} (h : 0 ≤ c) (k : Nat) : c.fmod ((k : Int) + 1) = ((c.toNat % (k + 1) : Nat) : Int) := by
  rw [Int.fmod_eq_emod_of_nonneg _ (by walk_at "AR")]
  have e : c = (c.toNat : Int) := (Int.toNat_of_nonneg h).symm
  conv => lhs; rw [e]
  exact (Int.natCast_emod _ _).symm
theorem fdiv_nat {c : Int} (h : 0 ≤ c) (k : Nat) : c.fdiv ((k : Int) + 1) = ((c.toNat / (k + 1) : Nat) : Int) := by
  rw [Int.fdiv_eq_ediv_of_nonneg _ (by walk_at "AR")]
  have e : c = (c.toNat : Int) := (Int.toNat_of_nonneg h).symm
  conv => lhs; rw [e]
  exact (Int.natCast_ediv _ _).symm
theorem mod3 (d : Nat) : (d : Int).fmod 3 = ((d % 3 : Nat) : Int) := by
  rw [Int.fmod_eq_emod_of_nonneg _ (by decide)]; exact (Int.natCast_emod d 3).symm
theorem div3 (d : Nat) : (d : Int).fdiv 3 = ((d / 3 : Nat) : Int) := by
  rw [Int.fdiv_eq_ediv_of_nonneg _ (by decide)]; exact (Int.natCast_ediv d 3).symm
theorem ints_cast {vs : List Value} {a b : List Int} (h : IntsAre vs a) (e : a = b) : IntsAre vs b := e ▸ h
theorem ab_ok (cs : List Int) : AbOk ((List.range 7).map (abOf cs)) := by
  refine ⟨by rw [List.length_map, List.length_range], fun k v h => ?_⟩
  rw [List.getElem?_map] at h
  obtain ⟨j, hj, rfl⟩ := Option.map_eq_some_iff.mp h
  have : j = k := by
    have hk := (List.getElem?_eq_some_iff.mp hj)
    obtain ⟨h1, h2⟩ := hk
    rw [List.getElem_range] at h2; exact h2.symm
  subst this
  exact Nat.lt_succ_iff.mp (Nat.mod_lt _ (Nat.succ_pos _))
theorem mod4 (d : Nat) : (d : Int).fmod 4 = ((d % 4 : Nat) : Int) := by
  rw [Int.fmod_eq_emod_of_nonneg _ (by decide)]; exact (Int.natCast_emod d 4).symm
theorem ints_pzn {ys : List Value} {f : Nat → Nat} {n : Nat} (hl : ys.length = n) (h : ∀ j y, ys[j]? = some y → ∃ t, y = Value.int ((f j : Nat) : Int) t) : IntsAre ys (((List.range n).map f).map fun k : Nat => (k : Int)) := by
  rw [List.map_map]
  exact ints_pz hl h
inductive AJ (g0 : Gens) (base : List (Addr × Obj)) (dr : List Nat) (f : Nat → Nat) (i : Nat) (ys : List Value) (nw : List (Addr × Obj)) (g : Gens) : Prop
  | mk (hg : g = g0) (hn : nw = base) (hI : IntsAre ys (((dr.take i).map f).map fun k : Nat => (k : Int))) : AJ g0 base dr f i ys nw g
theorem nil_all {α : Type} {P : α → Prop} : ∀ p ∈ ([] : List α), P p := fun _ h => absurd h List.not_mem_nil
theorem sum_pos : ∀ cs : List Int, (∀ c ∈ cs, 0 ≤ c) → 0 ≤ cs.sum
  | [], _ => Int.le_refl _
  | c :: r, h => by
    rw [List.sum_cons]
    exact Int.add_nonneg (h c (.head _)) (sum_pos r fun x hx => h x (.tail _ hx))
theorem dawn_len (cs : List Int) : (dawn cs).length = 8 := by rw [dawn, List.length_cons, List.length_map, List.length_range]
set_option maxHeartbeats 4000000 in
theorem lawA (w : World) (h₀ : Heap) (L fa : Nat) (cd : Value) (m mg mb : Str → Option Value) (mean : ExcName → Option Value) (s : Shared) (Q : Flow → Shared → Prop) (E : Value → Shared → Prop)
    (D kc : Nat) (ws : List Value) (cs : List Int) (oa oc : Obj)
    (hE : PassesOwn (model P3 w) (callerA.deeper (envOfC (Str.ofString "law") lawScope L fa cd)) (envOfC (Str.ofString "law") lawScope L fa cd) E) (B : Below callerA h₀ [] h₀) (F : Fr h₀ L s.heap m) (X : (hd2.heap_39 w.params).In h₀) (T : Top topProg lo3 mean mg mb h₀) (hC : CodeHd h₀ 132 130) (hb : AllBare s.gens)
    (N : News h₀ L s.heap ((D, listOf ws.toArray kc) :: (L + 1 + 1, oc) :: (L + 1, oa) :: (130, tabObj #[]) :: []))
    (hpl : PlainLaw) (hI : IntsAre ws cs) (h7 : cs.length = 7) (h0 : ∀ c ∈ cs, 0 ≤ c) (lD : @LT.lt Nat _ (L + 1 + 1) D) (l130 : @LT.lt Nat _ 130 L) (hoa : oa.data = .cell none) (hoc : oc.data = .cell none)
    (mc : m (Str.ofString "cells") = some (.ref D))
    (hQ : ∀ (m' : Str → Option Value) (news' : List (Addr × Obj)) h' tk' gens' d', Fr h₀ L h' m' → News h₀ L h' news' → AllBare gens' → (∃ tb', (130, tabObj tb') ∈ news') → Q (.ret (.bool true)) { s with heap := h', toks := tk', gens := gens', drawn := d' }) :
    wpAny (model P3 w) (callerA.deeper (envOfC (Str.ofString "law") lawScope L fa cd)) (execs (lawFrom 1) (envOfC (Str.ofString "law") lawScope L fa cd)) Q E s := by
  generalize hl : lawFrom 1 = l
  conv at hl => lhs; whnf
  generalize hsc : lawScope = sc
  conv at hsc => lhs; whnf
  subst hl
  subst hsc
  have lD2 : @LT.lt Nat _ (L + 1) D := by walk_at "AR"
  have lD3 : @LT.lt Nat _ 130 D := by walk_at "AR"
  repeat ((fail_if_success (with_reducible show wpAny _ _ (exec (Stmt.Assign _ (Expr.ListComp _ _ _ _) _) _) _ _ _)); (first | (k_unfold; (try dsimp only)) | walk1 | (dsimp only; walk1) | (leave1; try dsimp only)))
  refine' Assign_plain (by rfl) ?_
  refine' ListComp_X (by assumption) ?hclos ?hcl ?hkind ?hnames ?hxi ?hxv ?hxx ?h
  case hclos => exact rfl
  case hcl => decide
  case hkind => exact rfl
  case hnames => decide
  case hxi => exact rfl
  case hxv => exact rfl
  case hxx => decide +kernel
  case h =>
  repeat ((fail_if_success (with_reducible show wpAny _ _ (call (.type "enumerate") _) _ _ _)); (first | (k_unfold; (try dsimp only)) | walk1 | (dsimp only; walk1) | (leave1; try dsimp only)))
  rename (News _ _ _ _) => NN
  rename (Fr _ _ _ _) => FF
  refine enum_made FF NN (.head _) ?_
  intro itA eA oitA hA hoitA FA NA ltA_ ieA
  refine ⟨eA, itA, D, ws.toArray, kc, oitA, _, (fun i y => ∃ t, y = Value.int ((abOf cs i : Nat) : Int) t), rfl, hoitA, by rw [List.size_toArray, hI.length, h7, sizeLine_eq]; decide, FA, NA, (.head _), ieA, ltA_, ?elt, ?store⟩
  case elt =>
    intro i v ti C9 oC9 m₉ h9 tk9 E9 hv hNs hmi hmv F9 N9 off9
    obtain ⟨c9, t9, rfl, hc9⟩ := hI.at i v (by simpa using hv)
    have hc0 := h0 c9 (List.mem_of_getElem? hc9)
    have hi7 : i < 7 := by rw [← h7]; exact (List.getElem?_eq_some_iff.mp hc9).1
    have hkz : ¬ ((i : Int) + 1 = 0) := by walk_at "AR"
    have hcd : cs.getD i 0 = c9 := by rw [List.getD_eq_getElem?_getD, hc9]; rfl
    repeat (first | (k_unfold; (try dsimp only)) | walk1 | (dsimp only; walk1) | (leave1; try dsimp only))
    have e9 := fmod_nat hc0 i
    have e8 : abOf cs i = (c9.toNat % (i + 1)) := by unfold abOf; rw [hcd]
    rw [← e8] at e9
    rw [e9]
  case store =>
    intro D2 h2 tk2 ysA hl hysA F2 N2 lt2
    rw [show ws.toArray.size = 7 from hI.length.trans h7] at hl
    have hAb := ints_pzn hl hysA
    refine storeN_cell (pre := [(D2, LCg.lst ysA), (D, listOf ws.toArray kc), (L + 1 + 1, oc)]) (post := [(130, tabObj #[])]) (cc := L + 1) F2 N2 rfl rfl rfl hoa ?o1 ?o2 ?sf
    case o1 => exact all_cons (Nat.ne_of_gt (lt2 _ (.tail _ (.tail _ (.head _))))) (all_cons (Nat.ne_of_gt lD2) (all_cons (Nat.succ_ne_self _) nil_all))
    case o2 => exact all_cons (Nat.ne_of_lt (Nat.lt_succ_of_lt l130)) nil_all
    case sf =>
    intro h3 oa' hoa' F3 N3
    repeat ((fail_if_success (with_reducible show wpAny _ _ (eval (Expr.ListComp _ _ _ _) _) _ _ _)); (first | (k_unfold; (try dsimp only)) | walk1 | (dsimp only; walk1) | (leave1; try dsimp only)))
    refine' ListComp_X (by assumption) ?hclos ?hcl ?hkind ?hnames ?hxi ?hxv ?hxx ?h
    case hclos => exact rfl
    case hcl => decide
    case hkind => exact rfl
    case hnames => decide
    case hxi => exact rfl
    case hxv => exact rfl
    case hxx => decide +kernel
    case h =>
    repeat ((fail_if_success (with_reducible show wpAny _ _ (call (.type "enumerate") _) _ _ _)); (first | (k_unfold; (try dsimp only)) | walk1 | (dsimp only; walk1) | (leave1; try dsimp only)))
    rename (News _ _ _ _) => NN
    rename (Fr _ _ _ _) => FF
    refine enum_made FF NN (.tail _ (.tail _ (.head _))) ?_
    intro itA eA oitA hA hoitA FA NA ltA_ ieA
    refine ⟨eA, itA, D, ws.toArray, kc, oitA, _, (fun i y => ∃ t, y = Value.int ((drOf cs i : Nat) : Int) t), rfl, hoitA, by rw [List.size_toArray, hI.length, h7, sizeLine_eq]; decide, FA, NA, (.tail _ (.tail _ (.head _))), ieA, ltA_, ?elt, ?store⟩
    case elt =>
      intro i v ti C9 oC9 m₉ h9 tk9 E9 hv hNs hmi hmv F9 N9 off9
      obtain ⟨c9, t9, rfl, hc9⟩ := hI.at i v (by simpa using hv)
      have hc0 := h0 c9 (List.mem_of_getElem? hc9)
      have hi7 : i < 7 := by rw [← h7]; exact (List.getElem?_eq_some_iff.mp hc9).1
      have hkz : ¬ ((i : Int) + 1 = 0) := by walk_at "AR"
      have hcd : cs.getD i 0 = c9 := by rw [List.getD_eq_getElem?_getD, hc9]; rfl
      repeat (first | (k_unfold; (try dsimp only)) | walk1 | (dsimp only; walk1) | (leave1; try dsimp only))
      have e9 := fdiv_nat hc0 i
      have e8 : drOf cs i = (c9.toNat / (i + 1)) := by unfold drOf; rw [hcd]
      rw [← e8] at e9
      rw [e9]
    case store =>
      intro D4 h5 tk5 ys4 hl4 hys4 F5 N5 lt4
      rw [show ws.toArray.size = 7 from hI.length.trans h7] at hl4
      have hDr := ints_pzn hl4 hys4
      repeat ((fail_if_success (with_reducible show wpAny _ _ (exec (Stmt.Assign _ (Expr.ListComp _ _ _ _) _) _) _ _ _)); (first | (k_unfold; (try dsimp only)) | walk1 | (dsimp only; walk1) | (leave1; try dsimp only)))
      rename (IntsAre _ ([cs.sum] ++ _)) => hDs
      have hDs := ints_cast (b := (dawn cs).map fun k : Nat => (k : Int)) hDs (by rw [dawn, List.map_cons, Int.toNat_of_nonneg (sum_pos cs h0)]; rfl)
      refine' Assign_ListComp_J (by assumption) rfl ?hsw ?hclos ?hcl ?hkind ?hnames ?hx ?hy ?hp ?h
      case hsw => exact rfl
      case hy => exact rfl
      case hp => exact rfl
      case hclos => exact rfl
      case hcl => decide
      case hkind => exact rfl
      case hnames => decide
      case hx => exact rfl
      case h =>
      iterate 1 (first | (k_unfold; (try dsimp only)) | walk1 | (dsimp only; walk1) | (leave1; try dsimp only))
      rename (News _ _ _ _) => N6
      rename (Fr _ _ _ _) => F6
      refine .inl ⟨_, _, _, _, rfl, F6, N6, (.head _), by rw [List.size_toArray, hDs.length, List.length_map, dawn_len, sizeLine_eq]; decide, AJ s.gens _ (dawn cs) (fun d => d % 3), ⟨rfl, rfl, .nil⟩, ?turn, ?fin⟩
      case turn =>
        intro i v I oI C oC D9 m₂ h8 tk8 g8 d8 ys nw E' hi hv hJ hS hNs hmx F8 N8 off8 ne8 it8
        obtain ⟨rfl, rfl, hys⟩ := hJ
        obtain ⟨n9, t9, rfl, hn9⟩ := hDs.at i v (by simpa using hv)
        rw [List.getElem?_map] at hn9
        obtain ⟨d9, hd9, rfl⟩ := Option.map_eq_some_iff.mp hn9
        dsimp only [stG]
        iterate 4 (first | (k_unfold; (try dsimp only)) | walk1 | (dsimp only; walk1) | (leave1; try dsimp only))
        refine ⟨_, _, _, _, _, F8, N8, off8, hS, rfl, rfl, ?_⟩
        rw [take_one hd9, List.map_append, List.map_append]
        exact hys.append (by rw [mod3]; exact .cons _ _ .nil)
      case fin =>
        intro ysR nw g hJ DR h9 tk9 d9 hbR F9 N9 off9
        obtain ⟨rfl, rfl, hysR⟩ := hJ
        dsimp only [stG]
        rw [show (dawn cs).take _ = dawn cs from List.take_of_length_le (by rw [List.size_toArray, hDs.length, List.length_map]; exact Nat.le_refl _)] at hysR
        repeat ((fail_if_success (with_reducible show wpAny _ _ (exec (Stmt.Assign _ (Expr.ListComp _ _ _ _) _) _) _ _ _)); (first | (k_unfold; (try dsimp only)) | walk1 | (dsimp only; walk1) | (leave1; try dsimp only)))
        refine' Assign_ListComp_J (by assumption) rfl ?hsw ?hclos ?hcl ?hkind ?hnames ?hx ?hy ?hp ?h
        case hsw => exact rfl
        case hy => exact rfl
        case hp => exact rfl
        case hclos => exact rfl
        case hcl => decide
        case hkind => exact rfl
        case hnames => decide
        case hx => exact rfl
        case h =>
        iterate 1 (first | (k_unfold; (try dsimp only)) | walk1 | (dsimp only; walk1) | (leave1; try dsimp only))
        rename (News _ _ _ _) => N7
        rename (Fr _ _ _ _) => F7
        refine .inl ⟨_, _, _, _, rfl, F7, N7, (.tail _ (.head _)), by rw [List.size_toArray, hDs.length, List.length_map, dawn_len, sizeLine_eq]; decide, AJ s.gens _ (dawn cs) (fun d => d / 3 % 4), ⟨rfl, rfl, .nil⟩, ?turn, ?fin⟩
        case turn =>
          intro i v I oI C oC D9 m₂ h8 tk8 g8 d8 ys nw E' hi hv hJ hS hNs hmx F8 N8 off8 ne8 it8
          obtain ⟨rfl, rfl, hys⟩ := hJ
          obtain ⟨n9, t9, rfl, hn9⟩ := hDs.at i v (by simpa using hv)
          rw [List.getElem?_map] at hn9
          obtain ⟨d9, hd9, rfl⟩ := Option.map_eq_some_iff.mp hn9
          dsimp only [stG]
          iterate 7 (first | (k_unfold; (try dsimp only)) | walk1 | (dsimp only; walk1) | (leave1; try dsimp only))
          refine ⟨_, _, _, _, _, F8, N8, off8, hS, rfl, rfl, ?_⟩
          rw [take_one hd9, List.map_append, List.map_append]
          exact hys.append (by rw [div3, mod4]; exact .cons _ _ .nil)
        case fin =>
          intro ysC nw g hJ DC h9 tk9 d9 hbC F9 N9 off9
          obtain ⟨rfl, rfl, hysC⟩ := hJ
          dsimp only [stG]
          rw [show (dawn cs).take _ = dawn cs from List.take_of_length_le (by rw [List.size_toArray, hDs.length, List.length_map]; exact Nat.le_refl _)] at hysC
          refine' lawC w h₀ L fa cd _ mg mb mean _ Q E [(DC, LCg.lst ysC), (DR, LCg.lst ysR), (D2, LCg.lst ysA), (L + 1 + 1, oc), (L + 1, oa')] #[] D2 DR DC ysA ysR ysC ysA.length ysR.length ysC.length ((List.range 7).map (abOf cs)) ((dawn cs).map fun d => d % 3) ((dawn cs).map fun d => d / 3 % 4) oa' oc hE B ?lF X T hC ?lB ?lN ?lr (.inl rfl) (.tail _ (.tail _ (.head _))) (.tail _ (.head _)) (.head _) (.tail _ (.tail _ (.tail _ (.tail _ (.head _))))) hoa' (.tail _ (.tail _ (.tail _ (.head _)))) hoc l130 hAb (ab_ok cs) hysR ?r8 ?r3 hysC ?c8 ?c4 ?lp ?n1 ?n2 hQ
          case lF => exact F9
          case lB => exact hb
          case lN =>
            intro p hp
            refine N9 p ?_
            simp only [List.mem_cons, List.mem_append, List.not_mem_nil, or_false] at hp ⊢
            rcases hp with h | h | h | h | h | h <;> simp [h]
          case lr =>
            have d0 := Nat.lt_succ_of_lt (Nat.lt_succ_of_lt l130)
            have c1 : @LT.lt Nat _ (L + 1 + 1) D2 := lt2 _ (.tail _ (.head _))
            have c2 : @LT.lt Nat _ D2 DR := hbR (D2, LCg.lst ysA) (by simp)
            have c3 : @LT.lt Nat _ D2 DC := hbC (D2, LCg.lst ysA) (by simp)
            exact all_cons (Nat.ne_of_gt (Nat.lt_trans d0 (Nat.lt_trans c1 c3))) (all_cons (Nat.ne_of_gt (Nat.lt_trans d0 (Nat.lt_trans c1 c2))) (all_cons (Nat.ne_of_gt (Nat.lt_trans d0 c1)) (all_cons (Nat.ne_of_gt d0) (all_cons (Nat.ne_of_gt (Nat.lt_succ_of_lt l130)) nil_all))))
          case r8 => rw [List.length_map, dawn_len]
          case c8 => rw [List.length_map, dawn_len]
          case r3 => exact fun a ha => by obtain ⟨d, _, rfl⟩ := List.mem_map.mp ha; exact Nat.mod_lt _ (by decide)
          case c4 => exact fun a ha => by obtain ⟨d, _, rfl⟩ := List.mem_map.mp ha; exact Nat.mod_lt _ (by decide)
          case lp => exact hpl _ _ _ (ab_ok cs) (by rw [List.length_map, dawn_len]) (fun a ha => by obtain ⟨d, _, rfl⟩ := List.mem_map.mp ha; exact Nat.mod_lt _ (by decide)) (by rw [List.length_map, dawn_len]) (fun a ha => by obtain ⟨d, _, rfl⟩ := List.mem_map.mp ha; exact Nat.mod_lt _ (by decide))
          case n1 => exact Eq.trans (if_neg (by decide +kernel)) (if_pos rfl)
          case n2 => exact if_pos rfl
end
end
theorem topOff21 : True := by
  w_top off
  trivial
section
open PySem PySem.W PyProof.Rows
theorem cells_ok (w : List Int) : ((List.map (fun k' : Int => k'.fmod (10 ^ Int.toNat 6)) (List.take 7 w) ++ [8, 8, 4, 45, 2, 10, 39]).take 7).length = 7 ∧ ∀ c ∈ (List.map (fun k' : Int => k'.fmod (10 ^ Int.toNat 6)) (List.take 7 w) ++ [8, 8, 4, 45, 2, 10, 39]).take 7, 0 ≤ c := by
  refine ⟨?_, fun c hc => ?_⟩
  · rw [List.length_take, List.length_append]; simp only [List.length_cons, List.length_nil]; lia
  · have h := List.mem_of_mem_take hc
    rcases List.mem_append.mp h with h | h
    · obtain ⟨x, _, rfl⟩ := List.mem_map.mp h
      exact Int.fmod_nonneg_of_pos x (by decide)
    · simp only [List.mem_cons, List.not_mem_nil, or_false] at h
      lia
noncomputable def EndB (tabs : List (Addr × Addr)) (s₁ : Shared) (r : Result) (s' : Shared) : Prop :=
  (r = .ok (.ret (.bool true)) ∧ (∀ b o, (ghostOf s₁.heap tabs).get? b = some o → s'.heap.get? b = some o) ∧ s'.os = s₁.os ∧ AllBare s'.gens) ∧ GrownAll tabs s'.heap
theorem post_true {M : Model} {A : Around} {cd : Code} {s s₁ : Shared} {cw : ClaimW} {cl : Str → Option Addr} {mean : ExcName → Option Value} {args : List WData} {tabs : List (Addr × Addr)} (hT : TabsAt tabs s₁.heap) (hr : ∀ a x, cw.raises a x = false) (hp : cw.post args (.bool true) args = true)
    (h : codeAny M A cd (EndB tabs s₁) s) : codeAny M A cd (GoodWG cw cl mean args s₁) s :=
  codeAny_mono h fun r s' ⟨⟨hres, hk, hos, hg⟩, hgr⟩ => by
    have keep : ∀ b o, b ∉ tabs.map (·.2) → s₁.heap.get? b = some o → s'.heap.get? b = some o := fun b o hb e => hk b o (ghost_ne e hb)
    have grown : ∀ b o, b ∈ tabs.map (·.2) → s₁.heap.get? b = some o → isCodeTable s₁.heap b ∧ o = tabObj #[] ∧ ∃ ps, s'.heap.get? b = some (tabObj ps) := fun b o hb e => by
      obtain ⟨q, hq, rfl⟩ := List.mem_map.mp hb
      have e2 := (hT q hq).2
      rw [e] at e2
      exact ⟨((hT q hq).1.tab (hT q hq).2).isCodeTable, Option.some.inj e2, hgr.get q hq⟩
    refine ⟨.inl ⟨_, _, [], hres, hr args, ReadsW.bool true, hp, fun _ => ⟨List.nodup_nil, fun a ha => absurd ha List.not_mem_nil⟩⟩, ⟨fun b o e => ?_, fun b o e => ?_⟩, hos, hg⟩
    · by_cases hb : b ∈ tabs.map (·.2)
      · obtain ⟨ht, rfl, ps, hP⟩ := grown b o hb e
        exact .inr (.inl ⟨ht, rfl, #[], ps, rfl, by rw [Array.empty_append]; exact hP⟩)
      · exact .inl (keep b o hb e)
    · by_cases hb : b ∈ tabs.map (·.2)
      · obtain ⟨_, _, ps, hP⟩ := grown b o hb e
        exact ⟨_, hP⟩
      · exact ⟨o, keep b o hb e⟩
section
variable {prog : Program} {w : World} {A : Around} {E : Value → Shared → Prop} {s : Shared} {h₀ : Heap} {L : Addr} {m : Str → Option Value} {news : List (Addr × Obj)}
theorem slice_listT {value slice : PySem.Expr} {l : Addr} {items : Array Value} {vl vu : Value} {lo hi : Option Int} {Q : Value → Shared → Prop}
    (F : Fr h₀ L s.heap m) (N : News h₀ L s.heap news) (hl : s.heap.IsList l items) (pl : IsPart vl lo) (pu : IsPart vu hi)
    (h : ∀ D h', Fr h₀ L h' m → News h₀ L h' ((D, listOf (slicePick items lo hi none) 0) :: news) → (∀ p ∈ news, p.1 < D) → Q (.ref D) { s with heap := h' })
    (hs : subscripted slice false (.ref l) (.ref s.heap.objs.size) = operate [.ref s.heap.objs.size, .ref l] (getItem (.ref l) (.ref s.heap.objs.size)))
    (hsz : items.size ≤ sizeLine) :
    wpAny (model prog w) A (subscriptTail value slice (.ref l) (.ref s.heap.objs.size)) Q E { s with heap := s.heap.push { cls := .type "slice", data := .fields #[vl, vu, .none] } } := by
  refine tail_any (Heap.IsList.typeIs (s := { s with heap := s.heap.push { cls := .type "slice", data := .fields #[vl, vu, .none] } }) (hl.push _)) list_getitem_lookup
    (wpAny_getItem_list_slice (hl.push _) (Heap.IsSliceOf.new ..) pl pu .none (by simp) ?_ hsz) hs
  have N1 := News.push (F.push { cls := .type "slice", data := .fields #[vl, vu, .none] }) (N.grown fun _ _ e => Heap.get?_push_of_some _ e) { cls := .type "list", data := .seq (slicePick items lo hi none) }
  rw [Heap.size_push] at N1
  show Q (.ref (s.heap.push _).objs.size) _
  rw [Heap.size_push]
  exact h _ _ ((F.push _).push _) N1 fun p hp => Nat.lt_succ_of_lt (Heap.lt_size (N p hp).1)
end
local macro_rules | `(tactic| k_go0) => `(tactic| (
  k_fill
  intro w s₀ s₁ mg mb G Y fa o pm cd doc dV kV ho hd hcd hD hmg hg args vals as hpre hlay hrd hwl hlo
  have KX := km_in_of Y
  km_tabs Y
  have X := (Ground.X G).1
  have V := (Ground.X G).2
  refine Ground.open G ?_
  intro T B D TE TW
  try (refine guard_noD D (by decide +kernel) ?_; clear D)
  km_lay T hmg ho hd cd
  clear hmg
  wrow_args hpre hlay hrd hwl hlo
  first | refine callC_kw (enter_call ?_) | refine enter_call ?_
  w_top on
  (refine post_true (by assumption) (fun _ _ => rfl) (by kc_post) ?_)
  w_call any ho hd hcd hD T F
  clear hd
  kn_ghosts F T
  k_drop
  skip))
set_option maxHeartbeats 20000000 in
theorem law_of_plain (hpl : PlainLaw) : PySem.Challenge.rw_pg0301_02.Holds := hd2 (by
  k_go0
  all_goals (try k_fold)
  iterate 46 (first | (k_unfold; (try dsimp only)) | walk1 | (dsimp only; walk1) | (leave1; try dsimp only))
  rename (News _ _ _ _) => N1
  rename (Fr _ _ _ _) => F1
  rename (IntsAre _ (_ ++ [8, 8, 4, 45, 2, 10, 39])) => hI1
  refine' slice_listT (hi := some 7) F1 N1 ?ql9 ?qp9 ?qq9 ?qg9 ?qs9 ?qz9
  case ql9 => exact News.isList N1 (.head _)
  case qp9 => exact IsPart.none
  case qq9 => exact IsPart.int _ _
  case qs9 => with_unfolding_all rfl
  case qz9 =>
    rw [List.size_toArray, hI1.length, List.length_append, List.length_map, List.length_take, sizeLine_eq]
    simp only [List.length_cons, List.length_nil]; lia
  case qg9 =>
  intro D2 h2 F2 N2 l2
  have hI2 := kmk_upto (y := 7) hI1 (by decide)
  rw [← Array.toArray_toList (xs := slicePick _ _ _ _)] at N2
  iterate 2 (first | (k_unfold; (try dsimp only)) | walk1 | (dsimp only; walk1) | (leave1; try dsimp only))
  rename (News _ _ _ _) => N3
  rename (Fr _ _ _ _) => F3
  rename (_ = Data.cell _) => hcA
  revert hcA
  rename (_ = Data.cell _) => hcB
  intro hcA
  refine' lawA _ _ _ _ _ _ _ _ _ _ _ _ D2 0 _ _ _ _ ?hE9 ?hB9 F3 ?hX9 ?hT9 ?hC9 ?hb9 ?hN9 hpl hI2 (cells_ok _).1 (cells_ok _).2 ?lD9 ?l130 hcA hcB ?mc9 ?hQ9
  case hE9 => passes_own
  case hB9 => k_asm
  case hX9 => k_in
  case hT9 => k_asm
  case hC9 => k_asm
  case hb9 => exact AllBare.of_eq (by assumption)
  case hN9 =>
    intro p hp
    refine N3 p ?_
    simp only [List.mem_cons, List.not_mem_nil, or_false] at hp ⊢
    rcases hp with h | h | h | h <;> simp [h]
  case lD9 => exact l2 _ (.tail _ (.tail _ (.tail _ (.tail _ (.head _)))))
  case l130 => show @LT.lt Nat _ _ _; lia
  case mc9 => exact if_pos rfl
  case hQ9 =>
  intro m9 news9 h9 tk9 gens9 d9 F9 N9 B9 T9
  obtain ⟨tb9, hm9⟩ := T9
  exact ⟨⟨rfl, fun b o e => F9.keep b o e, rfl, B9⟩, ⟨tb9, (N9 _ hm9).1⟩, trivial⟩)
end
section
open PySem
noncomputable def repL (y z : List Nat) : Nat → List Nat → List Nat
  | _, [] => []
  | 0, c :: r => if y.isPrefixOf (c :: r) then z ++ repL y z (y.length - 1) r else c :: repL y z 0 r
  | s + 1, _ :: r => repL y z s r
theorem repL_e1 (y z : List Nat) (u1) : repL y z u1 [] = [] := rfl
theorem repL_e2 (y z : List Nat) (c) (r) : repL y z 0 (c :: r) = if y.isPrefixOf (c :: r) then z ++ repL y z (y.length - 1) r else c :: repL y z 0 r := rfl
theorem repL_e3 (y z : List Nat) (s) (u1) (r) : repL y z (s + 1) (u1 :: r) = repL y z s r := rfl
noncomputable def occR (x y : List Nat) : Nat → Nat → Nat → List Nat
  | 0, _, _ => []
  | n + 1, i, free => if free ≤ i ∧ y.isPrefixOf (x.drop i) then i :: occR x y n (i + 1) (i + y.length) else occR x y n (i + 1) free
theorem occR_e1 (x y : List Nat) (u1) (u2) : occR x y 0 u1 u2 = [] := rfl
theorem occR_e2 (x y : List Nat) (n) (i) (free) : occR x y (n + 1) i free = if free ≤ i ∧ y.isPrefixOf (x.drop i) then i :: occR x y n (i + 1) (i + y.length) else occR x y n (i + 1) free := rfl
noncomputable def betw (x z : List Nat) (w : Nat) : Nat → List Nat → List Nat
  | a, [] => x.drop a
  | a, c :: cs => (x.take c).drop a ++ (z ++ betw x z w (c + w) cs)
theorem betw_e1 (x z : List Nat) (w : Nat) (a) : betw x z w a [] = x.drop a := rfl
theorem betw_e2 (x z : List Nat) (w : Nat) (a) (c) (cs) : betw x z w a (c :: cs) = (x.take c).drop a ++ (z ++ betw x z w (c + w) cs) := rfl
theorem betw_rep (x y z : List Nat) (hy : y ≠ []) : ∀ (n i a : Nat), n + i = x.length + 1 → a ≤ x.length → betw x z y.length a (occR x y n i a) = (x.take i).drop a ++ repL y z (a - i) (x.drop i)
  | 0, i, a, hn, ha => by
    ((first | rewrite [occR_e1] | rewrite [occR_e2]); (first | rewrite [betw_e1] | rewrite [betw_e2]); rewrite [List.take_of_length_le (by lia), List.drop_of_length_le (i := i) (by lia)]; (first | rewrite [repL_e1] | rewrite [repL_e2] | rewrite [repL_e3]); rw [List.append_nil])
  | n + 1, i, a, hn, ha => by
    have hw : 0 < y.length := List.length_pos_iff.mpr hy
    by_cases hi : i < x.length
    · have hd : x.drop i = x[i] :: x.drop (i + 1) := List.drop_eq_getElem_cons hi
      ((first | rw [occR_e1] | rw [occR_e2]))
      by_cases hm : a ≤ i ∧ y.isPrefixOf (x.drop i) = true
      · (rewrite [if_pos hm]; (first | rw [betw_e1] | rw [betw_e2]))
        have hl : i + y.length ≤ x.length := by
          have h := (List.isPrefixOf_iff_prefix.mp hm.2).length_le
          rw [List.length_drop] at h; lia
        rw [betw_rep x y z hy n (i + 1) (i + y.length) (by lia) hl]
        have e1 : a - i = 0 := by lia
        have e2 : (x.take (i + 1)).drop (i + y.length) = [] := List.drop_of_length_le (by rw [List.length_take]; lia)
        have e3 : i + y.length - (i + 1) = y.length - 1 := by lia
        (rewrite [e1, e2, e3, List.nil_append, hd]; (first | rewrite [repL_e1] | rewrite [repL_e2] | rewrite [repL_e3]); rw [← hd, if_pos hm.2])
      · rw [if_neg hm, betw_rep x y z hy n (i + 1) a (by lia) ha]
        by_cases hai : a ≤ i
        · have hnp : ¬ y.isPrefixOf (x.drop i) = true := fun h => hm ⟨hai, h⟩
          have e1 : a - i = 0 := by lia
          have e2 : a - (i + 1) = 0 := by lia
          have e4 : (x.take (i + 1)).drop a = (x.take i).drop a ++ [x[i]] := by
            rw [List.take_succ_eq_append_getElem hi, List.drop_append_of_le_length (by rw [List.length_take]; lia)]
          (rewrite [e1, e2, e4, hd]; (first | rewrite [repL_e1] | rewrite [repL_e2] | rewrite [repL_e3]); rw [← hd, if_neg hnp, List.append_assoc]); rfl
        · have e2 : (x.take (i + 1)).drop a = [] := List.drop_of_length_le (by rw [List.length_take]; lia)
          have e3 : (x.take i).drop a = [] := List.drop_of_length_le (by rw [List.length_take]; lia)
          obtain ⟨b, hb⟩ : ∃ b, a - i = b + 1 := ⟨a - i - 1, by lia⟩
          have e5 : a - (i + 1) = b := by lia
          (rewrite [e2, e3, hb, e5, hd]; (first | rw [repL_e1] | rw [repL_e2] | rw [repL_e3]))
    · have hn0 : n = 0 := by lia
      subst hn0
      have hnp : ¬ (a ≤ i ∧ y.isPrefixOf (x.drop i) = true) := by
        rw [List.drop_of_length_le (by lia)]
        rintro ⟨_, h⟩
        cases y with
        | nil => exact hy rfl
        | cons c r => cases h
      ((first | rewrite [occR_e1] | rewrite [occR_e2]); rewrite [if_neg hnp]; (first | rewrite [occR_e1] | rewrite [occR_e2]); (first | rewrite [betw_e1] | rewrite [betw_e2]); rewrite [List.take_of_length_le (by lia), List.drop_of_length_le (i := i) (by lia)]; (first | rewrite [repL_e1] | rewrite [repL_e2] | rewrite [repL_e3]); rw [List.append_nil])
theorem pre_iff {s y : Str} (hy : y.cps.toList ≠ []) (i : Nat) : (i + y.length ≤ s.length ∧ Builtin.Str.subAt s y i = true) ↔ y.cps.toList.isPrefixOf (s.cps.toList.drop i) = true := by
  have hyl : y.length = y.cps.toList.length := by show y.cps.size = _; simp
  have hsl : s.length = s.cps.toList.length := by show s.cps.size = _; simp
  have hw : 0 < y.cps.toList.length := List.length_pos_iff.mpr hy
  rw [List.isPrefixOf_iff_prefix, List.prefix_iff_eq_take]
  unfold Builtin.Str.subAt
  rw [beq_iff_eq]
  have e : s.cps.extract i (i + y.length) = y.cps ↔ y.cps.toList = (s.cps.toList.drop i).take y.cps.toList.length := by
    constructor
    · intro h
      have h2 := congrArg Array.toList h
      rw [Array.toList_extract] at h2
      rw [← h2]
      simp [List.extract, hyl]
    · intro h
      apply Array.ext'
      rw [Array.toList_extract, h]
      simp [List.extract, hyl]
  rw [e]
  constructor
  · exact fun h => h.2
  · intro h
    refine ⟨?_, h⟩
    have h2 := congrArg List.length h
    rw [List.length_take, List.length_drop] at h2
    lia
theorem occ_R {s y : Str} (hy : y.cps.toList ≠ []) (limit : Nat) : ∀ (n i : Nat) (found : Array Nat) (free : Nat), found.size + n ≤ limit →
    (forIn (List.range' i n) (found, free) (StrLaws.occBody s y s.length limit)).run.fst.toList = found.toList ++ occR s.cps.toList y.cps.toList n i free
  | 0, i, found, free, h => by simp [occR_e1, occR_e2]
  | n + 1, i, found, free, h => by
    have hyl : y.length = y.cps.toList.length := by show y.cps.size = _; simp
    (rewrite [List.range'_succ, List.forIn_cons]; (first | rw [occR_e1] | rw [occR_e2]))
    unfold StrLaws.occBody
    by_cases hm : free ≤ i ∧ y.cps.toList.isPrefixOf (s.cps.toList.drop i) = true
    · have h2 := (pre_iff hy i).mpr hm.2
      rw [if_pos hm, if_pos ⟨⟨⟨by show found.size < limit; lia, hm.1⟩, h2.1⟩, h2.2⟩]
      have ih := occ_R (s := s) hy limit n (i + 1) (found.push i) (i + y.length) (by rw [Array.size_push]; lia)
      refine Eq.trans ih ?_
      rw [Array.toList_push, hyl, List.append_assoc]; rfl
    · have h2 : ¬ (((found.size < limit ∧ free ≤ i) ∧ i + y.length ≤ s.length) ∧ Builtin.Str.subAt s y i = true) := fun q => hm ⟨q.1.1.2, (pre_iff hy i).mp ⟨q.1.2, q.2⟩⟩
      rw [if_neg hm, if_neg h2]
      exact occ_R (s := s) hy limit n (i + 1) found free (by lia)
noncomputable def glL (z : List Nat) : List (List Nat) → List Nat
  | [] => []
  | p :: r => p ++ (r.map (z ++ ·)).flatten
theorem glL_cons (z p : List Nat) {l : List (List Nat)} (h : l ≠ []) : glL z (p :: l) = p ++ (z ++ glL z l) := by
  cases l with
  | nil => exact absurd rfl h
  | cons q r => rw [glL, glL, List.map_cons, List.flatten_cons, List.append_assoc]
theorem glued_list (z : Str) (l : List Str) : (Builtin.Str.glued z l).cps.toList = glL z.cps.toList (l.map fun x => x.cps.toList) := by
  cases l with
  | nil => rfl
  | cons p r =>
    show ((r.foldl (fun acc p => acc ++ z.cps ++ p.cps) p.cps).toList) = _
    rw [List.map_cons, glL]
    generalize p.cps = a
    induction r generalizing a with
    | nil => simp
    | cons q r ih =>
      rw [List.foldl_cons, ih, Array.toList_append, Array.toList_append, List.map_cons, List.map_cons, List.flatten_cons]
      simp only [List.append_assoc]
theorem parts_betw (s : Str) (z : List Nat) (w : Nat) : ∀ (cuts : List Nat) (a : Nat), glL z (((a :: cuts.map (· + w)).zip (cuts ++ [s.length])).map fun p => (Builtin.Str.strSub s p.1 p.2).cps.toList) = betw s.cps.toList z w a cuts
  | [], a => by
    have hsl : s.length = s.cps.toList.length := by show s.cps.size = _; simp
    simp [glL, betw_e1, betw_e2, Builtin.Str.strSub, List.extract, hsl]
    exact List.take_of_length_le (by rw [List.length_drop]; simp)
  | c :: cs, a => by
    have ih := parts_betw s z w cs (c + w)
    simp only [List.map_cons, List.cons_append, List.zip_cons_cons] at ih ⊢
    (rewrite [glL_cons _ _ (by cases cs <;> simp), ih]; (first | rw [betw_e1] | rw [betw_e2]))
    congr 1
    simp only [Builtin.Str.strSub, Array.toList_extract, List.extract]
    rw [List.drop_take]
theorem rep_split {x y : Str} (z : Str) (hy : y.cps.toList ≠ []) (hk : Builtin.Str.strKind y = 1) : (Builtin.Str.glued z (Txt.split x y)).cps.toList = repL y.cps.toList z.cps.toList 0 x.cps.toList := by
  have hyl : y.length = y.cps.toList.length := by show y.cps.size = _; simp
  have hxl : x.length = x.cps.toList.length := by show x.cps.size = _; simp
  have hocc : Builtin.Str.occurrences x y 0 x.length (x.length + 1) = occR x.cps.toList y.cps.toList (x.length + 1) 0 0 := by
    rw [StrLaws.occ_eq]
    have h := occ_R (s := x) hy (x.length + 1) (x.length + 1) 0 #[] 0 (by simp)
    simpa using h
  have hb := betw_rep x.cps.toList y.cps.toList z.cps.toList hy (x.length + 1) 0 0 (by lia) (Nat.zero_le _)
  rw [List.take_zero, List.drop_nil, List.nil_append, Nat.sub_self, List.drop_zero] at hb
  rw [← hb, ← hocc]
  rw [glued_list]
  unfold Txt.split
  have one : glL z.cps.toList ([x].map fun x => x.cps.toList) = x.cps.toList := by simp [glL]
  split
  · rename_i h
    have hlt : x.length < y.length := by
      rcases Bool.or_eq_true_iff.mp h with h | h
      · exact of_decide_eq_true h
      · have := of_decide_eq_true h
        rw [hk] at this
        unfold Builtin.Str.strKind at this
        split at this
        · lia
        · split at this <;> lia
    have hno : Builtin.Str.occurrences x y 0 x.length (x.length + 1) = [] := by
      rw [hocc]
      have : ∀ n i f, occR x.cps.toList y.cps.toList n i f = [] := by
        intro n
        induction n with
        | zero => intro i f; rfl
        | succ n ih =>
          intro i f
          ((first | rewrite [occR_e1] | rewrite [occR_e2]); rw [if_neg, ih])
          rintro ⟨_, hp⟩
          have := (List.isPrefixOf_iff_prefix.mp hp).length_le
          rw [List.length_drop] at this
          lia
      exact this _ _ _
    (rewrite [hno]; (first | rewrite [betw_e1] | rewrite [betw_e2]); rw [List.drop_zero]); exact one
  · split
    · rename_i h2
      have hno : Builtin.Str.occurrences x y 0 x.length (x.length + 1) = [] := List.isEmpty_iff.mp h2
      (rewrite [hno]; (first | rewrite [betw_e1] | rewrite [betw_e2]); rw [List.drop_zero]); exact one
    · have h3 := parts_betw x z.cps.toList y.length (Builtin.Str.occurrences x y 0 x.length (x.length + 1)) 0
      rw [← hyl, ← h3, Builtin.Str.partsBetween, List.map_map]
      rfl
theorem rep_skip (y z : List Nat) : ∀ (u v : List Nat), repL y z u.length (u ++ v) = repL y z 0 v
  | [], v => by cases v <;> rfl
  | c :: u, v => by (rewrite [List.cons_append, List.length_cons]; (first | rw [repL_e1] | rw [repL_e2] | rw [repL_e3])); exact rep_skip y z u v
theorem rep_hit (c : Nat) (p z v : List Nat) : repL (c :: p) z 0 (c :: p ++ v) = z ++ repL (c :: p) z 0 v := by
  (rewrite [List.cons_append]; (first | rewrite [repL_e1] | rewrite [repL_e2] | rewrite [repL_e3]); rw [if_pos (by simp), List.length_cons, Nat.add_sub_cancel, rep_skip])
theorem rep_pass (c : Nat) (p z : List Nat) : ∀ (u v : List Nat), (∀ d ∈ u, d ≠ c) → repL (c :: p) z 0 (u ++ v) = u ++ repL (c :: p) z 0 v
  | [], v, _ => rfl
  | d :: u, v, h => by
    (rewrite [List.cons_append]; (first | rewrite [repL_e1] | rewrite [repL_e2] | rewrite [repL_e3]); rw [if_neg, rep_pass c p z u v fun e he => h e (.tail _ he)])
    · rfl
    · intro hp
      have := (List.isPrefixOf_iff_prefix.mp hp)
      obtain ⟨t, ht⟩ := this
      injection ht with h1 _
      exact h d (.head _) h1.symm
end
section
open PySem PyProof.Rows
inductive Kt where
  | o (n : Fin 3) | c | u | b
  deriving DecidableEq
noncomputable def strK : Kt → List Nat
  | .o n => [60, 97, 32, 110, 61, 34, 48 + n.val, 34, 62]
  | .c => [60, 47, 97, 62]
  | .u => [117]
  | .b => [33]
noncomputable def flatK (l : List Kt) : List Nat := (l.map strK).flatten
theorem flat_cons (x : Kt) (r : List Kt) : flatK (x :: r) = strK x ++ flatK r := rfl
theorem flat_app (a r : List Kt) : flatK (a ++ r) = flatK a ++ flatK r := by
  rw [flatK, List.map_append, List.flatten_append]; rfl
noncomputable def repK (t1 t2 : Kt) (zs : List Kt) : List Kt → List Kt
  | [] => []
  | [x] => [x]
  | x :: y :: r => if x = t1 ∧ y = t2 then zs ++ repK t1 t2 zs r else x :: repK t1 t2 zs (y :: r)
theorem repK_e1 (t1 t2 : Kt) (zs : List Kt) : repK t1 t2 zs [] = [] := rfl
theorem repK_e2 (t1 t2 : Kt) (zs : List Kt) (x) : repK t1 t2 zs ([x]) = [x] := rfl
theorem repK_e3 (t1 t2 : Kt) (zs : List Kt) (x) (y) (r) : repK t1 t2 zs (x :: y :: r) = if x = t1 ∧ y = t2 then zs ++ repK t1 t2 zs r else x :: repK t1 t2 zs (y :: r) := rfl
theorem pre_app (a b c : List Nat) : (a ++ b).isPrefixOf (a ++ c) = b.isPrefixOf c := by
  induction a with
  | nil => rfl
  | cons x r ih => simp [List.isPrefixOf, ih]
theorem fin3 (n : Fin 3) : n = 0 ∨ n = 1 ∨ n = 2 := by revert n; decide
theorem o_body (n : Fin 3) : ∀ d ∈ [97, 32, 110, 61, 34, 48 + n.val, 34, 62], d ≠ 60 := by
  rcases fin3 n with rfl | rfl | rfl <;> decide
noncomputable def EndK (y : Kt) : Prop := y = .c ∨ y = .u
theorem emit_tok {p z : List Nat} (x : Kt) (v : List Nat) (h : (60 :: p).isPrefixOf (strK x ++ v) = false) : repL (60 :: p) z 0 (strK x ++ v) = strK x ++ repL (60 :: p) z 0 v := by
  cases x with
  | o n =>
    show repL (60 :: p) z 0 (60 :: ([97, 32, 110, 61, 34, 48 + n.val, 34, 62] ++ v)) = 60 :: ([97, 32, 110, 61, 34, 48 + n.val, 34, 62] ++ _)
    ((first | rewrite [repL_e1] | rewrite [repL_e2] | rewrite [repL_e3]); rw [if_neg (by rw [show (60 :: p).isPrefixOf (60 :: ([97, 32, 110, 61, 34, 48 + n.val, 34, 62] ++ v)) = false from h]; decide), rep_pass 60 p z _ v (o_body n)])
  | c =>
    show repL (60 :: p) z 0 (60 :: ([47, 97, 62] ++ v)) = 60 :: ([47, 97, 62] ++ _)
    ((first | rewrite [repL_e1] | rewrite [repL_e2] | rewrite [repL_e3]); rw [if_neg (by rw [show (60 :: p).isPrefixOf (60 :: ([47, 97, 62] ++ v)) = false from h]; decide), rep_pass 60 p z _ v (by decide)])
  | u => exact rep_pass 60 p z [117] v (by decide)
  | b => exact rep_pass 60 p z [33] v (by decide)
theorem pat_one (n : Fin 3) (t : List Nat) (x : Kt) (v : List Nat) (h : x ≠ .o n) : (strK (.o n) ++ t).isPrefixOf (strK x ++ v) = false := by
  cases x with
  | o k =>
    have hk : n ≠ k := fun e => h (by rw [e])
    rcases fin3 n with rfl | rfl | rfl <;> rcases fin3 k with rfl | rfl | rfl <;> first | exact absurd rfl hk | rfl
  | c => rfl
  | u => rfl
  | b => rfl
theorem pat_two {t : Kt} (ht : EndK t) (x : Kt) (v : List Nat) (h : x ≠ t) : (strK t).isPrefixOf (strK x ++ v) = false := by
  rcases ht with rfl | rfl <;> cases x <;> first | exact absurd rfl h | rfl
theorem pat_nil {t : Kt} (ht : EndK t) : (strK t).isPrefixOf [] = false := by rcases ht with rfl | rfl <;> rfl
theorem rep_tok (n : Fin 3) {t : Kt} (ht : EndK t) (zs : List Kt) : ∀ ts : List Kt, repL (strK (.o n) ++ strK t) (flatK zs) 0 (flatK ts) = flatK (repK (.o n) t zs ts)
  | [] => rfl
  | [x] => by
    have hn : (strK (.o n) ++ strK t).isPrefixOf (strK x ++ []) = false := by
      by_cases hx : x = .o n
      · rw [hx, pre_app]; exact pat_nil ht
      · exact pat_one n _ x [] hx
    ((first | rewrite [repK_e1] | rewrite [repK_e2] | rewrite [repK_e3]); rw [flat_cons])
    exact emit_tok x [] hn
  | x :: y :: r => by
    ((first | rewrite [repK_e1] | rewrite [repK_e2] | rewrite [repK_e3]); rw [flat_cons])
    by_cases hm : x = .o n ∧ y = t
    · rw [if_pos hm, flat_cons, hm.1, hm.2, ← List.append_assoc, flat_app, ← rep_tok n ht zs r]
      exact rep_hit 60 _ _ _
    · have hn : (strK (.o n) ++ strK t).isPrefixOf (strK x ++ flatK (y :: r)) = false := by
        by_cases hx : x = .o n
        · rw [hx, pre_app, flat_cons]
          exact pat_two ht y _ fun e => hm ⟨hx, e⟩
        · exact pat_one n _ x _ hx
      rw [if_neg hm]
      show repL _ _ 0 (strK x ++ flatK (y :: r)) = strK x ++ flatK (repK (.o n) t zs (y :: r))
      rw [← rep_tok n ht zs (y :: r)]
      exact emit_tok x _ hn
theorem bang_tok : ∀ ts : List Kt, repL [33] [] 0 (flatK ts) = flatK (ts.filter fun x => decide (x ≠ .b))
  | [] => rfl
  | x :: r => by
    rw [flat_cons]
    by_cases hx : x = .b
    · subst hx
      rw [List.filter_cons_of_neg (by simp), ← bang_tok r]
      exact rep_hit 33 [] [] _
    · rw [List.filter_cons_of_pos (by simpa using hx), flat_cons, ← bang_tok r]
      refine rep_pass 33 [] [] _ _ ?_
      cases x with
      | o n => rcases fin3 n with rfl | rfl | rfl <;> decide
      | c => decide
      | u => decide
      | b => exact absurd rfl hx
theorem bang_cnt : ∀ ts : List Kt, cnt 33 (flatK ts) = (ts.count .b : Int)
  | [] => rfl
  | x :: r => by
    rw [flat_cons, cnt_append, bang_cnt r, List.count_cons]
    cases x with
    | o n => rcases fin3 n with rfl | rfl | rfl <;> (rw [cnt_none 33 _ (by decide)]; simp)
    | c => rw [cnt_none 33 _ (by decide)]; simp
    | u => rw [cnt_none 33 _ (by decide)]; simp
    | b =>
      show cnt 33 [33] + _ = _
      rw [cnt_cons, cnt_nil]
      simp
      omega
end
section
open PySem
inductive Nd where
  | lf
  | nd (n : Fin 3) (b : Nat) (ks : List Nd)
mutual
noncomputable def tk : Nd → List Kt
  | .lf => [.u]
  | .nd n b ks => List.replicate b .b ++ .o n :: (tkL ks ++ [.c])
noncomputable def tkL : List Nd → List Kt
  | [] => []
  | t :: r => tk t ++ tkL r
end
theorem tk_e1 : tk (.lf) = [.u] := rfl
theorem tk_e2 (n) (b) (ks) : tk (.nd n b ks) = List.replicate b .b ++ .o n :: (tkL ks ++ [.c]) := rfl
theorem tkL_e1 : tkL [] = [] := rfl
theorem tkL_e2 (t) (r) : tkL (t :: r) = tk t ++ tkL r := rfl
mutual
noncomputable def clean : Nd → Prop
  | .lf => True
  | .nd _ b ks => b = 0 ∧ cleanL ks
noncomputable def cleanL : List Nd → Prop
  | [] => True
  | t :: r => clean t ∧ cleanL r
end
theorem clean_e1 : clean (.lf) = (True) := rfl
theorem clean_e2 (u1) (b) (ks) : clean (.nd u1 b ks) = (b = 0 ∧ cleanL ks) := rfl
theorem cleanL_e1 : cleanL [] = (True) := rfl
theorem cleanL_e2 (t) (r) : cleanL (t :: r) = (clean t ∧ cleanL r) := rfl
theorem tkL_app (a b : List Nd) : tkL (a ++ b) = tkL a ++ tkL b := by
  induction a with
  | nil => rfl
  | cons t r ih => (rewrite [List.cons_append]; (first | rewrite [tkL_e1] | rewrite [tkL_e2]); (first | rewrite [tkL_e1] | rewrite [tkL_e2]); rw [ih, List.append_assoc])
theorem tkL_one (t : Nd) : tkL [t] = tk t := by ((first | rewrite [tkL_e1] | rewrite [tkL_e2]); (first | rewrite [tkL_e1] | rewrite [tkL_e2]); rw [List.append_nil])
noncomputable def okE : List Kt → Prop
  | [] => True
  | [x] => ∀ n, x ≠ .o n
  | _ :: y :: r => okE (y :: r)
theorem okE_tail {x : Kt} {l : List Kt} (h : okE (x :: l)) : okE l := by
  cases l with
  | nil => trivial
  | cons y r => exact h
theorem okE_end (x : Kt) (hx : ∀ n, x ≠ .o n) : ∀ l : List Kt, okE (l ++ [x])
  | [] => hx
  | [y] => hx
  | y :: z :: r => okE_end x hx (z :: r)
theorem okE_app : ∀ {a b : List Kt}, okE a → okE b → okE (a ++ b)
  | [], _, _, hb => hb
  | [x], [], ha, _ => ha
  | [x], y :: r, _, hb => hb
  | x :: y :: r, b, ha, hb => okE_app (a := y :: r) ha hb
theorem rep_past {t1 t : Kt} {zs : List Kt} {x : Kt} (h : x ≠ t1) : ∀ r, repK t1 t zs (x :: r) = x :: repK t1 t zs r
  | [] => rfl
  | y :: r => by ((first | rewrite [repK_e1] | rewrite [repK_e2] | rewrite [repK_e3]); rw [if_neg fun e => h e.1])
theorem rep_app {n : Fin 3} {t : Kt} {zs : List Kt} (r : List Kt) : ∀ (l : List Kt), okE l → repK (.o n) t zs (l ++ r) = repK (.o n) t zs l ++ repK (.o n) t zs r
  | [], _ => rfl
  | [x], h => rep_past (h n) r
  | x :: y :: l, h => by
    (rewrite [List.cons_append, List.cons_append]; (first | rewrite [repK_e1] | rewrite [repK_e2] | rewrite [repK_e3]); (first | rw [repK_e1] | rw [repK_e2] | rw [repK_e3]))
    by_cases hm : x = .o n ∧ y = t
    · rw [if_pos hm, if_pos hm, rep_app r l (okE_tail (okE_tail h)), List.append_assoc]
    · rw [if_neg hm, if_neg hm, ← List.cons_append, rep_app r (y :: l) h]; rfl
theorem rep_head {t1 t : Kt} {zs : List Kt} {x y : Kt} (h : y ≠ t) (r : List Kt) : repK t1 t zs (x :: y :: r) = x :: repK t1 t zs (y :: r) := by ((first | rewrite [repK_e1] | rewrite [repK_e2] | rewrite [repK_e3]); rw [if_neg fun e => h e.2])
theorem rep_bangs {n : Fin 3} {t : Kt} {zs : List Kt} (r : List Kt) : ∀ b : Nat, repK (.o n) t zs (List.replicate b .b ++ r) = List.replicate b .b ++ repK (.o n) t zs r
  | 0 => rfl
  | b + 1 => by rw [List.replicate_succ, List.cons_append, rep_past (by simp), rep_bangs r b]; rfl
mutual
theorem okE_tk : ∀ t : Nd, okE (tk t)
  | .lf => fun n h => by cases h
  | .nd n b ks => by
    ((first | rewrite [tk_e1] | rewrite [tk_e2]); rw [← List.cons_append, ← List.append_assoc])
    exact okE_end .c (fun n h => by cases h) _
theorem okE_tkL : ∀ ts : List Nd, okE (tkL ts)
  | [] => trivial
  | t :: r => by ((first | rw [tkL_e1] | rw [tkL_e2])); exact okE_app (okE_tk t) (okE_tkL r)
end
theorem tk_head (t : Nd) : ∃ y r, tk t = y :: r ∧ y ≠ .c ∧ (y = .u → t = .lf) := by
  cases t with
  | lf => exact ⟨.u, [], rfl, by simp, fun _ => rfl⟩
  | nd n b ks =>
    cases b with
    | zero => exact ⟨.o n, _, rfl, by simp, fun h => by cases h⟩
    | succ b => exact ⟨.b, List.replicate b .b ++ .o n :: (tkL ks ++ [.c]), by ((first | rewrite [tk_e1] | rewrite [tk_e2]); rw [List.replicate_succ, List.cons_append]), by simp, fun h => by cases h⟩
mutual
noncomputable def pE (m : Fin 3) (z : List Nd) : Nd → List Nd
  | .lf => [.lf]
  | .nd n b ks => if n = m ∧ ks.isEmpty = true then z else [.nd n b (pEL m z ks)]
noncomputable def pEL (m : Fin 3) (z : List Nd) : List Nd → List Nd
  | [] => []
  | t :: r => pE m z t ++ pEL m z r
end
theorem pE_e1 (m : Fin 3) (z : List Nd) : pE m z (.lf) = [.lf] := rfl
theorem pE_e2 (m : Fin 3) (z : List Nd) (n) (b) (ks) : pE m z (.nd n b ks) = if n = m ∧ ks.isEmpty = true then z else [.nd n b (pEL m z ks)] := rfl
theorem pEL_e1 (m : Fin 3) (z : List Nd) : pEL m z [] = [] := rfl
theorem pEL_e2 (m : Fin 3) (z : List Nd) (t) (r) : pEL m z (t :: r) = pE m z t ++ pEL m z r := rfl
mutual
theorem tok_E (m : Fin 3) (z : List Nd) : ∀ t : Nd, clean t → repK (.o m) .c (tkL z) (tk t) = tkL (pE m z t)
  | .lf, _ => rfl
  | .nd n b ks, h => by
    ((first | rw [clean_e1] at h | rw [clean_e2] at h))
    obtain ⟨rfl, hk⟩ := h
    ((first | rewrite [tk_e1] | rewrite [tk_e2]); (first | rw [pE_e1] | rw [pE_e2]))
    show repK (.o m) .c (tkL z) (.o n :: (tkL ks ++ [.c])) = _
    have hr : repK (.o m) .c (tkL z) (tkL ks ++ [.c]) = tkL (pEL m z ks) ++ [.c] := by
      rw [rep_app _ _ (okE_tkL ks), tok_EL m z ks hk]; rfl
    cases ks with
    | nil =>
      by_cases hn : n = m
      · rw [if_pos ⟨hn, rfl⟩, hn]
        show repK (.o m) .c (tkL z) [.o m, .c] = _
        ((first | rewrite [repK_e1] | rewrite [repK_e2] | rewrite [repK_e3]); rewrite [if_pos ⟨rfl, rfl⟩]; (first | rewrite [repK_e1] | rewrite [repK_e2] | rewrite [repK_e3]); rw [List.append_nil])
      · (rewrite [if_neg fun e => hn e.1, rep_past (fun e => hn (by injection e)), hr, tkL_one]; (first | rw [tk_e1] | rw [tk_e2]))
        rfl
    | cons t r =>
      (rewrite [if_neg fun e => by simp at e, tkL_one]; (first | rw [tk_e1] | rw [tk_e2]))
      obtain ⟨y, u, hy, hc, _⟩ := tk_head t
      have hh : tkL (t :: r) ++ [.c] = y :: (u ++ tkL r ++ [.c]) := by ((first | rewrite [tkL_e1] | rewrite [tkL_e2]); rw [hy]); rfl
      rw [hh] at hr ⊢
      rw [rep_head hc, hr]
      rfl
theorem tok_EL (m : Fin 3) (z : List Nd) : ∀ ts : List Nd, cleanL ts → repK (.o m) .c (tkL z) (tkL ts) = tkL (pEL m z ts)
  | [], _ => rfl
  | t :: r, h => by
    ((first | rw [cleanL_e1] at h | rw [cleanL_e2] at h))
    ((first | rewrite [tkL_e1] | rewrite [tkL_e2]); (first | rewrite [pEL_e1] | rewrite [pEL_e2]); rw [tkL_app, rep_app _ _ (okE_tk t), tok_E m z t h.1, tok_EL m z r h.2])
end
noncomputable def prd : Fin 3 → Fin 3
  | 0 => 0
  | 1 => 0
  | 2 => 1
noncomputable def bg : Fin 3 → Nat
  | 0 => 0
  | 1 => 1
  | 2 => 1
noncomputable def cutU (m n : Fin 3) (b : Nat) : List Nd → Nd
  | .lf :: r => if n = m then .nd (prd m) (b + bg m) r else .nd n b (.lf :: r)
  | ks => .nd n b ks
mutual
noncomputable def pU (m : Fin 3) : Nd → Nd
  | .lf => .lf
  | .nd n b ks => cutU m n b (pUL m ks)
noncomputable def pUL (m : Fin 3) : List Nd → List Nd
  | [] => []
  | t :: r => pU m t :: pUL m r
end
theorem pU_e1 (m : Fin 3) : pU m (.lf) = .lf := rfl
theorem pU_e2 (m : Fin 3) (n) (b) (ks) : pU m (.nd n b ks) = cutU m n b (pUL m ks) := rfl
theorem pUL_e1 (m : Fin 3) : pUL m [] = [] := rfl
theorem pUL_e2 (m : Fin 3) (t) (r) : pUL m (t :: r) = pU m t :: pUL m r := rfl
theorem cutU_nd (m n : Fin 3) (b : Nat) (ks : List Nd) : ∃ n' b' ks', cutU m n b ks = .nd n' b' ks' := by
  unfold cutU
  split
  · split <;> exact ⟨_, _, _, rfl⟩
  · exact ⟨_, _, _, rfl⟩
noncomputable abbrev zsU (m : Fin 3) : List Kt := List.replicate (bg m) .b ++ [.o (prd m)]
mutual
theorem tok_U (m : Fin 3) : ∀ t : Nd, repK (.o m) .u (zsU m) (tk t) = tk (pU m t)
  | .lf => rfl
  | .nd n b ks => by
    ((first | rewrite [tk_e1] | rewrite [tk_e2]); (first | rewrite [pU_e1] | rewrite [pU_e2]); rw [rep_bangs])
    have hr : ∀ ks', repK (.o m) .u (zsU m) (tkL ks') = tkL (pUL m ks') → repK (.o m) .u (zsU m) (tkL ks' ++ [.c]) = tkL (pUL m ks') ++ [.c] := fun ks' h => by
      rw [rep_app _ _ (okE_tkL ks'), h]; rfl
    have hk := hr ks (tok_UL m ks)
    match ks, hk with
    | [], _ =>
      show List.replicate b .b ++ repK (.o m) .u (zsU m) [.o n, .c] = tk (.nd n b [])
      (rewrite [rep_head (by simp)]; (first | rw [tk_e1] | rw [tk_e2])); rfl
    | .lf :: r, hk =>
      ((first | rewrite [pUL_e1] | rewrite [pUL_e2]); (first | rewrite [pU_e1] | rewrite [pU_e2]); rw [cutU])
      show List.replicate b .b ++ repK (.o m) .u (zsU m) (.o n :: .u :: (tkL r ++ [.c])) = _
      by_cases hn : n = m
      · (rewrite [if_pos hn, hn]; (first | rewrite [repK_e1] | rewrite [repK_e2] | rewrite [repK_e3]); rewrite [if_pos ⟨rfl, rfl⟩, hr r (tok_UL m r)]; (first | rewrite [tk_e1] | rewrite [tk_e2]); rw [← List.replicate_append_replicate])
        simp only [List.append_assoc, List.cons_append, List.nil_append]
      · (rewrite [if_neg hn, rep_past (fun e => hn (by injection e))]; (first | rw [tk_e1] | rw [tk_e2]))
        have h2 : repK (.o m) .u (zsU m) (.u :: (tkL r ++ [.c])) = .u :: (tkL (pUL m r) ++ [.c]) := by rw [rep_past (by simp), hr r (tok_UL m r)]
        rw [h2]
        rfl
    | .nd n2 b2 k2 :: r, hk =>
      obtain ⟨n', b', ks', hp⟩ := cutU_nd m n2 b2 (pUL m k2)
      obtain ⟨y, u, hy, _, hu⟩ := tk_head (.nd n2 b2 k2)
      have hyu : y ≠ .u := fun e => by have := hu e; cases this
      have hh : tkL (.nd n2 b2 k2 :: r) ++ [.c] = y :: (u ++ tkL r ++ [.c]) := by ((first | rewrite [tkL_e1] | rewrite [tkL_e2]); rw [hy]); rfl
      rw [hh] at hk ⊢
      (rewrite [rep_head hyu, hk]; (first | rewrite [pUL_e1] | rewrite [pUL_e2]); (first | rewrite [pU_e1] | rewrite [pU_e2]); rewrite [hp, cutU]; (first | rw [tk_e1] | rw [tk_e2]))
      · intro r9 h9; cases h9
theorem tok_UL (m : Fin 3) : ∀ ts : List Nd, repK (.o m) .u (zsU m) (tkL ts) = tkL (pUL m ts)
  | [] => rfl
  | t :: r => by ((first | rewrite [tkL_e1] | rewrite [tkL_e2]); (first | rewrite [pUL_e1] | rewrite [pUL_e2]); (first | rewrite [tkL_e1] | rewrite [tkL_e2]); rw [rep_app _ _ (okE_tk t), tok_U m t, tok_UL m r])
end
end
section
open PySem
mutual
noncomputable def off : Nd → Nat
  | .lf => 1
  | .nd n _ ks => if offL ks < n.val then 1 else 0
noncomputable def offL : List Nd → Nat
  | [] => 0
  | t :: r => off t + offL r
end
theorem off_e1 : off (.lf) = 1 := rfl
theorem off_e2 (u1) (n) (ks) : off (.nd n u1 ks) = if offL ks < n.val then 1 else 0 := rfl
theorem offL_e1 : offL [] = 0 := rfl
theorem offL_e2 (t) (r) : offL (t :: r) = off t + offL r := rfl
mutual
noncomputable def cn : Nd → Nat
  | .lf => 0
  | .nd n b ks => b + (cnL ks + min (offL ks) n.val)
noncomputable def cnL : List Nd → Nat
  | [] => 0
  | t :: r => cn t + cnL r
end
theorem cn_e1 : cn (.lf) = 0 := rfl
theorem cn_e2 (n) (b) (ks) : cn (.nd n b ks) = b + (cnL ks + min (offL ks) n.val) := rfl
theorem cnL_e1 : cnL [] = 0 := rfl
theorem cnL_e2 (t) (r) : cnL (t :: r) = cn t + cnL r := rfl
theorem offL_app (a b : List Nd) : offL (a ++ b) = offL a + offL b := by
  induction a with
  | nil => (rewrite [List.nil_append]; (first | rewrite [offL_e1] | rewrite [offL_e2]); rw [Nat.zero_add])
  | cons t r ih => (rewrite [List.cons_append]; (first | rewrite [offL_e1] | rewrite [offL_e2]); (first | rewrite [offL_e1] | rewrite [offL_e2]); rw [ih, Nat.add_assoc])
theorem cnL_app (a b : List Nd) : cnL (a ++ b) = cnL a + cnL b := by
  induction a with
  | nil => (rewrite [List.nil_append]; (first | rewrite [cnL_e1] | rewrite [cnL_e2]); rw [Nat.zero_add])
  | cons t r ih => (rewrite [List.cons_append]; (first | rewrite [cnL_e1] | rewrite [cnL_e2]); (first | rewrite [cnL_e1] | rewrite [cnL_e2]); rw [ih, Nat.add_assoc])
theorem cleanL_app {a b : List Nd} (ha : cleanL a) (hb : cleanL b) : cleanL (a ++ b) := by
  induction a with
  | nil => exact hb
  | cons t r ih => ((first | rw [cleanL_e1] at ha | rw [cleanL_e2] at ha)); exact ⟨ha.1, ih ha.2⟩
noncomputable def ZOk (m : Fin 3) (z : List Nd) : Prop := offL z = (if 0 < m.val then 1 else 0) ∧ cnL z = 0 ∧ cleanL z
mutual
theorem inv_E {m : Fin 3} {z : List Nd} (hz : ZOk m z) : ∀ t : Nd, clean t → offL (pE m z t) = off t ∧ cnL (pE m z t) = cn t ∧ cleanL (pE m z t)
  | .lf, _ => ⟨rfl, rfl, trivial, trivial⟩
  | .nd n b ks, h => by
    ((first | rw [clean_e1] at h | rw [clean_e2] at h))
    obtain ⟨rfl, hk⟩ := h
    obtain ⟨i1, i2, i3⟩ := inv_EL hz ks hk
    ((first | rw [pE_e1] | rw [pE_e2]))
    by_cases hm : n = m ∧ ks.isEmpty = true
    · rw [if_pos hm]
      obtain ⟨rfl, h2⟩ := hm
      rw [List.isEmpty_iff] at h2
      subst h2
      refine ⟨hz.1, ?_, hz.2.2⟩
      (rewrite [hz.2.1]; (first | rewrite [cn_e1] | rewrite [cn_e2]); (first | rewrite [cnL_e1] | rewrite [cnL_e2]); (first | rw [offL_e1] | rw [offL_e2])); simp
    · rw [if_neg hm]
      refine ⟨?_, ?_, ⟨rfl, i3⟩, trivial⟩
      · ((first | rewrite [offL_e1] | rewrite [offL_e2]); (first | rewrite [offL_e1] | rewrite [offL_e2]); (first | rewrite [off_e1] | rewrite [off_e2]); (first | rewrite [off_e1] | rewrite [off_e2]); rw [i1]); rfl
      · ((first | rewrite [cnL_e1] | rewrite [cnL_e2]); (first | rewrite [cnL_e1] | rewrite [cnL_e2]); (first | rewrite [cn_e1] | rewrite [cn_e2]); (first | rewrite [cn_e1] | rewrite [cn_e2]); rw [i1, i2]); rfl
theorem inv_EL {m : Fin 3} {z : List Nd} (hz : ZOk m z) : ∀ ts : List Nd, cleanL ts → offL (pEL m z ts) = offL ts ∧ cnL (pEL m z ts) = cnL ts ∧ cleanL (pEL m z ts)
  | [], _ => ⟨rfl, rfl, trivial⟩
  | t :: r, h => by
    ((first | rw [cleanL_e1] at h | rw [cleanL_e2] at h))
    obtain ⟨a1, a2, a3⟩ := inv_E hz t h.1
    obtain ⟨b1, b2, b3⟩ := inv_EL hz r h.2
    ((first | rewrite [pEL_e1] | rewrite [pEL_e2]); rewrite [offL_app, cnL_app, a1, a2, b1, b2]; (first | rewrite [offL_e1] | rewrite [offL_e2]); (first | rw [cnL_e1] | rw [cnL_e2]))
    exact ⟨rfl, rfl, cleanL_app a3 b3⟩
end
theorem inv_cut (m n : Fin 3) (b : Nat) (ks : List Nd) : off (cutU m n b ks) = off (.nd n b ks) ∧ cn (cutU m n b ks) = cn (.nd n b ks) := by
  unfold cutU
  split
  · split
    · rename_i r h
      subst h
      ((first | rewrite [off_e1] | rewrite [off_e2]); (first | rewrite [off_e1] | rewrite [off_e2]); (first | rewrite [cn_e1] | rewrite [cn_e2]); (first | rewrite [cn_e1] | rewrite [cn_e2]); (first | rewrite [offL_e1] | rewrite [offL_e2]); (first | rewrite [cnL_e1] | rewrite [cnL_e2]); (first | rewrite [off_e1] | rewrite [off_e2]); (first | rw [cn_e1] | rw [cn_e2]))
      rcases fin3 n with rfl | rfl | rfl
      · exact ⟨by simp [prd], by simp [prd, bg]⟩
      · refine ⟨by simp [prd], ?_⟩
        show b + 1 + (cnL _ + min (offL _) 0) = b + (0 + cnL _ + min (1 + offL _) 1)
        omega
      · constructor
        · show (if offL _ < 1 then 1 else 0) = (if 1 + offL _ < 2 then 1 else 0)
          congr 1
          exact propext ⟨fun h => by omega, fun h => by omega⟩
        · show b + 1 + (cnL _ + min (offL _) 1) = b + (0 + cnL _ + min (1 + offL _) 2)
          omega
    · exact ⟨rfl, rfl⟩
  · exact ⟨rfl, rfl⟩
mutual
theorem inv_U (m : Fin 3) : ∀ t : Nd, off (pU m t) = off t ∧ cn (pU m t) = cn t
  | .lf => ⟨rfl, rfl⟩
  | .nd n b ks => by
    obtain ⟨a1, a2⟩ := inv_UL m ks
    obtain ⟨b1, b2⟩ := inv_cut m n b (pUL m ks)
    ((first | rewrite [pU_e1] | rewrite [pU_e2]); rewrite [b1, b2]; (first | rewrite [off_e1] | rewrite [off_e2]); (first | rewrite [off_e1] | rewrite [off_e2]); (first | rewrite [cn_e1] | rewrite [cn_e2]); (first | rewrite [cn_e1] | rewrite [cn_e2]); rw [a1, a2])
    exact ⟨rfl, rfl⟩
theorem inv_UL (m : Fin 3) : ∀ ts : List Nd, offL (pUL m ts) = offL ts ∧ cnL (pUL m ts) = cnL ts
  | [] => ⟨rfl, rfl⟩
  | t :: r => by
    obtain ⟨a1, a2⟩ := inv_U m t
    obtain ⟨b1, b2⟩ := inv_UL m r
    ((first | rewrite [pUL_e1] | rewrite [pUL_e2]); (first | rewrite [offL_e1] | rewrite [offL_e2]); (first | rewrite [offL_e1] | rewrite [offL_e2]); (first | rewrite [cnL_e1] | rewrite [cnL_e2]); (first | rewrite [cnL_e1] | rewrite [cnL_e2]); rw [a1, a2, b1, b2])
    exact ⟨rfl, rfl⟩
end
mutual
noncomputable def sb : Nd → Nd
  | .lf => .lf
  | .nd n _ ks => .nd n 0 (sbL ks)
noncomputable def sbL : List Nd → List Nd
  | [] => []
  | t :: r => sb t :: sbL r
end
theorem sb_e1 : sb (.lf) = .lf := rfl
theorem sb_e2 (u1) (n) (ks) : sb (.nd n u1 ks) = .nd n 0 (sbL ks) := rfl
theorem sbL_e1 : sbL [] = [] := rfl
theorem sbL_e2 (t) (r) : sbL (t :: r) = sb t :: sbL r := rfl
mutual
noncomputable def bn : Nd → Nat
  | .lf => 0
  | .nd _ b ks => b + bnL ks
noncomputable def bnL : List Nd → Nat
  | [] => 0
  | t :: r => bn t + bnL r
end
theorem bn_e1 : bn (.lf) = 0 := rfl
theorem bn_e2 (u1) (b) (ks) : bn (.nd u1 b ks) = b + bnL ks := rfl
theorem bnL_e1 : bnL [] = 0 := rfl
theorem bnL_e2 (t) (r) : bnL (t :: r) = bn t + bnL r := rfl
theorem filt_bangs (b : Nat) (r : List Kt) : (List.replicate b Kt.b ++ r).filter (fun x => decide (x ≠ .b)) = r.filter (fun x => decide (x ≠ .b)) := by
  induction b with
  | zero => rfl
  | succ b ih => rw [List.replicate_succ, List.cons_append, List.filter_cons_of_neg (by simp), ih]
mutual
theorem tok_sb : ∀ t : Nd, (tk t).filter (fun x => decide (x ≠ .b)) = tk (sb t)
  | .lf => rfl
  | .nd n b ks => by
    ((first | rewrite [tk_e1] | rewrite [tk_e2]); rewrite [filt_bangs, List.filter_cons_of_pos (by simp), List.filter_append, tok_sbL ks]; (first | rewrite [sb_e1] | rewrite [sb_e2]); (first | rw [tk_e1] | rw [tk_e2])); rfl
theorem tok_sbL : ∀ ts : List Nd, (tkL ts).filter (fun x => decide (x ≠ .b)) = tkL (sbL ts)
  | [] => rfl
  | t :: r => by ((first | rewrite [tkL_e1] | rewrite [tkL_e2]); rewrite [List.filter_append, tok_sb t, tok_sbL r]; (first | rewrite [sbL_e1] | rewrite [sbL_e2]); (first | rw [tkL_e1] | rw [tkL_e2]))
end
mutual
theorem tok_bn : ∀ t : Nd, (tk t).count .b = bn t
  | .lf => rfl
  | .nd n b ks => by
    ((first | rewrite [tk_e1] | rewrite [tk_e2]); rewrite [List.count_append, List.count_replicate_self, List.count_cons_of_ne (by simp), List.count_append, tok_bnL ks]; (first | rw [bn_e1] | rw [bn_e2])); rfl
theorem tok_bnL : ∀ ts : List Nd, (tkL ts).count .b = bnL ts
  | [] => rfl
  | t :: r => by ((first | rewrite [tkL_e1] | rewrite [tkL_e2]); rewrite [List.count_append, tok_bn t, tok_bnL r]; (first | rw [bnL_e1] | rw [bnL_e2]))
end
mutual
theorem inv_sb : ∀ t : Nd, off (sb t) = off t ∧ cn t = bn t + cn (sb t) ∧ clean (sb t)
  | .lf => ⟨rfl, rfl, trivial⟩
  | .nd n b ks => by
    obtain ⟨a1, a2, a3⟩ := inv_sbL ks
    ((first | rewrite [sb_e1] | rewrite [sb_e2]); (first | rewrite [off_e1] | rewrite [off_e2]); (first | rewrite [off_e1] | rewrite [off_e2]); (first | rewrite [cn_e1] | rewrite [cn_e2]); (first | rewrite [cn_e1] | rewrite [cn_e2]); (first | rewrite [bn_e1] | rewrite [bn_e2]); rw [a1, a2])
    exact ⟨rfl, by omega, rfl, a3⟩
theorem inv_sbL : ∀ ts : List Nd, offL (sbL ts) = offL ts ∧ cnL ts = bnL ts + cnL (sbL ts) ∧ cleanL (sbL ts)
  | [] => ⟨rfl, rfl, trivial⟩
  | t :: r => by
    obtain ⟨a1, a2, a3⟩ := inv_sb t
    obtain ⟨b1, b2, b3⟩ := inv_sbL r
    ((first | rewrite [sbL_e1] | rewrite [sbL_e2]); (first | rewrite [offL_e1] | rewrite [offL_e2]); (first | rewrite [offL_e1] | rewrite [offL_e2]); (first | rewrite [cnL_e1] | rewrite [cnL_e2]); (first | rewrite [cnL_e1] | rewrite [cnL_e2]); (first | rewrite [bnL_e1] | rewrite [bnL_e2]); rw [a1, a2, b1, b2])
    exact ⟨rfl, by omega, a3, b3⟩
end
noncomputable def pass6 (ts : List Nd) : List Nd := pUL 0 (pUL 1 (pUL 2 (pEL 2 [.lf] (pEL 1 [.lf] (pEL 0 [] ts)))))
noncomputable def rd (ts : List Nd) : List Nd := sbL (pass6 ts)
theorem inv_rd {ts : List Nd} (h : cleanL ts) : offL (rd ts) = offL ts ∧ cnL ts = bnL (pass6 ts) + cnL (rd ts) ∧ cleanL (rd ts) := by
  obtain ⟨a1, a2, a3⟩ := inv_EL (m := 0) (z := []) ⟨rfl, rfl, trivial⟩ ts h
  obtain ⟨b1, b2, b3⟩ := inv_EL (m := 1) (z := [.lf]) ⟨rfl, rfl, trivial, trivial⟩ _ a3
  obtain ⟨c1, c2, c3⟩ := inv_EL (m := 2) (z := [.lf]) ⟨rfl, rfl, trivial, trivial⟩ _ b3
  obtain ⟨d1, d2⟩ := inv_UL 2 (pEL 2 [.lf] (pEL 1 [.lf] (pEL 0 [] ts)))
  obtain ⟨e1, e2⟩ := inv_UL 1 (pUL 2 (pEL 2 [.lf] (pEL 1 [.lf] (pEL 0 [] ts))))
  obtain ⟨f1, f2⟩ := inv_UL 0 (pUL 1 (pUL 2 (pEL 2 [.lf] (pEL 1 [.lf] (pEL 0 [] ts)))))
  obtain ⟨g1, g2, g3⟩ := inv_sbL (pass6 ts)
  refine ⟨?_, ?_, g3⟩
  · rw [rd, g1, pass6, f1, e1, d1, c1, b1, a1]
  · rw [rd, ← g2, pass6, f2, e2, d2, c2, b2, a2]
end
section
open PySem PyProof.Rows
structure PairK (p : Str × Str) (n : Fin 3) (t : Kt) (zs : List Kt) : Prop where
  ht : EndK t
  h2 : zs.length ≤ 2
  h3 : p.1.cps.toList = strK (.o n) ++ strK t
  h4 : p.2.cps.toList = flatK zs
  h5 : Builtin.Str.strKind p.1 = 1
theorem pk0 : PairK (Str.ofString "<a n=\"0\"></a>", Str.ofString "") 0 .c (tkL []) := ⟨.inl rfl, by decide, by decide +kernel, by decide +kernel, by decide +kernel⟩
theorem pk1 : PairK (Str.ofString "<a n=\"1\"></a>", Str.ofString "u") 1 .c (tkL [.lf]) := ⟨.inl rfl, by decide, by decide +kernel, by decide +kernel, by decide +kernel⟩
theorem pk2 : PairK (Str.ofString "<a n=\"2\"></a>", Str.ofString "u") 2 .c (tkL [.lf]) := ⟨.inl rfl, by decide, by decide +kernel, by decide +kernel, by decide +kernel⟩
theorem pk3 : PairK (Str.ofString "<a n=\"2\">u", Str.ofString "!<a n=\"1\">") 2 .u (zsU 2) := ⟨.inr rfl, by decide, by decide +kernel, by decide +kernel, by decide +kernel⟩
theorem pk4 : PairK (Str.ofString "<a n=\"1\">u", Str.ofString "!<a n=\"0\">") 1 .u (zsU 1) := ⟨.inr rfl, by decide, by decide +kernel, by decide +kernel, by decide +kernel⟩
theorem pk5 : PairK (Str.ofString "<a n=\"0\">u", Str.ofString "<a n=\"0\">") 0 .u (zsU 0) := ⟨.inr rfl, by decide, by decide +kernel, by decide +kernel, by decide +kernel⟩
theorem pair_tok {p : Str × Str} {n : Fin 3} {t : Kt} {zs : List Kt} (h : PairK p n t zs) {x : Str} {ts : List Kt} (hx : x.cps.toList = flatK ts) : (replS x p.1 p.2).cps.toList = flatK (repK (.o n) t zs ts) := by
  rw [replS, rep_split p.2 (by rw [h.h3]; exact List.cons_ne_nil _ _) h.h5, h.h3, h.h4, hx, rep_tok n h.ht]
theorem bang_str {x : Str} {ts : List Kt} (hx : x.cps.toList = flatK ts) : (replS x (Str.ofString "!") (Str.ofString "")).cps.toList = flatK (ts.filter fun x => decide (x ≠ .b)) ∧ Txt.count x (Str.ofString "!") = (ts.count .b : Int) := by
  have e1 : (Str.ofString "!").cps.toList = [33] := by decide +kernel
  have e2 : (Str.ofString "").cps.toList = [] := by decide +kernel
  have e3 : Str.ofString "!" = ⟨#[33]⟩ := by decide +kernel
  constructor
  · rw [replS, rep_split _ (by rw [e1]; exact List.cons_ne_nil _ _) (by decide +kernel), e1, e2, hx, bang_tok]
  · rw [e3, count_cnt, hx, bang_cnt]
theorem rnd_tok {x : Str} {ts : List Nd} (hc : cleanL ts) (hx : x.cps.toList = flatK (tkL ts)) (n : Int) : (rnd (x, n)).1.cps.toList = flatK (tkL (rd ts)) ∧ (rnd (x, n)).2 = n + (bnL (pass6 ts) : Int) := by
  obtain ⟨_, _, c1⟩ := inv_EL (m := 0) (z := []) ⟨rfl, rfl, trivial⟩ ts hc
  obtain ⟨_, _, c2⟩ := inv_EL (m := 1) (z := [.lf]) ⟨rfl, rfl, trivial, trivial⟩ _ c1
  have s0 := pair_tok pk0 hx
  rw [tok_EL 0 [] ts hc] at s0
  have s1 := pair_tok pk1 s0
  rw [tok_EL 1 [.lf] _ c1] at s1
  have s2 := pair_tok pk2 s1
  rw [tok_EL 2 [.lf] _ c2] at s2
  have s3 := pair_tok pk3 s2
  rw [tok_UL 2] at s3
  have s4 := pair_tok pk4 s3
  rw [tok_UL 1] at s4
  have s5 := pair_tok pk5 s4
  rw [tok_UL 0] at s5
  have s6 : (replAll lawPairs x).cps.toList = flatK (tkL (pass6 ts)) := s5
  obtain ⟨b1, b2⟩ := bang_str s6
  rw [rnd]
  dsimp only
  rw [b1, b2, tok_sbL, tok_bnL]
  exact ⟨rfl, rfl⟩
noncomputable def rds : Nat → List Nd → List Nd
  | 0, ts => ts
  | n + 1, ts => rd (rds n ts)
theorem rds_e1 (ts) : rds 0 ts = ts := rfl
theorem rds_e2 (n) (ts) : rds (n + 1) ts = rd (rds n ts) := rfl
theorem rnds_tok {x : Str} {ts : List Nd} (hc : cleanL ts) (hx : x.cps.toList = flatK (tkL ts)) : ∀ k : Nat, (rnds k (x, 0)).1.cps.toList = flatK (tkL (rds k ts)) ∧ (rnds k (x, 0)).2 + (cnL (rds k ts) : Int) = (cnL ts : Int) ∧ offL (rds k ts) = offL ts ∧ cleanL (rds k ts)
  | 0 => ⟨hx, by ((first | rewrite [rnds_e1] | rewrite [rnds_e2]); (first | rw [rds_e1] | rw [rds_e2])); simp, rfl, hc⟩
  | k + 1 => by
    obtain ⟨a1, a2, a3, a4⟩ := rnds_tok hc hx k
    obtain ⟨b1, b2⟩ := rnd_tok a4 a1 (rnds k (x, 0)).2
    obtain ⟨d1, d2, d3⟩ := inv_rd a4
    ((first | rewrite [rnds_e1] | rewrite [rnds_e2]); (first | rw [rds_e1] | rw [rds_e2]))
    refine ⟨b1, ?_, d1.trans a3, d3⟩
    rw [show rnd (rnds k (x, 0)) = rnd ((rnds k (x, 0)).1, (rnds k (x, 0)).2) from rfl, b2]
    rw [d2] at a2
    omega
noncomputable def TokS (N : Nat) (x : Str) : Prop := ∃ ts : List Kt, x.cps.toList = flatK ts ∧ ts.length ≤ N
theorem repK_len {t1 t : Kt} {zs : List Kt} (h : zs.length ≤ 2) : ∀ l : List Kt, (repK t1 t zs l).length ≤ l.length
  | [] => Nat.le_refl _
  | [x] => Nat.le_refl _
  | x :: y :: r => by
    ((first | rw [repK_e1] | rw [repK_e2] | rw [repK_e3]))
    split
    · have := repK_len (t1 := t1) (t := t) h r
      rw [List.length_append, List.length_cons, List.length_cons]; omega
    · have := repK_len (t1 := t1) (t := t) h (y :: r)
      rw [List.length_cons, List.length_cons]; omega
theorem toks_pair {N : Nat} {p : Str × Str} {n : Fin 3} {t : Kt} {zs : List Kt} (h : PairK p n t zs) {x : Str} (hx : TokS N x) : TokS N (replS x p.1 p.2) := by
  obtain ⟨ts, h1, h2⟩ := hx
  exact ⟨_, pair_tok h h1, Nat.le_trans (repK_len h.h2 ts) h2⟩
theorem law_pair : ∀ p ∈ lawPairs, ∃ n t zs, PairK p n t zs := by
  intro p hp
  simp only [List.mem_cons, List.not_mem_nil, or_false] at hp
  rcases hp with rfl | rfl | rfl | rfl | rfl | rfl
  · exact ⟨_, _, _, pk0⟩
  · exact ⟨_, _, _, pk1⟩
  · exact ⟨_, _, _, pk2⟩
  · exact ⟨_, _, _, pk3⟩
  · exact ⟨_, _, _, pk4⟩
  · exact ⟨_, _, _, pk5⟩
theorem toks_all {N : Nat} : ∀ (l : List (Str × Str)) (x : Str), (∀ p ∈ l, p ∈ lawPairs) → TokS N x → TokS N (replAll l x)
  | [], _, _, h => h
  | p :: r, x, hl, h => by
    obtain ⟨n, t, zs, hp⟩ := law_pair p (hl p (.head _))
    exact toks_all r _ (fun q hq => hl q (.tail _ hq)) (toks_pair hp h)
theorem toks_rnds {N : Nat} {x : Str} (h : TokS N x) : ∀ k : Nat, TokS N (rnds k (x, 0)).1
  | 0 => h
  | k + 1 => by
    obtain ⟨ts, h1, h2⟩ := toks_all lawPairs _ (fun _ h => h) (toks_rnds h k)
    exact ⟨_, (bang_str h1).1, Nat.le_trans (List.length_filter_le _ _) h2⟩
theorem flat_len : ∀ ts : List Kt, (flatK ts).length ≤ 9 * ts.length
  | [] => Nat.le_refl _
  | x :: r => by
    have := flat_len r
    have h : (strK x).length ≤ 9 := by cases x <;> simp [strK]
    rw [flat_cons, List.length_append, List.length_cons]; omega
theorem sizes {N : Nat} {x : Str} (h : TokS N x) (hN : N ≤ 1000) (i k : Nat) : (replAll (lawPairs.take k) (rnds i (x, 0)).1).length ≤ 100000 := by
  obtain ⟨ts, h1, h2⟩ := toks_all (lawPairs.take k) _ (fun p hp => List.mem_of_mem_take hp) (toks_rnds h i)
  have h3 := flat_len ts
  rw [← h1, Array.length_toList] at h3
  show Array.size _ ≤ _
  omega
end
section
open PySem
mutual
noncomputable def wt : Nd → Nat
  | .lf => 1
  | .nd _ _ ks => 1 + wtL ks
noncomputable def wtL : List Nd → Nat
  | [] => 0
  | t :: r => wt t + wtL r
end
theorem wt_e1 : wt (.lf) = 1 := rfl
theorem wt_e2 (u1) (u2) (ks) : wt (.nd u1 u2 ks) = 1 + wtL ks := rfl
theorem wtL_e1 : wtL [] = 0 := rfl
theorem wtL_e2 (t) (r) : wtL (t :: r) = wt t + wtL r := rfl
theorem wt_pos : ∀ t : Nd, 1 ≤ wt t
  | .lf => Nat.le_refl _
  | .nd _ _ ks => by ((first | rw [wt_e1] | rw [wt_e2])); omega
theorem wtL_app (a b : List Nd) : wtL (a ++ b) = wtL a + wtL b := by
  induction a with
  | nil => (rewrite [List.nil_append]; (first | rewrite [wtL_e1] | rewrite [wtL_e2]); rw [Nat.zero_add])
  | cons t r ih => (rewrite [List.cons_append]; (first | rewrite [wtL_e1] | rewrite [wtL_e2]); (first | rewrite [wtL_e1] | rewrite [wtL_e2]); rw [ih, Nat.add_assoc])
theorem wtL_one (t : Nd) : wtL [t] = wt t := by ((first | rewrite [wtL_e1] | rewrite [wtL_e2]); (first | rewrite [wtL_e1] | rewrite [wtL_e2]); rw [Nat.add_zero])
mutual
theorem w_E {m : Fin 3} {z : List Nd} (hz : wtL z ≤ 1) : ∀ t : Nd, wtL (pE m z t) ≤ wt t
  | .lf => Nat.le_refl _
  | .nd n b ks => by
    have h := w_EL (m := m) hz ks
    ((first | rewrite [pE_e1] | rewrite [pE_e2]); (first | rw [wt_e1] | rw [wt_e2]))
    split
    · omega
    · (rewrite [wtL_one]; (first | rw [wt_e1] | rw [wt_e2])); omega
theorem w_EL {m : Fin 3} {z : List Nd} (hz : wtL z ≤ 1) : ∀ ts : List Nd, wtL (pEL m z ts) ≤ wtL ts
  | [] => Nat.le_refl _
  | t :: r => by
    have h1 := w_E (m := m) hz t
    have h2 := w_EL (m := m) hz r
    ((first | rewrite [pEL_e1] | rewrite [pEL_e2]); rewrite [wtL_app]; (first | rw [wtL_e1] | rw [wtL_e2])); omega
end
theorem cut_kids (m n : Fin 3) (b : Nat) (ks : List Nd) : ∃ n' b' ks' pre, cutU m n b ks = .nd n' b' ks' ∧ ks = pre ++ ks' := by
  unfold cutU
  split
  · split
    · exact ⟨_, _, _, [.lf], rfl, rfl⟩
    · exact ⟨_, _, _, [], rfl, rfl⟩
  · exact ⟨_, _, _, [], rfl, rfl⟩
mutual
theorem w_U (m : Fin 3) : ∀ t : Nd, wt (pU m t) ≤ wt t
  | .lf => Nat.le_refl _
  | .nd n b ks => by
    have h := w_UL m ks
    obtain ⟨n', b', ks', pre, e, e2⟩ := cut_kids m n b (pUL m ks)
    ((first | rewrite [pU_e1] | rewrite [pU_e2]); rewrite [e]; (first | rewrite [wt_e1] | rewrite [wt_e2]); (first | rw [wt_e1] | rw [wt_e2]))
    rw [e2, wtL_app] at h
    omega
theorem w_UL (m : Fin 3) : ∀ ts : List Nd, wtL (pUL m ts) ≤ wtL ts
  | [] => Nat.le_refl _
  | t :: r => by
    have h1 := w_U m t
    have h2 := w_UL m r
    ((first | rewrite [pUL_e1] | rewrite [pUL_e2]); (first | rewrite [wtL_e1] | rewrite [wtL_e2]); (first | rw [wtL_e1] | rw [wtL_e2])); omega
end
mutual
theorem w_sb : ∀ t : Nd, wt (sb t) = wt t
  | .lf => rfl
  | .nd n b ks => by ((first | rewrite [sb_e1] | rewrite [sb_e2]); (first | rewrite [wt_e1] | rewrite [wt_e2]); (first | rewrite [wt_e1] | rewrite [wt_e2]); rw [w_sbL ks])
theorem w_sbL : ∀ ts : List Nd, wtL (sbL ts) = wtL ts
  | [] => rfl
  | t :: r => by ((first | rewrite [sbL_e1] | rewrite [sbL_e2]); (first | rewrite [wtL_e1] | rewrite [wtL_e2]); (first | rewrite [wtL_e1] | rewrite [wtL_e2]); rw [w_sb t, w_sbL r])
end
theorem pEL_app (m : Fin 3) (z a b : List Nd) : pEL m z (a ++ b) = pEL m z a ++ pEL m z b := by
  induction a with
  | nil => rfl
  | cons t r ih => (rewrite [List.cons_append]; (first | rewrite [pEL_e1] | rewrite [pEL_e2]); (first | rewrite [pEL_e1] | rewrite [pEL_e2]); rw [ih, List.append_assoc])
theorem pUL_app (m : Fin 3) (a b : List Nd) : pUL m (a ++ b) = pUL m a ++ pUL m b := by
  induction a with
  | nil => rfl
  | cons t r ih => (rewrite [List.cons_append]; (first | rewrite [pUL_e1] | rewrite [pUL_e2]); (first | rewrite [pUL_e1] | rewrite [pUL_e2]); rw [ih]); rfl
noncomputable def E3 (ts : List Nd) : List Nd := pEL 2 [.lf] (pEL 1 [.lf] (pEL 0 [] ts))
noncomputable def U3 (ts : List Nd) : List Nd := pUL 0 (pUL 1 (pUL 2 ts))
noncomputable def u3 (t : Nd) : Nd := pU 0 (pU 1 (pU 2 t))
theorem E3_app (a b : List Nd) : E3 (a ++ b) = E3 a ++ E3 b := by rw [E3, pEL_app, pEL_app, pEL_app]; rfl
theorem U3_app (a b : List Nd) : U3 (a ++ b) = U3 a ++ U3 b := by rw [U3, pUL_app, pUL_app, pUL_app]; rfl
theorem U3_one (t : Nd) : U3 [t] = [u3 t] := rfl
theorem w_E3 (ts : List Nd) : wtL (E3 ts) ≤ wtL ts :=
  Nat.le_trans (w_EL (Nat.le_refl _) _) (Nat.le_trans (w_EL (Nat.le_refl _) _) (w_EL (Nat.zero_le _) _))
theorem w_U3 (ts : List Nd) : wtL (U3 ts) ≤ wtL ts := Nat.le_trans (w_UL _ _) (Nat.le_trans (w_UL _ _) (w_UL _ _))
theorem w_u3 (t : Nd) : wt (u3 t) ≤ wt t := Nat.le_trans (w_U _ _) (Nat.le_trans (w_U _ _) (w_U _ _))
theorem E3_lf : E3 [.lf] = [.lf] := rfl
theorem pE_node (m : Fin 3) (z : List Nd) (n : Fin 3) (b : Nat) (ks : List Nd) : pEL m z [.nd n b ks] = [.nd n b (pEL m z ks)] ∨ (pEL m z [.nd n b ks] = z ∧ ks = [] ∧ n = m) := by
  ((first | rewrite [pEL_e1] | rewrite [pEL_e2]); (first | rewrite [pEL_e1] | rewrite [pEL_e2]); rewrite [List.append_nil]; (first | rw [pE_e1] | rw [pE_e2]))
  by_cases h : n = m ∧ ks.isEmpty = true
  · rw [if_pos h]; exact .inr ⟨rfl, List.isEmpty_iff.mp h.2, h.1⟩
  · rw [if_neg h]; exact .inl rfl
noncomputable def Small (ts : List Nd) : Prop := ts = [] ∨ ts = [.lf]
theorem small_E {m : Fin 3} {z ts : List Nd} (h : Small ts) : Small (pEL m z ts) := by
  rcases h with rfl | rfl
  · exact .inl rfl
  · exact .inr rfl
theorem E3_node (n : Fin 3) (b : Nat) (ks : List Nd) : E3 [.nd n b ks] = [.nd n b (E3 ks)] ∨ Small (E3 [.nd n b ks]) := by
  rw [E3, E3]
  rcases pE_node 0 [] n b ks with e | ⟨e, _⟩
  · rw [e]
    rcases pE_node 1 [.lf] n b (pEL 0 [] ks) with e | ⟨e, _⟩
    · rw [e]
      rcases pE_node 2 [.lf] n b (pEL 1 [.lf] (pEL 0 [] ks)) with e | ⟨e, _⟩
      · exact .inl e
      · rw [e]; exact .inr (.inr rfl)
    · rw [e]; exact .inr (.inr rfl)
  · rw [e]; exact .inr (.inl rfl)
theorem E3_leaf (n : Fin 3) (b : Nat) : Small (E3 [.nd n b []]) := by
  rcases fin3 n with rfl | rfl | rfl
  · exact .inl rfl
  · exact .inr rfl
  · exact .inr rfl
theorem u_node (m n : Fin 3) (b : Nat) (ks : List Nd) : ∃ n' b' ks' pre, pU m (.nd n b ks) = .nd n' b' ks' ∧ pUL m ks = pre ++ ks' := by
  ((first | rw [pU_e1] | rw [pU_e2])); exact cut_kids m n b (pUL m ks)
theorem u3_node (n : Fin 3) (b : Nat) (ks : List Nd) : ∃ n' b' ks' pre, u3 (.nd n b ks) = .nd n' b' ks' ∧ U3 ks = pre ++ ks' := by
  obtain ⟨n1, b1, k1, p1, e1, f1⟩ := u_node 2 n b ks
  obtain ⟨n2, b2, k2, p2, e2, f2⟩ := u_node 1 n1 b1 k1
  obtain ⟨n3, b3, k3, p3, e3, f3⟩ := u_node 0 n2 b2 k2
  refine ⟨n3, b3, k3, pUL 0 (pUL 1 p1) ++ (pUL 0 p2 ++ p3), by rw [u3, e1, e2, e3], ?_⟩
  rw [U3, f1, pUL_app, f2, pUL_app, pUL_app, f3, List.append_assoc, List.append_assoc]
theorem u3_front (n : Fin 3) (b : Nat) (r : List Nd) : wt (u3 (.nd n b (.lf :: r))) ≤ 1 + wtL r := by
  have g2 := w_UL 2 r
  have g1 := w_UL 1 (pUL 2 r)
  have g0 := w_UL 0 (pUL 1 (pUL 2 r))
  rcases fin3 n with rfl | rfl | rfl
  · have e : u3 (.nd 0 b (.lf :: r)) = .nd 0 (b + 0) (pUL 0 (pUL 1 (pUL 2 r))) := rfl
    (rewrite [e]; (first | rw [wt_e1] | rw [wt_e2])); omega
  · have e : u3 (.nd 1 b (.lf :: r)) = pU 0 (.nd 0 (b + 1) (pUL 1 (pUL 2 r))) := rfl
    rw [e]
    refine Nat.le_trans (w_U _ _) ?_
    ((first | rw [wt_e1] | rw [wt_e2])); omega
  · have e : u3 (.nd 2 b (.lf :: r)) = pU 0 (pU 1 (.nd 1 (b + 1) (pUL 2 r))) := rfl
    rw [e]
    refine Nat.le_trans (w_U _ _) (Nat.le_trans (w_U _ _) ?_)
    ((first | rw [wt_e1] | rw [wt_e2])); omega
theorem lowers : ∀ (n : Fin 3) (b : Nat) (k1 : Nd) (r : List Nd), wtL (U3 (E3 [.nd n b (k1 :: r)])) + 1 ≤ wt (.nd n b (k1 :: r)) := by
  intro n b k1
  induction hw : wt k1 using Nat.strongRecOn generalizing n b k1 with
  | _ w ih =>
  intro r
  have hk := wt_pos k1
  have hr := w_E3 r
  ((first | rewrite [wt_e1] | rewrite [wt_e2]); (first | rw [wtL_e1] | rw [wtL_e2]))
  rcases E3_node n b (k1 :: r) with e | e
  · rw [e, U3_one, wtL_one]
    have ek : E3 (k1 :: r) = E3 [k1] ++ E3 r := E3_app [k1] r
    have front : E3 [k1] = [.lf] → wt (u3 (.nd n b (E3 (k1 :: r)))) + 1 ≤ 1 + (wt k1 + wtL r) := fun h => by
      rw [ek, h]
      have := u3_front n b (E3 r)
      show wt (u3 (.nd n b (.lf :: E3 r))) + 1 ≤ _
      omega
    have gone : E3 [k1] = [] → wt (u3 (.nd n b (E3 (k1 :: r)))) + 1 ≤ 1 + (wt k1 + wtL r) := fun h => by
      rw [ek, h, List.nil_append]
      have := w_u3 (.nd n b (E3 r))
      ((first | rw [wt_e1] at this | rw [wt_e2] at this))
      omega
    clear hk
    cases k1 with
    | lf => exact front E3_lf
    | nd n1 b1 ks =>
    cases ks with
    | nil =>
      rcases E3_leaf n1 b1 with h | h
      · exact gone h
      · exact front h
    | cons k2 l =>
      have h2 := ih (wt k2) (by (rewrite [← hw]; (first | rewrite [wt_e1] | rewrite [wt_e2]); (first | rw [wtL_e1] | rw [wtL_e2])); omega) n1 b1 k2 rfl l
      obtain ⟨n', b', ks', pre, e3, f3⟩ := u3_node n b (E3 (.nd n1 b1 (k2 :: l) :: r))
      have h4 := w_U3 (E3 r)
      have h5 : wtL (U3 (E3 (.nd n1 b1 (k2 :: l) :: r))) = wtL (U3 (E3 [.nd n1 b1 (k2 :: l)])) + wtL (U3 (E3 r)) := by rw [ek, U3_app, wtL_app]
      rw [f3, wtL_app] at h5
      (rewrite [e3]; (first | rw [wt_e1] | rw [wt_e2]))
      omega
  · have h1 : wtL (U3 (E3 [.nd n b (k1 :: r)])) ≤ 1 := by
      rcases e with e | e <;> rw [e] <;> decide
    omega
end
section
open PySem PyProof.Rows
theorem small_U {m : Fin 3} {ts : List Nd} (h : Small ts) : Small (pUL m ts) := by
  rcases h with rfl | rfl
  · exact .inl rfl
  · exact .inr rfl
theorem small_rd {ts : List Nd} (h : Small (E3 ts)) : Small (rd ts) := by
  have e : rd ts = sbL (U3 (E3 ts)) := rfl
  rcases h with h | h <;> rw [e, h]
  · exact .inl rfl
  · exact .inr rfl
noncomputable def Left (k : Nat) (ts : List Nd) : Prop := Small ts ∨ ∃ n b ks, ts = [.nd n b ks] ∧ wt (.nd n b ks) ≤ k
theorem left_rd {k : Nat} {ts : List Nd} (h : Left (k + 1) ts) : Left k (rd ts) := by
  rcases h with h | ⟨n, b, ks, rfl, hw⟩
  · refine .inl (small_rd ?_)
    rcases h with rfl | rfl
    · exact .inl rfl
    · exact .inr rfl
  · cases ks with
    | nil => exact .inl (small_rd (E3_leaf n b))
    | cons k1 r =>
      have hl := lowers n b k1 r
      rcases E3_node n b (k1 :: r) with e | e
      · obtain ⟨n', b', ks', pre, e3, f3⟩ := u3_node n b (E3 (k1 :: r))
        have er : rd [.nd n b (k1 :: r)] = [.nd n' 0 (sbL ks')] := by
          show sbL (U3 (E3 _)) = _
          rw [e, U3_one, e3]; rfl
        (rewrite [e, U3_one, e3, wtL_one] at hl; (first | rw [wt_e1] at hl | rw [wt_e2] at hl))
        refine .inr ⟨_, _, _, er, ?_⟩
        ((first | rewrite [wt_e1] | rewrite [wt_e2]); rw [w_sbL]); omega
      · exact .inl (small_rd e)
theorem left_rds {k : Nat} : ∀ (j : Nat) {ts : List Nd}, Left (k + j) ts → Left k (rds j ts)
  | 0, _, h => h
  | j + 1, ts, h => left_rd (left_rds (k := k + 1) j (by rw [show k + 1 + j = k + (j + 1) from by omega]; exact h))
theorem left_zero {ts : List Nd} (h : Left 0 ts) : Small ts := by
  rcases h with h | ⟨n, b, ks, _, hw⟩
  · exact h
  · have := wt_pos (.nd n b ks)
    omega
noncomputable def fr : Nat → Fin 3
  | 0 => 0
  | 1 => 1
  | _ => 2
mutual
noncomputable def ndOf : Tq → Nd
  | .node _ r _ ts => .nd (fr r) 0 (ndL ts)
noncomputable def ndL : List Tq → List Nd
  | [] => []
  | t :: r => ndOf t :: ndL r
end
theorem ndOf_e1 (u1) (u2) (r) (ts) : ndOf (.node u1 r u2 ts) = .nd (fr r) 0 (ndL ts) := rfl
theorem ndL_e1 : ndL [] = [] := rfl
theorem ndL_e2 (t) (r) : ndL (t :: r) = ndOf t :: ndL r := rfl
theorem cpsA (x y : Str) : (x ++ y).cps.toList = x.cps.toList ++ y.cps.toList := by rw [cps_app, Array.toList_append]
theorem op_cps : ∀ r : Nat, (opA (rS r)).cps.toList = strK (.o (fr r))
  | 0 => by decide +kernel
  | 1 => by decide +kernel
  | r + 2 => by
    have h : (opA (rS 2)).cps.toList = strK (.o (fr 2)) := by decide +kernel
    exact h
mutual
theorem wr_tok : ∀ t : Tq, (wrT t).cps.toList = flatK (tk (ndOf t))
  | .node p r c ts => by
    (rewrite [wrT_e1, cpsA, cpsA, op_cps, wrL_tok ts, ndOf_e1]; (first | rw [tk_e1] | rw [tk_e2]))
    show _ = flatK (.o (fr r) :: (tkL (ndL ts) ++ [.c]))
    rw [flat_cons, flat_app, List.append_assoc]
    congr 2
theorem wrL_tok : ∀ ts : List Tq, (wrL ts).cps.toList = flatK (tkL (ndL ts))
  | [] => by ((first | rewrite [wrL_e1] | rewrite [wrL_e2]); (first | rewrite [ndL_e1] | rewrite [ndL_e2]); (first | rw [tkL_e1] | rw [tkL_e2])); decide +kernel
  | t :: r => by ((first | rewrite [wrL_e1] | rewrite [wrL_e2]); rewrite [cpsA, wr_tok t, wrL_tok r]; (first | rewrite [ndL_e1] | rewrite [ndL_e2]); (first | rewrite [tkL_e1] | rewrite [tkL_e2]); rw [flat_app])
end
mutual
theorem wt_nd : ∀ t : Tq, wt (ndOf t) = sizq t
  | .node p r c ts => by (rewrite [ndOf_e1]; (first | rewrite [wt_e1] | rewrite [wt_e2]); rw [sizq_e1, wtL_nd ts, Nat.add_comm])
theorem wtL_nd : ∀ ts : List Tq, wtL (ndL ts) = sizqL ts
  | [] => rfl
  | t :: r => by ((first | rewrite [ndL_e1] | rewrite [ndL_e2]); (first | rewrite [wtL_e1] | rewrite [wtL_e2]); (first | rewrite [sizqL_e1] | rewrite [sizqL_e2]); rw [wt_nd t, wtL_nd r])
end
mutual
theorem clean_nd : ∀ t : Tq, clean (ndOf t)
  | .node _ _ _ ts => ⟨rfl, cleanL_nd ts⟩
theorem cleanL_nd : ∀ ts : List Tq, cleanL (ndL ts)
  | [] => trivial
  | t :: r => ⟨clean_nd t, cleanL_nd r⟩
end
mutual
theorem len_nd : ∀ t : Tq, (tk (ndOf t)).length = 2 * sizq t
  | .node p r c ts => by
    (rewrite [ndOf_e1]; (first | rewrite [tk_e1] | rewrite [tk_e2]); rw [sizq_e1])
    show (List.length (.o (fr r) :: (tkL (ndL ts) ++ [.c]))) = _
    rw [List.length_cons, List.length_append, lenL_nd ts, List.length_singleton]; omega
theorem lenL_nd : ∀ ts : List Tq, (tkL (ndL ts)).length = 2 * sizqL ts
  | [] => rfl
  | t :: r => by ((first | rewrite [ndL_e1] | rewrite [ndL_e2]); (first | rewrite [tkL_e1] | rewrite [tkL_e2]); rewrite [List.length_append, len_nd t, lenL_nd r]; (first | rw [sizqL_e1] | rw [sizqL_e2])); omega
end
theorem str_of {x y : Str} (h : x.cps.toList = y.cps.toList) : x = y := by
  cases x; cases y
  congr 1
  exact Array.toList_inj.mp h
theorem rounds_end {t : Tq} (h : sizq t ≤ 8) : (rnds 8 (wrT t, 0)).2 = (cn (ndOf t) : Int) ∧ (rnds 8 (wrT t, 0)).1 = (if off (ndOf t) = 0 then Str.ofString "" else Str.ofString "u") := by
  have hc : cleanL [ndOf t] := ⟨clean_nd t, trivial⟩
  have hx : (wrT t).cps.toList = flatK (tkL [ndOf t]) := by rw [wr_tok, tkL_one]
  obtain ⟨a1, a2, a3, _⟩ := rnds_tok hc hx 8
  have hs : Small (rds 8 [ndOf t]) := by
    refine left_zero (left_rds 8 (.inr ?_))
    obtain ⟨p, r, c, ts⟩ := t
    refine ⟨_, _, _, rfl, ?_⟩
    rw [show Nd.nd (fr r) 0 (ndL ts) = ndOf (.node p r c ts) from rfl, wt_nd]
    omega
  ((first | rewrite [offL_e1] at a3 | rewrite [offL_e2] at a3); (first | rewrite [offL_e1] at a3 | rewrite [offL_e2] at a3); rw [Nat.add_zero] at a3)
  rw [show cnL [ndOf t] = cn (ndOf t) from by rw [cnL_e2, cnL_e1, Nat.add_zero]] at a2
  rcases hs with hs | hs <;> rw [hs] at a1 a2 a3
  · ((first | rw [offL_e1] at a3 | rw [offL_e2] at a3))
    ((first | rw [cnL_e1] at a2 | rw [cnL_e2] at a2))
    refine ⟨by simpa using a2, ?_⟩
    rw [if_pos a3.symm]
    exact str_of (a1.trans (by decide +kernel))
  · rw [show offL [Nd.lf] = 1 from rfl] at a3
    rw [show cnL [Nd.lf] = 0 from rfl] at a2
    refine ⟨by simpa using a2, ?_⟩
    rw [if_neg (by omega)]
    exact str_of (a1.trans (by decide +kernel))
theorem tree_sizes {t : Tq} (h : sizq t ≤ 8) (i k : Nat) : (replAll (lawPairs.take k) (rnds i (wrT t, 0)).1).length ≤ 100000 :=
  sizes (N := 16) ⟨_, wr_tok t, by rw [len_nd]; omega⟩ (by decide) i k
end
section
set_option linter.unusedSectionVars false
noncomputable def deg : List (Nat × Nat) → Nat → Nat
  | [], _ => 0
  | e :: r, v => (if e.1 = v then 1 else 0) + (if e.2 = v then 1 else 0) + deg r v
theorem deg_e1 (u1) : deg [] u1 = 0 := rfl
theorem deg_e2 (e) (r) (v) : deg (e :: r) v = (if e.1 = v then 1 else 0) + (if e.2 = v then 1 else 0) + deg r v := rfl
theorem deg_app (a b : List (Nat × Nat)) (v : Nat) : deg (a ++ b) v = deg a v + deg b v := by
  induction a with
  | nil => (rewrite [List.nil_append]; (first | rewrite [deg_e1] | rewrite [deg_e2]); rw [Nat.zero_add])
  | cons e r ih => (rewrite [List.cons_append]; (first | rewrite [deg_e1] | rewrite [deg_e2]); (first | rewrite [deg_e1] | rewrite [deg_e2]); rw [ih]); omega
theorem deg_mem {P : List (Nat × Nat)} {v : Nat} (h : 0 < deg P v) : ∃ a b, P = a ++ b ∧ ∃ e r, b = e :: r ∧ (e.1 = v ∨ e.2 = v) := by
  induction P with
  | nil => ((first | rw [deg_e1] at h | rw [deg_e2] at h)); cases h
  | cons e r ih =>
    by_cases he : e.1 = v ∨ e.2 = v
    · exact ⟨[], e :: r, rfl, e, r, rfl, he⟩
    · ((first | rewrite [deg_e1] at h | rewrite [deg_e2] at h); rw [if_neg fun x => he (.inl x), if_neg fun x => he (.inr x)] at h)
      obtain ⟨a, b, h1, h2⟩ := ih (by omega)
      exact ⟨e :: a, b, by rw [h1]; rfl, h2⟩
theorem deg_sub {P l : List (Nat × Nat)} (h : P.Sublist l) {v : Nat} (hv : ∀ e ∈ l, e.1 ≠ v ∧ e.2 ≠ v) : deg P v = 0 := by
  have hP : ∀ e ∈ P, e.1 ≠ v ∧ e.2 ≠ v := fun e he => hv e (h.subset he)
  clear h
  induction P with
  | nil => rfl
  | cons e r ih => ((first | rewrite [deg_e1] | rewrite [deg_e2]); rw [if_neg (hP e (.head _)).1, if_neg (hP e (.head _)).2, ih fun x hx => hP x (.tail _ hx)])
noncomputable def Feas (l : List (Nat × Nat)) (ρ : Nat → Nat) (P : List (Nat × Nat)) : Prop := P.Sublist l ∧ ∀ v, deg P v ≤ ρ v
noncomputable def Best (l : List (Nat × Nat)) (ρ : Nat → Nat) (N : Nat) : Prop := (∃ P, Feas l ρ P ∧ P.length = N) ∧ ∀ P, Feas l ρ P → P.length ≤ N
noncomputable def Sp (l : List (Nat × Nat)) (ρ : Nat → Nat) (N : Nat) : Prop := ∃ P, Feas l ρ P ∧ P.length = N ∧ deg P 0 < ρ 0
noncomputable def less (ρ : Nat → Nat) (p : Nat) : Nat → Nat := fun v => if v = p then ρ v - 1 else ρ v
theorem sub_last {l P : List (Nat × Nat)} {e : Nat × Nat} (h : P.Sublist (l ++ [e])) : P.Sublist l ∨ ∃ P', P = P' ++ [e] ∧ P'.Sublist l := by
  obtain ⟨a, b, rfl, ha, hb⟩ := List.sublist_append_iff.mp h
  cases hb with
  | cons _ h =>
    have e0 := List.sublist_nil.mp h
    subst e0
    rw [List.append_nil]; exact .inl ha
  | cons_cons _ h =>
    have e0 := List.sublist_nil.mp h
    subst e0
    exact .inr ⟨a, rfl, ha⟩
theorem feas_more {l : List (Nat × Nat)} {e : Nat × Nat} {ρ : Nat → Nat} {P : List (Nat × Nat)} (h : Feas l ρ P) : Feas (l ++ [e]) ρ P := ⟨h.1.trans (List.sublist_append_left _ _), h.2⟩
theorem peel_no {l : List (Nat × Nat)} {p v : Nat} {ρ : Nat → Nat} (h : ρ p = 0 ∨ ρ v = 0) {P : List (Nat × Nat)} : Feas (l ++ [(p, v)]) ρ P ↔ Feas l ρ P := by
  refine ⟨fun hP => ?_, feas_more⟩
  rcases sub_last hP.1 with h1 | ⟨P', rfl, _⟩
  · exact ⟨h1, hP.2⟩
  · have hp := hP.2 p
    have hv := hP.2 v
    (rewrite [deg_app] at hp hv; (first | rewrite [deg_e1] at hp hv | rewrite [deg_e2] at hp hv); (first | rw [deg_e1] at hp hv | rw [deg_e2] at hp hv))
    simp at hp hv
    rcases h with h | h <;> omega
section
variable {l : List (Nat × Nat)} {p v : Nat} {ρ : Nat → Nat} (hv : ∀ e ∈ l, e.1 ≠ v ∧ e.2 ≠ v) (hpv : p ≠ v) (hp : 0 < ρ p) (hr : 0 < ρ v)
include hv hpv hp hr
theorem peel_in {P : List (Nat × Nat)} (h : Feas l (less ρ p) P) : Feas (l ++ [(p, v)]) ρ (P ++ [(p, v)]) := by
  refine ⟨h.1.append (List.Sublist.refl _), fun x => ?_⟩
  have h1 := h.2 x
  have h0 := deg_sub h.1 hv
  (rewrite [deg_app]; (first | rewrite [deg_e1] | rewrite [deg_e2]); (first | rw [deg_e1] | rw [deg_e2]))
  unfold less at h1
  by_cases hx : x = p
  · subst hx
    rw [if_pos rfl] at h1
    rw [if_pos rfl, if_neg (Ne.symm hpv)]
    omega
  · rw [if_neg hx] at h1
    rw [if_neg (Ne.symm hx)]
    by_cases hxv : v = x
    · subst hxv
      rw [if_pos rfl, h0]; omega
    · rw [if_neg hxv]; omega
theorem peel_out {P : List (Nat × Nat)} (h : Feas (l ++ [(p, v)]) ρ P) : ∃ P', Feas l (less ρ p) P' ∧ P.length ≤ P'.length + 1 ∧ (P.length = P'.length + 1 → deg P 0 < ρ 0 → v ≠ 0 → deg P' 0 < less ρ p 0) := by
  rcases sub_last h.1 with h1 | ⟨P', rfl, h1⟩
  · by_cases hd : deg P p < ρ p
    · refine ⟨P, ⟨h1, fun x => ?_⟩, by omega, fun e => by omega⟩
      have := h.2 x
      unfold less
      by_cases hx : x = p
      · subst hx; rw [if_pos rfl]; omega
      · rw [if_neg hx]; exact this
    · obtain ⟨a, b, rfl, e, r, rfl, he⟩ := deg_mem (P := P) (v := p) (by omega)
      have hl : (a ++ r).Sublist (a ++ e :: r) := (List.Sublist.refl a).append (List.sublist_cons_self e r)
      have hdeg : ∀ x, deg (a ++ r) x + ((if e.1 = x then 1 else 0) + (if e.2 = x then 1 else 0)) = deg (a ++ e :: r) x := fun x => by
        (rewrite [deg_app, deg_app]; (first | rw [deg_e1] | rw [deg_e2])); omega
      refine ⟨a ++ r, ⟨hl.trans h1, fun x => ?_⟩, by rw [List.length_append, List.length_append, List.length_cons]; omega, fun _ h0 _ => ?_⟩
      · have h2 := h.2 x
        have h3 := hdeg x
        unfold less
        by_cases hx : x = p
        · subst hx
          rw [if_pos rfl]
          rcases he with he | he
          · rw [if_pos he] at h3; omega
          · rw [if_pos he] at h3; omega
        · rw [if_neg hx]; omega
      · have h3 := hdeg 0
        have hp0 : ¬ 0 = p := fun e0 => by rw [← e0] at hd; omega
        unfold less
        rw [if_neg hp0]
        omega
  · refine ⟨P', ⟨h1, fun x => ?_⟩, by rw [List.length_append, List.length_singleton]; exact Nat.le_refl _, fun _ h0 hv0 => ?_⟩
    · have h2 := h.2 x
      (rewrite [deg_app] at h2; (first | rewrite [deg_e1] at h2 | rewrite [deg_e2] at h2); (first | rw [deg_e1] at h2 | rw [deg_e2] at h2))
      unfold less
      by_cases hx : x = p
      · subst hx
        rw [if_pos rfl] at h2 ⊢
        omega
      · rw [if_neg hx]; omega
    · (rewrite [deg_app] at h0; (first | rewrite [deg_e1] at h0 | rewrite [deg_e2] at h0); (first | rw [deg_e1] at h0 | rw [deg_e2] at h0))
      unfold less
      by_cases hx : 0 = p
      · subst hx
        rw [if_pos rfl] at h0 ⊢
        omega
      · rw [if_neg hx]; omega
theorem peel_best {N : Nat} (h : Best l (less ρ p) N) : Best (l ++ [(p, v)]) ρ (N + 1) := by
  obtain ⟨⟨P, h1, h2⟩, h3⟩ := h
  refine ⟨⟨_, peel_in hv hpv hp hr h1, by rw [List.length_append, List.length_singleton, h2]⟩, fun Q hQ => ?_⟩
  obtain ⟨Q', a1, a2, _⟩ := peel_out hv hpv hp hr hQ
  have := h3 Q' a1
  omega
theorem peel_sp {N : Nat} (h : Best l (less ρ p) N) (hv0 : v ≠ 0) : Sp (l ++ [(p, v)]) ρ (N + 1) ↔ Sp l (less ρ p) N := by
  constructor
  · rintro ⟨P, h1, h2, h3⟩
    obtain ⟨P', a1, a2, a3⟩ := peel_out hv hpv hp hr h1
    have h4 := h.2 P' a1
    have h5 : P'.length = N := by omega
    exact ⟨P', a1, h5, a3 (by omega) h3 hv0⟩
  · rintro ⟨P, h1, h2, h3⟩
    refine ⟨_, peel_in hv hpv hp hr h1, by rw [List.length_append, List.length_singleton, h2], ?_⟩
    (rewrite [deg_app]; (first | rewrite [deg_e1] | rewrite [deg_e2]); (first | rewrite [deg_e1] | rewrite [deg_e2]); rw [if_neg hv0])
    unfold less at h3
    by_cases hx : 0 = p
    · subst hx
      rw [if_pos rfl] at h3 ⊢
      omega
    · rw [if_neg hx] at h3
      rw [if_neg (Ne.symm hx)]
      omega
end
end
section
open PySem
mutual
noncomputable def offT (ρ : Nat → Nat) : Tq → Nat
  | .node p _ _ ts => if offTL ρ ts < ρ p then 1 else 0
noncomputable def offTL (ρ : Nat → Nat) : List Tq → Nat
  | [] => 0
  | t :: r => offT ρ t + offTL ρ r
end
theorem offT_e1 (ρ : Nat → Nat) (u1) (u2) (p) (ts) : offT ρ (.node p u1 u2 ts) = if offTL ρ ts < ρ p then 1 else 0 := rfl
theorem offTL_e1 (ρ : Nat → Nat) : offTL ρ [] = 0 := rfl
theorem offTL_e2 (ρ : Nat → Nat) (t) (r) : offTL ρ (t :: r) = offT ρ t + offTL ρ r := rfl
mutual
noncomputable def cnT (ρ : Nat → Nat) : Tq → Nat
  | .node p _ _ ts => cnTL ρ ts + min (offTL ρ ts) (ρ p)
noncomputable def cnTL (ρ : Nat → Nat) : List Tq → Nat
  | [] => 0
  | t :: r => cnT ρ t + cnTL ρ r
end
theorem cnT_e1 (ρ : Nat → Nat) (u1) (u2) (p) (ts) : cnT ρ (.node p u1 u2 ts) = cnTL ρ ts + min (offTL ρ ts) (ρ p) := rfl
theorem cnTL_e1 (ρ : Nat → Nat) : cnTL ρ [] = 0 := rfl
theorem cnTL_e2 (ρ : Nat → Nat) (t) (r) : cnTL ρ (t :: r) = cnT ρ t + cnTL ρ r := rfl
theorem offTL_app (ρ : Nat → Nat) (a b : List Tq) : offTL ρ (a ++ b) = offTL ρ a + offTL ρ b := by
  induction a with
  | nil => (rewrite [List.nil_append]; (first | rewrite [offTL_e1] | rewrite [offTL_e2]); rw [Nat.zero_add])
  | cons t r ih => (rewrite [List.cons_append]; (first | rewrite [offTL_e1] | rewrite [offTL_e2]); (first | rewrite [offTL_e1] | rewrite [offTL_e2]); rw [ih, Nat.add_assoc])
theorem cnTL_app (ρ : Nat → Nat) (a b : List Tq) : cnTL ρ (a ++ b) = cnTL ρ a + cnTL ρ b := by
  induction a with
  | nil => (rewrite [List.nil_append]; (first | rewrite [cnTL_e1] | rewrite [cnTL_e2]); rw [Nat.zero_add])
  | cons t r ih => (rewrite [List.cons_append]; (first | rewrite [cnTL_e1] | rewrite [cnTL_e2]); (first | rewrite [cnTL_e1] | rewrite [cnTL_e2]); rw [ih, Nat.add_assoc])
theorem leaf_off (ρ : Nat → Nat) (v r c : Nat) : offT ρ (.node v r c []) = if 0 < ρ v then 1 else 0 := by (rewrite [offT_e1]; (first | rw [offTL_e1] | rw [offTL_e2]))
theorem leaf_cn (ρ : Nat → Nat) (v r c : Nat) : cnT ρ (.node v r c []) = 0 := by (rewrite [cnT_e1]; (first | rewrite [cnTL_e1] | rewrite [cnTL_e2]); (first | rw [offTL_e1] | rw [offTL_e2])); simp
section
variable {ρ : Nat → Nat} {p v r' c' : Nat}
mutual
theorem ins_no (h : ρ p = 0 ∨ ρ v = 0) : ∀ t : Tq, offT ρ (ins p (.node v r' c' []) t) = offT ρ t ∧ cnT ρ (ins p (.node v r' c' []) t) = cnT ρ t
  | .node q r c ts => by
    obtain ⟨a1, a2⟩ := insL_no h ts
    rw [ins_e1, offT_e1, offT_e1, cnT_e1, cnT_e1, offTL_app, cnTL_app, a1, a2]
    by_cases hq : q = p
    · (rewrite [if_pos hq]; (first | rewrite [offTL_e1] | rewrite [offTL_e2]); (first | rewrite [offTL_e1] | rewrite [offTL_e2]); (first | rewrite [cnTL_e1] | rewrite [cnTL_e2]); (first | rewrite [cnTL_e1] | rewrite [cnTL_e2]); rw [leaf_off, leaf_cn, hq])
      rcases h with h | h
      · rw [h]; simp
      · rw [h]; simp
    · (rewrite [if_neg hq]; (first | rewrite [offTL_e1] | rewrite [offTL_e2]); (first | rw [cnTL_e1] | rw [cnTL_e2]))
      exact ⟨rfl, rfl⟩
theorem insL_no (h : ρ p = 0 ∨ ρ v = 0) : ∀ ts : List Tq, offTL ρ (insL p (.node v r' c' []) ts) = offTL ρ ts ∧ cnTL ρ (insL p (.node v r' c' []) ts) = cnTL ρ ts
  | [] => ⟨rfl, rfl⟩
  | t :: r => by
    obtain ⟨a1, a2⟩ := ins_no h t
    obtain ⟨b1, b2⟩ := insL_no h r
    ((first | rewrite [insL_e1] | rewrite [insL_e2]); (first | rewrite [offTL_e1] | rewrite [offTL_e2]); (first | rewrite [offTL_e1] | rewrite [offTL_e2]); (first | rewrite [cnTL_e1] | rewrite [cnTL_e2]); (first | rewrite [cnTL_e1] | rewrite [cnTL_e2]); rw [a1, a2, b1, b2])
    exact ⟨rfl, rfl⟩
end
mutual
theorem ins_yes (hp : 0 < ρ p) (hv : 0 < ρ v) : ∀ t : Tq, offT ρ (ins p (.node v r' c' []) t) = offT (less ρ p) t ∧ cnT ρ (ins p (.node v r' c' []) t) = cnT (less ρ p) t + occ p t
  | .node q r c ts => by
    obtain ⟨a1, a2⟩ := insL_yes hp hv ts
    rw [ins_e1, offT_e1, offT_e1, cnT_e1, cnT_e1, occ_e1, offTL_app, cnTL_app, a1, a2]
    by_cases hq : q = p
    · (rewrite [if_pos hq, if_pos hq]; (first | rewrite [offTL_e1] | rewrite [offTL_e2]); (first | rewrite [offTL_e1] | rewrite [offTL_e2]); (first | rewrite [cnTL_e1] | rewrite [cnTL_e2]); (first | rewrite [cnTL_e1] | rewrite [cnTL_e2]); rw [leaf_off, leaf_cn, if_pos hv, hq])
      have e : less ρ p p = ρ p - 1 := if_pos rfl
      rw [e]
      constructor
      · congr 1
        exact propext ⟨fun h => by omega, fun h => by omega⟩
      · omega
    · have e : less ρ p q = ρ q := if_neg hq
      (rewrite [if_neg hq, if_neg hq]; (first | rewrite [offTL_e1] | rewrite [offTL_e2]); (first | rewrite [cnTL_e1] | rewrite [cnTL_e2]); rw [e])
      exact ⟨rfl, by omega⟩
theorem insL_yes (hp : 0 < ρ p) (hv : 0 < ρ v) : ∀ ts : List Tq, offTL ρ (insL p (.node v r' c' []) ts) = offTL (less ρ p) ts ∧ cnTL ρ (insL p (.node v r' c' []) ts) = cnTL (less ρ p) ts + occL p ts
  | [] => ⟨rfl, rfl⟩
  | t :: r => by
    obtain ⟨a1, a2⟩ := ins_yes hp hv t
    obtain ⟨b1, b2⟩ := insL_yes hp hv r
    ((first | rewrite [insL_e1] | rewrite [insL_e2]); (first | rewrite [offTL_e1] | rewrite [offTL_e2]); (first | rewrite [offTL_e1] | rewrite [offTL_e2]); (first | rewrite [cnTL_e1] | rewrite [cnTL_e2]); (first | rewrite [cnTL_e1] | rewrite [cnTL_e2]); (first | rewrite [occL_e1] | rewrite [occL_e2]); rw [a1, a2, b1, b2])
    exact ⟨rfl, by omega⟩
end
end
noncomputable def edg (ab : List Nat) (n : Nat) : List (Nat × Nat) := (List.range n).map fun k => (ab.getD k 0, k + 1)
theorem greedy {ab : List Nat} (rm cf : List Nat) (hab : AbOk ab) : ∀ n, n ≤ 7 → ∀ ρ : Nat → Nat, Best (edg ab n) ρ (cnT ρ (trF (ab.take n) rm cf 8 0)) ∧ (Sp (edg ab n) ρ (cnT ρ (trF (ab.take n) rm cf 8 0)) ↔ 0 < offT ρ (trF (ab.take n) rm cf 8 0))
  | 0, _, ρ => by
    rw [leaf_tr rm cf hab (Nat.zero_le _) 8 0 (Nat.le_refl _), leaf_cn, leaf_off]
    have h0 : ∀ P, Feas (edg ab 0) ρ P → P = [] := fun P h => List.sublist_nil.mp h.1
    have h1 : Feas (edg ab 0) ρ [] := ⟨List.Sublist.refl _, fun v => Nat.zero_le _⟩
    refine ⟨⟨⟨[], h1, rfl⟩, fun P h => by rw [h0 P h]; exact Nat.le_refl _⟩, ⟨?_, fun h => ⟨[], h1, rfl, ?_⟩⟩⟩
    · rintro ⟨P, h, _, h3⟩
      (rewrite [h0 P h] at h3; (first | rw [deg_e1] at h3 | rw [deg_e2] at h3))
      rw [if_pos h3]; decide
    · ((first | rw [deg_e1] | rw [deg_e2]))
      by_cases h9 : 0 < ρ 0
      · exact h9
      · rw [if_neg h9] at h; cases h
  | n + 1, hn, ρ => by
    obtain ⟨a, ha⟩ : ∃ a, ab[n]? = some a := ⟨_, List.getElem?_eq_getElem (by rw [hab.1]; omega)⟩
    have h1 := hab.2 n a ha
    have he : edg ab (n + 1) = edg ab n ++ [(a, n + 1)] := by
      unfold edg
      rw [List.range_succ, List.map_append]
      congr 1
      show [(ab.getD n 0, n + 1)] = _
      rw [List.getD_eq_getElem?_getD, ha]; rfl
    have hv : ∀ e ∈ edg ab n, e.1 ≠ n + 1 ∧ e.2 ≠ n + 1 := fun e h => by
      obtain ⟨k, hk, rfl⟩ := List.mem_map.mp h
      have h4 := List.mem_range.mp hk
      obtain ⟨b, hb⟩ : ∃ b, ab[k]? = some b := ⟨_, List.getElem?_eq_getElem (by rw [hab.1]; omega)⟩
      have h5 := hab.2 k b hb
      have e1 : ab.getD k 0 = b := by rw [List.getD_eq_getElem?_getD, hb]; rfl
      constructor
      · show ab.getD k 0 ≠ n + 1
        rw [e1]; omega
      · show k + 1 ≠ n + 1
        omega
    rw [tr_ins rm cf hab (by omega) ha 8 0 (by omega), he]
    by_cases hz : ρ a = 0 ∨ ρ (n + 1) = 0
    · obtain ⟨b1, b2⟩ := ins_no (r' := rm.getD (n + 1) 0) (c' := cf.getD (n + 1) 0) hz (trF (ab.take n) rm cf 8 0)
      obtain ⟨⟨⟨P, c1, c2⟩, c3⟩, c4⟩ := greedy rm cf hab n (by omega) ρ
      rw [b1, b2, ← c4]
      refine ⟨⟨⟨P, feas_more c1, c2⟩, fun Q hQ => c3 Q ((peel_no hz).mp hQ)⟩, ?_⟩
      constructor
      · rintro ⟨Q, d1, d2⟩
        exact ⟨Q, (peel_no hz).mp d1, d2⟩
      · rintro ⟨Q, d1, d2⟩
        exact ⟨Q, feas_more d1, d2⟩
    · have hp : 0 < ρ a := by omega
      have hr : 0 < ρ (n + 1) := by omega
      obtain ⟨b1, b2⟩ := ins_yes (r' := rm.getD (n + 1) 0) (c' := cf.getD (n + 1) 0) hp hr (trF (ab.take n) rm cf 8 0)
      obtain ⟨c1, c2⟩ := greedy rm cf hab n (by omega) (less ρ a)
      rw [b1, b2, occ_tr rm cf hab n (by omega) a, if_pos h1, ← c2]
      exact ⟨peel_best hv (by omega) hp hr c1, peel_sp hv (by omega) hp hr c1 (by omega)⟩
end
section
open PySem
noncomputable def pkN : Nat → (Nat → Nat) → Nat
  | 0, _ => 0
  | n + 1, σ => σ 0 + 4 * pkN n fun i => σ (i + 1)
theorem pkN_e1 (u1) : pkN 0 u1 = 0 := rfl
theorem pkN_e2 (n) : pkN (n + 1) σ = σ 0 + 4 * pkN n fun i => σ (i + 1) := rfl
theorem pk_digit : ∀ (n p : Nat) (σ : Nat → Nat), p < n → (∀ i, σ i ≤ 3) → pkN n σ / 4 ^ p % 4 = σ p
  | 0, p, σ, h, _ => absurd h (Nat.not_lt_zero _)
  | n + 1, 0, σ, _, hs => by
    have := hs 0
    ((first | rewrite [pkN_e1] | rewrite [pkN_e2]); rw [Nat.pow_zero, Nat.div_one]); omega
  | n + 1, p + 1, σ, h, hs => by
    have := hs 0
    ((first | rewrite [pkN_e1] | rewrite [pkN_e2]); rw [Nat.pow_succ, Nat.mul_comm (4 ^ p) 4, ← Nat.div_div_eq_div_mul, show (σ 0 + 4 * pkN n fun i => σ (i + 1)) / 4 = pkN n (fun i => σ (i + 1)) from by omega])
    exact pk_digit n p (fun i => σ (i + 1)) (by omega) fun i => hs (i + 1)
theorem pk_less : ∀ (n p : Nat) (σ : Nat → Nat), p < n → 0 < σ p → pkN n (less σ p) + 4 ^ p = pkN n σ
  | 0, p, σ, h, _ => absurd h (Nat.not_lt_zero _)
  | n + 1, 0, σ, _, hp => by
    have e : (fun i => less σ 0 (i + 1)) = fun i => σ (i + 1) := funext fun i => if_neg (Nat.succ_ne_zero i)
    ((first | rewrite [pkN_e1] | rewrite [pkN_e2]); (first | rewrite [pkN_e1] | rewrite [pkN_e2]); rw [e, show less σ 0 0 = σ 0 - 1 from if_pos rfl, Nat.pow_zero]); omega
  | n + 1, p + 1, σ, h, hp => by
    have e : (fun i => less σ (p + 1) (i + 1)) = less (fun i => σ (i + 1)) p := funext fun i => by
      unfold less
      by_cases hi : i = p
      · subst hi; rw [if_pos rfl, if_pos rfl]
      · rw [if_neg hi, if_neg (by omega)]
    have ih := pk_less n p (fun i => σ (i + 1)) (by omega) hp
    ((first | rewrite [pkN_e1] | rewrite [pkN_e2]); (first | rewrite [pkN_e1] | rewrite [pkN_e2]); rw [e, show less σ (p + 1) 0 = σ 0 from if_neg (by omega), ← ih, Nat.pow_succ]); omega
theorem pow_cast (p : Nat) : ((4 : Int) ^ p) = ((4 ^ p : Nat) : Int) := by rw [Int.natCast_pow]; rfl
theorem digit {σ : Nat → Nat} {p : Nat} (h : p < 8) (hs : ∀ i, σ i ≤ 3) : (((pkN 8 σ : Nat) : Int).fdiv (4 ^ p)).fmod 4 = (σ p : Int) := by
  rw [pow_cast, Int.fdiv_eq_ediv_of_nonneg _ (Int.natCast_nonneg _), ← Int.natCast_ediv, Int.fmod_eq_emod_of_nonneg _ (by decide)]
  have h9 := pk_digit 8 p σ h hs
  show (((pkN 8 σ / 4 ^ p : Nat) : Int) % ((4 : Nat) : Int)) = _
  rw [← Int.natCast_emod, h9]
theorem sum_four : ∀ l : List Int, (l.map fun x => 4 * x).sum = 4 * l.sum
  | [] => rfl
  | x :: r => by rw [List.map_cons, List.sum_cons, List.sum_cons, sum_four r, Int.mul_add]
theorem pk_sum : ∀ (n : Nat) (σ : Nat → Nat), ((List.range n).map fun i => ((σ i : Nat) : Int) * 4 ^ i).sum = ((pkN n σ : Nat) : Int)
  | 0, _ => rfl
  | n + 1, σ => by
    have e : (List.range n).map ((fun i => ((σ i : Nat) : Int) * 4 ^ i) ∘ Nat.succ) = ((List.range n).map fun i => ((σ (i + 1) : Nat) : Int) * 4 ^ i).map fun x => 4 * x := by
      rw [List.map_map]
      refine List.map_congr_left fun i _ => ?_
      show ((σ (i + 1) : Nat) : Int) * 4 ^ (i + 1) = 4 * (((σ (i + 1) : Nat) : Int) * 4 ^ i)
      rw [Int.pow_succ, ← Int.mul_assoc, Int.mul_comm]
    rw [List.range_succ_eq_map, List.map_cons, List.sum_cons, List.map_map, e, sum_four, pk_sum n fun i => σ (i + 1), pkN_e2, Int.natCast_add, Int.natCast_mul]
    congr 1
    exact Int.mul_one _
theorem pack_eq {rm : List Nat} (h : rm.length = 8) : packR rm = ((pkN 8 fun i => rm.getD i 0 : Nat) : Int) := by
  unfold packR
  rw [h]
  exact pk_sum 8 _
theorem sets_mem {ab : List Nat} (hab : AbOk ab) {ρ : Nat → Nat} (hρ : ∀ i, ρ i ≤ 3) : ∀ n, n ≤ 7 → ∀ x : Int × Int, x ∈ setsF [(0, ((pkN 8 ρ : Nat) : Int))] 0 (ab.take n) ↔ ∃ P, Feas (edg ab n) ρ P ∧ x = ((P.length : Int), ((pkN 8 fun v => ρ v - deg P v : Nat) : Int))
  | 0, _, x => by
    (rewrite [List.take_zero]; (first | rewrite [setsF_e1] | rewrite [setsF_e2]); rw [List.mem_singleton])
    constructor
    · rintro rfl
      exact ⟨[], ⟨List.Sublist.refl _, fun v => Nat.zero_le _⟩, rfl⟩
    · rintro ⟨P, h, rfl⟩
      have e : P = [] := List.sublist_nil.mp h.1
      subst e
      rfl
  | n + 1, hn, x => by
    obtain ⟨a, ha⟩ : ∃ a, ab[n]? = some a := ⟨_, List.getElem?_eq_getElem (by rw [hab.1]; omega)⟩
    have h1 := hab.2 n a ha
    have ih := sets_mem hab hρ n (by omega)
    have he : edg ab (n + 1) = edg ab n ++ [(a, n + 1)] := by
      unfold edg
      rw [List.range_succ, List.map_append]
      congr 1
      show [(ab.getD n 0, n + 1)] = _
      rw [List.getD_eq_getElem?_getD, ha]; rfl
    have hl : (ab.take n).length = n := by rw [List.length_take, hab.1]; omega
    rw [show ab.take (n + 1) = ab.take n ++ [a] from by rw [List.take_add_one, ha]; rfl, setsF_snoc, Nat.zero_add, hl, he, List.mem_append, List.mem_filterMap, ih x]
    have one : ∀ P v, deg (P ++ [(a, n + 1)]) v = deg P v + ((if a = v then 1 else 0) + (if n + 1 = v then 1 else 0)) := fun P v => by (rewrite [deg_app]; (first | rewrite [deg_e1] | rewrite [deg_e2]); (first | rw [deg_e1] | rw [deg_e2])); rfl
    have step : ∀ P, Feas (edg ab n) ρ P → 0 < ρ a - deg P a → 0 < ρ (n + 1) - deg P (n + 1) → setStep a (n + 1) ((P.length : Int), ((pkN 8 fun v => ρ v - deg P v : Nat) : Int)) = some (((P ++ [(a, n + 1)]).length : Int), ((pkN 8 fun v => ρ v - deg (P ++ [(a, n + 1)]) v : Nat) : Int)) := fun P hP h2 h3 => by
      have d1 := digit (σ := fun v => ρ v - deg P v) (p := a) (by omega) fun i => Nat.le_trans (Nat.sub_le _ _) (hρ i)
      have d2 := digit (σ := fun v => ρ v - deg P v) (p := n + 1) (by omega) fun i => Nat.le_trans (Nat.sub_le _ _) (hρ i)
      rw [step_yes (by rw [d1]; omega) (by rw [d2]; omega)]
      have l1 := pk_less 8 a (fun v => ρ v - deg P v) (by omega) h2
      have l2 := pk_less 8 (n + 1) (less (fun v => ρ v - deg P v) a) (by omega) (by unfold less; rw [if_neg (by omega)]; exact h3)
      have ef : (fun v => ρ v - deg (P ++ [(a, n + 1)]) v) = less (less (fun v => ρ v - deg P v) a) (n + 1) := funext fun v => by
        rw [one]
        unfold less
        have f1 : ¬ a = n + 1 := by omega
        have f2 : ¬ n + 1 = a := by omega
        by_cases hv : v = n + 1
        · subst hv
          simp only [if_neg f1, if_neg f2, if_pos (rfl : n + 1 = n + 1), if_true]; omega
        · by_cases hv2 : v = a
          · simp only [if_neg hv, if_neg (Ne.symm hv), if_pos hv2, if_pos hv2.symm]; omega
          · simp only [if_neg hv, if_neg (Ne.symm hv), if_neg hv2, if_neg (Ne.symm hv2)]; omega
      rw [ef]
      congr 1
      refine Prod.ext ?_ ?_
      · show (P.length : Int) + 1 = ((P ++ [(a, n + 1)]).length : Int)
        rw [List.length_append, List.length_singleton]; rfl
      · show ((pkN 8 fun v => ρ v - deg P v : Nat) : Int) - 4 ^ a - 4 ^ (n + 1) = _
        rw [pow_cast, pow_cast]
        omega
    constructor
    · rintro (⟨P, h2, rfl⟩ | ⟨y, hy, hs⟩)
      · exact ⟨P, feas_more h2, rfl⟩
      · obtain ⟨P, h2, rfl⟩ := (ih y).mp hy
        have d1 := digit (σ := fun v => ρ v - deg P v) (p := a) (by omega) fun i => Nat.le_trans (Nat.sub_le _ _) (hρ i)
        have d2 := digit (σ := fun v => ρ v - deg P v) (p := n + 1) (by omega) fun i => Nat.le_trans (Nat.sub_le _ _) (hρ i)
        by_cases hc : 0 < ρ a - deg P a ∧ 0 < ρ (n + 1) - deg P (n + 1)
        · rw [step P h2 hc.1 hc.2] at hs
          refine ⟨P ++ [(a, n + 1)], ⟨h2.1.append (List.Sublist.refl _), fun v => ?_⟩, (Option.some.inj hs).symm⟩
          have h4 := h2.2 v
          rw [one]
          have f2 : ¬ n + 1 = a := by omega
          by_cases hv : a = v
          · have g : ¬ n + 1 = v := by omega
            rw [if_pos hv, if_neg g, ← hv]; omega
          · rw [if_neg hv]
            by_cases hv2 : n + 1 = v
            · rw [if_pos hv2, ← hv2]; omega
            · rw [if_neg hv2]; omega
        · rw [step_no (fun h => hc (by rw [d1, d2] at h; exact ⟨by omega, by omega⟩))] at hs
          cases hs
    · rintro ⟨P, h2, rfl⟩
      rcases sub_last h2.1 with h3 | ⟨P', rfl, h3⟩
      · exact .inl ⟨P, ⟨h3, h2.2⟩, rfl⟩
      · have hP' : Feas (edg ab n) ρ P' := ⟨h3, fun v => by have := h2.2 v; rw [one] at this; omega⟩
        have q1 := h2.2 a
        have q2 := h2.2 (n + 1)
        rw [one, if_pos rfl] at q1
        rw [one, if_pos (rfl : n + 1 = n + 1)] at q2
        exact .inr ⟨_, (ih _).mpr ⟨P', hP', rfl⟩, step P' hP' (by omega) (by omega)⟩
theorem fr_val {r : Nat} (h : r < 3) : (fr r).val = r := by
  obtain rfl | rfl | rfl : r = 0 ∨ r = 1 ∨ r = 2 := by omega
  all_goals rfl
theorem ndL_all {ρ : Nat → Nat} : ∀ ts : List Tq, (∀ t ∈ ts, off (ndOf t) = offT ρ t ∧ cn (ndOf t) = cnT ρ t) → offL (ndL ts) = offTL ρ ts ∧ cnL (ndL ts) = cnTL ρ ts
  | [], _ => ⟨rfl, rfl⟩
  | t :: r, h => by
    obtain ⟨a1, a2⟩ := h t (.head _)
    obtain ⟨b1, b2⟩ := ndL_all r fun x hx => h x (.tail _ hx)
    ((first | rewrite [ndL_e1] | rewrite [ndL_e2]); (first | rewrite [offL_e1] | rewrite [offL_e2]); (first | rewrite [offTL_e1] | rewrite [offTL_e2]); (first | rewrite [cnL_e1] | rewrite [cnL_e2]); (first | rewrite [cnTL_e1] | rewrite [cnTL_e2]); rw [a1, a2, b1, b2])
    exact ⟨rfl, rfl⟩
theorem nd_tr {ab rm cf : List Nat} (hr : ∀ p, rm.getD p 0 < 3) : ∀ f p, off (ndOf (trF ab rm cf f p)) = offT (fun i => rm.getD i 0) (trF ab rm cf f p) ∧ cn (ndOf (trF ab rm cf f p)) = cnT (fun i => rm.getD i 0) (trF ab rm cf f p)
  | 0, p => by
    ((first | rewrite [trF_e1] | rewrite [trF_e2]); rewrite [ndOf_e1]; (first | rewrite [off_e1] | rewrite [off_e2]); (first | rewrite [cn_e1] | rewrite [cn_e2]); rw [offT_e1, cnT_e1, fr_val (hr p)])
    exact ⟨rfl, by ((first | rewrite [ndL_e1] | rewrite [ndL_e2]); (first | rewrite [offL_e1] | rewrite [offL_e2]); (first | rewrite [cnL_e1] | rewrite [cnL_e2]); (first | rewrite [offTL_e1] | rewrite [offTL_e2]); (first | rw [cnTL_e1] | rw [cnTL_e2])); omega⟩
  | f + 1, p => by
    obtain ⟨a1, a2⟩ := ndL_all (ρ := fun i => rm.getD i 0) ((kidsOf ab p).map (trF ab rm cf f)) fun t ht => by
      obtain ⟨c, _, rfl⟩ := List.mem_map.mp ht
      exact nd_tr hr f c
    ((first | rewrite [trF_e1] | rewrite [trF_e2]); rewrite [ndOf_e1]; (first | rewrite [off_e1] | rewrite [off_e2]); (first | rewrite [cn_e1] | rewrite [cn_e2]); rw [offT_e1, cnT_e1, fr_val (hr p), a1, a2])
    exact ⟨rfl, by omega⟩
theorem plain_law : PlainLaw := by
  intro ab rm cf hab h8 hr3 hc8 hc4
  have hz := tr_siz rm cf hab
  refine ⟨fun i _ k _ => tree_sizes (by omega) i k, ?_⟩
  obtain ⟨e1, e2⟩ := rounds_end (t := trF ab rm cf 8 0) (by omega)
  have hr : ∀ p, rm.getD p 0 < 3 := fun p => row_lt (by decide) hr3 p
  obtain ⟨n1, n2⟩ := nd_tr (ab := ab) (cf := cf) hr 8 0
  rw [e1, e2, n1, n2, pack_eq h8]
  generalize hρe : (fun i => rm.getD i 0) = ρ
  have hρ : ∀ i, ρ i ≤ 3 := fun i => by rw [← hρe]; exact Nat.le_of_lt (hr i)
  have ht : ab.take 7 = ab := List.take_of_length_le (by rw [hab.1]; exact Nat.le_refl _)
  have hm := sets_mem hab hρ 7 (Nat.le_refl _)
  obtain ⟨⟨⟨P, p1, p2⟩, p3⟩, sp⟩ := greedy rm cf hab 7 (Nat.le_refl _) ρ
  rw [ht] at hm p2 p3 sp
  intro M hM hmax
  obtain ⟨x, hx, hxM⟩ := List.mem_map.mp hM
  obtain ⟨Q, q1, rfl⟩ := (hm x).mp hx
  have q2 := p3 Q q1
  have q3 := hmax _ (List.mem_map_of_mem ((hm _).mpr ⟨P, p1, rfl⟩))
  dsimp only at hxM q3
  have hMN : M = ((cnT ρ (trF ab rm cf 8 0) : Nat) : Int) := by omega
  refine ⟨hMN.symm, ?_⟩
  have key : (setsF [(0, ((pkN 8 ρ : Nat) : Int))] 0 ab).filter (isBest M) = [] ↔ offT ρ (trF ab rm cf 8 0) = 0 := by
    rw [List.filter_eq_nil_iff]
    constructor
    · intro h
      refine Nat.eq_zero_of_not_pos fun h9 => ?_
      obtain ⟨R, r1, r2, r3⟩ := sp.mpr h9
      refine h _ ((hm _).mpr ⟨R, r1, rfl⟩) ?_
      have d0 := digit (σ := fun v => ρ v - deg R v) (p := 0) (by decide) fun i => Nat.le_trans (Nat.sub_le _ _) (hρ i)
      rw [Int.pow_zero, Int.fdiv_one] at d0
      refine decide_eq_true ⟨?_, ?_⟩
      · show (R.length : Int) = M
        omega
      · show 0 < Int.fmod _ 4
        rw [d0]; omega
    · intro h x hx hb
      obtain ⟨R, r1, rfl⟩ := (hm x).mp hx
      obtain ⟨b1, b2⟩ := of_decide_eq_true hb
      have d0 := digit (σ := fun v => ρ v - deg R v) (p := 0) (by decide) fun i => Nat.le_trans (Nat.sub_le _ _) (hρ i)
      rw [Int.pow_zero, Int.fdiv_one] at d0
      dsimp only at b1 b2
      rw [d0] at b2
      have := sp.mp ⟨R, r1, by omega, by omega⟩
      omega
  by_cases h : offT ρ (trF ab rm cf 8 0) = 0
  · rw [if_pos h, if_pos (key.mpr h)]
  · rw [if_neg h, if_neg fun e => h (key.mp e)]
end
end Mine
theorem PySem.Challenge.cw_pg0301_02_holds : PySem.Challenge.rw_pg0301_02.Holds :=
  Mine.law_of_plain Mine.plain_law
