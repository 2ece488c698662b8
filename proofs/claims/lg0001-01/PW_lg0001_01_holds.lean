import PyProof.Rows.All
import Wide.All
import OpenK.AllK
import Wide.FinOn
import PySem.Challenge.RW_lg0001_01
set_option Elab.async false
set_option maxHeartbeats 0
set_option maxRecDepth 100000
set_option linter.unusedVariables false
set_option linter.unusedSimpArgs false

section
open PySem PySem.W PySem.Calls PyProof.Rows
set_option maxRecDepth 100000
namespace RS

/-- where the walk stops: a lemma of ours goes on -/
inductive IsStop : {α : Type} → Sem α → Prop
  | s1 (a b c d e f) : IsStop (exec (Stmt.For a b c d e) f)
  | s2 (a b c d e) : IsStop (exec (Stmt.While a b c d) e)
  | s3 (a b c d e) : IsStop (eval (Expr.ListComp a b c d) e)
  | s4 (a b c d) : IsStop (subscriptTail a b (Value.ref c) d)
  | s5 (a b c) : IsStop (setItem (Value.ref a) b c)
  | s6 (a) : IsStop (call (Value.builtin "list.insert") a)
  | s7 (a) : IsStop (call (Value.builtin "list.pop") a)
  | s8 (a) : IsStop (call (Value.builtin "list.append") a)
  | s9 (a) : IsStop (pyIter (Value.ref a))
  | s10 (a b) : IsStop (compareOp CmpOp.Eq (Value.ref a) (Value.ref b))
  | s11 (a b) : IsStop (compareOp CmpOp.NotEq (Value.ref a) (Value.ref b))
  | s12 (a) : IsStop (call (Value.builtin "iter") a)
  | s13 (a) : IsStop (call (Value.builtin "sorted") a)
  | s14 (a) : IsStop (call (Value.builtin "sum") a)
  | s15 (a b) : IsStop (call (Value.ref a) b)
inductive IsStopN : {α : Type} → Sem α → Prop
  | n1 (a) : IsStopN (call (Value.type "range") a)
  | n2 (a) : IsStopN (newList a)
  | n3 (a) : IsStopN (newTuple a)
inductive IsStopL : {α : Type} → Sem α → Prop
  | l1 (a b c d e) : IsStopL (exec (Stmt.If a b c d) e)
  | l2 (a b c d) : IsStopL (eval (Expr.BoolOp a b c) d)
theorem stopped {M : Model} {A : Around} {α : Type} {c : Sem α} {Q : α → Shared → Prop} {E : Value → Shared → Prop} {s : Shared} (_ : IsStop c) (h : False) : wpAny M A c Q E s := h.elim
theorem stoppedN {M : Model} {A : Around} {α : Type} {c : Sem α} {Q : α → Shared → Prop} {E : Value → Shared → Prop} {s : Shared} (_ : IsStopN c) (h : False) : wpAny M A c Q E s := h.elim
theorem stoppedL {M : Model} {A : Around} {α : Type} {c : Sem α} {Q : α → Shared → Prop} {E : Value → Shared → Prop} {s : Shared} (_ : IsStopL c) (h : False) : wpAny M A c Q E s := h.elim

def KeepBut (W : List Addr) (h h' : Heap) : Prop := ∀ b o, b ∉ W → h.get? b = some o → h'.get? b = some o
theorem KeepBut.stays {W : List Addr} {h h' h'' : Heap} (a : KeepBut W h h') (b : h'.StaysIn h'') : KeepBut W h h'' := fun x o n e => b x o (a x o n e)
theorem KeepBut.nil {h h' : Heap} (a : KeepBut [] h h') : h.StaysIn h' := fun x o e => a x o (List.not_mem_nil) e

section
variable {prog : Program} {w : World} {A : Around} {s : Shared} {base : Heap} {K : Frag} {p : Program} {loose : List Str} {mean : ExcName → Option Value} {mg mb : Str → Option Value} {news : List (Addr × Obj)}
  {R : Result → Shared → Prop} {name qual : Str} {params : Arguments} {body : List Stmt} {scope : Scope} {dV kV doc pm cdv ct oc : Value} {an od : Option Addr} {osl : Array (Option Value)} {f : Addr} {args : Args} {binds : List (Str × Value)}

theorem ground (hb : base.StaysIn s.heap) (N : ∀ q ∈ news, s.heap.get? q.1 = some q.2 ∧ base.get? q.1 = none) :
    base.StaysIn (hideAll s.heap (news.map (·.1))) ∧ KeepBut (news.map (·.1)) s.heap (hideAll s.heap (news.map (·.1))) :=
  ⟨fun b o e => hideAll_get _ (hb b o e) (fun q => by
    obtain ⟨p, hp, rfl⟩ := List.mem_map.mp q
    rw [(N p hp).2] at e; cases e), fun b o n e => hideAll_get _ e n⟩

theorem enterK (news : List (Addr × Obj)) (hb : base.StaysIn s.heap) (X : K.In base) (T : Top p loose mean mg mb base)
    (N : ∀ q ∈ news, s.heap.get? q.1 = some q.2 ∧ base.get? q.1 = none)
    (ho : K.lookup f = some ⟨oc, od, .func (fnOf name qual params body scope dV kV doc pm an cdv ct), osl⟩) (hcd : codeIn K cdv qual = true) (hroom : A.depth < recursionLimit)
    (hbind : BindsTo s (fnOf name qual params body scope dV kV doc pm an cdv ct) args binds) (hloc : ∀ y ∈ binds, scope.names.lookup y.1 = some .local)
    (h : ∀ g L' h₁, Fr g L' h₁ (fun y => binds.reverse.lookup y) → News g L' h₁ news → K.In g → Top p loose mean mg mb g → base.StaysIn g → KeepBut (news.map (·.1)) s.heap g → (∀ q ∈ news, q.1 < L') →
      wpAny (model prog w) (A.deeper (envOf qual scope L' f cdv)) (execs body (envOf qual scope L' f cdv))
        (fun fl s' => R (.ok (.ret (match fl with | .ret v => v | _ => .none))) s') (fun _ _ => False)
        { s with heap := h₁, toks := s.toks + binds.length })
    (hco : scope.isCoroutine = false) (hgen : scope.isGenerator = false) (hk : scope.kind = .function)
    (hcell : ∀ x ∈ scope.names, x.2 ≠ .cell) : codeAny (model prog w) A (.call (.ref f) args) R s := by
  obtain ⟨st, kb⟩ := ground hb N
  have Xg : K.In (hideAll s.heap (news.map (·.1))) := fun a o e => st _ _ (X a o e)
  have Tg : Top p loose mean mg mb (hideAll s.heap (news.map (·.1))) := T.keeps st
  refine codeAny_call_def (fd := fnOf name qual params body scope dV kV doc pm an cdv ct) (body := body) (binds := binds) hroom (hb _ _ (X _ _ ho)) rfl (T.nolimit.keeps hb)
    (codeRec_of (fun a o e => hb _ _ (X a o e)) hcd) rfl hbind hcell hloc (fun h₁ hns hk₁ => ?_) hco hgen hk
  refine wpAny_mono (h (hideAll s.heap (news.map (·.1))) s.heap.objs.size h₁ ⟨hns, fun b o e => hk₁ b o (of_hideAll _ e), Nat.le_of_eq (hideAll_size _ _)⟩
    (fun p hp => ⟨hk₁ _ _ (N p hp).1, Nat.ne_of_lt (Heap.lt_size (N p hp).1), hideAll_none _ (List.mem_map_of_mem hp)⟩) Xg Tg st kb
    (fun q hq => Heap.lt_size (N q hq).1)) (fun fl s' hl => hl) fun _ _ y => y.elim
end

theorem call_code {M : Model} {A : Around} {E : Value → Shared → Prop} {s : Shared} {f : Value} {pos : List Value} {kw : List (Str × Value)} {Q : Value → Shared → Prop}
    (h : codeAny M A (.call f ⟨pos, kw⟩) (fun r s' => match r with | .ok (.ret v) => Q v s' | .ok _ => False | .error e => E e s') s) : wpAny M A (call f pos kw) Q E s := wpAny_call h

theorem dlt {a b c : Nat} (h : a < b) (hc : b + 1 ≤ c := by decide) : a + 1 < c := Nat.lt_of_lt_of_le (Nat.succ_lt_succ h) hc
theorem ult {A : Around} {e : Env} (h : A.units < 4000) : (A.deeper e).units + 64 < cLine := by simp only [units_deeper, cLine]; omega
end RS
end

section
open PySem PySem.W PySem.Calls PyProof.Rows
open Sem (wp)
set_option maxRecDepth 100000
set_option maxHeartbeats 0
namespace RS

abbrev rngO (a b : Int) (t u v : Tok) : Obj := { cls := .type "range", dict := none, data := .fields #[.int a t, .int b u, .int 1 v], slots := #[] }

namespace FX
theorem entry_range_ga : entryFor table "range.__getattribute__" = some Builtin.«object.__getattribute__» :=
  entryFor_alias (id' := "object.__getattribute__") (by kernel_rfl) (by first | rfl | decide +kernel) (by decide +kernel) (by kernel_rfl)
theorem lk_start : typeLookup (.type "range") "start" = pure (some (.builtin "range.start")) := by rw [typeLookup_type, builtinLookup_eq_fast]; kernel_rfl
theorem lk_stop : typeLookup (.type "range") "stop" = pure (some (.builtin "range.stop")) := by rw [typeLookup_type, builtinLookup_eq_fast]; kernel_rfl
theorem lk_step : typeLookup (.type "range") "step" = pure (some (.builtin "range.step")) := by rw [typeLookup_type, builtinLookup_eq_fast]; kernel_rfl
theorem ty_start : typeOf (.builtin "range.start") = pure (.type "member_descriptor") := by show builtinType _ = _; rw [builtinType_eq_fast]; kernel_rfl
theorem ty_stop : typeOf (.builtin "range.stop") = pure (.type "member_descriptor") := by show builtinType _ = _; rw [builtinType_eq_fast]; kernel_rfl
theorem ty_step : typeOf (.builtin "range.step") = pure (.type "member_descriptor") := by show builtinType _ = _; rw [builtinType_eq_fast]; kernel_rfl
theorem entry_start : entryFor table "range.start" = some Builtin.«range.start» := entryFor_of_tree (by kernel_rfl)
theorem entry_stop : entryFor table "range.stop" = some Builtin.«range.stop» := entryFor_of_tree (by kernel_rfl)
theorem entry_step : entryFor table "range.step" = some Builtin.«range.step» := entryFor_of_tree (by kernel_rfl)
theorem own_start : (".".intercalate ("range.start".cutAt '.').dropLast) = "range" := by
  have e0 : "range.start".cutAt '.' = ["range", "start"] := by first | rfl | decide +kernel
  rw [e0]; decide +kernel
theorem own_stop : (".".intercalate ("range.stop".cutAt '.').dropLast) = "range" := by
  have e0 : "range.stop".cutAt '.' = ["range", "stop"] := by first | rfl | decide +kernel
  rw [e0]; decide +kernel
theorem own_step : (".".intercalate ("range.step".cutAt '.').dropLast) = "range" := by
  have e0 : "range.step".cutAt '.' = ["range", "step"] := by first | rfl | decide +kernel
  rw [e0]; decide +kernel
theorem sub_rr : isSubtype (.type "range") (.type "range") = pure true := by rw [isSubtype_type]; kernel_rfl
theorem slot_mem_set : Slot "member_descriptor" "__set__" "member_descriptor.__set__" := KF.slot_mset
end FX

section
variable {prog : Program} {w : World} {A : Around} {E : Value → Shared → Prop} {h : Heap} {g : Array GenState} {d : Drawn} {t : Nat} {os : OsState} {a : Addr} {lo hi : Int} {t1 t2 t3 : Tok}

theorem start_get {R : Result → Shared → Prop} (hx : h.get? a = some (rngO lo hi t1 t2 t3)) (hq : R (.ok (.ret (.int lo t1))) ⟨h, g, d, t, os⟩) :
    codeAny (model prog w) A (.call (.builtin "member_descriptor.__get__") ⟨[.builtin "range.start", .ref a, .type "range"], []⟩) R ⟨h, g, d, t, os⟩ := by
  have hT : (⟨h, g, d, t, os⟩ : Shared).TypeIs (.ref a) "range" := ⟨_, hx, rfl⟩
  have hT5 : (⟨h, g, d, t, os⟩ : Shared).TypeIs (.builtin "range.start") "member_descriptor" := FX.ty_start
  have f8 : isSubtype (.type "range") (.type (".".intercalate ("range.start".cutAt '.').dropLast)) = pure true := by rw [FX.own_start]; exact FX.sub_rr
  refine codeAny_call_builtin KF.slot_mem.plain KF.entry_mem (KF.slot_mem.check _ _ _ _ _ _ _ _ hT5 (KF.args_mem _ _ _) ?_)
  repeat (any_goals (first | assumption | wp_step))
  refine ⟨Code.quiet_builtin _ (by decide +kernel), codeAny_builtin FX.entry_start ?_⟩
  unfold Builtin.«range.start»
  repeat (any_goals (first | assumption | with_reducible refine wpAny_field hx rfl rfl ?_ | wp_step))

theorem start_entry {tk : Tok} {Q : Fin → Shared → Prop} (hx : h.get? a = some (rngO lo hi t1 t2 t3)) (hq : Q (.done (.ret (.int lo t1))) ⟨h, g, d, t, os⟩) :
    wpAny (model prog w) A (Builtin.«object.__getattribute__» ⟨[.ref a, .str "start" tk], []⟩) Q E ⟨h, g, d, t, os⟩ := by
  have hT : (⟨h, g, d, t, os⟩ : Shared).TypeIs (.ref a) "range" := ⟨_, hx, rfl⟩
  have hT5 : (⟨h, g, d, t, os⟩ : Shared).TypeIs (.builtin "range.start") "member_descriptor" := FX.ty_start
  have f4 := FX.lk_start
  have f5 := FX.ty_start
  have f6 := KF.slot_mem.lookup
  have f7 := KF.slot_mset.lookup
  repeat (any_goals (first | assumption | wp_step))
  refine start_get hx ?_
  repeat (any_goals (first | assumption | wp_step))

theorem start_call {tk : Tok} {R : Result → Shared → Prop} (hx : h.get? a = some (rngO lo hi t1 t2 t3)) (hq : R (.ok (.ret (.int lo t1))) ⟨h, g, d, t, os⟩) :
    codeAny (model prog w) A (.call (.builtin "range.__getattribute__") ⟨[.ref a, .str "start" tk], []⟩) R ⟨h, g, d, t, os⟩ :=
  codeAny_call_builtin F.slot_range_getattribute.plain FX.entry_range_ga (F.slot_range_getattribute.check _ _ _ _ _ _ _ _ (show (⟨h, g, d, t, os⟩ : Shared).TypeIs (.ref a) "range" from ⟨_, hx, rfl⟩) (F.args_range_getattribute_2 _ _) (start_entry hx hq))

theorem start_by {tk : Tok} {fill expr : Bool} {Q : Value → Shared → Prop} (hx : h.get? a = some (rngO lo hi t1 t2 t3))
    (hq : Q (.int lo t1) ⟨h, g, d, t, os⟩) : wpAny (model prog w) A (getAttrBy (.ref a) (.str "start" tk) fill expr) Q E ⟨h, g, d, t, os⟩ := by
  have hT : (⟨h, g, d, t, os⟩ : Shared).TypeIs (.ref a) "range" := ⟨_, hx, rfl⟩
  have f2 := F.slot_range_getattribute.lookup
  have f3 := F.slot_range_getattribute.bind (.ref a)
  have hx0 : (expr && onTheHeap (Value.builtin "range.__getattribute__")) = false := by cases expr <;> rfl
  repeat (any_goals (first | assumption | wp_step))
  refine start_call hx ?_
  repeat (any_goals (first | assumption | wp_step))

theorem start_attr {expr : Bool} {Q : Value → Shared → Prop} (hx : h.get? a = some (rngO lo hi t1 t2 t3))
    (hq : Q (.int lo t1) ⟨h, g, d, t + 1, os⟩) : wpAny (model prog w) A (getAttr (.ref a) "start" expr) Q E ⟨h, g, d, t, os⟩ := by
  unfold getAttr
  repeat (any_goals (first | assumption | with_reducible apply start_by hx | wp_step))
theorem stop_get {R : Result → Shared → Prop} (hx : h.get? a = some (rngO lo hi t1 t2 t3)) (hq : R (.ok (.ret (.int hi t2))) ⟨h, g, d, t, os⟩) :
    codeAny (model prog w) A (.call (.builtin "member_descriptor.__get__") ⟨[.builtin "range.stop", .ref a, .type "range"], []⟩) R ⟨h, g, d, t, os⟩ := by
  have hT : (⟨h, g, d, t, os⟩ : Shared).TypeIs (.ref a) "range" := ⟨_, hx, rfl⟩
  have hT5 : (⟨h, g, d, t, os⟩ : Shared).TypeIs (.builtin "range.stop") "member_descriptor" := FX.ty_stop
  have f8 : isSubtype (.type "range") (.type (".".intercalate ("range.stop".cutAt '.').dropLast)) = pure true := by rw [FX.own_stop]; exact FX.sub_rr
  refine codeAny_call_builtin KF.slot_mem.plain KF.entry_mem (KF.slot_mem.check _ _ _ _ _ _ _ _ hT5 (KF.args_mem _ _ _) ?_)
  repeat (any_goals (first | assumption | wp_step))
  refine ⟨Code.quiet_builtin _ (by decide +kernel), codeAny_builtin FX.entry_stop ?_⟩
  unfold Builtin.«range.stop»
  repeat (any_goals (first | assumption | with_reducible refine wpAny_field hx rfl rfl ?_ | wp_step))

theorem stop_entry {tk : Tok} {Q : Fin → Shared → Prop} (hx : h.get? a = some (rngO lo hi t1 t2 t3)) (hq : Q (.done (.ret (.int hi t2))) ⟨h, g, d, t, os⟩) :
    wpAny (model prog w) A (Builtin.«object.__getattribute__» ⟨[.ref a, .str "stop" tk], []⟩) Q E ⟨h, g, d, t, os⟩ := by
  have hT : (⟨h, g, d, t, os⟩ : Shared).TypeIs (.ref a) "range" := ⟨_, hx, rfl⟩
  have hT5 : (⟨h, g, d, t, os⟩ : Shared).TypeIs (.builtin "range.stop") "member_descriptor" := FX.ty_stop
  have f4 := FX.lk_stop
  have f5 := FX.ty_stop
  have f6 := KF.slot_mem.lookup
  have f7 := KF.slot_mset.lookup
  repeat (any_goals (first | assumption | wp_step))
  refine stop_get hx ?_
  repeat (any_goals (first | assumption | wp_step))

theorem stop_call {tk : Tok} {R : Result → Shared → Prop} (hx : h.get? a = some (rngO lo hi t1 t2 t3)) (hq : R (.ok (.ret (.int hi t2))) ⟨h, g, d, t, os⟩) :
    codeAny (model prog w) A (.call (.builtin "range.__getattribute__") ⟨[.ref a, .str "stop" tk], []⟩) R ⟨h, g, d, t, os⟩ :=
  codeAny_call_builtin F.slot_range_getattribute.plain FX.entry_range_ga (F.slot_range_getattribute.check _ _ _ _ _ _ _ _ (show (⟨h, g, d, t, os⟩ : Shared).TypeIs (.ref a) "range" from ⟨_, hx, rfl⟩) (F.args_range_getattribute_2 _ _) (stop_entry hx hq))

theorem stop_by {tk : Tok} {fill expr : Bool} {Q : Value → Shared → Prop} (hx : h.get? a = some (rngO lo hi t1 t2 t3))
    (hq : Q (.int hi t2) ⟨h, g, d, t, os⟩) : wpAny (model prog w) A (getAttrBy (.ref a) (.str "stop" tk) fill expr) Q E ⟨h, g, d, t, os⟩ := by
  have hT : (⟨h, g, d, t, os⟩ : Shared).TypeIs (.ref a) "range" := ⟨_, hx, rfl⟩
  have f2 := F.slot_range_getattribute.lookup
  have f3 := F.slot_range_getattribute.bind (.ref a)
  have hx0 : (expr && onTheHeap (Value.builtin "range.__getattribute__")) = false := by cases expr <;> rfl
  repeat (any_goals (first | assumption | wp_step))
  refine stop_call hx ?_
  repeat (any_goals (first | assumption | wp_step))

theorem stop_attr {expr : Bool} {Q : Value → Shared → Prop} (hx : h.get? a = some (rngO lo hi t1 t2 t3))
    (hq : Q (.int hi t2) ⟨h, g, d, t + 1, os⟩) : wpAny (model prog w) A (getAttr (.ref a) "stop" expr) Q E ⟨h, g, d, t, os⟩ := by
  unfold getAttr
  repeat (any_goals (first | assumption | with_reducible apply stop_by hx | wp_step))
theorem step_get {R : Result → Shared → Prop} (hx : h.get? a = some (rngO lo hi t1 t2 t3)) (hq : R (.ok (.ret (.int 1 t3))) ⟨h, g, d, t, os⟩) :
    codeAny (model prog w) A (.call (.builtin "member_descriptor.__get__") ⟨[.builtin "range.step", .ref a, .type "range"], []⟩) R ⟨h, g, d, t, os⟩ := by
  have hT : (⟨h, g, d, t, os⟩ : Shared).TypeIs (.ref a) "range" := ⟨_, hx, rfl⟩
  have hT5 : (⟨h, g, d, t, os⟩ : Shared).TypeIs (.builtin "range.step") "member_descriptor" := FX.ty_step
  have f8 : isSubtype (.type "range") (.type (".".intercalate ("range.step".cutAt '.').dropLast)) = pure true := by rw [FX.own_step]; exact FX.sub_rr
  refine codeAny_call_builtin KF.slot_mem.plain KF.entry_mem (KF.slot_mem.check _ _ _ _ _ _ _ _ hT5 (KF.args_mem _ _ _) ?_)
  repeat (any_goals (first | assumption | wp_step))
  refine ⟨Code.quiet_builtin _ (by decide +kernel), codeAny_builtin FX.entry_step ?_⟩
  unfold Builtin.«range.step»
  repeat (any_goals (first | assumption | with_reducible refine wpAny_field hx rfl rfl ?_ | wp_step))

theorem step_entry {tk : Tok} {Q : Fin → Shared → Prop} (hx : h.get? a = some (rngO lo hi t1 t2 t3)) (hq : Q (.done (.ret (.int 1 t3))) ⟨h, g, d, t, os⟩) :
    wpAny (model prog w) A (Builtin.«object.__getattribute__» ⟨[.ref a, .str "step" tk], []⟩) Q E ⟨h, g, d, t, os⟩ := by
  have hT : (⟨h, g, d, t, os⟩ : Shared).TypeIs (.ref a) "range" := ⟨_, hx, rfl⟩
  have hT5 : (⟨h, g, d, t, os⟩ : Shared).TypeIs (.builtin "range.step") "member_descriptor" := FX.ty_step
  have f4 := FX.lk_step
  have f5 := FX.ty_step
  have f6 := KF.slot_mem.lookup
  have f7 := KF.slot_mset.lookup
  repeat (any_goals (first | assumption | wp_step))
  refine step_get hx ?_
  repeat (any_goals (first | assumption | wp_step))

theorem step_call {tk : Tok} {R : Result → Shared → Prop} (hx : h.get? a = some (rngO lo hi t1 t2 t3)) (hq : R (.ok (.ret (.int 1 t3))) ⟨h, g, d, t, os⟩) :
    codeAny (model prog w) A (.call (.builtin "range.__getattribute__") ⟨[.ref a, .str "step" tk], []⟩) R ⟨h, g, d, t, os⟩ :=
  codeAny_call_builtin F.slot_range_getattribute.plain FX.entry_range_ga (F.slot_range_getattribute.check _ _ _ _ _ _ _ _ (show (⟨h, g, d, t, os⟩ : Shared).TypeIs (.ref a) "range" from ⟨_, hx, rfl⟩) (F.args_range_getattribute_2 _ _) (step_entry hx hq))

theorem step_by {tk : Tok} {fill expr : Bool} {Q : Value → Shared → Prop} (hx : h.get? a = some (rngO lo hi t1 t2 t3))
    (hq : Q (.int 1 t3) ⟨h, g, d, t, os⟩) : wpAny (model prog w) A (getAttrBy (.ref a) (.str "step" tk) fill expr) Q E ⟨h, g, d, t, os⟩ := by
  have hT : (⟨h, g, d, t, os⟩ : Shared).TypeIs (.ref a) "range" := ⟨_, hx, rfl⟩
  have f2 := F.slot_range_getattribute.lookup
  have f3 := F.slot_range_getattribute.bind (.ref a)
  have hx0 : (expr && onTheHeap (Value.builtin "range.__getattribute__")) = false := by cases expr <;> rfl
  repeat (any_goals (first | assumption | wp_step))
  refine step_call hx ?_
  repeat (any_goals (first | assumption | wp_step))

theorem step_attr {expr : Bool} {Q : Value → Shared → Prop} (hx : h.get? a = some (rngO lo hi t1 t2 t3))
    (hq : Q (.int 1 t3) ⟨h, g, d, t + 1, os⟩) : wpAny (model prog w) A (getAttr (.ref a) "step" expr) Q E ⟨h, g, d, t, os⟩ := by
  unfold getAttr
  repeat (any_goals (first | assumption | with_reducible apply step_by hx | wp_step))
end
end RS
end

section
open PySem PySem.W PySem.Calls PyProof.Rows
open Sem (wp)
set_option maxRecDepth 100000
set_option maxHeartbeats 0
set_option linter.unusedVariables false
namespace RS

theorem news_mono {g h : Heap} {L : Addr} {a b : List (Addr × Obj)} (N : News g L h b) (k : ∀ p ∈ a, p ∈ b) : News g L h a := fun p hp => N p (k p hp)
theorem news_cons {g h : Heap} {L d : Addr} {o : Obj} {a b : List (Addr × Obj)} (N : News g L h b) (k : (d, o) ∈ b) (r : News g L h a) : News g L h ((d, o) :: a) := fun p hp => by
  rcases List.mem_cons.mp hp with rfl | hp
  · exact N _ k
  · exact r p hp
theorem news_keepI {g h h' : Heap} {L I : Addr} {a : List (Addr × Obj)} (N : News g L h a) (off : ∀ p ∈ a, p.1 ≠ I) (k : ∀ b o, b ∉ [I] → h.get? b = some o → h'.get? b = some o) : News g L h' a :=
  fun p hp => ⟨k _ _ (fun e => off p hp (List.mem_singleton.mp e)) (N p hp).1, (N p hp).2⟩
theorem fr_keepI {g h h' : Heap} {L I : Addr} {m : Str → Option Value} (F : Fr g L h m) (hL : L ≠ I) (hg : g.get? I = none) (k : ∀ b o, b ∉ [I] → h.get? b = some o → h'.get? b = some o) : Fr g L h' m :=
  ⟨F.ns.at' fun o e => k _ _ (fun q => hL (List.mem_singleton.mp q)) e, fun b o e => k _ _ (fun q => by rw [List.mem_singleton.mp q, hg] at e; cases e) (F.keep b o e), F.above⟩
/-- what a turn must leave -/
def RTurn (g : Heap) (L I : Addr) (oI : Obj) (J : (Str → Option Value) → List (Addr × Obj) → Prop) (s : Shared) (Q : Flow → Shared → Prop) (f : Flow) (s₃ : Shared) : Prop :=
  match f with
  | .ret v => Q (.ret v) s₃
  | .brk => Q .next s₃
  | _ => ∃ h' tk' m'' news'', s₃ = { s with heap := h', toks := tk' } ∧ Fr g L h' m'' ∧ News g L h' ((I, oI) :: news'') ∧ (∀ p ∈ news'', p.1 ≠ I) ∧ J m'' news''

section
variable {prog : Program} {w : World} {A : Around} {s : Shared} {env : Env} {g : Heap} {body : List Stmt} {Q : Flow → Shared → Prop}

theorem loopN {I : Addr} {C : Obj → Prop} {fp : List Addr} {n : Nat} {P : Nat → Value → Prop} {St : Nat → Heap → Prop} {x : Str} {px : Pos} {m : Str → Option Value} {news fix : List (Addr × Obj)}
    (W : Walks prog w A I fp [I] n P St) (hx : env.kindOf x = some .local)
    (hp : (env.scope.kind == .class || (env.scope.kind == .module && env.locals != env.globals)) = false)
    (hLI : env.locals ≠ I) (hLf : env.locals ∉ fp) (hgI : g.get? I = none) (st : St 0 s.heap) (hsome : ∀ i h, St i h → ∃ o, h.get? I = some o ∧ C o) (F : Fr g env.locals s.heap m) (N : News g env.locals s.heap news) (off : ∀ p ∈ news, p.1 ≠ I)
    (hfp : ∀ b ∈ fp, b = I ∨ (∃ o, g.get? b = some o) ∨ ∃ o, (b, o) ∈ fix)
    (J : Nat → (Str → Option Value) → List (Addr × Obj) → Prop) (hfix : ∀ i m' news', J i m' news' → ∀ q ∈ fix, q ∈ news') (j0 : J 0 m news)
    (turn : ∀ i v oI m' news' h tk, C oI → i < n → P i v → J i m' news' → (∀ p ∈ news', p.1 ≠ I) → Fr g env.locals h (fun y => if y = x then some v else m' y) → News g env.locals h ((I, oI) :: news') →
      wpAny (model prog w) A (execs body env) (RTurn g env.locals I oI (J (i + 1)) s Q) (fun _ _ => False) { s with heap := h, toks := tk })
    (done : ∀ m' news' h tk, J n m' news' → Fr g env.locals h m' → News g env.locals h news' → Q .next { s with heap := h, toks := tk }) {E : Value → Shared → Prop} :
    codeAny (model prog w) A (.forLoop (.Name x px) (.ref I) body [] env) (fun r s' => match r with | .ok f => Q f s' | .error e => cameBackBy (model prog w) A env E e s') s := by
  refine codeAny_forLoop_any (fun k s' => ∃ i h' tk' m' news', s' = { s with heap := h', toks := tk' } ∧ St i h' ∧ Fr g env.locals h' m' ∧ News g env.locals h' news' ∧ (∀ p ∈ news', p.1 ≠ I) ∧ J i m' news' ∧ i ≤ n ∧ k = n + 1 - i) ?_ (n + 1)
    ⟨0, s.heap, s.toks, m, news, rfl, st, F, N, off, j0, Nat.zero_le _, rfl⟩
  rintro k s' ⟨i, h', tk', m', news', rfl, st', F', N', off', j', hi, rfl⟩
  by_cases hlt : i < n
  · refine W.item i _ _ _ hlt st' fun v h₁ tk₁ hP st₁ k₁ => ?_
    replace k₁ : ∀ b o, b ∉ [I] → h'.get? b = some o → h₁.get? b = some o := k₁
    have F₁ := fr_keepI F' hLI hgI k₁
    have N₁ := news_keepI N' off' k₁
    show wpAny _ _ (letOwnedTupleGo (.Name x px) (.ref I) v) _ _ _
    refine wpAny_pure ?_
    refine wpAny_assign_Name (wpAny_storeName_local hx F₁.ns (fun h₂ hn₂ hs₂ => ?_) hp)
    replace hs₂ : Heap.SameBut env.locals h₁ h₂ := hs₂
    have F₂ := F₁.set hn₂ hs₂
    obtain ⟨oI, hoI, hC⟩ := hsome _ _ st₁
    have hoI₂ : h₂.get? I = some oI := (hs₂.2 I (Ne.symm hLI)).trans hoI
    have N₂ : News g env.locals h₂ ((I, oI) :: news') := fun q hq => by
      rcases List.mem_cons.mp hq with rfl | hq
      · exact ⟨hoI₂, Ne.symm hLI, hgI⟩
      · exact (N₁.set hs₂) q hq
    refine wpAny_mono (turn i v oI m' news' h₂ (tk₁ + 1) hC hlt hP j' off' F₂ N₂) (fun f s₃ h₃ => ?_) (fun _ _ x => x.elim)
    have fin : (∃ h'' tk'' m'' news'', s₃ = { s with heap := h'', toks := tk'' } ∧ Fr g env.locals h'' m'' ∧ News g env.locals h'' ((I, oI) :: news'') ∧ (∀ p ∈ news'', p.1 ≠ I) ∧ J (i + 1) m'' news'') →
        ∃ m, m < n + 1 - i ∧ ∃ i h' tk' m' news', s₃ = { s with heap := h', toks := tk' } ∧ St i h' ∧ Fr g env.locals h' m' ∧ News g env.locals h' news' ∧ (∀ p ∈ news', p.1 ≠ I) ∧ J i m' news' ∧ i ≤ n ∧ m = n + 1 - i := by
      rintro ⟨h'', tk'', m'', news'', rfl, F'', N'', off'', j''⟩
      refine ⟨n + 1 - (i + 1), by omega, i + 1, h'', tk'', m'', news'', rfl, W.frame _ _ _ st₁ fun b hb o e => ?_, F'', fun q hq => N'' q (.tail _ hq), off'', j'', hlt, rfl⟩
      rcases hfp b hb with rfl | ⟨o', e'⟩ | ⟨o', e'⟩
      · rw [hoI] at e; cases e; exact (N'' _ (.head _)).1
      · rw [F₁.keep b o' e'] at e; cases e; exact F''.keep _ _ e'
      · have h1 := (N₁ _ (hfix _ _ _ j' _ e')).1
        rw [h1] at e; cases e; exact (N'' _ (.tail _ (hfix _ _ _ j'' _ e'))).1
    cases f with
    | ret v => exact h₃
    | brk => exact h₃
    | next => exact fin h₃
    | cont => exact fin h₃
  · have hin : i = n := by omega
    subst hin
    refine W.done _ _ _ st' fun h₁ tk₁ k₁ => wpAny_execs_nil ?_
    exact done m' news' h₁ tk₁ j' (fr_keepI F' hLI hgI k₁) (news_keepI N' off' k₁)


/-- what a turn must leave, iterators' own objects apart -/
def RTurnW (g : Heap) (L : Addr) (wr : List Addr) (own : List (Addr × Obj)) (J : (Str → Option Value) → List (Addr × Obj) → Prop) (s : Shared) (Q : Flow → Shared → Prop) (f : Flow) (s₃ : Shared) : Prop :=
  match f with
  | .ret v => Q (.ret v) s₃
  | .brk => Q .next s₃
  | _ => ∃ h' tk' m'' news'', s₃ = { s with heap := h', toks := tk' } ∧ Fr g L h' m'' ∧ News g L h' (own ++ news'') ∧ (∀ p ∈ news'', p.1 ∉ wr) ∧ J m'' news''

/-- the target takes a tuple's places -/
def Assigns (prog : Program) (w : World) (A : Around) (env : Env) (target : Expr) (upd : Array Value → (Str → Option Value) → (Str → Option Value)) (Pt : Array Value → Prop) : Prop :=
  ∀ (g : Heap) (s : Shared) (T : Addr) (vals : Array Value) (m : Str → Option Value) (Q : Unit → Shared → Prop), Pt vals → s.heap.IsTuple T vals → Fr g env.locals s.heap m →
    (∀ h' tk', (∀ b o, b ≠ env.locals → s.heap.get? b = some o → h'.get? b = some o) → Fr g env.locals h' (upd vals m) → Q () { s with heap := h', toks := tk' }) →
    wpAny (model prog w) A (assign target env (.ref T)) Q (fun _ _ => False) s

theorem assigns2 (hh : A.handled = none) {x y : Str} {px py pt : Pos} {k : Nat} {Pt : Array Value → Prop} (hx : env.kindOf x = some .local) (hy : env.kindOf y = some .local)
    (hp : (env.scope.kind == .class || (env.scope.kind == .module && env.locals != env.globals)) = false) (hP : ∀ v, Pt v → ∃ a b, v = #[a, b]) :
    Assigns prog w A env (.Tuple [.Name x px, .Name y py] k pt) (fun v m z => if z = y then v[1]? else if z = x then v[0]? else m z) Pt := by
  intro g s T vals m Q hv hT F hQ
  obtain ⟨a, b, rfl⟩ := hP _ hv
  refine wpAny_assign_Tuple hh hT rfl rfl fun h₃ hx₃ => ?_
  replace hx₃ : Heap.ExtBut s.heap.objs.size s.heap h₃ := hx₃
  have k₃ : ∀ b o, s.heap.get? b = some o → h₃.get? b = some o := fun b o e => hx₃ b o (Nat.ne_of_lt (Heap.lt_size e)) e
  have n₃ : h₃.Ns env.locals m := F.ns.keeps k₃
  show wpAny _ A (do holding [b] (assign (.Name x px) env a); do holding [] (assign (.Name y py) env b); pure ()) _ _ _
  refine wpAny_bind (wpAny_holding (wpAny_assign_Name (wpAny_storeName_local hx n₃ (fun h₄ hn₄ hs₄ => ?_) hp)))
  replace hs₄ : Heap.SameBut env.locals h₃ h₄ := hs₄
  refine wpAny_bind (wpAny_holding (wpAny_assign_Name (wpAny_storeName_local hy hn₄ (fun h₅ hn₅ hs₅ => wpAny_pure ?_) hp)))
  replace hs₅ : Heap.SameBut env.locals h₄ h₅ := hs₅
  have k : ∀ b o, b ≠ env.locals → s.heap.get? b = some o → h₅.get? b = some o := fun b o hb e => (hs₅.2 b hb).trans ((hs₄.2 b hb).trans (k₃ b o e))
  exact hQ h₅ _ k ⟨hn₅, fun b o e => k b o (Nat.ne_of_lt (Nat.lt_of_lt_of_le (Heap.lt_size e) F.above)) (F.keep b o e), F.above⟩

theorem assigns3 (hh : A.handled = none) {x y z : Str} {px py pz pt : Pos} {k : Nat} {Pt : Array Value → Prop} (hx : env.kindOf x = some .local) (hy : env.kindOf y = some .local) (hz : env.kindOf z = some .local)
    (hp : (env.scope.kind == .class || (env.scope.kind == .module && env.locals != env.globals)) = false) (hP : ∀ v, Pt v → ∃ a b c, v = #[a, b, c]) :
    Assigns prog w A env (.Tuple [.Name x px, .Name y py, .Name z pz] k pt) (fun v m u => if u = z then v[2]? else if u = y then v[1]? else if u = x then v[0]? else m u) Pt := by
  intro g s T vals m Q hv hT F hQ
  obtain ⟨a, b, c, rfl⟩ := hP _ hv
  refine wpAny_assign_Tuple hh hT rfl rfl fun h₃ hx₃ => ?_
  replace hx₃ : Heap.ExtBut s.heap.objs.size s.heap h₃ := hx₃
  have k₃ : ∀ b o, s.heap.get? b = some o → h₃.get? b = some o := fun b o e => hx₃ b o (Nat.ne_of_lt (Heap.lt_size e)) e
  have n₃ : h₃.Ns env.locals m := F.ns.keeps k₃
  show wpAny _ A (do holding [b, c] (assign (.Name x px) env a); do holding [c] (assign (.Name y py) env b); do holding [] (assign (.Name z pz) env c); pure ()) _ _ _
  refine wpAny_bind (wpAny_holding (wpAny_assign_Name (wpAny_storeName_local hx n₃ (fun h₄ hn₄ hs₄ => ?_) hp)))
  replace hs₄ : Heap.SameBut env.locals h₃ h₄ := hs₄
  refine wpAny_bind (wpAny_holding (wpAny_assign_Name (wpAny_storeName_local hy hn₄ (fun h₅ hn₅ hs₅ => ?_) hp)))
  replace hs₅ : Heap.SameBut env.locals h₄ h₅ := hs₅
  refine wpAny_bind (wpAny_holding (wpAny_assign_Name (wpAny_storeName_local hz hn₅ (fun h₆ hn₆ hs₆ => wpAny_pure ?_) hp)))
  replace hs₆ : Heap.SameBut env.locals h₅ h₆ := hs₆
  have k : ∀ b o, b ≠ env.locals → s.heap.get? b = some o → h₆.get? b = some o := fun b o hb e => (hs₆.2 b hb).trans ((hs₅.2 b hb).trans ((hs₄.2 b hb).trans (k₃ b o e)))
  exact hQ h₆ _ k ⟨hn₆, fun b o e => k b o (Nat.ne_of_lt (Nat.lt_of_lt_of_le (Heap.lt_size e) F.above)) (F.keep b o e), F.above⟩

theorem loopT {I : Addr} {C : Obj → Prop} {fp wr : List Addr} {n : Nat} {Pt : Nat → Array Value → Prop} {St : Nat → Heap → Prop} {Mid : Nat → Addr → Heap → Prop} {elts : List Expr} {kk : Nat} {pt : Pos} {m : Str → Option Value} {news fix : List (Addr × Obj)}
    {upd : Array Value → (Str → Option Value) → (Str → Option Value)}
    (W : WalksU prog w A I fp wr n Pt St Mid) (hAs : ∀ i, Assigns prog w A env (.Tuple elts kk pt) upd (Pt i))
    (hLf : env.locals ∉ fp) (hgI : ∀ b ∈ wr, g.get? b = none) (st : St 0 s.heap) (hsome : ∀ i h, St i h → ∀ b ∈ wr, ∃ o, h.get? b = some o ∧ C o) (F : Fr g env.locals s.heap m) (N : News g env.locals s.heap news) (off : ∀ p ∈ news, p.1 ∉ wr)
    (hfp : ∀ b ∈ fp, b ∈ wr ∨ (∃ o, g.get? b = some o) ∨ ∃ o, (b, o) ∈ fix)
    (J : Nat → (Str → Option Value) → List (Addr × Obj) → Prop) (hfix : ∀ i m' news', J i m' news' → ∀ q ∈ fix, q ∈ news') (j0 : J 0 m news)
    (turn : ∀ i vals own m' news' h tk, (∀ p ∈ own, C p.2) → i < n → Pt i vals → own.map (·.1) = wr → J i m' news' → (∀ p ∈ news', p.1 ∉ wr) → Fr g env.locals h (upd vals m') → News g env.locals h (own ++ news') →
      wpAny (model prog w) A (execs body env) (RTurnW g env.locals wr own (J (i + 1)) s Q) (fun _ _ => False) { s with heap := h, toks := tk })
    (done : ∀ m' news' h tk, J n m' news' → Fr g env.locals h m' → News g env.locals h news' → Q .next { s with heap := h, toks := tk }) {E : Value → Shared → Prop} :
    codeAny (model prog w) A (.forLoop (.Tuple elts kk pt) (.ref I) body [] env) (fun r s' => match r with | .ok f => Q f s' | .error e => cameBackBy (model prog w) A env E e s') s := by
  have keepN : ∀ {h h' : Heap} {a : List (Addr × Obj)}, News g env.locals h a → (∀ p ∈ a, p.1 ∉ wr) → (∀ b o, b ∉ wr → h.get? b = some o → h'.get? b = some o) → News g env.locals h' a :=
    fun N off k p hp => ⟨k _ _ (off p hp) (N p hp).1, (N p hp).2⟩
  have hLw : env.locals ∉ wr := fun q => hLf (W.sub _ q)
  have keepF : ∀ {h h' : Heap} {m : Str → Option Value}, Fr g env.locals h m → (∀ b o, b ∉ wr → h.get? b = some o → h'.get? b = some o) → Fr g env.locals h' m :=
    fun F k => ⟨F.ns.at' fun o e => k _ _ hLw e, fun b o e => k _ _ (fun q => by rw [hgI b q] at e; cases e) (F.keep b o e), F.above⟩
  refine codeAny_forLoop_any (fun k s' => ∃ i h' tk' m' news', s' = { s with heap := h', toks := tk' } ∧ St i h' ∧ Fr g env.locals h' m' ∧ News g env.locals h' news' ∧ (∀ p ∈ news', p.1 ∉ wr) ∧ J i m' news' ∧ i ≤ n ∧ k = n + 1 - i) ?_ (n + 1)
    ⟨0, s.heap, s.toks, m, news, rfl, st, F, N, off, j0, Nat.zero_le _, rfl⟩
  rintro k s' ⟨i, h', tk', m', news', rfl, st', F', N', off', j', hi, rfl⟩
  by_cases hlt : i < n
  · refine W.item i _ _ _ hlt st' fun T vals h₁ tk₁ hP hT₁ mid₁ k₁ => ?_
    replace k₁ : ∀ b o, b ∉ wr → h'.get? b = some o → h₁.get? b = some o := k₁
    refine W.go elts kk pt i T _ _ _ mid₁ fun h₂ st₂ k₂ => ?_
    replace k₂ : ∀ b o, b ∉ wr → h₁.get? b = some o → h₂.get? b = some o := k₂
    have hT₂ : h₂.IsTuple T vals := hT₁.at fun o e => k₂ T o (W.apart _ _ _ mid₁) e
    have F₂ := keepF (keepF F' k₁) k₂
    have N₂ := keepN (keepN N' off' k₁) off' k₂
    refine hAs i g _ T vals m' _ hP hT₂ F₂ (fun h₃ tk₃ k₃ F₃ => ?_) |> fun h => wpAny_mono h (fun _ _ x => x) (fun _ _ x => x.elim)
    replace k₃ : ∀ b o, b ≠ env.locals → h₂.get? b = some o → h₃.get? b = some o := k₃
    have hown : ∃ own : List (Addr × Obj), own.map (·.1) = wr ∧ (∀ p ∈ own, h₂.get? p.1 = some p.2 ∧ C p.2) := by
      have : ∀ l : List Addr, (∀ b ∈ l, ∃ o, h₂.get? b = some o ∧ C o) → ∃ own : List (Addr × Obj), own.map (·.1) = l ∧ (∀ p ∈ own, h₂.get? p.1 = some p.2 ∧ C p.2) := by
        intro l
        induction l with
        | nil => exact fun _ => ⟨[], rfl, fun _ h => nomatch h⟩
        | cons a l ih =>
          intro hl
          obtain ⟨o, ho⟩ := hl a (.head _)
          obtain ⟨own, e, q⟩ := ih fun b hb => hl b (.tail _ hb)
          exact ⟨(a, o) :: own, by rw [List.map_cons, e], fun p hp => by
            rcases List.mem_cons.mp hp with rfl | hp
            · exact ho
            · exact q p hp⟩
      exact this wr (hsome _ _ st₂)
    obtain ⟨own, hmap, hgetC⟩ := hown
    have hget : ∀ p ∈ own, h₂.get? p.1 = some p.2 := fun p hp => (hgetC p hp).1
    have hmem : ∀ p ∈ own, p.1 ∈ wr := fun p hp => hmap ▸ List.mem_map_of_mem hp
    have N₃ : News g env.locals h₃ (own ++ news') := fun q hq => by
      rcases List.mem_append.mp hq with hq | hq
      · exact ⟨k₃ _ _ (fun e => hLw (e ▸ hmem q hq)) (hget q hq), fun e => hLw (e ▸ hmem q hq), hgI _ (hmem q hq)⟩
      · exact ⟨k₃ _ _ (N₂ q hq).2.1 (N₂ q hq).1, (N₂ q hq).2⟩
    refine wpAny_mono (turn i vals own m' news' h₃ tk₃ (fun p hp => (hgetC p hp).2) hlt hP hmap j' off' F₃ N₃) (fun f s₃ h₃' => ?_) (fun _ _ x => x.elim)
    have fin : (∃ h'' tk'' m'' news'', s₃ = { s with heap := h'', toks := tk'' } ∧ Fr g env.locals h'' m'' ∧ News g env.locals h'' (own ++ news'') ∧ (∀ p ∈ news'', p.1 ∉ wr) ∧ J (i + 1) m'' news'') →
        ∃ m, m < n + 1 - i ∧ ∃ i h' tk' m' news', s₃ = { s with heap := h', toks := tk' } ∧ St i h' ∧ Fr g env.locals h' m' ∧ News g env.locals h' news' ∧ (∀ p ∈ news', p.1 ∉ wr) ∧ J i m' news' ∧ i ≤ n ∧ m = n + 1 - i := by
      rintro ⟨h'', tk'', m'', news'', rfl, F'', N'', off'', j''⟩
      refine ⟨n + 1 - (i + 1), by omega, i + 1, h'', tk'', m'', news'', rfl, W.frame _ _ _ st₂ fun b hb o e => ?_, F'', fun q hq => N'' q (List.mem_append_right _ hq), off'', j'', hlt, rfl⟩
      rcases hfp b hb with hw | ⟨o', e'⟩ | ⟨o', e'⟩
      · rw [← hmap] at hw
        obtain ⟨q, hq, rfl⟩ := List.mem_map.mp hw
        rw [hget q hq] at e; cases e
        exact (N'' q (List.mem_append_left _ hq)).1
      · rw [F₂.keep b o' e'] at e; cases e; exact F''.keep _ _ e'
      · have h1 := (N₂ _ (hfix _ _ _ j' _ e')).1
        rw [h1] at e; cases e; exact (N'' _ (List.mem_append_right _ (hfix _ _ _ j'' _ e'))).1
    cases f with
    | ret v => exact h₃'
    | brk => exact h₃'
    | next => exact fin h₃'
    | cont => exact fin h₃'
  · have hin : i = n := by omega
    subst hin
    refine W.done _ _ _ st' fun h₁ tk₁ k₁ => wpAny_execs_nil ?_
    exact done m' news' h₁ tk₁ j' (keepF F' k₁) (keepN N' off' k₁)
end
end RS
end

section
open PySem PySem.W PySem.Calls PyProof.Rows
open Sem (wp)
set_option maxRecDepth 100000
set_option maxHeartbeats 0
set_option linter.unusedVariables false
namespace RS

theorem size_ne {h : Heap} {b : Addr} {o : Obj} (e : h.get? b = some o) : b ≠ h.objs.size := Nat.ne_of_lt (Heap.lt_size e)
theorem fresh_g {g h : Heap} {L : Addr} {m : Str → Option Value} (F : Fr g L h m) (n : Nat) (hn : h.objs.size ≤ n) : g.get? n = none := by
  cases e : g.get? n with
  | none => rfl
  | some o => exact absurd (Nat.lt_of_lt_of_le (Heap.lt_size (F.keep _ _ e)) hn) (Nat.lt_irrefl _)

section
variable {prog : Program} {w : World} {A : Around} {s : Shared} {env : Env} {g : Heap} {body : List Stmt} {Q : Flow → Shared → Prop} {E : Value → Shared → Prop}

/-- the continuation of a for behind pyIter -/
abbrev ForK (prog : Program) (w : World) (A : Around) (env : Env) (target : Expr) (body : List Stmt) (Q : Flow → Shared → Prop) (E : Value → Shared → Prop) (it : Value) (s₂ : Shared) : Prop :=
  codeAny (model prog w) A (.forLoop target it body [] env) (fun r s' => match r with | .ok f => Q f s' | .error e => cameBackBy (model prog w) A env E e s') s₂

theorem for_listit {x : Str} {px : Pos} {m : Str → Option Value} {news fix : List (Addr × Obj)} {l I : Addr} {vs : List Value} (hh : A.handled = none) (hx : env.kindOf x = some .local)
    (hp : (env.scope.kind == .class || (env.scope.kind == .module && env.locals != env.globals)) = false)
    (hl : s.heap.IsList l vs.toArray) (hli : s.heap.IsListIter I l 0) (hgI : g.get? I = none) (hIL : env.locals ≠ I) (hlL : l ≠ env.locals) (hk : (∃ o, g.get? l = some o) ∨ ∃ o, (l, o) ∈ fix) (F : Fr g env.locals s.heap m) (N : News g env.locals s.heap news) (off : ∀ p ∈ news, p.1 ≠ I)
    (J : Nat → (Str → Option Value) → List (Addr × Obj) → Prop) (hfix : ∀ i m' news', J i m' news' → ∀ q ∈ fix, q ∈ news') (j0 : J 0 m news)
    (turn : ∀ i v oI m' news' h tk, oI.cls = .type "list_iterator" → vs[i]? = some v → J i m' news' → (∀ p ∈ news', p.1 ≠ I) → Fr g env.locals h (fun y => if y = x then some v else m' y) → News g env.locals h ((I, oI) :: news') →
      wpAny (model prog w) A (execs body env) (RTurn g env.locals I oI (J (i + 1)) s Q) (fun _ _ => False) { s with heap := h, toks := tk })
    (done : ∀ m' news' h tk, J vs.length m' news' → Fr g env.locals h m' → News g env.locals h news' → Q .next { s with heap := h, toks := tk }) :
    ForK prog w A env (.Name x px) body Q E (.ref I) s := by
  obtain ⟨ol, hol, hlc, _⟩ := id hl
  obtain ⟨oi, hoi, hic, _⟩ := id hli
  have hne : l ≠ I := fun e => by subst e; rw [hol] at hoi; cases hoi; rw [hlc] at hic; exact absurd hic (by decide)
  have W := Walks.list (prog := prog) (w := w) hh I l hne vs.toArray
  refine loopN (C := fun o => o.cls = .type "list_iterator") (fix := fix) W hx hp hIL ?_ hgI ⟨hli, hl⟩ (fun i h st => let ⟨o, ho, hc, _⟩ := st.1; ⟨o, ho, hc⟩) F N off ?_ J hfix j0 ?_ ?_
  · intro hm
    rcases List.mem_cons.mp hm with e | hm
    · exact hIL e
    · exact hlL (List.mem_singleton.mp hm).symm
  · intro b hb
    rcases List.mem_cons.mp hb with rfl | hb
    · exact .inl rfl
    · rw [List.mem_singleton.mp hb]; exact .inr hk
  · intro i v oI m' news' h tk hC hi hP j off' F' N'
    exact turn i v oI m' news' h tk hC (by simpa using hP) j off' F' N'
  · intro m' news' h tk j F' N'
    exact done m' news' h tk (by simpa using j) F' N'

theorem for_list {x : Str} {px : Pos} {m : Str → Option Value} {news fix : List (Addr × Obj)} {l : Addr} {vs : List Value} (hh : A.handled = none) (hx : env.kindOf x = some .local)
    (hp : (env.scope.kind == .class || (env.scope.kind == .module && env.locals != env.globals)) = false)
    (hl : s.heap.IsList l vs.toArray) (hlL : l ≠ env.locals) (hk : (∃ o, g.get? l = some o) ∨ ∃ o, (l, o) ∈ fix) (F : Fr g env.locals s.heap m) (N : News g env.locals s.heap news)
    (J : Nat → (Str → Option Value) → List (Addr × Obj) → Prop) (hfix : ∀ i m' news', J i m' news' → ∀ q ∈ fix, q ∈ news') (j0 : J 0 m news)
    (turn : ∀ i v I oI m' news' h tk, oI.cls = .type "list_iterator" → vs[i]? = some v → J i m' news' → (∀ p ∈ news, p.1 < I) → (∀ p ∈ news', p.1 ≠ I) → Fr g env.locals h (fun y => if y = x then some v else m' y) → News g env.locals h ((I, oI) :: news') →
      wpAny (model prog w) A (execs body env) (RTurn g env.locals I oI (J (i + 1)) s Q) (fun _ _ => False) { s with heap := h, toks := tk })
    (done : ∀ m' news' h tk, J vs.length m' news' → Fr g env.locals h m' → News g env.locals h news' → Q .next { s with heap := h, toks := tk }) :
    wpAny (model prog w) A (pyIter (.ref l)) (ForK prog w A env (.Name x px) body Q E) E s := by
  refine wpAny_pyIter_list hl ?_
  have k : ∀ b o, s.heap.get? b = some o → (s.heap.push { cls := .type "list_iterator", data := .fields #[.ref l, .int 0 0] }).get? b = some o := fun b o e => Heap.get?_push_of_some _ e
  exact for_listit (s := { s with heap := s.heap.push { cls := .type "list_iterator", data := .fields #[.ref l, .int 0 0] } }) (I := s.heap.objs.size) hh hx hp (hl.at fun o e => k _ _ e) ⟨_, Heap.get?_push_size _ rfl, rfl, rfl⟩ (fresh_g F _ (Nat.le_refl _)) (Nat.ne_of_lt F.ns.lt) hlL hk (F.push _) (fun p hp => ⟨k _ _ (N p hp).1, (N p hp).2⟩)
    (fun p hp => size_ne (N p hp).1) J hfix j0 (fun i v oI m' news' h tk q a b c d e => turn i v _ oI m' news' h tk q a b (fun p hp => Heap.lt_size (N p hp).1) c d e) done

theorem for_tuple {x : Str} {px : Pos} {m : Str → Option Value} {news fix : List (Addr × Obj)} {l : Addr} {vs : List Value} (hh : A.handled = none) (hx : env.kindOf x = some .local)
    (hp : (env.scope.kind == .class || (env.scope.kind == .module && env.locals != env.globals)) = false)
    (hl : s.heap.IsTuple l vs.toArray) (hlL : l ≠ env.locals) (hk : (∃ o, g.get? l = some o) ∨ ∃ o, (l, o) ∈ fix) (F : Fr g env.locals s.heap m) (N : News g env.locals s.heap news)
    (J : Nat → (Str → Option Value) → List (Addr × Obj) → Prop) (hfix : ∀ i m' news', J i m' news' → ∀ q ∈ fix, q ∈ news') (j0 : J 0 m news)
    (turn : ∀ i v I oI m' news' h tk, oI.cls = .type "tuple_iterator" → vs[i]? = some v → J i m' news' → (∀ p ∈ news, p.1 < I) → (∀ p ∈ news', p.1 ≠ I) → Fr g env.locals h (fun y => if y = x then some v else m' y) → News g env.locals h ((I, oI) :: news') →
      wpAny (model prog w) A (execs body env) (RTurn g env.locals I oI (J (i + 1)) s Q) (fun _ _ => False) { s with heap := h, toks := tk })
    (done : ∀ m' news' h tk, J vs.length m' news' → Fr g env.locals h m' → News g env.locals h news' → Q .next { s with heap := h, toks := tk }) :
    wpAny (model prog w) A (pyIter (.ref l)) (ForK prog w A env (.Name x px) body Q E) E s := by
  obtain ⟨ol, hol, hlc, _⟩ := id hl
  refine wpAny_pyIter_tuple hl ?_
  have k : ∀ b o, s.heap.get? b = some o → (s.heap.push { cls := .type "tuple_iterator", data := .fields #[.ref l, .int 0 0] }).get? b = some o := fun b o e => Heap.get?_push_of_some _ e
  have W := Walks.tuple (prog := prog) (w := w) hh s.heap.objs.size l (size_ne hol) vs.toArray
  have hIL : env.locals ≠ s.heap.objs.size := Nat.ne_of_lt F.ns.lt
  refine loopN (s := { s with heap := s.heap.push { cls := .type "tuple_iterator", data := .fields #[.ref l, .int 0 0] } }) (C := fun o => o.cls = .type "tuple_iterator") (fix := fix) W hx hp hIL ?_ (fresh_g F _ (Nat.le_refl _)) ⟨⟨_, Heap.get?_push_size _ rfl, rfl, rfl⟩, hl.push _⟩ (fun i h st => let ⟨o, ho, hc, _⟩ := st.1; ⟨o, ho, hc⟩) (F.push _)
    (fun p hp => ⟨k _ _ (N p hp).1, (N p hp).2⟩) (fun p hp => size_ne (N p hp).1) ?_ J hfix j0 ?_ ?_
  · intro hm
    rcases List.mem_cons.mp hm with e | hm
    · exact hIL e
    · exact hlL (List.mem_singleton.mp hm).symm
  · intro b hb
    rcases List.mem_cons.mp hb with rfl | hb
    · exact .inl rfl
    · rw [List.mem_singleton.mp hb]; exact .inr hk
  · intro i v oI m' news' h tk hC hi hP j off' F' N'
    exact turn i v _ oI m' news' h tk hC (by simpa using hP) j (fun p hp => Heap.lt_size (N p hp).1) off' F' N'
  · intro m' news' h tk j F' N'
    exact done m' news' h tk (by simpa using j) F' N'

theorem for_range {x : Str} {px : Pos} {m : Str → Option Value} {news : List (Addr × Obj)} {r : Addr} {a b c : Int} {t u v : Tok} {n : Nat} (hh : A.handled = none) (hx : env.kindOf x = some .local)
    (hp : (env.scope.kind == .class || (env.scope.kind == .module && env.locals != env.globals)) = false)
    (hr : IsRange s.heap r a b c t u v) (hsmall : Builtin.Range.small a b c = true) (hn : Builtin.Range.rangeSize a b c = n) (F : Fr g env.locals s.heap m) (N : News g env.locals s.heap news)
    (J : Nat → (Str → Option Value) → List (Addr × Obj) → Prop) (j0 : J 0 m news)
    (turn : ∀ i k I oI m' news' h tk, oI.cls = .type "range_iterator" → i < n → J i m' news' → (∀ p ∈ news, p.1 < I) → (∀ p ∈ news', p.1 ≠ I) → Fr g env.locals h (fun y => if y = x then some (.int (a + (i : Nat) * c) k) else m' y) → News g env.locals h ((I, oI) :: news') →
      wpAny (model prog w) A (execs body env) (RTurn g env.locals I oI (J (i + 1)) s Q) (fun _ _ => False) { s with heap := h, toks := tk })
    (done : ∀ m' news' h tk, J n m' news' → Fr g env.locals h m' → News g env.locals h news' → Q .next { s with heap := h, toks := tk }) :
    wpAny (model prog w) A (pyIter (.ref r)) (ForK prog w A env (.Name x px) body Q E) E s := by
  refine wpAny_pyIter_range hr hsmall ?_
  rw [hn]
  have k : ∀ b o, s.heap.get? b = some o → (s.heap.push { cls := .type "range_iterator", data := .fields #[rawInt a, rawInt n, rawInt c] }).get? b = some o := fun b o e => Heap.get?_push_of_some _ e
  have W := Walks.range (prog := prog) (w := w) hh s.heap.objs.size a c n
  have hIL : env.locals ≠ s.heap.objs.size := Nat.ne_of_lt F.ns.lt
  refine loopN (s := { s with heap := s.heap.push { cls := .type "range_iterator", data := .fields #[rawInt a, rawInt n, rawInt c] } }) (C := fun o => o.cls = .type "range_iterator") (fix := []) W hx hp hIL ?_ (fresh_g F _ (Nat.le_refl _)) ?_ (fun i h st => ⟨_, st, rfl⟩) (F.push _)
    (fun p hp => ⟨k _ _ (N p hp).1, (N p hp).2⟩) (fun p hp => size_ne (N p hp).1) ?_ J (fun _ _ _ _ _ h => nomatch h) j0 ?_ ?_
  · intro hm
    exact hIL (List.mem_singleton.mp hm)
  · show IsRangeIter _ _ _ _ _
    have e : a + ((0 : Nat) : Int) * c = a := by simp
    have e2 : (n : Int) - ((0 : Nat) : Int) = n := by simp
    rw [e, e2]
    exact Heap.get?_push_size _ rfl
  · intro b hb
    exact .inl (List.mem_singleton.mp hb)
  · rintro i v oI m' news' h tk hC hi ⟨k, rfl⟩ j off' F' N'
    exact turn i k _ oI m' news' h tk hC hi j (fun p hp => Heap.lt_size (N p hp).1) off' F' N'
  · intro m' news' h tk j F' N'
    exact done m' news' h tk j F' N'

/-- a list of tuples: each item a ref to a tuple -/
def TupsAt (h : Heap) (vs : List Value) (ds : List (Array Value)) : Prop := vs.length = ds.length ∧ ∀ (i : Nat) (d : Array Value), ds[i]? = some d → ∃ T, vs[i]? = some (Value.ref T) ∧ h.IsTuple T d

theorem for_listT {elts : List Expr} {kk : Nat} {pt : Pos} {m : Str → Option Value} {news fix : List (Addr × Obj)} {upd : Array Value → (Str → Option Value) → (Str → Option Value)} {l : Addr} {vs : List Value} {ds : List (Array Value)} (hh : A.handled = none)
    (hAs : ∀ i : Nat, Assigns prog w A env (.Tuple elts kk pt) upd (fun d => ds[(i : Nat)]? = some d))
    (hl : s.heap.IsList l vs.toArray) (ht : TupsAt g vs ds) (hlL : l ≠ env.locals) (hk : (∃ o, g.get? l = some o) ∨ ∃ o, (l, o) ∈ fix) (F : Fr g env.locals s.heap m) (N : News g env.locals s.heap news)
    (J : Nat → (Str → Option Value) → List (Addr × Obj) → Prop) (hfix : ∀ i m' news', J i m' news' → ∀ q ∈ fix, q ∈ news') (j0 : J 0 m news)
    (turn : ∀ (i : Nat) (d : Array Value) I oI m' news' h tk, oI.cls = .type "list_iterator" → ds[i]? = some d → J i m' news' → (∀ p ∈ news, p.1 < I) → (∀ p ∈ news', p.1 ∉ [I]) → Fr g env.locals h (upd d m') → News g env.locals h ((I, oI) :: news') →
      wpAny (model prog w) A (execs body env) (RTurnW g env.locals [I] [(I, oI)] (J (i + 1)) s Q) (fun _ _ => False) { s with heap := h, toks := tk })
    (done : ∀ m' news' h tk, J ds.length m' news' → Fr g env.locals h m' → News g env.locals h news' → Q .next { s with heap := h, toks := tk }) :
    wpAny (model prog w) A (pyIter (.ref l)) (ForK prog w A env (.Tuple elts kk pt) body Q E) E s := by
  obtain ⟨hlen, hat⟩ := ht
  obtain ⟨ol, hol, hlc, _⟩ := id hl
  refine wpAny_pyIter_list hl ?_
  have k : ∀ b o, s.heap.get? b = some o → (s.heap.push { cls := .type "list_iterator", data := .fields #[.ref l, .int 0 0] }).get? b = some o := fun b o e => Heap.get?_push_of_some _ e
  let Ts : Nat → Addr := fun j => match vs[j]? with | some (.ref T) => T | _ => 0
  let vals : Nat → Array Value := fun j => (ds[j]?).getD #[]
  have hT : ∀ j, j < vs.toArray.size → vs[j]? = some (.ref (Ts j)) ∧ g.IsTuple (Ts j) (vals j) := by
    intro j hj
    rw [List.size_toArray] at hj
    have hd : ds[j]? = some (ds[j]'(hlen ▸ hj)) := List.getElem?_eq_getElem _
    obtain ⟨T, hT, hI⟩ := hat j _ hd
    have e : Ts j = T := by show (match vs[j]? with | some (.ref T) => T | _ => 0) = T; rw [hT]
    have e2 : vals j = ds[j]'(hlen ▸ hj) := by show (ds[j]?).getD #[] = _; rw [hd]; rfl
    rw [e, e2]
    exact ⟨hT, hI⟩
  have hTI : ∀ j, j < vs.toArray.size → Ts j ≠ s.heap.objs.size := fun j hj => by
    obtain ⟨o, ho, _⟩ := (hT j hj).2
    exact size_ne (F.keep _ _ ho)
  have W := WalksU.listOfTuples (prog := prog) (w := w) hh s.heap.objs.size l (size_ne hol) vs.toArray Ts vals (fun j hj => by rw [List.getElem?_toArray]; exact (hT j hj).1) hTI
  have hIL : env.locals ≠ s.heap.objs.size := Nat.ne_of_lt F.ns.lt
  have hvd : ∀ i, i < vs.toArray.size → ds[i]? = some (vals i) := fun i hi => by
    rw [List.size_toArray] at hi
    have hd : ds[i]? = some (ds[i]'(hlen ▸ hi)) := List.getElem?_eq_getElem _
    show ds[i]? = some ((ds[i]?).getD #[])
    rw [hd]; rfl
  have hTL : ∀ j, j < vs.toArray.size → Ts j ≠ env.locals := fun j hj e => by
    obtain ⟨o, ho, _⟩ := (hT j hj).2
    exact absurd (Nat.lt_of_lt_of_le (Heap.lt_size ho) F.above) (e ▸ Nat.lt_irrefl _)
  have hAs' : ∀ i, Assigns prog w A env (.Tuple elts kk pt) upd (fun v => i < vs.toArray.size ∧ v = vals i) := fun i g s T v m Q hv hT' F' hQ =>
    hAs i g s T v m Q (hv.2 ▸ hvd i hv.1) hT' F' hQ
  refine loopT (s := { s with heap := s.heap.push { cls := .type "list_iterator", data := .fields #[.ref l, .int 0 0] } }) (C := fun o => o.cls = .type "list_iterator") (fix := fix) (Pt := fun i v => i < vs.toArray.size ∧ v = vals i) (upd := upd) ⟨W.sub, W.frame, fun i s Q E hi st hQ => W.item i s Q E hi st fun T v h' tk hP => hQ T v h' tk ⟨hi, hP⟩, W.go, W.apart, W.done, W.self⟩ hAs' ?_ ?_
    ⟨⟨_, Heap.get?_push_size _ rfl, rfl, rfl⟩, hl.at fun o e => k _ _ e, fun j hj => (hT j hj).2.at fun o e => k _ _ (F.keep _ _ e)⟩ (fun i h st b hb => let ⟨o, ho, hc, _⟩ := st.1; ⟨o, (List.mem_singleton.mp hb) ▸ ho, hc⟩) (F.push _)
    (fun p hp => ⟨k _ _ (N p hp).1, (N p hp).2⟩) (fun p hp q => size_ne (N p hp).1 (List.mem_singleton.mp q)) ?_ J hfix j0 ?_ ?_
  · intro hm
    rcases List.mem_cons.mp hm with e | hm
    · exact hIL e
    · rcases List.mem_cons.mp hm with e | hm
      · exact hlL e.symm
      · obtain ⟨j, hj, e⟩ := List.mem_map.mp hm
        exact hTL j (List.mem_range.mp hj) e
  · intro b hb
    rw [List.mem_singleton.mp hb]; exact fresh_g F _ (Nat.le_refl _)
  · intro b hb
    rcases List.mem_cons.mp hb with rfl | hb
    · exact .inl (List.mem_singleton.mpr rfl)
    · rcases List.mem_cons.mp hb with rfl | hb
      · exact .inr hk
      · obtain ⟨j, hj, rfl⟩ := List.mem_map.mp hb
        obtain ⟨o, ho, _⟩ := (hT j (List.mem_range.mp hj)).2
        exact .inr (.inl ⟨o, ho⟩)
  · rintro i v own m' news' h tk hC hi ⟨hi', rfl⟩ hmap j off' F' N'
    obtain ⟨oI, rfl⟩ : ∃ oI, own = [(s.heap.objs.size, oI)] := by
      cases own with
      | nil => cases hmap
      | cons p r =>
        rw [List.map_cons] at hmap
        obtain ⟨e1, e2⟩ := List.cons.inj hmap
        rw [List.map_eq_nil_iff] at e2
        subst e2
        exact ⟨p.2, by rw [← e1]⟩
    exact turn i (vals i) _ oI m' news' h tk (hC _ (.head _)) (hvd i hi') j (fun p hp => Heap.lt_size (N p hp).1) off' F' N'
  · intro m' news' h tk j F' N'
    exact done m' news' h tk (by rw [← hlen]; simpa using j) F' N'

theorem for_enum {x y : Str} {px py : Pos} {kk : Nat} {pt : Pos} {m : Str → Option Value} {news fix : List (Addr × Obj)} {l e it : Addr} {vs : List Value} (hh : A.handled = none) (hx : env.kindOf x = some .local) (hy : env.kindOf y = some .local)
    (hp : (env.scope.kind == .class || (env.scope.kind == .module && env.locals != env.globals)) = false)
    (hl : s.heap.IsList l vs.toArray) (he : IsEnum s.heap e it 0 .none) (hit : s.heap.IsListIter it l 0) (hlL : l ≠ env.locals) (heL : e ≠ env.locals) (hiL : it ≠ env.locals) (hge : g.get? e = none) (hgi : g.get? it = none)
    (hk : (∃ o, g.get? l = some o) ∨ ∃ o, (l, o) ∈ fix) (F : Fr g env.locals s.heap m) (N : News g env.locals s.heap news) (off : ∀ p ∈ news, p.1 ∉ [e, it])
    (J : Nat → (Str → Option Value) → List (Addr × Obj) → Prop) (hfix : ∀ i m' news', J i m' news' → ∀ q ∈ fix, q ∈ news') (j0 : J 0 m news)
    (turn : ∀ i v k oe oi m' news' h tk, vs[i]? = some v → J i m' news' → (∀ p ∈ news', p.1 ∉ [e, it]) → Fr g env.locals h (fun z => if z = y then some v else if z = x then some (.int i k) else m' z) → News g env.locals h ((e, oe) :: (it, oi) :: news') →
      wpAny (model prog w) A (execs body env) (RTurnW g env.locals [e, it] [(e, oe), (it, oi)] (J (i + 1)) s Q) (fun _ _ => False) { s with heap := h, toks := tk })
    (done : ∀ m' news' h tk, J vs.length m' news' → Fr g env.locals h m' → News g env.locals h news' → Q .next { s with heap := h, toks := tk }) :
    wpAny (model prog w) A (pyIter (.ref e)) (ForK prog w A env (.Tuple [.Name x px, .Name y py] kk pt) body Q E) E s := by
  obtain ⟨ol, hol, hlc, _⟩ := id hl
  obtain ⟨oi, hoi, hic, _⟩ := id hit
  have hei : e ≠ it := fun q => by subst q; rw [he] at hoi; cases hoi; exact absurd (show Value.type "enumerate" = Value.type "list_iterator" from hic) (by decide)
  have hle : l ≠ e := fun q => by subst q; rw [he] at hol; cases hol; exact absurd (show Value.type "enumerate" = Value.type "list" from hlc) (by decide)
  have hli : l ≠ it := fun q => by subst q; rw [hoi] at hol; cases hol; rw [hic] at hlc; exact absurd hlc (by decide)
  have W := (WalksT.enumerate (prog := prog) (w := w) hh e it l hei hle hli vs.toArray).toU
  refine wpAny_pyIter_enum he ?_
  refine loopT (C := fun _ => True) (fix := fix) (upd := fun v m z => if z = y then v[1]? else if z = x then v[0]? else m z) W (fun i => assigns2 hh hx hy hp (fun v hv => by obtain ⟨t, x', _, rfl⟩ := hv; exact ⟨_, _, rfl⟩)) ?_ ?_
    ⟨⟨_, he⟩, hit, hl⟩ ?_ F N off ?_ J hfix j0 ?_ ?_
  · intro hm
    rcases List.mem_cons.mp hm with q | hm
    · exact heL q.symm
    · rcases List.mem_cons.mp hm with q | hm
      · exact hiL q.symm
      · exact hlL (List.mem_singleton.mp hm).symm
  · intro b hb
    rcases List.mem_cons.mp hb with rfl | hb
    · exact hge
    · rw [List.mem_singleton.mp hb]; exact hgi
  · intro i h st b hb
    obtain ⟨⟨old, h1⟩, ⟨o, ho, _⟩, _⟩ := st
    rcases List.mem_cons.mp hb with rfl | hb
    · exact ⟨_, h1, trivial⟩
    · rw [List.mem_singleton.mp hb]; exact ⟨_, ho, trivial⟩
  · intro b hb
    rcases List.mem_cons.mp hb with rfl | hb
    · exact .inl (.head _)
    · rcases List.mem_cons.mp hb with rfl | hb
      · exact .inl (.tail _ (.head _))
      · rw [List.mem_singleton.mp hb]; exact .inr hk
  · rintro i v own m' news' h tk _ hi ⟨t, x', hx', rfl⟩ hmap j off' F' N'
    obtain ⟨oe, oi', rfl⟩ : ∃ oe oi', own = [(e, oe), (it, oi')] := by
      cases own with
      | nil => cases hmap
      | cons p r =>
        rw [List.map_cons] at hmap
        obtain ⟨e1, e2⟩ := List.cons.inj hmap
        cases r with
        | nil => cases e2
        | cons p2 r2 =>
          rw [List.map_cons] at e2
          obtain ⟨e3, e4⟩ := List.cons.inj e2
          rw [List.map_eq_nil_iff] at e4
          subst e4
          exact ⟨p.2, p2.2, by rw [← e1, ← e3]⟩
    exact turn i x' t oe oi' m' news' h tk (by simpa using hx') j off' F' N'
  · intro m' news' h tk j F' N'
    exact done m' news' h tk (by simpa using j) F' N'
end
end RS
end

section
open PySem PySem.W PySem.Calls PyProof.Rows
open Sem (wp)
open PySem.SeqAt
open AutoSeq1 (wpAny_loadPart')
set_option maxRecDepth 100000
set_option maxHeartbeats 0
set_option linter.unusedVariables false
namespace RS

theorem place_in {lo hi v : Int} : (Builtin.Range.rangePlace? lo hi 1 v).isSome = (decide (lo ≤ v) && decide (v < hi)) := by
  unfold Builtin.Range.rangePlace?
  simp only [show ((1 : Int) > 0) = True from by simp, if_true, Int.emod_one, beq_self_eq_true, Bool.and_true]
  cases h : (decide (lo ≤ v) && decide (v < hi)) <;> simp

section
variable {A : Around} {s : Shared}

theorem meets_range_contains (r : Addr) (lo hi v : Int) (t1 t2 t3 tv : Tok) :
    Meets (Builtin.«range.__contains__» ⟨[.ref r, .int v tv], []⟩) (fun _ R s => s.heap.get? r = some (rngO lo hi t1 t2 t3) ∧ R (.ok (.ret (.bool (decide (lo ≤ v) && decide (v < hi))))) s) :=
  .of_wp fun prog w A R s h => by
    obtain ⟨hp, g, d, tk, os⟩ := s; obtain ⟨hl, h⟩ := h
    rw [← place_in] at h
    wp_walk
    exact ⟨_, rfl, h⟩

theorem size_1 {lo hi : Int} (h : lo < hi) : Builtin.Range.rangeSize lo hi 1 = hi - lo := by
  unfold Builtin.Range.rangeSize
  simp only [show ((1 : Int) > 0) = True from by simp, if_true, h, Int.ediv_one]
  omega

theorem same_1 {lo hi lo' hi' : Int} (h : lo < hi) (h' : lo' < hi') :
    (Builtin.Range.rangeSize lo hi 1 == Builtin.Range.rangeSize lo' hi' 1 && (Builtin.Range.rangeSize lo hi 1 == 0 || (lo == lo' && (Builtin.Range.rangeSize lo hi 1 == 1 || (1 : Int) == 1)))) = decide ((lo, hi) = (lo', hi')) := by
  rw [size_1 h, size_1 h']
  have h0 : (hi - lo == 0) = false := by simp; omega
  rw [h0]
  simp only [beq_self_eq_true, Bool.or_true, Bool.and_true, Bool.false_or, Prod.mk.injEq]
  rw [Bool.eq_iff_iff]
  simp only [Bool.and_eq_true, beq_iff_eq, decide_eq_true_eq]
  omega

theorem meets_range_eq (r r' : Addr) (lo hi lo' hi' : Int) (t1 t2 t3 t1' t2' t3' : Tok) (h1 : lo < hi) (h2 : lo' < hi') :
    Meets (Builtin.«range.__eq__» ⟨[.ref r, .ref r'], []⟩) (fun _ R s => s.heap.get? r = some (rngO lo hi t1 t2 t3) ∧ s.heap.get? r' = some (rngO lo' hi' t1' t2' t3') ∧ R (.ok (.ret (.bool (decide ((lo, hi) = (lo', hi')))))) s) :=
  .of_wp fun prog w A R s h => by
    obtain ⟨hp, g, d, tk, os⟩ := s; obtain ⟨hl, hl', h⟩ := h
    rw [← same_1 h1 h2] at h
    wp_walk
    exact ⟨_, rfl, h⟩

theorem in_range {prog : Program} {w : World} {E : Value → Shared → Prop} {r : Addr} {lo hi v : Int} {t1 t2 t3 tv : Tok} {Q : Value → Shared → Prop} (hr : s.heap.get? r = some (rngO lo hi t1 t2 t3))
    (h : Q (.bool (decide (lo ≤ v) && decide (v < hi))) s) : wpAny (model prog w) A (compareOp .In (.int v tv) (.ref r)) Q E s :=
  SeqRoads2.in_meets ⟨_, hr, rfl⟩ F.slot_range_contains F.entry_range_contains (F.args_range_contains_2 _ _) (meets_range_contains r lo hi v t1 t2 t3 tv) ⟨hr, _, rfl, h⟩

theorem rcAt_range {r r' : Addr} {lo hi lo' hi' : Int} {t1 t2 t3 t1' t2' t3' : Tok} (h1 : lo < hi) (h2 : lo' < hi') (hr : s.heap.get? r = some (rngO lo hi t1 t2 t3)) (hr' : s.heap.get? r' = some (rngO lo' hi' t1' t2' t3'))
    (hu : A.units < cLine) : RcAt A s (.ref r) (.ref r') (decide ((lo, hi) = (lo', hi'))) := fun prog w E Q h =>
  richCompare_meets_room (op := .Eq) ⟨_, hr, rfl⟩ ⟨_, hr', rfl⟩ F.slot_range_eq F.entry_range_eq (F.args_range_eq_2 _ _) (meets_range_eq r r' lo hi lo' hi' t1 t2 t3 t1' t2' t3' h1 h2)
    ⟨hr, hr', show Value.bool (decide ((lo, hi) = (lo', hi'))) ≠ Value.notImplemented ∧ Q (.bool (decide ((lo, hi) = (lo', hi')))) s from ⟨(fun x => nomatch x), h⟩⟩ hu

theorem eqAt_range {r r' : Addr} {lo hi lo' hi' : Int} {t1 t2 t3 t1' t2' t3' : Tok} (h1 : lo < hi) (h2 : lo' < hi') (hr : s.heap.get? r = some (rngO lo hi t1 t2 t3)) (hr' : s.heap.get? r' = some (rngO lo' hi' t1' t2' t3'))
    (hu : A.units < cLine) : EqAt A s (.ref r) (.ref r') (decide ((lo, hi) = (lo', hi'))) := by
  by_cases q : r = r'
  · subst q
    rw [hr] at hr'
    cases hr'
    rw [decide_eq_true rfl]
    exact EqAt.same _
  · exact EqAt.of_refs q (rcAt_range h1 h2 hr hr' hu)

/-- refs to plain ranges by one -/
inductive Rngs (h : Heap) : List Value → List (Int × Int) → Prop
  | nil : Rngs h [] []
  | cons {a : Addr} {lo hi : Int} {t1 t2 t3 : Tok} {vs : List Value} {rs : List (Int × Int)} : h.get? a = some (rngO lo hi t1 t2 t3) → Rngs h vs rs → Rngs h (.ref a :: vs) ((lo, hi) :: rs)
theorem Rngs.length {h : Heap} {vs : List Value} {rs : List (Int × Int)} (x : Rngs h vs rs) : vs.length = rs.length := by
  induction x with
  | nil => rfl
  | cons _ _ ih => rw [List.length_cons, List.length_cons, ih]
theorem Rngs.keeps {h h' : Heap} {vs : List Value} {rs : List (Int × Int)} (x : Rngs h vs rs) (k : ∀ b lo hi t1 t2 t3, h.get? b = some (rngO lo hi t1 t2 t3) → h'.get? b = some (rngO lo hi t1 t2 t3)) : Rngs h' vs rs := by
  induction x with
  | nil => exact .nil
  | cons e _ ih => exact .cons (k _ _ _ _ _ _ e) ih
theorem Rngs.get {h : Heap} {vs : List Value} {rs : List (Int × Int)} (x : Rngs h vs rs) : ∀ {i : Nat} {v : Value}, vs[i]? = some v → ∃ a lo hi t1 t2 t3, v = .ref a ∧ rs[i]? = some (lo, hi) ∧ h.get? a = some (rngO lo hi t1 t2 t3) := by
  induction x with
  | nil => intro i v hv; simp at hv
  | cons e _ ih =>
    intro i v hv
    cases i with
    | zero => simp at hv; subst hv; exact ⟨_, _, _, _, _, _, rfl, by simp, e⟩
    | succ i => simp at hv; simpa using ih hv
theorem Rngs.at {h : Heap} {vs : List Value} {rs : List (Int × Int)} (x : Rngs h vs rs) : ∀ {i : Nat} {lo hi : Int}, rs[i]? = some (lo, hi) → ∃ a t1 t2 t3, vs[i]? = some (.ref a) ∧ h.get? a = some (rngO lo hi t1 t2 t3) := by
  induction x with
  | nil => intro i lo hi hv; simp at hv
  | cons e _ ih =>
    intro i lo hi hv
    cases i with
    | zero => simp at hv; obtain ⟨rfl, rfl⟩ := hv; exact ⟨_, _, _, _, by simp, e⟩
    | succ i => simp at hv; simpa using ih hv
theorem Rngs.append {h : Heap} {vs ws : List Value} {rs qs : List (Int × Int)} (x : Rngs h vs rs) (y : Rngs h ws qs) : Rngs h (vs ++ ws) (rs ++ qs) := by
  induction x with
  | nil => exact y
  | cons e _ ih => exact .cons e ih
theorem Rngs.take {h : Heap} {vs : List Value} {rs : List (Int × Int)} (x : Rngs h vs rs) : ∀ n, Rngs h (vs.take n) (rs.take n) := by
  induction x with
  | nil => intro n; simp; exact .nil
  | cons e _ ih => intro n; cases n with
    | zero => simp; exact .nil
    | succ n => simp; exact .cons e (ih n)
theorem Rngs.drop {h : Heap} {vs : List Value} {rs : List (Int × Int)} (x : Rngs h vs rs) : ∀ n, Rngs h (vs.drop n) (rs.drop n) := by
  induction x with
  | nil => intro n; simp; exact .nil
  | cons e y ih => intro n; cases n with
    | zero => simp; exact .cons e y
    | succ n => simp; exact ih n
theorem Rngs.one {h : Heap} {a : Addr} {lo hi : Int} {t1 t2 t3 : Tok} (e : h.get? a = some (rngO lo hi t1 t2 t3)) : Rngs h [.ref a] [(lo, hi)] := .cons e .nil

def Pos (rs : List (Int × Int)) : Prop := ∀ q ∈ rs, q.1 < q.2

theorem eq_all : ∀ (rs qs : List (Int × Int)), rs.length = qs.length → (List.range rs.length).all (fun i => decide (rs[i]? = qs[i]?)) = decide (rs = qs) := by
  intro rs qs hl
  rw [Bool.eq_iff_iff]
  simp only [List.all_eq_true, List.mem_range, decide_eq_true_eq]
  constructor
  · intro h
    apply List.ext_getElem? 
    intro i
    by_cases hi : i < rs.length
    · exact h i hi
    · rw [List.getElem?_eq_none (by omega), List.getElem?_eq_none (by omega)]
  · rintro rfl i _
    rfl

theorem rcAt_rngs {l l' : Addr} {its its' : List Value} {rs rs' : List (Int × Int)} (hl : s.heap.IsList l its.toArray) (hl' : s.heap.IsList l' its'.toArray) (x : Rngs s.heap its rs) (x' : Rngs s.heap its' rs') (hp : Pos rs) (hp' : Pos rs')
    (hu : A.units + 1 < cLine) : RcAt A s (.ref l) (.ref l') (decide (rs = rs')) := by
  by_cases hlen : rs.length = rs'.length
  · have h := RcAt.lists (A := A) (e := fun i => decide (rs[i]? = rs'[i]?)) hl hl' (by simp [x.length, x'.length, hlen]) (by omega) (fun j h1 h2 => by
      have e1 : its[j]? = some (its[j]'(by simpa using h1)) := List.getElem?_eq_getElem _
      have e2 : its'[j]? = some (its'[j]'(by simpa using h2)) := List.getElem?_eq_getElem _
      obtain ⟨a, lo, hi, t1, t2, t3, hv, hr, ha⟩ := x.get e1
      obtain ⟨a', lo', hi', t1', t2', t3', hv', hr', ha'⟩ := x'.get e2
      show EqAt A.in1 s (its.toArray[j]) (its'.toArray[j]) (decide (rs[j]? = rs'[j]?))
      rw [List.getElem_toArray, List.getElem_toArray, hv, hv', hr, hr']
      have := eqAt_range (A := A.in1) (s := s) (hp _ (List.mem_of_getElem? hr)) (hp' _ (List.mem_of_getElem? hr')) ha ha' hu
      simpa using this)
    have e : (List.range its.toArray.size).all (fun i => decide (rs[i]? = rs'[i]?)) = decide (rs = rs') := by
      rw [List.size_toArray, x.length]; exact eq_all rs rs' hlen
    rw [e] at h
    exact h
  · have h := RcAt.lists_lengths (A := A) hl hl' (by simp [x.length, x'.length, hlen]) (by omega)
    have e : decide (rs = rs') = false := decide_eq_false (fun q => hlen (by rw [q]))
    rw [e]; exact h
end
end RS
end

section
open PySem PySem.W PySem.Calls PyProof.Rows
open Sem (wp)
set_option maxRecDepth 100000
set_option maxHeartbeats 0
set_option linter.unusedVariables false
namespace RS

section
variable {prog : Program} {w : World} {A : Around} {E : Value → Shared → Prop} {s : Shared} {h₀ : Heap} {L D : Addr} {m : Str → Option Value} {news news' : List (Addr × Obj)} {its : List Value} {n : Nat}

theorem rs_len {Q : Value → Shared → Prop} (N : News h₀ L s.heap news) (hm : (D, listOf its.toArray n) ∈ news) (hz : its.length ≤ 100000)
    (h : Q (.int its.length (s.toks + 1)) { s with toks := s.toks + 1 + 1 }) : wpAny (model prog w) A (call (.builtin "len") [.ref D]) Q E s :=
  Calls.call_len_list (items := its.toArray) ⟨_, (N _ hm).1, rfl, n, rfl⟩ (by rw [List.size_toArray]; omega) h

theorem rs_getItem {k : Int} {u : Tok} {v : Value} {Q : Value → Shared → Prop} (N : News h₀ L s.heap news) (hm : (D, listOf its.toArray n) ∈ news) (h0 : 0 ≤ k) (hf : k < 2 ^ 63) (hx : its[k.toNat]? = some v)
    (h : Q v s) : wpAny (model prog w) A (getItem (.ref D) (.int k u)) Q E s :=
  wpAny_getItem_list (items := its.toArray) ⟨_, (N _ hm).1, rfl, n, rfl⟩ h0 hf (by simpa using hx) h
theorem rs_item {value slice : PySem.Expr} {k : Int} {u : Tok} {v : Value} {Q : Value → Shared → Prop} (N : News h₀ L s.heap news) (hm : (D, listOf its.toArray n) ∈ news) (h0 : 0 ≤ k) (hf : k < 2 ^ 63) (hx : its[k.toNat]? = some v)
    (h : Q v s) (hs : subscripted slice false (.ref D) (.int k u) = operate [.ref D, .int k u] (getItem (.ref D) (.int k u)) := by with_unfolding_all rfl) : wpAny (model prog w) A (subscriptTail value slice (.ref D) (.int k u)) Q E s :=
  tail_any (s := s) (T := "list") ⟨_, (N _ hm).1, rfl⟩ slot_list_getitem.lookup (rs_getItem N hm h0 hf hx h) hs
theorem rs_getItem_neg {k : Int} {u : Tok} {v : Value} {Q : Value → Shared → Prop} (N : News h₀ L s.heap news) (hm : (D, listOf its.toArray n) ∈ news) (h0 : k < 0) (hf : -(2 ^ 63) ≤ k) (h1 : -(its.length : Int) ≤ k) (hx : its[(k + its.length).toNat]? = some v)
    (h : Q v s) : wpAny (model prog w) A (getItem (.ref D) (.int k u)) Q E s :=
  wpAny_getItem_list_neg (items := its.toArray) ⟨_, (N _ hm).1, rfl, n, rfl⟩ h0 (by simpa using h1) hf (by simpa using hx) h
theorem rs_item_neg {value slice : PySem.Expr} {k : Int} {u : Tok} {v : Value} {Q : Value → Shared → Prop} (N : News h₀ L s.heap news) (hm : (D, listOf its.toArray n) ∈ news) (h0 : k < 0) (hf : -(2 ^ 63) ≤ k) (h1 : -(its.length : Int) ≤ k) (hx : its[(k + its.length).toNat]? = some v)
    (h : Q v s) (hs : subscripted slice false (.ref D) (.int k u) = operate [.ref D, .int k u] (getItem (.ref D) (.int k u)) := by with_unfolding_all rfl) : wpAny (model prog w) A (subscriptTail value slice (.ref D) (.int k u)) Q E s :=
  tail_any (s := s) (T := "list") ⟨_, (N _ hm).1, rfl⟩ slot_list_getitem.lookup (rs_getItem_neg N hm h0 hf h1 hx h) hs

theorem cut_at : ∀ (its : List Value) (k : Nat) (y : Value), its[k]? = some y → kl_cut its k = some (its.take k, y, its.drop (k + 1))
  | [], _, _, h => by simp at h
  | x :: r, 0, y, h => by simp at h; subst h; rfl
  | x :: r, k + 1, y, h => by
    have ih := cut_at r k y (by simpa using h)
    show (match kl_cut r k with | some (p, y, q) => some (x :: p, y, q) | none => none) = _
    rw [ih]; rfl
theorem rs_popAt {k : Int} {u : Tok} {y : Value} {Q : Value → Shared → Prop} (F : Fr h₀ L s.heap m) (N : News h₀ L s.heap news) (h0 : 0 ≤ k) (hf : k < 2 ^ 63) (hx : its[k.toNat]? = some y)
    (U : Upd D (listOf its.toArray n) (listOf (its.take k.toNat ++ its.drop (k.toNat + 1)).toArray (n + 1)) news news') (hz : its.length ≤ 100000)
    (h : ∀ h', Fr h₀ L h' m → News h₀ L h' news' → Q y { s with heap := h' }) : wpAny (model prog w) A (call (.builtin "list.pop") [.ref D, .int k u]) Q E s := by
  have hlt : k.toNat < its.length := (List.getElem?_eq_some_iff.mp hx).1
  exact kl_popAt F N (fitsIndex_of h0 hf) (seqIndex_of h0 (by rw [List.size_toArray]; omega)) (cut_at its k.toNat y hx) U (by show its.length ≤ sizeLine; rw [sizeLine_eq]; omega) h
theorem rs_insert {k : Int} {u : Tok} {y : Value} {Q : Value → Shared → Prop} (F : Fr h₀ L s.heap m) (N : News h₀ L s.heap news) (h0 : 0 ≤ k) (hf : k < 2 ^ 63) (hk : k ≤ its.length)
    (U : Upd D (listOf its.toArray n) (listOf (its.take k.toNat ++ y :: its.drop k.toNat).toArray (n + 1)) news news') (hz : its.length ≤ 100000)
    (h : ∀ h', Fr h₀ L h' m → News h₀ L h' news' → Q .none { s with heap := h' }) : wpAny (model prog w) A (call (.builtin "list.insert") [.ref D, .int k u, y]) Q E s :=
  kl_insert F N (fitsIndex_of h0 hf) (by
    show kl_ins its k y = _
    unfold kl_ins
    rw [if_neg (by omega), Nat.min_eq_left (by omega)]) U (by show its.length ≤ sizeLine; rw [sizeLine_eq]; omega) h
theorem rs_set {k : Int} {t : Tok} {v : Value} {Q : Unit → Shared → Prop} (F : Fr h₀ L s.heap m) (N : News h₀ L s.heap news) (h0 : 0 ≤ k) (hf : k < 2 ^ 63) (hk : k < its.length)
    (U : Upd D (listOf its.toArray n) (listOf (its.set k.toNat v).toArray n) news news')
    (h : ∀ h', Fr h₀ L h' m → News h₀ L h' news' → Q () { s with heap := h' }) : wpAny (model prog w) A (setItem (.ref D) (.int k t) v) Q E s := by
  obtain ⟨pre, post, rfl, rfl, a, b⟩ := U.split
  have z := N (D, listOf its.toArray n) (List.mem_append.mpr (.inr (.head _)))
  refine ki_setAt z.1 h0 hf (by simpa using hk) (h _ (F.change (Heap.SameBut.update ..) z.2.1 z.2.2) (ki_turn _ N a b ?_ ?_))
  · show its.toArray.setIfInBounds k.toNat v = (its.set k.toNat v).toArray
    apply Array.toList_inj.mp
    simp
  · simp
theorem rs_append {x : Value} {Q : Value → Shared → Prop} (F : Fr h₀ L s.heap m) (N : News h₀ L s.heap news) (U : Upd D (listOf its.toArray n) (listOf (its ++ [x]).toArray (n + 1)) news news') (hz : its.length ≤ 100000)
    (h : ∀ h', Fr h₀ L h' m → News h₀ L h' news' → Q .none { s with heap := h' }) : wpAny (model prog w) A (call (.builtin "list.append") [.ref D, x]) Q E s :=
  append_K F N (its := its.toArray) (by rw [List.push_toArray]; exact U) h (by rw [List.size_toArray, sizeLine_eq]; omega)
theorem rs_range {a b : Int} {t u : Tok} {Q : Value → Shared → Prop} (F : Fr h₀ L s.heap m) (N : News h₀ L s.heap news)
    (h : ∀ r h' v tk, Fr h₀ L h' m → News h₀ L h' ((r, rngO a b t u v) :: news) → (∀ p ∈ news, p.1 < r) → Q (.ref r) { s with heap := h', toks := tk }) : wpAny (model prog w) A (call (.type "range") [.int a t, .int b u]) Q E s :=
  call_range_2 (h _ _ _ _ (F.push _) (N.push F _) fun p hp => Heap.lt_size (N p hp).1)
theorem rs_start {a : Addr} {lo hi : Int} {t1 t2 t3 : Tok} {expr : Bool} {Q : Value → Shared → Prop} (hx : s.heap.get? a = some (rngO lo hi t1 t2 t3)) (hq : Q (.int lo t1) { s with toks := s.toks + 1 }) : wpAny (model prog w) A (getAttr (.ref a) "start" expr) Q E s := by
  obtain ⟨h, g, d, t, os⟩ := s
  exact start_attr hx hq
theorem rs_stop {a : Addr} {lo hi : Int} {t1 t2 t3 : Tok} {expr : Bool} {Q : Value → Shared → Prop} (hx : s.heap.get? a = some (rngO lo hi t1 t2 t3)) (hq : Q (.int hi t2) { s with toks := s.toks + 1 }) : wpAny (model prog w) A (getAttr (.ref a) "stop" expr) Q E s := by
  obtain ⟨h, g, d, t, os⟩ := s
  exact stop_attr hx hq
theorem rs_step {a : Addr} {lo hi : Int} {t1 t2 t3 : Tok} {expr : Bool} {Q : Value → Shared → Prop} (hx : s.heap.get? a = some (rngO lo hi t1 t2 t3)) (hq : Q (.int 1 t3) { s with toks := s.toks + 1 }) : wpAny (model prog w) A (getAttr (.ref a) "step" expr) Q E s := by
  obtain ⟨h, g, d, t, os⟩ := s
  exact step_attr hx hq

theorem rs_iter {Q : Value → Shared → Prop} (F : Fr h₀ L s.heap m) (N : News h₀ L s.heap news) (hm : (D, listOf its.toArray n) ∈ news)
    (h : ∀ (I : Addr) h' oI, Fr h₀ L h' m → News h₀ L h' ((I, oI) :: news) → (∀ p ∈ news, p.1 < I) → s.heap.objs.size ≤ I → h'.IsListIter I D 0 → Q (.ref I) { s with heap := h' }) :
    wpAny (model prog w) A (call (.builtin "iter") [.ref D]) Q E s := by
  refine call_function_entry (by decide +kernel) (by decide +kernel) kdk_entry_iter (kdk_args_iter _) ?_
  unfold Builtin.«iter»
  refine wpAny_bind (m := someArgs "iter" 1 2 _) (wpAny_of_eq (a := [Value.ref D]) (by first | rfl | kernel_rfl!) ?_)
  show wpAny _ _ (pyIter (.ref D) >>= _) _ _ _
  refine wpAny_bind (wpAny_pyIter_list (items := its.toArray) ⟨_, (N _ hm).1, rfl, n, rfl⟩ ?_)
  exact wpAny_pure ⟨_, rfl, h _ _ _ (F.push _) (News.push F N _ rfl) (fun q hq => Heap.lt_size (N q hq).1) (Nat.le_refl _) ⟨_, Heap.get?_push_size _ rfl, rfl, rfl⟩⟩

/-- an item by a place from either end -/
def keyAt (its : List Value) (k : Int) : Option Value := if 0 ≤ k then its[k.toNat]? else if -(its.length : Int) ≤ k then its[(k + its.length).toNat]? else none
theorem rs_itemK {value slice : PySem.Expr} {k : Int} {u : Tok} {v : Value} {Q : Value → Shared → Prop} (N : News h₀ L s.heap news) (hm : (D, listOf its.toArray n) ∈ news) (h0 : -(2 ^ 63) ≤ k) (hf : k < 2 ^ 63) (hx : keyAt its k = some v)
    (h : Q v s) (hs : subscripted slice false (.ref D) (.int k u) = operate [.ref D, .int k u] (getItem (.ref D) (.int k u)) := by with_unfolding_all rfl) : wpAny (model prog w) A (subscriptTail value slice (.ref D) (.int k u)) Q E s := by
  unfold keyAt at hx
  by_cases q : 0 ≤ k
  · rw [if_pos q] at hx
    exact rs_item N hm q hf hx h hs
  · rw [if_neg q] at hx
    by_cases q2 : -(its.length : Int) ≤ k
    · rw [if_pos q2] at hx
      exact rs_item_neg N hm (by omega) h0 q2 hx h hs
    · rw [if_neg q2] at hx
      cases hx

theorem stays_all {h g h' : Heap} {news : List (Addr × Obj)} {base : Heap} (N₀ : ∀ q ∈ news, h.get? q.1 = some q.2 ∧ base.get? q.1 = none) (kb : KeepBut (news.map (·.1)) h g) (st : ∀ b o, g.get? b = some o → h'.get? b = some o) (N : News g L h' news) : h.StaysIn h' := fun b o e => by
  by_cases m : b ∈ news.map (·.1)
  · obtain ⟨q, hq, rfl⟩ := List.mem_map.mp m
    rw [(N₀ q hq).1] at e
    cases e
    exact (N q hq).1
  · exact st b o (kb b o m e)
theorem fresh_all {h g h₁ : Heap} {news : List (Addr × Obj)} {m₁ : Str → Option Value} (kb : KeepBut (news.map (·.1)) h g) (F : Fr g L h₁ m₁) (N : News g L h₁ news) {I : Addr} (hI : h₁.objs.size ≤ I) : h.get? I = none := by
  cases q : h.get? I with
  | none => rfl
  | some o =>
    exfalso
    by_cases m : I ∈ news.map (·.1)
    · obtain ⟨p, hp, rfl⟩ := List.mem_map.mp m
      exact absurd (Heap.lt_size (N p hp).1) (Nat.not_lt.mpr hI)
    · have h1 : I < g.objs.size := Heap.lt_size (kb I o m q)
      have h2 := F.above
      have h3 : L < h₁.objs.size := F.ns.lt
      exact absurd (Nat.lt_of_lt_of_le h1 h2) (Nat.not_lt.mpr (Nat.le_trans (Nat.le_of_lt h3) hI))
theorem map_self {m : Str → Option Value} {x : Str} : m = fun y => if y = x then m x else m y := by
  funext y
  by_cases h : y = x
  · rw [if_pos h, h]
  · rw [if_neg h]
theorem map_over {m : Str → Option Value} {x : Str} {u v : Option Value} : (fun y => if y = x then v else (if y = x then u else m y)) = fun y => if y = x then v else m y := by
  funext y
  by_cases h : y = x
  · simp [h]
  · simp [h]
end
end RS
end

section
open PySem PySem.W PySem.Calls PyProof.Rows
open Sem (wp)
set_option maxRecDepth 100000
set_option maxHeartbeats 0
set_option linter.unusedVariables false
namespace RS

section
variable {prog : Program} {w : World} {A : Around} {s : Shared} {env : Env} {g : Heap} {body : List Stmt} {Q : Flow → Shared → Prop}

/-- a while, by what holds ahead of each test; the measure falls -/
theorem while_inv {test : Expr} {pos : PySem.Pos} {E : Value → Shared → Prop} (J : Nat → Heap → Nat → Prop) (n : Nat) (j0 : J n s.heap s.toks)
    (turn : ∀ n h tk, J n h tk → wpAny (model prog w) A (isTrue test env (eval test env)) (fun b s₁ => if b = true then wpAny (model prog w) A (execs body env) (fun f s₂ => match f with
        | .ret v => Q (.ret v) s₂
        | .brk => Q .next s₂
        | _ => ∃ k h' tk', s₂ = { s with heap := h', toks := tk' } ∧ k < n ∧ J k h' tk') (fun _ _ => False) s₁ else Q .next s₁) (fun _ _ => False) { s with heap := h, toks := tk }) :
    wpAny (model prog w) A (exec (.While test body [] pos) env) Q E s := by
  refine wpAny_While ?_
  refine codeAny_whileLoop (fun n s' => ∃ h tk, s' = { s with heap := h, toks := tk } ∧ J n h tk) ?_ n ⟨s.heap, s.toks, rfl, j0⟩
  rintro n s' ⟨h, tk, rfl, j⟩
  refine wpAny_mono (turn n h tk j) (fun b s₁ h₁ => ?_) (fun _ _ x => x.elim)
  cases b with
  | false =>
    simp only [Bool.false_eq_true, if_false] at h₁ ⊢
    exact wpAny_execs_nil h₁
  | true =>
    simp only [if_true] at h₁ ⊢
    refine wpAny_mono h₁ (fun f s₂ h₂ => ?_) (fun _ _ x => x.elim)
    cases f with
    | ret v => exact h₂
    | brk => exact h₂
    | next => obtain ⟨k, h', tk', rfl, hk, j'⟩ := h₂; exact ⟨k, hk, h', tk', rfl, j'⟩
    | cont => obtain ⟨k, h', tk', rfl, hk, j'⟩ := h₂; exact ⟨k, hk, h', tk', rfl, j'⟩

def WExit (s : Shared) (Post : Heap → Nat → Prop) (s₁ : Shared) : Prop := ∃ h' tk', s₁ = { s with heap := h', toks := tk' } ∧ Post h' tk'
def WTurn (s : Shared) (J : Nat → Heap → Nat → Prop) (n : Nat) (Post : Heap → Nat → Prop) (Q : Flow → Shared → Prop) (f : Flow) (s₂ : Shared) : Prop := match f with
  | .ret v => Q (.ret v) s₂
  | .brk => WExit s Post s₂
  | _ => ∃ k h' tk', s₂ = { s with heap := h', toks := tk' } ∧ k < n ∧ J k h' tk'
/-- the same, what the end needs said apart -/
theorem while_post {test : Expr} {pos : PySem.Pos} {E : Value → Shared → Prop} (J : Nat → Heap → Nat → Prop) (Post : Heap → Nat → Prop) (n : Nat) (j0 : J n s.heap s.toks)
    (turn : ∀ n h tk, J n h tk → wpAny (model prog w) A (isTrue test env (eval test env)) (fun b s₁ => if b = true then wpAny (model prog w) A (execs body env) (WTurn s J n Post Q) (fun _ _ => False) s₁ else WExit s Post s₁) (fun _ _ => False) { s with heap := h, toks := tk })
    (fin : ∀ h tk, Post h tk → Q .next { s with heap := h, toks := tk }) :
    wpAny (model prog w) A (exec (.While test body [] pos) env) Q E s := by
  refine while_inv J n j0 fun n h tk j => wpAny_mono (turn n h tk j) (fun b s₁ h₁ => ?_) (fun _ _ x => x)
  cases b with
  | false =>
    simp only [Bool.false_eq_true, if_false] at h₁ ⊢
    obtain ⟨h', tk', rfl, hp⟩ := h₁
    exact fin h' tk' hp
  | true =>
    simp only [if_true] at h₁ ⊢
    refine wpAny_mono h₁ (fun f s₂ h₂ => ?_) (fun _ _ x => x)
    cases f with
    | ret v => exact h₂
    | brk => obtain ⟨h', tk', rfl, hp⟩ := h₂; exact fin h' tk' hp
    | next => exact h₂
    | cont => exact h₂
theorem off2 {a e i : Addr} (h : a ∉ [e, i]) : (@Ne Nat a e) ∧ (@Ne Nat a i) := ⟨fun q => h (q ▸ .head _), fun q => h (q ▸ .tail _ (.head _))⟩

theorem rs_enum {E : Value → Shared → Prop} {L D : Addr} {m : Str → Option Value} {news : List (Addr × Obj)} {its : List Value} {n : Nat} {Q : Value → Shared → Prop} (F : Fr g L s.heap m) (N : News g L s.heap news) (hm : (D, listOf its.toArray n) ∈ news)
    (h : ∀ e it h', Fr g L h' m → News g L h' news → IsEnum h' e it 0 .none → h'.IsListIter it D 0 → (e ≠ L ∧ it ≠ L ∧ g.get? e = none ∧ g.get? it = none) → (∀ p ∈ news, p.1 ∉ [e, it]) → Q (.ref e) { s with heap := h' }) :
    wpAny (model prog w) A (call (.type "enumerate") [.ref D]) Q E s := by
  refine call_enumerate_1 (N _ hm).1 ?_
  intro h' he hi hz k
  have hL : L < s.heap.objs.size := F.ns.lt
  refine h _ _ h' ⟨F.ns.keeps k, fun b o e => k b o (F.keep b o e), F.above⟩ (fun p hp => ⟨k _ _ (N p hp).1, (N p hp).2⟩) he hi ⟨Nat.ne_of_gt (Nat.lt_succ_of_lt hL), Nat.ne_of_gt hL, fresh_g F _ (Nat.le_succ _), fresh_g F _ (Nat.le_refl _)⟩
    (fun p hp hm => by
      have h1 : p.1 < s.heap.objs.size := Heap.lt_size (N p hp).1
      rcases List.mem_cons.mp hm with q | hm
      · exact absurd (q ▸ h1) (Nat.not_lt.mpr (Nat.le_succ _))
      · exact absurd ((List.mem_singleton.mp hm) ▸ h1) (Nat.lt_irrefl _))
end

section
variable {prog : Program} {w : World} {A : Around} {s : Shared} {g : Heap} {E : Value → Shared → Prop} {L : Addr} {m : Str → Option Value} {news : List (Addr × Obj)}
theorem rs_min {a b : Int} {t u : Tok} {Q : Value → Shared → Prop} (hh : A.handled = none) (F : Fr g L s.heap m) (N : News g L s.heap news) (h : ∀ h' tk t', Fr g L h' m → News g L h' news → Q (.int (min a b) t') { s with heap := h', toks := tk }) :
    wpAny (model prog w) A (call (.builtin "min") [.int a t, .int b u]) Q E s :=
  min_two_N hh F N fun h' tk F' N' => by
    have e : (if b < a then b else a) = min a b := by split <;> omega
    rw [e]; exact h h' tk _ F' N'
theorem rs_max {a b : Int} {t u : Tok} {Q : Value → Shared → Prop} (hh : A.handled = none) (F : Fr g L s.heap m) (N : News g L s.heap news) (h : ∀ h' tk t', Fr g L h' m → News g L h' news → Q (.int (max a b) t') { s with heap := h', toks := tk }) :
    wpAny (model prog w) A (call (.builtin "max") [.int a t, .int b u]) Q E s :=
  max_two_N hh F N fun h' tk F' N' => by
    have e : (if b > a then b else a) = max a b := by split <;> omega
    rw [e]; exact h h' tk _ F' N'
end

theorem fr_eq {g h : Heap} {L : Addr} {m m' : Str → Option Value} (F : Fr g L h m) (e : m = m') : Fr g L h m' := e ▸ F
theorem map_self2 {m : Str → Option Value} {x y : Str} : m = fun z => if z = y then m y else if z = x then m x else m z := by
  funext z
  by_cases h : z = y
  · rw [if_pos h, h]
  · rw [if_neg h]
    by_cases h2 : z = x
    · rw [if_pos h2, h2]
    · rw [if_neg h2]
theorem map_over2 {m : Str → Option Value} {x y : Str} {u v u' v' : Option Value} : (fun z => if z = y then v' else if z = x then u' else (if z = y then v else if z = x then u else m z)) = fun z => if z = y then v' else if z = x then u' else m z := by
  funext z
  by_cases h : z = y
  · simp [h]
  · by_cases h2 : z = x
    · simp [h2]
    · simp [h, h2]

/-- refs to plain ranges by one -/
inductive RngsP (P : Addr → Obj → Prop) : List Value → List (Int × Int) → Prop
  | nil : RngsP P [] []
  | cons {a : Addr} {lo hi : Int} {t1 t2 t3 : Tok} {vs : List Value} {rs : List (Int × Int)} : P a (rngO lo hi t1 t2 t3) → RngsP P vs rs → RngsP P (.ref a :: vs) ((lo, hi) :: rs)
theorem RngsP.length {P : Addr → Obj → Prop} {vs : List Value} {rs : List (Int × Int)} (x : RngsP P vs rs) : vs.length = rs.length := by
  induction x with
  | nil => rfl
  | cons _ _ ih => rw [List.length_cons, List.length_cons, ih]
theorem RngsP.mono {P P' : Addr → Obj → Prop} {vs : List Value} {rs : List (Int × Int)} (x : RngsP P vs rs) (k : ∀ a o, P a o → P' a o) : RngsP P' vs rs := by
  induction x with
  | nil => exact .nil
  | cons e _ ih => exact .cons (k _ _ e) ih
theorem RngsP.to {P : Addr → Obj → Prop} {h : Heap} {vs : List Value} {rs : List (Int × Int)} (x : RngsP P vs rs) (k : ∀ a o, P a o → h.get? a = some o) : Rngs h vs rs := by
  induction x with
  | nil => exact .nil
  | cons e _ ih => exact .cons (k _ _ e) ih
theorem RngsP.of {P : Addr → Obj → Prop} {h : Heap} {vs : List Value} {rs : List (Int × Int)} (x : Rngs h vs rs) (k : ∀ a lo hi t1 t2 t3, h.get? a = some (rngO lo hi t1 t2 t3) → P a (rngO lo hi t1 t2 t3)) : RngsP P vs rs := by
  induction x with
  | nil => exact .nil
  | cons e _ ih => exact .cons (k _ _ _ _ _ _ e) ih
theorem RngsP.at {P : Addr → Obj → Prop} {vs : List Value} {rs : List (Int × Int)} (x : RngsP P vs rs) : ∀ {i : Nat} {lo hi : Int}, rs[i]? = some (lo, hi) → ∃ a t1 t2 t3, vs[i]? = some (.ref a) ∧ P a (rngO lo hi t1 t2 t3) := by
  induction x with
  | nil => intro i lo hi hv; simp at hv
  | cons e _ ih =>
    intro i lo hi hv
    cases i with
    | zero => simp at hv; obtain ⟨rfl, rfl⟩ := hv; exact ⟨_, _, _, _, by simp, e⟩
    | succ i => simp at hv; simpa using ih hv
theorem RngsP.append {P : Addr → Obj → Prop} {vs ws : List Value} {rs qs : List (Int × Int)} (x : RngsP P vs rs) (y : RngsP P ws qs) : RngsP P (vs ++ ws) (rs ++ qs) := by
  induction x with
  | nil => exact y
  | cons e _ ih => exact .cons e ih
theorem RngsP.take {P : Addr → Obj → Prop} {vs : List Value} {rs : List (Int × Int)} (x : RngsP P vs rs) : ∀ n, RngsP P (vs.take n) (rs.take n) := by
  induction x with
  | nil => intro n; simp; exact .nil
  | cons e _ ih => intro n; cases n with
    | zero => simp; exact .nil
    | succ n => simp; exact .cons e (ih n)
theorem RngsP.drop {P : Addr → Obj → Prop} {vs : List Value} {rs : List (Int × Int)} (x : RngsP P vs rs) : ∀ n, RngsP P (vs.drop n) (rs.drop n) := by
  induction x with
  | nil => intro n; simp; exact .nil
  | cons e y ih => intro n; cases n with
    | zero => simp; exact .cons e y
    | succ n => simp; exact ih n
theorem RngsP.set {P : Addr → Obj → Prop} {vs : List Value} {rs : List (Int × Int)} (x : RngsP P vs rs) {a : Addr} {lo hi : Int} {t1 t2 t3 : Tok} (e : P a (rngO lo hi t1 t2 t3)) : ∀ n, RngsP P (vs.set n (.ref a)) (rs.set n (lo, hi)) := by
  induction x with
  | nil => intro n; simp; exact .nil
  | cons q y ih => intro n; cases n with
    | zero => exact .cons e y
    | succ n => exact .cons q (ih n)
/-- an object out of the frame's ground, or out of the ledger's unwritten rest -/
def Src (g : Heap) (I : List (Addr × Obj)) (a : Addr) (o : Obj) : Prop := g.get? a = some o ∨ (a, o) ∈ I
theorem Src.here {g h : Heap} {I news : List (Addr × Obj)} {L a : Addr} {o : Obj} {m : Str → Option Value} (x : Src g I a o) (F : Fr g L h m) (N : News g L h news) (k : ∀ p ∈ I, p ∈ news) : h.get? a = some o := x.elim (F.keep _ _) fun q => (N _ (k _ q)).1
theorem Src.more {g : Heap} {I : List (Addr × Obj)} {a : Addr} {o : Obj} (p : Addr × Obj) (x : Src g I a o) : Src g (p :: I) a o := x.elim .inl fun q => .inr (.tail _ q)

def mergeL (a : Int) : Int → List (Int × Int) → List (Int × Int)
  | b, [] => [(a, b)]
  | b, (lo, hi) :: rest => if lo ≤ b then mergeL a (max hi b) rest else (a, b) :: (lo, hi) :: rest
def addL (a b : Int) : List (Int × Int) → List (Int × Int)
  | [] => [(a, b)]
  | (lo, hi) :: rest => if b < lo then (a, b) :: (lo, hi) :: rest else if a > hi then (lo, hi) :: addL a b rest else mergeL (min a lo) (max b hi) rest

theorem drop_cons {rs : List (Int × Int)} {i : Nat} {q : Int × Int} (h : rs[i]? = some q) : rs.drop i = q :: rs.drop (i + 1) := by
  obtain ⟨hi, e⟩ := List.getElem?_eq_some_iff.mp h
  rw [List.drop_eq_getElem_cons hi, e]
theorem take_succ' {rs : List (Int × Int)} {i : Nat} {q : Int × Int} (h : rs[i]? = some q) : rs.take (i + 1) = rs.take i ++ [q] := by
  rw [List.take_add_one, h]; rfl
theorem addL_ins {a b lo hi : Int} {rs : List (Int × Int)} {i : Nat} (h : rs[i]? = some (lo, hi)) (h1 : b < lo) (e : addL a b rs = rs.take i ++ addL a b (rs.drop i)) : addL a b rs = rs.take i ++ (a, b) :: rs.drop i := by
  rw [e, drop_cons h]; simp [addL, h1]
theorem addL_go {a b lo hi : Int} {rs : List (Int × Int)} {i : Nat} (h : rs[i]? = some (lo, hi)) (h1 : ¬ b < lo) (h2 : a > hi) (e : addL a b rs = rs.take i ++ addL a b (rs.drop i)) : addL a b rs = rs.take (i + 1) ++ addL a b (rs.drop (i + 1)) := by
  rw [e, drop_cons h, take_succ' h]; simp [addL, h1, h2]
theorem addL_merge {a b lo hi : Int} {rs : List (Int × Int)} {i : Nat} (h : rs[i]? = some (lo, hi)) (h1 : ¬ b < lo) (h2 : ¬ a > hi) (e : addL a b rs = rs.take i ++ addL a b (rs.drop i)) : addL a b rs = rs.take i ++ mergeL (min a lo) (max b hi) (rs.drop (i + 1)) := by
  rw [e, drop_cons h]; simp only [addL, if_neg h1, if_neg h2]
theorem mergeL_go {a b lo hi : Int} {rs : List (Int × Int)} {i : Nat} (h : rs[i]? = some (lo, hi)) (h1 : lo ≤ b) : mergeL a b (rs.drop i) = mergeL a (max hi b) (rs.drop (i + 1)) := by
  rw [drop_cons h]; simp [mergeL, h1]
theorem mergeL_stop {a b : Int} {rs : List (Int × Int)} {i : Nat} (h : ∀ lo hi, rs[i]? = some (lo, hi) → ¬ lo ≤ b) : mergeL a b (rs.drop i) = (a, b) :: rs.drop i := by
  cases q : rs[i]? with
  | none => rw [List.drop_eq_nil_of_le (List.getElem?_eq_none_iff.mp q)]; rfl
  | some p => rw [drop_cons q]; simp [mergeL, h p.1 p.2 q]

def subL (a b : Int) : List (Int × Int) → List (Int × Int)
  | [] => []
  | (lo, hi) :: rest => if b ≤ lo then (lo, hi) :: rest else if a ≥ hi then (lo, hi) :: subL a b rest else if a ≤ lo ∧ b ≥ hi then subL a b rest
      else if a > lo then (if b < hi then (lo, a) :: (b, hi) :: rest else (lo, a) :: subL a b rest) else (b, hi) :: subL a b rest
/-- the walk's measure -/
def subM (b : Int) (rs : List (Int × Int)) (i : Nat) : Nat := 2 * (rs.length - i) + (match rs[i]? with | some q => if b ≤ q.1 then 0 else 1 | none => 1)
theorem subM_lt {b : Int} {rs rs' : List (Int × Int)} {i j : Nat} (h : rs'.length - j < rs.length - i) : subM b rs' j < subM b rs i := by
  unfold subM
  have h1 : (match rs'[j]? with | some q => if b ≤ q.1 then 0 else 1 | none => 1) ≤ 1 := by
    split
    · split <;> omega
    · omega
  omega
theorem subM_ins {b lo hi lo' hi' : Int} {rs rs' : List (Int × Int)} {i j : Nat} (h : rs'.length - j = rs.length - i) (e : rs[i]? = some (lo, hi)) (hb : ¬ b ≤ lo) (e' : rs'[j]? = some (lo', hi')) (hb' : b ≤ lo') : subM b rs' j < subM b rs i := by
  unfold subM
  rw [e, e']
  simp only [if_neg hb, if_pos hb']
  omega
theorem map_more {m : Str → Option Value} {x y : Str} {v : Option Value} (hxy : x ≠ y) : (fun z => if z = y then v else m z) = fun z => if z = x then m x else if z = y then v else m z := by
  funext z
  by_cases h : z = x
  · subst h; simp [hxy]
  · simp [h]
theorem map_ri {m : Str → Option Value} {x y : Str} {a b c d : Option Value} (hxy : x ≠ y) : (fun z => if z = y then a else if z = x then b else if z = x then c else if z = y then d else m z) = fun z => if z = x then b else if z = y then a else m z := by
  funext z
  by_cases h : z = x
  · subst h; simp [hxy]
  · by_cases h2 : z = y
    · subst h2; simp [Ne.symm hxy]
    · simp [h, h2]
section
variable {a b lo hi : Int} {rs rs' : List (Int × Int)} {i : Nat}
theorem subL_ret (h : rs'[i]? = some (lo, hi)) (h1 : b ≤ lo) (e : subL a b rs = rs'.take i ++ subL a b (rs'.drop i)) : subL a b rs = rs' := by
  rw [e, drop_cons h]
  simp only [subL, if_pos h1]
  rw [← drop_cons h, List.take_append_drop]
theorem subL_go (h : rs'[i]? = some (lo, hi)) (h1 : ¬ b ≤ lo) (h2 : hi ≤ a) (e : subL a b rs = rs'.take i ++ subL a b (rs'.drop i)) : subL a b rs = rs'.take (i + 1) ++ subL a b (rs'.drop (i + 1)) := by
  rw [e, drop_cons h, take_succ' h]
  simp only [subL, if_neg h1, ge_iff_le, if_pos h2, List.append_assoc, List.cons_append, List.nil_append]
theorem take_cut (h : i < rs'.length) {ys zs : List (Int × Int)} : (rs'.take i ++ ys).take i = rs'.take i ∧ (rs'.take i ++ ys).drop i = ys := by
  have hl : (rs'.take i).length = i := by rw [List.length_take]; omega
  constructor
  · rw [List.take_append_of_le_length (by omega), List.take_take, Nat.min_self]
  · conv => lhs; rw [← hl]
    rw [List.length_take, Nat.min_eq_left (by omega), ← hl]
    simp
theorem subL_pop (h : rs'[i]? = some (lo, hi)) (h1 : ¬ b ≤ lo) (h2 : ¬ hi ≤ a) (h3 : a ≤ lo) (h4 : hi ≤ b) (e : subL a b rs = rs'.take i ++ subL a b (rs'.drop i)) :
    subL a b rs = (rs'.take i ++ rs'.drop (i + 1)).take i ++ subL a b ((rs'.take i ++ rs'.drop (i + 1)).drop i) := by
  obtain ⟨q1, q2⟩ := take_cut (List.getElem?_eq_some_iff.mp h).1 (ys := rs'.drop (i + 1)) (zs := [])
  rw [q1, q2, e, drop_cons h]
  simp only [subL, if_neg h1, ge_iff_le, if_neg h2, if_pos (show a ≤ lo ∧ hi ≤ b from ⟨h3, h4⟩)]
theorem set_cut {q : Int × Int} (h : i < rs'.length) : (rs'.set i q).take (i + 1) = rs'.take i ++ [q] ∧ (rs'.set i q).drop (i + 1) = rs'.drop (i + 1) := by
  have hl : (rs'.take i).length = i := by rw [List.length_take]; omega
  rw [List.set_eq_take_append_cons_drop, if_pos h]
  constructor
  · rw [List.take_append, hl, List.take_of_length_le (by omega), Nat.add_sub_cancel_left]; rfl
  · rw [List.drop_append, hl, List.drop_eq_nil_of_le (by omega), Nat.add_sub_cancel_left]; rfl
theorem subL_right (h : rs'[i]? = some (lo, hi)) (h1 : ¬ b ≤ lo) (h2 : ¬ hi ≤ a) (h3 : a ≤ lo) (h4 : ¬ hi ≤ b) (e : subL a b rs = rs'.take i ++ subL a b (rs'.drop i)) :
    subL a b rs = (rs'.set i (b, hi)).take (i + 1) ++ subL a b ((rs'.set i (b, hi)).drop (i + 1)) := by
  obtain ⟨q1, q2⟩ := set_cut (q := (b, hi)) (List.getElem?_eq_some_iff.mp h).1
  rw [q1, q2, e, drop_cons h]
  simp only [subL, if_neg h1, ge_iff_le, if_neg h2, if_neg (show ¬ (a ≤ lo ∧ hi ≤ b) from fun z => h4 z.2), gt_iff_lt, if_neg (show ¬ lo < a by omega), List.append_assoc, List.cons_append, List.nil_append]
theorem subL_left (h : rs'[i]? = some (lo, hi)) (h1 : ¬ b ≤ lo) (h2 : ¬ hi ≤ a) (h3 : ¬ a ≤ lo) (h4 : ¬ b < hi) (e : subL a b rs = rs'.take i ++ subL a b (rs'.drop i)) :
    subL a b rs = (rs'.set i (lo, a)).take (i + 1) ++ subL a b ((rs'.set i (lo, a)).drop (i + 1)) := by
  obtain ⟨q1, q2⟩ := set_cut (q := (lo, a)) (List.getElem?_eq_some_iff.mp h).1
  rw [q1, q2, e, drop_cons h]
  simp only [subL, if_neg h1, ge_iff_le, if_neg h2, if_neg (show ¬ (a ≤ lo ∧ hi ≤ b) from fun z => h3 z.1), gt_iff_lt, if_pos (show lo < a by omega), if_neg h4, List.append_assoc, List.cons_append, List.nil_append]
theorem subL_mid (h : rs'[i]? = some (lo, hi)) (h1 : ¬ b ≤ lo) (h2 : ¬ hi ≤ a) (h3 : ¬ a ≤ lo) (h4 : b < hi) (e : subL a b rs = rs'.take i ++ subL a b (rs'.drop i)) :
    subL a b rs = ((rs'.set i (lo, a)).take (i + 1) ++ (b, hi) :: (rs'.set i (lo, a)).drop (i + 1)).take (i + 1) ++ subL a b (((rs'.set i (lo, a)).take (i + 1) ++ (b, hi) :: (rs'.set i (lo, a)).drop (i + 1)).drop (i + 1)) := by
  have hi' := (List.getElem?_eq_some_iff.mp h).1
  obtain ⟨q1, q2⟩ := set_cut (q := (lo, a)) hi'
  have hl : (rs'.take i ++ [(lo, a)]).length = i + 1 := by rw [List.length_append, List.length_take]; simp; omega
  rw [q1, q2, List.take_append_of_le_length (by omega), List.take_of_length_le (by omega), List.drop_append, List.drop_eq_nil_of_le (by omega), hl, Nat.sub_self, List.drop_zero, List.nil_append]
  rw [e, drop_cons h]
  simp only [subL, if_neg h1, ge_iff_le, if_neg h2, if_neg (show ¬ (a ≤ lo ∧ hi ≤ b) from fun z => h3 z.1), gt_iff_lt, if_pos (show lo < a by omega), if_pos h4, Int.le_refl, if_true, List.append_assoc, List.cons_append, List.nil_append]
theorem subL_end (hl : rs'.length ≤ i) (e : subL a b rs = rs'.take i ++ subL a b (rs'.drop i)) : subL a b rs = rs' := by
  rw [e, List.drop_eq_nil_of_le hl, List.take_of_length_le hl]; simp [subL]
end

theorem mid_get {xs : List (Int × Int)} {i : Nat} {q : Int × Int} (h : i < xs.length) : (xs.take (i + 1) ++ q :: xs.drop (i + 1))[i + 1]? = some q := by
  have hl : (xs.take (i + 1)).length = i + 1 := by rw [List.length_take]; omega
  rw [List.getElem?_append_right (by omega), hl, Nat.sub_self]; rfl
theorem mid_len {α : Type} {xs : List α} {i : Nat} {q : α} (h : i < xs.length) : (xs.take (i + 1) ++ q :: xs.drop (i + 1)).length = xs.length + 1 := by
  simp only [List.length_append, List.length_take, List.length_cons, List.length_drop]; omega

theorem mergeL_len (a : Int) : ∀ (rs : List (Int × Int)) (b : Int), (mergeL a b rs).length ≤ rs.length + 1
  | [], b => by simp [mergeL]
  | (lo, hi) :: rest, b => by
    unfold mergeL
    split
    · have := mergeL_len a rest (max hi b); simp only [List.length_cons]; omega
    · simp
theorem addL_len (a b : Int) : ∀ rs : List (Int × Int), (addL a b rs).length ≤ rs.length + 1
  | [] => by simp [addL]
  | (lo, hi) :: rest => by
    unfold addL
    split
    · simp
    · split
      · have := addL_len a b rest; simp only [List.length_cons]; omega
      · have := mergeL_len (min a lo) rest (max b hi); simp only [List.length_cons]; omega
theorem subL_len (a b : Int) : ∀ rs : List (Int × Int), (subL a b rs).length ≤ rs.length + 1
  | [] => by simp [subL]
  | (lo, hi) :: rest => by
    have := subL_len a b rest
    unfold subL
    (repeat' split) <;> simp only [List.length_cons] <;> omega
def addAll (qs : List (Int × Int)) (rs : List (Int × Int)) : List (Int × Int) := qs.foldl (fun acc q => addL q.1 q.2 acc) rs
theorem addAll_snoc (qs : List (Int × Int)) (q : Int × Int) (rs : List (Int × Int)) : addAll (qs ++ [q]) rs = addL q.1 q.2 (addAll qs rs) := by simp [addAll]
theorem addAll_len : ∀ (qs rs : List (Int × Int)), (addAll qs rs).length ≤ rs.length + qs.length
  | [], rs => by simp [addAll]
  | q :: qs, rs => by
    have h1 := addAll_len qs (addL q.1 q.2 rs)
    have h2 := addL_len q.1 q.2 rs
    show (addAll qs (addL q.1 q.2 rs)).length ≤ _
    simp only [List.length_cons]; omega
end RS
end

section
open PySem PySem.W PySem.Calls PyProof.Rows
open Sem (wp)
set_option maxRecDepth 100000
set_option maxHeartbeats 0
set_option linter.unusedVariables false
namespace RS

/-- the whole heap as a ledger's unwritten rest -/
theorem ledger_all (g h : Heap) (L : Addr) (W : List Addr) : ∃ I, News g L h I ∧ (∀ p ∈ I, p.1 ∉ W) ∧ ∀ a o, h.get? a = some o → a ∉ W → a ≠ L → g.get? a = none → (a, o) ∈ I := by
  refine ⟨(List.range h.objs.size).filterMap fun a => match h.get? a with
    | some o => if a ∉ W ∧ a ≠ L ∧ g.get? a = none then some (a, o) else none
    | none => none, ?_, ?_, ?_⟩
  · intro p hp
    obtain ⟨a, _, e⟩ := List.mem_filterMap.mp hp
    split at e
    · rename_i o ho
      split at e
      · rename_i hc
        cases e
        exact ⟨ho, hc.2.1, hc.2.2⟩
      · cases e
    · cases e
  · intro p hp
    obtain ⟨a, _, e⟩ := List.mem_filterMap.mp hp
    split at e
    · split at e
      · rename_i hc
        cases e
        exact hc.1
      · cases e
    · cases e
  · intro a o e hW hL hg
    refine List.mem_filterMap.mpr ⟨a, List.mem_range.mpr (Heap.lt_size e), ?_⟩
    rw [e]
    exact if_pos ⟨hW, hL, hg⟩

theorem src_all {g h : Heap} {L : Addr} {m : Str → Option Value} {W : List Addr} {I : List (Addr × Obj)} (F : Fr g L h m) (k : ∀ a o, h.get? a = some o → a ∉ W → a ≠ L → g.get? a = none → (a, o) ∈ I) {a : Addr} {o : Obj}
    (e : h.get? a = some o) (hW : a ∉ W) (hL : a ≠ L) : Src g I a o := by
  cases q : g.get? a with
  | none => exact .inr (k a o e hW hL q)
  | some o' =>
    have := F.keep _ _ q
    rw [e] at this
    cases this
    exact .inl q

theorem fr_keepBut {g h h' : Heap} {L : Addr} {m : Str → Option Value} {W : List Addr} (F : Fr g L h m) (k : KeepBut W h h') (hW : ∀ b ∈ W, b ≠ L ∧ g.get? b = none) : Fr g L h' m :=
  ⟨F.ns.at' fun o e => k _ _ (fun q => (hW _ q).1 rfl) e, fun b o e => k _ _ (fun q => by rw [(hW _ q).2] at e; cases e) (F.keep b o e), F.above⟩
theorem ns_not {h : Heap} {L : Addr} {m : Str → Option Value} (n : h.Ns L m) {a : Addr} {o : Obj} (e : h.get? a = some o) (hd : ∀ es ep, o.data ≠ .dict es ep) : a ≠ L := by
  rintro rfl
  obtain ⟨o', es, ep, e', hd', _⟩ := n
  rw [e] at e'
  cases e'
  exact hd _ _ hd'

section
variable {prog : Program} {w : World} {M : Model} {A : Around} {E : Value → Shared → Prop} {s : Shared} {h₀ : Heap} {L : Addr} {m : Str → Option Value} {news : List (Addr × Obj)}
theorem rs_newList {vs : List Value} {Q : Value → Shared → Prop} (F : Fr h₀ L s.heap m) (N : News h₀ L s.heap news)
    (h : ∀ l h', Fr h₀ L h' m → News h₀ L h' ((l, listOf vs.toArray 0) :: news) → (∀ p ∈ news, p.1 < l) → s.heap.objs.size ≤ l → Q (.ref l) { s with heap := h' }) (hsz : vs.length ≤ sizeLine := by size_fits) : wpAny M A (newList vs) Q E s :=
  newList_N F N (fun h' F' N' => h _ h' F' N' (fun p hp => Heap.lt_size (N p hp).1) (Nat.le_refl _)) hsz
end
end RS
end

section
open PySem PySem.W PySem.Calls PyProof.Rows
open Sem (wp)
set_option maxRecDepth 100000
set_option maxHeartbeats 0
set_option linter.unusedVariables false
namespace RS

section
variable {prog : Program} {w : World} {A : Around} {E : Value → Shared → Prop} {s : Shared} {g : Heap} {L : Addr} {m : Str → Option Value} {env : Env}

/-- the continuation of a list comprehension behind pyIter -/
abbrev CompK (prog : Program) (w : World) (A : Around) (E : Value → Shared → Prop) (env : Env) (elt iter : Expr) (x : Str) (px : PySem.Pos) (scope : Scope) (cl : List (Str × Addr)) (pos : PySem.Pos) (Q : Value → Shared → Prop) (it : Value) (s₂ : Shared) : Prop :=
  wpAny (model prog w) A (newList []) (fun acc s₃ => wpAny (model prog w) A (newFunctionEnv scope env.globals cl [] env.qual none .none (some env)) (fun cenv s₄ =>
    codeAny (model prog w) A (.compStart (.ListComp elt [⟨.Name x px, iter, [], 0⟩] scope pos) 0 it acc { cenv with scope := relabel scope env }) (compPost (model prog w) A E none Q acc cenv.locals) s₄) E s₃) E s₂

theorem comp_open {elt iter : Expr} {x : Str} {px : PySem.Pos} {scope : Scope} {cl : List (Str × Addr)} {pos : PySem.Pos} {Q : Value → Shared → Prop}
    (hclos : closureFor scope env = pure cl) (hkind : scope.kind = .function) (hnames : ∀ y ∈ scope.names, y.2 = .local → scope.names.lookup y.1 = some .local)
    (h : wpAny (model prog w) A (eval iter env) (fun xv s₁ => wpAny (model prog w) A (pyIter xv) (CompK prog w A E env elt iter x px scope cl pos Q) E s₁) E s)
    (hs : ∀ x, foldedSetIterable iter env x = pure x := by intro _; rfl) :
    wpAny (model prog w) A (eval (.ListComp elt [⟨.Name x px, iter, [], 0⟩] scope pos) env) Q E s := by
  rw [eval_ListComp]
  exact wpAny_comprehension_free (use := none) rfl hs hclos hkind hnames h

theorem rest_of {elt : Expr} {x : Str} {scope : Scope} {cl : List (Str × Addr)} {S : List (Addr × Obj) → Prop} {P : Nat → Value → Prop} {n : Nat} (J : Nat → List Value → List (Addr × Obj) → Prop)
    (turn : ∀ i v I oI C oC D m₂ ys news' h tk (E' : Value → Shared → Prop), i < n → P i v → J i ys news' → LCg.NsObj oC m₂ → m₂ x = some v → Fr g L h m → News g L h ((I, oI) :: (C, oC) :: (D, LCg.lst ys) :: news') → LCg.Off3 I C D news' → ((@Ne Nat I C) ∧ (@Ne Nat I D) ∧ (@Ne Nat C D)) →
      wpAny (model prog w) A (eval elt (compEnvC scope cl C env)) (LCg.CompEnd g L m { s with heap := h, toks := tk } I oI C oC D (LCg.lst ys) S (fun y news'' => J (i + 1) (ys ++ [y]) news'')) E' { s with heap := h, toks := tk }) :
    ∀ k i ys news', i + k = n → J i ys news' → LCg.CompRest prog w A g L m env elt x scope cl s S P (fun ys news' => J n ys news') k i ys news' := by
  intro k
  induction k with
  | zero => intro i ys news' e j; obtain rfl : i = n := by omega
            exact LCg.CompRest.zero j
  | succ k ih =>
    intro i ys news' e j
    refine LCg.CompRest.succ ?_
    intro v I oI C oC D m₂ h tk E' hP hC hx F N off ne
    refine wpAny_mono (turn i v I oI C oC D m₂ ys news' h tk E' (by omega) hP j hC hx F N off ne) (fun y s₂ hq => ?_) fun _ _ e => e
    obtain ⟨h', tk', nw, e, F', N', off', hS, hj⟩ := hq
    exact ⟨h', tk', nw, e, F', N', off', hS, ih (i + 1) _ nw (by omega) hj⟩

theorem comp_walks {I : Addr} {fp : List Addr} {n : Nat} {P : Nat → Value → Prop} {St : Nat → Heap → Prop} {S : List (Addr × Obj) → Prop} {elt iter : Expr} {x : Str} {px : PySem.Pos} {scope : Scope} {cl : List (Str × Addr)} {pos : PySem.Pos} {news : List (Addr × Obj)} {Q : Value → Shared → Prop}
    (W : Walks prog w A I fp [I] n P St) (hsz : n ≤ 100000) (hIo : ∀ i h, St i h → ∃ o, h.get? I = some o)
    (hSt : ∀ i h h' o nw, St i h → h.get? I = some o → h'.get? I = some o → (∀ b o, g.get? b = some o → h'.get? b = some o) → News g L h' nw → S nw → St i h')
    (hcell : ∀ y ∈ scope.names, y.2 ≠ .cell) (hkind : scope.kind = .function) (hx : scope.names.lookup x = some .local) (hst : St 0 s.heap) (hfp : ∀ b ∈ fp, b < s.heap.objs.size)
    (F : Fr g L s.heap m) (N : News g L s.heap news) (hIL : L ≠ I) (hI₀ : g.get? I = none) (off : ∀ p ∈ news, p.1 ≠ I) (hS : S news)
    (J : Nat → List Value → List (Addr × Obj) → Prop) (j0 : J 0 [] news)
    (turn : ∀ i v I oI C oC D m₂ ys news' h tk (E' : Value → Shared → Prop), i < n → P i v → J i ys news' → LCg.NsObj oC m₂ → m₂ x = some v → Fr g L h m → News g L h ((I, oI) :: (C, oC) :: (D, LCg.lst ys) :: news') → LCg.Off3 I C D news' → ((@Ne Nat I C) ∧ (@Ne Nat I D) ∧ (@Ne Nat C D)) →
      wpAny (model prog w) A (eval elt (compEnvC scope cl C env)) (LCg.CompEnd g L m { s with heap := h, toks := tk } I oI C oC D (LCg.lst ys) S (fun y news'' => J (i + 1) (ys ++ [y]) news'')) E' { s with heap := h, toks := tk })
    (fin : ∀ ys news' D h tk, J n ys news' → Fr g L h m → News g L h ((D, LCg.lst ys) :: news') → LCg.Off1 D news' → Q (.ref D) { s with heap := h, toks := tk }) :
    CompK prog w A E env elt iter x px scope cl pos Q (.ref I) s := by
  refine LCg.block_U W (by rw [sizeLine_eq]; omega) hIo hSt hcell hkind hx hst hfp F N hIL hI₀ off hS (rest_of J turn n 0 [] news (by omega) j0) ?_
  intro D C h tk m' ys news' F' N' o1 hn hC₀ hD₀ hCL hDL hCD offC hj
  refine ⟨m', hn, fun h'' hs'' => fin ys news' D h'' tk hj (F'.change hs'' hCL hC₀) (fun p hp => ?_) o1⟩
  refine ⟨hs''.extBut _ _ ?_ (N' p hp).1, (N' p hp).2⟩
  rcases List.mem_cons.mp hp with rfl | hp
  · exact Ne.symm hCD
  · exact offC p hp

theorem comp_listit {l I : Addr} {vs : List Value} {elt iter : Expr} {x : Str} {px : PySem.Pos} {scope : Scope} {cl : List (Str × Addr)} {pos : PySem.Pos} {news : List (Addr × Obj)} {Q : Value → Shared → Prop}
    (hh : A.handled = none) (hsz : vs.length ≤ 100000) (hl : s.heap.IsList l vs.toArray) (hli : s.heap.IsListIter I l 0)
    (hcell : ∀ y ∈ scope.names, y.2 ≠ .cell) (hkind : scope.kind = .function) (hx : scope.names.lookup x = some .local)
    (F : Fr g L s.heap m) (N : News g L s.heap news) (hIL : L ≠ I) (hI₀ : g.get? I = none) (off : ∀ p ∈ news, p.1 ≠ I) (hS : LCg.SrcAt g l vs.toArray news)
    (J : Nat → List Value → List (Addr × Obj) → Prop) (j0 : J 0 [] news)
    (turn : ∀ i v I oI C oC D m₂ ys news' h tk (E' : Value → Shared → Prop), vs[i]? = some v → J i ys news' → LCg.NsObj oC m₂ → m₂ x = some v → Fr g L h m → News g L h ((I, oI) :: (C, oC) :: (D, LCg.lst ys) :: news') → LCg.Off3 I C D news' → ((@Ne Nat I C) ∧ (@Ne Nat I D) ∧ (@Ne Nat C D)) →
      wpAny (model prog w) A (eval elt (compEnvC scope cl C env)) (LCg.CompEnd g L m { s with heap := h, toks := tk } I oI C oC D (LCg.lst ys) (LCg.SrcAt g l vs.toArray) (fun y news'' => J (i + 1) (ys ++ [y]) news'')) E' { s with heap := h, toks := tk })
    (fin : ∀ ys news' D h tk, J vs.length ys news' → Fr g L h m → News g L h ((D, LCg.lst ys) :: news') → LCg.Off1 D news' → Q (.ref D) { s with heap := h, toks := tk }) :
    CompK prog w A E env elt iter x px scope cl pos Q (.ref I) s := by
  obtain ⟨ol, hol, hlc, _⟩ := id hl
  obtain ⟨oi, hoi, hic, _⟩ := id hli
  have hne : l ≠ I := fun e => by subst e; rw [hol] at hoi; cases hoi; rw [hlc] at hic; exact absurd hic (by decide)
  refine comp_walks (n := vs.length) (P := fun i v => vs.toArray[i]? = some v) (Walks.list hh I l hne vs.toArray |> fun W => by rw [List.size_toArray] at W; exact W) hsz (fun i h st => let ⟨o, ho, _⟩ := st.1; ⟨o, ho⟩) LCg.list_st hcell hkind hx ⟨hli, hl⟩ ?_ F N hIL hI₀ off hS J j0
    (fun i v I oI C oC D m₂ ys news' h tk E' _ hP => turn i v I oI C oC D m₂ ys news' h tk E' (by simpa using hP)) fin
  intro b hb
  rcases List.mem_cons.mp hb with rfl | hb
  · exact Heap.lt_size hoi
  · rw [List.mem_singleton.mp hb]; exact Heap.lt_size hol

end
end RS
end

section
open PySem PySem.W PySem.Calls PyProof.Rows
open Sem (wp)
set_option maxRecDepth 100000
set_option maxHeartbeats 0
set_option linter.unusedVariables false
namespace RS

abbrev tupO (vs : List Value) : Obj := { cls := .type "tuple", data := .seq vs.toArray }
/-- refs to objects that tell of data -/
inductive ListP {α : Type} (R : α → Obj → Prop) (P : Addr → Obj → Prop) : List Value → List α → Prop
  | nil : ListP R P [] []
  | cons {a : Addr} {o : Obj} {d : α} {vs : List Value} {ds : List α} : P a o → R d o → ListP R P vs ds → ListP R P (.ref a :: vs) (d :: ds)
def IsPair (q : Int × Int) (o : Obj) : Prop := ∃ t u, o = tupO [.int q.1 t, .int q.2 u]
def IsDeed (q : Bool × Int × Int) (o : Obj) : Prop := ∃ t u, o = tupO [.bool q.1, .int q.2.1 t, .int q.2.2 u]
/-- the heap as a source -/
def At (h : Heap) (a : Addr) (o : Obj) : Prop := h.get? a = some o

section
variable {α : Type} {R : α → Obj → Prop} {P P' : Addr → Obj → Prop} {vs ws : List Value} {ds es : List α}
theorem ListP.length (x : ListP R P vs ds) : vs.length = ds.length := by
  induction x with
  | nil => rfl
  | cons _ _ _ ih => rw [List.length_cons, List.length_cons, ih]
theorem ListP.mono (x : ListP R P vs ds) (k : ∀ a o, P a o → (∃ d, R d o) → P' a o) : ListP R P' vs ds := by
  induction x with
  | nil => exact .nil
  | cons e r _ ih => exact .cons (k _ _ e ⟨_, r⟩) r ih
theorem ListP.keeps {h h' : Heap} (x : ListP R (At h) vs ds) (k : ∀ a o, h.get? a = some o → (∃ d, R d o) → h'.get? a = some o) : ListP R (At h') vs ds := x.mono k
theorem ListP.stays {h h' : Heap} (x : ListP R (At h) vs ds) (k : h.StaysIn h') : ListP R (At h') vs ds := x.mono fun a o e _ => k a o e
theorem ListP.get (x : ListP R P vs ds) : ∀ {i : Nat} {v : Value}, vs[i]? = some v → ∃ a o d, v = .ref a ∧ ds[i]? = some d ∧ P a o ∧ R d o := by
  induction x with
  | nil => intro i v hv; simp at hv
  | cons e r _ ih =>
    intro i v hv
    cases i with
    | zero => simp at hv; subst hv; exact ⟨_, _, _, rfl, by simp, e, r⟩
    | succ i => simp at hv; simpa using ih hv
theorem ListP.at (x : ListP R P vs ds) : ∀ {i : Nat} {d : α}, ds[i]? = some d → ∃ a o, vs[i]? = some (.ref a) ∧ P a o ∧ R d o := by
  induction x with
  | nil => intro i d hv; simp at hv
  | cons e r _ ih =>
    intro i d hv
    cases i with
    | zero => simp at hv; subst hv; exact ⟨_, _, by simp, e, r⟩
    | succ i => simp at hv; simpa using ih hv
theorem ListP.append (x : ListP R P vs ds) (y : ListP R P ws es) : ListP R P (vs ++ ws) (ds ++ es) := by
  induction x with
  | nil => exact y
  | cons e r _ ih => exact .cons e r ih
theorem ListP.one {a : Addr} {o : Obj} {d : α} (e : P a o) (r : R d o) : ListP R P [.ref a] [d] := .cons e r .nil
end

theorem ListP.tups {α : Type} {R : α → Obj → Prop} {f : α → Array Value → Prop} {g : Heap} {vs : List Value} {ds : List α} (x : ListP R (At g) vs ds) (hf : ∀ d o, R d o → ∃ arr, o = { cls := .type "tuple", data := .seq arr } ∧ f d arr) :
    ∃ da : List (Array Value), TupsAt g vs da ∧ da.length = ds.length ∧ ∀ (i : Nat) a, da[i]? = some a → ∃ d, ds[i]? = some d ∧ f d a := by
  induction x with
  | nil => exact ⟨[], ⟨rfl, fun i d h => by simp at h⟩, rfl, fun i a h => by simp at h⟩
  | @cons a o d vs ds e r _ ih =>
    obtain ⟨da, ⟨h1, h2⟩, h3, h4⟩ := ih
    obtain ⟨arr, rfl, hr⟩ := hf _ _ r
    refine ⟨arr :: da, ⟨by simp [h1], ?_⟩, by simp [h3], ?_⟩
    · intro i d' hd
      cases i with
      | zero => simp at hd; subst hd; exact ⟨a, by simp, _, e, rfl, 0, rfl⟩
      | succ i => simp at hd; simpa using h2 i d' hd
    · intro i d' hd
      cases i with
      | zero => simp at hd; subst hd; exact ⟨d, by simp, hr⟩
      | succ i => simp at hd; simpa using h4 i d' hd
theorem deeds_tups {g : Heap} {vs : List Value} {ds : List (Bool × Int × Int)} (x : ListP IsDeed (At g) vs ds) :
    ∃ da : List (Array Value), TupsAt g vs da ∧ da.length = ds.length ∧ ∀ (i : Nat) a, da[i]? = some a → ∃ d : Bool × Int × Int, ds[i]? = some d ∧ ∃ t u, a = #[.bool d.1, .int d.2.1 t, .int d.2.2 u] :=
  ListP.tups (f := fun (d : Bool × Int × Int) a => ∃ t u, a = #[.bool d.1, .int d.2.1 t, .int d.2.2 u]) x fun d o r => by
    obtain ⟨t, u, rfl⟩ := r
    exact ⟨_, rfl, t, u, rfl⟩
theorem map_over3 {m : Str → Option Value} {x y z : Str} {a b c a' b' c' : Option Value} :
    (fun k => if k = x then a else if k = y then b else if k = z then c else if k = x then a' else if k = y then b' else if k = z then c' else m k) = fun k => if k = x then a else if k = y then b else if k = z then c else m k := by
  funext k
  by_cases h1 : k = x
  · simp [h1]
  · by_cases h2 : k = y
    · simp [h1, h2]
    · by_cases h3 : k = z
      · simp [h3]
      · simp [h1, h2, h3]
theorem map_self3 {m : Str → Option Value} {x y z : Str} : m = fun k => if k = x then m x else if k = y then m y else if k = z then m z else m k := by
  funext k
  by_cases h1 : k = x
  · rw [if_pos h1, h1]
  · rw [if_neg h1]
    by_cases h2 : k = y
    · rw [if_pos h2, h2]
    · rw [if_neg h2]
      by_cases h3 : k = z
      · rw [if_pos h3, h3]
      · rw [if_neg h3]

/-- the last deed that covers a number tells -/
def holds : List (Bool × Int × Int) → Int → Bool
  | [], _ => false
  | (b, s, e) :: r, v => if s ≤ v ∧ v < e then b else holds r v
theorem holds_yes {ds : List (Bool × Int × Int)} {i : Nat} {b : Bool} {x y v : Int} (h : ds[i]? = some (b, x, y)) (h1 : x ≤ v) (h2 : v < y) (e : holds ds v = holds (ds.drop i) v) : holds ds v = b := by
  obtain ⟨hi, q⟩ := List.getElem?_eq_some_iff.mp h
  rw [e, List.drop_eq_getElem_cons hi, q]; simp [holds, h1, h2]
theorem holds_go {ds : List (Bool × Int × Int)} {i : Nat} {b : Bool} {x y v : Int} (h : ds[i]? = some (b, x, y)) (hn : ¬ (x ≤ v ∧ v < y)) (e : holds ds v = holds (ds.drop i) v) : holds ds v = holds (ds.drop (i + 1)) v := by
  obtain ⟨hi, q⟩ := List.getElem?_eq_some_iff.mp h
  rw [e, List.drop_eq_getElem_cons hi, q]; simp only [holds, if_neg hn]
end RS
end

section
open PySem PySem.W PySem.Calls PyProof.Rows
open Sem (wp)
set_option maxRecDepth 100000
set_option maxHeartbeats 0
set_option linter.unusedVariables false
namespace RS

theorem tup_item {prog : Program} {w : World} {A : Around} {E : Value → Shared → Prop} {s : Shared} {value slice : PySem.Expr} {t : Addr} {l : List Value} {k : Int} {u : Tok} {x : Value} {Q : Value → Shared → Prop} (ht : s.heap.get? t = some (tupO l))
    (h0 : 0 ≤ k) (hhi : k < 2 ^ 63) (hx : l[k.toNat]? = some x) (h : Q x s)
    (hs : subscripted slice false (.ref t) (.int k u) = operate [.ref t, .int k u] (getItem (.ref t) (.int k u)) := by with_unfolding_all rfl) :
    wpAny (model prog w) A (subscriptTail value slice (.ref t) (.int k u)) Q E s :=
  item_tupleT (l := l) ⟨_, ht, rfl, 0, rfl⟩ (by omega) hhi (seqIndex_of h0 (by have := (List.getElem?_eq_some_iff.mp hx).1; omega)) hx h hs

theorem take_snoc {α : Type} {rs : List α} {i : Nat} {q : α} (h : rs[i]? = some q) : rs.take (i + 1) = rs.take i ++ [q] := by
  rw [List.take_add_one, h]; rfl
theorem fr_know {g h : Heap} {L : Addr} {m : Str → Option Value} {x : Str} {v : Value} (F : Fr g L h m) (e : m x = some v) : Fr g L h (fun y => if y = x then some v else m y) := by
  have : (fun y => if y = x then some v else m y) = m := by
    funext y
    by_cases q : y = x
    · rw [if_pos q, q, e]
    · rw [if_neg q]
  rw [this]; exact F
/-- None or a number -/
def optV (o : Option Int) (t : Tok) : Value := match o with | some n => .int n t | none => .none
theorem stays_refl (h : Heap) : h.StaysIn h := fun _ _ e => e
/-- a comprehension's turn: what stays, what is new -/
def CompStay (g : Heap) (Z : List (Addr × Obj)) (s : Shared) (Rel : Value → (Addr → Obj → Prop) → Prop) (y : Value) (s₂ : Shared) : Prop :=
  ∃ h' tk, s₂ = { s with heap := h', toks := tk } ∧ s.heap.StaysIn h' ∧ Rel y (fun a o => Src g Z a o ∨ (s.heap.get? a = none ∧ h'.get? a = some o))
theorem CompStay.intro {g : Heap} {Z : List (Addr × Obj)} {s : Shared} {Rel : Value → (Addr → Obj → Prop) → Prop} {y : Value} {h' : Heap} {tk : Nat} (k : s.heap.StaysIn h') (r : Rel y (fun a o => Src g Z a o ∨ (s.heap.get? a = none ∧ h'.get? a = some o))) :
    CompStay g Z s Rel y { s with heap := h', toks := tk } := ⟨h', tk, rfl, k, r⟩

section
variable {prog : Program} {w : World} {A : Around} {E : Value → Shared → Prop} {s : Shared} {g : Heap} {L : Addr} {m : Str → Option Value} {env : Env}

theorem comp_turn {elt : PySem.Expr} {C : Addr} {oC oI : Obj} {I D : Addr} {scope : Scope} {cl : List (Str × Addr)} {ys : List Value} {news Z : List (Addr × Obj)} {S : List (Addr × Obj) → Prop} {Rel : Value → (Addr → Obj → Prop) → Prop} {J : Value → List (Addr × Obj) → Prop} {E' : Value → Shared → Prop} {h : Heap} {tk : Nat}
    (F : Fr g L h m) (N : News g L h ((I, oI) :: (C, oC) :: (D, LCg.lst ys) :: (news ++ Z))) (off : LCg.Off3 I C D (news ++ Z))
    (hS : ∀ Z', S (news ++ Z')) (hmono : ∀ y P P', (∀ a o, P a o → P' a o) → Rel y P → Rel y P') (hJ : ∀ y Z', Rel y (Src g (news ++ Z')) → J y (news ++ Z'))
    (turn : wpAny (model prog w) A (eval elt (compEnvC scope cl C env)) (CompStay g (news ++ Z) { s with heap := h, toks := tk } Rel) E' { s with heap := h, toks := tk }) :
    wpAny (model prog w) A (eval elt (compEnvC scope cl C env)) (LCg.CompEnd g L m { s with heap := h, toks := tk } I oI C oC D (LCg.lst ys) S J) E' { s with heap := h, toks := tk } := by
  refine wpAny_mono turn (fun y s₂ hq => ?_) fun _ _ e => e
  obtain ⟨h', tk', rfl, st, r⟩ := hq
  replace st : h.StaysIn h' := st
  have F' : Fr g L h' m := F.keeps st
  have N' := N.grown st
  obtain ⟨Z', NZ, offZ', allZ⟩ := ledger_all g h' L (I :: C :: D :: news.map (·.1))
  have o3 := LCg.Off3.mem off
  refine ⟨h', tk', news ++ Z', rfl, F', ?_, LCg.Off3.of ?_, hS Z', hJ y Z' (hmono y _ _ ?_ r)⟩
  · intro p hp
    simp only [List.mem_cons, List.mem_append] at hp
    rcases hp with rfl | rfl | rfl | hp | hp
    · exact N' _ (.head _)
    · exact N' _ (.tail _ (.head _))
    · exact N' _ (.tail _ (.tail _ (.head _)))
    · exact N' p (.tail _ (.tail _ (.tail _ (List.mem_append_left _ hp))))
    · exact NZ p hp
  · intro p hp
    rcases List.mem_append.mp hp with hp | hp
    · exact o3 p (List.mem_append_left _ hp)
    · have := offZ' p hp
      simp only [List.mem_cons, not_or] at this
      exact ⟨this.1, this.2.1, this.2.2.1⟩
  · intro a o q
    have key : h'.get? a = some o → a ≠ I → a ≠ C → a ≠ D → a ≠ L → Src g (news ++ Z') a o := by
      intro e nI nC nD nL
      by_cases hn : a ∈ news.map (·.1)
      · obtain ⟨p, hp, rfl⟩ := List.mem_map.mp hn
        have := (N' p (.tail _ (.tail _ (.tail _ (List.mem_append_left _ hp))))).1
        rw [e] at this
        cases this
        exact .inr (List.mem_append_left _ hp)
      · cases q : g.get? a with
        | none => exact .inr (List.mem_append_right _ (allZ a o e (by simp only [List.mem_cons, not_or]; exact ⟨nI, nC, nD, hn⟩) nL q))
        | some o' =>
          have := F'.keep _ _ q
          rw [e] at this
          cases this
          exact .inl q
    rcases q with (q | q) | ⟨q1, q2⟩
    · exact .inl q
    · have b := o3 (a, o) q
      have c := N' (a, o) (.tail _ (.tail _ (.tail _ q)))
      exact key c.1 b.1 b.2.1 b.2.2 c.2.1
    · have ne : ∀ b o', h.get? b = some o' → a ≠ b := fun b o' e z => by subst z; rw [q1] at e; cases e
      obtain ⟨oL, _, _, eL, _⟩ := F.ns
      exact key q2 (ne _ _ (N _ (.head _)).1) (ne _ _ (N _ (.tail _ (.head _))).1) (ne _ _ (N _ (.tail _ (.tail _ (.head _)))).1) (ne _ _ eL)

theorem comp_listit_ro {l I : Addr} {vs : List Value} {elt iter : PySem.Expr} {x : Str} {px : PySem.Pos} {scope : Scope} {cl : List (Str × Addr)} {pos : PySem.Pos} {news : List (Addr × Obj)} {Q : Value → Shared → Prop}
    (hh : A.handled = none) (hsz : vs.length ≤ 100000) (hl : s.heap.IsList l vs.toArray) (hli : s.heap.IsListIter I l 0)
    (hcell : ∀ y ∈ scope.names, y.2 ≠ .cell) (hkind : scope.kind = .function) (hx : scope.names.lookup x = some .local)
    (F : Fr g L s.heap m) (N : News g L s.heap news) (hIL : L ≠ I) (hI₀ : g.get? I = none) (off : ∀ p ∈ news, p.1 ≠ I) (hS : LCg.SrcAt g l vs.toArray news)
    (Rel : Nat → List Value → (Addr → Obj → Prop) → Prop) (hmono : ∀ i ys P P', (∀ a o, P a o → P' a o) → Rel i ys P → Rel i ys P') (r0 : Rel 0 [] (Src g news))
    (turn : ∀ i v I oI C oC D m₂ ys Z h tk (E' : Value → Shared → Prop), vs[i]? = some v → Rel i ys (Src g (news ++ Z)) → LCg.NsObj oC m₂ → m₂ x = some v → Fr g L h m → News g L h ((I, oI) :: (C, oC) :: (D, LCg.lst ys) :: (news ++ Z)) →
      wpAny (model prog w) A (eval elt (compEnvC scope cl C env)) (CompStay g (news ++ Z) { s with heap := h, toks := tk } (fun y => Rel (i + 1) (ys ++ [y]))) E' { s with heap := h, toks := tk })
    (fin : ∀ ys Z D h tk, Rel vs.length ys (Src g (news ++ Z)) → Fr g L h m → News g L h ((D, LCg.lst ys) :: (news ++ Z)) → LCg.Off1 D (news ++ Z) → Q (.ref D) { s with heap := h, toks := tk }) :
    CompK prog w A E env elt iter x px scope cl pos Q (.ref I) s := by
  refine comp_listit hh hsz hl hli hcell hkind hx F N hIL hI₀ off hS (fun i ys news' => ∃ Z, news' = news ++ Z ∧ Rel i ys (Src g (news ++ Z))) ⟨[], (List.append_nil _).symm, by rw [List.append_nil]; exact r0⟩ ?_ ?_
  · rintro i v I oI C oC D m₂ ys news' h tk E' hv ⟨Z, rfl, hr⟩ hC hx F N off ne
    refine comp_turn (Rel := fun y => Rel (i + 1) (ys ++ [y])) F N off (fun Z' => ?_) (fun y => hmono _ _) (fun y Z' r => ⟨Z', rfl, r⟩) (turn i v I oI C oC D m₂ ys Z h tk E' hv hr hC hx F N)
    exact hS.imp id fun ⟨o, hm, r⟩ => ⟨o, List.mem_append_left _ hm, r⟩
  · rintro ys news' D h tk ⟨Z, rfl, hr⟩ F N o1
    exact fin ys Z D h tk hr F N o1

theorem comp_list_ro {l : Addr} {vs : List Value} {elt iter : PySem.Expr} {x : Str} {px : PySem.Pos} {scope : Scope} {cl : List (Str × Addr)} {pos : PySem.Pos} {news : List (Addr × Obj)} {Q : Value → Shared → Prop}
    (hh : A.handled = none) (hsz : vs.length ≤ 100000)
    (hcell : ∀ y ∈ scope.names, y.2 ≠ .cell) (hkind : scope.kind = .function) (hx : scope.names.lookup x = some .local)
    (F : Fr g L s.heap m) (N : News g L s.heap news) (hS : LCg.SrcAt g l vs.toArray news)
    (Rel : Nat → List Value → (Addr → Obj → Prop) → Prop) (hmono : ∀ i ys P P', (∀ a o, P a o → P' a o) → Rel i ys P → Rel i ys P') (r0 : Rel 0 [] (Src g news))
    (turn : ∀ i v I oI C oC D m₂ ys Z h tk (E' : Value → Shared → Prop), vs[i]? = some v → Rel i ys (Src g (news ++ Z)) → LCg.NsObj oC m₂ → m₂ x = some v → Fr g L h m → News g L h ((I, oI) :: (C, oC) :: (D, LCg.lst ys) :: (news ++ Z)) →
      wpAny (model prog w) A (eval elt (compEnvC scope cl C env)) (CompStay g (news ++ Z) { s with heap := h, toks := tk } (fun y => Rel (i + 1) (ys ++ [y]))) E' { s with heap := h, toks := tk })
    (fin : ∀ ys Z D h tk, Rel vs.length ys (Src g (news ++ Z)) → Fr g L h m → News g L h ((D, LCg.lst ys) :: (news ++ Z)) → LCg.Off1 D (news ++ Z) → Q (.ref D) { s with heap := h, toks := tk }) :
    wpAny (model prog w) A (pyIter (.ref l)) (CompK prog w A E env elt iter x px scope cl pos Q) E s := by
  have hl := hS.list F.keep N
  obtain ⟨ol, hol, _⟩ := id hl
  refine wpAny_pyIter_list hl ?_
  have up : ∀ b o, s.heap.get? b = some o → (s.heap.push { cls := .type "list_iterator", data := .fields #[.ref l, .int 0 0] }).get? b = some o := fun b o e => Heap.get?_push_of_some _ e
  exact comp_listit_ro (s := { s with heap := s.heap.push { cls := .type "list_iterator", data := .fields #[.ref l, .int 0 0] } }) hh hsz (hl.at fun o e => up _ _ e) ⟨_, Heap.get?_push_size _ rfl, rfl, rfl⟩ hcell hkind hx (F.keeps up) (N.grown up) (Nat.ne_of_lt F.ns.lt) (fresh_g F _ (Nat.le_refl _)) (fun p hp => size_ne (N p hp).1) hS Rel hmono r0 turn fin
end
end RS
end

section
set_option maxRecDepth 100000
set_option linter.unusedVariables false
namespace RS

def inR (rs : List (Int × Int)) (v : Int) : Bool := rs.any fun q => decide (q.1 ≤ v) && decide (v < q.2)
/-- in order, apart, behind c -/
def CF : Int → List (Int × Int) → Prop
  | _, [] => True
  | c, (lo, hi) :: rest => c < lo ∧ lo < hi ∧ CF hi rest
def Canon (rs : List (Int × Int)) : Prop := ∃ c, CF c rs

theorem inR_cons (lo hi v : Int) (rs : List (Int × Int)) : inR ((lo, hi) :: rs) v = ((decide (lo ≤ v) && decide (v < hi)) || inR rs v) := rfl
theorem inR_nil (v : Int) : inR [] v = false := rfl
theorem CF.mono {c c' : Int} {rs : List (Int × Int)} (h : CF c rs) (hc : c' ≤ c) : CF c' rs := by
  cases rs with
  | nil => trivial
  | cons q r => obtain ⟨lo, hi⟩ := q; exact ⟨by have := h.1; omega, h.2.1, h.2.2⟩
theorem CF.lt : ∀ {rs : List (Int × Int)} {c v : Int}, CF c rs → inR rs v = true → c < v
  | [], _, _, _, h => by simp [inR] at h
  | (lo, hi) :: r, c, v, h, hv => by
    obtain ⟨h1, h2, h3⟩ := h
    rw [inR_cons, Bool.or_eq_true, Bool.and_eq_true, decide_eq_true_eq, decide_eq_true_eq] at hv
    rcases hv with hv | hv
    · omega
    · have := CF.lt h3 hv; omega
theorem CF.pos : ∀ {rs : List (Int × Int)} {c : Int}, CF c rs → ∀ q ∈ rs, q.1 < q.2
  | [], _, _, _, h => nomatch h
  | (lo, hi) :: r, c, h, q, hq => by
    rcases List.mem_cons.mp hq with rfl | hq
    · exact h.2.1
    · exact CF.pos h.2.2 q hq
theorem Canon.pos {rs : List (Int × Int)} (h : Canon rs) : ∀ q ∈ rs, q.1 < q.2 := let ⟨_, h⟩ := h; h.pos

theorem CF.unique : ∀ {rs qs : List (Int × Int)} {c d : Int}, CF c rs → CF d qs → (∀ v, inR rs v = inR qs v) → rs = qs
  | [], [], _, _, _, _, _ => rfl
  | [], (lo, hi) :: r, c, d, _, h, e => by
    have := e lo
    rw [inR_nil, inR_cons] at this
    have h2 := h.2.1
    simp [h2] at this
  | (lo, hi) :: r, [], c, d, h, _, e => by
    have := e lo
    rw [inR_nil, inR_cons] at this
    have h2 := h.2.1
    simp [h2] at this
  | (lo, hi) :: r, (lo', hi') :: r', c, d, h, h', e => by
    obtain ⟨h1, h2, h3⟩ := h
    obtain ⟨h1', h2', h3'⟩ := h'
    have low : ∀ {lo hi : Int} {r : List (Int × Int)} {v : Int}, lo < hi → CF hi r → inR ((lo, hi) :: r) v = true → lo ≤ v := by
      intro lo hi r v a b hv
      rw [inR_cons, Bool.or_eq_true, Bool.and_eq_true, decide_eq_true_eq, decide_eq_true_eq] at hv
      rcases hv with hv | hv
      · exact hv.1
      · have := CF.lt b hv; omega
    have t1 : inR ((lo, hi) :: r) lo = true := by rw [inR_cons]; simp [h2]
    have t2 : inR ((lo', hi') :: r') lo' = true := by rw [inR_cons]; simp [h2']
    have e1 : lo = lo' := by
      have a1 := low h2' h3' ((e lo) ▸ t1)
      have a2 := low h2 h3 ((e lo').symm ▸ t2)
      omega
    subst e1
    have stop : ∀ {lo hi : Int} {r : List (Int × Int)}, lo < hi → CF hi r → inR ((lo, hi) :: r) hi = false := by
      intro lo hi r a b
      rw [inR_cons]
      have h5 : inR r hi = false := by
        cases q : inR r hi with
        | false => rfl
        | true => have := CF.lt b q; omega
      simp [h5]
    have inn : ∀ {lo hi v : Int} {r : List (Int × Int)}, lo ≤ v → v < hi → inR ((lo, hi) :: r) v = true := by
      intro lo hi v r a b
      rw [inR_cons]; simp [a, b]
    have e2 : hi = hi' := by
      by_cases q : hi < hi'
      · have a1 := stop h2 h3
        rw [e hi] at a1
        have a2 := inn (r := r') (show lo ≤ hi by omega) q
        rw [a1] at a2; cases a2
      · by_cases q' : hi' < hi
        · have a1 := stop h2' h3'
          rw [← e hi'] at a1
          have a2 := inn (r := r) (show lo ≤ hi' by omega) q'
          rw [a1] at a2; cases a2
        · omega
    subst e2
    have e3 : r = r' := CF.unique h3 h3' fun v => by
      have ev := e v
      rw [inR_cons, inR_cons] at ev
      by_cases q : lo ≤ v ∧ v < hi
      · have a1 : inR r v = false := by
          cases z : inR r v with
          | false => rfl
          | true => have := CF.lt h3 z; omega
        have a2 : inR r' v = false := by
          cases z : inR r' v with
          | false => rfl
          | true => have := CF.lt h3' z; omega
        rw [a1, a2]
      · have : (decide (lo ≤ v) && decide (v < hi)) = false := by
          rw [Bool.eq_false_iff]; simp; omega
        simpa [this] using ev
    rw [e3]
theorem Canon.unique {rs qs : List (Int × Int)} (h : Canon rs) (h' : Canon qs) (e : ∀ v, inR rs v = inR qs v) : rs = qs := let ⟨_, a⟩ := h; let ⟨_, b⟩ := h'; CF.unique a b e

theorem mergeL_spec (a : Int) : ∀ (rs : List (Int × Int)) (b k : Int), a < b → a ≤ k → CF k rs → (∀ c, c < a → CF c (mergeL a b rs)) ∧ ∀ v, inR (mergeL a b rs) v = ((decide (a ≤ v) && decide (v < b)) || inR rs v)
  | [], b, k, h1, h2, _ => ⟨fun c hc => ⟨hc, h1, trivial⟩, fun v => rfl⟩
  | (lo, hi) :: rest, b, k, h1, h2, ⟨h3, h4, h5⟩ => by
    unfold mergeL
    split
    · rename_i q
      obtain ⟨i1, i2⟩ := mergeL_spec a rest (max hi b) hi (by omega) (by omega) h5
      refine ⟨i1, fun v => ?_⟩
      rw [i2, inR_cons]
      rw [Bool.eq_iff_iff]
      simp only [Bool.or_eq_true, Bool.and_eq_true, decide_eq_true_eq]
      constructor
      · rintro (z | z)
        · by_cases y : v < b
          · exact .inl ⟨z.1, y⟩
          · exact .inr (.inl ⟨by omega, by omega⟩)
        · exact .inr (.inr z)
      · rintro (z | z | z)
        · exact .inl ⟨z.1, by omega⟩
        · exact .inl ⟨by omega, by omega⟩
        · exact .inr z
    · rename_i q
      exact ⟨fun c hc => ⟨hc, h1, by omega, h4, h5⟩, fun v => rfl⟩
theorem addL_spec (a b : Int) (hab : a < b) : ∀ (rs : List (Int × Int)) (c : Int), CF c rs → (∀ d, d ≤ c → d < a → CF d (addL a b rs)) ∧ ∀ v, inR (addL a b rs) v = ((decide (a ≤ v) && decide (v < b)) || inR rs v)
  | [], c, _ => ⟨fun d _ hd => ⟨hd, hab, trivial⟩, fun v => rfl⟩
  | (lo, hi) :: rest, c, ⟨h1, h2, h3⟩ => by
    unfold addL
    split
    · rename_i q
      exact ⟨fun d hd hda => ⟨hda, hab, by omega, h2, h3⟩, fun v => rfl⟩
    · rename_i q
      split
      · rename_i q2
        obtain ⟨i1, i2⟩ := addL_spec a b hab rest hi h3
        refine ⟨fun d hd hda => ⟨by omega, h2, i1 hi (Int.le_refl _) (by omega)⟩, fun v => ?_⟩
        rw [inR_cons, i2, inR_cons]
        cases (decide (a ≤ v) && decide (v < b)) <;> cases (decide (lo ≤ v) && decide (v < hi)) <;> simp
      · rename_i q2
        obtain ⟨i1, i2⟩ := mergeL_spec (min a lo) rest (max b hi) hi (by omega) (by omega) h3
        refine ⟨fun d hd hda => i1 d (by omega), fun v => ?_⟩
        rw [i2, inR_cons, Bool.eq_iff_iff]
        simp only [Bool.or_eq_true, Bool.and_eq_true, decide_eq_true_eq]
        constructor
        · rintro (z | z)
          · by_cases y : a ≤ v ∧ v < b
            · exact .inl y
            · exact .inr (.inl ⟨by omega, by omega⟩)
          · exact .inr (.inr z)
        · rintro (z | z | z)
          · exact .inl ⟨by omega, by omega⟩
          · exact .inl ⟨by omega, by omega⟩
          · exact .inr z
theorem addL_canon {a b : Int} {rs : List (Int × Int)} (hab : a < b) (h : Canon rs) : Canon (addL a b rs) := by
  obtain ⟨c, h⟩ := h
  exact ⟨min c (a - 1), (addL_spec a b hab rs c h).1 _ (by omega) (by omega)⟩
theorem addL_in {a b : Int} {rs : List (Int × Int)} (hab : a < b) (h : Canon rs) (v : Int) : inR (addL a b rs) v = ((decide (a ≤ v) && decide (v < b)) || inR rs v) := by
  obtain ⟨c, h⟩ := h
  exact (addL_spec a b hab rs c h).2 v

theorem subL_spec (a b : Int) (hab : a < b) : ∀ (rs : List (Int × Int)) (c : Int), CF c rs → CF c (subL a b rs) ∧ ∀ v, inR (subL a b rs) v = (inR rs v && !(decide (a ≤ v) && decide (v < b)))
  | [], c, _ => ⟨trivial, fun v => rfl⟩
  | (lo, hi) :: rest, c, ⟨h1, h2, h3⟩ => by
    have far : ∀ v k, CF k rest → inR rest v = true → k < v := fun v k hk hv => CF.lt hk hv
    obtain ⟨i1, i2⟩ := subL_spec a b hab rest hi h3
    unfold subL
    split
    · rename_i q
      refine ⟨⟨h1, h2, h3⟩, fun v => ?_⟩
      cases z : inR ((lo, hi) :: rest) v with
      | false => rfl
      | true =>
        have : lo ≤ v := by
          rw [inR_cons, Bool.or_eq_true, Bool.and_eq_true, decide_eq_true_eq, decide_eq_true_eq] at z
          rcases z with z | z
          · exact z.1
          · have := CF.lt h3 z; omega
        have : ¬ v < b := by omega
        simp [this]
    · rename_i q
      split
      · rename_i q2
        refine ⟨⟨h1, h2, i1⟩, fun v => ?_⟩
        rw [inR_cons, i2, inR_cons]
        by_cases y : lo ≤ v ∧ v < hi
        · have : ¬ a ≤ v := by omega
          simp [this]
        · have : (decide (lo ≤ v) && decide (v < hi)) = false := by rw [Bool.eq_false_iff]; simp; omega
          simp [this]
      · rename_i q2
        split
        · rename_i q3
          refine ⟨i1.mono (by omega), fun v => ?_⟩
          rw [i2, inR_cons]
          by_cases y : lo ≤ v ∧ v < hi
          · have e1 : a ≤ v := by omega
            have e2 : v < b := by omega
            simp [e1, e2]
          · have : (decide (lo ≤ v) && decide (v < hi)) = false := by rw [Bool.eq_false_iff]; simp; omega
            simp [this]
        · rename_i q3
          have nb : ∀ v, inR rest v = true → ¬ (a ≤ v ∧ v < b) ∨ hi ≤ b := fun v hv => by
            have := CF.lt h3 hv
            by_cases y : hi ≤ b
            · exact .inr y
            · exact .inl (by omega)
          split
          · rename_i q4
            split
            · rename_i q5
              refine ⟨⟨h1, q4, by omega, q5, h3⟩, fun v => ?_⟩
              rw [inR_cons, inR_cons, inR_cons]
              cases z : inR rest v with
              | true =>
                have := CF.lt h3 z
                have e1 : ¬ v < b := by omega
                simp [e1]
              | false =>
                rw [Bool.eq_iff_iff]
                simp only [Bool.or_eq_true, Bool.and_eq_true, decide_eq_true_eq, Bool.not_eq_true', Bool.and_eq_false_iff, decide_eq_false_iff_not, Bool.false_eq_true, or_false]
                omega
            · rename_i q5
              refine ⟨⟨h1, q4, i1.mono (by omega)⟩, fun v => ?_⟩
              rw [inR_cons, i2, inR_cons]
              cases z : inR rest v with
              | true =>
                have := CF.lt h3 z
                have e2 : ¬ v < hi := by omega
                have e3 : ¬ v < a := by omega
                simp [e2, e3]
              | false =>
                rw [Bool.eq_iff_iff]
                simp only [Bool.or_eq_true, Bool.and_eq_true, decide_eq_true_eq, Bool.not_eq_true', Bool.and_eq_false_iff, decide_eq_false_iff_not, Bool.false_eq_true, or_false, false_and]
                omega
          · rename_i q4
            have q5 : b < hi := by
              by_cases y : b < hi
              · exact y
              · exact absurd ⟨by omega, by omega⟩ q3
            refine ⟨⟨by omega, q5, i1⟩, fun v => ?_⟩
            rw [inR_cons, i2, inR_cons]
            cases z : inR rest v with
            | true =>
              have := CF.lt h3 z
              have e2 : ¬ v < hi := by omega
              simp [e2]
            | false =>
              rw [Bool.eq_iff_iff]
              simp only [Bool.or_eq_true, Bool.and_eq_true, decide_eq_true_eq, Bool.not_eq_true', Bool.and_eq_false_iff, decide_eq_false_iff_not, Bool.false_eq_true, or_false, false_and]
              omega
theorem subL_canon {a b : Int} {rs : List (Int × Int)} (hab : a < b) (h : Canon rs) : Canon (subL a b rs) := by
  obtain ⟨c, h⟩ := h
  exact ⟨c, (subL_spec a b hab rs c h).1⟩
theorem subL_in {a b : Int} {rs : List (Int × Int)} (hab : a < b) (h : Canon rs) (v : Int) : inR (subL a b rs) v = (inR rs v && !(decide (a ≤ v) && decide (v < b))) := by
  obtain ⟨c, h⟩ := h
  exact (subL_spec a b hab rs c h).2 v

theorem addAll_canon : ∀ {qs rs : List (Int × Int)}, (∀ q ∈ qs, q.1 < q.2) → Canon rs → Canon (addAll qs rs)
  | [], _, _, h => h
  | q :: qs, rs, hp, h => addAll_canon (qs := qs) (rs := addL q.1 q.2 rs) (fun p hm => hp p (.tail _ hm)) (addL_canon (hp q (.head _)) h)
theorem addAll_in : ∀ {qs rs : List (Int × Int)}, (∀ q ∈ qs, q.1 < q.2) → Canon rs → ∀ v, inR (addAll qs rs) v = (inR qs v || inR rs v)
  | [], rs, _, _, v => by rw [inR_nil, Bool.false_or]; rfl
  | q :: qs, rs, hp, h, v => by
    show inR (addAll qs (addL q.1 q.2 rs)) v = _
    rw [addAll_in (fun p hm => hp p (.tail _ hm)) (addL_canon (hp q (.head _)) h) v, addL_in (hp q (.head _)) h, inR_cons]
    cases inR qs v <;> cases inR rs v <;> simp
theorem canon_nil : Canon [] := ⟨0, trivial⟩
theorem addAll_self {rs : List (Int × Int)} (h : Canon rs) {qs : List (Int × Int)} (hp : ∀ q ∈ qs, q.1 < q.2) (e : ∀ v, inR qs v = inR rs v) : addAll qs [] = rs :=
  Canon.unique (addAll_canon hp canon_nil) h fun v => by rw [addAll_in hp canon_nil, inR_nil, Bool.or_false, e]
theorem canon_tail {q : Int × Int} {rs : List (Int × Int)} (h : Canon (q :: rs)) : Canon rs ∧ ∀ v, inR rs v = (inR (q :: rs) v && !(decide (q.1 ≤ v) && decide (v < q.2))) := by
  obtain ⟨c, h⟩ := h
  obtain ⟨lo, hi⟩ := q
  obtain ⟨h1, h2, h3⟩ := h
  refine ⟨⟨hi, h3⟩, fun v => ?_⟩
  rw [inR_cons]
  cases z : inR rs v with
  | true => have := CF.lt h3 z; have e : ¬ v < hi := by omega
            simp [e]
  | false => simp
end RS
end

section
set_option maxRecDepth 100000
namespace RS
def spStep (ds : List (Bool × Int × Int)) (st : List (Int × Int) × Option Int × Option Int) (e : Int) : List (Int × Int) × Option Int × Option Int :=
  if st.2.2 = some e then (st.1, st.2.1, some e)
  else match st.2.1, holds ds e with
    | none, true => (st.1, some e, some e)
    | none, false => (st.1, none, some e)
    | some f, true => (st.1, some f, some e)
    | some f, false => (st.1 ++ [(f, e)], none, some e)
def walkSpans (ds : List (Bool × Int × Int)) (ns : List Int) : List (Int × Int) := (ns.foldl (spStep ds) ([], none, none)).1
end RS
end

section
set_option maxRecDepth 100000
namespace RS
/-- the spans told by the rest of the edges -/
def spGo (ds : List (Bool × Int × Int)) : List Int → Option Int → Int → List (Int × Int)
  | [], _, _ => []
  | e :: es, fi, b => if e = b then spGo ds es fi b else match fi, holds ds e with
    | none, true => spGo ds es (some e) e
    | none, false => spGo ds es none e
    | some f, true => spGo ds es (some f) e
    | some f, false => (f, e) :: spGo ds es none e
theorem spGo_fold (ds : List (Bool × Int × Int)) : ∀ (es : List Int) (sp : List (Int × Int)) (fi : Option Int) (b : Int), (es.foldl (spStep ds) (sp, fi, some b)).1 = sp ++ spGo ds es fi b
  | [], sp, fi, b => by simp [spGo]
  | e :: es, sp, fi, b => by
    rw [List.foldl_cons]
    unfold spGo
    by_cases h : e = b
    · subst h
      have hs : spStep ds (sp, fi, some e) e = (sp, fi, some e) := by simp [spStep]
      rw [hs, if_pos rfl]
      exact spGo_fold ds es sp fi e
    · have h' : ¬ (b = e) := fun q => h q.symm
      rw [if_neg h]
      cases fi with
      | none => cases hh : holds ds e with
        | true =>
          have hs : spStep ds (sp, none, some b) e = (sp, some e, some e) := by simp [spStep, h', hh]
          rw [hs]; exact spGo_fold ds es sp _ e
        | false =>
          have hs : spStep ds (sp, none, some b) e = (sp, none, some e) := by simp [spStep, h', hh]
          rw [hs]; exact spGo_fold ds es sp _ e
      | some f => cases hh : holds ds e with
        | true =>
          have hs : spStep ds (sp, some f, some b) e = (sp, some f, some e) := by simp [spStep, h', hh]
          rw [hs]; exact spGo_fold ds es sp _ e
        | false =>
          have hs : spStep ds (sp, some f, some b) e = (sp ++ [(f, e)], none, some e) := by simp [spStep, h', hh]
          rw [hs, spGo_fold ds es _ _ e, List.append_assoc]; rfl
theorem walkSpans_go (ds : List (Bool × Int × Int)) (e : Int) (es : List Int) : walkSpans ds (e :: es) = spGo ds (e :: es) none (e - 1) := by
  have : (e :: es).foldl (spStep ds) ([], none, none) = (e :: es).foldl (spStep ds) ([], none, some (e - 1)) := by
    rw [List.foldl_cons, List.foldl_cons]
    have hs : spStep ds ([], none, none) e = spStep ds ([], none, some (e - 1)) e := by
      have h : ¬ (e - 1 = e) := by omega
      simp [spStep, h]
    rw [hs]
  show ((e :: es).foldl (spStep ds) ([], none, none)).1 = _
  rw [this, spGo_fold, List.nil_append]

theorem spGo_spec (ds : List (Bool × Int × Int)) : ∀ (es : List Int) (fi : Option Int) (b : Int), (∀ e ∈ es, b ≤ e) → es.Pairwise (· ≤ ·) →
    (∀ u v, b ≤ u → u ≤ v → (∀ e ∈ es, ¬ (u < e ∧ e ≤ v)) → holds ds u = holds ds v) → (∀ v, (∀ e ∈ es, e ≤ v) → b ≤ v → holds ds v = false) →
    fi.isSome = holds ds b → (∀ f, fi = some f → f ≤ b) →
    (∀ c, (fi = none → c ≤ b) → (∀ f, fi = some f → c < f) → CF c (spGo ds es fi b)) ∧ (∀ v, b ≤ v → inR (spGo ds es fi b) v = holds ds v) ∧
      (∀ v, v < b → inR (spGo ds es fi b) v = match fi with | some f => decide (f ≤ v) | none => false)
  | [], fi, b, _, _, _, hend, hfi, _ => by
    have hb : holds ds b = false := hend b (fun _ h => nomatch h) (Int.le_refl _)
    have hn : fi = none := by rw [hb] at hfi; cases fi with
      | none => rfl
      | some _ => cases hfi
    subst hn
    exact ⟨fun c _ _ => trivial, fun v hv => (hend v (fun _ h => nomatch h) hv).symm, fun v _ => rfl⟩
  | e :: es, fi, b, hle, hsort, hconst, hend, hfi, hf => by
    obtain ⟨hs1, hs2⟩ := List.pairwise_cons.mp hsort
    have hbe := hle e (.head _)
    unfold spGo
    by_cases heb : e = b
    · subst heb
      rw [if_pos rfl]
      exact spGo_spec ds es fi e hs1 hs2 (fun u v hu huv hno => hconst u v hu huv fun e' he' => by
          rcases List.mem_cons.mp he' with rfl | he'
          · omega
          · exact hno e' he') (fun v hv hb => hend v (fun e' he' => by
          rcases List.mem_cons.mp he' with rfl | he'
          · exact hb
          · exact hv e' he') hb) hfi hf
    · rw [if_neg heb]
      have hlt : b < e := by omega
      have hc : ∀ v, b ≤ v → v < e → holds ds v = holds ds b := fun v h1 h2 => (hconst b v (Int.le_refl _) h1 fun e' he' => by
        rcases List.mem_cons.mp he' with rfl | he'
        · omega
        · have := hs1 e' he'; omega).symm
      have ih := fun fi' => spGo_spec ds es fi' e hs1 hs2 (fun u v hu huv hno => hconst u v (by omega) huv fun e' he' => by
          rcases List.mem_cons.mp he' with rfl | he'
          · omega
          · exact hno e' he') (fun v hv hb => hend v (fun e' he' => by
          rcases List.mem_cons.mp he' with rfl | he'
          · exact hb
          · exact hv e' he') (by omega))
      cases fi with
      | none =>
        have hb0 : holds ds b = false := hfi.symm
        cases hh : holds ds e with
        | true =>
          obtain ⟨i1, i2, i3⟩ := ih (some e) hh.symm (fun f q => by cases q; omega)
          refine ⟨fun c h1 _ => i1 c (fun q => nomatch q) (fun f q => by cases q; have := h1 rfl; omega), fun v hv => ?_, fun v hv => ?_⟩
          · by_cases h : e ≤ v
            · exact i2 v h
            · rw [hc v hv (by omega), hb0]
              exact (i3 v (by omega)).trans (decide_eq_false h)
          · exact (i3 v (by omega)).trans (decide_eq_false (by omega))
        | false =>
          obtain ⟨i1, i2, i3⟩ := ih none hh.symm (fun f q => by cases q)
          refine ⟨fun c h1 _ => i1 c (fun _ => by have := h1 rfl; omega) (fun f q => by cases q), fun v hv => ?_, fun v hv => ?_⟩
          · by_cases h : e ≤ v
            · exact i2 v h
            · rw [hc v hv (by omega), hb0]
              exact i3 v (by omega)
          · exact i3 v (by omega)
      | some f =>
        have hb0 : holds ds b = true := hfi.symm
        have hfb := hf f rfl
        cases hh : holds ds e with
        | true =>
          obtain ⟨i1, i2, i3⟩ := ih (some f) hh.symm (fun f' q => by cases q; omega)
          refine ⟨fun c _ h2 => i1 c (fun q => nomatch q) h2, fun v hv => ?_, fun v hv => i3 v (by omega)⟩
          by_cases h : e ≤ v
          · exact i2 v h
          · rw [hc v hv (by omega), hb0]
            exact (i3 v (by omega)).trans (decide_eq_true (by omega))
        | false =>
          obtain ⟨i1, i2, i3⟩ := ih none hh.symm (fun f q => by cases q)
          refine ⟨fun c _ h2 => ⟨h2 f rfl, by omega, i1 e (fun _ => Int.le_refl _) (fun f q => by cases q)⟩, fun v hv => ?_, fun v hv => ?_⟩
          · show inR ((f, e) :: spGo ds es none e) v = _
            rw [inR_cons]
            by_cases h : e ≤ v
            · rw [i2 v h, decide_eq_false (show ¬ v < e by omega), Bool.and_false, Bool.false_or]
            · rw [hc v hv (by omega), hb0, decide_eq_true (show v < e by omega), decide_eq_true (show f ≤ v by omega)]; rfl
          · show inR ((f, e) :: spGo ds es none e) v = _
            rw [inR_cons, i3 v (by omega), decide_eq_true (show v < e by omega), Bool.and_true, Bool.or_false]

theorem holds_const : ∀ (ds : List (Bool × Int × Int)) (u v : Int), u ≤ v → (∀ d ∈ ds, ¬ (u < d.2.1 ∧ d.2.1 ≤ v) ∧ ¬ (u < d.2.2 ∧ d.2.2 ≤ v)) → holds ds u = holds ds v
  | [], _, _, _, _ => rfl
  | (b, s, t) :: r, u, v, huv, h => by
    have h1 := h (b, s, t) (.head _)
    have ih := holds_const r u v huv fun d hd => h d (.tail _ hd)
    unfold holds
    dsimp only at h1
    by_cases q : s ≤ u ∧ u < t
    · rw [if_pos q, if_pos (by omega)]
    · rw [if_neg q, if_neg (by omega)]; exact ih
theorem holds_end : ∀ (ds : List (Bool × Int × Int)) (v : Int), (∀ d ∈ ds, d.2.2 ≤ v) → holds ds v = false
  | [], _, _ => rfl
  | (b, s, t) :: r, v, h => by
    have h1 := h (b, s, t) (.head _)
    unfold holds
    dsimp only at h1
    rw [if_neg (by omega)]
    exact holds_end r v fun d hd => h d (.tail _ hd)
theorem holds_low : ∀ (ds : List (Bool × Int × Int)) (v : Int), (∀ d ∈ ds, v < d.2.1) → holds ds v = false
  | [], _, _ => rfl
  | (b, s, t) :: r, v, h => by
    have h1 := h (b, s, t) (.head _)
    unfold holds
    dsimp only at h1
    rw [if_neg (by omega)]
    exact holds_low r v fun d hd => h d (.tail _ hd)

/-- what the edges' walk tells is the list of the numbers that the deeds tell -/
theorem walkSpans_spec (ds : List (Bool × Int × Int)) (ns : List Int) (hp : ns.Perm (ds.map (·.2.1) ++ ds.map (·.2.2))) (hs : ns.Pairwise (· ≤ ·)) : Canon (walkSpans ds ns) ∧ ∀ v, inR (walkSpans ds ns) v = holds ds v := by
  have mem1 : ∀ d ∈ ds, d.2.1 ∈ ns := fun d hd => hp.mem_iff.mpr (List.mem_append_left _ (List.mem_map_of_mem hd))
  have mem2 : ∀ d ∈ ds, d.2.2 ∈ ns := fun d hd => hp.mem_iff.mpr (List.mem_append_right _ (List.mem_map_of_mem hd))
  cases ns with
  | nil =>
    have : ds = [] := by
      cases ds with
      | nil => rfl
      | cons d r => exact nomatch mem1 d (.head _)
    subst this
    exact ⟨⟨0, trivial⟩, fun v => rfl⟩
  | cons e es =>
    rw [walkSpans_go]
    have hlow : ∀ x ∈ e :: es, e ≤ x := fun x hx => by
      rcases List.mem_cons.mp hx with rfl | hx
      · exact Int.le_refl _
      · exact (List.pairwise_cons.mp hs).1 x hx
    obtain ⟨a, b, c⟩ := spGo_spec ds (e :: es) none (e - 1) (fun x hx => by have := hlow x hx; omega) hs
      (fun u v _ huv hno => holds_const ds u v huv fun d hd => ⟨hno _ (mem1 d hd), hno _ (mem2 d hd)⟩)
      (fun v hv _ => holds_end ds v fun d hd => hv _ (mem2 d hd))
      (holds_low ds (e - 1) fun d hd => by have := hlow _ (mem1 d hd); omega).symm (fun f q => nomatch q)
    refine ⟨⟨e - 1, a _ (fun _ => Int.le_refl _) (fun f q => nomatch q)⟩, fun v => ?_⟩
    by_cases h : e - 1 ≤ v
    · exact b v h
    · rw [holds_low ds v fun d hd => by have := hlow _ (mem1 d hd); omega]
      exact c v (by omega)
end RS
end

section
set_option maxRecDepth 100000
namespace RS
theorem in_add {a b : Int} {rs : List (Int × Int)} (hab : a < b) (h : Canon rs) (v : Int) : inR (addL a b rs) v = if a ≤ v ∧ v < b then true else inR rs v := by
  rw [addL_in hab h]
  by_cases h1 : a ≤ v <;> by_cases h2 : v < b <;> simp [h1, h2]
theorem in_sub {a b : Int} {rs : List (Int × Int)} (hab : a < b) (h : Canon rs) (v : Int) : inR (subL a b rs) v = if a ≤ v ∧ v < b then false else inR rs v := by
  rw [subL_in hab h]
  by_cases h1 : a ≤ v <;> by_cases h2 : v < b <;> simp [h1, h2]
theorem in_tail {q : Int × Int} {rs : List (Int × Int)} (h : Canon (q :: rs)) (v : Int) : inR rs v = if q.1 ≤ v ∧ v < q.2 then false else inR (q :: rs) v := by
  rw [(canon_tail h).2 v]
  by_cases h1 : q.1 ≤ v <;> by_cases h2 : v < q.2 <;> simp [h1, h2]
theorem in_holds {ad : Bool} {a b : Int} {rs rs' : List (Int × Int)} {ds : List (Bool × Int × Int)} (e : ∀ v, inR rs' v = if a ≤ v ∧ v < b then ad else inR rs v) (h : ∀ v, inR rs v = holds ds v) (v : Int) : inR rs' v = holds ((ad, a, b) :: ds) v := by
  rw [e, h]; rfl
def subAll (qs : List (Int × Int)) (rs : List (Int × Int)) : List (Int × Int) := qs.foldl (fun acc q => subL q.1 q.2 acc) rs
theorem inR_snoc (T : List (Int × Int)) (q : Int × Int) (v : Int) : inR (T ++ [q]) v = (inR T v || (decide (q.1 ≤ v) && decide (v < q.2))) := by
  unfold inR; rw [List.any_append]; simp
theorem half1 {lo hi : Int} {T rs : List (Int × Int)} (h : lo < hi) (c : Canon rs) (e : ∀ v, inR rs v = inR T v) (v : Int) : inR (addL lo hi rs) v = inR (T ++ [(lo, hi)]) v := by
  rw [inR_snoc, addL_in h c, e, Bool.or_comm]
theorem half2 {lo mid hi : Int} {T rs : List (Int × Int)} (h1 : lo < mid) (h2 : mid < hi) (c : Canon rs) (e : ∀ v, inR rs v = inR T v) (v : Int) : inR (addL lo mid (addL mid hi rs)) v = inR (T ++ [(lo, hi)]) v := by
  rw [inR_snoc, addL_in h1 (addL_canon h2 c), addL_in h2 c, e]
  rw [Bool.eq_iff_iff]
  simp only [Bool.or_eq_true, Bool.and_eq_true, decide_eq_true_eq]
  constructor
  · rintro (h | h | h)
    · right; omega
    · right; omega
    · exact .inl h
  · rintro (h | h)
    · exact .inr (.inr h)
    · by_cases q : v < mid
      · left; omega
      · right; left; omega
end RS
end

section
open PySem PySem.W PySem.Calls PyProof.Rows
open Sem (wp)
set_option maxRecDepth 100000
set_option maxHeartbeats 0
set_option linter.unusedVariables false
namespace RS

section
variable {α : Type} {M : Model} {prog : Program} {w : World} {A : Around} {E : Value → Shared → Prop} {s : Shared}

theorem raiseWordsK {cls msg : String} {Q : α → Shared → Prop} (hp : PlainExc cls) (hh : A.handled = none)
    (h : ∀ h' tk e vs, Heap.MadeExcOf s.heap h' e (.type cls) vs → E (.ref e) { s with heap := h', toks := tk }) :
    wpAny M A (raiseErrorWords cls msg : Sem α) Q E s := by
  unfold raiseErrorWords
  refine wpAny_bind (wpAny_mkText (wpAny_bind ?_))
  unfold newExc newTuple
  refine wpAny_bind (wpAny_newObj_type ?_)
  refine wpAny_bind (m := firstArgMember _ _) (wpAny_of_eq (a := Value.none) (by simp only [firstArgMember, hp.first]; rfl) ?_)
  rw [hp.own]
  refine wpAny_newObj_type ?_
  unfold raiseNew
  refine wpAny_bind (wpAny_handled ?_)
  rw [hh]
  first
    | refine wpAny_throw ?_
    | refine wpAny_bind (wpAny_pure (wpAny_throw ?_))
  exact h _ _ _ _ ⟨fun b o hb => Heap.get?_push_of_some _ (Heap.get?_push_of_some _ hb), Heap.get?_none_of_le (by simp), s.heap.objs.size, Heap.get?_push_size _ rfl, Heap.get?_none_of_le (Nat.le_refl _), Heap.get?_push_of_some _ (Heap.get?_push_size _ rfl)⟩

theorem raiseMadeK {cls msg : String} {Q : α → Shared → Prop} (hp : PlainExc cls) (hh : A.handled = none)
    (h : ∀ h' tk e vs, Heap.MadeExcOf s.heap h' e (.type cls) vs → E (.ref e) { s with heap := h', toks := tk }) (hm : (msg : Str).length ≤ sizeLine := by size_fits) :
    wpAny M A (raiseErrorMade cls msg : Sem α) Q E s := by
  unfold raiseErrorMade
  refine wpAny_bind (wpAny_mkStr (wpAny_bind ?_) hm)
  unfold newExc newTuple
  refine wpAny_bind (wpAny_newObj_type ?_)
  refine wpAny_bind (m := firstArgMember _ _) (wpAny_of_eq (a := Value.none) (by simp only [firstArgMember, hp.first]; rfl) ?_)
  rw [hp.own]
  refine wpAny_newObj_type ?_
  unfold raiseNew
  refine wpAny_bind (wpAny_handled ?_)
  rw [hh]
  first
    | refine wpAny_throw ?_
    | refine wpAny_bind (wpAny_pure (wpAny_throw ?_))
  exact h _ _ _ _ ⟨fun b o hb => Heap.get?_push_of_some _ (Heap.get?_push_of_some _ hb), Heap.get?_none_of_le (by simp), s.heap.objs.size, Heap.get?_push_size _ rfl, Heap.get?_none_of_le (Nat.le_refl _), Heap.get?_push_of_some _ (Heap.get?_push_size _ rfl)⟩

theorem getItem_out {l : Addr} {items : Array Value} {k : Int} {t : Tok} {Q : Value → Shared → Prop} (hA : A.handled = none) (hl : s.heap.IsList l items)
    (hout : k < -(items.size : Int) ∨ (items.size : Int) ≤ k) (hlo : -(2 ^ 63) ≤ k) (hhi : k < 2 ^ 63)
    (hE : ∀ h' tk e vs, Heap.MadeExcOf s.heap h' e (.type "IndexError") vs → E (.ref e) { s with heap := h', toks := tk }) :
    wpAny (model prog w) A (getItem (.ref l) (.int k t)) Q E s := by
  obtain ⟨o, ho, hc, ne, hd⟩ := id hl
  unfold getItem
  try with_reducible refine wpAny_holding ?_
  first | refine wpAny_bind (wpAny_pure ?_) | skip
  refine wpAny_bind (wpAny_sequenceKey hl.typeIs (by decide) ?_)
  refine wpAny_bind (wpAny_callSpecial?_slot (name := Str.ofString "__getitem__") hl.typeIs slot_list_getitem
    (wpAny_call_entry slot_list_getitem hl.typeIs entry_list_getitem ?_ (args_list_getitem _ _)))
  show wpAny _ _ (Builtin.List.listSubscript? (.int k t) >>= _) _ _ s
  refine wpAny_bind (wpAny_listSubscript_int (fitsIndex_both hlo hhi) ?_)
  clear hlo hhi
  cases k with
  | ofNat j =>
    have hx : items[j]? = none := by
      rcases hout with h | h
      · exact absurd h (by simp only [Int.ofNat_eq_natCast]; omega)
      · exact Array.getElem?_eq_none (by have : (items.size : Int) ≤ (j : Int) := h; omega)
    show wpAny _ _ ((seqItemAt l j >>= fun r => pure (r.map (j, ·))) >>= _) _ _ s
    refine wpAny_bind (wpAny_bind (wpAny_seqItemAt ho hd (wpAny_pure ?_)))
    rw [hx]
    first
      | exact wpAny_bind (wpAny_rule (by first | exact raiseWordsK plainExc_IndexError hA hE | exact raiseMadeK plainExc_IndexError hA hE))
      | exact wpAny_bind (wpAny_rule (wpAny_bind (by first | exact raiseWordsK plainExc_IndexError hA hE | exact raiseMadeK plainExc_IndexError hA hE)))
      | exact wpAny_bind (wpAny_bind (wpAny_rule (by first | exact raiseWordsK plainExc_IndexError hA hE | exact raiseMadeK plainExc_IndexError hA hE)))
      | exact wpAny_rule (by first | exact raiseWordsK plainExc_IndexError hA hE | exact raiseMadeK plainExc_IndexError hA hE)
  | negSucc j =>
    have hidx : seqIndex? (Int.negSucc j) items.size = none := by
      rcases hout with h | h
      · exact seqIndex_below h
      · exact absurd h (by have := Int.negSucc_lt_zero j; omega)
    show wpAny _ _ ((Builtin.List.listItems (.ref l) >>= fun xs => pure ((seqIndex? (Int.negSucc j) xs.size).bind fun i => xs[i]?.map (i, ·))) >>= _) _ _ s
    refine wpAny_bind (wpAny_bind ?_)
    show wpAny _ _ (seqItems? (.ref l) >>= _) _ _ s
    refine wpAny_bind (wpAny_seqItems ho hd (wpAny_pure (wpAny_pure ?_)))
    rw [hidx]
    first
      | exact wpAny_bind (wpAny_rule (by first | exact raiseWordsK plainExc_IndexError hA hE | exact raiseMadeK plainExc_IndexError hA hE))
      | exact wpAny_bind (wpAny_rule (wpAny_bind (by first | exact raiseWordsK plainExc_IndexError hA hE | exact raiseMadeK plainExc_IndexError hA hE)))
      | exact wpAny_bind (wpAny_bind (wpAny_rule (by first | exact raiseWordsK plainExc_IndexError hA hE | exact raiseMadeK plainExc_IndexError hA hE)))
      | exact wpAny_rule (by first | exact raiseWordsK plainExc_IndexError hA hE | exact raiseMadeK plainExc_IndexError hA hE)

theorem item_out {l : Addr} {items : Array Value} {k : Int} {u : Tok} {value slice : PySem.Expr} {Q : Value → Shared → Prop} (hA : A.handled = none) (hl : s.heap.IsList l items)
    (hout : k < -(items.size : Int) ∨ (items.size : Int) ≤ k) (hlo : -(2 ^ 63) ≤ k) (hhi : k < 2 ^ 63)
    (hE : ∀ h' tk e vs, Heap.MadeExcOf s.heap h' e (.type "IndexError") vs → E (.ref e) { s with heap := h', toks := tk })
    (hs : subscripted slice false (.ref l) (.int k u) = operate [.ref l, .int k u] (getItem (.ref l) (.int k u)) := by with_unfolding_all rfl) :
    wpAny (model prog w) A (subscriptTail value slice (.ref l) (.int k u)) Q E s :=
  tail_any (s := s) (T := "list") (let ⟨o, ho, hc, _⟩ := hl; ⟨o, ho, hc⟩) slot_list_getitem.lookup (getItem_out hA hl hout hlo hhi hE) hs
end

theorem frames_news {h base : Heap} : ∀ {outer : List Env}, h.FunFrames base outer → ∃ news : List (Addr × Obj), news.map (·.1) = outer.filterMap (·.frame) ∧ ∀ q ∈ news, h.get? q.1 = some q.2 ∧ base.get? q.1 = none
  | [], _ => ⟨[], rfl, fun _ h => nomatch h⟩
  | env :: outer, ⟨hk, ⟨L, o, hf, hn, ho, hd⟩, hr⟩ => by
    obtain ⟨news, e, q⟩ := frames_news hr
    refine ⟨(L, o) :: news, ?_, ?_⟩
    · rw [List.map_cons, List.filterMap_cons, hf, e]
    · intro p hp
      rcases List.mem_cons.mp hp with rfl | hp
      · exact ⟨ho, hn⟩
      · exact q p hp

theorem frames_up {h h' base g : Heap} (st : h.StaysIn h') : ∀ {outer : List Env}, h.FunFrames base outer → (∀ a ∈ outer.filterMap (·.frame), g.get? a = none) → h'.FunFrames g outer
  | [], _, _ => trivial
  | env :: outer, ⟨hk, ⟨L, o, hf, hn, ho, hd⟩, hr⟩, q => ⟨hk, ⟨L, o, hf, q L (List.mem_filterMap.mpr ⟨env, .head _, hf⟩), st _ _ ho, hd⟩,
      frames_up st hr fun a ha => let ⟨e, he, hf'⟩ := List.mem_filterMap.mp ha; q a (List.mem_filterMap.mpr ⟨e, .tail _ he, hf'⟩)⟩

section
variable {prog : Program} {w : World} {A : Around} {s : Shared} {base : Heap} {K : Frag} {p : Program} {loose : List Str} {mean : ExcName → Option Value} {mg mb : Str → Option Value} {news : List (Addr × Obj)}
  {R : Result → Shared → Prop} {name qual : Str} {params : Arguments} {body : List Stmt} {scope : Scope} {dV kV doc pm cdv ct oc : Value} {an od : Option Addr} {osl : Array (Option Value)} {f : Addr} {args : Args} {binds : List (Str × Value)}
/-- as enterK; the body may raise -/
theorem enterR (news : List (Addr × Obj)) (hb : base.StaysIn s.heap) (X : K.In base) (T : Top p loose mean mg mb base)
    (N : ∀ q ∈ news, s.heap.get? q.1 = some q.2 ∧ base.get? q.1 = none)
    (ho : K.lookup f = some ⟨oc, od, .func (fnOf name qual params body scope dV kV doc pm an cdv ct), osl⟩) (hcd : codeIn K cdv qual = true) (hroom : A.depth < recursionLimit)
    (hbind : BindsTo s (fnOf name qual params body scope dV kV doc pm an cdv ct) args binds) (hloc : ∀ y ∈ binds, scope.names.lookup y.1 = some .local)
    (h : ∀ g L' h₁, Fr g L' h₁ (fun y => binds.reverse.lookup y) → News g L' h₁ news → K.In g → Top p loose mean mg mb g → base.StaysIn g → KeepBut (news.map (·.1)) s.heap g → (∀ q ∈ news, q.1 < L') → s.heap.objs.size = L' → (∀ a, g.get? a = none ∨ (a ∉ news.map (·.1) ∧ g.get? a = s.heap.get? a)) →
      wpAny (model prog w) (A.deeper (envOf qual scope L' f cdv)) (execs body (envOf qual scope L' f cdv))
        (fun fl s' => R (.ok (.ret (match fl with | .ret v => v | _ => .none))) s')
        (fun e s' => wpAny (model prog w) (A.deeper (envOf qual scope L' f cdv)) (leaving (envOf qual scope L' f cdv) e) (fun _ s'' => R (.error e) s'') (fun e' s'' => R (.error e') s'') s')
        { s with heap := h₁, toks := s.toks + binds.length })
    (hco : scope.isCoroutine = false) (hgen : scope.isGenerator = false) (hk : scope.kind = .function)
    (hcell : ∀ x ∈ scope.names, x.2 ≠ .cell) : codeAny (model prog w) A (.call (.ref f) args) R s := by
  obtain ⟨st, kb⟩ := ground hb N
  have Xg : K.In (hideAll s.heap (news.map (·.1))) := fun a o e => st _ _ (X a o e)
  have Tg : Top p loose mean mg mb (hideAll s.heap (news.map (·.1))) := T.keeps st
  refine codeAny_call_def (fd := fnOf name qual params body scope dV kV doc pm an cdv ct) (body := body) (binds := binds) hroom (hb _ _ (X _ _ ho)) rfl (T.nolimit.keeps hb)
    (codeRec_of (fun a o e => hb _ _ (X a o e)) hcd) rfl hbind hcell hloc (fun h₁ hns hk₁ => ?_) hco hgen hk
  exact h (hideAll s.heap (news.map (·.1))) s.heap.objs.size h₁ ⟨hns, fun b o e => hk₁ b o (of_hideAll _ e), Nat.le_of_eq (hideAll_size _ _)⟩
    (fun p hp => ⟨hk₁ _ _ (N p hp).1, Nat.ne_of_lt (Heap.lt_size (N p hp).1), hideAll_none _ (List.mem_map_of_mem hp)⟩) Xg Tg st kb
    (fun q hq => Heap.lt_size (N q hq).1) rfl (fun a => by
      by_cases q : a ∈ news.map (·.1)
      · exact .inl (hideAll_none _ q)
      · cases e : s.heap.get? a with
        | none =>
          left
          cases e' : (hideAll s.heap (news.map (·.1))).get? a with
          | none => rfl
          | some o => rw [of_hideAll _ e'] at e; cases e
        | some o => exact .inr ⟨q, hideAll_get _ e q⟩)
end

section
variable {prog : Program} {w : World} {A₀ : Around} {E : Value → Shared → Prop} {s' : Shared} {h₀ h : Heap} {outer : List Env} {L a e t : Addr} {m : Str → Option Value} {name : Str} {scope : Scope} {cd : Value}
  {vs : List Value} {n : Str} {b₀ : Stmt} {suite : List Stmt} {pos np : PySem.Pos} {rest : List ExceptHandler} {Q : Flow → Shared → Prop} {news : List (Addr × Obj)}
  {p : Program} {loose : List Str} {mean : ExcName → Option Value} {mg mb : Str → Option Value} {x : Str} {X T' : String}
/-- an exception out of a callee is caught here, whatever frames lie outside -/
theorem caught_in (hst : A₀.frames = some outer) (F : Fr h₀ L h m) (hsm : h.UpToSlots s'.heap) (R : RaisedK h₀ (envOf name scope L a cd :: outer) e (.type X) t vs news s'.heap)
    (T : TopRead p loose mg mb h₀) (hv : bootBuiltins x = some (.type T'))
    (hexc : isSubtype (.type T') (.type "BaseException") = pure true) (hnt : isSubtype (.type ((Manifest.find? T').elim "type" fun y => y.metatype)) (.type "tuple") = pure false) (hsub : isSubtype (.type X) (.type T') = pure true)
    (k : ∀ h', Fr h₀ L h' m → h.UpToSlots h' →
      wpAny (model prog w) ((A₀.deeper (envOf name scope L a cd)).mark (some (.ref e))) (execs (b₀ :: suite) (envOf name scope L a cd)) Q E { s' with heap := h' })
    (h1 : x ∉ startupNames := by decide +kernel) (h2 : x ∉ loose := by decide +kernel) (h3 : x ∉ (recsOf p).map (·.name) := by decide +kernel) (h4 : x ∉ (litsOf p).map (·.1) := by decide +kernel) (h4c : x ∉ (clssOf p loose).map (·.name) := by decide +kernel) (hn : x ≠ "__name__" := by decide +kernel)
    (hk : scope.kind = .function := by rfl) (hx : (envOf name scope L a cd).kindOf x = some .globalImplicit := by rfl) (hd : (x == ("__debug__" : Str)) = false := by decide)
    (hE : PassesOwnAt (model prog w) ((A₀.deeper (envOf name scope L a cd)).mark (some (.ref e))) (A₀.deeper (envOf name scope L a cd)) (envOf name scope L a cd) E := by passes_own) :
    wpAny (model prog w) (A₀.deeper (envOf name scope L a cd)) (noteFrame (.ref e) (envOf name scope L a cd))
      (fun _ s₂ => wpAny (model prog w) (A₀.deeper (envOf name scope L a cd)) (setFlight (.ref e) none) (fun _ s₃ =>
        wpAny (model prog w) (A₀.deeper (envOf name scope L a cd)) (handleBy (.ref e) (envOf name scope L a cd) (.ExceptHandler (some (.Name x np)) none (b₀ :: suite) pos :: rest)) Q E s₃) E s₂) E s' := by
  obtain ⟨⟨B, hB, _, hfl, _⟩, _⟩ := R
  refine wpAny_looks_onW (Around.frames_deeper hst) rfl hfl fun hA heldA smA => wpAny_landsW heldA fun hB₁ heldB smB => ?_
  have smAB := hsm.trans (smA.trans smB)
  have FB := F.of_stays (flyingW_base hB heldB).1 smAB
  obtain ⟨ob, hob, hobc⟩ := (flyingW_base hB heldB).there
  refine wpAny_handleBy_builtin (X := X) (T := T') (b := true) hexc hnt hsub (ld_builtin_at FB T.g (T.free x h1 h2 h3 h4 h4c) T.b ((T.builtins x hn).trans hv) ⟨rfl, ⟨ob, hob, hobc⟩, ?_⟩ hk hx hd)
  exact lands_againW heldB fun hC heldC smC => wpAny_passesOwnAt hE (k hC (F.of_stays (flyingW_base hB heldC).1 (smAB.trans smC)) (smAB.trans smC))
end
end RS
end

section
open PySem PySem.W PySem.Calls PyProof.Rows PyProof.V PySem.Spec PySem.SeqAt
open Sem (wp)
set_option maxRecDepth 100000
set_option maxHeartbeats 0
set_option linter.unusedVariables false
namespace RS

theorem fresh_off {g h : Heap} {L I : Addr} {m : Str → Option Value} {news : List (Addr × Obj)} (F : Fr g L h m) (N : News g L h news) (e : h.get? I = none) : L ≠ I ∧ g.get? I = none ∧ ∀ p ∈ news, p.1 ≠ I := by
  refine ⟨fun q => ?_, ?_, fun p hp q => ?_⟩
  · obtain ⟨_, _, _, h1, _⟩ := F.ns
    rw [q, e] at h1; cases h1
  · cases q : g.get? I with
    | none => rfl
    | some o => have := F.keep _ _ q; rw [e] at this; cases this
  · have := (N p hp).1
    rw [q, e] at this; cases this
abbrev pairD (q : Int × Int) : PyData := .tuple [.int q.1, .int q.2]
abbrev pairsD (rs : List (Int × Int)) : PyData := .list (rs.map pairD)
theorem reads_pair {h : Heap} {T : Addr} {q : Int × Int} {o : Obj} (e : h.get? T = some o) (r : IsPair q o) : Reads h (.ref T) (pairD q) [] := by
  obtain ⟨t, u, rfl⟩ := r
  exact Reads.tuple e rfl rfl (.cons (.int _ _) (.cons (.int _ _) .nil))
theorem readsAll_pairs {h : Heap} {vs : List Value} {rs : List (Int × Int)} (x : ListP IsPair (At h) vs rs) : ReadsAll h vs (rs.map pairD) [] := by
  induction x with
  | nil => exact .nil
  | cons e r _ ih => exact .cons (reads_pair e r) ih
theorem reads_pairs {h : Heap} {a : Addr} {vs : List Value} {rs : List (Int × Int)} (hl : h.IsList a vs.toArray) (x : ListP IsPair (At h) vs rs) : Reads h (.ref a) (pairsD rs) [a] := by
  obtain ⟨o, ho, hc, n, hd⟩ := hl
  exact Reads.list ho hc hd (by simpa using readsAll_pairs x)
theorem lay_pairs : ∀ rs : List (Int × Int), PyData.canLayAll0 (rs.map pairD) = true
  | [] => by simp [PyData.canLayAll0]
  | n :: r => by simp [PyData.canLayAll0, PyData.canLay0, lay_pairs r]
theorem depth_pairs : ∀ rs : List (Int × Int), PyData.depthAll (rs.map pairD) ≤ 2
  | [] => by simp [PyData.depthAll]
  | n :: r => by
    have := depth_pairs r
    simp only [List.map_cons, PyData.depthAll, PyData.depth]
    omega
theorem shaped_pair (q : Int × Int) : shaped (pairD q) = true := by
  simp [shaped, PyData.canLay0, PyData.canLayAll0, PyData.depth, PyData.depthAll]
theorem shaped_pairs (rs : List (Int × Int)) : shaped (pairsD rs) = true := by
  have h1 := depth_pairs rs
  have h2 : PyData.depth (pairsD rs) ≤ 64 := by simp only [PyData.depth]; omega
  show (PyData.canLay0 (pairsD rs) && decide (PyData.depth (pairsD rs) ≤ 64)) = true
  rw [Bool.and_eq_true]
  exact ⟨by simp only [PyData.canLay0]; exact lay_pairs rs, decide_eq_true h2⟩
theorem mix_pairs : ∀ rs qs : List (Int × Int), noMixAll (rs.map pairD) (qs.map pairD) = true
  | [], [] => by simp [noMixAll]
  | [], _ :: _ => by simp [noMixAll]
  | _ :: _, [] => by simp [noMixAll]
  | _ :: r, _ :: q => by simp [noMixAll, noMix, mix_pairs r q]
theorem same_pair (p q : Int × Int) : PySem.Spec.same (pairD p) (pairD q) = decide (p = q) := by
  obtain ⟨a, b⟩ := p
  obtain ⟨c, d⟩ := q
  simp only [pairD, PySem.Spec.same, PySem.Spec.sameAll, Bool.and_true, Prod.mk.injEq]
  by_cases h1 : a = c <;> by_cases h2 : b = d <;> simp [h1, h2]
theorem same_pairs : ∀ rs qs : List (Int × Int), PySem.Spec.sameAll (rs.map pairD) (qs.map pairD) = decide (rs = qs)
  | [], [] => by simp [PySem.Spec.sameAll]
  | [], _ :: _ => by simp [PySem.Spec.sameAll]
  | _ :: _, [] => by simp [PySem.Spec.sameAll]
  | n :: r, k :: q => by
    simp only [List.map_cons, PySem.Spec.sameAll, same_pair, same_pairs r q]
    by_cases h : n = k <;> simp [h]
theorem frames_upto {h h' base g : Heap} (st : h.UpToSlots h') : ∀ {outer : List Env}, h.FunFrames base outer → (∀ a ∈ outer.filterMap (·.frame), g.get? a = none) → h'.FunFrames g outer
  | [], _, _ => trivial
  | env :: outer, ⟨hk, ⟨L, o, hf, hn, ho, hd⟩, hr⟩, q => by
    obtain ⟨sl, e⟩ := st L o ho hd
    exact ⟨hk, ⟨L, _, hf, q L (List.mem_filterMap.mpr ⟨env, .head _, hf⟩), e, hd⟩,
      frames_upto st hr fun a ha => let ⟨e, he, hf'⟩ := List.mem_filterMap.mp ha; q a (List.mem_filterMap.mpr ⟨e, .tail _ he, hf'⟩)⟩
theorem rangeSize_n (n : Nat) : Builtin.Range.rangeSize 0 n 1 = n := by
  rw [rangeSize_pos (by decide) (by omega)]; omega
theorem small_n {n : Nat} (h : n ≤ 100000) : Builtin.Range.small 0 n 1 = true := by
  simp [Builtin.Range.small, Builtin.Range.rangeFitsLong, rangeSize_n]; omega
section
variable {prog : Program} {w : World} {A : Around} {E : Value → Shared → Prop} {s : Shared}
theorem l_item {value slice : PySem.Expr} {l : Addr} {its : List Value} {n : Nat} {k : Int} {u : Tok} {v : Value} {Q : Value → Shared → Prop} (hl : s.heap.get? l = some (W.listOf its.toArray n)) (h0 : 0 ≤ k) (hf : k < 2 ^ 63) (hx : its[k.toNat]? = some v)
    (h : Q v s) (hs : subscripted slice false (.ref l) (.int k u) = operate [.ref l, .int k u] (getItem (.ref l) (.int k u)) := by with_unfolding_all rfl) : wpAny (model prog w) A (subscriptTail value slice (.ref l) (.int k u)) Q E s :=
  tail_any (s := s) (T := "list") ⟨_, hl, rfl⟩ slot_list_getitem.lookup (wpAny_getItem_list (items := its.toArray) ⟨_, hl, rfl, n, rfl⟩ h0 hf (by simpa using hx) h) hs
theorem eq_pairs {a b : Addr} {vs us : List Value} {rs qs : List (Int × Int)} {Q : Value → Shared → Prop} (hl : s.heap.IsList a vs.toArray) (x : ListP IsPair (At s.heap) vs rs) (hl' : s.heap.IsList b us.toArray) (x' : ListP IsPair (At s.heap) us qs) (hu : A.units + 64 < cLine)
    (h : Q (.bool (decide (rs = qs))) s) : wpAny (model prog w) A (compareOp .Eq (.ref a) (.ref b)) Q E s :=
  eq_dataH_same (reads_pairs hl x) (reads_pairs hl' x') (shaped_pairs rs) (shaped_pairs qs) hu (by simp only [noMix]; exact mix_pairs rs qs) (by simp only [PySem.Spec.same]; rw [same_pairs]; exact h)
theorem ne_pairs {a b : Addr} {vs us : List Value} {rs qs : List (Int × Int)} {Q : Value → Shared → Prop} (hl : s.heap.IsList a vs.toArray) (x : ListP IsPair (At s.heap) vs rs) (hl' : s.heap.IsList b us.toArray) (x' : ListP IsPair (At s.heap) us qs) (hu : A.units + 64 < cLine)
    (h : Q (.bool (!decide (rs = qs))) s) : wpAny (model prog w) A (compareOp .NotEq (.ref a) (.ref b)) Q E s :=
  ne_dataH_same (reads_pairs hl x) (reads_pairs hl' x') (shaped_pairs rs) (shaped_pairs qs) hu (by simp only [noMix]; exact mix_pairs rs qs) (by simp only [PySem.Spec.same]; rw [same_pairs]; exact h)
theorem ne_pair {a b : Addr} {o o' : Obj} {p q : Int × Int} {Q : Value → Shared → Prop} (e : s.heap.get? a = some o) (x : IsPair p o) (e' : s.heap.get? b = some o') (x' : IsPair q o') (hu : A.units + 64 < cLine)
    (h : Q (.bool (!decide (p = q))) s) : wpAny (model prog w) A (compareOp .NotEq (.ref a) (.ref b)) Q E s :=
  ne_dataH_same (reads_pair e x) (reads_pair e' x') (shaped_pair p) (shaped_pair q) hu (by simp [noMix, noMixAll]) (by rw [same_pair]; exact h)
end
end RS
end

section
open PySem PySem.W PySem.Calls PyProof.Rows
open Sem (wp)
set_option maxRecDepth 100000
set_option maxHeartbeats 0
set_option linter.unusedVariables false
namespace RS

/-- a function's statements and names, out of the written part -/
def fnBody (K : Frag) (a : Addr) : List Stmt := match K.lookup a with
  | some o => (match o.data with | .func fd => (match fd.body with | .stmts b => b | _ => []) | _ => [])
  | none => []
def fnScope (K : Frag) (a : Addr) : Scope := match K.lookup a with
  | some o => (match o.data with | .func fd => fd.scope | _ => { kind := .function, names := [], isGenerator := false, isCoroutine := false })
  | none => { kind := .function, names := [], isGenerator := false, isCoroutine := false }
theorem fn_of {K : Frag} {a : Addr} {oc : Value} {od an : Option Addr} {osl : Array (Option Value)} {name qual : Str} {params : Arguments} {body : List Stmt} {scope : Scope} {dV kV doc pm cdv ct : Value}
    (h : K.lookup a = some ⟨oc, od, .func (fnOf name qual params body scope dV kV doc pm an cdv ct), osl⟩) : fnBody K a = body ∧ fnScope K a = scope := by
  unfold fnBody fnScope; rw [h]; exact ⟨rfl, rfl⟩
def nthS : List Stmt → Nat → Stmt
  | [], _ => .Pass default
  | b :: _, 0 => b
  | _ :: r, n + 1 => nthS r n
def dropS : Nat → List Stmt → List Stmt
  | 0, r => r
  | _ + 1, [] => []
  | n + 1, _ :: r => dropS n r
def forBody : Stmt → List Stmt
  | .For _ _ b _ _ => b
  | _ => []

theorem after_same {g h h' : Heap} {L : Addr} {m : Str → Option Value} {news : List (Addr × Obj)} (F : Fr g L h m) (N : News g L h news) (kb : KeepBut [L] h h') (u : h.UpToSlots h') : Fr g L h' m ∧ News g L h' news := by
  have gL : g.get? L = none := Heap.get?_none_of_le F.above
  refine ⟨F.of_stays (fun b o e => kb b o (fun q => by rw [List.mem_singleton.mp q, gL] at e; cases e) (F.keep b o e)) u, fun p hp => ⟨kb _ _ (fun q => (N p hp).2.1 (List.mem_singleton.mp q)) (N p hp).1, (N p hp).2⟩⟩

/-- behind a change of some objects of the ledger: the rest anew -/
theorem reledger {g h h' : Heap} {L : Addr} {m : Str → Option Value} {W A : List Addr} {Z : List (Addr × Obj)} (F' : Fr g L h' m) (N : News g L h Z) (kb : KeepBut W h h') (hW : ∀ a ∈ W, a ∈ A) (offZ : ∀ p ∈ Z, p.1 ∉ A) :
    ∃ Z', News g L h' Z' ∧ (∀ p ∈ Z', p.1 ∉ A) ∧ (∀ a o, Src g Z a o → Src g Z' a o) ∧ ∀ a o, h'.get? a = some o → a ∉ A → a ≠ L → Src g Z' a o := by
  obtain ⟨I, NI, offI, allI⟩ := ledger_all g h' L A
  refine ⟨I, NI, offI, fun a o q => ?_, fun a o e hA hL => src_all F' allI e hA hL⟩
  rcases q with q | q
  · exact .inl q
  · have h1 := offZ _ q
    exact src_all F' allI (kb _ _ (fun z => h1 (hW _ z)) (N _ q).1) h1 (N _ q).2.1

def rhsOf : Stmt → Expr
  | .Assign _ e _ => e
  | _ => .Constant .none 0 default
theorem fr_drop {g h : Heap} {L : Addr} {m : Str → Option Value} {x : Str} {v : Option Value} (F : Fr g L h (fun y => if y = x then v else m y)) (e : m x = v) : Fr g L h m := by
  have : (fun y => if y = x then v else m y) = m := by
    funext y
    by_cases q : y = x
    · rw [if_pos q, q, e]
    · rw [if_neg q]
  rw [this] at F; exact F
/-- a truth value, all else unchanged -/
def BVal (b : Bool) (s : Shared) (v : Value) (s' : Shared) : Prop := v = .bool b ∧ ∃ tk, s' = { s with toks := tk }
/-- behind a store of one name -/
def StoreMid (g : Heap) (L : Addr) (m : Str → Option Value) (news : List (Addr × Obj)) (x : Str) (Pv : Value → Prop) (s : Shared) (fl : Flow) (s' : Shared) : Prop :=
  fl = .next ∧ ∃ h' tk' v, s' = { s with heap := h', toks := tk' } ∧ Pv v ∧ Fr g L h' (fun y => if y = x then some v else m y) ∧ News g L h' news
end RS
end

section
open PySem PySem.W PySem.Calls PyProof.Rows
open Sem (wp)
set_option maxRecDepth 100000
set_option maxHeartbeats 0
set_option linter.unusedVariables false
namespace RS

theorem mem_up {g h : Heap} {L : Addr} {news Z : List (Addr × Obj)} {q : Addr × Obj} (N : News g L h news) (hq : q ∈ news) (up : ∀ a o, Src g news a o → Src g Z a o) : q ∈ Z := by
  rcases up q.1 q.2 (.inr hq) with e | e
  · rw [(N _ hq).2.2] at e; cases e
  · exact e
theorem Rngs.reverse {h : Heap} {vs : List Value} {rs : List (Int × Int)} (x : Rngs h vs rs) : Rngs h vs.reverse rs.reverse := by
  induction x with
  | nil => exact .nil
  | cons e _ ih => rw [List.reverse_cons, List.reverse_cons]; exact ih.append (.one e)
theorem inR_reverse (rs : List (Int × Int)) (v : Int) : RS.inR rs.reverse v = RS.inR rs v := by
  unfold RS.inR; rw [List.any_reverse]

section
variable {prog : Program} {w : World} {A : Around} {s : Shared} {env : Env} {g : Heap} {body : List Stmt} {Q : Flow → Shared → Prop} {E : Value → Shared → Prop}
/-- for over a list of tuples that lie in the ledger -/
theorem for_listTS {elts : List Expr} {kk : Nat} {pt : PySem.Pos} {m : Str → Option Value} {news fix : List (Addr × Obj)} {upd : Array Value → (Str → Option Value) → (Str → Option Value)} {l : Addr} {vs : List Value} {ds : List (Array Value)} (hh : A.handled = none)
    (hAs : ∀ i : Nat, Assigns prog w A env (.Tuple elts kk pt) upd (fun d => ds[(i : Nat)]? = some d))
    (hl : s.heap.IsList l vs.toArray) (hlen : vs.length = ds.length) (hat : ∀ (i : Nat) (d : Array Value), ds[i]? = some d → ∃ T o, vs[i]? = some (Value.ref T) ∧ Src g fix T o ∧ o = { cls := .type "tuple", data := .seq d }) (hsub : ∀ p ∈ fix, p ∈ news) (hlL : l ≠ env.locals) (hk : (∃ o, g.get? l = some o) ∨ ∃ o, (l, o) ∈ fix) (F : Fr g env.locals s.heap m) (N : News g env.locals s.heap news)
    (J : Nat → (Str → Option Value) → List (Addr × Obj) → Prop) (hfix : ∀ i m' news', J i m' news' → ∀ q ∈ fix, q ∈ news') (j0 : J 0 m news)
    (turn : ∀ (i : Nat) (d : Array Value) I oI m' news' h tk, oI.cls = .type "list_iterator" → ds[i]? = some d → J i m' news' → (∀ p ∈ news, p.1 < I) → (∀ p ∈ news', p.1 ∉ [I]) → Fr g env.locals h (upd d m') → News g env.locals h ((I, oI) :: news') →
      wpAny (model prog w) A (execs body env) (RTurnW g env.locals [I] [(I, oI)] (J (i + 1)) s Q) (fun _ _ => False) { s with heap := h, toks := tk })
    (done : ∀ m' news' h tk, J ds.length m' news' → Fr g env.locals h m' → News g env.locals h news' → Q .next { s with heap := h, toks := tk }) :
    wpAny (model prog w) A (pyIter (.ref l)) (ForK prog w A env (.Tuple elts kk pt) body Q E) E s := by
  obtain ⟨ol, hol, hlc, _⟩ := id hl
  refine wpAny_pyIter_list hl ?_
  have k : ∀ b o, s.heap.get? b = some o → (s.heap.push { cls := .type "list_iterator", data := .fields #[.ref l, .int 0 0] }).get? b = some o := fun b o e => Heap.get?_push_of_some _ e
  let Ts : Nat → Addr := fun j => match vs[j]? with | some (.ref T) => T | _ => 0
  let vals : Nat → Array Value := fun j => (ds[j]?).getD #[]
  have hT : ∀ j, j < vs.toArray.size → vs[j]? = some (.ref (Ts j)) ∧ Src g fix (Ts j) { cls := .type "tuple", data := .seq (vals j) } := by
    intro j hj
    rw [List.size_toArray] at hj
    have hd : ds[j]? = some (ds[j]'(hlen ▸ hj)) := List.getElem?_eq_getElem _
    obtain ⟨T, o, hT, hI, rfl⟩ := hat j _ hd
    have e : Ts j = T := by show (match vs[j]? with | some (.ref T) => T | _ => 0) = T; rw [hT]
    have e2 : vals j = ds[j]'(hlen ▸ hj) := by show (ds[j]?).getD #[] = _; rw [hd]; rfl
    rw [e, e2]
    exact ⟨hT, hI⟩
  have hTs : ∀ j, j < vs.toArray.size → s.heap.get? (Ts j) = some { cls := .type "tuple", data := .seq (vals j) } := fun j hj => (hT j hj).2.here F N hsub
  have hTI : ∀ j, j < vs.toArray.size → Ts j ≠ s.heap.objs.size := fun j hj => size_ne (hTs j hj)
  have W := WalksU.listOfTuples (prog := prog) (w := w) hh s.heap.objs.size l (size_ne hol) vs.toArray Ts vals (fun j hj => by rw [List.getElem?_toArray]; exact (hT j hj).1) hTI
  have hIL : env.locals ≠ s.heap.objs.size := Nat.ne_of_lt F.ns.lt
  have hvd : ∀ i, i < vs.toArray.size → ds[i]? = some (vals i) := fun i hi => by
    rw [List.size_toArray] at hi
    have hd : ds[i]? = some (ds[i]'(hlen ▸ hi)) := List.getElem?_eq_getElem _
    show ds[i]? = some ((ds[i]?).getD #[])
    rw [hd]; rfl
  have hTL : ∀ j, j < vs.toArray.size → Ts j ≠ env.locals := fun j hj e => ns_not F.ns (hTs j hj) (by intro es ep q; cases q) e
  have hAs' : ∀ i, Assigns prog w A env (.Tuple elts kk pt) upd (fun v => i < vs.toArray.size ∧ v = vals i) := fun i g s T v m Q hv hT' F' hQ =>
    hAs i g s T v m Q (hv.2 ▸ hvd i hv.1) hT' F' hQ
  refine loopT (s := { s with heap := s.heap.push { cls := .type "list_iterator", data := .fields #[.ref l, .int 0 0] } }) (C := fun o => o.cls = .type "list_iterator") (fix := fix) (Pt := fun i v => i < vs.toArray.size ∧ v = vals i) (upd := upd) ⟨W.sub, W.frame, fun i s Q E hi st hQ => W.item i s Q E hi st fun T v h' tk hP => hQ T v h' tk ⟨hi, hP⟩, W.go, W.apart, W.done, W.self⟩ hAs' ?_ ?_
    ⟨⟨_, Heap.get?_push_size _ rfl, rfl, rfl⟩, hl.at fun o e => k _ _ e, fun j hj => ⟨_, k _ _ (hTs j hj), rfl, 0, rfl⟩⟩ (fun i h st b hb => let ⟨o, ho, hc, _⟩ := st.1; ⟨o, (List.mem_singleton.mp hb) ▸ ho, hc⟩) (F.push _)
    (fun p hp => ⟨k _ _ (N p hp).1, (N p hp).2⟩) (fun p hp q => size_ne (N p hp).1 (List.mem_singleton.mp q)) ?_ J hfix j0 ?_ ?_
  · intro hm
    rcases List.mem_cons.mp hm with e | hm
    · exact hIL e
    · rcases List.mem_cons.mp hm with e | hm
      · exact hlL e.symm
      · obtain ⟨j, hj, e⟩ := List.mem_map.mp hm
        exact hTL j (List.mem_range.mp hj) e
  · intro b hb
    rw [List.mem_singleton.mp hb]; exact fresh_g F _ (Nat.le_refl _)
  · intro b hb
    rcases List.mem_cons.mp hb with rfl | hb
    · exact .inl (List.mem_singleton.mpr rfl)
    · rcases List.mem_cons.mp hb with rfl | hb
      · exact .inr hk
      · obtain ⟨j, hj, rfl⟩ := List.mem_map.mp hb
        rcases (hT j (List.mem_range.mp hj)).2 with q | q
        · exact .inr (.inl ⟨_, q⟩)
        · exact .inr (.inr ⟨_, q⟩)
  · rintro i v own m' news' h tk hC hi ⟨hi', rfl⟩ hmap j off' F' N'
    obtain ⟨oI, rfl⟩ : ∃ oI, own = [(s.heap.objs.size, oI)] := by
      cases own with
      | nil => cases hmap
      | cons p r =>
        rw [List.map_cons] at hmap
        obtain ⟨e1, e2⟩ := List.cons.inj hmap
        rw [List.map_eq_nil_iff] at e2
        subst e2
        exact ⟨p.2, by rw [← e1]⟩
    exact turn i (vals i) _ oI m' news' h tk (hC _ (.head _)) (hvd i hi') j (fun p hp => Heap.lt_size (N p hp).1) off' F' N'
  · intro m' news' h tk j F' N'
    exact done m' news' h tk (by rw [← hlen]; simpa using j) F' N'
end

/-- a list of pairs as arrays -/
theorem pairs_arrays {S : Addr → Obj → Prop} {vs : List Value} {rs : List (Int × Int)} (x : ListP IsPair S vs rs) :
    ∃ da : List (Array Value), vs.length = da.length ∧ da.length = rs.length ∧ ∀ (i : Nat) d, da[i]? = some d → ∃ T o, vs[i]? = some (Value.ref T) ∧ S T o ∧ o = { cls := .type "tuple", data := .seq d } ∧ ∃ q : Int × Int, rs[i]? = some q ∧ ∃ t u, d = #[.int q.1 t, .int q.2 u] := by
  induction x with
  | nil => exact ⟨[], rfl, rfl, fun i d h => by simp at h⟩
  | @cons a o q vs rs e r _ ih =>
    obtain ⟨da, h1, h2, h3⟩ := ih
    obtain ⟨t, u, rfl⟩ := r
    refine ⟨#[.int q.1 t, .int q.2 u] :: da, by simp [h1], by simp [h2], ?_⟩
    intro i d hd
    cases i with
    | zero => simp at hd; subst hd; exact ⟨a, _, by simp, e, rfl, q, by simp, t, u, rfl⟩
    | succ i => simp at hd; simpa using h3 i d hd

section
variable {prog : Program} {w : World} {A : Around} {E : Value → Shared → Prop} {s : Shared} {g : Heap} {L : Addr} {m : Str → Option Value} {env : Env}
/-- a comprehension over a range: its items only add objects -/
theorem comp_range_ro {r : Addr} {a b c : Int} {t u v : Tok} {n : Nat} {elt iter : PySem.Expr} {x : Str} {px : PySem.Pos} {scope : Scope} {cl : List (Str × Addr)} {pos : PySem.Pos} {news : List (Addr × Obj)} {Q : Value → Shared → Prop}
    (hh : A.handled = none) (hsz : n ≤ 100000) (hr : IsRange s.heap r a b c t u v) (hsmall : Builtin.Range.small a b c = true) (hn : Builtin.Range.rangeSize a b c = n)
    (hcell : ∀ y ∈ scope.names, y.2 ≠ .cell) (hkind : scope.kind = .function) (hx : scope.names.lookup x = some .local)
    (F : Fr g L s.heap m) (N : News g L s.heap news)
    (Rel : Nat → List Value → (Addr → Obj → Prop) → Prop) (hmono : ∀ i ys P P', (∀ a o, P a o → P' a o) → Rel i ys P → Rel i ys P') (r0 : Rel 0 [] (Src g news))
    (turn : ∀ (i : Nat) k I oI C oC D m₂ ys Z h tk (E' : Value → Shared → Prop), i < n → Rel i ys (Src g (news ++ Z)) → LCg.NsObj oC m₂ → m₂ x = some (.int (a + (i : Nat) * c) k) → Fr g L h m → News g L h ((I, oI) :: (C, oC) :: (D, LCg.lst ys) :: (news ++ Z)) →
      wpAny (model prog w) A (eval elt (compEnvC scope cl C env)) (CompStay g (news ++ Z) { s with heap := h, toks := tk } (fun y => Rel (i + 1) (ys ++ [y]))) E' { s with heap := h, toks := tk })
    (fin : ∀ ys Z D h tk, Rel n ys (Src g (news ++ Z)) → Fr g L h m → News g L h ((D, LCg.lst ys) :: (news ++ Z)) → LCg.Off1 D (news ++ Z) → Q (.ref D) { s with heap := h, toks := tk }) :
    wpAny (model prog w) A (pyIter (.ref r)) (CompK prog w A E env elt iter x px scope cl pos Q) E s := by
  refine wpAny_pyIter_range hr hsmall ?_
  rw [hn]
  have up : ∀ b o, s.heap.get? b = some o → (s.heap.push { cls := .type "range_iterator", data := .fields #[rawInt a, rawInt n, rawInt c] }).get? b = some o := fun b o e => Heap.get?_push_of_some _ e
  refine comp_walks (s := { s with heap := s.heap.push { cls := .type "range_iterator", data := .fields #[rawInt a, rawInt n, rawInt c] } }) (I := s.heap.objs.size) (S := fun _ => True) (Walks.range hh s.heap.objs.size a c n) hsz (fun i h st => ⟨_, st⟩) ?_ hcell hkind hx ?_ ?_ (F.push _) (fun p hp => ⟨up _ _ (N p hp).1, (N p hp).2⟩) (Nat.ne_of_lt F.ns.lt) (fresh_g F _ (Nat.le_refl _)) (fun p hp => size_ne (N p hp).1) trivial
    (fun i ys news' => ∃ Z, news' = news ++ Z ∧ Rel i ys (Src g (news ++ Z))) ⟨[], (List.append_nil _).symm, by rw [List.append_nil]; exact r0⟩ ?_ ?_
  · intro i h h' o nw st e e' _ _ _
    have st : h.get? _ = some _ := st
    rw [st] at e
    cases e
    exact e'
  · show IsRangeIter _ _ _ _ _
    have e : a + ((0 : Nat) : Int) * c = a := by simp
    have e2 : (n : Int) - ((0 : Nat) : Int) = n := by simp
    rw [e, e2]
    exact Heap.get?_push_size _ rfl
  · intro b hb
    rw [List.mem_singleton.mp hb]
    show s.heap.objs.size < (s.heap.push _).objs.size
    rw [Heap.size_push]; exact Nat.lt_succ_self _
  · rintro i v I oI C oC D m₂ ys news' h tk E' hi ⟨k, rfl⟩ ⟨Z, rfl, hr'⟩ hC hx F N off ne
    exact comp_turn (Rel := fun y => Rel (i + 1) (ys ++ [y])) F N off (fun Z' => trivial) (fun y => hmono _ _) (fun y Z' r => ⟨Z', rfl, r⟩) (turn i k I oI C oC D m₂ ys Z h tk E' hi hr' hC hx F N)
  · rintro ys news' D h tk ⟨Z, rfl, hr'⟩ F N o1
    exact fin ys Z D h tk hr' F N o1
end
/-- a range downward -/
theorem rangeSize_down (n : Nat) : Builtin.Range.rangeSize ((n : Int) - 1) (-1) (-1) = n := by
  unfold Builtin.Range.rangeSize
  cases n with
  | zero => simp
  | succ n => 
    simp
    omega
theorem small_down {n : Nat} (h : n ≤ 100000) : Builtin.Range.small ((n : Int) - 1) (-1) (-1) = true := by
  simp [Builtin.Range.small, Builtin.Range.rangeFitsLong, rangeSize_down]; omega
end RS
end

section
open PySem PySem.W PySem.Calls PyProof.Rows
open Sem (wp)
set_option maxRecDepth 100000
set_option maxHeartbeats 0
set_option linter.unusedVariables false
namespace RS
/-! picking out of a list by places: short proofs that a ledger's facts stand in another order -/
def nthO {α : Type} : List α → Nat → Option α
  | [], _ => none
  | a :: _, 0 => some a
  | _ :: r, n + 1 => nthO r n
def dropL {α : Type} : Nat → List α → List α
  | 0, r => r
  | _ + 1, [] => []
  | n + 1, _ :: r => dropL n r
def pickL {α : Type} (old : List α) : List Nat → Nat → List α
  | [], k => dropL k old
  | i :: is, k => match nthO old i with
    | some a => a :: pickL old is k
    | none => pickL old is k
theorem nthO_mem {α : Type} {a : α} : ∀ {l : List α} {i : Nat}, nthO l i = some a → a ∈ l
  | [], _, h => nomatch h
  | b :: r, 0, h => by cases h; exact .head _
  | b :: r, n + 1, h => .tail _ (nthO_mem (l := r) (i := n) h)
theorem dropL_mem {α : Type} {a : α} : ∀ {n : Nat} {l : List α}, a ∈ dropL n l → a ∈ l
  | 0, _, h => h
  | _ + 1, [], h => nomatch h
  | n + 1, _ :: r, h => .tail _ (dropL_mem (n := n) h)
theorem pick_mem {α : Type} {old : List α} {k : Nat} : ∀ {is : List Nat} {a : α}, a ∈ pickL old is k → a ∈ old
  | [], a, h => dropL_mem h
  | i :: is, a, h => by
    unfold pickL at h
    cases e : nthO old i with
    | none => rw [e] at h; exact pick_mem (is := is) h
    | some b =>
      rw [e] at h
      rcases List.mem_cons.mp h with rfl | h
      · exact nthO_mem e
      · exact pick_mem (is := is) h
theorem news_pick {g h : Heap} {L : Addr} {old new : List (Addr × Obj)} (N : News g L h old) (is : List Nat) (k : Nat) (e : pickL old is k = new) : News g L h new := by
  subst e; exact fun p hp => N p (pick_mem hp)
theorem pick_off {a : Nat} {old new : List Nat} (h : a ∉ old) (is : List Nat) (k : Nat) (e : pickL old is k = new) : a ∉ new := by
  subst e; exact fun q => h (pick_mem q)
theorem nthO_inj {a : Nat} : ∀ {l : List Nat} {i j : Nat}, l.Nodup → nthO l i = some a → nthO l j = some a → i = j
  | [], _, _, _, h, _ => nomatch h
  | b :: r, 0, 0, _, _, _ => rfl
  | b :: r, 0, j + 1, nd, h, h' => by cases h; exact absurd (nthO_mem (l := r) h') (List.nodup_cons.mp nd).1
  | b :: r, i + 1, 0, nd, h, h' => by cases h'; exact absurd (nthO_mem (l := r) h) (List.nodup_cons.mp nd).1
  | b :: r, i + 1, j + 1, nd, h, h' => congrArg (· + 1) (nthO_inj (l := r) (List.nodup_cons.mp nd).2 h h')
theorem dropL_all {α : Type} : ∀ l : List α, dropL l.length l = []
  | [] => rfl
  | _ :: r => dropL_all r
theorem pick_at {old : List Nat} : ∀ {is : List Nat} {a : Nat}, a ∈ pickL old is old.length → ∃ i ∈ is, nthO old i = some a
  | [], a, h => by unfold pickL at h; rw [dropL_all] at h; cases h
  | i :: is, a, h => by
    unfold pickL at h
    cases e : nthO old i with
    | none =>
      rw [e] at h
      obtain ⟨j, hj, e'⟩ := pick_at (is := is) h
      exact ⟨j, .tail _ hj, e'⟩
    | some b =>
      rw [e] at h
      rcases List.mem_cons.mp h with rfl | h
      · exact ⟨i, .head _, e⟩
      · obtain ⟨j, hj, e'⟩ := pick_at (is := is) h
        exact ⟨j, .tail _ hj, e'⟩
theorem nodup_pickL {old : List Nat} (nd : old.Nodup) : ∀ {is : List Nat}, is.Nodup → (pickL old is old.length).Nodup
  | [], _ => by unfold pickL; rw [dropL_all]; exact List.nodup_nil
  | i :: is, h => by
    obtain ⟨h1, h2⟩ := List.nodup_cons.mp h
    unfold pickL
    cases e : nthO old i with
    | none => exact nodup_pickL nd h2
    | some b =>
      refine List.nodup_cons.mpr ⟨fun q => ?_, nodup_pickL nd h2⟩
      obtain ⟨j, hj, e'⟩ := pick_at q
      exact h1 (nthO_inj nd e e' ▸ hj)
theorem nodup_pick {old new : List Nat} (nd : old.Nodup) (is : List Nat) (h : is.Nodup) (e : pickL old is old.length = new) : new.Nodup := e ▸ nodup_pickL nd h

/-! a ledger whose addresses differ, as it grows -/
theorem nodup_one (a : Nat) : [a].Nodup := List.nodup_cons.mpr ⟨List.not_mem_nil, List.nodup_nil⟩
theorem nodup_new {D : Nat} {news : List (Addr × Obj)} {as : List Nat} (nd : as.Nodup) (e : news.map (·.1) = as) (h : ∀ p ∈ news, @LT.lt Nat _ p.1 D) : (D :: as).Nodup := by
  subst e
  refine List.nodup_cons.mpr ⟨fun q => ?_, nd⟩
  obtain ⟨p, hp, e⟩ := List.mem_map.mp q
  exact absurd (h p hp) (e ▸ Nat.lt_irrefl _)
theorem nodup_set {g h : Heap} {L x d l : Addr} {m : Str → Option Value} {news : List (Addr × Obj)} {as : List Nat} (nd : as.Nodup) (e : news.map (·.1) = as) (F : Fr g L h m) (N : News g L h news) (fr : h.get? x = none ∧ h.get? d = none ∧ h.get? l = none) (ap : (@Ne Nat x d) ∧ (@Ne Nat x l) ∧ (@Ne Nat d l)) :
    (x :: d :: l :: as : List Nat).Nodup := by
  subst e
  have key : ∀ b, h.get? b = none → b ∉ news.map (·.1) := fun b hb q => by
    obtain ⟨p, hp, e⟩ := List.mem_map.mp q
    have := (N p hp).1
    rw [e, hb] at this; cases this
  refine List.nodup_cons.mpr ⟨fun q => ?_, List.nodup_cons.mpr ⟨fun q => ?_, List.nodup_cons.mpr ⟨key l fr.2.2, nd⟩⟩⟩
  · rcases List.mem_cons.mp q with e | q
    · exact ap.1 e
    · rcases List.mem_cons.mp q with e | q
      · exact ap.2.1 e
      · exact key x fr.1 q
  · rcases List.mem_cons.mp q with e | q
    · exact ap.2.2 e
    · exact key d fr.2.1 q
def pickN {α : Type} (old : List α) : List Nat → List α
  | [] => []
  | i :: is => match nthO old i with
    | some a => a :: pickN old is
    | none => pickN old is
theorem pickN_mem {α : Type} {old : List α} : ∀ {is : List Nat} {a : α}, a ∈ pickN old is → a ∈ old
  | [], a, h => nomatch h
  | i :: is, a, h => by
    unfold pickN at h
    cases e : nthO old i with
    | none => rw [e] at h; exact pickN_mem (is := is) h
    | some b =>
      rw [e] at h
      rcases List.mem_cons.mp h with rfl | h
      · exact nthO_mem e
      · exact pickN_mem (is := is) h
theorem pickN_sub {α : Type} {old new : List α} (is : List Nat) (e : pickN old is = new) : ∀ a ∈ new, a ∈ old := by
  subst e; exact fun a q => pickN_mem q
/-- an address that is above a piece of the ledger is none of it -/
theorem off_lt {d : Nat} {l : List (Addr × Obj)} (h : ∀ p ∈ l, @LT.lt Nat _ p.1 d) (is : List Nat) {as : List Nat} (e : (pickN l is).map (·.1) = as) : d ∉ as := by
  subst e
  intro q
  obtain ⟨p, hp, e⟩ := List.mem_map.mp q
  exact absurd (h p (pickN_mem hp)) (e ▸ Nat.lt_irrefl _)
theorem off_ne {d : Nat} {l : List (Addr × Obj)} (h : ∀ p ∈ l, @Ne Nat p.1 d) (is : List Nat) {as : List Nat} (e : (pickN l is).map (·.1) = as) : d ∉ as := by
  subst e
  intro q
  obtain ⟨p, hp, e⟩ := List.mem_map.mp q
  exact h p (pickN_mem hp) e
def takeL {α : Type} : Nat → List α → List α
  | 0, _ => []
  | _ + 1, [] => []
  | n + 1, a :: r => a :: takeL n r
theorem take_or_drop {α : Type} {a : α} : ∀ {n : Nat} {l : List α}, a ∈ l → a ∈ takeL n l ∨ a ∈ dropL n l
  | 0, _, h => .inr h
  | _ + 1, [], h => .inr h
  | n + 1, b :: r, h => by
    rcases List.mem_cons.mp h with rfl | h
    · exact .inl (.head _)
    · exact (take_or_drop (n := n) h).imp (fun q => .tail _ q) id
theorem news_app {g h : Heap} {L : Addr} {n : Nat} {A Z l : List (Addr × Obj)} (N : News g L h A) (NZ : News g L h Z) (e : takeL n l = A) (ez : dropL n l = Z) : News g L h l := by
  subst e ez
  exact fun p hp => (take_or_drop (n := n) hp).elim (N p) (NZ p)
/-- a ledger's head and its rest are off an address -/
theorem ne_led {d : Nat} {l Z : List (Addr × Obj)} {as bs : List Nat} (n i : Nat) (h : d ∉ as) (e : (takeL n l).map (·.1) = as) (ez : dropL n l = Z) (hz : ∀ p ∈ Z, p.1 ∉ bs) (eb : nthO bs i = some d) : ∀ p ∈ l, @Ne Nat p.1 d := by
  subst e ez
  intro p hp q
  rcases take_or_drop (n := n) hp with hp | hp
  · exact h (q ▸ List.mem_map_of_mem hp)
  · exact hz p hp (q ▸ nthO_mem eb)
theorem ne_led1 {d : Nat} {l Z : List (Addr × Obj)} {as bs : List Nat} (n i : Nat) (h : d ∉ as) (e : (takeL n l).map (·.1) = as) (ez : dropL n l = Z) (hz : ∀ p ∈ Z, p.1 ∉ bs) (eb : nthO bs i = some d) : ∀ p ∈ l, p.1 ∉ [d] :=
  fun p hp q => ne_led n i h e ez hz eb p hp (List.mem_singleton.mp q)
theorem off3n {x d l : Nat} {as : List Nat} (h : (x :: d :: l :: as).Nodup) : ∀ a ∈ as, a ∉ [x, d, l] := by
  intro a ha hm
  obtain ⟨h1, h2⟩ := List.nodup_cons.mp h
  obtain ⟨h2, h3⟩ := List.nodup_cons.mp h2
  obtain ⟨h3, _⟩ := List.nodup_cons.mp h3
  simp only [List.mem_cons, List.not_mem_nil, or_false] at hm
  rcases hm with rfl | rfl | rfl
  · exact h1 (.tail _ (.tail _ ha))
  · exact h2 (.tail _ ha)
  · exact h3 ha
theorem nodup_off {a : Nat} {old new : List Nat} (nd : old.Nodup) (is : List Nat) (h : is.Nodup) (e : pickL old is old.length = a :: new) : a ∉ new := (List.nodup_cons.mp (nodup_pick nd is h e)).1
theorem allC {α : Type} {P : α → Prop} {a : α} {l : List α} (h : P a) (r : ∀ b ∈ l, P b) : ∀ b ∈ a :: l, P b := List.forall_mem_cons.mpr ⟨h, r⟩
theorem allN {α : Type} {P : α → Prop} : ∀ b ∈ ([] : List α), P b := fun _ h => nomatch h
theorem lt12 {a b c d e f g h i j k l t : Nat} {P : Prop} (q : a < t ∧ b < t ∧ c < t ∧ d < t ∧ e < t ∧ f < t ∧ g < t ∧ h < t ∧ i < t ∧ j < t ∧ k < t ∧ l < t ∧ P) : a < t ∧ b < t ∧ c < t ∧ d < t ∧ e < t ∧ f < t ∧ g < t ∧ h < t ∧ i < t ∧ j < t ∧ k < t ∧ l < t ∧ True :=
  ⟨q.1, q.2.1, q.2.2.1, q.2.2.2.1, q.2.2.2.2.1, q.2.2.2.2.2.1, q.2.2.2.2.2.2.1, q.2.2.2.2.2.2.2.1, q.2.2.2.2.2.2.2.2.1, q.2.2.2.2.2.2.2.2.2.1, q.2.2.2.2.2.2.2.2.2.2.1, q.2.2.2.2.2.2.2.2.2.2.2.1, trivial⟩
theorem allLt_all {d : Addr} {l : List (Addr × Obj)} (h : AllLt d l) : ∀ p ∈ l, @LT.lt Nat _ p.1 d := by
  induction l with
  | nil => exact fun _ h => nomatch h
  | cons q r ih =>
    intro p hp
    rcases List.mem_cons.mp hp with rfl | hp
    · exact h.1
    · exact ih h.2 p hp
end RS
end

section
open PySem PySem.W PyProof.Rows
namespace L1H
open_top hd for PySem.Challenge.rw_lg0001_01

end L1H
end

section
open PySem PySem.W PySem.Calls PyProof.Rows RS
open PySem.SeqAt
local macro_rules | `(tactic| walk) => `(tactic| repeat' (first | (k_unfold; (try dsimp only)) | ((fail_if_success (with_reducible (apply stopped; constructor))); (first | walk1 | (dsimp only; walk1)))))
local macro_rules | `(tactic| walk_at "call builtin:len") => `(tactic| (k_here; (with_reducible show wpAny _ _ (call (Value.builtin _) [Value.ref _]) _ _ _); k_dflt (refine' RS.rs_len ?k1 ?k2 ?k3 ?_; (case k1 => k_asm); (case k2 => k_mem); (case k3 => omega); k_whole)))
local macro_rules | `(tactic| walk_at "compareOp In int ref") => `(tactic| (k_here; k_dflt (refine' in_range ?k1 ?_; (case k1 => first | assumption | exact Fr.keep (by assumption) _ _ (by assumption)); k_whole)))
local macro_rules | `(tactic| walk_at "getAttr ref") => `(tactic| (k_here; k_dflt ((first | ((with_reducible show wpAny _ _ (getAttr _ (PySem.Str.ofString "start") _) _ _ _); refine' rs_start ?k1 ?_) | ((with_reducible show wpAny _ _ (getAttr _ (PySem.Str.ofString "stop") _) _ _ _); refine' rs_stop ?k1 ?_) | ((with_reducible show wpAny _ _ (getAttr _ (PySem.Str.ofString "step") _) _ _ _); refine' rs_step ?k1 ?_)); (case k1 => first | with_reducible assumption | exact News.get (by assumption) (by k_mem) | exact Fr.keep (by assumption) _ _ (by with_reducible assumption) | exact Src.here (by with_reducible assumption) (by assumption) (by assumption) (by (intro p hp; simp [hp]))); k_whole)))
local macro_rules | `(tactic| walk_at "call type:range") => `(tactic| (k_here; (with_reducible show wpAny _ _ (call (Value.type _) [Value.int _ _, Value.int _ _]) _ _ _); k_dflt (refine' rs_range ?k1 ?k2 ?_; (case k1 => k_asm); (case k2 => k_asm); k_whole); intro r' h' v' tk' F' N' l1; (try k_lt l1); (try k_sweep)))
local macro_rules | `(tactic| k_units) => `(tactic| (simp only [units_in1, units_deeper, cLine]; omega))

local macro_rules | `(tactic| walk_at "call type:enumerate") => `(tactic| fail "by hand")
local macro_rules | `(tactic| walk_at "call builtin:min") => `(tactic| (k_here; (with_reducible show wpAny _ _ (call (Value.builtin _) [Value.int _ _, Value.int _ _]) _ _ _); k_dflt ((first | refine' rs_min ?k1 ?k2 ?k3 ?_ | refine' rs_max ?k1 ?k2 ?k3 ?_); (case k1 => assumption); (case k2 => k_asm); (case k3 => k_asm); k_whole); intro h' tk' t' F' N'; (try k_sweep)))
local macro_rules | `(tactic| walk_at "call builtin:max") => `(tactic| walk_at "call builtin:min")
local macro_rules | `(tactic| k_all) => `(tactic| assumption)
local macro_rules | `(tactic| k_steps) => `(tactic| repeat' (first | (k_unfold; (try dsimp only)) | ((fail_if_success (with_reducible (apply stoppedN; constructor))); (fail_if_success (with_reducible (apply stopped; constructor))); (first | walk1 | (dsimp only; walk1)))))

section
open PySem PySem.W PySem.Calls PyProof.Rows RS
open PySem.SeqAt
set_option maxRecDepth 100000
set_option maxHeartbeats 0
set_option linter.unusedVariables false
namespace L1
theorem warm_base : (fun (_ : OpenLaw) (_ : Params → Frag) => True) PySem.Challenge.rw_lg0001_01 L1H.hd.heap_39 := by w_top off; k_fill; trivial
section
variable {prog : Program} {w : World} {A : Around} {E : Value → Shared → Prop} {s : Shared} {base : Heap} {p : Program} {loose : List Str} {mean : ExcName → Option Value} {mg mb : Str → Option Value}
abbrev rdict (P : Params) (l : Addr) (t : Tok) : Obj := dictOf [⟨PyData.keyHash P (Str.ofString "_RangeSet__ranges"), .str (Str.ofString "_RangeSet__ranges") t, .ref l⟩] 1

structure RSAt (P : Params) (base h : Heap) (x d l : Addr) (its : List Value) (n : Nat) (t : Tok) : Prop where
  inst : h.get? x = some (instObj 111 d)
  dict : h.get? d = some (rdict P l t)
  list : h.get? l = some (listOf its.toArray n)
  nx : base.get? x = none
  nd : base.get? d = none
  nl : base.get? l = none

theorem RSAt.apart {P : Params} {base h : Heap} {x d l : Addr} {its : List Value} {n : Nat} {t : Tok} (r : RSAt P base h x d l its n t) : (@Ne Nat x d) ∧ (@Ne Nat x l) ∧ (@Ne Nat d l) := by
  refine ⟨fun e => ?_, fun e => ?_, fun e => ?_⟩
  · have h1 := r.inst; rw [e, r.dict] at h1; simp at h1
  · have h1 := r.inst; rw [e, r.list] at h1; simp at h1
  · have h1 := r.dict; rw [e, r.list] at h1; simp at h1

theorem rs_news {P : Params} {base h : Heap} {x d l : Addr} {its : List Value} {n : Nat} {t : Tok} (r : RSAt P base h x d l its n t) :
    ∀ q ∈ ([(x, instObj 111 d), (d, rdict P l t), (l, listOf its.toArray n)] : List (Addr × Obj)), h.get? q.1 = some q.2 ∧ base.get? q.1 = none := by
  intro q hq
  simp only [List.mem_cons, List.not_mem_nil, or_false] at hq
  rcases hq with rfl | rfl | rfl
  · exact ⟨r.inst, r.nx⟩
  · exact ⟨r.dict, r.nd⟩
  · exact ⟨r.list, r.nl⟩

theorem rngs_ground {P : Params} {base h g : Heap} {x d l : Addr} {its : List Value} {n : Nat} {t : Tok} {vs : List Value} {rs : List (Int × Int)} (r : RSAt P base h x d l its n t) (y : Rngs h vs rs)
    (k : KeepBut (([(x, instObj 111 d), (d, rdict P l t), (l, listOf its.toArray n)] : List (Addr × Obj)).map (·.1)) h g) : Rngs g vs rs :=
  y.keeps fun b lo hi t1 t2 t3 e => k b _ (fun hm => by
    simp only [List.map_cons, List.map_nil, List.mem_cons, List.not_mem_nil, or_false] at hm
    rcases hm with rfl | rfl | rfl
    · rw [r.inst] at e; simp at e
    · rw [r.dict] at e; simp at e
    · rw [r.list] at e; simp at e) e


end
end L1
end

section
open PySem PySem.W PySem.Calls PyProof.Rows RS
open PySem.SeqAt
set_option maxRecDepth 100000
set_option maxHeartbeats 0
set_option linter.unusedVariables false
namespace L1
theorem warm_ro : (fun (_ : OpenLaw) (_ : Params → Frag) => True) PySem.Challenge.rw_lg0001_01 L1H.hd.heap_39 := by w_top off; k_fill; trivial
section
variable {prog : Program} {w : World} {A : Around} {E : Value → Shared → Prop} {s : Shared} {base : Heap} {p : Program} {loose : List Str} {mean : ExcName → Option Value} {mg mb : Str → Option Value}
theorem len_spec {x d l : Addr} {its : List Value} {n : Nat} {t : Tok} {Q : Value → Shared → Prop} (hb : base.StaysIn s.heap) (X : (L1H.hd.heap_39 w.params).In base) (T : Top p loose mean mg mb base)
    (r : RSAt w.params base s.heap x d l its n t) (hA : A.depth < 800) (hz : its.length ≤ 100000)
    (h : ∀ h' tk u, s.heap.StaysIn h' → Q (.int its.length u) { s with heap := h', toks := tk }) :
    wpAny (model prog w) A (call (.ref 101) [.ref x]) Q E s := by
  refine call_code (enterK _ hb X T (rs_news r) (by k_is) (by k_is) (Nat.lt_of_lt_of_le hA (by decide)) (BindsTo.of_eq (binds := [(Str.ofString "self", .ref x)]) rfl) (locs rfl) ?_ rfl rfl rfl (by decide))
  intro g L h₁ F N Xg Tg sg kb lt
  walk
  exact h _ _ _ (stays_all (rs_news r) kb F.keep (news_cons N (by k_mem) (news_cons N (by k_mem) (news_cons N (by k_mem) News.nil))))

theorem contains_spec {x d l : Addr} {its : List Value} {n : Nat} {t : Tok} {rs : List (Int × Int)} {Q : Value → Shared → Prop} (hb : base.StaysIn s.heap) (X : (L1H.hd.heap_39 w.params).In base) (T : Top p loose mean mg mb base)
    (r : RSAt w.params base s.heap x d l its n t) (y : Rngs s.heap its rs) (hA : A.depth < 800) (hh : A.handled = none) {v : Int} {tv : Tok}
    (h : ∀ h' tk, s.heap.StaysIn h' → Q (.bool (rs.any fun q => decide (q.1 ≤ v) && decide (v < q.2))) { s with heap := h', toks := tk }) :
    wpAny (model prog w) A (call (.ref 73) [.ref x, .int v tv]) Q E s := by
  refine call_code (enterK _ hb X T (rs_news r) (by k_is) (by k_is) (Nat.lt_of_lt_of_le hA (by decide)) (BindsTo.of_eq (binds := [(Str.ofString "self", .ref x), (Str.ofString "val", .int v tv)]) rfl) (locs rfl) ?_ rfl rfl rfl (by decide))
  intro g L h₁ F N Xg Tg sg kb lt
  have yg := rngs_ground r y kb
  walk
  refine wpAny_For ?_
  walk
  rename Fr _ _ _ _ => F
  refine for_list (fix := [(l, listOf its.toArray n)]) hh rfl rfl ⟨_, N.get (by k_mem), rfl, _, rfl⟩ (Nat.ne_of_lt (lt (l, listOf its.toArray n) (by k_mem))) (.inr ⟨_, .head _⟩) F N
    (fun i m' news' => (∃ u, m' = (fun y => if y = Str.ofString "r" then u else List.lookup y [(Str.ofString "self", Value.ref x), (Str.ofString "val", Value.int v tv)].reverse)) ∧ news' = [(x, instObj 111 d), (d, rdict w.params l t), (l, listOf its.toArray n)] ∧ ∀ q ∈ rs.take i, (decide (q.1 ≤ v) && decide (v < q.2)) = false) ?_ ⟨⟨_, map_self⟩, rfl, by simp⟩ ?_ ?_
  · rintro i m' news' ⟨_, rfl, _⟩ q hq
    rw [List.mem_singleton.mp hq]; k_mem
  · rintro i e I oI m' news' h₂ tk _ hi ⟨⟨u, rfl⟩, rfl, hno⟩ hlt off F N
    obtain ⟨a, lo, hi', t1, t2, t3, rfl, hr, ha⟩ := yg.get hi
    have ha' := F.keep _ _ ha
    walk
    · rename _ = true => hyes
      show Q (.bool true) _
      have e : (rs.any fun q => decide (q.1 ≤ v) && decide (v < q.2)) = true := List.any_eq_true.mpr ⟨_, List.mem_of_getElem? hr, hyes⟩
      rw [← e]
      exact h _ _ (stays_all (rs_news r) kb F.keep (news_cons N (by k_mem) (news_cons N (by k_mem) (news_cons N (by k_mem) News.nil))))
    · rename _ = false => hnot
      refine ⟨_, _, _, _, rfl, F, N, off, ⟨_, map_over⟩, rfl, fun q hq => ?_⟩
      rw [List.take_add_one, hr] at hq
      rcases List.mem_append.mp hq with hq | hq
      · exact hno q hq
      · simp at hq; subst hq; exact hnot
  · rintro m' news' h₂ tk ⟨⟨u, rfl⟩, rfl, hno⟩ F N
    walk
    have e : (rs.any fun q => decide (q.1 ≤ v) && decide (v < q.2)) = false := by
      rw [y.length, List.take_length] at hno
      exact List.any_eq_false.mpr fun q hq => by rw [hno q hq]; simp
    rw [← e]
    exact h _ _ (stays_all (rs_news r) kb F.keep (news_cons N (by k_mem) (news_cons N (by k_mem) (news_cons N (by k_mem) News.nil))))


end
end L1
end

section
open PySem PySem.W PySem.Calls PyProof.Rows RS
open PySem.SeqAt
set_option maxRecDepth 100000
set_option maxHeartbeats 0
set_option linter.unusedVariables false
namespace L1
theorem warm_ro2 : (fun (_ : OpenLaw) (_ : Params → Frag) => True) PySem.Challenge.rw_lg0001_01 L1H.hd.heap_39 := by w_top off; k_fill; trivial
section
variable {prog : Program} {w : World} {A : Around} {E : Value → Shared → Prop} {s : Shared} {base : Heap} {p : Program} {loose : List Str} {mean : ExcName → Option Value} {mg mb : Str → Option Value}
theorem shift_spec {x d l : Addr} {a : Value} {its : List Value} {n : Nat} {t : Tok} {Q : Value → Shared → Prop} (hb : base.StaysIn s.heap) (X : (L1H.hd.heap_39 w.params).In base) (T : Top p loose mean mg mb base)
    (r : RSAt w.params base s.heap x d l (a :: its) n t) (hA : A.depth < 800) (hz : (a :: its).length ≤ 100000)
    (h : ∀ h' tk, KeepBut [x, d, l] s.heap h' → RSAt w.params base h' x d l its (n + 1) t → Q a { s with heap := h', toks := tk }) :
    wpAny (model prog w) A (call (.ref 52) [.ref x]) Q E s := by
  refine call_code (enterK _ hb X T (rs_news r) (by k_is) (by k_is) (Nat.lt_of_lt_of_le hA (by decide)) (BindsTo.of_eq (binds := [(Str.ofString "self", .ref x)]) rfl) (locs rfl) ?_ rfl rfl rfl (by decide))
  intro g L h₁ F N Xg Tg sg kb lt
  obtain ⟨n1, n2, n3⟩ := r.apart
  walk
  rename Fr _ _ _ _ => F
  refine rs_popAt (its := a :: its) (n := n) F N (by decide) (by decide) rfl (by k_upd) hz ?_
  intro h' F' N'
  exact h _ _ (kb.stays F'.keep) ⟨N'.get (by k_mem), N'.get (by k_mem), N'.get (by k_mem), r.nx, r.nd, r.nl⟩

theorem bounds_spec {x d l : Addr} {its : List Value} {n : Nat} {t : Tok} {rs : List (Int × Int)} {Q : Value → Shared → Prop} (hb : base.StaysIn s.heap) (X : (L1H.hd.heap_39 w.params).In base) (T : Top p loose mean mg mb base)
    (r : RSAt w.params base s.heap x d l its n t) (y : Rngs s.heap its rs) (hA : A.depth < 800) (hz : its.length ≤ 100000) {lo hi lo' hi' : Int} (h0 : rs[0]? = some (lo, hi)) (h1 : rs[rs.length - 1]? = some (lo', hi'))
    (h : ∀ h' tk a t1 t2 t3, s.heap.StaysIn h' → h'.get? a = some (rngO lo hi' t1 t2 t3) → Q (.ref a) { s with heap := h', toks := tk }) :
    wpAny (model prog w) A (call (.ref 45) [.ref x]) Q E s := by
  refine call_code (enterK _ hb X T (rs_news r) (by k_is) (by k_is) (Nat.lt_of_lt_of_le hA (by decide)) (BindsTo.of_eq (binds := [(Str.ofString "self", .ref x)]) rfl) (locs rfl) ?_ rfl rfl rfl (by decide))
  intro g L h₁ F N Xg Tg sg kb lt
  have yg := rngs_ground r y kb
  walk
  obtain ⟨a0, u1, u2, u3, e0, g0⟩ := yg.at h0
  obtain ⟨a1, v1, v2, v3, e1, g1⟩ := yg.at h1
  refine rs_item N (by k_mem) (by decide) (by decide) e0 ?_
  walk
  have hl := yg.length
  have hpos : 0 < its.length := (List.getElem?_eq_some_iff.mp e0).1
  refine rs_item_neg (its := its) N (by k_mem) (by decide) (by decide) (by omega) (v := .ref a1) ?_ ?_
  · rw [show ((-1 : Int) + its.length).toNat = rs.length - 1 by omega]; exact e1
  walk
  rename Fr _ _ _ _ => F
  rename News _ _ _ _ => N
  exact h _ _ _ _ _ _ (stays_all (rs_news r) kb F.keep (news_cons N (by k_mem) (news_cons N (by k_mem) (news_cons N (by k_mem) News.nil)))) (N.get (by k_mem))

end
end L1
end

section
open PySem PySem.W PySem.Calls PyProof.Rows RS
open PySem.SeqAt
set_option maxRecDepth 100000
set_option maxHeartbeats 0
set_option linter.unusedVariables false
namespace L1
theorem warm_ro3 : (fun (_ : OpenLaw) (_ : Params → Frag) => True) PySem.Challenge.rw_lg0001_01 L1H.hd.heap_39 := by w_top off; k_fill; trivial
section
variable {prog : Program} {w : World} {A : Around} {E : Value → Shared → Prop} {s : Shared} {base : Heap} {p : Program} {loose : List Str} {mean : ExcName → Option Value} {mg mb : Str → Option Value}
theorem getitem_spec {x d l : Addr} {its : List Value} {n : Nat} {t : Tok} {Q : Value → Shared → Prop} (hb : base.StaysIn s.heap) (X : (L1H.hd.heap_39 w.params).In base) (T : Top p loose mean mg mb base)
    (r : RSAt w.params base s.heap x d l its n t) (hA : A.depth < 800) (hz : its.length ≤ 100000) {k : Int} {tk : Tok} {a : Value} (h0 : -(2 ^ 63) ≤ k) (hf : k < 2 ^ 63) (hk : keyAt its k = some a)
    (h : ∀ h' tk, s.heap.StaysIn h' → Q a { s with heap := h', toks := tk }) :
    wpAny (model prog w) A (call (.ref 87) [.ref x, .int k tk]) Q E s := by
  refine call_code (enterK _ hb X T (rs_news r) (by k_is) (by k_is) (Nat.lt_of_lt_of_le hA (by decide)) (BindsTo.of_eq (binds := [(Str.ofString "self", .ref x), (Str.ofString "key", .int k tk)]) rfl) (locs rfl) ?_ rfl rfl rfl (by decide))
  intro g L h₁ F N Xg Tg sg kb lt
  walk
  refine rs_itemK N (by k_mem) h0 hf hk ?_
  exact h _ _ (stays_all (rs_news r) kb F.keep (news_cons N (by k_mem) (news_cons N (by k_mem) (news_cons N (by k_mem) News.nil))))

theorem iter_spec {x d l : Addr} {its : List Value} {n : Nat} {t : Tok} {Q : Value → Shared → Prop} (hb : base.StaysIn s.heap) (X : (L1H.hd.heap_39 w.params).In base) (T : Top p loose mean mg mb base)
    (r : RSAt w.params base s.heap x d l its n t) (hA : A.depth < 800) 
    (h : ∀ h' tk I, s.heap.StaysIn h' → s.heap.get? I = none → h'.IsListIter I l 0 → Q (.ref I) { s with heap := h', toks := tk }) :
    wpAny (model prog w) A (call (.ref 94) [.ref x]) Q E s := by
  refine call_code (enterK _ hb X T (rs_news r) (by k_is) (by k_is) (Nat.lt_of_lt_of_le hA (by decide)) (BindsTo.of_eq (binds := [(Str.ofString "self", .ref x)]) rfl) (locs rfl) ?_ rfl rfl rfl (by decide))
  intro g L h₁ F N Xg Tg sg kb lt
  walk
  refine rs_iter F N (by k_mem) ?_
  intro I h' oI F' N' l1 hs hI
  exact h _ _ I (stays_all (rs_news r) kb F'.keep (news_mono N' fun p hp => .tail _ hp)) (fresh_all kb F N hs) hI

end
end L1
end

section
open PySem PySem.W PySem.Calls PyProof.Rows RS
open PySem.SeqAt
set_option maxRecDepth 100000
set_option maxHeartbeats 0
set_option linter.unusedVariables false
namespace L1
theorem warm_ro4 : (fun (_ : OpenLaw) (_ : Params → Frag) => True) PySem.Challenge.rw_lg0001_01 L1H.hd.heap_39 := by w_top off; k_fill; trivial
section
variable {prog : Program} {w : World} {A : Around} {E : Value → Shared → Prop} {s : Shared} {base : Heap} {p : Program} {loose : List Str} {mean : ExcName → Option Value} {mg mb : Str → Option Value}
theorem eq_spec {x d l x' d' l' : Addr} {its its' : List Value} {n n' : Nat} {t t' : Tok} {rs rs' : List (Int × Int)} {Q : Value → Shared → Prop} (hb : base.StaysIn s.heap) (X : (L1H.hd.heap_39 w.params).In base) (T : Top p loose mean mg mb base)
    (r : RSAt w.params base s.heap x d l its n t) (r' : RSAt w.params base s.heap x' d' l' its' n' t') (y : Rngs s.heap its rs) (y' : Rngs s.heap its' rs') (hp : RS.Pos rs) (hp' : RS.Pos rs') (hA : A.depth < 800) (hu : A.units < 5000)
    (h : ∀ h' tk, s.heap.StaysIn h' → Q (.bool (decide (rs = rs'))) { s with heap := h', toks := tk }) :
    wpAny (model prog w) A (call (.ref 80) [.ref x, .ref x']) Q E s := by
  have N₀ : ∀ q ∈ ([(x, instObj 111 d), (d, rdict w.params l t), (l, listOf its.toArray n), (x', instObj 111 d'), (d', rdict w.params l' t'), (l', listOf its'.toArray n')] : List (Addr × Obj)), s.heap.get? q.1 = some q.2 ∧ base.get? q.1 = none := by
    intro q hq
    rcases List.mem_append.mp (show q ∈ [(x, instObj 111 d), (d, rdict w.params l t), (l, listOf its.toArray n)] ++ [(x', instObj 111 d'), (d', rdict w.params l' t'), (l', listOf its'.toArray n')] from hq) with hq | hq
    · exact rs_news r q hq
    · exact rs_news r' q hq
  refine call_code (enterK _ hb X T N₀ (by k_is) (by k_is) (Nat.lt_of_lt_of_le hA (by decide)) (BindsTo.of_eq (binds := [(Str.ofString "self", .ref x), (Str.ofString "other", .ref x')]) rfl) (locs rfl) ?_ rfl rfl rfl (by decide))
  intro g L h₁ F N Xg Tg sg kb lt
  have st := stays_all N₀ kb F.keep N
  walk
  refine cmp_ofEq (rcAt_rngs (its := its) (its' := its') ⟨_, N.get (by k_mem), rfl, _, rfl⟩ ⟨_, N.get (by k_mem), rfl, _, rfl⟩ (y.keeps fun b _ _ _ _ _ e => st b _ e) (y'.keeps fun b _ _ _ _ _ e => st b _ e) hp hp' ?_ prog w _ _ ?_)
  · simp only [units_deeper, cLine]; omega
  · exact h _ _ st

end
end L1
end

section
open PySem PySem.W PySem.Calls PyProof.Rows RS
open PySem.SeqAt
set_option maxRecDepth 100000
set_option maxHeartbeats 0
set_option linter.unusedVariables false
namespace L1
theorem warm_addb : (fun (_ : OpenLaw) (_ : Params → Frag) => True) PySem.Challenge.rw_lg0001_01 L1H.hd.heap_39 := by w_top off; k_fill; trivial
section
variable {prog : Program} {w : World} {A : Around} {E : Value → Shared → Prop} {s : Shared} {base : Heap} {p : Program} {loose : List Str} {mean : ExcName → Option Value} {mg mb : Str → Option Value}
theorem add_body {body : List Stmt} {env : Env} {g : Heap} {L f : Addr} {cd : Value} {m₀ : Str → Option Value} {x d l : Addr} {its : List Value} {n : Nat} {t : Tok} {rs : List (Int × Int)} {Q : Flow → Shared → Prop} {a b : Int} {ta tb : Tok}
    (hex : body = dropS 2 (fnBody (L1H.hd.heap_39 w.params) 38)) (henv : env = envOf (Str.ofString "RangeSet.add") (fnScope (L1H.hd.heap_39 w.params) 38) L f cd) (Xg : (L1H.hd.heap_39 w.params).In g) (Tg : Top p loose mean mg mb g)
    (F : Fr g L s.heap (fun y => (if y = Str.ofString "stop" then some (Value.int b tb) else if y = Str.ofString "start" then some (Value.int a ta) else if y = Str.ofString "self" then some (Value.ref x) else m₀ y)))
    (N : News g L s.heap [(x, instObj 111 d), (d, rdict w.params l t), (l, listOf its.toArray n)]) (yg : Rngs g its rs) (lt : ∀ q ∈ [(x, instObj 111 d), (d, rdict w.params l t), (l, listOf its.toArray n)], q.1 < L) (hh : A.handled = none) (hz : its.length ≤ 50000) (hab : a < b) (n1 : @Ne Nat x d) (n2 : @Ne Nat x l) (n3 : @Ne Nat d l)
    (h : ∀ h' tk its' n' fl, (fl = .next ∨ fl = .ret .none) → (∃ m, Fr g L h' m) → News g L h' [(x, instObj 111 d), (d, rdict w.params l t), (l, listOf (List.toArray its') n')] → Rngs h' its' (addL a b rs) → Q fl { s with heap := h', toks := tk }) :
    wpAny (model prog w) (A.deeper env) (execs body env) Q (fun _ _ => False) s := by
  subst hex henv
  obtain ⟨hb, hs⟩ := fn_of (K := L1H.hd.heap_39 w.params) (a := 38) (by k_is)
  rw [hb, hs]
  clear hb hs
  dsimp only [dropS]
  walk
  refine wpAny_For ?_
  walk
  rename Fr _ _ _ _ => F
  refine rs_enum F N (by k_mem) ?_
  intro e it h₂ F N hE hI hne offA
  refine for_enum (fix := [(l, listOf its.toArray n)]) hh rfl rfl rfl ⟨_, N.get (by k_mem), rfl, _, rfl⟩ hE hI (Nat.ne_of_lt (lt (l, listOf its.toArray n) (by k_mem))) hne.1 hne.2.1 hne.2.2.1 hne.2.2.2 (.inr ⟨_, .head _⟩) F N offA
    (fun i m' news' => (∃ u v, m' = (fun y => if y = Str.ofString "r" then v else if y = Str.ofString "i" then u else (if y = Str.ofString "stop" then some (Value.int b tb) else if y = Str.ofString "start" then some (Value.int a ta) else if y = Str.ofString "self" then some (Value.ref x) else m₀ y))) ∧ news' = [(x, instObj 111 d), (d, rdict w.params l t), (l, listOf its.toArray n)] ∧ addL a b rs = rs.take i ++ addL a b (rs.drop i)) ?_ ⟨⟨_, _, map_self2⟩, rfl, by simp⟩ ?_ ?_
  · rintro i m' news' ⟨_, rfl, _⟩ q hq
    rw [List.mem_singleton.mp hq]; k_mem
  · rintro i e kk oe oi m' news' h₂ tk hi ⟨⟨u, v, rfl⟩, rfl, hadd⟩ off F N
    obtain ⟨aa, lo, hi', t1, t2, t3, rfl, hr, ha⟩ := yg.get hi
    replace F := fr_eq F map_over2
    have ha' := F.keep _ _ ha
    obtain ⟨o1, o2⟩ := off2 (off (l, listOf its.toArray n) (by k_mem))
    have hil : i < its.length := (List.getElem?_eq_some_iff.mp hi).1
    walk
    · rename Fr _ _ _ _ => F
      rename News _ _ _ _ => N
      rename _ < lo => hblo
      refine rs_insert (its := its) (n := n) F N (by omega) (by omega) (by omega) (by k_upd) (by omega) ?_
      intro h' F' N'
      walk
      show Q (.ret .none) _
      refine h _ _ _ _ (.ret .none) (.inr rfl) ⟨_, F'⟩ (news_cons N' (by k_mem) (news_cons N' (by k_mem) (news_cons N' (by k_mem) News.nil))) ?_
      rw [addL_ins hr hblo hadd, Int.toNat_natCast]
      exact ((yg.take i).keeps fun b _ _ _ _ _ e => F'.keep b _ e).append (.cons (N'.get (by k_mem)) ((yg.drop i).keeps fun b _ _ _ _ _ e => F'.keep b _ e))
    · show RTurnW _ _ _ _ _ _ _ _ _
      rename Fr _ _ _ _ => F
      rename News _ _ _ _ => N
      rename ¬ _ < lo => h1
      rename a > hi' => h2
      exact ⟨_, _, _, _, rfl, F, N, off, ⟨_, _, rfl⟩, rfl, addL_go hr h1 h2 hadd⟩
    · rename Fr _ _ _ _ => F
      rename News _ _ _ _ => N
      rename ¬ _ < lo => h1
      rename ¬ a > hi' => h2
      have hl := yg.length
      refine while_post (fun k h tk => ∃ its' rs' B tB ts n', Fr g L h (fun y => if y = Str.ofString "stop" then some (Value.int B tB) else if y = Str.ofString "start" then some (Value.int (min a lo) ts) else if y = Str.ofString "r" then some (Value.ref aa) else if y = Str.ofString "i" then some (Value.int i kk) else (if y = Str.ofString "stop" then some (Value.int b tb) else if y = Str.ofString "start" then some (Value.int a ta) else if y = Str.ofString "self" then some (Value.ref x) else m₀ y)) ∧
          News g L h [(x, instObj 111 d), (d, rdict w.params l t), (l, listOf its'.toArray n')] ∧ Rngs g its' rs' ∧ addL a b rs = rs'.take i ++ mergeL (min a lo) B (rs'.drop (i + 1)) ∧ i < its'.length ∧ its'.length ≤ 50000 ∧ k = its'.length)
        (fun h tk => ∃ its' rs' B tB ts n', Fr g L h (fun y => if y = Str.ofString "stop" then some (Value.int B tB) else if y = Str.ofString "start" then some (Value.int (min a lo) ts) else if y = Str.ofString "r" then some (Value.ref aa) else if y = Str.ofString "i" then some (Value.int i kk) else (if y = Str.ofString "stop" then some (Value.int b tb) else if y = Str.ofString "start" then some (Value.int a ta) else if y = Str.ofString "self" then some (Value.ref x) else m₀ y)) ∧
          News g L h [(x, instObj 111 d), (d, rdict w.params l t), (l, listOf its'.toArray n')] ∧ Rngs g its' rs' ∧ addL a b rs = rs'.take i ++ (min a lo, B) :: rs'.drop (i + 1) ∧ i < its'.length ∧ its'.length ≤ 50000)
        its.length ⟨its, rs, _, _, _, n, F, ?_, yg, addL_merge hr h1 h2 hadd, hil, by omega, rfl⟩ ?_ ?_
      · exact news_mono N fun p hp => .tail _ (.tail _ hp)
      · rintro k h₃ tk ⟨its', rs', B, tB, ts, n', F, N, yr, hm, hi1, hi2, rfl⟩
        have hl' := yr.length
        walk
        · rename Fr _ _ _ _ => F
          rename News _ _ _ _ => N
          have hlt1 : i + 1 < its'.length := by omega
          obtain ⟨lo2, hi2', hr2⟩ : ∃ lo2 hi2, rs'[i + 1]? = some (lo2, hi2) := ⟨_, _, List.getElem?_eq_getElem (by omega)⟩
          obtain ⟨a2, u1, u2, u3, hv2, ha2⟩ := yr.at hr2
          refine rs_item (its := its') N (by k_mem) (by omega) (by omega) (v := .ref a2) (by rw [show ((i : Int) + 1).toNat = i + 1 by omega]; exact hv2) ?_
          walk
          · rename Fr _ _ _ _ => F
            rename News _ _ _ _ => N
            rename lo2 ≤ B => hle
            refine rs_item (its := its') N (by k_mem) (by omega) (by omega) (v := .ref a2) (by rw [show ((i : Int) + 1).toNat = i + 1 by omega]; exact hv2) ?_
            walk
            rename Fr _ _ _ _ => F
            rename News _ _ _ _ => N
            refine rs_popAt (its := its') (n := n') F N (y := .ref a2) (by omega) (by omega) (by rw [show ((i : Int) + 1).toNat = i + 1 by omega]; exact hv2) (by k_upd) (by omega) ?_
            intro h' F' N'
            walk
            rename Fr _ _ _ _ => F
            rename News _ _ _ _ => N
            rw [show ((i : Int) + 1).toNat = i + 1 by omega] at N
            refine ⟨_, _, _, rfl, ?_, its'.take (i + 1) ++ its'.drop (i + 1 + 1), rs'.take (i + 1) ++ rs'.drop (i + 1 + 1), _, _, ts, _, fr_eq F map_over, N, (yr.take _).append (yr.drop _), ?_, ?_, ?_, rfl⟩
            · simp only [List.length_append, List.length_take, List.length_drop]; omega
            · rw [hm, mergeL_go hr2 hle, List.take_append_of_le_length (by simp only [List.length_take]; omega), List.take_take, Nat.min_eq_left (by omega), List.drop_append_of_le_length (by simp only [List.length_take]; omega), List.drop_take_self, List.nil_append]
            · simp only [List.length_append, List.length_take, List.length_drop]; omega
            · simp only [List.length_append, List.length_take, List.length_drop]; omega
          · rename Fr _ _ _ _ => F
            rename News _ _ _ _ => N
            rename ¬ lo2 ≤ B => hle
            refine ⟨_, _, rfl, its', rs', B, tB, ts, n', F, N, yr, ?_, hi1, hi2⟩
            rw [hm, mergeL_stop]
            intro lo3 hi3 hr3
            rw [hr2] at hr3
            obtain ⟨rfl, rfl⟩ := Prod.mk.inj (Option.some.inj hr3)
            exact hle
        · rename Fr _ _ _ _ => F
          rename News _ _ _ _ => N
          refine ⟨_, _, rfl, its', rs', B, tB, ts, n', F, N, yr, ?_, hi1, hi2⟩
          rw [hm, mergeL_stop]
          intro lo2 hi2' hr2
          have := (List.getElem?_eq_some_iff.mp hr2).1
          omega
      · rintro h₃ tk ⟨its', rs', B, tB, ts, n', F, N, yr, hm, hi1, hi2⟩
        have hl' := yr.length
        walk
        rename Fr _ _ _ _ => F
        rename News _ _ _ _ => N
        refine rs_set (its := its') (n := n') F N (by omega) (by omega) (by omega) (by k_upd) ?_
        intro h' F' N'
        walk
        show Q (.ret .none) _
        refine h _ _ _ _ (.ret .none) (.inr rfl) ⟨_, F'⟩ (news_cons N' (by k_mem) (news_cons N' (by k_mem) (news_cons N' (by k_mem) News.nil))) ?_
        rw [hm, Int.toNat_natCast, List.set_eq_take_append_cons_drop, if_pos hi1]
        exact ((yr.take i).keeps fun b _ _ _ _ _ e => F'.keep b _ e).append (.cons (N'.get (by k_mem)) ((yr.drop (i + 1)).keeps fun b _ _ _ _ _ e => F'.keep b _ e))
  · rintro m' news' h₃ tk ⟨⟨u, v, rfl⟩, rfl, hadd⟩ F N
    walk
    rename Fr _ _ _ _ => F
    rename News _ _ _ _ => N
    refine rs_append (its := its) (n := n) F N (by k_upd) (by omega) ?_
    intro h' F' N'
    walk
    refine h _ _ _ _ .next (.inl rfl) ⟨_, F'⟩ (news_cons N' (by k_mem) (news_cons N' (by k_mem) (news_cons N' (by k_mem) News.nil))) ?_
    rw [hadd, yg.length, List.take_length, List.drop_length]
    exact (yg.keeps fun b _ _ _ _ _ e => F'.keep b _ e).append (.cons (N'.get (by k_mem)) .nil)

/-- ahead of add's loop -/
def AddMid (g : Heap) (L : Addr) (news : List (Addr × Obj)) (x : Addr) (a b : Int) (ta : Tok) (s : Shared) (fl : Flow) (s' : Shared) : Prop :=
  fl = .next ∧ ∃ h' tk' m' tb, s' = { s with heap := h', toks := tk' } ∧ Fr g L h' m' ∧ News g L h' news ∧ m' (Str.ofString "self") = some (.ref x) ∧ m' (Str.ofString "start") = some (.int a ta) ∧ m' (Str.ofString "stop") = some (.int b tb)

end
end L1
end

section
open PySem PySem.W PySem.Calls PyProof.Rows RS
open PySem.SeqAt
set_option maxRecDepth 100000
set_option maxHeartbeats 0
set_option linter.unusedVariables false
namespace L1
theorem warm_add : (fun (_ : OpenLaw) (_ : Params → Frag) => True) PySem.Challenge.rw_lg0001_01 L1H.hd.heap_39 := by w_top off; k_fill; trivial
section
variable {prog : Program} {w : World} {A : Around} {E : Value → Shared → Prop} {s : Shared} {base : Heap} {p : Program} {loose : List Str} {mean : ExcName → Option Value} {mg mb : Str → Option Value}

theorem add_spec {x d l : Addr} {its : List Value} {n : Nat} {t : Tok} {rs : List (Int × Int)} {Q : Value → Shared → Prop} (hb : base.StaysIn s.heap) (X : (L1H.hd.heap_39 w.params).In base) (T : Top p loose mean mg mb base)
    (r : RSAt w.params base s.heap x d l its n t) (y : Rngs s.heap its rs) (hA : A.depth < 800) (hh : A.handled = none) (hz : its.length ≤ 50000) {a b : Int} {ta tb : Tok} (hab : a < b)
    (h : ∀ h' tk its' n', KeepBut [x, d, l] s.heap h' → RSAt w.params base h' x d l its' n' t → Rngs h' its' (addL a b rs) → Q .none { s with heap := h', toks := tk }) :
    wpAny (model prog w) A (call (.ref 38) [.ref x, .int a ta, .int b tb]) Q E s := by
  refine call_code (enterK _ hb X T (rs_news r) (by k_is) (by k_is) (Nat.lt_of_lt_of_le hA (by decide)) (binds_K (K := L1H.hd.heap_39 w.params) (binds := [(Str.ofString "self", .ref x), (Str.ofString "start", .int a ta), (Str.ofString "stop", .int b tb)]) (fun a o e => hb _ _ (X a o e)) rfl (by k_is) rfl rfl rfl) (locs rfl) ?_ rfl rfl rfl (by decide))
  intro g L h₁ F N Xg Tg sg kb lt
  have yg := rngs_ground r y kb
  obtain ⟨n1, n2, n3⟩ := r.apart
  refine wpAny_execs_cons ?_
  refine wpAny_mono (Q := AddMid g L [(x, instObj 111 d), (d, rdict w.params l t), (l, listOf its.toArray n)] x a b ta { s with heap := h₁ }) ?_ ?_ fun _ _ x => x
  · walk
    rename Fr _ _ _ _ => F
    rename News _ _ _ _ => N
    exact ⟨rfl, _, _, _, _, rfl, F, N, rfl, rfl, rfl⟩
  rintro fl s' ⟨rfl, h₂, tk₂, m₂, tb', rfl, F, N, e1, e2, e3⟩
  dsimp only
  replace F := fr_know (fr_know (fr_know F (x := Str.ofString "self") e1) (x := Str.ofString "start") e2) (x := Str.ofString "stop") e3
  refine wpAny_execs_cons ?_
  refine wpAny_mono (Q := AddMid g L [(x, instObj 111 d), (d, rdict w.params l t), (l, listOf its.toArray n)] x a b ta { s with heap := h₁ }) ?_ ?_ fun _ _ x => x
  · walk
    rename Fr _ _ _ _ => F
    rename News _ _ _ _ => N
    exact ⟨rfl, _, _, _, _, rfl, F, N, rfl, rfl, rfl⟩
  rintro fl s' ⟨rfl, h₃, tk₃, m₃, tb'', rfl, F, N, e1, e2, e3⟩
  dsimp only
  replace F := fr_know (fr_know (fr_know F (x := Str.ofString "self") e1) (x := Str.ofString "start") e2) (x := Str.ofString "stop") e3
  refine add_body (A := A) (s := { heap := h₃, gens := s.gens, drawn := s.drawn, toks := tk₃, os := s.os }) (by obtain ⟨hb, _⟩ := fn_of (K := L1H.hd.heap_39 w.params) (a := 38) (by k_is); rw [hb]; rfl) (by obtain ⟨_, hs⟩ := fn_of (K := L1H.hd.heap_39 w.params) (a := 38) (by k_is); first | (rw [hs]; done) | (rw [hs]; rfl)) Xg Tg F N yg lt hh hz hab n1 n2 n3 ?_
  rintro h' tk its' n' fl hfl ⟨m', F'⟩ N' y'
  have key := h h' tk its' n' (kb.stays F'.keep) ⟨N'.get (by k_mem), N'.get (by k_mem), N'.get (by k_mem), r.nx, r.nd, r.nl⟩ y'
  rcases hfl with rfl | rfl <;> exact key

end
end L1
end

section
open PySem PySem.W PySem.Calls PyProof.Rows RS
open PySem.SeqAt
set_option maxRecDepth 100000
set_option maxHeartbeats 0
set_option linter.unusedVariables false
namespace L1
theorem warm_add1 : (fun (_ : OpenLaw) (_ : Params → Frag) => True) PySem.Challenge.rw_lg0001_01 L1H.hd.heap_39 := by w_top off; k_fill; trivial
section
variable {prog : Program} {w : World} {A : Around} {E : Value → Shared → Prop} {s : Shared} {base : Heap} {p : Program} {loose : List Str} {mean : ExcName → Option Value} {mg mb : Str → Option Value}

theorem add1_spec {x d l : Addr} {its : List Value} {n : Nat} {t : Tok} {rs : List (Int × Int)} {Q : Value → Shared → Prop} (hb : base.StaysIn s.heap) (X : (L1H.hd.heap_39 w.params).In base) (T : Top p loose mean mg mb base)
    (r : RSAt w.params base s.heap x d l its n t) (y : Rngs s.heap its rs) (hA : A.depth < 800) (hh : A.handled = none) (hz : its.length ≤ 50000) {a b : Int} {ta : Tok} (heq : a + 1 = b)
    (h : ∀ h' tk its' n', KeepBut [x, d, l] s.heap h' → RSAt w.params base h' x d l its' n' t → Rngs h' its' (addL a b rs) → Q .none { s with heap := h', toks := tk }) :
    wpAny (model prog w) A (call (.ref 38) [.ref x, .int a ta]) Q E s := by
  refine call_code (enterK _ hb X T (rs_news r) (by k_is) (by k_is) (Nat.lt_of_lt_of_le hA (by decide)) (binds_K (K := L1H.hd.heap_39 w.params) (binds := [(Str.ofString "self", .ref x), (Str.ofString "start", .int a ta), (Str.ofString "stop", .none)]) (fun a o e => hb _ _ (X a o e)) rfl (by k_is) rfl rfl rfl) (locs rfl) ?_ rfl rfl rfl (by decide))
  intro g L h₁ F N Xg Tg sg kb lt
  have yg := rngs_ground r y kb
  obtain ⟨n1, n2, n3⟩ := r.apart
  have hab : a < b := by omega
  refine wpAny_execs_cons ?_
  refine wpAny_mono (Q := AddMid g L [(x, instObj 111 d), (d, rdict w.params l t), (l, listOf its.toArray n)] x a b ta { s with heap := h₁ }) ?_ ?_ fun _ _ x => x
  · walk
    rename Fr _ _ _ _ => F
    rename News _ _ _ _ => N
    exact ⟨rfl, _, _, _, _, rfl, F, N, rfl, rfl, by rw [← heq]; rfl⟩
  rintro fl s' ⟨rfl, h₂, tk₂, m₂, tb', rfl, F, N, e1, e2, e3⟩
  dsimp only
  replace F := fr_know (fr_know (fr_know F (x := Str.ofString "self") e1) (x := Str.ofString "start") e2) (x := Str.ofString "stop") e3
  refine wpAny_execs_cons ?_
  refine wpAny_mono (Q := AddMid g L [(x, instObj 111 d), (d, rdict w.params l t), (l, listOf its.toArray n)] x a b ta { s with heap := h₁ }) ?_ ?_ fun _ _ x => x
  · walk
    rename Fr _ _ _ _ => F
    rename News _ _ _ _ => N
    exact ⟨rfl, _, _, _, _, rfl, F, N, rfl, rfl, rfl⟩
  rintro fl s' ⟨rfl, h₃, tk₃, m₃, tb'', rfl, F, N, e1, e2, e3⟩
  dsimp only
  replace F := fr_know (fr_know (fr_know F (x := Str.ofString "self") e1) (x := Str.ofString "start") e2) (x := Str.ofString "stop") e3
  refine add_body (A := A) (s := { heap := h₃, gens := s.gens, drawn := s.drawn, toks := tk₃, os := s.os }) (by obtain ⟨hb, _⟩ := fn_of (K := L1H.hd.heap_39 w.params) (a := 38) (by k_is); rw [hb]; rfl) (by obtain ⟨_, hs⟩ := fn_of (K := L1H.hd.heap_39 w.params) (a := 38) (by k_is); first | (rw [hs]; done) | (rw [hs]; rfl)) Xg Tg F N yg lt hh hz hab n1 n2 n3 ?_
  rintro h' tk its' n' fl hfl ⟨m', F'⟩ N' y'
  have key := h h' tk its' n' (kb.stays F'.keep) ⟨N'.get (by k_mem), N'.get (by k_mem), N'.get (by k_mem), r.nx, r.nd, r.nl⟩ y'
  rcases hfl with rfl | rfl <;> exact key

end
end L1
end

section
open PySem PySem.W PySem.Calls PyProof.Rows RS
open PySem.SeqAt
set_option maxRecDepth 100000
set_option maxHeartbeats 0
set_option linter.unusedVariables false
namespace L1
theorem warm_sub : (fun (_ : OpenLaw) (_ : Params → Frag) => True) PySem.Challenge.rw_lg0001_01 L1H.hd.heap_39 := by w_top off; k_fill; trivial
section
variable {prog : Program} {w : World} {A : Around} {E : Value → Shared → Prop} {s : Shared} {base : Heap} {p : Program} {loose : List Str} {mean : ExcName → Option Value} {mg mb : Str → Option Value}

theorem sub_spec {x d l : Addr} {its : List Value} {n : Nat} {t : Tok} {rs : List (Int × Int)} {Q : Value → Shared → Prop} (hb : base.StaysIn s.heap) (X : (L1H.hd.heap_39 w.params).In base) (T : Top p loose mean mg mb base)
    (r : RSAt w.params base s.heap x d l its n t) (y : Rngs s.heap its rs) (hA : A.depth < 800) (hh : A.handled = none) (hz : its.length ≤ 50000) {a b : Int} {ta tb : Tok} (hab : a < b)
    (h : ∀ h' tk its' n', KeepBut [x, d, l] s.heap h' → RSAt w.params base h' x d l its' n' t → Rngs h' its' (subL a b rs) → Q .none { s with heap := h', toks := tk }) :
    wpAny (model prog w) A (call (.ref 59) [.ref x, .int a ta, .int b tb]) Q E s := by
  refine call_code (enterK _ hb X T (rs_news r) (by k_is) (by k_is) (Nat.lt_of_lt_of_le hA (by decide)) (BindsTo.of_eq (binds := [(Str.ofString "self", .ref x), (Str.ofString "start", .int a ta), (Str.ofString "stop", .int b tb)]) rfl) (locs rfl) ?_ rfl rfl rfl (by decide))
  intro g L h₁ F N Xg Tg sg kb lt
  have yg := rngs_ground r y kb
  obtain ⟨n1, n2, n3⟩ := r.apart
  walk
  rename Fr _ _ _ _ => F
  rename News _ _ _ _ => N
  refine while_post (fun k h tk => ∃ (i : Nat) (ti : Tok) (u : Option Value) (its' : List Value) (rs' : List (Int × Int)) (n' : Nat) (I : List (Addr × Obj)), Fr g L h (fun y => if y = Str.ofString "r" then u else if y = Str.ofString "i" then some (Value.int i ti) else List.lookup y [(Str.ofString "self", Value.ref x), (Str.ofString "start", Value.int a ta), (Str.ofString "stop", Value.int b tb)].reverse) ∧
      News g L h ([(x, instObj 111 d), (d, rdict w.params l t), (l, listOf its'.toArray n')] ++ I) ∧ (∀ p ∈ I, p.1 ≠ l) ∧ RngsP (Src g I) its' rs' ∧ subL a b rs = rs'.take i ++ subL a b (rs'.drop i) ∧ (its'.length ≤ its.length ∨ (its'.length ≤ its.length + 1 ∧ ∃ lo hi, rs'[i]? = some (lo, hi) ∧ b ≤ lo)) ∧ k = subM b rs' i)
    (fun h tk => ∃ its' n', (∃ m, Fr g L h m) ∧ News g L h [(x, instObj 111 d), (d, rdict w.params l t), (l, listOf its'.toArray n')] ∧ Rngs h its' (subL a b rs))
    (subM b rs 0) ⟨0, _, _, its, rs, n, [], fr_eq F (map_more (by decide)), N, (fun _ h => nomatch h), .of yg fun _ _ _ _ _ _ e => .inl e, by simp, .inl (Nat.le_refl _), rfl⟩ ?_ ?_
  · rintro k h₃ tk ⟨i, ti, u, its', rs', n', I, F, N, offI, yr, hm, hi1, rfl⟩
    simp only [List.cons_append, List.nil_append] at N
    have hl' := yr.length
    have hi2 : its'.length ≤ 60000 := by omega
    walk
    · rename Fr _ _ _ _ => F
      rename News _ _ _ _ => N
      obtain ⟨lo, hi, hr⟩ : ∃ lo2 hi2, rs'[i]? = some (lo2, hi2) := ⟨_, _, List.getElem?_eq_getElem (by omega)⟩
      obtain ⟨a2, u1, u2, u3, hv2, ha2⟩ := yr.at hr
      refine rs_item (its := its') N (by k_mem) (by omega) (by omega) (v := .ref a2) (by rw [Int.toNat_natCast]; exact hv2) ?_
      have hil : i < its'.length := by omega
      k_steps
      · rename Fr _ _ _ _ => F
        rename News _ _ _ _ => N
        rename b ≤ lo => c1
        rw [subL_ret hr c1 hm] at h
        refine h _ _ _ _ (kb.stays F.keep) ⟨N.get (by k_mem), N.get (by k_mem), N.get (by k_mem), r.nx, r.nd, r.nl⟩ (yr.to fun a o q => q.here F N (by (intro p hp; simp [hp])))
      · rename Fr _ _ _ _ => F
        rename News _ _ _ _ => N
        rename ¬ b ≤ lo => c1
        rename hi ≤ a => c2
        have hi3 : its'.length ≤ its.length := hi1.elim id fun q => absurd (by obtain ⟨_, lo', hi', q1, q2⟩ := q; rw [hr] at q1; cases q1; exact q2) c1
        refine ⟨_, _, _, rfl, ?_, i + 1, _, _, its', rs', n', I, fr_eq F (map_ri (by decide)), N, offI, yr, subL_go hr c1 c2 hm, .inl hi3, rfl⟩
        exact subM_lt (by omega)
      · rename Fr _ _ _ _ => F
        rename News _ _ _ _ => N
        rename ¬ b ≤ lo => c1
        rename ¬ hi ≤ a => c2
        rename a ≤ lo => c3
        rename hi ≤ b => c4
        have hi3 : its'.length ≤ its.length := hi1.elim id fun q => absurd (by obtain ⟨_, lo', hi', q1, q2⟩ := q; rw [hr] at q1; cases q1; exact q2) c1
        refine rs_popAt (its := its') (n := n') F N (y := .ref a2) (by omega) (by omega) (by rw [Int.toNat_natCast]; exact hv2) (by k_upd) (by omega) ?_
        intro h' F' N'
        walk
        rename Fr _ _ _ _ => F
        rename News _ _ _ _ => N
        rw [Int.toNat_natCast] at N
        refine ⟨_, _, _, rfl, ?_, i, _, _, its'.take i ++ its'.drop (i + 1), rs'.take i ++ rs'.drop (i + 1), _, I, fr_eq F map_over, N, offI, (yr.take _).append (yr.drop _), subL_pop hr c1 c2 c3 c4 hm, .inl ?_, rfl⟩
        · exact subM_lt (by simp only [List.length_append, List.length_take, List.length_drop]; omega)
        · simp only [List.length_append, List.length_take, List.length_drop]; omega
      · rename Fr _ _ _ _ => F
        rename News _ _ _ _ => N
        rename ¬ b ≤ lo => c1
        rename ¬ hi ≤ a => c2
        rename a ≤ lo => c3
        rename ¬ hi ≤ b => c4
        have hi3 : its'.length ≤ its.length := hi1.elim id fun q => absurd (by obtain ⟨_, lo', hi', q1, q2⟩ := q; rw [hr] at q1; cases q1; exact q2) c1
        refine rs_range F N ?_
        intro rr h' vv tk' F N l1
        walk
        have rl : (@Ne Nat rr l) := Nat.ne_of_gt (l1 (l, listOf its'.toArray n') (by k_mem))
        refine rs_set (its := its') (n := n') F N (by omega) (by omega) (by omega) (by k_upd) ?_
        intro h' F' N'
        walk
        rename Fr _ _ _ _ => F
        rename News _ _ _ _ => N
        rw [Int.toNat_natCast] at N
        refine ⟨_, _, _, rfl, ?_, i + 1, _, _, its'.set i (.ref rr), rs'.set i (b, hi), n', (rr, rngO b hi tb u2 vv) :: I, fr_eq F (map_ri (by decide)), news_mono N ?_, List.forall_mem_cons.mpr ⟨rl, offI⟩, (yr.mono (P' := Src g ((rr, rngO b hi tb u2 vv) :: I)) fun _ _ q => Src.more _ q).set (.inr (.head _)) i, subL_right hr c1 c2 c3 c4 hm, .inl ?_, rfl⟩
        · exact subM_lt (by simp only [List.length_set]; omega)
        · intro p hp
          simp only [List.mem_cons] at hp ⊢
          rcases hp with q | q | q | q | q
          · exact .inr (.inl q)
          · exact .inr (.inr (.inl q))
          · exact .inr (.inr (.inr (.inl q)))
          · exact .inl q
          · exact .inr (.inr (.inr (.inr q)))
        · simp only [List.length_set]; exact hi3
      · rename Fr _ _ _ _ => F
        rename News _ _ _ _ => N
        rename ¬ b ≤ lo => c1
        rename ¬ hi ≤ a => c2
        rename ¬ a ≤ lo => c3
        have hi3 : its'.length ≤ its.length := hi1.elim id fun q => absurd (by obtain ⟨_, lo', hi', q1, q2⟩ := q; rw [hr] at q1; cases q1; exact q2) c1
        refine rs_range F N ?_
        intro rr h' vv tk' F N l1
        walk
        have rl : (@Ne Nat rr l) := Nat.ne_of_gt (l1 (l, listOf its'.toArray n') (by k_mem))
        refine rs_set (its := its') (n := n') F N (by omega) (by omega) (by omega) (by k_upd) ?_
        intro h' F' N'
        rw [Int.toNat_natCast] at N'
        k_steps
        · rename Fr _ _ _ _ => F
          rename News _ _ _ _ => N
          rename b < hi => c4
          refine rs_range F N ?_
          intro r2 h' v2 tk' F N l2
          have rl2 : (@Ne Nat r2 l) := Nat.ne_of_gt (l2 (l, listOf (its'.set i (.ref rr)).toArray n') (by k_mem))
          walk
          refine rs_insert (its := its'.set i (.ref rr)) (n := n') F N (by omega) (by omega) (by simp only [List.length_set]; omega) (by k_upd) (by simp only [List.length_set]; omega) ?_
          intro h' F' N'
          walk
          rename Fr _ _ _ _ => F
          rename News _ _ _ _ => N
          rw [show ((i : Int) + 1).toNat = i + 1 by omega] at N
          have hs : (rs'.set i (lo, a)).length = rs'.length := List.length_set ..
          refine ⟨_, _, _, rfl, ?_, i + 1, _, _, (its'.set i (.ref rr)).take (i + 1) ++ .ref r2 :: (its'.set i (.ref rr)).drop (i + 1), (rs'.set i (lo, a)).take (i + 1) ++ (b, hi) :: (rs'.set i (lo, a)).drop (i + 1), n' + 1, (r2, rngO b hi tb u2 v2) :: (rr, rngO lo a u1 ta vv) :: I, fr_eq F (map_ri (by decide)), news_mono N ?_, List.forall_mem_cons.mpr ⟨rl2, List.forall_mem_cons.mpr ⟨rl, offI⟩⟩,
            (((yr.mono (P' := Src g ((r2, rngO b hi tb u2 v2) :: (rr, rngO lo a u1 ta vv) :: I)) fun _ _ q => Src.more _ (Src.more _ q)).set (.inr (.tail _ (.head _))) i).take (i + 1)).append (.cons (.inr (.head _)) (((yr.mono (P' := Src g ((r2, rngO b hi tb u2 v2) :: (rr, rngO lo a u1 ta vv) :: I)) fun _ _ q => Src.more _ (Src.more _ q)).set (.inr (.tail _ (.head _))) i).drop (i + 1))), subL_mid hr c1 c2 c3 c4 hm, .inr ⟨?_, b, hi, ?_, Int.le_refl _⟩, rfl⟩
          · exact subM_ins (by rw [mid_len (by omega)]; omega) hr c1 (mid_get (by omega)) (Int.le_refl _)
          · intro p hp
            simp only [List.mem_cons] at hp ⊢
            rcases hp with q | q | q | q | q | q
            · exact .inr (.inr (.inl q))
            · exact .inr (.inr (.inr (.inl q)))
            · exact .inr (.inr (.inr (.inr (.inl q))))
            · exact .inl q
            · exact .inr (.inl q)
            · exact .inr (.inr (.inr (.inr (.inr q))))
          · rw [mid_len (by rw [List.length_set]; omega), List.length_set]; omega
          · exact mid_get (by omega)
        · rename Fr _ _ _ _ => F
          rename News _ _ _ _ => N
          rename ¬ b < hi => c4
          refine ⟨_, _, _, rfl, ?_, i + 1, _, _, its'.set i (.ref rr), rs'.set i (lo, a), n', (rr, rngO lo a u1 ta vv) :: I, fr_eq F (map_ri (by decide)), news_mono N ?_, List.forall_mem_cons.mpr ⟨rl, offI⟩, (yr.mono (P' := Src g ((rr, rngO lo a u1 ta vv) :: I)) fun _ _ q => Src.more _ q).set (.inr (.head _)) i, subL_left hr c1 c2 c3 c4 hm, .inl ?_, rfl⟩
          · exact subM_lt (by simp only [List.length_set]; omega)
          · intro p hp
            simp only [List.mem_cons] at hp ⊢
            rcases hp with q | q | q | q | q
            · exact .inr (.inl q)
            · exact .inr (.inr (.inl q))
            · exact .inr (.inr (.inr (.inl q)))
            · exact .inl q
            · exact .inr (.inr (.inr (.inr q)))
          · simp only [List.length_set]; exact hi3
    · rename Fr _ _ _ _ => F
      rename News _ _ _ _ => N
      refine ⟨_, _, rfl, its', n', ⟨_, F⟩, news_mono N ?_, ?_⟩
      · intro p hp
        simp only [List.mem_cons, List.not_mem_nil, or_false] at hp ⊢
        rcases hp with q | q | q
        · exact .inl q
        · exact .inr (.inl q)
        · exact .inr (.inr (.inl q))
      · rw [subL_end (by omega) hm]
        exact yr.to fun a o q => q.here F N (by (intro p hp; simp [hp]))
  · rintro h₃ tk ⟨its', n', ⟨m, F⟩, N, yr⟩
    walk
    exact h _ _ _ _ (kb.stays F.keep) ⟨N.get (by k_mem), N.get (by k_mem), N.get (by k_mem), r.nx, r.nd, r.nl⟩ yr

end
end L1
end

section
open PySem PySem.W PySem.Calls PyProof.Rows RS
open PySem.SeqAt
set_option maxRecDepth 100000
set_option maxHeartbeats 0
set_option linter.unusedVariables false
namespace L1
theorem warm_newb : (fun (_ : OpenLaw) (_ : Params → Frag) => True) PySem.Challenge.rw_lg0001_01 L1H.hd.heap_39 := by w_top off; k_fill; trivial
section
variable {prog : Program} {w : World} {A : Around} {E : Value → Shared → Prop} {s : Shared} {base : Heap} {p : Program} {loose : List Str} {mean : ExcName → Option Value} {mg mb : Str → Option Value}
theorem init_body {body : List Stmt} {env : Env} {g : Heap} {L f : Addr} {cd : Value} {x d lst : Addr} {vs : List Value} {qs : List (Int × Int)} {kl : Nat} {Q : Flow → Shared → Prop}
    (hex : body = fnBody (L1H.hd.heap_39 w.params) 30) (henv : env = envOf (Str.ofString "RangeSet.__init__") (fnScope (L1H.hd.heap_39 w.params) 30) L f cd) (X : (L1H.hd.heap_39 w.params).In base) (T : Top p loose mean mg mb base) (Xg : (L1H.hd.heap_39 w.params).In g) (Tg : Top p loose mean mg mb g) (sg : base.StaysIn g)
    (F : Fr g L s.heap (fun y => List.lookup y [(Str.ofString "self", Value.ref x), (Str.ofString "ranges", Value.ref lst)].reverse)) (N : News g L s.heap [(x, instObj 111 d), (d, dictOf [] 0)]) (hxd : @Ne Nat x d)
    (bx : base.get? x = none) (bd : base.get? d = none) (gl : g.get? lst = some (listOf vs.toArray kl)) (yg : Rngs g vs qs) (yv : vs.length = qs.length) (hp : RS.Pos qs) (hA : A.depth < 790) (hh : A.handled = none) (hz : vs.length ≤ 20000)
    (h : ∀ l h' tk its n t, (∃ m, Fr g L h' m) → RSAt w.params base h' x d l its n t → Rngs h' its (addAll qs []) → s.heap.objs.size ≤ l → Q .next { s with heap := h', toks := tk }) :
    wpAny (model prog w) (A.deeper env) (execs body env) Q (fun _ _ => False) s := by
  subst hex henv
  obtain ⟨hb, hs⟩ := fn_of (K := L1H.hd.heap_39 w.params) (a := 30) (by k_is)
  rw [hb, hs]
  clear hb hs
  k_steps
  refine rs_newList F N ?_
  intro l h₂ F2 N2 l1 sl
  have gl0 : g.get? l = none := fresh_g F _ sl
  have bl : base.get? l = none := by
    cases q : base.get? l with
    | none => rfl
    | some o => rw [sg _ _ q] at gl0; cases gl0
  k_lt l1
  clear F N
  k_steps
  rename Fr _ _ _ _ => F
  rename News _ _ _ _ => N
  obtain ⟨t, N⟩ : ∃ t, News g L _ [(l, listOf ([] : List Value).toArray 0), (x, instObj 111 d), (d, rdict w.params l t)] := ⟨_, N⟩
  refine wpAny_For ?_
  k_steps
  rename Fr _ _ _ _ => F
  have lstL : lst ≠ L := Nat.ne_of_lt (Nat.lt_of_lt_of_le (Heap.lt_size gl) F.above)
  refine for_list (fix := []) hh rfl rfl ⟨_, F.keep _ _ gl, rfl, _, rfl⟩ lstL (.inl ⟨_, gl⟩) F N
    (fun i m' news' => (∃ u, m' = (fun y => if y = Str.ofString "r" then u else List.lookup y [(Str.ofString "self", Value.ref x), (Str.ofString "ranges", Value.ref lst)].reverse)) ∧
      ∃ its n Z, news' = (l, listOf its.toArray n) :: (x, instObj 111 d) :: (d, rdict w.params l t) :: Z ∧ RngsP (Src g Z) its (addAll (qs.take i) []) ∧ (∀ p ∈ Z, p.1 ∉ [x, d, l]) ∧ its.length ≤ i) (fun _ _ _ _ _ h => nomatch h) ⟨⟨_, map_self⟩, [], 0, [], rfl, .nil, (fun _ h => nomatch h), Nat.le_refl _⟩ ?_ ?_
  · rintro i e I oI m' news' h₃ tk hoI hi ⟨⟨u, rfl⟩, its, n, Z, rfl, yz, offZ, hlen⟩ hlt off F N
    obtain ⟨a, lo, hi', t1, t2, t3, rfl, hr, ha⟩ := yg.get hi
    have hpos : lo < hi' := hp _ (List.mem_of_getElem? hr)
    have hil : i < vs.length := (List.getElem?_eq_some_iff.mp hi).1
    walk
    rename Fr _ _ _ _ => F
    rename News _ _ _ _ => N
    have hlen1 : (addAll (qs.take i) []).length ≤ i := by
      have := addAll_len (qs.take i) []
      simp only [List.length_nil, List.length_take] at this
      omega
    have hA2 : (addAll (qs.take (i + 1)) []) = addL lo hi' (addAll (qs.take i) []) := by rw [take_succ' hr, addAll_snoc]
    have yz0 : Rngs _ its (addAll (qs.take i) []) := yz.to fun a o q => q.here F N (by intro p hp; simp [hp])
    refine add_spec (A := A.deeper _) (s := { heap := h₃, gens := s.gens, drawn := s.drawn, toks := _, os := s.os }) (its := its) (rs := addAll (qs.take i) []) (base := base) (x := x) (d := d) (l := l) (n := n) (t := t) (fun b o e => F.keep b o (sg b o e)) X T ⟨N.get (by k_mem), N.get (by k_mem), N.get (by k_mem), bx, bd, bl⟩ yz0 (dlt hA) hh (by omega) hpos ?_
    intro h₄ tk₄ its' n' kb' r' y'
    have F' := fr_keepBut F kb' (by
      intro b hb
      simp only [List.mem_cons, List.not_mem_nil, or_false] at hb
      rcases hb with rfl | rfl | rfl
      · exact (N (b, _) (by k_mem)).2
      · exact (N (b, _) (by k_mem)).2
      · exact (N (b, _) (by k_mem)).2)
    have nI : I ∉ [x, d, l] := by
      simp only [List.mem_cons, List.not_mem_nil, or_false]
      rintro (rfl | rfl | rfl)
      · exact off (I, instObj 111 d) (by k_mem) rfl
      · exact off (I, rdict w.params l t) (by k_mem) rfl
      · exact off (I, listOf its.toArray n) (by k_mem) rfl
    have hI' : h₄.get? I = some oI := kb' _ _ nI (N.get (by k_mem))
    obtain ⟨Z', NZ, offZ', allZ⟩ := ledger_all g h₄ L [x, d, l, I]
    have y'' : RngsP (Src g Z') its' (addAll (qs.take (i + 1)) []) := by
      rw [hA2]
      exact .of y' fun b lo hi t1 t2 t3 e => src_all F' allZ e (by
        simp only [List.mem_cons, List.not_mem_nil, or_false]
        rintro (rfl | rfl | rfl | rfl)
        · rw [r'.inst] at e; simp at e
        · rw [r'.dict] at e; simp at e
        · rw [r'.list] at e; simp at e
        · rw [hI'] at e; cases e; exact absurd (show Value.type "range" = Value.type "list_iterator" from hoI) (by decide)) (ns_not F'.ns e (by intro es ep q; cases q))
    have NI := (N (I, oI) (by k_mem)).2
    have Nx := (N (x, instObj 111 d) (by k_mem)).2
    have Nd := (N (d, rdict w.params l t) (by k_mem)).2
    have Nl := (N (l, listOf its.toArray n) (by k_mem)).2
    clear F N
    walk
    refine ⟨_, _, _, _, rfl, F', ?_, ?_, ⟨_, map_over⟩, its', n', Z', rfl, y'', ?_, ?_⟩
    · intro p hp
      simp only [List.mem_cons] at hp
      rcases hp with rfl | rfl | rfl | rfl | hp
      · exact ⟨hI', NI⟩
      · exact ⟨r'.list, Nl⟩
      · exact ⟨r'.inst, Nx⟩
      · exact ⟨r'.dict, Nd⟩
      · exact NZ p hp
    · intro p hp
      simp only [List.mem_cons] at hp
      simp only [List.mem_cons, List.not_mem_nil, or_false, not_or] at nI
      rcases hp with rfl | rfl | rfl | hp
      · exact fun e => nI.2.2 e.symm
      · exact fun e => nI.1 e.symm
      · exact fun e => nI.2.1 e.symm
      · exact fun e => offZ' p hp (by rw [e]; simp)
    · intro p hp q
      exact offZ' p hp (by simp only [List.mem_cons, List.not_mem_nil, or_false] at q ⊢; exact q.elim .inl fun q => .inr (q.elim .inl fun q => .inr (.inl q)))
    · rw [y'.length]
      have := addL_len lo hi' (addAll (qs.take i) [])
      omega
  · rintro m' news' h₃ tk ⟨⟨u, rfl⟩, its, n, Z, rfl, yz, offZ, hlen⟩ F N
    walk
    rename Fr _ _ _ _ => F
    rename News _ _ _ _ => N
    refine h l _ _ its n t ⟨_, F⟩ ⟨N.get (by k_mem), N.get (by k_mem), N.get (by k_mem), bx, bd, bl⟩ ?_ sl
    rw [yv, List.take_length] at yz
    exact yz.to fun a o q => q.here F N (by (intro p hp; simp [hp]))


end
end L1
end

section
open PySem PySem.W PySem.Calls PyProof.Rows RS
open PySem.SeqAt
set_option maxRecDepth 100000
set_option maxHeartbeats 0
set_option linter.unusedVariables false
namespace L1
theorem warm_new : (fun (_ : OpenLaw) (_ : Params → Frag) => True) PySem.Challenge.rw_lg0001_01 L1H.hd.heap_39 := by w_top off; k_fill; trivial
section
variable {prog : Program} {w : World} {A : Around} {E : Value → Shared → Prop} {s : Shared} {base : Heap} {p : Program} {loose : List Str} {mean : ExcName → Option Value} {mg mb : Str → Option Value}
theorem init_spec {x d lst : Addr} {vs : List Value} {qs : List (Int × Int)} {kl : Nat} {R : Result → Shared → Prop} (hb : base.StaysIn s.heap) (X : (L1H.hd.heap_39 w.params).In base) (T : Top p loose mean mg mb base)
    (hx : s.heap.get? x = some (instObj 111 d)) (hd : s.heap.get? d = some (dictOf [] 0)) (bx : base.get? x = none) (bd : base.get? d = none)
    (hl : s.heap.get? lst = some (listOf vs.toArray kl)) (yv : Rngs s.heap vs qs) (hp : RS.Pos qs) (hA : A.depth < 790) (hh : A.handled = none) (hz : vs.length ≤ 20000)
    (h : ∀ l h' tk its n t, KeepBut [x, d] s.heap h' → RSAt w.params base h' x d l its n t → Rngs h' its (addAll qs []) → s.heap.get? l = none → R (.ok (.ret .none)) { s with heap := h', toks := tk }) :
    codeAny (model prog w) A (.call (.ref 30) ⟨[.ref x, .ref lst], []⟩) R s := by
  have hxd : (@Ne Nat x d) := fun e => by rw [e, hd] at hx; simp at hx
  have N₀ : ∀ q ∈ ([(x, instObj 111 d), (d, dictOf [] 0)] : List (Addr × Obj)), s.heap.get? q.1 = some q.2 ∧ base.get? q.1 = none := by
    intro q hq
    simp only [List.mem_cons, List.not_mem_nil, or_false] at hq
    rcases hq with rfl | rfl
    · exact ⟨hx, bx⟩
    · exact ⟨hd, bd⟩
  refine enterK _ hb X T N₀ (by k_is) (by k_is) (Nat.lt_of_lt_of_le hA (by decide)) (binds_K (K := L1H.hd.heap_39 w.params) (binds := [(Str.ofString "self", .ref x), (Str.ofString "ranges", .ref lst)]) (fun a o e => hb _ _ (X a o e)) rfl (by k_is) rfl rfl rfl) (locs rfl) ?_ rfl rfl rfl (by decide)
  intro g L h₁ F N Xg Tg sg kb lt
  have lx : (@Ne Nat lst x) := fun e => by rw [e, hx] at hl; simp at hl
  have ld : (@Ne Nat lst d) := fun e => by rw [e, hd] at hl; simp at hl
  have gl : g.get? lst = some (listOf vs.toArray kl) := kb _ _ (by simp only [List.map_cons, List.map_nil, List.mem_cons, List.not_mem_nil, or_false]; intro q; exact q.elim lx ld) hl
  have yg : Rngs g vs qs := yv.keeps fun b lo hi t1 t2 t3 e => kb b _ (fun hm => by
    simp only [List.map_cons, List.map_nil, List.mem_cons, List.not_mem_nil, or_false] at hm
    rcases hm with rfl | rfl
    · rw [hx] at e; simp at e
    · rw [hd] at e; simp at e) e
  refine init_body (A := A) (s := { heap := h₁, gens := s.gens, drawn := s.drawn, toks := _, os := s.os }) (by obtain ⟨hb, _⟩ := fn_of (K := L1H.hd.heap_39 w.params) (a := 30) (by k_is); rw [hb]) (by obtain ⟨_, hs⟩ := fn_of (K := L1H.hd.heap_39 w.params) (a := 30) (by k_is); first | (rw [hs]; done) | (rw [hs]; rfl)) X T Xg Tg sg F N hxd bx bd gl yg yv.length hp hA hh hz ?_
  rintro l h' tk its n t ⟨m', F'⟩ r y sl
  exact h l h' tk its n t (kb.stays F'.keep) r y (fresh_all kb F N sl)

theorem init0_spec {x d : Addr} {vs : List Value} {qs : List (Int × Int)} {kl : Nat} {R : Result → Shared → Prop} (hb : base.StaysIn s.heap) (X : (L1H.hd.heap_39 w.params).In base) (T : Top p loose mean mg mb base)
    (hx : s.heap.get? x = some (instObj 111 d)) (hd : s.heap.get? d = some (dictOf [] 0)) (bx : base.get? x = none) (bd : base.get? d = none)
    (hl : s.heap.get? 22 = some (listOf vs.toArray kl)) (yv : Rngs s.heap vs qs) (hp : RS.Pos qs) (hA : A.depth < 790) (hh : A.handled = none) (hz : vs.length ≤ 20000)
    (h : ∀ l h' tk its n t, KeepBut [x, d] s.heap h' → RSAt w.params base h' x d l its n t → Rngs h' its (addAll qs []) → s.heap.get? l = none → R (.ok (.ret .none)) { s with heap := h', toks := tk }) :
    codeAny (model prog w) A (.call (.ref 30) ⟨[.ref x], []⟩) R s := by
  have hxd : (@Ne Nat x d) := fun e => by rw [e, hd] at hx; simp at hx
  have N₀ : ∀ q ∈ ([(x, instObj 111 d), (d, dictOf [] 0)] : List (Addr × Obj)), s.heap.get? q.1 = some q.2 ∧ base.get? q.1 = none := by
    intro q hq
    simp only [List.mem_cons, List.not_mem_nil, or_false] at hq
    rcases hq with rfl | rfl
    · exact ⟨hx, bx⟩
    · exact ⟨hd, bd⟩
  refine enterK _ hb X T N₀ (by k_is) (by k_is) (Nat.lt_of_lt_of_le hA (by decide)) (binds_K (K := L1H.hd.heap_39 w.params) (binds := [(Str.ofString "self", .ref x), (Str.ofString "ranges", .ref 22)]) (fun a o e => hb _ _ (X a o e)) rfl (by k_is) rfl rfl rfl) (locs rfl) ?_ rfl rfl rfl (by decide)
  intro g L h₁ F N Xg Tg sg kb lt
  have lx : (@Ne Nat 22 x) := fun e => by rw [e, hx] at hl; simp at hl
  have ld : (@Ne Nat 22 d) := fun e => by rw [e, hd] at hl; simp at hl
  have gl : g.get? 22 = some (listOf vs.toArray kl) := kb _ _ (by simp only [List.map_cons, List.map_nil, List.mem_cons, List.not_mem_nil, or_false]; intro q; exact q.elim lx ld) hl
  have yg : Rngs g vs qs := yv.keeps fun b lo hi t1 t2 t3 e => kb b _ (fun hm => by
    simp only [List.map_cons, List.map_nil, List.mem_cons, List.not_mem_nil, or_false] at hm
    rcases hm with rfl | rfl
    · rw [hx] at e; simp at e
    · rw [hd] at e; simp at e) e
  refine init_body (A := A) (s := { heap := h₁, gens := s.gens, drawn := s.drawn, toks := _, os := s.os }) (by obtain ⟨hb, _⟩ := fn_of (K := L1H.hd.heap_39 w.params) (a := 30) (by k_is); rw [hb]) (by obtain ⟨_, hs⟩ := fn_of (K := L1H.hd.heap_39 w.params) (a := 30) (by k_is); first | (rw [hs]; done) | (rw [hs]; rfl)) X T Xg Tg sg F N hxd bx bd gl yg yv.length hp hA hh hz ?_
  rintro l h' tk its n t ⟨m', F'⟩ r y sl
  exact h l h' tk its n t (kb.stays F'.keep) r y (fresh_all kb F N sl)

theorem new_spec {lst : Addr} {vs : List Value} {qs : List (Int × Int)} {kl : Nat} {Q : Value → Shared → Prop} (hb : base.StaysIn s.heap) (X : (L1H.hd.heap_39 w.params).In base) (T : Top p loose mean mg mb base)
    (hl : s.heap.get? lst = some (listOf vs.toArray kl)) (yv : Rngs s.heap vs qs) (hp : RS.Pos qs) (hA : A.depth < 780) (hh : A.handled = none) (hz : vs.length ≤ 20000)
    (h : ∀ x d l h' tk its n t, s.heap.StaysIn h' → RSAt w.params base h' x d l its n t → Rngs h' its (addAll qs []) → (s.heap.get? x = none ∧ s.heap.get? d = none ∧ s.heap.get? l = none) → Q (.ref x) { s with heap := h', toks := tk }) :
    wpAny (model prog w) A (call (.ref 111) [.ref lst]) Q E s := by
  obtain ⟨hh0, gn, dr, tt, oo⟩ := s
  dsimp only at hb hl yv h
  have Xs : (L1H.hd.heap_39 w.params).In hh0 := fun a o e => hb _ _ (X a o e)
  have lk1 : findIn (L1H.hd.heap_39 w.params) (.ref 111) "__init__" = some (some (.ref 30)) := by k_is
  have lk2 : typeIn (L1H.hd.heap_39 w.params) (.ref 30) = some (.type "function") := by k_is
  have lk3 : makesIn (L1H.hd.heap_39 w.params) 111 = true := by k_is
  refine call_code (make_core (C := 111) (init := .ref 30) (makes_of Xs lk3) (looks_findIn Xs lk1) (fun self => bind_fn Xs self lk2) (.inl rfl) ?_)
  have k1 : ∀ b o, hh0.get? b = some o → ((hh0.push emptyDict).push (instObj 111 hh0.objs.size)).get? b = some o := fun b o e => Heap.get?_push_of_some _ (Heap.get?_push_of_some _ e)
  have fx : hh0.get? (hh0.objs.size + 1) = none := by
    cases q : hh0.get? (hh0.objs.size + 1) with
    | none => rfl
    | some o => exact absurd (Heap.lt_size q) (Nat.not_lt.mpr (Nat.le_succ _))
  have fd : hh0.get? hh0.objs.size = none := by
    cases q : hh0.get? hh0.objs.size with
    | none => rfl
    | some o => exact absurd (Heap.lt_size q) (Nat.lt_irrefl _)
  have bn : ∀ b, hh0.get? b = none → base.get? b = none := fun b e => by
    cases q : base.get? b with
    | none => rfl
    | some o => rw [hb _ _ q] at e; cases e
  refine init_spec (s := ⟨_, gn, dr, tt, oo⟩) (A := A.under _) (base := base) (fun b o e => k1 b o (hb b o e)) X T (d := hh0.objs.size) ?_ (Heap.get?_push_of_some _ (Heap.get?_push_size _ rfl)) (bn _ fx) (bn _ fd) (k1 _ _ hl) (yv.keeps fun b _ _ _ _ _ e => k1 _ _ e) hp (dlt hA) hh hz ?_
  · have := Heap.get?_push_size (hh0.push emptyDict) (o := instObj 111 hh0.objs.size) rfl
    rwa [Heap.size_push] at this
  · intro l h' tk its n t kb r y fl
    have fl' : hh0.get? l = none := by
      cases q : hh0.get? l with
      | none => rfl
      | some o => rw [k1 _ _ q] at fl; cases fl
    refine ⟨rfl, h _ _ l h' tk its n t (fun b o e => kb b o ?_ (k1 b o e)) r y ⟨fx, fd, fl'⟩⟩
    simp only [List.mem_cons, List.not_mem_nil, or_false]
    rintro (rfl | rfl)
    · rw [fx] at e; cases e
    · rw [fd] at e; cases e

theorem new0_spec {Q : Value → Shared → Prop} (hb : base.StaysIn s.heap) (X : (L1H.hd.heap_39 w.params).In base) (T : Top p loose mean mg mb base)
    (hA : A.depth < 780) (hh : A.handled = none)
    (h : ∀ x d l h' tk its n t, s.heap.StaysIn h' → RSAt w.params base h' x d l its n t → Rngs h' its [] → (s.heap.get? x = none ∧ s.heap.get? d = none ∧ s.heap.get? l = none) → Q (.ref x) { s with heap := h', toks := tk }) :
    wpAny (model prog w) A (call (.ref 111) []) Q E s := by
  obtain ⟨hh0, gn, dr, tt, oo⟩ := s
  dsimp only at hb h
  have Xs : (L1H.hd.heap_39 w.params).In hh0 := fun a o e => hb _ _ (X a o e)
  have lk1 : findIn (L1H.hd.heap_39 w.params) (.ref 111) "__init__" = some (some (.ref 30)) := by k_is
  have lk2 : typeIn (L1H.hd.heap_39 w.params) (.ref 30) = some (.type "function") := by k_is
  have lk3 : makesIn (L1H.hd.heap_39 w.params) 111 = true := by k_is
  refine call_code (make_core (C := 111) (init := .ref 30) (makes_of Xs lk3) (looks_findIn Xs lk1) (fun self => bind_fn Xs self lk2) (.inl rfl) ?_)
  have k1 : ∀ b o, hh0.get? b = some o → ((hh0.push emptyDict).push (instObj 111 hh0.objs.size)).get? b = some o := fun b o e => Heap.get?_push_of_some _ (Heap.get?_push_of_some _ e)
  have fx : hh0.get? (hh0.objs.size + 1) = none := by
    cases q : hh0.get? (hh0.objs.size + 1) with
    | none => rfl
    | some o => exact absurd (Heap.lt_size q) (Nat.not_lt.mpr (Nat.le_succ _))
  have fd : hh0.get? hh0.objs.size = none := by
    cases q : hh0.get? hh0.objs.size with
    | none => rfl
    | some o => exact absurd (Heap.lt_size q) (Nat.lt_irrefl _)
  have bn : ∀ b, hh0.get? b = none → base.get? b = none := fun b e => by
    cases q : base.get? b with
    | none => rfl
    | some o => rw [hb _ _ q] at e; cases e
  refine init0_spec (s := ⟨_, gn, dr, tt, oo⟩) (A := A.under _) (base := base) (fun b o e => k1 b o (hb b o e)) X T (d := hh0.objs.size) ?_ (Heap.get?_push_of_some _ (Heap.get?_push_size _ rfl)) (bn _ fx) (bn _ fd) (vs := []) (qs := []) (k1 _ _ (Xs 22 _ (by k_is))) .nil (fun _ h => nomatch h) (dlt hA) hh (by simp) ?_
  · have := Heap.get?_push_size (hh0.push emptyDict) (o := instObj 111 hh0.objs.size) rfl
    rwa [Heap.size_push] at this
  · intro l h' tk its n t kb r y fl
    have fl' : hh0.get? l = none := by
      cases q : hh0.get? l with
      | none => rfl
      | some o => rw [k1 _ _ q] at fl; cases fl
    refine ⟨rfl, h _ _ l h' tk its n t (fun b o e => kb b o ?_ (k1 b o e)) r y ⟨fx, fd, fl'⟩⟩
    simp only [List.mem_cons, List.not_mem_nil, or_false]
    rintro (rfl | rfl)
    · rw [fx] at e; cases e
    · rw [fd] at e; cases e

end
end L1
end

section
open PySem PySem.W PySem.Calls PyProof.Rows RS
open PySem.SeqAt
set_option maxRecDepth 100000
set_option maxHeartbeats 0
set_option linter.unusedVariables false
namespace L1
theorem warm_holds : (fun (_ : OpenLaw) (_ : Params → Frag) => True) PySem.Challenge.rw_lg0001_01 L1H.hd.heap_39 := by w_top off; k_fill; trivial
section
variable {prog : Program} {w : World} {A : Around} {E : Value → Shared → Prop} {s : Shared} {base : Heap} {p : Program} {loose : List Str} {mean : ExcName → Option Value} {mg mb : Str → Option Value}
theorem holds_spec {l : Addr} {vs : List Value} {ds : List (Bool × Int × Int)} {kl : Nat} {v : Int} {tv : Tok} {Q : Value → Shared → Prop} (hb : base.StaysIn s.heap) (X : (L1H.hd.heap_39 w.params).In base) (T : Top p loose mean mg mb base)
    (hl : s.heap.get? l = some (listOf vs.toArray kl)) (y : ListP IsDeed (At s.heap) vs ds) (hA : A.depth < 800) (hh : A.handled = none)
    (h : ∀ h' tk, s.heap.StaysIn h' → Q (.bool (holds ds v)) { s with heap := h', toks := tk }) :
    wpAny (model prog w) A (call (.ref 122) [.ref l, .int v tv]) Q E s := by
  refine call_code (enterK [] hb X T (fun q hq => nomatch hq) (by k_is) (by k_is) (Nat.lt_of_lt_of_le hA (by decide)) (BindsTo.of_eq (binds := [(Str.ofString "deeds", .ref l), (Str.ofString "number", .int v tv)]) rfl) (locs rfl) ?_ rfl rfl rfl (by decide))
  intro g L h₁ F N Xg Tg sg kb lt
  have sb : s.heap.StaysIn g := KeepBut.nil kb
  have gl : g.get? l = some (listOf vs.toArray kl) := sb _ _ hl
  obtain ⟨da, hda, hlen, hd⟩ := deeds_tups (y.stays sb)
  walk
  refine wpAny_For ?_
  walk
  rename Fr _ _ _ _ => F
  have lL : l ≠ L := Nat.ne_of_lt (Nat.lt_of_lt_of_le (Heap.lt_size gl) F.above)
  refine for_listT (fix := []) (ds := da) hh (fun i => assigns3 (A := A.deeper _) (Pt := fun d => da[(i : Nat)]? = some d) hh rfl rfl rfl rfl (fun v hv => by
      obtain ⟨d, _, t, u, rfl⟩ := hd _ _ hv
      exact ⟨_, _, _, rfl⟩)) ⟨_, F.keep _ _ gl, rfl, _, rfl⟩ hda lL (.inl ⟨_, gl⟩) F N
    (fun i m' news' => (∃ a b c, m' = (fun y => if y = Str.ofString "stop" then a else if y = Str.ofString "start" then b else if y = Str.ofString "adds" then c else List.lookup y [(Str.ofString "deeds", Value.ref l), (Str.ofString "number", Value.int v tv)].reverse)) ∧ news' = [] ∧ holds ds v = holds (ds.drop i) v) (fun _ _ _ _ _ h => nomatch h) ⟨⟨_, _, _, map_self3⟩, rfl, rfl⟩ ?_ ?_
  · rintro i d I oI m' news' h₂ tk _ hi ⟨⟨a, b, c, rfl⟩, rfl, hno⟩ hlt off F N
    obtain ⟨⟨adds, start, stop⟩, hds, t, u, rfl⟩ := hd _ _ hi
    replace F : Fr g L h₂ (fun y => if y = Str.ofString "stop" then some (.int stop u) else if y = Str.ofString "start" then some (.int start t) else if y = Str.ofString "adds" then some (.bool adds) else if y = Str.ofString "stop" then a else if y = Str.ofString "start" then b else if y = Str.ofString "adds" then c else List.lookup y [(Str.ofString "deeds", Value.ref l), (Str.ofString "number", Value.int v tv)].reverse) := F
    rw [map_over3] at F
    walk
    · show Q (.bool adds) _
      rw [← holds_yes hds (by assumption) (by assumption) hno]
      exact h _ _ fun b o e => F.keep b o (sb b o e)
    · rename ¬ _ => hn
      exact ⟨_, _, _, _, rfl, F, N, off, ⟨_, _, _, rfl⟩, rfl, holds_go hds (fun q => hn q.2) hno⟩
    · rename ¬ _ => hn
      exact ⟨_, _, _, _, rfl, F, N, off, ⟨_, _, _, rfl⟩, rfl, holds_go hds (fun q => hn q.1) hno⟩
  · rintro m' news' h₃ tk ⟨⟨a, b, c, rfl⟩, rfl, hno⟩ F N
    walk
    show Q (.bool false) _
    rw [hlen, List.drop_length] at hno
    rw [show false = holds ds v from hno.symm]
    exact h _ _ fun b o e => F.keep b o (sb b o e)

end
end L1
end

section
open PySem PySem.W PySem.Calls PyProof.Rows RS
open PySem.SeqAt
set_option maxRecDepth 100000
set_option maxHeartbeats 0
set_option linter.unusedVariables false
namespace L1
theorem warm_spans : (fun (_ : OpenLaw) (_ : Params → Frag) => True) PySem.Challenge.rw_lg0001_01 L1H.hd.heap_39 := by w_top off; k_fill; trivial
section
variable {prog : Program} {w : World} {A : Around} {E : Value → Shared → Prop} {s : Shared} {base : Heap} {p : Program} {loose : List Str} {mean : ExcName → Option Value} {mg mb : Str → Option Value}
theorem spans_spec {l : Addr} {vs : List Value} {ds : List (Bool × Int × Int)} {kl : Nat} {Q : Value → Shared → Prop} (hb : base.StaysIn s.heap) (X : (L1H.hd.heap_39 w.params).In base) (T : Top p loose mean mg mb base)
    (hl : s.heap.get? l = some (listOf vs.toArray kl)) (y : ListP IsDeed (At s.heap) vs ds) (hA : A.depth < 790) (hh : A.handled = none) (hz : ds.length ≤ 31)
    (h : ∀ D h' tk its n ns, s.heap.StaysIn h' → s.heap.get? D = none → h'.get? D = some (listOf its.toArray n) → ListP IsPair (At h') its (walkSpans ds ns) → ns.Perm (ds.map (·.2.1) ++ ds.map (·.2.2)) → ns.Pairwise (· ≤ ·) → Q (.ref D) { s with heap := h', toks := tk }) :
    wpAny (model prog w) A (call (.ref 127) [.ref l]) Q E s := by
  refine call_code (enterK [] hb X T (fun q hq => nomatch hq) (by k_is) (by k_is) (Nat.lt_of_lt_of_le hA (by decide)) (BindsTo.of_eq (binds := [(Str.ofString "deeds", .ref l)]) rfl) (locs rfl) ?_ rfl rfl rfl (by decide))
  intro g L h₁ F N Xg Tg sg kb lt
  have sb : s.heap.StaysIn g := KeepBut.nil kb
  have gl : g.get? l = some (listOf vs.toArray kl) := sb _ _ hl
  have yg := y.stays sb
  have hz' : vs.length ≤ 31 := by rw [y.length]; exact hz
  k_steps
  refine rs_newList F N ?_
  intro D h₂ F2 N2 l1 sl
  have fD : s.heap.get? D = none := fresh_all kb F N sl
  clear F N
  k_steps
  refine wpAny_For ?_
  k_steps
  rename Fr _ _ _ _ => F
  rename News _ _ _ _ => N
  refine comp_open (cl := []) rfl rfl (by decide) ?_
  k_steps
  refine comp_list_ro hh (by omega) (by decide) rfl rfl F N (.inl ⟨_, gl, rfl, _, rfl⟩) (fun i ys _ => IntsAre ys (List.map (fun (x : Bool × Int × Int) => x.2.1) (ds.take i))) (fun _ _ _ _ _ r => r) ?_ ?_ ?_
  · exact .nil
  · intro i v I oI C oC D₁ m₂ ys Z h₃ tk E' hv hr hC hx F N
    obtain ⟨a, o, ⟨b, st, en⟩, rfl, hd, ha, t₁, u₁, rfl⟩ := yg.get hv
    k_steps
    refine tup_item (F.keep _ _ ha) (by decide) (by decide) rfl ?_
    refine CompStay.intro (stays_refl _) ?_
    rw [take_snoc hd, List.map_append]
    exact IntsAre.append hr (.cons _ _ .nil)
  · intro ys Z D₁ h₃ tk hr F N o1
    k_steps
    refine comp_open (cl := []) rfl rfl (by decide) ?_
    k_steps
    refine comp_list_ro hh (by omega) (by decide) rfl rfl F N (.inl ⟨_, gl, rfl, _, rfl⟩) (fun i ys _ => IntsAre ys (List.map (fun (x : Bool × Int × Int) => x.2.2) (ds.take i))) (fun _ _ _ _ _ r => r) ?_ ?_ ?_
    · exact .nil
    · intro i v I oI C oC D₁ m₂ ys Z h₃ tk E' hv hr C hx F N
      obtain ⟨a, o, ⟨b, st, en⟩, rfl, hd, ha, t₁, u₁, rfl⟩ := yg.get hv
      k_steps
      refine tup_item (F.keep _ _ ha) (by decide) (by decide) rfl ?_
      refine CompStay.intro (stays_refl _) ?_
      rw [take_snoc hd, List.map_append]
      exact IntsAre.append hr (.cons _ _ .nil)
    · intro ys' Z' D₂ h₄ tk hr' F N o1'
      rw [y.length, List.take_length] at hr hr'
      k_steps
      rename Fr _ _ _ _ => F
      rename News _ _ _ _ => N
      rename IntsAre _ (_ ++ _) => hi
      have g3 := (N _ (.head _)).1
      have NmD : (D, listOf #[] 0) ∈ (D₂, LCg.lst ys') :: ((D₁, LCg.lst ys) :: ([(D, listOf #[] 0)] ++ Z) ++ Z') := .tail _ (.tail _ (.head _))
      refine kso_sorted F N ⟨_, g3, rfl, _, rfl⟩ hi (by rw [List.length_append, List.length_map, List.length_map]; omega) ?_
      intro S vs' ns c h₆ F N l4 hI _ hperm hsort _
      have SD : (@Ne Nat D S) := Nat.ne_of_lt (l4 _ (.tail _ NmD))
      have NN : News g L h₆ [(D, listOf #[] 0), (S, listOf vs'.toArray c)] := news_cons N (.tail _ (.tail _ NmD)) (news_cons N (.head _) News.nil)
      have hvl : vs'.length = ns.length := IntsAre.length hI
      clear N
      k_steps
      have SL : S ≠ L := (NN (S, listOf vs'.toArray c) (.tail _ (.head _))).2.1
      refine for_list (fix := [(S, listOf vs'.toArray c)]) hh rfl rfl ⟨_, (NN (S, listOf vs'.toArray c) (.tail _ (.head _))).1, rfl, _, rfl⟩ SL (.inr ⟨_, .head _⟩) F NN
        (fun i m' news' => ∃ its n Z t u, m' (Str.ofString "deeds") = some (.ref l) ∧ m' (Str.ofString "spans") = some (.ref D) ∧ m' (Str.ofString "first") = some (optV (List.foldl (spStep ds) ([], none, none) (ns.take i)).2.1 t) ∧ m' (Str.ofString "before") = some (optV (List.foldl (spStep ds) ([], none, none) (ns.take i)).2.2 u) ∧
          news' = (D, listOf its.toArray n) :: (S, listOf vs'.toArray c) :: Z ∧ ListP IsPair (Src g Z) its (List.foldl (spStep ds) ([], none, none) (ns.take i)).1 ∧ (∀ p ∈ Z, p.1 ≠ D) ∧ its.length ≤ i) ?_ ⟨[], 0, [], 0, 0, rfl, rfl, rfl, rfl, rfl, .nil, (fun _ h => nomatch h), Nat.le_refl _⟩ ?_ ?_
      · rintro i m' news' ⟨its, n, Z, t, u, _, _, _, _, rfl, _⟩ q hq
        rw [List.mem_singleton.mp hq]; k_mem
      · rintro i v I oI m' news' h₇ tk hoI hi ⟨its, n, Z, t, u, e1, e2, e3, e4, rfl, yz, offZ, hlen⟩ hlt off F N
        obtain ⟨e, he⟩ : ∃ e, ns[i]? = some e := ⟨_, List.getElem?_eq_getElem (by rw [← hvl]; exact (List.getElem?_eq_some_iff.mp hi).1)⟩
        obtain ⟨te, hv⟩ := hI.get _ _ he
        rw [hi] at hv
        cases hv
        have hil : i < 62 := by
          have := hperm.length_eq
          have := (List.getElem?_eq_some_iff.mp he).1
          rw [List.length_append, List.length_map, List.length_map] at *
          omega
        rw [take_snoc he, List.foldl_append]
        generalize hst : List.foldl (spStep ds) ([], none, none) (ns.take i) = st at *
        obtain ⟨sp, fi, be⟩ := st
        dsimp only at e3 e4 yz
        replace F := fr_know (fr_know (fr_know (fr_know (fr_know F (x := Str.ofString "deeds") e1) (x := Str.ofString "spans") e2) (x := Str.ofString "first") e3) (x := Str.ofString "before") e4) (x := Str.ofString "edge") rfl
        have hoff : ∀ p ∈ (S, listOf vs'.toArray c) :: Z, p.1 ≠ D := by
          intro p hp
          rcases List.mem_cons.mp hp with rfl | hp
          · exact Ne.symm SD
          · exact offZ p hp
        have ID : (@Ne Nat I D) := Ne.symm (off _ (.head _))
        rcases be with _ | be
        · dsimp only [optV] at F
          walk
          refine holds_spec (A := A.deeper _) (s := { heap := h₇, gens := s.gens, drawn := s.drawn, toks := _, os := s.os }) (vs := vs) (ds := ds) (kl := kl) (base := base) (fun b o e => F.keep b o (sg b o e)) X T (F.keep _ _ gl) (yg.stays F.keep) (dlt hA) hh ?_
          intro h₈ tk₈ st₈
          replace F := F.keeps st₈
          replace N := N.grown st₈
          rcases fi with _ | f <;> dsimp only [optV] at F <;> cases hhd : holds ds e
          · have hs : spStep ds (sp, none, none) e = (sp, none, some e) := by simp [spStep, hhd]
            walk
            rename Fr _ _ _ _ => F
            rename News _ _ _ _ => N
            rw [List.foldl_cons, List.foldl_nil, hs]
            exact ⟨_, _, _, _, rfl, F, N, off, its, n, Z, 0, te, rfl, rfl, rfl, rfl, rfl, yz, offZ, Nat.le_succ_of_le hlen⟩
          · have hs : spStep ds (sp, none, none) e = (sp, some e, some e) := by simp [spStep, hhd]
            walk
            rename Fr _ _ _ _ => F
            rename News _ _ _ _ => N
            rw [List.foldl_cons, List.foldl_nil, hs]
            exact ⟨_, _, _, _, rfl, F, N, off, its, n, Z, te, te, rfl, rfl, rfl, rfl, rfl, yz, offZ, Nat.le_succ_of_le hlen⟩
          · have hs : spStep ds (sp, some f, none) e = (sp ++ [(f, e)], none, some e) := by simp [spStep, hhd]
            walk
            rename Fr _ _ _ _ => F
            rename News _ _ _ _ => N
            rename (_ ∧ _ ∧ _ ∧ AllLt _ _) => l5
            rename_i D₅ _
            refine rs_append (its := its) (n := n) F N (.tail (Nat.ne_of_gt l5.2.1) (.tail ID (.head hoff))) (by omega) ?_
            clear F N
            intro h₉ F N
            walk
            rename Fr _ _ _ _ => F
            rename News _ _ _ _ => N
            rw [List.foldl_cons, List.foldl_nil, hs]
            refine ⟨_, _, _, _, rfl, F, news_cons N (.tail _ (.head _)) (news_cons N (.tail _ (.tail _ (.head _))) (news_cons N (.tail _ (.tail _ (.tail _ (.head _)))) (news_cons N (.head _) (news_mono N fun p hp => .tail _ (.tail _ (.tail _ (.tail _ hp))))))), ?_, _, _, _, 0, te, rfl, rfl, rfl, rfl, rfl, ?_, ?_, ?_⟩
            · intro p hp
              simp only [List.mem_cons] at hp
              rcases hp with rfl | rfl | rfl | hp
              · exact off (D, listOf its.toArray n) (.head _)
              · exact off (S, listOf vs'.toArray c) (.tail _ (.head _))
              · exact Nat.ne_of_gt l5.1
              · exact off p (.tail _ (.tail _ hp))
            · exact (yz.mono fun a o q _ => q.more _).append (.one (.inr (.head _)) ⟨_, _, rfl⟩)
            · intro p hp
              rcases List.mem_cons.mp hp with rfl | hp
              · exact Nat.ne_of_gt l5.2.1
              · exact offZ p hp
            · rw [List.length_append]; simp; omega
          · have hs : spStep ds (sp, some f, none) e = (sp, some f, some e) := by simp [spStep, hhd]
            walk
            rename Fr _ _ _ _ => F
            rename News _ _ _ _ => N
            rw [List.foldl_cons, List.foldl_nil, hs]
            exact ⟨_, _, _, _, rfl, F, N, off, its, n, Z, t, te, rfl, rfl, rfl, rfl, rfl, yz, offZ, Nat.le_succ_of_le hlen⟩
        · dsimp only [optV] at F
          walk
          · rename ¬ _ => hne
            replace hne : ¬ be = e := fun q => hne q.symm
            refine holds_spec (A := A.deeper _) (s := { heap := h₇, gens := s.gens, drawn := s.drawn, toks := _, os := s.os }) (vs := vs) (ds := ds) (kl := kl) (base := base) (fun b o e => F.keep b o (sg b o e)) X T (F.keep _ _ gl) (yg.stays F.keep) (dlt hA) hh ?_
            intro h₈ tk₈ st₈
            replace F := F.keeps st₈
            replace N := N.grown st₈
            rcases fi with _ | f <;> dsimp only [optV] at F <;> cases hhd : holds ds e
            · have hs : spStep ds (sp, none, some be) e = (sp, none, some e) := by simp [spStep, hhd, hne]
              walk
              rename Fr _ _ _ _ => F
              rename News _ _ _ _ => N
              rw [List.foldl_cons, List.foldl_nil, hs]
              exact ⟨_, _, _, _, rfl, F, N, off, its, n, Z, 0, te, rfl, rfl, rfl, rfl, rfl, yz, offZ, Nat.le_succ_of_le hlen⟩
            · have hs : spStep ds (sp, none, some be) e = (sp, some e, some e) := by simp [spStep, hhd, hne]
              walk
              rename Fr _ _ _ _ => F
              rename News _ _ _ _ => N
              rw [List.foldl_cons, List.foldl_nil, hs]
              exact ⟨_, _, _, _, rfl, F, N, off, its, n, Z, te, te, rfl, rfl, rfl, rfl, rfl, yz, offZ, Nat.le_succ_of_le hlen⟩
            · have hs : spStep ds (sp, some f, some be) e = (sp ++ [(f, e)], none, some e) := by simp [spStep, hhd, hne]
              walk
              rename Fr _ _ _ _ => F
              rename News _ _ _ _ => N
              rename (_ ∧ _ ∧ _ ∧ AllLt _ _) => l5
              rename_i D₅ _
              refine rs_append (its := its) (n := n) F N (.tail (Nat.ne_of_gt l5.2.1) (.tail ID (.head hoff))) (by omega) ?_
              clear F N
              intro h₉ F N
              walk
              rename Fr _ _ _ _ => F
              rename News _ _ _ _ => N
              rw [List.foldl_cons, List.foldl_nil, hs]
              refine ⟨_, _, _, _, rfl, F, news_cons N (.tail _ (.head _)) (news_cons N (.tail _ (.tail _ (.head _))) (news_cons N (.tail _ (.tail _ (.tail _ (.head _)))) (news_cons N (.head _) (news_mono N fun p hp => .tail _ (.tail _ (.tail _ (.tail _ hp))))))), ?_, _, _, _, 0, te, rfl, rfl, rfl, rfl, rfl, ?_, ?_, ?_⟩
              · intro p hp
                simp only [List.mem_cons] at hp
                rcases hp with rfl | rfl | rfl | hp
                · exact off (D, listOf its.toArray n) (.head _)
                · exact off (S, listOf vs'.toArray c) (.tail _ (.head _))
                · exact Nat.ne_of_gt l5.1
                · exact off p (.tail _ (.tail _ hp))
              · exact (yz.mono fun a o q _ => q.more _).append (.one (.inr (.head _)) ⟨_, _, rfl⟩)
              · intro p hp
                rcases List.mem_cons.mp hp with rfl | hp
                · exact Nat.ne_of_gt l5.2.1
                · exact offZ p hp
              · rw [List.length_append]; simp; omega
            · have hs : spStep ds (sp, some f, some be) e = (sp, some f, some e) := by simp [spStep, hhd, hne]
              walk
              rename Fr _ _ _ _ => F
              rename News _ _ _ _ => N
              rw [List.foldl_cons, List.foldl_nil, hs]
              exact ⟨_, _, _, _, rfl, F, N, off, its, n, Z, t, te, rfl, rfl, rfl, rfl, rfl, yz, offZ, Nat.le_succ_of_le hlen⟩
          · rename e = be => heb
            subst heb
            have hs : spStep ds (sp, fi, some e) e = (sp, fi, some e) := by simp [spStep]
            rename Fr _ _ _ _ => F
            rename News _ _ _ _ => N
            rw [List.foldl_cons, List.foldl_nil, hs]
            exact ⟨_, _, _, _, rfl, F, N, off, its, n, Z, t, te, rfl, rfl, rfl, rfl, rfl, yz, offZ, Nat.le_succ_of_le hlen⟩
      · rintro m' news' h₇ tk ⟨its, n, Z, t, u, e1, e2, e3, e4, rfl, yz, offZ, hlen⟩ F N
        rw [hvl, List.take_length] at yz
        replace F := fr_know F (x := Str.ofString "spans") e2
        walk
        refine h D _ _ its n ns (fun b o e => F.keep b o (sb b o e)) fD (N.get (by k_mem)) (yz.mono fun a o q _ => q.here F N (by intro p hp; simp [hp])) hperm hsort

end
end L1
end

section
open PySem PySem.W PySem.Calls PyProof.Rows RS
open PySem.SeqAt
set_option maxRecDepth 100000
set_option maxHeartbeats 0
set_option linter.unusedVariables false
namespace L1
theorem warm_meth : (fun (_ : OpenLaw) (_ : Params → Frag) => True) PySem.Challenge.rw_lg0001_01 L1H.hd.heap_39 := by w_top off; k_fill; trivial
section
variable {prog : Program} {w : World} {A : Around} {E : Value → Shared → Prop} {s : Shared} {base : Heap} {p : Program} {loose : List Str} {mean : ExcName → Option Value} {mg mb : Str → Option Value}
variable {g : Heap} {L : Addr} {m : Str → Option Value}
theorem rs_instAt {h : Heap} {x d l : Addr} {its : List Value} {n : Nat} {t : Tok} (r : RSAt w.params base h x d l its n t) : InstAt h x (instObj 111 d) 111 (some (rdict w.params l t)) := ⟨r.inst, rfl, rfl, r.dict⟩
theorem m_sub {x d l : Addr} {its : List Value} {n : Nat} {t : Tok} {value slice : PySem.Expr} {v : Value} {Q : Value → Shared → Prop} (F : Fr g L s.heap m) (Xg : (L1H.hd.heap_39 w.params).In g) (r : RSAt w.params base s.heap x d l its n t)
    (h : wpAny (model prog w) A.in1 (call (.ref 87) [.ref x, v]) Q E s)
    (hsl : subscripted slice true (.ref x) v = runValue (.builtin "lifetime.subscript" ⟨[.ref x, v], []⟩) := by with_unfolding_all rfl) :
    wpAny (model prog w) A (subscriptTail value slice (.ref x) v) Q E s := sub_K F Xg (rs_instAt r) (by k_is) (by k_is) (by k_is) h hsl
theorem m_getitem {x d l : Addr} {its : List Value} {n : Nat} {t : Tok} {value slice : PySem.Expr} {Q : Value → Shared → Prop} (hb : base.StaysIn s.heap) (X : (L1H.hd.heap_39 w.params).In base) (T : Top p loose mean mg mb base)
    (F : Fr g L s.heap m) (Xg : (L1H.hd.heap_39 w.params).In g) (r : RSAt w.params base s.heap x d l its n t) (hA : A.depth < 800) (hz : its.length ≤ 100000) {k : Int} {tk : Tok} {a : Value} (h0 : -(2 ^ 63) ≤ k) (hf : k < 2 ^ 63) (hk : keyAt its k = some a)
    (h : ∀ h' tk, s.heap.StaysIn h' → Q a { s with heap := h', toks := tk })
    (hsl : subscripted slice true (.ref x) (.int k tk) = runValue (.builtin "lifetime.subscript" ⟨[.ref x, .int k tk], []⟩) := by with_unfolding_all rfl) :
    wpAny (model prog w) A (subscriptTail value slice (.ref x) (.int k tk)) Q E s :=
  m_sub F Xg r (getitem_spec (A := A.in1) hb X T r hA hz h0 hf hk h) hsl
theorem m_in {x d l : Addr} {its : List Value} {n : Nat} {t : Tok} {rs : List (Int × Int)} {Q : Value → Shared → Prop} (hb : base.StaysIn s.heap) (X : (L1H.hd.heap_39 w.params).In base) (T : Top p loose mean mg mb base)
    (F : Fr g L s.heap m) (Xg : (L1H.hd.heap_39 w.params).In g) (r : RSAt w.params base s.heap x d l its n t) (y : Rngs s.heap its rs) (hA : A.depth < 800) (hh : A.handled = none) {v : Int} {tv : Tok}
    (h : ∀ h' tk, s.heap.StaysIn h' → Q (.bool (rs.any fun q => decide (q.1 ≤ v) && decide (v < q.2))) { s with heap := h', toks := tk }) :
    wpAny (model prog w) A (compareOp .In (.int v tv) (.ref x)) Q E s :=
  in_K F Xg (rs_instAt r) (by k_is) (by k_is) (contains_spec hb X T r y hA hh fun h' tk st => wpAny_pure (h h' tk st))
theorem m_iter {x d l : Addr} {its : List Value} {n : Nat} {t : Tok} {Q : Value → Shared → Prop} (hb : base.StaysIn s.heap) (X : (L1H.hd.heap_39 w.params).In base) (T : Top p loose mean mg mb base)
    (F : Fr g L s.heap m) (Xg : (L1H.hd.heap_39 w.params).In g) (r : RSAt w.params base s.heap x d l its n t) (hA : A.depth < 800)
    (h : ∀ h' tk I, s.heap.StaysIn h' → s.heap.get? I = none → h'.IsListIter I l 0 → Q (.ref I) { s with heap := h', toks := tk }) :
    wpAny (model prog w) A (pyIter (.ref x)) Q E s :=
  owit_iter F Xg (rs_instAt r) (by k_is) (by k_is) (iter_spec hb X T r hA fun h' tk I st fi hit => by
    unfold OwitIt
    obtain ⟨o, ho, hc, hd⟩ := id hit
    exact wpAny_specialOf ⟨o, ho, hc⟩ slot_listiter_next.lookup (h h' tk I st fi hit))
theorem m_eq {x d l x' d' l' : Addr} {its its' : List Value} {n n' : Nat} {t t' : Tok} {rs rs' : List (Int × Int)} {Q : Value → Shared → Prop} (hb : base.StaysIn s.heap) (X : (L1H.hd.heap_39 w.params).In base) (T : Top p loose mean mg mb base)
    (F : Fr g L s.heap m) (Xg : (L1H.hd.heap_39 w.params).In g) (r : RSAt w.params base s.heap x d l its n t) (r' : RSAt w.params base s.heap x' d' l' its' n' t') (y : Rngs s.heap its rs) (y' : Rngs s.heap its' rs') (hp : RS.Pos rs) (hp' : RS.Pos rs') (hA : A.depth < 800) (hu : A.units < 5000)
    (h : ∀ h' tk, s.heap.StaysIn h' → Q (.bool (decide (rs = rs'))) { s with heap := h', toks := tk }) :
    wpAny (model prog w) A (compareOp .Eq (.ref x) (.ref x')) Q E s :=
  cmp_ofEq (cmp_K (by simp only [cLine]; omega) F Xg (rs_instAt r) (InstAt.type (rs_instAt r')) (by k_is) (by k_is) (by k_is) (eq_spec hb X T r r' y y' hp hp' hA hu h))

end
end L1
end

section
open PySem PySem.W PySem.Calls PyProof.Rows RS
open PySem.SeqAt
set_option maxRecDepth 100000
set_option maxHeartbeats 0
set_option linter.unusedVariables false
namespace L1
theorem warm_out : (fun (_ : OpenLaw) (_ : Params → Frag) => True) PySem.Challenge.rw_lg0001_01 L1H.hd.heap_39 := by w_top off; k_fill; trivial
section
variable {prog : Program} {w : World} {A : Around} {E : Value → Shared → Prop} {s : Shared} {base : Heap} {p : Program} {loose : List Str} {mean : ExcName → Option Value} {mg mb : Str → Option Value}
theorem RSAt.stays {h h' : Heap} {x d l : Addr} {its : List Value} {n : Nat} {t : Tok} (r : RSAt w.params base h x d l its n t) (k : h.StaysIn h') : RSAt w.params base h' x d l its n t :=
  ⟨k _ _ r.inst, k _ _ r.dict, k _ _ r.list, r.nx, r.nd, r.nl⟩
/-- the program shadows no such name -/
def Unsaid (p : Program) (loose : List Str) (x : Str) : Prop := x ∉ loose ∧ x ∉ (recsOf p).map (·.name) ∧ x ∉ (litsOf p).map (·.1) ∧ x ∉ (clssOf p loose).map (·.name)
theorem getitem_out {x d l : Addr} {its : List Value} {n : Nat} {t : Tok} {eb : Heap} {outer : List Env} {Q : Value → Shared → Prop} (hb : base.StaysIn s.heap) (X : (L1H.hd.heap_39 w.params).In base) (T : Top p loose mean mg mb base)
    (r : RSAt w.params base s.heap x d l its n t) (hA : A.depth < 800) (hh : A.handled = none) {k : Int} {tk : Tok} (hout : k < -(its.length : Int) ∨ (its.length : Int) ≤ k) (hlo : -(2 ^ 63) ≤ k) (hhi : k < 2 ^ 63) (Kb : Below A eb outer s.heap)
    (h : ∀ h' tk e t vs, RaisedK eb outer e (.type "IndexError") t vs [] h' → s.heap.UpToSlots h' → E (.ref e) { s with heap := h', toks := tk }) :
    wpAny (model prog w) A (call (.ref 87) [.ref x, .int k tk]) Q E s := by
  refine call_code (enterR _ hb X T (rs_news r) (by k_is) (by k_is) (Nat.lt_of_lt_of_le hA (by decide)) (BindsTo.of_eq (binds := [(Str.ofString "self", .ref x), (Str.ofString "key", .int k tk)]) rfl) (locs rfl) ?_ rfl rfl rfl (by decide))
  intro g L h₁ F N Xg Tg sg kb lt eL _
  walk
  refine item_out (items := its.toArray) hh ⟨_, N.get (by k_mem), rfl, _, rfl⟩ (by simpa using hout) hlo hhi ?_
  intro h₂ tk₂ e vs hm
  have st := stays_all (rs_news r) kb F.keep (news_cons N (by k_mem) (news_cons N (by k_mem) (news_cons N (by k_mem) News.nil)))
  refine leave_raiseK (h := h₁) (news := []) Kb hm ⟨F.ns, st, Nat.le_of_eq eL⟩ News.nil fun h' t R U => ?_
  exact h h' _ e t vs R U

theorem outside_spec {x d l : Addr} {its : List Value} {n : Nat} {t : Tok} {outer : List Env} {Q : Value → Shared → Prop} (hb : base.StaysIn s.heap) (X : (L1H.hd.heap_39 w.params).In base) (T : Top p loose mean mg mb base)
    (r : RSAt w.params base s.heap x d l its n t) (hA : A.depth < 790) (hh : A.handled = none) {k : Int} {tk : Tok} (hout : k < -(its.length : Int) ∨ (its.length : Int) ≤ k) (hlo : -(2 ^ 63) ≤ k) (hhi : k < 2 ^ 63) (Kb : Below A base outer s.heap)
    (hI : Unsaid p loose (Str.ofString "IndexError")) (hO : ∀ a ∈ outer.filterMap (·.frame), a ≠ x ∧ a ≠ d ∧ a ≠ l)
    (h : ∀ h' tk, KeepBut (outer.filterMap (·.frame)) s.heap h' → s.heap.UpToSlots h' → Q (.bool true) { s with heap := h', toks := tk }) :
    wpAny (model prog w) A (call (.ref 134) [.ref x, .int k tk]) Q E s := by
  obtain ⟨W, hW, hN⟩ := frames_news Kb.frames
  refine call_code (enterR W hb X T hN (by k_is) (by k_is) (Nat.lt_of_lt_of_le hA (by decide)) (BindsTo.of_eq (binds := [(Str.ofString "ranges", .ref x), (Str.ofString "place", .int k tk)]) rfl) (locs rfl) ?_ rfl rfl rfl (by decide))
  intro g L h₁ F N Xg Tg sg kb lt eL hgg
  have kbW := kb
  rw [hW] at kb hgg
  walk
  rename Fr _ _ _ _ => F
  rename News _ _ _ _ => N
  have st := stays_all hN kbW F.keep N
  have fg : ∀ a ∈ outer.filterMap (·.frame), g.get? a = none := fun a ha => (hgg a).elim id fun q => absurd ha q.1
  refine m_sub F Xg (base := base) (r.stays st) (getitem_out (A := (A.deeper _).in1) (s := { heap := _, gens := s.gens, drawn := s.drawn, toks := _, os := s.os }) (eb := g) (outer := envOf _ _ L _ _ :: outer) (fun b o e => F.keep _ _ (sg b o e)) X T (r.stays st) (dlt hA) hh hout hlo hhi
    ⟨Around.frames_deeper Kb.stack, F.keep, .cons (show ScopeKind.function ≠ ScopeKind.module by decide) rfl F.ns (Heap.get?_none_of_le F.above) (frames_up st Kb.frames fg)⟩ ?_)
  intro h₂ tk₂ e t vs hR hU
  dsimp only at hR hU ⊢
  refine caught_in (T' := "IndexError") Kb.stack F hU hR (topRead_of Tg) PyProof.Rows.Boot.«IndexError» PySem.F.isExc_IndexError PySem.F.notTuple_IndexError (by rw [isSubtype_type]; kernel_rfl) ?_ (by decide +kernel) hI.1 hI.2.1 hI.2.2.1 hI.2.2.2
  intro h₃ F hU₃
  have keep₃ := F.keep
  obtain ⟨I, N, _, hI⟩ := ledger_all g h₃ L []
  walk
  rename Fr _ _ _ _ => F'
  rename News _ _ _ _ => N'
  refine h _ _ (kb.stays F'.keep) fun b o e hd => ?_
  obtain ⟨sl, e3⟩ := hU₃ b o (st _ _ e) hd
  refine ⟨sl, ?_⟩
  cases q : g.get? b with
  | none => exact (N' _ (hI _ _ e3 (List.not_mem_nil) (Nat.ne_of_lt (eL ▸ Heap.lt_size e)) q)).1
  | some o' =>
    have := keep₃ _ _ q
    rw [e3] at this
    cases this
    exact F'.keep _ _ q

end
end L1
end

section
open PySem PySem.W PySem.Calls PyProof.Rows RS
open PySem.SeqAt
set_option maxRecDepth 100000
set_option maxHeartbeats 0
set_option linter.unusedVariables false
namespace L1
theorem warm_same : (fun (_ : OpenLaw) (_ : Params → Frag) => True) PySem.Challenge.rw_lg0001_01 L1H.hd.heap_39 := by w_top off; k_fill; trivial
section
variable {prog : Program} {w : World} {A : Around} {E : Value → Shared → Prop} {s : Shared} {base : Heap} {p : Program} {loose : List Str} {mean : ExcName → Option Value} {mg mb : Str → Option Value}
theorem same_spec {x d l sl : Addr} {its vs : List Value} {rs : List (Int × Int)} {n ns : Nat} {t : Tok} {outer : List Env} {Q : Value → Shared → Prop} (hb : base.StaysIn s.heap) (X : (L1H.hd.heap_39 w.params).In base) (T : Top p loose mean mg mb base)
    (r : RSAt w.params base s.heap x d l its n t) (y : Rngs s.heap its rs) (hs : s.heap.get? sl = some (listOf vs.toArray ns)) (hsl : (@Ne Nat sl l)) (ys : ListP IsPair (At s.heap) vs rs) (hA : A.depth < 780) (hu : A.units < 4000) (hh : A.handled = none) (hz : rs.length ≤ 10000) (Kb : Below A base outer s.heap)
    (hI : Unsaid p loose (Str.ofString "IndexError")) (hO : ∀ a ∈ outer.filterMap (·.frame), a ≠ x ∧ a ≠ d ∧ a ≠ l ∧ a ≠ sl ∧ (∀ o, s.heap.get? a = some o → ∃ es ep, o.data = .dict es ep))
    (h : ∀ h' tk, KeepBut (outer.filterMap (·.frame)) s.heap h' → s.heap.UpToSlots h' → Q (.bool true) { s with heap := h', toks := tk }) :
    wpAny (model prog w) A (call (.ref 139) [.ref x, .ref sl]) Q E s := by
  obtain ⟨W, hW, hN⟩ := frames_news Kb.frames
  have hN' : ∀ q ∈ (x, instObj 111 d) :: (d, rdict w.params l t) :: (l, listOf its.toArray n) :: W, s.heap.get? q.1 = some q.2 ∧ base.get? q.1 = none := by
    intro q hq
    rcases List.mem_append.mp (show q ∈ [(x, instObj 111 d), (d, rdict w.params l t), (l, listOf its.toArray n)] ++ W from hq) with hq | hq
    · exact rs_news r q hq
    · exact hN q hq
  refine call_code (enterR ((x, instObj 111 d) :: (d, rdict w.params l t) :: (l, listOf its.toArray n) :: W) hb X T hN' (by k_is) (by k_is) (Nat.lt_of_lt_of_le hA (by decide)) (BindsTo.of_eq (binds := [(Str.ofString "ranges", .ref x), (Str.ofString "spans", .ref sl)]) rfl) (locs rfl) ?_ rfl rfl rfl (by decide))
  intro g L h₁ F N Xg Tg sg kb lt eL _
  have hzi : its.length = rs.length := y.length
  have hzv : vs.length = rs.length := ys.length
  have inW : ∀ b o, s.heap.get? b = some o → (∀ es ep, o.data ≠ .dict es ep) → b ≠ x → b ≠ d → b ≠ l → b ∉ List.map (·.1) ((x, instObj 111 d) :: (d, rdict w.params l t) :: (l, listOf its.toArray n) :: W) := by
    intro b o e hd h1 h2 h3 hm
    simp only [List.map_cons, List.mem_cons] at hm
    rcases hm with hm | hm | hm | hm
    · exact h1 hm
    · exact h2 hm
    · exact h3 hm
    · rw [hW] at hm
      obtain ⟨es, ep, q⟩ := (hO b hm).2.2.2.2 o e
      exact hd _ _ q
  have yg : Rngs g its rs := y.keeps fun b lo hi t1 t2 t3 e => kb _ _ (inW _ _ e (by intro es ep q; cases q) (fun q => by rw [q, r.inst] at e; simp at e) (fun q => by rw [q, r.dict] at e; simp at e) (fun q => by rw [q, r.list] at e; simp at e)) e
  have ysg : ListP IsPair (At g) vs rs := ys.keeps fun b o e ⟨q, t, u, ho⟩ => kb _ _ (by
    subst ho
    exact inW _ _ e (by intro es ep q; cases q) (fun q => by rw [q, r.inst] at e; simp at e) (fun q => by rw [q, r.dict] at e; simp at e) (fun q => by rw [q, r.list] at e; simp at e)) e
  have gsl : g.get? sl = some (listOf vs.toArray ns) := kb _ _ (inW _ _ hs (by intro es ep q; cases q) (fun q => by rw [q, r.inst] at hs; simp at hs) (fun q => by rw [q, r.dict] at hs; simp at hs) hsl) hs
  k_steps
  refine Calls.call_len_list (items := vs.toArray) ⟨_, F.keep _ _ gsl, rfl, _, rfl⟩ (by rw [List.size_toArray]; omega) ?_
  k_steps
  rename Fr _ _ _ _ => F
  rename News _ _ _ _ => N
  refine len_spec (A := (A.deeper _).in1) (s := { heap := _, gens := s.gens, drawn := s.drawn, toks := _, os := s.os }) (its := its) (n := n) (t := t) (d := d) (l := l) (base := base) (fun b o e => F.keep b o (sg b o e)) X T ⟨N.get (by k_mem), N.get (by k_mem), N.get (by k_mem), r.nx, r.nd, r.nl⟩ (dlt hA) (by omega) ?_
  intro h₂ tk₂ u st₂
  replace F := F.keeps st₂
  replace N := N.grown st₂
  refine ⟨⟨by omega, by omega⟩, ?_⟩
  have hcnt : (its.length : Int) = (vs.toArray.size : Int) := by rw [List.size_toArray]; omega
  k_steps
  · rename _ ≠ _ => hne
    exact absurd hcnt hne
  rename _ = _ => heq
  clear heq
  refine comp_open (cl := []) rfl rfl (by decide) ?_
  k_steps
  refine m_iter (base := base) (its := its) (n := n) (t := t) (d := d) (l := l) (fun b o e => F.keep b o (sg b o e)) X T F Xg ⟨N.get (by k_mem), N.get (by k_mem), N.get (by k_mem), r.nx, r.nd, r.nl⟩ (dlt hA) ?_
  intro h₃ tk₃ I st₃ fI hit
  obtain ⟨LI, gI, offI⟩ := fresh_off F N fI
  replace F := F.keeps st₃
  replace N := N.grown st₃
  have NNm : (l, listOf its.toArray n) ∈ (x, instObj 111 d) :: (d, rdict w.params l t) :: (l, listOf its.toArray n) :: W := by k_mem
  refine comp_listit_ro hh (by omega) ⟨_, N.get NNm, rfl, _, rfl⟩ hit (by decide) rfl rfl F N LI gI offI (.inr ⟨_, NNm, rfl, _, rfl⟩) (fun i ys P => ListP IsPair P ys (rs.take i)) (fun i ys P P' k r => r.mono fun a o q _ => k a o q) .nil ?_ ?_
  · intro i v I oI C oC D₁ m₂ ys Z h₃ tk E' hv hr hC hx F N
    obtain ⟨a, lo, hi', t1, t2, t3, rfl, hd, ha⟩ := yg.get hv
    have ha' := F.keep _ _ ha
    k_steps
    refine wpAny_newTuple ?_
    refine CompStay.intro (fun b o e => Heap.get?_push_of_some _ e) ?_
    rw [take_snoc hd]
    exact (hr.mono fun a o q _ => .inl q).append (.one (.inr ⟨Heap.get?_none_of_le (Nat.le_refl _), Heap.get?_push_size _ rfl⟩) ⟨_, _, rfl⟩)
  intro ys' Z D h₄ tk₄ hr F N o1
  rw [hzi, List.take_length] at hr
  k_steps
  refine ne_pairs (vs := ys') (us := vs) (rs := rs) (qs := rs) ⟨_, (N (D, LCg.lst ys') (.head _)).1, rfl, _, rfl⟩ (hr.mono fun a o q _ => q.here F N fun p hp => .tail _ hp) ⟨_, F.keep _ _ gsl, rfl, _, rfl⟩ (ysg.stays F.keep) (ult hu) ?_
  rw [decide_eq_true rfl]
  replace N : News g L h₄ ((x, instObj 111 d) :: (d, rdict w.params l t) :: (l, listOf its.toArray n) :: W) := news_mono N fun p hp => .tail _ (List.mem_append_left _ hp)
  clear o1 hr fI hit LI gI offI
  k_steps
  refine wpAny_For ?_
  walk
  rename IsRange _ _ _ _ _ _ _ _ => hR
  rename Fr _ _ _ _ => F
  rename News _ _ _ _ => N
  have hsz : vs.toArray.size = rs.length := by rw [List.size_toArray]; exact hzv
  rw [hsz] at hR F
  refine for_range (n := rs.length) hh rfl rfl hR (small_n (by omega)) (rangeSize_n _) F N
    (fun i m' news' => ∃ tc, m' (Str.ofString "ranges") = some (.ref x) ∧ m' (Str.ofString "spans") = some (.ref sl) ∧ m' (Str.ofString "count") = some (.int rs.length tc) ∧ news' = (x, instObj 111 d) :: (d, rdict w.params l t) :: (l, listOf its.toArray n) :: W) ⟨_, rfl, rfl, rfl, rfl⟩ ?_ ?_
  · rintro i k I oI m' news' h₅ tk₅ hoI hi ⟨tc, e1, e2, e3, rfl⟩ hlt off F N
    rw [show (0 : Int) + (i : Nat) * 1 = i by omega] at F
    replace F := fr_know (fr_know (fr_know (fr_know F (x := Str.ofString "ranges") e1) (x := Str.ofString "spans") e2) (x := Str.ofString "count") e3) (x := Str.ofString "k") rfl
    obtain ⟨⟨lo, hi'⟩, hd⟩ : ∃ q, rs[i]? = some q := ⟨_, List.getElem?_eq_getElem hi⟩
    obtain ⟨a, t1, t2, t3, hv, ha⟩ := yg.at hd
    obtain ⟨T₀, o₀, hT, gT, pT⟩ := ysg.at hd
    have k1 : keyAt its (i : Int) = some (.ref a) := by unfold keyAt; rw [if_pos (by omega)]; simpa using hv
    have k2 : keyAt its ((i : Int) - (rs.length : Int)) = some (.ref a) := by
      unfold keyAt
      rw [if_neg (by omega), if_pos (by omega), show (((i : Int) - (rs.length : Int)) + its.length).toNat = i by omega]; exact hv
    have NNm : (x, instObj 111 d) ∈ (I, oI) :: (x, instObj 111 d) :: (d, rdict w.params l t) :: (l, listOf its.toArray n) :: W := by k_mem
    k_steps
    refine m_getitem (base := base) (its := its) (n := n) (t := t) (d := d) (l := l) (fun b o e => F.keep b o (sg b o e)) X T F Xg ⟨N.get (by k_mem), N.get (by k_mem), N.get (by k_mem), r.nx, r.nd, r.nl⟩ (dlt hA) (by omega) (by omega) (by omega) k1 ?_
    intro h₆ tk₆ st₆
    replace F := F.keeps st₆
    replace N := N.grown st₆
    k_steps
    rename Fr _ _ _ _ => F
    rename News _ _ _ _ => N
    refine m_getitem (base := base) (its := its) (n := n) (t := t) (d := d) (l := l) (fun b o e => F.keep b o (sg b o e)) X T F Xg ⟨N.get (by k_mem), N.get (by k_mem), N.get (by k_mem), r.nx, r.nd, r.nl⟩ (dlt hA) (by omega) (by omega) (by omega) k2 ?_
    intro h₇ tk₇ st₇
    replace F := F.keeps st₇
    replace N := N.grown st₇
    walk
    rename Fr _ _ _ _ => F
    rename News _ _ _ _ => N
    refine l_item (F.keep _ _ gsl) (by omega) (by omega) (by simpa using hT) ?_
    walk
    rename Fr _ _ _ _ => F
    rename News _ _ _ _ => N
    refine ne_pair (p := (lo, hi')) (q := (lo, hi')) (N.get (by k_mem)) ⟨_, _, rfl⟩ (F.keep _ _ gT) pT (ult hu) ?_
    rw [decide_eq_true rfl]
    walk
    rename Fr _ _ _ _ => F
    rename News _ _ _ _ => N
    refine l_item (F.keep _ _ gsl) (by omega) (by omega) (by simpa using hT) ?_
    walk
    rename Fr _ _ _ _ => F
    rename News _ _ _ _ => N
    refine ne_pair (p := (lo, hi')) (q := (lo, hi')) (N.get (by k_mem)) ⟨_, _, rfl⟩ (F.keep _ _ gT) pT (ult hu) ?_
    rw [decide_eq_true rfl]
    walk
    rename Fr _ _ _ _ => F
    rename News _ _ _ _ => N
    exact ⟨_, _, _, _, rfl, F, news_mono N fun p hp => .tail _ (.tail _ hp), off, tc, rfl, rfl, rfl, rfl⟩
  · rintro m' news' h₅ tk₅ ⟨tc, e1, e2, e3, rfl⟩ F N
    replace F := fr_know (fr_know (fr_know F (x := Str.ofString "ranges") e1) (x := Str.ofString "spans") e2) (x := Str.ofString "count") e3
    k_steps
    · rename (0 : Int) < _ => hpos
      replace hpos : 0 < rs.length := by omega
      obtain ⟨⟨lo, hi₀⟩, hd0⟩ : ∃ q, rs[0]? = some q := ⟨_, List.getElem?_eq_getElem hpos⟩
      obtain ⟨⟨lo₁, hi₁⟩, hd1⟩ : ∃ q, rs[rs.length - 1]? = some q := ⟨_, List.getElem?_eq_getElem (by omega)⟩
      obtain ⟨T₀, o₀, hT0, gT0, t0, u0, rfl⟩ := ysg.at hd0
      obtain ⟨T₁, o₁, hT1, gT1, t1, u1, rfl⟩ := ysg.at hd1
      rename Fr _ _ _ _ => F
      rename News _ _ _ _ => N
      refine bounds_spec (A := A.deeper _) (s := { heap := _, gens := s.gens, drawn := s.drawn, toks := _, os := s.os }) (its := its) (n := n) (t := t) (d := d) (l := l) (rs := rs) (base := base) (fun b o e => F.keep b o (sg b o e)) X T ⟨N.get (by k_mem), N.get (by k_mem), N.get (by k_mem), r.nx, r.nd, r.nl⟩ (yg.keeps fun b _ _ _ _ _ e => F.keep _ _ e) (dlt hA) (by omega) hd0 hd1 ?_
      intro h₆ tk₆ a v1 v2 v3 st₆ ha
      replace F := F.keeps st₆
      replace N := N.grown st₆
      obtain ⟨I, NI, _, allI⟩ := ledger_all g h₆ L []
      have sa : Src g I a _ := src_all F allI ha (List.not_mem_nil) (ns_not F.ns ha (by intro es ep q; cases q))
      replace N : News g L h₆ ((x, instObj 111 d) :: (d, rdict w.params l t) :: (l, listOf its.toArray n) :: (W ++ I)) := by
        intro p hp
        rcases List.mem_append.mp (show p ∈ ((x, instObj 111 d) :: (d, rdict w.params l t) :: (l, listOf its.toArray n) :: W) ++ I from hp) with hp | hp
        · exact N p hp
        · exact NI p hp
      clear NI
      walk
      rename Fr _ _ _ _ => F
      rename News _ _ _ _ => N
      refine l_item (F.keep _ _ gsl) (by decide) (by decide) (by simpa using hT0) ?_
      walk
      refine tup_item (F.keep _ _ gT0) (by decide) (by decide) rfl ?_
      walk
      refine l_item (F.keep _ _ gsl) (by omega) (by omega) (v := .ref T₁) (by rw [show ((rs.length : Int) - 1).toNat = rs.length - 1 by omega]; exact hT1) ?_
      walk
      refine tup_item (F.keep _ _ gT1) (by decide) (by decide) rfl ?_
      walk
      rename Fr _ _ _ _ => F
      rename News _ _ _ _ => N
      refine ne_pair (p := (lo, hi₁)) (q := (lo, hi₁)) (N.get (by k_mem)) ⟨_, _, rfl⟩ (N.get (by k_mem)) ⟨_, _, rfl⟩ (ult hu) ?_
      rw [decide_eq_true rfl]
      k_steps
      rename Fr _ _ _ _ => F
      rename News _ _ _ _ => N
      have st := stays_all hN' kb F.keep (news_mono N (fun p hp => List.Mem.tail _ (List.Mem.tail _ (List.mem_append_left I hp))))
      have gL : g.get? L = none := Heap.get?_none_of_le F.above
      have bfr : ∀ a ∈ outer.filterMap (·.frame), base.get? a = none := fun a ha => (Kb.frames.mem ha).1
      have nxL : x ≠ L ∧ d ≠ L ∧ l ≠ L := ⟨(N (x, instObj 111 d) (by k_mem)).2.1, (N (d, rdict w.params l t) (by k_mem)).2.1, (N (l, listOf its.toArray n) (by k_mem)).2.1⟩
      have hOL : ∀ a ∈ L :: outer.filterMap (·.frame), a ≠ x ∧ a ≠ d ∧ a ≠ l := List.forall_mem_cons.mpr ⟨⟨nxL.1.symm, nxL.2.1.symm, nxL.2.2.symm⟩, fun a ha => ⟨(hO a ha).1, (hO a ha).2.1, (hO a ha).2.2.1⟩⟩
      have gW : ∀ a ∈ L :: outer.filterMap (·.frame), g.get? a = none := by
        refine List.forall_mem_cons.mpr ⟨gL, fun a ha => ?_⟩
        rw [← hW] at ha
        obtain ⟨p, hp, rfl⟩ := List.mem_map.mp ha
        exact (N p ((fun p hp => List.Mem.tail _ (List.Mem.tail _ (List.mem_append_left I hp))) p (.tail _ (.tail _ (.tail _ hp))))).2.2
      refine outside_spec (A := A.deeper _) (s := { heap := _, gens := s.gens, drawn := s.drawn, toks := _, os := s.os }) (its := its) (n := n) (t := t) (d := d) (l := l) (base := base) (outer := envOf _ _ L _ _ :: outer) (fun b o e => F.keep b o (sg b o e)) X T ⟨N.get (by k_mem), N.get (by k_mem), N.get (by k_mem), r.nx, r.nd, r.nl⟩ (dlt hA) hh (.inr (by omega)) (by omega) (by omega)
        ⟨Around.frames_deeper Kb.stack, fun b o e => F.keep b o (sg b o e), .cons (show ScopeKind.function ≠ ScopeKind.module by decide) rfl F.ns (fresh_of_stays sg gL) (frames_up st Kb.frames bfr)⟩ hI hOL ?_
      intro h₈ tk₈ kb₈ u₈
      have kbL : KeepBut (L :: outer.filterMap (·.frame)) _ h₈ := kb₈
      have g₈ : g.StaysIn h₈ := fun b o e => kbL b o (fun hm => by rw [gW b hm] at e; cases e) (F.keep b o e)
      have F₈ := F.of_stays g₈ u₈
      have us : s.heap.UpToSlots h₈ := (Heap.UpToSlots.of_keeps st).trans u₈
      have hx₈ : h₈.get? x = some (instObj 111 d) := kbL _ _ (fun hm => (hOL x hm).1 rfl) (N.get (by k_mem))
      have hd₈ : h₈.get? d = some (rdict w.params l t) := kbL _ _ (fun hm => (hOL d hm).2.1 rfl) (N.get (by k_mem))
      have hl₈ : h₈.get? l = some (listOf its.toArray n) := kbL _ _ (fun hm => (hOL l hm).2.2 rfl) (N.get (by k_mem))
      have N₈ : News g L h₈ ((x, instObj 111 d) :: (d, rdict w.params l t) :: (l, listOf its.toArray n) :: []) := by
        intro p hp
        simp only [List.mem_cons, List.not_mem_nil, or_false] at hp
        rcases hp with rfl | rfl | rfl
        · exact ⟨hx₈, (N (x, instObj 111 d) (by k_mem)).2⟩
        · exact ⟨hd₈, (N (d, rdict w.params l t) (by k_mem)).2⟩
        · exact ⟨hl₈, (N (l, listOf its.toArray n) (by k_mem)).2⟩
      clear N F
      k_steps
      refine outside_spec (A := A.deeper _) (s := { heap := h₈, gens := s.gens, drawn := s.drawn, toks := _, os := s.os }) (its := its) (n := n) (t := t) (d := d) (l := l) (base := base) (outer := envOf _ _ L _ _ :: outer) (fun b o e => g₈ b o (sg b o e)) X T ⟨hx₈, hd₈, hl₈, r.nx, r.nd, r.nl⟩ (dlt hA) hh (.inl (by omega)) (by omega) (by omega)
        ⟨Around.frames_deeper Kb.stack, fun b o e => g₈ b o (sg b o e), .cons (show ScopeKind.function ≠ ScopeKind.module by decide) rfl F₈.ns (fresh_of_stays sg gL) (frames_upto us Kb.frames bfr)⟩ hI hOL ?_
      intro h₉ tk₉ kb₉ u₉
      k_steps
      refine h h₉ _ (fun b o hb e => ?_) (us.trans u₉)
      by_cases hbL : b ∈ L :: outer.filterMap (·.frame)
      · rcases List.mem_cons.mp hbL with q | hm
        · exact absurd (Heap.lt_size e) (Nat.not_lt.mpr (Nat.le_of_eq (eL.trans q.symm)))
        · exact absurd hm hb
      · refine kb₉ b o hbL ?_
        exact kbL b o hbL (st b o e)
    · rename ¬ _ => hnp
      clear hnp
      k_steps
      rename Fr _ _ _ _ => F
      rename News _ _ _ _ => N
      have st := stays_all hN' kb F.keep (news_mono N (fun p hp => hp))
      have gL : g.get? L = none := Heap.get?_none_of_le F.above
      have bfr : ∀ a ∈ outer.filterMap (·.frame), base.get? a = none := fun a ha => (Kb.frames.mem ha).1
      have nxL : x ≠ L ∧ d ≠ L ∧ l ≠ L := ⟨(N (x, instObj 111 d) (by k_mem)).2.1, (N (d, rdict w.params l t) (by k_mem)).2.1, (N (l, listOf its.toArray n) (by k_mem)).2.1⟩
      have hOL : ∀ a ∈ L :: outer.filterMap (·.frame), a ≠ x ∧ a ≠ d ∧ a ≠ l := List.forall_mem_cons.mpr ⟨⟨nxL.1.symm, nxL.2.1.symm, nxL.2.2.symm⟩, fun a ha => ⟨(hO a ha).1, (hO a ha).2.1, (hO a ha).2.2.1⟩⟩
      have gW : ∀ a ∈ L :: outer.filterMap (·.frame), g.get? a = none := by
        refine List.forall_mem_cons.mpr ⟨gL, fun a ha => ?_⟩
        rw [← hW] at ha
        obtain ⟨p, hp, rfl⟩ := List.mem_map.mp ha
        exact (N p ((fun p hp => hp) p (.tail _ (.tail _ (.tail _ hp))))).2.2
      refine outside_spec (A := A.deeper _) (s := { heap := _, gens := s.gens, drawn := s.drawn, toks := _, os := s.os }) (its := its) (n := n) (t := t) (d := d) (l := l) (base := base) (outer := envOf _ _ L _ _ :: outer) (fun b o e => F.keep b o (sg b o e)) X T ⟨N.get (by k_mem), N.get (by k_mem), N.get (by k_mem), r.nx, r.nd, r.nl⟩ (dlt hA) hh (.inr (by omega)) (by omega) (by omega)
        ⟨Around.frames_deeper Kb.stack, fun b o e => F.keep b o (sg b o e), .cons (show ScopeKind.function ≠ ScopeKind.module by decide) rfl F.ns (fresh_of_stays sg gL) (frames_up st Kb.frames bfr)⟩ hI hOL ?_
      intro h₈ tk₈ kb₈ u₈
      have kbL : KeepBut (L :: outer.filterMap (·.frame)) _ h₈ := kb₈
      have g₈ : g.StaysIn h₈ := fun b o e => kbL b o (fun hm => by rw [gW b hm] at e; cases e) (F.keep b o e)
      have F₈ := F.of_stays g₈ u₈
      have us : s.heap.UpToSlots h₈ := (Heap.UpToSlots.of_keeps st).trans u₈
      have hx₈ : h₈.get? x = some (instObj 111 d) := kbL _ _ (fun hm => (hOL x hm).1 rfl) (N.get (by k_mem))
      have hd₈ : h₈.get? d = some (rdict w.params l t) := kbL _ _ (fun hm => (hOL d hm).2.1 rfl) (N.get (by k_mem))
      have hl₈ : h₈.get? l = some (listOf its.toArray n) := kbL _ _ (fun hm => (hOL l hm).2.2 rfl) (N.get (by k_mem))
      have N₈ : News g L h₈ ((x, instObj 111 d) :: (d, rdict w.params l t) :: (l, listOf its.toArray n) :: []) := by
        intro p hp
        simp only [List.mem_cons, List.not_mem_nil, or_false] at hp
        rcases hp with rfl | rfl | rfl
        · exact ⟨hx₈, (N (x, instObj 111 d) (by k_mem)).2⟩
        · exact ⟨hd₈, (N (d, rdict w.params l t) (by k_mem)).2⟩
        · exact ⟨hl₈, (N (l, listOf its.toArray n) (by k_mem)).2⟩
      clear N F
      k_steps
      refine outside_spec (A := A.deeper _) (s := { heap := h₈, gens := s.gens, drawn := s.drawn, toks := _, os := s.os }) (its := its) (n := n) (t := t) (d := d) (l := l) (base := base) (outer := envOf _ _ L _ _ :: outer) (fun b o e => g₈ b o (sg b o e)) X T ⟨hx₈, hd₈, hl₈, r.nx, r.nd, r.nl⟩ (dlt hA) hh (.inl (by omega)) (by omega) (by omega)
        ⟨Around.frames_deeper Kb.stack, fun b o e => g₈ b o (sg b o e), .cons (show ScopeKind.function ≠ ScopeKind.module by decide) rfl F₈.ns (fresh_of_stays sg gL) (frames_upto us Kb.frames bfr)⟩ hI hOL ?_
      intro h₉ tk₉ kb₉ u₉
      k_steps
      refine h h₉ _ (fun b o hb e => ?_) (us.trans u₉)
      by_cases hbL : b ∈ L :: outer.filterMap (·.frame)
      · rcases List.mem_cons.mp hbL with q | hm
        · exact absurd (Heap.lt_size e) (Nat.not_lt.mpr (Nat.le_of_eq (eL.trans q.symm)))
        · exact absurd hm hb
      · refine kb₉ b o hbL ?_
        exact kbL b o hbL (st b o e)

end
end L1
end

section
open PySem PySem.W PySem.Calls PyProof.Rows RS
open PySem.SeqAt
set_option maxRecDepth 100000
set_option maxHeartbeats 0
set_option linter.unusedVariables false
namespace L1
theorem warm_lb : (fun (_ : OpenLaw) (_ : Params → Frag) => True) PySem.Challenge.rw_lg0001_01 L1H.hd.heap_39 := by w_top off; k_fill; trivial
section
variable {prog : Program} {w : World} {A : Around} {E : Value → Shared → Prop} {s : Shared} {base : Heap} {p : Program} {loose : List Str} {mean : ExcName → Option Value} {mg mb : Str → Option Value}
theorem news_rs {g h h' : Heap} {L : Addr} {m : Str → Option Value} {news : List (Addr × Obj)} {x d l : Addr} {its : List Value} {n : Nat} {t : Tok} (F : Fr g L h m) (N : News g L h news) (st : h.StaysIn h') (r : RSAt w.params g h' x d l its n t)
    (fr : h.get? x = none ∧ h.get? d = none ∧ h.get? l = none) : News g L h' ((x, instObj 111 d) :: (d, rdict w.params l t) :: (l, listOf its.toArray n) :: news) := by
  intro p hp
  simp only [List.mem_cons] at hp
  rcases hp with rfl | rfl | rfl | hp
  · exact ⟨r.inst, (fresh_off F N fr.1).1.symm, r.nx⟩
  · exact ⟨r.dict, (fresh_off F N fr.2.1).1.symm, r.nd⟩
  · exact ⟨r.list, (fresh_off F N fr.2.2).1.symm, r.nl⟩
  · exact ⟨st _ _ (N p hp).1, (N p hp).2⟩
theorem rngs_nil {h : Heap} {its : List Value} (y : Rngs h its []) : its = [] := by cases y; rfl

/-- a set in the ledger -/
structure InSet (P : Params) (news : List (Addr × Obj)) (S : Addr → Obj → Prop) (x d l : Addr) (its : List Value) (n : Nat) (t : Tok) (rs : List (Int × Int)) : Prop where
  mx : (x, instObj 111 d) ∈ news
  md : (d, rdict P l t) ∈ news
  ml : (l, listOf its.toArray n) ∈ news
  rg : RngsP S its rs
theorem InSet.at {P : Params} {g h : Heap} {L : Addr} {news : List (Addr × Obj)} {x d l : Addr} {its : List Value} {n : Nat} {t : Tok} {rs : List (Int × Int)} (i : InSet P news (Src g news) x d l its n t rs) {m : Str → Option Value} (F : Fr g L h m) (N : News g L h news) :
    RSAt P g h x d l its n t ∧ Rngs h its rs :=
  ⟨⟨(N _ i.mx).1, (N _ i.md).1, (N _ i.ml).1, (N _ i.mx).2.2, (N _ i.md).2.2, (N _ i.ml).2.2⟩, i.rg.to fun a o q => q.here F N fun p hp => hp⟩
theorem InSet.more {P : Params} {g : Heap} {news news' : List (Addr × Obj)} {x d l : Addr} {its : List Value} {n : Nat} {t : Tok} {rs : List (Int × Int)} (i : InSet P news (Src g news) x d l its n t rs) (k : ∀ p ∈ news, p ∈ news') : InSet P news' (Src g news') x d l its n t rs :=
  ⟨k _ i.mx, k _ i.md, k _ i.ml, i.rg.mono fun a o q => q.imp id (k _)⟩
/-- a list of tuples in the ledger -/
def InList {α : Type} (R : α → Obj → Prop) (S : Addr → Obj → Prop) (T : Addr) (ds : List α) : Prop := ∃ vs k, S T (listOf (List.toArray vs) k) ∧ ListP R S vs ds
theorem InList.mono {α : Type} {R : α → Obj → Prop} {S S' : Addr → Obj → Prop} {T : Addr} {ds : List α} (i : InList R S T ds) (k : ∀ a o, S a o → S' a o) : InList R S' T ds := by
  obtain ⟨vs, n, a, b⟩ := i
  exact ⟨vs, n, k _ _ a, b.mono fun a o q _ => k a o q⟩

noncomputable abbrev lawEnv (P : Params) (L f : Addr) (cd : Value) : Env := envOfC (Str.ofString "law") (fnScope (L1H.hd.heap_39 P) 144) L f cd
noncomputable abbrev lawTurn (P : Params) : List Stmt := forBody (nthS (fnBody (L1H.hd.heap_39 P) 144) 4)
noncomputable abbrev lawTwo (P : Params) : List Stmt := forBody (nthS (fnBody (L1H.hd.heap_39 P) 144) 5)
theorem law_below {P : Params} {g h : Heap} {L f : Addr} {cd : Value} {m : Str → Option Value} (F : Fr g L h m) (hk : (fnScope (L1H.hd.heap_39 P) 144).kind = .function) : Below (callerA.deeper (lawEnv P L f cd)) g [lawEnv P L f cd] h :=
  pushX (below_caller g) F rfl hk

end
end L1
end

section
open PySem PySem.W PySem.Calls PyProof.Rows RS
open PySem.SeqAt
set_option maxRecDepth 100000
set_option maxHeartbeats 0
set_option linter.unusedVariables false
namespace L1
theorem warm_lm : (fun (_ : OpenLaw) (_ : Params → Frag) => True) PySem.Challenge.rw_lg0001_01 L1H.hd.heap_39 := by w_top off; k_fill; trivial
section
variable {prog : Program} {w : World} {A : Around} {E : Value → Shared → Prop} {s : Shared} {base : Heap} {p : Program} {loose : List Str} {mean : ExcName → Option Value} {mg mb : Str → Option Value}
variable {g : Heap} {L : Addr} {m : Str → Option Value} {news : List (Addr × Obj)}
theorem l_in {x d l : Addr} {its : List Value} {n : Nat} {t : Tok} {rs : List (Int × Int)} {Q : Value → Shared → Prop} (X : (L1H.hd.heap_39 w.params).In g) (T : Top p loose mean mg mb g) (F : Fr g L s.heap m) (N : News g L s.heap news)
    (i : InSet w.params news (Src g news) x d l its n t rs) {v : Int} {tv : Tok} (h : ∀ h' tk, Fr g L h' m → News g L h' news → Q (.bool (RS.inR rs v)) { s with heap := h', toks := tk }) (hA : A.depth < 800 := by exact Nat.le_of_ble_eq_true rfl) (hh : A.handled = none := by rfl) :
    wpAny (model prog w) A (compareOp .In (.int v tv) (.ref x)) Q E s :=
  m_in (base := g) F.keep X T F X (i.at F N).1 (i.at F N).2 hA hh fun h' tk st => h h' tk (F.keeps st) (N.grown st)
theorem l_eq {x d l x' d' l' : Addr} {its its' : List Value} {n n' : Nat} {t t' : Tok} {rs rs' : List (Int × Int)} {Q : Value → Shared → Prop} (X : (L1H.hd.heap_39 w.params).In g) (T : Top p loose mean mg mb g) (F : Fr g L s.heap m) (N : News g L s.heap news)
    (i : InSet w.params news (Src g news) x d l its n t rs) (i' : InSet w.params news (Src g news) x' d' l' its' n' t' rs') (hp : RS.Pos rs) (hp' : RS.Pos rs')
    (h : ∀ h' tk, Fr g L h' m → News g L h' news → Q (.bool (decide (rs = rs'))) { s with heap := h', toks := tk }) (hA : A.depth < 800 := by exact Nat.le_of_ble_eq_true rfl) (hu : A.units < 5000 := by exact Nat.le_of_ble_eq_true rfl) :
    wpAny (model prog w) A (compareOp .Eq (.ref x) (.ref x')) Q E s :=
  m_eq (base := g) F.keep X T F X (i.at F N).1 (i'.at F N).1 (i.at F N).2 (i'.at F N).2 hp hp' hA hu fun h' tk st => h h' tk (F.keeps st) (N.grown st)

/-- not a range of numbers -/
def NotRng (o : Obj) : Prop := ∀ lo hi t1 t2 t3, o ≠ rngO lo hi t1 t2 t3
theorem notRng_list {vs : List Value} {k : Nat} : NotRng (listOf vs.toArray k) := by intro lo hi t1 t2 t3 e; simp [W.listOf] at e
theorem notRng_inst {d : Addr} : NotRng (instObj 111 d) := by intro lo hi t1 t2 t3 e; simp at e
theorem notRng_dict {P : Params} {l : Addr} {t : Tok} : NotRng (rdict P l t) := by intro lo hi t1 t2 t3 e; simp at e
theorem notRng_cell {o : Obj} {c : Option Value} (h : o.data = .cell c) : NotRng o := by rintro lo hi t1 t2 t3 rfl; cases h
theorem notRng_cls {o : Obj} {c : String} (h : o.cls = .type c) (hc : c ≠ "range" := by decide) : NotRng o := by
  rintro lo hi t1 t2 t3 rfl
  have h' : Value.type "range" = Value.type c := h
  exact hc (by injection h' with e; exact e.symm)

theorem src_ne {Z : List (Addr × Obj)} {as : List Addr} {a b : Addr} {o : Obj} (x : Src g Z a o) (off : ∀ p ∈ Z, p.1 ∉ as) (hb : b ∈ as) (gb : g.get? b = none) : @Ne Nat a b := by
  intro e
  have e : a = b := e
  subst e
  rcases x with x | x
  · rw [gb] at x; cases x
  · exact off _ x hb
theorem inlist_ne {Z : List (Addr × Obj)} {α : Type} {R : α → Obj → Prop} {ds : List α} {as : List Addr} {a b : Addr} (x : InList R (Src g Z) a ds) (off : ∀ p ∈ Z, p.1 ∉ as) (hb : b ∈ as) (gb : g.get? b = none) : @Ne Nat a b :=
  let ⟨_, _, x, _⟩ := x
  src_ne x off hb gb
/-- not a tuple -/
def NotTup (o : Obj) : Prop := ∀ vs, o ≠ tupO vs
theorem notTup_list {vs : List Value} {k : Nat} : NotTup (listOf vs.toArray k) := by intro ws e; simp [W.listOf] at e
theorem notTup_inst {d : Addr} : NotTup (instObj 111 d) := by intro ws e; simp at e
theorem notTup_dict {P : Params} {l : Addr} {t : Tok} : NotTup (rdict P l t) := by intro ws e; simp at e
theorem notTup_cell {o : Obj} {c : Option Value} (h : o.data = .cell c) : NotTup o := by rintro ws rfl; cases h
theorem notTup_cls {o : Obj} {c : String} (h : o.cls = .type c) (hc : c ≠ "tuple" := by decide) : NotTup o := by
  rintro ws rfl
  have h' : Value.type "tuple" = Value.type c := h
  exact hc (by injection h' with e; exact e.symm)
theorem l_pairs {h' : Heap} {core Z : List (Addr × Obj)} {vs : List Value} {rs : List (Int × Int)} (N : News g L h' core) (hc : ∀ p ∈ core, NotTup p.2) (F : Fr g L h' m) (all : ∀ a o, h'.get? a = some o → a ∉ core.map (·.1) → a ≠ L → Src g Z a o) (y : ListP IsPair (At h') vs rs) : ListP IsPair (Src g Z) vs rs :=
  y.mono fun a o q ⟨d, t, u, r⟩ => by
    subst r
    have q : h'.get? a = _ := q
    refine all a _ q (fun hm => ?_) (ns_not F.ns q (by intro es ep q; cases q))
    obtain ⟨p, hp, rfl⟩ := List.mem_map.mp hm
    rw [(N p hp).1] at q
    exact hc p hp _ (Option.some.inj q)

/-- a set of the ledger is changed -/
theorem l_mut {h h' : Heap} {x d l : Addr} {its its' : List Value} {n n' : Nat} {t : Tok} {rs' : List (Int × Int)} {oth Z : List (Addr × Obj)} (F : Fr g L h m)
    (N : News g L h ((x, instObj 111 d) :: (d, rdict w.params l t) :: (l, listOf its.toArray n) :: (oth ++ Z))) (ho : ∀ p ∈ oth, p.1 ∉ [x, d, l] ∧ NotRng p.2) (offZ : ∀ p ∈ Z, p.1 ∉ x :: d :: l :: oth.map (·.1))
    (kb : KeepBut [x, d, l] h h') (r' : RSAt w.params g h' x d l its' n' t) (y' : Rngs h' its' rs') :
    ∃ Z', Fr g L h' m ∧ News g L h' ((x, instObj 111 d) :: (d, rdict w.params l t) :: (l, listOf its'.toArray n') :: (oth ++ Z')) ∧ (∀ p ∈ Z', p.1 ∉ x :: d :: l :: oth.map (·.1)) ∧ (∀ a o, Src g Z a o → Src g Z' a o) ∧ RngsP (Src g Z') its' rs' := by
  have nx := (N _ (.head _)).2
  have nd := (N _ (.tail _ (.head _))).2
  have nl := (N _ (.tail _ (.tail _ (.head _)))).2
  have F' := fr_keepBut F kb (by
    intro b hb
    simp only [List.mem_cons, List.not_mem_nil, or_false] at hb
    rcases hb with rfl | rfl | rfl
    · exact nx
    · exact nd
    · exact nl)
  have NZ : News g L h Z := fun p hp => N p (.tail _ (.tail _ (.tail _ (List.mem_append_right _ hp))))
  have No : News g L h' oth := fun p hp => ⟨kb _ _ (ho p hp).1 (N p (.tail _ (.tail _ (.tail _ (List.mem_append_left _ hp))))).1, (N p (.tail _ (.tail _ (.tail _ (List.mem_append_left _ hp))))).2⟩
  obtain ⟨Z', N', off', up, all⟩ := reledger (A := x :: d :: l :: oth.map (·.1)) F' NZ kb (by
    intro a ha
    simp only [List.mem_cons, List.not_mem_nil, or_false] at ha
    rcases ha with rfl | rfl | rfl <;> simp) offZ
  refine ⟨Z', F', ?_, off', up, .of y' fun a lo hi t1 t2 t3 e => all a _ e ?_ (ns_not F'.ns e (by intro es ep q; cases q))⟩
  · intro p hp
    simp only [List.mem_cons, List.mem_append] at hp
    rcases hp with rfl | rfl | rfl | hp | hp
    · exact ⟨r'.inst, nx⟩
    · exact ⟨r'.dict, nd⟩
    · exact ⟨r'.list, nl⟩
    · exact No p hp
    · exact N' p hp
  · intro hm
    simp only [List.mem_cons, List.mem_map] at hm
    rcases hm with rfl | rfl | rfl | ⟨q, hq, rfl⟩
    · rw [r'.inst] at e; simp at e
    · rw [r'.dict] at e; simp at e
    · rw [r'.list] at e; simp at e
    · have := (No q hq).1
      rw [this] at e
      exact (ho q hq).2 _ _ _ _ _ (Option.some.inj e)
/-- a set is born -/
theorem l_born {h h' : Heap} {x d l : Addr} {its : List Value} {n : Nat} {t : Tok} {rs : List (Int × Int)} {oth Z : List (Addr × Obj)} (F : Fr g L h m)
    (N : News g L h (oth ++ Z)) (ho : ∀ p ∈ oth, NotRng p.2) (offZ : ∀ p ∈ Z, p.1 ∉ oth.map (·.1))
    (st : h.StaysIn h') (r : RSAt w.params g h' x d l its n t) (y : Rngs h' its rs) (fr : h.get? x = none ∧ h.get? d = none ∧ h.get? l = none) :
    ∃ Z', Fr g L h' m ∧ News g L h' ((x, instObj 111 d) :: (d, rdict w.params l t) :: (l, listOf its.toArray n) :: (oth ++ Z')) ∧ (∀ p ∈ Z', p.1 ∉ x :: d :: l :: oth.map (·.1)) ∧ (∀ a o, Src g Z a o → Src g Z' a o) ∧ RngsP (Src g Z') its rs ∧
      (∀ p ∈ oth, p.1 ∉ [x, d, l]) ∧ (x ∉ oth.map (·.1) ∧ d ∉ oth.map (·.1) ∧ l ∉ oth.map (·.1)) := by
  have F' := F.keeps st
  have N1 := news_rs F N st r fr
  have NZ : News g L h Z := fun p hp => N p (List.mem_append_right _ hp)
  obtain ⟨ox, gx, px⟩ := fresh_off F N fr.1
  obtain ⟨od, gd, pd⟩ := fresh_off F N fr.2.1
  obtain ⟨ol, gl, pl⟩ := fresh_off F N fr.2.2
  have hoff : ∀ p ∈ oth ++ Z, p.1 ∉ [x, d, l] := by
    intro p hp hm
    simp only [List.mem_cons, List.not_mem_nil, or_false] at hm
    rcases hm with q | q | q
    · exact px p hp q
    · exact pd p hp q
    · exact pl p hp q
  obtain ⟨Z', N', off', up, all⟩ := reledger (W := []) (A := x :: d :: l :: oth.map (·.1)) F' NZ (fun b o _ e => st b o e) (fun a ha => nomatch ha) (by
    intro p hp hm
    simp only [List.mem_cons] at hm
    rcases hm with q | q | q | q
    · exact px p (List.mem_append_right _ hp) q
    · exact pd p (List.mem_append_right _ hp) q
    · exact pl p (List.mem_append_right _ hp) q
    · exact offZ p hp q)
  refine ⟨Z', F', ?_, off', up, .of y fun a lo hi t1 t2 t3 e => all a _ e ?_ (ns_not F'.ns e (by intro es ep q; cases q)), fun p hp => hoff p (List.mem_append_left _ hp), ?_⟩
  · intro p hp
    simp only [List.mem_cons, List.mem_append] at hp
    rcases hp with rfl | rfl | rfl | hp | hp
    · exact N1 _ (.head _)
    · exact N1 _ (.tail _ (.head _))
    · exact N1 _ (.tail _ (.tail _ (.head _)))
    · exact N1 _ (.tail _ (.tail _ (.tail _ (List.mem_append_left _ hp))))
    · exact N' p hp
  · intro hm
    simp only [List.mem_cons, List.mem_map] at hm
    rcases hm with rfl | rfl | rfl | ⟨q, hq, rfl⟩
    · rw [r.inst] at e; simp at e
    · rw [r.dict] at e; simp at e
    · rw [r.list] at e; simp at e
    · have := (N1 q (.tail _ (.tail _ (.tail _ (List.mem_append_left _ hq))))).1
      rw [this] at e
      exact ho q hq _ _ _ _ _ (Option.some.inj e)
  · have key : ∀ z, (∀ p ∈ oth ++ Z, p.1 ≠ z) → z ∉ oth.map (·.1) := fun z hz hm => by
      obtain ⟨q, hq, e⟩ := List.mem_map.mp hm
      exact hz q (List.mem_append_left _ hq) e
    exact ⟨key _ px, key _ pd, key _ pl⟩
section
variable {x d l : Addr} {its : List Value} {n : Nat} {t : Tok} {rs : List (Int × Int)} {oth Z : List (Addr × Obj)} {Q : Value → Shared → Prop}
theorem l_at (F : Fr g L s.heap m) (N : News g L s.heap ((x, instObj 111 d) :: (d, rdict w.params l t) :: (l, listOf its.toArray n) :: (oth ++ Z))) (rg : RngsP (Src g Z) its rs) :
    RSAt w.params g s.heap x d l its n t ∧ Rngs s.heap its rs :=
  InSet.at (news := (x, instObj 111 d) :: (d, rdict w.params l t) :: (l, listOf its.toArray n) :: (oth ++ Z)) ⟨.head _, .tail _ (.head _), .tail _ (.tail _ (.head _)), rg.mono fun a o q => q.imp id fun hp => .tail _ (.tail _ (.tail _ (List.mem_append_right _ hp)))⟩ F N
theorem l_add (X : (L1H.hd.heap_39 w.params).In g) (T : Top p loose mean mg mb g) (F : Fr g L s.heap m) (N : News g L s.heap ((x, instObj 111 d) :: (d, rdict w.params l t) :: (l, listOf its.toArray n) :: (oth ++ Z))) (ho : ∀ p ∈ oth, p.1 ∉ [x, d, l] ∧ NotRng p.2) (offZ : ∀ p ∈ Z, p.1 ∉ x :: d :: l :: oth.map (·.1))
    (rg : RngsP (Src g Z) its rs) (hz : rs.length ≤ 50000) {a b : Int} {ta tb : Tok} (hab : a < b)
    (h : ∀ h' tk its' n' Z', Fr g L h' m → News g L h' ((x, instObj 111 d) :: (d, rdict w.params l t) :: (l, listOf its'.toArray n') :: (oth ++ Z')) → (∀ p ∈ Z', p.1 ∉ x :: d :: l :: oth.map (·.1)) → (∀ a o, Src g Z a o → Src g Z' a o) → RngsP (Src g Z') its' (addL a b rs) → Q .none { s with heap := h', toks := tk })
    (hA : A.depth < 800 := by exact Nat.le_of_ble_eq_true rfl) (hh : A.handled = none := by rfl) :
    wpAny (model prog w) A (call (.ref 38) [.ref x, .int a ta, .int b tb]) Q E s := by
  obtain ⟨r, y⟩ := l_at F N rg
  refine add_spec (base := g) F.keep X T r y hA hh (by rw [y.length]; exact hz) hab fun h' tk its' n' kb r' y' => ?_
  obtain ⟨Z', F', N', o', up, rg'⟩ := l_mut F N ho offZ kb r' y'
  exact h h' tk its' n' Z' F' N' o' up rg'
theorem l_sub (X : (L1H.hd.heap_39 w.params).In g) (T : Top p loose mean mg mb g) (F : Fr g L s.heap m) (N : News g L s.heap ((x, instObj 111 d) :: (d, rdict w.params l t) :: (l, listOf its.toArray n) :: (oth ++ Z))) (ho : ∀ p ∈ oth, p.1 ∉ [x, d, l] ∧ NotRng p.2) (offZ : ∀ p ∈ Z, p.1 ∉ x :: d :: l :: oth.map (·.1))
    (rg : RngsP (Src g Z) its rs) (hz : rs.length ≤ 50000) {a b : Int} {ta tb : Tok} (hab : a < b)
    (h : ∀ h' tk its' n' Z', Fr g L h' m → News g L h' ((x, instObj 111 d) :: (d, rdict w.params l t) :: (l, listOf its'.toArray n') :: (oth ++ Z')) → (∀ p ∈ Z', p.1 ∉ x :: d :: l :: oth.map (·.1)) → (∀ a o, Src g Z a o → Src g Z' a o) → RngsP (Src g Z') its' (subL a b rs) → Q .none { s with heap := h', toks := tk })
    (hA : A.depth < 800 := by exact Nat.le_of_ble_eq_true rfl) (hh : A.handled = none := by rfl) :
    wpAny (model prog w) A (call (.ref 59) [.ref x, .int a ta, .int b tb]) Q E s := by
  obtain ⟨r, y⟩ := l_at F N rg
  refine sub_spec (base := g) F.keep X T r y hA hh (by rw [y.length]; exact hz) hab fun h' tk its' n' kb r' y' => ?_
  obtain ⟨Z', F', N', o', up, rg'⟩ := l_mut F N ho offZ kb r' y'
  exact h h' tk its' n' Z' F' N' o' up rg'
end
theorem l_new {lst : Addr} {vs : List Value} {qs : List (Int × Int)} {kl : Nat} {oth Z : List (Addr × Obj)} {Q : Value → Shared → Prop} (X : (L1H.hd.heap_39 w.params).In g) (T : Top p loose mean mg mb g) (F : Fr g L s.heap m) (N : News g L s.heap (oth ++ Z)) (ho : ∀ p ∈ oth, NotRng p.2) (offZ : ∀ p ∈ Z, p.1 ∉ oth.map (·.1))
    (hl : s.heap.get? lst = some (listOf vs.toArray kl)) (yv : Rngs s.heap vs qs) (hp : RS.Pos qs) (hz : qs.length ≤ 20000)
    (h : ∀ x d l h' tk its n t Z', Fr g L h' m → News g L h' ((x, instObj 111 d) :: (d, rdict w.params l t) :: (l, listOf its.toArray n) :: (oth ++ Z')) → (∀ p ∈ Z', p.1 ∉ x :: d :: l :: oth.map (·.1)) → (∀ a o, Src g Z a o → Src g Z' a o) → RngsP (Src g Z') its (addAll qs []) →
      (∀ p ∈ oth, p.1 ∉ [x, d, l]) → (x ∉ oth.map (·.1) ∧ d ∉ oth.map (·.1) ∧ l ∉ oth.map (·.1)) → Q (.ref x) { s with heap := h', toks := tk })
    (hA : A.depth < 780 := by exact Nat.le_of_ble_eq_true rfl) (hh : A.handled = none := by rfl) :
    wpAny (model prog w) A (call (.ref 111) [.ref lst]) Q E s := by
  refine new_spec (base := g) F.keep X T hl yv hp hA hh (by rw [yv.length]; exact hz) fun x d l h' tk its n t st r y fr => ?_
  obtain ⟨Z', F', N', o', up, rg', h1, h2⟩ := l_born F N ho offZ st r y fr
  exact h x d l h' tk its n t Z' F' N' o' up rg' h1 h2
theorem l_new0 {oth Z : List (Addr × Obj)} {Q : Value → Shared → Prop} (X : (L1H.hd.heap_39 w.params).In g) (T : Top p loose mean mg mb g) (F : Fr g L s.heap m) (N : News g L s.heap (oth ++ Z)) (ho : ∀ p ∈ oth, NotRng p.2) (offZ : ∀ p ∈ Z, p.1 ∉ oth.map (·.1))
    (h : ∀ x d l h' tk its n t Z', Fr g L h' m → News g L h' ((x, instObj 111 d) :: (d, rdict w.params l t) :: (l, listOf its.toArray n) :: (oth ++ Z')) → (∀ p ∈ Z', p.1 ∉ x :: d :: l :: oth.map (·.1)) → (∀ a o, Src g Z a o → Src g Z' a o) → RngsP (Src g Z') its [] →
      (∀ p ∈ oth, p.1 ∉ [x, d, l]) → (x ∉ oth.map (·.1) ∧ d ∉ oth.map (·.1) ∧ l ∉ oth.map (·.1)) → Q (.ref x) { s with heap := h', toks := tk })
    (hA : A.depth < 780 := by exact Nat.le_of_ble_eq_true rfl) (hh : A.handled = none := by rfl) :
    wpAny (model prog w) A (call (.ref 111) []) Q E s := by
  refine new0_spec (base := g) F.keep X T hA hh fun x d l h' tk its n t st r y fr => ?_
  obtain ⟨Z', F', N', o', up, rg', h1, h2⟩ := l_born F N ho offZ st r y fr
  exact h x d l h' tk its n t Z' F' N' o' up rg' h1 h2

end
end L1
end

section
open PySem PySem.W PySem.Calls PyProof.Rows RS
open PySem.SeqAt
set_option maxRecDepth 100000
set_option maxHeartbeats 0
set_option linter.unusedVariables false
namespace L1
theorem warm_lm1 : (fun (_ : OpenLaw) (_ : Params → Frag) => True) PySem.Challenge.rw_lg0001_01 L1H.hd.heap_39 := by w_top off; k_fill; trivial
section
variable {prog : Program} {w : World} {A : Around} {E : Value → Shared → Prop} {s : Shared} {base : Heap} {p : Program} {loose : List Str} {mean : ExcName → Option Value} {mg mb : Str → Option Value}
variable {g : Heap} {L : Addr} {m : Str → Option Value} {news : List (Addr × Obj)}
theorem l_holds {Tw : Addr} {ds : List (Bool × Int × Int)} {Q : Value → Shared → Prop} (X : (L1H.hd.heap_39 w.params).In g) (T : Top p loose mean mg mb g) (F : Fr g L s.heap m) (N : News g L s.heap news)
    (i : InList IsDeed (Src g news) Tw ds) {v : Int} {tv : Tok} (h : ∀ h' tk, Fr g L h' m → News g L h' news → Q (.bool (holds ds v)) { s with heap := h', toks := tk }) (hA : A.depth < 800 := by exact Nat.le_of_ble_eq_true rfl) (hh : A.handled = none := by rfl) :
    wpAny (model prog w) A (call (.ref 122) [.ref Tw, .int v tv]) Q E s := by
  obtain ⟨vs, k, a, b⟩ := i
  exact holds_spec (base := g) F.keep X T (a.here F N fun p hp => hp) (b.mono fun a o q _ => q.here F N fun p hp => hp) hA hh fun h' tk st => h h' tk (F.keeps st) (N.grown st)
theorem l_same {x d l sl : Addr} {its : List Value} {n : Nat} {t : Tok} {rs : List (Int × Int)} {env : Env} {Q : Value → Shared → Prop} (X : (L1H.hd.heap_39 w.params).In g) (T : Top p loose mean mg mb g) (F : Fr g L s.heap m) (N : News g L s.heap news)
    (hI : Unsaid p loose (Str.ofString "IndexError")) (Kb : Below A g [env] s.heap) (hf : env.frame = some L)
    (i : InSet w.params news (Src g news) x d l its n t rs) (j : InList IsPair (Src g news) sl rs) (ne : @Ne Nat sl l) (hz : rs.length ≤ 10000)
    (h : ∀ h' tk, Fr g L h' m → News g L h' news → Q (.bool true) { s with heap := h', toks := tk }) (hA : A.depth < 780 := by exact Nat.le_of_ble_eq_true rfl) (hu : A.units < 4000 := by exact Nat.le_of_ble_eq_true rfl) (hh : A.handled = none := by rfl) :
    wpAny (model prog w) A (call (.ref 139) [.ref x, .ref sl]) Q E s := by
  obtain ⟨vs, k, a, b⟩ := j
  have hsl := a.here F N fun p hp => hp
  have fe : [env].filterMap (·.frame) = [L] := by simp [hf]
  refine same_spec (base := g) (outer := [env]) F.keep X T (i.at F N).1 (i.at F N).2 hsl ne (b.mono fun a o q _ => q.here F N fun p hp => hp) hA hu hh hz Kb hI ?_ ?_
  · rw [fe]
    intro a ha
    rw [List.mem_singleton.mp ha]
    refine ⟨(N _ i.mx).2.1.symm, (N _ i.md).2.1.symm, (N _ i.ml).2.1.symm, ?_, ?_⟩
    · exact fun q => ns_not F.ns hsl (by intro es ep q; cases q) q.symm
    · intro o e
      obtain ⟨o', es, ep, e', hd, _⟩ := F.ns
      rw [e] at e'
      cases e'
      exact ⟨es, ep, hd⟩
  · rw [fe]
    intro h' tk kb u
    obtain ⟨F', N'⟩ := after_same F N kb u
    exact h h' tk F' N'
theorem l_shift {x d l : Addr} {its : List Value} {n : Nat} {t : Tok} {q : Int × Int} {rs : List (Int × Int)} {oth Z : List (Addr × Obj)} {Q : Value → Shared → Prop} (X : (L1H.hd.heap_39 w.params).In g) (T : Top p loose mean mg mb g) (F : Fr g L s.heap m) (N : News g L s.heap ((x, instObj 111 d) :: (d, rdict w.params l t) :: (l, listOf its.toArray n) :: (oth ++ Z))) (ho : ∀ p ∈ oth, p.1 ∉ [x, d, l] ∧ NotRng p.2) (offZ : ∀ p ∈ Z, p.1 ∉ x :: d :: l :: oth.map (·.1))
    (rg : RngsP (Src g Z) its (q :: rs)) (hz : rs.length ≤ 50000)
    (h : ∀ h' tk its' n' Z' r t1 t2 t3, Fr g L h' m → News g L h' ((x, instObj 111 d) :: (d, rdict w.params l t) :: (l, listOf its'.toArray n') :: (oth ++ Z')) → (∀ p ∈ Z', p.1 ∉ x :: d :: l :: oth.map (·.1)) → (∀ a o, Src g Z a o → Src g Z' a o) → RngsP (Src g Z') its' rs → Src g Z' r (rngO q.1 q.2 t1 t2 t3) → Q (.ref r) { s with heap := h', toks := tk })
    (hA : A.depth < 800 := by exact Nat.le_of_ble_eq_true rfl) :
    wpAny (model prog w) A (call (.ref 52) [.ref x]) Q E s := by
  obtain ⟨r, y⟩ := l_at F N rg
  cases rg with
  | @cons a₀ lo hi t1 t2 t3 its₁ _ e rg₁ =>
    cases y with
    | cons e' y₁ =>
      have hlen := rg₁.length
      refine shift_spec (base := g) F.keep X T r hA (by rw [List.length_cons]; omega) fun h' tk kb r' => ?_
      obtain ⟨Z', F', N', o', up, rg'⟩ := l_mut F N ho offZ kb r' (y₁.keeps fun b lo hi t1 t2 t3 eb => kb b _ (by
        simp only [List.mem_cons, List.not_mem_nil, or_false]
        rintro (rfl | rfl | rfl)
        · rw [r.inst] at eb; simp at eb
        · rw [r.dict] at eb; simp at eb
        · rw [r.list] at eb; simp at eb) eb)
      exact h h' tk its₁ _ Z' a₀ _ _ _ F' N' o' up rg' (up _ _ e)
section
variable {x d l : Addr} {its : List Value} {n : Nat} {t : Tok} {rs : List (Int × Int)} {oth Z : List (Addr × Obj)} {Q : Value → Shared → Prop}
theorem l_add1 (X : (L1H.hd.heap_39 w.params).In g) (T : Top p loose mean mg mb g) (F : Fr g L s.heap m) (N : News g L s.heap ((x, instObj 111 d) :: (d, rdict w.params l t) :: (l, listOf its.toArray n) :: (oth ++ Z))) (ho : ∀ p ∈ oth, p.1 ∉ [x, d, l] ∧ NotRng p.2) (offZ : ∀ p ∈ Z, p.1 ∉ x :: d :: l :: oth.map (·.1))
    (rg : RngsP (Src g Z) its rs) (hz : rs.length ≤ 50000) {a b : Int} {ta : Tok} (hab : a + 1 = b)
    (h : ∀ h' tk its' n' Z', Fr g L h' m → News g L h' ((x, instObj 111 d) :: (d, rdict w.params l t) :: (l, listOf its'.toArray n') :: (oth ++ Z')) → (∀ p ∈ Z', p.1 ∉ x :: d :: l :: oth.map (·.1)) → (∀ a o, Src g Z a o → Src g Z' a o) → RngsP (Src g Z') its' (addL a b rs) → Q .none { s with heap := h', toks := tk })
    (hA : A.depth < 800 := by exact Nat.le_of_ble_eq_true rfl) (hh : A.handled = none := by rfl) :
    wpAny (model prog w) A (call (.ref 38) [.ref x, .int a ta]) Q E s := by
  obtain ⟨r, y⟩ := l_at F N rg
  refine add1_spec (base := g) F.keep X T r y hA hh (by rw [y.length]; exact hz) hab fun h' tk its' n' kb r' y' => ?_
  obtain ⟨Z', F', N', o', up, rg'⟩ := l_mut F N ho offZ kb r' y'
  exact h h' tk its' n' Z' F' N' o' up rg'
end

end
end L1
end

section
open PySem PySem.W PySem.Calls PyProof.Rows RS
open PySem.SeqAt
set_option maxRecDepth 100000
set_option maxHeartbeats 0
set_option linter.unusedVariables false
namespace L1
theorem warm_rest : (fun (_ : OpenLaw) (_ : Params → Frag) => True) PySem.Challenge.rw_lg0001_01 L1H.hd.heap_39 := by w_top off; k_fill; trivial
section
variable {prog : Program} {w : World} {A : Around} {E : Value → Shared → Prop} {s : Shared} {base : Heap} {p : Program} {loose : List Str} {mean : ExcName → Option Value} {mg mb : Str → Option Value}
theorem rest_spec {body : List Stmt} {env : Env} {g : Heap} {L f : Addr} {cd : Value} {m : Str → Option Value} {news : List (Addr × Obj)} {BO TO SO x0 d0 l0 x1 d1 l1 T0 T1 S0 S1 xw dw lw Tw : Addr} {kB kT kS n0 n1 nw : Nat} {t0 t1 tw : Tok} {its0 its1 itsw : List Value} {rs0 rs1 rsw : List (Int × Int)} {dsw : List (Bool × Int × Int)} {oC : Obj}
    {wh a b : Int} {twh ta tb : Tok} {Q : Flow → Shared → Prop} (hex : body = dropS 10 (lawTurn w.params)) (henv : env = lawEnv w.params L f cd) (X : (L1H.hd.heap_39 w.params).In g) (T : Top p loose mean mg mb g) (F : Fr g L s.heap m) (N : News g L s.heap news) (hI : Unsaid p loose (Str.ofString "IndexError"))
    (eB : m (Str.ofString "both") = some (.ref BO)) (eT : m (Str.ofString "told") = some (.ref TO)) (eS : m (Str.ofString "spans") = some (.ref SO)) (eW : m (Str.ofString "who") = some (.int wh twh)) (ea : m (Str.ofString "start") = some (.int a ta)) (eb : m (Str.ofString "stop") = some (.int b tb))
    (hB : (BO, listOf #[.ref x0, .ref x1] kB) ∈ news) (hT : (TO, listOf #[.ref T0, .ref T1] kT) ∈ news) (hS : (SO, listOf #[.ref S0, .ref S1] kS) ∈ news)
    (i0 : InSet w.params news (Src g news) x0 d0 l0 its0 n0 t0 rs0) (i1 : InSet w.params news (Src g news) x1 d1 l1 its1 n1 t1 rs1) (iw : InSet w.params news (Src g news) xw dw lw itsw nw tw rsw)
    (s0 : InList IsPair (Src g news) S0 rs0) (s1 : InList IsPair (Src g news) S1 rs1) (dd : InList IsDeed (Src g news) Tw dsw) (same : ∀ v, RS.inR rsw v = holds dsw v)
    (hw : 0 ≤ wh ∧ wh < 2 ^ 63) (hTw : [Value.ref T0, Value.ref T1][wh.toNat]? = some (.ref Tw)) (hC : (L + 1, oC) ∈ news) (hCv : oC.data = .cell (some (.ref xw)))
    (n00 : @Ne Nat S0 l0) (n11 : @Ne Nat S1 l1) (z0 : rs0.length ≤ 1000) (z1 : rs1.length ≤ 1000) (p0 : RS.Pos rs0) (p1 : RS.Pos rs1)
    (h : ∀ h' tk' m', Fr g L h' m' → News g L h' news → m' (Str.ofString "both") = some (.ref BO) → m' (Str.ofString "told") = some (.ref TO) → m' (Str.ofString "spans") = some (.ref SO) → m' (Str.ofString "before") = m (Str.ofString "before") → Q .next { s with heap := h', toks := tk' }) :
    wpAny (model prog w) (callerA.deeper env) (execs body env) Q (fun _ _ => False) s := by
  subst hex henv
  obtain ⟨hb, hs⟩ := fn_of (K := L1H.hd.heap_39 w.params) (a := 144) (by k_is)
  have hkf : (fnScope (L1H.hd.heap_39 w.params) 144).kind = .function := by rw [hs]
  have Kb := fun {h : Heap} {m : Str → Option Value} (F : Fr g L h m) => law_below (P := w.params) (f := f) (cd := cd) F hkf
  unfold lawEnv lawTurn at *
  rw [hb, hs]
  rw [hs] at Kb
  clear hb hs hkf
  dsimp only [nthS, forBody, dropS]
  replace F := fr_know (fr_know (fr_know (fr_know (fr_know (fr_know F (x := Str.ofString "both") eB) (x := Str.ofString "told") eT) (x := Str.ofString "spans") eS) (x := Str.ofString "who") eW) (x := Str.ofString "start") ea) (x := Str.ofString "stop") eb
  k_steps
  refine rs_item (its := [.ref x0, .ref x1]) (n := kB) N hB (by decide) (by decide) rfl ?_
  k_steps
  refine rs_item (its := [.ref S0, .ref S1]) (n := kS) N hS (by decide) (by decide) rfl ?_
  k_steps
  refine l_same X T F N hI (Kb F) rfl i0 s0 n00 (by omega) ?_
  clear F N
  intro h₁ tk₁ F N
  k_steps
  rename Fr _ _ _ _ => F
  rename News _ _ _ _ => N
  refine rs_item (its := [.ref x0, .ref x1]) (n := kB) N hB (by decide) (by decide) rfl ?_
  k_steps
  refine rs_item (its := [.ref S0, .ref S1]) (n := kS) N hS (by decide) (by decide) rfl ?_
  k_steps
  refine l_same X T F N hI (Kb F) rfl i1 s1 n11 (by omega) ?_
  clear F N
  intro h₂ tk₂ F N
  k_steps
  refine wpAny_For ?_
  walk
  rename Fr _ _ _ _ => F
  rename News _ _ _ _ => N
  rename_i Tp h₃ lTp
  dsimp only
  obtain ⟨oT, hoT, N⟩ : ∃ oT : Obj, (oT.cls = .type "tuple" ∧ ∃ t u, oT.data = .seq #[.int (a - 1) t, .int a ta, .int (b - 1) u, .int b tb]) ∧ News g L h₃ ((Tp, oT) :: news) := ⟨_, ⟨rfl, _, _, rfl⟩, N⟩
  obtain ⟨hoc, t₁, t₂, hod⟩ := hoT
  refine for_tuple (vs := [.int (a - 1) t₁, .int a ta, .int (b - 1) t₂, .int b tb]) (fix := [(Tp, oT)]) rfl rfl rfl ⟨oT, N.get (by k_mem), hoc, 0, hod⟩ (N _ (.head _)).2.1 (.inr ⟨_, .head _⟩) F N
    (fun i m' news' => m' (Str.ofString "both") = some (.ref BO) ∧ m' (Str.ofString "told") = some (.ref TO) ∧ m' (Str.ofString "spans") = some (.ref SO) ∧ m' (Str.ofString "who") = some (.int wh twh) ∧ m' (Str.ofString "before") = m (Str.ofString "before") ∧ news' = (Tp, oT) :: news) ?_ ⟨rfl, rfl, rfl, rfl, rfl, rfl⟩ ?_ ?_
  · rintro i m' news' ⟨_, _, _, _, _, rfl⟩ q hq
    rw [List.mem_singleton.mp hq]; exact .head _
  · rintro i v I oI m' news' h₄ tk₄ hoI hi ⟨e1, e2, e3, e4, e5, rfl⟩ hlt off F N
    obtain ⟨nv, tv, rfl⟩ : ∃ nv tv, v = .int nv tv := by
      have := List.mem_of_getElem? hi
      simp only [List.mem_cons, List.not_mem_nil, or_false] at this
      rcases this with rfl | rfl | rfl | rfl <;> exact ⟨_, _, rfl⟩
    replace F := fr_know (fr_know (fr_know (fr_know (fr_know F (x := Str.ofString "both") e1) (x := Str.ofString "told") e2) (x := Str.ofString "spans") e3) (x := Str.ofString "who") e4) (x := Str.ofString "near") rfl
    replace N : News g L h₄ ((L + 1, oC) :: (I, oI) :: (Tp, oT) :: news) := news_cons N (.tail _ (.tail _ hC)) N
    have up : ∀ p ∈ news, p ∈ (L + 1, oC) :: (I, oI) :: (Tp, oT) :: news := fun p hp => .tail _ (.tail _ (.tail _ hp))
    replace F : Fr g L h₄ _ := F
    replace N : News g L h₄ _ := N
    k_steps
    refine l_in X T F N (iw.more up) ?_
    clear F N
    intro h₅ tk₅ F N
    k_steps
    rename Fr _ _ _ _ => F
    rename News _ _ _ _ => N
    refine rs_item (its := [.ref T0, .ref T1]) (n := kT) N (up _ hT) hw.1 hw.2 hTw ?_
    k_steps
    refine l_holds X T F N (dd.mono fun a o q => q.imp id (up _)) ?_
    clear F N
    intro h₆ tk₆ F N
    rw [same]
    k_steps
    · exact absurd (by assumption : (holds dsw nv != holds dsw nv) = true) (by simp)
    exact ⟨_, _, _, _, rfl, F, news_mono N fun p hp => .tail _ hp, off, rfl, rfl, rfl, rfl, e5, rfl⟩
  · rintro m' news' h₄ tk₄ ⟨e1, e2, e3, e4, e5, rfl⟩ F N
    replace F : Fr g L h₄ _ := F
    replace N : News g L h₄ _ := N
    replace F := fr_know (fr_know (fr_know (fr_know F (x := Str.ofString "both") e1) (x := Str.ofString "told") e2) (x := Str.ofString "spans") e3) (x := Str.ofString "who") e4
    have up : ∀ p ∈ news, p ∈ (Tp, oT) :: news := fun p hp => .tail _ hp
    k_steps
    rename Fr _ _ _ _ => F
    rename News _ _ _ _ => N
    refine rs_item (its := [.ref x0, .ref x1]) (n := kB) N (up _ hB) (by decide) (by decide) rfl ?_
    k_steps
    refine rs_item (its := [.ref x0, .ref x1]) (n := kB) N (up _ hB) (by decide) (by decide) rfl ?_
    k_steps
    refine l_eq X T F N (i0.more up) (i1.more up) p0 p1 ?_
    clear F N
    intro h₅ tk₅ F N
    k_steps
    rename Fr _ _ _ _ => F
    rename News _ _ _ _ => N
    refine rs_item (its := [.ref S0, .ref S1]) (n := kS) N (up _ hS) (by decide) (by decide) rfl ?_
    k_steps
    refine rs_item (its := [.ref S0, .ref S1]) (n := kS) N (up _ hS) (by decide) (by decide) rfl ?_
    k_steps
    rename Fr _ _ _ _ => F
    rename News _ _ _ _ => N
    obtain ⟨vs0, q0, a0, y0⟩ := s0
    obtain ⟨vs1, q1, a1, y1⟩ := s1
    refine eq_pairs (vs := vs0) (us := vs1) (rs := rs0) (qs := rs1) ⟨_, a0.here F N up, rfl, _, rfl⟩ (y0.mono fun a o q _ => q.here F N up) ⟨_, a1.here F N up, rfl, _, rfl⟩ (y1.mono fun a o q _ => q.here F N up) (Nat.le_of_ble_eq_true rfl) ?_
    k_steps
    · exact absurd (by assumption : (decide (rs0 = rs1) != decide (rs0 = rs1)) = true) (by simp)
    rename Fr _ _ _ _ => F
    rename News _ _ _ _ => N
    exact h _ _ _ F (news_mono N up) rfl rfl rfl e5

end
end L1
end

section
open PySem PySem.W PySem.Calls PyProof.Rows RS
open PySem.SeqAt
set_option maxRecDepth 100000
set_option maxHeartbeats 0
set_option linter.unusedVariables false
namespace L1
theorem warm_lif : (fun (_ : OpenLaw) (_ : Params → Frag) => True) PySem.Challenge.rw_lg0001_01 L1H.hd.heap_39 := by w_top off; k_fill; trivial
section
variable {prog : Program} {w : World} {A : Around} {E : Value → Shared → Prop} {s : Shared} {base : Heap} {p : Program} {loose : List Str} {mean : ExcName → Option Value} {mg mb : Str → Option Value}
theorem if_spec {st : Stmt} {env : Env} {g : Heap} {L f : Addr} {cd : Value} {m : Str → Option Value} {oth Z : List (Addr × Obj)} {BO TO SO xa da la Sa : Addr} {kS na : Nat} {t : Tok} {itsa sl : List Value} {rsa : List (Int × Int)} {oC : Obj}
    {wh kd a b nb : Int} {twh tkd ta tb tnb : Tok} {sh : Bool} {Q : Flow → Shared → Prop} (hex : st = nthS (lawTurn w.params) 7) (henv : env = lawEnv w.params L f cd) (X : (L1H.hd.heap_39 w.params).In g) (T : Top p loose mean mg mb g) (F : Fr g L s.heap m) (N : News g L s.heap ((xa, instObj 111 da) :: (da, rdict w.params la t) :: (la, listOf itsa.toArray na) :: (oth ++ Z)))
    (eB : m (Str.ofString "both") = some (.ref BO)) (eT : m (Str.ofString "told") = some (.ref TO)) (eS : m (Str.ofString "spans") = some (.ref SO)) (eW : m (Str.ofString "who") = some (.int wh twh)) (ek : m (Str.ofString "kind") = some (.int kd tkd)) (ea : m (Str.ofString "start") = some (.int a ta)) (eb : m (Str.ofString "stop") = some (.int b tb)) (esh : m (Str.ofString "shifts") = some (.bool sh)) (ebf : m (Str.ofString "before") = some (.int nb tnb))
    (ho : ∀ p ∈ oth, p.1 ∉ [xa, da, la] ∧ NotRng p.2) (offZ : ∀ p ∈ Z, p.1 ∉ xa :: da :: la :: oth.map (·.1)) (rg : RngsP (Src g Z) itsa rsa) (can : Canon rsa) (hz : rsa.length ≤ 1000)
    (hS : (SO, listOf sl.toArray kS) ∈ oth) (hSw : sl[wh.toNat]? = some (.ref Sa)) (hw : 0 ≤ wh ∧ wh < 2 ^ 63) (sp : InList IsPair (Src g Z) Sa rsa) (hC : (L + 1, oC) ∈ oth) (hCv : oC.data = .cell (some (.ref xa)))
    (hab : a < b) (hkd : 0 ≤ kd ∧ kd ≤ 3) (hsh : sh = true → kd = 3 ∧ rsa ≠ [])
    (h : ∀ h' tk' m' its' n' rs' a' b' ta' tb' Z', Fr g L h' m' → News g L h' ((xa, instObj 111 da) :: (da, rdict w.params la t) :: (la, listOf its'.toArray n') :: (oth ++ Z')) → (∀ p ∈ Z', p.1 ∉ xa :: da :: la :: oth.map (·.1)) → (∀ a o, Src g Z a o → Src g Z' a o) → RngsP (Src g Z') its' rs' → Canon rs' → rs'.length ≤ rsa.length + 1 →
      (∀ v, RS.inR rs' v = if a' ≤ v ∧ v < b' then (decide (kd ≠ 2) && !sh) else RS.inR rsa v) →
      m' (Str.ofString "both") = some (.ref BO) → m' (Str.ofString "told") = some (.ref TO) → m' (Str.ofString "spans") = some (.ref SO) → m' (Str.ofString "who") = some (.int wh twh) → m' (Str.ofString "kind") = some (.int kd tkd) → m' (Str.ofString "start") = some (.int a' ta') → m' (Str.ofString "stop") = some (.int b' tb') → m' (Str.ofString "shifts") = some (.bool sh) → m' (Str.ofString "before") = some (.int nb tnb) →
      Q .next { s with heap := h', toks := tk' }) :
    wpAny (model prog w) (callerA.deeper env) (exec st env) Q (fun _ _ => False) s := by
  subst hex henv
  obtain ⟨hb, hs⟩ := fn_of (K := L1H.hd.heap_39 w.params) (a := 144) (by k_is)
  obtain ⟨hp₀, gn₀, dr₀, tk₀, os₀⟩ := s
  dsimp only at F N h
  unfold lawEnv lawTurn at *
  rw [hb, hs]
  clear hb hs
  dsimp only [nthS, forBody, dropS]
  replace F := fr_know (fr_know (fr_know (fr_know (fr_know (fr_know (fr_know (fr_know (fr_know F (x := Str.ofString "both") eB) (x := Str.ofString "told") eT) (x := Str.ofString "spans") eS) (x := Str.ofString "who") eW) (x := Str.ofString "kind") ek) (x := Str.ofString "start") ea) (x := Str.ofString "stop") eb) (x := Str.ofString "shifts") esh) (x := Str.ofString "before") ebf
  have hC' : (L + 1, oC) ∈ (xa, instObj 111 da) :: (da, rdict w.params la t) :: (la, listOf itsa.toArray na) :: (oth ++ Z) := .tail _ (.tail _ (.tail _ (List.mem_append_left _ hC)))
  replace N := news_cons N hC' N
  walk
  all_goals (rename Fr _ _ _ _ => F; rename News _ _ _ _ => N; replace N := news_mono N fun p hp => List.Mem.tail _ hp)
  · refine l_add (A := callerA.deeper _) (s := { heap := _, gens := gn₀, drawn := dr₀, toks := _, os := os₀ }) X T F N ho offZ rg (by omega) hab ?_
    clear F N
    intro h₁ tk₁ its' n' Z' F N off' up rg'
    walk
    rename Fr _ _ _ _ => F
    rename News _ _ _ _ => N
    have hs' : sh = false := by cases sh with
      | false => rfl
      | true => have := (hsh rfl).1; omega
    subst hs'
    refine h _ _ _ _ _ _ _ _ _ _ _ F N off' up rg' (addL_canon hab can) (addL_len _ _ _) (fun v => ?_) rfl rfl rfl rfl rfl rfl rfl rfl rfl
    rw [in_add hab can, decide_eq_true (show kd ≠ 2 by omega)]; rfl
  · rename kd = 2 => hk2
    refine l_sub (A := callerA.deeper _) (s := { heap := _, gens := gn₀, drawn := dr₀, toks := _, os := os₀ }) X T F N ho offZ rg (by omega) hab ?_
    clear F N
    intro h₁ tk₁ its' n' Z' F N off' up rg'
    walk
    rename Fr _ _ _ _ => F
    rename News _ _ _ _ => N
    refine h _ _ _ _ _ _ _ _ _ _ _ F N off' up rg' (subL_canon hab can) (subL_len _ _ _) (fun v => ?_) rfl rfl rfl rfl rfl rfl rfl rfl rfl
    rw [in_sub hab can, decide_eq_false (show ¬ kd ≠ 2 by omega)]; rfl
  · rename sh = true => hs1
    subst hs1
    have hk3 := (hsh rfl).1
    obtain ⟨q, qs, rfl⟩ : ∃ q qs, rsa = q :: qs := by
      cases rsa with
      | nil => exact absurd rfl (hsh rfl).2
      | cons q qs => exact ⟨q, qs, rfl⟩
    rw [List.length_cons] at hz
    dsimp only
    refine l_shift (A := callerA.deeper _) (s := { heap := _, gens := gn₀, drawn := dr₀, toks := _, os := os₀ }) X T F N ho offZ rg (by omega) ?_
    clear F N
    intro h₁ tk₁ its' n' Z' r t1 t2 t3 F N off' up rg' sr
    obtain ⟨vs, kk, aS, yS⟩ := sp
    obtain ⟨T₀, o₀, hT₀, sT₀, t₀, u₀, rfl⟩ := yS.at (i := 0) rfl
    have hup : ∀ p ∈ Z', p ∈ (xa, instObj 111 da) :: (da, rdict w.params la t) :: (la, listOf its'.toArray n') :: (oth ++ Z') := fun p hp => .tail _ (.tail _ (.tail _ (List.mem_append_right _ hp)))
    walk
    rename Fr _ _ _ _ => F
    rename News _ _ _ _ => N
    refine rs_item (its := sl) (n := kS) N (.tail _ (.tail _ (.tail _ (List.mem_append_left _ hS)))) hw.1 hw.2 hSw ?_
    walk
    rename Fr _ _ _ _ => F
    rename News _ _ _ _ => N
    refine l_item (its := vs) ((up _ _ aS).here F N hup) (by decide) (by decide) (by simpa using hT₀) ?_
    dsimp only
    refine assigns2 (Pt := fun v => v = #[.int q.1 t₀, .int q.2 u₀]) rfl rfl rfl rfl (fun v hv => ⟨_, _, hv⟩) g _ T₀ _ _ _ rfl ⟨_, (up _ _ sT₀).here F N hup, rfl, 0, rfl⟩ F ?_
    intro h₂ tk₂ k₂ F₂
    replace N : News g L h₂ _ := fun p hp => ⟨k₂ _ _ (N p hp).2.1 (N p hp).1, (N p hp).2⟩
    clear F
    have F : Fr g L h₂ (fun z => if z = Str.ofString "stop" then some (.int q.2 u₀) else if z = Str.ofString "start" then some (.int q.1 t₀) else _) := F₂
    clear F₂ k₂
    walk
    rename Fr _ _ _ _ => F
    rename News _ _ _ _ => N
    refine ne_pair (p := q) (q := q) (N.get (by k_mem)) ⟨_, _, rfl⟩ (N.get (by k_mem)) ⟨_, _, rfl⟩ (Nat.le_of_ble_eq_true rfl) ?_
    rw [decide_eq_true rfl]
    walk
    rename Fr _ _ _ _ => F
    rename News _ _ _ _ => N
    refine h _ _ _ _ _ _ _ _ _ _ _ F (news_mono N fun p hp => .tail _ (.tail _ hp)) off' up rg' (canon_tail can).1 (by rw [List.length_cons]; omega) (fun v => ?_) rfl rfl rfl rfl rfl rfl rfl rfl rfl
    rw [in_tail can, Bool.not_true, Bool.and_false]
  · refine l_add1 (A := callerA.deeper _) (s := { heap := _, gens := gn₀, drawn := dr₀, toks := _, os := os₀ }) X T F N ho offZ rg (by omega) (a := a) (b := a + 1) rfl ?_
    clear F N
    intro h₁ tk₁ its' n' Z' F N off' up rg'
    walk
    rename Fr _ _ _ _ => F
    rename News _ _ _ _ => N
    rename sh = false => hs'
    subst hs'
    have hab' : a < a + 1 := by omega
    refine h _ _ _ _ _ _ _ _ _ _ _ F N off' up rg' (addL_canon hab' can) (addL_len _ _ _) (fun v => ?_) rfl rfl rfl rfl rfl rfl rfl rfl rfl
    rw [in_add hab' can, decide_eq_true (by assumption)]; rfl

end
end L1
end

section
open PySem PySem.W PySem.Calls PyProof.Rows RS
open PySem.SeqAt
set_option maxRecDepth 100000
set_option maxHeartbeats 0
set_option linter.unusedVariables false
namespace L1
theorem warm_shf : (fun (_ : OpenLaw) (_ : Params → Frag) => True) PySem.Challenge.rw_lg0001_01 L1H.hd.heap_39 := by w_top off; k_fill; trivial
section
variable {prog : Program} {w : World} {A : Around} {E : Value → Shared → Prop} {s : Shared} {base : Heap} {p : Program} {loose : List Str} {mean : ExcName → Option Value} {mg mb : Str → Option Value}
theorem sh_spec {ex : PySem.Expr} {env : Env} {g : Heap} {L f : Addr} {cd : Value} {m : Str → Option Value} {news : List (Addr × Obj)} {SO Sa : Addr} {kS : Nat} {sl : List Value} {rsa : List (Int × Int)}
    {wh kd bf : Int} {twh tkd tbf : Tok} {Q : Value → Shared → Prop} (hex : ex = rhsOf (nthS (lawTurn w.params) 4)) (henv : env = lawEnv w.params L f cd) (X : (L1H.hd.heap_39 w.params).In g) (T : Top p loose mean mg mb g) (F : Fr g L s.heap m) (N : News g L s.heap news)
    (eS : m (Str.ofString "spans") = some (.ref SO)) (eW : m (Str.ofString "who") = some (.int wh twh)) (ek : m (Str.ofString "kind") = some (.int kd tkd)) (eb : m (Str.ofString "before") = some (.int bf tbf))
    (hS : (SO, listOf sl.toArray kS) ∈ news) (hSw : sl[wh.toNat]? = some (.ref Sa)) (hw : 0 ≤ wh ∧ wh < 2 ^ 63) (sp : InList IsPair (Src g news) Sa rsa)
    (h : ∀ h' tk' sh, Fr g L h' m → News g L h' news → (sh = true → kd = 3 ∧ rsa ≠ []) → Q (.bool sh) { s with heap := h', toks := tk' }) :
    wpAny (model prog w) (callerA.deeper env) (eval ex env) Q (fun _ _ => False) s := by
  subst hex henv
  obtain ⟨hb, hs⟩ := fn_of (K := L1H.hd.heap_39 w.params) (a := 144) (by k_is)
  obtain ⟨hp₀, gn₀, dr₀, tk₀, os₀⟩ := s
  dsimp only at F N h
  unfold lawEnv lawTurn at *
  rw [hb, hs]
  clear hb hs
  dsimp only [nthS, forBody, rhsOf]
  have F0 := F
  replace F := fr_know (fr_know (fr_know (fr_know F (x := Str.ofString "spans") eS) (x := Str.ofString "who") eW) (x := Str.ofString "kind") ek) (x := Str.ofString "before") eb
  walk
  · dsimp only
    refine rs_item (its := sl) (n := kS) N hS hw.1 hw.2 hSw ?_
    walk
    rename Fr _ _ _ _ => F
    rename News _ _ _ _ => N
    rename_i De _ _
    obtain ⟨vs, kk, aS, yS⟩ := sp
    have up : ∀ p ∈ news, p ∈ (De, listOf #[] 0) :: news := fun p hp => .tail _ hp
    refine ne_pairs (vs := vs) (us := []) (rs := rsa) (qs := []) ⟨_, aS.here F N up, rfl, _, rfl⟩ (yS.mono fun a o q _ => q.here F N up) ⟨_, N.get (by k_mem), rfl, _, rfl⟩ .nil (Nat.le_of_ble_eq_true rfl) ?_
    refine h _ _ _ (fr_drop (fr_drop (fr_drop (fr_drop F ?_) ?_) ?_) ?_) (news_mono N up) ?_
    all_goals first | assumption | skip
    exact fun e => ⟨by assumption, by simpa using e⟩
  · exact h _ _ _ F0 N fun e => absurd (by simpa using e) (by assumption)
  · exact h _ _ _ F0 N fun e => absurd (by simpa using e) (by assumption)

end
end L1
end

section
open PySem PySem.W PySem.Calls PyProof.Rows RS
open PySem.SeqAt
set_option maxRecDepth 100000
set_option maxHeartbeats 0
set_option linter.unusedVariables false
namespace L1
theorem warm_lawturn : (fun (_ : OpenLaw) (_ : Params → Frag) => True) PySem.Challenge.rw_lg0001_01 L1H.hd.heap_39 := by w_top off; k_fill; trivial
section
variable {prog : Program} {w : World} {A : Around} {E : Value → Shared → Prop} {s : Shared} {base : Heap} {p : Program} {loose : List Str} {mean : ExcName → Option Value} {mg mb : Str → Option Value}
local macro_rules | `(tactic| k_steps) => `(tactic| repeat' (first | (k_unfold; (try dsimp only)) | ((fail_if_success (with_reducible (apply stoppedN; constructor))); (fail_if_success (with_reducible (apply stoppedL; constructor))); (fail_if_success (with_reducible (apply stopped; constructor))); (first | walk1 | (dsimp only; walk1)))))
theorem turn_gen {body : List Stmt} {env : Env} {g : Heap} {L f : Addr} {cd : Value} {m : Str → Option Value} {Z : List (Addr × Obj)} {BO TO SO xa da la xb db lb Ta Tb Sa Sb I D : Addr} {kB kT kS na nb : Nat} {t t' : Tok} {itsa itsb bl tl sl : List Value} {rsa rsb : List (Int × Int)} {dsa : List (Bool × Int × Int)} {oC oI oD : Obj} {cv : Option Value}
    {wh bf nv : Int} {twh tbf tnv : Tok} {Q : Flow → Shared → Prop} (hex : body = dropS 1 (lawTurn w.params)) (henv : env = lawEnv w.params L f cd) (X : (L1H.hd.heap_39 w.params).In g) (T : Top p loose mean mg mb g) (hI : Unsaid p loose (Str.ofString "IndexError")) (F : Fr g L s.heap m)
    (N : News g L s.heap ((xa, instObj 111 da) :: (da, rdict w.params la t) :: (la, listOf itsa.toArray na) :: (L + 1, oC) :: (TO, listOf tl.toArray kT) :: (SO, listOf sl.toArray kS) :: (I, oI) :: (BO, listOf bl.toArray kB) :: (xb, instObj 111 db) :: (db, rdict w.params lb t') :: (lb, listOf itsb.toArray nb) :: (D, oD) :: Z))
    (eB : m (Str.ofString "both") = some (.ref BO)) (eT : m (Str.ofString "told") = some (.ref TO)) (eS : m (Str.ofString "spans") = some (.ref SO)) (eW : m (Str.ofString "who") = some (.int wh twh)) (ebf : m (Str.ofString "before") = some (.int bf tbf)) (enu : m (Str.ofString "number") = some (.int nv tnv))
    (hwh : wh = 0 ∧ bl = [.ref xa, .ref xb] ∧ tl = [.ref Ta, .ref Tb] ∧ sl = [.ref Sa, .ref Sb] ∨ wh = 1 ∧ bl = [.ref xb, .ref xa] ∧ tl = [.ref Tb, .ref Ta] ∧ sl = [.ref Sb, .ref Sa])
    (nC : L + 1 ∉ [xa, da, la, TO, SO, I, BO, xb, db, lb, D]) (nT : TO ∉ [xa, da, la, L + 1, SO, I, BO, xb, db, lb, D]) (nS : SO ∉ [xa, da, la, L + 1, TO, I, BO, xb, db, lb, D]) (nW : ∀ a ∈ [L + 1, TO, SO, I, BO, xb, db, lb, D], a ∉ [xa, da, la])
    (offZ : ∀ p ∈ Z, p.1 ∉ [xa, da, la, L + 1, TO, SO, I, BO, xb, db, lb, D]) (hoC : oC.data = .cell cv) (hoI : oI.cls = .type "list_iterator") (hoD : oD.cls = .type "list")
    (rga : RngsP (Src g Z) itsa rsa) (rgb : RngsP (Src g Z) itsb rsb) (cana : Canon rsa) (canb : Canon rsb) (hza : rsa.length ≤ 100) (hzb : rsb.length ≤ 100) (hzd : dsa.length ≤ 30)
    (spa : InList IsPair (Src g Z) Sa rsa) (spb : InList IsPair (Src g Z) Sb rsb) (dea : InList IsDeed (Src g Z) Ta dsa) (same : ∀ v, RS.inR rsa v = holds dsa v)
    (h : ∀ h' tk' m' its' n' rs' ds' T' S' oC' cv' Z' bf' tb', Fr g L h' m' → News g L h' ((xa, instObj 111 da) :: (da, rdict w.params la t) :: (la, listOf (List.toArray its') n') :: (L + 1, oC') :: (TO, listOf (tl.set wh.toNat (.ref T')).toArray kT) :: (SO, listOf (sl.set wh.toNat (.ref S')).toArray kS) :: (I, oI) :: (BO, listOf bl.toArray kB) :: (xb, instObj 111 db) :: (db, rdict w.params lb t') :: (lb, listOf itsb.toArray nb) :: (D, oD) :: Z') →
      (∀ p ∈ Z', p.1 ∉ [xa, da, la, L + 1, TO, SO, I, BO, xb, db, lb, D]) → oC'.data = .cell cv' → (∀ a o, Src g Z a o → Src g Z' a o) → RngsP (Src g Z') its' rs' → Canon rs' → rs'.length ≤ rsa.length + 1 → InList IsPair (Src g Z') S' rs' → InList IsDeed (Src g Z') T' ds' → ds'.length ≤ dsa.length + 1 → (∀ v, RS.inR rs' v = holds ds' v) →
      m' (Str.ofString "both") = some (.ref BO) → m' (Str.ofString "told") = some (.ref TO) → m' (Str.ofString "spans") = some (.ref SO) → m' (Str.ofString "before") = some (.int bf' tb') → Q .next { s with heap := h', toks := tk' }) :
    wpAny (model prog w) (callerA.deeper env) (execs body env) Q (fun _ _ => False) s := by
  subst hex henv
  obtain ⟨hb, hs⟩ := fn_of (K := L1H.hd.heap_39 w.params) (a := 144) (by k_is)
  obtain ⟨hp₀, gn₀, dr₀, tk₀, os₀⟩ := s
  dsimp only at F N h
  have hw : 0 ≤ wh ∧ wh < 2 ^ 63 := by rcases hwh with ⟨rfl, _⟩ | ⟨rfl, _⟩ <;> decide
  have hbl : bl[wh.toNat]? = some (.ref xa) := by rcases hwh with ⟨rfl, rfl, _⟩ | ⟨rfl, rfl, _⟩ <;> rfl
  have htl : tl[wh.toNat]? = some (.ref Ta) := by rcases hwh with ⟨rfl, _, rfl, _⟩ | ⟨rfl, _, rfl, _⟩ <;> rfl
  have hsl : sl[wh.toNat]? = some (.ref Sa) := by rcases hwh with ⟨rfl, _, _, rfl⟩ | ⟨rfl, _, _, rfl⟩ <;> rfl
  unfold lawEnv lawTurn at *
  rw [hb, hs]
  clear hb hs
  dsimp only [nthS, forBody, dropS]
  replace F := fr_know (fr_know (fr_know (fr_know (fr_know (fr_know F (x := Str.ofString "both") eB) (x := Str.ofString "told") eT) (x := Str.ofString "spans") eS) (x := Str.ofString "who") eW) (x := Str.ofString "before") ebf) (x := Str.ofString "number") enu
  k_steps
  rename Fr _ _ _ _ => F
  rename News _ _ _ _ => N
  obtain ⟨tkd, ta, tb, F⟩ : ∃ tkd ta tb, Fr g L _ (fun y => if y = Str.ofString "stop" then some (.int (nv.fdiv 4 + 1 + (if bf < 0 then -bf else bf).fdiv 16) tb) else if y = Str.ofString "start" then some (.int (nv.fdiv 4) ta) else if y = Str.ofString "kind" then some (.int (nv.fmod 4) tkd) else if y = Str.ofString "number" then some (.int nv tnv) else if y = Str.ofString "before" then some (.int bf tbf) else if y = Str.ofString "who" then some (.int wh twh) else if y = Str.ofString "spans" then some (.ref SO) else if y = Str.ofString "told" then some (.ref TO) else if y = Str.ofString "both" then some (.ref BO) else m y) := ⟨_, _, _, F⟩
  have hkd : 0 ≤ nv.fmod 4 ∧ nv.fmod 4 ≤ 3 := by rw [Int.fmod_eq_emod_of_nonneg _ (by decide)]; omega
  have hab : nv.fdiv 4 < nv.fdiv 4 + 1 + (if bf < 0 then -bf else bf).fdiv 16 := by
    have : 0 ≤ (if bf < 0 then -bf else bf).fdiv 16 := Int.fdiv_nonneg (by split <;> omega) (by decide)
    omega
  generalize nv.fmod 4 = kd at F hkd
  generalize (nv.fdiv 4 + 1 + (if bf < 0 then -bf else bf).fdiv 16) = b at F hab
  generalize nv.fdiv 4 = a at F hab
  dsimp only
  have hup : ∀ p ∈ Z, p ∈ (xa, instObj 111 da) :: (da, rdict w.params la t) :: (la, listOf itsa.toArray na) :: (L + 1, oC) :: (TO, listOf tl.toArray kT) :: (SO, listOf sl.toArray kS) :: (I, oI) :: (BO, listOf bl.toArray kB) :: (xb, instObj 111 db) :: (db, rdict w.params lb t') :: (lb, listOf itsb.toArray nb) :: (D, oD) :: Z := fun p hp => dropL_mem (n := 12) hp
  refine sh_spec (f := f) (cd := cd) (sl := sl) (kS := kS) (by obtain ⟨hb, _⟩ := fn_of (K := L1H.hd.heap_39 w.params) (a := 144) (by k_is); (first | unfold lawTurn | unfold lawTwo | unfold lawT2 | unfold lawV2 lawW2 | unfold lawW2 | skip); first | (rw [hb]; done) | (rw [hb]; rfl)) (by obtain ⟨_, hs⟩ := fn_of (K := L1H.hd.heap_39 w.params) (a := 144) (by k_is); unfold lawEnv; first | (rw [hs]; done) | (rw [hs]; rfl)) X T F N rfl rfl rfl rfl (by k_mem) hsl hw (spa.mono fun a o q => q.imp id (hup _)) ?_
  clear F N hup
  intro h₁ tk₁ sh F N hsh
  k_steps
  rename Fr _ _ _ _ => F
  rename News _ _ _ _ => N
  refine rs_item (its := bl) (n := kB) N (by k_mem) hw.1 hw.2 hbl ?_
  k_steps
  rename Fr _ _ _ _ => F
  rename News _ _ _ _ => N
  have N1 : News g L _ ((L + 1, oC) :: (xa, instObj 111 da) :: (da, rdict w.params la t) :: (la, listOf itsa.toArray na) :: (TO, listOf tl.toArray kT) :: (SO, listOf sl.toArray kS) :: (I, oI) :: (BO, listOf bl.toArray kB) :: (xb, instObj 111 db) :: (db, rdict w.params lb t') :: (lb, listOf itsb.toArray nb) :: (D, oD) :: Z) := news_pick N [3, 0, 1, 2, 4, 5, 6, 7, 8, 9, 10, 11] 12 rfl
  refine storeX_C (c := L + 1) (cl := [(Str.ofString "ranges", L + 1)]) F N1 rfl (.head (ne_led 11 3 nC rfl rfl offZ rfl)) hoC ?_
  clear F N N1 hoC
  intro h₂ oC' F N hoC'
  k_steps
  rename Fr _ _ _ _ => F
  rename News _ _ _ _ => N
  refine if_spec (f := f) (cd := cd) (s := { heap := _, gens := gn₀, drawn := dr₀, toks := _, os := os₀ }) (oth := (L + 1, oC') :: (TO, listOf tl.toArray kT) :: (SO, listOf sl.toArray kS) :: (I, oI) :: (BO, listOf bl.toArray kB) :: (xb, instObj 111 db) :: (db, rdict w.params lb t') :: (lb, listOf itsb.toArray nb) :: (D, oD) :: []) (sl := sl) (kS := kS) (by obtain ⟨hb, _⟩ := fn_of (K := L1H.hd.heap_39 w.params) (a := 144) (by k_is); (first | unfold lawTurn | unfold lawTwo | unfold lawT2 | unfold lawV2 lawW2 | unfold lawW2 | skip); first | (rw [hb]; done) | (rw [hb]; rfl)) (by obtain ⟨_, hs⟩ := fn_of (K := L1H.hd.heap_39 w.params) (a := 144) (by k_is); unfold lawEnv; first | (rw [hs]; done) | (rw [hs]; rfl)) X T F (news_pick N [1, 2, 3, 0, 4, 5, 6, 7, 8, 9, 10, 11] 12 rfl) rfl rfl rfl rfl rfl rfl rfl rfl rfl ?_ offZ rga cana (by omega) (by k_mem) hsl hw spa (by k_mem) hoC' hab hkd hsh ?_
  · exact allC ⟨nW _ (nthO_mem (i := 0) rfl), notRng_cell hoC'⟩ (allC ⟨nW _ (nthO_mem (i := 1) rfl), notRng_list⟩ (allC ⟨nW _ (nthO_mem (i := 2) rfl), notRng_list⟩ (allC ⟨nW _ (nthO_mem (i := 3) rfl), notRng_cls hoI⟩ (allC ⟨nW _ (nthO_mem (i := 4) rfl), notRng_list⟩ (allC ⟨nW _ (nthO_mem (i := 5) rfl), notRng_inst⟩ (allC ⟨nW _ (nthO_mem (i := 6) rfl), notRng_dict⟩ (allC ⟨nW _ (nthO_mem (i := 7) rfl), notRng_list⟩ (allC ⟨nW _ (nthO_mem (i := 8) rfl), notRng_cls hoD⟩ allN))))))))
  clear F N
  intro h₃ tk₃ m₃ its' n' rs' a' b' ta' tb' Z' F N offZ' up rga' cana' hzr hrs e1 e2 e3 e4 e5 e6 e7 e8 e9
  replace rgb := rgb.mono up
  replace spa := spa.mono up
  replace spb := spb.mono up
  replace dea := dea.mono up
  replace h := fun h' tk' m' its' n' rs' ds' T' S' oC' cv' Z'' bf' tb' F N o c (u : ∀ a o, Src g Z' a o → Src g Z'' a o) => h h' tk' m' its' n' rs' ds' T' S' oC' cv' Z'' bf' tb' F N o c fun a o q => u a o (up a o q)
  replace N : News g L h₃ ((xa, instObj 111 da) :: (da, rdict w.params la t) :: (la, listOf its'.toArray n') :: (L + 1, oC') :: (TO, listOf tl.toArray kT) :: (SO, listOf sl.toArray kS) :: (I, oI) :: (BO, listOf bl.toArray kB) :: (xb, instObj 111 db) :: (db, rdict w.params lb t') :: (lb, listOf itsb.toArray nb) :: (D, oD) :: Z') := N
  replace offZ : ∀ p ∈ Z', p.1 ∉ [xa, da, la, L + 1, TO, SO, I, BO, xb, db, lb, D] := offZ'
  clear offZ' up
  replace F := fr_know (fr_know (fr_know (fr_know (fr_know (fr_know (fr_know (fr_know (fr_know F (x := Str.ofString "both") e1) (x := Str.ofString "told") e2) (x := Str.ofString "spans") e3) (x := Str.ofString "who") e4) (x := Str.ofString "kind") e5) (x := Str.ofString "start") e6) (x := Str.ofString "stop") e7) (x := Str.ofString "shifts") e8) (x := Str.ofString "before") e9
  k_steps
  refine wpAny_mono (Q := BVal (decide (kd ≠ 2) && !sh) { heap := h₃, gens := gn₀, drawn := dr₀, toks := 0, os := os₀ }) ?_ ?_ fun _ _ x => x
  · walk
    · refine ⟨?_, _, rfl⟩
      rw [decide_eq_true (by assumption), Bool.true_and]
    · refine ⟨?_, _, rfl⟩
      rw [decide_eq_false (fun q => q (by assumption)), Bool.false_and, show kd = 2 from by assumption]; rfl
  rintro v s' ⟨rfl, tk', rfl⟩
  walk
  rename Fr _ _ _ _ => F
  rename News _ _ _ _ => N
  rename_i Tp _ _ La _ lLa
  obtain ⟨vsd, kdd, aT, yT⟩ := id dea
  refine rs_item (its := tl) (n := kT) N (by k_mem) hw.1 hw.2 htl ?_
  dsimp only
  have hup : ∀ p ∈ Z', p ∈ (La, listOf #[.ref Tp] 0) :: (Tp, tupO [.bool (decide (kd ≠ 2) && !sh), .int a' ta', .int b' tb']) :: (xa, instObj 111 da) :: (da, rdict w.params la t) :: (la, listOf its'.toArray n') :: (L + 1, oC') :: (TO, listOf tl.toArray kT) :: (SO, listOf sl.toArray kS) :: (I, oI) :: (BO, listOf bl.toArray kB) :: (xb, instObj 111 db) :: (db, rdict w.params lb t') :: (lb, listOf itsb.toArray nb) :: (D, oD) :: Z' := fun p hp => dropL_mem (n := 14) hp
  refine kmk_add_lit (zs := .ref Tp :: vsd) F N ⟨_, N.get (by k_mem), rfl, _, rfl⟩ ⟨_, aT.here F N hup, rfl, _, rfl⟩ (by simp) ?_ (by simp [yT.length, sizeLine_eq]; omega)
  clear F N hup
  intro Tn h₄ F N lTn
  obtain ⟨Z₂, N, offZ₂, up, sTn, sTp⟩ : ∃ Z₂, News g L h₄ ((xa, instObj 111 da) :: (da, rdict w.params la t) :: (la, listOf its'.toArray n') :: (L + 1, oC') :: (TO, listOf tl.toArray kT) :: (SO, listOf sl.toArray kS) :: (I, oI) :: (BO, listOf bl.toArray kB) :: (xb, instObj 111 db) :: (db, rdict w.params lb t') :: (lb, listOf itsb.toArray nb) :: (D, oD) :: Z₂) ∧ (∀ p ∈ Z₂, p.1 ∉ [xa, da, la, L + 1, TO, SO, I, BO, xb, db, lb, D]) ∧ (∀ a o, Src g Z' a o → Src g Z₂ a o) ∧ Src g Z₂ Tn (listOf (Value.ref Tp :: vsd).toArray 0) ∧ Src g Z₂ Tp (tupO [.bool (decide (kd ≠ 2) && !sh), .int a' ta', .int b' tb']) := by
    rename xa < Tp ∧ _ => l1
    refine ⟨(Tn, listOf (Value.ref Tp :: vsd).toArray 0) :: (Tp, tupO [.bool (decide (kd ≠ 2) && !sh), .int a' ta', .int b' tb']) :: Z', news_pick N [3, 4, 5, 6, 7, 8, 9, 10, 11, 12, 13, 14, 0, 2] 15 rfl, allC (off_lt lTn [2, 3, 4, 5, 6, 7, 8, 9, 10, 11, 12, 13] rfl) (allC (off_lt (allLt_all (l := (xa, oD) :: (da, oD) :: (la, oD) :: (L + 1, oD) :: (TO, oD) :: (SO, oD) :: (I, oD) :: (BO, oD) :: (xb, oD) :: (db, oD) :: (lb, oD) :: (D, oD) :: []) (lt12 l1)) [0, 1, 2, 3, 4, 5, 6, 7, 8, 9, 10, 11] rfl) offZ), fun a o q => q.imp id fun q => .tail _ (.tail _ q), .inr (.head _), .inr (.tail _ (.head _))⟩
  clear offZ lTn
  have dean : InList IsDeed (Src g Z₂) Tn ((decide (kd ≠ 2) && !sh, a', b') :: dsa) := ⟨_, _, sTn, .cons sTp ⟨_, _, rfl⟩ (yT.mono fun a o q _ => up a o q)⟩
  clear dea aT yT sTn sTp
  walk
  rename Fr _ _ _ _ => F
  rename News _ _ _ _ => N
  have N1 : News g L _ ((TO, listOf tl.toArray kT) :: (xa, instObj 111 da) :: (da, rdict w.params la t) :: (la, listOf its'.toArray n') :: (L + 1, oC') :: (SO, listOf sl.toArray kS) :: (I, oI) :: (BO, listOf bl.toArray kB) :: (xb, instObj 111 db) :: (db, rdict w.params lb t') :: (lb, listOf itsb.toArray nb) :: (D, oD) :: Z₂) := news_pick N [4, 0, 1, 2, 3, 5, 6, 7, 8, 9, 10, 11] 12 rfl
  have hl2 : tl.length = 2 ∧ sl.length = 2 ∧ wh.toNat < 2 ∧ wh < 2 := by rcases hwh with ⟨rfl, _, rfl, rfl⟩ | ⟨rfl, _, rfl, rfl⟩ <;> exact ⟨rfl, rfl, by decide, by decide⟩
  refine rs_set (its := tl) (n := kT) F N1 hw.1 hw.2 (by omega) (.head (ne_led 11 4 nT rfl rfl offZ₂ rfl)) ?_
  clear F N N1
  intro h₅ F N
  walk
  rename Fr _ _ _ _ => F
  rename News _ _ _ _ => N
  refine rs_item (its := tl.set wh.toNat (.ref Tn)) (n := kT) N (by k_mem) hw.1 hw.2 (by rw [List.getElem?_set_self (by omega)]) ?_
  walk
  rename Fr _ _ _ _ => F
  rename News _ _ _ _ => N
  have hup : ∀ p ∈ Z₂, p ∈ (TO, listOf (tl.set wh.toNat (.ref Tn)).toArray kT) :: (xa, instObj 111 da) :: (da, rdict w.params la t) :: (la, listOf its'.toArray n') :: (L + 1, oC') :: (SO, listOf sl.toArray kS) :: (I, oI) :: (BO, listOf bl.toArray kB) :: (xb, instObj 111 db) :: (db, rdict w.params lb t') :: (lb, listOf itsb.toArray nb) :: (D, oD) :: Z₂ := fun p hp => dropL_mem (n := 12) hp
  obtain ⟨vsn, kdn, aT, yT⟩ := id dean
  refine spans_spec (A := callerA.deeper _) (s := { heap := _, gens := gn₀, drawn := dr₀, toks := _, os := os₀ }) (base := g) F.keep X T (aT.here F N hup) (yT.mono fun a o q _ => q.here F N hup) (Nat.le_of_ble_eq_true rfl) rfl (by rw [List.length_cons]; omega) ?_
  intro Sn h₆ tk₆ its₆ n₆ ns st fS hSn yS hperm hsort
  dsimp only at st fS
  obtain ⟨cw, iw⟩ := walkSpans_spec _ ns hperm hsort
  have same' := in_holds hrs same
  rw [Canon.unique cw cana' fun v => (iw v).trans (same' v).symm] at yS
  clear cw iw hperm hsort hup aT yT
  have NZ : News g L _ Z₂ := news_pick N [] 12 rfl
  have F' := F.keeps st
  have N' := N.grown st
  obtain ⟨Z₃, N₃, offZ₃, up₃, all₃⟩ := reledger (W := []) (A := [xa, da, la, L + 1, TO, SO, I, BO, xb, db, lb, D]) F' NZ (fun b o _ e => st b o e) (fun a ha => nomatch ha) offZ₂
  have frS := (fresh_off F N fS).2.2
  have sSn : Src g Z₃ Sn (listOf its₆.toArray n₆) := all₃ _ _ hSn (off_ne frS [1, 2, 3, 4, 0, 5, 6, 7, 8, 9, 10, 11] rfl) (ns_not F'.ns hSn (by intro es ep q; cases q))
  replace N : News g L h₆ ((xa, instObj 111 da) :: (da, rdict w.params la t) :: (la, listOf its'.toArray n') :: (L + 1, oC') :: (TO, listOf (tl.set wh.toNat (.ref Tn)).toArray kT) :: (SO, listOf sl.toArray kS) :: (I, oI) :: (BO, listOf bl.toArray kB) :: (xb, instObj 111 db) :: (db, rdict w.params lb t') :: (lb, listOf itsb.toArray nb) :: (D, oD) :: []) := news_mono N' (pickN_sub [1, 2, 3, 4, 0, 5, 6, 7, 8, 9, 10, 11] rfl)
  have spn : InList IsPair (Src g Z₃) Sn rs' := ⟨_, _, sSn, l_pairs N (allC notTup_inst (allC notTup_dict (allC notTup_list (allC (notTup_cell hoC') (allC notTup_list (allC notTup_list (allC (notTup_cls hoI) (allC notTup_list (allC notTup_inst (allC notTup_dict (allC notTup_list (allC (notTup_cls hoD) allN)))))))))))) F' all₃ yS⟩
  clear yS sSn all₃ frS hSn
  replace N : News g L h₆ ((xa, instObj 111 da) :: (da, rdict w.params la t) :: (la, listOf its'.toArray n') :: (L + 1, oC') :: (TO, listOf (tl.set wh.toNat (.ref Tn)).toArray kT) :: (SO, listOf sl.toArray kS) :: (I, oI) :: (BO, listOf bl.toArray kB) :: (xb, instObj 111 db) :: (db, rdict w.params lb t') :: (lb, listOf itsb.toArray nb) :: (D, oD) :: Z₃) := news_app (n := 12) N N₃ rfl rfl
  clear F N₃ N' NZ offZ₂ st fS
  have F := F'
  clear F'
  walk
  rename Fr _ _ _ _ => F
  rename News _ _ _ _ => N
  have N1 : News g L _ ((SO, listOf sl.toArray kS) :: (xa, instObj 111 da) :: (da, rdict w.params la t) :: (la, listOf its'.toArray n') :: (L + 1, oC') :: (TO, listOf (tl.set wh.toNat (.ref Tn)).toArray kT) :: (I, oI) :: (BO, listOf bl.toArray kB) :: (xb, instObj 111 db) :: (db, rdict w.params lb t') :: (lb, listOf itsb.toArray nb) :: (D, oD) :: Z₃) := news_pick N [5, 0, 1, 2, 3, 4, 6, 7, 8, 9, 10, 11] 12 rfl
  refine rs_set (its := sl) (n := kS) F N1 hw.1 hw.2 (by omega) (.head (ne_led 11 5 nS rfl rfl offZ₃ rfl)) ?_
  clear F N N1
  intro h₇ F N
  replace N : News g L h₇ ((xa, instObj 111 da) :: (da, rdict w.params la t) :: (la, listOf its'.toArray n') :: (L + 1, oC') :: (TO, listOf (tl.set wh.toNat (.ref Tn)).toArray kT) :: (SO, listOf (sl.set wh.toNat (.ref Sn)).toArray kS) :: (I, oI) :: (BO, listOf bl.toArray kB) :: (xb, instObj 111 db) :: (db, rdict w.params lb t') :: (lb, listOf itsb.toArray nb) :: (D, oD) :: Z₃) := news_pick N [1, 2, 3, 4, 5, 0, 6, 7, 8, 9, 10, 11] 12 rfl
  dsimp only
  rcases hwh with ⟨rfl, rfl, rfl, rfl⟩ | ⟨rfl, rfl, rfl, rfl⟩
  · replace N : News g L h₇ ((xa, instObj 111 da) :: (da, rdict w.params la t) :: (la, listOf its'.toArray n') :: (L + 1, oC') :: (TO, listOf #[.ref Tn, .ref Tb] kT) :: (SO, listOf #[.ref Sn, .ref Sb] kS) :: (I, oI) :: (BO, listOf #[.ref xa, .ref xb] kB) :: (xb, instObj 111 db) :: (db, rdict w.params lb t') :: (lb, listOf itsb.toArray nb) :: (D, oD) :: Z₃) := N
    have sub : ∀ a o, Src g Z₃ a o → Src g ((xa, instObj 111 da) :: (da, rdict w.params la t) :: (la, listOf its'.toArray n') :: (L + 1, oC') :: (TO, listOf #[.ref Tn, .ref Tb] kT) :: (SO, listOf #[.ref Sn, .ref Sb] kS) :: (I, oI) :: (BO, listOf #[.ref xa, .ref xb] kB) :: (xb, instObj 111 db) :: (db, rdict w.params lb t') :: (lb, listOf itsb.toArray nb) :: (D, oD) :: Z₃) a o := fun a o q => q.imp id fun hp => dropL_mem (n := 12) hp
    exact rest_spec (f := f) (cd := cd) (kB := kB) (kT := kT) (kS := kS) (n0 := n') (n1 := nb) (nw := n') (by obtain ⟨hb, _⟩ := fn_of (K := L1H.hd.heap_39 w.params) (a := 144) (by k_is); (first | unfold lawTurn | unfold lawTwo | unfold lawT2 | unfold lawV2 lawW2 | unfold lawW2 | skip); first | (rw [hb]; done) | (rw [hb]; rfl)) (by obtain ⟨_, hs⟩ := fn_of (K := L1H.hd.heap_39 w.params) (a := 144) (by k_is); unfold lawEnv; first | (rw [hs]; done) | (rw [hs]; rfl)) X T F N hI rfl rfl rfl rfl rfl rfl (by k_mem) (by k_mem) (by k_mem) ⟨by k_mem, by k_mem, by k_mem, rga'.mono fun a o q => sub a o (up₃ a o (up a o q))⟩ ⟨by k_mem, by k_mem, by k_mem, rgb.mono fun a o q => sub a o (up₃ a o (up a o q))⟩ ⟨by k_mem, by k_mem, by k_mem, rga'.mono fun a o q => sub a o (up₃ a o (up a o q))⟩ (spn.mono sub) (spb.mono fun a o q => sub a o (up₃ a o (up a o q))) (dean.mono fun a o q => sub a o (up₃ a o q)) same' (by decide) rfl (by k_mem) hoC' (inlist_ne spn offZ₃ (by simp) (N (la, _) (by k_mem)).2.2) (inlist_ne (spb.mono fun a o q => up₃ a o (up a o q)) offZ₃ (by simp) (N (lb, _) (by k_mem)).2.2) (by omega) (by omega) cana'.pos canb.pos
      fun h' tk' m' F' N' e1 e2 e3 e4 => h h' tk' m' its' n' rs' _ Tn Sn oC' _ Z₃ nv tnv F' N' offZ₃ hoC' (fun a o q => up₃ a o (up a o q)) (rga'.mono fun a o q => up₃ a o (up a o q)) cana' hzr spn (dean.mono up₃) (by rw [List.length_cons]; omega) same' e1 e2 e3 e4
  · replace N : News g L h₇ ((xa, instObj 111 da) :: (da, rdict w.params la t) :: (la, listOf its'.toArray n') :: (L + 1, oC') :: (TO, listOf #[.ref Tb, .ref Tn] kT) :: (SO, listOf #[.ref Sb, .ref Sn] kS) :: (I, oI) :: (BO, listOf #[.ref xb, .ref xa] kB) :: (xb, instObj 111 db) :: (db, rdict w.params lb t') :: (lb, listOf itsb.toArray nb) :: (D, oD) :: Z₃) := N
    have sub : ∀ a o, Src g Z₃ a o → Src g ((xa, instObj 111 da) :: (da, rdict w.params la t) :: (la, listOf its'.toArray n') :: (L + 1, oC') :: (TO, listOf #[.ref Tb, .ref Tn] kT) :: (SO, listOf #[.ref Sb, .ref Sn] kS) :: (I, oI) :: (BO, listOf #[.ref xb, .ref xa] kB) :: (xb, instObj 111 db) :: (db, rdict w.params lb t') :: (lb, listOf itsb.toArray nb) :: (D, oD) :: Z₃) a o := fun a o q => q.imp id fun hp => dropL_mem (n := 12) hp
    exact rest_spec (f := f) (cd := cd) (kB := kB) (kT := kT) (kS := kS) (n0 := nb) (n1 := n') (nw := n') (by obtain ⟨hb, _⟩ := fn_of (K := L1H.hd.heap_39 w.params) (a := 144) (by k_is); (first | unfold lawTurn | unfold lawTwo | unfold lawT2 | unfold lawV2 lawW2 | unfold lawW2 | skip); first | (rw [hb]; done) | (rw [hb]; rfl)) (by obtain ⟨_, hs⟩ := fn_of (K := L1H.hd.heap_39 w.params) (a := 144) (by k_is); unfold lawEnv; first | (rw [hs]; done) | (rw [hs]; rfl)) X T F N hI rfl rfl rfl rfl rfl rfl (by k_mem) (by k_mem) (by k_mem) ⟨by k_mem, by k_mem, by k_mem, rgb.mono fun a o q => sub a o (up₃ a o (up a o q))⟩ ⟨by k_mem, by k_mem, by k_mem, rga'.mono fun a o q => sub a o (up₃ a o (up a o q))⟩ ⟨by k_mem, by k_mem, by k_mem, rga'.mono fun a o q => sub a o (up₃ a o (up a o q))⟩ (spb.mono fun a o q => sub a o (up₃ a o (up a o q))) (spn.mono sub) (dean.mono fun a o q => sub a o (up₃ a o q)) same' (by decide) rfl (by k_mem) hoC' (inlist_ne (spb.mono fun a o q => up₃ a o (up a o q)) offZ₃ (by simp) (N (lb, _) (by k_mem)).2.2) (inlist_ne spn offZ₃ (by simp) (N (la, _) (by k_mem)).2.2) (by omega) (by omega) canb.pos cana'.pos
      fun h' tk' m' F' N' e1 e2 e3 e4 => h h' tk' m' its' n' rs' _ Tn Sn oC' _ Z₃ nv tnv F' N' offZ₃ hoC' (fun a o q => up₃ a o (up a o q)) (rga'.mono fun a o q => up₃ a o (up a o q)) cana' hzr spn (dean.mono up₃) (by rw [List.length_cons]; omega) same' e1 e2 e3 e4

end
end L1
end

section
open PySem PySem.W PySem.Calls PyProof.Rows RS
open PySem.SeqAt
set_option maxRecDepth 100000
set_option maxHeartbeats 0
set_option linter.unusedVariables false
namespace L1
theorem warm_lawtop : (fun (_ : OpenLaw) (_ : Params → Frag) => True) PySem.Challenge.rw_lg0001_01 L1H.hd.heap_39 := by w_top off; k_fill; trivial
section
variable {prog : Program} {w : World} {A : Around} {E : Value → Shared → Prop} {s : Shared} {base : Heap} {p : Program} {loose : List Str} {mean : ExcName → Option Value} {mg mb : Str → Option Value}
local macro_rules | `(tactic| k_steps) => `(tactic| repeat' (first | (k_unfold; (try dsimp only)) | ((fail_if_success (with_reducible (apply stoppedN; constructor))); (fail_if_success (with_reducible (apply stoppedL; constructor))); (fail_if_success (with_reducible (apply stopped; constructor))); (first | walk1 | (dsimp only; walk1)))))
/-- what the law holds of one of its two sets -/
structure Side (S : Addr → Obj → Prop) (its : List Value) (Tl Sl : Addr) (rs : List (Int × Int)) (ds : List (Bool × Int × Int)) (i : Nat) : Prop where
  rngs : RngsP S its rs
  told : InList IsDeed S Tl ds
  spans : InList IsPair S Sl rs
  canon : Canon rs
  same : ∀ v, RS.inR rs v = holds ds v
  len : ds.length ≤ i
  rlen : rs.length ≤ i
theorem Side.mono {S S' : Addr → Obj → Prop} {its : List Value} {Tl Sl : Addr} {rs : List (Int × Int)} {ds : List (Bool × Int × Int)} {i j : Nat} (x : Side S its Tl Sl rs ds i) (k : ∀ a o, S a o → S' a o) (hij : i ≤ j) : Side S' its Tl Sl rs ds j :=
  ⟨x.rngs.mono k, x.told.mono k, x.spans.mono k, x.canon, x.same, Nat.le_trans x.len hij, Nat.le_trans x.rlen hij⟩
theorem Side.new {S : Addr → Obj → Prop} {Tl Sl : Addr} {k k' : Nat} (h1 : S Tl (listOf #[] k)) (h2 : S Sl (listOf #[] k')) : Side S [] Tl Sl [] [] 0 :=
  ⟨.nil, ⟨[], k, h1, .nil⟩, ⟨[], k', h2, .nil⟩, canon_nil, fun _ => rfl, Nat.le_refl _, Nat.le_refl _⟩
/-- the law's ledger -/
abbrev lawLed (P : Params) (L : Addr) (oC : Obj) (BO TO SO x0 d0 l0 x1 d1 l1 T0 T1 S0 S1 : Addr) (t0 t1 : Tok) (its0 its1 : List Value) (n0 n1 : Nat) (D : Addr) (oD : Obj) (Z : List (Addr × Obj)) : List (Addr × Obj) :=
  (x0, instObj 111 d0) :: (d0, rdict P l0 t0) :: (l0, listOf its0.toArray n0) :: (L + 1, oC) :: (TO, listOf #[.ref T0, .ref T1] 0) :: (SO, listOf #[.ref S0, .ref S1] 0) :: (BO, listOf #[.ref x0, .ref x1] 0) :: (x1, instObj 111 d1) :: (d1, rdict P l1 t1) :: (l1, listOf its1.toArray n1) :: (D, oD) :: Z
/-- what holds ahead of each turn -/
def LawJ (P : Params) (g : Heap) (L BO TO SO x0 d0 l0 x1 d1 l1 : Addr) (t0 t1 : Tok) (D : Addr) (oD : Obj) (i : Nat) (m : Str → Option Value) (news : List (Addr × Obj)) : Prop :=
  ∃ oC cv T0 T1 S0 S1 its0 its1 n0 n1 rs0 rs1 ds0 ds1 bf tb Z,
    m (Str.ofString "both") = some (.ref BO) ∧ m (Str.ofString "told") = some (.ref TO) ∧ m (Str.ofString "spans") = some (.ref SO) ∧ m (Str.ofString "before") = some (.int bf tb) ∧
    news = lawLed P L oC BO TO SO x0 d0 l0 x1 d1 l1 T0 T1 S0 S1 t0 t1 its0 its1 n0 n1 D oD Z ∧ oC.data = .cell cv ∧
    Side (Src g Z) its0 T0 S0 rs0 ds0 i ∧ Side (Src g Z) its1 T1 S1 rs1 ds1 i ∧ ∀ p ∈ Z, p.1 ∉ [x0, d0, l0, L + 1, TO, SO, BO, x1, d1, l1, D]
theorem turn_top {body : List Stmt} {env : Env} {g : Heap} {L f : Addr} {cd : Value} {m' : Str → Option Value} {news' : List (Addr × Obj)} {BO TO SO x0 d0 l0 x1 d1 l1 D I : Addr} {t0 t1 : Tok} {oD oI : Obj} {i : Nat} {nv : Int} {tnv : Tok} {h : Heap} {tk : Nat}
    {Q : Flow → Shared → Prop} (hex : body = lawTurn w.params) (henv : env = lawEnv w.params L f cd) (X : (L1H.hd.heap_39 w.params).In g) (T : Top p loose mean mg mb g) (hI : Unsaid p loose (Str.ofString "IndexError"))
    (nd : List.Nodup [D, SO, TO, BO, x0, d0, l0, L + 1, x1, d1, l1]) (hoD : oD.cls = .type "list") (hoI : oI.cls = .type "list_iterator") (J : LawJ w.params g L BO TO SO x0 d0 l0 x1 d1 l1 t0 t1 D oD i m' news') (off : ∀ p ∈ news', p.1 ≠ I) (hi : i < 12)
    (F : Fr g L h (fun y => if y = Str.ofString "number" then some (.int nv tnv) else m' y)) (N : News g L h ((I, oI) :: news')) :
    wpAny (model prog w) (callerA.deeper env) (execs body env) (RTurn g L I oI (LawJ w.params g L BO TO SO x0 d0 l0 x1 d1 l1 t0 t1 D oD (i + 1)) s Q) (fun _ _ => False) { s with heap := h, toks := tk } := by
  subst hex henv
  obtain ⟨hb, hs⟩ := fn_of (K := L1H.hd.heap_39 w.params) (a := 144) (by k_is)
  obtain ⟨hp₀, gn₀, dr₀, tk₀, os₀⟩ := s
  dsimp only
  obtain ⟨oC, cv, T0, T1, S0, S1, its0, its1, n0, n1, rs0, rs1, ds0, ds1, bf, tb, Z, eB, eT, eS, ebf, rfl, hoC, sd0, sd1, offZ⟩ := J
  have hII : I ∉ [x0, d0, l0, L + 1, TO, SO, BO, x1, d1, l1, D] := off_ne off [0, 1, 2, 3, 4, 5, 6, 7, 8, 9, 10] rfl
  have offI : ∀ p ∈ Z, p.1 ≠ I := fun p hp => off p (dropL_mem (n := 11) hp)
  have ndI := List.nodup_cons.mpr ⟨off_ne off [10, 5, 4, 6, 0, 1, 2, 3, 7, 8, 9] rfl, nd⟩
  unfold lawEnv lawTurn at *
  rw [hb, hs]
  clear hb hs
  dsimp only [nthS, forBody, dropS]
  replace F := fr_know (fr_know (fr_know (fr_know F (x := Str.ofString "both") eB) (x := Str.ofString "told") eT) (x := Str.ofString "spans") eS) (x := Str.ofString "before") ebf
  refine wpAny_execs_cons ?_
  refine wpAny_mono (Q := StoreMid g L (fun y => if y = Str.ofString "before" then some (.int bf tb) else if y = Str.ofString "spans" then some (.ref SO) else if y = Str.ofString "told" then some (.ref TO) else if y = Str.ofString "both" then some (.ref BO) else if y = Str.ofString "number" then some (.int nv tnv) else m' y) ((I, oI) :: lawLed w.params L oC BO TO SO x0 d0 l0 x1 d1 l1 T0 T1 S0 S1 t0 t1 its0 its1 n0 n1 D oD Z) (Str.ofString "who") (fun v => ∃ wh t, v = .int wh t ∧ (wh = 0 ∨ wh = 1)) { heap := hp₀, gens := gn₀, drawn := dr₀, toks := tk₀, os := os₀ }) ?_ ?_ fun _ _ x => x
  · k_steps
    · rename Fr _ _ _ _ => F
      rename News _ _ _ _ => N
      exact ⟨rfl, _, _, _, rfl, ⟨_, _, rfl, .inr rfl⟩, F, N⟩
    · rename Fr _ _ _ _ => F
      rename News _ _ _ _ => N
      exact ⟨rfl, _, _, _, rfl, ⟨_, _, rfl, .inl rfl⟩, F, N⟩
  rintro fl s' ⟨rfl, h₁, tk₁, v, rfl, ⟨wh, twh, rfl, hwh⟩, F, N⟩
  dsimp only
  rcases hwh with rfl | rfl
  · refine turn_gen (f := f) (cd := cd) (kB := 0) (kT := 0) (kS := 0) (Ta := T0) (Tb := T1) (Sa := S0) (Sb := S1) (na := n0) (nb := n1) (tl := [.ref T0, .ref T1]) (sl := [.ref S0, .ref S1]) (bl := [.ref x0, .ref x1]) (by obtain ⟨hb, _⟩ := fn_of (K := L1H.hd.heap_39 w.params) (a := 144) (by k_is); (first | unfold lawTurn | unfold lawTwo | unfold lawT2 | unfold lawV2 lawW2 | unfold lawW2 | skip); first | (rw [hb]; done) | (rw [hb]; rfl)) (by obtain ⟨_, hs⟩ := fn_of (K := L1H.hd.heap_39 w.params) (a := 144) (by k_is); unfold lawEnv; first | (rw [hs]; done) | (rw [hs]; rfl)) X T hI F (Z := Z) (xa := x0) (da := d0) (la := l0) (xb := x1) (db := d1) (lb := l1) (t := t0) (t' := t1) (itsa := its0) (itsb := its1) (I := I) (oI := oI) (D := D) (oD := oD) (oC := oC) (BO := BO) (TO := TO) (SO := SO) (s := { heap := _, gens := gn₀, drawn := dr₀, toks := _, os := os₀ }) (news_pick N [1, 2, 3, 4, 5, 6, 0, 7, 8, 9, 10, 11] 12 rfl) rfl rfl rfl rfl rfl rfl (.inl ⟨rfl, rfl, rfl, rfl⟩) (nodup_off ndI [8, 5, 6, 7, 3, 2, 0, 4, 9, 10, 11, 1] (by decide) rfl) (nodup_off ndI [3, 5, 6, 7, 8, 2, 0, 4, 9, 10, 11, 1] (by decide) rfl) (nodup_off ndI [2, 5, 6, 7, 8, 3, 0, 4, 9, 10, 11, 1] (by decide) rfl) (off3n (nodup_pick ndI [5, 6, 7, 8, 3, 2, 0, 4, 9, 10, 11, 1] (by decide) rfl)) (fun p hp => pick_off (List.not_mem_cons_of_ne_of_not_mem (offI p hp) (offZ p hp)) [1, 2, 3, 4, 5, 6, 0, 7, 8, 9, 10, 11] 12 rfl) hoC hoI hoD sd0.rngs sd1.rngs sd0.canon sd1.canon (Nat.le_trans sd0.rlen (by omega)) (Nat.le_trans sd1.rlen (by omega)) (Nat.le_trans sd0.len (by omega)) sd0.spans sd1.spans sd0.told sd0.same ?_
    clear F N
    intro h' tk' m₂ its' n' rs' ds' T' S' oC' cv' Z' bf' tb' F N off' hoC' up rg can hr sp dea hd same e1 e2 e3 e4
    refine ⟨h', tk', m₂, lawLed w.params L oC' BO TO SO x0 d0 l0 x1 d1 l1 T' T1 S' S1 t0 t1 its' its1 n' n1 D oD Z', rfl, F, ?_, ?_, ?_⟩
    · exact news_pick N [6, 0, 1, 2, 3, 4, 5, 7, 8, 9, 10, 11] 12 rfl
    · exact ne_led 11 6 hII rfl rfl off' rfl
    · exact ⟨oC', cv', _, _, _, _, _, _, _, _, _, _, _, _, bf', tb', Z', e1, e2, e3, e4, rfl, hoC', ⟨rg, dea, sp, can, same, Nat.le_trans hd (Nat.succ_le_succ sd0.len), Nat.le_trans hr (Nat.succ_le_succ sd0.rlen)⟩, (sd1.mono up (Nat.le_succ _)), fun p hp => pick_off (off' p hp) [0, 1, 2, 3, 4, 5, 7, 8, 9, 10, 11] 12 rfl⟩
  · refine turn_gen (f := f) (cd := cd) (kB := 0) (kT := 0) (kS := 0) (Ta := T1) (Tb := T0) (Sa := S1) (Sb := S0) (na := n1) (nb := n0) (tl := [.ref T0, .ref T1]) (sl := [.ref S0, .ref S1]) (bl := [.ref x0, .ref x1]) (by obtain ⟨hb, _⟩ := fn_of (K := L1H.hd.heap_39 w.params) (a := 144) (by k_is); (first | unfold lawTurn | unfold lawTwo | unfold lawT2 | unfold lawV2 lawW2 | unfold lawW2 | skip); first | (rw [hb]; done) | (rw [hb]; rfl)) (by obtain ⟨_, hs⟩ := fn_of (K := L1H.hd.heap_39 w.params) (a := 144) (by k_is); unfold lawEnv; first | (rw [hs]; done) | (rw [hs]; rfl)) X T hI F (Z := Z) (xa := x1) (da := d1) (la := l1) (xb := x0) (db := d0) (lb := l0) (t := t1) (t' := t0) (itsa := its1) (itsb := its0) (I := I) (oI := oI) (D := D) (oD := oD) (oC := oC) (BO := BO) (TO := TO) (SO := SO) (s := { heap := _, gens := gn₀, drawn := dr₀, toks := _, os := os₀ }) (news_pick N [8, 9, 10, 4, 5, 6, 0, 7, 1, 2, 3, 11] 12 rfl) rfl rfl rfl rfl rfl rfl (.inr ⟨rfl, rfl, rfl, rfl⟩) (nodup_off ndI [8, 9, 10, 11, 3, 2, 0, 4, 5, 6, 7, 1] (by decide) rfl) (nodup_off ndI [3, 9, 10, 11, 8, 2, 0, 4, 5, 6, 7, 1] (by decide) rfl) (nodup_off ndI [2, 9, 10, 11, 8, 3, 0, 4, 5, 6, 7, 1] (by decide) rfl) (off3n (nodup_pick ndI [9, 10, 11, 8, 3, 2, 0, 4, 5, 6, 7, 1] (by decide) rfl)) (fun p hp => pick_off (List.not_mem_cons_of_ne_of_not_mem (offI p hp) (offZ p hp)) [8, 9, 10, 4, 5, 6, 0, 7, 1, 2, 3, 11] 12 rfl) hoC hoI hoD sd1.rngs sd0.rngs sd1.canon sd0.canon (Nat.le_trans sd1.rlen (by omega)) (Nat.le_trans sd0.rlen (by omega)) (Nat.le_trans sd1.len (by omega)) sd1.spans sd0.spans sd1.told sd1.same ?_
    clear F N
    intro h' tk' m₂ its' n' rs' ds' T' S' oC' cv' Z' bf' tb' F N off' hoC' up rg can hr sp dea hd same e1 e2 e3 e4
    refine ⟨h', tk', m₂, lawLed w.params L oC' BO TO SO x0 d0 l0 x1 d1 l1 T0 T' S0 S' t0 t1 its0 its' n0 n' D oD Z', rfl, F, ?_, ?_, ?_⟩
    · exact news_pick N [6, 8, 9, 10, 3, 4, 5, 7, 0, 1, 2, 11] 12 rfl
    · exact ne_led 11 6 hII rfl rfl off' rfl
    · exact ⟨oC', cv', _, _, _, _, _, _, _, _, _, _, _, _, bf', tb', Z', e1, e2, e3, e4, rfl, hoC', (sd0.mono up (Nat.le_succ _)), ⟨rg, dea, sp, can, same, Nat.le_trans hd (Nat.succ_le_succ sd1.len), Nat.le_trans hr (Nat.succ_le_succ sd1.rlen)⟩, fun p hp => pick_off (off' p hp) [8, 9, 10, 3, 4, 5, 7, 0, 1, 2, 11] 12 rfl⟩

end
end L1
end

section
open PySem PySem.W PySem.Calls PyProof.Rows RS
open PySem.SeqAt
set_option maxRecDepth 100000
set_option maxHeartbeats 0
set_option linter.unusedVariables false
namespace L1
theorem warm_two : (fun (_ : OpenLaw) (_ : Params → Frag) => True) PySem.Challenge.rw_lg0001_01 L1H.hd.heap_39 := by w_top off; k_fill; trivial
section
variable {prog : Program} {w : World} {A : Around} {E : Value → Shared → Prop} {s : Shared} {base : Heap} {p : Program} {loose : List Str} {mean : ExcName → Option Value} {mg mb : Str → Option Value}
theorem two_spec {body : List Stmt} {env : Env} {g : Heap} {L f : Addr} {cd : Value} {m : Str → Option Value} {R : List (Addr × Obj)} {BO SO x0 x1 S0 S1 xw dw lw Sw : Addr} {nw : Nat} {tw : Tok} {itsw : List Value} {rsw : List (Int × Int)} {oC : Obj} {cv : Option Value}
    {wh : Int} {twh : Tok} {Q : Flow → Shared → Prop} (hex : body = lawTwo w.params) (henv : env = lawEnv w.params L f cd) (X : (L1H.hd.heap_39 w.params).In g) (T : Top p loose mean mg mb g) (hI : Unsaid p loose (Str.ofString "IndexError")) (F : Fr g L s.heap m) (N : News g L s.heap ((L + 1, oC) :: R))
    (nC : ∀ p ∈ R, p.1 ≠ L + 1) (hoC : oC.data = .cell cv) (eB : m (Str.ofString "both") = some (.ref BO)) (eS : m (Str.ofString "spans") = some (.ref SO)) (eW : m (Str.ofString "who") = some (.int wh twh))
    (hB : (BO, listOf #[.ref x0, .ref x1] 0) ∈ R) (hS : (SO, listOf #[.ref S0, .ref S1] 0) ∈ R) (hw : 0 ≤ wh ∧ wh < 2 ^ 63) (hBw : [Value.ref x0, Value.ref x1][wh.toNat]? = some (.ref xw)) (hSw : [Value.ref S0, Value.ref S1][wh.toNat]? = some (.ref Sw))
    (iw : InSet w.params R (Src g R) xw dw lw itsw nw tw rsw) (sw : InList IsPair (Src g R) Sw rsw) (can : Canon rsw) (hz : rsw.length ≤ 100) (ne : @Ne Nat Sw lw)
    (fin : ∀ h' tk' m' oC' cv', Fr g L h' m' → News g L h' ((L + 1, oC') :: R) → oC'.data = .cell cv' → m' (Str.ofString "both") = some (.ref BO) → m' (Str.ofString "spans") = some (.ref SO) → Q .next { s with heap := h', toks := tk' }) :
    wpAny (model prog w) (callerA.deeper env) (execs body env) Q (fun _ _ => False) s := by
  subst hex henv
  obtain ⟨hb, hs⟩ := fn_of (K := L1H.hd.heap_39 w.params) (a := 144) (by k_is)
  obtain ⟨hp₀, gn₀, dr₀, tk₀, os₀⟩ := s
  dsimp only at F N fin
  have NR : ∀ p ∈ R, p.1 ≠ L ∧ g.get? p.1 = none := fun p hp => (N p (.tail _ hp)).2
  have hkf : (fnScope (L1H.hd.heap_39 w.params) 144).kind = .function := by rw [hs]
  have Kb := fun {h : Heap} {m : Str → Option Value} (F : Fr g L h m) => law_below (P := w.params) (f := f) (cd := cd) F hkf
  unfold lawEnv lawTwo at *
  rw [hb, hs]
  rw [hs] at Kb
  clear hb hs hkf
  dsimp only [nthS, forBody, dropS]
  replace F := fr_know (fr_know (fr_know F (x := Str.ofString "both") eB) (x := Str.ofString "spans") eS) (x := Str.ofString "who") eW
  walk
  rename Fr _ _ _ _ => F
  rename News _ _ _ _ => N
  refine rs_item (its := [.ref x0, .ref x1]) (n := 0) N (.tail _ hB) hw.1 hw.2 hBw ?_
  walk
  rename Fr _ _ _ _ => F
  rename News _ _ _ _ => N
  rename _ = PySem.Data.cell (some _) => hoC'
  clear hoC
  rename Obj => oC'
  refine comp_open (cl := [(Str.ofString "ranges", L + 1)]) rfl rfl (by decide) ?_
  walk
  rename Fr _ _ _ _ => F
  rename News _ _ _ _ => N
  refine rs_item (its := [.ref S0, .ref S1]) (n := 0) N (.tail _ hS) hw.1 hw.2 hSw ?_
  walk
  obtain ⟨vs, kk, aS, yS⟩ := id sw
  have hvl : vs.length = rsw.length := yS.length
  refine Calls.call_len_list (items := vs.toArray) ⟨_, aS.here F N fun p hp => .tail _ hp, rfl, _, rfl⟩ (by rw [List.size_toArray]; omega) ?_
  rw [show vs.toArray.size = rsw.length by rw [List.size_toArray]; exact hvl]
  walk
  rename Fr _ _ _ _ => F
  rename News _ _ _ _ => N
  rename IsRange _ _ _ _ _ _ _ _ => hR
  have hil : itsw.length = rsw.length := iw.rg.length
  dsimp only at hR F N ⊢
  refine comp_range_ro (n := rsw.length) rfl (by omega) hR (small_down (by omega)) (rangeSize_down _) (by decide) rfl rfl F N (fun i ys _ => ys = itsw.reverse.take i) (fun _ _ _ _ _ r => r) (by simp) ?_ ?_
  · intro i k I oI C oC D₁ m₂ ys Z h₃ tk E' hi hr hC hx F N
    obtain ⟨v, hv⟩ : ∃ v, itsw.reverse[i]? = some v := ⟨_, List.getElem?_eq_getElem (by rw [List.length_reverse]; omega)⟩
    have hk : keyAt itsw ((rsw.length : Int) - 1 + (i : Nat) * (-1)) = some v := by
      unfold keyAt
      rw [if_pos (by omega), show ((rsw.length : Int) - 1 + (i : Nat) * (-1)).toNat = itsw.length - 1 - i by omega]
      rw [List.getElem?_reverse (by omega)] at hv
      exact hv
    walk
    rename Fr _ _ _ _ => F
    rename News _ _ _ _ => N
    obtain ⟨r, y⟩ := (iw.more (news' := (L + 1, oC') :: R) fun p hp => .tail _ hp).at F (news_mono N fun p hp => .tail _ (.tail _ (.tail _ (List.mem_append_left _ hp))))
    refine m_getitem (s := { heap := h₃, gens := gn₀, drawn := dr₀, toks := _, os := os₀ }) (base := g) F.keep X T F X r (Nat.le_of_ble_eq_true rfl) (by omega) (by omega) (by omega) hk ?_
    intro h₄ tk₄ st
    refine CompStay.intro st ?_
    rw [hr]
    exact (take_snoc hv).symm
  intro ys Z D h₃ tk₃ hr F N o1
  rw [← hil, show itsw.length = itsw.reverse.length by simp, List.take_length] at hr
  subst hr
  clear hR
  walk
  rename Fr _ _ _ _ => F
  rename News _ _ _ _ => N
  have hDL : D ≠ L + 1 := (show (@Ne Nat (L + 1) D) ∧ _ from o1).1.symm
  have N1 : News g L h₃ ([(L + 1, oC')] ++ ((D, LCg.lst itsw.reverse) :: R)) := news_cons N (.tail _ (.head _)) (news_cons N (.head _) (news_mono N fun p hp => .tail _ (List.mem_append_left _ (.tail _ hp))))
  obtain ⟨rw₀, yw₀⟩ := (iw.more (news' := (L + 1, oC') :: R) fun p hp => .tail _ hp).at F (news_mono N fun p hp => .tail _ (List.mem_append_left _ hp))
  refine l_new (s := { heap := _, gens := gn₀, drawn := dr₀, toks := _, os := os₀ }) X T F N1 (by intro p hp; rw [List.mem_singleton.mp hp]; exact notRng_cell hoC') ?_ (N _ (.head _)).1 yw₀.reverse (fun q hq => can.pos q (List.mem_reverse.mp hq)) (by rw [List.length_reverse]; omega) ?_
  · intro p hp
    rcases List.mem_cons.mp hp with rfl | hp
    · simpa using hDL
    · simpa using nC p hp
  clear F N N1 rw₀ yw₀ o1
  intro xg dg lg h₄ tk₄ itsg ng tg Z₁ F N off₁ up₁ rgg ho₁ ho₂
  rw [addAll_self can (fun q hq => can.pos q (List.mem_reverse.mp hq)) (inR_reverse rsw)] at rgg
  replace up₁ : ∀ a o, Src g R a o → Src g Z₁ a o := fun a o q => up₁ a o (q.imp id (.tail _))
  walk
  rename Fr _ _ _ _ => F
  rename News _ _ _ _ => N
  refine l_new0 (s := { heap := _, gens := gn₀, drawn := dr₀, toks := _, os := os₀ }) (oth := (xg, instObj 111 dg) :: (dg, rdict w.params lg tg) :: (lg, listOf itsg.toArray ng) :: (L + 1, oC') :: []) X T F N ?_ off₁ ?_
  · exact allC notRng_inst (allC notRng_dict (allC notRng_list (allC (notRng_cell hoC') allN)))
  clear F N
  intro xh dh lh h₅ tk₅ itsh nh th Z₂ F N off₂ up₂ rgh hh₁ hh₂
  walk
  rename Fr _ _ _ _ => F
  rename News _ _ _ _ => N
  refine wpAny_For ?_
  walk
  rename Fr _ _ _ _ => F
  rename News _ _ _ _ => N
  have upR : ∀ a o, Src g R a o → Src g Z₂ a o := fun a o q => up₂ a o (up₁ a o q)
  replace N : News g L _ ((xh, instObj 111 dh) :: (dh, rdict w.params lh th) :: (lh, listOf itsh.toArray nh) :: (xg, instObj 111 dg) :: (dg, rdict w.params lg tg) :: (lg, listOf itsg.toArray ng) :: (L + 1, oC') :: Z₂) := N
  have sub₂ : ∀ p ∈ Z₂, p ∈ (xh, instObj 111 dh) :: (dh, rdict w.params lh th) :: (lh, listOf itsh.toArray nh) :: (xg, instObj 111 dg) :: (dg, rdict w.params lg tg) :: (lg, listOf itsg.toArray ng) :: (L + 1, oC') :: Z₂ := fun p hp => dropL_mem (n := 7) hp
  refine l_item (its := [.ref S0, .ref S1]) (n := 0) ((upR _ _ (.inr hS)).here F N sub₂) hw.1 hw.2 hSw ?_
  obtain ⟨da, hda1, hda2, hda3⟩ := pairs_arrays (yS.mono fun a o q _ => upR a o q)
  have aS₂ := (upR _ _ aS).here F N sub₂
  refine for_listTS (fix := Z₂) (ds := da) rfl (fun i => assigns2 (Pt := fun d => da[(i : Nat)]? = some d) rfl rfl rfl rfl (fun v hv => by
      obtain ⟨_, _, _, _, _, q, _, t, u, rfl⟩ := hda3 _ _ hv
      exact ⟨_, _, rfl⟩)) ⟨_, aS₂, rfl, _, rfl⟩ hda1 (fun i d hd => by
      obtain ⟨T, o, h1, h2, h3, _⟩ := hda3 i d hd
      exact ⟨T, o, h1, h2, h3⟩) sub₂ (ns_not F.ns aS₂ (by intro es ep q; cases q)) ((upR _ _ aS).imp (fun q => ⟨_, q⟩) fun q => ⟨_, q⟩) F N
    (fun i m' news' => m' (Str.ofString "both") = some (.ref BO) ∧ m' (Str.ofString "spans") = some (.ref SO) ∧ m' (Str.ofString "who") = some (.int wh twh) ∧ m' (Str.ofString "again") = some (.ref xg) ∧ m' (Str.ofString "halves") = some (.ref xh) ∧
      ∃ its n rs' Z, news' = (xh, instObj 111 dh) :: (dh, rdict w.params lh th) :: (lh, listOf (List.toArray its) n) :: (xg, instObj 111 dg) :: (dg, rdict w.params lg tg) :: (lg, listOf itsg.toArray ng) :: (L + 1, oC') :: Z ∧ (∀ p ∈ Z, p.1 ∉ [xh, dh, lh, xg, dg, lg, L + 1]) ∧ (∀ p ∈ Z₂, p ∈ Z) ∧ RngsP (Src g Z) its rs' ∧ Canon rs' ∧ (∀ v, RS.inR rs' v = RS.inR (rsw.take i) v) ∧ rs'.length ≤ 2 * i) ?_
    ⟨rfl, rfl, rfl, rfl, rfl, itsh, nh, [], Z₂, rfl, off₂, fun p hp => hp, rgh, canon_nil, fun v => by simp, by simp⟩ ?_ ?_
  · rintro i m' news' ⟨_, _, _, _, _, its, n, rs', Z, rfl, _, hz₂, _⟩ q hq
    exact dropL_mem (n := 7) (hz₂ q hq)
  · rintro i d I oI m' news' h₆ tk₆ hoI hd ⟨e1, e2, e3, e4, e5, its, n, rs', Z, rfl, offZ, hz₂, rg', can', hin, hlen⟩ hlt off F N
    obtain ⟨_, _, _, _, _, ⟨lo, hi⟩, hq, t₁, u₁, rfl⟩ := hda3 _ _ hd
    have hpos : lo < hi := can.pos _ (List.mem_of_getElem? hq)
    have hil2 : i < rsw.length := (List.getElem?_eq_some_iff.mp hq).1
    replace F : Fr g L h₆ (fun z => if z = Str.ofString "stop" then some (.int hi u₁) else if z = Str.ofString "start" then some (.int lo t₁) else m' z) := F
    replace F := fr_know (fr_know (fr_know (fr_know (fr_know F (x := Str.ofString "both") e1) (x := Str.ofString "spans") e2) (x := Str.ofString "who") e3) (x := Str.ofString "again") e4) (x := Str.ofString "halves") e5
    walk
    rename Fr _ _ _ _ => F
    rename News _ _ _ _ => N
    obtain ⟨tm, F⟩ : ∃ tm, Fr g L _ (fun y => if y = Str.ofString "middle" then some (.int ((lo + hi).fdiv 2) tm) else if y = Str.ofString "halves" then some (.ref xh) else if y = Str.ofString "again" then some (.ref xg) else if y = Str.ofString "who" then some (.int wh twh) else if y = Str.ofString "spans" then some (.ref SO) else if y = Str.ofString "both" then some (.ref BO) else if y = Str.ofString "stop" then some (.int hi u₁) else if y = Str.ofString "start" then some (.int lo t₁) else m' y) := ⟨_, F⟩
    have hmid : lo ≤ (lo + hi).fdiv 2 ∧ (lo + hi).fdiv 2 < hi ∧ (¬ lo < (lo + hi).fdiv 2 → (lo + hi).fdiv 2 = lo) := by rw [Int.fdiv_eq_ediv_of_nonneg _ (by decide)]; omega
    generalize (lo + hi).fdiv 2 = mid at F hmid ⊢
    obtain ⟨hm1, hm2, hm3⟩ := hmid
    have hIn : I ∉ [xh, dh, lh, xg, dg, lg, L + 1] := off_ne (fun p hp e => off p hp (List.mem_singleton.mpr e)) [0, 1, 2, 3, 4, 5, 6] rfl
    have hoT : ∀ p ∈ (I, oI) :: (xg, instObj 111 dg) :: (dg, rdict w.params lg tg) :: (lg, listOf itsg.toArray ng) :: (L + 1, oC') :: [], p.1 ∉ [xh, dh, lh] ∧ NotRng p.2 :=
      allC ⟨pick_off hIn [0, 1, 2] 7 rfl, notRng_cls hoI⟩ (allC ⟨hh₁ _ (nthO_mem (i := 0) rfl), notRng_inst⟩ (allC ⟨hh₁ _ (nthO_mem (i := 1) rfl), notRng_dict⟩ (allC ⟨hh₁ _ (nthO_mem (i := 2) rfl), notRng_list⟩ (allC ⟨hh₁ _ (nthO_mem (i := 3) rfl), notRng_cell hoC'⟩ allN))))
    have offI : ∀ p ∈ Z, p.1 ≠ I := fun p hp e => off p (dropL_mem (n := 7) hp) (List.mem_singleton.mpr e)
    have NZ₂ : News g L _ Z₂ := fun p hp => N p (dropL_mem (n := 8) (hz₂ p hp))
    refine l_add (s := { heap := _, gens := gn₀, drawn := dr₀, toks := _, os := os₀ }) (oth := (I, oI) :: (xg, instObj 111 dg) :: (dg, rdict w.params lg tg) :: (lg, listOf itsg.toArray ng) :: (L + 1, oC') :: []) (Z := Z) X T F (news_pick N [1, 2, 3, 0, 4, 5, 6, 7] 8 rfl) hoT (fun p hp => pick_off (List.not_mem_cons_of_ne_of_not_mem (offI p hp) (offZ p hp)) [1, 2, 3, 0, 4, 5, 6, 7] 8 rfl) rg' (by omega) hm2 ?_
    clear F N
    intro h₇ tk₇ its₁ n₁ Z₃ F N off₃ up₃ rg₃
    replace N : News g L h₇ ((xh, instObj 111 dh) :: (dh, rdict w.params lh th) :: (lh, listOf its₁.toArray n₁) :: (I, oI) :: (xg, instObj 111 dg) :: (dg, rdict w.params lg tg) :: (lg, listOf itsg.toArray ng) :: (L + 1, oC') :: Z₃) := N
    have hz₃ : ∀ p ∈ Z₂, p ∈ Z₃ := fun p hp => mem_up NZ₂ hp fun a o q => up₃ a o (q.imp id (hz₂ _))
    have l₃ := addL_len mid hi rs'
    walk
    · rename lo < mid => hlm
      rename Fr _ _ _ _ => F
      rename News _ _ _ _ => N
      refine l_add (s := { heap := _, gens := gn₀, drawn := dr₀, toks := _, os := os₀ }) (oth := (I, oI) :: (xg, instObj 111 dg) :: (dg, rdict w.params lg tg) :: (lg, listOf itsg.toArray ng) :: (L + 1, oC') :: []) (Z := Z₃) X T F N hoT off₃ rg₃ (by omega) hlm ?_
      clear F N
      intro h₈ tk₈ its₂ n₂ Z₄ F N off₄ up₄ rg₄
      replace N : News g L h₈ ((xh, instObj 111 dh) :: (dh, rdict w.params lh th) :: (lh, listOf its₂.toArray n₂) :: (I, oI) :: (xg, instObj 111 dg) :: (dg, rdict w.params lg tg) :: (lg, listOf itsg.toArray ng) :: (L + 1, oC') :: Z₄) := N
      have l₄ := addL_len lo mid (addL mid hi rs')
      walk
      rename Fr _ _ _ _ => F
      rename News _ _ _ _ => N
      refine ⟨_, _, _, (xh, instObj 111 dh) :: (dh, rdict w.params lh th) :: (lh, listOf its₂.toArray n₂) :: (xg, instObj 111 dg) :: (dg, rdict w.params lg tg) :: (lg, listOf itsg.toArray ng) :: (L + 1, oC') :: Z₄, rfl, F, (news_pick N [3, 0, 1, 2, 4, 5, 6, 7] 8 rfl), ?_, rfl, rfl, rfl, rfl, rfl, its₂, n₂, _, Z₄, rfl, fun p hp => pick_off (off₄ p hp) [0, 1, 2, 4, 5, 6, 7] 8 rfl, fun p hp => mem_up NZ₂ hp fun a o q => up₄ a o (up₃ a o (q.imp id (hz₂ _))), rg₄, addL_canon hlm (addL_canon hm2 can'), fun v => ?_, ?_⟩
      · exact ne_led1 7 3 hIn rfl rfl off₄ rfl
      · rw [take_snoc hq]; exact half2 hlm hm2 can' hin v
      · omega
    · rename ¬ lo < mid => hlm
      have hml := hm3 hlm
      subst hml
      rename Fr _ _ _ _ => F
      rename News _ _ _ _ => N
      refine ⟨_, _, _, (xh, instObj 111 dh) :: (dh, rdict w.params lh th) :: (lh, listOf its₁.toArray n₁) :: (xg, instObj 111 dg) :: (dg, rdict w.params lg tg) :: (lg, listOf itsg.toArray ng) :: (L + 1, oC') :: Z₃, rfl, F, (news_pick N [3, 0, 1, 2, 4, 5, 6, 7] 8 rfl), ?_, rfl, rfl, rfl, rfl, rfl, its₁, n₁, _, Z₃, rfl, fun p hp => pick_off (off₃ p hp) [0, 1, 2, 4, 5, 6, 7] 8 rfl, hz₃, rg₃, addL_canon hm2 can', fun v => ?_, ?_⟩
      · exact ne_led1 7 3 hIn rfl rfl off₃ rfl
      · rw [take_snoc hq]; exact half1 hm2 can' hin v
      · omega
  · rintro m' news' h₆ tk₆ ⟨e1, e2, e3, e4, e5, its, n, rs', Z, rfl, offZ, hz₂, rg', can', hin, hlen⟩ F N
    replace F : Fr g L h₆ _ := F
    replace N : News g L h₆ _ := N
    replace F := fr_know (fr_know (fr_know (fr_know (fr_know F (x := Str.ofString "both") e1) (x := Str.ofString "spans") e2) (x := Str.ofString "who") e3) (x := Str.ofString "again") e4) (x := Str.ofString "halves") e5
    have hrs : rs' = rsw := Canon.unique can' can fun v => by rw [hin v, hda2, List.take_length]
    subst hrs
    have upZ : ∀ a o, Src g Z₂ a o → Src g Z a o := fun a o q => q.imp id (hz₂ _)
    have memR : ∀ p ∈ R, p ∈ Z := fun p hp => (upZ _ _ (upR p.1 p.2 (.inr hp))).elim (fun e => by rw [(NR p hp).2] at e; cases e) id
    have subZ : ∀ p ∈ Z, p ∈ (xh, instObj 111 dh) :: (dh, rdict w.params lh th) :: (lh, listOf its.toArray n) :: (xg, instObj 111 dg) :: (dg, rdict w.params lg tg) :: (lg, listOf itsg.toArray ng) :: (L + 1, oC') :: Z := fun p hp => by (repeat first | exact hp | apply List.Mem.tail)
    have ig : InSet w.params ((xh, instObj 111 dh) :: (dh, rdict w.params lh th) :: (lh, listOf its.toArray n) :: (xg, instObj 111 dg) :: (dg, rdict w.params lg tg) :: (lg, listOf itsg.toArray ng) :: (L + 1, oC') :: Z) (Src g ((xh, instObj 111 dh) :: (dh, rdict w.params lh th) :: (lh, listOf its.toArray n) :: (xg, instObj 111 dg) :: (dg, rdict w.params lg tg) :: (lg, listOf itsg.toArray ng) :: (L + 1, oC') :: Z)) xg dg lg itsg ng tg rs' := ⟨by k_mem, by k_mem, by k_mem, rgg.mono fun a o q => (upZ a o (up₂ a o q)).imp id (subZ _)⟩
    have ih : InSet w.params ((xh, instObj 111 dh) :: (dh, rdict w.params lh th) :: (lh, listOf its.toArray n) :: (xg, instObj 111 dg) :: (dg, rdict w.params lg tg) :: (lg, listOf itsg.toArray ng) :: (L + 1, oC') :: Z) (Src g ((xh, instObj 111 dh) :: (dh, rdict w.params lh th) :: (lh, listOf its.toArray n) :: (xg, instObj 111 dg) :: (dg, rdict w.params lg tg) :: (lg, listOf itsg.toArray ng) :: (L + 1, oC') :: Z)) xh dh lh its n th rs' := ⟨by k_mem, by k_mem, by k_mem, rg'.mono fun a o q => q.imp id (subZ _)⟩
    have iw' := iw.more (news' := (xh, instObj 111 dh) :: (dh, rdict w.params lh th) :: (lh, listOf its.toArray n) :: (xg, instObj 111 dg) :: (dg, rdict w.params lg tg) :: (lg, listOf itsg.toArray ng) :: (L + 1, oC') :: Z) fun p hp => subZ p (memR p hp)
    walk
    rename Fr _ _ _ _ => F
    rename News _ _ _ _ => N
    refine l_eq (s := { heap := _, gens := gn₀, drawn := dr₀, toks := _, os := os₀ }) X T F N ig iw' can.pos can.pos ?_
    clear F N
    intro h₇ tk₇ F N
    rw [decide_eq_true rfl]
    walk
    rename Fr _ _ _ _ => F
    rename News _ _ _ _ => N
    refine l_eq (s := { heap := _, gens := gn₀, drawn := dr₀, toks := _, os := os₀ }) X T F N iw' ih can.pos can.pos ?_
    clear F N
    intro h₈ tk₈ F N
    rw [decide_eq_true rfl]
    walk
    rename Fr _ _ _ _ => F
    rename News _ _ _ _ => N
    refine rs_item (its := [.ref S0, .ref S1]) (n := 0) N (subZ _ (memR _ hS)) hw.1 hw.2 hSw ?_
    walk
    rename Fr _ _ _ _ => F
    rename News _ _ _ _ => N
    rename_i De _ _
    have subD : ∀ p ∈ R, p ∈ (De, listOf #[] 0) :: (xh, instObj 111 dh) :: (dh, rdict w.params lh th) :: (lh, listOf its.toArray n) :: (xg, instObj 111 dg) :: (dg, rdict w.params lg tg) :: (lg, listOf itsg.toArray ng) :: (L + 1, oC') :: Z := fun p hp => .tail _ (subZ p (memR p hp))
    obtain ⟨vs', kk', aS', yS'⟩ := id (sw.mono (S' := Src g ((De, listOf #[] 0) :: (xh, instObj 111 dh) :: (dh, rdict w.params lh th) :: (lh, listOf its.toArray n) :: (xg, instObj 111 dg) :: (dg, rdict w.params lg tg) :: (lg, listOf itsg.toArray ng) :: (L + 1, oC') :: Z)) fun a o q => q.imp id (subD _))
    refine ne_pairs (vs := vs') (us := []) (rs := rs') (qs := []) ⟨_, aS'.here F N fun p hp => hp, rfl, _, rfl⟩ (yS'.mono fun a o q _ => q.here F N fun p hp => hp) ⟨_, N.get (by k_mem), rfl, _, rfl⟩ .nil (Nat.le_of_ble_eq_true rfl) ?_
    walk
    rotate_left
    · rename decide (rs' = []) = false => hne
      obtain ⟨q, qs, rfl⟩ : ∃ q qs, rs' = q :: qs := by
        cases rs' with
        | nil => simp at hne
        | cons q qs => exact ⟨q, qs, rfl⟩
      rename Fr _ _ _ _ => F
      rename News _ _ _ _ => N
      rw [List.length_cons] at hz
      refine l_shift (s := { heap := _, gens := gn₀, drawn := dr₀, toks := _, os := os₀ }) (oth := [(L + 1, oC')]) (Z := Z) X T F (news_cons N (by k_mem) (news_cons N (by k_mem) (news_cons N (by k_mem) (news_cons N (by k_mem) (news_mono N fun p hp => .tail _ (subZ p hp)))))) ?_ ?_ (rgg.mono fun a o q => upZ a o (up₂ a o q)) (by omega) ?_
      · intro p hp
        rw [List.mem_singleton.mp hp]
        exact ⟨ho₁ _ (.head _), notRng_cell hoC'⟩
      · intro p hp hm
        refine offZ p hp ?_
        simp only [List.map_cons, List.map_nil, List.mem_cons, List.not_mem_nil, or_false] at hm ⊢
        rcases hm with e | e | e | e <;> simp [e]
      clear F N
      intro h₁₀ tk₁₀ its₅ n₅ Z₅ r₅ u1 u2 u3 F N off₅ up₅ rg₅ _
      have memR₅ : ∀ p ∈ R, p ∈ Z₅ := fun p hp => (up₅ p.1 p.2 (.inr (memR p hp))).elim (fun e => by rw [(NR p hp).2] at e; cases e) id
      replace N : News g L h₁₀ ((xg, instObj 111 dg) :: (dg, rdict w.params lg tg) :: (lg, listOf its₅.toArray n₅) :: (L + 1, oC') :: Z₅) := N
      have sub₅ : ∀ p ∈ Z₅, p ∈ (xg, instObj 111 dg) :: (dg, rdict w.params lg tg) :: (lg, listOf its₅.toArray n₅) :: (L + 1, oC') :: Z₅ := fun p hp => by (repeat first | exact hp | apply List.Mem.tail)
      walk
      rename Fr _ _ _ _ => F
      rename News _ _ _ _ => N
      refine l_eq (s := { heap := _, gens := gn₀, drawn := dr₀, toks := _, os := os₀ }) (rs := qs) (rs' := q :: qs) X T F N ⟨by k_mem, by k_mem, by k_mem, rg₅.mono fun a o q => q.imp id (sub₅ _)⟩ (iw.more fun p hp => sub₅ p (memR₅ p hp)) (canon_tail can).1.pos can.pos ?_
      clear F N
      intro h₁₁ tk₁₁ F N
      rw [decide_eq_false (fun e => by have := congrArg List.length e; simp at this)]
      walk
      rename Fr _ _ _ _ => F
      rename News _ _ _ _ => N
      have sub : ∀ p ∈ R, p ∈ _ := fun p hp => sub₅ p (memR₅ p hp)
      refine rs_item (its := [.ref S0, .ref S1]) (n := 0) N (sub _ hS) hw.1 hw.2 hSw ?_
      walk
      rename Fr _ _ _ _ => F
      rename News _ _ _ _ => N
      refine l_same (s := { heap := _, gens := gn₀, drawn := dr₀, toks := _, os := os₀ }) X T F N hI (Kb F) rfl (iw.more sub) (sw.mono fun a o q => q.imp id (sub _)) ne (by first | omega | (rw [List.length_cons]; omega)) ?_
      clear F
      intro h₉ tk₉ F N
      walk
      rename Fr _ _ _ _ => F
      rename News _ _ _ _ => N
      exact fin _ _ _ _ _ F (news_cons N (by k_mem) (news_mono N sub)) hoC' rfl rfl
    · rename decide (rs' = []) = true => hne
      walk
      rename Fr _ _ _ _ => F
      rename News _ _ _ _ => N
      have sub : ∀ p ∈ R, p ∈ _ := subD
      refine rs_item (its := [.ref S0, .ref S1]) (n := 0) N (sub _ hS) hw.1 hw.2 hSw ?_
      walk
      rename Fr _ _ _ _ => F
      rename News _ _ _ _ => N
      refine l_same (s := { heap := _, gens := gn₀, drawn := dr₀, toks := _, os := os₀ }) X T F N hI (Kb F) rfl (iw.more sub) (sw.mono fun a o q => q.imp id (sub _)) ne (by first | omega | (rw [List.length_cons]; omega)) ?_
      clear F
      intro h₉ tk₉ F N
      walk
      rename Fr _ _ _ _ => F
      rename News _ _ _ _ => N
      exact fin _ _ _ _ _ F (news_cons N (by k_mem) (news_mono N sub)) hoC' rfl rfl

end
end L1
end

section
open PySem PySem.W PySem.Calls PyProof.Rows RS
open PySem.SeqAt
set_option maxRecDepth 100000
set_option maxHeartbeats 0
set_option linter.unusedVariables false
namespace L1
theorem warm_fin1 : (fun (_ : OpenLaw) (_ : Params → Frag) => True) PySem.Challenge.rw_lg0001_01 L1H.hd.heap_39 := by w_top off; k_fill; trivial
section
variable {prog : Program} {w : World} {A : Around} {E : Value → Shared → Prop} {s : Shared} {base : Heap} {p : Program} {loose : List Str} {mean : ExcName → Option Value} {mg mb : Str → Option Value}
theorem fin1_spec {body : List Stmt} {env : Env} {g : Heap} {L f : Addr} {cd : Value} {m : Str → Option Value} {news : List (Addr × Obj)} {BO TO SO x0 d0 l0 x1 d1 l1 D : Addr} {t0 t1 : Tok} {oD : Obj} {i : Nat}
    {Q : Flow → Shared → Prop} (hex : body = dropS 5 (fnBody (L1H.hd.heap_39 w.params) 144)) (henv : env = lawEnv w.params L f cd) (X : (L1H.hd.heap_39 w.params).In g) (T : Top p loose mean mg mb g) (hUn : Unsaid p loose (Str.ofString "IndexError"))
    (nd : List.Nodup [D, SO, TO, BO, x0, d0, l0, L + 1, x1, d1, l1]) (J : LawJ w.params g L BO TO SO x0 d0 l0 x1 d1 l1 t0 t1 D oD i m news) (hi : i ≤ 100)
    (F : Fr g L s.heap m) (N : News g L s.heap news) (h : ∀ h' tk' m', Fr g L h' m' → Q (.ret (.bool true)) { s with heap := h', toks := tk' }) :
    wpAny (model prog w) (callerA.deeper env) (execs body env) Q (fun _ _ => False) s := by
  subst hex henv
  obtain ⟨hb, hs⟩ := fn_of (K := L1H.hd.heap_39 w.params) (a := 144) (by k_is)
  obtain ⟨hp₀, gn₀, dr₀, tk₀, os₀⟩ := s
  dsimp only at F N h
  obtain ⟨oC, cv, T0, T1, S0, S1, its0, its1, n0, n1, rs0, rs1, ds0, ds1, bf, tb, Z, eB, eT, eS, ebf, rfl, hoC, sd0, sd1, offZ⟩ := J
  have nC := nodup_off nd [7, 4, 5, 6, 2, 1, 3, 8, 9, 10, 0] (by decide) rfl
  have hR : ∃ R, News g L hp₀ ((L + 1, oC) :: R) ∧ (∀ p ∈ R, p.1 ≠ L + 1) ∧ (∀ a o, Src g Z a o → Src g R a o) ∧ ((BO, listOf #[.ref x0, .ref x1] 0) ∈ R ∧ (SO, listOf #[.ref S0, .ref S1] 0) ∈ R) ∧
      ((x0, instObj 111 d0) ∈ R ∧ (d0, rdict w.params l0 t0) ∈ R ∧ (l0, listOf its0.toArray n0) ∈ R) ∧ ((x1, instObj 111 d1) ∈ R ∧ (d1, rdict w.params l1 t1) ∈ R ∧ (l1, listOf its1.toArray n1) ∈ R) := by
    refine ⟨_, news_pick N [3, 0, 1, 2, 4, 5, 6, 7, 8, 9, 10] 11 rfl, ?_, ?_, ⟨nthO_mem (i := 5) rfl, nthO_mem (i := 4) rfl⟩, ⟨nthO_mem (i := 0) rfl, nthO_mem (i := 1) rfl, nthO_mem (i := 2) rfl⟩, ⟨nthO_mem (i := 6) rfl, nthO_mem (i := 7) rfl, nthO_mem (i := 8) rfl⟩⟩
    · exact ne_led 10 3 nC rfl rfl offZ rfl
    · exact fun a o q => q.imp id fun hp => dropL_mem (n := 10) hp
  have ne0 : @Ne Nat S0 l0 := inlist_ne sd0.spans offZ (nthO_mem (i := 2) rfl) (N (l0, _) (nthO_mem (i := 2) rfl)).2.2
  have ne1 : @Ne Nat S1 l1 := inlist_ne sd1.spans offZ (nthO_mem (i := 9) rfl) (N (l1, _) (nthO_mem (i := 9) rfl)).2.2
  clear N nC offZ nd
  obtain ⟨R, N, nC, up, ⟨mB, mS⟩, ⟨a0, b0, c0⟩, ⟨a1, b1, c1⟩⟩ := hR
  have two : ∀ v ∈ [(0 : Int), 1], ∃ xw dw lw itsw nw tw rsw Sw, (0 ≤ v ∧ v < 2 ^ 63) ∧ [Value.ref x0, Value.ref x1][v.toNat]? = some (.ref xw) ∧ [Value.ref S0, Value.ref S1][v.toNat]? = some (.ref Sw) ∧ InSet w.params R (Src g R) xw dw lw itsw nw tw rsw ∧ InList IsPair (Src g R) Sw rsw ∧ Canon rsw ∧ rsw.length ≤ 100 ∧ (@Ne Nat Sw lw) :=
    allC ⟨x0, d0, l0, its0, n0, t0, rs0, S0, by decide, rfl, rfl, ⟨a0, b0, c0, sd0.rngs.mono up⟩, sd0.spans.mono up, sd0.canon, Nat.le_trans sd0.rlen hi, ne0⟩ (allC ⟨x1, d1, l1, its1, n1, t1, rs1, S1, by decide, rfl, rfl, ⟨a1, b1, c1, sd1.rngs.mono up⟩, sd1.spans.mono up, sd1.canon, Nat.le_trans sd1.rlen hi, ne1⟩ allN)
  clear sd0 sd1 a0 b0 c0 a1 b1 c1 ne0 ne1 up ebf eT
  unfold lawEnv at *
  rw [hb, hs]
  clear hb hs
  dsimp only [nthS, forBody, dropS]
  replace F := fr_know (fr_know F (x := Str.ofString "both") eB) (x := Str.ofString "spans") eS
  walk
  refine wpAny_For ?_
  walk
  rename Fr _ _ _ _ => F
  rename News _ _ _ _ => N
  rename_i Tp _ _
  rename L + 1 < Tp ∧ _ => lTp
  obtain ⟨oT, t₁, t₂, hoc, hod, N⟩ : ∃ (oT : Obj) (t₁ t₂ : Tok), oT.cls = .type "tuple" ∧ oT.data = .seq #[.int 0 t₁, .int 1 t₂] ∧ News g L _ ((Tp, oT) :: (L + 1, oC) :: R) := ⟨_, _, _, rfl, rfl, N⟩
  have nR : ∀ p ∈ (Tp, oT) :: R, p.1 ≠ L + 1 := allC (fun e => Nat.lt_irrefl (L + 1) (e ▸ lTp.1)) nC
  have N1 := news_pick N [1, 0] 2 rfl
  have upT : ∀ p ∈ R, p ∈ (Tp, oT) :: R := fun p hp => .tail _ hp
  clear lTp
  dsimp only
  refine for_tuple (vs := [.int 0 t₁, .int 1 t₂]) (fix := [(Tp, oT)]) rfl rfl rfl ⟨oT, N1.get (.tail _ (.head _)), hoc, 0, hod⟩ (N _ (.head _)).2.1 (.inr ⟨_, .head _⟩) F N1
    (fun i m' news' => m' (Str.ofString "both") = some (.ref BO) ∧ m' (Str.ofString "spans") = some (.ref SO) ∧ ∃ oC cv, news' = (L + 1, oC) :: (Tp, oT) :: R ∧ oC.data = .cell cv) ?_ ⟨rfl, rfl, oC, cv, rfl, hoC⟩ ?_ ?_
  · rintro i m' news' ⟨_, _, _, _, rfl, _⟩ q hq
    rw [List.mem_singleton.mp hq]; exact .tail _ (.head _)
  · rintro i v I oI m₃ news' h₃ tk₃ hoI hi ⟨e1, e2, oC, cv, rfl, hoC⟩ hlt off F N
    have nI : ∀ p ∈ (I, oI) :: (Tp, oT) :: R, p.1 ≠ L + 1 := allC (fun e => off (_, oC) (.head _) e.symm) nR
    obtain ⟨wh, twh, rfl, hwh⟩ : ∃ wh twh, v = .int wh twh ∧ wh ∈ [(0 : Int), 1] := by
      have := List.mem_of_getElem? hi
      simp only [List.mem_cons, List.not_mem_nil, or_false] at this
      rcases this with rfl | rfl
      · exact ⟨_, _, rfl, .head _⟩
      · exact ⟨_, _, rfl, .tail _ (.head _)⟩
    have upI : ∀ p ∈ R, p ∈ (I, oI) :: (Tp, oT) :: R := fun p hp => .tail _ (upT p hp)
    obtain ⟨xw, dw, lw, itsw, nw, tw, rsw, Sw, hw, hBw, hSw, iw, sw, can, hz, ne⟩ := two wh hwh
    refine two_spec (x0 := x0) (x1 := x1) (S0 := S0) (S1 := S1) (BO := BO) (SO := SO) (R := (I, oI) :: (Tp, oT) :: R) (by obtain ⟨hb, _⟩ := fn_of (K := L1H.hd.heap_39 w.params) (a := 144) (by k_is); (first | unfold lawTurn | unfold lawTwo | unfold lawT2 | unfold lawV2 lawW2 | unfold lawW2 | skip); first | (rw [hb]; done) | (rw [hb]; rfl)) (by obtain ⟨_, hs⟩ := fn_of (K := L1H.hd.heap_39 w.params) (a := 144) (by k_is); unfold lawEnv; first | (rw [hs]; done) | (rw [hs]; rfl)) X T hUn F (news_pick N [1, 0, 2] 3 rfl) nI hoC e1 e2 rfl (upI _ mB) (upI _ mS) hw hBw hSw ⟨upI _ iw.mx, upI _ iw.md, upI _ iw.ml, iw.rg.mono fun a o q => q.imp id (upI _)⟩ (sw.mono fun a o q => q.imp id (upI _)) can hz ne ?_
    clear F N
    intro h' tk' m' oC' cv' F N hoC' e1 e2
    exact ⟨_, _, _, (L + 1, oC') :: (Tp, oT) :: R, rfl, F, news_pick N [1, 0, 2] 3 rfl, allC (off (_, oC) (.head _)) fun p hp => off p (.tail _ hp), e1, e2, oC', cv', rfl, hoC'⟩
  · rintro m₃ news' h₃ tk₃ ⟨e1, e2, oC, cv, rfl, hoC⟩ F N
    replace F : Fr g L h₃ _ := F
    replace N : News g L h₃ _ := N
    walk
    rename Fr _ _ _ _ => F
    exact h _ _ _ F

end
end L1
end

section
open PySem PySem.W PySem.Calls PyProof.Rows RS
open PySem.SeqAt
set_option maxRecDepth 100000
set_option maxHeartbeats 0
set_option linter.unusedVariables false
namespace L1
theorem warm_law : (fun (_ : OpenLaw) (_ : Params → Frag) => True) PySem.Challenge.rw_lg0001_01 L1H.hd.heap_39 := by w_top off; k_fill; trivial
section
variable {prog : Program} {w : World} {A : Around} {E : Value → Shared → Prop} {s : Shared} {base : Heap} {p : Program} {loose : List Str} {mean : ExcName → Option Value} {mg mb : Str → Option Value}
local macro_rules | `(tactic| k_steps) => `(tactic| repeat' (first | (k_unfold; (try dsimp only)) | ((fail_if_success (with_reducible (apply stoppedN; constructor))); (fail_if_success (with_reducible (apply stoppedL; constructor))); (fail_if_success (with_reducible (apply stopped; constructor))); (first | walk1 | (dsimp only; walk1)))))
def Ret1 (g : Heap) (L : Addr) (s : Shared) (fl : Flow) (s' : Shared) : Prop :=
  fl = .ret (.bool true) ∧ ∃ h' tk' m', Fr g L h' m' ∧ s' = { s with heap := h', toks := tk' }
theorem nodup14 {D a0 a1 a2 a3 a4 a5 a6 a7 a8 a9 a10 a11 a12 a13 : Nat} (nd : [a0, a1, a2, a3, a4, a5, a6, a7, a8, a9, a10, a11, a12, a13].Nodup)
    (l : a0 < D ∧ a1 < D ∧ a2 < D ∧ a3 < D ∧ a4 < D ∧ a5 < D ∧ a6 < D ∧ a7 < D ∧ a8 < D ∧ a9 < D ∧ a10 < D ∧ a11 < D ∧ a12 < D ∧ a13 < D) : [D, a0, a1, a2, a3, a4, a5, a6, a7, a8, a9, a10, a11, a12, a13].Nodup := by
  refine List.nodup_cons.mpr ⟨fun q => ?_, nd⟩
  have : ∀ a ∈ [a0, a1, a2, a3, a4, a5, a6, a7, a8, a9, a10, a11, a12, a13], a < D := by
    simp only [List.mem_cons, List.not_mem_nil, or_false, forall_eq_or_imp, forall_eq]; exact l
  exact Nat.lt_irrefl _ (this D q)
theorem law_work : PySem.Challenge.rw_lg0001_01.Holds := L1H.hd (by
  k_go0
  all_goals (try k_fold)
  have hdep : ∀ e, (callerA.deeper e).depth = 302 := fun e => rfl
  rename (L1H.hd.heap_39 _).In _ => X
  rename Top _ _ _ _ _ _ => T
  rename Below _ _ _ _ => K0
  rename IntsAre _ _ => hIs
  rename PySem.Heap.IsList _ _ _ => hLs
  k_steps
  rename Fr _ _ _ _ => F
  rename News _ _ _ _ => N
  refine new0_spec (A := callerA.deeper _) (s := { heap := _, gens := _, drawn := _, toks := _, os := _ }) (base := _) F.keep X T (by rw [hdep]; decide) rfl ?_
  intro x0 d0 l0 h2 tk2 its0 n0 t0 st2 r0 y0 fr0
  dsimp only at st2 fr0
  obtain rfl := rngs_nil y0
  have nd0 := nodup_set (nodup_one _) rfl F N fr0 r0.apart
  replace N := news_rs F N st2 r0 fr0
  replace F := F.keeps st2
  k_steps
  rename Fr _ _ _ _ => F
  rename News _ _ _ _ => N
  refine new0_spec (A := callerA.deeper _) (s := { heap := _, gens := _, drawn := _, toks := _, os := _ }) (base := _) F.keep X T (by rw [hdep]; decide) rfl ?_
  intro x1 d1 l1 h3 tk3 its1 n1' t1 st3 r1 y1 fr1
  dsimp only at st3 fr1
  obtain rfl := rngs_nil y1
  have nd1 := nodup_set nd0 rfl F N fr1 r1.apart
  clear nd0
  replace N := news_rs F N st3 r1 fr1
  replace F := F.keeps st3
  k_steps
  rename Fr _ _ _ _ => F
  rename News _ _ _ _ => N
  refine rs_newList F N ?_
  clear F N
  intro BO h4 F N lBBO _
  have nd2 := nodup_new nd1 rfl lBBO
  clear nd1
  k_lt lBBO
  clear lBBO
  k_steps
  rename Fr _ _ _ _ => F
  rename News _ _ _ _ => N
  refine rs_newList F N ?_
  clear F N
  intro T0 h4 F N lBT0 _
  have nd3 := nodup_new nd2 rfl lBT0
  clear nd2
  k_lt lBT0
  clear lBT0
  k_steps
  rename Fr _ _ _ _ => F
  rename News _ _ _ _ => N
  refine rs_newList F N ?_
  clear F N
  intro T1 h4 F N lBT1 _
  have nd4 := nodup_new nd3 rfl lBT1
  clear nd3
  k_lt lBT1
  clear lBT1
  k_steps
  rename Fr _ _ _ _ => F
  rename News _ _ _ _ => N
  refine rs_newList F N ?_
  clear F N
  intro TO h4 F N lBTO _
  have nd5 := nodup_new nd4 rfl lBTO
  clear nd4
  k_lt lBTO
  clear lBTO
  k_steps
  rename Fr _ _ _ _ => F
  rename News _ _ _ _ => N
  refine rs_newList F N ?_
  clear F N
  intro S0 h4 F N lBS0 _
  have nd6 := nodup_new nd5 rfl lBS0
  clear nd5
  k_lt lBS0
  clear lBS0
  k_steps
  rename Fr _ _ _ _ => F
  rename News _ _ _ _ => N
  refine rs_newList F N ?_
  clear F N
  intro S1 h4 F N lBS1 _
  have nd7 := nodup_new nd6 rfl lBS1
  clear nd6
  k_lt lBS1
  clear lBS1
  k_steps
  rename Fr _ _ _ _ => F
  rename News _ _ _ _ => N
  refine rs_newList F N ?_
  clear F N
  intro SO h4 F N lBSO _
  have nd8 := nodup_new nd7 rfl lBSO
  clear nd7
  k_lt lBSO
  clear lBSO
  k_steps
  refine wpAny_For ?_
  k_steps
  walk1
  k_steps
  rename Fr _ _ _ _ => F
  rename News _ _ _ _ => N
  rename IntsAre _ (List.take 12 _) => hI12
  rename (List.take 12 _).length = _ => hlen12
  rename _ < _ ∧ _ => lD
  rename PySem.Obj.data _ = PySem.Data.cell _ => hC
  rename_i gC D5 _ _ _
  rename Shared => s1
  rename PySem.Obj => oC
  rename List Value => ws
  rename World => w
  dsimp only at nd8
  have N1 : News s1.heap s1.heap.objs.size _ (lawLed w.params s1.heap.objs.size oC BO TO SO x0 d0 l0 x1 d1 l1 T0 T1 S0 S1 t0 t1 [] [] n0 n1' D5 _ [(T0, listOf #[] 0), (T1, listOf #[] 0), (S0, listOf #[] 0), (S1, listOf #[] 0)]) := news_pick N [11, 12, 13, 14, 4, 1, 7, 8, 9, 10, 0, 6, 5, 3, 2] 15 rfl
  replace hC : ∃ cv, oC.data = PySem.Data.cell cv := ⟨_, hC⟩
  obtain ⟨cv, hC⟩ := hC
  rename CellsAre _ _ _ => zc; clear zc
  rename PySem.Heap.CodeRec _ _ _ => zc; clear zc
  rename Dflts _ _ _ _ _ _ => zc; clear zc
  have hUn : Unsaid L1H.hd.view_39 (looseW L1H.hd.view_39 [Str.ofString "RangeSet"]) (Str.ofString "IndexError") := ⟨by decide +kernel, by decide +kernel, by decide +kernel, by decide +kernel⟩
  replace F : ∃ m₀, Fr s1.heap s1.heap.objs.size _ m₀ ∧ m₀ (Str.ofString "both") = some (.ref BO) ∧ m₀ (Str.ofString "told") = some (.ref TO) ∧ m₀ (Str.ofString "spans") = some (.ref SO) ∧ ∃ tb, m₀ (Str.ofString "before") = some (.int 0 tb) := ⟨_, F, rfl, rfl, rfl, _, rfl⟩
  obtain ⟨m₀, F, eB, eT, eS, tb₀, eb⟩ := F
  have nd9 : List.Nodup [D5, SO, S1, S0, TO, T1, T0, BO, x1, d1, l1, x0, d0, l0, s1.heap.objs.size + 1] := nodup14 (D := D5) (a0 := SO) (a1 := S1) (a2 := S0) (a3 := TO) (a4 := T1) (a5 := T0) (a6 := BO) (a7 := x1) (a8 := d1) (a9 := l1) (a10 := x0) (a11 := d0) (a12 := l0) (a13 := s1.heap.objs.size + 1) nd8 lD
  have hnd : List.Nodup [D5, SO, TO, BO, x0, d0, l0, s1.heap.objs.size + 1, x1, d1, l1] := nodup_pick nd9 [0, 1, 4, 7, 11, 12, 13, 14, 8, 9, 10] (by decide) rfl
  have hZ : ∀ p ∈ ([(T0, listOf #[] 0), (T1, listOf #[] 0), (S0, listOf #[] 0), (S1, listOf #[] 0)] : List (Addr × Obj)), p.1 ∉ [x0, d0, l0, s1.heap.objs.size + 1, TO, SO, BO, x1, d1, l1, D5] := allC (nodup_off nd9 [6, 11, 12, 13, 14, 4, 1, 7, 8, 9, 10, 0] (by decide) rfl) (allC (nodup_off nd9 [5, 11, 12, 13, 14, 4, 1, 7, 8, 9, 10, 0] (by decide) rfl) (allC (nodup_off nd9 [3, 11, 12, 13, 14, 4, 1, 7, 8, 9, 10, 0] (by decide) rfl) (allC (nodup_off nd9 [2, 11, 12, 13, 14, 4, 1, 7, 8, 9, 10, 0] (by decide) rfl) allN)))
  clear N lD nd8 nd9
  refine for_list (fix := [(D5, listOf ws.toArray 0)]) rfl rfl rfl ⟨_, N1.get (by k_mem), rfl, _, rfl⟩ (N1 (D5, listOf ws.toArray 0) (by k_mem)).2.1 (.inr ⟨_, .head _⟩) F N1 (LawJ w.params s1.heap s1.heap.objs.size BO TO SO x0 d0 l0 x1 d1 l1 t0 t1 D5 (listOf ws.toArray 0)) ?_ ?_ ?_ ?_
  · rintro i m' news' ⟨oC, cv, T0, T1, S0, S1, its0, its1, n0, n1, rs0, rs1, ds0, ds1, bf, tb, Z, _, _, _, _, rfl, _⟩ q hq
    rw [List.mem_singleton.mp hq]; exact nthO_mem (i := 10) rfl
  · exact ⟨oC, cv, T0, T1, S0, S1, [], [], n0, n1', [], [], [], [], 0, tb₀, _, eB, eT, eS, eb, rfl, hC, .new (.inr (.head _)) (.inr (.tail _ (.tail _ (.head _)))), .new (.inr (.tail _ (.head _))) (.inr (.tail _ (.tail _ (.tail _ (.head _))))), hZ⟩
  · rintro i v I oI m' news' h tk hoI hi J hlt off F N
    have hil := (List.getElem?_eq_some_iff.mp hi).1
    rw [hI12.length, List.length_take] at hil
    obtain ⟨nv, hnv⟩ : ∃ nv, (List.take 12 _)[i]? = some nv := ⟨_, List.getElem?_eq_getElem (by rw [List.length_take]; exact hil)⟩
    obtain ⟨tnv, hv⟩ := hI12.get _ _ hnv
    rw [hi] at hv
    cases hv
    exact turn_top (by obtain ⟨hb, _⟩ := fn_of (K := L1H.hd.heap_39 w.params) (a := 144) (by k_is); (first | unfold lawTurn | unfold lawTwo | unfold lawT2 | unfold lawV2 lawW2 | unfold lawW2 | skip); first | (rw [hb]; done) | (rw [hb]; rfl)) (by obtain ⟨_, hs⟩ := fn_of (K := L1H.hd.heap_39 w.params) (a := 144) (by k_is); unfold lawEnv; first | (rw [hs]; done) | (rw [hs]; rfl)) X T hUn hnd rfl hoI J off (by omega) F N
  · rintro m' news' h tk J F N
    have hws : ws.length ≤ 100 := by rw [hI12.length, List.length_take]; omega
    replace F : Fr s1.heap s1.heap.objs.size h _ := F
    replace N : News s1.heap s1.heap.objs.size h _ := N
    dsimp only
    refine wpAny_mono (Q := Ret1 s1.heap s1.heap.objs.size s1) (fin1_spec (s := { heap := h, gens := s1.gens, drawn := s1.drawn, toks := tk, os := s1.os }) (by obtain ⟨hb, _⟩ := fn_of (K := L1H.hd.heap_39 w.params) (a := 144) (by k_is); (first | unfold lawTurn | unfold lawTwo | unfold lawT2 | unfold lawV2 lawW2 | unfold lawW2 | skip); first | (rw [hb]; done) | (rw [hb]; rfl)) (by obtain ⟨_, hs⟩ := fn_of (K := L1H.hd.heap_39 w.params) (a := 144) (by k_is); unfold lawEnv; first | (rw [hs]; done) | (rw [hs]; rfl)) X T hUn hnd J hws F N fun h' tk' m' F => ⟨rfl, h', tk', m', F, rfl⟩) ?_ fun _ _ x => x.elim
    rintro fl s' ⟨rfl, h', tk', m', F', rfl⟩
    walk
    show GoodW _ _ _ _ _ (.ok (.ret (.bool true))) _
    refine goodW_bool (by assumption) (by assumption) (raisesW_false ?_) ?_
    · wrow_none_raised
    · wrow_post)

end
end L1
end
end

theorem PySem.Challenge.cw_lg0001_01_holds : PySem.Challenge.rw_lg0001_01.Holds := by
  exact L1.law_work
