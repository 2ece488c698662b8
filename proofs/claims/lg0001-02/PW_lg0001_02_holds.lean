import PyProof.Rows.All
import Wide.All
import OpenK.AllK
import Wide.FinOn
import KE.KUnpack
import PySem.Challenge.RW_lg0001_02
set_option Elab.async false
set_option maxHeartbeats 0
set_option maxRecDepth 100000
set_option linter.unusedVariables false
set_option linter.unusedSimpArgs false

section
open PySem PySem.W PySem.Calls PyProof.Rows
set_option maxRecDepth 100000
namespace RS

/-- where the walk stops: a lemma of ours goes on -/
inductive IsStop : {α : Type} → Sem α → Prop
  | s1 (a b c d e f) : IsStop (exec (Stmt.For a b c d e) f)
  | s2 (a b c d e) : IsStop (exec (Stmt.While a b c d) e)
  | s3 (a b c d e) : IsStop (eval (Expr.ListComp a b c d) e)
  | s4 (a b c d) : IsStop (subscriptTail a b (Value.ref c) d)
  | s5 (a b c) : IsStop (setItem (Value.ref a) b c)
  | s6 (a) : IsStop (call (Value.builtin "list.insert") a)
  | s7 (a) : IsStop (call (Value.builtin "list.pop") a)
  | s8 (a) : IsStop (call (Value.builtin "list.append") a)
  | s9 (a) : IsStop (pyIter (Value.ref a))
  | s10 (a b) : IsStop (compareOp CmpOp.Eq (Value.ref a) (Value.ref b))
  | s11 (a b) : IsStop (compareOp CmpOp.NotEq (Value.ref a) (Value.ref b))
  | s12 (a) : IsStop (call (Value.builtin "iter") a)
  | s13 (a) : IsStop (call (Value.builtin "sorted") a)
  | s14 (a) : IsStop (call (Value.builtin "sum") a)
  | s15 (a b) : IsStop (call (Value.ref a) b)
inductive IsStopN : {α : Type} → Sem α → Prop
  | n1 (a) : IsStopN (call (Value.type "range") a)
  | n2 (a) : IsStopN (newList a)
  | n3 (a) : IsStopN (newTuple a)
inductive IsStopL : {α : Type} → Sem α → Prop
  | l1 (a b c d e) : IsStopL (exec (Stmt.If a b c d) e)
  | l2 (a b c d) : IsStopL (eval (Expr.BoolOp a b c) d)
theorem stopped {M : Model} {A : Around} {α : Type} {c : Sem α} {Q : α → Shared → Prop} {E : Value → Shared → Prop} {s : Shared} (_ : IsStop c) (h : False) : wpAny M A c Q E s := h.elim
theorem stoppedN {M : Model} {A : Around} {α : Type} {c : Sem α} {Q : α → Shared → Prop} {E : Value → Shared → Prop} {s : Shared} (_ : IsStopN c) (h : False) : wpAny M A c Q E s := h.elim
theorem stoppedL {M : Model} {A : Around} {α : Type} {c : Sem α} {Q : α → Shared → Prop} {E : Value → Shared → Prop} {s : Shared} (_ : IsStopL c) (h : False) : wpAny M A c Q E s := h.elim

def KeepBut (W : List Addr) (h h' : Heap) : Prop := ∀ b o, b ∉ W → h.get? b = some o → h'.get? b = some o
theorem KeepBut.stays {W : List Addr} {h h' h'' : Heap} (a : KeepBut W h h') (b : h'.StaysIn h'') : KeepBut W h h'' := fun x o n e => b x o (a x o n e)
theorem KeepBut.nil {h h' : Heap} (a : KeepBut [] h h') : h.StaysIn h' := fun x o e => a x o (List.not_mem_nil) e

section
variable {prog : Program} {w : World} {A : Around} {s : Shared} {base : Heap} {K : Frag} {p : Program} {loose : List Str} {mean : ExcName → Option Value} {mg mb : Str → Option Value} {news : List (Addr × Obj)}
  {R : Result → Shared → Prop} {name qual : Str} {params : Arguments} {body : List Stmt} {scope : Scope} {dV kV doc pm cdv ct oc : Value} {an od : Option Addr} {osl : Array (Option Value)} {f : Addr} {args : Args} {binds : List (Str × Value)}

theorem ground (hb : base.StaysIn s.heap) (N : ∀ q ∈ news, s.heap.get? q.1 = some q.2 ∧ base.get? q.1 = none) :
    base.StaysIn (hideAll s.heap (news.map (·.1))) ∧ KeepBut (news.map (·.1)) s.heap (hideAll s.heap (news.map (·.1))) :=
  ⟨fun b o e => hideAll_get _ (hb b o e) (fun q => by
    obtain ⟨p, hp, rfl⟩ := List.mem_map.mp q
    rw [(N p hp).2] at e; cases e), fun b o n e => hideAll_get _ e n⟩

theorem enterK (news : List (Addr × Obj)) (hb : base.StaysIn s.heap) (X : K.In base) (T : Top p loose mean mg mb base)
    (N : ∀ q ∈ news, s.heap.get? q.1 = some q.2 ∧ base.get? q.1 = none)
    (ho : K.lookup f = some ⟨oc, od, .func (fnOf name qual params body scope dV kV doc pm an cdv ct), osl⟩) (hcd : codeIn K cdv qual = true) (hroom : A.depth < recursionLimit)
    (hbind : BindsTo s (fnOf name qual params body scope dV kV doc pm an cdv ct) args binds) (hloc : ∀ y ∈ binds, scope.names.lookup y.1 = some .local)
    (h : ∀ g L' h₁, Fr g L' h₁ (fun y => binds.reverse.lookup y) → News g L' h₁ news → K.In g → Top p loose mean mg mb g → base.StaysIn g → KeepBut (news.map (·.1)) s.heap g → (∀ q ∈ news, q.1 < L') →
      wpAny (model prog w) (A.deeper (envOf qual scope L' f cdv)) (execs body (envOf qual scope L' f cdv))
        (fun fl s' => R (.ok (.ret (match fl with | .ret v => v | _ => .none))) s') (fun _ _ => False)
        { s with heap := h₁, toks := s.toks + binds.length })
    (hco : scope.isCoroutine = false) (hgen : scope.isGenerator = false) (hk : scope.kind = .function)
    (hcell : ∀ x ∈ scope.names, x.2 ≠ .cell) : codeAny (model prog w) A (.call (.ref f) args) R s := by
  obtain ⟨st, kb⟩ := ground hb N
  have Xg : K.In (hideAll s.heap (news.map (·.1))) := fun a o e => st _ _ (X a o e)
  have Tg : Top p loose mean mg mb (hideAll s.heap (news.map (·.1))) := T.keeps st
  refine codeAny_call_def (fd := fnOf name qual params body scope dV kV doc pm an cdv ct) (body := body) (binds := binds) hroom (hb _ _ (X _ _ ho)) rfl (T.nolimit.keeps hb)
    (codeRec_of (fun a o e => hb _ _ (X a o e)) hcd) rfl hbind hcell hloc (fun h₁ hns hk₁ => ?_) hco hgen hk
  refine wpAny_mono (h (hideAll s.heap (news.map (·.1))) s.heap.objs.size h₁ ⟨hns, fun b o e => hk₁ b o (of_hideAll _ e), Nat.le_of_eq (hideAll_size _ _)⟩
    (fun p hp => ⟨hk₁ _ _ (N p hp).1, Nat.ne_of_lt (Heap.lt_size (N p hp).1), hideAll_none _ (List.mem_map_of_mem hp)⟩) Xg Tg st kb
    (fun q hq => Heap.lt_size (N q hq).1)) (fun fl s' hl => hl) fun _ _ y => y.elim
end

theorem call_code {M : Model} {A : Around} {E : Value → Shared → Prop} {s : Shared} {f : Value} {pos : List Value} {kw : List (Str × Value)} {Q : Value → Shared → Prop}
    (h : codeAny M A (.call f ⟨pos, kw⟩) (fun r s' => match r with | .ok (.ret v) => Q v s' | .ok _ => False | .error e => E e s') s) : wpAny M A (call f pos kw) Q E s := wpAny_call h

theorem dlt {a b c : Nat} (h : a < b) (hc : b + 1 ≤ c := by decide) : a + 1 < c := Nat.lt_of_lt_of_le (Nat.succ_lt_succ h) hc
end RS
end

section
open PySem PySem.W PySem.Calls PyProof.Rows
open Sem (wp)
set_option maxRecDepth 100000
set_option maxHeartbeats 0
namespace RS

abbrev rngO (a b : Int) (t u v : Tok) : Obj := { cls := .type "range", dict := none, data := .fields #[.int a t, .int b u, .int 1 v], slots := #[] }

namespace FX
theorem entry_range_ga : entryFor table "range.__getattribute__" = some Builtin.«object.__getattribute__» :=
  entryFor_alias (id' := "object.__getattribute__") (by kernel_rfl) (by first | rfl | decide +kernel) (by decide +kernel) (by kernel_rfl)
theorem lk_start : typeLookup (.type "range") "start" = pure (some (.builtin "range.start")) := by rw [typeLookup_type, builtinLookup_eq_fast]; kernel_rfl
theorem lk_stop : typeLookup (.type "range") "stop" = pure (some (.builtin "range.stop")) := by rw [typeLookup_type, builtinLookup_eq_fast]; kernel_rfl
theorem lk_step : typeLookup (.type "range") "step" = pure (some (.builtin "range.step")) := by rw [typeLookup_type, builtinLookup_eq_fast]; kernel_rfl
theorem ty_start : typeOf (.builtin "range.start") = pure (.type "member_descriptor") := by show builtinType _ = _; rw [builtinType_eq_fast]; kernel_rfl
theorem ty_stop : typeOf (.builtin "range.stop") = pure (.type "member_descriptor") := by show builtinType _ = _; rw [builtinType_eq_fast]; kernel_rfl
theorem ty_step : typeOf (.builtin "range.step") = pure (.type "member_descriptor") := by show builtinType _ = _; rw [builtinType_eq_fast]; kernel_rfl
theorem entry_start : entryFor table "range.start" = some Builtin.«range.start» := entryFor_of_tree (by kernel_rfl)
theorem entry_stop : entryFor table "range.stop" = some Builtin.«range.stop» := entryFor_of_tree (by kernel_rfl)
theorem entry_step : entryFor table "range.step" = some Builtin.«range.step» := entryFor_of_tree (by kernel_rfl)
theorem own_start : (".".intercalate ("range.start".cutAt '.').dropLast) = "range" := by
  have e0 : "range.start".cutAt '.' = ["range", "start"] := by first | rfl | decide +kernel
  rw [e0]; decide +kernel
theorem own_stop : (".".intercalate ("range.stop".cutAt '.').dropLast) = "range" := by
  have e0 : "range.stop".cutAt '.' = ["range", "stop"] := by first | rfl | decide +kernel
  rw [e0]; decide +kernel
theorem own_step : (".".intercalate ("range.step".cutAt '.').dropLast) = "range" := by
  have e0 : "range.step".cutAt '.' = ["range", "step"] := by first | rfl | decide +kernel
  rw [e0]; decide +kernel
theorem sub_rr : isSubtype (.type "range") (.type "range") = pure true := by rw [isSubtype_type]; kernel_rfl
theorem slot_mem_set : Slot "member_descriptor" "__set__" "member_descriptor.__set__" := KF.slot_mset
end FX

section
variable {prog : Program} {w : World} {A : Around} {E : Value → Shared → Prop} {h : Heap} {g : Array GenState} {d : Drawn} {t : Nat} {os : OsState} {a : Addr} {lo hi : Int} {t1 t2 t3 : Tok}

theorem start_get {R : Result → Shared → Prop} (hx : h.get? a = some (rngO lo hi t1 t2 t3)) (hq : R (.ok (.ret (.int lo t1))) ⟨h, g, d, t, os⟩) :
    codeAny (model prog w) A (.call (.builtin "member_descriptor.__get__") ⟨[.builtin "range.start", .ref a, .type "range"], []⟩) R ⟨h, g, d, t, os⟩ := by
  have hT : (⟨h, g, d, t, os⟩ : Shared).TypeIs (.ref a) "range" := ⟨_, hx, rfl⟩
  have hT5 : (⟨h, g, d, t, os⟩ : Shared).TypeIs (.builtin "range.start") "member_descriptor" := FX.ty_start
  have f8 : isSubtype (.type "range") (.type (".".intercalate ("range.start".cutAt '.').dropLast)) = pure true := by rw [FX.own_start]; exact FX.sub_rr
  refine codeAny_call_builtin KF.slot_mem.plain KF.entry_mem (KF.slot_mem.check _ _ _ _ _ _ _ _ hT5 (KF.args_mem _ _ _) ?_)
  repeat (any_goals (first | assumption | wp_step))
  refine ⟨Code.quiet_builtin _ (by decide +kernel), codeAny_builtin FX.entry_start ?_⟩
  unfold Builtin.«range.start»
  repeat (any_goals (first | assumption | with_reducible refine wpAny_field hx rfl rfl ?_ | wp_step))

theorem start_entry {tk : Tok} {Q : Fin → Shared → Prop} (hx : h.get? a = some (rngO lo hi t1 t2 t3)) (hq : Q (.done (.ret (.int lo t1))) ⟨h, g, d, t, os⟩) :
    wpAny (model prog w) A (Builtin.«object.__getattribute__» ⟨[.ref a, .str "start" tk], []⟩) Q E ⟨h, g, d, t, os⟩ := by
  have hT : (⟨h, g, d, t, os⟩ : Shared).TypeIs (.ref a) "range" := ⟨_, hx, rfl⟩
  have hT5 : (⟨h, g, d, t, os⟩ : Shared).TypeIs (.builtin "range.start") "member_descriptor" := FX.ty_start
  have f4 := FX.lk_start
  have f5 := FX.ty_start
  have f6 := KF.slot_mem.lookup
  have f7 := KF.slot_mset.lookup
  repeat (any_goals (first | assumption | wp_step))
  refine start_get hx ?_
  repeat (any_goals (first | assumption | wp_step))

theorem start_call {tk : Tok} {R : Result → Shared → Prop} (hx : h.get? a = some (rngO lo hi t1 t2 t3)) (hq : R (.ok (.ret (.int lo t1))) ⟨h, g, d, t, os⟩) :
    codeAny (model prog w) A (.call (.builtin "range.__getattribute__") ⟨[.ref a, .str "start" tk], []⟩) R ⟨h, g, d, t, os⟩ :=
  codeAny_call_builtin F.slot_range_getattribute.plain FX.entry_range_ga (F.slot_range_getattribute.check _ _ _ _ _ _ _ _ (show (⟨h, g, d, t, os⟩ : Shared).TypeIs (.ref a) "range" from ⟨_, hx, rfl⟩) (F.args_range_getattribute_2 _ _) (start_entry hx hq))

theorem start_by {tk : Tok} {fill expr : Bool} {Q : Value → Shared → Prop} (hx : h.get? a = some (rngO lo hi t1 t2 t3))
    (hq : Q (.int lo t1) ⟨h, g, d, t, os⟩) : wpAny (model prog w) A (getAttrBy (.ref a) (.str "start" tk) fill expr) Q E ⟨h, g, d, t, os⟩ := by
  have hT : (⟨h, g, d, t, os⟩ : Shared).TypeIs (.ref a) "range" := ⟨_, hx, rfl⟩
  have f2 := F.slot_range_getattribute.lookup
  have f3 := F.slot_range_getattribute.bind (.ref a)
  have hx0 : (expr && onTheHeap (Value.builtin "range.__getattribute__")) = false := by cases expr <;> rfl
  repeat (any_goals (first | assumption | wp_step))
  refine start_call hx ?_
  repeat (any_goals (first | assumption | wp_step))

theorem start_attr {expr : Bool} {Q : Value → Shared → Prop} (hx : h.get? a = some (rngO lo hi t1 t2 t3))
    (hq : Q (.int lo t1) ⟨h, g, d, t + 1, os⟩) : wpAny (model prog w) A (getAttr (.ref a) "start" expr) Q E ⟨h, g, d, t, os⟩ := by
  unfold getAttr
  repeat (any_goals (first | assumption | with_reducible apply start_by hx | wp_step))
theorem stop_get {R : Result → Shared → Prop} (hx : h.get? a = some (rngO lo hi t1 t2 t3)) (hq : R (.ok (.ret (.int hi t2))) ⟨h, g, d, t, os⟩) :
    codeAny (model prog w) A (.call (.builtin "member_descriptor.__get__") ⟨[.builtin "range.stop", .ref a, .type "range"], []⟩) R ⟨h, g, d, t, os⟩ := by
  have hT : (⟨h, g, d, t, os⟩ : Shared).TypeIs (.ref a) "range" := ⟨_, hx, rfl⟩
  have hT5 : (⟨h, g, d, t, os⟩ : Shared).TypeIs (.builtin "range.stop") "member_descriptor" := FX.ty_stop
  have f8 : isSubtype (.type "range") (.type (".".intercalate ("range.stop".cutAt '.').dropLast)) = pure true := by rw [FX.own_stop]; exact FX.sub_rr
  refine codeAny_call_builtin KF.slot_mem.plain KF.entry_mem (KF.slot_mem.check _ _ _ _ _ _ _ _ hT5 (KF.args_mem _ _ _) ?_)
  repeat (any_goals (first | assumption | wp_step))
  refine ⟨Code.quiet_builtin _ (by decide +kernel), codeAny_builtin FX.entry_stop ?_⟩
  unfold Builtin.«range.stop»
  repeat (any_goals (first | assumption | with_reducible refine wpAny_field hx rfl rfl ?_ | wp_step))

theorem stop_entry {tk : Tok} {Q : Fin → Shared → Prop} (hx : h.get? a = some (rngO lo hi t1 t2 t3)) (hq : Q (.done (.ret (.int hi t2))) ⟨h, g, d, t, os⟩) :
    wpAny (model prog w) A (Builtin.«object.__getattribute__» ⟨[.ref a, .str "stop" tk], []⟩) Q E ⟨h, g, d, t, os⟩ := by
  have hT : (⟨h, g, d, t, os⟩ : Shared).TypeIs (.ref a) "range" := ⟨_, hx, rfl⟩
  have hT5 : (⟨h, g, d, t, os⟩ : Shared).TypeIs (.builtin "range.stop") "member_descriptor" := FX.ty_stop
  have f4 := FX.lk_stop
  have f5 := FX.ty_stop
  have f6 := KF.slot_mem.lookup
  have f7 := KF.slot_mset.lookup
  repeat (any_goals (first | assumption | wp_step))
  refine stop_get hx ?_
  repeat (any_goals (first | assumption | wp_step))

theorem stop_call {tk : Tok} {R : Result → Shared → Prop} (hx : h.get? a = some (rngO lo hi t1 t2 t3)) (hq : R (.ok (.ret (.int hi t2))) ⟨h, g, d, t, os⟩) :
    codeAny (model prog w) A (.call (.builtin "range.__getattribute__") ⟨[.ref a, .str "stop" tk], []⟩) R ⟨h, g, d, t, os⟩ :=
  codeAny_call_builtin F.slot_range_getattribute.plain FX.entry_range_ga (F.slot_range_getattribute.check _ _ _ _ _ _ _ _ (show (⟨h, g, d, t, os⟩ : Shared).TypeIs (.ref a) "range" from ⟨_, hx, rfl⟩) (F.args_range_getattribute_2 _ _) (stop_entry hx hq))

theorem stop_by {tk : Tok} {fill expr : Bool} {Q : Value → Shared → Prop} (hx : h.get? a = some (rngO lo hi t1 t2 t3))
    (hq : Q (.int hi t2) ⟨h, g, d, t, os⟩) : wpAny (model prog w) A (getAttrBy (.ref a) (.str "stop" tk) fill expr) Q E ⟨h, g, d, t, os⟩ := by
  have hT : (⟨h, g, d, t, os⟩ : Shared).TypeIs (.ref a) "range" := ⟨_, hx, rfl⟩
  have f2 := F.slot_range_getattribute.lookup
  have f3 := F.slot_range_getattribute.bind (.ref a)
  have hx0 : (expr && onTheHeap (Value.builtin "range.__getattribute__")) = false := by cases expr <;> rfl
  repeat (any_goals (first | assumption | wp_step))
  refine stop_call hx ?_
  repeat (any_goals (first | assumption | wp_step))

theorem stop_attr {expr : Bool} {Q : Value → Shared → Prop} (hx : h.get? a = some (rngO lo hi t1 t2 t3))
    (hq : Q (.int hi t2) ⟨h, g, d, t + 1, os⟩) : wpAny (model prog w) A (getAttr (.ref a) "stop" expr) Q E ⟨h, g, d, t, os⟩ := by
  unfold getAttr
  repeat (any_goals (first | assumption | with_reducible apply stop_by hx | wp_step))
theorem step_get {R : Result → Shared → Prop} (hx : h.get? a = some (rngO lo hi t1 t2 t3)) (hq : R (.ok (.ret (.int 1 t3))) ⟨h, g, d, t, os⟩) :
    codeAny (model prog w) A (.call (.builtin "member_descriptor.__get__") ⟨[.builtin "range.step", .ref a, .type "range"], []⟩) R ⟨h, g, d, t, os⟩ := by
  have hT : (⟨h, g, d, t, os⟩ : Shared).TypeIs (.ref a) "range" := ⟨_, hx, rfl⟩
  have hT5 : (⟨h, g, d, t, os⟩ : Shared).TypeIs (.builtin "range.step") "member_descriptor" := FX.ty_step
  have f8 : isSubtype (.type "range") (.type (".".intercalate ("range.step".cutAt '.').dropLast)) = pure true := by rw [FX.own_step]; exact FX.sub_rr
  refine codeAny_call_builtin KF.slot_mem.plain KF.entry_mem (KF.slot_mem.check _ _ _ _ _ _ _ _ hT5 (KF.args_mem _ _ _) ?_)
  repeat (any_goals (first | assumption | wp_step))
  refine ⟨Code.quiet_builtin _ (by decide +kernel), codeAny_builtin FX.entry_step ?_⟩
  unfold Builtin.«range.step»
  repeat (any_goals (first | assumption | with_reducible refine wpAny_field hx rfl rfl ?_ | wp_step))

theorem step_entry {tk : Tok} {Q : Fin → Shared → Prop} (hx : h.get? a = some (rngO lo hi t1 t2 t3)) (hq : Q (.done (.ret (.int 1 t3))) ⟨h, g, d, t, os⟩) :
    wpAny (model prog w) A (Builtin.«object.__getattribute__» ⟨[.ref a, .str "step" tk], []⟩) Q E ⟨h, g, d, t, os⟩ := by
  have hT : (⟨h, g, d, t, os⟩ : Shared).TypeIs (.ref a) "range" := ⟨_, hx, rfl⟩
  have hT5 : (⟨h, g, d, t, os⟩ : Shared).TypeIs (.builtin "range.step") "member_descriptor" := FX.ty_step
  have f4 := FX.lk_step
  have f5 := FX.ty_step
  have f6 := KF.slot_mem.lookup
  have f7 := KF.slot_mset.lookup
  repeat (any_goals (first | assumption | wp_step))
  refine step_get hx ?_
  repeat (any_goals (first | assumption | wp_step))

theorem step_call {tk : Tok} {R : Result → Shared → Prop} (hx : h.get? a = some (rngO lo hi t1 t2 t3)) (hq : R (.ok (.ret (.int 1 t3))) ⟨h, g, d, t, os⟩) :
    codeAny (model prog w) A (.call (.builtin "range.__getattribute__") ⟨[.ref a, .str "step" tk], []⟩) R ⟨h, g, d, t, os⟩ :=
  codeAny_call_builtin F.slot_range_getattribute.plain FX.entry_range_ga (F.slot_range_getattribute.check _ _ _ _ _ _ _ _ (show (⟨h, g, d, t, os⟩ : Shared).TypeIs (.ref a) "range" from ⟨_, hx, rfl⟩) (F.args_range_getattribute_2 _ _) (step_entry hx hq))

theorem step_by {tk : Tok} {fill expr : Bool} {Q : Value → Shared → Prop} (hx : h.get? a = some (rngO lo hi t1 t2 t3))
    (hq : Q (.int 1 t3) ⟨h, g, d, t, os⟩) : wpAny (model prog w) A (getAttrBy (.ref a) (.str "step" tk) fill expr) Q E ⟨h, g, d, t, os⟩ := by
  have hT : (⟨h, g, d, t, os⟩ : Shared).TypeIs (.ref a) "range" := ⟨_, hx, rfl⟩
  have f2 := F.slot_range_getattribute.lookup
  have f3 := F.slot_range_getattribute.bind (.ref a)
  have hx0 : (expr && onTheHeap (Value.builtin "range.__getattribute__")) = false := by cases expr <;> rfl
  repeat (any_goals (first | assumption | wp_step))
  refine step_call hx ?_
  repeat (any_goals (first | assumption | wp_step))

theorem step_attr {expr : Bool} {Q : Value → Shared → Prop} (hx : h.get? a = some (rngO lo hi t1 t2 t3))
    (hq : Q (.int 1 t3) ⟨h, g, d, t + 1, os⟩) : wpAny (model prog w) A (getAttr (.ref a) "step" expr) Q E ⟨h, g, d, t, os⟩ := by
  unfold getAttr
  repeat (any_goals (first | assumption | with_reducible apply step_by hx | wp_step))
end
end RS
end

section
open PySem PySem.W PySem.Calls PyProof.Rows
open Sem (wp)
set_option maxRecDepth 100000
set_option maxHeartbeats 0
set_option linter.unusedVariables false
namespace RS

theorem news_mono {g h : Heap} {L : Addr} {a b : List (Addr × Obj)} (N : News g L h b) (k : ∀ p ∈ a, p ∈ b) : News g L h a := fun p hp => N p (k p hp)
theorem news_cons {g h : Heap} {L d : Addr} {o : Obj} {a b : List (Addr × Obj)} (N : News g L h b) (k : (d, o) ∈ b) (r : News g L h a) : News g L h ((d, o) :: a) := fun p hp => by
  rcases List.mem_cons.mp hp with rfl | hp
  · exact N _ k
  · exact r p hp
theorem news_keepI {g h h' : Heap} {L I : Addr} {a : List (Addr × Obj)} (N : News g L h a) (off : ∀ p ∈ a, p.1 ≠ I) (k : ∀ b o, b ∉ [I] → h.get? b = some o → h'.get? b = some o) : News g L h' a :=
  fun p hp => ⟨k _ _ (fun e => off p hp (List.mem_singleton.mp e)) (N p hp).1, (N p hp).2⟩
theorem fr_keepI {g h h' : Heap} {L I : Addr} {m : Str → Option Value} (F : Fr g L h m) (hL : L ≠ I) (hg : g.get? I = none) (k : ∀ b o, b ∉ [I] → h.get? b = some o → h'.get? b = some o) : Fr g L h' m :=
  ⟨F.ns.at' fun o e => k _ _ (fun q => hL (List.mem_singleton.mp q)) e, fun b o e => k _ _ (fun q => by rw [List.mem_singleton.mp q, hg] at e; cases e) (F.keep b o e), F.above⟩
/-- what a turn must leave -/
def RTurn (g : Heap) (L I : Addr) (oI : Obj) (J : (Str → Option Value) → List (Addr × Obj) → Prop) (s : Shared) (Q : Flow → Shared → Prop) (f : Flow) (s₃ : Shared) : Prop :=
  match f with
  | .ret v => Q (.ret v) s₃
  | .brk => Q .next s₃
  | _ => ∃ h' tk' m'' news'', s₃ = { s with heap := h', toks := tk' } ∧ Fr g L h' m'' ∧ News g L h' ((I, oI) :: news'') ∧ (∀ p ∈ news'', p.1 ≠ I) ∧ J m'' news''

section
variable {prog : Program} {w : World} {A : Around} {s : Shared} {env : Env} {g : Heap} {body : List Stmt} {Q : Flow → Shared → Prop}

theorem loopN {I : Addr} {C : Obj → Prop} {fp : List Addr} {n : Nat} {P : Nat → Value → Prop} {St : Nat → Heap → Prop} {x : Str} {px : Pos} {m : Str → Option Value} {news fix : List (Addr × Obj)}
    (W : Walks prog w A I fp [I] n P St) (hx : env.kindOf x = some .local)
    (hp : (env.scope.kind == .class || (env.scope.kind == .module && env.locals != env.globals)) = false)
    (hLI : env.locals ≠ I) (hLf : env.locals ∉ fp) (hgI : g.get? I = none) (st : St 0 s.heap) (hsome : ∀ i h, St i h → ∃ o, h.get? I = some o ∧ C o) (F : Fr g env.locals s.heap m) (N : News g env.locals s.heap news) (off : ∀ p ∈ news, p.1 ≠ I)
    (hfp : ∀ b ∈ fp, b = I ∨ (∃ o, g.get? b = some o) ∨ ∃ o, (b, o) ∈ fix)
    (J : Nat → (Str → Option Value) → List (Addr × Obj) → Prop) (hfix : ∀ i m' news', J i m' news' → ∀ q ∈ fix, q ∈ news') (j0 : J 0 m news)
    (turn : ∀ i v oI m' news' h tk, C oI → i < n → P i v → J i m' news' → (∀ p ∈ news', p.1 ≠ I) → Fr g env.locals h (fun y => if y = x then some v else m' y) → News g env.locals h ((I, oI) :: news') →
      wpAny (model prog w) A (execs body env) (RTurn g env.locals I oI (J (i + 1)) s Q) (fun _ _ => False) { s with heap := h, toks := tk })
    (done : ∀ m' news' h tk, J n m' news' → Fr g env.locals h m' → News g env.locals h news' → Q .next { s with heap := h, toks := tk }) {E : Value → Shared → Prop} :
    codeAny (model prog w) A (.forLoop (.Name x px) (.ref I) body [] env) (fun r s' => match r with | .ok f => Q f s' | .error e => cameBackBy (model prog w) A env E e s') s := by
  refine codeAny_forLoop_any (fun k s' => ∃ i h' tk' m' news', s' = { s with heap := h', toks := tk' } ∧ St i h' ∧ Fr g env.locals h' m' ∧ News g env.locals h' news' ∧ (∀ p ∈ news', p.1 ≠ I) ∧ J i m' news' ∧ i ≤ n ∧ k = n + 1 - i) ?_ (n + 1)
    ⟨0, s.heap, s.toks, m, news, rfl, st, F, N, off, j0, Nat.zero_le _, rfl⟩
  rintro k s' ⟨i, h', tk', m', news', rfl, st', F', N', off', j', hi, rfl⟩
  by_cases hlt : i < n
  · refine W.item i _ _ _ hlt st' fun v h₁ tk₁ hP st₁ k₁ => ?_
    replace k₁ : ∀ b o, b ∉ [I] → h'.get? b = some o → h₁.get? b = some o := k₁
    have F₁ := fr_keepI F' hLI hgI k₁
    have N₁ := news_keepI N' off' k₁
    show wpAny _ _ (letOwnedTupleGo (.Name x px) (.ref I) v) _ _ _
    refine wpAny_pure ?_
    refine wpAny_assign_Name (wpAny_storeName_local hx F₁.ns (fun h₂ hn₂ hs₂ => ?_) hp)
    replace hs₂ : Heap.SameBut env.locals h₁ h₂ := hs₂
    have F₂ := F₁.set hn₂ hs₂
    obtain ⟨oI, hoI, hC⟩ := hsome _ _ st₁
    have hoI₂ : h₂.get? I = some oI := (hs₂.2 I (Ne.symm hLI)).trans hoI
    have N₂ : News g env.locals h₂ ((I, oI) :: news') := fun q hq => by
      rcases List.mem_cons.mp hq with rfl | hq
      · exact ⟨hoI₂, Ne.symm hLI, hgI⟩
      · exact (N₁.set hs₂) q hq
    refine wpAny_mono (turn i v oI m' news' h₂ (tk₁ + 1) hC hlt hP j' off' F₂ N₂) (fun f s₃ h₃ => ?_) (fun _ _ x => x.elim)
    have fin : (∃ h'' tk'' m'' news'', s₃ = { s with heap := h'', toks := tk'' } ∧ Fr g env.locals h'' m'' ∧ News g env.locals h'' ((I, oI) :: news'') ∧ (∀ p ∈ news'', p.1 ≠ I) ∧ J (i + 1) m'' news'') →
        ∃ m, m < n + 1 - i ∧ ∃ i h' tk' m' news', s₃ = { s with heap := h', toks := tk' } ∧ St i h' ∧ Fr g env.locals h' m' ∧ News g env.locals h' news' ∧ (∀ p ∈ news', p.1 ≠ I) ∧ J i m' news' ∧ i ≤ n ∧ m = n + 1 - i := by
      rintro ⟨h'', tk'', m'', news'', rfl, F'', N'', off'', j''⟩
      refine ⟨n + 1 - (i + 1), by omega, i + 1, h'', tk'', m'', news'', rfl, W.frame _ _ _ st₁ fun b hb o e => ?_, F'', fun q hq => N'' q (.tail _ hq), off'', j'', hlt, rfl⟩
      rcases hfp b hb with rfl | ⟨o', e'⟩ | ⟨o', e'⟩
      · rw [hoI] at e; cases e; exact (N'' _ (.head _)).1
      · rw [F₁.keep b o' e'] at e; cases e; exact F''.keep _ _ e'
      · have h1 := (N₁ _ (hfix _ _ _ j' _ e')).1
        rw [h1] at e; cases e; exact (N'' _ (.tail _ (hfix _ _ _ j'' _ e'))).1
    cases f with
    | ret v => exact h₃
    | brk => exact h₃
    | next => exact fin h₃
    | cont => exact fin h₃
  · have hin : i = n := by omega
    subst hin
    refine W.done _ _ _ st' fun h₁ tk₁ k₁ => wpAny_execs_nil ?_
    exact done m' news' h₁ tk₁ j' (fr_keepI F' hLI hgI k₁) (news_keepI N' off' k₁)


/-- what a turn must leave, iterators' own objects apart -/
def RTurnW (g : Heap) (L : Addr) (wr : List Addr) (own : List (Addr × Obj)) (J : (Str → Option Value) → List (Addr × Obj) → Prop) (s : Shared) (Q : Flow → Shared → Prop) (f : Flow) (s₃ : Shared) : Prop :=
  match f with
  | .ret v => Q (.ret v) s₃
  | .brk => Q .next s₃
  | _ => ∃ h' tk' m'' news'', s₃ = { s with heap := h', toks := tk' } ∧ Fr g L h' m'' ∧ News g L h' (own ++ news'') ∧ (∀ p ∈ news'', p.1 ∉ wr) ∧ J m'' news''

/-- the target takes a tuple's places -/
def Assigns (prog : Program) (w : World) (A : Around) (env : Env) (target : Expr) (upd : Array Value → (Str → Option Value) → (Str → Option Value)) (Pt : Array Value → Prop) : Prop :=
  ∀ (g : Heap) (s : Shared) (T : Addr) (vals : Array Value) (m : Str → Option Value) (Q : Unit → Shared → Prop), Pt vals → s.heap.IsTuple T vals → Fr g env.locals s.heap m →
    (∀ h' tk', (∀ b o, b ≠ env.locals → s.heap.get? b = some o → h'.get? b = some o) → Fr g env.locals h' (upd vals m) → Q () { s with heap := h', toks := tk' }) →
    wpAny (model prog w) A (assign target env (.ref T)) Q (fun _ _ => False) s

theorem assigns2 (hh : A.handled = none) {x y : Str} {px py pt : Pos} {k : Nat} {Pt : Array Value → Prop} (hx : env.kindOf x = some .local) (hy : env.kindOf y = some .local)
    (hp : (env.scope.kind == .class || (env.scope.kind == .module && env.locals != env.globals)) = false) (hP : ∀ v, Pt v → ∃ a b, v = #[a, b]) :
    Assigns prog w A env (.Tuple [.Name x px, .Name y py] k pt) (fun v m z => if z = y then v[1]? else if z = x then v[0]? else m z) Pt := by
  intro g s T vals m Q hv hT F hQ
  obtain ⟨a, b, rfl⟩ := hP _ hv
  refine wpAny_assign_Tuple hh hT rfl rfl fun h₃ hx₃ => ?_
  replace hx₃ : Heap.ExtBut s.heap.objs.size s.heap h₃ := hx₃
  have k₃ : ∀ b o, s.heap.get? b = some o → h₃.get? b = some o := fun b o e => hx₃ b o (Nat.ne_of_lt (Heap.lt_size e)) e
  have n₃ : h₃.Ns env.locals m := F.ns.keeps k₃
  show wpAny _ A (do holding [b] (assign (.Name x px) env a); do holding [] (assign (.Name y py) env b); pure ()) _ _ _
  refine wpAny_bind (wpAny_holding (wpAny_assign_Name (wpAny_storeName_local hx n₃ (fun h₄ hn₄ hs₄ => ?_) hp)))
  replace hs₄ : Heap.SameBut env.locals h₃ h₄ := hs₄
  refine wpAny_bind (wpAny_holding (wpAny_assign_Name (wpAny_storeName_local hy hn₄ (fun h₅ hn₅ hs₅ => wpAny_pure ?_) hp)))
  replace hs₅ : Heap.SameBut env.locals h₄ h₅ := hs₅
  have k : ∀ b o, b ≠ env.locals → s.heap.get? b = some o → h₅.get? b = some o := fun b o hb e => (hs₅.2 b hb).trans ((hs₄.2 b hb).trans (k₃ b o e))
  exact hQ h₅ _ k ⟨hn₅, fun b o e => k b o (Nat.ne_of_lt (Nat.lt_of_lt_of_le (Heap.lt_size e) F.above)) (F.keep b o e), F.above⟩

theorem loopT {I : Addr} {C : Obj → Prop} {fp wr : List Addr} {n : Nat} {Pt : Nat → Array Value → Prop} {St : Nat → Heap → Prop} {Mid : Nat → Addr → Heap → Prop} {elts : List Expr} {kk : Nat} {pt : Pos} {m : Str → Option Value} {news fix : List (Addr × Obj)}
    {upd : Array Value → (Str → Option Value) → (Str → Option Value)}
    (W : WalksU prog w A I fp wr n Pt St Mid) (hAs : ∀ i, Assigns prog w A env (.Tuple elts kk pt) upd (Pt i))
    (hLf : env.locals ∉ fp) (hgI : ∀ b ∈ wr, g.get? b = none) (st : St 0 s.heap) (hsome : ∀ i h, St i h → ∀ b ∈ wr, ∃ o, h.get? b = some o ∧ C o) (F : Fr g env.locals s.heap m) (N : News g env.locals s.heap news) (off : ∀ p ∈ news, p.1 ∉ wr)
    (hfp : ∀ b ∈ fp, b ∈ wr ∨ (∃ o, g.get? b = some o) ∨ ∃ o, (b, o) ∈ fix)
    (J : Nat → (Str → Option Value) → List (Addr × Obj) → Prop) (hfix : ∀ i m' news', J i m' news' → ∀ q ∈ fix, q ∈ news') (j0 : J 0 m news)
    (turn : ∀ i vals own m' news' h tk, (∀ p ∈ own, C p.2) → i < n → Pt i vals → own.map (·.1) = wr → J i m' news' → (∀ p ∈ news', p.1 ∉ wr) → Fr g env.locals h (upd vals m') → News g env.locals h (own ++ news') →
      wpAny (model prog w) A (execs body env) (RTurnW g env.locals wr own (J (i + 1)) s Q) (fun _ _ => False) { s with heap := h, toks := tk })
    (done : ∀ m' news' h tk, J n m' news' → Fr g env.locals h m' → News g env.locals h news' → Q .next { s with heap := h, toks := tk }) {E : Value → Shared → Prop} :
    codeAny (model prog w) A (.forLoop (.Tuple elts kk pt) (.ref I) body [] env) (fun r s' => match r with | .ok f => Q f s' | .error e => cameBackBy (model prog w) A env E e s') s := by
  have keepN : ∀ {h h' : Heap} {a : List (Addr × Obj)}, News g env.locals h a → (∀ p ∈ a, p.1 ∉ wr) → (∀ b o, b ∉ wr → h.get? b = some o → h'.get? b = some o) → News g env.locals h' a :=
    fun N off k p hp => ⟨k _ _ (off p hp) (N p hp).1, (N p hp).2⟩
  have hLw : env.locals ∉ wr := fun q => hLf (W.sub _ q)
  have keepF : ∀ {h h' : Heap} {m : Str → Option Value}, Fr g env.locals h m → (∀ b o, b ∉ wr → h.get? b = some o → h'.get? b = some o) → Fr g env.locals h' m :=
    fun F k => ⟨F.ns.at' fun o e => k _ _ hLw e, fun b o e => k _ _ (fun q => by rw [hgI b q] at e; cases e) (F.keep b o e), F.above⟩
  refine codeAny_forLoop_any (fun k s' => ∃ i h' tk' m' news', s' = { s with heap := h', toks := tk' } ∧ St i h' ∧ Fr g env.locals h' m' ∧ News g env.locals h' news' ∧ (∀ p ∈ news', p.1 ∉ wr) ∧ J i m' news' ∧ i ≤ n ∧ k = n + 1 - i) ?_ (n + 1)
    ⟨0, s.heap, s.toks, m, news, rfl, st, F, N, off, j0, Nat.zero_le _, rfl⟩
  rintro k s' ⟨i, h', tk', m', news', rfl, st', F', N', off', j', hi, rfl⟩
  by_cases hlt : i < n
  · refine W.item i _ _ _ hlt st' fun T vals h₁ tk₁ hP hT₁ mid₁ k₁ => ?_
    replace k₁ : ∀ b o, b ∉ wr → h'.get? b = some o → h₁.get? b = some o := k₁
    refine W.go elts kk pt i T _ _ _ mid₁ fun h₂ st₂ k₂ => ?_
    replace k₂ : ∀ b o, b ∉ wr → h₁.get? b = some o → h₂.get? b = some o := k₂
    have hT₂ : h₂.IsTuple T vals := hT₁.at fun o e => k₂ T o (W.apart _ _ _ mid₁) e
    have F₂ := keepF (keepF F' k₁) k₂
    have N₂ := keepN (keepN N' off' k₁) off' k₂
    refine hAs i g _ T vals m' _ hP hT₂ F₂ (fun h₃ tk₃ k₃ F₃ => ?_) |> fun h => wpAny_mono h (fun _ _ x => x) (fun _ _ x => x.elim)
    replace k₃ : ∀ b o, b ≠ env.locals → h₂.get? b = some o → h₃.get? b = some o := k₃
    have hown : ∃ own : List (Addr × Obj), own.map (·.1) = wr ∧ (∀ p ∈ own, h₂.get? p.1 = some p.2 ∧ C p.2) := by
      have : ∀ l : List Addr, (∀ b ∈ l, ∃ o, h₂.get? b = some o ∧ C o) → ∃ own : List (Addr × Obj), own.map (·.1) = l ∧ (∀ p ∈ own, h₂.get? p.1 = some p.2 ∧ C p.2) := by
        intro l
        induction l with
        | nil => exact fun _ => ⟨[], rfl, fun _ h => nomatch h⟩
        | cons a l ih =>
          intro hl
          obtain ⟨o, ho⟩ := hl a (.head _)
          obtain ⟨own, e, q⟩ := ih fun b hb => hl b (.tail _ hb)
          exact ⟨(a, o) :: own, by rw [List.map_cons, e], fun p hp => by
            rcases List.mem_cons.mp hp with rfl | hp
            · exact ho
            · exact q p hp⟩
      exact this wr (hsome _ _ st₂)
    obtain ⟨own, hmap, hgetC⟩ := hown
    have hget : ∀ p ∈ own, h₂.get? p.1 = some p.2 := fun p hp => (hgetC p hp).1
    have hmem : ∀ p ∈ own, p.1 ∈ wr := fun p hp => hmap ▸ List.mem_map_of_mem hp
    have N₃ : News g env.locals h₃ (own ++ news') := fun q hq => by
      rcases List.mem_append.mp hq with hq | hq
      · exact ⟨k₃ _ _ (fun e => hLw (e ▸ hmem q hq)) (hget q hq), fun e => hLw (e ▸ hmem q hq), hgI _ (hmem q hq)⟩
      · exact ⟨k₃ _ _ (N₂ q hq).2.1 (N₂ q hq).1, (N₂ q hq).2⟩
    refine wpAny_mono (turn i vals own m' news' h₃ tk₃ (fun p hp => (hgetC p hp).2) hlt hP hmap j' off' F₃ N₃) (fun f s₃ h₃' => ?_) (fun _ _ x => x.elim)
    have fin : (∃ h'' tk'' m'' news'', s₃ = { s with heap := h'', toks := tk'' } ∧ Fr g env.locals h'' m'' ∧ News g env.locals h'' (own ++ news'') ∧ (∀ p ∈ news'', p.1 ∉ wr) ∧ J (i + 1) m'' news'') →
        ∃ m, m < n + 1 - i ∧ ∃ i h' tk' m' news', s₃ = { s with heap := h', toks := tk' } ∧ St i h' ∧ Fr g env.locals h' m' ∧ News g env.locals h' news' ∧ (∀ p ∈ news', p.1 ∉ wr) ∧ J i m' news' ∧ i ≤ n ∧ m = n + 1 - i := by
      rintro ⟨h'', tk'', m'', news'', rfl, F'', N'', off'', j''⟩
      refine ⟨n + 1 - (i + 1), by omega, i + 1, h'', tk'', m'', news'', rfl, W.frame _ _ _ st₂ fun b hb o e => ?_, F'', fun q hq => N'' q (List.mem_append_right _ hq), off'', j'', hlt, rfl⟩
      rcases hfp b hb with hw | ⟨o', e'⟩ | ⟨o', e'⟩
      · rw [← hmap] at hw
        obtain ⟨q, hq, rfl⟩ := List.mem_map.mp hw
        rw [hget q hq] at e; cases e
        exact (N'' q (List.mem_append_left _ hq)).1
      · rw [F₂.keep b o' e'] at e; cases e; exact F''.keep _ _ e'
      · have h1 := (N₂ _ (hfix _ _ _ j' _ e')).1
        rw [h1] at e; cases e; exact (N'' _ (List.mem_append_right _ (hfix _ _ _ j'' _ e'))).1
    cases f with
    | ret v => exact h₃'
    | brk => exact h₃'
    | next => exact fin h₃'
    | cont => exact fin h₃'
  · have hin : i = n := by omega
    subst hin
    refine W.done _ _ _ st' fun h₁ tk₁ k₁ => wpAny_execs_nil ?_
    exact done m' news' h₁ tk₁ j' (keepF F' k₁) (keepN N' off' k₁)
end
end RS
end

section
open PySem PySem.W PySem.Calls PyProof.Rows
open Sem (wp)
set_option maxRecDepth 100000
set_option maxHeartbeats 0
set_option linter.unusedVariables false
namespace RS

theorem size_ne {h : Heap} {b : Addr} {o : Obj} (e : h.get? b = some o) : b ≠ h.objs.size := Nat.ne_of_lt (Heap.lt_size e)
theorem fresh_g {g h : Heap} {L : Addr} {m : Str → Option Value} (F : Fr g L h m) (n : Nat) (hn : h.objs.size ≤ n) : g.get? n = none := by
  cases e : g.get? n with
  | none => rfl
  | some o => exact absurd (Nat.lt_of_lt_of_le (Heap.lt_size (F.keep _ _ e)) hn) (Nat.lt_irrefl _)

section
variable {prog : Program} {w : World} {A : Around} {s : Shared} {env : Env} {g : Heap} {body : List Stmt} {Q : Flow → Shared → Prop} {E : Value → Shared → Prop}

/-- the continuation of a for behind pyIter -/
abbrev ForK (prog : Program) (w : World) (A : Around) (env : Env) (target : Expr) (body : List Stmt) (Q : Flow → Shared → Prop) (E : Value → Shared → Prop) (it : Value) (s₂ : Shared) : Prop :=
  codeAny (model prog w) A (.forLoop target it body [] env) (fun r s' => match r with | .ok f => Q f s' | .error e => cameBackBy (model prog w) A env E e s') s₂

theorem for_listit {x : Str} {px : Pos} {m : Str → Option Value} {news fix : List (Addr × Obj)} {l I : Addr} {vs : List Value} (hh : A.handled = none) (hx : env.kindOf x = some .local)
    (hp : (env.scope.kind == .class || (env.scope.kind == .module && env.locals != env.globals)) = false)
    (hl : s.heap.IsList l vs.toArray) (hli : s.heap.IsListIter I l 0) (hgI : g.get? I = none) (hIL : env.locals ≠ I) (hlL : l ≠ env.locals) (hk : (∃ o, g.get? l = some o) ∨ ∃ o, (l, o) ∈ fix) (F : Fr g env.locals s.heap m) (N : News g env.locals s.heap news) (off : ∀ p ∈ news, p.1 ≠ I)
    (J : Nat → (Str → Option Value) → List (Addr × Obj) → Prop) (hfix : ∀ i m' news', J i m' news' → ∀ q ∈ fix, q ∈ news') (j0 : J 0 m news)
    (turn : ∀ i v oI m' news' h tk, oI.cls = .type "list_iterator" → vs[i]? = some v → J i m' news' → (∀ p ∈ news', p.1 ≠ I) → Fr g env.locals h (fun y => if y = x then some v else m' y) → News g env.locals h ((I, oI) :: news') →
      wpAny (model prog w) A (execs body env) (RTurn g env.locals I oI (J (i + 1)) s Q) (fun _ _ => False) { s with heap := h, toks := tk })
    (done : ∀ m' news' h tk, J vs.length m' news' → Fr g env.locals h m' → News g env.locals h news' → Q .next { s with heap := h, toks := tk }) :
    ForK prog w A env (.Name x px) body Q E (.ref I) s := by
  obtain ⟨ol, hol, hlc, _⟩ := id hl
  obtain ⟨oi, hoi, hic, _⟩ := id hli
  have hne : l ≠ I := fun e => by subst e; rw [hol] at hoi; cases hoi; rw [hlc] at hic; exact absurd hic (by decide)
  have W := Walks.list (prog := prog) (w := w) hh I l hne vs.toArray
  refine loopN (C := fun o => o.cls = .type "list_iterator") (fix := fix) W hx hp hIL ?_ hgI ⟨hli, hl⟩ (fun i h st => let ⟨o, ho, hc, _⟩ := st.1; ⟨o, ho, hc⟩) F N off ?_ J hfix j0 ?_ ?_
  · intro hm
    rcases List.mem_cons.mp hm with e | hm
    · exact hIL e
    · exact hlL (List.mem_singleton.mp hm).symm
  · intro b hb
    rcases List.mem_cons.mp hb with rfl | hb
    · exact .inl rfl
    · rw [List.mem_singleton.mp hb]; exact .inr hk
  · intro i v oI m' news' h tk hC hi hP j off' F' N'
    exact turn i v oI m' news' h tk hC (by simpa using hP) j off' F' N'
  · intro m' news' h tk j F' N'
    exact done m' news' h tk (by simpa using j) F' N'

theorem for_list {x : Str} {px : Pos} {m : Str → Option Value} {news fix : List (Addr × Obj)} {l : Addr} {vs : List Value} (hh : A.handled = none) (hx : env.kindOf x = some .local)
    (hp : (env.scope.kind == .class || (env.scope.kind == .module && env.locals != env.globals)) = false)
    (hl : s.heap.IsList l vs.toArray) (hlL : l ≠ env.locals) (hk : (∃ o, g.get? l = some o) ∨ ∃ o, (l, o) ∈ fix) (F : Fr g env.locals s.heap m) (N : News g env.locals s.heap news)
    (J : Nat → (Str → Option Value) → List (Addr × Obj) → Prop) (hfix : ∀ i m' news', J i m' news' → ∀ q ∈ fix, q ∈ news') (j0 : J 0 m news)
    (turn : ∀ i v I oI m' news' h tk, oI.cls = .type "list_iterator" → vs[i]? = some v → J i m' news' → (∀ p ∈ news, p.1 < I) → (∀ p ∈ news', p.1 ≠ I) → Fr g env.locals h (fun y => if y = x then some v else m' y) → News g env.locals h ((I, oI) :: news') →
      wpAny (model prog w) A (execs body env) (RTurn g env.locals I oI (J (i + 1)) s Q) (fun _ _ => False) { s with heap := h, toks := tk })
    (done : ∀ m' news' h tk, J vs.length m' news' → Fr g env.locals h m' → News g env.locals h news' → Q .next { s with heap := h, toks := tk }) :
    wpAny (model prog w) A (pyIter (.ref l)) (ForK prog w A env (.Name x px) body Q E) E s := by
  refine wpAny_pyIter_list hl ?_
  have k : ∀ b o, s.heap.get? b = some o → (s.heap.push { cls := .type "list_iterator", data := .fields #[.ref l, .int 0 0] }).get? b = some o := fun b o e => Heap.get?_push_of_some _ e
  exact for_listit (s := { s with heap := s.heap.push { cls := .type "list_iterator", data := .fields #[.ref l, .int 0 0] } }) (I := s.heap.objs.size) hh hx hp (hl.at fun o e => k _ _ e) ⟨_, Heap.get?_push_size _ rfl, rfl, rfl⟩ (fresh_g F _ (Nat.le_refl _)) (Nat.ne_of_lt F.ns.lt) hlL hk (F.push _) (fun p hp => ⟨k _ _ (N p hp).1, (N p hp).2⟩)
    (fun p hp => size_ne (N p hp).1) J hfix j0 (fun i v oI m' news' h tk q a b c d e => turn i v _ oI m' news' h tk q a b (fun p hp => Heap.lt_size (N p hp).1) c d e) done

theorem for_range {x : Str} {px : Pos} {m : Str → Option Value} {news : List (Addr × Obj)} {r : Addr} {a b c : Int} {t u v : Tok} {n : Nat} (hh : A.handled = none) (hx : env.kindOf x = some .local)
    (hp : (env.scope.kind == .class || (env.scope.kind == .module && env.locals != env.globals)) = false)
    (hr : IsRange s.heap r a b c t u v) (hsmall : Builtin.Range.small a b c = true) (hn : Builtin.Range.rangeSize a b c = n) (F : Fr g env.locals s.heap m) (N : News g env.locals s.heap news)
    (J : Nat → (Str → Option Value) → List (Addr × Obj) → Prop) (j0 : J 0 m news)
    (turn : ∀ i k I oI m' news' h tk, oI.cls = .type "range_iterator" → i < n → J i m' news' → (∀ p ∈ news, p.1 < I) → (∀ p ∈ news', p.1 ≠ I) → Fr g env.locals h (fun y => if y = x then some (.int (a + (i : Nat) * c) k) else m' y) → News g env.locals h ((I, oI) :: news') →
      wpAny (model prog w) A (execs body env) (RTurn g env.locals I oI (J (i + 1)) s Q) (fun _ _ => False) { s with heap := h, toks := tk })
    (done : ∀ m' news' h tk, J n m' news' → Fr g env.locals h m' → News g env.locals h news' → Q .next { s with heap := h, toks := tk }) :
    wpAny (model prog w) A (pyIter (.ref r)) (ForK prog w A env (.Name x px) body Q E) E s := by
  refine wpAny_pyIter_range hr hsmall ?_
  rw [hn]
  have k : ∀ b o, s.heap.get? b = some o → (s.heap.push { cls := .type "range_iterator", data := .fields #[rawInt a, rawInt n, rawInt c] }).get? b = some o := fun b o e => Heap.get?_push_of_some _ e
  have W := Walks.range (prog := prog) (w := w) hh s.heap.objs.size a c n
  have hIL : env.locals ≠ s.heap.objs.size := Nat.ne_of_lt F.ns.lt
  refine loopN (s := { s with heap := s.heap.push { cls := .type "range_iterator", data := .fields #[rawInt a, rawInt n, rawInt c] } }) (C := fun o => o.cls = .type "range_iterator") (fix := []) W hx hp hIL ?_ (fresh_g F _ (Nat.le_refl _)) ?_ (fun i h st => ⟨_, st, rfl⟩) (F.push _)
    (fun p hp => ⟨k _ _ (N p hp).1, (N p hp).2⟩) (fun p hp => size_ne (N p hp).1) ?_ J (fun _ _ _ _ _ h => nomatch h) j0 ?_ ?_
  · intro hm
    exact hIL (List.mem_singleton.mp hm)
  · show IsRangeIter _ _ _ _ _
    have e : a + ((0 : Nat) : Int) * c = a := by simp
    have e2 : (n : Int) - ((0 : Nat) : Int) = n := by simp
    rw [e, e2]
    exact Heap.get?_push_size _ rfl
  · intro b hb
    exact .inl (List.mem_singleton.mp hb)
  · rintro i v oI m' news' h tk hC hi ⟨k, rfl⟩ j off' F' N'
    exact turn i k _ oI m' news' h tk hC hi j (fun p hp => Heap.lt_size (N p hp).1) off' F' N'
  · intro m' news' h tk j F' N'
    exact done m' news' h tk j F' N'

/-- a list of tuples: each item a ref to a tuple -/
def TupsAt (h : Heap) (vs : List Value) (ds : List (Array Value)) : Prop := vs.length = ds.length ∧ ∀ (i : Nat) (d : Array Value), ds[i]? = some d → ∃ T, vs[i]? = some (Value.ref T) ∧ h.IsTuple T d

theorem for_listT {elts : List Expr} {kk : Nat} {pt : Pos} {m : Str → Option Value} {news fix : List (Addr × Obj)} {upd : Array Value → (Str → Option Value) → (Str → Option Value)} {l : Addr} {vs : List Value} {ds : List (Array Value)} (hh : A.handled = none)
    (hAs : ∀ i : Nat, Assigns prog w A env (.Tuple elts kk pt) upd (fun d => ds[(i : Nat)]? = some d))
    (hl : s.heap.IsList l vs.toArray) (ht : TupsAt g vs ds) (hlL : l ≠ env.locals) (hk : (∃ o, g.get? l = some o) ∨ ∃ o, (l, o) ∈ fix) (F : Fr g env.locals s.heap m) (N : News g env.locals s.heap news)
    (J : Nat → (Str → Option Value) → List (Addr × Obj) → Prop) (hfix : ∀ i m' news', J i m' news' → ∀ q ∈ fix, q ∈ news') (j0 : J 0 m news)
    (turn : ∀ (i : Nat) (d : Array Value) I oI m' news' h tk, oI.cls = .type "list_iterator" → ds[i]? = some d → J i m' news' → (∀ p ∈ news, p.1 < I) → (∀ p ∈ news', p.1 ∉ [I]) → Fr g env.locals h (upd d m') → News g env.locals h ((I, oI) :: news') →
      wpAny (model prog w) A (execs body env) (RTurnW g env.locals [I] [(I, oI)] (J (i + 1)) s Q) (fun _ _ => False) { s with heap := h, toks := tk })
    (done : ∀ m' news' h tk, J ds.length m' news' → Fr g env.locals h m' → News g env.locals h news' → Q .next { s with heap := h, toks := tk }) :
    wpAny (model prog w) A (pyIter (.ref l)) (ForK prog w A env (.Tuple elts kk pt) body Q E) E s := by
  obtain ⟨hlen, hat⟩ := ht
  obtain ⟨ol, hol, hlc, _⟩ := id hl
  refine wpAny_pyIter_list hl ?_
  have k : ∀ b o, s.heap.get? b = some o → (s.heap.push { cls := .type "list_iterator", data := .fields #[.ref l, .int 0 0] }).get? b = some o := fun b o e => Heap.get?_push_of_some _ e
  let Ts : Nat → Addr := fun j => match vs[j]? with | some (.ref T) => T | _ => 0
  let vals : Nat → Array Value := fun j => (ds[j]?).getD #[]
  have hT : ∀ j, j < vs.toArray.size → vs[j]? = some (.ref (Ts j)) ∧ g.IsTuple (Ts j) (vals j) := by
    intro j hj
    rw [List.size_toArray] at hj
    have hd : ds[j]? = some (ds[j]'(hlen ▸ hj)) := List.getElem?_eq_getElem _
    obtain ⟨T, hT, hI⟩ := hat j _ hd
    have e : Ts j = T := by show (match vs[j]? with | some (.ref T) => T | _ => 0) = T; rw [hT]
    have e2 : vals j = ds[j]'(hlen ▸ hj) := by show (ds[j]?).getD #[] = _; rw [hd]; rfl
    rw [e, e2]
    exact ⟨hT, hI⟩
  have hTI : ∀ j, j < vs.toArray.size → Ts j ≠ s.heap.objs.size := fun j hj => by
    obtain ⟨o, ho, _⟩ := (hT j hj).2
    exact size_ne (F.keep _ _ ho)
  have W := WalksU.listOfTuples (prog := prog) (w := w) hh s.heap.objs.size l (size_ne hol) vs.toArray Ts vals (fun j hj => by rw [List.getElem?_toArray]; exact (hT j hj).1) hTI
  have hIL : env.locals ≠ s.heap.objs.size := Nat.ne_of_lt F.ns.lt
  have hvd : ∀ i, i < vs.toArray.size → ds[i]? = some (vals i) := fun i hi => by
    rw [List.size_toArray] at hi
    have hd : ds[i]? = some (ds[i]'(hlen ▸ hi)) := List.getElem?_eq_getElem _
    show ds[i]? = some ((ds[i]?).getD #[])
    rw [hd]; rfl
  have hTL : ∀ j, j < vs.toArray.size → Ts j ≠ env.locals := fun j hj e => by
    obtain ⟨o, ho, _⟩ := (hT j hj).2
    exact absurd (Nat.lt_of_lt_of_le (Heap.lt_size ho) F.above) (e ▸ Nat.lt_irrefl _)
  have hAs' : ∀ i, Assigns prog w A env (.Tuple elts kk pt) upd (fun v => i < vs.toArray.size ∧ v = vals i) := fun i g s T v m Q hv hT' F' hQ =>
    hAs i g s T v m Q (hv.2 ▸ hvd i hv.1) hT' F' hQ
  refine loopT (s := { s with heap := s.heap.push { cls := .type "list_iterator", data := .fields #[.ref l, .int 0 0] } }) (C := fun o => o.cls = .type "list_iterator") (fix := fix) (Pt := fun i v => i < vs.toArray.size ∧ v = vals i) (upd := upd) ⟨W.sub, W.frame, fun i s Q E hi st hQ => W.item i s Q E hi st fun T v h' tk hP => hQ T v h' tk ⟨hi, hP⟩, W.go, W.apart, W.done, W.self⟩ hAs' ?_ ?_
    ⟨⟨_, Heap.get?_push_size _ rfl, rfl, rfl⟩, hl.at fun o e => k _ _ e, fun j hj => (hT j hj).2.at fun o e => k _ _ (F.keep _ _ e)⟩ (fun i h st b hb => let ⟨o, ho, hc, _⟩ := st.1; ⟨o, (List.mem_singleton.mp hb) ▸ ho, hc⟩) (F.push _)
    (fun p hp => ⟨k _ _ (N p hp).1, (N p hp).2⟩) (fun p hp q => size_ne (N p hp).1 (List.mem_singleton.mp q)) ?_ J hfix j0 ?_ ?_
  · intro hm
    rcases List.mem_cons.mp hm with e | hm
    · exact hIL e
    · rcases List.mem_cons.mp hm with e | hm
      · exact hlL e.symm
      · obtain ⟨j, hj, e⟩ := List.mem_map.mp hm
        exact hTL j (List.mem_range.mp hj) e
  · intro b hb
    rw [List.mem_singleton.mp hb]; exact fresh_g F _ (Nat.le_refl _)
  · intro b hb
    rcases List.mem_cons.mp hb with rfl | hb
    · exact .inl (List.mem_singleton.mpr rfl)
    · rcases List.mem_cons.mp hb with rfl | hb
      · exact .inr hk
      · obtain ⟨j, hj, rfl⟩ := List.mem_map.mp hb
        obtain ⟨o, ho, _⟩ := (hT j (List.mem_range.mp hj)).2
        exact .inr (.inl ⟨o, ho⟩)
  · rintro i v own m' news' h tk hC hi ⟨hi', rfl⟩ hmap j off' F' N'
    obtain ⟨oI, rfl⟩ : ∃ oI, own = [(s.heap.objs.size, oI)] := by
      cases own with
      | nil => cases hmap
      | cons p r =>
        rw [List.map_cons] at hmap
        obtain ⟨e1, e2⟩ := List.cons.inj hmap
        rw [List.map_eq_nil_iff] at e2
        subst e2
        exact ⟨p.2, by rw [← e1]⟩
    exact turn i (vals i) _ oI m' news' h tk (hC _ (.head _)) (hvd i hi') j (fun p hp => Heap.lt_size (N p hp).1) off' F' N'
  · intro m' news' h tk j F' N'
    exact done m' news' h tk (by rw [← hlen]; simpa using j) F' N'

theorem for_enum {x y : Str} {px py : Pos} {kk : Nat} {pt : Pos} {m : Str → Option Value} {news fix : List (Addr × Obj)} {l e it : Addr} {vs : List Value} (hh : A.handled = none) (hx : env.kindOf x = some .local) (hy : env.kindOf y = some .local)
    (hp : (env.scope.kind == .class || (env.scope.kind == .module && env.locals != env.globals)) = false)
    (hl : s.heap.IsList l vs.toArray) (he : IsEnum s.heap e it 0 .none) (hit : s.heap.IsListIter it l 0) (hlL : l ≠ env.locals) (heL : e ≠ env.locals) (hiL : it ≠ env.locals) (hge : g.get? e = none) (hgi : g.get? it = none)
    (hk : (∃ o, g.get? l = some o) ∨ ∃ o, (l, o) ∈ fix) (F : Fr g env.locals s.heap m) (N : News g env.locals s.heap news) (off : ∀ p ∈ news, p.1 ∉ [e, it])
    (J : Nat → (Str → Option Value) → List (Addr × Obj) → Prop) (hfix : ∀ i m' news', J i m' news' → ∀ q ∈ fix, q ∈ news') (j0 : J 0 m news)
    (turn : ∀ i v k oe oi m' news' h tk, vs[i]? = some v → J i m' news' → (∀ p ∈ news', p.1 ∉ [e, it]) → Fr g env.locals h (fun z => if z = y then some v else if z = x then some (.int i k) else m' z) → News g env.locals h ((e, oe) :: (it, oi) :: news') →
      wpAny (model prog w) A (execs body env) (RTurnW g env.locals [e, it] [(e, oe), (it, oi)] (J (i + 1)) s Q) (fun _ _ => False) { s with heap := h, toks := tk })
    (done : ∀ m' news' h tk, J vs.length m' news' → Fr g env.locals h m' → News g env.locals h news' → Q .next { s with heap := h, toks := tk }) :
    wpAny (model prog w) A (pyIter (.ref e)) (ForK prog w A env (.Tuple [.Name x px, .Name y py] kk pt) body Q E) E s := by
  obtain ⟨ol, hol, hlc, _⟩ := id hl
  obtain ⟨oi, hoi, hic, _⟩ := id hit
  have hei : e ≠ it := fun q => by subst q; rw [he] at hoi; cases hoi; exact absurd (show Value.type "enumerate" = Value.type "list_iterator" from hic) (by decide)
  have hle : l ≠ e := fun q => by subst q; rw [he] at hol; cases hol; exact absurd (show Value.type "enumerate" = Value.type "list" from hlc) (by decide)
  have hli : l ≠ it := fun q => by subst q; rw [hoi] at hol; cases hol; rw [hic] at hlc; exact absurd hlc (by decide)
  have W := (WalksT.enumerate (prog := prog) (w := w) hh e it l hei hle hli vs.toArray).toU
  refine wpAny_pyIter_enum he ?_
  refine loopT (C := fun _ => True) (fix := fix) (upd := fun v m z => if z = y then v[1]? else if z = x then v[0]? else m z) W (fun i => assigns2 hh hx hy hp (fun v hv => by obtain ⟨t, x', _, rfl⟩ := hv; exact ⟨_, _, rfl⟩)) ?_ ?_
    ⟨⟨_, he⟩, hit, hl⟩ ?_ F N off ?_ J hfix j0 ?_ ?_
  · intro hm
    rcases List.mem_cons.mp hm with q | hm
    · exact heL q.symm
    · rcases List.mem_cons.mp hm with q | hm
      · exact hiL q.symm
      · exact hlL (List.mem_singleton.mp hm).symm
  · intro b hb
    rcases List.mem_cons.mp hb with rfl | hb
    · exact hge
    · rw [List.mem_singleton.mp hb]; exact hgi
  · intro i h st b hb
    obtain ⟨⟨old, h1⟩, ⟨o, ho, _⟩, _⟩ := st
    rcases List.mem_cons.mp hb with rfl | hb
    · exact ⟨_, h1, trivial⟩
    · rw [List.mem_singleton.mp hb]; exact ⟨_, ho, trivial⟩
  · intro b hb
    rcases List.mem_cons.mp hb with rfl | hb
    · exact .inl (.head _)
    · rcases List.mem_cons.mp hb with rfl | hb
      · exact .inl (.tail _ (.head _))
      · rw [List.mem_singleton.mp hb]; exact .inr hk
  · rintro i v own m' news' h tk _ hi ⟨t, x', hx', rfl⟩ hmap j off' F' N'
    obtain ⟨oe, oi', rfl⟩ : ∃ oe oi', own = [(e, oe), (it, oi')] := by
      cases own with
      | nil => cases hmap
      | cons p r =>
        rw [List.map_cons] at hmap
        obtain ⟨e1, e2⟩ := List.cons.inj hmap
        cases r with
        | nil => cases e2
        | cons p2 r2 =>
          rw [List.map_cons] at e2
          obtain ⟨e3, e4⟩ := List.cons.inj e2
          rw [List.map_eq_nil_iff] at e4
          subst e4
          exact ⟨p.2, p2.2, by rw [← e1, ← e3]⟩
    exact turn i x' t oe oi' m' news' h tk (by simpa using hx') j off' F' N'
  · intro m' news' h tk j F' N'
    exact done m' news' h tk (by simpa using j) F' N'
end
end RS
end

section
open PySem PySem.W PySem.Calls PyProof.Rows
open Sem (wp)
open PySem.SeqAt
open AutoSeq1 (wpAny_loadPart')
set_option maxRecDepth 100000
set_option maxHeartbeats 0
set_option linter.unusedVariables false
namespace RS

theorem place_in {lo hi v : Int} : (Builtin.Range.rangePlace? lo hi 1 v).isSome = (decide (lo ≤ v) && decide (v < hi)) := by
  unfold Builtin.Range.rangePlace?
  simp only [show ((1 : Int) > 0) = True from by simp, if_true, Int.emod_one, beq_self_eq_true, Bool.and_true]
  cases h : (decide (lo ≤ v) && decide (v < hi)) <;> simp

section
variable {A : Around} {s : Shared}

theorem meets_range_contains (r : Addr) (lo hi v : Int) (t1 t2 t3 tv : Tok) :
    Meets (Builtin.«range.__contains__» ⟨[.ref r, .int v tv], []⟩) (fun _ R s => s.heap.get? r = some (rngO lo hi t1 t2 t3) ∧ R (.ok (.ret (.bool (decide (lo ≤ v) && decide (v < hi))))) s) :=
  .of_wp fun prog w A R s h => by
    obtain ⟨hp, g, d, tk, os⟩ := s; obtain ⟨hl, h⟩ := h
    rw [← place_in] at h
    wp_walk
    exact ⟨_, rfl, h⟩

theorem size_1 {lo hi : Int} (h : lo < hi) : Builtin.Range.rangeSize lo hi 1 = hi - lo := by
  unfold Builtin.Range.rangeSize
  simp only [show ((1 : Int) > 0) = True from by simp, if_true, h, Int.ediv_one]
  omega

theorem same_1 {lo hi lo' hi' : Int} (h : lo < hi) (h' : lo' < hi') :
    (Builtin.Range.rangeSize lo hi 1 == Builtin.Range.rangeSize lo' hi' 1 && (Builtin.Range.rangeSize lo hi 1 == 0 || (lo == lo' && (Builtin.Range.rangeSize lo hi 1 == 1 || (1 : Int) == 1)))) = decide ((lo, hi) = (lo', hi')) := by
  rw [size_1 h, size_1 h']
  have h0 : (hi - lo == 0) = false := by simp; omega
  rw [h0]
  simp only [beq_self_eq_true, Bool.or_true, Bool.and_true, Bool.false_or, Prod.mk.injEq]
  rw [Bool.eq_iff_iff]
  simp only [Bool.and_eq_true, beq_iff_eq, decide_eq_true_eq]
  omega

theorem meets_range_eq (r r' : Addr) (lo hi lo' hi' : Int) (t1 t2 t3 t1' t2' t3' : Tok) (h1 : lo < hi) (h2 : lo' < hi') :
    Meets (Builtin.«range.__eq__» ⟨[.ref r, .ref r'], []⟩) (fun _ R s => s.heap.get? r = some (rngO lo hi t1 t2 t3) ∧ s.heap.get? r' = some (rngO lo' hi' t1' t2' t3') ∧ R (.ok (.ret (.bool (decide ((lo, hi) = (lo', hi')))))) s) :=
  .of_wp fun prog w A R s h => by
    obtain ⟨hp, g, d, tk, os⟩ := s; obtain ⟨hl, hl', h⟩ := h
    rw [← same_1 h1 h2] at h
    wp_walk
    exact ⟨_, rfl, h⟩

theorem in_range {prog : Program} {w : World} {E : Value → Shared → Prop} {r : Addr} {lo hi v : Int} {t1 t2 t3 tv : Tok} {Q : Value → Shared → Prop} (hr : s.heap.get? r = some (rngO lo hi t1 t2 t3))
    (h : Q (.bool (decide (lo ≤ v) && decide (v < hi))) s) : wpAny (model prog w) A (compareOp .In (.int v tv) (.ref r)) Q E s :=
  SeqRoads2.in_meets ⟨_, hr, rfl⟩ F.slot_range_contains F.entry_range_contains (F.args_range_contains_2 _ _) (meets_range_contains r lo hi v t1 t2 t3 tv) ⟨hr, _, rfl, h⟩

theorem rcAt_range {r r' : Addr} {lo hi lo' hi' : Int} {t1 t2 t3 t1' t2' t3' : Tok} (h1 : lo < hi) (h2 : lo' < hi') (hr : s.heap.get? r = some (rngO lo hi t1 t2 t3)) (hr' : s.heap.get? r' = some (rngO lo' hi' t1' t2' t3'))
    (hu : A.units < cLine) : RcAt A s (.ref r) (.ref r') (decide ((lo, hi) = (lo', hi'))) := fun prog w E Q h =>
  richCompare_meets_room (op := .Eq) ⟨_, hr, rfl⟩ ⟨_, hr', rfl⟩ F.slot_range_eq F.entry_range_eq (F.args_range_eq_2 _ _) (meets_range_eq r r' lo hi lo' hi' t1 t2 t3 t1' t2' t3' h1 h2)
    ⟨hr, hr', show Value.bool (decide ((lo, hi) = (lo', hi'))) ≠ Value.notImplemented ∧ Q (.bool (decide ((lo, hi) = (lo', hi')))) s from ⟨(fun x => nomatch x), h⟩⟩ hu

theorem eqAt_range {r r' : Addr} {lo hi lo' hi' : Int} {t1 t2 t3 t1' t2' t3' : Tok} (h1 : lo < hi) (h2 : lo' < hi') (hr : s.heap.get? r = some (rngO lo hi t1 t2 t3)) (hr' : s.heap.get? r' = some (rngO lo' hi' t1' t2' t3'))
    (hu : A.units < cLine) : EqAt A s (.ref r) (.ref r') (decide ((lo, hi) = (lo', hi'))) := by
  by_cases q : r = r'
  · subst q
    rw [hr] at hr'
    cases hr'
    rw [decide_eq_true rfl]
    exact EqAt.same _
  · exact EqAt.of_refs q (rcAt_range h1 h2 hr hr' hu)

/-- refs to plain ranges by one -/
inductive Rngs (h : Heap) : List Value → List (Int × Int) → Prop
  | nil : Rngs h [] []
  | cons {a : Addr} {lo hi : Int} {t1 t2 t3 : Tok} {vs : List Value} {rs : List (Int × Int)} : h.get? a = some (rngO lo hi t1 t2 t3) → Rngs h vs rs → Rngs h (.ref a :: vs) ((lo, hi) :: rs)
theorem Rngs.length {h : Heap} {vs : List Value} {rs : List (Int × Int)} (x : Rngs h vs rs) : vs.length = rs.length := by
  induction x with
  | nil => rfl
  | cons _ _ ih => rw [List.length_cons, List.length_cons, ih]
theorem Rngs.keeps {h h' : Heap} {vs : List Value} {rs : List (Int × Int)} (x : Rngs h vs rs) (k : ∀ b lo hi t1 t2 t3, h.get? b = some (rngO lo hi t1 t2 t3) → h'.get? b = some (rngO lo hi t1 t2 t3)) : Rngs h' vs rs := by
  induction x with
  | nil => exact .nil
  | cons e _ ih => exact .cons (k _ _ _ _ _ _ e) ih
theorem Rngs.get {h : Heap} {vs : List Value} {rs : List (Int × Int)} (x : Rngs h vs rs) : ∀ {i : Nat} {v : Value}, vs[i]? = some v → ∃ a lo hi t1 t2 t3, v = .ref a ∧ rs[i]? = some (lo, hi) ∧ h.get? a = some (rngO lo hi t1 t2 t3) := by
  induction x with
  | nil => intro i v hv; simp at hv
  | cons e _ ih =>
    intro i v hv
    cases i with
    | zero => simp at hv; subst hv; exact ⟨_, _, _, _, _, _, rfl, by simp, e⟩
    | succ i => simp at hv; simpa using ih hv
theorem Rngs.at {h : Heap} {vs : List Value} {rs : List (Int × Int)} (x : Rngs h vs rs) : ∀ {i : Nat} {lo hi : Int}, rs[i]? = some (lo, hi) → ∃ a t1 t2 t3, vs[i]? = some (.ref a) ∧ h.get? a = some (rngO lo hi t1 t2 t3) := by
  induction x with
  | nil => intro i lo hi hv; simp at hv
  | cons e _ ih =>
    intro i lo hi hv
    cases i with
    | zero => simp at hv; obtain ⟨rfl, rfl⟩ := hv; exact ⟨_, _, _, _, by simp, e⟩
    | succ i => simp at hv; simpa using ih hv
theorem Rngs.append {h : Heap} {vs ws : List Value} {rs qs : List (Int × Int)} (x : Rngs h vs rs) (y : Rngs h ws qs) : Rngs h (vs ++ ws) (rs ++ qs) := by
  induction x with
  | nil => exact y
  | cons e _ ih => exact .cons e ih
theorem Rngs.take {h : Heap} {vs : List Value} {rs : List (Int × Int)} (x : Rngs h vs rs) : ∀ n, Rngs h (vs.take n) (rs.take n) := by
  induction x with
  | nil => intro n; simp; exact .nil
  | cons e _ ih => intro n; cases n with
    | zero => simp; exact .nil
    | succ n => simp; exact .cons e (ih n)
theorem Rngs.drop {h : Heap} {vs : List Value} {rs : List (Int × Int)} (x : Rngs h vs rs) : ∀ n, Rngs h (vs.drop n) (rs.drop n) := by
  induction x with
  | nil => intro n; simp; exact .nil
  | cons e y ih => intro n; cases n with
    | zero => simp; exact .cons e y
    | succ n => simp; exact ih n
def Pos (rs : List (Int × Int)) : Prop := ∀ q ∈ rs, q.1 < q.2

theorem eq_all : ∀ (rs qs : List (Int × Int)), rs.length = qs.length → (List.range rs.length).all (fun i => decide (rs[i]? = qs[i]?)) = decide (rs = qs) := by
  intro rs qs hl
  rw [Bool.eq_iff_iff]
  simp only [List.all_eq_true, List.mem_range, decide_eq_true_eq]
  constructor
  · intro h
    apply List.ext_getElem? 
    intro i
    by_cases hi : i < rs.length
    · exact h i hi
    · rw [List.getElem?_eq_none (by omega), List.getElem?_eq_none (by omega)]
  · rintro rfl i _
    rfl

theorem rcAt_rngs {l l' : Addr} {its its' : List Value} {rs rs' : List (Int × Int)} (hl : s.heap.IsList l its.toArray) (hl' : s.heap.IsList l' its'.toArray) (x : Rngs s.heap its rs) (x' : Rngs s.heap its' rs') (hp : Pos rs) (hp' : Pos rs')
    (hu : A.units + 1 < cLine) : RcAt A s (.ref l) (.ref l') (decide (rs = rs')) := by
  by_cases hlen : rs.length = rs'.length
  · have h := RcAt.lists (A := A) (e := fun i => decide (rs[i]? = rs'[i]?)) hl hl' (by simp [x.length, x'.length, hlen]) (by omega) (fun j h1 h2 => by
      have e1 : its[j]? = some (its[j]'(by simpa using h1)) := List.getElem?_eq_getElem _
      have e2 : its'[j]? = some (its'[j]'(by simpa using h2)) := List.getElem?_eq_getElem _
      obtain ⟨a, lo, hi, t1, t2, t3, hv, hr, ha⟩ := x.get e1
      obtain ⟨a', lo', hi', t1', t2', t3', hv', hr', ha'⟩ := x'.get e2
      show EqAt A.in1 s (its.toArray[j]) (its'.toArray[j]) (decide (rs[j]? = rs'[j]?))
      rw [List.getElem_toArray, List.getElem_toArray, hv, hv', hr, hr']
      have := eqAt_range (A := A.in1) (s := s) (hp _ (List.mem_of_getElem? hr)) (hp' _ (List.mem_of_getElem? hr')) ha ha' hu
      simpa using this)
    have e : (List.range its.toArray.size).all (fun i => decide (rs[i]? = rs'[i]?)) = decide (rs = rs') := by
      rw [List.size_toArray, x.length]; exact eq_all rs rs' hlen
    rw [e] at h
    exact h
  · have h := RcAt.lists_lengths (A := A) hl hl' (by simp [x.length, x'.length, hlen]) (by omega)
    have e : decide (rs = rs') = false := decide_eq_false (fun q => hlen (by rw [q]))
    rw [e]; exact h
end
end RS
end

section
open PySem PySem.W PySem.Calls PyProof.Rows
open Sem (wp)
set_option maxRecDepth 100000
set_option maxHeartbeats 0
set_option linter.unusedVariables false
namespace RS

section
variable {prog : Program} {w : World} {A : Around} {E : Value → Shared → Prop} {s : Shared} {h₀ : Heap} {L D : Addr} {m : Str → Option Value} {news news' : List (Addr × Obj)} {its : List Value} {n : Nat}

theorem rs_len {Q : Value → Shared → Prop} (N : News h₀ L s.heap news) (hm : (D, listOf its.toArray n) ∈ news) (hz : its.length ≤ 100000)
    (h : Q (.int its.length (s.toks + 1)) { s with toks := s.toks + 1 + 1 }) : wpAny (model prog w) A (call (.builtin "len") [.ref D]) Q E s :=
  Calls.call_len_list (items := its.toArray) ⟨_, (N _ hm).1, rfl, n, rfl⟩ (by rw [List.size_toArray]; omega) h

theorem rs_getItem {k : Int} {u : Tok} {v : Value} {Q : Value → Shared → Prop} (N : News h₀ L s.heap news) (hm : (D, listOf its.toArray n) ∈ news) (h0 : 0 ≤ k) (hf : k < 2 ^ 63) (hx : its[k.toNat]? = some v)
    (h : Q v s) : wpAny (model prog w) A (getItem (.ref D) (.int k u)) Q E s :=
  wpAny_getItem_list (items := its.toArray) ⟨_, (N _ hm).1, rfl, n, rfl⟩ h0 hf (by simpa using hx) h
theorem rs_item {value slice : PySem.Expr} {k : Int} {u : Tok} {v : Value} {Q : Value → Shared → Prop} (N : News h₀ L s.heap news) (hm : (D, listOf its.toArray n) ∈ news) (h0 : 0 ≤ k) (hf : k < 2 ^ 63) (hx : its[k.toNat]? = some v)
    (h : Q v s) (hs : subscripted slice false (.ref D) (.int k u) = operate [.ref D, .int k u] (getItem (.ref D) (.int k u)) := by with_unfolding_all rfl) : wpAny (model prog w) A (subscriptTail value slice (.ref D) (.int k u)) Q E s :=
  tail_any (s := s) (T := "list") ⟨_, (N _ hm).1, rfl⟩ slot_list_getitem.lookup (rs_getItem N hm h0 hf hx h) hs
theorem cut_at : ∀ (its : List Value) (k : Nat) (y : Value), its[k]? = some y → kl_cut its k = some (its.take k, y, its.drop (k + 1))
  | [], _, _, h => by simp at h
  | x :: r, 0, y, h => by simp at h; subst h; rfl
  | x :: r, k + 1, y, h => by
    have ih := cut_at r k y (by simpa using h)
    show (match kl_cut r k with | some (p, y, q) => some (x :: p, y, q) | none => none) = _
    rw [ih]; rfl
theorem rs_popAt {k : Int} {u : Tok} {y : Value} {Q : Value → Shared → Prop} (F : Fr h₀ L s.heap m) (N : News h₀ L s.heap news) (h0 : 0 ≤ k) (hf : k < 2 ^ 63) (hx : its[k.toNat]? = some y)
    (U : Upd D (listOf its.toArray n) (listOf (its.take k.toNat ++ its.drop (k.toNat + 1)).toArray (n + 1)) news news') (hz : its.length ≤ 100000)
    (h : ∀ h', Fr h₀ L h' m → News h₀ L h' news' → Q y { s with heap := h' }) : wpAny (model prog w) A (call (.builtin "list.pop") [.ref D, .int k u]) Q E s := by
  have hlt : k.toNat < its.length := (List.getElem?_eq_some_iff.mp hx).1
  exact kl_popAt F N (fitsIndex_of h0 hf) (seqIndex_of h0 (by rw [List.size_toArray]; omega)) (cut_at its k.toNat y hx) U (by show its.length ≤ sizeLine; rw [sizeLine_eq]; omega) h
theorem rs_insert {k : Int} {u : Tok} {y : Value} {Q : Value → Shared → Prop} (F : Fr h₀ L s.heap m) (N : News h₀ L s.heap news) (h0 : 0 ≤ k) (hf : k < 2 ^ 63) (hk : k ≤ its.length)
    (U : Upd D (listOf its.toArray n) (listOf (its.take k.toNat ++ y :: its.drop k.toNat).toArray (n + 1)) news news') (hz : its.length ≤ 100000)
    (h : ∀ h', Fr h₀ L h' m → News h₀ L h' news' → Q .none { s with heap := h' }) : wpAny (model prog w) A (call (.builtin "list.insert") [.ref D, .int k u, y]) Q E s :=
  kl_insert F N (fitsIndex_of h0 hf) (by
    show kl_ins its k y = _
    unfold kl_ins
    rw [if_neg (by omega), Nat.min_eq_left (by omega)]) U (by show its.length ≤ sizeLine; rw [sizeLine_eq]; omega) h
theorem rs_set {k : Int} {t : Tok} {v : Value} {Q : Unit → Shared → Prop} (F : Fr h₀ L s.heap m) (N : News h₀ L s.heap news) (h0 : 0 ≤ k) (hf : k < 2 ^ 63) (hk : k < its.length)
    (U : Upd D (listOf its.toArray n) (listOf (its.set k.toNat v).toArray n) news news')
    (h : ∀ h', Fr h₀ L h' m → News h₀ L h' news' → Q () { s with heap := h' }) : wpAny (model prog w) A (setItem (.ref D) (.int k t) v) Q E s := by
  obtain ⟨pre, post, rfl, rfl, a, b⟩ := U.split
  have z := N (D, listOf its.toArray n) (List.mem_append.mpr (.inr (.head _)))
  refine ki_setAt z.1 h0 hf (by simpa using hk) (h _ (F.change (Heap.SameBut.update ..) z.2.1 z.2.2) (ki_turn _ N a b ?_ ?_))
  · show its.toArray.setIfInBounds k.toNat v = (its.set k.toNat v).toArray
    apply Array.toList_inj.mp
    simp
  · simp
theorem rs_append {x : Value} {Q : Value → Shared → Prop} (F : Fr h₀ L s.heap m) (N : News h₀ L s.heap news) (U : Upd D (listOf its.toArray n) (listOf (its ++ [x]).toArray (n + 1)) news news') (hz : its.length ≤ 100000)
    (h : ∀ h', Fr h₀ L h' m → News h₀ L h' news' → Q .none { s with heap := h' }) : wpAny (model prog w) A (call (.builtin "list.append") [.ref D, x]) Q E s :=
  append_K F N (its := its.toArray) (by rw [List.push_toArray]; exact U) h (by rw [List.size_toArray, sizeLine_eq]; omega)
theorem rs_range {a b : Int} {t u : Tok} {Q : Value → Shared → Prop} (F : Fr h₀ L s.heap m) (N : News h₀ L s.heap news)
    (h : ∀ r h' v tk, Fr h₀ L h' m → News h₀ L h' ((r, rngO a b t u v) :: news) → (∀ p ∈ news, p.1 < r) → Q (.ref r) { s with heap := h', toks := tk }) : wpAny (model prog w) A (call (.type "range") [.int a t, .int b u]) Q E s :=
  call_range_2 (h _ _ _ _ (F.push _) (N.push F _) fun p hp => Heap.lt_size (N p hp).1)
theorem rs_start {a : Addr} {lo hi : Int} {t1 t2 t3 : Tok} {expr : Bool} {Q : Value → Shared → Prop} (hx : s.heap.get? a = some (rngO lo hi t1 t2 t3)) (hq : Q (.int lo t1) { s with toks := s.toks + 1 }) : wpAny (model prog w) A (getAttr (.ref a) "start" expr) Q E s := by
  obtain ⟨h, g, d, t, os⟩ := s
  exact start_attr hx hq
theorem rs_stop {a : Addr} {lo hi : Int} {t1 t2 t3 : Tok} {expr : Bool} {Q : Value → Shared → Prop} (hx : s.heap.get? a = some (rngO lo hi t1 t2 t3)) (hq : Q (.int hi t2) { s with toks := s.toks + 1 }) : wpAny (model prog w) A (getAttr (.ref a) "stop" expr) Q E s := by
  obtain ⟨h, g, d, t, os⟩ := s
  exact stop_attr hx hq
theorem rs_step {a : Addr} {lo hi : Int} {t1 t2 t3 : Tok} {expr : Bool} {Q : Value → Shared → Prop} (hx : s.heap.get? a = some (rngO lo hi t1 t2 t3)) (hq : Q (.int 1 t3) { s with toks := s.toks + 1 }) : wpAny (model prog w) A (getAttr (.ref a) "step" expr) Q E s := by
  obtain ⟨h, g, d, t, os⟩ := s
  exact step_attr hx hq

theorem rs_iter {Q : Value → Shared → Prop} (F : Fr h₀ L s.heap m) (N : News h₀ L s.heap news) (hm : (D, listOf its.toArray n) ∈ news)
    (h : ∀ (I : Addr) h' oI, Fr h₀ L h' m → News h₀ L h' ((I, oI) :: news) → (∀ p ∈ news, p.1 < I) → s.heap.objs.size ≤ I → h'.IsListIter I D 0 → Q (.ref I) { s with heap := h' }) :
    wpAny (model prog w) A (call (.builtin "iter") [.ref D]) Q E s := by
  refine call_function_entry (by decide +kernel) (by decide +kernel) kdk_entry_iter (kdk_args_iter _) ?_
  unfold Builtin.«iter»
  refine wpAny_bind (m := someArgs "iter" 1 2 _) (wpAny_of_eq (a := [Value.ref D]) (by first | rfl | kernel_rfl!) ?_)
  show wpAny _ _ (pyIter (.ref D) >>= _) _ _ _
  refine wpAny_bind (wpAny_pyIter_list (items := its.toArray) ⟨_, (N _ hm).1, rfl, n, rfl⟩ ?_)
  exact wpAny_pure ⟨_, rfl, h _ _ _ (F.push _) (News.push F N _ rfl) (fun q hq => Heap.lt_size (N q hq).1) (Nat.le_refl _) ⟨_, Heap.get?_push_size _ rfl, rfl, rfl⟩⟩

/-- an item by a place from either end -/
def keyAt (its : List Value) (k : Int) : Option Value := if 0 ≤ k then its[k.toNat]? else if -(its.length : Int) ≤ k then its[(k + its.length).toNat]? else none
theorem stays_all {h g h' : Heap} {news : List (Addr × Obj)} {base : Heap} (N₀ : ∀ q ∈ news, h.get? q.1 = some q.2 ∧ base.get? q.1 = none) (kb : KeepBut (news.map (·.1)) h g) (st : ∀ b o, g.get? b = some o → h'.get? b = some o) (N : News g L h' news) : h.StaysIn h' := fun b o e => by
  by_cases m : b ∈ news.map (·.1)
  · obtain ⟨q, hq, rfl⟩ := List.mem_map.mp m
    rw [(N₀ q hq).1] at e
    cases e
    exact (N q hq).1
  · exact st b o (kb b o m e)
theorem fresh_all {h g h₁ : Heap} {news : List (Addr × Obj)} {m₁ : Str → Option Value} (kb : KeepBut (news.map (·.1)) h g) (F : Fr g L h₁ m₁) (N : News g L h₁ news) {I : Addr} (hI : h₁.objs.size ≤ I) : h.get? I = none := by
  cases q : h.get? I with
  | none => rfl
  | some o =>
    exfalso
    by_cases m : I ∈ news.map (·.1)
    · obtain ⟨p, hp, rfl⟩ := List.mem_map.mp m
      exact absurd (Heap.lt_size (N p hp).1) (Nat.not_lt.mpr hI)
    · have h1 : I < g.objs.size := Heap.lt_size (kb I o m q)
      have h2 := F.above
      have h3 : L < h₁.objs.size := F.ns.lt
      exact absurd (Nat.lt_of_lt_of_le h1 h2) (Nat.not_lt.mpr (Nat.le_trans (Nat.le_of_lt h3) hI))
theorem map_self {m : Str → Option Value} {x : Str} : m = fun y => if y = x then m x else m y := by
  funext y
  by_cases h : y = x
  · rw [if_pos h, h]
  · rw [if_neg h]
theorem map_over {m : Str → Option Value} {x : Str} {u v : Option Value} : (fun y => if y = x then v else (if y = x then u else m y)) = fun y => if y = x then v else m y := by
  funext y
  by_cases h : y = x
  · simp [h]
  · simp [h]
end
end RS
end

section
open PySem PySem.W PySem.Calls PyProof.Rows
open Sem (wp)
set_option maxRecDepth 100000
set_option maxHeartbeats 0
set_option linter.unusedVariables false
namespace RS

section
variable {prog : Program} {w : World} {A : Around} {s : Shared} {env : Env} {g : Heap} {body : List Stmt} {Q : Flow → Shared → Prop}

/-- a while, by what holds ahead of each test; the measure falls -/
theorem while_inv {test : Expr} {pos : PySem.Pos} {E : Value → Shared → Prop} (J : Nat → Heap → Nat → Prop) (n : Nat) (j0 : J n s.heap s.toks)
    (turn : ∀ n h tk, J n h tk → wpAny (model prog w) A (isTrue test env (eval test env)) (fun b s₁ => if b = true then wpAny (model prog w) A (execs body env) (fun f s₂ => match f with
        | .ret v => Q (.ret v) s₂
        | .brk => Q .next s₂
        | _ => ∃ k h' tk', s₂ = { s with heap := h', toks := tk' } ∧ k < n ∧ J k h' tk') (fun _ _ => False) s₁ else Q .next s₁) (fun _ _ => False) { s with heap := h, toks := tk }) :
    wpAny (model prog w) A (exec (.While test body [] pos) env) Q E s := by
  refine wpAny_While ?_
  refine codeAny_whileLoop (fun n s' => ∃ h tk, s' = { s with heap := h, toks := tk } ∧ J n h tk) ?_ n ⟨s.heap, s.toks, rfl, j0⟩
  rintro n s' ⟨h, tk, rfl, j⟩
  refine wpAny_mono (turn n h tk j) (fun b s₁ h₁ => ?_) (fun _ _ x => x.elim)
  cases b with
  | false =>
    simp only [Bool.false_eq_true, if_false] at h₁ ⊢
    exact wpAny_execs_nil h₁
  | true =>
    simp only [if_true] at h₁ ⊢
    refine wpAny_mono h₁ (fun f s₂ h₂ => ?_) (fun _ _ x => x.elim)
    cases f with
    | ret v => exact h₂
    | brk => exact h₂
    | next => obtain ⟨k, h', tk', rfl, hk, j'⟩ := h₂; exact ⟨k, hk, h', tk', rfl, j'⟩
    | cont => obtain ⟨k, h', tk', rfl, hk, j'⟩ := h₂; exact ⟨k, hk, h', tk', rfl, j'⟩

def WExit (s : Shared) (Post : Heap → Nat → Prop) (s₁ : Shared) : Prop := ∃ h' tk', s₁ = { s with heap := h', toks := tk' } ∧ Post h' tk'
def WTurn (s : Shared) (J : Nat → Heap → Nat → Prop) (n : Nat) (Post : Heap → Nat → Prop) (Q : Flow → Shared → Prop) (f : Flow) (s₂ : Shared) : Prop := match f with
  | .ret v => Q (.ret v) s₂
  | .brk => WExit s Post s₂
  | _ => ∃ k h' tk', s₂ = { s with heap := h', toks := tk' } ∧ k < n ∧ J k h' tk'
/-- the same, what the end needs said apart -/
theorem while_post {test : Expr} {pos : PySem.Pos} {E : Value → Shared → Prop} (J : Nat → Heap → Nat → Prop) (Post : Heap → Nat → Prop) (n : Nat) (j0 : J n s.heap s.toks)
    (turn : ∀ n h tk, J n h tk → wpAny (model prog w) A (isTrue test env (eval test env)) (fun b s₁ => if b = true then wpAny (model prog w) A (execs body env) (WTurn s J n Post Q) (fun _ _ => False) s₁ else WExit s Post s₁) (fun _ _ => False) { s with heap := h, toks := tk })
    (fin : ∀ h tk, Post h tk → Q .next { s with heap := h, toks := tk }) :
    wpAny (model prog w) A (exec (.While test body [] pos) env) Q E s := by
  refine while_inv J n j0 fun n h tk j => wpAny_mono (turn n h tk j) (fun b s₁ h₁ => ?_) (fun _ _ x => x)
  cases b with
  | false =>
    simp only [Bool.false_eq_true, if_false] at h₁ ⊢
    obtain ⟨h', tk', rfl, hp⟩ := h₁
    exact fin h' tk' hp
  | true =>
    simp only [if_true] at h₁ ⊢
    refine wpAny_mono h₁ (fun f s₂ h₂ => ?_) (fun _ _ x => x)
    cases f with
    | ret v => exact h₂
    | brk => obtain ⟨h', tk', rfl, hp⟩ := h₂; exact fin h' tk' hp
    | next => exact h₂
    | cont => exact h₂
theorem off2 {a e i : Addr} (h : a ∉ [e, i]) : (@Ne Nat a e) ∧ (@Ne Nat a i) := ⟨fun q => h (q ▸ .head _), fun q => h (q ▸ .tail _ (.head _))⟩

theorem rs_enum {E : Value → Shared → Prop} {L D : Addr} {m : Str → Option Value} {news : List (Addr × Obj)} {its : List Value} {n : Nat} {Q : Value → Shared → Prop} (F : Fr g L s.heap m) (N : News g L s.heap news) (hm : (D, listOf its.toArray n) ∈ news)
    (h : ∀ e it h', Fr g L h' m → News g L h' news → IsEnum h' e it 0 .none → h'.IsListIter it D 0 → (e ≠ L ∧ it ≠ L ∧ g.get? e = none ∧ g.get? it = none) → (∀ p ∈ news, p.1 ∉ [e, it]) → Q (.ref e) { s with heap := h' }) :
    wpAny (model prog w) A (call (.type "enumerate") [.ref D]) Q E s := by
  refine call_enumerate_1 (N _ hm).1 ?_
  intro h' he hi hz k
  have hL : L < s.heap.objs.size := F.ns.lt
  refine h _ _ h' ⟨F.ns.keeps k, fun b o e => k b o (F.keep b o e), F.above⟩ (fun p hp => ⟨k _ _ (N p hp).1, (N p hp).2⟩) he hi ⟨Nat.ne_of_gt (Nat.lt_succ_of_lt hL), Nat.ne_of_gt hL, fresh_g F _ (Nat.le_succ _), fresh_g F _ (Nat.le_refl _)⟩
    (fun p hp hm => by
      have h1 : p.1 < s.heap.objs.size := Heap.lt_size (N p hp).1
      rcases List.mem_cons.mp hm with q | hm
      · exact absurd (q ▸ h1) (Nat.not_lt.mpr (Nat.le_succ _))
      · exact absurd ((List.mem_singleton.mp hm) ▸ h1) (Nat.lt_irrefl _))
end

section
variable {prog : Program} {w : World} {A : Around} {s : Shared} {g : Heap} {E : Value → Shared → Prop} {L : Addr} {m : Str → Option Value} {news : List (Addr × Obj)}
theorem rs_min {a b : Int} {t u : Tok} {Q : Value → Shared → Prop} (hh : A.handled = none) (F : Fr g L s.heap m) (N : News g L s.heap news) (h : ∀ h' tk t', Fr g L h' m → News g L h' news → Q (.int (min a b) t') { s with heap := h', toks := tk }) :
    wpAny (model prog w) A (call (.builtin "min") [.int a t, .int b u]) Q E s :=
  min_two_N hh F N fun h' tk F' N' => by
    have e : (if b < a then b else a) = min a b := by split <;> omega
    rw [e]; exact h h' tk _ F' N'
theorem rs_max {a b : Int} {t u : Tok} {Q : Value → Shared → Prop} (hh : A.handled = none) (F : Fr g L s.heap m) (N : News g L s.heap news) (h : ∀ h' tk t', Fr g L h' m → News g L h' news → Q (.int (max a b) t') { s with heap := h', toks := tk }) :
    wpAny (model prog w) A (call (.builtin "max") [.int a t, .int b u]) Q E s :=
  max_two_N hh F N fun h' tk F' N' => by
    have e : (if b > a then b else a) = max a b := by split <;> omega
    rw [e]; exact h h' tk _ F' N'
end

theorem fr_eq {g h : Heap} {L : Addr} {m m' : Str → Option Value} (F : Fr g L h m) (e : m = m') : Fr g L h m' := e ▸ F
theorem map_self2 {m : Str → Option Value} {x y : Str} : m = fun z => if z = y then m y else if z = x then m x else m z := by
  funext z
  by_cases h : z = y
  · rw [if_pos h, h]
  · rw [if_neg h]
    by_cases h2 : z = x
    · rw [if_pos h2, h2]
    · rw [if_neg h2]
theorem map_over2 {m : Str → Option Value} {x y : Str} {u v u' v' : Option Value} : (fun z => if z = y then v' else if z = x then u' else (if z = y then v else if z = x then u else m z)) = fun z => if z = y then v' else if z = x then u' else m z := by
  funext z
  by_cases h : z = y
  · simp [h]
  · by_cases h2 : z = x
    · simp [h2]
    · simp [h, h2]

/-- refs to plain ranges by one -/
inductive RngsP (P : Addr → Obj → Prop) : List Value → List (Int × Int) → Prop
  | nil : RngsP P [] []
  | cons {a : Addr} {lo hi : Int} {t1 t2 t3 : Tok} {vs : List Value} {rs : List (Int × Int)} : P a (rngO lo hi t1 t2 t3) → RngsP P vs rs → RngsP P (.ref a :: vs) ((lo, hi) :: rs)
theorem RngsP.length {P : Addr → Obj → Prop} {vs : List Value} {rs : List (Int × Int)} (x : RngsP P vs rs) : vs.length = rs.length := by
  induction x with
  | nil => rfl
  | cons _ _ ih => rw [List.length_cons, List.length_cons, ih]
theorem RngsP.mono {P P' : Addr → Obj → Prop} {vs : List Value} {rs : List (Int × Int)} (x : RngsP P vs rs) (k : ∀ a o, P a o → P' a o) : RngsP P' vs rs := by
  induction x with
  | nil => exact .nil
  | cons e _ ih => exact .cons (k _ _ e) ih
theorem RngsP.to {P : Addr → Obj → Prop} {h : Heap} {vs : List Value} {rs : List (Int × Int)} (x : RngsP P vs rs) (k : ∀ a o, P a o → h.get? a = some o) : Rngs h vs rs := by
  induction x with
  | nil => exact .nil
  | cons e _ ih => exact .cons (k _ _ e) ih
theorem RngsP.of {P : Addr → Obj → Prop} {h : Heap} {vs : List Value} {rs : List (Int × Int)} (x : Rngs h vs rs) (k : ∀ a lo hi t1 t2 t3, h.get? a = some (rngO lo hi t1 t2 t3) → P a (rngO lo hi t1 t2 t3)) : RngsP P vs rs := by
  induction x with
  | nil => exact .nil
  | cons e _ ih => exact .cons (k _ _ _ _ _ _ e) ih
theorem RngsP.at {P : Addr → Obj → Prop} {vs : List Value} {rs : List (Int × Int)} (x : RngsP P vs rs) : ∀ {i : Nat} {lo hi : Int}, rs[i]? = some (lo, hi) → ∃ a t1 t2 t3, vs[i]? = some (.ref a) ∧ P a (rngO lo hi t1 t2 t3) := by
  induction x with
  | nil => intro i lo hi hv; simp at hv
  | cons e _ ih =>
    intro i lo hi hv
    cases i with
    | zero => simp at hv; obtain ⟨rfl, rfl⟩ := hv; exact ⟨_, _, _, _, by simp, e⟩
    | succ i => simp at hv; simpa using ih hv
theorem RngsP.append {P : Addr → Obj → Prop} {vs ws : List Value} {rs qs : List (Int × Int)} (x : RngsP P vs rs) (y : RngsP P ws qs) : RngsP P (vs ++ ws) (rs ++ qs) := by
  induction x with
  | nil => exact y
  | cons e _ ih => exact .cons e ih
theorem RngsP.take {P : Addr → Obj → Prop} {vs : List Value} {rs : List (Int × Int)} (x : RngsP P vs rs) : ∀ n, RngsP P (vs.take n) (rs.take n) := by
  induction x with
  | nil => intro n; simp; exact .nil
  | cons e _ ih => intro n; cases n with
    | zero => simp; exact .nil
    | succ n => simp; exact .cons e (ih n)
theorem RngsP.drop {P : Addr → Obj → Prop} {vs : List Value} {rs : List (Int × Int)} (x : RngsP P vs rs) : ∀ n, RngsP P (vs.drop n) (rs.drop n) := by
  induction x with
  | nil => intro n; simp; exact .nil
  | cons e y ih => intro n; cases n with
    | zero => simp; exact .cons e y
    | succ n => simp; exact ih n
theorem RngsP.set {P : Addr → Obj → Prop} {vs : List Value} {rs : List (Int × Int)} (x : RngsP P vs rs) {a : Addr} {lo hi : Int} {t1 t2 t3 : Tok} (e : P a (rngO lo hi t1 t2 t3)) : ∀ n, RngsP P (vs.set n (.ref a)) (rs.set n (lo, hi)) := by
  induction x with
  | nil => intro n; simp; exact .nil
  | cons q y ih => intro n; cases n with
    | zero => exact .cons e y
    | succ n => exact .cons q (ih n)
/-- an object out of the frame's ground, or out of the ledger's unwritten rest -/
def Src (g : Heap) (I : List (Addr × Obj)) (a : Addr) (o : Obj) : Prop := g.get? a = some o ∨ (a, o) ∈ I
theorem Src.here {g h : Heap} {I news : List (Addr × Obj)} {L a : Addr} {o : Obj} {m : Str → Option Value} (x : Src g I a o) (F : Fr g L h m) (N : News g L h news) (k : ∀ p ∈ I, p ∈ news) : h.get? a = some o := x.elim (F.keep _ _) fun q => (N _ (k _ q)).1
theorem Src.more {g : Heap} {I : List (Addr × Obj)} {a : Addr} {o : Obj} (p : Addr × Obj) (x : Src g I a o) : Src g (p :: I) a o := x.elim .inl fun q => .inr (.tail _ q)

def mergeL (a : Int) : Int → List (Int × Int) → List (Int × Int)
  | b, [] => [(a, b)]
  | b, (lo, hi) :: rest => if lo ≤ b then mergeL a (max hi b) rest else (a, b) :: (lo, hi) :: rest
def addL (a b : Int) : List (Int × Int) → List (Int × Int)
  | [] => [(a, b)]
  | (lo, hi) :: rest => if b < lo then (a, b) :: (lo, hi) :: rest else if a > hi then (lo, hi) :: addL a b rest else mergeL (min a lo) (max b hi) rest

theorem drop_cons {rs : List (Int × Int)} {i : Nat} {q : Int × Int} (h : rs[i]? = some q) : rs.drop i = q :: rs.drop (i + 1) := by
  obtain ⟨hi, e⟩ := List.getElem?_eq_some_iff.mp h
  rw [List.drop_eq_getElem_cons hi, e]
theorem take_succ' {rs : List (Int × Int)} {i : Nat} {q : Int × Int} (h : rs[i]? = some q) : rs.take (i + 1) = rs.take i ++ [q] := by
  rw [List.take_add_one, h]; rfl
theorem addL_ins {a b lo hi : Int} {rs : List (Int × Int)} {i : Nat} (h : rs[i]? = some (lo, hi)) (h1 : b < lo) (e : addL a b rs = rs.take i ++ addL a b (rs.drop i)) : addL a b rs = rs.take i ++ (a, b) :: rs.drop i := by
  rw [e, drop_cons h]; simp [addL, h1]
theorem addL_go {a b lo hi : Int} {rs : List (Int × Int)} {i : Nat} (h : rs[i]? = some (lo, hi)) (h1 : ¬ b < lo) (h2 : a > hi) (e : addL a b rs = rs.take i ++ addL a b (rs.drop i)) : addL a b rs = rs.take (i + 1) ++ addL a b (rs.drop (i + 1)) := by
  rw [e, drop_cons h, take_succ' h]; simp [addL, h1, h2]
theorem addL_merge {a b lo hi : Int} {rs : List (Int × Int)} {i : Nat} (h : rs[i]? = some (lo, hi)) (h1 : ¬ b < lo) (h2 : ¬ a > hi) (e : addL a b rs = rs.take i ++ addL a b (rs.drop i)) : addL a b rs = rs.take i ++ mergeL (min a lo) (max b hi) (rs.drop (i + 1)) := by
  rw [e, drop_cons h]; simp only [addL, if_neg h1, if_neg h2]
theorem mergeL_go {a b lo hi : Int} {rs : List (Int × Int)} {i : Nat} (h : rs[i]? = some (lo, hi)) (h1 : lo ≤ b) : mergeL a b (rs.drop i) = mergeL a (max hi b) (rs.drop (i + 1)) := by
  rw [drop_cons h]; simp [mergeL, h1]
theorem mergeL_stop {a b : Int} {rs : List (Int × Int)} {i : Nat} (h : ∀ lo hi, rs[i]? = some (lo, hi) → ¬ lo ≤ b) : mergeL a b (rs.drop i) = (a, b) :: rs.drop i := by
  cases q : rs[i]? with
  | none => rw [List.drop_eq_nil_of_le (List.getElem?_eq_none_iff.mp q)]; rfl
  | some p => rw [drop_cons q]; simp [mergeL, h p.1 p.2 q]

def subL (a b : Int) : List (Int × Int) → List (Int × Int)
  | [] => []
  | (lo, hi) :: rest => if b ≤ lo then (lo, hi) :: rest else if a ≥ hi then (lo, hi) :: subL a b rest else if a ≤ lo ∧ b ≥ hi then subL a b rest
      else if a > lo then (if b < hi then (lo, a) :: (b, hi) :: rest else (lo, a) :: subL a b rest) else (b, hi) :: subL a b rest
/-- the walk's measure -/
def subM (b : Int) (rs : List (Int × Int)) (i : Nat) : Nat := 2 * (rs.length - i) + (match rs[i]? with | some q => if b ≤ q.1 then 0 else 1 | none => 1)
theorem subM_lt {b : Int} {rs rs' : List (Int × Int)} {i j : Nat} (h : rs'.length - j < rs.length - i) : subM b rs' j < subM b rs i := by
  unfold subM
  have h1 : (match rs'[j]? with | some q => if b ≤ q.1 then 0 else 1 | none => 1) ≤ 1 := by
    split
    · split <;> omega
    · omega
  omega
theorem subM_ins {b lo hi lo' hi' : Int} {rs rs' : List (Int × Int)} {i j : Nat} (h : rs'.length - j = rs.length - i) (e : rs[i]? = some (lo, hi)) (hb : ¬ b ≤ lo) (e' : rs'[j]? = some (lo', hi')) (hb' : b ≤ lo') : subM b rs' j < subM b rs i := by
  unfold subM
  rw [e, e']
  simp only [if_neg hb, if_pos hb']
  omega
theorem map_more {m : Str → Option Value} {x y : Str} {v : Option Value} (hxy : x ≠ y) : (fun z => if z = y then v else m z) = fun z => if z = x then m x else if z = y then v else m z := by
  funext z
  by_cases h : z = x
  · subst h; simp [hxy]
  · simp [h]
theorem map_ri {m : Str → Option Value} {x y : Str} {a b c d : Option Value} (hxy : x ≠ y) : (fun z => if z = y then a else if z = x then b else if z = x then c else if z = y then d else m z) = fun z => if z = x then b else if z = y then a else m z := by
  funext z
  by_cases h : z = x
  · subst h; simp [hxy]
  · by_cases h2 : z = y
    · subst h2; simp [Ne.symm hxy]
    · simp [h, h2]
section
variable {a b lo hi : Int} {rs rs' : List (Int × Int)} {i : Nat}
theorem subL_ret (h : rs'[i]? = some (lo, hi)) (h1 : b ≤ lo) (e : subL a b rs = rs'.take i ++ subL a b (rs'.drop i)) : subL a b rs = rs' := by
  rw [e, drop_cons h]
  simp only [subL, if_pos h1]
  rw [← drop_cons h, List.take_append_drop]
theorem subL_go (h : rs'[i]? = some (lo, hi)) (h1 : ¬ b ≤ lo) (h2 : hi ≤ a) (e : subL a b rs = rs'.take i ++ subL a b (rs'.drop i)) : subL a b rs = rs'.take (i + 1) ++ subL a b (rs'.drop (i + 1)) := by
  rw [e, drop_cons h, take_succ' h]
  simp only [subL, if_neg h1, ge_iff_le, if_pos h2, List.append_assoc, List.cons_append, List.nil_append]
theorem take_cut (h : i < rs'.length) {ys zs : List (Int × Int)} : (rs'.take i ++ ys).take i = rs'.take i ∧ (rs'.take i ++ ys).drop i = ys := by
  have hl : (rs'.take i).length = i := by rw [List.length_take]; omega
  constructor
  · rw [List.take_append_of_le_length (by omega), List.take_take, Nat.min_self]
  · conv => lhs; rw [← hl]
    rw [List.length_take, Nat.min_eq_left (by omega), ← hl]
    simp
theorem subL_pop (h : rs'[i]? = some (lo, hi)) (h1 : ¬ b ≤ lo) (h2 : ¬ hi ≤ a) (h3 : a ≤ lo) (h4 : hi ≤ b) (e : subL a b rs = rs'.take i ++ subL a b (rs'.drop i)) :
    subL a b rs = (rs'.take i ++ rs'.drop (i + 1)).take i ++ subL a b ((rs'.take i ++ rs'.drop (i + 1)).drop i) := by
  obtain ⟨q1, q2⟩ := take_cut (List.getElem?_eq_some_iff.mp h).1 (ys := rs'.drop (i + 1)) (zs := [])
  rw [q1, q2, e, drop_cons h]
  simp only [subL, if_neg h1, ge_iff_le, if_neg h2, if_pos (show a ≤ lo ∧ hi ≤ b from ⟨h3, h4⟩)]
theorem set_cut {q : Int × Int} (h : i < rs'.length) : (rs'.set i q).take (i + 1) = rs'.take i ++ [q] ∧ (rs'.set i q).drop (i + 1) = rs'.drop (i + 1) := by
  have hl : (rs'.take i).length = i := by rw [List.length_take]; omega
  rw [List.set_eq_take_append_cons_drop, if_pos h]
  constructor
  · rw [List.take_append, hl, List.take_of_length_le (by omega), Nat.add_sub_cancel_left]; rfl
  · rw [List.drop_append, hl, List.drop_eq_nil_of_le (by omega), Nat.add_sub_cancel_left]; rfl
theorem subL_right (h : rs'[i]? = some (lo, hi)) (h1 : ¬ b ≤ lo) (h2 : ¬ hi ≤ a) (h3 : a ≤ lo) (h4 : ¬ hi ≤ b) (e : subL a b rs = rs'.take i ++ subL a b (rs'.drop i)) :
    subL a b rs = (rs'.set i (b, hi)).take (i + 1) ++ subL a b ((rs'.set i (b, hi)).drop (i + 1)) := by
  obtain ⟨q1, q2⟩ := set_cut (q := (b, hi)) (List.getElem?_eq_some_iff.mp h).1
  rw [q1, q2, e, drop_cons h]
  simp only [subL, if_neg h1, ge_iff_le, if_neg h2, if_neg (show ¬ (a ≤ lo ∧ hi ≤ b) from fun z => h4 z.2), gt_iff_lt, if_neg (show ¬ lo < a by omega), List.append_assoc, List.cons_append, List.nil_append]
theorem subL_left (h : rs'[i]? = some (lo, hi)) (h1 : ¬ b ≤ lo) (h2 : ¬ hi ≤ a) (h3 : ¬ a ≤ lo) (h4 : ¬ b < hi) (e : subL a b rs = rs'.take i ++ subL a b (rs'.drop i)) :
    subL a b rs = (rs'.set i (lo, a)).take (i + 1) ++ subL a b ((rs'.set i (lo, a)).drop (i + 1)) := by
  obtain ⟨q1, q2⟩ := set_cut (q := (lo, a)) (List.getElem?_eq_some_iff.mp h).1
  rw [q1, q2, e, drop_cons h]
  simp only [subL, if_neg h1, ge_iff_le, if_neg h2, if_neg (show ¬ (a ≤ lo ∧ hi ≤ b) from fun z => h3 z.1), gt_iff_lt, if_pos (show lo < a by omega), if_neg h4, List.append_assoc, List.cons_append, List.nil_append]
theorem subL_mid (h : rs'[i]? = some (lo, hi)) (h1 : ¬ b ≤ lo) (h2 : ¬ hi ≤ a) (h3 : ¬ a ≤ lo) (h4 : b < hi) (e : subL a b rs = rs'.take i ++ subL a b (rs'.drop i)) :
    subL a b rs = ((rs'.set i (lo, a)).take (i + 1) ++ (b, hi) :: (rs'.set i (lo, a)).drop (i + 1)).take (i + 1) ++ subL a b (((rs'.set i (lo, a)).take (i + 1) ++ (b, hi) :: (rs'.set i (lo, a)).drop (i + 1)).drop (i + 1)) := by
  have hi' := (List.getElem?_eq_some_iff.mp h).1
  obtain ⟨q1, q2⟩ := set_cut (q := (lo, a)) hi'
  have hl : (rs'.take i ++ [(lo, a)]).length = i + 1 := by rw [List.length_append, List.length_take]; simp; omega
  rw [q1, q2, List.take_append_of_le_length (by omega), List.take_of_length_le (by omega), List.drop_append, List.drop_eq_nil_of_le (by omega), hl, Nat.sub_self, List.drop_zero, List.nil_append]
  rw [e, drop_cons h]
  simp only [subL, if_neg h1, ge_iff_le, if_neg h2, if_neg (show ¬ (a ≤ lo ∧ hi ≤ b) from fun z => h3 z.1), gt_iff_lt, if_pos (show lo < a by omega), if_pos h4, Int.le_refl, if_true, List.append_assoc, List.cons_append, List.nil_append]
theorem subL_end (hl : rs'.length ≤ i) (e : subL a b rs = rs'.take i ++ subL a b (rs'.drop i)) : subL a b rs = rs' := by
  rw [e, List.drop_eq_nil_of_le hl, List.take_of_length_le hl]; simp [subL]
end

theorem mid_get {xs : List (Int × Int)} {i : Nat} {q : Int × Int} (h : i < xs.length) : (xs.take (i + 1) ++ q :: xs.drop (i + 1))[i + 1]? = some q := by
  have hl : (xs.take (i + 1)).length = i + 1 := by rw [List.length_take]; omega
  rw [List.getElem?_append_right (by omega), hl, Nat.sub_self]; rfl
theorem mid_len {α : Type} {xs : List α} {i : Nat} {q : α} (h : i < xs.length) : (xs.take (i + 1) ++ q :: xs.drop (i + 1)).length = xs.length + 1 := by
  simp only [List.length_append, List.length_take, List.length_cons, List.length_drop]; omega

theorem mergeL_len (a : Int) : ∀ (rs : List (Int × Int)) (b : Int), (mergeL a b rs).length ≤ rs.length + 1
  | [], b => by simp [mergeL]
  | (lo, hi) :: rest, b => by
    unfold mergeL
    split
    · have := mergeL_len a rest (max hi b); simp only [List.length_cons]; omega
    · simp
theorem addL_len (a b : Int) : ∀ rs : List (Int × Int), (addL a b rs).length ≤ rs.length + 1
  | [] => by simp [addL]
  | (lo, hi) :: rest => by
    unfold addL
    split
    · simp
    · split
      · have := addL_len a b rest; simp only [List.length_cons]; omega
      · have := mergeL_len (min a lo) rest (max b hi); simp only [List.length_cons]; omega
theorem subL_len (a b : Int) : ∀ rs : List (Int × Int), (subL a b rs).length ≤ rs.length + 1
  | [] => by simp [subL]
  | (lo, hi) :: rest => by
    have := subL_len a b rest
    unfold subL
    (repeat' split) <;> simp only [List.length_cons] <;> omega
def addAll (qs : List (Int × Int)) (rs : List (Int × Int)) : List (Int × Int) := qs.foldl (fun acc q => addL q.1 q.2 acc) rs
theorem addAll_snoc (qs : List (Int × Int)) (q : Int × Int) (rs : List (Int × Int)) : addAll (qs ++ [q]) rs = addL q.1 q.2 (addAll qs rs) := by simp [addAll]
theorem addAll_len : ∀ (qs rs : List (Int × Int)), (addAll qs rs).length ≤ rs.length + qs.length
  | [], rs => by simp [addAll]
  | q :: qs, rs => by
    have h1 := addAll_len qs (addL q.1 q.2 rs)
    have h2 := addL_len q.1 q.2 rs
    show (addAll qs (addL q.1 q.2 rs)).length ≤ _
    simp only [List.length_cons]; omega
end RS
end

section
open PySem PySem.W PySem.Calls PyProof.Rows
open Sem (wp)
set_option maxRecDepth 100000
set_option maxHeartbeats 0
set_option linter.unusedVariables false
namespace RS

/-- the whole heap as a ledger's unwritten rest -/
theorem ledger_all (g h : Heap) (L : Addr) (W : List Addr) : ∃ I, News g L h I ∧ (∀ p ∈ I, p.1 ∉ W) ∧ ∀ a o, h.get? a = some o → a ∉ W → a ≠ L → g.get? a = none → (a, o) ∈ I := by
  refine ⟨(List.range h.objs.size).filterMap fun a => match h.get? a with
    | some o => if a ∉ W ∧ a ≠ L ∧ g.get? a = none then some (a, o) else none
    | none => none, ?_, ?_, ?_⟩
  · intro p hp
    obtain ⟨a, _, e⟩ := List.mem_filterMap.mp hp
    split at e
    · rename_i o ho
      split at e
      · rename_i hc
        cases e
        exact ⟨ho, hc.2.1, hc.2.2⟩
      · cases e
    · cases e
  · intro p hp
    obtain ⟨a, _, e⟩ := List.mem_filterMap.mp hp
    split at e
    · split at e
      · rename_i hc
        cases e
        exact hc.1
      · cases e
    · cases e
  · intro a o e hW hL hg
    refine List.mem_filterMap.mpr ⟨a, List.mem_range.mpr (Heap.lt_size e), ?_⟩
    rw [e]
    exact if_pos ⟨hW, hL, hg⟩

theorem src_all {g h : Heap} {L : Addr} {m : Str → Option Value} {W : List Addr} {I : List (Addr × Obj)} (F : Fr g L h m) (k : ∀ a o, h.get? a = some o → a ∉ W → a ≠ L → g.get? a = none → (a, o) ∈ I) {a : Addr} {o : Obj}
    (e : h.get? a = some o) (hW : a ∉ W) (hL : a ≠ L) : Src g I a o := by
  cases q : g.get? a with
  | none => exact .inr (k a o e hW hL q)
  | some o' =>
    have := F.keep _ _ q
    rw [e] at this
    cases this
    exact .inl q

theorem fr_keepBut {g h h' : Heap} {L : Addr} {m : Str → Option Value} {W : List Addr} (F : Fr g L h m) (k : KeepBut W h h') (hW : ∀ b ∈ W, b ≠ L ∧ g.get? b = none) : Fr g L h' m :=
  ⟨F.ns.at' fun o e => k _ _ (fun q => (hW _ q).1 rfl) e, fun b o e => k _ _ (fun q => by rw [(hW _ q).2] at e; cases e) (F.keep b o e), F.above⟩
theorem news_keepBut {g h h' : Heap} {L : Addr} {news : List (Addr × Obj)} {W : List Addr} (N : News g L h news) (k : KeepBut W h h') (hW : ∀ p ∈ news, p.1 ∉ W) : News g L h' news :=
  fun p hp => ⟨k _ _ (hW p hp) (N p hp).1, (N p hp).2⟩
theorem ns_not {h : Heap} {L : Addr} {m : Str → Option Value} (n : h.Ns L m) {a : Addr} {o : Obj} (e : h.get? a = some o) (hd : ∀ es ep, o.data ≠ .dict es ep) : a ≠ L := by
  rintro rfl
  obtain ⟨o', es, ep, e', hd', _⟩ := n
  rw [e] at e'
  cases e'
  exact hd _ _ hd'

section
variable {prog : Program} {w : World} {M : Model} {A : Around} {E : Value → Shared → Prop} {s : Shared} {h₀ : Heap} {L : Addr} {m : Str → Option Value} {news : List (Addr × Obj)}
theorem rs_newList {vs : List Value} {Q : Value → Shared → Prop} (F : Fr h₀ L s.heap m) (N : News h₀ L s.heap news)
    (h : ∀ l h', Fr h₀ L h' m → News h₀ L h' ((l, listOf vs.toArray 0) :: news) → (∀ p ∈ news, p.1 < l) → s.heap.objs.size ≤ l → Q (.ref l) { s with heap := h' }) (hsz : vs.length ≤ sizeLine := by size_fits) : wpAny M A (newList vs) Q E s :=
  newList_N F N (fun h' F' N' => h _ h' F' N' (fun p hp => Heap.lt_size (N p hp).1) (Nat.le_refl _)) hsz
end
end RS
end

section
open PySem PySem.W PySem.Calls PyProof.Rows
open Sem (wp)
set_option maxRecDepth 100000
set_option maxHeartbeats 0
set_option linter.unusedVariables false
namespace RS

section
variable {prog : Program} {w : World} {A : Around} {E : Value → Shared → Prop} {s : Shared} {g : Heap} {L : Addr} {m : Str → Option Value} {env : Env}

/-- the continuation of a list comprehension behind pyIter -/
abbrev CompK (prog : Program) (w : World) (A : Around) (E : Value → Shared → Prop) (env : Env) (elt iter : Expr) (x : Str) (px : PySem.Pos) (scope : Scope) (cl : List (Str × Addr)) (pos : PySem.Pos) (Q : Value → Shared → Prop) (it : Value) (s₂ : Shared) : Prop :=
  wpAny (model prog w) A (newList []) (fun acc s₃ => wpAny (model prog w) A (newFunctionEnv scope env.globals cl [] env.qual none .none (some env)) (fun cenv s₄ =>
    codeAny (model prog w) A (.compStart (.ListComp elt [⟨.Name x px, iter, [], 0⟩] scope pos) 0 it acc { cenv with scope := relabel scope env }) (compPost (model prog w) A E none Q acc cenv.locals) s₄) E s₃) E s₂

theorem comp_open {elt iter : Expr} {x : Str} {px : PySem.Pos} {scope : Scope} {cl : List (Str × Addr)} {pos : PySem.Pos} {Q : Value → Shared → Prop}
    (hclos : closureFor scope env = pure cl) (hkind : scope.kind = .function) (hnames : ∀ y ∈ scope.names, y.2 = .local → scope.names.lookup y.1 = some .local)
    (h : wpAny (model prog w) A (eval iter env) (fun xv s₁ => wpAny (model prog w) A (pyIter xv) (CompK prog w A E env elt iter x px scope cl pos Q) E s₁) E s)
    (hs : ∀ x, foldedSetIterable iter env x = pure x := by intro _; rfl) :
    wpAny (model prog w) A (eval (.ListComp elt [⟨.Name x px, iter, [], 0⟩] scope pos) env) Q E s := by
  rw [eval_ListComp]
  exact wpAny_comprehension_free (use := none) rfl hs hclos hkind hnames h

theorem rest_of {elt : Expr} {x : Str} {scope : Scope} {cl : List (Str × Addr)} {S : List (Addr × Obj) → Prop} {P : Nat → Value → Prop} {n : Nat} (J : Nat → List Value → List (Addr × Obj) → Prop)
    (turn : ∀ i v I oI C oC D m₂ ys news' h tk (E' : Value → Shared → Prop), i < n → P i v → J i ys news' → LCg.NsObj oC m₂ → m₂ x = some v → Fr g L h m → News g L h ((I, oI) :: (C, oC) :: (D, LCg.lst ys) :: news') → LCg.Off3 I C D news' → ((@Ne Nat I C) ∧ (@Ne Nat I D) ∧ (@Ne Nat C D)) →
      wpAny (model prog w) A (eval elt (compEnvC scope cl C env)) (LCg.CompEnd g L m { s with heap := h, toks := tk } I oI C oC D (LCg.lst ys) S (fun y news'' => J (i + 1) (ys ++ [y]) news'')) E' { s with heap := h, toks := tk }) :
    ∀ k i ys news', i + k = n → J i ys news' → LCg.CompRest prog w A g L m env elt x scope cl s S P (fun ys news' => J n ys news') k i ys news' := by
  intro k
  induction k with
  | zero => intro i ys news' e j; obtain rfl : i = n := by omega
            exact LCg.CompRest.zero j
  | succ k ih =>
    intro i ys news' e j
    refine LCg.CompRest.succ ?_
    intro v I oI C oC D m₂ h tk E' hP hC hx F N off ne
    refine wpAny_mono (turn i v I oI C oC D m₂ ys news' h tk E' (by omega) hP j hC hx F N off ne) (fun y s₂ hq => ?_) fun _ _ e => e
    obtain ⟨h', tk', nw, e, F', N', off', hS, hj⟩ := hq
    exact ⟨h', tk', nw, e, F', N', off', hS, ih (i + 1) _ nw (by omega) hj⟩

theorem comp_walks {I : Addr} {fp : List Addr} {n : Nat} {P : Nat → Value → Prop} {St : Nat → Heap → Prop} {S : List (Addr × Obj) → Prop} {elt iter : Expr} {x : Str} {px : PySem.Pos} {scope : Scope} {cl : List (Str × Addr)} {pos : PySem.Pos} {news : List (Addr × Obj)} {Q : Value → Shared → Prop}
    (W : Walks prog w A I fp [I] n P St) (hsz : n ≤ 100000) (hIo : ∀ i h, St i h → ∃ o, h.get? I = some o)
    (hSt : ∀ i h h' o nw, St i h → h.get? I = some o → h'.get? I = some o → (∀ b o, g.get? b = some o → h'.get? b = some o) → News g L h' nw → S nw → St i h')
    (hcell : ∀ y ∈ scope.names, y.2 ≠ .cell) (hkind : scope.kind = .function) (hx : scope.names.lookup x = some .local) (hst : St 0 s.heap) (hfp : ∀ b ∈ fp, b < s.heap.objs.size)
    (F : Fr g L s.heap m) (N : News g L s.heap news) (hIL : L ≠ I) (hI₀ : g.get? I = none) (off : ∀ p ∈ news, p.1 ≠ I) (hS : S news)
    (J : Nat → List Value → List (Addr × Obj) → Prop) (j0 : J 0 [] news)
    (turn : ∀ i v I oI C oC D m₂ ys news' h tk (E' : Value → Shared → Prop), i < n → P i v → J i ys news' → LCg.NsObj oC m₂ → m₂ x = some v → Fr g L h m → News g L h ((I, oI) :: (C, oC) :: (D, LCg.lst ys) :: news') → LCg.Off3 I C D news' → ((@Ne Nat I C) ∧ (@Ne Nat I D) ∧ (@Ne Nat C D)) →
      wpAny (model prog w) A (eval elt (compEnvC scope cl C env)) (LCg.CompEnd g L m { s with heap := h, toks := tk } I oI C oC D (LCg.lst ys) S (fun y news'' => J (i + 1) (ys ++ [y]) news'')) E' { s with heap := h, toks := tk })
    (fin : ∀ ys news' D h tk, J n ys news' → Fr g L h m → News g L h ((D, LCg.lst ys) :: news') → LCg.Off1 D news' → Q (.ref D) { s with heap := h, toks := tk }) :
    CompK prog w A E env elt iter x px scope cl pos Q (.ref I) s := by
  refine LCg.block_U W (by rw [sizeLine_eq]; omega) hIo hSt hcell hkind hx hst hfp F N hIL hI₀ off hS (rest_of J turn n 0 [] news (by omega) j0) ?_
  intro D C h tk m' ys news' F' N' o1 hn hC₀ hD₀ hCL hDL hCD offC hj
  refine ⟨m', hn, fun h'' hs'' => fin ys news' D h'' tk hj (F'.change hs'' hCL hC₀) (fun p hp => ?_) o1⟩
  refine ⟨hs''.extBut _ _ ?_ (N' p hp).1, (N' p hp).2⟩
  rcases List.mem_cons.mp hp with rfl | hp
  · exact Ne.symm hCD
  · exact offC p hp

theorem comp_listit {l I : Addr} {vs : List Value} {elt iter : Expr} {x : Str} {px : PySem.Pos} {scope : Scope} {cl : List (Str × Addr)} {pos : PySem.Pos} {news : List (Addr × Obj)} {Q : Value → Shared → Prop}
    (hh : A.handled = none) (hsz : vs.length ≤ 100000) (hl : s.heap.IsList l vs.toArray) (hli : s.heap.IsListIter I l 0)
    (hcell : ∀ y ∈ scope.names, y.2 ≠ .cell) (hkind : scope.kind = .function) (hx : scope.names.lookup x = some .local)
    (F : Fr g L s.heap m) (N : News g L s.heap news) (hIL : L ≠ I) (hI₀ : g.get? I = none) (off : ∀ p ∈ news, p.1 ≠ I) (hS : LCg.SrcAt g l vs.toArray news)
    (J : Nat → List Value → List (Addr × Obj) → Prop) (j0 : J 0 [] news)
    (turn : ∀ i v I oI C oC D m₂ ys news' h tk (E' : Value → Shared → Prop), vs[i]? = some v → J i ys news' → LCg.NsObj oC m₂ → m₂ x = some v → Fr g L h m → News g L h ((I, oI) :: (C, oC) :: (D, LCg.lst ys) :: news') → LCg.Off3 I C D news' → ((@Ne Nat I C) ∧ (@Ne Nat I D) ∧ (@Ne Nat C D)) →
      wpAny (model prog w) A (eval elt (compEnvC scope cl C env)) (LCg.CompEnd g L m { s with heap := h, toks := tk } I oI C oC D (LCg.lst ys) (LCg.SrcAt g l vs.toArray) (fun y news'' => J (i + 1) (ys ++ [y]) news'')) E' { s with heap := h, toks := tk })
    (fin : ∀ ys news' D h tk, J vs.length ys news' → Fr g L h m → News g L h ((D, LCg.lst ys) :: news') → LCg.Off1 D news' → Q (.ref D) { s with heap := h, toks := tk }) :
    CompK prog w A E env elt iter x px scope cl pos Q (.ref I) s := by
  obtain ⟨ol, hol, hlc, _⟩ := id hl
  obtain ⟨oi, hoi, hic, _⟩ := id hli
  have hne : l ≠ I := fun e => by subst e; rw [hol] at hoi; cases hoi; rw [hlc] at hic; exact absurd hic (by decide)
  refine comp_walks (n := vs.length) (P := fun i v => vs.toArray[i]? = some v) (Walks.list hh I l hne vs.toArray |> fun W => by rw [List.size_toArray] at W; exact W) hsz (fun i h st => let ⟨o, ho, _⟩ := st.1; ⟨o, ho⟩) LCg.list_st hcell hkind hx ⟨hli, hl⟩ ?_ F N hIL hI₀ off hS J j0
    (fun i v I oI C oC D m₂ ys news' h tk E' _ hP => turn i v I oI C oC D m₂ ys news' h tk E' (by simpa using hP)) fin
  intro b hb
  rcases List.mem_cons.mp hb with rfl | hb
  · exact Heap.lt_size hoi
  · rw [List.mem_singleton.mp hb]; exact Heap.lt_size hol

end
end RS
end

section
open PySem PySem.W PySem.Calls PyProof.Rows
open Sem (wp)
set_option maxRecDepth 100000
set_option maxHeartbeats 0
set_option linter.unusedVariables false
namespace RS

abbrev tupO (vs : List Value) : Obj := { cls := .type "tuple", data := .seq vs.toArray }
/-- refs to objects that tell of data -/
inductive ListP {α : Type} (R : α → Obj → Prop) (P : Addr → Obj → Prop) : List Value → List α → Prop
  | nil : ListP R P [] []
  | cons {a : Addr} {o : Obj} {d : α} {vs : List Value} {ds : List α} : P a o → R d o → ListP R P vs ds → ListP R P (.ref a :: vs) (d :: ds)
def IsPair (q : Int × Int) (o : Obj) : Prop := ∃ t u, o = tupO [.int q.1 t, .int q.2 u]
def IsDeed (q : Bool × Int × Int) (o : Obj) : Prop := ∃ t u, o = tupO [.bool q.1, .int q.2.1 t, .int q.2.2 u]
/-- the heap as a source -/
def At (h : Heap) (a : Addr) (o : Obj) : Prop := h.get? a = some o

section
variable {α : Type} {R : α → Obj → Prop} {P P' : Addr → Obj → Prop} {vs ws : List Value} {ds es : List α}
theorem ListP.length (x : ListP R P vs ds) : vs.length = ds.length := by
  induction x with
  | nil => rfl
  | cons _ _ _ ih => rw [List.length_cons, List.length_cons, ih]
theorem ListP.mono (x : ListP R P vs ds) (k : ∀ a o, P a o → (∃ d, R d o) → P' a o) : ListP R P' vs ds := by
  induction x with
  | nil => exact .nil
  | cons e r _ ih => exact .cons (k _ _ e ⟨_, r⟩) r ih
theorem ListP.stays {h h' : Heap} (x : ListP R (At h) vs ds) (k : h.StaysIn h') : ListP R (At h') vs ds := x.mono fun a o e _ => k a o e
theorem ListP.at (x : ListP R P vs ds) : ∀ {i : Nat} {d : α}, ds[i]? = some d → ∃ a o, vs[i]? = some (.ref a) ∧ P a o ∧ R d o := by
  induction x with
  | nil => intro i d hv; simp at hv
  | cons e r _ ih =>
    intro i d hv
    cases i with
    | zero => simp at hv; subst hv; exact ⟨_, _, by simp, e, r⟩
    | succ i => simp at hv; simpa using ih hv
theorem ListP.append (x : ListP R P vs ds) (y : ListP R P ws es) : ListP R P (vs ++ ws) (ds ++ es) := by
  induction x with
  | nil => exact y
  | cons e r _ ih => exact .cons e r ih
theorem ListP.one {a : Addr} {o : Obj} {d : α} (e : P a o) (r : R d o) : ListP R P [.ref a] [d] := .cons e r .nil
end

theorem ListP.tups {α : Type} {R : α → Obj → Prop} {f : α → Array Value → Prop} {g : Heap} {vs : List Value} {ds : List α} (x : ListP R (At g) vs ds) (hf : ∀ d o, R d o → ∃ arr, o = { cls := .type "tuple", data := .seq arr } ∧ f d arr) :
    ∃ da : List (Array Value), TupsAt g vs da ∧ da.length = ds.length ∧ ∀ (i : Nat) a, da[i]? = some a → ∃ d, ds[i]? = some d ∧ f d a := by
  induction x with
  | nil => exact ⟨[], ⟨rfl, fun i d h => by simp at h⟩, rfl, fun i a h => by simp at h⟩
  | @cons a o d vs ds e r _ ih =>
    obtain ⟨da, ⟨h1, h2⟩, h3, h4⟩ := ih
    obtain ⟨arr, rfl, hr⟩ := hf _ _ r
    refine ⟨arr :: da, ⟨by simp [h1], ?_⟩, by simp [h3], ?_⟩
    · intro i d' hd
      cases i with
      | zero => simp at hd; subst hd; exact ⟨a, by simp, _, e, rfl, 0, rfl⟩
      | succ i => simp at hd; simpa using h2 i d' hd
    · intro i d' hd
      cases i with
      | zero => simp at hd; subst hd; exact ⟨d, by simp, hr⟩
      | succ i => simp at hd; simpa using h4 i d' hd
theorem pairs_tups {g : Heap} {vs : List Value} {ds : List (Int × Int)} (x : ListP IsPair (At g) vs ds) :
    ∃ da : List (Array Value), TupsAt g vs da ∧ da.length = ds.length ∧ ∀ (i : Nat) a, da[i]? = some a → ∃ d : Int × Int, ds[i]? = some d ∧ ∃ t u, a = #[.int d.1 t, .int d.2 u] :=
  ListP.tups (f := fun (d : Int × Int) a => ∃ t u, a = #[.int d.1 t, .int d.2 u]) x fun d o r => by
    obtain ⟨t, u, rfl⟩ := r
    exact ⟨_, rfl, t, u, rfl⟩

/-- the last deed that covers a number tells -/
def holds : List (Bool × Int × Int) → Int → Bool
  | [], _ => false
  | (b, s, e) :: r, v => if s ≤ v ∧ v < e then b else holds r v
end RS
end

section
open PySem PySem.W PySem.Calls PyProof.Rows
open Sem (wp)
set_option maxRecDepth 100000
set_option maxHeartbeats 0
set_option linter.unusedVariables false
namespace RS

theorem tup_item {prog : Program} {w : World} {A : Around} {E : Value → Shared → Prop} {s : Shared} {value slice : PySem.Expr} {t : Addr} {l : List Value} {k : Int} {u : Tok} {x : Value} {Q : Value → Shared → Prop} (ht : s.heap.get? t = some (tupO l))
    (h0 : 0 ≤ k) (hhi : k < 2 ^ 63) (hx : l[k.toNat]? = some x) (h : Q x s)
    (hs : subscripted slice false (.ref t) (.int k u) = operate [.ref t, .int k u] (getItem (.ref t) (.int k u)) := by with_unfolding_all rfl) :
    wpAny (model prog w) A (subscriptTail value slice (.ref t) (.int k u)) Q E s :=
  item_tupleT (l := l) ⟨_, ht, rfl, 0, rfl⟩ (by omega) hhi (seqIndex_of h0 (by have := (List.getElem?_eq_some_iff.mp hx).1; omega)) hx h hs

theorem take_snoc {α : Type} {rs : List α} {i : Nat} {q : α} (h : rs[i]? = some q) : rs.take (i + 1) = rs.take i ++ [q] := by
  rw [List.take_add_one, h]; rfl
theorem fr_know {g h : Heap} {L : Addr} {m : Str → Option Value} {x : Str} {v : Value} (F : Fr g L h m) (e : m x = some v) : Fr g L h (fun y => if y = x then some v else m y) := by
  have : (fun y => if y = x then some v else m y) = m := by
    funext y
    by_cases q : y = x
    · rw [if_pos q, q, e]
    · rw [if_neg q]
  rw [this]; exact F
/-- None or a number -/
def optV (o : Option Int) (t : Tok) : Value := match o with | some n => .int n t | none => .none
theorem stays_refl (h : Heap) : h.StaysIn h := fun _ _ e => e
/-- a comprehension's turn: what stays, what is new -/
def CompStay (g : Heap) (Z : List (Addr × Obj)) (s : Shared) (Rel : Value → (Addr → Obj → Prop) → Prop) (y : Value) (s₂ : Shared) : Prop :=
  ∃ h' tk, s₂ = { s with heap := h', toks := tk } ∧ s.heap.StaysIn h' ∧ Rel y (fun a o => Src g Z a o ∨ (s.heap.get? a = none ∧ h'.get? a = some o))
theorem CompStay.intro {g : Heap} {Z : List (Addr × Obj)} {s : Shared} {Rel : Value → (Addr → Obj → Prop) → Prop} {y : Value} {h' : Heap} {tk : Nat} (k : s.heap.StaysIn h') (r : Rel y (fun a o => Src g Z a o ∨ (s.heap.get? a = none ∧ h'.get? a = some o))) :
    CompStay g Z s Rel y { s with heap := h', toks := tk } := ⟨h', tk, rfl, k, r⟩

section
variable {prog : Program} {w : World} {A : Around} {E : Value → Shared → Prop} {s : Shared} {g : Heap} {L : Addr} {m : Str → Option Value} {env : Env}

theorem comp_turn {elt : PySem.Expr} {C : Addr} {oC oI : Obj} {I D : Addr} {scope : Scope} {cl : List (Str × Addr)} {ys : List Value} {news Z : List (Addr × Obj)} {S : List (Addr × Obj) → Prop} {Rel : Value → (Addr → Obj → Prop) → Prop} {J : Value → List (Addr × Obj) → Prop} {E' : Value → Shared → Prop} {h : Heap} {tk : Nat}
    (F : Fr g L h m) (N : News g L h ((I, oI) :: (C, oC) :: (D, LCg.lst ys) :: (news ++ Z))) (off : LCg.Off3 I C D (news ++ Z))
    (hS : ∀ Z', S (news ++ Z')) (hmono : ∀ y P P', (∀ a o, P a o → P' a o) → Rel y P → Rel y P') (hJ : ∀ y Z', Rel y (Src g (news ++ Z')) → J y (news ++ Z'))
    (turn : wpAny (model prog w) A (eval elt (compEnvC scope cl C env)) (CompStay g (news ++ Z) { s with heap := h, toks := tk } Rel) E' { s with heap := h, toks := tk }) :
    wpAny (model prog w) A (eval elt (compEnvC scope cl C env)) (LCg.CompEnd g L m { s with heap := h, toks := tk } I oI C oC D (LCg.lst ys) S J) E' { s with heap := h, toks := tk } := by
  refine wpAny_mono turn (fun y s₂ hq => ?_) fun _ _ e => e
  obtain ⟨h', tk', rfl, st, r⟩ := hq
  replace st : h.StaysIn h' := st
  have F' : Fr g L h' m := F.keeps st
  have N' := N.grown st
  obtain ⟨Z', NZ, offZ', allZ⟩ := ledger_all g h' L (I :: C :: D :: news.map (·.1))
  have o3 := LCg.Off3.mem off
  refine ⟨h', tk', news ++ Z', rfl, F', ?_, LCg.Off3.of ?_, hS Z', hJ y Z' (hmono y _ _ ?_ r)⟩
  · intro p hp
    simp only [List.mem_cons, List.mem_append] at hp
    rcases hp with rfl | rfl | rfl | hp | hp
    · exact N' _ (.head _)
    · exact N' _ (.tail _ (.head _))
    · exact N' _ (.tail _ (.tail _ (.head _)))
    · exact N' p (.tail _ (.tail _ (.tail _ (List.mem_append_left _ hp))))
    · exact NZ p hp
  · intro p hp
    rcases List.mem_append.mp hp with hp | hp
    · exact o3 p (List.mem_append_left _ hp)
    · have := offZ' p hp
      simp only [List.mem_cons, not_or] at this
      exact ⟨this.1, this.2.1, this.2.2.1⟩
  · intro a o q
    have key : h'.get? a = some o → a ≠ I → a ≠ C → a ≠ D → a ≠ L → Src g (news ++ Z') a o := by
      intro e nI nC nD nL
      by_cases hn : a ∈ news.map (·.1)
      · obtain ⟨p, hp, rfl⟩ := List.mem_map.mp hn
        have := (N' p (.tail _ (.tail _ (.tail _ (List.mem_append_left _ hp))))).1
        rw [e] at this
        cases this
        exact .inr (List.mem_append_left _ hp)
      · cases q : g.get? a with
        | none => exact .inr (List.mem_append_right _ (allZ a o e (by simp only [List.mem_cons, not_or]; exact ⟨nI, nC, nD, hn⟩) nL q))
        | some o' =>
          have := F'.keep _ _ q
          rw [e] at this
          cases this
          exact .inl q
    rcases q with (q | q) | ⟨q1, q2⟩
    · exact .inl q
    · have b := o3 (a, o) q
      have c := N' (a, o) (.tail _ (.tail _ (.tail _ q)))
      exact key c.1 b.1 b.2.1 b.2.2 c.2.1
    · have ne : ∀ b o', h.get? b = some o' → a ≠ b := fun b o' e z => by subst z; rw [q1] at e; cases e
      obtain ⟨oL, _, _, eL, _⟩ := F.ns
      exact key q2 (ne _ _ (N _ (.head _)).1) (ne _ _ (N _ (.tail _ (.head _))).1) (ne _ _ (N _ (.tail _ (.tail _ (.head _)))).1) (ne _ _ eL)

theorem comp_listit_ro {l I : Addr} {vs : List Value} {elt iter : PySem.Expr} {x : Str} {px : PySem.Pos} {scope : Scope} {cl : List (Str × Addr)} {pos : PySem.Pos} {news : List (Addr × Obj)} {Q : Value → Shared → Prop}
    (hh : A.handled = none) (hsz : vs.length ≤ 100000) (hl : s.heap.IsList l vs.toArray) (hli : s.heap.IsListIter I l 0)
    (hcell : ∀ y ∈ scope.names, y.2 ≠ .cell) (hkind : scope.kind = .function) (hx : scope.names.lookup x = some .local)
    (F : Fr g L s.heap m) (N : News g L s.heap news) (hIL : L ≠ I) (hI₀ : g.get? I = none) (off : ∀ p ∈ news, p.1 ≠ I) (hS : LCg.SrcAt g l vs.toArray news)
    (Rel : Nat → List Value → (Addr → Obj → Prop) → Prop) (hmono : ∀ i ys P P', (∀ a o, P a o → P' a o) → Rel i ys P → Rel i ys P') (r0 : Rel 0 [] (Src g news))
    (turn : ∀ i v I oI C oC D m₂ ys Z h tk (E' : Value → Shared → Prop), vs[i]? = some v → Rel i ys (Src g (news ++ Z)) → LCg.NsObj oC m₂ → m₂ x = some v → Fr g L h m → News g L h ((I, oI) :: (C, oC) :: (D, LCg.lst ys) :: (news ++ Z)) →
      wpAny (model prog w) A (eval elt (compEnvC scope cl C env)) (CompStay g (news ++ Z) { s with heap := h, toks := tk } (fun y => Rel (i + 1) (ys ++ [y]))) E' { s with heap := h, toks := tk })
    (fin : ∀ ys Z D h tk, Rel vs.length ys (Src g (news ++ Z)) → Fr g L h m → News g L h ((D, LCg.lst ys) :: (news ++ Z)) → LCg.Off1 D (news ++ Z) → Q (.ref D) { s with heap := h, toks := tk }) :
    CompK prog w A E env elt iter x px scope cl pos Q (.ref I) s := by
  refine comp_listit hh hsz hl hli hcell hkind hx F N hIL hI₀ off hS (fun i ys news' => ∃ Z, news' = news ++ Z ∧ Rel i ys (Src g (news ++ Z))) ⟨[], (List.append_nil _).symm, by rw [List.append_nil]; exact r0⟩ ?_ ?_
  · rintro i v I oI C oC D m₂ ys news' h tk E' hv ⟨Z, rfl, hr⟩ hC hx F N off ne
    refine comp_turn (Rel := fun y => Rel (i + 1) (ys ++ [y])) F N off (fun Z' => ?_) (fun y => hmono _ _) (fun y Z' r => ⟨Z', rfl, r⟩) (turn i v I oI C oC D m₂ ys Z h tk E' hv hr hC hx F N)
    exact hS.imp id fun ⟨o, hm, r⟩ => ⟨o, List.mem_append_left _ hm, r⟩
  · rintro ys news' D h tk ⟨Z, rfl, hr⟩ F N o1
    exact fin ys Z D h tk hr F N o1

theorem comp_list_ro {l : Addr} {vs : List Value} {elt iter : PySem.Expr} {x : Str} {px : PySem.Pos} {scope : Scope} {cl : List (Str × Addr)} {pos : PySem.Pos} {news : List (Addr × Obj)} {Q : Value → Shared → Prop}
    (hh : A.handled = none) (hsz : vs.length ≤ 100000)
    (hcell : ∀ y ∈ scope.names, y.2 ≠ .cell) (hkind : scope.kind = .function) (hx : scope.names.lookup x = some .local)
    (F : Fr g L s.heap m) (N : News g L s.heap news) (hS : LCg.SrcAt g l vs.toArray news)
    (Rel : Nat → List Value → (Addr → Obj → Prop) → Prop) (hmono : ∀ i ys P P', (∀ a o, P a o → P' a o) → Rel i ys P → Rel i ys P') (r0 : Rel 0 [] (Src g news))
    (turn : ∀ i v I oI C oC D m₂ ys Z h tk (E' : Value → Shared → Prop), vs[i]? = some v → Rel i ys (Src g (news ++ Z)) → LCg.NsObj oC m₂ → m₂ x = some v → Fr g L h m → News g L h ((I, oI) :: (C, oC) :: (D, LCg.lst ys) :: (news ++ Z)) →
      wpAny (model prog w) A (eval elt (compEnvC scope cl C env)) (CompStay g (news ++ Z) { s with heap := h, toks := tk } (fun y => Rel (i + 1) (ys ++ [y]))) E' { s with heap := h, toks := tk })
    (fin : ∀ ys Z D h tk, Rel vs.length ys (Src g (news ++ Z)) → Fr g L h m → News g L h ((D, LCg.lst ys) :: (news ++ Z)) → LCg.Off1 D (news ++ Z) → Q (.ref D) { s with heap := h, toks := tk }) :
    wpAny (model prog w) A (pyIter (.ref l)) (CompK prog w A E env elt iter x px scope cl pos Q) E s := by
  have hl := hS.list F.keep N
  obtain ⟨ol, hol, _⟩ := id hl
  refine wpAny_pyIter_list hl ?_
  have up : ∀ b o, s.heap.get? b = some o → (s.heap.push { cls := .type "list_iterator", data := .fields #[.ref l, .int 0 0] }).get? b = some o := fun b o e => Heap.get?_push_of_some _ e
  exact comp_listit_ro (s := { s with heap := s.heap.push { cls := .type "list_iterator", data := .fields #[.ref l, .int 0 0] } }) hh hsz (hl.at fun o e => up _ _ e) ⟨_, Heap.get?_push_size _ rfl, rfl, rfl⟩ hcell hkind hx (F.keeps up) (N.grown up) (Nat.ne_of_lt F.ns.lt) (fresh_g F _ (Nat.le_refl _)) (fun p hp => size_ne (N p hp).1) hS Rel hmono r0 turn fin
end
end RS
end

section
set_option maxRecDepth 100000
set_option linter.unusedVariables false
namespace RS

def inR (rs : List (Int × Int)) (v : Int) : Bool := rs.any fun q => decide (q.1 ≤ v) && decide (v < q.2)
/-- in order, apart, behind c -/
def CF : Int → List (Int × Int) → Prop
  | _, [] => True
  | c, (lo, hi) :: rest => c < lo ∧ lo < hi ∧ CF hi rest
def Canon (rs : List (Int × Int)) : Prop := ∃ c, CF c rs

theorem inR_cons (lo hi v : Int) (rs : List (Int × Int)) : inR ((lo, hi) :: rs) v = ((decide (lo ≤ v) && decide (v < hi)) || inR rs v) := rfl
theorem inR_nil (v : Int) : inR [] v = false := rfl
theorem CF.mono {c c' : Int} {rs : List (Int × Int)} (h : CF c rs) (hc : c' ≤ c) : CF c' rs := by
  cases rs with
  | nil => trivial
  | cons q r => obtain ⟨lo, hi⟩ := q; exact ⟨by have := h.1; omega, h.2.1, h.2.2⟩
theorem CF.lt : ∀ {rs : List (Int × Int)} {c v : Int}, CF c rs → inR rs v = true → c < v
  | [], _, _, _, h => by simp [inR] at h
  | (lo, hi) :: r, c, v, h, hv => by
    obtain ⟨h1, h2, h3⟩ := h
    rw [inR_cons, Bool.or_eq_true, Bool.and_eq_true, decide_eq_true_eq, decide_eq_true_eq] at hv
    rcases hv with hv | hv
    · omega
    · have := CF.lt h3 hv; omega
theorem CF.pos : ∀ {rs : List (Int × Int)} {c : Int}, CF c rs → ∀ q ∈ rs, q.1 < q.2
  | [], _, _, _, h => nomatch h
  | (lo, hi) :: r, c, h, q, hq => by
    rcases List.mem_cons.mp hq with rfl | hq
    · exact h.2.1
    · exact CF.pos h.2.2 q hq
theorem Canon.pos {rs : List (Int × Int)} (h : Canon rs) : ∀ q ∈ rs, q.1 < q.2 := let ⟨_, h⟩ := h; h.pos

theorem CF.unique : ∀ {rs qs : List (Int × Int)} {c d : Int}, CF c rs → CF d qs → (∀ v, inR rs v = inR qs v) → rs = qs
  | [], [], _, _, _, _, _ => rfl
  | [], (lo, hi) :: r, c, d, _, h, e => by
    have := e lo
    rw [inR_nil, inR_cons] at this
    have h2 := h.2.1
    simp [h2] at this
  | (lo, hi) :: r, [], c, d, h, _, e => by
    have := e lo
    rw [inR_nil, inR_cons] at this
    have h2 := h.2.1
    simp [h2] at this
  | (lo, hi) :: r, (lo', hi') :: r', c, d, h, h', e => by
    obtain ⟨h1, h2, h3⟩ := h
    obtain ⟨h1', h2', h3'⟩ := h'
    have low : ∀ {lo hi : Int} {r : List (Int × Int)} {v : Int}, lo < hi → CF hi r → inR ((lo, hi) :: r) v = true → lo ≤ v := by
      intro lo hi r v a b hv
      rw [inR_cons, Bool.or_eq_true, Bool.and_eq_true, decide_eq_true_eq, decide_eq_true_eq] at hv
      rcases hv with hv | hv
      · exact hv.1
      · have := CF.lt b hv; omega
    have t1 : inR ((lo, hi) :: r) lo = true := by rw [inR_cons]; simp [h2]
    have t2 : inR ((lo', hi') :: r') lo' = true := by rw [inR_cons]; simp [h2']
    have e1 : lo = lo' := by
      have a1 := low h2' h3' ((e lo) ▸ t1)
      have a2 := low h2 h3 ((e lo').symm ▸ t2)
      omega
    subst e1
    have stop : ∀ {lo hi : Int} {r : List (Int × Int)}, lo < hi → CF hi r → inR ((lo, hi) :: r) hi = false := by
      intro lo hi r a b
      rw [inR_cons]
      have h5 : inR r hi = false := by
        cases q : inR r hi with
        | false => rfl
        | true => have := CF.lt b q; omega
      simp [h5]
    have inn : ∀ {lo hi v : Int} {r : List (Int × Int)}, lo ≤ v → v < hi → inR ((lo, hi) :: r) v = true := by
      intro lo hi v r a b
      rw [inR_cons]; simp [a, b]
    have e2 : hi = hi' := by
      by_cases q : hi < hi'
      · have a1 := stop h2 h3
        rw [e hi] at a1
        have a2 := inn (r := r') (show lo ≤ hi by omega) q
        rw [a1] at a2; cases a2
      · by_cases q' : hi' < hi
        · have a1 := stop h2' h3'
          rw [← e hi'] at a1
          have a2 := inn (r := r) (show lo ≤ hi' by omega) q'
          rw [a1] at a2; cases a2
        · omega
    subst e2
    have e3 : r = r' := CF.unique h3 h3' fun v => by
      have ev := e v
      rw [inR_cons, inR_cons] at ev
      by_cases q : lo ≤ v ∧ v < hi
      · have a1 : inR r v = false := by
          cases z : inR r v with
          | false => rfl
          | true => have := CF.lt h3 z; omega
        have a2 : inR r' v = false := by
          cases z : inR r' v with
          | false => rfl
          | true => have := CF.lt h3' z; omega
        rw [a1, a2]
      · have : (decide (lo ≤ v) && decide (v < hi)) = false := by
          rw [Bool.eq_false_iff]; simp; omega
        simpa [this] using ev
    rw [e3]
theorem Canon.unique {rs qs : List (Int × Int)} (h : Canon rs) (h' : Canon qs) (e : ∀ v, inR rs v = inR qs v) : rs = qs := let ⟨_, a⟩ := h; let ⟨_, b⟩ := h'; CF.unique a b e

theorem mergeL_spec (a : Int) : ∀ (rs : List (Int × Int)) (b k : Int), a < b → a ≤ k → CF k rs → (∀ c, c < a → CF c (mergeL a b rs)) ∧ ∀ v, inR (mergeL a b rs) v = ((decide (a ≤ v) && decide (v < b)) || inR rs v)
  | [], b, k, h1, h2, _ => ⟨fun c hc => ⟨hc, h1, trivial⟩, fun v => rfl⟩
  | (lo, hi) :: rest, b, k, h1, h2, ⟨h3, h4, h5⟩ => by
    unfold mergeL
    split
    · rename_i q
      obtain ⟨i1, i2⟩ := mergeL_spec a rest (max hi b) hi (by omega) (by omega) h5
      refine ⟨i1, fun v => ?_⟩
      rw [i2, inR_cons]
      rw [Bool.eq_iff_iff]
      simp only [Bool.or_eq_true, Bool.and_eq_true, decide_eq_true_eq]
      constructor
      · rintro (z | z)
        · by_cases y : v < b
          · exact .inl ⟨z.1, y⟩
          · exact .inr (.inl ⟨by omega, by omega⟩)
        · exact .inr (.inr z)
      · rintro (z | z | z)
        · exact .inl ⟨z.1, by omega⟩
        · exact .inl ⟨by omega, by omega⟩
        · exact .inr z
    · rename_i q
      exact ⟨fun c hc => ⟨hc, h1, by omega, h4, h5⟩, fun v => rfl⟩
theorem addL_spec (a b : Int) (hab : a < b) : ∀ (rs : List (Int × Int)) (c : Int), CF c rs → (∀ d, d ≤ c → d < a → CF d (addL a b rs)) ∧ ∀ v, inR (addL a b rs) v = ((decide (a ≤ v) && decide (v < b)) || inR rs v)
  | [], c, _ => ⟨fun d _ hd => ⟨hd, hab, trivial⟩, fun v => rfl⟩
  | (lo, hi) :: rest, c, ⟨h1, h2, h3⟩ => by
    unfold addL
    split
    · rename_i q
      exact ⟨fun d hd hda => ⟨hda, hab, by omega, h2, h3⟩, fun v => rfl⟩
    · rename_i q
      split
      · rename_i q2
        obtain ⟨i1, i2⟩ := addL_spec a b hab rest hi h3
        refine ⟨fun d hd hda => ⟨by omega, h2, i1 hi (Int.le_refl _) (by omega)⟩, fun v => ?_⟩
        rw [inR_cons, i2, inR_cons]
        cases (decide (a ≤ v) && decide (v < b)) <;> cases (decide (lo ≤ v) && decide (v < hi)) <;> simp
      · rename_i q2
        obtain ⟨i1, i2⟩ := mergeL_spec (min a lo) rest (max b hi) hi (by omega) (by omega) h3
        refine ⟨fun d hd hda => i1 d (by omega), fun v => ?_⟩
        rw [i2, inR_cons, Bool.eq_iff_iff]
        simp only [Bool.or_eq_true, Bool.and_eq_true, decide_eq_true_eq]
        constructor
        · rintro (z | z)
          · by_cases y : a ≤ v ∧ v < b
            · exact .inl y
            · exact .inr (.inl ⟨by omega, by omega⟩)
          · exact .inr (.inr z)
        · rintro (z | z | z)
          · exact .inl ⟨by omega, by omega⟩
          · exact .inl ⟨by omega, by omega⟩
          · exact .inr z
theorem addL_canon {a b : Int} {rs : List (Int × Int)} (hab : a < b) (h : Canon rs) : Canon (addL a b rs) := by
  obtain ⟨c, h⟩ := h
  exact ⟨min c (a - 1), (addL_spec a b hab rs c h).1 _ (by omega) (by omega)⟩
theorem addL_in {a b : Int} {rs : List (Int × Int)} (hab : a < b) (h : Canon rs) (v : Int) : inR (addL a b rs) v = ((decide (a ≤ v) && decide (v < b)) || inR rs v) := by
  obtain ⟨c, h⟩ := h
  exact (addL_spec a b hab rs c h).2 v

theorem subL_spec (a b : Int) (hab : a < b) : ∀ (rs : List (Int × Int)) (c : Int), CF c rs → CF c (subL a b rs) ∧ ∀ v, inR (subL a b rs) v = (inR rs v && !(decide (a ≤ v) && decide (v < b)))
  | [], c, _ => ⟨trivial, fun v => rfl⟩
  | (lo, hi) :: rest, c, ⟨h1, h2, h3⟩ => by
    have far : ∀ v k, CF k rest → inR rest v = true → k < v := fun v k hk hv => CF.lt hk hv
    obtain ⟨i1, i2⟩ := subL_spec a b hab rest hi h3
    unfold subL
    split
    · rename_i q
      refine ⟨⟨h1, h2, h3⟩, fun v => ?_⟩
      cases z : inR ((lo, hi) :: rest) v with
      | false => rfl
      | true =>
        have : lo ≤ v := by
          rw [inR_cons, Bool.or_eq_true, Bool.and_eq_true, decide_eq_true_eq, decide_eq_true_eq] at z
          rcases z with z | z
          · exact z.1
          · have := CF.lt h3 z; omega
        have : ¬ v < b := by omega
        simp [this]
    · rename_i q
      split
      · rename_i q2
        refine ⟨⟨h1, h2, i1⟩, fun v => ?_⟩
        rw [inR_cons, i2, inR_cons]
        by_cases y : lo ≤ v ∧ v < hi
        · have : ¬ a ≤ v := by omega
          simp [this]
        · have : (decide (lo ≤ v) && decide (v < hi)) = false := by rw [Bool.eq_false_iff]; simp; omega
          simp [this]
      · rename_i q2
        split
        · rename_i q3
          refine ⟨i1.mono (by omega), fun v => ?_⟩
          rw [i2, inR_cons]
          by_cases y : lo ≤ v ∧ v < hi
          · have e1 : a ≤ v := by omega
            have e2 : v < b := by omega
            simp [e1, e2]
          · have : (decide (lo ≤ v) && decide (v < hi)) = false := by rw [Bool.eq_false_iff]; simp; omega
            simp [this]
        · rename_i q3
          have nb : ∀ v, inR rest v = true → ¬ (a ≤ v ∧ v < b) ∨ hi ≤ b := fun v hv => by
            have := CF.lt h3 hv
            by_cases y : hi ≤ b
            · exact .inr y
            · exact .inl (by omega)
          split
          · rename_i q4
            split
            · rename_i q5
              refine ⟨⟨h1, q4, by omega, q5, h3⟩, fun v => ?_⟩
              rw [inR_cons, inR_cons, inR_cons]
              cases z : inR rest v with
              | true =>
                have := CF.lt h3 z
                have e1 : ¬ v < b := by omega
                simp [e1]
              | false =>
                rw [Bool.eq_iff_iff]
                simp only [Bool.or_eq_true, Bool.and_eq_true, decide_eq_true_eq, Bool.not_eq_true', Bool.and_eq_false_iff, decide_eq_false_iff_not, Bool.false_eq_true, or_false]
                omega
            · rename_i q5
              refine ⟨⟨h1, q4, i1.mono (by omega)⟩, fun v => ?_⟩
              rw [inR_cons, i2, inR_cons]
              cases z : inR rest v with
              | true =>
                have := CF.lt h3 z
                have e2 : ¬ v < hi := by omega
                have e3 : ¬ v < a := by omega
                simp [e2, e3]
              | false =>
                rw [Bool.eq_iff_iff]
                simp only [Bool.or_eq_true, Bool.and_eq_true, decide_eq_true_eq, Bool.not_eq_true', Bool.and_eq_false_iff, decide_eq_false_iff_not, Bool.false_eq_true, or_false, false_and]
                omega
          · rename_i q4
            have q5 : b < hi := by
              by_cases y : b < hi
              · exact y
              · exact absurd ⟨by omega, by omega⟩ q3
            refine ⟨⟨by omega, q5, i1⟩, fun v => ?_⟩
            rw [inR_cons, i2, inR_cons]
            cases z : inR rest v with
            | true =>
              have := CF.lt h3 z
              have e2 : ¬ v < hi := by omega
              simp [e2]
            | false =>
              rw [Bool.eq_iff_iff]
              simp only [Bool.or_eq_true, Bool.and_eq_true, decide_eq_true_eq, Bool.not_eq_true', Bool.and_eq_false_iff, decide_eq_false_iff_not, Bool.false_eq_true, or_false, false_and]
              omega
theorem subL_canon {a b : Int} {rs : List (Int × Int)} (hab : a < b) (h : Canon rs) : Canon (subL a b rs) := by
  obtain ⟨c, h⟩ := h
  exact ⟨c, (subL_spec a b hab rs c h).1⟩
theorem subL_in {a b : Int} {rs : List (Int × Int)} (hab : a < b) (h : Canon rs) (v : Int) : inR (subL a b rs) v = (inR rs v && !(decide (a ≤ v) && decide (v < b))) := by
  obtain ⟨c, h⟩ := h
  exact (subL_spec a b hab rs c h).2 v

theorem addAll_canon : ∀ {qs rs : List (Int × Int)}, (∀ q ∈ qs, q.1 < q.2) → Canon rs → Canon (addAll qs rs)
  | [], _, _, h => h
  | q :: qs, rs, hp, h => addAll_canon (qs := qs) (rs := addL q.1 q.2 rs) (fun p hm => hp p (.tail _ hm)) (addL_canon (hp q (.head _)) h)
theorem addAll_in : ∀ {qs rs : List (Int × Int)}, (∀ q ∈ qs, q.1 < q.2) → Canon rs → ∀ v, inR (addAll qs rs) v = (inR qs v || inR rs v)
  | [], rs, _, _, v => by rw [inR_nil, Bool.false_or]; rfl
  | q :: qs, rs, hp, h, v => by
    show inR (addAll qs (addL q.1 q.2 rs)) v = _
    rw [addAll_in (fun p hm => hp p (.tail _ hm)) (addL_canon (hp q (.head _)) h) v, addL_in (hp q (.head _)) h, inR_cons]
    cases inR qs v <;> cases inR rs v <;> simp
theorem canon_nil : Canon [] := ⟨0, trivial⟩
theorem addAll_self {rs : List (Int × Int)} (h : Canon rs) {qs : List (Int × Int)} (hp : ∀ q ∈ qs, q.1 < q.2) (e : ∀ v, inR qs v = inR rs v) : addAll qs [] = rs :=
  Canon.unique (addAll_canon hp canon_nil) h fun v => by rw [addAll_in hp canon_nil, inR_nil, Bool.or_false, e]
theorem inR_any {rs : List (Int × Int)} {v : Int} : inR rs v = true ↔ ∃ q ∈ rs, q.1 ≤ v ∧ v < q.2 := by
  unfold inR
  rw [List.any_eq_true]
  simp only [Bool.and_eq_true, decide_eq_true_eq]
end RS
end

section
set_option maxRecDepth 100000
namespace RS
def spStep (ds : List (Bool × Int × Int)) (st : List (Int × Int) × Option Int × Option Int) (e : Int) : List (Int × Int) × Option Int × Option Int :=
  if st.2.2 = some e then (st.1, st.2.1, some e)
  else match st.2.1, holds ds e with
    | none, true => (st.1, some e, some e)
    | none, false => (st.1, none, some e)
    | some f, true => (st.1, some f, some e)
    | some f, false => (st.1 ++ [(f, e)], none, some e)
def walkSpans (ds : List (Bool × Int × Int)) (ns : List Int) : List (Int × Int) := (ns.foldl (spStep ds) ([], none, none)).1
end RS
end

section
set_option maxRecDepth 100000
namespace RS
/-- the spans told by the rest of the edges -/
def spGo (ds : List (Bool × Int × Int)) : List Int → Option Int → Int → List (Int × Int)
  | [], _, _ => []
  | e :: es, fi, b => if e = b then spGo ds es fi b else match fi, holds ds e with
    | none, true => spGo ds es (some e) e
    | none, false => spGo ds es none e
    | some f, true => spGo ds es (some f) e
    | some f, false => (f, e) :: spGo ds es none e
end RS
end

section
set_option maxRecDepth 100000
namespace RS
def subAll (qs : List (Int × Int)) (rs : List (Int × Int)) : List (Int × Int) := qs.foldl (fun acc q => subL q.1 q.2 acc) rs
theorem subAll_snoc (qs : List (Int × Int)) (q : Int × Int) (rs : List (Int × Int)) : subAll (qs ++ [q]) rs = subL q.1 q.2 (subAll qs rs) := by simp [subAll]
theorem subAll_len : ∀ (qs rs : List (Int × Int)), (subAll qs rs).length ≤ rs.length + qs.length
  | [], rs => by simp [subAll]
  | q :: qs, rs => by
    have h1 := subAll_len qs (subL q.1 q.2 rs)
    have h2 := subL_len q.1 q.2 rs
    show (subAll qs (subL q.1 q.2 rs)).length ≤ _
    simp only [List.length_cons]; omega
theorem subAll_canon : ∀ {qs rs : List (Int × Int)}, (∀ q ∈ qs, q.1 < q.2) → Canon rs → Canon (subAll qs rs)
  | [], rs, _, c => c
  | q :: qs, rs, h, c => subAll_canon (qs := qs) (rs := subL q.1 q.2 rs) (fun p hp => h p (.tail _ hp)) (subL_canon (h q (.head _)) c)
theorem subAll_in : ∀ {qs rs : List (Int × Int)}, (∀ q ∈ qs, q.1 < q.2) → Canon rs → ∀ v, inR (subAll qs rs) v = (inR rs v && !inR qs v)
  | [], rs, _, c, v => by simp [subAll, inR_nil]
  | q :: qs, rs, h, c, v => by
    show inR (subAll qs (subL q.1 q.2 rs)) v = _
    rw [subAll_in (fun p hp => h p (.tail _ hp)) (subL_canon (h q (.head _)) c), subL_in (h q (.head _)) c]
    obtain ⟨a, b⟩ := q
    rw [inR_cons]
    cases inR rs v <;> cases (decide (a ≤ v) && decide (v < b)) <;> cases inR qs v <;> rfl
theorem inR_snoc (T : List (Int × Int)) (q : Int × Int) (v : Int) : inR (T ++ [q]) v = (inR T v || (decide (q.1 ≤ v) && decide (v < q.2))) := by
  unfold inR; rw [List.any_append]; simp
theorem half1 {lo hi : Int} {T rs : List (Int × Int)} (h : lo < hi) (c : Canon rs) (e : ∀ v, inR rs v = inR T v) (v : Int) : inR (addL lo hi rs) v = inR (T ++ [(lo, hi)]) v := by
  rw [inR_snoc, addL_in h c, e, Bool.or_comm]
end RS
end

section
set_option maxRecDepth 100000
set_option linter.unusedVariables false
namespace RS
def swStep (st : Int × Option Int) (q : Int × Int) : Int × Option Int := match st.2 with
  | none => (st.1 + (q.2 - q.1), some q.2)
  | some r => if q.1 > r then (st.1 + (q.2 - q.1), some q.2) else if q.2 > r then (st.1 + (q.2 - r), some q.2) else st
/-- how many numbers -/
def total (rs : List (Int × Int)) : Int := (rs.map fun q => q.2 - q.1).sum
theorem total_nil : total [] = 0 := rfl
theorem total_cons (q : Int × Int) (rs : List (Int × Int)) : total (q :: rs) = (q.2 - q.1) + total rs := by simp [total]
theorem total_append (rs qs : List (Int × Int)) : total (rs ++ qs) = total rs + total qs := by
  simp [total]
theorem inR_append (rs qs : List (Int × Int)) (v : Int) : inR (rs ++ qs) v = (inR rs v || inR qs v) := by
  unfold inR; rw [List.any_append]
theorem inR_perm {rs qs : List (Int × Int)} (h : rs.Perm qs) (v : Int) : inR rs v = inR qs v := by
  rw [Bool.eq_iff_iff, inR_any, inR_any]
  constructor
  · rintro ⟨q, hq, r⟩; exact ⟨q, h.mem_iff.mp hq, r⟩
  · rintro ⟨q, hq, r⟩; exact ⟨q, h.mem_iff.mpr hq, r⟩

/-! the sweep -/
theorem CF_snoc {lo r a b : Int} (h1 : r < a) (h2 : a < b) : ∀ {R : List (Int × Int)} {c : Int}, CF c (R ++ [(lo, r)]) → CF c (R ++ [(lo, r)] ++ [(a, b)])
  | [], c, h => ⟨h.1, h.2.1, h1, h2, trivial⟩
  | q :: R, c, h => ⟨h.1, h.2.1, CF_snoc h1 h2 (R := R) h.2.2⟩
theorem CF_more {lo r b : Int} (h1 : r < b) : ∀ {R : List (Int × Int)} {c : Int}, CF c (R ++ [(lo, r)]) → CF c (R ++ [(lo, b)])
  | [], c, h => ⟨h.1, Int.lt_trans h.2.1 h1, trivial⟩
  | q :: R, c, h => ⟨h.1, h.2.1, CF_more h1 (R := R) h.2.2⟩
theorem CF_last {lo r : Int} : ∀ {R : List (Int × Int)} {c : Int}, CF c (R ++ [(lo, r)]) → lo < r
  | [], c, h => h.2.1
  | q :: R, c, h => CF_last (R := R) h.2.2
theorem inR_one (a b v : Int) : inR [(a, b)] v = (decide (a ≤ v) && decide (v < b)) := by
  rw [inR_cons, inR_nil, Bool.or_false]
/-- what the sweep has told of the ranges taken -/
def SwInv (pre : List (Int × Int)) (st : Int × Option Int) : Prop := match st.2 with
  | none => pre = [] ∧ st.1 = 0
  | some r => ∃ R lo c, CF c (R ++ [(lo, r)]) ∧ total (R ++ [(lo, r)]) = st.1 ∧ (∀ v, inR (R ++ [(lo, r)]) v = inR pre v) ∧ ∃ b, (lo, b) ∈ pre
theorem swInv_step {pre : List (Int × Int)} {st : Int × Option Int} {a b : Int} (h : SwInv pre st) (hab : a < b) (hs : ∀ q ∈ pre, q.1 ≤ a) : SwInv (pre ++ [(a, b)]) (swStep st (a, b)) := by
  obtain ⟨tot, re⟩ := st
  cases re with
  | none =>
    obtain ⟨rfl, h0⟩ := h
    dsimp only at h0
    subst h0
    exact ⟨[], a, a - 1, ⟨by omega, hab, trivial⟩, by simp [total, swStep], fun v => rfl, b, .head _⟩
  | some r =>
    obtain ⟨R, lo, c, hc, ht, hi, b', hm⟩ := h
    dsimp only at ht
    have hlo : lo ≤ a := hs _ hm
    have hlr := CF_last hc
    unfold swStep
    dsimp only
    by_cases h1 : a > r
    · rw [if_pos h1]
      refine ⟨R ++ [(lo, r)], a, c, CF_snoc h1 hab hc, ?_, fun v => ?_, b, by simp⟩
      · rw [total_append, ht]; simp [total]
      · rw [inR_append, inR_append pre, hi]
    · rw [if_neg h1]
      by_cases h2 : b > r
      · rw [if_pos h2]
        refine ⟨R, lo, c, CF_more h2 hc, ?_, fun v => ?_, b', List.mem_append_left _ hm⟩
        · rw [total_append] at ht ⊢
          simp only [total_cons, total_nil] at ht ⊢
          omega
        · rw [inR_append pre, ← hi, inR_append, inR_append, inR_one, inR_one, inR_one]
          rw [Bool.eq_iff_iff]
          simp only [Bool.or_eq_true, Bool.and_eq_true, decide_eq_true_eq]
          constructor
          · rintro (q | q)
            · exact .inl (.inl q)
            · by_cases q2 : v < r
              · exact .inl (.inr ⟨q.1, q2⟩)
              · right; omega
          · rintro ((q | q) | q)
            · exact .inl q
            · right; omega
            · right; omega
      · rw [if_neg h2]
        refine ⟨R, lo, c, hc, ht, fun v => ?_, b', List.mem_append_left _ hm⟩
        rw [inR_append pre, ← hi, inR_append, inR_one, inR_one]
        rw [Bool.eq_iff_iff]
        simp only [Bool.or_eq_true, Bool.and_eq_true, decide_eq_true_eq]
        constructor
        · exact .inl
        · rintro (q | q)
          · exact q
          · right; omega
theorem swInv_all : ∀ (qs pre : List (Int × Int)) (st : Int × Option Int), SwInv pre st → (∀ q ∈ qs, q.1 < q.2) → (pre ++ qs).Pairwise (fun a b => a.1 ≤ b.1) → SwInv (pre ++ qs) (qs.foldl swStep st)
  | [], pre, st, h, _, _ => by rw [List.append_nil]; exact h
  | (a, b) :: qs, pre, st, h, hp, hs => by
    have e : pre ++ (a, b) :: qs = pre ++ [(a, b)] ++ qs := by simp
    rw [List.foldl_cons, e]
    refine swInv_all qs _ _ (swInv_step h (hp _ (.head _)) fun q hq => ?_) (fun q hq => hp q (.tail _ hq)) (e ▸ hs)
    exact (List.pairwise_append.mp hs).2.2 q hq (a, b) (.head _)
/-- the sweep counts the canonical list -/
theorem sweep_total {qs qs' rs : List (Int × Int)} (hp : qs'.Perm qs) (hs : qs'.Pairwise (fun a b => a.1 ≤ b.1)) (hpos : ∀ q ∈ qs, q.1 < q.2) (hc : Canon rs) (hi : ∀ v, inR rs v = inR qs v) : (qs'.foldl swStep (0, none)).1 = total rs := by
  have h := swInv_all qs' [] (0, none) ⟨rfl, rfl⟩ (fun q hq => hpos q (hp.mem_iff.mp hq)) hs
  rw [List.nil_append] at h
  generalize hst : qs'.foldl swStep (0, none) = st at *
  obtain ⟨tot, re⟩ := st
  cases re with
  | none =>
    obtain ⟨rfl, h0⟩ := h
    have : rs = [] := Canon.unique hc canon_nil fun v => by rw [hi v, ← inR_perm hp v]
    rw [this]; exact h0
  | some r =>
    obtain ⟨R, lo, c, hcf, ht, hi', _⟩ := h
    have : rs = R ++ [(lo, r)] := Canon.unique hc ⟨c, hcf⟩ fun v => by rw [hi v, hi' v, inR_perm hp v]
    rw [this]; exact ht.symm

/-! counting -/
def bn : Bool → Int
  | true => 1
  | false => 0
def cnt (f : Int → Bool) : Int → Nat → Int
  | _, 0 => 0
  | c, n + 1 => bn (f c) + cnt f (c + 1) n
theorem cnt_incl (f g : Int → Bool) : ∀ (n : Nat) (c : Int), cnt (fun v => f v || g v) c n + cnt (fun v => f v && g v) c n = cnt f c n + cnt g c n
  | 0, c => rfl
  | n + 1, c => by
    have ih := cnt_incl f g n (c + 1)
    simp only [cnt]
    generalize f c = x
    generalize g c = y
    cases x <;> cases y <;> simp only [Bool.or_true, Bool.or_false, Bool.and_true, Bool.and_false, bn] <;> omega
theorem cnt_congr {f g : Int → Bool} (h : ∀ v, f v = g v) (c : Int) (n : Nat) : cnt f c n = cnt g c n := by
  have : f = g := funext h
  rw [this]
theorem cnt_none : ∀ (n : Nat) (c : Int) {f : Int → Bool}, (∀ v, c ≤ v → v < c + n → f v = false) → cnt f c n = 0
  | 0, _, _, _ => rfl
  | n + 1, c, f, h => by
    simp only [cnt]
    rw [h c (Int.le_refl _) (by omega), cnt_none n (c + 1) fun v h1 h2 => h v (by omega) (by omega)]
    rfl
theorem cnt_interval (lo hi : Int) : ∀ (n : Nat) (c : Int), c ≤ lo → lo ≤ hi → hi ≤ c + n → cnt (fun v => decide (lo ≤ v) && decide (v < hi)) c n = hi - lo
  | 0, c, h1, h2, h3 => by simp only [cnt]; omega
  | n + 1, c, h1, h2, h3 => by
    simp only [cnt]
    by_cases hc : c = lo
    · by_cases hh : lo < hi
      · have e : cnt (fun v => decide (lo ≤ v) && decide (v < hi)) (c + 1) n = cnt (fun v => decide (c + 1 ≤ v) && decide (v < hi)) (c + 1) n := by
          have key : ∀ (n : Nat) (k : Int), c + 1 ≤ k → cnt (fun v => decide (lo ≤ v) && decide (v < hi)) k n = cnt (fun v => decide (c + 1 ≤ v) && decide (v < hi)) k n := by
            intro n
            induction n with
            | zero => intro k _; rfl
            | succ n ih =>
              intro k hk
              simp only [cnt]
              rw [ih (k + 1) (by omega), decide_eq_true (show lo ≤ k by omega), decide_eq_true hk]
          exact key n (c + 1) (Int.le_refl _)
        rw [e, cnt_interval (c + 1) hi n (c + 1) (Int.le_refl _) (by omega) (by omega), decide_eq_true (show lo ≤ c by omega), decide_eq_true (show c < hi by omega)]
        simp only [Bool.and_self, bn]; omega
      · rw [cnt_none n (c + 1) fun v q1 q2 => by rw [decide_eq_false (show ¬ v < hi by omega), Bool.and_false], decide_eq_false (show ¬ c < hi by omega), Bool.and_false]
        simp only [bn]; omega
    · rw [cnt_interval lo hi n (c + 1) (by omega) h2 (by omega), decide_eq_false (show ¬ lo ≤ c by omega), Bool.false_and]
      simp only [bn]; omega
theorem total_cnt : ∀ {rs : List (Int × Int)} {k c : Int} {n : Nat}, CF k rs → (∀ q ∈ rs, c ≤ q.1 ∧ q.2 ≤ c + n) → total rs = cnt (inR rs) c n
  | [], k, c, n, _, _ => by
    rw [cnt_none n c (f := inR []) fun v _ _ => rfl]; rfl
  | (lo, hi) :: rest, k, c, n, h, hw => by
    obtain ⟨w1, w2⟩ := hw _ (.head _)
    have ih := total_cnt (c := c) (n := n) h.2.2 fun q hq => hw q (.tail _ hq)
    have hd : ∀ v, ((decide (lo ≤ v) && decide (v < hi)) && inR rest v) = false := fun v => by
      cases q : inR rest v with
      | false => rw [Bool.and_false]
      | true =>
        have := CF.lt h.2.2 q
        rw [decide_eq_false (show ¬ v < hi by omega)]; simp
    have inc := cnt_incl (fun v => decide (lo ≤ v) && decide (v < hi)) (inR rest) n c
    rw [cnt_congr hd c n, cnt_none n c fun _ _ _ => rfl, cnt_interval lo hi n c w1 (Int.le_of_lt h.2.1) w2] at inc
    rw [total_cons, ih]
    have e : cnt (inR ((lo, hi) :: rest)) c n = cnt (fun v => (decide (lo ≤ v) && decide (v < hi)) || inR rest v) c n := cnt_congr (fun v => inR_cons lo hi v rest) c n
    rw [e]
    dsimp only
    omega
theorem window_of : ∀ rs : List (Int × Int), ∃ (c : Int) (n : Nat), ∀ q ∈ rs, c ≤ q.1 ∧ q.2 ≤ c + n
  | [] => ⟨0, 0, fun _ h => nomatch h⟩
  | q :: rs => by
    obtain ⟨c, n, h⟩ := window_of rs
    refine ⟨min c q.1, n + (c - min c q.1).toNat + (q.2 - min c q.1).toNat, fun p hp => ?_⟩
    rcases List.mem_cons.mp hp with rfl | hp
    · omega
    · have := h p hp; omega
theorem incl_excl {u m a b : List (Int × Int)} (cu : Canon u) (cm : Canon m) (ca : Canon a) (cb : Canon b) (hu : ∀ v, inR u v = (inR a v || inR b v)) (hm : ∀ v, inR m v = (inR a v && inR b v)) : total u + total m = total a + total b := by
  obtain ⟨c, n, h⟩ := window_of (u ++ m ++ a ++ b)
  obtain ⟨_, cu⟩ := cu; obtain ⟨_, cm⟩ := cm; obtain ⟨_, ca⟩ := ca; obtain ⟨_, cb⟩ := cb
  rw [total_cnt (c := c) (n := n) cu fun q hq => h q (by simp [hq]), total_cnt (c := c) (n := n) cm fun q hq => h q (by simp [hq]), total_cnt (c := c) (n := n) ca fun q hq => h q (by simp [hq]), total_cnt (c := c) (n := n) cb fun q hq => h q (by simp [hq])]
  rw [cnt_congr hu, cnt_congr hm]
  exact cnt_incl _ _ n c
end RS
end

section
open PySem PySem.W PySem.Calls PyProof.Rows
open Sem (wp)
set_option maxRecDepth 100000
set_option maxHeartbeats 0
set_option linter.unusedVariables false
namespace RS

section
variable {α : Type} {M : Model} {prog : Program} {w : World} {A : Around} {E : Value → Shared → Prop} {s : Shared}

theorem raiseMadeK {cls msg : String} {Q : α → Shared → Prop} (hp : PlainExc cls) (hh : A.handled = none)
    (h : ∀ h' tk e vs, Heap.MadeExcOf s.heap h' e (.type cls) vs → E (.ref e) { s with heap := h', toks := tk }) (hm : (msg : Str).length ≤ sizeLine := by size_fits) :
    wpAny M A (raiseErrorMade cls msg : Sem α) Q E s := by
  unfold raiseErrorMade
  refine wpAny_bind (wpAny_mkStr (wpAny_bind ?_) hm)
  unfold newExc newTuple
  refine wpAny_bind (wpAny_newObj_type ?_)
  refine wpAny_bind (m := firstArgMember _ _) (wpAny_of_eq (a := Value.none) (by simp only [firstArgMember, hp.first]; rfl) ?_)
  rw [hp.own]
  refine wpAny_newObj_type ?_
  unfold raiseNew
  refine wpAny_bind (wpAny_handled ?_)
  rw [hh]
  first
    | refine wpAny_throw ?_
    | refine wpAny_bind (wpAny_pure (wpAny_throw ?_))
  exact h _ _ _ _ ⟨fun b o hb => Heap.get?_push_of_some _ (Heap.get?_push_of_some _ hb), Heap.get?_none_of_le (by simp), s.heap.objs.size, Heap.get?_push_size _ rfl, Heap.get?_none_of_le (Nat.le_refl _), Heap.get?_push_of_some _ (Heap.get?_push_size _ rfl)⟩

end

section
variable {prog : Program} {w : World} {A : Around} {s : Shared} {base : Heap} {K : Frag} {p : Program} {loose : List Str} {mean : ExcName → Option Value} {mg mb : Str → Option Value} {news : List (Addr × Obj)}
  {R : Result → Shared → Prop} {name qual : Str} {params : Arguments} {body : List Stmt} {scope : Scope} {dV kV doc pm cdv ct oc : Value} {an od : Option Addr} {osl : Array (Option Value)} {f : Addr} {args : Args} {binds : List (Str × Value)}
end

section
variable {prog : Program} {w : World} {A₀ : Around} {E : Value → Shared → Prop} {s' : Shared} {h₀ h : Heap} {outer : List Env} {L a e t : Addr} {m : Str → Option Value} {name : Str} {scope : Scope} {cd : Value}
  {vs : List Value} {n : Str} {b₀ : Stmt} {suite : List Stmt} {pos np : PySem.Pos} {rest : List ExceptHandler} {Q : Flow → Shared → Prop} {news : List (Addr × Obj)}
  {p : Program} {loose : List Str} {mean : ExcName → Option Value} {mg mb : Str → Option Value} {x : Str} {X T' : String}
end
end RS
end

section
open PySem PySem.W PySem.Calls PyProof.Rows PyProof.V PySem.Spec PySem.SeqAt
open Sem (wp)
set_option maxRecDepth 100000
set_option maxHeartbeats 0
set_option linter.unusedVariables false
namespace RS

theorem fresh_off {g h : Heap} {L I : Addr} {m : Str → Option Value} {news : List (Addr × Obj)} (F : Fr g L h m) (N : News g L h news) (e : h.get? I = none) : L ≠ I ∧ g.get? I = none ∧ ∀ p ∈ news, p.1 ≠ I := by
  refine ⟨fun q => ?_, ?_, fun p hp q => ?_⟩
  · obtain ⟨_, _, _, h1, _⟩ := F.ns
    rw [q, e] at h1; cases h1
  · cases q : g.get? I with
    | none => rfl
    | some o => have := F.keep _ _ q; rw [e] at this; cases this
  · have := (N p hp).1
    rw [q, e] at this; cases this
abbrev pairD (q : Int × Int) : PyData := .tuple [.int q.1, .int q.2]
abbrev pairsD (rs : List (Int × Int)) : PyData := .list (rs.map pairD)
theorem reads_pair {h : Heap} {T : Addr} {q : Int × Int} {o : Obj} (e : h.get? T = some o) (r : IsPair q o) : Reads h (.ref T) (pairD q) [] := by
  obtain ⟨t, u, rfl⟩ := r
  exact Reads.tuple e rfl rfl (.cons (.int _ _) (.cons (.int _ _) .nil))
theorem readsAll_pairs {h : Heap} {vs : List Value} {rs : List (Int × Int)} (x : ListP IsPair (At h) vs rs) : ReadsAll h vs (rs.map pairD) [] := by
  induction x with
  | nil => exact .nil
  | cons e r _ ih => exact .cons (reads_pair e r) ih
theorem reads_pairs {h : Heap} {a : Addr} {vs : List Value} {rs : List (Int × Int)} (hl : h.IsList a vs.toArray) (x : ListP IsPair (At h) vs rs) : Reads h (.ref a) (pairsD rs) [a] := by
  obtain ⟨o, ho, hc, n, hd⟩ := hl
  exact Reads.list ho hc hd (by simpa using readsAll_pairs x)
theorem lay_pairs : ∀ rs : List (Int × Int), PyData.canLayAll0 (rs.map pairD) = true
  | [] => by simp [PyData.canLayAll0]
  | n :: r => by simp [PyData.canLayAll0, PyData.canLay0, lay_pairs r]
theorem depth_pairs : ∀ rs : List (Int × Int), PyData.depthAll (rs.map pairD) ≤ 2
  | [] => by simp [PyData.depthAll]
  | n :: r => by
    have := depth_pairs r
    simp only [List.map_cons, PyData.depthAll, PyData.depth]
    omega
theorem shaped_pairs (rs : List (Int × Int)) : shaped (pairsD rs) = true := by
  have h1 := depth_pairs rs
  have h2 : PyData.depth (pairsD rs) ≤ 64 := by simp only [PyData.depth]; omega
  show (PyData.canLay0 (pairsD rs) && decide (PyData.depth (pairsD rs) ≤ 64)) = true
  rw [Bool.and_eq_true]
  exact ⟨by simp only [PyData.canLay0]; exact lay_pairs rs, decide_eq_true h2⟩
theorem mix_pairs : ∀ rs qs : List (Int × Int), noMixAll (rs.map pairD) (qs.map pairD) = true
  | [], [] => by simp [noMixAll]
  | [], _ :: _ => by simp [noMixAll]
  | _ :: _, [] => by simp [noMixAll]
  | _ :: r, _ :: q => by simp [noMixAll, noMix, mix_pairs r q]
theorem same_pair (p q : Int × Int) : PySem.Spec.same (pairD p) (pairD q) = decide (p = q) := by
  obtain ⟨a, b⟩ := p
  obtain ⟨c, d⟩ := q
  simp only [pairD, PySem.Spec.same, PySem.Spec.sameAll, Bool.and_true, Prod.mk.injEq]
  by_cases h1 : a = c <;> by_cases h2 : b = d <;> simp [h1, h2]
theorem same_pairs : ∀ rs qs : List (Int × Int), PySem.Spec.sameAll (rs.map pairD) (qs.map pairD) = decide (rs = qs)
  | [], [] => by simp [PySem.Spec.sameAll]
  | [], _ :: _ => by simp [PySem.Spec.sameAll]
  | _ :: _, [] => by simp [PySem.Spec.sameAll]
  | n :: r, k :: q => by
    simp only [List.map_cons, PySem.Spec.sameAll, same_pair, same_pairs r q]
    by_cases h : n = k <;> simp [h]
section
variable {prog : Program} {w : World} {A : Around} {E : Value → Shared → Prop} {s : Shared}
theorem ne_pairs {a b : Addr} {vs us : List Value} {rs qs : List (Int × Int)} {Q : Value → Shared → Prop} (hl : s.heap.IsList a vs.toArray) (x : ListP IsPair (At s.heap) vs rs) (hl' : s.heap.IsList b us.toArray) (x' : ListP IsPair (At s.heap) us qs) (hu : A.units + 64 < cLine)
    (h : Q (.bool (!decide (rs = qs))) s) : wpAny (model prog w) A (compareOp .NotEq (.ref a) (.ref b)) Q E s :=
  ne_dataH_same (reads_pairs hl x) (reads_pairs hl' x') (shaped_pairs rs) (shaped_pairs qs) hu (by simp only [noMix]; exact mix_pairs rs qs) (by simp only [PySem.Spec.same]; rw [same_pairs]; exact h)
end
end RS
end

section
open PySem PySem.W PySem.Calls PyProof.Rows
open Sem (wp)
set_option maxRecDepth 100000
set_option maxHeartbeats 0
set_option linter.unusedVariables false
namespace RS

/-- a function's statements and names, out of the written part -/
def fnBody (K : Frag) (a : Addr) : List Stmt := match K.lookup a with
  | some o => (match o.data with | .func fd => (match fd.body with | .stmts b => b | _ => []) | _ => [])
  | none => []
def fnScope (K : Frag) (a : Addr) : Scope := match K.lookup a with
  | some o => (match o.data with | .func fd => fd.scope | _ => { kind := .function, names := [], isGenerator := false, isCoroutine := false })
  | none => { kind := .function, names := [], isGenerator := false, isCoroutine := false }
theorem fn_of {K : Frag} {a : Addr} {oc : Value} {od an : Option Addr} {osl : Array (Option Value)} {name qual : Str} {params : Arguments} {body : List Stmt} {scope : Scope} {dV kV doc pm cdv ct : Value}
    (h : K.lookup a = some ⟨oc, od, .func (fnOf name qual params body scope dV kV doc pm an cdv ct), osl⟩) : fnBody K a = body ∧ fnScope K a = scope := by
  unfold fnBody fnScope; rw [h]; exact ⟨rfl, rfl⟩
def nthS : List Stmt → Nat → Stmt
  | [], _ => .Pass default
  | b :: _, 0 => b
  | _ :: r, n + 1 => nthS r n
def dropS : Nat → List Stmt → List Stmt
  | 0, r => r
  | _ + 1, [] => []
  | n + 1, _ :: r => dropS n r
def forBody : Stmt → List Stmt
  | .For _ _ b _ _ => b
  | _ => []

/-- behind a change of some objects of the ledger: the rest anew -/
theorem reledger {g h h' : Heap} {L : Addr} {m : Str → Option Value} {W A : List Addr} {Z : List (Addr × Obj)} (F' : Fr g L h' m) (N : News g L h Z) (kb : KeepBut W h h') (hW : ∀ a ∈ W, a ∈ A) (offZ : ∀ p ∈ Z, p.1 ∉ A) :
    ∃ Z', News g L h' Z' ∧ (∀ p ∈ Z', p.1 ∉ A) ∧ (∀ a o, Src g Z a o → Src g Z' a o) ∧ ∀ a o, h'.get? a = some o → a ∉ A → a ≠ L → Src g Z' a o := by
  obtain ⟨I, NI, offI, allI⟩ := ledger_all g h' L A
  refine ⟨I, NI, offI, fun a o q => ?_, fun a o e hA hL => src_all F' allI e hA hL⟩
  rcases q with q | q
  · exact .inl q
  · have h1 := offZ _ q
    exact src_all F' allI (kb _ _ (fun z => h1 (hW _ z)) (N _ q).1) h1 (N _ q).2.1

def rhsOf : Stmt → Expr
  | .Assign _ e _ => e
  | _ => .Constant .none 0 default
theorem nodup_out {α : Type} {a : α} {post : List α} : ∀ {pre : List α}, (pre ++ a :: post).Nodup → a ∉ pre ++ post
  | [], h => (List.nodup_cons.mp h).1
  | b :: pre, h => by
    obtain ⟨h1, h2⟩ := List.nodup_cons.mp (show (b :: (pre ++ a :: post)).Nodup from h)
    intro q
    rcases List.mem_cons.mp (show a ∈ b :: (pre ++ post) from q) with q | q
    · exact h1 (by rw [← q]; simp)
    · exact nodup_out h2 q
theorem ne_all {core Z : List (Addr × Obj)} {D : Addr} (h1 : D ∉ core.map (·.1)) (h2 : ∀ p ∈ Z, p.1 ≠ D) : ∀ p ∈ core ++ Z, p.1 ≠ D := by
  intro p hp e
  rcases List.mem_append.mp hp with hp | hp
  · exact h1 (e ▸ List.mem_map_of_mem hp)
  · exact h2 p hp e
/-- a truth value, all else unchanged -/
def BVal (b : Bool) (s : Shared) (v : Value) (s' : Shared) : Prop := v = .bool b ∧ ∃ tk, s' = { s with toks := tk }
/-- behind a store of one name -/
def StoreMid (g : Heap) (L : Addr) (m : Str → Option Value) (news : List (Addr × Obj)) (x : Str) (Pv : Value → Prop) (s : Shared) (fl : Flow) (s' : Shared) : Prop :=
  fl = .next ∧ ∃ h' tk' v, s' = { s with heap := h', toks := tk' } ∧ Pv v ∧ Fr g L h' (fun y => if y = x then some v else m y) ∧ News g L h' news
end RS
end

section
open PySem PySem.W PySem.Calls PyProof.Rows
open Sem (wp)
set_option maxRecDepth 100000
set_option maxHeartbeats 0
set_option linter.unusedVariables false
namespace RS

section
variable {prog : Program} {w : World} {A : Around} {s : Shared} {env : Env} {g : Heap} {body : List Stmt} {Q : Flow → Shared → Prop} {E : Value → Shared → Prop}
end

section
variable {prog : Program} {w : World} {A : Around} {E : Value → Shared → Prop} {s : Shared} {g : Heap} {L : Addr} {m : Str → Option Value} {env : Env}
end
end RS
end

section
open PySem PySem.W PySem.Calls PyProof.Rows
set_option maxRecDepth 100000
set_option maxHeartbeats 0
set_option linter.unusedVariables false
namespace RS

/-- a comparison of places by their ranks -/
def pc (n : Nat) (rk : Nat → Int) (i j : Nat) (C : Bool → Shared → Prop) (s : Shared) : Prop := i < n ∧ j < n ∧ C (decide (rk i < rk j)) s
structure Vp (n : Nat) (p : Array Nat) : Prop where
  size : p.size = n
  perm : p.toList.Perm (List.range n)
theorem Vp.lt {n : Nat} {p : Array Nat} (v : Vp n p) (hn : 0 < n) (i : Nat) : p.getD i 0 < n := by
  by_cases h : i < p.size
  · have e : p.getD i 0 = p[i] := by simp [Array.getD, h]
    rw [e]
    have : p[i] ∈ p.toList := Array.getElem_mem_toList h
    exact List.mem_range.mp (v.perm.mem_iff.mp this)
  · have e : p.getD i 0 = 0 := by simp [Array.getD, h]
    rw [e]; exact hn
abbrev Gk (rk : Nat → Int) (p : Array Nat) (i : Nat) : Int := rk (p.getD i 0)
theorem getD_of {p q : Array Nat} {i j : Nat} (h : p[i]? = q[j]?) : p.getD i 0 = q.getD j 0 := by
  rw [Array.getD_eq_getD_getElem?, Array.getD_eq_getD_getElem?, h]
theorem Vp.rev {n : Nat} {p : Array Nat} (v : Vp n p) (i j : Nat) : Vp n (kas_rev p i j) :=
  ⟨(mirror_size _ _ _ _).trans v.size, (Array.perm_iff_toList_perm.mp (mirror_perm p i j _)).trans v.perm⟩
theorem Vp.bub {n : Nat} {p : Array Nat} (v : Vp n p) (i j : Nat) : Vp n (bubble p i j) :=
  ⟨(bubble_size _ _ _).trans v.size, (Array.perm_iff_toList_perm.mp (bubble_perm p i j)).trans v.perm⟩
theorem Gk_rev {rk : Nat → Int} {p : Array Nat} {i j : Nat} (hj : j ≤ p.size) (k : Nat) : Gk rk (kas_rev p i j) k = if i ≤ k ∧ k < j then Gk rk p (i + j - 1 - k) else Gk rk p k := by
  have e : (kas_rev p i j)[k]? = if i ≤ k ∧ k < j then p[i + j - 1 - k]? else p[k]? := getElem?_mirror_all (i := i) hj k
  unfold Gk
  by_cases h : i ≤ k ∧ k < j
  · rw [if_pos h] at e ⊢; rw [getD_of e]
  · rw [if_neg h] at e ⊢; rw [getD_of e]
theorem Gk_bub {rk : Nat → Int} {p : Array Nat} {src d : Nat} (hs : src < p.size) (hd : d ≤ src) (k : Nat) :
    Gk rk (bubble p src d) k = if k = src - d then Gk rk p src else if src - d < k ∧ k ≤ src then Gk rk p (k - 1) else Gk rk p k := by
  have e := getElem?_bubble hs d hd k
  unfold Gk
  by_cases h : k = src - d
  · rw [if_pos h] at e ⊢; rw [getD_of e]
  · rw [if_neg h] at e ⊢
    by_cases h2 : src - d < k ∧ k ≤ src
    · rw [if_pos h2] at e ⊢; rw [getD_of e]
    · rw [if_neg h2] at e ⊢; rw [getD_of e]
def Asc (rk : Nat → Int) (p : Array Nat) (m : Nat) : Prop := ∀ i j, i ≤ j → j < m → Gk rk p i ≤ Gk rk p j
def Dsc (rk : Nat → Int) (p : Array Nat) (m : Nat) : Prop := ∀ i j, i ≤ j → j < m → Gk rk p j ≤ Gk rk p i
theorem Asc.succ {rk : Nat → Int} {p : Array Nat} {m : Nat} (h : Asc rk p m) (hm : 0 < m) (e : Gk rk p (m - 1) ≤ Gk rk p m) : Asc rk p (m + 1) := by
  intro i j hij hj
  by_cases h1 : j < m
  · exact h i j hij h1
  · obtain rfl : j = m := by omega
    by_cases h2 : i = j
    · subst h2; exact Int.le_refl _
    · exact Int.le_trans (h i (j - 1) (by omega) (by omega)) e
theorem Dsc.succ {rk : Nat → Int} {p : Array Nat} {m : Nat} (h : Dsc rk p m) (hm : 0 < m) (e : Gk rk p m ≤ Gk rk p (m - 1)) : Dsc rk p (m + 1) := by
  intro i j hij hj
  by_cases h1 : j < m
  · exact h i j hij h1
  · obtain rfl : j = m := by omega
    by_cases h2 : i = j
    · subst h2; exact Int.le_refl _
    · exact Int.le_trans e (h i (j - 1) (by omega) (by omega))
section
variable {n : Nat} {rk : Nat → Int} {s : Shared}

theorem kas_asc_ok (hn : 0 < n) : ∀ (f m : Nat) {p : Array Nat} {Q : Nat → Shared → Prop}, Vp n p → Asc rk p m → 0 < m → m + f ≤ n →
    (∀ r, m ≤ r → r ≤ m + f → Asc rk p r → (r < m + f → Gk rk p r < Gk rk p (r - 1)) → Q r s) → (kas_asc p f m).kasWp (pc n rk) Q s
  | 0, m, p, Q, v, a, hm, hf, h => h m (Nat.le_refl _) (by omega) a (fun q => absurd q (by omega))
  | f + 1, m, p, Q, v, a, hm, hf, h => by
    refine ⟨v.lt hn _, v.lt hn _, ?_⟩
    by_cases c : Gk rk p m < Gk rk p (m - 1)
    · rw [decide_eq_true c]
      exact h m (Nat.le_refl _) (by omega) a (fun _ => c)
    · rw [decide_eq_false c]
      exact kas_asc_ok hn f (m + 1) v (a.succ hm (by omega)) (by omega) (by omega) fun r h1 h2 h3 h4 => h r (by omega) (by omega) h3 fun q => h4 (by omega)

/-- the last of the run are equal -/
def Eql (rk : Nat → Int) (p : Array Nat) (m q : Nat) : Prop := ∀ i, m - (q + 1) ≤ i → i < m → Gk rk p i = Gk rk p (m - 1)
theorem Gk_rev_eql {p : Array Nat} {m q : Nat} (hm : m ≤ p.size) (hq : q + 1 ≤ m) (e : Eql rk p m q) (k : Nat) : Gk rk (kas_rev p (m - (q + 1)) m) k = Gk rk p k := by
  rw [Gk_rev hm]
  by_cases h : m - (q + 1) ≤ k ∧ k < m
  · rw [if_pos h, e _ (by omega) (by omega), e k h.1 h.2]
  · rw [if_neg h]
theorem Dsc.congr {p p' : Array Nat} {m : Nat} (d : Dsc rk p m) (e : ∀ k, Gk rk p' k = Gk rk p k) : Dsc rk p' m := fun i j h1 h2 => by rw [e, e]; exact d i j h1 h2

theorem kas_desc_ok (hn : 0 < n) : ∀ (f : Nat) {p : Array Nat} (m q : Nat) {Q : Array Nat × Nat × Nat → Shared → Prop}, Vp n p → Dsc rk p m → q + 1 ≤ m → Eql rk p m q → m + f ≤ n →
    (∀ p' m' q', Vp n p' → Dsc rk p' m' → m ≤ m' → m' ≤ m + f → q' + 1 ≤ m' → Eql rk p' m' q' → Q (p', m', q') s) → (kas_desc f p m q).kasWp (pc n rk) Q s
  | 0, p, m, q, Q, v, d, hq, e, hf, h => h p m q v d (Nat.le_refl _) (by omega) hq e
  | f + 1, p, m, q, Q, v, d, hq, e, hf, h => by
    refine ⟨v.lt hn _, v.lt hn _, ?_⟩
    by_cases c : Gk rk p m < Gk rk p (m - 1)
    · rw [decide_eq_true c]; dsimp only; rw [if_pos rfl]
      by_cases hq0 : q > 0
      · rw [if_pos hq0]
        have ev := Gk_rev_eql (rk := rk) (p := p) (by rw [v.size]; omega) hq e
        refine kas_desc_ok hn f (m + 1) 0 (v.rev _ _) (Dsc.succ (d.congr ev) (by omega) (by rw [ev, ev]; omega)) (by omega) (fun i h1 h2 => by rw [show i = m + 1 - 1 by omega]) (by omega) fun p' m' q' a1 a2 a3 a4 => h p' m' q' a1 a2 (by omega) (by omega)
      · rw [if_neg hq0]
        exact kas_desc_ok hn f (m + 1) 0 v (d.succ (by omega) (by omega)) (by omega) (fun i h1 h2 => by rw [show i = m + 1 - 1 by omega]) (by omega) fun p' m' q' a1 a2 a3 a4 => h p' m' q' a1 a2 (by omega) (by omega)
    · rw [decide_eq_false c]; dsimp only; rw [if_neg (by simp)]
      refine ⟨v.lt hn _, v.lt hn _, ?_⟩
      by_cases c2 : Gk rk p (m - 1) < Gk rk p m
      · rw [decide_eq_true c2]
        exact h p m q v d (Nat.le_refl _) (by omega) hq e
      · rw [decide_eq_false c2]
        refine kas_desc_ok hn f (m + 1) (q + 1) v (d.succ (by omega) (by omega)) (by omega) (fun i h1 h2 => ?_) (by omega) fun p' m' q' a1 a2 a3 a4 => h p' m' q' a1 a2 (by omega) (by omega)
        rw [show m + 1 - 1 = m by omega]
        by_cases hi : i = m
        · rw [hi]
        · rw [e i (by omega) (by omega)]; omega

theorem kas_tail3_ok (hn : 0 < n) {m nrem : Nat} {p : Array Nat} {Q : Nat × Array Nat → Shared → Prop} (v : Vp n p) (d : Dsc rk p m) (hm : 0 < m) (h1 : m ≤ nrem) (h2 : nrem ≤ n)
    (h : ∀ r p', Vp n p' → Asc rk p' r → 0 < r → r ≤ nrem → Q (r, p') s) : (kas_tail3 m nrem p).kasWp (pc n rk) Q s := by
  unfold kas_tail3
  rw [KasT.kasWp_bind]
  have ev : ∀ k, k < m → Gk rk (kas_rev p 0 m) k = Gk rk p (m - 1 - k) := fun k hk => by
    rw [Gk_rev (by rw [v.size]; omega), if_pos ⟨Nat.zero_le _, hk⟩, show 0 + m - 1 - k = m - 1 - k by omega]
  refine kas_asc_ok hn (nrem - m) m (v.rev _ _) (fun i j hij hj => ?_) hm (by omega) fun r a1 a2 a3 _ => h r _ (v.rev _ _) a3 (by omega) (by omega)
  rw [ev i (by omega), ev j hj]
  exact d _ _ (by omega) (by omega)

theorem kas_descPart_ok (hn : 0 < n) {m nrem : Nat} {p : Array Nat} {Q : Nat × Array Nat → Shared → Prop} (v : Vp n p) (d : Dsc rk p m) (hm : 0 < m) (h1 : m < nrem) (h2 : nrem ≤ n) (e : Gk rk p m ≤ Gk rk p (m - 1))
    (h : ∀ r p', Vp n p' → Asc rk p' r → 0 < r → r ≤ nrem → Q (r, p') s) : (kas_descPart m nrem p).kasWp (pc n rk) Q s := by
  unfold kas_descPart
  rw [KasT.kasWp_bind]
  refine kas_desc_ok hn (nrem - (m + 1)) (m + 1) 0 v (d.succ hm e) (by omega) (fun i h1 h2 => by rw [show i = m + 1 - 1 by omega]) (by omega) fun p' m' q' v' d' a1 a2 a3 e' => ?_
  dsimp only
  by_cases hq : q' > 0
  · rw [if_pos hq]
    exact kas_tail3_ok hn (v'.rev _ _) (d'.congr (Gk_rev_eql (by rw [v'.size]; omega) a3 e')) (by omega) (by omega) h2 h
  · rw [if_neg hq]
    exact kas_tail3_ok hn v' d' (by omega) (by omega) h2 h

theorem kas_count_ok (hn : 0 < n) {p : Array Nat} {Q : Nat × Array Nat → Shared → Prop} (v : Vp n p)
    (h : ∀ r p', Vp n p' → Asc rk p' r → 0 < r → r ≤ n → Q (r, p') s) : (kas_count n p).kasWp (pc n rk) Q s := by
  unfold kas_count
  rw [KasT.kasWp_bind]
  refine kas_asc_ok hn (n - 1) 1 v (fun i j hij hj => by rw [show i = j by omega]; exact Int.le_refl _) (by omega) (by omega) fun r a1 a2 a3 a4 => ?_
  by_cases hr : r = n
  · rw [if_pos (by simpa using hr)]
    exact h r p v a3 (by omega) (by omega)
  · rw [if_neg (by simpa using hr)]
    have hlt := a4 (by omega)
    by_cases hr1 : r > 1
    · rw [if_pos hr1]
      refine ⟨v.lt hn _, v.lt hn _, ?_⟩
      by_cases c : Gk rk p 0 < Gk rk p (r - 1)
      · rw [decide_eq_true c]
        exact h r p v a3 (by omega) (by omega)
      · rw [decide_eq_false c]
        have e0 := a3 0 (r - 1) (by omega) (by omega)
        have eq : ∀ k, k < r → Gk rk p k = Gk rk p 0 := fun k hk => by
          have b1 := a3 0 k (by omega) hk
          have b2 := a3 k (r - 1) (by omega) (by omega)
          omega
        have ev : ∀ k, Gk rk (kas_rev p 0 r) k = Gk rk p k := fun k => by
          rw [Gk_rev (by rw [v.size]; omega)]
          by_cases hk : 0 ≤ k ∧ k < r
          · rw [if_pos hk, eq _ (by omega), eq k hk.2]
          · rw [if_neg hk]
        refine kas_descPart_ok hn (v.rev _ _) (fun i j hij hj => ?_) (by omega) (by omega) (Nat.le_refl _) (by rw [ev, ev]; omega) h
        rw [ev, ev, eq i (by omega), eq j hj]; exact Int.le_refl _
    · rw [if_neg hr1]
      exact kas_descPart_ok hn v (fun i j hij hj => by rw [show i = j by omega]; exact Int.le_refl _) (by omega) (by omega) (Nat.le_refl _) (by omega) h

theorem kas_place_ok (hn : 0 < n) {p : Array Nat} {k : Nat} (v : Vp n p) (a : Asc rk p k) : ∀ (f l r : Nat) {Q : Nat → Shared → Prop}, l ≤ r → r ≤ k → r ≤ l + f → (∀ i, i < l → Gk rk p i ≤ Gk rk p k) → (∀ i, r ≤ i → i < k → Gk rk p k ≤ Gk rk p i) →
    (∀ x, x ≤ k → (∀ i, i < x → Gk rk p i ≤ Gk rk p k) → (∀ i, x ≤ i → i < k → Gk rk p k ≤ Gk rk p i) → Q x s) → (kas_place p k f l r).kasWp (pc n rk) Q s
  | 0, l, r, Q, h1, h2, h3, b1, b2, h => h l (by omega) b1 fun i q => b2 i (by omega)
  | f + 1, l, r, Q, h1, h2, h3, b1, b2, h => by
    unfold kas_place
    by_cases hlr : l ≥ r
    · rw [if_pos hlr]
      exact h l (by omega) b1 fun i q => b2 i (by omega)
    · rw [if_neg hlr]
      refine ⟨v.lt hn _, v.lt hn _, ?_⟩
      by_cases c : Gk rk p k < Gk rk p ((l + r) / 2)
      · rw [decide_eq_true c]; dsimp only; rw [if_pos rfl]
        exact kas_place_ok hn v a f l ((l + r) / 2) (by omega) (by omega) (by omega) b1 (fun i q1 q2 => by have := a ((l + r) / 2) i q1 q2; omega) h
      · rw [decide_eq_false c]; dsimp only; rw [if_neg (by simp)]
        exact kas_place_ok hn v a f ((l + r) / 2 + 1) r (by omega) (by omega) (by omega) (fun i q => by have := a i ((l + r) / 2) (by omega) (by omega); omega) b2 h

theorem kas_bin_ok (hn : 0 < n) : ∀ (f : Nat) {p : Array Nat} (k : Nat) {Q : Array Nat → Shared → Prop}, Vp n p → Asc rk p k → 0 < k → k + f = n →
    (∀ p', Vp n p' → Asc rk p' n → Q p' s) → (kas_bin f p k).kasWp (pc n rk) Q s
  | 0, p, k, Q, v, a, hk, hf, h => h p v (by rw [← hf]; exact a)
  | f + 1, p, k, Q, v, a, hk, hf, h => by
    unfold kas_bin
    rw [KasT.kasWp_bind]
    refine kas_place_ok hn v a k 0 k (by omega) (Nat.le_refl _) (by omega) (fun i q => absurd q (by omega)) (fun i q1 q2 => absurd q2 (by omega)) fun x hx b1 b2 => ?_
    refine kas_bin_ok hn f (k + 1) (v.bub _ _) (fun i j hij hj => ?_) (by omega) (by omega) h
    rw [Gk_bub (by rw [v.size]; omega) (by omega), Gk_bub (by rw [v.size]; omega) (by omega), show k - (k - x) = x by omega]
    by_cases i1 : i = x
    · rw [if_pos i1]
      by_cases j1 : j = x
      · rw [if_pos j1]; exact Int.le_refl _
      · rw [if_neg j1, if_pos (by omega)]; exact b2 _ (by omega) (by omega)
    · rw [if_neg i1]
      by_cases i2 : x < i ∧ i ≤ k
      · rw [if_pos i2, if_neg (by omega), if_pos (by omega)]
        exact a _ _ (by omega) (by omega)
      · rw [if_neg i2]
        by_cases j1 : j = x
        · rw [if_pos j1]; exact b1 _ (by omega)
        · rw [if_neg j1]
          by_cases j2 : x < j ∧ j ≤ k
          · rw [if_pos j2]; exact a _ _ (by omega) (by omega)
          · rw [if_neg j2]; exact a _ _ hij (by omega)

theorem kas_sort_ok (hn : 0 < n) {Q : Array Nat → Shared → Prop} (h : ∀ p, Vp n p → Asc rk p n → Q p s) : (kas_sort n).kasWp (pc n rk) Q s := by
  unfold kas_sort
  rw [KasT.kasWp_bind]
  refine kas_count_ok hn (p := List.toArray (List.range n)) ⟨by simp, by simp⟩ fun r p' v a h1 h2 => ?_
  dsimp only
  by_cases hr : r < n
  · rw [if_pos hr, show max r 1 = r by omega]
    exact kas_bin_ok hn (n - r) r v a h1 (by omega) h
  · rw [if_neg hr]
    exact h p' v (by rw [show n = r by omega]; exact a)
end
/-- any comparison that tells the ranks will do -/
theorem kasWp_of {α : Type} {n : Nat} {rk : Nat → Int} {s : Shared} {cmp : Nat → Nat → (Bool → Shared → Prop) → Shared → Prop} (hc : ∀ i j C, i < n → j < n → C (decide (rk i < rk j)) s → cmp i j C s) : ∀ (t : KasT α) {Q : α → Shared → Prop}, t.kasWp (pc n rk) Q s → t.kasWp cmp Q s
  | .ret a, Q, h => h
  | .ask i j k, Q, h => hc i j _ h.1 h.2.1 (kasWp_of hc (k _) h.2.2)
end RS
end

section
open PySem PySem.W PySem.Calls PyProof.Rows
set_option maxRecDepth 100000
set_option maxHeartbeats 0
set_option linter.unusedVariables false
namespace RS

def enc (B : Int) (q : Int × Int) : Int := q.1 * (2 * B + 1) + (q.2 + B)
theorem bnd_of : ∀ qs : List (Int × Int), ∃ B : Int, 0 ≤ B ∧ ∀ q ∈ qs, -B ≤ q.2 ∧ q.2 ≤ B
  | [] => ⟨0, Int.le_refl _, fun _ h => nomatch h⟩
  | q :: qs => by
    obtain ⟨B, h0, h⟩ := bnd_of qs
    refine ⟨B + q.2.natAbs, by omega, fun p hp => ?_⟩
    rcases List.mem_cons.mp hp with rfl | hp
    · omega
    · have := h p hp; omega
theorem enc_mul {B : Int} (h0 : 0 ≤ B) {a c : Int} (h : a < c) : a * (2 * B + 1) + (2 * B + 1) ≤ c * (2 * B + 1) := by
  have h1 : (a + 1) * (2 * B + 1) ≤ c * (2 * B + 1) := Int.mul_le_mul_of_nonneg_right (by omega) (by omega)
  rw [Int.add_mul, Int.one_mul] at h1
  exact h1
theorem enc_lt {B : Int} (h0 : 0 ≤ B) {q p : Int × Int} (hq : -B ≤ q.2 ∧ q.2 ≤ B) (hp : -B ≤ p.2 ∧ p.2 ≤ B) : decide (enc B q < enc B p) = if q.1 = p.1 then decide (q.2 < p.2) else decide (q.1 < p.1) := by
  unfold enc
  by_cases h : q.1 = p.1
  · rw [if_pos h, h, Bool.eq_iff_iff, decide_eq_true_eq, decide_eq_true_eq]; omega
  · rw [if_neg h, Bool.eq_iff_iff, decide_eq_true_eq, decide_eq_true_eq]
    by_cases h1 : q.1 < p.1
    · have := enc_mul h0 h1; omega
    · have := enc_mul h0 (show p.1 < q.1 by omega); omega
theorem enc_le {B : Int} (h0 : 0 ≤ B) {q p : Int × Int} (hq : -B ≤ q.2 ∧ q.2 ≤ B) (hp : -B ≤ p.2 ∧ p.2 ≤ B) (h : enc B q ≤ enc B p) : q.1 ≤ p.1 := by
  unfold enc at h
  by_cases h1 : p.1 < q.1
  · have := enc_mul h0 h1; omega
  · omega

section
variable {prog : Program} {w : World} {A : Around} {E : Value → Shared → Prop} {s : Shared} {g : Heap} {L : Addr} {m : Str → Option Value} {news : List (Addr × Obj)}
theorem ask_pairs {vs : List Value} {qs : List (Int × Int)} {B : Int} (h0 : 0 ≤ B) (hB : ∀ q ∈ qs, -B ≤ q.2 ∧ q.2 ≤ B) (x : ListP IsPair (At s.heap) vs qs) {i j : Nat} {C : Bool → Shared → Prop} (hi : i < qs.length) (hj : j < qs.length)
    (h : C (decide (enc B (qs.getD i (0, 0)) < enc B (qs.getD j (0, 0)))) s) : kas_ask prog w A (tuples' true) vs i j C s := by
  obtain ⟨a, o, hv, ho, t, u, rfl⟩ := x.at (List.getElem?_eq_getElem hi)
  obtain ⟨a', o', hv', ho', t', u', rfl⟩ := x.at (List.getElem?_eq_getElem hj)
  have ei : qs.getD i (0, 0) = qs[i] := by simp [List.getD, hi]
  have ej : qs.getD j (0, 0) = qs[j] := by simp [List.getD, hj]
  rw [ei, ej, enc_lt h0 (hB _ (List.getElem_mem _)) (hB _ (List.getElem_mem _))] at h
  generalize qs[i] = q at *
  generalize qs[j] = p at *
  unfold kas_ask
  have e1 : vs.getD i Value.none = .ref a := by simp [List.getD, hv]
  have e2 : vs.getD j Value.none = .ref a' := by simp [List.getD, hv']
  rw [e1, e2]
  refine kat_lt ho rfl ho' rfl (kat_cons (wpAny_eqBool_int (kat_go (fun k1 => kat_yes ?_) fun k1 => kat_no ?_)))
  · have k1 : q.1 = p.1 := by simpa using k1
    rw [if_pos k1] at h
    refine kat_cons (wpAny_eqBool_int (kat_go (fun k2 => kat_yes (kat_nil ?_)) fun k2 => kat_no ?_))
    · have k2 : q.2 = p.2 := by simpa using k2
      have : decide (q.2 < p.2) = false := by rw [k2]; simp
      rw [this] at h
      simpa using h
    · show wpAny _ _ (oneLt' false _ _) _ _ _
      exact kat_one _ _ (lt_int h)
  · have k1 : ¬ q.1 = p.1 := by simpa using k1
    rw [if_neg k1] at h
    show wpAny _ _ (oneLt' true _ _) _ _ _
    exact oneLt_int h

theorem tups_pairs {h : Heap} {vs : List Value} {qs : List (Int × Int)} (x : ListP IsPair (At h) vs qs) : ∃ fs, KatTups h vs fs ∧ fs.length = vs.length ∧ ∀ v ∈ fs, ∃ n t, v = Value.int n t := by
  induction x with
  | nil => exact ⟨[], KatTups.nil, rfl, fun _ h => nomatch h⟩
  | @cons a o q vs qs e r _ ih =>
    obtain ⟨fs, h1, h2, h3⟩ := ih
    obtain ⟨t, u, rfl⟩ := r
    exact ⟨.int q.1 t :: fs, KatTups.cons e rfl rfl rfl h1, by simp [h2], fun v hv => by
      rcases List.mem_cons.mp hv with rfl | hv
      · exact ⟨_, _, rfl⟩
      · exact h3 v hv⟩

theorem out_pairs {S : Addr → Obj → Prop} {vs : List Value} {qs : List (Int × Int)} (x : ListP IsPair S vs qs) : ∀ (ps : List Nat), (∀ i ∈ ps, i < qs.length) → ListP IsPair S (ps.map fun i => vs.getD i Value.none) (ps.map fun i => qs.getD i (0, 0))
  | [], _ => .nil
  | i :: ps, h => by
    have hi := h i (.head _)
    obtain ⟨a, o, hv, ho, r⟩ := x.at (List.getElem?_eq_getElem hi)
    have e1 : vs.getD i Value.none = .ref a := by simp [List.getD, hv]
    have e2 : qs.getD i (0, 0) = qs[i] := by simp [List.getD, hi]
    rw [List.map_cons, List.map_cons, e1, e2]
    exact .cons ho r (out_pairs x ps fun j hj => h j (.tail _ hj))
theorem perm_getD (qs : List (Int × Int)) {ps : List Nat} (hp : ps.Perm (List.range qs.length)) : (ps.map fun i => qs.getD i (0, 0)).Perm qs := by
  have e : (List.range qs.length).map (fun i => qs.getD i (0, 0)) = qs := by
    apply List.ext_getElem?
    intro i
    rw [List.getElem?_map]
    by_cases h : i < qs.length
    · rw [List.getElem?_range h, List.getElem?_eq_getElem h]; simp [List.getD, h]
    · rw [List.getElem?_eq_none (by simpa using Nat.le_of_not_lt h), List.getElem?_eq_none (by omega)]; rfl
  have := hp.map fun i => qs.getD i (0, 0)
  rw [e] at this
  exact this

/-- sorted over a list of pairs -/
theorem sorted_pairs2 {l : Addr} {vs : List Value} {qs : List (Int × Int)} {Q : Value → Shared → Prop} (F : Fr g L s.heap m) (N : News g L s.heap news) (hl : s.heap.IsList l vs.toArray) (x : ListP IsPair (Src g news) vs qs) (h2 : 2 ≤ qs.length) (h64 : qs.length < 64)
    (h : ∀ D vs' qs' c h', Fr g L h' m → News g L h' ((D, PySem.W.listOf (List.toArray vs') c) :: news) → (∀ q ∈ news, q.1 < D) → ListP IsPair (Src g news) vs' qs' → qs'.Perm qs → qs'.Pairwise (fun a b => a.1 ≤ b.1) → Q (.ref D) { s with heap := h' }) :
    wpAny (model prog w) A (call (.builtin "sorted") [.ref l]) Q E s := by
  have hvl := x.length
  obtain ⟨B, h0, hB⟩ := bnd_of qs
  refine kat_sorted F N hl (by omega) (by omega) fun D e1 h' F' N' lt => ?_
  have up : ∀ p ∈ news, p ∈ (D, seqObj "list" #[] e1) :: news := fun p hp => .tail _ hp
  have x' : ListP IsPair (At h') vs qs := x.mono fun a o q _ => q.here F' N' up
  obtain ⟨fs, t1, t2, t3⟩ := tups_pairs x'
  refine kat_kind (T := .type "int") t1 (by omega) (fun v hv => ?_) rfl ?_
  · obtain ⟨n, t, rfl⟩ := t3 v hv
    exact Looks.of_pure rfl
  show (kas_sort vs.length).kasWp (kas_ask prog w A.in1.in1 (tuples' true) vs) _ _
  rw [hvl]
  refine kasWp_of (n := qs.length) (rk := fun i => enc B (qs.getD i (0, 0))) (fun i j C hi hj hC => ask_pairs h0 hB x' hi hj hC) _ ?_
  refine kas_sort_ok (by omega) fun p v a => ?_
  have hin : ∀ i ∈ p.toList, i < qs.length := fun i hi => List.mem_range.mp (v.perm.mem_iff.mp hi)
  refine KasFin.intro F' N' (.head fun q hq => Nat.ne_of_lt (lt q hq)) fun h₂ c F₂ N₂ => ?_
  refine h D _ (p.toList.map fun i => qs.getD i (0, 0)) c h₂ F₂ N₂ lt (out_pairs x _ hin) (perm_getD qs v.perm) ?_
  rw [List.pairwise_iff_getElem]
  intro i j hi hj hij
  simp only [List.length_map, Array.length_toList] at hi hj
  rw [v.size] at hi hj
  have key := a i j (Nat.le_of_lt hij) hj
  unfold Gk at key
  have ei : p.getD i 0 = p.toList[i]'(by simpa [v.size] using hi) := by simp [Array.getD, v.size, hi]
  have ej : p.getD j 0 = p.toList[j]'(by simpa [v.size] using hj) := by simp [Array.getD, v.size, hj]
  rw [ei, ej] at key
  rw [List.getElem_map, List.getElem_map]
  have bi := hin _ (List.getElem_mem (l := p.toList) (n := i) (by simpa [v.size] using hi))
  have bj := hin _ (List.getElem_mem (l := p.toList) (n := j) (by simpa [v.size] using hj))
  generalize p.toList[i]'(by simpa [v.size] using hi) = x at *
  generalize p.toList[j]'(by simpa [v.size] using hj) = y at *
  have m1 : qs.getD x (0, 0) ∈ qs := by simp [List.getD, bi]
  have m2 : qs.getD y (0, 0) ∈ qs := by simp [List.getD, bj]
  exact enc_le h0 (hB _ m1) (hB _ m2) key
end
end RS
end

section
open PySem PySem.W PySem.Calls PyProof.Rows
set_option maxRecDepth 100000
set_option maxHeartbeats 0
set_option linter.unusedVariables false
namespace RS
section
variable {prog : Program} {w : World} {A : Around} {E : Value → Shared → Prop} {s : Shared} {g : Heap} {L : Addr} {m : Str → Option Value} {news : List (Addr × Obj)}
/-- sort of no item or one -/
theorem sort_short {a : Addr} {vs : List Value} {n : Nat} {P : PySem.Fin → Shared → Prop} (ho : s.heap.get? a = some (seqObj "list" vs.toArray n)) (h2 : vs.length < 2)
    (h : P (.done (.ret .none)) { s with heap := sortedHeap s.heap a vs vs.toArray }) : wpAny (model prog w) A (Builtin.«list.sort» ⟨[.ref a], []⟩) P E s := by
  have ha : a < s.heap.objs.size := Heap.lt_size ho
  have hs : vs.toArray.size < 2 := by rw [List.size_toArray]; exact h2
  obtain ⟨e1, ho1⟩ : ∃ e1, (s.heap.update a (Obj.mapSeq fun _ => (#[] : Array Value))).get? a = some (seqObj "list" #[] e1) := ⟨_, get?_update_seq ho fun _ => #[]⟩
  have ho2 : (((s.heap.update a (Obj.mapSeq fun _ => (#[] : Array Value))).push (seqObj "tuple" vs.toArray 0)).push (seqObj "list" #[] 0)).get? a = some (seqObj "list" #[] e1) := Heap.get?_push_of_some _ (Heap.get?_push_of_some _ ho1)
  rw [list_sort_plain]
  refine wpAny_bind (listItems_at ho rfl (wpAny_bind (listUpdate_at ho rfl (wpAny_bind (seqEpoch_at ho1 rfl (wpAny_bind (wpAny_newTuple ?_)))) )))
  refine wpAny_bind (wpAny_newList (wpAny_holding ?_))
  show wpAny (model prog w) A _ P E { s with heap := ((s.heap.update a (Obj.mapSeq fun _ => (#[] : Array Value))).push (seqObj "tuple" vs.toArray 0)).push (seqObj "list" #[] 0) }
  dsimp only
  rw [if_pos hs, if_pos hs]
  refine wpAny_bind (wpAny_pure ?_)
  rw [StateT.run_pure]
  refine wpAny_bind (wpAny_pure ?_)
  dsimp only
  have e : (arrOf (SortSt.mk' general' (vs.toArray.zip vs.toArray) #[] 7 none)).map (·.2) = vs.toArray := by
    show (vs.toArray.zip vs.toArray).map (·.2) = vs.toArray
    apply Array.toList_inj.mp
    simp only [Array.toList_map, Array.toList_zip]
    exact List.map_snd_zip (Nat.le_refl _)
  refine wpAny_bind (seqEpoch_at ho2 rfl (wpAny_bind (listUpdate_at ho2 rfl ?_ (hsz2 := by rw [e, List.size_toArray, sizeLine_eq]; omega))))
  simp only [bne_self_eq_false, Bool.false_eq_true, if_false]
  rw [e]
  exact wpAny_pure h
theorem sorted_short {l : Addr} {vs : List Value} {Q : Value → Shared → Prop} (F : Fr g L s.heap m) (N : News g L s.heap news) (hl : s.heap.IsList l vs.toArray) (h2 : vs.length < 2)
    (h : ∀ D c h', Fr g L h' m → News g L h' ((D, PySem.W.listOf (List.toArray vs) c) :: news) → (∀ q ∈ news, q.1 < D) → Q (.ref D) { s with heap := h' }) :
    wpAny (model prog w) A (call (.builtin "sorted") [.ref l]) Q E s := by
  have fin : Q (.ref (s.heap.objs.size + 1)) { s with heap := sortedAll s.heap vs vs.toArray } := by
    obtain ⟨e, he⟩ := sortedAll_at s.heap vs vs.toArray
    exact h _ e _ (F.kept fun _ _ => sortedAll_old) (N.kept_cons F (fun _ _ => sortedAll_old) (Nat.le_succ _) he) fun q hq => Nat.lt_succ_of_lt (Heap.lt_size (N q hq).1)
  refine Calls.call_function_entry kind_sorted plain_sorted entry_sorted (args_sorted1 _) ?_
  unfold Builtin.«sorted»
  refine wpAny_bind (m := checkCount "sorted" 1 1 _) (wpAny_pure ?_)
  refine wpAny_bind (collect_list hl (wpAny_bind (wpAny_newList ?_)))
  have hsz : ((s.heap.push (seqObj "list" #[] 0)).update s.heap.objs.size (Obj.mapSeq (· ++ vs.toArray))).objs.size = s.heap.objs.size + 1 := by
    rw [Heap.size_update, size_push']
  have hoL : (((s.heap.push (seqObj "list" #[] 0)).update s.heap.objs.size (Obj.mapSeq (· ++ vs.toArray))).push (seqObj "list" vs.toArray 0)).get? (s.heap.objs.size + 1) = some (seqObj "list" vs.toArray 0) := by
    rw [← hsz]; exact Heap.get?_push_size _ rfl
  show wpAny _ _ _ _ _ { s with heap := ((s.heap.push (seqObj "list" #[] 0)).update s.heap.objs.size (Obj.mapSeq (· ++ vs.toArray))).push (seqObj "list" vs.toArray 0) }
  rw [hsz]
  refine wpAny_bind (wpAny_holding (wpAny_call_entry slot_list_sort ⟨_, hoL, rfl⟩ entry_list_sort (sort_short hoL h2 ⟨_, rfl, ?_⟩) (args_list_sort _)))
  exact wpAny_pure ⟨_, rfl, fin⟩
/-- sorted over a list of pairs -/
theorem sorted_pairs {l : Addr} {vs : List Value} {qs : List (Int × Int)} {Q : Value → Shared → Prop} (F : Fr g L s.heap m) (N : News g L s.heap news) (hl : s.heap.IsList l vs.toArray) (x : ListP IsPair (Src g news) vs qs) (h64 : qs.length < 64)
    (h : ∀ D vs' qs' c h', Fr g L h' m → News g L h' ((D, PySem.W.listOf (List.toArray vs') c) :: news) → (∀ q ∈ news, q.1 < D) → ListP IsPair (Src g news) vs' qs' → qs'.Perm qs → qs'.Pairwise (fun a b => a.1 ≤ b.1) → Q (.ref D) { s with heap := h' }) :
    wpAny (model prog w) A (call (.builtin "sorted") [.ref l]) Q E s := by
  by_cases h2 : 2 ≤ qs.length
  · exact sorted_pairs2 F N hl x h2 h64 h
  · have := x.length
    refine sorted_short F N hl (by omega) fun D c h' F' N' lt => h D vs qs c h' F' N' lt x (List.Perm.refl _) ?_
    match qs, h2 with
    | [], _ => exact .nil
    | [q], _ => exact List.pairwise_singleton _ _
    | _ :: _ :: _, h2 => exact absurd (by simp) h2
end
end RS
end

section
open PySem PySem.W PySem.Calls PyProof.Rows PyProof.V PySem.Spec PySem.SeqAt
open Sem (wp)
set_option maxRecDepth 100000
set_option maxHeartbeats 0
set_option linter.unusedVariables false
namespace RS
/-- refs to lists of pairs -/
inductive LLP (P : Addr → Obj → Prop) : List Value → List (List (Int × Int)) → Prop
  | nil : LLP P [] []
  | cons {a : Addr} {vs us : List Value} {k : Nat} {rs : List (Int × Int)} {rss : List (List (Int × Int))} : P a (W.listOf (List.toArray vs) k) → ListP IsPair P vs rs → LLP P us rss → LLP P (.ref a :: us) (rs :: rss)
theorem LLP.mono {P P' : Addr → Obj → Prop} {us : List Value} {rss : List (List (Int × Int))} (x : LLP P us rss) (k : ∀ a o, P a o → P' a o) : LLP P' us rss := by
  induction x with
  | nil => exact .nil
  | cons e y _ ih => exact .cons (k _ _ e) (y.mono fun a o q _ => k a o q) ih
theorem LLP.snoc {P : Addr → Obj → Prop} {us vs : List Value} {rss : List (List (Int × Int))} {a : Addr} {k : Nat} {rs : List (Int × Int)} (x : LLP P us rss) (e : P a (W.listOf (List.toArray vs) k)) (y : ListP IsPair P vs rs) : LLP P (us ++ [.ref a]) (rss ++ [rs]) := by
  induction x with
  | nil => exact .cons e y .nil
  | cons e' y' _ ih => exact .cons e' y' ih
theorem LLP.reads {h : Heap} {us : List Value} {rss : List (List (Int × Int))} (x : LLP (At h) us rss) : ∃ as, ReadsAll h us (rss.map pairsD) as := by
  induction x with
  | nil => exact ⟨_, .nil⟩
  | @cons a vs us k rs rss e y _ ih =>
    obtain ⟨as, r⟩ := ih
    exact ⟨_, .cons (reads_pairs ⟨_, e, rfl, _, rfl⟩ y) r⟩
theorem lay_ll : ∀ rss : List (List (Int × Int)), PyData.canLayAll0 (rss.map pairsD) = true
  | [] => by simp [PyData.canLayAll0]
  | n :: r => by
    rw [List.map_cons]
    simp only [PyData.canLayAll0, PyData.canLay0, lay_pairs n, lay_ll r, Bool.and_self]
theorem depth_ll : ∀ rss : List (List (Int × Int)), PyData.depthAll (rss.map pairsD) ≤ 3
  | [] => by simp [PyData.depthAll]
  | n :: r => by
    have h1 := depth_ll r
    have h2 := depth_pairs n
    simp only [List.map_cons, PyData.depthAll, PyData.depth]
    omega
theorem shaped_ll (rss : List (List (Int × Int))) : shaped (.list (rss.map pairsD)) = true := by
  have h1 := depth_ll rss
  have h2 : PyData.depth (.list (rss.map pairsD)) ≤ 64 := by simp only [PyData.depth]; omega
  show (PyData.canLay0 (.list (rss.map pairsD)) && decide (PyData.depth (.list (rss.map pairsD)) ≤ 64)) = true
  rw [Bool.and_eq_true]
  exact ⟨by simp only [PyData.canLay0]; exact lay_ll rss, decide_eq_true h2⟩
theorem mix_ll : ∀ rss : List (List (Int × Int)), noMixAll (rss.map pairsD) (rss.map pairsD) = true
  | [] => by simp [noMixAll]
  | n :: r => by simp only [List.map_cons, noMixAll, noMix, mix_pairs n n, mix_ll r, Bool.and_self]
theorem same_ll : ∀ rss : List (List (Int × Int)), PySem.Spec.sameAll (rss.map pairsD) (rss.map pairsD) = true
  | [] => by simp [PySem.Spec.sameAll]
  | n :: r => by
    simp [List.map_cons, PySem.Spec.sameAll, PySem.Spec.same, same_pairs n n, same_ll r]
section
variable {prog : Program} {w : World} {A : Around} {E : Value → Shared → Prop} {s : Shared}
theorem eq_ll {a b : Addr} {us vs : List Value} {rss : List (List (Int × Int))} {Q : Value → Shared → Prop} (hl : s.heap.IsList a us.toArray) (x : LLP (At s.heap) us rss) (hl' : s.heap.IsList b vs.toArray) (x' : LLP (At s.heap) vs rss) (hu : A.units + 64 < cLine)
    (h : Q (.bool true) s) : wpAny (model prog w) A (compareOp .Eq (.ref a) (.ref b)) Q E s := by
  obtain ⟨as, r⟩ := x.reads
  obtain ⟨bs, r'⟩ := x'.reads
  obtain ⟨o, ho, hc, n, hd⟩ := hl
  obtain ⟨o', ho', hc', n', hd'⟩ := hl'
  exact eq_dataH_same (Reads.list ho hc hd (by simpa using r)) (Reads.list ho' hc' hd' (by simpa using r')) (shaped_ll rss) (shaped_ll rss) hu (by simp only [noMix]; exact mix_ll rss) (by simp only [PySem.Spec.same]; rw [same_ll]; exact h)
end
end RS
end

section
open PySem PySem.W PySem.Calls PyProof.Rows
open Sem (wp)
set_option maxRecDepth 100000
set_option maxHeartbeats 0
set_option linter.unusedVariables false
namespace RS
structure TCI (s : Shared) (g : Heap) (L C l : Addr) (news : List (Addr × Obj)) (vs : List Value) (Ts : Nat → Addr) (vals : Nat → Array Value) (J : Nat → (Str → Option Value) → Prop) (i : Nat) (h' : Heap) (m' : Str → Option Value) (oC' : Obj) (cv' : Option Value) : Prop where
  st : h'.IsListIter s.heap.objs.size l i ∧ h'.IsList l vs.toArray ∧ ∀ k, k < vs.toArray.size → h'.IsTuple (Ts k) (vals k)
  F : Fr g L h' m'
  N : News g L h' ((C, oC') :: news)
  d : oC'.data = .cell cv'
  j : J i m'
  hi : i ≤ vs.toArray.size
def TCInv (s : Shared) (g : Heap) (L C l : Addr) (news : List (Addr × Obj)) (vs : List Value) (Ts : Nat → Addr) (vals : Nat → Array Value) (J : Nat → (Str → Option Value) → Prop) (k : Nat) (s' : Shared) : Prop :=
  ∃ i h' tk' m' oC' cv', s' = { s with heap := h', toks := tk' } ∧ TCI s g L C l news vs Ts vals J i h' m' oC' cv' ∧ k = vs.toArray.size + 1 - i
def TCEnd (s : Shared) (g : Heap) (L C I : Addr) (oI : Obj) (news : List (Addr × Obj)) (J : (Str → Option Value) → Prop) (s₃ : Shared) : Prop :=
  ∃ h' tk' m' oC' cv', s₃ = { s with heap := h', toks := tk' } ∧ Fr g L h' m' ∧ News g L h' ((C, oC') :: (I, oI) :: news) ∧ oC'.data = .cell cv' ∧ J m'
/-- what a turn of a loop with a cell among its names must leave -/
def CTurn (g : Heap) (L C : Addr) (news : List (Addr × Obj)) (I : Addr) (oI : Obj) (J : (Str → Option Value) → Prop) (s : Shared) (Q : Flow → Shared → Prop) (f : Flow) (s₃ : Shared) : Prop :=
  match f with
  | .ret v => Q (.ret v) s₃
  | .brk => Q .next s₃
  | _ => ∃ h' tk' m' oC' cv', s₃ = { s with heap := h', toks := tk' } ∧ Fr g L h' m' ∧ News g L h' ((C, oC') :: (I, oI) :: news) ∧ oC'.data = .cell cv' ∧ J m'
section
variable {prog : Program} {w : World} {A : Around} {s : Shared} {env : Env} {g : Heap} {body : List Stmt} {Q : Flow → Shared → Prop} {E : Value → Shared → Prop}
/-- for over a list of pairs of the ledger, the second name a cell -/
theorem for_listTC {x y : Str} {px py pt : PySem.Pos} {kk : Nat} {m : Str → Option Value} {news : List (Addr × Obj)} {l C : Addr} {vs : List Value} {qs : List (Int × Int)} {n : Nat} {oC₀ : Obj} {cv₀ : Option Value} (hh : A.handled = none)
    (hx : env.kindOf x = some .local) (hy : env.kindOf y = some .cell) (hcy : env.cells.lookup y = some C) (hk : env.scope.kind = .function)
    (hp : (env.scope.kind == .class || (env.scope.kind == .module && env.locals != env.globals)) = false)
    (hl : (l, listOf vs.toArray n) ∈ news) (yP : ListP IsPair (Src g news) vs qs) (F : Fr g env.locals s.heap m) (N : News g env.locals s.heap ((C, oC₀) :: news)) (nC : ∀ p ∈ news, p.1 ≠ C) (hC₀ : oC₀.data = .cell cv₀)
    (J : Nat → (Str → Option Value) → Prop) (j0 : J 0 m)
    (turn : ∀ i q I oI oC' m' h tk t u, qs[i]? = some q → oI.cls = .type "list_iterator" → oC'.data = .cell (some (.int q.2 u)) → J i m' → (∀ p ∈ news, p.1 ≠ I) → C ≠ I → Fr g env.locals h (fun z => if z = x then some (.int q.1 t) else m' z) → News g env.locals h ((C, oC') :: (I, oI) :: news) →
      wpAny (model prog w) A (execs body env) (CTurn g env.locals C news I oI (J (i + 1)) s Q) (fun _ _ => False) { s with heap := h, toks := tk })
    (done : ∀ m' oC' cv' h tk, J qs.length m' → oC'.data = .cell cv' → Fr g env.locals h m' → News g env.locals h ((C, oC') :: news) → Q .next { s with heap := h, toks := tk }) :
    wpAny (model prog w) A (pyIter (.ref l)) (ForK prog w A env (.Tuple [.Name x px, .Name y py] kk pt) body Q E) E s := by
  have hls : s.heap.IsList l vs.toArray := ⟨_, (N _ (.tail _ hl)).1, rfl, n, rfl⟩
  refine wpAny_pyIter_list hls ?_
  let h₀ := s.heap.push { cls := .type "list_iterator", data := .fields #[.ref l, .int 0 0] }
  have k : ∀ b o, s.heap.get? b = some o → h₀.get? b = some o := fun b o e => Heap.get?_push_of_some _ e
  have hlen := yP.length
  let Ts : Nat → Addr := fun j => match vs[j]? with | some (.ref T) => T | _ => 0
  have hT : ∀ j, j < vs.toArray.size → ∃ q t u, qs[j]? = some q ∧ vs[j]? = some (.ref (Ts j)) ∧ Src g news (Ts j) (tupO [.int q.1 t, .int q.2 u]) := by
    intro j hj
    rw [List.size_toArray] at hj
    obtain ⟨T, o, hv, hs, t, u, rfl⟩ := yP.at (List.getElem?_eq_getElem (show j < qs.length by omega))
    have e : Ts j = T := by show (match vs[j]? with | some (.ref T) => T | _ => 0) = T; rw [hv]
    exact ⟨_, t, u, List.getElem?_eq_getElem (show j < qs.length by omega), by rw [e]; exact hv, by rw [e]; exact hs⟩
  let vals : Nat → Array Value := fun j => match s.heap.get? (Ts j) with | some o => (match o.data with | .seq a _ => a | _ => #[]) | none => #[]
  have hTs : ∀ j, j < vs.toArray.size → ∃ q t u, qs[j]? = some q ∧ vals j = #[.int q.1 t, .int q.2 u] ∧ s.heap.get? (Ts j) = some { cls := .type "tuple", data := .seq (vals j) } := fun j hj => by
    obtain ⟨q, t, u, h1, _, h3⟩ := hT j hj
    have h4 := h3.here F N fun p hp => .tail _ hp
    have e : vals j = #[.int q.1 t, .int q.2 u] := by
      show (match s.heap.get? (Ts j) with | some o => (match o.data with | .seq a _ => a | _ => #[]) | none => #[]) = _
      rw [h4]
    exact ⟨q, t, u, h1, e, by rw [e]; exact h4⟩
  have hTI : ∀ j, j < vs.toArray.size → Ts j ≠ s.heap.objs.size := fun j hj => by obtain ⟨_, _, _, _, _, e⟩ := hTs j hj; exact size_ne e
  have hvr : ∀ j, j < vs.toArray.size → vs.toArray[j]? = some (.ref (Ts j)) := fun j hj => by
    obtain ⟨_, _, _, _, e, _⟩ := hT j hj
    rw [List.getElem?_toArray]; exact e
  have W := WalksU.listOfTuples (prog := prog) (w := w) hh s.heap.objs.size l (size_ne hls.choose_spec.1) vs.toArray Ts vals hvr hTI
  have hIL : env.locals ≠ s.heap.objs.size := Nat.ne_of_lt F.ns.lt
  have hCI : C ≠ s.heap.objs.size := size_ne (N _ (.head _)).1
  have hCL : C ≠ env.locals := (N _ (.head _)).2.1
  have hCg : g.get? C = none := (N _ (.head _)).2.2
  have nI : ∀ p ∈ news, p.1 ≠ s.heap.objs.size := fun p hp => size_ne (N p (.tail _ hp)).1
  have gI : g.get? s.heap.objs.size = none := fresh_g F _ (Nat.le_refl _)
  have kF : ∀ {h h' : Heap} {m : Str → Option Value}, Fr g env.locals h m → (∀ b o, b ∉ [s.heap.objs.size] → h.get? b = some o → h'.get? b = some o) → Fr g env.locals h' m := fun F k => fr_keepBut F k fun b hb => by rw [List.mem_singleton.mp hb]; exact ⟨Ne.symm hIL, gI⟩
  have kN : ∀ {h h' : Heap} {o : Obj}, News g env.locals h ((C, o) :: news) → (∀ b o, b ∉ [s.heap.objs.size] → h.get? b = some o → h'.get? b = some o) → News g env.locals h' ((C, o) :: news) := fun N k => news_keepBut N k fun p hp hm => by
    have e := List.mem_singleton.mp hm
    rcases List.mem_cons.mp hp with rfl | hp
    · exact hCI e
    · exact nI p hp e
  refine codeAny_forLoop_any (TCInv s g env.locals C l news vs Ts vals J) ?_ (vs.toArray.size + 1)
    ⟨0, h₀, s.toks, m, oC₀, cv₀, rfl, ⟨⟨⟨_, Heap.get?_push_size _ rfl, rfl, rfl⟩, hls.at fun o e => k _ _ e, fun j hj => by obtain ⟨_, _, _, _, _, e⟩ := hTs j hj; exact ⟨_, k _ _ e, rfl, 0, rfl⟩⟩, F.push _, fun p hp => ⟨k _ _ (N p hp).1, (N p hp).2⟩, hC₀, j0, Nat.zero_le _⟩, rfl⟩
  rintro k s' ⟨i, h', tk', m', oC', cv', rfl, ⟨st', F', N', hd', j', hi⟩, rfl⟩
  by_cases hlt : i < vs.toArray.size
  · refine W.item i _ _ _ hlt st' fun T vals' h₁ tk₁ hP hT₁ mid₁ k₁ => ?_
    have F₁ := kF F' k₁
    have N₁ := kN N' k₁
    refine W.go _ kk pt i T _ _ _ mid₁ fun h₂ st₂ k₂ => ?_
    have F₂ := kF F₁ k₂
    have N₂ := kN N₁ k₂
    obtain ⟨q, t, u, hq, hv, _⟩ := hTs i hlt
    have hT₂ : h₂.IsTuple T vals' := hT₁.at fun o e => k₂ T o (W.apart _ _ _ mid₁) e
    rw [hP, hv] at hT₂
    refine wpAny_assign_Tuple hh hT₂ rfl rfl fun h₃ hx₃ => ?_
    replace hx₃ : Heap.ExtBut h₂.objs.size h₂ h₃ := hx₃
    have k₃ : ∀ b o, h₂.get? b = some o → h₃.get? b = some o := fun b o e => hx₃ b o (Nat.ne_of_lt (Heap.lt_size e)) e
    have F₃ := F₂.keeps k₃
    have N₃ := N₂.grown k₃
    show wpAny _ A (do holding [Value.int q.2 u] (assign (.Name x px) env (Value.int q.1 t)); do holding [] (assign (.Name y py) env (Value.int q.2 u)); pure ()) _ _ _
    refine wpAny_bind (wpAny_holding (wpAny_assign_Name (wpAny_storeName_local hx F₃.ns (fun h₄ hn₄ hs₄ => ?_) hp)))
    replace hs₄ : Heap.SameBut env.locals h₃ h₄ := hs₄
    have F₄ := F₃.set hn₄ hs₄
    have N₄ := N₃.set hs₄
    refine wpAny_bind (wpAny_holding (wpAny_assign_Name (wpAny_storeName_cell hk hy hcy ⟨oC', (N₄ _ (.head _)).1, hd'⟩ fun h₅ hv₅ hs₅ => wpAny_pure ?_)))
    replace hs₅ : Heap.SameBut C h₄ h₅ := hs₅
    obtain ⟨o₅, ho₅, hd₅⟩ := hv₅
    have F₅ : Fr g env.locals h₅ (fun z => if z = x then some (.int q.1 t) else m' z) := ⟨F₄.ns.sameBut hs₅ (Ne.symm hCL), fun b ob e => (hs₅.2 b (fun z => by rw [z, hCg] at e; cases e)).trans (F₄.keep b ob e), F₄.above⟩
    obtain ⟨oI, hoI, hcI, hdI⟩ := st₂.1
    have kI : ∀ b o, b ≠ env.locals → b ≠ C → h₂.get? b = some o → h₅.get? b = some o := fun b o n1 n2 e => (hs₅.2 b n2).trans ((hs₄.2 b n1).trans (k₃ b o e))
    have N₅ : News g env.locals h₅ ((C, o₅) :: (s.heap.objs.size, oI) :: news) := by
      intro p hp
      rcases List.mem_cons.mp hp with rfl | hp
      · exact ⟨ho₅, hCL, hCg⟩
      rcases List.mem_cons.mp hp with rfl | hp
      · exact ⟨kI _ _ (Ne.symm hIL) (Ne.symm hCI) hoI, Ne.symm hIL, gI⟩
      · have z := N₂ p (.tail _ hp)
        exact ⟨kI _ _ z.2.1 (nC p hp) z.1, z.2⟩
    refine wpAny_mono (turn i q _ oI o₅ m' h₅ _ t u hq hcI hd₅ j' nI hCI F₅ N₅) (fun f s₃ h₃' => ?_) (fun _ _ x => x.elim)
    have fin : TCEnd s g env.locals C s.heap.objs.size oI news (J (i + 1)) s₃ → ∃ m, m < vs.toArray.size + 1 - i ∧ TCInv s g env.locals C l news vs Ts vals J m s₃ := by
      rintro ⟨h'', tk'', m'', oC'', cv'', rfl, F'', N'', d'', j''⟩
      refine ⟨vs.toArray.size + 1 - (i + 1), by omega, i + 1, h'', tk'', m'', oC'', cv'', rfl, ⟨⟨⟨oI, (N'' _ (.tail _ (.head _))).1, hcI, hdI⟩, ⟨_, (N'' _ (.tail _ (.tail _ hl))).1, rfl, n, rfl⟩, fun j hj => ?_⟩, F'', fun p hp => ?_, d'', j'', hlt⟩, rfl⟩
      · obtain ⟨_, _, _, _, _, h3⟩ := hT j hj
        obtain ⟨_, t', u', _, hv', _⟩ := hTs j hj
        have h4 := h3.here F'' N'' fun p hp => .tail _ (.tail _ hp)
        have h5 := h3.here F N fun p hp => .tail _ hp
        obtain ⟨_, _, _, _, _, h6⟩ := hTs j hj
        rw [h5] at h6
        rw [Option.some.inj h6] at h4
        exact ⟨_, h4, rfl, 0, rfl⟩
      · rcases List.mem_cons.mp hp with rfl | hp
        · exact N'' _ (.head _)
        · exact N'' _ (.tail _ (.tail _ hp))
    cases f with
    | ret v => exact h₃'
    | brk => exact h₃'
    | next => exact fin h₃'
    | cont => exact fin h₃'
  · have hin : i = vs.toArray.size := by omega
    subst hin
    refine W.done _ _ _ st' fun h₁ tk₁ k₁ => wpAny_execs_nil ?_
    rw [List.size_toArray, hlen] at j'
    exact done m' oC' cv' h₁ tk₁ j' hd' (kF F' k₁) (kN N' k₁)
end
end RS
end

section
open PySem PySem.W PySem.Calls PyProof.Rows
open Sem (wp)
set_option maxRecDepth 100000
set_option maxHeartbeats 0
set_option linter.unusedVariables false
namespace RS
/-- a comprehension's test: its answer, and what stays -/
def CompTest (b : Bool) (s : Shared) (ok : Bool) (s₄ : Shared) : Prop := ok = b ∧ Keeps s s₄
theorem CompTest.intro {b ok : Bool} {s : Shared} {h' : Heap} {tk : Nat} (e : ok = b) (st : s.heap.StaysIn h') : CompTest b s ok { s with heap := h', toks := tk } := ⟨e, h', tk, rfl, st⟩
abbrev CompT (prog : Program) (w : World) (A : Around) (E : Value → Shared → Prop) (env : Env) (elt iter c : PySem.Expr) (x : Str) (px : PySem.Pos) (scope : Scope) (cl : List (Str × Addr)) (pos : PySem.Pos) (Q : Value → Shared → Prop) (it : Value) (s₂ : Shared) : Prop :=
  wpAny (model prog w) A (newList []) (fun acc s₃ => wpAny (model prog w) A (newFunctionEnv scope env.globals cl [] env.qual none .none (some env)) (fun cenv s₄ =>
    codeAny (model prog w) A (.compStart (.ListComp elt [⟨.Name x px, iter, [c], 0⟩] scope pos) 0 it acc { cenv with scope := relabel scope env }) (compPost (model prog w) A E none Q acc cenv.locals) s₄) E s₃) E s₂
theorem paired_eq {l₁ l₂ : List Value} (h : Paired (fun v y => y = v) l₁ l₂) : l₂ = l₁ := by
  induction h with
  | nil => rfl
  | cons a _ ih => rw [a, ih]
theorem listP_filter {R : Int × Int → Obj → Prop} {S : Addr → Obj → Prop} {vs : List Value} {qs : List (Int × Int)} (x : ListP R S vs qs) (p : Value → Bool) (tst : Int × Int → Bool) : (∀ (i : Nat) v q, vs[i]? = some v → qs[i]? = some q → p v = tst q) → ListP R S (vs.filter p) (qs.filter tst) := by
  induction x with
  | nil => exact fun _ => .nil
  | cons e r _ ih =>
    intro h
    have h0 := h 0 _ _ rfl rfl
    have ih' := ih fun i v q hv hq => h (i + 1) v q hv hq
    rw [List.filter_cons, List.filter_cons, h0]
    split
    · exact .cons e r ih'
    · exact ih'
section
variable {prog : Program} {w : World} {A : Around} {E : Value → Shared → Prop} {s : Shared} {g : Heap} {L : Addr} {m : Str → Option Value} {env : Env}
theorem comp_openT {elt iter c : PySem.Expr} {x : Str} {px : PySem.Pos} {scope : Scope} {cl : List (Str × Addr)} {pos : PySem.Pos} {Q : Value → Shared → Prop}
    (hclos : closureFor scope env = pure cl) (hkind : scope.kind = .function) (hnames : ∀ y ∈ scope.names, y.2 = .local → scope.names.lookup y.1 = some .local)
    (h : wpAny (model prog w) A (eval iter env) (fun xv s₁ => wpAny (model prog w) A (pyIter xv) (CompT prog w A E env elt iter c x px scope cl pos Q) E s₁) E s)
    (hs : ∀ x, foldedSetIterable iter env x = pure x := by intro _; rfl) :
    wpAny (model prog w) A (eval (.ListComp elt [⟨.Name x px, iter, [c], 0⟩] scope pos) env) Q E s := by
  rw [eval_ListComp]
  exact wpAny_comprehension_free (use := none) rfl hs hclos hkind hnames h
/-- the pairs of a list that a test lets by: are there any? -/
theorem comp_pairs {l : Addr} {vs : List Value} {qs : List (Int × Int)} {iter c : PySem.Expr} {x : Str} {px pe : PySem.Pos} {scope : Scope} {cl : List (Str × Addr)} {pos : PySem.Pos} {news : List (Addr × Obj)} {n : Nat} {Q : Value → Shared → Prop}
    (hh : A.handled = none) (hsz : vs.length ≤ 100000) (hcell : ∀ y ∈ scope.names, y.2 ≠ .cell) (hkind : scope.kind = .function) (hx : scope.names.lookup x = some .local) (hdb : (x == ("__debug__" : Str)) = false)
    (F : Fr g L s.heap m) (N : News g L s.heap news) (hl : (l, listOf vs.toArray n) ∈ news) (yP : ListP IsPair (Src g news) vs qs) (tst : Int × Int → Bool)
    (test : ∀ (i : Nat) (q : Int × Int) (C : Addr) (oC : Obj) m₂ T (s' : Shared) t u (E' : Value → Shared → Prop), qs[i]? = some q → LCg.NsObj oC m₂ → m₂ x = some (.ref T) → Src g news T (tupO [.int q.1 t, .int q.2 u]) → Fr g L s'.heap m → News g L s'.heap ((C, oC) :: news) →
      wpAny (model prog w) A (isTrue c (compEnvC scope cl C env) (eval c (compEnvC scope cl C env))) (CompTest (tst q) s') E' s')
    (fin : ∀ ys k D h tk, ListP IsPair (Src g news) ys (qs.filter tst) → Fr g L h m → News g L h ((D, listOf (List.toArray ys) k) :: news) → Q (.ref D) { s with heap := h, toks := tk }) :
    wpAny (model prog w) A (pyIter (.ref l)) (CompT prog w A E env (.Name x pe) iter c x px scope cl pos Q) E s := by
  have hls : s.heap.IsList l vs.toArray := ⟨_, (N _ hl).1, rfl, n, rfl⟩
  refine wpAny_pyIter_list hls ?_
  have up : ∀ b o, s.heap.get? b = some o → (s.heap.push { cls := .type "list_iterator", data := .fields #[.ref l, .int 0 0] }).get? b = some o := fun b o e => Heap.get?_push_of_some _ e
  generalize hI : s.heap.objs.size = I
  have hli : (s.heap.push { cls := .type "list_iterator", data := .fields #[.ref l, .int 0 0] }).IsListIter I l 0 := by rw [← hI]; exact ⟨_, Heap.get?_push_size _ rfl, rfl, rfl⟩
  have hIl : I < (s.heap.push { cls := .type "list_iterator", data := .fields #[.ref l, .int 0 0] }).objs.size := by obtain ⟨_, e, _⟩ := hli; exact Heap.lt_size e
  have hLI : L ≠ I := by rw [← hI]; exact Nat.ne_of_lt F.ns.lt
  have gI : g.get? I = none := by rw [← hI]; exact fresh_g F _ (Nat.le_refl _)
  have nI : ∀ p ∈ news, p.1 ≠ I := by rw [← hI]; exact fun p hp => size_ne (N p hp).1
  have F0 := F.keeps up
  have N0 : News g L _ news := N.grown up
  have ls0 : Heap.IsList _ l vs.toArray := hls.at fun o e => up _ _ e
  generalize s.heap.push { cls := .type "list_iterator", data := .fields #[.ref l, .int 0 0] } = h₀ at *
  have hne : l ≠ I := nI _ hl
  have kF : ∀ {h : Heap}, (∀ b o, b ∉ [I] → h₀.get? b = some o → h.get? b = some o) → Fr g L h m := fun k => LCg.fr_but F0 k hLI gI
  have kN : ∀ {h : Heap}, (∀ b o, b ∉ [I] → h₀.get? b = some o → h.get? b = some o) → News g L h news := fun k => LCg.news_but N0 k nI
  let p : Value → Bool := fun v => @decide (∃ T q t u, v = .ref T ∧ Src g news T (tupO [.int q.1 t, .int q.2 u]) ∧ tst q = true) (Classical.propDecidable _)
  have hp : ∀ {i : Nat} {v : Value} {q : Int × Int}, vs[i]? = some v → qs[i]? = some q → p v = tst q := by
    intro i v q hv hq
    obtain ⟨T, o, hv', hT, t, u, rfl⟩ := yP.at hq
    rw [hv] at hv'
    cases hv'
    cases ht : tst q with
    | true => exact @decide_eq_true _ (Classical.propDecidable _) ⟨T, q, t, u, rfl, hT, ht⟩
    | false =>
      refine @decide_eq_false _ (Classical.propDecidable _) ?_
      rintro ⟨T', q', t', u', e, hT', ht'⟩
      cases e
      have e1 := hT.here F0 N0 fun p hp => hp
      have e2 := hT'.here F0 N0 fun p hp => hp
      rw [e1] at e2
      have e3 := Option.some.inj e2
      simp only [tupO, Obj.mk.injEq, Data.seq.injEq, Array.mk.injEq, List.cons.injEq, Value.int.injEq] at e3
      have : q = q' := by obtain ⟨a, b⟩ := q; obtain ⟨a', b'⟩ := q'; simp_all
      rw [this, ht'] at ht
      cases ht
  have hlen := yP.length
  have hqv : ∀ {i : Nat} {v : Value}, vs.toArray[i]? = some v → vs[i]? = some v ∧ ∃ q, qs[i]? = some q := by
    intro i v hv
    have hv' : vs[i]? = some v := by simpa using hv
    exact ⟨hv', _, List.getElem?_eq_getElem (by have := (List.getElem?_eq_some_iff.mp hv').1; omega)⟩
  refine comp_block_walkC (s₂ := { s with heap := h₀ }) (RR := fun acc C => compPost (model prog w) A E none Q acc C) (Walks.list hh I l hne vs.toArray) (by rw [List.size_toArray, sizeLine_eq]; omega) p (fun v y => y = v) hcell hkind hx ⟨hli, ls0⟩ (fun b hb => ?_) ⟨?_, ?_⟩ ?_
  · rcases List.mem_cons.mp hb with rfl | hb
    · exact hIl
    · rw [List.mem_singleton.mp hb]; obtain ⟨_, e, _⟩ := ls0; exact Heap.lt_size e
  · intro C i v s₃ m₃ E' hC hv hn hm hk htk
    obtain ⟨hv, q, hq⟩ := hqv hv
    obtain ⟨T, o, hv', hT, t, u, rfl⟩ := yP.at hq
    rw [hv] at hv'
    cases hv'
    obtain ⟨oC, heC, hoC⟩ := LCg.ns_obj hn
    have CL : C ≠ L := Nat.ne_of_gt (Nat.lt_of_lt_of_le F0.ns.lt hC)
    have gC : g.get? C = none := fresh_g F0 _ hC
    have N₃ := kN hk
    refine wpAny_tests_one (wpAny_mono (test i q C oC m₃ T s₃ t u E' hq hoC hm hT (kF hk) fun p hp => ?_) (fun ok s₄ y => ⟨y.1.trans (hp hv hq).symm, y.2⟩) fun _ _ e => e)
    rcases List.mem_cons.mp hp with rfl | hp
    · exact ⟨heC, CL, gC⟩
    · exact N₃ p hp
  · intro C i v s₃ m₃ E' hC hv hpv hn hm hk htk
    refine wpAny_Name (wpAny_loadName_local (m := m₃) (v := v) ?_ ?_ ?_ hm ⟨rfl, s₃.heap, s₃.toks, rfl, fun _ _ e => e⟩) hdb
    · exact hkind
    · exact lookup_relabel_local hx
    · exact hn
  · intro D C h' tk m' ys vs' hD hC hDC hn hl' hpl hlen' hP hF hk
    obtain ⟨k, hpl⟩ := hpl
    have ev : vs' = vs := List.ext_getElem? fun j => by
      cases e : vs'[j]? with
      | none =>
        have : vs.length ≤ j := by have := List.getElem?_eq_none_iff.mp e; rw [hlen', List.size_toArray] at this; exact this
        exact (List.getElem?_eq_none_iff.mpr this).symm
      | some v => simpa using (hP j v e).symm
    have ey := paired_eq hF
    rw [ev] at ey
    have F' := kF hk
    have N' := kN hk
    have DL : D ≠ L := fun e => by obtain ⟨o, _, _, eo, _⟩ := F0.ns; rw [← e, hD] at eo; cases eo
    have gD : g.get? D = none := by
      cases e : g.get? D with
      | none => rfl
      | some o => have := F0.keep _ _ e; rw [hD] at this; cases this
    refine ⟨m', hn, fun h'' hs'' => fin ys.toList k D h'' tk ?_ (F'.change hs'' (fun e => by obtain ⟨o, _, _, eo, _⟩ := F0.ns; rw [← e, hC] at eo; cases eo) ?_) fun p hp => ?_⟩
    · rw [ey]
      exact listP_filter yP p tst fun i v q hv hq => hp hv hq
    · cases e : g.get? C with
      | none => rfl
      | some o => have := F0.keep _ _ e; rw [hC] at this; cases this
    · rcases List.mem_cons.mp hp with rfl | hp
      · exact ⟨hs''.extBut _ _ hDC (by simpa using hpl), DL, gD⟩
      · refine ⟨hs''.extBut _ _ (fun e => ?_) (N' p hp).1, (N' p hp).2⟩
        have := (N0 p hp).1
        rw [e, hC] at this
        cases this
end
end RS
end

section
open PySem PySem.W PySem.Calls PyProof.Rows
open Sem (wp)
set_option maxRecDepth 100000
set_option maxHeartbeats 0
set_option linter.unusedVariables false
namespace RS
theorem LLP.mono2 {P P' : Addr → Obj → Prop} {us : List Value} {rss : List (List (Int × Int))} (x : LLP P us rss) (k : ∀ a o, (∀ c, o.data ≠ .cell c) → P a o → P' a o) : LLP P' us rss := by
  induction x with
  | nil => exact .nil
  | cons e y _ ih => exact .cons (k _ _ (fun c h => by cases h) e) (y.mono fun a o q ⟨_, _, _, r⟩ => k a o (fun c h => by subst r; cases h) q) ih
section
variable {prog : Program} {w : World} {A : Around} {E : Value → Shared → Prop} {s : Shared} {g : Heap} {L : Addr} {m : Str → Option Value} {env : Env}
theorem compRest_mono {elt : Expr} {x : Str} {scope : Scope} {cl : List (Str × Addr)} {S : List (Addr × Obj) → Prop} {P : Nat → Value → Prop} {Fin Fin' : List Value → List (Addr × Obj) → Prop} (hf : ∀ ys nw, Fin ys nw → Fin' ys nw) :
    ∀ k i ys nw, LCg.CompRest prog w A g L m env elt x scope cl s S P Fin k i ys nw → LCg.CompRest prog w A g L m env elt x scope cl s S P Fin' k i ys nw := by
  intro k
  induction k with
  | zero => exact fun i ys nw h => hf ys nw h
  | succ k ih =>
    intro i ys nw h
    refine LCg.CompRest.succ fun v I oI C oC D m₂ h₁ tk E' hP hC hx F N off ne => ?_
    refine wpAny_mono (h v I oI C oC D m₂ h₁ tk E' hP hC hx F N off ne) (fun y s₂ hq => ?_) fun _ _ e => e
    obtain ⟨h', tk', nw', e, F', N', off', hS, hj⟩ := hq
    exact ⟨h', tk', nw', e, F', N', off', hS, ih _ _ _ hj⟩
/-- x = [.. for .. in a list]: the source of the items -/
theorem comp_src_ro {l : Addr} {vs : List Value} {n : Nat} {elt : PySem.Expr} {x y : Str} {scope : Scope} {cl : List (Str × Addr)} {news : List (Addr × Obj)} {Q : Flow → Shared → Prop}
    (hh : A.handled = none) (hsz : vs.length ≤ 100000) (F : Fr g L s.heap m) (N : News g L s.heap news) (hl : (l, W.listOf (List.toArray vs) n) ∈ news)
    (Rel : Nat → List Value → (Addr → Obj → Prop) → Prop) (hmono : ∀ i ys P P', (∀ a o, P a o → P' a o) → Rel i ys P → Rel i ys P') (r0 : Rel 0 [] (Src g news))
    (turn : ∀ i v I oI C oC D m₂ ys Z h tk (E' : Value → Shared → Prop), vs[i]? = some v → Rel i ys (Src g (news ++ Z)) → LCg.NsObj oC m₂ → m₂ x = some v → Fr g L h m → News g L h ((I, oI) :: (C, oC) :: (D, LCg.lst ys) :: (news ++ Z)) →
      wpAny (model prog w) A (eval elt (compEnvC scope cl C env)) (CompStay g (news ++ Z) { s with heap := h, toks := tk } (fun y => Rel (i + 1) (ys ++ [y]))) E' { s with heap := h, toks := tk })
    (fin : ∀ ys Z D h tk, Rel vs.length ys (Src g (news ++ Z)) → Fr g L h (fun z => if z = y then some (.ref D) else m z) → News g L h ((D, LCg.lst ys) :: (news ++ Z)) → Q .next { s with heap := h, toks := tk }) :
    LCg.CompSrc prog w A g L m env elt x scope cl (fun s₂ => LCg.FinA g L m s₂ y Q) (.ref l) s := by
  refine LCg.CompSrc.ledger hh F N hl (by rw [List.size_toArray, sizeLine_eq]; omega) fun g₁ => ?_
  have J0 : ∃ Z, news = news ++ Z ∧ Rel 0 [] (Src g (news ++ Z)) := ⟨[], (List.append_nil _).symm, by rw [List.append_nil]; exact r0⟩
  refine compRest_mono ?_ _ _ _ _ (rest_of (n := vs.toArray.size) (fun i ys nw => ∃ Z, nw = news ++ Z ∧ Rel i ys (Src g (news ++ Z))) ?_ vs.toArray.size 0 [] news (Nat.zero_add _) J0)
  · rintro ys nw ⟨Z, rfl, r⟩ D h tk F N _
    rw [List.size_toArray] at r
    exact fin ys Z D h tk r F N
  · rintro i v I oI C oC D m₂ ys nw h tk E' hi hv ⟨Z, rfl, hr⟩ hC hx F N off ne
    refine comp_turn (Rel := fun y => Rel (i + 1) (ys ++ [y])) F N off (fun Z' => .inr ⟨_, List.mem_append_left _ hl, rfl, _, rfl⟩) (fun y => hmono _ _) (fun y Z' r => ⟨Z', rfl, r⟩) (turn i v I oI C oC D m₂ ys Z h tk E' (by simpa using hv) hr hC hx F N)
end
end RS
end

section
open PySem PySem.W PySem.Calls PyProof.Rows
open Sem (wp)
set_option maxRecDepth 100000
set_option maxHeartbeats 0
set_option linter.unusedVariables false
namespace RS
/-! picking out of a list by places: short proofs that a ledger's facts stand in another order -/
def nthO {α : Type} : List α → Nat → Option α
  | [], _ => none
  | a :: _, 0 => some a
  | _ :: r, n + 1 => nthO r n
def dropL {α : Type} : Nat → List α → List α
  | 0, r => r
  | _ + 1, [] => []
  | n + 1, _ :: r => dropL n r
def pickL {α : Type} (old : List α) : List Nat → Nat → List α
  | [], k => dropL k old
  | i :: is, k => match nthO old i with
    | some a => a :: pickL old is k
    | none => pickL old is k
theorem nthO_mem {α : Type} {a : α} : ∀ {l : List α} {i : Nat}, nthO l i = some a → a ∈ l
  | [], _, h => nomatch h
  | b :: r, 0, h => by cases h; exact .head _
  | b :: r, n + 1, h => .tail _ (nthO_mem (l := r) (i := n) h)
theorem dropL_mem {α : Type} {a : α} : ∀ {n : Nat} {l : List α}, a ∈ dropL n l → a ∈ l
  | 0, _, h => h
  | _ + 1, [], h => nomatch h
  | n + 1, _ :: r, h => .tail _ (dropL_mem (n := n) h)
theorem pick_mem {α : Type} {old : List α} {k : Nat} : ∀ {is : List Nat} {a : α}, a ∈ pickL old is k → a ∈ old
  | [], a, h => dropL_mem h
  | i :: is, a, h => by
    unfold pickL at h
    cases e : nthO old i with
    | none => rw [e] at h; exact pick_mem (is := is) h
    | some b =>
      rw [e] at h
      rcases List.mem_cons.mp h with rfl | h
      · exact nthO_mem e
      · exact pick_mem (is := is) h
theorem news_pick {g h : Heap} {L : Addr} {old new : List (Addr × Obj)} (N : News g L h old) (is : List Nat) (k : Nat) (e : pickL old is k = new) : News g L h new := by
  subst e; exact fun p hp => N p (pick_mem hp)
theorem pick_off {a : Nat} {old new : List Nat} (h : a ∉ old) (is : List Nat) (k : Nat) (e : pickL old is k = new) : a ∉ new := by
  subst e; exact fun q => h (pick_mem q)
theorem nthO_inj {a : Nat} : ∀ {l : List Nat} {i j : Nat}, l.Nodup → nthO l i = some a → nthO l j = some a → i = j
  | [], _, _, _, h, _ => nomatch h
  | b :: r, 0, 0, _, _, _ => rfl
  | b :: r, 0, j + 1, nd, h, h' => by cases h; exact absurd (nthO_mem (l := r) h') (List.nodup_cons.mp nd).1
  | b :: r, i + 1, 0, nd, h, h' => by cases h'; exact absurd (nthO_mem (l := r) h) (List.nodup_cons.mp nd).1
  | b :: r, i + 1, j + 1, nd, h, h' => congrArg (· + 1) (nthO_inj (l := r) (List.nodup_cons.mp nd).2 h h')
theorem dropL_all {α : Type} : ∀ l : List α, dropL l.length l = []
  | [] => rfl
  | _ :: r => dropL_all r
theorem pick_at {old : List Nat} : ∀ {is : List Nat} {a : Nat}, a ∈ pickL old is old.length → ∃ i ∈ is, nthO old i = some a
  | [], a, h => by unfold pickL at h; rw [dropL_all] at h; cases h
  | i :: is, a, h => by
    unfold pickL at h
    cases e : nthO old i with
    | none =>
      rw [e] at h
      obtain ⟨j, hj, e'⟩ := pick_at (is := is) h
      exact ⟨j, .tail _ hj, e'⟩
    | some b =>
      rw [e] at h
      rcases List.mem_cons.mp h with rfl | h
      · exact ⟨i, .head _, e⟩
      · obtain ⟨j, hj, e'⟩ := pick_at (is := is) h
        exact ⟨j, .tail _ hj, e'⟩
theorem nodup_pickL {old : List Nat} (nd : old.Nodup) : ∀ {is : List Nat}, is.Nodup → (pickL old is old.length).Nodup
  | [], _ => by unfold pickL; rw [dropL_all]; exact List.nodup_nil
  | i :: is, h => by
    obtain ⟨h1, h2⟩ := List.nodup_cons.mp h
    unfold pickL
    cases e : nthO old i with
    | none => exact nodup_pickL nd h2
    | some b =>
      refine List.nodup_cons.mpr ⟨fun q => ?_, nodup_pickL nd h2⟩
      obtain ⟨j, hj, e'⟩ := pick_at q
      exact h1 (nthO_inj nd e e' ▸ hj)
theorem nodup_pick {old new : List Nat} (nd : old.Nodup) (is : List Nat) (h : is.Nodup) (e : pickL old is old.length = new) : new.Nodup := e ▸ nodup_pickL nd h

/-- what is new behind the entry was new ahead of it -/
theorem fresh_at {h g h₁ : Heap} {L I : Addr} {m : Str → Option Value} {news : List (Addr × Obj)} (kb : KeepBut (news.map (·.1)) h g) (F : Fr g L h₁ m) (N : News g L h₁ news) (e : h₁.get? I = none) : h.get? I = none := by
  cases q : h.get? I with
  | none => rfl
  | some o =>
    exfalso
    by_cases mm : I ∈ news.map (·.1)
    · obtain ⟨p, hp, rfl⟩ := List.mem_map.mp mm
      rw [(N p hp).1] at e; cases e
    · have := F.keep _ _ (kb I o mm q)
      rw [e] at this; cases this

/-! a ledger whose addresses differ, as it grows -/
theorem nodup_one (a : Nat) : [a].Nodup := List.nodup_cons.mpr ⟨List.not_mem_nil, List.nodup_nil⟩
theorem nodup_new {D : Nat} {news : List (Addr × Obj)} {as : List Nat} (nd : as.Nodup) (e : news.map (·.1) = as) (h : ∀ p ∈ news, @LT.lt Nat _ p.1 D) : (D :: as).Nodup := by
  subst e
  refine List.nodup_cons.mpr ⟨fun q => ?_, nd⟩
  obtain ⟨p, hp, e⟩ := List.mem_map.mp q
  exact absurd (h p hp) (e ▸ Nat.lt_irrefl _)
theorem nodup_set {g h : Heap} {L x d l : Addr} {m : Str → Option Value} {news : List (Addr × Obj)} {as : List Nat} (nd : as.Nodup) (e : news.map (·.1) = as) (F : Fr g L h m) (N : News g L h news) (fr : h.get? x = none ∧ h.get? d = none ∧ h.get? l = none) (ap : (@Ne Nat x d) ∧ (@Ne Nat x l) ∧ (@Ne Nat d l)) :
    (x :: d :: l :: as : List Nat).Nodup := by
  subst e
  have key : ∀ b, h.get? b = none → b ∉ news.map (·.1) := fun b hb q => by
    obtain ⟨p, hp, e⟩ := List.mem_map.mp q
    have := (N p hp).1
    rw [e, hb] at this; cases this
  refine List.nodup_cons.mpr ⟨fun q => ?_, List.nodup_cons.mpr ⟨fun q => ?_, List.nodup_cons.mpr ⟨key l fr.2.2, nd⟩⟩⟩
  · rcases List.mem_cons.mp q with e | q
    · exact ap.1 e
    · rcases List.mem_cons.mp q with e | q
      · exact ap.2.1 e
      · exact key x fr.1 q
  · rcases List.mem_cons.mp q with e | q
    · exact ap.2.2 e
    · exact key d fr.2.1 q
def pickN {α : Type} (old : List α) : List Nat → List α
  | [] => []
  | i :: is => match nthO old i with
    | some a => a :: pickN old is
    | none => pickN old is
theorem pickN_mem {α : Type} {old : List α} : ∀ {is : List Nat} {a : α}, a ∈ pickN old is → a ∈ old
  | [], a, h => nomatch h
  | i :: is, a, h => by
    unfold pickN at h
    cases e : nthO old i with
    | none => rw [e] at h; exact pickN_mem (is := is) h
    | some b =>
      rw [e] at h
      rcases List.mem_cons.mp h with rfl | h
      · exact nthO_mem e
      · exact pickN_mem (is := is) h
theorem pickN_sub {α : Type} {old new : List α} (is : List Nat) (e : pickN old is = new) : ∀ a ∈ new, a ∈ old := by
  subst e; exact fun a q => pickN_mem q
theorem off_ne {d : Nat} {l : List (Addr × Obj)} (h : ∀ p ∈ l, @Ne Nat p.1 d) (is : List Nat) {as : List Nat} (e : (pickN l is).map (·.1) = as) : d ∉ as := by
  subst e
  intro q
  obtain ⟨p, hp, e⟩ := List.mem_map.mp q
  exact h p (pickN_mem hp) e
def takeL {α : Type} : Nat → List α → List α
  | 0, _ => []
  | _ + 1, [] => []
  | n + 1, a :: r => a :: takeL n r
theorem take_or_drop {α : Type} {a : α} : ∀ {n : Nat} {l : List α}, a ∈ l → a ∈ takeL n l ∨ a ∈ dropL n l
  | 0, _, h => .inr h
  | _ + 1, [], h => .inr h
  | n + 1, b :: r, h => by
    rcases List.mem_cons.mp h with rfl | h
    · exact .inl (.head _)
    · exact (take_or_drop (n := n) h).imp (fun q => .tail _ q) id
/-- a ledger's head and its rest are off an address -/
theorem ne_led {d : Nat} {l Z : List (Addr × Obj)} {as bs : List Nat} (n i : Nat) (h : d ∉ as) (e : (takeL n l).map (·.1) = as) (ez : dropL n l = Z) (hz : ∀ p ∈ Z, p.1 ∉ bs) (eb : nthO bs i = some d) : ∀ p ∈ l, @Ne Nat p.1 d := by
  subst e ez
  intro p hp q
  rcases take_or_drop (n := n) hp with hp | hp
  · exact h (q ▸ List.mem_map_of_mem hp)
  · exact hz p hp (q ▸ nthO_mem eb)
theorem off3n {x d l : Nat} {as : List Nat} (h : (x :: d :: l :: as).Nodup) : ∀ a ∈ as, a ∉ [x, d, l] := by
  intro a ha hm
  obtain ⟨h1, h2⟩ := List.nodup_cons.mp h
  obtain ⟨h2, h3⟩ := List.nodup_cons.mp h2
  obtain ⟨h3, _⟩ := List.nodup_cons.mp h3
  simp only [List.mem_cons, List.not_mem_nil, or_false] at hm
  rcases hm with rfl | rfl | rfl
  · exact h1 (.tail _ (.tail _ ha))
  · exact h2 (.tail _ ha)
  · exact h3 ha
theorem allC {α : Type} {P : α → Prop} {a : α} {l : List α} (h : P a) (r : ∀ b ∈ l, P b) : ∀ b ∈ a :: l, P b := List.forall_mem_cons.mpr ⟨h, r⟩
theorem allN {α : Type} {P : α → Prop} : ∀ b ∈ ([] : List α), P b := fun _ h => nomatch h
end RS
end

section
open PySem PySem.W PyProof.Rows
namespace L2H
open_top hd for PySem.Challenge.rw_lg0001_02

end L2H
end

section
open PySem PySem.W PySem.Calls PyProof.Rows RS
open PySem.SeqAt
local macro_rules | `(tactic| walk) => `(tactic| repeat' (first | (k_unfold; (try dsimp only)) | ((fail_if_success (with_reducible (apply stopped; constructor))); (first | walk1 | (dsimp only; walk1)))))
local macro_rules | `(tactic| walk_at "call builtin:len") => `(tactic| (k_here; (with_reducible show wpAny _ _ (call (Value.builtin _) [Value.ref _]) _ _ _); k_dflt (refine' RS.rs_len ?k1 ?k2 ?k3 ?_; (case k1 => k_asm); (case k2 => k_mem); (case k3 => omega); k_whole)))
local macro_rules | `(tactic| walk_at "compareOp In int ref") => `(tactic| (k_here; k_dflt (refine' in_range ?k1 ?_; (case k1 => first | assumption | exact Fr.keep (by assumption) _ _ (by assumption)); k_whole)))
local macro_rules | `(tactic| walk_at "getAttr ref") => `(tactic| (k_here; k_dflt ((first | ((with_reducible show wpAny _ _ (getAttr _ (PySem.Str.ofString "start") _) _ _ _); refine' rs_start ?k1 ?_) | ((with_reducible show wpAny _ _ (getAttr _ (PySem.Str.ofString "stop") _) _ _ _); refine' rs_stop ?k1 ?_) | ((with_reducible show wpAny _ _ (getAttr _ (PySem.Str.ofString "step") _) _ _ _); refine' rs_step ?k1 ?_)); (case k1 => first | with_reducible assumption | exact News.get (by assumption) (by k_mem) | exact Fr.keep (by assumption) _ _ (by with_reducible assumption) | exact Src.here (by with_reducible assumption) (by assumption) (by assumption) (by (intro p hp; simp [hp]))); k_whole)))
local macro_rules | `(tactic| walk_at "call type:range") => `(tactic| (k_here; (with_reducible show wpAny _ _ (call (Value.type _) [Value.int _ _, Value.int _ _]) _ _ _); k_dflt (refine' rs_range ?k1 ?k2 ?_; (case k1 => k_asm); (case k2 => k_asm); k_whole); intro r' h' v' tk' F' N' l1; (try k_lt l1); (try k_sweep)))
local macro_rules | `(tactic| k_units) => `(tactic| (simp only [units_in1, units_deeper, cLine]; omega))

local macro_rules | `(tactic| walk_at "call type:enumerate") => `(tactic| fail "by hand")
local macro_rules | `(tactic| walk_at "call builtin:min") => `(tactic| (k_here; (with_reducible show wpAny _ _ (call (Value.builtin _) [Value.int _ _, Value.int _ _]) _ _ _); k_dflt ((first | refine' rs_min ?k1 ?k2 ?k3 ?_ | refine' rs_max ?k1 ?k2 ?k3 ?_); (case k1 => assumption); (case k2 => k_asm); (case k3 => k_asm); k_whole); intro h' tk' t' F' N'; (try k_sweep)))
local macro_rules | `(tactic| walk_at "call builtin:max") => `(tactic| walk_at "call builtin:min")
local macro_rules | `(tactic| k_all) => `(tactic| assumption)
local macro_rules | `(tactic| k_steps) => `(tactic| repeat' (first | (k_unfold; (try dsimp only)) | ((fail_if_success (with_reducible (apply stoppedN; constructor))); (fail_if_success (with_reducible (apply stopped; constructor))); (first | walk1 | (dsimp only; walk1)))))

section
open PySem PySem.W PySem.Calls PyProof.Rows RS
open PySem.SeqAt
set_option maxRecDepth 100000
set_option maxHeartbeats 0
set_option linter.unusedVariables false
namespace L2
theorem warm_base : (fun (_ : OpenLaw) (_ : Params → Frag) => True) PySem.Challenge.rw_lg0001_02 L2H.hd.heap_39 := by w_top off; k_fill; trivial
section
variable {prog : Program} {w : World} {A : Around} {E : Value → Shared → Prop} {s : Shared} {base : Heap} {p : Program} {loose : List Str} {mean : ExcName → Option Value} {mg mb : Str → Option Value}
abbrev rdict (P : Params) (l : Addr) (t : Tok) : Obj := dictOf [⟨PyData.keyHash P (Str.ofString "_RangeSet__ranges"), .str (Str.ofString "_RangeSet__ranges") t, .ref l⟩] 1

structure RSAt (P : Params) (base h : Heap) (x d l : Addr) (its : List Value) (n : Nat) (t : Tok) : Prop where
  inst : h.get? x = some (instObj 118 d)
  dict : h.get? d = some (rdict P l t)
  list : h.get? l = some (listOf its.toArray n)
  nx : base.get? x = none
  nd : base.get? d = none
  nl : base.get? l = none

theorem RSAt.apart {P : Params} {base h : Heap} {x d l : Addr} {its : List Value} {n : Nat} {t : Tok} (r : RSAt P base h x d l its n t) : (@Ne Nat x d) ∧ (@Ne Nat x l) ∧ (@Ne Nat d l) := by
  refine ⟨fun e => ?_, fun e => ?_, fun e => ?_⟩
  · have h1 := r.inst; rw [e, r.dict] at h1; simp at h1
  · have h1 := r.inst; rw [e, r.list] at h1; simp at h1
  · have h1 := r.dict; rw [e, r.list] at h1; simp at h1

theorem rs_news {P : Params} {base h : Heap} {x d l : Addr} {its : List Value} {n : Nat} {t : Tok} (r : RSAt P base h x d l its n t) :
    ∀ q ∈ ([(x, instObj 118 d), (d, rdict P l t), (l, listOf its.toArray n)] : List (Addr × Obj)), h.get? q.1 = some q.2 ∧ base.get? q.1 = none := by
  intro q hq
  simp only [List.mem_cons, List.not_mem_nil, or_false] at hq
  rcases hq with rfl | rfl | rfl
  · exact ⟨r.inst, r.nx⟩
  · exact ⟨r.dict, r.nd⟩
  · exact ⟨r.list, r.nl⟩

theorem rngs_ground {P : Params} {base h g : Heap} {x d l : Addr} {its : List Value} {n : Nat} {t : Tok} {vs : List Value} {rs : List (Int × Int)} (r : RSAt P base h x d l its n t) (y : Rngs h vs rs)
    (k : KeepBut (([(x, instObj 118 d), (d, rdict P l t), (l, listOf its.toArray n)] : List (Addr × Obj)).map (·.1)) h g) : Rngs g vs rs :=
  y.keeps fun b lo hi t1 t2 t3 e => k b _ (fun hm => by
    simp only [List.map_cons, List.map_nil, List.mem_cons, List.not_mem_nil, or_false] at hm
    rcases hm with rfl | rfl | rfl
    · rw [r.inst] at e; simp at e
    · rw [r.dict] at e; simp at e
    · rw [r.list] at e; simp at e) e


end
end L2
end

section
open PySem PySem.W PySem.Calls PyProof.Rows RS
open PySem.SeqAt
set_option maxRecDepth 100000
set_option maxHeartbeats 0
set_option linter.unusedVariables false
namespace L2
theorem warm_ro : (fun (_ : OpenLaw) (_ : Params → Frag) => True) PySem.Challenge.rw_lg0001_02 L2H.hd.heap_39 := by w_top off; k_fill; trivial
section
variable {prog : Program} {w : World} {A : Around} {E : Value → Shared → Prop} {s : Shared} {base : Heap} {p : Program} {loose : List Str} {mean : ExcName → Option Value} {mg mb : Str → Option Value}
theorem len_spec {x d l : Addr} {its : List Value} {n : Nat} {t : Tok} {Q : Value → Shared → Prop} (hb : base.StaysIn s.heap) (X : (L2H.hd.heap_39 w.params).In base) (T : Top p loose mean mg mb base)
    (r : RSAt w.params base s.heap x d l its n t) (hA : A.depth < 800) (hz : its.length ≤ 100000)
    (h : ∀ h' tk u, s.heap.StaysIn h' → Q (.int its.length u) { s with heap := h', toks := tk }) :
    wpAny (model prog w) A (call (.ref 108) [.ref x]) Q E s := by
  refine call_code (enterK _ hb X T (rs_news r) (by k_is) (by k_is) (Nat.lt_of_lt_of_le hA (by decide)) (BindsTo.of_eq (binds := [(Str.ofString "self", .ref x)]) rfl) (locs rfl) ?_ rfl rfl rfl (by decide))
  intro g L h₁ F N Xg Tg sg kb lt
  walk
  exact h _ _ _ (stays_all (rs_news r) kb F.keep (news_cons N (by k_mem) (news_cons N (by k_mem) (news_cons N (by k_mem) News.nil))))

theorem contains_spec {x d l : Addr} {its : List Value} {n : Nat} {t : Tok} {rs : List (Int × Int)} {Q : Value → Shared → Prop} (hb : base.StaysIn s.heap) (X : (L2H.hd.heap_39 w.params).In base) (T : Top p loose mean mg mb base)
    (r : RSAt w.params base s.heap x d l its n t) (y : Rngs s.heap its rs) (hA : A.depth < 800) (hh : A.handled = none) {v : Int} {tv : Tok}
    (h : ∀ h' tk, s.heap.StaysIn h' → Q (.bool (rs.any fun q => decide (q.1 ≤ v) && decide (v < q.2))) { s with heap := h', toks := tk }) :
    wpAny (model prog w) A (call (.ref 80) [.ref x, .int v tv]) Q E s := by
  refine call_code (enterK _ hb X T (rs_news r) (by k_is) (by k_is) (Nat.lt_of_lt_of_le hA (by decide)) (BindsTo.of_eq (binds := [(Str.ofString "self", .ref x), (Str.ofString "val", .int v tv)]) rfl) (locs rfl) ?_ rfl rfl rfl (by decide))
  intro g L h₁ F N Xg Tg sg kb lt
  have yg := rngs_ground r y kb
  walk
  refine wpAny_For ?_
  walk
  rename Fr _ _ _ _ => F
  refine for_list (fix := [(l, listOf its.toArray n)]) hh rfl rfl ⟨_, N.get (by k_mem), rfl, _, rfl⟩ (Nat.ne_of_lt (lt (l, listOf its.toArray n) (by k_mem))) (.inr ⟨_, .head _⟩) F N
    (fun i m' news' => (∃ u, m' = (fun y => if y = Str.ofString "r" then u else List.lookup y [(Str.ofString "self", Value.ref x), (Str.ofString "val", Value.int v tv)].reverse)) ∧ news' = [(x, instObj 118 d), (d, rdict w.params l t), (l, listOf its.toArray n)] ∧ ∀ q ∈ rs.take i, (decide (q.1 ≤ v) && decide (v < q.2)) = false) ?_ ⟨⟨_, map_self⟩, rfl, by simp⟩ ?_ ?_
  · rintro i m' news' ⟨_, rfl, _⟩ q hq
    rw [List.mem_singleton.mp hq]; k_mem
  · rintro i e I oI m' news' h₂ tk _ hi ⟨⟨u, rfl⟩, rfl, hno⟩ hlt off F N
    obtain ⟨a, lo, hi', t1, t2, t3, rfl, hr, ha⟩ := yg.get hi
    have ha' := F.keep _ _ ha
    walk
    · rename _ = true => hyes
      show Q (.bool true) _
      have e : (rs.any fun q => decide (q.1 ≤ v) && decide (v < q.2)) = true := List.any_eq_true.mpr ⟨_, List.mem_of_getElem? hr, hyes⟩
      rw [← e]
      exact h _ _ (stays_all (rs_news r) kb F.keep (news_cons N (by k_mem) (news_cons N (by k_mem) (news_cons N (by k_mem) News.nil))))
    · rename _ = false => hnot
      refine ⟨_, _, _, _, rfl, F, N, off, ⟨_, map_over⟩, rfl, fun q hq => ?_⟩
      rw [List.take_add_one, hr] at hq
      rcases List.mem_append.mp hq with hq | hq
      · exact hno q hq
      · simp at hq; subst hq; exact hnot
  · rintro m' news' h₂ tk ⟨⟨u, rfl⟩, rfl, hno⟩ F N
    walk
    have e : (rs.any fun q => decide (q.1 ≤ v) && decide (v < q.2)) = false := by
      rw [y.length, List.take_length] at hno
      exact List.any_eq_false.mpr fun q hq => by rw [hno q hq]; simp
    rw [← e]
    exact h _ _ (stays_all (rs_news r) kb F.keep (news_cons N (by k_mem) (news_cons N (by k_mem) (news_cons N (by k_mem) News.nil))))


end
end L2
end

section
open PySem PySem.W PySem.Calls PyProof.Rows RS
open PySem.SeqAt
set_option maxRecDepth 100000
set_option maxHeartbeats 0
set_option linter.unusedVariables false
namespace L2
theorem warm_ro3 : (fun (_ : OpenLaw) (_ : Params → Frag) => True) PySem.Challenge.rw_lg0001_02 L2H.hd.heap_39 := by w_top off; k_fill; trivial
section
variable {prog : Program} {w : World} {A : Around} {E : Value → Shared → Prop} {s : Shared} {base : Heap} {p : Program} {loose : List Str} {mean : ExcName → Option Value} {mg mb : Str → Option Value}
theorem iter_spec {x d l : Addr} {its : List Value} {n : Nat} {t : Tok} {Q : Value → Shared → Prop} (hb : base.StaysIn s.heap) (X : (L2H.hd.heap_39 w.params).In base) (T : Top p loose mean mg mb base)
    (r : RSAt w.params base s.heap x d l its n t) (hA : A.depth < 800) 
    (h : ∀ h' tk I, s.heap.StaysIn h' → s.heap.get? I = none → h'.IsListIter I l 0 → Q (.ref I) { s with heap := h', toks := tk }) :
    wpAny (model prog w) A (call (.ref 101) [.ref x]) Q E s := by
  refine call_code (enterK _ hb X T (rs_news r) (by k_is) (by k_is) (Nat.lt_of_lt_of_le hA (by decide)) (BindsTo.of_eq (binds := [(Str.ofString "self", .ref x)]) rfl) (locs rfl) ?_ rfl rfl rfl (by decide))
  intro g L h₁ F N Xg Tg sg kb lt
  walk
  refine rs_iter F N (by k_mem) ?_
  intro I h' oI F' N' l1 hs hI
  exact h _ _ I (stays_all (rs_news r) kb F'.keep (news_mono N' fun p hp => .tail _ hp)) (fresh_all kb F N hs) hI

end
end L2
end

section
open PySem PySem.W PySem.Calls PyProof.Rows RS
open PySem.SeqAt
set_option maxRecDepth 100000
set_option maxHeartbeats 0
set_option linter.unusedVariables false
namespace L2
theorem warm_ro4 : (fun (_ : OpenLaw) (_ : Params → Frag) => True) PySem.Challenge.rw_lg0001_02 L2H.hd.heap_39 := by w_top off; k_fill; trivial
section
variable {prog : Program} {w : World} {A : Around} {E : Value → Shared → Prop} {s : Shared} {base : Heap} {p : Program} {loose : List Str} {mean : ExcName → Option Value} {mg mb : Str → Option Value}
theorem eq_spec {x d l x' d' l' : Addr} {its its' : List Value} {n n' : Nat} {t t' : Tok} {rs rs' : List (Int × Int)} {Q : Value → Shared → Prop} (hb : base.StaysIn s.heap) (X : (L2H.hd.heap_39 w.params).In base) (T : Top p loose mean mg mb base)
    (r : RSAt w.params base s.heap x d l its n t) (r' : RSAt w.params base s.heap x' d' l' its' n' t') (y : Rngs s.heap its rs) (y' : Rngs s.heap its' rs') (hp : RS.Pos rs) (hp' : RS.Pos rs') (hA : A.depth < 800) (hu : A.units < 5000)
    (h : ∀ h' tk, s.heap.StaysIn h' → Q (.bool (decide (rs = rs'))) { s with heap := h', toks := tk }) :
    wpAny (model prog w) A (call (.ref 87) [.ref x, .ref x']) Q E s := by
  have N₀ : ∀ q ∈ ([(x, instObj 118 d), (d, rdict w.params l t), (l, listOf its.toArray n), (x', instObj 118 d'), (d', rdict w.params l' t'), (l', listOf its'.toArray n')] : List (Addr × Obj)), s.heap.get? q.1 = some q.2 ∧ base.get? q.1 = none := by
    intro q hq
    rcases List.mem_append.mp (show q ∈ [(x, instObj 118 d), (d, rdict w.params l t), (l, listOf its.toArray n)] ++ [(x', instObj 118 d'), (d', rdict w.params l' t'), (l', listOf its'.toArray n')] from hq) with hq | hq
    · exact rs_news r q hq
    · exact rs_news r' q hq
  refine call_code (enterK _ hb X T N₀ (by k_is) (by k_is) (Nat.lt_of_lt_of_le hA (by decide)) (BindsTo.of_eq (binds := [(Str.ofString "self", .ref x), (Str.ofString "other", .ref x')]) rfl) (locs rfl) ?_ rfl rfl rfl (by decide))
  intro g L h₁ F N Xg Tg sg kb lt
  have st := stays_all N₀ kb F.keep N
  walk
  refine cmp_ofEq (rcAt_rngs (its := its) (its' := its') ⟨_, N.get (by k_mem), rfl, _, rfl⟩ ⟨_, N.get (by k_mem), rfl, _, rfl⟩ (y.keeps fun b _ _ _ _ _ e => st b _ e) (y'.keeps fun b _ _ _ _ _ e => st b _ e) hp hp' ?_ prog w _ _ ?_)
  · simp only [units_deeper, cLine]; omega
  · exact h _ _ st

end
end L2
end

section
open PySem PySem.W PySem.Calls PyProof.Rows RS
open PySem.SeqAt
set_option maxRecDepth 100000
set_option maxHeartbeats 0
set_option linter.unusedVariables false
namespace L2
theorem warm_addb : (fun (_ : OpenLaw) (_ : Params → Frag) => True) PySem.Challenge.rw_lg0001_02 L2H.hd.heap_39 := by w_top off; k_fill; trivial
section
variable {prog : Program} {w : World} {A : Around} {E : Value → Shared → Prop} {s : Shared} {base : Heap} {p : Program} {loose : List Str} {mean : ExcName → Option Value} {mg mb : Str → Option Value}
theorem add_body {body : List Stmt} {env : Env} {g : Heap} {L f : Addr} {cd : Value} {m₀ : Str → Option Value} {x d l : Addr} {its : List Value} {n : Nat} {t : Tok} {rs : List (Int × Int)} {Q : Flow → Shared → Prop} {a b : Int} {ta tb : Tok}
    (hex : body = dropS 2 (fnBody (L2H.hd.heap_39 w.params) 45)) (henv : env = envOf (Str.ofString "RangeSet.add") (fnScope (L2H.hd.heap_39 w.params) 45) L f cd) (Xg : (L2H.hd.heap_39 w.params).In g) (Tg : Top p loose mean mg mb g)
    (F : Fr g L s.heap (fun y => (if y = Str.ofString "stop" then some (Value.int b tb) else if y = Str.ofString "start" then some (Value.int a ta) else if y = Str.ofString "self" then some (Value.ref x) else m₀ y)))
    (N : News g L s.heap [(x, instObj 118 d), (d, rdict w.params l t), (l, listOf its.toArray n)]) (yg : Rngs g its rs) (lt : ∀ q ∈ [(x, instObj 118 d), (d, rdict w.params l t), (l, listOf its.toArray n)], q.1 < L) (hh : A.handled = none) (hz : its.length ≤ 50000) (hab : a < b) (n1 : @Ne Nat x d) (n2 : @Ne Nat x l) (n3 : @Ne Nat d l)
    (h : ∀ h' tk its' n' fl, (fl = .next ∨ fl = .ret .none) → (∃ m, Fr g L h' m) → News g L h' [(x, instObj 118 d), (d, rdict w.params l t), (l, listOf (List.toArray its') n')] → Rngs h' its' (addL a b rs) → Q fl { s with heap := h', toks := tk }) :
    wpAny (model prog w) (A.deeper env) (execs body env) Q (fun _ _ => False) s := by
  subst hex henv
  obtain ⟨hb, hs⟩ := fn_of (K := L2H.hd.heap_39 w.params) (a := 45) (by k_is)
  rw [hb, hs]
  clear hb hs
  dsimp only [dropS]
  walk
  refine wpAny_For ?_
  walk
  rename Fr _ _ _ _ => F
  refine rs_enum F N (by k_mem) ?_
  intro e it h₂ F N hE hI hne offA
  refine for_enum (fix := [(l, listOf its.toArray n)]) hh rfl rfl rfl ⟨_, N.get (by k_mem), rfl, _, rfl⟩ hE hI (Nat.ne_of_lt (lt (l, listOf its.toArray n) (by k_mem))) hne.1 hne.2.1 hne.2.2.1 hne.2.2.2 (.inr ⟨_, .head _⟩) F N offA
    (fun i m' news' => (∃ u v, m' = (fun y => if y = Str.ofString "r" then v else if y = Str.ofString "i" then u else (if y = Str.ofString "stop" then some (Value.int b tb) else if y = Str.ofString "start" then some (Value.int a ta) else if y = Str.ofString "self" then some (Value.ref x) else m₀ y))) ∧ news' = [(x, instObj 118 d), (d, rdict w.params l t), (l, listOf its.toArray n)] ∧ addL a b rs = rs.take i ++ addL a b (rs.drop i)) ?_ ⟨⟨_, _, map_self2⟩, rfl, by simp⟩ ?_ ?_
  · rintro i m' news' ⟨_, rfl, _⟩ q hq
    rw [List.mem_singleton.mp hq]; k_mem
  · rintro i e kk oe oi m' news' h₂ tk hi ⟨⟨u, v, rfl⟩, rfl, hadd⟩ off F N
    obtain ⟨aa, lo, hi', t1, t2, t3, rfl, hr, ha⟩ := yg.get hi
    replace F := fr_eq F map_over2
    have ha' := F.keep _ _ ha
    obtain ⟨o1, o2⟩ := off2 (off (l, listOf its.toArray n) (by k_mem))
    have hil : i < its.length := (List.getElem?_eq_some_iff.mp hi).1
    walk
    · rename Fr _ _ _ _ => F
      rename News _ _ _ _ => N
      rename _ < lo => hblo
      refine rs_insert (its := its) (n := n) F N (by omega) (by omega) (by omega) (by k_upd) (by omega) ?_
      intro h' F' N'
      walk
      show Q (.ret .none) _
      refine h _ _ _ _ (.ret .none) (.inr rfl) ⟨_, F'⟩ (news_cons N' (by k_mem) (news_cons N' (by k_mem) (news_cons N' (by k_mem) News.nil))) ?_
      rw [addL_ins hr hblo hadd, Int.toNat_natCast]
      exact ((yg.take i).keeps fun b _ _ _ _ _ e => F'.keep b _ e).append (.cons (N'.get (by k_mem)) ((yg.drop i).keeps fun b _ _ _ _ _ e => F'.keep b _ e))
    · show RTurnW _ _ _ _ _ _ _ _ _
      rename Fr _ _ _ _ => F
      rename News _ _ _ _ => N
      rename ¬ _ < lo => h1
      rename a > hi' => h2
      exact ⟨_, _, _, _, rfl, F, N, off, ⟨_, _, rfl⟩, rfl, addL_go hr h1 h2 hadd⟩
    · rename Fr _ _ _ _ => F
      rename News _ _ _ _ => N
      rename ¬ _ < lo => h1
      rename ¬ a > hi' => h2
      have hl := yg.length
      refine while_post (fun k h tk => ∃ its' rs' B tB ts n', Fr g L h (fun y => if y = Str.ofString "stop" then some (Value.int B tB) else if y = Str.ofString "start" then some (Value.int (min a lo) ts) else if y = Str.ofString "r" then some (Value.ref aa) else if y = Str.ofString "i" then some (Value.int i kk) else (if y = Str.ofString "stop" then some (Value.int b tb) else if y = Str.ofString "start" then some (Value.int a ta) else if y = Str.ofString "self" then some (Value.ref x) else m₀ y)) ∧
          News g L h [(x, instObj 118 d), (d, rdict w.params l t), (l, listOf its'.toArray n')] ∧ Rngs g its' rs' ∧ addL a b rs = rs'.take i ++ mergeL (min a lo) B (rs'.drop (i + 1)) ∧ i < its'.length ∧ its'.length ≤ 50000 ∧ k = its'.length)
        (fun h tk => ∃ its' rs' B tB ts n', Fr g L h (fun y => if y = Str.ofString "stop" then some (Value.int B tB) else if y = Str.ofString "start" then some (Value.int (min a lo) ts) else if y = Str.ofString "r" then some (Value.ref aa) else if y = Str.ofString "i" then some (Value.int i kk) else (if y = Str.ofString "stop" then some (Value.int b tb) else if y = Str.ofString "start" then some (Value.int a ta) else if y = Str.ofString "self" then some (Value.ref x) else m₀ y)) ∧
          News g L h [(x, instObj 118 d), (d, rdict w.params l t), (l, listOf its'.toArray n')] ∧ Rngs g its' rs' ∧ addL a b rs = rs'.take i ++ (min a lo, B) :: rs'.drop (i + 1) ∧ i < its'.length ∧ its'.length ≤ 50000)
        its.length ⟨its, rs, _, _, _, n, F, ?_, yg, addL_merge hr h1 h2 hadd, hil, by omega, rfl⟩ ?_ ?_
      · exact news_mono N fun p hp => .tail _ (.tail _ hp)
      · rintro k h₃ tk ⟨its', rs', B, tB, ts, n', F, N, yr, hm, hi1, hi2, rfl⟩
        have hl' := yr.length
        walk
        · rename Fr _ _ _ _ => F
          rename News _ _ _ _ => N
          have hlt1 : i + 1 < its'.length := by omega
          obtain ⟨lo2, hi2', hr2⟩ : ∃ lo2 hi2, rs'[i + 1]? = some (lo2, hi2) := ⟨_, _, List.getElem?_eq_getElem (by omega)⟩
          obtain ⟨a2, u1, u2, u3, hv2, ha2⟩ := yr.at hr2
          refine rs_item (its := its') N (by k_mem) (by omega) (by omega) (v := .ref a2) (by rw [show ((i : Int) + 1).toNat = i + 1 by omega]; exact hv2) ?_
          walk
          · rename Fr _ _ _ _ => F
            rename News _ _ _ _ => N
            rename lo2 ≤ B => hle
            refine rs_item (its := its') N (by k_mem) (by omega) (by omega) (v := .ref a2) (by rw [show ((i : Int) + 1).toNat = i + 1 by omega]; exact hv2) ?_
            walk
            rename Fr _ _ _ _ => F
            rename News _ _ _ _ => N
            refine rs_popAt (its := its') (n := n') F N (y := .ref a2) (by omega) (by omega) (by rw [show ((i : Int) + 1).toNat = i + 1 by omega]; exact hv2) (by k_upd) (by omega) ?_
            intro h' F' N'
            walk
            rename Fr _ _ _ _ => F
            rename News _ _ _ _ => N
            rw [show ((i : Int) + 1).toNat = i + 1 by omega] at N
            refine ⟨_, _, _, rfl, ?_, its'.take (i + 1) ++ its'.drop (i + 1 + 1), rs'.take (i + 1) ++ rs'.drop (i + 1 + 1), _, _, ts, _, fr_eq F map_over, N, (yr.take _).append (yr.drop _), ?_, ?_, ?_, rfl⟩
            · simp only [List.length_append, List.length_take, List.length_drop]; omega
            · rw [hm, mergeL_go hr2 hle, List.take_append_of_le_length (by simp only [List.length_take]; omega), List.take_take, Nat.min_eq_left (by omega), List.drop_append_of_le_length (by simp only [List.length_take]; omega), List.drop_take_self, List.nil_append]
            · simp only [List.length_append, List.length_take, List.length_drop]; omega
            · simp only [List.length_append, List.length_take, List.length_drop]; omega
          · rename Fr _ _ _ _ => F
            rename News _ _ _ _ => N
            rename ¬ lo2 ≤ B => hle
            refine ⟨_, _, rfl, its', rs', B, tB, ts, n', F, N, yr, ?_, hi1, hi2⟩
            rw [hm, mergeL_stop]
            intro lo3 hi3 hr3
            rw [hr2] at hr3
            obtain ⟨rfl, rfl⟩ := Prod.mk.inj (Option.some.inj hr3)
            exact hle
        · rename Fr _ _ _ _ => F
          rename News _ _ _ _ => N
          refine ⟨_, _, rfl, its', rs', B, tB, ts, n', F, N, yr, ?_, hi1, hi2⟩
          rw [hm, mergeL_stop]
          intro lo2 hi2' hr2
          have := (List.getElem?_eq_some_iff.mp hr2).1
          omega
      · rintro h₃ tk ⟨its', rs', B, tB, ts, n', F, N, yr, hm, hi1, hi2⟩
        have hl' := yr.length
        walk
        rename Fr _ _ _ _ => F
        rename News _ _ _ _ => N
        refine rs_set (its := its') (n := n') F N (by omega) (by omega) (by omega) (by k_upd) ?_
        intro h' F' N'
        walk
        show Q (.ret .none) _
        refine h _ _ _ _ (.ret .none) (.inr rfl) ⟨_, F'⟩ (news_cons N' (by k_mem) (news_cons N' (by k_mem) (news_cons N' (by k_mem) News.nil))) ?_
        rw [hm, Int.toNat_natCast, List.set_eq_take_append_cons_drop, if_pos hi1]
        exact ((yr.take i).keeps fun b _ _ _ _ _ e => F'.keep b _ e).append (.cons (N'.get (by k_mem)) ((yr.drop (i + 1)).keeps fun b _ _ _ _ _ e => F'.keep b _ e))
  · rintro m' news' h₃ tk ⟨⟨u, v, rfl⟩, rfl, hadd⟩ F N
    walk
    rename Fr _ _ _ _ => F
    rename News _ _ _ _ => N
    refine rs_append (its := its) (n := n) F N (by k_upd) (by omega) ?_
    intro h' F' N'
    walk
    refine h _ _ _ _ .next (.inl rfl) ⟨_, F'⟩ (news_cons N' (by k_mem) (news_cons N' (by k_mem) (news_cons N' (by k_mem) News.nil))) ?_
    rw [hadd, yg.length, List.take_length, List.drop_length]
    exact (yg.keeps fun b _ _ _ _ _ e => F'.keep b _ e).append (.cons (N'.get (by k_mem)) .nil)

/-- ahead of add's loop -/
def AddMid (g : Heap) (L : Addr) (news : List (Addr × Obj)) (x : Addr) (a b : Int) (ta : Tok) (s : Shared) (fl : Flow) (s' : Shared) : Prop :=
  fl = .next ∧ ∃ h' tk' m' tb, s' = { s with heap := h', toks := tk' } ∧ Fr g L h' m' ∧ News g L h' news ∧ m' (Str.ofString "self") = some (.ref x) ∧ m' (Str.ofString "start") = some (.int a ta) ∧ m' (Str.ofString "stop") = some (.int b tb)

end
end L2
end

section
open PySem PySem.W PySem.Calls PyProof.Rows RS
open PySem.SeqAt
set_option maxRecDepth 100000
set_option maxHeartbeats 0
set_option linter.unusedVariables false
namespace L2
theorem warm_add : (fun (_ : OpenLaw) (_ : Params → Frag) => True) PySem.Challenge.rw_lg0001_02 L2H.hd.heap_39 := by w_top off; k_fill; trivial
section
variable {prog : Program} {w : World} {A : Around} {E : Value → Shared → Prop} {s : Shared} {base : Heap} {p : Program} {loose : List Str} {mean : ExcName → Option Value} {mg mb : Str → Option Value}

theorem add_spec {x d l : Addr} {its : List Value} {n : Nat} {t : Tok} {rs : List (Int × Int)} {Q : Value → Shared → Prop} (hb : base.StaysIn s.heap) (X : (L2H.hd.heap_39 w.params).In base) (T : Top p loose mean mg mb base)
    (r : RSAt w.params base s.heap x d l its n t) (y : Rngs s.heap its rs) (hA : A.depth < 800) (hh : A.handled = none) (hz : its.length ≤ 50000) {a b : Int} {ta tb : Tok} (hab : a < b)
    (h : ∀ h' tk its' n', KeepBut [x, d, l] s.heap h' → RSAt w.params base h' x d l its' n' t → Rngs h' its' (addL a b rs) → Q .none { s with heap := h', toks := tk }) :
    wpAny (model prog w) A (call (.ref 45) [.ref x, .int a ta, .int b tb]) Q E s := by
  refine call_code (enterK _ hb X T (rs_news r) (by k_is) (by k_is) (Nat.lt_of_lt_of_le hA (by decide)) (binds_K (K := L2H.hd.heap_39 w.params) (binds := [(Str.ofString "self", .ref x), (Str.ofString "start", .int a ta), (Str.ofString "stop", .int b tb)]) (fun a o e => hb _ _ (X a o e)) rfl (by k_is) rfl rfl rfl) (locs rfl) ?_ rfl rfl rfl (by decide))
  intro g L h₁ F N Xg Tg sg kb lt
  have yg := rngs_ground r y kb
  obtain ⟨n1, n2, n3⟩ := r.apart
  refine wpAny_execs_cons ?_
  refine wpAny_mono (Q := AddMid g L [(x, instObj 118 d), (d, rdict w.params l t), (l, listOf its.toArray n)] x a b ta { s with heap := h₁ }) ?_ ?_ fun _ _ x => x
  · walk
    rename Fr _ _ _ _ => F
    rename News _ _ _ _ => N
    exact ⟨rfl, _, _, _, _, rfl, F, N, rfl, rfl, rfl⟩
  rintro fl s' ⟨rfl, h₂, tk₂, m₂, tb', rfl, F, N, e1, e2, e3⟩
  dsimp only
  replace F := fr_know (fr_know (fr_know F (x := Str.ofString "self") e1) (x := Str.ofString "start") e2) (x := Str.ofString "stop") e3
  refine wpAny_execs_cons ?_
  refine wpAny_mono (Q := AddMid g L [(x, instObj 118 d), (d, rdict w.params l t), (l, listOf its.toArray n)] x a b ta { s with heap := h₁ }) ?_ ?_ fun _ _ x => x
  · walk
    rename Fr _ _ _ _ => F
    rename News _ _ _ _ => N
    exact ⟨rfl, _, _, _, _, rfl, F, N, rfl, rfl, rfl⟩
  rintro fl s' ⟨rfl, h₃, tk₃, m₃, tb'', rfl, F, N, e1, e2, e3⟩
  dsimp only
  replace F := fr_know (fr_know (fr_know F (x := Str.ofString "self") e1) (x := Str.ofString "start") e2) (x := Str.ofString "stop") e3
  refine add_body (A := A) (s := { heap := h₃, gens := s.gens, drawn := s.drawn, toks := tk₃, os := s.os }) (by obtain ⟨hb, _⟩ := fn_of (K := L2H.hd.heap_39 w.params) (a := 45) (by k_is); rw [hb]; rfl) (by obtain ⟨_, hs⟩ := fn_of (K := L2H.hd.heap_39 w.params) (a := 45) (by k_is); first | (rw [hs]; done) | (rw [hs]; rfl)) Xg Tg F N yg lt hh hz hab n1 n2 n3 ?_
  rintro h' tk its' n' fl hfl ⟨m', F'⟩ N' y'
  have key := h h' tk its' n' (kb.stays F'.keep) ⟨N'.get (by k_mem), N'.get (by k_mem), N'.get (by k_mem), r.nx, r.nd, r.nl⟩ y'
  rcases hfl with rfl | rfl <;> exact key

end
end L2
end

section
open PySem PySem.W PySem.Calls PyProof.Rows RS
open PySem.SeqAt
set_option maxRecDepth 100000
set_option maxHeartbeats 0
set_option linter.unusedVariables false
namespace L2
theorem warm_sub : (fun (_ : OpenLaw) (_ : Params → Frag) => True) PySem.Challenge.rw_lg0001_02 L2H.hd.heap_39 := by w_top off; k_fill; trivial
section
variable {prog : Program} {w : World} {A : Around} {E : Value → Shared → Prop} {s : Shared} {base : Heap} {p : Program} {loose : List Str} {mean : ExcName → Option Value} {mg mb : Str → Option Value}

theorem sub_spec {x d l : Addr} {its : List Value} {n : Nat} {t : Tok} {rs : List (Int × Int)} {Q : Value → Shared → Prop} (hb : base.StaysIn s.heap) (X : (L2H.hd.heap_39 w.params).In base) (T : Top p loose mean mg mb base)
    (r : RSAt w.params base s.heap x d l its n t) (y : Rngs s.heap its rs) (hA : A.depth < 800) (hh : A.handled = none) (hz : its.length ≤ 50000) {a b : Int} {ta tb : Tok} (hab : a < b)
    (h : ∀ h' tk its' n', KeepBut [x, d, l] s.heap h' → RSAt w.params base h' x d l its' n' t → Rngs h' its' (subL a b rs) → Q .none { s with heap := h', toks := tk }) :
    wpAny (model prog w) A (call (.ref 66) [.ref x, .int a ta, .int b tb]) Q E s := by
  refine call_code (enterK _ hb X T (rs_news r) (by k_is) (by k_is) (Nat.lt_of_lt_of_le hA (by decide)) (BindsTo.of_eq (binds := [(Str.ofString "self", .ref x), (Str.ofString "start", .int a ta), (Str.ofString "stop", .int b tb)]) rfl) (locs rfl) ?_ rfl rfl rfl (by decide))
  intro g L h₁ F N Xg Tg sg kb lt
  have yg := rngs_ground r y kb
  obtain ⟨n1, n2, n3⟩ := r.apart
  walk
  rename Fr _ _ _ _ => F
  rename News _ _ _ _ => N
  refine while_post (fun k h tk => ∃ (i : Nat) (ti : Tok) (u : Option Value) (its' : List Value) (rs' : List (Int × Int)) (n' : Nat) (I : List (Addr × Obj)), Fr g L h (fun y => if y = Str.ofString "r" then u else if y = Str.ofString "i" then some (Value.int i ti) else List.lookup y [(Str.ofString "self", Value.ref x), (Str.ofString "start", Value.int a ta), (Str.ofString "stop", Value.int b tb)].reverse) ∧
      News g L h ([(x, instObj 118 d), (d, rdict w.params l t), (l, listOf its'.toArray n')] ++ I) ∧ (∀ p ∈ I, p.1 ≠ l) ∧ RngsP (Src g I) its' rs' ∧ subL a b rs = rs'.take i ++ subL a b (rs'.drop i) ∧ (its'.length ≤ its.length ∨ (its'.length ≤ its.length + 1 ∧ ∃ lo hi, rs'[i]? = some (lo, hi) ∧ b ≤ lo)) ∧ k = subM b rs' i)
    (fun h tk => ∃ its' n', (∃ m, Fr g L h m) ∧ News g L h [(x, instObj 118 d), (d, rdict w.params l t), (l, listOf its'.toArray n')] ∧ Rngs h its' (subL a b rs))
    (subM b rs 0) ⟨0, _, _, its, rs, n, [], fr_eq F (map_more (by decide)), N, (fun _ h => nomatch h), .of yg fun _ _ _ _ _ _ e => .inl e, by simp, .inl (Nat.le_refl _), rfl⟩ ?_ ?_
  · rintro k h₃ tk ⟨i, ti, u, its', rs', n', I, F, N, offI, yr, hm, hi1, rfl⟩
    simp only [List.cons_append, List.nil_append] at N
    have hl' := yr.length
    have hi2 : its'.length ≤ 60000 := by omega
    walk
    · rename Fr _ _ _ _ => F
      rename News _ _ _ _ => N
      obtain ⟨lo, hi, hr⟩ : ∃ lo2 hi2, rs'[i]? = some (lo2, hi2) := ⟨_, _, List.getElem?_eq_getElem (by omega)⟩
      obtain ⟨a2, u1, u2, u3, hv2, ha2⟩ := yr.at hr
      refine rs_item (its := its') N (by k_mem) (by omega) (by omega) (v := .ref a2) (by rw [Int.toNat_natCast]; exact hv2) ?_
      have hil : i < its'.length := by omega
      k_steps
      · rename Fr _ _ _ _ => F
        rename News _ _ _ _ => N
        rename b ≤ lo => c1
        rw [subL_ret hr c1 hm] at h
        refine h _ _ _ _ (kb.stays F.keep) ⟨N.get (by k_mem), N.get (by k_mem), N.get (by k_mem), r.nx, r.nd, r.nl⟩ (yr.to fun a o q => q.here F N (by (intro p hp; simp [hp])))
      · rename Fr _ _ _ _ => F
        rename News _ _ _ _ => N
        rename ¬ b ≤ lo => c1
        rename hi ≤ a => c2
        have hi3 : its'.length ≤ its.length := hi1.elim id fun q => absurd (by obtain ⟨_, lo', hi', q1, q2⟩ := q; rw [hr] at q1; cases q1; exact q2) c1
        refine ⟨_, _, _, rfl, ?_, i + 1, _, _, its', rs', n', I, fr_eq F (map_ri (by decide)), N, offI, yr, subL_go hr c1 c2 hm, .inl hi3, rfl⟩
        exact subM_lt (by omega)
      · rename Fr _ _ _ _ => F
        rename News _ _ _ _ => N
        rename ¬ b ≤ lo => c1
        rename ¬ hi ≤ a => c2
        rename a ≤ lo => c3
        rename hi ≤ b => c4
        have hi3 : its'.length ≤ its.length := hi1.elim id fun q => absurd (by obtain ⟨_, lo', hi', q1, q2⟩ := q; rw [hr] at q1; cases q1; exact q2) c1
        refine rs_popAt (its := its') (n := n') F N (y := .ref a2) (by omega) (by omega) (by rw [Int.toNat_natCast]; exact hv2) (by k_upd) (by omega) ?_
        intro h' F' N'
        walk
        rename Fr _ _ _ _ => F
        rename News _ _ _ _ => N
        rw [Int.toNat_natCast] at N
        refine ⟨_, _, _, rfl, ?_, i, _, _, its'.take i ++ its'.drop (i + 1), rs'.take i ++ rs'.drop (i + 1), _, I, fr_eq F map_over, N, offI, (yr.take _).append (yr.drop _), subL_pop hr c1 c2 c3 c4 hm, .inl ?_, rfl⟩
        · exact subM_lt (by simp only [List.length_append, List.length_take, List.length_drop]; omega)
        · simp only [List.length_append, List.length_take, List.length_drop]; omega
      · rename Fr _ _ _ _ => F
        rename News _ _ _ _ => N
        rename ¬ b ≤ lo => c1
        rename ¬ hi ≤ a => c2
        rename a ≤ lo => c3
        rename ¬ hi ≤ b => c4
        have hi3 : its'.length ≤ its.length := hi1.elim id fun q => absurd (by obtain ⟨_, lo', hi', q1, q2⟩ := q; rw [hr] at q1; cases q1; exact q2) c1
        refine rs_range F N ?_
        intro rr h' vv tk' F N l1
        walk
        have rl : (@Ne Nat rr l) := Nat.ne_of_gt (l1 (l, listOf its'.toArray n') (by k_mem))
        refine rs_set (its := its') (n := n') F N (by omega) (by omega) (by omega) (by k_upd) ?_
        intro h' F' N'
        walk
        rename Fr _ _ _ _ => F
        rename News _ _ _ _ => N
        rw [Int.toNat_natCast] at N
        refine ⟨_, _, _, rfl, ?_, i + 1, _, _, its'.set i (.ref rr), rs'.set i (b, hi), n', (rr, rngO b hi tb u2 vv) :: I, fr_eq F (map_ri (by decide)), news_mono N ?_, List.forall_mem_cons.mpr ⟨rl, offI⟩, (yr.mono (P' := Src g ((rr, rngO b hi tb u2 vv) :: I)) fun _ _ q => Src.more _ q).set (.inr (.head _)) i, subL_right hr c1 c2 c3 c4 hm, .inl ?_, rfl⟩
        · exact subM_lt (by simp only [List.length_set]; omega)
        · intro p hp
          simp only [List.mem_cons] at hp ⊢
          rcases hp with q | q | q | q | q
          · exact .inr (.inl q)
          · exact .inr (.inr (.inl q))
          · exact .inr (.inr (.inr (.inl q)))
          · exact .inl q
          · exact .inr (.inr (.inr (.inr q)))
        · simp only [List.length_set]; exact hi3
      · rename Fr _ _ _ _ => F
        rename News _ _ _ _ => N
        rename ¬ b ≤ lo => c1
        rename ¬ hi ≤ a => c2
        rename ¬ a ≤ lo => c3
        have hi3 : its'.length ≤ its.length := hi1.elim id fun q => absurd (by obtain ⟨_, lo', hi', q1, q2⟩ := q; rw [hr] at q1; cases q1; exact q2) c1
        refine rs_range F N ?_
        intro rr h' vv tk' F N l1
        walk
        have rl : (@Ne Nat rr l) := Nat.ne_of_gt (l1 (l, listOf its'.toArray n') (by k_mem))
        refine rs_set (its := its') (n := n') F N (by omega) (by omega) (by omega) (by k_upd) ?_
        intro h' F' N'
        rw [Int.toNat_natCast] at N'
        k_steps
        · rename Fr _ _ _ _ => F
          rename News _ _ _ _ => N
          rename b < hi => c4
          refine rs_range F N ?_
          intro r2 h' v2 tk' F N l2
          have rl2 : (@Ne Nat r2 l) := Nat.ne_of_gt (l2 (l, listOf (its'.set i (.ref rr)).toArray n') (by k_mem))
          walk
          refine rs_insert (its := its'.set i (.ref rr)) (n := n') F N (by omega) (by omega) (by simp only [List.length_set]; omega) (by k_upd) (by simp only [List.length_set]; omega) ?_
          intro h' F' N'
          walk
          rename Fr _ _ _ _ => F
          rename News _ _ _ _ => N
          rw [show ((i : Int) + 1).toNat = i + 1 by omega] at N
          have hs : (rs'.set i (lo, a)).length = rs'.length := List.length_set ..
          refine ⟨_, _, _, rfl, ?_, i + 1, _, _, (its'.set i (.ref rr)).take (i + 1) ++ .ref r2 :: (its'.set i (.ref rr)).drop (i + 1), (rs'.set i (lo, a)).take (i + 1) ++ (b, hi) :: (rs'.set i (lo, a)).drop (i + 1), n' + 1, (r2, rngO b hi tb u2 v2) :: (rr, rngO lo a u1 ta vv) :: I, fr_eq F (map_ri (by decide)), news_mono N ?_, List.forall_mem_cons.mpr ⟨rl2, List.forall_mem_cons.mpr ⟨rl, offI⟩⟩,
            (((yr.mono (P' := Src g ((r2, rngO b hi tb u2 v2) :: (rr, rngO lo a u1 ta vv) :: I)) fun _ _ q => Src.more _ (Src.more _ q)).set (.inr (.tail _ (.head _))) i).take (i + 1)).append (.cons (.inr (.head _)) (((yr.mono (P' := Src g ((r2, rngO b hi tb u2 v2) :: (rr, rngO lo a u1 ta vv) :: I)) fun _ _ q => Src.more _ (Src.more _ q)).set (.inr (.tail _ (.head _))) i).drop (i + 1))), subL_mid hr c1 c2 c3 c4 hm, .inr ⟨?_, b, hi, ?_, Int.le_refl _⟩, rfl⟩
          · exact subM_ins (by rw [mid_len (by omega)]; omega) hr c1 (mid_get (by omega)) (Int.le_refl _)
          · intro p hp
            simp only [List.mem_cons] at hp ⊢
            rcases hp with q | q | q | q | q | q
            · exact .inr (.inr (.inl q))
            · exact .inr (.inr (.inr (.inl q)))
            · exact .inr (.inr (.inr (.inr (.inl q))))
            · exact .inl q
            · exact .inr (.inl q)
            · exact .inr (.inr (.inr (.inr (.inr q))))
          · rw [mid_len (by rw [List.length_set]; omega), List.length_set]; omega
          · exact mid_get (by omega)
        · rename Fr _ _ _ _ => F
          rename News _ _ _ _ => N
          rename ¬ b < hi => c4
          refine ⟨_, _, _, rfl, ?_, i + 1, _, _, its'.set i (.ref rr), rs'.set i (lo, a), n', (rr, rngO lo a u1 ta vv) :: I, fr_eq F (map_ri (by decide)), news_mono N ?_, List.forall_mem_cons.mpr ⟨rl, offI⟩, (yr.mono (P' := Src g ((rr, rngO lo a u1 ta vv) :: I)) fun _ _ q => Src.more _ q).set (.inr (.head _)) i, subL_left hr c1 c2 c3 c4 hm, .inl ?_, rfl⟩
          · exact subM_lt (by simp only [List.length_set]; omega)
          · intro p hp
            simp only [List.mem_cons] at hp ⊢
            rcases hp with q | q | q | q | q
            · exact .inr (.inl q)
            · exact .inr (.inr (.inl q))
            · exact .inr (.inr (.inr (.inl q)))
            · exact .inl q
            · exact .inr (.inr (.inr (.inr q)))
          · simp only [List.length_set]; exact hi3
    · rename Fr _ _ _ _ => F
      rename News _ _ _ _ => N
      refine ⟨_, _, rfl, its', n', ⟨_, F⟩, news_mono N ?_, ?_⟩
      · intro p hp
        simp only [List.mem_cons, List.not_mem_nil, or_false] at hp ⊢
        rcases hp with q | q | q
        · exact .inl q
        · exact .inr (.inl q)
        · exact .inr (.inr (.inl q))
      · rw [subL_end (by omega) hm]
        exact yr.to fun a o q => q.here F N (by (intro p hp; simp [hp]))
  · rintro h₃ tk ⟨its', n', ⟨m, F⟩, N, yr⟩
    walk
    exact h _ _ _ _ (kb.stays F.keep) ⟨N.get (by k_mem), N.get (by k_mem), N.get (by k_mem), r.nx, r.nd, r.nl⟩ yr

end
end L2
end

section
open PySem PySem.W PySem.Calls PyProof.Rows RS
open PySem.SeqAt
set_option maxRecDepth 100000
set_option maxHeartbeats 0
set_option linter.unusedVariables false
namespace L2
theorem warm_newb : (fun (_ : OpenLaw) (_ : Params → Frag) => True) PySem.Challenge.rw_lg0001_02 L2H.hd.heap_39 := by w_top off; k_fill; trivial
section
variable {prog : Program} {w : World} {A : Around} {E : Value → Shared → Prop} {s : Shared} {base : Heap} {p : Program} {loose : List Str} {mean : ExcName → Option Value} {mg mb : Str → Option Value}
theorem init_body {body : List Stmt} {env : Env} {g : Heap} {L f : Addr} {cd : Value} {x d lst : Addr} {vs : List Value} {qs : List (Int × Int)} {kl : Nat} {Q : Flow → Shared → Prop}
    (hex : body = fnBody (L2H.hd.heap_39 w.params) 37) (henv : env = envOf (Str.ofString "RangeSet.__init__") (fnScope (L2H.hd.heap_39 w.params) 37) L f cd) (X : (L2H.hd.heap_39 w.params).In base) (T : Top p loose mean mg mb base) (Xg : (L2H.hd.heap_39 w.params).In g) (Tg : Top p loose mean mg mb g) (sg : base.StaysIn g)
    (F : Fr g L s.heap (fun y => List.lookup y [(Str.ofString "self", Value.ref x), (Str.ofString "ranges", Value.ref lst)].reverse)) (N : News g L s.heap [(x, instObj 118 d), (d, dictOf [] 0)]) (hxd : @Ne Nat x d)
    (bx : base.get? x = none) (bd : base.get? d = none) (gl : g.get? lst = some (listOf vs.toArray kl)) (yg : Rngs g vs qs) (yv : vs.length = qs.length) (hp : RS.Pos qs) (hA : A.depth < 790) (hh : A.handled = none) (hz : vs.length ≤ 20000)
    (h : ∀ l h' tk its n t, (∃ m, Fr g L h' m) → RSAt w.params base h' x d l its n t → Rngs h' its (addAll qs []) → s.heap.objs.size ≤ l → Q .next { s with heap := h', toks := tk }) :
    wpAny (model prog w) (A.deeper env) (execs body env) Q (fun _ _ => False) s := by
  subst hex henv
  obtain ⟨hb, hs⟩ := fn_of (K := L2H.hd.heap_39 w.params) (a := 37) (by k_is)
  rw [hb, hs]
  clear hb hs
  k_steps
  refine rs_newList F N ?_
  intro l h₂ F2 N2 l1 sl
  have gl0 : g.get? l = none := fresh_g F _ sl
  have bl : base.get? l = none := by
    cases q : base.get? l with
    | none => rfl
    | some o => rw [sg _ _ q] at gl0; cases gl0
  k_lt l1
  clear F N
  k_steps
  rename Fr _ _ _ _ => F
  rename News _ _ _ _ => N
  obtain ⟨t, N⟩ : ∃ t, News g L _ [(l, listOf ([] : List Value).toArray 0), (x, instObj 118 d), (d, rdict w.params l t)] := ⟨_, N⟩
  refine wpAny_For ?_
  k_steps
  rename Fr _ _ _ _ => F
  have lstL : lst ≠ L := Nat.ne_of_lt (Nat.lt_of_lt_of_le (Heap.lt_size gl) F.above)
  refine for_list (fix := []) hh rfl rfl ⟨_, F.keep _ _ gl, rfl, _, rfl⟩ lstL (.inl ⟨_, gl⟩) F N
    (fun i m' news' => (∃ u, m' = (fun y => if y = Str.ofString "r" then u else List.lookup y [(Str.ofString "self", Value.ref x), (Str.ofString "ranges", Value.ref lst)].reverse)) ∧
      ∃ its n Z, news' = (l, listOf its.toArray n) :: (x, instObj 118 d) :: (d, rdict w.params l t) :: Z ∧ RngsP (Src g Z) its (addAll (qs.take i) []) ∧ (∀ p ∈ Z, p.1 ∉ [x, d, l]) ∧ its.length ≤ i) (fun _ _ _ _ _ h => nomatch h) ⟨⟨_, map_self⟩, [], 0, [], rfl, .nil, (fun _ h => nomatch h), Nat.le_refl _⟩ ?_ ?_
  · rintro i e I oI m' news' h₃ tk hoI hi ⟨⟨u, rfl⟩, its, n, Z, rfl, yz, offZ, hlen⟩ hlt off F N
    obtain ⟨a, lo, hi', t1, t2, t3, rfl, hr, ha⟩ := yg.get hi
    have hpos : lo < hi' := hp _ (List.mem_of_getElem? hr)
    have hil : i < vs.length := (List.getElem?_eq_some_iff.mp hi).1
    walk
    rename Fr _ _ _ _ => F
    rename News _ _ _ _ => N
    have hlen1 : (addAll (qs.take i) []).length ≤ i := by
      have := addAll_len (qs.take i) []
      simp only [List.length_nil, List.length_take] at this
      omega
    have hA2 : (addAll (qs.take (i + 1)) []) = addL lo hi' (addAll (qs.take i) []) := by rw [take_succ' hr, addAll_snoc]
    have yz0 : Rngs _ its (addAll (qs.take i) []) := yz.to fun a o q => q.here F N (by intro p hp; simp [hp])
    refine add_spec (A := A.deeper _) (s := { heap := h₃, gens := s.gens, drawn := s.drawn, toks := _, os := s.os }) (its := its) (rs := addAll (qs.take i) []) (base := base) (x := x) (d := d) (l := l) (n := n) (t := t) (fun b o e => F.keep b o (sg b o e)) X T ⟨N.get (by k_mem), N.get (by k_mem), N.get (by k_mem), bx, bd, bl⟩ yz0 (dlt hA) hh (by omega) hpos ?_
    intro h₄ tk₄ its' n' kb' r' y'
    have F' := fr_keepBut F kb' (by
      intro b hb
      simp only [List.mem_cons, List.not_mem_nil, or_false] at hb
      rcases hb with rfl | rfl | rfl
      · exact (N (b, _) (by k_mem)).2
      · exact (N (b, _) (by k_mem)).2
      · exact (N (b, _) (by k_mem)).2)
    have nI : I ∉ [x, d, l] := by
      simp only [List.mem_cons, List.not_mem_nil, or_false]
      rintro (rfl | rfl | rfl)
      · exact off (I, instObj 118 d) (by k_mem) rfl
      · exact off (I, rdict w.params l t) (by k_mem) rfl
      · exact off (I, listOf its.toArray n) (by k_mem) rfl
    have hI' : h₄.get? I = some oI := kb' _ _ nI (N.get (by k_mem))
    obtain ⟨Z', NZ, offZ', allZ⟩ := ledger_all g h₄ L [x, d, l, I]
    have y'' : RngsP (Src g Z') its' (addAll (qs.take (i + 1)) []) := by
      rw [hA2]
      exact .of y' fun b lo hi t1 t2 t3 e => src_all F' allZ e (by
        simp only [List.mem_cons, List.not_mem_nil, or_false]
        rintro (rfl | rfl | rfl | rfl)
        · rw [r'.inst] at e; simp at e
        · rw [r'.dict] at e; simp at e
        · rw [r'.list] at e; simp at e
        · rw [hI'] at e; cases e; exact absurd (show Value.type "range" = Value.type "list_iterator" from hoI) (by decide)) (ns_not F'.ns e (by intro es ep q; cases q))
    have NI := (N (I, oI) (by k_mem)).2
    have Nx := (N (x, instObj 118 d) (by k_mem)).2
    have Nd := (N (d, rdict w.params l t) (by k_mem)).2
    have Nl := (N (l, listOf its.toArray n) (by k_mem)).2
    clear F N
    walk
    refine ⟨_, _, _, _, rfl, F', ?_, ?_, ⟨_, map_over⟩, its', n', Z', rfl, y'', ?_, ?_⟩
    · intro p hp
      simp only [List.mem_cons] at hp
      rcases hp with rfl | rfl | rfl | rfl | hp
      · exact ⟨hI', NI⟩
      · exact ⟨r'.list, Nl⟩
      · exact ⟨r'.inst, Nx⟩
      · exact ⟨r'.dict, Nd⟩
      · exact NZ p hp
    · intro p hp
      simp only [List.mem_cons] at hp
      simp only [List.mem_cons, List.not_mem_nil, or_false, not_or] at nI
      rcases hp with rfl | rfl | rfl | hp
      · exact fun e => nI.2.2 e.symm
      · exact fun e => nI.1 e.symm
      · exact fun e => nI.2.1 e.symm
      · exact fun e => offZ' p hp (by rw [e]; simp)
    · intro p hp q
      exact offZ' p hp (by simp only [List.mem_cons, List.not_mem_nil, or_false] at q ⊢; exact q.elim .inl fun q => .inr (q.elim .inl fun q => .inr (.inl q)))
    · rw [y'.length]
      have := addL_len lo hi' (addAll (qs.take i) [])
      omega
  · rintro m' news' h₃ tk ⟨⟨u, rfl⟩, its, n, Z, rfl, yz, offZ, hlen⟩ F N
    walk
    rename Fr _ _ _ _ => F
    rename News _ _ _ _ => N
    refine h l _ _ its n t ⟨_, F⟩ ⟨N.get (by k_mem), N.get (by k_mem), N.get (by k_mem), bx, bd, bl⟩ ?_ sl
    rw [yv, List.take_length] at yz
    exact yz.to fun a o q => q.here F N (by (intro p hp; simp [hp]))


end
end L2
end

section
open PySem PySem.W PySem.Calls PyProof.Rows RS
open PySem.SeqAt
set_option maxRecDepth 100000
set_option maxHeartbeats 0
set_option linter.unusedVariables false
namespace L2
theorem warm_new : (fun (_ : OpenLaw) (_ : Params → Frag) => True) PySem.Challenge.rw_lg0001_02 L2H.hd.heap_39 := by w_top off; k_fill; trivial
section
variable {prog : Program} {w : World} {A : Around} {E : Value → Shared → Prop} {s : Shared} {base : Heap} {p : Program} {loose : List Str} {mean : ExcName → Option Value} {mg mb : Str → Option Value}
theorem init_spec {x d lst : Addr} {vs : List Value} {qs : List (Int × Int)} {kl : Nat} {R : Result → Shared → Prop} (hb : base.StaysIn s.heap) (X : (L2H.hd.heap_39 w.params).In base) (T : Top p loose mean mg mb base)
    (hx : s.heap.get? x = some (instObj 118 d)) (hd : s.heap.get? d = some (dictOf [] 0)) (bx : base.get? x = none) (bd : base.get? d = none)
    (hl : s.heap.get? lst = some (listOf vs.toArray kl)) (yv : Rngs s.heap vs qs) (hp : RS.Pos qs) (hA : A.depth < 790) (hh : A.handled = none) (hz : vs.length ≤ 20000)
    (h : ∀ l h' tk its n t, KeepBut [x, d] s.heap h' → RSAt w.params base h' x d l its n t → Rngs h' its (addAll qs []) → s.heap.get? l = none → R (.ok (.ret .none)) { s with heap := h', toks := tk }) :
    codeAny (model prog w) A (.call (.ref 37) ⟨[.ref x, .ref lst], []⟩) R s := by
  have hxd : (@Ne Nat x d) := fun e => by rw [e, hd] at hx; simp at hx
  have N₀ : ∀ q ∈ ([(x, instObj 118 d), (d, dictOf [] 0)] : List (Addr × Obj)), s.heap.get? q.1 = some q.2 ∧ base.get? q.1 = none := by
    intro q hq
    simp only [List.mem_cons, List.not_mem_nil, or_false] at hq
    rcases hq with rfl | rfl
    · exact ⟨hx, bx⟩
    · exact ⟨hd, bd⟩
  refine enterK _ hb X T N₀ (by k_is) (by k_is) (Nat.lt_of_lt_of_le hA (by decide)) (binds_K (K := L2H.hd.heap_39 w.params) (binds := [(Str.ofString "self", .ref x), (Str.ofString "ranges", .ref lst)]) (fun a o e => hb _ _ (X a o e)) rfl (by k_is) rfl rfl rfl) (locs rfl) ?_ rfl rfl rfl (by decide)
  intro g L h₁ F N Xg Tg sg kb lt
  have lx : (@Ne Nat lst x) := fun e => by rw [e, hx] at hl; simp at hl
  have ld : (@Ne Nat lst d) := fun e => by rw [e, hd] at hl; simp at hl
  have gl : g.get? lst = some (listOf vs.toArray kl) := kb _ _ (by simp only [List.map_cons, List.map_nil, List.mem_cons, List.not_mem_nil, or_false]; intro q; exact q.elim lx ld) hl
  have yg : Rngs g vs qs := yv.keeps fun b lo hi t1 t2 t3 e => kb b _ (fun hm => by
    simp only [List.map_cons, List.map_nil, List.mem_cons, List.not_mem_nil, or_false] at hm
    rcases hm with rfl | rfl
    · rw [hx] at e; simp at e
    · rw [hd] at e; simp at e) e
  refine init_body (A := A) (s := { heap := h₁, gens := s.gens, drawn := s.drawn, toks := _, os := s.os }) (by obtain ⟨hb, _⟩ := fn_of (K := L2H.hd.heap_39 w.params) (a := 37) (by k_is); rw [hb]) (by obtain ⟨_, hs⟩ := fn_of (K := L2H.hd.heap_39 w.params) (a := 37) (by k_is); first | (rw [hs]; done) | (rw [hs]; rfl)) X T Xg Tg sg F N hxd bx bd gl yg yv.length hp hA hh hz ?_
  rintro l h' tk its n t ⟨m', F'⟩ r y sl
  exact h l h' tk its n t (kb.stays F'.keep) r y (fresh_all kb F N sl)

theorem init0_spec {x d : Addr} {vs : List Value} {qs : List (Int × Int)} {kl : Nat} {R : Result → Shared → Prop} (hb : base.StaysIn s.heap) (X : (L2H.hd.heap_39 w.params).In base) (T : Top p loose mean mg mb base)
    (hx : s.heap.get? x = some (instObj 118 d)) (hd : s.heap.get? d = some (dictOf [] 0)) (bx : base.get? x = none) (bd : base.get? d = none)
    (hl : s.heap.get? 29 = some (listOf vs.toArray kl)) (yv : Rngs s.heap vs qs) (hp : RS.Pos qs) (hA : A.depth < 790) (hh : A.handled = none) (hz : vs.length ≤ 20000)
    (h : ∀ l h' tk its n t, KeepBut [x, d] s.heap h' → RSAt w.params base h' x d l its n t → Rngs h' its (addAll qs []) → s.heap.get? l = none → R (.ok (.ret .none)) { s with heap := h', toks := tk }) :
    codeAny (model prog w) A (.call (.ref 37) ⟨[.ref x], []⟩) R s := by
  have hxd : (@Ne Nat x d) := fun e => by rw [e, hd] at hx; simp at hx
  have N₀ : ∀ q ∈ ([(x, instObj 118 d), (d, dictOf [] 0)] : List (Addr × Obj)), s.heap.get? q.1 = some q.2 ∧ base.get? q.1 = none := by
    intro q hq
    simp only [List.mem_cons, List.not_mem_nil, or_false] at hq
    rcases hq with rfl | rfl
    · exact ⟨hx, bx⟩
    · exact ⟨hd, bd⟩
  refine enterK _ hb X T N₀ (by k_is) (by k_is) (Nat.lt_of_lt_of_le hA (by decide)) (binds_K (K := L2H.hd.heap_39 w.params) (binds := [(Str.ofString "self", .ref x), (Str.ofString "ranges", .ref 29)]) (fun a o e => hb _ _ (X a o e)) rfl (by k_is) rfl rfl rfl) (locs rfl) ?_ rfl rfl rfl (by decide)
  intro g L h₁ F N Xg Tg sg kb lt
  have lx : (@Ne Nat 29 x) := fun e => by rw [e, hx] at hl; simp at hl
  have ld : (@Ne Nat 29 d) := fun e => by rw [e, hd] at hl; simp at hl
  have gl : g.get? 29 = some (listOf vs.toArray kl) := kb _ _ (by simp only [List.map_cons, List.map_nil, List.mem_cons, List.not_mem_nil, or_false]; intro q; exact q.elim lx ld) hl
  have yg : Rngs g vs qs := yv.keeps fun b lo hi t1 t2 t3 e => kb b _ (fun hm => by
    simp only [List.map_cons, List.map_nil, List.mem_cons, List.not_mem_nil, or_false] at hm
    rcases hm with rfl | rfl
    · rw [hx] at e; simp at e
    · rw [hd] at e; simp at e) e
  refine init_body (A := A) (s := { heap := h₁, gens := s.gens, drawn := s.drawn, toks := _, os := s.os }) (by obtain ⟨hb, _⟩ := fn_of (K := L2H.hd.heap_39 w.params) (a := 37) (by k_is); rw [hb]) (by obtain ⟨_, hs⟩ := fn_of (K := L2H.hd.heap_39 w.params) (a := 37) (by k_is); first | (rw [hs]; done) | (rw [hs]; rfl)) X T Xg Tg sg F N hxd bx bd gl yg yv.length hp hA hh hz ?_
  rintro l h' tk its n t ⟨m', F'⟩ r y sl
  exact h l h' tk its n t (kb.stays F'.keep) r y (fresh_all kb F N sl)

theorem new_spec {lst : Addr} {vs : List Value} {qs : List (Int × Int)} {kl : Nat} {Q : Value → Shared → Prop} (hb : base.StaysIn s.heap) (X : (L2H.hd.heap_39 w.params).In base) (T : Top p loose mean mg mb base)
    (hl : s.heap.get? lst = some (listOf vs.toArray kl)) (yv : Rngs s.heap vs qs) (hp : RS.Pos qs) (hA : A.depth < 780) (hh : A.handled = none) (hz : vs.length ≤ 20000)
    (h : ∀ x d l h' tk its n t, s.heap.StaysIn h' → RSAt w.params base h' x d l its n t → Rngs h' its (addAll qs []) → (s.heap.get? x = none ∧ s.heap.get? d = none ∧ s.heap.get? l = none) → Q (.ref x) { s with heap := h', toks := tk }) :
    wpAny (model prog w) A (call (.ref 118) [.ref lst]) Q E s := by
  obtain ⟨hh0, gn, dr, tt, oo⟩ := s
  dsimp only at hb hl yv h
  have Xs : (L2H.hd.heap_39 w.params).In hh0 := fun a o e => hb _ _ (X a o e)
  have lk1 : findIn (L2H.hd.heap_39 w.params) (.ref 118) "__init__" = some (some (.ref 37)) := by k_is
  have lk2 : typeIn (L2H.hd.heap_39 w.params) (.ref 37) = some (.type "function") := by k_is
  have lk3 : makesIn (L2H.hd.heap_39 w.params) 118 = true := by k_is
  refine call_code (make_core (C := 118) (init := .ref 37) (makes_of Xs lk3) (looks_findIn Xs lk1) (fun self => bind_fn Xs self lk2) (.inl rfl) ?_)
  have k1 : ∀ b o, hh0.get? b = some o → ((hh0.push emptyDict).push (instObj 118 hh0.objs.size)).get? b = some o := fun b o e => Heap.get?_push_of_some _ (Heap.get?_push_of_some _ e)
  have fx : hh0.get? (hh0.objs.size + 1) = none := by
    cases q : hh0.get? (hh0.objs.size + 1) with
    | none => rfl
    | some o => exact absurd (Heap.lt_size q) (Nat.not_lt.mpr (Nat.le_succ _))
  have fd : hh0.get? hh0.objs.size = none := by
    cases q : hh0.get? hh0.objs.size with
    | none => rfl
    | some o => exact absurd (Heap.lt_size q) (Nat.lt_irrefl _)
  have bn : ∀ b, hh0.get? b = none → base.get? b = none := fun b e => by
    cases q : base.get? b with
    | none => rfl
    | some o => rw [hb _ _ q] at e; cases e
  refine init_spec (s := ⟨_, gn, dr, tt, oo⟩) (A := A.under _) (base := base) (fun b o e => k1 b o (hb b o e)) X T (d := hh0.objs.size) ?_ (Heap.get?_push_of_some _ (Heap.get?_push_size _ rfl)) (bn _ fx) (bn _ fd) (k1 _ _ hl) (yv.keeps fun b _ _ _ _ _ e => k1 _ _ e) hp (dlt hA) hh hz ?_
  · have := Heap.get?_push_size (hh0.push emptyDict) (o := instObj 118 hh0.objs.size) rfl
    rwa [Heap.size_push] at this
  · intro l h' tk its n t kb r y fl
    have fl' : hh0.get? l = none := by
      cases q : hh0.get? l with
      | none => rfl
      | some o => rw [k1 _ _ q] at fl; cases fl
    refine ⟨rfl, h _ _ l h' tk its n t (fun b o e => kb b o ?_ (k1 b o e)) r y ⟨fx, fd, fl'⟩⟩
    simp only [List.mem_cons, List.not_mem_nil, or_false]
    rintro (rfl | rfl)
    · rw [fx] at e; cases e
    · rw [fd] at e; cases e

theorem new0_spec {Q : Value → Shared → Prop} (hb : base.StaysIn s.heap) (X : (L2H.hd.heap_39 w.params).In base) (T : Top p loose mean mg mb base)
    (hA : A.depth < 780) (hh : A.handled = none)
    (h : ∀ x d l h' tk its n t, s.heap.StaysIn h' → RSAt w.params base h' x d l its n t → Rngs h' its [] → (s.heap.get? x = none ∧ s.heap.get? d = none ∧ s.heap.get? l = none) → Q (.ref x) { s with heap := h', toks := tk }) :
    wpAny (model prog w) A (call (.ref 118) []) Q E s := by
  obtain ⟨hh0, gn, dr, tt, oo⟩ := s
  dsimp only at hb h
  have Xs : (L2H.hd.heap_39 w.params).In hh0 := fun a o e => hb _ _ (X a o e)
  have lk1 : findIn (L2H.hd.heap_39 w.params) (.ref 118) "__init__" = some (some (.ref 37)) := by k_is
  have lk2 : typeIn (L2H.hd.heap_39 w.params) (.ref 37) = some (.type "function") := by k_is
  have lk3 : makesIn (L2H.hd.heap_39 w.params) 118 = true := by k_is
  refine call_code (make_core (C := 118) (init := .ref 37) (makes_of Xs lk3) (looks_findIn Xs lk1) (fun self => bind_fn Xs self lk2) (.inl rfl) ?_)
  have k1 : ∀ b o, hh0.get? b = some o → ((hh0.push emptyDict).push (instObj 118 hh0.objs.size)).get? b = some o := fun b o e => Heap.get?_push_of_some _ (Heap.get?_push_of_some _ e)
  have fx : hh0.get? (hh0.objs.size + 1) = none := by
    cases q : hh0.get? (hh0.objs.size + 1) with
    | none => rfl
    | some o => exact absurd (Heap.lt_size q) (Nat.not_lt.mpr (Nat.le_succ _))
  have fd : hh0.get? hh0.objs.size = none := by
    cases q : hh0.get? hh0.objs.size with
    | none => rfl
    | some o => exact absurd (Heap.lt_size q) (Nat.lt_irrefl _)
  have bn : ∀ b, hh0.get? b = none → base.get? b = none := fun b e => by
    cases q : base.get? b with
    | none => rfl
    | some o => rw [hb _ _ q] at e; cases e
  refine init0_spec (s := ⟨_, gn, dr, tt, oo⟩) (A := A.under _) (base := base) (fun b o e => k1 b o (hb b o e)) X T (d := hh0.objs.size) ?_ (Heap.get?_push_of_some _ (Heap.get?_push_size _ rfl)) (bn _ fx) (bn _ fd) (vs := []) (qs := []) (k1 _ _ (Xs 29 _ (by k_is))) .nil (fun _ h => nomatch h) (dlt hA) hh (by simp) ?_
  · have := Heap.get?_push_size (hh0.push emptyDict) (o := instObj 118 hh0.objs.size) rfl
    rwa [Heap.size_push] at this
  · intro l h' tk its n t kb r y fl
    have fl' : hh0.get? l = none := by
      cases q : hh0.get? l with
      | none => rfl
      | some o => rw [k1 _ _ q] at fl; cases fl
    refine ⟨rfl, h _ _ l h' tk its n t (fun b o e => kb b o ?_ (k1 b o e)) r y ⟨fx, fd, fl'⟩⟩
    simp only [List.mem_cons, List.not_mem_nil, or_false]
    rintro (rfl | rfl)
    · rw [fx] at e; cases e
    · rw [fd] at e; cases e

end
end L2
end

section
open PySem PySem.W PySem.Calls PyProof.Rows RS
open PySem.SeqAt
set_option maxRecDepth 100000
set_option maxHeartbeats 0
set_option linter.unusedVariables false
namespace L2
theorem warm_meth : (fun (_ : OpenLaw) (_ : Params → Frag) => True) PySem.Challenge.rw_lg0001_02 L2H.hd.heap_39 := by w_top off; k_fill; trivial
section
variable {prog : Program} {w : World} {A : Around} {E : Value → Shared → Prop} {s : Shared} {base : Heap} {p : Program} {loose : List Str} {mean : ExcName → Option Value} {mg mb : Str → Option Value}
variable {g : Heap} {L : Addr} {m : Str → Option Value}
theorem rs_instAt {h : Heap} {x d l : Addr} {its : List Value} {n : Nat} {t : Tok} (r : RSAt w.params base h x d l its n t) : InstAt h x (instObj 118 d) 118 (some (rdict w.params l t)) := ⟨r.inst, rfl, rfl, r.dict⟩
theorem m_len {x d l : Addr} {its : List Value} {n : Nat} {t : Tok} {Q : Value → Shared → Prop} (hb : base.StaysIn s.heap) (X : (L2H.hd.heap_39 w.params).In base) (T : Top p loose mean mg mb base)
    (F : Fr g L s.heap m) (Xg : (L2H.hd.heap_39 w.params).In g) (r : RSAt w.params base s.heap x d l its n t) (hA : A.depth < 800) (hz : its.length ≤ 100000)
    (h : ∀ h' tk u, s.heap.StaysIn h' → Q (.int its.length u) { s with heap := h', toks := tk }) :
    wpAny (model prog w) A (call (.builtin "len") [.ref x]) Q E s :=
  len_K F Xg (rs_instAt r) (by k_is) (by k_is) (len_spec (A := A.in1) hb X T r hA hz fun h' tk u st => ⟨⟨by omega, by omega⟩, h h' _ _ st⟩)
theorem m_in {x d l : Addr} {its : List Value} {n : Nat} {t : Tok} {rs : List (Int × Int)} {Q : Value → Shared → Prop} (hb : base.StaysIn s.heap) (X : (L2H.hd.heap_39 w.params).In base) (T : Top p loose mean mg mb base)
    (F : Fr g L s.heap m) (Xg : (L2H.hd.heap_39 w.params).In g) (r : RSAt w.params base s.heap x d l its n t) (y : Rngs s.heap its rs) (hA : A.depth < 800) (hh : A.handled = none) {v : Int} {tv : Tok}
    (h : ∀ h' tk, s.heap.StaysIn h' → Q (.bool (rs.any fun q => decide (q.1 ≤ v) && decide (v < q.2))) { s with heap := h', toks := tk }) :
    wpAny (model prog w) A (compareOp .In (.int v tv) (.ref x)) Q E s :=
  in_K F Xg (rs_instAt r) (by k_is) (by k_is) (contains_spec hb X T r y hA hh fun h' tk st => wpAny_pure (h h' tk st))
theorem m_notIn {x d l : Addr} {its : List Value} {n : Nat} {t : Tok} {rs : List (Int × Int)} {Q : Value → Shared → Prop} (hb : base.StaysIn s.heap) (X : (L2H.hd.heap_39 w.params).In base) (T : Top p loose mean mg mb base)
    (F : Fr g L s.heap m) (Xg : (L2H.hd.heap_39 w.params).In g) (r : RSAt w.params base s.heap x d l its n t) (y : Rngs s.heap its rs) (hA : A.depth < 800) (hh : A.handled = none) {v : Int} {tv : Tok}
    (h : ∀ h' tk, s.heap.StaysIn h' → Q (.bool (!(rs.any fun q => decide (q.1 ≤ v) && decide (v < q.2)))) { s with heap := h', toks := tk }) :
    wpAny (model prog w) A (compareOp .NotIn (.int v tv) (.ref x)) Q E s :=
  notIn_K F Xg (rs_instAt r) (by k_is) (by k_is) (contains_spec hb X T r y hA hh fun h' tk st => wpAny_pure (h h' tk st))
theorem m_iter {x d l : Addr} {its : List Value} {n : Nat} {t : Tok} {Q : Value → Shared → Prop} (hb : base.StaysIn s.heap) (X : (L2H.hd.heap_39 w.params).In base) (T : Top p loose mean mg mb base)
    (F : Fr g L s.heap m) (Xg : (L2H.hd.heap_39 w.params).In g) (r : RSAt w.params base s.heap x d l its n t) (hA : A.depth < 800)
    (h : ∀ h' tk I, s.heap.StaysIn h' → s.heap.get? I = none → h'.IsListIter I l 0 → Q (.ref I) { s with heap := h', toks := tk }) :
    wpAny (model prog w) A (pyIter (.ref x)) Q E s :=
  owit_iter F Xg (rs_instAt r) (by k_is) (by k_is) (iter_spec hb X T r hA fun h' tk I st fi hit => by
    unfold OwitIt
    obtain ⟨o, ho, hc, hd⟩ := id hit
    exact wpAny_specialOf ⟨o, ho, hc⟩ slot_listiter_next.lookup (h h' tk I st fi hit))
theorem m_eq {x d l x' d' l' : Addr} {its its' : List Value} {n n' : Nat} {t t' : Tok} {rs rs' : List (Int × Int)} {Q : Value → Shared → Prop} (hb : base.StaysIn s.heap) (X : (L2H.hd.heap_39 w.params).In base) (T : Top p loose mean mg mb base)
    (F : Fr g L s.heap m) (Xg : (L2H.hd.heap_39 w.params).In g) (r : RSAt w.params base s.heap x d l its n t) (r' : RSAt w.params base s.heap x' d' l' its' n' t') (y : Rngs s.heap its rs) (y' : Rngs s.heap its' rs') (hp : RS.Pos rs) (hp' : RS.Pos rs') (hA : A.depth < 800) (hu : A.units < 5000)
    (h : ∀ h' tk, s.heap.StaysIn h' → Q (.bool (decide (rs = rs'))) { s with heap := h', toks := tk }) :
    wpAny (model prog w) A (compareOp .Eq (.ref x) (.ref x')) Q E s :=
  cmp_ofEq (cmp_K (by simp only [cLine]; omega) F Xg (rs_instAt r) (InstAt.type (rs_instAt r')) (by k_is) (by k_is) (by k_is) (eq_spec hb X T r r' y y' hp hp' hA hu h))

end
end L2
end

section
open PySem PySem.W PySem.Calls PyProof.Rows RS
open PySem.SeqAt
set_option maxRecDepth 100000
set_option maxHeartbeats 0
set_option linter.unusedVariables false
namespace L2
theorem warm_lb : (fun (_ : OpenLaw) (_ : Params → Frag) => True) PySem.Challenge.rw_lg0001_02 L2H.hd.heap_39 := by w_top off; k_fill; trivial
section
variable {prog : Program} {w : World} {A : Around} {E : Value → Shared → Prop} {s : Shared} {base : Heap} {p : Program} {loose : List Str} {mean : ExcName → Option Value} {mg mb : Str → Option Value}
theorem news_rs {g h h' : Heap} {L : Addr} {m : Str → Option Value} {news : List (Addr × Obj)} {x d l : Addr} {its : List Value} {n : Nat} {t : Tok} (F : Fr g L h m) (N : News g L h news) (st : h.StaysIn h') (r : RSAt w.params g h' x d l its n t)
    (fr : h.get? x = none ∧ h.get? d = none ∧ h.get? l = none) : News g L h' ((x, instObj 118 d) :: (d, rdict w.params l t) :: (l, listOf its.toArray n) :: news) := by
  intro p hp
  simp only [List.mem_cons] at hp
  rcases hp with rfl | rfl | rfl | hp
  · exact ⟨r.inst, (fresh_off F N fr.1).1.symm, r.nx⟩
  · exact ⟨r.dict, (fresh_off F N fr.2.1).1.symm, r.nd⟩
  · exact ⟨r.list, (fresh_off F N fr.2.2).1.symm, r.nl⟩
  · exact ⟨st _ _ (N p hp).1, (N p hp).2⟩
theorem rngs_nil {h : Heap} {its : List Value} (y : Rngs h its []) : its = [] := by cases y; rfl

/-- a set in the ledger -/
structure InSet (P : Params) (news : List (Addr × Obj)) (S : Addr → Obj → Prop) (x d l : Addr) (its : List Value) (n : Nat) (t : Tok) (rs : List (Int × Int)) : Prop where
  mx : (x, instObj 118 d) ∈ news
  md : (d, rdict P l t) ∈ news
  ml : (l, listOf its.toArray n) ∈ news
  rg : RngsP S its rs
theorem InSet.at {P : Params} {g h : Heap} {L : Addr} {news : List (Addr × Obj)} {x d l : Addr} {its : List Value} {n : Nat} {t : Tok} {rs : List (Int × Int)} (i : InSet P news (Src g news) x d l its n t rs) {m : Str → Option Value} (F : Fr g L h m) (N : News g L h news) :
    RSAt P g h x d l its n t ∧ Rngs h its rs :=
  ⟨⟨(N _ i.mx).1, (N _ i.md).1, (N _ i.ml).1, (N _ i.mx).2.2, (N _ i.md).2.2, (N _ i.ml).2.2⟩, i.rg.to fun a o q => q.here F N fun p hp => hp⟩
theorem InSet.more {P : Params} {g : Heap} {news news' : List (Addr × Obj)} {x d l : Addr} {its : List Value} {n : Nat} {t : Tok} {rs : List (Int × Int)} (i : InSet P news (Src g news) x d l its n t rs) (k : ∀ p ∈ news, p ∈ news') : InSet P news' (Src g news') x d l its n t rs :=
  ⟨k _ i.mx, k _ i.md, k _ i.ml, i.rg.mono fun a o q => q.imp id (k _)⟩
/-- a list of tuples in the ledger -/
def InList {α : Type} (R : α → Obj → Prop) (S : Addr → Obj → Prop) (T : Addr) (ds : List α) : Prop := ∃ vs k, S T (listOf (List.toArray vs) k) ∧ ListP R S vs ds
noncomputable abbrev lawEnv (P : Params) (L f : Addr) (cd : Value) : Env := envOfC (Str.ofString "law") (fnScope (L2H.hd.heap_39 P) 161) L f cd
noncomputable abbrev lawTurn (P : Params) : List Stmt := forBody (nthS (fnBody (L2H.hd.heap_39 P) 161) 4)
noncomputable abbrev lawTwo (P : Params) : List Stmt := forBody (nthS (fnBody (L2H.hd.heap_39 P) 161) 5)
end
end L2
end

section
open PySem PySem.W PySem.Calls PyProof.Rows RS
open PySem.SeqAt
set_option maxRecDepth 100000
set_option maxHeartbeats 0
set_option linter.unusedVariables false
namespace L2
theorem warm_lm : (fun (_ : OpenLaw) (_ : Params → Frag) => True) PySem.Challenge.rw_lg0001_02 L2H.hd.heap_39 := by w_top off; k_fill; trivial
section
variable {prog : Program} {w : World} {A : Around} {E : Value → Shared → Prop} {s : Shared} {base : Heap} {p : Program} {loose : List Str} {mean : ExcName → Option Value} {mg mb : Str → Option Value}
variable {g : Heap} {L : Addr} {m : Str → Option Value} {news : List (Addr × Obj)}
theorem l_in {x d l : Addr} {its : List Value} {n : Nat} {t : Tok} {rs : List (Int × Int)} {Q : Value → Shared → Prop} (X : (L2H.hd.heap_39 w.params).In g) (T : Top p loose mean mg mb g) (F : Fr g L s.heap m) (N : News g L s.heap news)
    (i : InSet w.params news (Src g news) x d l its n t rs) {v : Int} {tv : Tok} (h : ∀ h' tk, Fr g L h' m → News g L h' news → Q (.bool (RS.inR rs v)) { s with heap := h', toks := tk }) (hA : A.depth < 800 := by exact Nat.le_of_ble_eq_true rfl) (hh : A.handled = none := by rfl) :
    wpAny (model prog w) A (compareOp .In (.int v tv) (.ref x)) Q E s :=
  m_in (base := g) F.keep X T F X (i.at F N).1 (i.at F N).2 hA hh fun h' tk st => h h' tk (F.keeps st) (N.grown st)
theorem l_notIn {x d l : Addr} {its : List Value} {n : Nat} {t : Tok} {rs : List (Int × Int)} {Q : Value → Shared → Prop} (X : (L2H.hd.heap_39 w.params).In g) (T : Top p loose mean mg mb g) (F : Fr g L s.heap m) (N : News g L s.heap news)
    (i : InSet w.params news (Src g news) x d l its n t rs) {v : Int} {tv : Tok} (h : ∀ h' tk, Fr g L h' m → News g L h' news → Q (.bool (!RS.inR rs v)) { s with heap := h', toks := tk }) (hA : A.depth < 800 := by exact Nat.le_of_ble_eq_true rfl) (hh : A.handled = none := by rfl) :
    wpAny (model prog w) A (compareOp .NotIn (.int v tv) (.ref x)) Q E s :=
  m_notIn (base := g) F.keep X T F X (i.at F N).1 (i.at F N).2 hA hh fun h' tk st => h h' tk (F.keeps st) (N.grown st)
theorem l_len {x d l : Addr} {its : List Value} {n : Nat} {t : Tok} {rs : List (Int × Int)} {Q : Value → Shared → Prop} (X : (L2H.hd.heap_39 w.params).In g) (T : Top p loose mean mg mb g) (F : Fr g L s.heap m) (N : News g L s.heap news)
    (i : InSet w.params news (Src g news) x d l its n t rs) (hz : rs.length ≤ 100000) (h : ∀ h' tk u, Fr g L h' m → News g L h' news → Q (.int rs.length u) { s with heap := h', toks := tk }) (hA : A.depth < 800 := by exact Nat.le_of_ble_eq_true rfl) :
    wpAny (model prog w) A (call (.builtin "len") [.ref x]) Q E s :=
  m_len (base := g) F.keep X T F X (i.at F N).1 hA (by rw [i.rg.length]; exact hz) fun h' tk u st => by rw [i.rg.length]; exact h h' tk u (F.keeps st) (N.grown st)
theorem l_eq {x d l x' d' l' : Addr} {its its' : List Value} {n n' : Nat} {t t' : Tok} {rs rs' : List (Int × Int)} {Q : Value → Shared → Prop} (X : (L2H.hd.heap_39 w.params).In g) (T : Top p loose mean mg mb g) (F : Fr g L s.heap m) (N : News g L s.heap news)
    (i : InSet w.params news (Src g news) x d l its n t rs) (i' : InSet w.params news (Src g news) x' d' l' its' n' t' rs') (hp : RS.Pos rs) (hp' : RS.Pos rs')
    (h : ∀ h' tk, Fr g L h' m → News g L h' news → Q (.bool (decide (rs = rs'))) { s with heap := h', toks := tk }) (hA : A.depth < 800 := by exact Nat.le_of_ble_eq_true rfl) (hu : A.units < 5000 := by exact Nat.le_of_ble_eq_true rfl) :
    wpAny (model prog w) A (compareOp .Eq (.ref x) (.ref x')) Q E s :=
  m_eq (base := g) F.keep X T F X (i.at F N).1 (i'.at F N).1 (i.at F N).2 (i'.at F N).2 hp hp' hA hu fun h' tk st => h h' tk (F.keeps st) (N.grown st)

/-- not a range of numbers -/
def NotRng (o : Obj) : Prop := ∀ lo hi t1 t2 t3, o ≠ rngO lo hi t1 t2 t3
theorem notRng_list {vs : List Value} {k : Nat} : NotRng (listOf vs.toArray k) := by intro lo hi t1 t2 t3 e; simp [W.listOf] at e
theorem notRng_inst {d : Addr} : NotRng (instObj 118 d) := by intro lo hi t1 t2 t3 e; simp at e
theorem notRng_dict {P : Params} {l : Addr} {t : Tok} : NotRng (rdict P l t) := by intro lo hi t1 t2 t3 e; simp at e
theorem notRng_cell {o : Obj} {c : Option Value} (h : o.data = .cell c) : NotRng o := by rintro lo hi t1 t2 t3 rfl; cases h
theorem notRng_cls {o : Obj} {c : String} (h : o.cls = .type c) (hc : c ≠ "range" := by decide) : NotRng o := by
  rintro lo hi t1 t2 t3 rfl
  have h' : Value.type "range" = Value.type c := h
  exact hc (by injection h' with e; exact e.symm)

/-- not a tuple -/
def NotTup (o : Obj) : Prop := ∀ vs, o ≠ tupO vs
/-- a set of the ledger is changed -/
theorem l_mut {h h' : Heap} {x d l : Addr} {its its' : List Value} {n n' : Nat} {t : Tok} {rs' : List (Int × Int)} {oth Z : List (Addr × Obj)} (F : Fr g L h m)
    (N : News g L h ((x, instObj 118 d) :: (d, rdict w.params l t) :: (l, listOf its.toArray n) :: (oth ++ Z))) (ho : ∀ p ∈ oth, p.1 ∉ [x, d, l] ∧ NotRng p.2) (offZ : ∀ p ∈ Z, p.1 ∉ x :: d :: l :: oth.map (·.1))
    (kb : KeepBut [x, d, l] h h') (r' : RSAt w.params g h' x d l its' n' t) (y' : Rngs h' its' rs') :
    ∃ Z', Fr g L h' m ∧ News g L h' ((x, instObj 118 d) :: (d, rdict w.params l t) :: (l, listOf its'.toArray n') :: (oth ++ Z')) ∧ (∀ p ∈ Z', p.1 ∉ x :: d :: l :: oth.map (·.1)) ∧ (∀ a o, Src g Z a o → Src g Z' a o) ∧ RngsP (Src g Z') its' rs' := by
  have nx := (N _ (.head _)).2
  have nd := (N _ (.tail _ (.head _))).2
  have nl := (N _ (.tail _ (.tail _ (.head _)))).2
  have F' := fr_keepBut F kb (by
    intro b hb
    simp only [List.mem_cons, List.not_mem_nil, or_false] at hb
    rcases hb with rfl | rfl | rfl
    · exact nx
    · exact nd
    · exact nl)
  have NZ : News g L h Z := fun p hp => N p (.tail _ (.tail _ (.tail _ (List.mem_append_right _ hp))))
  have No : News g L h' oth := fun p hp => ⟨kb _ _ (ho p hp).1 (N p (.tail _ (.tail _ (.tail _ (List.mem_append_left _ hp))))).1, (N p (.tail _ (.tail _ (.tail _ (List.mem_append_left _ hp))))).2⟩
  obtain ⟨Z', N', off', up, all⟩ := reledger (A := x :: d :: l :: oth.map (·.1)) F' NZ kb (by
    intro a ha
    simp only [List.mem_cons, List.not_mem_nil, or_false] at ha
    rcases ha with rfl | rfl | rfl <;> simp) offZ
  refine ⟨Z', F', ?_, off', up, .of y' fun a lo hi t1 t2 t3 e => all a _ e ?_ (ns_not F'.ns e (by intro es ep q; cases q))⟩
  · intro p hp
    simp only [List.mem_cons, List.mem_append] at hp
    rcases hp with rfl | rfl | rfl | hp | hp
    · exact ⟨r'.inst, nx⟩
    · exact ⟨r'.dict, nd⟩
    · exact ⟨r'.list, nl⟩
    · exact No p hp
    · exact N' p hp
  · intro hm
    simp only [List.mem_cons, List.mem_map] at hm
    rcases hm with rfl | rfl | rfl | ⟨q, hq, rfl⟩
    · rw [r'.inst] at e; simp at e
    · rw [r'.dict] at e; simp at e
    · rw [r'.list] at e; simp at e
    · have := (No q hq).1
      rw [this] at e
      exact (ho q hq).2 _ _ _ _ _ (Option.some.inj e)
/-- a set is born -/
theorem l_born {h h' : Heap} {x d l : Addr} {its : List Value} {n : Nat} {t : Tok} {rs : List (Int × Int)} {oth Z : List (Addr × Obj)} (F : Fr g L h m)
    (N : News g L h (oth ++ Z)) (ho : ∀ p ∈ oth, NotRng p.2) (offZ : ∀ p ∈ Z, p.1 ∉ oth.map (·.1))
    (st : h.StaysIn h') (r : RSAt w.params g h' x d l its n t) (y : Rngs h' its rs) (fr : h.get? x = none ∧ h.get? d = none ∧ h.get? l = none) :
    ∃ Z', Fr g L h' m ∧ News g L h' ((x, instObj 118 d) :: (d, rdict w.params l t) :: (l, listOf its.toArray n) :: (oth ++ Z')) ∧ (∀ p ∈ Z', p.1 ∉ x :: d :: l :: oth.map (·.1)) ∧ (∀ a o, Src g Z a o → Src g Z' a o) ∧ RngsP (Src g Z') its rs ∧
      (∀ p ∈ oth, p.1 ∉ [x, d, l]) ∧ (x ∉ oth.map (·.1) ∧ d ∉ oth.map (·.1) ∧ l ∉ oth.map (·.1)) := by
  have F' := F.keeps st
  have N1 := news_rs F N st r fr
  have NZ : News g L h Z := fun p hp => N p (List.mem_append_right _ hp)
  obtain ⟨ox, gx, px⟩ := fresh_off F N fr.1
  obtain ⟨od, gd, pd⟩ := fresh_off F N fr.2.1
  obtain ⟨ol, gl, pl⟩ := fresh_off F N fr.2.2
  have hoff : ∀ p ∈ oth ++ Z, p.1 ∉ [x, d, l] := by
    intro p hp hm
    simp only [List.mem_cons, List.not_mem_nil, or_false] at hm
    rcases hm with q | q | q
    · exact px p hp q
    · exact pd p hp q
    · exact pl p hp q
  obtain ⟨Z', N', off', up, all⟩ := reledger (W := []) (A := x :: d :: l :: oth.map (·.1)) F' NZ (fun b o _ e => st b o e) (fun a ha => nomatch ha) (by
    intro p hp hm
    simp only [List.mem_cons] at hm
    rcases hm with q | q | q | q
    · exact px p (List.mem_append_right _ hp) q
    · exact pd p (List.mem_append_right _ hp) q
    · exact pl p (List.mem_append_right _ hp) q
    · exact offZ p hp q)
  refine ⟨Z', F', ?_, off', up, .of y fun a lo hi t1 t2 t3 e => all a _ e ?_ (ns_not F'.ns e (by intro es ep q; cases q)), fun p hp => hoff p (List.mem_append_left _ hp), ?_⟩
  · intro p hp
    simp only [List.mem_cons, List.mem_append] at hp
    rcases hp with rfl | rfl | rfl | hp | hp
    · exact N1 _ (.head _)
    · exact N1 _ (.tail _ (.head _))
    · exact N1 _ (.tail _ (.tail _ (.head _)))
    · exact N1 _ (.tail _ (.tail _ (.tail _ (List.mem_append_left _ hp))))
    · exact N' p hp
  · intro hm
    simp only [List.mem_cons, List.mem_map] at hm
    rcases hm with rfl | rfl | rfl | ⟨q, hq, rfl⟩
    · rw [r.inst] at e; simp at e
    · rw [r.dict] at e; simp at e
    · rw [r.list] at e; simp at e
    · have := (N1 q (.tail _ (.tail _ (.tail _ (List.mem_append_left _ hq))))).1
      rw [this] at e
      exact ho q hq _ _ _ _ _ (Option.some.inj e)
  · have key : ∀ z, (∀ p ∈ oth ++ Z, p.1 ≠ z) → z ∉ oth.map (·.1) := fun z hz hm => by
      obtain ⟨q, hq, e⟩ := List.mem_map.mp hm
      exact hz q (List.mem_append_left _ hq) e
    exact ⟨key _ px, key _ pd, key _ pl⟩
section
variable {x d l : Addr} {its : List Value} {n : Nat} {t : Tok} {rs : List (Int × Int)} {oth Z : List (Addr × Obj)} {Q : Value → Shared → Prop}
theorem l_at (F : Fr g L s.heap m) (N : News g L s.heap ((x, instObj 118 d) :: (d, rdict w.params l t) :: (l, listOf its.toArray n) :: (oth ++ Z))) (rg : RngsP (Src g Z) its rs) :
    RSAt w.params g s.heap x d l its n t ∧ Rngs s.heap its rs :=
  InSet.at (news := (x, instObj 118 d) :: (d, rdict w.params l t) :: (l, listOf its.toArray n) :: (oth ++ Z)) ⟨.head _, .tail _ (.head _), .tail _ (.tail _ (.head _)), rg.mono fun a o q => q.imp id fun hp => .tail _ (.tail _ (.tail _ (List.mem_append_right _ hp)))⟩ F N
theorem l_add (X : (L2H.hd.heap_39 w.params).In g) (T : Top p loose mean mg mb g) (F : Fr g L s.heap m) (N : News g L s.heap ((x, instObj 118 d) :: (d, rdict w.params l t) :: (l, listOf its.toArray n) :: (oth ++ Z))) (ho : ∀ p ∈ oth, p.1 ∉ [x, d, l] ∧ NotRng p.2) (offZ : ∀ p ∈ Z, p.1 ∉ x :: d :: l :: oth.map (·.1))
    (rg : RngsP (Src g Z) its rs) (hz : rs.length ≤ 50000) {a b : Int} {ta tb : Tok} (hab : a < b)
    (h : ∀ h' tk its' n' Z', Fr g L h' m → News g L h' ((x, instObj 118 d) :: (d, rdict w.params l t) :: (l, listOf its'.toArray n') :: (oth ++ Z')) → (∀ p ∈ Z', p.1 ∉ x :: d :: l :: oth.map (·.1)) → (∀ a o, Src g Z a o → Src g Z' a o) → RngsP (Src g Z') its' (addL a b rs) → Q .none { s with heap := h', toks := tk })
    (hA : A.depth < 800 := by exact Nat.le_of_ble_eq_true rfl) (hh : A.handled = none := by rfl) :
    wpAny (model prog w) A (call (.ref 45) [.ref x, .int a ta, .int b tb]) Q E s := by
  obtain ⟨r, y⟩ := l_at F N rg
  refine add_spec (base := g) F.keep X T r y hA hh (by rw [y.length]; exact hz) hab fun h' tk its' n' kb r' y' => ?_
  obtain ⟨Z', F', N', o', up, rg'⟩ := l_mut F N ho offZ kb r' y'
  exact h h' tk its' n' Z' F' N' o' up rg'
theorem l_sub (X : (L2H.hd.heap_39 w.params).In g) (T : Top p loose mean mg mb g) (F : Fr g L s.heap m) (N : News g L s.heap ((x, instObj 118 d) :: (d, rdict w.params l t) :: (l, listOf its.toArray n) :: (oth ++ Z))) (ho : ∀ p ∈ oth, p.1 ∉ [x, d, l] ∧ NotRng p.2) (offZ : ∀ p ∈ Z, p.1 ∉ x :: d :: l :: oth.map (·.1))
    (rg : RngsP (Src g Z) its rs) (hz : rs.length ≤ 50000) {a b : Int} {ta tb : Tok} (hab : a < b)
    (h : ∀ h' tk its' n' Z', Fr g L h' m → News g L h' ((x, instObj 118 d) :: (d, rdict w.params l t) :: (l, listOf its'.toArray n') :: (oth ++ Z')) → (∀ p ∈ Z', p.1 ∉ x :: d :: l :: oth.map (·.1)) → (∀ a o, Src g Z a o → Src g Z' a o) → RngsP (Src g Z') its' (subL a b rs) → Q .none { s with heap := h', toks := tk })
    (hA : A.depth < 800 := by exact Nat.le_of_ble_eq_true rfl) (hh : A.handled = none := by rfl) :
    wpAny (model prog w) A (call (.ref 66) [.ref x, .int a ta, .int b tb]) Q E s := by
  obtain ⟨r, y⟩ := l_at F N rg
  refine sub_spec (base := g) F.keep X T r y hA hh (by rw [y.length]; exact hz) hab fun h' tk its' n' kb r' y' => ?_
  obtain ⟨Z', F', N', o', up, rg'⟩ := l_mut F N ho offZ kb r' y'
  exact h h' tk its' n' Z' F' N' o' up rg'
end
end
end L2
end

section
open PySem PySem.W PySem.Calls PyProof.Rows RS
open PySem.SeqAt
set_option maxRecDepth 100000
set_option maxHeartbeats 0
set_option linter.unusedVariables false
namespace L2
theorem warm_pairs2 : (fun (_ : OpenLaw) (_ : Params → Frag) => True) PySem.Challenge.rw_lg0001_02 L2H.hd.heap_39 := by w_top off; k_fill; trivial
section
variable {prog : Program} {w : World} {A : Around} {E : Value → Shared → Prop} {s : Shared} {base : Heap} {p : Program} {loose : List Str} {mean : ExcName → Option Value} {mg mb : Str → Option Value}
theorem off1_mem {D : Addr} : ∀ {l : List (Addr × Obj)}, LCg.Off1 D l → ∀ p ∈ l, @Ne Nat p.1 D
  | [], _, _, h => nomatch h
  | q :: r, o, p, h => by
    rcases List.mem_cons.mp h with rfl | h
    · exact o.1
    · exact off1_mem o.2 p h
theorem fresh_comp {h g h' : Heap} {L D : Addr} {news rest : List (Addr × Obj)} {o : Obj} (kb : KeepBut (news.map (·.1)) h g) (N : News g L h' ((D, o) :: rest)) (off : ∀ p ∈ news, @Ne Nat p.1 D) : h.get? D = none := by
  cases e : h.get? D with
  | none => rfl
  | some q =>
    have := kb D q (fun hm => by obtain ⟨p, hp, e⟩ := List.mem_map.mp hm; exact off p hp e) e
    rw [(N _ (.head _)).2.2] at this
    cases this
theorem pairs_spec {x d l : Addr} {its : List Value} {n : Nat} {t : Tok} {rs : List (Int × Int)} {Q : Value → Shared → Prop} (hb : base.StaysIn s.heap) (X : (L2H.hd.heap_39 w.params).In base) (T : Top p loose mean mg mb base)
    (r : RSAt w.params base s.heap x d l its n t) (y : Rngs s.heap its rs) (hA : A.depth < 790) (hh : A.handled = none) (hz : rs.length ≤ 10000)
    (h : ∀ D h' tk ys c, s.heap.StaysIn h' → s.heap.get? D = none → h'.get? D = some (listOf (List.toArray ys) c) → ListP IsPair (fun a o => h'.get? a = some o ∧ s.heap.get? a = none) ys rs → Q (.ref D) { s with heap := h', toks := tk }) :
    wpAny (model prog w) A (call (.ref 127) [.ref x]) Q E s := by
  refine call_code (enterK _ hb X T (rs_news r) (by k_is) (by k_is) (Nat.lt_of_lt_of_le hA (by decide)) (BindsTo.of_eq (binds := [(Str.ofString "ranges", .ref x)]) rfl) (locs rfl) ?_ rfl rfl rfl (by decide))
  intro g L h₁ F N Xg Tg sg kb lt
  have yg := rngs_ground r y kb
  have hzi : its.length = rs.length := y.length
  k_steps
  refine comp_open (cl := []) rfl rfl (by decide) ?_
  k_steps
  rename Fr _ _ _ _ => F
  rename News _ _ _ _ => N
  refine m_iter (base := base) (its := its) (n := n) (t := t) (d := d) (l := l) (fun b o e => F.keep b o (sg b o e)) X T F Xg ⟨N.get (by k_mem), N.get (by k_mem), N.get (by k_mem), r.nx, r.nd, r.nl⟩ (dlt hA) ?_
  intro h₃ tk₃ I st₃ fI hit
  obtain ⟨LI, gI, offI⟩ := fresh_off F N fI
  replace F := F.keeps st₃
  replace N := N.grown st₃
  have NNm : (l, listOf its.toArray n) ∈ [(x, instObj 118 d), (d, rdict w.params l t), (l, listOf its.toArray n)] := by k_mem
  refine comp_listit_ro hh (by omega) ⟨_, N.get NNm, rfl, _, rfl⟩ hit (by decide) rfl rfl F N LI gI offI (.inr ⟨_, NNm, rfl, _, rfl⟩) (fun i ys P => ListP IsPair (fun a o => P a o ∧ g.get? a = none) ys (rs.take i)) (fun i ys P P' k r => r.mono fun a o q _ => ⟨k a o q.1, q.2⟩) .nil ?_ ?_
  · intro i v I oI C oC D₁ m₂ ys Z h₃ tk E' hv hr hC hx F N
    obtain ⟨a, lo, hi', t1, t2, t3, rfl, hd, ha⟩ := yg.get hv
    have ha' := F.keep _ _ ha
    k_steps
    refine wpAny_newTuple ?_
    have gn : g.get? h₃.objs.size = none := fresh_g F _ (Nat.le_refl _)
    refine CompStay.intro (fun b o e => Heap.get?_push_of_some _ e) ?_
    rw [take_snoc hd]
    exact (hr.mono fun a o q _ => ⟨.inl q.1, q.2⟩).append (.one ⟨.inr ⟨Heap.get?_none_of_le (Nat.le_refl _), Heap.get?_push_size _ rfl⟩, gn⟩ ⟨_, _, rfl⟩)
  intro ys' Z D h₄ tk₄ hr F N o1
  rw [hzi, List.take_length] at hr
  have fD := fresh_comp kb N fun p hp => off1_mem o1 p (List.mem_append_left _ hp)
  k_steps
  have st := stays_all (rs_news r) kb F.keep (news_mono N fun p hp => .tail _ (List.mem_append_left _ hp))
  refine h D _ _ ys' _ st fD (N (D, LCg.lst ys') (.head _)).1 (hr.mono fun a o q ⟨qq, t₁, u₁, e⟩ => ?_)
  have ha := q.1.here F N fun p hp => .tail _ hp
  refine ⟨ha, ?_⟩
  cases e2 : s.heap.get? a with
  | none => rfl
  | some o' =>
    exfalso
    by_cases hm : a ∈ ([(x, instObj 118 d), (d, rdict w.params l t), (l, listOf its.toArray n)] : List (Addr × Obj)).map (·.1)
    · obtain ⟨pp, hp, rfl⟩ := List.mem_map.mp hm
      have := (N pp (.tail _ (List.mem_append_left _ hp))).1
      rw [ha] at this
      have this := Option.some.inj this
      subst e
      simp only [List.mem_cons, List.not_mem_nil, or_false] at hp
      rcases hp with rfl | rfl | rfl
      · simp at this
      · simp at this
      · simp [W.listOf] at this
    · have := kb a o' hm e2
      rw [q.2] at this; cases this

end
end L2
end

section
open PySem PySem.W PySem.Calls PyProof.Rows RS
open PySem.SeqAt
set_option maxRecDepth 100000
set_option maxHeartbeats 0
set_option linter.unusedVariables false
namespace L2
theorem warm_count2 : (fun (_ : OpenLaw) (_ : Params → Frag) => True) PySem.Challenge.rw_lg0001_02 L2H.hd.heap_39 := by w_top off; k_fill; trivial
section
variable {prog : Program} {w : World} {A : Around} {E : Value → Shared → Prop} {s : Shared} {base : Heap} {p : Program} {loose : List Str} {mean : ExcName → Option Value} {mg mb : Str → Option Value}
theorem rs_sum {l : Addr} {vs : List Value} {ns : List Int} {Q : Value → Shared → Prop} (hh : A.handled = none) (hl : s.heap.IsList l vs.toArray) (hi : IntsAre vs ns)
    (h : ∀ h' tk t', s.heap.StaysIn h' → Q (.int ns.sum t') { s with heap := h', toks := tk }) : wpAny (model prog w) A (call (.builtin "sum") [.ref l]) Q E s := by
  obtain ⟨xs, hx⟩ := hi.allInts.items
  have hn : numsOf vs.toArray.toList = ns := by rw [show vs.toArray.toList = vs from rfl, hi.numsOf]
  rw [hx] at hl hn
  rw [nums_intItems] at hn
  refine sum_intListG hh hl fun h' tk t' hk => ?_
  have := h h' tk t' hk
  rw [preSum_eq, List.take_of_length_le (by simp), hn]
  exact this
theorem count_spec {x d l : Addr} {its : List Value} {n : Nat} {t : Tok} {rs : List (Int × Int)} {Q : Value → Shared → Prop} (hb : base.StaysIn s.heap) (X : (L2H.hd.heap_39 w.params).In base) (T : Top p loose mean mg mb base)
    (r : RSAt w.params base s.heap x d l its n t) (y : Rngs s.heap its rs) (hA : A.depth < 790) (hh : A.handled = none) (hz : rs.length ≤ 10000)
    (h : ∀ h' tk u, s.heap.StaysIn h' → Q (.int (total rs) u) { s with heap := h', toks := tk }) :
    wpAny (model prog w) A (call (.ref 132) [.ref x]) Q E s := by
  refine call_code (enterK _ hb X T (rs_news r) (by k_is) (by k_is) (Nat.lt_of_lt_of_le hA (by decide)) (BindsTo.of_eq (binds := [(Str.ofString "ranges", .ref x)]) rfl) (locs rfl) ?_ rfl rfl rfl (by decide))
  intro g L h₁ F N Xg Tg sg kb lt
  have yg := rngs_ground r y kb
  have hzi : its.length = rs.length := y.length
  k_steps
  refine comp_open (cl := []) rfl rfl (by decide) ?_
  k_steps
  rename Fr _ _ _ _ => F
  rename News _ _ _ _ => N
  refine m_iter (base := base) (its := its) (n := n) (t := t) (d := d) (l := l) (fun b o e => F.keep b o (sg b o e)) X T F Xg ⟨N.get (by k_mem), N.get (by k_mem), N.get (by k_mem), r.nx, r.nd, r.nl⟩ (dlt hA) ?_
  intro h₃ tk₃ I st₃ fI hit
  obtain ⟨LI, gI, offI⟩ := fresh_off F N fI
  replace F := F.keeps st₃
  replace N := N.grown st₃
  have NNm : (l, listOf its.toArray n) ∈ [(x, instObj 118 d), (d, rdict w.params l t), (l, listOf its.toArray n)] := by k_mem
  refine comp_listit_ro hh (by omega) ⟨_, N.get NNm, rfl, _, rfl⟩ hit (by decide) rfl rfl F N LI gI offI (.inr ⟨_, NNm, rfl, _, rfl⟩) (fun i ys P => IntsAre ys ((rs.take i).map fun q => q.2 - q.1)) (fun i ys P P' k r => r) .nil ?_ ?_
  · intro i v I oI C oC D₁ m₂ ys Z h₃ tk E' hv hr hC hx F N
    obtain ⟨a, lo, hi', t1, t2, t3, rfl, hd, ha⟩ := yg.get hv
    have ha' := F.keep _ _ ha
    k_steps
    refine CompStay.intro (stays_refl _) ?_
    rw [take_snoc hd, List.map_append]
    exact IntsAre.append hr (.cons _ _ .nil)
  intro ys' Z D h₄ tk₄ hr F N o1
  rw [hzi, List.take_length] at hr
  k_steps
  refine rs_sum hh ⟨_, (N (D, LCg.lst ys') (.head _)).1, rfl, _, rfl⟩ hr ?_
  intro h₅ tk₅ u st₅
  replace F := F.keeps st₅
  replace N := N.grown st₅
  k_steps
  have st := stays_all (rs_news r) kb F.keep (news_mono N fun p hp => .tail _ (List.mem_append_left _ hp))
  exact h _ _ u st

end
end L2
end

section
open PySem PySem.W PySem.Calls PyProof.Rows RS
open PySem.SeqAt
set_option maxRecDepth 100000
set_option maxHeartbeats 0
set_option linter.unusedVariables false
namespace L2
theorem warm_union2 : (fun (_ : OpenLaw) (_ : Params → Frag) => True) PySem.Challenge.rw_lg0001_02 L2H.hd.heap_39 := by w_top off; k_fill; trivial
section
variable {prog : Program} {w : World} {A : Around} {E : Value → Shared → Prop} {s : Shared} {base : Heap} {p : Program} {loose : List Str} {mean : ExcName → Option Value} {mg mb : Str → Option Value}
theorem union_spec {xa da la xb db lb : Addr} {itsa itsb : List Value} {na nb : Nat} {ta tb : Tok} {rsa rsb : List (Int × Int)} {Q : Value → Shared → Prop} (hb : base.StaysIn s.heap) (X : (L2H.hd.heap_39 w.params).In base) (T : Top p loose mean mg mb base)
    (r : RSAt w.params base s.heap xa da la itsa na ta) (y : Rngs s.heap itsa rsa) (ca : Canon rsa) (r' : RSAt w.params base s.heap xb db lb itsb nb tb) (y' : Rngs s.heap itsb rsb) (cb : Canon rsb) (hA : A.depth < 770) (hh : A.handled = none) (hz : rsa.length + rsb.length ≤ 10000)
    (h : ∀ x d l h' tk its n t, s.heap.StaysIn h' → RSAt w.params base h' x d l its n t → Rngs h' its (addAll rsb rsa) → (s.heap.get? x = none ∧ s.heap.get? d = none ∧ s.heap.get? l = none) → Q (.ref x) { s with heap := h', toks := tk }) :
    wpAny (model prog w) A (call (.ref 137) [.ref xa, .ref xb]) Q E s := by
  have hN : ∀ q ∈ [(xa, instObj 118 da), (da, rdict w.params la ta), (la, listOf itsa.toArray na), (xb, instObj 118 db), (db, rdict w.params lb tb), (lb, listOf itsb.toArray nb)], s.heap.get? q.1 = some q.2 ∧ base.get? q.1 = none := by
    intro q hq
    rcases List.mem_append.mp (show q ∈ [(xa, instObj 118 da), (da, rdict w.params la ta), (la, listOf itsa.toArray na)] ++ [(xb, instObj 118 db), (db, rdict w.params lb tb), (lb, listOf itsb.toArray nb)] from hq) with hq | hq
    · exact rs_news r q hq
    · exact rs_news r' q hq
  refine call_code (enterK _ hb X T hN (by k_is) (by k_is) (Nat.lt_of_lt_of_le hA (by decide)) (BindsTo.of_eq (binds := [(Str.ofString "left", .ref xa), (Str.ofString "right", .ref xb)]) rfl) (locs rfl) ?_ rfl rfl rfl (by decide))
  intro g L h₁ F N Xg Tg sg kb lt
  have inW : ∀ b lo hi t1 t2 t3, s.heap.get? b = some (rngO lo hi t1 t2 t3) → g.get? b = some (rngO lo hi t1 t2 t3) := fun b lo hi t1 t2 t3 e => kb b _ (fun hm => by
    simp only [List.map_cons, List.map_nil, List.mem_cons, List.not_mem_nil, or_false] at hm
    rcases hm with q | q | q | q | q | q
    · rw [q, r.inst] at e; simp at e
    · rw [q, r.dict] at e; simp at e
    · rw [q, r.list] at e; simp at e
    · rw [q, r'.inst] at e; simp at e
    · rw [q, r'.dict] at e; simp at e
    · rw [q, r'.list] at e; simp at e) e
  have yg := y.keeps inW
  have yg' := y'.keeps inW
  have hza : itsa.length = rsa.length := y.length
  have hzb : itsb.length = rsb.length := y'.length
  have kb0 := kb
  k_steps
  refine comp_open (cl := []) rfl rfl (by decide) ?_
  k_steps
  rename Fr _ _ _ _ => F
  rename News _ _ _ _ => N
  refine m_iter (base := base) (its := itsa) (n := na) (t := ta) (d := da) (l := la) (fun b o e => F.keep b o (sg b o e)) X T F Xg ⟨N.get (by k_mem), N.get (by k_mem), N.get (by k_mem), r.nx, r.nd, r.nl⟩ (dlt hA) ?_
  intro h₃ tk₃ I st₃ fI hit
  obtain ⟨LI, gI, offI⟩ := fresh_off F N fI
  replace F := F.keeps st₃
  replace N := N.grown st₃
  have NNm : (la, listOf itsa.toArray na) ∈ [(xa, instObj 118 da), (da, rdict w.params la ta), (la, listOf itsa.toArray na), (xb, instObj 118 db), (db, rdict w.params lb tb), (lb, listOf itsb.toArray nb)] := by k_mem
  refine comp_listit_ro hh (by omega) ⟨_, N.get NNm, rfl, _, rfl⟩ hit (by decide) rfl rfl F N LI gI offI (.inr ⟨_, NNm, rfl, _, rfl⟩) (fun i ys P => ys = itsa.take i) (fun i ys P P' k r => r) (by simp) ?_ ?_
  · intro i v I oI C oC D₁ m₂ ys Z h₃ tk E' hv hr hC hx F N
    k_steps
    refine CompStay.intro (stays_refl _) ?_
    rw [hr]
    exact (take_snoc hv).symm
  intro ys Z D h₄ tk₄ hr F N o1
  rw [List.take_length] at hr
  obtain rfl := hr.symm
  clear hit fI offI gI LI st₃
  replace N : News g L h₄ ((D, LCg.lst itsa) :: [(xa, instObj 118 da), (da, rdict w.params la ta), (la, listOf itsa.toArray na), (xb, instObj 118 db), (db, rdict w.params lb tb), (lb, listOf itsb.toArray nb)]) := news_mono N fun p hp => by
    rcases List.mem_cons.mp hp with rfl | hp
    · exact .head _
    · exact .tail _ (List.mem_append_left _ hp)
  k_steps
  rename Fr _ _ _ _ => F
  rename News _ _ _ _ => N
  have hDo : (D, LCg.lst itsa) ∈ (D, LCg.lst itsa) :: (xa, instObj 118 da) :: (da, rdict w.params la ta) :: (la, listOf itsa.toArray na) :: (xb, instObj 118 db) :: (db, rdict w.params lb tb) :: (lb, listOf itsb.toArray nb) :: [] := .head _
  have yD : Rngs h₄ itsa rsa := yg.keeps fun b _ _ _ _ _ e => F.keep _ _ e
  refine new_spec (A := A.deeper _) (s := { heap := _, gens := s.gens, drawn := s.drawn, toks := _, os := s.os }) (base := base) (fun b o e => F.keep b o (sg b o e)) X T (N _ hDo).1 yD (fun q hq => ca.pos q hq) (dlt hA) hh (by omega) ?_
  intro x d l h₅ tk₅ its n t st₅ r₅ y₅ fr₅
  dsimp only at st₅ fr₅
  have N6 : News g L h₄ ((xa, instObj 118 da) :: (da, rdict w.params la ta) :: (la, listOf itsa.toArray na) :: (xb, instObj 118 db) :: (db, rdict w.params lb tb) :: (lb, listOf itsb.toArray nb) :: []) := news_mono N fun p hp => .tail _ hp
  have fx := fresh_at kb0 F N6 fr₅.1
  have fd := fresh_at kb0 F N6 fr₅.2.1
  have fl := fresh_at kb0 F N6 fr₅.2.2
  rw [addAll_self ca (fun q hq => ca.pos q hq) (fun _ => rfl)] at y₅
  have gx : g.get? x = none := (fresh_off F N6 fr₅.1).2.1
  have gd : g.get? d = none := (fresh_off F N6 fr₅.2.1).2.1
  have gl : g.get? l = none := (fresh_off F N6 fr₅.2.2).2.1
  have notr : ∀ p ∈ (xa, instObj 118 da) :: (da, rdict w.params la ta) :: (la, listOf itsa.toArray na) :: (xb, instObj 118 db) :: (db, rdict w.params lb tb) :: (lb, listOf itsb.toArray nb) :: [], NotRng p.2 := allC notRng_inst (allC notRng_dict (allC notRng_list (allC notRng_inst (allC notRng_dict (allC notRng_list allN)))))
  obtain ⟨Z₁, F₁, N₁, off₁, up₁, rg₁, ho₁, ho₂⟩ := l_born (oth := (xa, instObj 118 da) :: (da, rdict w.params la ta) :: (la, listOf itsa.toArray na) :: (xb, instObj 118 db) :: (db, rdict w.params lb tb) :: (lb, listOf itsb.toArray nb) :: []) (Z := []) F (by rw [List.append_nil]; exact N6) notr (fun _ h => nomatch h) st₅ ⟨r₅.inst, r₅.dict, r₅.list, gx, gd, gl⟩ y₅ fr₅
  clear F N N6
  have F := F₁
  have N := N₁
  clear F₁ N₁
  k_steps
  refine wpAny_For ?_
  k_steps
  rename Fr _ _ _ _ => F
  rename News _ _ _ _ => N
  have upb : ∀ b o, g.get? b = some o → _ := F.keep
  clear upb
  replace N : News g L _ ((x, instObj 118 d) :: (d, rdict w.params l t) :: (l, listOf its.toArray n) :: (xa, instObj 118 da) :: (da, rdict w.params la ta) :: (la, listOf itsa.toArray na) :: (xb, instObj 118 db) :: (db, rdict w.params lb tb) :: (lb, listOf itsb.toArray nb) :: Z₁) := N
  refine m_iter (base := base) (its := itsb) (n := nb) (t := tb) (d := db) (l := lb) (fun b o e => F.keep b o (sg b o e)) X T F Xg ⟨N.get (by k_mem), N.get (by k_mem), N.get (by k_mem), r'.nx, r'.nd, r'.nl⟩ (dlt hA) ?_
  intro h₆ tk₆ I st₆ fI hit
  obtain ⟨LI, gI, offI⟩ := fresh_off F N fI
  replace F := F.keeps st₆
  replace N := N.grown st₆
  dsimp only
  refine for_listit (fix := [(lb, listOf itsb.toArray nb)]) (s := { heap := h₆, gens := s.gens, drawn := s.drawn, toks := tk₆, os := s.os }) hh rfl rfl ⟨_, N.get (by k_mem), rfl, _, rfl⟩ hit gI LI (N _ (by k_mem : (lb, listOf itsb.toArray nb) ∈ _)).2.1 (.inr ⟨_, .head _⟩) F N offI
    (fun i m' news' => (∃ u, m' = (fun y => if y = Str.ofString "part" then u else if y = Str.ofString "whole" then some (Value.ref x) else List.lookup y [(Str.ofString "left", Value.ref xa), (Str.ofString "right", Value.ref xb)].reverse)) ∧
      ∃ its n Z, news' = (x, instObj 118 d) :: (d, rdict w.params l t) :: (l, listOf (List.toArray its) n) :: (xa, instObj 118 da) :: (da, rdict w.params la ta) :: (la, listOf itsa.toArray na) :: (xb, instObj 118 db) :: (db, rdict w.params lb tb) :: (lb, listOf itsb.toArray nb) :: Z ∧ (∀ p ∈ Z, p.1 ∉ [x, d, l, xa, da, la, xb, db, lb]) ∧ RngsP (Src g Z) its (addAll (rsb.take i) rsa) ∧ Canon (addAll (rsb.take i) rsa)) ?_ ⟨⟨_, map_self⟩, its, n, Z₁, rfl, off₁, rg₁, ca⟩ ?_ ?_
  · rintro i m' news' ⟨_, its, n, Z, rfl, _⟩ q hq
    rw [List.mem_singleton.mp hq]; k_mem
  · rintro i v oI m' news' h₇ tk₇ hoI hi ⟨⟨u, rfl⟩, its, n, Z, rfl, offZ, rg, can⟩ off F N
    obtain ⟨b, lo, hi', t1, t2, t3, rfl, hq, ha⟩ := yg'.get hi
    have ha' := F.keep _ _ ha
    have hpos : lo < hi' := cb.pos _ (List.mem_of_getElem? hq)
    have hil := (List.getElem?_eq_some_iff.mp hq).1
    have hlen := addAll_len (rsb.take i) rsa
    rw [List.length_take] at hlen
    have hoT : ∀ p ∈ (I, oI) :: (xa, instObj 118 da) :: (da, rdict w.params la ta) :: (la, listOf itsa.toArray na) :: (xb, instObj 118 db) :: (db, rdict w.params lb tb) :: (lb, listOf itsb.toArray nb) :: [], p.1 ∉ [x, d, l] ∧ NotRng p.2 := by
      exact allC ⟨off_ne off [0, 1, 2] rfl, notRng_cls hoI⟩ fun p hp => ⟨ho₁ p hp, notr p hp⟩
    have offI : ∀ p ∈ Z, p.1 ≠ I := fun p hp => off p (dropL_mem (n := 9) hp)
    walk
    rename Fr _ _ _ _ => F
    rename News _ _ _ _ => N
    refine l_add (A := A.deeper _) (s := { heap := _, gens := s.gens, drawn := s.drawn, toks := _, os := s.os }) (oth := (I, oI) :: (xa, instObj 118 da) :: (da, rdict w.params la ta) :: (la, listOf itsa.toArray na) :: (xb, instObj 118 db) :: (db, rdict w.params lb tb) :: (lb, listOf itsb.toArray nb) :: []) (Z := Z) Xg Tg F (news_pick N [1, 2, 3, 0, 4, 5, 6, 7, 8, 9] 10 rfl) hoT (fun p hp => pick_off (List.not_mem_cons_of_ne_of_not_mem (offI p hp) (offZ p hp)) [1, 2, 3, 0, 4, 5, 6, 7, 8, 9] 10 rfl) rg (by omega) hpos ?_ (dlt hA) hh
    clear F N
    intro h₈ tk₈ its' n' Z' F N off' up' rg'
    replace N : News g L h₈ ((x, instObj 118 d) :: (d, rdict w.params l t) :: (l, listOf its'.toArray n') :: (I, oI) :: (xa, instObj 118 da) :: (da, rdict w.params la ta) :: (la, listOf itsa.toArray na) :: (xb, instObj 118 db) :: (db, rdict w.params lb tb) :: (lb, listOf itsb.toArray nb) :: Z') := N
    walk
    rename Fr _ _ _ _ => F
    rename News _ _ _ _ => N
    refine ⟨_, _, _, (x, instObj 118 d) :: (d, rdict w.params l t) :: (l, listOf its'.toArray n') :: (xa, instObj 118 da) :: (da, rdict w.params la ta) :: (la, listOf itsa.toArray na) :: (xb, instObj 118 db) :: (db, rdict w.params lb tb) :: (lb, listOf itsb.toArray nb) :: Z', rfl, F, news_pick N [3, 0, 1, 2, 4, 5, 6, 7, 8, 9] 10 rfl, ?_, ⟨_, map_over⟩, its', n', Z', rfl, ?_, ?_, ?_⟩
    · exact ne_led 9 3 (off_ne off [0, 1, 2, 3, 4, 5, 6, 7, 8] rfl) rfl rfl off' rfl
    · exact fun p hp => pick_off (off' p hp) [0, 1, 2, 4, 5, 6, 7, 8, 9] 10 rfl
    · rw [take_snoc hq, addAll_snoc]; exact rg'
    · rw [take_snoc hq, addAll_snoc]; exact addL_canon hpos can
  · rintro m' news' h₇ tk₇ ⟨⟨u, rfl⟩, its, n, Z, rfl, offZ, rg, can⟩ F N
    rw [hzb, List.take_length] at rg
    walk
    rename Fr _ _ _ _ => F
    rename News _ _ _ _ => N
    have bn : ∀ b, s.heap.get? b = none → base.get? b = none := fun b e => by
      cases q : base.get? b with
      | none => rfl
      | some o => rw [hb _ _ q] at e; cases e
    have st := stays_all hN kb0 F.keep (news_mono N (pickN_sub [3, 4, 5, 6, 7, 8] rfl))
    exact h x d l _ _ its n t st ⟨N.get (by k_mem), N.get (by k_mem), N.get (by k_mem), bn _ fx, bn _ fd, bn _ fl⟩ (rg.to fun a o q => q.here F N fun p hp => dropL_mem (n := 9) hp) ⟨fx, fd, fl⟩

end
end L2
end

section
open PySem PySem.W PySem.Calls PyProof.Rows RS
open PySem.SeqAt
set_option maxRecDepth 100000
set_option maxHeartbeats 0
set_option linter.unusedVariables false
namespace L2
theorem warm_less2 : (fun (_ : OpenLaw) (_ : Params → Frag) => True) PySem.Challenge.rw_lg0001_02 L2H.hd.heap_39 := by w_top off; k_fill; trivial
section
variable {prog : Program} {w : World} {A : Around} {E : Value → Shared → Prop} {s : Shared} {base : Heap} {p : Program} {loose : List Str} {mean : ExcName → Option Value} {mg mb : Str → Option Value}
theorem less_spec {xa da la xb db lb : Addr} {itsa itsb : List Value} {na nb : Nat} {ta tb : Tok} {rsa rsb : List (Int × Int)} {Q : Value → Shared → Prop} (hb : base.StaysIn s.heap) (X : (L2H.hd.heap_39 w.params).In base) (T : Top p loose mean mg mb base)
    (r : RSAt w.params base s.heap xa da la itsa na ta) (y : Rngs s.heap itsa rsa) (ca : Canon rsa) (r' : RSAt w.params base s.heap xb db lb itsb nb tb) (y' : Rngs s.heap itsb rsb) (cb : Canon rsb) (hA : A.depth < 770) (hh : A.handled = none) (hz : rsa.length + rsb.length ≤ 10000)
    (h : ∀ x d l h' tk its n t, s.heap.StaysIn h' → RSAt w.params base h' x d l its n t → Rngs h' its (subAll rsb rsa) → (s.heap.get? x = none ∧ s.heap.get? d = none ∧ s.heap.get? l = none) → Q (.ref x) { s with heap := h', toks := tk }) :
    wpAny (model prog w) A (call (.ref 142) [.ref xa, .ref xb]) Q E s := by
  have hN : ∀ q ∈ [(xa, instObj 118 da), (da, rdict w.params la ta), (la, listOf itsa.toArray na), (xb, instObj 118 db), (db, rdict w.params lb tb), (lb, listOf itsb.toArray nb)], s.heap.get? q.1 = some q.2 ∧ base.get? q.1 = none := by
    intro q hq
    rcases List.mem_append.mp (show q ∈ [(xa, instObj 118 da), (da, rdict w.params la ta), (la, listOf itsa.toArray na)] ++ [(xb, instObj 118 db), (db, rdict w.params lb tb), (lb, listOf itsb.toArray nb)] from hq) with hq | hq
    · exact rs_news r q hq
    · exact rs_news r' q hq
  refine call_code (enterK _ hb X T hN (by k_is) (by k_is) (Nat.lt_of_lt_of_le hA (by decide)) (BindsTo.of_eq (binds := [(Str.ofString "left", .ref xa), (Str.ofString "right", .ref xb)]) rfl) (locs rfl) ?_ rfl rfl rfl (by decide))
  intro g L h₁ F N Xg Tg sg kb lt
  have inW : ∀ b lo hi t1 t2 t3, s.heap.get? b = some (rngO lo hi t1 t2 t3) → g.get? b = some (rngO lo hi t1 t2 t3) := fun b lo hi t1 t2 t3 e => kb b _ (fun hm => by
    simp only [List.map_cons, List.map_nil, List.mem_cons, List.not_mem_nil, or_false] at hm
    rcases hm with q | q | q | q | q | q
    · rw [q, r.inst] at e; simp at e
    · rw [q, r.dict] at e; simp at e
    · rw [q, r.list] at e; simp at e
    · rw [q, r'.inst] at e; simp at e
    · rw [q, r'.dict] at e; simp at e
    · rw [q, r'.list] at e; simp at e) e
  have yg := y.keeps inW
  have yg' := y'.keeps inW
  have hza : itsa.length = rsa.length := y.length
  have hzb : itsb.length = rsb.length := y'.length
  have kb0 := kb
  k_steps
  refine comp_open (cl := []) rfl rfl (by decide) ?_
  k_steps
  rename Fr _ _ _ _ => F
  rename News _ _ _ _ => N
  refine m_iter (base := base) (its := itsa) (n := na) (t := ta) (d := da) (l := la) (fun b o e => F.keep b o (sg b o e)) X T F Xg ⟨N.get (by k_mem), N.get (by k_mem), N.get (by k_mem), r.nx, r.nd, r.nl⟩ (dlt hA) ?_
  intro h₃ tk₃ I st₃ fI hit
  obtain ⟨LI, gI, offI⟩ := fresh_off F N fI
  replace F := F.keeps st₃
  replace N := N.grown st₃
  have NNm : (la, listOf itsa.toArray na) ∈ [(xa, instObj 118 da), (da, rdict w.params la ta), (la, listOf itsa.toArray na), (xb, instObj 118 db), (db, rdict w.params lb tb), (lb, listOf itsb.toArray nb)] := by k_mem
  refine comp_listit_ro hh (by omega) ⟨_, N.get NNm, rfl, _, rfl⟩ hit (by decide) rfl rfl F N LI gI offI (.inr ⟨_, NNm, rfl, _, rfl⟩) (fun i ys P => ys = itsa.take i) (fun i ys P P' k r => r) (by simp) ?_ ?_
  · intro i v I oI C oC D₁ m₂ ys Z h₃ tk E' hv hr hC hx F N
    k_steps
    refine CompStay.intro (stays_refl _) ?_
    rw [hr]
    exact (take_snoc hv).symm
  intro ys Z D h₄ tk₄ hr F N o1
  rw [List.take_length] at hr
  obtain rfl := hr.symm
  clear hit fI offI gI LI st₃
  replace N : News g L h₄ ((D, LCg.lst itsa) :: [(xa, instObj 118 da), (da, rdict w.params la ta), (la, listOf itsa.toArray na), (xb, instObj 118 db), (db, rdict w.params lb tb), (lb, listOf itsb.toArray nb)]) := news_mono N fun p hp => by
    rcases List.mem_cons.mp hp with rfl | hp
    · exact .head _
    · exact .tail _ (List.mem_append_left _ hp)
  k_steps
  rename Fr _ _ _ _ => F
  rename News _ _ _ _ => N
  have hDo : (D, LCg.lst itsa) ∈ (D, LCg.lst itsa) :: (xa, instObj 118 da) :: (da, rdict w.params la ta) :: (la, listOf itsa.toArray na) :: (xb, instObj 118 db) :: (db, rdict w.params lb tb) :: (lb, listOf itsb.toArray nb) :: [] := .head _
  have yD : Rngs h₄ itsa rsa := yg.keeps fun b _ _ _ _ _ e => F.keep _ _ e
  refine new_spec (A := A.deeper _) (s := { heap := _, gens := s.gens, drawn := s.drawn, toks := _, os := s.os }) (base := base) (fun b o e => F.keep b o (sg b o e)) X T (N _ hDo).1 yD (fun q hq => ca.pos q hq) (dlt hA) hh (by omega) ?_
  intro x d l h₅ tk₅ its n t st₅ r₅ y₅ fr₅
  dsimp only at st₅ fr₅
  have N6 : News g L h₄ ((xa, instObj 118 da) :: (da, rdict w.params la ta) :: (la, listOf itsa.toArray na) :: (xb, instObj 118 db) :: (db, rdict w.params lb tb) :: (lb, listOf itsb.toArray nb) :: []) := news_mono N fun p hp => .tail _ hp
  have fx := fresh_at kb0 F N6 fr₅.1
  have fd := fresh_at kb0 F N6 fr₅.2.1
  have fl := fresh_at kb0 F N6 fr₅.2.2
  rw [addAll_self ca (fun q hq => ca.pos q hq) (fun _ => rfl)] at y₅
  have gx : g.get? x = none := (fresh_off F N6 fr₅.1).2.1
  have gd : g.get? d = none := (fresh_off F N6 fr₅.2.1).2.1
  have gl : g.get? l = none := (fresh_off F N6 fr₅.2.2).2.1
  have notr : ∀ p ∈ (xa, instObj 118 da) :: (da, rdict w.params la ta) :: (la, listOf itsa.toArray na) :: (xb, instObj 118 db) :: (db, rdict w.params lb tb) :: (lb, listOf itsb.toArray nb) :: [], NotRng p.2 := allC notRng_inst (allC notRng_dict (allC notRng_list (allC notRng_inst (allC notRng_dict (allC notRng_list allN)))))
  obtain ⟨Z₁, F₁, N₁, off₁, up₁, rg₁, ho₁, ho₂⟩ := l_born (oth := (xa, instObj 118 da) :: (da, rdict w.params la ta) :: (la, listOf itsa.toArray na) :: (xb, instObj 118 db) :: (db, rdict w.params lb tb) :: (lb, listOf itsb.toArray nb) :: []) (Z := []) F (by rw [List.append_nil]; exact N6) notr (fun _ h => nomatch h) st₅ ⟨r₅.inst, r₅.dict, r₅.list, gx, gd, gl⟩ y₅ fr₅
  clear F N N6
  have F := F₁
  have N := N₁
  clear F₁ N₁
  k_steps
  refine wpAny_For ?_
  k_steps
  rename Fr _ _ _ _ => F
  rename News _ _ _ _ => N
  have upb : ∀ b o, g.get? b = some o → _ := F.keep
  clear upb
  replace N : News g L _ ((x, instObj 118 d) :: (d, rdict w.params l t) :: (l, listOf its.toArray n) :: (xa, instObj 118 da) :: (da, rdict w.params la ta) :: (la, listOf itsa.toArray na) :: (xb, instObj 118 db) :: (db, rdict w.params lb tb) :: (lb, listOf itsb.toArray nb) :: Z₁) := N
  refine m_iter (base := base) (its := itsb) (n := nb) (t := tb) (d := db) (l := lb) (fun b o e => F.keep b o (sg b o e)) X T F Xg ⟨N.get (by k_mem), N.get (by k_mem), N.get (by k_mem), r'.nx, r'.nd, r'.nl⟩ (dlt hA) ?_
  intro h₆ tk₆ I st₆ fI hit
  obtain ⟨LI, gI, offI⟩ := fresh_off F N fI
  replace F := F.keeps st₆
  replace N := N.grown st₆
  dsimp only
  refine for_listit (fix := [(lb, listOf itsb.toArray nb)]) (s := { heap := h₆, gens := s.gens, drawn := s.drawn, toks := tk₆, os := s.os }) hh rfl rfl ⟨_, N.get (by k_mem), rfl, _, rfl⟩ hit gI LI (N _ (by k_mem : (lb, listOf itsb.toArray nb) ∈ _)).2.1 (.inr ⟨_, .head _⟩) F N offI
    (fun i m' news' => (∃ u, m' = (fun y => if y = Str.ofString "part" then u else if y = Str.ofString "rest" then some (Value.ref x) else List.lookup y [(Str.ofString "left", Value.ref xa), (Str.ofString "right", Value.ref xb)].reverse)) ∧
      ∃ its n Z, news' = (x, instObj 118 d) :: (d, rdict w.params l t) :: (l, listOf (List.toArray its) n) :: (xa, instObj 118 da) :: (da, rdict w.params la ta) :: (la, listOf itsa.toArray na) :: (xb, instObj 118 db) :: (db, rdict w.params lb tb) :: (lb, listOf itsb.toArray nb) :: Z ∧ (∀ p ∈ Z, p.1 ∉ [x, d, l, xa, da, la, xb, db, lb]) ∧ RngsP (Src g Z) its (subAll (rsb.take i) rsa) ∧ Canon (subAll (rsb.take i) rsa)) ?_ ⟨⟨_, map_self⟩, its, n, Z₁, rfl, off₁, rg₁, ca⟩ ?_ ?_
  · rintro i m' news' ⟨_, its, n, Z, rfl, _⟩ q hq
    rw [List.mem_singleton.mp hq]; k_mem
  · rintro i v oI m' news' h₇ tk₇ hoI hi ⟨⟨u, rfl⟩, its, n, Z, rfl, offZ, rg, can⟩ off F N
    obtain ⟨b, lo, hi', t1, t2, t3, rfl, hq, ha⟩ := yg'.get hi
    have ha' := F.keep _ _ ha
    have hpos : lo < hi' := cb.pos _ (List.mem_of_getElem? hq)
    have hil := (List.getElem?_eq_some_iff.mp hq).1
    have hlen := subAll_len (rsb.take i) rsa
    rw [List.length_take] at hlen
    have hoT : ∀ p ∈ (I, oI) :: (xa, instObj 118 da) :: (da, rdict w.params la ta) :: (la, listOf itsa.toArray na) :: (xb, instObj 118 db) :: (db, rdict w.params lb tb) :: (lb, listOf itsb.toArray nb) :: [], p.1 ∉ [x, d, l] ∧ NotRng p.2 := by
      exact allC ⟨off_ne off [0, 1, 2] rfl, notRng_cls hoI⟩ fun p hp => ⟨ho₁ p hp, notr p hp⟩
    have offI : ∀ p ∈ Z, p.1 ≠ I := fun p hp => off p (dropL_mem (n := 9) hp)
    walk
    rename Fr _ _ _ _ => F
    rename News _ _ _ _ => N
    refine l_sub (A := A.deeper _) (s := { heap := _, gens := s.gens, drawn := s.drawn, toks := _, os := s.os }) (oth := (I, oI) :: (xa, instObj 118 da) :: (da, rdict w.params la ta) :: (la, listOf itsa.toArray na) :: (xb, instObj 118 db) :: (db, rdict w.params lb tb) :: (lb, listOf itsb.toArray nb) :: []) (Z := Z) Xg Tg F (news_pick N [1, 2, 3, 0, 4, 5, 6, 7, 8, 9] 10 rfl) hoT (fun p hp => pick_off (List.not_mem_cons_of_ne_of_not_mem (offI p hp) (offZ p hp)) [1, 2, 3, 0, 4, 5, 6, 7, 8, 9] 10 rfl) rg (by omega) hpos ?_ (dlt hA) hh
    clear F N
    intro h₈ tk₈ its' n' Z' F N off' up' rg'
    replace N : News g L h₈ ((x, instObj 118 d) :: (d, rdict w.params l t) :: (l, listOf its'.toArray n') :: (I, oI) :: (xa, instObj 118 da) :: (da, rdict w.params la ta) :: (la, listOf itsa.toArray na) :: (xb, instObj 118 db) :: (db, rdict w.params lb tb) :: (lb, listOf itsb.toArray nb) :: Z') := N
    walk
    rename Fr _ _ _ _ => F
    rename News _ _ _ _ => N
    refine ⟨_, _, _, (x, instObj 118 d) :: (d, rdict w.params l t) :: (l, listOf its'.toArray n') :: (xa, instObj 118 da) :: (da, rdict w.params la ta) :: (la, listOf itsa.toArray na) :: (xb, instObj 118 db) :: (db, rdict w.params lb tb) :: (lb, listOf itsb.toArray nb) :: Z', rfl, F, news_pick N [3, 0, 1, 2, 4, 5, 6, 7, 8, 9] 10 rfl, ?_, ⟨_, map_over⟩, its', n', Z', rfl, ?_, ?_, ?_⟩
    · exact ne_led 9 3 (off_ne off [0, 1, 2, 3, 4, 5, 6, 7, 8] rfl) rfl rfl off' rfl
    · exact fun p hp => pick_off (off' p hp) [0, 1, 2, 4, 5, 6, 7, 8, 9] 10 rfl
    · rw [take_snoc hq, subAll_snoc]; exact rg'
    · rw [take_snoc hq, subAll_snoc]; exact subL_canon hpos can
  · rintro m' news' h₇ tk₇ ⟨⟨u, rfl⟩, its, n, Z, rfl, offZ, rg, can⟩ F N
    rw [hzb, List.take_length] at rg
    walk
    rename Fr _ _ _ _ => F
    rename News _ _ _ _ => N
    have bn : ∀ b, s.heap.get? b = none → base.get? b = none := fun b e => by
      cases q : base.get? b with
      | none => rfl
      | some o => rw [hb _ _ q] at e; cases e
    have st := stays_all hN kb0 F.keep (news_mono N (pickN_sub [3, 4, 5, 6, 7, 8] rfl))
    exact h x d l _ _ its n t st ⟨N.get (by k_mem), N.get (by k_mem), N.get (by k_mem), bn _ fx, bn _ fd, bn _ fl⟩ (rg.to fun a o q => q.here F N fun p hp => dropL_mem (n := 9) hp) ⟨fx, fd, fl⟩

end
end L2
end

section
open PySem PySem.W PySem.Calls PyProof.Rows RS
open PySem.SeqAt
set_option maxRecDepth 100000
set_option maxHeartbeats 0
set_option linter.unusedVariables false
namespace L2
theorem warm_meet2 : (fun (_ : OpenLaw) (_ : Params → Frag) => True) PySem.Challenge.rw_lg0001_02 L2H.hd.heap_39 := by w_top off; k_fill; trivial
section
variable {prog : Program} {w : World} {A : Around} {E : Value → Shared → Prop} {s : Shared} {base : Heap} {p : Program} {loose : List Str} {mean : ExcName → Option Value} {mg mb : Str → Option Value}
theorem meet_spec {xa da la xb db lb : Addr} {itsa itsb : List Value} {na nb : Nat} {ta tb : Tok} {rsa rsb : List (Int × Int)} {Q : Value → Shared → Prop} (hb : base.StaysIn s.heap) (X : (L2H.hd.heap_39 w.params).In base) (T : Top p loose mean mg mb base)
    (r : RSAt w.params base s.heap xa da la itsa na ta) (y : Rngs s.heap itsa rsa) (ca : Canon rsa) (r' : RSAt w.params base s.heap xb db lb itsb nb tb) (y' : Rngs s.heap itsb rsb) (cb : Canon rsb) (hA : A.depth < 760) (hh : A.handled = none) (hz : rsa.length + (rsa.length + rsb.length) ≤ 10000)
    (h : ∀ x d l h' tk its n t, s.heap.StaysIn h' → RSAt w.params base h' x d l its n t → Rngs h' its (subAll (subAll rsb rsa) rsa) → (s.heap.get? x = none ∧ s.heap.get? d = none ∧ s.heap.get? l = none) → Q (.ref x) { s with heap := h', toks := tk }) :
    wpAny (model prog w) A (call (.ref 149) [.ref xa, .ref xb]) Q E s := by
  refine call_code (enterK [] hb X T (fun q hq => nomatch hq) (by k_is) (by k_is) (Nat.lt_of_lt_of_le hA (by decide)) (BindsTo.of_eq (binds := [(Str.ofString "left", .ref xa), (Str.ofString "right", .ref xb)]) rfl) (locs rfl) ?_ rfl rfl rfl (by decide))
  intro g L h₁ F N Xg Tg sg kb lt
  have sb : s.heap.StaysIn g := KeepBut.nil kb
  have bn : ∀ b, s.heap.get? b = none → base.get? b = none := fun b e => by
    cases q : base.get? b with
    | none => rfl
    | some o => rw [hb _ _ q] at e; cases e
  have hl1 := subAll_len rsb rsa
  have c1 : Canon (subAll rsb rsa) := subAll_canon cb.pos ca
  have rk : ∀ {h : Heap} {m : Str → Option Value} {x d l : Addr} {its : List Value} {n : Nat} {t : Tok}, Fr g L h m → RSAt w.params base s.heap x d l its n t → RSAt w.params base h x d l its n t := fun F r => ⟨F.keep _ _ (sb _ _ r.inst), F.keep _ _ (sb _ _ r.dict), F.keep _ _ (sb _ _ r.list), r.nx, r.nd, r.nl⟩
  have yk : ∀ {h : Heap} {m : Str → Option Value} {its : List Value} {rs : List (Int × Int)}, Fr g L h m → Rngs s.heap its rs → Rngs h its rs := fun F y => y.keeps fun b _ _ _ _ _ e => F.keep _ _ (sb _ _ e)
  k_steps
  refine less_spec (A := A.deeper _) (s := { heap := _, gens := s.gens, drawn := s.drawn, toks := _, os := s.os }) (base := base) (fun b o e => F.keep b o (sg b o e)) X T (rk F r) (yk F y) ca (rk F r') (yk F y') cb (dlt hA) hh (by omega) ?_
  intro x d l h₂ tk₂ its n t st₂ r₂ y₂ fr₂
  replace F := F.keeps st₂
  k_steps
  refine less_spec (A := A.deeper _) (s := { heap := _, gens := s.gens, drawn := s.drawn, toks := _, os := s.os }) (base := base) (fun b o e => F.keep b o (sg b o e)) X T (rk F r) (yk F y) ca r₂ y₂ c1 (dlt hA) hh (by omega) ?_
  have k₂ : s.heap.StaysIn h₂ := fun b o e => F.keep _ _ (sb _ _ e)
  have fn : ∀ b, h₂.get? b = none → s.heap.get? b = none := fun b e => by
    cases q : s.heap.get? b with
    | none => rfl
    | some o => rw [k₂ _ _ q] at e; cases e
  intro x₃ d₃ l₃ h₃ tk₃ its₃ n₃ t₃ st₃ r₃ y₃ fr₃
  replace F := F.keeps st₃
  k_steps
  exact h x₃ d₃ l₃ h₃ _ its₃ n₃ t₃ (fun b o e => F.keep _ _ (sb _ _ e)) r₃ y₃ ⟨fn _ fr₃.1, fn _ fr₃.2.1, fn _ fr₃.2.2⟩

end
end L2
end

section
open PySem PySem.W PySem.Calls PyProof.Rows RS
open PySem.SeqAt
set_option maxRecDepth 100000
set_option maxHeartbeats 0
set_option linter.unusedVariables false
namespace L2
theorem warm_sweep2 : (fun (_ : OpenLaw) (_ : Params → Frag) => True) PySem.Challenge.rw_lg0001_02 L2H.hd.heap_39 := by w_top off; k_fill; trivial
section
variable {prog : Program} {w : World} {A : Around} {E : Value → Shared → Prop} {s : Shared} {base : Heap} {p : Program} {loose : List Str} {mean : ExcName → Option Value} {mg mb : Str → Option Value}
theorem sweep_spec {l : Addr} {vs : List Value} {qs : List (Int × Int)} {kl : Nat} {Q : Value → Shared → Prop} (hb : base.StaysIn s.heap) (X : (L2H.hd.heap_39 w.params).In base) (T : Top p loose mean mg mb base)
    (hl : s.heap.get? l = some (listOf vs.toArray kl)) (y : ListP IsPair (At s.heap) vs qs) (hA : A.depth < 790) (hh : A.handled = none) (hz : qs.length < 64)
    (h : ∀ h' tk u qs', s.heap.StaysIn h' → qs'.Perm qs → qs'.Pairwise (fun a b => a.1 ≤ b.1) → Q (.int (List.foldl swStep (0, none) qs').1 u) { s with heap := h', toks := tk }) :
    wpAny (model prog w) A (call (.ref 156) [.ref l]) Q E s := by
  refine call_code (enterK [] hb X T (fun q hq => nomatch hq) (by k_is) (by k_is) (Nat.lt_of_lt_of_le hA (by decide)) (BindsTo.of_eq (binds := [(Str.ofString "pairs", .ref l)]) rfl) (locs rfl) ?_ rfl rfl rfl (by decide))
  intro g L h₁ F N Xg Tg sg kb lt
  have sb : s.heap.StaysIn g := KeepBut.nil kb
  have gl : g.get? l = some (listOf vs.toArray kl) := sb _ _ hl
  have yg := y.stays sb
  walk
  refine wpAny_For ?_
  walk
  rename Fr _ _ _ _ => F
  rename News _ _ _ _ => N
  refine sorted_pairs F N ⟨_, F.keep _ _ gl, rfl, _, rfl⟩ (yg.mono fun a o q _ => .inl q) hz ?_
  clear F N
  intro D vs' qs' c h₂ F N lD x' hperm hsort
  have hlen := hperm.length_eq
  obtain ⟨da, hda, hlen2, hd⟩ := pairs_tups (x'.mono (P' := At g) fun a o q _ => q.elim id fun q => nomatch q)
  walk
  refine for_listT (fix := [(D, listOf vs'.toArray c)]) (ds := da) hh (fun i => assigns2 (A := A.deeper _) (Pt := fun d => da[(i : Nat)]? = some d) hh rfl rfl rfl (fun v hv => by
      obtain ⟨d, _, t, u, rfl⟩ := hd _ _ hv
      exact ⟨_, _, rfl⟩)) ⟨_, N.get (by k_mem), rfl, _, rfl⟩ hda (N _ (.head _)).2.1 (.inr ⟨_, .head _⟩) F N
    (fun i m' news' => ∃ t u, m' (Str.ofString "total") = some (.int (List.foldl swStep (0, none) (qs'.take i)).1 t) ∧ m' (Str.ofString "reach") = some (optV (List.foldl swStep (0, none) (qs'.take i)).2 u) ∧ news' = [(D, listOf vs'.toArray c)]) ?_ ⟨_, 0, rfl, rfl, rfl⟩ ?_ ?_
  · rintro i m' news' ⟨t, u, _, _, rfl⟩ q hq
    exact hq
  · rintro i d I oI m' news' h₃ tk hoI hi ⟨t, u, e1, e2, rfl⟩ hlt off F N
    obtain ⟨⟨a, b⟩, hq, ta, tb, rfl⟩ := hd _ _ hi
    rw [take_snoc hq, List.foldl_append]
    generalize hst : List.foldl swStep (0, none) (qs'.take i) = st at *
    obtain ⟨tot, re⟩ := st
    dsimp only at e1 e2
    replace F : Fr g L h₃ (fun z => if z = Str.ofString "stop" then some (.int b tb) else if z = Str.ofString "start" then some (.int a ta) else m' z) := F
    replace F := fr_know (fr_know F (x := Str.ofString "total") e1) (x := Str.ofString "reach") e2
    rcases re with _ | r <;> dsimp only [optV] at F
    · walk
      rename Fr _ _ _ _ => F
      rename News _ _ _ _ => N
      exact ⟨_, _, _, _, rfl, F, N, off, _, tb, rfl, rfl, rfl⟩
    · walk
      · rename r < a => h1
        have hs : swStep (tot, some r) (a, b) = (tot + (b - a), some b) := by simp [swStep, h1]
        rename Fr _ _ _ _ => F
        rename News _ _ _ _ => N
        rw [List.foldl_cons, List.foldl_nil, hs]
        exact ⟨_, _, _, _, rfl, F, N, off, _, tb, rfl, rfl, rfl⟩
      · rename ¬ r < a => h1
        rename r < b => h2
        have hs : swStep (tot, some r) (a, b) = (tot + (b - r), some b) := by simp [swStep, h1, h2]
        rename Fr _ _ _ _ => F
        rename News _ _ _ _ => N
        rw [List.foldl_cons, List.foldl_nil, hs]
        exact ⟨_, _, _, _, rfl, F, N, off, _, tb, rfl, rfl, rfl⟩
      · rename ¬ r < a => h1
        rename ¬ r < b => h2
        have hs : swStep (tot, some r) (a, b) = (tot, some r) := by simp [swStep, h1, h2]
        rename Fr _ _ _ _ => F
        rename News _ _ _ _ => N
        rw [List.foldl_cons, List.foldl_nil, hs]
        exact ⟨_, _, _, _, rfl, F, N, off, t, u, rfl, rfl, rfl⟩
  · rintro m' news' h₃ tk ⟨t, u, e1, e2, rfl⟩ F N
    replace F := fr_know F (x := Str.ofString "total") e1
    rw [hlen2, List.take_length] at F
    walk
    exact h _ _ t qs' (fun b o e => F.keep b o (sb b o e)) hperm hsort

end
end L2
end

section
open PySem PySem.W PySem.Calls PyProof.Rows RS
open PySem.SeqAt
set_option maxRecDepth 100000
set_option maxHeartbeats 0
set_option linter.unusedVariables false
namespace L2
theorem warm_lb2 : (fun (_ : OpenLaw) (_ : Params → Frag) => True) PySem.Challenge.rw_lg0001_02 L2H.hd.heap_39 := by w_top off; k_fill; trivial
section
variable {prog : Program} {w : World} {A : Around} {E : Value → Shared → Prop} {s : Shared} {base : Heap} {p : Program} {loose : List Str} {mean : ExcName → Option Value} {mg mb : Str → Option Value}
noncomputable abbrev lawT2 (P : Params) : List Stmt := forBody (nthS (fnBody (L2H.hd.heap_39 P) 161) 3)
noncomputable abbrev lawW2 (P : Params) : List Stmt := forBody (nthS (fnBody (L2H.hd.heap_39 P) 161) 6)
noncomputable abbrev lawV2 (P : Params) : List Stmt := forBody (nthS (lawW2 P) 1)
/-- a set that the ledger tells of -/
def HasSet (P : Params) (g : Heap) (news : List (Addr × Obj)) (x : Addr) (rs : List (Int × Int)) : Prop := Canon rs ∧ ∃ d l its n t, InSet P news (Src g news) x d l its n t rs
theorem HasSet.more {P : Params} {g : Heap} {news news' : List (Addr × Obj)} {x : Addr} {rs : List (Int × Int)} (i : HasSet P g news x rs) (k : ∀ p ∈ news, p ∈ news') : HasSet P g news' x rs := by
  obtain ⟨c, d, l, its, n, t, i⟩ := i
  exact ⟨c, d, l, its, n, t, i.more k⟩
variable {g : Heap} {L : Addr} {m : Str → Option Value} {news : List (Addr × Obj)}
theorem l_fresh {h h' : Heap} {x d l : Addr} {its : List Value} {n : Nat} {t : Tok} {rs : List (Int × Int)} (F : Fr g L h m) (N : News g L h news) (st : h.StaysIn h') (r : RSAt w.params g h' x d l its n t) (y : Rngs h' its rs) (c : Canon rs) (fr : h.get? x = none ∧ h.get? d = none ∧ h.get? l = none) :
    ∃ news', (∀ p ∈ news, p ∈ news') ∧ Fr g L h' m ∧ News g L h' news' ∧ HasSet w.params g news' x rs := by
  have F' := F.keeps st
  have N' := news_rs F N st r fr
  obtain ⟨Z, NZ, _, all⟩ := ledger_all g h' L []
  refine ⟨(x, instObj 118 d) :: (d, rdict w.params l t) :: (l, listOf its.toArray n) :: (news ++ Z), fun p hp => .tail _ (.tail _ (.tail _ (List.mem_append_left _ hp))), F', ?_, c, d, l, its, n, t, .head _, .tail _ (.head _), .tail _ (.tail _ (.head _)), .of y fun a lo hi t1 t2 t3 e => ?_⟩
  · intro p hp
    simp only [List.mem_cons, List.mem_append] at hp
    rcases hp with rfl | rfl | rfl | hp | hp
    · exact N' _ (.head _)
    · exact N' _ (.tail _ (.head _))
    · exact N' _ (.tail _ (.tail _ (.head _)))
    · exact N' _ (.tail _ (.tail _ (.tail _ hp)))
    · exact NZ p hp
  · exact (src_all F' all e (List.not_mem_nil) (ns_not F'.ns e (by intro es ep q; cases q))).imp id fun q => .tail _ (.tail _ (.tail _ (List.mem_append_right _ q)))
theorem l2_union {xa xb : Addr} {ra rb : List (Int × Int)} {Q : Value → Shared → Prop} (X : (L2H.hd.heap_39 w.params).In g) (T : Top p loose mean mg mb g) (F : Fr g L s.heap m) (N : News g L s.heap news) (a : HasSet w.params g news xa ra) (b : HasSet w.params g news xb rb) (hz : ra.length + rb.length ≤ 10000)
    (h : ∀ x rs h' tk news', (∀ p ∈ news, p ∈ news') → Fr g L h' m → News g L h' news' → HasSet w.params g news' x rs → (∀ v, RS.inR rs v = (RS.inR ra v || RS.inR rb v)) → rs.length ≤ ra.length + rb.length → Q (.ref x) { s with heap := h', toks := tk })
    (hA : A.depth < 760 := by exact Nat.le_of_ble_eq_true rfl) (hh : A.handled = none := by rfl) :
    wpAny (model prog w) A (call (.ref 137) [.ref xa, .ref xb]) Q E s := by
  obtain ⟨ca, _, _, _, _, _, ia⟩ := a
  obtain ⟨cb, _, _, _, _, _, ib⟩ := b
  refine union_spec (base := g) F.keep X T (ia.at F N).1 (ia.at F N).2 ca (ib.at F N).1 (ib.at F N).2 cb (by omega) hh hz fun x d l h' tk its n t st r y fr => ?_
  obtain ⟨news', up, F', N', S⟩ := l_fresh F N st r y (addAll_canon cb.pos ca) fr
  exact h x _ h' tk news' up F' N' S (fun v => by rw [addAll_in cb.pos ca, Bool.or_comm]) (addAll_len _ _)
theorem l2_less {xa xb : Addr} {ra rb : List (Int × Int)} {Q : Value → Shared → Prop} (X : (L2H.hd.heap_39 w.params).In g) (T : Top p loose mean mg mb g) (F : Fr g L s.heap m) (N : News g L s.heap news) (a : HasSet w.params g news xa ra) (b : HasSet w.params g news xb rb) (hz : ra.length + rb.length ≤ 10000)
    (h : ∀ x rs h' tk news', (∀ p ∈ news, p ∈ news') → Fr g L h' m → News g L h' news' → HasSet w.params g news' x rs → (∀ v, RS.inR rs v = (RS.inR ra v && !RS.inR rb v)) → rs.length ≤ ra.length + rb.length → Q (.ref x) { s with heap := h', toks := tk })
    (hA : A.depth < 760 := by exact Nat.le_of_ble_eq_true rfl) (hh : A.handled = none := by rfl) :
    wpAny (model prog w) A (call (.ref 142) [.ref xa, .ref xb]) Q E s := by
  obtain ⟨ca, _, _, _, _, _, ia⟩ := a
  obtain ⟨cb, _, _, _, _, _, ib⟩ := b
  refine less_spec (base := g) F.keep X T (ia.at F N).1 (ia.at F N).2 ca (ib.at F N).1 (ib.at F N).2 cb (by omega) hh hz fun x d l h' tk its n t st r y fr => ?_
  obtain ⟨news', up, F', N', S⟩ := l_fresh F N st r y (subAll_canon cb.pos ca) fr
  exact h x _ h' tk news' up F' N' S (fun v => subAll_in cb.pos ca v) (subAll_len _ _)
theorem l2_meet {xa xb : Addr} {ra rb : List (Int × Int)} {Q : Value → Shared → Prop} (X : (L2H.hd.heap_39 w.params).In g) (T : Top p loose mean mg mb g) (F : Fr g L s.heap m) (N : News g L s.heap news) (a : HasSet w.params g news xa ra) (b : HasSet w.params g news xb rb) (hz : ra.length + (ra.length + rb.length) ≤ 10000)
    (h : ∀ x rs h' tk news', (∀ p ∈ news, p ∈ news') → Fr g L h' m → News g L h' news' → HasSet w.params g news' x rs → (∀ v, RS.inR rs v = (RS.inR ra v && RS.inR rb v)) → rs.length ≤ ra.length + (ra.length + rb.length) → Q (.ref x) { s with heap := h', toks := tk })
    (hA : A.depth < 760 := by exact Nat.le_of_ble_eq_true rfl) (hh : A.handled = none := by rfl) :
    wpAny (model prog w) A (call (.ref 149) [.ref xa, .ref xb]) Q E s := by
  obtain ⟨ca, _, _, _, _, _, ia⟩ := a
  obtain ⟨cb, _, _, _, _, _, ib⟩ := b
  have c1 : Canon (subAll rb ra) := subAll_canon cb.pos ca
  refine meet_spec (base := g) F.keep X T (ia.at F N).1 (ia.at F N).2 ca (ib.at F N).1 (ib.at F N).2 cb (by omega) hh hz fun x d l h' tk its n t st r y fr => ?_
  obtain ⟨news', up, F', N', S⟩ := l_fresh F N st r y (subAll_canon c1.pos ca) fr
  refine h x _ h' tk news' up F' N' S (fun v => ?_) (Nat.le_trans (subAll_len _ _) (Nat.add_le_add_left (subAll_len _ _) _))
  rw [subAll_in c1.pos ca, subAll_in cb.pos ca]
  cases RS.inR ra v <;> cases RS.inR rb v <;> rfl
theorem l2_eq {xa xb : Addr} {ra rb : List (Int × Int)} {Q : Value → Shared → Prop} (X : (L2H.hd.heap_39 w.params).In g) (T : Top p loose mean mg mb g) (F : Fr g L s.heap m) (N : News g L s.heap news) (a : HasSet w.params g news xa ra) (b : HasSet w.params g news xb rb)
    (h : ∀ h' tk, Fr g L h' m → News g L h' news → Q (.bool (decide (ra = rb))) { s with heap := h', toks := tk }) (hA : A.depth < 800 := by exact Nat.le_of_ble_eq_true rfl) (hu : A.units < 5000 := by exact Nat.le_of_ble_eq_true rfl) :
    wpAny (model prog w) A (compareOp .Eq (.ref xa) (.ref xb)) Q E s := by
  obtain ⟨ca, _, _, _, _, _, ia⟩ := a
  obtain ⟨cb, _, _, _, _, _, ib⟩ := b
  exact l_eq X T F N ia ib ca.pos cb.pos h hA hu
theorem l2_count {xa : Addr} {ra : List (Int × Int)} {Q : Value → Shared → Prop} (X : (L2H.hd.heap_39 w.params).In g) (T : Top p loose mean mg mb g) (F : Fr g L s.heap m) (N : News g L s.heap news) (a : HasSet w.params g news xa ra) (hz : ra.length ≤ 10000)
    (h : ∀ h' tk u, Fr g L h' m → News g L h' news → Q (.int (total ra) u) { s with heap := h', toks := tk }) (hA : A.depth < 790 := by exact Nat.le_of_ble_eq_true rfl) (hh : A.handled = none := by rfl) :
    wpAny (model prog w) A (call (.ref 132) [.ref xa]) Q E s := by
  obtain ⟨ca, _, _, _, _, _, ia⟩ := a
  exact count_spec (base := g) F.keep X T (ia.at F N).1 (ia.at F N).2 hA hh hz fun h' tk u st => h h' tk u (F.keeps st) (N.grown st)
theorem l2_len {xa : Addr} {ra : List (Int × Int)} {Q : Value → Shared → Prop} (X : (L2H.hd.heap_39 w.params).In g) (T : Top p loose mean mg mb g) (F : Fr g L s.heap m) (N : News g L s.heap news) (a : HasSet w.params g news xa ra) (hz : ra.length ≤ 100000)
    (h : ∀ h' tk u, Fr g L h' m → News g L h' news → Q (.int ra.length u) { s with heap := h', toks := tk }) (hA : A.depth < 800 := by exact Nat.le_of_ble_eq_true rfl) :
    wpAny (model prog w) A (call (.builtin "len") [.ref xa]) Q E s := by
  obtain ⟨ca, _, _, _, _, _, ia⟩ := a
  exact l_len X T F N ia hz h hA
theorem l2_in {xa : Addr} {ra : List (Int × Int)} {Q : Value → Shared → Prop} (X : (L2H.hd.heap_39 w.params).In g) (T : Top p loose mean mg mb g) (F : Fr g L s.heap m) (N : News g L s.heap news) (a : HasSet w.params g news xa ra) {v : Int} {tv : Tok}
    (h : ∀ h' tk, Fr g L h' m → News g L h' news → Q (.bool (RS.inR ra v)) { s with heap := h', toks := tk }) (hA : A.depth < 800 := by exact Nat.le_of_ble_eq_true rfl) (hh : A.handled = none := by rfl) :
    wpAny (model prog w) A (compareOp .In (.int v tv) (.ref xa)) Q E s := by
  obtain ⟨ca, _, _, _, _, _, ia⟩ := a
  exact l_in X T F N ia h hA hh
theorem l2_notIn {xa : Addr} {ra : List (Int × Int)} {Q : Value → Shared → Prop} (X : (L2H.hd.heap_39 w.params).In g) (T : Top p loose mean mg mb g) (F : Fr g L s.heap m) (N : News g L s.heap news) (a : HasSet w.params g news xa ra) {v : Int} {tv : Tok}
    (h : ∀ h' tk, Fr g L h' m → News g L h' news → Q (.bool (!RS.inR ra v)) { s with heap := h', toks := tk }) (hA : A.depth < 800 := by exact Nat.le_of_ble_eq_true rfl) (hh : A.handled = none := by rfl) :
    wpAny (model prog w) A (compareOp .NotIn (.int v tv) (.ref xa)) Q E s := by
  obtain ⟨ca, _, _, _, _, _, ia⟩ := a
  exact l_notIn X T F N ia h hA hh

end
end L2
end

section
open PySem PySem.W PySem.Calls PyProof.Rows RS
open PySem.SeqAt
set_option maxRecDepth 100000
set_option maxHeartbeats 0
set_option linter.unusedVariables false
namespace L2
theorem warm_tg2 : (fun (_ : OpenLaw) (_ : Params → Frag) => True) PySem.Challenge.rw_lg0001_02 L2H.hd.heap_39 := by w_top off; k_fill; trivial
section
variable {prog : Program} {w : World} {A : Around} {E : Value → Shared → Prop} {s : Shared} {base : Heap} {p : Program} {loose : List Str} {mean : ExcName → Option Value} {mg mb : Str → Option Value}
theorem allLt_mem {d : Addr} {l : List (Addr × Obj)} (h : AllLt d l) : ∀ p ∈ l, @LT.lt Nat _ p.1 d := by
  induction l with
  | nil => exact fun _ h => nomatch h
  | cons q r ih =>
    intro p hp
    rcases List.mem_cons.mp hp with rfl | hp
    · exact h.1
    · exact ih h.2 p hp
theorem turn2_gen {body : List Stmt} {env : Env} {g : Heap} {L f : Addr} {cd : Value} {m : Str → Option Value} {oth Z : List (Addr × Obj)} {SE DR xa da la Da : Addr} {kS kD na ka : Nat} {t : Tok} {itsa vsa sl dl : List Value} {rsa qsa : List (Int × Int)} {oC : Obj} {cv : Option Value}
    {wh bf nv : Int} {twh tbf tnv : Tok} {Q : Flow → Shared → Prop} (hex : body = dropS 1 (lawT2 w.params)) (henv : env = lawEnv w.params L f cd) (X : (L2H.hd.heap_39 w.params).In g) (T : Top p loose mean mg mb g) (F : Fr g L s.heap m)
    (N : News g L s.heap ((L + 1, oC) :: (Da, listOf vsa.toArray ka) :: (xa, instObj 118 da) :: (da, rdict w.params la t) :: (la, listOf itsa.toArray na) :: (oth ++ Z)))
    (eS : m (Str.ofString "sets") = some (.ref SE)) (eD : m (Str.ofString "drawn") = some (.ref DR)) (eW : m (Str.ofString "who") = some (.int wh twh)) (ebf : m (Str.ofString "before") = some (.int bf tbf)) (enu : m (Str.ofString "number") = some (.int nv tnv))
    (hS : (SE, listOf sl.toArray kS) ∈ oth) (hSw : sl[wh.toNat]? = some (.ref xa)) (hD : (DR, listOf dl.toArray kD) ∈ oth) (hDw : dl[wh.toNat]? = some (.ref Da)) (hw : 0 ≤ wh ∧ wh < 2 ^ 63)
    (nC : L + 1 ∉ Da :: xa :: da :: la :: oth.map (·.1)) (nD : Da ∉ (L + 1) :: xa :: da :: la :: oth.map (·.1)) (ho : ∀ p ∈ oth, p.1 ∉ [xa, da, la] ∧ NotRng p.2) (offZ : ∀ p ∈ Z, p.1 ∉ (L + 1) :: Da :: xa :: da :: la :: oth.map (·.1)) (hoC : oC.data = .cell cv)
    (rga : RngsP (Src g Z) itsa rsa) (hza : rsa.length ≤ 1000) (hzq : vsa.length ≤ 1000) (dra : ListP IsPair (Src g Z) vsa qsa)
    (h : ∀ h' tk' m' its' n' T' oC' cv' Z' a b bf' tb', Fr g L h' m' → News g L h' ((L + 1, oC') :: (Da, listOf (vsa ++ [Value.ref T']).toArray (ka + 1)) :: (xa, instObj 118 da) :: (da, rdict w.params la t) :: (la, listOf (List.toArray its') n') :: (oth ++ Z')) → (∀ p ∈ Z', p.1 ∉ (L + 1) :: Da :: xa :: da :: la :: oth.map (·.1)) →
      oC'.data = .cell cv' → (∀ a o, Src g Z a o → Src g Z' a o) → RngsP (Src g Z') its' (addL a b rsa) → a < b → ListP IsPair (Src g Z') (vsa ++ [Value.ref T']) (qsa ++ [(a, b)]) →
      m' (Str.ofString "sets") = some (.ref SE) → m' (Str.ofString "drawn") = some (.ref DR) → m' (Str.ofString "before") = some (.int bf' tb') → Q .next { s with heap := h', toks := tk' }) :
    wpAny (model prog w) (callerA.deeper env) (execs body env) Q (fun _ _ => False) s := by
  subst hex henv
  obtain ⟨hb, hs⟩ := fn_of (K := L2H.hd.heap_39 w.params) (a := 161) (by k_is)
  obtain ⟨hp₀, gn₀, dr₀, tk₀, os₀⟩ := s
  dsimp only at F N h
  unfold lawEnv lawT2 at *
  rw [hb, hs]
  clear hb hs
  dsimp only [nthS, forBody, dropS]
  have nCr : ∀ p ∈ (Da, listOf vsa.toArray ka) :: (xa, instObj 118 da) :: (da, rdict w.params la t) :: (la, listOf itsa.toArray na) :: (oth ++ Z), p.1 ≠ L + 1 := ne_all (core := (Da, listOf vsa.toArray ka) :: (xa, instObj 118 da) :: (da, rdict w.params la t) :: (la, listOf itsa.toArray na) :: oth) nC fun p hp e => offZ p hp (by rw [e]; exact .head _)
  replace F := fr_know (fr_know (fr_know (fr_know (fr_know F (x := Str.ofString "sets") eS) (x := Str.ofString "drawn") eD) (x := Str.ofString "who") eW) (x := Str.ofString "before") ebf) (x := Str.ofString "number") enu
  walk
  rename Fr _ _ _ _ => F
  rename News _ _ _ _ => N
  rename _ = PySem.Data.cell (some _) => hoC'
  rename Obj => oC'
  clear hoC
  obtain ⟨ta, tb, F⟩ : ∃ (ta tb : Tok), Fr g L _ (fun y => if y = Str.ofString "before" then some (.int nv tnv) else if y = Str.ofString "start" then some (.int (nv.fdiv 3) ta) else if y = Str.ofString "number" then some (.int nv tnv) else if y = Str.ofString "before" then some (.int bf tbf) else if y = Str.ofString "who" then some (.int wh twh) else if y = Str.ofString "drawn" then some (.ref DR) else if y = Str.ofString "sets" then some (.ref SE) else m y) := ⟨_, 0, F⟩
  have hab : nv.fdiv 3 < nv.fdiv 3 + 1 + (if bf < 0 then -bf else bf).fdiv 8 := by
    have : 0 ≤ (if bf < 0 then -bf else bf).fdiv 8 := Int.fdiv_nonneg (by split <;> omega) (by decide)
    omega
  obtain ⟨tb, hoC'⟩ : ∃ tb, oC'.data = .cell (some (.int (nv.fdiv 3 + 1 + (if bf < 0 then -bf else bf).fdiv 8) tb)) := ⟨_, hoC'⟩
  generalize (nv.fdiv 3 + 1 + (if bf < 0 then -bf else bf).fdiv 8) = b at hoC' hab
  generalize nv.fdiv 3 = a at F hab
  dsimp only
  refine rs_item (its := sl) (n := kS) N (.tail _ (.tail _ (.tail _ (.tail _ (.tail _ (List.mem_append_left _ hS)))))) hw.1 hw.2 hSw ?_
  walk
  rename Fr _ _ _ _ => F
  rename News _ _ _ _ => N
  have hoT : ∀ p ∈ (L + 1, oC') :: (Da, listOf vsa.toArray ka) :: oth, p.1 ∉ [xa, da, la] ∧ NotRng p.2 := by
    refine List.forall_mem_cons.mpr ⟨⟨fun hm => nC ?_, notRng_cell hoC'⟩, List.forall_mem_cons.mpr ⟨⟨fun hm => nD ?_, notRng_list⟩, ho⟩⟩
    · simp only [List.mem_cons, List.not_mem_nil, or_false] at hm ⊢
      exact .inr (hm.elim .inl fun q => .inr (q.elim .inl fun q => .inr (.inl q)))
    · simp only [List.mem_cons, List.not_mem_nil, or_false] at hm ⊢
      exact .inr (hm.elim .inl fun q => .inr (q.elim .inl fun q => .inr (.inl q)))
  refine l_add (s := { heap := _, gens := gn₀, drawn := dr₀, toks := _, os := os₀ }) (oth := (L + 1, oC') :: (Da, listOf vsa.toArray ka) :: oth) (Z := Z) X T F (news_cons N (by k_mem) (news_cons N (by k_mem) (news_cons N (by k_mem) (news_cons N (by k_mem) (news_cons N (by k_mem) (news_mono N fun p hp => by (repeat first | exact hp | apply List.Mem.tail))))))) hoT (fun p hp hm => offZ p hp ?_) rga (by omega) hab ?_
  · simp only [List.map_cons, List.mem_cons] at hm ⊢
    rcases hm with e | e | e | e | e | e
    · exact .inr (.inr (.inl e))
    · exact .inr (.inr (.inr (.inl e)))
    · exact .inr (.inr (.inr (.inr (.inl e))))
    · exact .inl e
    · exact .inr (.inl e)
    · exact .inr (.inr (.inr (.inr (.inr e))))
  clear F N
  intro h₁ tk₁ its' n' Z' F N off' up rg'
  have offZ' : ∀ p ∈ Z', p.1 ∉ (L + 1) :: Da :: xa :: da :: la :: oth.map (·.1) := fun p hp hm => off' p hp (by
    simp only [List.map_cons, List.mem_cons] at hm ⊢
    rcases hm with e | e | e | e | e | e
    · exact .inr (.inr (.inr (.inl e)))
    · exact .inr (.inr (.inr (.inr (.inl e))))
    · exact .inl e
    · exact .inr (.inl e)
    · exact .inr (.inr (.inl e))
    · exact .inr (.inr (.inr (.inr (.inr e)))))
  replace N : News g L h₁ ((L + 1, oC') :: (Da, listOf vsa.toArray ka) :: (xa, instObj 118 da) :: (da, rdict w.params la t) :: (la, listOf its'.toArray n') :: (oth ++ Z')) := by
    have N0 : News g L h₁ ((xa, instObj 118 da) :: (da, rdict w.params la t) :: (la, listOf its'.toArray n') :: (L + 1, oC') :: (Da, listOf vsa.toArray ka) :: (oth ++ Z')) := N
    exact news_cons N0 (by k_mem) (news_cons N0 (by k_mem) (news_cons N0 (by k_mem) (news_cons N0 (by k_mem) (news_cons N0 (by k_mem) (news_mono N0 fun p hp => by (repeat first | exact hp | apply List.Mem.tail))))))
  walk
  rename Fr _ _ _ _ => F
  rename News _ _ _ _ => N
  refine rs_item (its := dl) (n := kD) N (.tail _ (.tail _ (.tail _ (.tail _ (.tail _ (List.mem_append_left _ hD)))))) hw.1 hw.2 hDw ?_
  walk
  rename Fr _ _ _ _ => F
  rename News _ _ _ _ => N
  rename_i Tp h₂ l1
  have offT : ∀ p ∈ (Tp, tupO [.int a ta, .int b tb]) :: Z', p.1 ∉ (L + 1) :: Da :: xa :: da :: la :: oth.map (·.1) := by
    refine List.forall_mem_cons.mpr ⟨fun hm => ?_, offZ'⟩
    simp only [List.mem_cons, List.mem_map] at hm
    rcases hm with e | e | e | e | e | ⟨q, hq, e⟩
    · exact Nat.ne_of_gt l1.1 e
    · exact Nat.ne_of_gt l1.2.1 e
    · exact Nat.ne_of_gt l1.2.2.1 e
    · exact Nat.ne_of_gt l1.2.2.2.1 e
    · exact Nat.ne_of_gt l1.2.2.2.2.1 e
    · exact Nat.ne_of_lt (allLt_mem l1.2.2.2.2.2 q (List.mem_append_left _ hq)) e
  have up2 : ∀ c o, Src g Z c o → Src g ((Tp, tupO [.int a ta, .int b tb]) :: Z') c o := fun c o q => (up c o q).imp id (.tail _)
  have N1 : News g L h₂ ((Da, listOf vsa.toArray ka) :: (L + 1, oC') :: (xa, instObj 118 da) :: (da, rdict w.params la t) :: (la, listOf its'.toArray n') :: (oth ++ (Tp, tupO [.int a ta, .int b tb]) :: Z')) := by
    refine news_cons N (by k_mem) (news_cons N (by k_mem) (news_cons N (by k_mem) (news_cons N (by k_mem) (news_cons N (by k_mem) fun p hp => ?_))))
    rcases List.mem_append.mp hp with hp | hp
    · exact N p (.tail _ (.tail _ (.tail _ (.tail _ (.tail _ (.tail _ (List.mem_append_left _ hp)))))))
    · rcases List.mem_cons.mp hp with rfl | hp
      · exact N _ (.head _)
      · exact N p (.tail _ (.tail _ (.tail _ (.tail _ (.tail _ (.tail _ (List.mem_append_right _ hp)))))))
  refine rs_append (its := vsa) (n := ka) F N1 (.head (ne_all (core := (L + 1, oC') :: (xa, instObj 118 da) :: (da, rdict w.params la t) :: (la, listOf its'.toArray n') :: oth) nD fun p hp e => offT p hp (by rw [e]; exact .tail _ (.head _)))) (by omega) ?_
  clear F N N1
  intro h₃ F N
  walk
  rename Fr _ _ _ _ => F
  rename News _ _ _ _ => N
  refine h _ _ _ its' n' Tp oC' _ ((Tp, tupO [.int a ta, .int b tb]) :: Z') a b nv tnv F ?_ offT hoC' up2 (rg'.mono fun a o q => q.imp id (.tail _)) hab ((dra.mono fun a o q _ => up2 a o q).append (.one (.inr (.head _)) ⟨_, _, rfl⟩)) rfl rfl rfl
  exact news_cons N (by k_mem) (news_cons N (by k_mem) (news_cons N (by k_mem) (news_cons N (by k_mem) (news_cons N (by k_mem) (news_mono N fun p hp => by (repeat first | exact hp | apply List.Mem.tail))))))

end
end L2
end

section
open PySem PySem.W PySem.Calls PyProof.Rows RS
open PySem.SeqAt
set_option maxRecDepth 100000
set_option maxHeartbeats 0
set_option linter.unusedVariables false
namespace L2
theorem warm_tt2 : (fun (_ : OpenLaw) (_ : Params → Frag) => True) PySem.Challenge.rw_lg0001_02 L2H.hd.heap_39 := by w_top off; k_fill; trivial
section
variable {prog : Program} {w : World} {A : Around} {E : Value → Shared → Prop} {s : Shared} {base : Heap} {p : Program} {loose : List Str} {mean : ExcName → Option Value} {mg mb : Str → Option Value}
/-- what the law holds of one of its sets -/
structure Side2 (S : Addr → Obj → Prop) (its vs : List Value) (rs qs : List (Int × Int)) (i : Nat) : Prop where
  rngs : RngsP S its rs
  drawn : ListP IsPair S vs qs
  canon : Canon rs
  same : ∀ v, RS.inR rs v = RS.inR qs v
  pos : ∀ q ∈ qs, q.1 < q.2
  len : qs.length ≤ i
  rlen : rs.length ≤ i
theorem Side2.mono {S S' : Addr → Obj → Prop} {its vs : List Value} {rs qs : List (Int × Int)} {i j : Nat} (x : Side2 S its vs rs qs i) (k : ∀ a o, S a o → S' a o) (hij : i ≤ j) : Side2 S' its vs rs qs j :=
  ⟨x.rngs.mono k, x.drawn.mono fun a o q _ => k a o q, x.canon, x.same, x.pos, Nat.le_trans x.len hij, Nat.le_trans x.rlen hij⟩
theorem Side2.new {S : Addr → Obj → Prop} : Side2 S [] [] [] [] 0 := ⟨.nil, .nil, canon_nil, fun _ => rfl, (fun _ h => nomatch h), Nat.le_refl _, Nat.le_refl _⟩
/-- the law's ledger -/
abbrev led2 (P : Params) (L : Addr) (oC : Obj) (SE DR x0 d0 l0 D0 x1 d1 l1 D1 x2 d2 l2 D2 : Addr) (t0 t1 t2 : Tok) (its0 its1 its2 vs0 vs1 vs2 : List Value) (n0 n1 n2 k0 k1 k2 : Nat) (D : Addr) (oD : Obj) (Z : List (Addr × Obj)) : List (Addr × Obj) :=
  (x0, instObj 118 d0) :: (d0, rdict P l0 t0) :: (l0, listOf its0.toArray n0) :: (D0, listOf vs0.toArray k0) :: (x1, instObj 118 d1) :: (d1, rdict P l1 t1) :: (l1, listOf its1.toArray n1) :: (D1, listOf vs1.toArray k1) :: (x2, instObj 118 d2) :: (d2, rdict P l2 t2) :: (l2, listOf its2.toArray n2) :: (D2, listOf vs2.toArray k2) :: (L + 1, oC) :: (SE, listOf #[.ref x0, .ref x1, .ref x2] 0) :: (DR, listOf #[.ref D0, .ref D1, .ref D2] 0) :: (D, oD) :: Z
def LawJ2 (P : Params) (g : Heap) (L SE DR x0 d0 l0 D0 x1 d1 l1 D1 x2 d2 l2 D2 : Addr) (t0 t1 t2 : Tok) (D : Addr) (oD : Obj) (i : Nat) (m : Str → Option Value) (news : List (Addr × Obj)) : Prop :=
  ∃ oC cv its0 its1 its2 vs0 vs1 vs2 n0 n1 n2 k0 k1 k2 rs0 rs1 rs2 qs0 qs1 qs2 bf tb Z,
    m (Str.ofString "sets") = some (.ref SE) ∧ m (Str.ofString "drawn") = some (.ref DR) ∧ m (Str.ofString "before") = some (.int bf tb) ∧
    news = led2 P L oC SE DR x0 d0 l0 D0 x1 d1 l1 D1 x2 d2 l2 D2 t0 t1 t2 its0 its1 its2 vs0 vs1 vs2 n0 n1 n2 k0 k1 k2 D oD Z ∧ oC.data = .cell cv ∧
    Side2 (Src g Z) its0 vs0 rs0 qs0 i ∧ Side2 (Src g Z) its1 vs1 rs1 qs1 i ∧ Side2 (Src g Z) its2 vs2 rs2 qs2 i ∧ ∀ p ∈ Z, p.1 ∉ [x0, d0, l0, D0, x1, d1, l1, D1, x2, d2, l2, D2, L + 1, SE, DR, D]
theorem turn2_top {body : List Stmt} {env : Env} {g : Heap} {L f : Addr} {cd : Value} {m' : Str → Option Value} {news' : List (Addr × Obj)} {SE DR x0 d0 l0 D0 x1 d1 l1 D1 x2 d2 l2 D2 D I : Addr} {t0 t1 t2 : Tok} {oD oI : Obj} {i : Nat} {nv : Int} {tnv : Tok} {h : Heap} {tk : Nat}
    {Q : Flow → Shared → Prop} (hex : body = lawT2 w.params) (henv : env = lawEnv w.params L f cd) (X : (L2H.hd.heap_39 w.params).In g) (T : Top p loose mean mg mb g)
    (nd : List.Nodup [x0, d0, l0, D0, x1, d1, l1, D1, x2, d2, l2, D2, L + 1, SE, DR, D]) (hoD : oD.cls = .type "list") (hoI : oI.cls = .type "list_iterator") (J : LawJ2 w.params g L SE DR x0 d0 l0 D0 x1 d1 l1 D1 x2 d2 l2 D2 t0 t1 t2 D oD i m' news') (off : ∀ p ∈ news', p.1 ≠ I) (hi : i < 10)
    (F : Fr g L h (fun y => if y = Str.ofString "number" then some (.int nv tnv) else m' y)) (N : News g L h ((I, oI) :: news')) :
    wpAny (model prog w) (callerA.deeper env) (execs body env) (RTurn g L I oI (LawJ2 w.params g L SE DR x0 d0 l0 D0 x1 d1 l1 D1 x2 d2 l2 D2 t0 t1 t2 D oD (i + 1)) s Q) (fun _ _ => False) { s with heap := h, toks := tk } := by
  subst hex henv
  obtain ⟨hb, hs⟩ := fn_of (K := L2H.hd.heap_39 w.params) (a := 161) (by k_is)
  obtain ⟨hp₀, gn₀, dr₀, tk₀, os₀⟩ := s
  dsimp only
  obtain ⟨oC, cv, its0, its1, its2, vs0, vs1, vs2, n0, n1, n2, k0, k1, k2, rs0, rs1, rs2, qs0, qs1, qs2, bf, tb, Z, eS, eD, ebf, rfl, hoC, sd0, sd1, sd2, offZ⟩ := J
  have hII : I ∉ [x0, d0, l0, D0, x1, d1, l1, D1, x2, d2, l2, D2, L + 1, SE, DR, D] := off_ne off [0, 1, 2, 3, 4, 5, 6, 7, 8, 9, 10, 11, 12, 13, 14, 15] rfl
  have offI : ∀ p ∈ Z, p.1 ≠ I := fun p hp => off p (dropL_mem (n := 16) hp)
  have ndI := List.nodup_cons.mpr ⟨hII, nd⟩
  unfold lawEnv lawT2 at *
  rw [hb, hs]
  clear hb hs
  dsimp only [nthS, forBody, dropS]
  replace F := fr_know (fr_know (fr_know F (x := Str.ofString "sets") eS) (x := Str.ofString "drawn") eD) (x := Str.ofString "before") ebf
  refine wpAny_execs_cons ?_
  refine wpAny_mono (Q := StoreMid g L (fun y => if y = Str.ofString "before" then some (.int bf tb) else if y = Str.ofString "drawn" then some (.ref DR) else if y = Str.ofString "sets" then some (.ref SE) else if y = Str.ofString "number" then some (.int nv tnv) else m' y) ((I, oI) :: led2 w.params L oC SE DR x0 d0 l0 D0 x1 d1 l1 D1 x2 d2 l2 D2 t0 t1 t2 its0 its1 its2 vs0 vs1 vs2 n0 n1 n2 k0 k1 k2 D oD Z) (Str.ofString "who") (fun v => ∃ wh t, v = .int wh t ∧ (wh = 0 ∨ wh = 1 ∨ wh = 2)) { heap := hp₀, gens := gn₀, drawn := dr₀, toks := tk₀, os := os₀ }) ?_ ?_ fun _ _ x => x
  · walk
    rename Fr _ _ _ _ => F
    rename News _ _ _ _ => N
    refine ⟨rfl, _, _, _, rfl, ⟨_, _, rfl, ?_⟩, F, N⟩
    rw [Int.fmod_eq_emod_of_nonneg _ (by decide)]; omega
  rintro fl s' ⟨rfl, h₁, tk₁, v, rfl, ⟨wh, twh, rfl, hwh⟩, F, N⟩
  dsimp only
  rcases hwh with rfl | rfl | rfl
  · have nd0 : List.Nodup [L + 1, D0, x0, d0, l0, I, x1, d1, l1, D1, x2, d2, l2, D2, SE, DR, D] := nodup_pick ndI [13, 4, 1, 2, 3, 0, 5, 6, 7, 8, 9, 10, 11, 12, 14, 15, 16] (by decide) rfl
    have hoth : ∀ p ∈ (I, oI) :: (x1, instObj 118 d1) :: (d1, rdict w.params l1 t1) :: (l1, listOf its1.toArray n1) :: (D1, listOf vs1.toArray k1) :: (x2, instObj 118 d2) :: (d2, rdict w.params l2 t2) :: (l2, listOf its2.toArray n2) :: (D2, listOf vs2.toArray k2) :: (SE, listOf #[.ref x0, .ref x1, .ref x2] 0) :: (DR, listOf #[.ref D0, .ref D1, .ref D2] 0) :: (D, oD) :: [], p.1 ∉ [x0, d0, l0] ∧ NotRng p.2 := by
      have hq := off3n (List.nodup_cons.mp (List.nodup_cons.mp nd0).2).2
      exact allC ⟨hq _ (nthO_mem (i := 0) rfl), notRng_cls hoI⟩ (allC ⟨hq _ (nthO_mem (i := 1) rfl), notRng_inst⟩ (allC ⟨hq _ (nthO_mem (i := 2) rfl), notRng_dict⟩ (allC ⟨hq _ (nthO_mem (i := 3) rfl), notRng_list⟩ (allC ⟨hq _ (nthO_mem (i := 4) rfl), notRng_list⟩ (allC ⟨hq _ (nthO_mem (i := 5) rfl), notRng_inst⟩ (allC ⟨hq _ (nthO_mem (i := 6) rfl), notRng_dict⟩ (allC ⟨hq _ (nthO_mem (i := 7) rfl), notRng_list⟩ (allC ⟨hq _ (nthO_mem (i := 8) rfl), notRng_list⟩ (allC ⟨hq _ (nthO_mem (i := 9) rfl), notRng_list⟩ (allC ⟨hq _ (nthO_mem (i := 10) rfl), notRng_list⟩ (allC ⟨hq _ (nthO_mem (i := 11) rfl), notRng_cls hoD⟩ allN)))))))))))
    refine turn2_gen (f := f) (cd := cd) (s := { heap := h₁, gens := gn₀, drawn := dr₀, toks := tk₁, os := os₀ }) (SE := SE) (DR := DR) (kS := 0) (kD := 0) (ka := k0) (na := n0) (sl := [.ref x0, .ref x1, .ref x2]) (dl := [.ref D0, .ref D1, .ref D2]) (oth := (I, oI) :: (x1, instObj 118 d1) :: (d1, rdict w.params l1 t1) :: (l1, listOf its1.toArray n1) :: (D1, listOf vs1.toArray k1) :: (x2, instObj 118 d2) :: (d2, rdict w.params l2 t2) :: (l2, listOf its2.toArray n2) :: (D2, listOf vs2.toArray k2) :: (SE, listOf #[.ref x0, .ref x1, .ref x2] 0) :: (DR, listOf #[.ref D0, .ref D1, .ref D2] 0) :: (D, oD) :: []) (by obtain ⟨hb, _⟩ := fn_of (K := L2H.hd.heap_39 w.params) (a := 161) (by k_is); (first | unfold lawTurn | unfold lawTwo | unfold lawT2 | unfold lawV2 lawW2 | unfold lawW2 | skip); first | (rw [hb]; done) | (rw [hb]; rfl)) (by obtain ⟨_, hs⟩ := fn_of (K := L2H.hd.heap_39 w.params) (a := 161) (by k_is); unfold lawEnv; first | (rw [hs]; done) | (rw [hs]; rfl)) X T F (news_pick N [13, 4, 1, 2, 3, 0, 5, 6, 7, 8, 9, 10, 11, 12, 14, 15, 16] 17 rfl) rfl rfl rfl rfl rfl (by k_mem) rfl (by k_mem) rfl (by decide) (List.nodup_cons.mp nd0).1 (nodup_out (pre := [L + 1]) nd0) hoth (fun p hp => pick_off (List.not_mem_cons_of_ne_of_not_mem (offI p hp) (offZ p hp)) [13, 4, 1, 2, 3, 0, 5, 6, 7, 8, 9, 10, 11, 12, 14, 15, 16] 17 rfl) hoC sd0.rngs (Nat.le_trans sd0.rlen (by omega)) (by rw [sd0.drawn.length]; exact Nat.le_trans sd0.len (by omega)) sd0.drawn ?_
    clear F N
    intro h' tk' m₂ its' n' T' oC' cv' Z' a b bf' tb' F N off' hoC' up rg hab dr e1 e2 e3
    have sameadd : ∀ v, RS.inR (addL a b rs0) v = RS.inR (qs0 ++ [(a, b)]) v := half1 hab sd0.canon sd0.same
    have posadd : ∀ q ∈ qs0 ++ [(a, b)], q.1 < q.2 := fun q hq => (List.mem_append.mp hq).elim (sd0.pos q) fun hq => by rw [List.mem_singleton.mp hq]; exact hab
    refine ⟨h', tk', m₂, led2 w.params L oC' SE DR x0 d0 l0 D0 x1 d1 l1 D1 x2 d2 l2 D2 t0 t1 t2 its' its1 its2 (vs0 ++ [Value.ref T']) vs1 vs2 n' n1 n2 (k0 + 1) k1 k2 D oD Z', rfl, F, news_pick N [5, 2, 3, 4, 1, 6, 7, 8, 9, 10, 11, 12, 13, 0, 14, 15, 16] 17 rfl, ?_, ?_⟩
    · exact ne_led 16 5 hII rfl rfl off' rfl
    · exact ⟨oC', cv', its', its1, its2, (vs0 ++ [Value.ref T']), vs1, vs2, n', n1, n2, (k0 + 1), k1, k2, _, _, _, _, _, _, bf', tb', Z', e1, e2, e3, rfl, hoC', ⟨rg, dr, addL_canon hab sd0.canon, sameadd, posadd, by rw [List.length_append]; exact Nat.add_le_add_right sd0.len 1, Nat.le_trans (addL_len _ _ _) (Nat.add_le_add_right sd0.rlen 1)⟩, sd1.mono up (Nat.le_succ _), sd2.mono up (Nat.le_succ _), fun p hp => pick_off (off' p hp) [2, 3, 4, 1, 6, 7, 8, 9, 10, 11, 12, 13, 0, 14, 15, 16] 17 rfl⟩
  · have nd1 : List.Nodup [L + 1, D1, x1, d1, l1, I, x0, d0, l0, D0, x2, d2, l2, D2, SE, DR, D] := nodup_pick ndI [13, 8, 5, 6, 7, 0, 1, 2, 3, 4, 9, 10, 11, 12, 14, 15, 16] (by decide) rfl
    have hoth : ∀ p ∈ (I, oI) :: (x0, instObj 118 d0) :: (d0, rdict w.params l0 t0) :: (l0, listOf its0.toArray n0) :: (D0, listOf vs0.toArray k0) :: (x2, instObj 118 d2) :: (d2, rdict w.params l2 t2) :: (l2, listOf its2.toArray n2) :: (D2, listOf vs2.toArray k2) :: (SE, listOf #[.ref x0, .ref x1, .ref x2] 0) :: (DR, listOf #[.ref D0, .ref D1, .ref D2] 0) :: (D, oD) :: [], p.1 ∉ [x1, d1, l1] ∧ NotRng p.2 := by
      have hq := off3n (List.nodup_cons.mp (List.nodup_cons.mp nd1).2).2
      exact allC ⟨hq _ (nthO_mem (i := 0) rfl), notRng_cls hoI⟩ (allC ⟨hq _ (nthO_mem (i := 1) rfl), notRng_inst⟩ (allC ⟨hq _ (nthO_mem (i := 2) rfl), notRng_dict⟩ (allC ⟨hq _ (nthO_mem (i := 3) rfl), notRng_list⟩ (allC ⟨hq _ (nthO_mem (i := 4) rfl), notRng_list⟩ (allC ⟨hq _ (nthO_mem (i := 5) rfl), notRng_inst⟩ (allC ⟨hq _ (nthO_mem (i := 6) rfl), notRng_dict⟩ (allC ⟨hq _ (nthO_mem (i := 7) rfl), notRng_list⟩ (allC ⟨hq _ (nthO_mem (i := 8) rfl), notRng_list⟩ (allC ⟨hq _ (nthO_mem (i := 9) rfl), notRng_list⟩ (allC ⟨hq _ (nthO_mem (i := 10) rfl), notRng_list⟩ (allC ⟨hq _ (nthO_mem (i := 11) rfl), notRng_cls hoD⟩ allN)))))))))))
    refine turn2_gen (f := f) (cd := cd) (s := { heap := h₁, gens := gn₀, drawn := dr₀, toks := tk₁, os := os₀ }) (SE := SE) (DR := DR) (kS := 0) (kD := 0) (ka := k1) (na := n1) (sl := [.ref x0, .ref x1, .ref x2]) (dl := [.ref D0, .ref D1, .ref D2]) (oth := (I, oI) :: (x0, instObj 118 d0) :: (d0, rdict w.params l0 t0) :: (l0, listOf its0.toArray n0) :: (D0, listOf vs0.toArray k0) :: (x2, instObj 118 d2) :: (d2, rdict w.params l2 t2) :: (l2, listOf its2.toArray n2) :: (D2, listOf vs2.toArray k2) :: (SE, listOf #[.ref x0, .ref x1, .ref x2] 0) :: (DR, listOf #[.ref D0, .ref D1, .ref D2] 0) :: (D, oD) :: []) (by obtain ⟨hb, _⟩ := fn_of (K := L2H.hd.heap_39 w.params) (a := 161) (by k_is); (first | unfold lawTurn | unfold lawTwo | unfold lawT2 | unfold lawV2 lawW2 | unfold lawW2 | skip); first | (rw [hb]; done) | (rw [hb]; rfl)) (by obtain ⟨_, hs⟩ := fn_of (K := L2H.hd.heap_39 w.params) (a := 161) (by k_is); unfold lawEnv; first | (rw [hs]; done) | (rw [hs]; rfl)) X T F (news_pick N [13, 8, 5, 6, 7, 0, 1, 2, 3, 4, 9, 10, 11, 12, 14, 15, 16] 17 rfl) rfl rfl rfl rfl rfl (by k_mem) rfl (by k_mem) rfl (by decide) (List.nodup_cons.mp nd1).1 (nodup_out (pre := [L + 1]) nd1) hoth (fun p hp => pick_off (List.not_mem_cons_of_ne_of_not_mem (offI p hp) (offZ p hp)) [13, 8, 5, 6, 7, 0, 1, 2, 3, 4, 9, 10, 11, 12, 14, 15, 16] 17 rfl) hoC sd1.rngs (Nat.le_trans sd1.rlen (by omega)) (by rw [sd1.drawn.length]; exact Nat.le_trans sd1.len (by omega)) sd1.drawn ?_
    clear F N
    intro h' tk' m₂ its' n' T' oC' cv' Z' a b bf' tb' F N off' hoC' up rg hab dr e1 e2 e3
    have sameadd : ∀ v, RS.inR (addL a b rs1) v = RS.inR (qs1 ++ [(a, b)]) v := half1 hab sd1.canon sd1.same
    have posadd : ∀ q ∈ qs1 ++ [(a, b)], q.1 < q.2 := fun q hq => (List.mem_append.mp hq).elim (sd1.pos q) fun hq => by rw [List.mem_singleton.mp hq]; exact hab
    refine ⟨h', tk', m₂, led2 w.params L oC' SE DR x0 d0 l0 D0 x1 d1 l1 D1 x2 d2 l2 D2 t0 t1 t2 its0 its' its2 vs0 (vs1 ++ [Value.ref T']) vs2 n0 n' n2 k0 (k1 + 1) k2 D oD Z', rfl, F, news_pick N [5, 6, 7, 8, 9, 2, 3, 4, 1, 10, 11, 12, 13, 0, 14, 15, 16] 17 rfl, ?_, ?_⟩
    · exact ne_led 16 5 hII rfl rfl off' rfl
    · exact ⟨oC', cv', its0, its', its2, vs0, (vs1 ++ [Value.ref T']), vs2, n0, n', n2, k0, (k1 + 1), k2, _, _, _, _, _, _, bf', tb', Z', e1, e2, e3, rfl, hoC', sd0.mono up (Nat.le_succ _), ⟨rg, dr, addL_canon hab sd1.canon, sameadd, posadd, by rw [List.length_append]; exact Nat.add_le_add_right sd1.len 1, Nat.le_trans (addL_len _ _ _) (Nat.add_le_add_right sd1.rlen 1)⟩, sd2.mono up (Nat.le_succ _), fun p hp => pick_off (off' p hp) [6, 7, 8, 9, 2, 3, 4, 1, 10, 11, 12, 13, 0, 14, 15, 16] 17 rfl⟩
  · have nd2 : List.Nodup [L + 1, D2, x2, d2, l2, I, x0, d0, l0, D0, x1, d1, l1, D1, SE, DR, D] := nodup_pick ndI [13, 12, 9, 10, 11, 0, 1, 2, 3, 4, 5, 6, 7, 8, 14, 15, 16] (by decide) rfl
    have hoth : ∀ p ∈ (I, oI) :: (x0, instObj 118 d0) :: (d0, rdict w.params l0 t0) :: (l0, listOf its0.toArray n0) :: (D0, listOf vs0.toArray k0) :: (x1, instObj 118 d1) :: (d1, rdict w.params l1 t1) :: (l1, listOf its1.toArray n1) :: (D1, listOf vs1.toArray k1) :: (SE, listOf #[.ref x0, .ref x1, .ref x2] 0) :: (DR, listOf #[.ref D0, .ref D1, .ref D2] 0) :: (D, oD) :: [], p.1 ∉ [x2, d2, l2] ∧ NotRng p.2 := by
      have hq := off3n (List.nodup_cons.mp (List.nodup_cons.mp nd2).2).2
      exact allC ⟨hq _ (nthO_mem (i := 0) rfl), notRng_cls hoI⟩ (allC ⟨hq _ (nthO_mem (i := 1) rfl), notRng_inst⟩ (allC ⟨hq _ (nthO_mem (i := 2) rfl), notRng_dict⟩ (allC ⟨hq _ (nthO_mem (i := 3) rfl), notRng_list⟩ (allC ⟨hq _ (nthO_mem (i := 4) rfl), notRng_list⟩ (allC ⟨hq _ (nthO_mem (i := 5) rfl), notRng_inst⟩ (allC ⟨hq _ (nthO_mem (i := 6) rfl), notRng_dict⟩ (allC ⟨hq _ (nthO_mem (i := 7) rfl), notRng_list⟩ (allC ⟨hq _ (nthO_mem (i := 8) rfl), notRng_list⟩ (allC ⟨hq _ (nthO_mem (i := 9) rfl), notRng_list⟩ (allC ⟨hq _ (nthO_mem (i := 10) rfl), notRng_list⟩ (allC ⟨hq _ (nthO_mem (i := 11) rfl), notRng_cls hoD⟩ allN)))))))))))
    refine turn2_gen (f := f) (cd := cd) (s := { heap := h₁, gens := gn₀, drawn := dr₀, toks := tk₁, os := os₀ }) (SE := SE) (DR := DR) (kS := 0) (kD := 0) (ka := k2) (na := n2) (sl := [.ref x0, .ref x1, .ref x2]) (dl := [.ref D0, .ref D1, .ref D2]) (oth := (I, oI) :: (x0, instObj 118 d0) :: (d0, rdict w.params l0 t0) :: (l0, listOf its0.toArray n0) :: (D0, listOf vs0.toArray k0) :: (x1, instObj 118 d1) :: (d1, rdict w.params l1 t1) :: (l1, listOf its1.toArray n1) :: (D1, listOf vs1.toArray k1) :: (SE, listOf #[.ref x0, .ref x1, .ref x2] 0) :: (DR, listOf #[.ref D0, .ref D1, .ref D2] 0) :: (D, oD) :: []) (by obtain ⟨hb, _⟩ := fn_of (K := L2H.hd.heap_39 w.params) (a := 161) (by k_is); (first | unfold lawTurn | unfold lawTwo | unfold lawT2 | unfold lawV2 lawW2 | unfold lawW2 | skip); first | (rw [hb]; done) | (rw [hb]; rfl)) (by obtain ⟨_, hs⟩ := fn_of (K := L2H.hd.heap_39 w.params) (a := 161) (by k_is); unfold lawEnv; first | (rw [hs]; done) | (rw [hs]; rfl)) X T F (news_pick N [13, 12, 9, 10, 11, 0, 1, 2, 3, 4, 5, 6, 7, 8, 14, 15, 16] 17 rfl) rfl rfl rfl rfl rfl (by k_mem) rfl (by k_mem) rfl (by decide) (List.nodup_cons.mp nd2).1 (nodup_out (pre := [L + 1]) nd2) hoth (fun p hp => pick_off (List.not_mem_cons_of_ne_of_not_mem (offI p hp) (offZ p hp)) [13, 12, 9, 10, 11, 0, 1, 2, 3, 4, 5, 6, 7, 8, 14, 15, 16] 17 rfl) hoC sd2.rngs (Nat.le_trans sd2.rlen (by omega)) (by rw [sd2.drawn.length]; exact Nat.le_trans sd2.len (by omega)) sd2.drawn ?_
    clear F N
    intro h' tk' m₂ its' n' T' oC' cv' Z' a b bf' tb' F N off' hoC' up rg hab dr e1 e2 e3
    have sameadd : ∀ v, RS.inR (addL a b rs2) v = RS.inR (qs2 ++ [(a, b)]) v := half1 hab sd2.canon sd2.same
    have posadd : ∀ q ∈ qs2 ++ [(a, b)], q.1 < q.2 := fun q hq => (List.mem_append.mp hq).elim (sd2.pos q) fun hq => by rw [List.mem_singleton.mp hq]; exact hab
    refine ⟨h', tk', m₂, led2 w.params L oC' SE DR x0 d0 l0 D0 x1 d1 l1 D1 x2 d2 l2 D2 t0 t1 t2 its0 its1 its' vs0 vs1 (vs2 ++ [Value.ref T']) n0 n1 n' k0 k1 (k2 + 1) D oD Z', rfl, F, news_pick N [5, 6, 7, 8, 9, 10, 11, 12, 13, 2, 3, 4, 1, 0, 14, 15, 16] 17 rfl, ?_, ?_⟩
    · exact ne_led 16 5 hII rfl rfl off' rfl
    · exact ⟨oC', cv', its0, its1, its', vs0, vs1, (vs2 ++ [Value.ref T']), n0, n1, n', k0, k1, (k2 + 1), _, _, _, _, _, _, bf', tb', Z', e1, e2, e3, rfl, hoC', sd0.mono up (Nat.le_succ _), sd1.mono up (Nat.le_succ _), ⟨rg, dr, addL_canon hab sd2.canon, sameadd, posadd, by rw [List.length_append]; exact Nat.add_le_add_right sd2.len 1, Nat.le_trans (addL_len _ _ _) (Nat.add_le_add_right sd2.rlen 1)⟩, fun p hp => pick_off (off' p hp) [6, 7, 8, 9, 10, 11, 12, 13, 2, 3, 4, 1, 0, 14, 15, 16] 17 rfl⟩

end
end L2
end

section
open PySem PySem.W PySem.Calls PyProof.Rows RS
open PySem.SeqAt
set_option maxRecDepth 100000
set_option maxHeartbeats 0
set_option linter.unusedVariables false
namespace L2
theorem warm_inn2 : (fun (_ : OpenLaw) (_ : Params → Frag) => True) PySem.Challenge.rw_lg0001_02 L2H.hd.heap_39 := by w_top off; k_fill; trivial
section
variable {prog : Program} {w : World} {A : Around} {E : Value → Shared → Prop} {s : Shared} {base : Heap} {p : Program} {loose : List Str} {mean : ExcName → Option Value} {mg mb : Str → Option Value}
theorem fr_unknow {g h : Heap} {L : Addr} {m : Str → Option Value} {x : Str} {v : Value} (F : Fr g L h (fun y => if y = x then some v else m y)) (e : m x = some v) : Fr g L h m := by
  have : (fun y => if y = x then some v else m y) = m := by
    funext y
    by_cases q : y = x
    · rw [if_pos q, q, e]
    · rw [if_neg q]
  rw [this] at F; exact F
theorem inn2_spec {body : List Stmt} {env : Env} {g : Heap} {L f : Addr} {cd : Value} {m : Str → Option Value} {R : List (Addr × Obj)} {SE DR x D : Addr} {kS kD kV : Nat} {sl dl vs : List Value} {rs qs : List (Int × Int)} {oC : Obj}
    {wh a b : Int} {twh ta tb : Tok} {Q : Flow → Shared → Prop} (hex : body = lawV2 w.params) (henv : env = lawEnv w.params L f cd) (X : (L2H.hd.heap_39 w.params).In g) (T : Top p loose mean mg mb g) (F : Fr g L s.heap m) (N : News g L s.heap ((L + 1, oC) :: R))
    (nC : ∀ p ∈ R, p.1 ≠ L + 1) (hoC : oC.data = .cell (some (.int b tb))) (eS : m (Str.ofString "sets") = some (.ref SE)) (eD : m (Str.ofString "drawn") = some (.ref DR)) (eW : m (Str.ofString "who") = some (.int wh twh)) (ea : m (Str.ofString "start") = some (.int a ta))
    (hS : (SE, listOf sl.toArray kS) ∈ R) (hSw : sl[wh.toNat]? = some (.ref x)) (hD : (DR, listOf dl.toArray kD) ∈ R) (hDw : dl[wh.toNat]? = some (.ref D)) (hw : 0 ≤ wh ∧ wh < 2 ^ 63)
    (hx : HasSet w.params g R x rs) (hV : (D, listOf vs.toArray kV) ∈ R) (yP : ListP IsPair (Src g R) vs qs) (hz : vs.length ≤ 100) (hab : (a, b) ∈ qs) (lt : a < b) (same : ∀ v, RS.inR rs v = RS.inR qs v)
    (fin : ∀ h' tk', Fr g L h' m → News g L h' ((L + 1, oC) :: R) → Q .next { s with heap := h', toks := tk' }) :
    wpAny (model prog w) (callerA.deeper env) (execs body env) Q (fun _ _ => False) s := by
  subst hex henv
  obtain ⟨hb, hs⟩ := fn_of (K := L2H.hd.heap_39 w.params) (a := 161) (by k_is)
  obtain ⟨hp₀, gn₀, dr₀, tk₀, os₀⟩ := s
  dsimp only at F N fin
  unfold lawEnv lawV2 lawW2 at *
  rw [hb, hs]
  clear hb hs
  dsimp only [nthS, forBody, dropS]
  have F0 := F
  replace F := fr_know (fr_know (fr_know (fr_know F (x := Str.ofString "sets") eS) (x := Str.ofString "drawn") eD) (x := Str.ofString "who") eW) (x := Str.ofString "start") ea
  have hx' : HasSet w.params g ((L + 1, oC) :: R) x rs := hx.more fun p hp => .tail _ hp
  have i1 : RS.inR rs a = true := by rw [same]; exact inR_any.mpr ⟨_, hab, Int.le_refl _, lt⟩
  have i2 : RS.inR rs (b - 1) = true := by rw [same]; exact inR_any.mpr ⟨_, hab, by dsimp only; omega, by dsimp only; omega⟩
  walk
  rename Fr _ _ _ _ => F
  rename News _ _ _ _ => N
  refine rs_item (its := sl) (n := kS) N (.tail _ hS) hw.1 hw.2 hSw ?_
  walk
  rename Fr _ _ _ _ => F
  rename News _ _ _ _ => N
  refine l2_notIn (s := { heap := _, gens := gn₀, drawn := dr₀, toks := _, os := os₀ }) X T F N hx' ?_
  clear F N
  intro h₁ tk₁ F N
  rw [i1]
  walk
  rename Fr _ _ _ _ => F
  rename News _ _ _ _ => N
  refine rs_item (its := sl) (n := kS) N (.tail _ hS) hw.1 hw.2 hSw ?_
  walk
  rename Fr _ _ _ _ => F
  rename News _ _ _ _ => N
  refine l2_notIn (s := { heap := _, gens := gn₀, drawn := dr₀, toks := _, os := os₀ }) X T F N hx' ?_
  clear F N
  intro h₂ tk₂ F N
  rw [i2]
  walk
  rename Fr _ _ _ _ => F
  rename News _ _ _ _ => N
  refine rs_item (its := sl) (n := kS) N (.tail _ hS) hw.1 hw.2 hSw ?_
  walk
  rename Fr _ _ _ _ => F
  rename News _ _ _ _ => N
  refine l2_in (s := { heap := _, gens := gn₀, drawn := dr₀, toks := _, os := os₀ }) X T F N hx' ?_
  clear F N
  intro h₃ tk₃ F N
  walk
  refine comp_openT (cl := [(Str.ofString "stop", L + 1)]) rfl rfl (by decide) ?_
  walk
  rename Fr _ _ _ _ => F
  rename News _ _ _ _ => N
  refine rs_item (its := dl) (n := kD) N (.tail _ hD) hw.1 hw.2 hDw ?_
  walk
  rename Fr _ _ _ _ => F
  rename News _ _ _ _ => N
  refine comp_pairs (s := { heap := _, gens := gn₀, drawn := dr₀, toks := _, os := os₀ }) rfl (by omega) (by decide) rfl rfl rfl F N (.tail _ hV) (yP.mono fun a o q _ => q.imp id (.tail _)) (fun q => decide (q.1 ≤ b) && decide (b < q.2)) ?_ ?_
  · rintro i q C oC₁ m₂ Tq ⟨h₄, gn₄, dr₄, tk₄, os₄⟩ t u E' hq hC hx₂ hT F N
    dsimp only at F N
    have hT' := hT.here (I := (L + 1, oC) :: R) F N fun p hp => .tail _ hp
    walk
    refine tup_item (k := 0) hT' (by decide) (by decide) rfl ?_
    walk
    · refine tup_item (k := 1) hT' (by decide) (by decide) rfl ?_
      walk
      all_goals refine CompTest.intro ?_ fun _ _ e => e
      all_goals simp_all
    · rename ¬ _ ≤ _ => h1
      exact CompTest.intro (by rw [decide_eq_false h1]; rfl) fun _ _ e => e
  intro ys k D₁ h₅ tk₅ hys F N
  walk
  rename Fr _ _ _ _ => F
  rename News _ _ _ _ => N
  rename_i l2 _ _
  refine ne_pairs (us := []) ⟨_, (N (D₁, _) (.tail _ (.head _))).1, rfl, _, rfl⟩ (hys.mono fun a o q _ => Src.here (I := (L + 1, oC) :: R) q F N fun p hp => .tail _ (.tail _ hp)) ⟨_, (N (l2, _) (.head _)).1, rfl, _, rfl⟩ .nil (Nat.le_of_ble_eq_true rfl) ?_
  have e3 : (!decide (List.filter (fun q : Int × Int => decide (q.1 ≤ b) && decide (b < q.2)) qs = [])) = RS.inR rs b := by
    rw [same]
    cases e : RS.inR qs b with
    | true =>
      obtain ⟨q, hq, h1, h2⟩ := inR_any.mp e
      have : q ∈ List.filter (fun q : Int × Int => decide (q.1 ≤ b) && decide (b < q.2)) qs := List.mem_filter.mpr ⟨hq, by simp [h1, h2]⟩
      cases e4 : List.filter (fun q : Int × Int => decide (q.1 ≤ b) && decide (b < q.2)) qs with
      | nil => rw [e4] at this; cases this
      | cons _ _ => rfl
    | false =>
      have : List.filter (fun q : Int × Int => decide (q.1 ≤ b) && decide (b < q.2)) qs = [] := List.filter_eq_nil_iff.mpr fun q hq hh => by
        have : RS.inR qs b = true := inR_any.mpr ⟨q, hq, by simpa using hh⟩
        rw [e] at this; cases this
      rw [this]; rfl
  rw [e3]
  walk
  · rename (_ != _) = true => h1
    exact absurd h1 (by cases RS.inR rs b <;> decide)
  rename Fr _ _ _ _ => F
  rename News _ _ _ _ => N
  exact fin _ _ (fr_unknow (fr_unknow (fr_unknow (fr_unknow F ea) eW) eD) eS) (news_mono N fun p hp => .tail _ (.tail _ hp))

end
end L2
end

section
open PySem PySem.W PySem.Calls PyProof.Rows RS
open PySem.SeqAt
set_option maxRecDepth 100000
set_option maxHeartbeats 0
set_option linter.unusedVariables false
namespace L2
theorem warm_out2 : (fun (_ : OpenLaw) (_ : Params → Frag) => True) PySem.Challenge.rw_lg0001_02 L2H.hd.heap_39 := by w_top off; k_fill; trivial
section
variable {prog : Program} {w : World} {A : Around} {E : Value → Shared → Prop} {s : Shared} {base : Heap} {p : Program} {loose : List Str} {mean : ExcName → Option Value} {mg mb : Str → Option Value}
theorem out2_spec {body : List Stmt} {env : Env} {g : Heap} {L f : Addr} {cd : Value} {m : Str → Option Value} {R : List (Addr × Obj)} {SE DR x D : Addr} {kS kD kV : Nat} {sl dl vs : List Value} {rs qs : List (Int × Int)} {oC : Obj} {cv : Option Value}
    {wh : Int} {twh : Tok} {Q : Flow → Shared → Prop} (hex : body = lawW2 w.params) (henv : env = lawEnv w.params L f cd) (X : (L2H.hd.heap_39 w.params).In g) (T : Top p loose mean mg mb g) (F : Fr g L s.heap m) (N : News g L s.heap ((L + 1, oC) :: R))
    (nC : ∀ p ∈ R, p.1 ≠ L + 1) (hoC : oC.data = .cell cv) (eS : m (Str.ofString "sets") = some (.ref SE)) (eD : m (Str.ofString "drawn") = some (.ref DR)) (eW : m (Str.ofString "who") = some (.int wh twh))
    (hS : (SE, listOf sl.toArray kS) ∈ R) (hSw : sl[wh.toNat]? = some (.ref x)) (hD : (DR, listOf dl.toArray kD) ∈ R) (hDw : dl[wh.toNat]? = some (.ref D)) (hw : 0 ≤ wh ∧ wh < 2 ^ 63)
    (hx : HasSet w.params g R x rs) (hV : (D, listOf vs.toArray kV) ∈ R) (yP : ListP IsPair (Src g R) vs qs) (hz : qs.length ≤ 20) (hr : rs.length ≤ 20) (pos : ∀ q ∈ qs, q.1 < q.2) (same : ∀ v, RS.inR rs v = RS.inR qs v)
    (fin : ∀ h' tk' m' oC' cv', (∀ y, y ≠ Str.ofString "start" → m' y = m y) → oC'.data = .cell cv' → Fr g L h' m' → News g L h' ((L + 1, oC') :: R) → Q .next { s with heap := h', toks := tk' }) :
    wpAny (model prog w) (callerA.deeper env) (execs body env) Q (fun _ _ => False) s := by
  subst hex henv
  obtain ⟨hb, hs⟩ := fn_of (K := L2H.hd.heap_39 w.params) (a := 161) (by k_is)
  obtain ⟨hp₀, gn₀, dr₀, tk₀, os₀⟩ := s
  dsimp only at F N fin
  unfold lawEnv lawW2 at *
  rw [hb, hs]
  clear hb hs
  dsimp only [nthS, forBody, dropS]
  have F0 := F
  replace F := fr_know (fr_know (fr_know F (x := Str.ofString "sets") eS) (x := Str.ofString "drawn") eD) (x := Str.ofString "who") eW
  have up1 : ∀ q ∈ R, q ∈ (L + 1, oC) :: R := fun q hq => .tail _ hq
  have hx' : HasSet w.params g ((L + 1, oC) :: R) x rs := hx.more up1
  have yP' : ListP IsPair (Src g ((L + 1, oC) :: R)) vs qs := yP.mono fun a o q _ => q.imp id (.tail _)
  have hvl := yP.length
  walk
  rename Fr _ _ _ _ => F
  rename News _ _ _ _ => N
  refine rs_item (its := sl) (n := kS) N (.tail _ hS) hw.1 hw.2 hSw ?_
  walk
  rename Fr _ _ _ _ => F
  rename News _ _ _ _ => N
  refine l2_count (s := { heap := _, gens := gn₀, drawn := dr₀, toks := _, os := os₀ }) X T F N hx' (by omega) ?_
  clear F N
  intro h₁ tk₁ u₁ F N
  walk
  rename Fr _ _ _ _ => F
  rename News _ _ _ _ => N
  refine rs_item (its := dl) (n := kD) N (.tail _ hD) hw.1 hw.2 hDw ?_
  walk
  rename Fr _ _ _ _ => F
  rename News _ _ _ _ => N
  refine sweep_spec (A := callerA.deeper _) (s := { heap := _, gens := gn₀, drawn := dr₀, toks := _, os := os₀ }) (base := g) F.keep X T (N _ (.tail _ hV)).1 (yP'.mono fun a o q _ => q.here F N fun p hp => hp) (Nat.le_of_ble_eq_true rfl) rfl (by omega) ?_
  intro h₂ tk₂ u₂ qs' st₂ hp₂ hs₂
  replace F := F.keeps st₂
  replace N := N.grown st₂
  rw [sweep_total hp₂ hs₂ pos hx.1 same]
  walk
  · rename total rs ≠ total rs => h1
    exact absurd rfl h1
  refine wpAny_For ?_
  walk
  rename Fr _ _ _ _ => F
  rename News _ _ _ _ => N
  refine rs_item (its := dl) (n := kD) N (.tail _ hD) hw.1 hw.2 hDw ?_
  walk
  rename Fr _ _ _ _ => F
  rename News _ _ _ _ => N
  replace F := fr_unknow (fr_unknow (fr_unknow F eW) eD) eS
  refine for_listTC (C := L + 1) (news := R) (n := kV) (cv₀ := cv) rfl rfl rfl rfl rfl rfl hV yP F N nC hoC (fun _ m' => ∀ y, y ≠ Str.ofString "start" → m' y = m y) (fun _ _ => rfl) ?_ ?_
  · intro i q I oI oC' m' h₃ tk₃ t u hq hoI hoC' hJ nI CI F N
    have hT : ∀ p ∈ (I, oI) :: R, p.1 ≠ L + 1 := List.forall_mem_cons.mpr ⟨fun e => CI e.symm, nC⟩
    have up2 : ∀ q ∈ R, q ∈ (I, oI) :: R := fun q hq => .tail _ hq
    have k1 : ∀ y, y ≠ Str.ofString "start" → (fun z => if z = Str.ofString "start" then some (.int q.1 t) else m' z) y = m y := fun y hy => by
      show (if y = Str.ofString "start" then _ else m' y) = m y
      rw [if_neg hy]; exact hJ y hy
    have hm := List.mem_of_getElem? hq
    refine inn2_spec (s := { heap := _, gens := gn₀, drawn := dr₀, toks := _, os := os₀ }) (by obtain ⟨hb, _⟩ := fn_of (K := L2H.hd.heap_39 w.params) (a := 161) (by k_is); (first | unfold lawTurn | unfold lawTwo | unfold lawT2 | unfold lawV2 lawW2 | unfold lawW2 | skip); first | (rw [hb]; done) | (rw [hb]; rfl)) (by obtain ⟨_, hs⟩ := fn_of (K := L2H.hd.heap_39 w.params) (a := 161) (by k_is); unfold lawEnv; first | (rw [hs]; done) | (rw [hs]; rfl)) X T F N hT hoC' ((k1 _ (by decide)).trans eS) ((k1 _ (by decide)).trans eD) ((k1 _ (by decide)).trans eW) rfl (up2 _ hS) hSw (up2 _ hD) hDw hw (hx.more up2) (up2 _ hV) (yP.mono fun a o q _ => q.imp id (.tail _)) (by omega) hm (pos _ hm) same ?_
    intro h' tk' F N
    exact ⟨h', tk', _, oC', _, rfl, F, N, hoC', k1⟩
  · intro m' oC' cv' h₃ tk₃ hJ hoC' F N
    walk
    exact fin _ _ _ _ _ hJ hoC' F N

end
end L2
end

section
open PySem PySem.W PySem.Calls PyProof.Rows RS
open PySem.SeqAt
set_option maxRecDepth 100000
set_option maxHeartbeats 0
set_option linter.unusedVariables false
namespace L2
theorem warm_alg2 : (fun (_ : OpenLaw) (_ : Params → Frag) => True) PySem.Challenge.rw_lg0001_02 L2H.hd.heap_39 := by w_top off; k_fill; trivial
section
variable {prog : Program} {w : World} {A : Around} {E : Value → Shared → Prop} {s : Shared} {base : Heap} {p : Program} {loose : List Str} {mean : ExcName → Option Value} {mg mb : Str → Option Value}
theorem alg2_spec {body : List Stmt} {env : Env} {g : Heap} {L f : Addr} {cd : Value} {m : Str → Option Value} {news : List (Addr × Obj)} {SE FR x_o x_t x_s : Addr} {kF : Nat} {us : List Value} {r_o r_t r_s : List (Int × Int)} {Q : Flow → Shared → Prop}
    (hex : body = dropS 7 (fnBody (L2H.hd.heap_39 w.params) 161)) (henv : env = lawEnv w.params L f cd) (X : (L2H.hd.heap_39 w.params).In g) (T : Top p loose mean mg mb g) (F : Fr g L s.heap m) (N : News g L s.heap news)
    (e1 : m (Str.ofString "one") = some (.ref x_o)) (e2 : m (Str.ofString "two") = some (.ref x_t)) (e3 : m (Str.ofString "six") = some (.ref x_s)) (e4 : m (Str.ofString "first") = some (.ref FR)) (e5 : m (Str.ofString "sets") = some (.ref SE))
    (S_o : HasSet w.params g news x_o r_o) (S_t : HasSet w.params g news x_t r_t) (S_s : HasSet w.params g news x_s r_s) (l_o : r_o.length ≤ 20) (l_t : r_t.length ≤ 20) (l_s : r_s.length ≤ 20)
    (hSE : (SE, listOf #[.ref x_o, .ref x_t, .ref x_s] 0) ∈ news) (hFR : Src g news FR (listOf us.toArray kF)) (hLL : LLP (Src g news) us [r_o, r_t, r_s])
    (h : ∀ h' tk' m', Fr g L h' m' → Q (.ret (.bool true)) { s with heap := h', toks := tk' }) :
    wpAny (model prog w) (callerA.deeper env) (execs body env) Q (fun _ _ => False) s := by
  subst hex henv
  obtain ⟨hb, hs⟩ := fn_of (K := L2H.hd.heap_39 w.params) (a := 161) (by k_is)
  obtain ⟨hp₀, gn₀, dr₀, tk₀, os₀⟩ := s
  dsimp only at F N h
  unfold lawEnv at *
  rw [hb, hs]
  clear hb hs
  dsimp only [nthS, forBody, dropS]
  replace F := fr_know (fr_know (fr_know (fr_know (fr_know F (x := Str.ofString "one") e1) (x := Str.ofString "two") e2) (x := Str.ofString "six") e3) (x := Str.ofString "first") e4) (x := Str.ofString "sets") e5
  walk
  rename Fr _ _ _ _ => F
  rename News _ _ _ _ => N
  refine l2_union (s := { heap := _, gens := gn₀, drawn := dr₀, toks := _, os := os₀ }) X T F N S_o S_t (by omega) ?_
  clear F N
  intro x_u r_u h_u tk_u news_u up F N S_u i_u l_u
  replace S_o := S_o.more up
  replace S_t := S_t.more up
  replace S_s := S_s.more up
  replace hSE := up _ hSE
  replace hFR := hFR.imp id (up _)
  replace hLL := hLL.mono fun a o q => q.imp id (up _)
  clear up
  walk
  rename Fr _ _ _ _ => F
  rename News _ _ _ _ => N
  refine l2_meet (s := { heap := _, gens := gn₀, drawn := dr₀, toks := _, os := os₀ }) X T F N S_o S_t (by omega) ?_
  clear F N
  intro x_m r_m h_m tk_m news_m up F N S_m i_m l_m
  replace S_o := S_o.more up
  replace S_t := S_t.more up
  replace S_s := S_s.more up
  replace S_u := S_u.more up
  replace hSE := up _ hSE
  replace hFR := hFR.imp id (up _)
  replace hLL := hLL.mono fun a o q => q.imp id (up _)
  clear up
  walk
  rename Fr _ _ _ _ => F
  rename News _ _ _ _ => N
  refine l2_union (s := { heap := _, gens := gn₀, drawn := dr₀, toks := _, os := os₀ }) X T F N S_t S_o (by omega) ?_
  clear F N
  intro x_u2 r_u2 h_u2 tk_u2 news_u2 up F N S_u2 i_u2 l_u2
  replace S_o := S_o.more up
  replace S_t := S_t.more up
  replace S_s := S_s.more up
  replace S_u := S_u.more up
  replace S_m := S_m.more up
  replace hSE := up _ hSE
  replace hFR := hFR.imp id (up _)
  replace hLL := hLL.mono fun a o q => q.imp id (up _)
  clear up
  walk
  rename Fr _ _ _ _ => F
  rename News _ _ _ _ => N
  refine l2_eq (s := { heap := _, gens := gn₀, drawn := dr₀, toks := _, os := os₀ }) X T F N S_u S_u2 ?_
  clear F N
  intro h_e tk_e F N
  rw [decide_eq_true (Canon.unique S_u.1 S_u2.1 fun v => by
    simp only [i_u, i_m, i_u2]
    generalize RS.inR r_o v = a
    generalize RS.inR r_t v = b
    generalize RS.inR r_s v = c
    cases a <;> cases b <;> cases c <;> rfl)]
  walk
  rename Fr _ _ _ _ => F
  rename News _ _ _ _ => N
  refine l2_meet (s := { heap := _, gens := gn₀, drawn := dr₀, toks := _, os := os₀ }) X T F N S_t S_o (by omega) ?_
  clear F N
  intro x_m2 r_m2 h_m2 tk_m2 news_m2 up F N S_m2 i_m2 l_m2
  replace S_o := S_o.more up
  replace S_t := S_t.more up
  replace S_s := S_s.more up
  replace S_u := S_u.more up
  replace S_m := S_m.more up
  replace hSE := up _ hSE
  replace hFR := hFR.imp id (up _)
  replace hLL := hLL.mono fun a o q => q.imp id (up _)
  clear up
  walk
  rename Fr _ _ _ _ => F
  rename News _ _ _ _ => N
  refine l2_eq (s := { heap := _, gens := gn₀, drawn := dr₀, toks := _, os := os₀ }) X T F N S_m S_m2 ?_
  clear F N
  intro h_e tk_e F N
  rw [decide_eq_true (Canon.unique S_m.1 S_m2.1 fun v => by
    simp only [i_u, i_m, i_u2, i_m2]
    generalize RS.inR r_o v = a
    generalize RS.inR r_t v = b
    generalize RS.inR r_s v = c
    cases a <;> cases b <;> cases c <;> rfl)]
  walk
  rename Fr _ _ _ _ => F
  rename News _ _ _ _ => N
  refine l2_count (s := { heap := _, gens := gn₀, drawn := dr₀, toks := _, os := os₀ }) X T F N S_u (by omega) ?_
  clear F N
  intro h_c tk_c u_u F N
  walk
  rename Fr _ _ _ _ => F
  rename News _ _ _ _ => N
  refine l2_count (s := { heap := _, gens := gn₀, drawn := dr₀, toks := _, os := os₀ }) X T F N S_m (by omega) ?_
  clear F N
  intro h_c tk_c u_m F N
  walk
  rename Fr _ _ _ _ => F
  rename News _ _ _ _ => N
  refine l2_count (s := { heap := _, gens := gn₀, drawn := dr₀, toks := _, os := os₀ }) X T F N S_o (by omega) ?_
  clear F N
  intro h_c tk_c u_o F N
  walk
  rename Fr _ _ _ _ => F
  rename News _ _ _ _ => N
  refine l2_count (s := { heap := _, gens := gn₀, drawn := dr₀, toks := _, os := os₀ }) X T F N S_t (by omega) ?_
  clear F N
  intro h_c tk_c u_t F N
  have ie : total r_u + total r_m = total r_o + total r_t := incl_excl S_u.1 S_m.1 S_o.1 S_t.1 i_u i_m
  walk
  · rename total r_u + total r_m ≠ _ => hne
    exact absurd ie hne
  walk
  rename Fr _ _ _ _ => F
  rename News _ _ _ _ => N
  refine l2_less (s := { heap := _, gens := gn₀, drawn := dr₀, toks := _, os := os₀ }) X T F N S_o S_t (by omega) ?_
  clear F N
  intro x_lt r_lt h_lt tk_lt news_lt up F N S_lt i_lt l_lt
  replace S_o := S_o.more up
  replace S_t := S_t.more up
  replace S_s := S_s.more up
  replace S_u := S_u.more up
  replace S_m := S_m.more up
  replace hSE := up _ hSE
  replace hFR := hFR.imp id (up _)
  replace hLL := hLL.mono fun a o q => q.imp id (up _)
  clear up
  walk
  rename Fr _ _ _ _ => F
  rename News _ _ _ _ => N
  refine l2_less (s := { heap := _, gens := gn₀, drawn := dr₀, toks := _, os := os₀ }) X T F N S_o S_s (by omega) ?_
  clear F N
  intro x_ls r_ls h_ls tk_ls news_ls up F N S_ls i_ls l_ls
  replace S_o := S_o.more up
  replace S_t := S_t.more up
  replace S_s := S_s.more up
  replace S_u := S_u.more up
  replace S_m := S_m.more up
  replace S_lt := S_lt.more up
  replace hSE := up _ hSE
  replace hFR := hFR.imp id (up _)
  replace hLL := hLL.mono fun a o q => q.imp id (up _)
  clear up
  walk
  rename Fr _ _ _ _ => F
  rename News _ _ _ _ => N
  refine l2_union (s := { heap := _, gens := gn₀, drawn := dr₀, toks := _, os := os₀ }) X T F N S_lt S_m (by omega) ?_
  clear F N
  intro x_a1 r_a1 h_a1 tk_a1 news_a1 up F N S_a1 i_a1 l_a1
  replace S_o := S_o.more up
  replace S_t := S_t.more up
  replace S_s := S_s.more up
  replace S_u := S_u.more up
  replace S_m := S_m.more up
  replace S_lt := S_lt.more up
  replace S_ls := S_ls.more up
  replace hSE := up _ hSE
  replace hFR := hFR.imp id (up _)
  replace hLL := hLL.mono fun a o q => q.imp id (up _)
  clear up
  walk
  rename Fr _ _ _ _ => F
  rename News _ _ _ _ => N
  refine l2_eq (s := { heap := _, gens := gn₀, drawn := dr₀, toks := _, os := os₀ }) X T F N S_a1 S_o ?_
  clear F N
  intro h_e tk_e F N
  rw [decide_eq_true (Canon.unique S_a1.1 S_o.1 fun v => by
    simp only [i_u, i_m, i_u2, i_m2, i_lt, i_ls, i_a1]
    generalize RS.inR r_o v = a
    generalize RS.inR r_t v = b
    generalize RS.inR r_s v = c
    cases a <;> cases b <;> cases c <;> rfl)]
  walk
  rename Fr _ _ _ _ => F
  rename News _ _ _ _ => N
  refine l2_meet (s := { heap := _, gens := gn₀, drawn := dr₀, toks := _, os := os₀ }) X T F N S_lt S_t (by omega) ?_
  clear F N
  intro x_a2 r_a2 h_a2 tk_a2 news_a2 up F N S_a2 i_a2 l_a2
  replace S_o := S_o.more up
  replace S_t := S_t.more up
  replace S_s := S_s.more up
  replace S_u := S_u.more up
  replace S_m := S_m.more up
  replace S_lt := S_lt.more up
  replace S_ls := S_ls.more up
  replace hSE := up _ hSE
  replace hFR := hFR.imp id (up _)
  replace hLL := hLL.mono fun a o q => q.imp id (up _)
  clear up
  have e_a2 : r_a2 = [] := Canon.unique S_a2.1 canon_nil fun v => by
    simp only [i_u, i_m, i_u2, i_m2, i_lt, i_ls, i_a1, i_a2, inR_nil]
    generalize RS.inR r_o v = a
    generalize RS.inR r_t v = b
    cases a <;> cases b <;> rfl
  walk
  rename Fr _ _ _ _ => F
  rename News _ _ _ _ => N
  refine l2_len (s := { heap := _, gens := gn₀, drawn := dr₀, toks := _, os := os₀ }) X T F N S_a2 (by omega) ?_
  clear F N
  intro h_e tk_e u_e F N
  rw [show (r_a2.length : Int) = 0 by rw [e_a2]; rfl]
  walk
  rename Fr _ _ _ _ => F
  rename News _ _ _ _ => N
  refine l2_union (s := { heap := _, gens := gn₀, drawn := dr₀, toks := _, os := os₀ }) X T F N S_t S_s (by omega) ?_
  clear F N
  intro x_us r_us h_us tk_us news_us up F N S_us i_us l_us
  replace S_o := S_o.more up
  replace S_t := S_t.more up
  replace S_s := S_s.more up
  replace S_u := S_u.more up
  replace S_m := S_m.more up
  replace S_lt := S_lt.more up
  replace S_ls := S_ls.more up
  replace hSE := up _ hSE
  replace hFR := hFR.imp id (up _)
  replace hLL := hLL.mono fun a o q => q.imp id (up _)
  clear up
  walk
  rename Fr _ _ _ _ => F
  rename News _ _ _ _ => N
  refine l2_meet (s := { heap := _, gens := gn₀, drawn := dr₀, toks := _, os := os₀ }) X T F N S_t S_s (by omega) ?_
  clear F N
  intro x_ms r_ms h_ms tk_ms news_ms up F N S_ms i_ms l_ms
  replace S_o := S_o.more up
  replace S_t := S_t.more up
  replace S_s := S_s.more up
  replace S_u := S_u.more up
  replace S_m := S_m.more up
  replace S_lt := S_lt.more up
  replace S_ls := S_ls.more up
  replace S_us := S_us.more up
  replace hSE := up _ hSE
  replace hFR := hFR.imp id (up _)
  replace hLL := hLL.mono fun a o q => q.imp id (up _)
  clear up
  walk
  rename Fr _ _ _ _ => F
  rename News _ _ _ _ => N
  refine l2_meet (s := { heap := _, gens := gn₀, drawn := dr₀, toks := _, os := os₀ }) X T F N S_o S_us (by omega) ?_
  clear F N
  intro x_b1 r_b1 h_b1 tk_b1 news_b1 up F N S_b1 i_b1 l_b1
  replace S_o := S_o.more up
  replace S_t := S_t.more up
  replace S_s := S_s.more up
  replace S_u := S_u.more up
  replace S_m := S_m.more up
  replace S_lt := S_lt.more up
  replace S_ls := S_ls.more up
  replace S_us := S_us.more up
  replace S_ms := S_ms.more up
  replace hSE := up _ hSE
  replace hFR := hFR.imp id (up _)
  replace hLL := hLL.mono fun a o q => q.imp id (up _)
  clear up
  walk
  rename Fr _ _ _ _ => F
  rename News _ _ _ _ => N
  refine l2_meet (s := { heap := _, gens := gn₀, drawn := dr₀, toks := _, os := os₀ }) X T F N S_o S_s (by omega) ?_
  clear F N
  intro x_b2 r_b2 h_b2 tk_b2 news_b2 up F N S_b2 i_b2 l_b2
  replace S_o := S_o.more up
  replace S_t := S_t.more up
  replace S_s := S_s.more up
  replace S_u := S_u.more up
  replace S_m := S_m.more up
  replace S_lt := S_lt.more up
  replace S_ls := S_ls.more up
  replace S_us := S_us.more up
  replace S_ms := S_ms.more up
  replace S_b1 := S_b1.more up
  replace hSE := up _ hSE
  replace hFR := hFR.imp id (up _)
  replace hLL := hLL.mono fun a o q => q.imp id (up _)
  clear up
  walk
  rename Fr _ _ _ _ => F
  rename News _ _ _ _ => N
  refine l2_union (s := { heap := _, gens := gn₀, drawn := dr₀, toks := _, os := os₀ }) X T F N S_m S_b2 (by omega) ?_
  clear F N
  intro x_b3 r_b3 h_b3 tk_b3 news_b3 up F N S_b3 i_b3 l_b3
  replace S_o := S_o.more up
  replace S_t := S_t.more up
  replace S_s := S_s.more up
  replace S_u := S_u.more up
  replace S_m := S_m.more up
  replace S_lt := S_lt.more up
  replace S_ls := S_ls.more up
  replace S_us := S_us.more up
  replace S_ms := S_ms.more up
  replace S_b1 := S_b1.more up
  replace S_b2 := S_b2.more up
  replace hSE := up _ hSE
  replace hFR := hFR.imp id (up _)
  replace hLL := hLL.mono fun a o q => q.imp id (up _)
  clear up
  walk
  rename Fr _ _ _ _ => F
  rename News _ _ _ _ => N
  refine l2_eq (s := { heap := _, gens := gn₀, drawn := dr₀, toks := _, os := os₀ }) X T F N S_b1 S_b3 ?_
  clear F N
  intro h_e tk_e F N
  rw [decide_eq_true (Canon.unique S_b1.1 S_b3.1 fun v => by
    simp only [i_u, i_m, i_u2, i_m2, i_lt, i_ls, i_a1, i_a2, i_us, i_ms, i_b1, i_b2, i_b3]
    generalize RS.inR r_o v = a
    generalize RS.inR r_t v = b
    generalize RS.inR r_s v = c
    cases a <;> cases b <;> cases c <;> rfl)]
  walk
  rename Fr _ _ _ _ => F
  rename News _ _ _ _ => N
  refine l2_union (s := { heap := _, gens := gn₀, drawn := dr₀, toks := _, os := os₀ }) X T F N S_o S_ms (by omega) ?_
  clear F N
  intro x_c1 r_c1 h_c1 tk_c1 news_c1 up F N S_c1 i_c1 l_c1
  replace S_o := S_o.more up
  replace S_t := S_t.more up
  replace S_s := S_s.more up
  replace S_u := S_u.more up
  replace S_m := S_m.more up
  replace S_lt := S_lt.more up
  replace S_ls := S_ls.more up
  replace S_us := S_us.more up
  replace S_ms := S_ms.more up
  replace hSE := up _ hSE
  replace hFR := hFR.imp id (up _)
  replace hLL := hLL.mono fun a o q => q.imp id (up _)
  clear up
  walk
  rename Fr _ _ _ _ => F
  rename News _ _ _ _ => N
  refine l2_union (s := { heap := _, gens := gn₀, drawn := dr₀, toks := _, os := os₀ }) X T F N S_o S_s (by omega) ?_
  clear F N
  intro x_c2 r_c2 h_c2 tk_c2 news_c2 up F N S_c2 i_c2 l_c2
  replace S_o := S_o.more up
  replace S_t := S_t.more up
  replace S_s := S_s.more up
  replace S_u := S_u.more up
  replace S_m := S_m.more up
  replace S_lt := S_lt.more up
  replace S_ls := S_ls.more up
  replace S_us := S_us.more up
  replace S_ms := S_ms.more up
  replace S_c1 := S_c1.more up
  replace hSE := up _ hSE
  replace hFR := hFR.imp id (up _)
  replace hLL := hLL.mono fun a o q => q.imp id (up _)
  clear up
  walk
  rename Fr _ _ _ _ => F
  rename News _ _ _ _ => N
  refine l2_meet (s := { heap := _, gens := gn₀, drawn := dr₀, toks := _, os := os₀ }) X T F N S_u S_c2 (by omega) ?_
  clear F N
  intro x_c3 r_c3 h_c3 tk_c3 news_c3 up F N S_c3 i_c3 l_c3
  replace S_o := S_o.more up
  replace S_t := S_t.more up
  replace S_s := S_s.more up
  replace S_u := S_u.more up
  replace S_m := S_m.more up
  replace S_lt := S_lt.more up
  replace S_ls := S_ls.more up
  replace S_us := S_us.more up
  replace S_ms := S_ms.more up
  replace S_c1 := S_c1.more up
  replace S_c2 := S_c2.more up
  replace hSE := up _ hSE
  replace hFR := hFR.imp id (up _)
  replace hLL := hLL.mono fun a o q => q.imp id (up _)
  clear up
  walk
  rename Fr _ _ _ _ => F
  rename News _ _ _ _ => N
  refine l2_eq (s := { heap := _, gens := gn₀, drawn := dr₀, toks := _, os := os₀ }) X T F N S_c1 S_c3 ?_
  clear F N
  intro h_e tk_e F N
  rw [decide_eq_true (Canon.unique S_c1.1 S_c3.1 fun v => by
    simp only [i_u, i_m, i_u2, i_m2, i_lt, i_ls, i_a1, i_a2, i_us, i_ms, i_b1, i_b2, i_b3, i_c1, i_c2, i_c3]
    generalize RS.inR r_o v = a
    generalize RS.inR r_t v = b
    generalize RS.inR r_s v = c
    cases a <;> cases b <;> cases c <;> rfl)]
  walk
  rename Fr _ _ _ _ => F
  rename News _ _ _ _ => N
  refine l2_less (s := { heap := _, gens := gn₀, drawn := dr₀, toks := _, os := os₀ }) X T F N S_o S_us (by omega) ?_
  clear F N
  intro x_lb r_lb h_lb tk_lb news_lb up F N S_lb i_lb l_lb
  replace S_o := S_o.more up
  replace S_t := S_t.more up
  replace S_s := S_s.more up
  replace S_u := S_u.more up
  replace S_m := S_m.more up
  replace S_lt := S_lt.more up
  replace S_ls := S_ls.more up
  replace S_us := S_us.more up
  replace S_ms := S_ms.more up
  replace hSE := up _ hSE
  replace hFR := hFR.imp id (up _)
  replace hLL := hLL.mono fun a o q => q.imp id (up _)
  clear up
  walk
  rename Fr _ _ _ _ => F
  rename News _ _ _ _ => N
  refine l2_less (s := { heap := _, gens := gn₀, drawn := dr₀, toks := _, os := os₀ }) X T F N S_lt S_s (by omega) ?_
  clear F N
  intro x_d1 r_d1 h_d1 tk_d1 news_d1 up F N S_d1 i_d1 l_d1
  replace S_o := S_o.more up
  replace S_t := S_t.more up
  replace S_s := S_s.more up
  replace S_u := S_u.more up
  replace S_m := S_m.more up
  replace S_lt := S_lt.more up
  replace S_ls := S_ls.more up
  replace S_us := S_us.more up
  replace S_ms := S_ms.more up
  replace S_lb := S_lb.more up
  replace hSE := up _ hSE
  replace hFR := hFR.imp id (up _)
  replace hLL := hLL.mono fun a o q => q.imp id (up _)
  clear up
  walk
  rename Fr _ _ _ _ => F
  rename News _ _ _ _ => N
  refine l2_eq (s := { heap := _, gens := gn₀, drawn := dr₀, toks := _, os := os₀ }) X T F N S_lb S_d1 ?_
  clear F N
  intro h_e tk_e F N
  rw [decide_eq_true (Canon.unique S_lb.1 S_d1.1 fun v => by
    simp only [i_u, i_m, i_u2, i_m2, i_lt, i_ls, i_a1, i_a2, i_us, i_ms, i_b1, i_b2, i_b3, i_c1, i_c2, i_c3, i_lb, i_d1]
    generalize RS.inR r_o v = a
    generalize RS.inR r_t v = b
    generalize RS.inR r_s v = c
    cases a <;> cases b <;> cases c <;> rfl)]
  walk
  rename Fr _ _ _ _ => F
  rename News _ _ _ _ => N
  refine l2_meet (s := { heap := _, gens := gn₀, drawn := dr₀, toks := _, os := os₀ }) X T F N S_lt S_ls (by omega) ?_
  clear F N
  intro x_d2 r_d2 h_d2 tk_d2 news_d2 up F N S_d2 i_d2 l_d2
  replace S_o := S_o.more up
  replace S_t := S_t.more up
  replace S_s := S_s.more up
  replace S_u := S_u.more up
  replace S_m := S_m.more up
  replace S_lt := S_lt.more up
  replace S_ls := S_ls.more up
  replace S_us := S_us.more up
  replace S_ms := S_ms.more up
  replace S_lb := S_lb.more up
  replace hSE := up _ hSE
  replace hFR := hFR.imp id (up _)
  replace hLL := hLL.mono fun a o q => q.imp id (up _)
  clear up
  walk
  rename Fr _ _ _ _ => F
  rename News _ _ _ _ => N
  refine l2_eq (s := { heap := _, gens := gn₀, drawn := dr₀, toks := _, os := os₀ }) X T F N S_lb S_d2 ?_
  clear F N
  intro h_e tk_e F N
  rw [decide_eq_true (Canon.unique S_lb.1 S_d2.1 fun v => by
    simp only [i_u, i_m, i_u2, i_m2, i_lt, i_ls, i_a1, i_a2, i_us, i_ms, i_b1, i_b2, i_b3, i_c1, i_c2, i_c3, i_lb, i_d1, i_d2]
    generalize RS.inR r_o v = a
    generalize RS.inR r_t v = b
    generalize RS.inR r_s v = c
    cases a <;> cases b <;> cases c <;> rfl)]
  walk
  rename Fr _ _ _ _ => F
  rename News _ _ _ _ => N
  refine l2_less (s := { heap := _, gens := gn₀, drawn := dr₀, toks := _, os := os₀ }) X T F N S_o S_ms (by omega) ?_
  clear F N
  intro x_e1 r_e1 h_e1 tk_e1 news_e1 up F N S_e1 i_e1 l_e1
  replace S_o := S_o.more up
  replace S_t := S_t.more up
  replace S_s := S_s.more up
  replace S_u := S_u.more up
  replace S_m := S_m.more up
  replace S_lt := S_lt.more up
  replace S_ls := S_ls.more up
  replace S_us := S_us.more up
  replace S_ms := S_ms.more up
  replace S_lb := S_lb.more up
  replace hSE := up _ hSE
  replace hFR := hFR.imp id (up _)
  replace hLL := hLL.mono fun a o q => q.imp id (up _)
  clear up
  walk
  rename Fr _ _ _ _ => F
  rename News _ _ _ _ => N
  refine l2_union (s := { heap := _, gens := gn₀, drawn := dr₀, toks := _, os := os₀ }) X T F N S_lt S_ls (by omega) ?_
  clear F N
  intro x_e2 r_e2 h_e2 tk_e2 news_e2 up F N S_e2 i_e2 l_e2
  replace S_o := S_o.more up
  replace S_t := S_t.more up
  replace S_s := S_s.more up
  replace S_u := S_u.more up
  replace S_m := S_m.more up
  replace S_lt := S_lt.more up
  replace S_ls := S_ls.more up
  replace S_us := S_us.more up
  replace S_ms := S_ms.more up
  replace S_lb := S_lb.more up
  replace S_e1 := S_e1.more up
  replace hSE := up _ hSE
  replace hFR := hFR.imp id (up _)
  replace hLL := hLL.mono fun a o q => q.imp id (up _)
  clear up
  walk
  rename Fr _ _ _ _ => F
  rename News _ _ _ _ => N
  refine l2_eq (s := { heap := _, gens := gn₀, drawn := dr₀, toks := _, os := os₀ }) X T F N S_e1 S_e2 ?_
  clear F N
  intro h_e tk_e F N
  rw [decide_eq_true (Canon.unique S_e1.1 S_e2.1 fun v => by
    simp only [i_u, i_m, i_u2, i_m2, i_lt, i_ls, i_a1, i_a2, i_us, i_ms, i_b1, i_b2, i_b3, i_c1, i_c2, i_c3, i_lb, i_d1, i_d2, i_e1, i_e2]
    generalize RS.inR r_o v = a
    generalize RS.inR r_t v = b
    generalize RS.inR r_s v = c
    cases a <;> cases b <;> cases c <;> rfl)]
  walk
  rename Fr _ _ _ _ => F
  rename News _ _ _ _ => N
  refine comp_open (cl := []) rfl rfl (by decide) ?_
  walk
  rename Fr _ _ _ _ => F
  rename News _ _ _ _ => N
  dsimp only
  refine comp_list_ro (vs := [.ref x_o, .ref x_t, .ref x_s]) rfl (by simp) (by decide) rfl rfl F N (.inr ⟨_, hSE, rfl, _, rfl⟩) (fun i ys P => LLP P ys ([r_o, r_t, r_s].take i)) (fun i ys P P' k r => r.mono k) .nil ?_ ?_
  · intro i v I oI C oC D₁ m₂ ys Z h₃ tk E' hv hr hC hx F N
    obtain ⟨x, rs, rfl, hd, hS, hl⟩ : ∃ x rs, v = .ref x ∧ [r_o, r_t, r_s][i]? = some rs ∧ HasSet w.params g news_e2 x rs ∧ rs.length ≤ 20 := by
      match i, hv with
      | 0, hv => cases hv; exact ⟨_, _, rfl, rfl, S_o, l_o⟩
      | 1, hv => cases hv; exact ⟨_, _, rfl, rfl, S_t, l_t⟩
      | 2, hv => cases hv; exact ⟨_, _, rfl, rfl, S_s, l_s⟩
      | i + 3, hv => cases hv
    obtain ⟨cS, _, _, _, _, _, iS⟩ := hS.more (news' := news_e2 ++ Z) fun p hp => List.mem_append_left _ hp
    walk
    rename Fr _ _ _ _ => F
    rename News _ _ _ _ => N
    have iS' := iS.at F (news_mono N fun p hp => .tail _ (.tail _ (.tail _ hp)))
    refine pairs_spec (A := callerA.deeper _) (s := { heap := _, gens := gn₀, drawn := dr₀, toks := _, os := os₀ }) (base := g) F.keep X T iS'.1 iS'.2 (Nat.le_of_ble_eq_true rfl) rfl (by omega) ?_
    intro D h₄ tk₄ ys' c st fD hD y'
    refine CompStay.intro st ?_
    rw [take_snoc hd]
    exact (hr.mono fun a o q => .inl q).snoc (.inr ⟨fD, hD⟩) (y'.mono fun a o q _ => .inr ⟨q.2, q.1⟩)
  intro ys Z D h₅ tk₅ hr F N o1
  rw [show [Value.ref x_o, Value.ref x_t, Value.ref x_s].length = [r_o, r_t, r_s].length from rfl, List.take_length] at hr
  walk
  rename Fr _ _ _ _ => F
  rename News _ _ _ _ => N
  have sub : ∀ p ∈ news_e2, p ∈ (D, LCg.lst ys) :: (news_e2 ++ Z) := fun p hp => .tail _ (List.mem_append_left _ hp)
  refine eq_ll (us := us) (vs := ys) (rss := [r_o, r_t, r_s]) ⟨_, Src.here (I := news_e2) hFR F N sub, rfl, _, rfl⟩ (hLL.mono fun a o q => Src.here (I := news_e2) q F N sub) ⟨_, (N (D, LCg.lst ys) (.head _)).1, rfl, _, rfl⟩ (hr.mono fun a o q => q.here F N fun p hp => .tail _ hp) (Nat.le_of_ble_eq_true rfl) ?_
  exact h _ _ _ F

end
end L2
end

section
open PySem PySem.W PySem.Calls PyProof.Rows RS
open PySem.SeqAt
set_option maxRecDepth 100000
set_option maxHeartbeats 0
set_option linter.unusedVariables false
namespace L2
theorem warm_mid2 : (fun (_ : OpenLaw) (_ : Params → Frag) => True) PySem.Challenge.rw_lg0001_02 L2H.hd.heap_39 := by w_top off; k_fill; trivial
section
variable {prog : Program} {w : World} {A : Around} {E : Value → Shared → Prop} {s : Shared} {base : Heap} {p : Program} {loose : List Str} {mean : ExcName → Option Value} {mg mb : Str → Option Value}
def Sto2 (g : Heap) (L : Addr) (m : Str → Option Value) (news : List (Addr × Obj)) (s : Shared) (fl : Flow) (s' : Shared) : Prop :=
  fl = .next ∧ ∃ h' tk', s' = { s with heap := h', toks := tk' } ∧ Fr g L h' m ∧ News g L h' news
theorem mid2_spec {body : List Stmt} {env : Env} {g : Heap} {L f : Addr} {cd : Value} {m : Str → Option Value} {R : List (Addr × Obj)} {SE DR x0 x1 x2 D0 D1 D2 : Addr} {k0 k1 k2 : Nat} {its0 its1 its2 vs0 vs1 vs2 : List Value} {rs0 rs1 rs2 qs0 qs1 qs2 : List (Int × Int)} {oC : Obj} {cv : Option Value}
    {Q : Flow → Shared → Prop} (hex : body = dropS 4 (fnBody (L2H.hd.heap_39 w.params) 161)) (henv : env = lawEnv w.params L f cd) (X : (L2H.hd.heap_39 w.params).In g) (T : Top p loose mean mg mb g) (F : Fr g L s.heap m) (N : News g L s.heap ((L + 1, oC) :: R))
    (nC : ∀ p ∈ R, p.1 ≠ L + 1) (hoC : oC.data = .cell cv) (eS : m (Str.ofString "sets") = some (.ref SE)) (eD : m (Str.ofString "drawn") = some (.ref DR))
    (hS : (SE, listOf #[.ref x0, .ref x1, .ref x2] 0) ∈ R) (hD : (DR, listOf #[.ref D0, .ref D1, .ref D2] 0) ∈ R)
    (S0 : HasSet w.params g R x0 rs0) (S1 : HasSet w.params g R x1 rs1) (S2 : HasSet w.params g R x2 rs2)
    (V0 : (D0, listOf vs0.toArray k0) ∈ R) (V1 : (D1, listOf vs1.toArray k1) ∈ R) (V2 : (D2, listOf vs2.toArray k2) ∈ R)
    (d0 : Side2 (Src g R) its0 vs0 rs0 qs0 10) (d1 : Side2 (Src g R) its1 vs1 rs1 qs1 10) (d2 : Side2 (Src g R) its2 vs2 rs2 qs2 10)
    (h : ∀ h' tk' m', Fr g L h' m' → Q (.ret (.bool true)) { s with heap := h', toks := tk' }) :
    wpAny (model prog w) (callerA.deeper env) (execs body env) Q (fun _ _ => False) s := by
  subst hex henv
  have tri : ∀ i, i < 3 → ∃ x D rs vs kV qs its, [Value.ref x0, .ref x1, .ref x2][i]? = some (.ref x) ∧ [Value.ref D0, .ref D1, .ref D2][i]? = some (.ref D) ∧ HasSet w.params g R x rs ∧ (D, listOf (List.toArray vs) kV) ∈ R ∧ Side2 (Src g R) its vs rs qs 10 := by
    intro i hi
    match i, hi with
    | 0, _ => exact ⟨_, _, _, _, _, _, _, rfl, rfl, S0, V0, d0⟩
    | 1, _ => exact ⟨_, _, _, _, _, _, _, rfl, rfl, S1, V1, d1⟩
    | 2, _ => exact ⟨_, _, _, _, _, _, _, rfl, rfl, S2, V2, d2⟩
  obtain ⟨hb, hs⟩ := fn_of (K := L2H.hd.heap_39 w.params) (a := 161) (by k_is)
  obtain ⟨hp₀, gn₀, dr₀, tk₀, os₀⟩ := s
  dsimp only at F N h
  unfold lawEnv at *
  rw [hb, hs]
  clear hb hs
  dsimp only [nthS, forBody, dropS]
  replace F := fr_know (fr_know F (x := Str.ofString "sets") eS) (x := Str.ofString "drawn") eD
  have up1 : ∀ q ∈ R, q ∈ (L + 1, oC) :: R := fun q hq => .tail _ hq
  have F0 := F
  refine wpAny_execs_cons ?_
  refine wpAny_mono (Q := Sto2 g L (fun y => if y = Str.ofString "six" then some (.ref x2) else if y = Str.ofString "two" then some (.ref x1) else if y = Str.ofString "one" then some (.ref x0) else if y = Str.ofString "drawn" then some (.ref DR) else if y = Str.ofString "sets" then some (.ref SE) else m y) ((L + 1, oC) :: R) { heap := hp₀, gens := gn₀, drawn := dr₀, toks := tk₀, os := os₀ }) ?_ ?_ fun _ _ x => x
  · walk
    rename Fr _ _ _ _ => F
    rename News _ _ _ _ => N
    refine kun_list (items := #[.ref x0, .ref x1, .ref x2]) F N ⟨_, (N _ (up1 _ hS)).1, rfl, _, rfl⟩ rfl rfl rfl ?_
    clear F N
    intro h₁ F N
    walk
    rename Fr _ _ _ _ => F
    rename News _ _ _ _ => N
    exact ⟨rfl, _, _, rfl, F, N⟩
  clear F N F0
  rintro fl s' ⟨rfl, h₁, tk₁, rfl, F, N⟩
  dsimp only
  refine wpAny_execs_cons (LCg.Assign_ListComp_U (cl := []) F rfl (by with_unfolding_all rfl) rfl (by decide) rfl (by decide) rfl rfl rfl ?_)
  walk1
  refine comp_src_ro (vs := [.ref x0, .ref x1, .ref x2]) rfl (by simp) F N (up1 _ hS) (fun i ys P => LLP P ys ([rs0, rs1, rs2].take i)) (fun i ys P P' k r => r.mono k) .nil ?_ ?_
  · intro i v I oI C oC' D₁ m₂ ys Z h₃ tk E' hv hr hC hx F N
    obtain ⟨x, rs, rfl, hd, hS, hl⟩ : ∃ x rs, v = .ref x ∧ [rs0, rs1, rs2][i]? = some rs ∧ HasSet w.params g R x rs ∧ rs.length ≤ 10 := by
      match i, hv with
      | 0, hv => cases hv; exact ⟨_, _, rfl, rfl, S0, d0.rlen⟩
      | 1, hv => cases hv; exact ⟨_, _, rfl, rfl, S1, d1.rlen⟩
      | 2, hv => cases hv; exact ⟨_, _, rfl, rfl, S2, d2.rlen⟩
      | i + 3, hv => cases hv
    obtain ⟨cS, _, _, _, _, _, iS⟩ := hS.more (news' := (L + 1, oC) :: R ++ Z) fun p hp => List.mem_append_left _ (up1 _ hp)
    walk
    rename Fr _ _ _ _ => F
    rename News _ _ _ _ => N
    have iS' := iS.at F (news_mono N fun p hp => .tail _ (.tail _ (.tail _ hp)))
    refine pairs_spec (A := callerA.deeper _) (s := { heap := _, gens := gn₀, drawn := dr₀, toks := _, os := os₀ }) (base := g) F.keep X T iS'.1 iS'.2 (Nat.le_of_ble_eq_true rfl) rfl (by omega) ?_
    intro D h₄ tk₄ ys' c st fD hD y'
    refine CompStay.intro st ?_
    rw [take_snoc hd]
    exact (hr.mono fun a o q => .inl q).snoc (.inr ⟨fD, hD⟩) (y'.mono fun a o q _ => .inr ⟨q.2, q.1⟩)
  intro ys Z FR h₅ tk₅ hr F N
  rw [show [Value.ref x0, Value.ref x1, Value.ref x2].length = [rs0, rs1, rs2].length from rfl, List.take_length] at hr
  have hFL : @Ne Nat FR (L + 1) := fun e => by
    have h1 := (N _ (.head _)).1
    rw [e, (N (L + 1, oC) (.tail _ (.head _))).1] at h1
    have h2 : oC = LCg.lst ys := Option.some.inj h1
    rw [h2] at hoC; cases hoC
  have up2 : ∀ a o, (∀ c, o.data ≠ .cell c) → Src g ((L + 1, oC) :: R ++ Z) a o → Src g ((FR, LCg.lst ys) :: (R ++ Z.filter fun p => decide (p.1 ≠ L + 1))) a o := by
    intro a o hc q
    refine q.imp id fun hp => ?_
    have hA : a ≠ L + 1 := fun e => by
      have h1 := (N _ (.tail _ hp)).1
      rw [e, (N (L + 1, oC) (.tail _ (.head _))).1] at h1
      have h2 : oC = o := Option.some.inj h1
      exact hc cv (h2 ▸ hoC)
    rcases List.mem_append.mp hp with hp | hp
    · rcases List.mem_cons.mp hp with e | hp
      · cases e; exact absurd rfl hA
      · exact .tail _ (List.mem_append_left _ hp)
    · exact .tail _ (List.mem_append_right _ (List.mem_filter.mpr ⟨hp, decide_eq_true hA⟩))
  have nR' : ∀ p ∈ (FR, LCg.lst ys) :: (R ++ Z.filter fun p => decide (p.1 ≠ L + 1)), p.1 ≠ L + 1 := by
    intro p hp
    rcases List.mem_cons.mp hp with rfl | hp
    · exact hFL
    · rcases List.mem_append.mp hp with hp | hp
      · exact nC p hp
      · exact of_decide_eq_true (List.mem_filter.mp hp).2
  have sub' : ∀ p ∈ (L + 1, oC) :: (FR, LCg.lst ys) :: (R ++ Z.filter fun p => decide (p.1 ≠ L + 1)), p ∈ (FR, LCg.lst ys) :: ((L + 1, oC) :: R ++ Z) := by
    intro p hp
    rcases List.mem_cons.mp hp with rfl | hp
    · exact .tail _ (.head _)
    · rcases List.mem_cons.mp hp with rfl | hp
      · exact .head _
      · rcases List.mem_append.mp hp with hp | hp
        · exact .tail _ (.tail _ (List.mem_append_left _ hp))
        · exact .tail _ (.tail _ (List.mem_append_right _ (List.mem_filter.mp hp).1))
  replace N := news_mono N sub'
  have upR : ∀ p ∈ R, p ∈ (FR, LCg.lst ys) :: (R ++ Z.filter fun p => decide (p.1 ≠ L + 1)) := fun p hp => .tail _ (List.mem_append_left _ hp)
  have hLL := hr.mono2 up2
  have mFR : (FR, LCg.lst ys) ∈ (FR, LCg.lst ys) :: (R ++ Z.filter fun p => decide (p.1 ≠ L + 1)) := .head _
  clear up2 sub' hr hFL up1
  generalize (FR, LCg.lst ys) :: (R ++ Z.filter fun p => decide (p.1 ≠ L + 1)) = R' at *
  generalize hM : (fun z => if z = Str.ofString "first" then some (Value.ref FR) else if z = Str.ofString "six" then some (.ref x2) else if z = Str.ofString "two" then some (.ref x1) else if z = Str.ofString "one" then some (.ref x0) else if z = Str.ofString "drawn" then some (.ref DR) else if z = Str.ofString "sets" then some (.ref SE) else m z : Str → Option Value) = M at F
  have q1 : M (Str.ofString "first") = some (.ref FR) := by rw [← hM]; rfl
  have q2 : M (Str.ofString "six") = some (.ref x2) := by rw [← hM]; rfl
  have q3 : M (Str.ofString "two") = some (.ref x1) := by rw [← hM]; rfl
  have q4 : M (Str.ofString "one") = some (.ref x0) := by rw [← hM]; rfl
  have q5 : M (Str.ofString "drawn") = some (.ref DR) := by rw [← hM]; rfl
  have q6 : M (Str.ofString "sets") = some (.ref SE) := by rw [← hM]; rfl
  clear hM nC
  walk
  refine wpAny_For ?_
  walk
  rename Fr _ _ _ _ => F
  rename News _ _ _ _ => N
  rename IsRange _ _ _ _ _ _ _ _ => hR
  refine for_range (n := 3) rfl rfl rfl hR rfl rfl F N (fun _ m' news' => (∀ y, y ≠ Str.ofString "start" → y ≠ Str.ofString "who" → m' y = M y) ∧ ∃ oC' cv', news' = (L + 1, oC') :: R' ∧ oC'.data = .cell cv') ⟨fun _ _ _ => rfl, oC, cv, rfl, hoC⟩ ?_ ?_
  · rintro i k I oI m' news' h₃ tk₃ hoI hi ⟨hm, oC', cv', rfl, hoC'⟩ hlt off F N
    rw [show (0 : Int) + (i : Nat) * 1 = i by omega] at F
    obtain ⟨x, D, rs, vs, kV, qs, its, e1, e2, hx, hV, sd⟩ := tri i hi
    have upI : ∀ p ∈ R, p ∈ (I, oI) :: R' := fun p hp => .tail _ (upR p hp)
    refine out2_spec (wh := (i : Int)) (s := { heap := _, gens := gn₀, drawn := dr₀, toks := _, os := os₀ }) (R := (I, oI) :: R') (by obtain ⟨hb, _⟩ := fn_of (K := L2H.hd.heap_39 w.params) (a := 161) (by k_is); (first | unfold lawTurn | unfold lawTwo | unfold lawT2 | unfold lawV2 lawW2 | unfold lawW2 | skip); first | (rw [hb]; done) | (rw [hb]; rfl)) (by obtain ⟨_, hs⟩ := fn_of (K := L2H.hd.heap_39 w.params) (a := 161) (by k_is); unfold lawEnv; first | (rw [hs]; done) | (rw [hs]; rfl)) X T F (news_mono N fun p hp => by
        rcases List.mem_cons.mp hp with rfl | hp
        · exact .tail _ (.head _)
        · rcases List.mem_cons.mp hp with rfl | hp
          · exact .head _
          · exact .tail _ (.tail _ hp)) (List.forall_mem_cons.mpr ⟨fun e => off _ (.head _) e.symm, nR'⟩) hoC' ((hm _ (by decide) (by decide)).trans q6) ((hm _ (by decide) (by decide)).trans q5) rfl (upI _ hS) e1 (upI _ hD) e2 ⟨by omega, by omega⟩ (hx.more upI) (upI _ hV) (sd.drawn.mono fun a o q _ => q.imp id (upI _)) (Nat.le_trans sd.len (by omega)) (Nat.le_trans sd.rlen (by omega)) sd.pos sd.same ?_
    intro h' tk' m'' oC'' cv'' hm'' hoC'' F N
    refine ⟨h', tk', m'', (L + 1, oC'') :: R', rfl, F, news_mono N fun p hp => ?_, ?_, fun y h1 h2 => ?_, oC'', cv'', rfl, hoC''⟩
    · rcases List.mem_cons.mp hp with rfl | hp
      · exact .tail _ (.head _)
      · rcases List.mem_cons.mp hp with rfl | hp
        · exact .head _
        · exact .tail _ (.tail _ hp)
    · exact List.forall_mem_cons.mpr ⟨off (L + 1, oC') (.head _), fun p hp => off p (.tail _ hp)⟩
    · rw [hm'' y h1, if_neg h2]; exact hm y h1 h2
  · rintro m' news' h₃ tk₃ ⟨hm, oC', cv', rfl, hoC'⟩ F N
    replace F : Fr g L h₃ _ := F
    replace N : News g L h₃ _ := N
    dsimp only
    have upJ : ∀ p ∈ R, p ∈ (L + 1, oC') :: R' := fun p hp => .tail _ (upR p hp)
    have b1 := (hm (Str.ofString "one") (by decide) (by decide)).trans q4
    have b2 := (hm (Str.ofString "two") (by decide) (by decide)).trans q3
    have b3 := (hm (Str.ofString "six") (by decide) (by decide)).trans q2
    have b4 := (hm (Str.ofString "first") (by decide) (by decide)).trans q1
    have b5 := (hm (Str.ofString "sets") (by decide) (by decide)).trans q6
    have T0 := S0.more upJ
    have T1 := S1.more upJ
    have T2 := S2.more upJ
    have l0 : rs0.length ≤ 20 := Nat.le_trans d0.rlen (by omega)
    have l1 : rs1.length ≤ 20 := Nat.le_trans d1.rlen (by omega)
    have l2 : rs2.length ≤ 20 := Nat.le_trans d2.rlen (by omega)
    have hSE := upJ _ hS
    have hFR : Src g ((L + 1, oC') :: R') FR (listOf (List.toArray ys) ys.length) := .inr (.tail _ mFR)
    have hLL' : LLP (Src g ((L + 1, oC') :: R')) ys [rs0, rs1, rs2] := hLL.mono fun a o q => q.imp id (.tail _)
    clear hm upJ S0 S1 S2 V0 V1 V2 d0 d1 d2 q1 q2 q3 q4 q5 q6 hLL mFR upR
    refine alg2_spec (f := f) (cd := cd) (s := { heap := h₃, gens := gn₀, drawn := dr₀, toks := tk₃, os := os₀ }) ?_ ?_ X T F N b1 b2 b3 b4 b5 T0 T1 T2 l0 l1 l2 hSE hFR hLL' ?_
    · exact (by obtain ⟨hb, _⟩ := fn_of (K := L2H.hd.heap_39 w.params) (a := 161) (by k_is); (first | unfold lawTurn | unfold lawTwo | unfold lawT2 | unfold lawV2 lawW2 | unfold lawW2 | skip); first | (rw [hb]; done) | (rw [hb]; rfl))
    · exact (by obtain ⟨_, hs⟩ := fn_of (K := L2H.hd.heap_39 w.params) (a := 161) (by k_is); unfold lawEnv; first | (rw [hs]; done) | (rw [hs]; rfl))
    · intro h' tk' m' F
      exact h _ _ _ F

end
end L2
end

section
open PySem PySem.W PySem.Calls PyProof.Rows RS
open PySem.SeqAt
set_option maxRecDepth 100000
set_option maxHeartbeats 0
set_option linter.unusedVariables false
namespace L2
theorem warm_end2 : (fun (_ : OpenLaw) (_ : Params → Frag) => True) PySem.Challenge.rw_lg0001_02 L2H.hd.heap_39 := by w_top off; k_fill; trivial
section
variable {prog : Program} {w : World} {A : Around} {E : Value → Shared → Prop} {s : Shared} {base : Heap} {p : Program} {loose : List Str} {mean : ExcName → Option Value} {mg mb : Str → Option Value}
theorem end2 {body : List Stmt} {env : Env} {g : Heap} {L f : Addr} {cd : Value} {m : Str → Option Value} {news : List (Addr × Obj)} {SE DR x0 d0 l0 D0 x1 d1 l1 D1 x2 d2 l2 D2 D : Addr} {t0 t1 t2 : Tok} {oD : Obj} {i : Nat}
    {Q : Flow → Shared → Prop} (hex : body = dropS 4 (fnBody (L2H.hd.heap_39 w.params) 161)) (henv : env = lawEnv w.params L f cd) (X : (L2H.hd.heap_39 w.params).In g) (T : Top p loose mean mg mb g)
    (nd : List.Nodup [x0, d0, l0, D0, x1, d1, l1, D1, x2, d2, l2, D2, L + 1, SE, DR, D]) (J : LawJ2 w.params g L SE DR x0 d0 l0 D0 x1 d1 l1 D1 x2 d2 l2 D2 t0 t1 t2 D oD i m news) (hi : i ≤ 10)
    (F : Fr g L s.heap m) (N : News g L s.heap news) (h : ∀ h' tk' m', Fr g L h' m' → Q (.ret (.bool true)) { s with heap := h', toks := tk' }) :
    wpAny (model prog w) (callerA.deeper env) (execs body env) Q (fun _ _ => False) s := by
  obtain ⟨oC, cv, its0, its1, its2, vs0, vs1, vs2, n0, n1, n2, k0, k1, k2, rs0, rs1, rs2, qs0, qs1, qs2, bf, tb, Z, eS, eD, ebf, rfl, hoC, sd0, sd1, sd2, offZ⟩ := J
  have nC := (List.nodup_cons.mp (nodup_pick nd [12, 0, 1, 2, 3, 4, 5, 6, 7, 8, 9, 10, 11, 13, 14, 15] (by decide) rfl)).1
  have hR : ∃ R, News g L s.heap ((L + 1, oC) :: R) ∧ (∀ p ∈ R, p.1 ≠ L + 1) ∧ (∀ a o, Src g Z a o → Src g R a o) ∧ ((SE, listOf #[.ref x0, .ref x1, .ref x2] 0) ∈ R ∧ (DR, listOf #[.ref D0, .ref D1, .ref D2] 0) ∈ R ∧ (D0, listOf vs0.toArray k0) ∈ R ∧ (D1, listOf vs1.toArray k1) ∈ R ∧ (D2, listOf vs2.toArray k2) ∈ R) ∧
      ((x0, instObj 118 d0) ∈ R ∧ (d0, rdict w.params l0 t0) ∈ R ∧ (l0, listOf its0.toArray n0) ∈ R) ∧ ((x1, instObj 118 d1) ∈ R ∧ (d1, rdict w.params l1 t1) ∈ R ∧ (l1, listOf its1.toArray n1) ∈ R) ∧ ((x2, instObj 118 d2) ∈ R ∧ (d2, rdict w.params l2 t2) ∈ R ∧ (l2, listOf its2.toArray n2) ∈ R) := by
    refine ⟨_, news_pick N [12, 0, 1, 2, 3, 4, 5, 6, 7, 8, 9, 10, 11, 13, 14, 15] 16 rfl, ?_, ?_, ⟨nthO_mem (i := 12) rfl, nthO_mem (i := 13) rfl, nthO_mem (i := 3) rfl, nthO_mem (i := 7) rfl, nthO_mem (i := 11) rfl⟩, ⟨nthO_mem (i := 0) rfl, nthO_mem (i := 1) rfl, nthO_mem (i := 2) rfl⟩, ⟨nthO_mem (i := 4) rfl, nthO_mem (i := 5) rfl, nthO_mem (i := 6) rfl⟩, ⟨nthO_mem (i := 8) rfl, nthO_mem (i := 9) rfl, nthO_mem (i := 10) rfl⟩⟩
    · exact ne_all (core := [(x0, instObj 118 d0), (d0, rdict w.params l0 t0), (l0, listOf its0.toArray n0), (D0, listOf vs0.toArray k0), (x1, instObj 118 d1), (d1, rdict w.params l1 t1), (l1, listOf its1.toArray n1), (D1, listOf vs1.toArray k1), (x2, instObj 118 d2), (d2, rdict w.params l2 t2), (l2, listOf its2.toArray n2), (D2, listOf vs2.toArray k2), (SE, listOf #[.ref x0, .ref x1, .ref x2] 0), (DR, listOf #[.ref D0, .ref D1, .ref D2] 0), (D, oD)]) nC fun p hp e => offZ p hp (by rw [e]; exact nthO_mem (i := 12) rfl)
    · exact fun a o q => q.imp id fun hp => dropL_mem (n := 15) hp
  clear N nC offZ nd
  obtain ⟨R, N, nC, up, ⟨mS, mD, m0, m1, m2⟩, ⟨a0, b0, c0⟩, ⟨a1, b1, c1⟩, ⟨a2, b2, c2⟩⟩ := hR
  exact mid2_spec hex henv X T F N nC hoC eS eD mS mD ⟨sd0.canon, d0, l0, its0, n0, t0, a0, b0, c0, sd0.rngs.mono up⟩ ⟨sd1.canon, d1, l1, its1, n1, t1, a1, b1, c1, sd1.rngs.mono up⟩ ⟨sd2.canon, d2, l2, its2, n2, t2, a2, b2, c2, sd2.rngs.mono up⟩ m0 m1 m2 (sd0.mono up hi) (sd1.mono up hi) (sd2.mono up hi) h
theorem nodup14 {D a0 a1 a2 a3 a4 a5 a6 a7 a8 a9 a10 a11 a12 a13 a14 : Nat} (nd : [a0, a1, a2, a3, a4, a5, a6, a7, a8, a9, a10, a11, a12, a13, a14].Nodup)
    (l : a0 < D ∧ a1 < D ∧ a2 < D ∧ a3 < D ∧ a4 < D ∧ a5 < D ∧ a6 < D ∧ a7 < D ∧ a8 < D ∧ a9 < D ∧ a10 < D ∧ a11 < D ∧ a12 < D ∧ a13 < D ∧ a14 < D) : [D, a0, a1, a2, a3, a4, a5, a6, a7, a8, a9, a10, a11, a12, a13, a14].Nodup := by
  refine List.nodup_cons.mpr ⟨fun q => ?_, nd⟩
  have : ∀ a ∈ [a0, a1, a2, a3, a4, a5, a6, a7, a8, a9, a10, a11, a12, a13, a14], a < D := by
    simp only [List.mem_cons, List.not_mem_nil, or_false, forall_eq_or_imp, forall_eq]; exact l
  exact Nat.lt_irrefl _ (this D q)

end
end L2
end

section
open PySem PySem.W PySem.Calls PyProof.Rows RS
open PySem.SeqAt
set_option maxRecDepth 100000
set_option maxHeartbeats 0
set_option linter.unusedVariables false
namespace L2
theorem warm_law2 : (fun (_ : OpenLaw) (_ : Params → Frag) => True) PySem.Challenge.rw_lg0001_02 L2H.hd.heap_39 := by w_top off; k_fill; trivial
section
variable {prog : Program} {w : World} {A : Around} {E : Value → Shared → Prop} {s : Shared} {base : Heap} {p : Program} {loose : List Str} {mean : ExcName → Option Value} {mg mb : Str → Option Value}
local macro_rules | `(tactic| k_steps) => `(tactic| repeat' (first | (k_unfold; (try dsimp only)) | ((fail_if_success (with_reducible (apply stoppedN; constructor))); (fail_if_success (with_reducible (apply stoppedL; constructor))); (fail_if_success (with_reducible (apply stopped; constructor))); (first | walk1 | (dsimp only; walk1)))))
def Ret2 (g : Heap) (L : Addr) (s : Shared) (fl : Flow) (s' : Shared) : Prop :=
  fl = .ret (.bool true) ∧ ∃ h' tk' m', Fr g L h' m' ∧ s' = { s with heap := h', toks := tk' }
theorem law2_work : PySem.Challenge.rw_lg0001_02.Holds := L2H.hd (by
  k_go0
  all_goals (try k_fold)
  have hdep : ∀ e, (callerA.deeper e).depth = 302 := fun e => rfl
  rename (L2H.hd.heap_39 _).In _ => X
  rename Top _ _ _ _ _ _ => T
  rename Below _ _ _ _ => K0
  rename IntsAre _ _ => hIs
  rename PySem.Heap.IsList _ _ _ => hLs
  k_steps
  rename Fr _ _ _ _ => F
  rename News _ _ _ _ => N
  refine new0_spec (A := callerA.deeper _) (s := { heap := _, gens := _, drawn := _, toks := _, os := _ }) (base := _) F.keep X T (by rw [hdep]; decide) rfl ?_
  intro x0 d0 l0 h2 tk2 its0 n0 t0 st2 r0 y0 fr0
  dsimp only at st2 fr0
  obtain rfl := rngs_nil y0
  have nd0 := nodup_set (nodup_one _) rfl F N fr0 r0.apart
  replace N := news_rs F N st2 r0 fr0
  replace F := F.keeps st2
  k_steps
  rename Fr _ _ _ _ => F
  rename News _ _ _ _ => N
  refine new0_spec (A := callerA.deeper _) (s := { heap := _, gens := _, drawn := _, toks := _, os := _ }) (base := _) F.keep X T (by rw [hdep]; decide) rfl ?_
  intro x1 d1 l1 h3 tk3 its1 n1 t1 st3 r1 y1 fr1
  dsimp only at st3 fr1
  obtain rfl := rngs_nil y1
  have nd1 := nodup_set nd0 rfl F N fr1 r1.apart
  replace N := news_rs F N st3 r1 fr1
  replace F := F.keeps st3
  k_steps
  rename Fr _ _ _ _ => F
  rename News _ _ _ _ => N
  refine new0_spec (A := callerA.deeper _) (s := { heap := _, gens := _, drawn := _, toks := _, os := _ }) (base := _) F.keep X T (by rw [hdep]; decide) rfl ?_
  intro x2 d2 l2 h4 tk4 its2 n2 t2 st4 r2 y2 fr2
  dsimp only at st4 fr2
  obtain rfl := rngs_nil y2
  have nd2 := nodup_set nd1 rfl F N fr2 r2.apart
  replace N := news_rs F N st4 r2 fr2
  replace F := F.keeps st4
  k_steps
  rename Fr _ _ _ _ => F
  rename News _ _ _ _ => N
  refine rs_newList F N ?_
  clear F N
  intro SE h5 F N lB _
  have nd3 := nodup_new nd2 rfl lB
  k_lt lB
  k_steps
  rename Fr _ _ _ _ => F
  rename News _ _ _ _ => N
  refine rs_newList F N ?_
  clear F N
  intro D0 h6 F N lB _
  have nd4 := nodup_new nd3 rfl lB
  k_lt lB
  k_steps
  rename Fr _ _ _ _ => F
  rename News _ _ _ _ => N
  refine rs_newList F N ?_
  clear F N
  intro D1 h7 F N lB _
  have nd5 := nodup_new nd4 rfl lB
  k_lt lB
  k_steps
  rename Fr _ _ _ _ => F
  rename News _ _ _ _ => N
  refine rs_newList F N ?_
  clear F N
  intro D2 h8 F N lB _
  have nd6 := nodup_new nd5 rfl lB
  k_lt lB
  k_steps
  rename Fr _ _ _ _ => F
  rename News _ _ _ _ => N
  refine rs_newList F N ?_
  clear F N
  intro DR h9 F N lB _
  have nd7 := nodup_new nd6 rfl lB
  k_lt lB
  k_steps
  refine wpAny_For ?_
  k_steps
  walk1
  k_steps
  rename Fr _ _ _ _ => F
  rename News _ _ _ _ => N
  dsimp only at nd7
  rename IntsAre _ (List.take 10 _) => hI12
  rename (List.take 10 _).length = _ => hlen12
  rename _ < _ ∧ _ => lD
  rename PySem.Obj.data _ = PySem.Data.cell _ => hC
  rename_i gC D5 _ _ _
  rename Shared => s1
  rename PySem.Obj => oC
  rename List Value => ws
  rename World => w
  have nd8 : List.Nodup [D5, DR, D2, D1, D0, SE, x2, d2, l2, x1, d1, l1, x0, d0, l0, s1.heap.objs.size + 1] := nodup14 (D := D5) (a0 := DR) (a1 := D2) (a2 := D1) (a3 := D0) (a4 := SE) (a5 := x2) (a6 := d2) (a7 := l2) (a8 := x1) (a9 := d1) (a10 := l1) (a11 := x0) (a12 := d0) (a13 := l0) (a14 := s1.heap.objs.size + 1) nd7 lD
  have hnd := nodup_pick nd8 [12, 13, 14, 4, 9, 10, 11, 3, 6, 7, 8, 2, 15, 5, 1, 0] (by decide) rfl
  have N1 := news_pick N [12, 13, 14, 4, 9, 10, 11, 3, 6, 7, 8, 2, 15, 5, 1, 0] 16 rfl
  replace N1 : News s1.heap s1.heap.objs.size _ (led2 w.params s1.heap.objs.size oC SE DR x0 d0 l0 D0 x1 d1 l1 D1 x2 d2 l2 D2 t0 t1 t2 [] [] [] [] [] [] n0 n1 n2 0 0 0 D5 (listOf ws.toArray 0) []) := N1
  replace hC : ∃ cv, oC.data = PySem.Data.cell cv := ⟨_, hC⟩
  obtain ⟨cv, hC⟩ := hC
  rename CellsAre _ _ _ => zc; clear zc
  rename PySem.Heap.CodeRec _ _ _ => zc; clear zc
  rename Dflts _ _ _ _ _ _ => zc; clear zc
  replace F : ∃ m₀, Fr s1.heap s1.heap.objs.size _ m₀ ∧ m₀ (Str.ofString "sets") = some (.ref SE) ∧ m₀ (Str.ofString "drawn") = some (.ref DR) ∧ ∃ tb, m₀ (Str.ofString "before") = some (.int 5 tb) := ⟨_, F, rfl, rfl, _, rfl⟩
  obtain ⟨m₀, F, eS, eD, tb₀, eb⟩ := F
  clear N lB lD nd0 nd1 nd2 nd3 nd4 nd5 nd6 nd7 nd8
  refine for_list (fix := [(D5, listOf ws.toArray 0)]) rfl rfl rfl ⟨_, N1.get (by k_mem), rfl, _, rfl⟩ (N1 (D5, listOf ws.toArray 0) (by k_mem)).2.1 (.inr ⟨_, .head _⟩) F N1 (LawJ2 w.params s1.heap s1.heap.objs.size SE DR x0 d0 l0 D0 x1 d1 l1 D1 x2 d2 l2 D2 t0 t1 t2 D5 (listOf ws.toArray 0)) ?_ ?_ ?_ ?_
  · rintro i m' news' ⟨oC, cv, its0, its1, its2, vs0, vs1, vs2, n0, n1, n2, k0, k1, k2, rs0, rs1, rs2, qs0, qs1, qs2, bf, tb, Z, _, _, _, rfl, _⟩ q hq
    rw [List.mem_singleton.mp hq]; exact nthO_mem (i := 15) rfl
  · exact ⟨oC, cv, [], [], [], [], [], [], n0, n1, n2, 0, 0, 0, [], [], [], [], [], [], 5, tb₀, [], eS, eD, eb, rfl, hC, .new, .new, .new, fun _ h => nomatch h⟩
  · rintro i v I oI m' news' h tk hoI hi J hlt off F N
    have hil := (List.getElem?_eq_some_iff.mp hi).1
    rw [hI12.length, List.length_take] at hil
    obtain ⟨nv, hnv⟩ : ∃ nv, (List.take 10 _)[i]? = some nv := ⟨_, List.getElem?_eq_getElem (by rw [List.length_take]; exact hil)⟩
    obtain ⟨tnv, hv⟩ := hI12.get _ _ hnv
    rw [hi] at hv
    cases hv
    exact turn2_top (by obtain ⟨hb, _⟩ := fn_of (K := L2H.hd.heap_39 w.params) (a := 161) (by k_is); (first | unfold lawTurn | unfold lawTwo | unfold lawT2 | unfold lawV2 lawW2 | unfold lawW2 | skip); first | (rw [hb]; done) | (rw [hb]; rfl)) (by obtain ⟨_, hs⟩ := fn_of (K := L2H.hd.heap_39 w.params) (a := 161) (by k_is); unfold lawEnv; first | (rw [hs]; done) | (rw [hs]; rfl)) X T hnd rfl hoI J off (by omega) F N
  · rintro m' news' h tk J F N
    have hws : ws.length ≤ 10 := by rw [hI12.length, List.length_take]; omega
    replace F : Fr s1.heap s1.heap.objs.size h _ := F
    replace N : News s1.heap s1.heap.objs.size h _ := N
    dsimp only
    refine wpAny_mono (Q := Ret2 s1.heap s1.heap.objs.size s1) (end2 (s := { heap := h, gens := s1.gens, drawn := s1.drawn, toks := tk, os := s1.os }) (by obtain ⟨hb, _⟩ := fn_of (K := L2H.hd.heap_39 w.params) (a := 161) (by k_is); (first | unfold lawTurn | unfold lawTwo | unfold lawT2 | unfold lawV2 lawW2 | unfold lawW2 | skip); first | (rw [hb]; done) | (rw [hb]; rfl)) (by obtain ⟨_, hs⟩ := fn_of (K := L2H.hd.heap_39 w.params) (a := 161) (by k_is); unfold lawEnv; first | (rw [hs]; done) | (rw [hs]; rfl)) X T hnd J hws F N fun h' tk' m' F => ⟨rfl, h', tk', m', F, rfl⟩) ?_ fun _ _ x => x.elim
    rintro fl s' ⟨rfl, h', tk', m', F', rfl⟩
    walk
    show GoodW _ _ _ _ _ (.ok (.ret (.bool true))) _
    refine goodW_bool (by assumption) (by assumption) (raisesW_false ?_) ?_
    · wrow_none_raised
    · wrow_post)

end
end L2
end
end

theorem PySem.Challenge.cw_lg0001_02_holds : PySem.Challenge.rw_lg0001_02.Holds := by
  exact L2.law2_work
