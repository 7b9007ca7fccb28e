import PyProof.Rows.All
import Wide.All
import OpenK.AllK
import Wide.FinOn
import PySem.Challenge.RW_oh0118_01
set_option Elab.async false
set_option linter.unusedVariables false
set_option linter.unusedSimpArgs false
section
local macro_rules | `(tactic| walk_at "om") => `(tactic| first | lia | omega)
section
open PySem PySem.W PyProof.Rows
set_option Elab.async false
namespace Mine

/-- the surrogate look over the list, by its recursion -/
noncomputable def anyF.{u} {α : Type u} (as : Array α) (p : α → Bool) (start : Nat := 0) (stop : Nat := as.size) : Bool :=
  @Bool.rec (fun _ => Bool) (Array.any as p start stop) (@Bool.rec (fun _ => Bool) (Array.any as p start stop) (R.anyR as.toList p) (Nat.beq stop as.toList.length)) (Nat.beq start 0)
theorem anyR_any.{u} {α : Type u} (p : α → Bool) : ∀ l : List α, R.anyR l p = l.any p
  | [] => rfl
  | a :: l => by
    show (@Bool.rec (fun _ => Bool) (R.anyR l p) true (p a)) = _
    rw [List.any_cons, anyR_any p l]
    cases p a <;> rfl
theorem any_eq.{u} : @Array.any.{u} = @anyF.{u} := by
  funext α as p start stop
  unfold anyF
  cases h : Nat.beq start 0 with
  | false => rfl
  | true =>
    cases h2 : Nat.beq stop as.toList.length with
    | false => rfl
    | true =>
      have e1 := Nat.eq_of_beq_eq_true h
      have e2 := Nat.eq_of_beq_eq_true h2
      subst e1
      subst e2
      show Array.any as p 0 as.toList.length = R.anyR as.toList p
      rw [anyR_any]
      exact (Array.any_toList ..).symm
/-- an equation as data: so that its term is not set apart with its type spread out -/
inductive EqT (a : Builtin) : Builtin → Type where
  | refl : EqT a a
theorem EqT.eq {a b : Builtin} (h : EqT a b) : a = b := by cases h; rfl
noncomputable def tnG : (g : (∀ (α : Type), Array α → (α → Bool) → (start : Nat) → (stop : Nat) → Bool) → Builtin) × EqT Fast.tw4202317264376624991 (g @Array.any) := by
  apply Sigma.mk
  delta Fast.tw4202317264376624991
  generalize @Array.any.{0} = x
  exact EqT.refl
noncomputable def tnF : Builtin := tnG.1 @anyF
theorem tn_eq : Builtin.«type.__new__» = tnF := Fast.te4202317264376624991.trans (tnG.2.eq.trans (congrArg tnG.1 any_eq))
noncomputable def tblF (id : String) : Option Builtin :=
  @Bool.rec (fun _ => Option Builtin) (Fast.tw14364793385576792824 id) (some tnF) (Nat.beq (Fast.tw13482112738370960269 id) 29827186395103491166823348853)
theorem tn_at : treeTable "type.__new__" = some Builtin.«type.__new__» := by kernel_rfl
theorem tn_code : code "type.__new__" = 29827186395103491166823348853 := by kernel_rfl
theorem tbl_eq : treeTable = tblF := by
  funext id
  unfold tblF
  rw [← Fast.te14364793385576792824, ← Fast.te13482112738370960269]
  cases h : Nat.beq (code id) 29827186395103491166823348853 with
  | false => rfl
  | true =>
    have e := Nat.eq_of_beq_eq_true h
    show treeTable id = some tnF
    rw [← tn_eq, ← tn_at]
    show entriesT.find (code id) = entriesT.find (code "type.__new__")
    rw [e, tn_code]
end Mine
end
section
open PySem PySem.W PyProof.Rows
set_option Elab.async false
set_option maxRecDepth 100000
set_option maxHeartbeats 0
namespace Mine
noncomputable abbrev mkR (l : List Nat) : Str := ⟨⟨l⟩⟩
theorem ofString_mkR (s : String) : Str.ofString s = mkR (s.toList.map Char.toNat) := by
  rw [Str.ofString_eq_toList]
/-- a thing, said beside a saying that is not kept -/
noncomputable abbrev beside (α : Type) (a : α) (_ : True) : α := a
noncomputable def mkS (l : List Nat) : Str := ⟨⟨l⟩⟩
theorem ofString_mkS (s : String) : Str.ofString s = mkS (s.toList.map Char.toNat) := ofString_mkR s
noncomputable def pwG : (List Nat → Str) → Program := by
  apply beside
  case x =>
    refine (?k : Prop → True) (type_of% (show PySem.Challenge.pw_oh0118_01 = ?a mkS by
      delta PySem.Challenge.pw_oh0118_01
      simp only [ofString_mkS, String.reduceToList, List.map_cons, List.map_nil, Char.reduceToNat]
      generalize mkS = x
      exact rfl))
    case k => exact fun _ => trivial
noncomputable def pwQ : Program := by
  apply beside
  case x =>
    refine (?k : Prop → True) (type_of% (show pwG mkR = ?a by
      dsimp only [pwG, mkR]))
    case k => exact fun _ => trivial
noncomputable abbrev pwF : Program := pwQ
theorem pwG_pwF : pwG mkS = pwF := by kernel_rfl
/-- every sign is a plain one -/
noncomputable def plainL (l : List Nat) : Bool := @List.rec Nat (fun _ => Bool) true (fun a _ ih => @Bool.rec (fun _ => Bool) false ih (Nat.ble a 55295)) l
noncomputable def mkL (l : List Nat) : Str := @Bool.rec (fun _ => Str) (mkS l) (Str.ofString (String.ofList (l.map Char.ofNat))) (plainL l)
theorem plain_nat : ∀ l : List Nat, plainL l = true → (l.map Char.ofNat).map Char.toNat = l
  | [], _ => rfl
  | a :: l, h => by
    have e : plainL (a :: l) = @Bool.rec (fun _ => Bool) false (plainL l) (Nat.ble a 55295) := rfl
    rw [e] at h
    cases q : Nat.ble a 55295 with
    | false => rw [q] at h; cases h
    | true =>
      rw [q] at h
      have h1 : a ≤ 55295 := Nat.le_of_ble_eq_true q
      rw [List.map_cons, List.map_cons, plain_nat l h]
      congr 1
      have hv : a.isValidChar := .inl (by walk_at "om")
      unfold Char.ofNat
      rw [dif_pos hv]
      rfl
theorem mkL_eq : mkL = mkS := by
  funext l
  unfold mkL
  cases h : plainL l with
  | false => rfl
  | true =>
    show Str.ofString (String.ofList (l.map Char.ofNat)) = mkS l
    rw [ofString_mkS, String.toList_ofList, plain_nat l h]
theorem pw_pwG : PySem.Challenge.pw_oh0118_01 = pwG mkL := by kernel_rfl
theorem pw_eq : PySem.Challenge.pw_oh0118_01 = pwF := pw_pwG.trans ((congrArg pwG mkL_eq).trans pwG_pwF)
end Mine
end
section
open PySem PySem.W PyProof.Rows
set_option Elab.async false
set_option maxRecDepth 100000
set_option maxHeartbeats 0
namespace Mine
noncomputable abbrev stepOkF := Fast.tw6613529449190102663
noncomputable abbrev stepTF := Fast.tw10156331382660048174
noncomputable abbrev denF := Fast.tw11892475500146522536

noncomputable def runF (p : Program) (w : World) (n₀ : Nat) (ann : Option Value) : Nat → SharedT → Thread → Option SharedT :=
  fun n => @Nat.rec (fun _ => SharedT → Thread → Option SharedT) (fun _ _ => none)
    (fun _ ih s t => match through t with
      | true => some s
      | false => match stepOkF n₀ ann t with
        | false => none
        | true => match stepTF (denF tblF) p w s t with
          | some (s', t') => ih s' t'
          | none => none) n
theorem runF_spec {p : Program} {w : World} {n₀ : Nat} {ann : Option Value} : ∀ (n : Nat) (s : SharedT) (t : Thread) (s' : SharedT), runF p w n₀ ann n s t = some s' → topRun treeTable p w n₀ ann n s.abs t = some s'.abs
  | 0, _, _, _, h => by cases h
  | n + 1, s, t, s', h => by
    have h' : (match through t with
      | true => some s
      | false => match stepOkF n₀ ann t with
        | false => none
        | true => match stepTF (denF tblF) p w s t with
          | some (s', t') => runF p w n₀ ann n s' t'
          | none => none) = some s' := h
    unfold topRun
    cases ht : through t with
    | true => rw [ht] at h'; cases h'; rfl
    | false =>
      rw [ht] at h'
      have e1 : stepOkF n₀ ann t = stepOk n₀ ann t := by rw [Fast.te6613529449190102663]
      have e2 : stepTF (denF tblF) p w s t = stepT (denote treeTable) p w s t := by rw [Fast.te10156331382660048174, Fast.te11892475500146522536, tbl_eq]
      rw [e1, e2] at h'
      cases hk : stepOk n₀ ann t with
      | false => rw [hk] at h'; cases h'
      | true =>
        rw [hk] at h'
        cases hs : stepT (denote treeTable) p w s t with
        | none => rw [hs] at h'; cases h'
        | some r => obtain ⟨s₂, t₂⟩ := r; rw [hs] at h'; rw [stepT_spec hs]; exact runF_spec n _ _ _ h'

noncomputable def insAll : List Obj → Nat → BT → BT
  | [], _, t => t
  | o :: r, i, t => insAll r (i + 1) (t.ins i o)
noncomputable def T0 (P : Params) : BT := insAll (boot_heap P).objs.toList 0 .nil
noncomputable def S0T (w : World) (os : OsState) : SharedT := ⟨T0 w.params, 11, {}, #[], boot_drawn, boot_toks, os⟩
theorem S0_abs (w : World) (os : OsState) : (S0T w os).abs = ⟨boot_heap w.params, #[], boot_drawn, boot_toks, os⟩ := by kernel_rfl
end Mine
end
section
open PySem PySem.W PyProof.Rows
set_option Elab.async false
set_option linter.unusedVariables false
set_option maxRecDepth 100000
set_option maxHeartbeats 0
namespace Mine
/-- the statement at a place of the text -/
noncomputable def atSt : List Stmt → Nat → Stmt
  | [], _ => .Pass default
  | s :: _, 0 => s
  | _ :: r, n + 1 => atSt r n
noncomputable def bodyOf : Stmt → List Stmt
  | .FunctionDef (body := b) .. => b
  | .ClassDef (body := b) .. => b
  | _ => []
noncomputable def argsOf : Stmt → Arguments
  | .FunctionDef (args := a) .. => a
  | _ => ⟨[], [], none, [], [], none, []⟩
noncomputable def scopeOf : Stmt → Scope
  | .FunctionDef (scope := a) .. => a
  | _ => default
noncomputable def docOf (s : Stmt) : Str := match bodyOf s with
  | .Expr (.Constant (.str d) _ _) _ :: _ => d
  | _ => Str.empty
noncomputable def stm (i : Nat) : Stmt := atSt pwF.main.body i
noncomputable def mth (i j : Nat) : Stmt := atSt (bodyOf (stm i)) j
noncomputable def o2 (P : Params) : Obj := ⟨.none, none, (.dict #[] 0), #[]⟩
noncomputable def o3 (P : Params) : Obj := ⟨(.type "dict"), none, (.dict #[⟨PyData.keyHash P ⟨#[95,95,110,97,109,101,95,95]⟩, (.str ⟨#[95,95,110,97,109,101,95,95]⟩ 165), (.str ⟨#[108,97,119,95,111,104,48,49,49,56,95,48,49]⟩ 649)⟩, ⟨PyData.keyHash P ⟨#[95,95,100,111,99,95,95]⟩, (.str ⟨#[95,95,100,111,99,95,95]⟩ 166), .none⟩, ⟨PyData.keyHash P ⟨#[95,95,112,97,99,107,97,103,101,95,95]⟩, (.str ⟨#[95,95,112,97,99,107,97,103,101,95,95]⟩ 167), .none⟩, ⟨PyData.keyHash P ⟨#[95,95,108,111,97,100,101,114,95,95]⟩, (.str ⟨#[95,95,108,111,97,100,101,114,95,95]⟩ 168), (.builtin "__main__.__loader__#opaque")⟩, ⟨PyData.keyHash P ⟨#[95,95,115,112,101,99,95,95]⟩, (.str ⟨#[95,95,115,112,101,99,95,95]⟩ 169), .none⟩, ⟨PyData.keyHash P ⟨#[95,95,97,110,110,111,116,97,116,105,111,110,115,95,95]⟩, (.str ⟨#[95,95,97,110,110,111,116,97,116,105,111,110,115,95,95]⟩ 170), (.ref 6)⟩, ⟨PyData.keyHash P ⟨#[95,95,98,117,105,108,116,105,110,115,95,95]⟩, (.str ⟨#[95,95,98,117,105,108,116,105,110,115,95,95]⟩ 171), (.ref 4)⟩, ⟨PyData.keyHash P ⟨#[95,95,102,105,108,101,95,95]⟩, (.str ⟨#[95,95,102,105,108,101,95,95]⟩ 173), (.str ⟨#[47,99,108,97,105,109,47,99,117,116,46,112,121]⟩ 172)⟩, ⟨PyData.keyHash P ⟨#[95,95,99,97,99,104,101,100,95,95]⟩, (.str ⟨#[95,95,99,97,99,104,101,100,95,95]⟩ 174), .none⟩, ⟨PyData.keyHash P ⟨#[95,119,97,108,108]⟩, (.str ⟨#[95,119,97,108,108]⟩ 193), (.ref 21)⟩, ⟨PyData.keyHash P ⟨#[95,116,117,112,108,101,103,101,116,116,101,114]⟩, (.str ⟨#[95,116,117,112,108,101,103,101,116,116,101,114]⟩ 252), (.ref 60)⟩, ⟨PyData.keyHash P ⟨#[77,97,116,99,104]⟩, (.str ⟨#[77,97,116,99,104]⟩ 380), (.ref 135)⟩, ⟨PyData.keyHash P ⟨#[95,99,97,108,99,117,108,97,116,101,95,114,97,116,105,111]⟩, (.str ⟨#[95,99,97,108,99,117,108,97,116,101,95,114,97,116,105,111]⟩ 388), (.ref 145)⟩, ⟨PyData.keyHash P ⟨#[83,101,113,117,101,110,99,101,77,97,116,99,104,101,114]⟩, (.str ⟨#[83,101,113,117,101,110,99,101,77,97,116,99,104,101,114]⟩ 574), (.ref 242)⟩, ⟨PyData.keyHash P ⟨#[104,101,97,112,112,117,115,104]⟩, (.str ⟨#[104,101,97,112,112,117,115,104]⟩ 585), (.ref 253)⟩, ⟨PyData.keyHash P ⟨#[104,101,97,112,112,111,112]⟩, (.str ⟨#[104,101,97,112,112,111,112]⟩ 595), (.ref 260)⟩, ⟨PyData.keyHash P ⟨#[95,115,105,102,116,100,111,119,110]⟩, (.str ⟨#[95,115,105,102,116,100,111,119,110]⟩ 607), (.ref 267)⟩, ⟨PyData.keyHash P ⟨#[95,115,105,102,116,117,112]⟩, (.str ⟨#[95,115,105,102,116,117,112]⟩ 620), (.ref 274)⟩, ⟨PyData.keyHash P ⟨#[115,111,114,116,101,100,95,108,105,115,116,95,100,105,102,102,101,114,101,110,99,101]⟩, (.str ⟨#[115,111,114,116,101,100,95,108,105,115,116,95,100,105,102,102,101,114,101,110,99,101]⟩ 637), (.ref 281)⟩, ⟨PyData.keyHash P ⟨#[117,110,111,114,100,101,114,97,98,108,101,95,108,105,115,116,95,100,105,102,102,101,114,101,110,99,101]⟩, (.str ⟨#[117,110,111,114,100,101,114,97,98,108,101,95,108,105,115,116,95,100,105,102,102,101,114,101,110,99,101]⟩ 648), (.ref 288)⟩, ⟨PyData.keyHash P ⟨#[95,108,97,119,95,108,105,115,116,115]⟩, (.str ⟨#[95,108,97,119,95,108,105,115,116,115]⟩ 656), (.ref 293)⟩, ⟨PyData.keyHash P ⟨#[95,108,97,119,95,114,111,119]⟩, (.str ⟨#[95,108,97,119,95,114,111,119]⟩ 666), (.ref 300)⟩, ⟨PyData.keyHash P ⟨#[95,108,97,119,95,114,117,110,115]⟩, (.str ⟨#[95,108,97,119,95,114,117,110,115]⟩ 678), (.ref 307)⟩, ⟨PyData.keyHash P ⟨#[95,108,97,119,95,111,117,116,115,105,100,101]⟩, (.str ⟨#[95,108,97,119,95,111,117,116,115,105,100,101]⟩ 684), (.ref 312)⟩, ⟨PyData.keyHash P ⟨#[108,97,119]⟩, (.str ⟨#[108,97,119]⟩ 690), (.ref 317)⟩] 25), #[]⟩
noncomputable def o15 (P : Params) : Obj := ⟨(.type "tuple"), none, (.seq #[] 0), #[]⟩
noncomputable def o17 (P : Params) : Obj := ⟨(.type "tuple"), none, (.seq #[(.str ⟨#[107]⟩ 190)] 0), #[]⟩
noncomputable def o18 (P : Params) : Obj := ⟨(.type "tuple"), none, (.seq #[] 0), #[]⟩
noncomputable def o20 (P : Params) : Obj := ⟨(.type "code"), none, (.fields #[(.str ⟨#[95,119,97,108,108]⟩ 187), (.str ⟨#[95,119,97,108,108]⟩ 188), (.str ⟨#[47,99,108,97,105,109,47,99,117,116,46,112,121]⟩ 189), (.int (1) 0), (.int (1) 0), (.int (0) 0), (.int (0) 0), (.int (3) 0), (.ref 15), (.bool true), (.int (181) 0), (.ref 16), .none, (.ref 17), (.ref 18), (.ref 19), (.int (191) 0), (.int (1) 0), (.str ⟨#[47,99,108,97,105,109,47,99,117,116,46,112,121]⟩ 192)]), #[]⟩
noncomputable def fd21 : FuncData := { name := ⟨#[95,119,97,108,108]⟩, qualname := ⟨#[95,119,97,108,108]⟩, params := argsOf (stm 0), body := .stmts (bodyOf (stm 0)), scope := scopeOf (stm 0), globals := 3, closure := [], defaults := .none, kwdefaults := .none, doc := .none, pyModule := (.str ⟨#[95,95,109,97,105,110,95,95]⟩ 164), annotations := none, code := (.ref 20), closureTuple := .none, builtins := 0 }
noncomputable def o21 (P : Params) : Obj := ⟨(.type "function"), none, (.func fd21), #[]⟩
noncomputable def o29 (P : Params) : Obj := ⟨(.type "tuple"), none, (.seq #[] 0), #[]⟩
noncomputable def o31 (P : Params) : Obj := ⟨(.type "tuple"), none, (.seq #[(.str ⟨#[115,101,108,102]⟩ 211), (.str ⟨#[105,110,100,101,120]⟩ 212), (.str ⟨#[100,111,99]⟩ 213)] 0), #[]⟩
noncomputable def o32 (P : Params) : Obj := ⟨(.type "tuple"), none, (.seq #[] 0), #[]⟩
noncomputable def o34 (P : Params) : Obj := ⟨(.type "code"), none, (.fields #[(.str ⟨#[95,95,105,110,105,116,95,95]⟩ 208), (.str ⟨#[95,116,117,112,108,101,103,101,116,116,101,114,46,95,95,105,110,105,116,95,95]⟩ 209), (.str ⟨#[47,99,108,97,105,109,47,99,117,116,46,112,121]⟩ 210), (.int (7) 0), (.int (3) 0), (.int (0) 0), (.int (0) 0), (.int (3) 0), (.ref 29), (.bool true), (.int (181) 0), (.ref 30), .none, (.ref 31), (.ref 32), (.ref 33), (.int (214) 0), (.int (7) 0), (.str ⟨#[47,99,108,97,105,109,47,99,117,116,46,112,121]⟩ 215)]), #[]⟩
noncomputable def fd35 : FuncData := { name := ⟨#[95,95,105,110,105,116,95,95]⟩, qualname := ⟨#[95,116,117,112,108,101,103,101,116,116,101,114,46,95,95,105,110,105,116,95,95]⟩, params := argsOf (mth 2 0), body := .stmts (bodyOf (mth 2 0)), scope := scopeOf (mth 2 0), globals := 3, closure := [], defaults := .none, kwdefaults := .none, doc := .none, pyModule := (.str ⟨#[99,112,121,51,49,51,46,100,105,102,102,108,105,98]⟩ 194), annotations := none, code := (.ref 34), closureTuple := .none, builtins := 0 }
noncomputable def o35 (P : Params) : Obj := ⟨(.type "function"), none, (.func fd35), #[]⟩
noncomputable def o36 (P : Params) : Obj := ⟨(.type "tuple"), none, (.seq #[.none] 0), #[]⟩
noncomputable def o37 (P : Params) : Obj := ⟨(.type "tuple"), none, (.seq #[] 0), #[]⟩
noncomputable def o39 (P : Params) : Obj := ⟨(.type "tuple"), none, (.seq #[(.str ⟨#[115,101,108,102]⟩ 220), (.str ⟨#[111,98,106]⟩ 221), (.str ⟨#[111,98,106,116,121,112,101]⟩ 222)] 0), #[]⟩
noncomputable def o40 (P : Params) : Obj := ⟨(.type "tuple"), none, (.seq #[] 0), #[]⟩
noncomputable def o42 (P : Params) : Obj := ⟨(.type "code"), none, (.fields #[(.str ⟨#[95,95,103,101,116,95,95]⟩ 217), (.str ⟨#[95,116,117,112,108,101,103,101,116,116,101,114,46,95,95,103,101,116,95,95]⟩ 218), (.str ⟨#[47,99,108,97,105,109,47,99,117,116,46,112,121]⟩ 219), (.int (11) 0), (.int (3) 0), (.int (0) 0), (.int (0) 0), (.int (3) 0), (.ref 37), (.bool true), (.int (181) 0), (.ref 38), .none, (.ref 39), (.ref 40), (.ref 41), (.int (223) 0), (.int (11) 0), (.str ⟨#[47,99,108,97,105,109,47,99,117,116,46,112,121]⟩ 224)]), #[]⟩
noncomputable def fd43 : FuncData := { name := ⟨#[95,95,103,101,116,95,95]⟩, qualname := ⟨#[95,116,117,112,108,101,103,101,116,116,101,114,46,95,95,103,101,116,95,95]⟩, params := argsOf (mth 2 1), body := .stmts (bodyOf (mth 2 1)), scope := scopeOf (mth 2 1), globals := 3, closure := [], defaults := (.ref 36), kwdefaults := .none, doc := .none, pyModule := (.str ⟨#[99,112,121,51,49,51,46,100,105,102,102,108,105,98]⟩ 194), annotations := none, code := (.ref 42), closureTuple := .none, builtins := 0 }
noncomputable def o43 (P : Params) : Obj := ⟨(.type "function"), none, (.func fd43), #[]⟩
noncomputable def o44 (P : Params) : Obj := ⟨(.type "tuple"), none, (.seq #[] 0), #[]⟩
noncomputable def o46 (P : Params) : Obj := ⟨(.type "tuple"), none, (.seq #[(.str ⟨#[115,101,108,102]⟩ 229), (.str ⟨#[111,98,106]⟩ 230), (.str ⟨#[118,97,108,117,101]⟩ 231)] 0), #[]⟩
noncomputable def o47 (P : Params) : Obj := ⟨(.type "tuple"), none, (.seq #[] 0), #[]⟩
noncomputable def o49 (P : Params) : Obj := ⟨(.type "code"), none, (.fields #[(.str ⟨#[95,95,115,101,116,95,95]⟩ 226), (.str ⟨#[95,116,117,112,108,101,103,101,116,116,101,114,46,95,95,115,101,116,95,95]⟩ 227), (.str ⟨#[47,99,108,97,105,109,47,99,117,116,46,112,121]⟩ 228), (.int (18) 0), (.int (3) 0), (.int (0) 0), (.int (0) 0), (.int (3) 0), (.ref 44), (.bool true), (.int (181) 0), (.ref 45), .none, (.ref 46), (.ref 47), (.ref 48), (.int (232) 0), (.int (18) 0), (.str ⟨#[47,99,108,97,105,109,47,99,117,116,46,112,121]⟩ 233)]), #[]⟩
noncomputable def fd50 : FuncData := { name := ⟨#[95,95,115,101,116,95,95]⟩, qualname := ⟨#[95,116,117,112,108,101,103,101,116,116,101,114,46,95,95,115,101,116,95,95]⟩, params := argsOf (mth 2 2), body := .stmts (bodyOf (mth 2 2)), scope := scopeOf (mth 2 2), globals := 3, closure := [], defaults := .none, kwdefaults := .none, doc := .none, pyModule := (.str ⟨#[99,112,121,51,49,51,46,100,105,102,102,108,105,98]⟩ 194), annotations := none, code := (.ref 49), closureTuple := .none, builtins := 0 }
noncomputable def o50 (P : Params) : Obj := ⟨(.type "function"), none, (.func fd50), #[]⟩
noncomputable def o51 (P : Params) : Obj := ⟨(.type "tuple"), none, (.seq #[] 0), #[]⟩
noncomputable def o53 (P : Params) : Obj := ⟨(.type "tuple"), none, (.seq #[(.str ⟨#[115,101,108,102]⟩ 238), (.str ⟨#[111,98,106]⟩ 239)] 0), #[]⟩
noncomputable def o54 (P : Params) : Obj := ⟨(.type "tuple"), none, (.seq #[] 0), #[]⟩
noncomputable def o56 (P : Params) : Obj := ⟨(.type "code"), none, (.fields #[(.str ⟨#[95,95,100,101,108,101,116,101,95,95]⟩ 235), (.str ⟨#[95,116,117,112,108,101,103,101,116,116,101,114,46,95,95,100,101,108,101,116,101,95,95]⟩ 236), (.str ⟨#[47,99,108,97,105,109,47,99,117,116,46,112,121]⟩ 237), (.int (21) 0), (.int (2) 0), (.int (0) 0), (.int (0) 0), (.int (3) 0), (.ref 51), (.bool true), (.int (181) 0), (.ref 52), .none, (.ref 53), (.ref 54), (.ref 55), (.int (240) 0), (.int (21) 0), (.str ⟨#[47,99,108,97,105,109,47,99,117,116,46,112,121]⟩ 241)]), #[]⟩
noncomputable def fd57 : FuncData := { name := ⟨#[95,95,100,101,108,101,116,101,95,95]⟩, qualname := ⟨#[95,116,117,112,108,101,103,101,116,116,101,114,46,95,95,100,101,108,101,116,101,95,95]⟩, params := argsOf (mth 2 3), body := .stmts (bodyOf (mth 2 3)), scope := scopeOf (mth 2 3), globals := 3, closure := [], defaults := .none, kwdefaults := .none, doc := .none, pyModule := (.str ⟨#[99,112,121,51,49,51,46,100,105,102,102,108,105,98]⟩ 194), annotations := none, code := (.ref 56), closureTuple := .none, builtins := 0 }
noncomputable def o57 (P : Params) : Obj := ⟨(.type "function"), none, (.func fd57), #[]⟩
noncomputable def o58 (P : Params) : Obj := ⟨(.type "tuple"), none, (.seq #[(.str ⟨#[95,95,100,111,99,95,95]⟩ 243), (.str ⟨#[105,110,100,101,120]⟩ 244)] 0), #[]⟩
noncomputable def o59 (P : Params) : Obj := ⟨(.type "dict"), none, (.dict #[⟨PyData.keyHash P ⟨#[95,95,109,111,100,117,108,101,95,95]⟩, (.str ⟨#[95,95,109,111,100,117,108,101,95,95]⟩ 203), (.str ⟨#[99,112,121,51,49,51,46,100,105,102,102,108,105,98]⟩ 194)⟩, ⟨PyData.keyHash P ⟨#[95,95,102,105,114,115,116,108,105,110,101,110,111,95,95]⟩, (.str ⟨#[95,95,102,105,114,115,116,108,105,110,101,110,111,95,95]⟩ 207), (.int (5) 206)⟩, ⟨PyData.keyHash P ⟨#[95,95,105,110,105,116,95,95]⟩, (.str ⟨#[95,95,105,110,105,116,95,95]⟩ 216), (.ref 35)⟩, ⟨PyData.keyHash P ⟨#[95,95,103,101,116,95,95]⟩, (.str ⟨#[95,95,103,101,116,95,95]⟩ 225), (.ref 43)⟩, ⟨PyData.keyHash P ⟨#[95,95,115,101,116,95,95]⟩, (.str ⟨#[95,95,115,101,116,95,95]⟩ 234), (.ref 50)⟩, ⟨PyData.keyHash P ⟨#[95,95,100,101,108,101,116,101,95,95]⟩, (.str ⟨#[95,95,100,101,108,101,116,101,95,95]⟩ 242), (.ref 57)⟩, ⟨PyData.keyHash P ⟨#[95,95,115,116,97,116,105,99,95,97,116,116,114,105,98,117,116,101,115,95,95]⟩, (.str ⟨#[95,95,115,116,97,116,105,99,95,97,116,116,114,105,98,117,116,101,115,95,95]⟩ 245), (.ref 58)⟩, ⟨PyData.keyHash P ⟨#[95,95,100,105,99,116,95,95]⟩, (.str ⟨#[95,95,100,105,99,116,95,95]⟩ 247), (.ref 61)⟩, ⟨PyData.keyHash P ⟨#[95,95,119,101,97,107,114,101,102,95,95]⟩, (.str ⟨#[95,95,119,101,97,107,114,101,102,95,95]⟩ 249), (.ref 62)⟩, ⟨PyData.keyHash P ⟨#[95,95,100,111,99,95,95]⟩, (.str ⟨#[95,95,100,111,99,95,95]⟩ 250), .none⟩] 4), #[]⟩
noncomputable def o60 (P : Params) : Obj := ⟨(.type "type"), none, (.cls { name := ⟨#[95,116,117,112,108,101,103,101,116,116,101,114]⟩, bases := [(.type "object")], mro := [(.ref 60), (.type "object")], ns := 59, qualname := ⟨#[95,116,117,112,108,101,103,101,116,116,101,114]⟩, hasDict := true, slotNames := [], subclasses := [], abstract := false, collection := none, hasDel := false }), #[none, none, (some (.str ⟨#[95,116,117,112,108,101,103,101,116,116,101,114]⟩ 196)), (some (.str ⟨#[95,116,117,112,108,101,103,101,116,116,101,114]⟩ 204)), (some (.builtin "object.__new__")), (some (.bool true))]⟩
noncomputable def o61 (P : Params) : Obj := ⟨(.type "getset_descriptor"), none, (.fields #[(.str ⟨#[95,95,100,105,99,116,95,95]⟩ 246), (.ref 60), (.builtin "function.__dict__"), (.builtin "function.__dict__#set")]), #[]⟩
noncomputable def o62 (P : Params) : Obj := ⟨(.type "getset_descriptor"), none, (.fields #[(.str ⟨#[95,95,119,101,97,107,114,101,102,95,95]⟩ 248), (.ref 60), (.builtin "ExceptionGroup.__weakref__"), .none]), #[]⟩
noncomputable def o65 (P : Params) : Obj := ⟨(.type "tuple"), none, (.seq #[(.type "tuple")] 0), #[]⟩
noncomputable def o68 (P : Params) : Obj := ⟨(.type "cell"), none, (.cell (some (.ref 135))), #[]⟩
noncomputable def o73 (P : Params) : Obj := ⟨(.type "tuple"), none, (.seq #[] 0), #[]⟩
noncomputable def o74 (P : Params) : Obj := ⟨(.type "tuple"), none, (.seq #[(.str ⟨#[97]⟩ 269), (.str ⟨#[98]⟩ 270), (.str ⟨#[115,105,122,101]⟩ 271)] 0), #[]⟩
noncomputable def o75 (P : Params) : Obj := ⟨(.type "dict"), none, (.dict #[] 0), #[]⟩
noncomputable def o76 (P : Params) : Obj := ⟨(.type "tuple"), none, (.seq #[] 0), #[]⟩
noncomputable def o78 (P : Params) : Obj := ⟨(.type "tuple"), none, (.seq #[(.str ⟨#[95,99,108,115]⟩ 277), (.str ⟨#[97]⟩ 278), (.str ⟨#[98]⟩ 279), (.str ⟨#[115,105,122,101]⟩ 280)] 0), #[]⟩
noncomputable def o79 (P : Params) : Obj := ⟨(.type "tuple"), none, (.seq #[] 0), #[]⟩
noncomputable def o81 (P : Params) : Obj := ⟨(.type "code"), none, (.fields #[(.str ⟨#[95,95,110,101,119,95,95]⟩ 274), (.str ⟨#[77,97,116,99,104,46,95,95,110,101,119,95,95]⟩ 275), (.str ⟨#[47,99,108,97,105,109,47,99,117,116,46,112,121]⟩ 276), (.int (29) 0), (.int (4) 0), (.int (0) 0), (.int (0) 0), (.int (3) 0), (.ref 76), (.bool true), (.int (181) 0), (.ref 77), .none, (.ref 78), (.ref 79), (.ref 80), (.int (281) 0), (.int (29) 0), (.str ⟨#[47,99,108,97,105,109,47,99,117,116,46,112,121]⟩ 282)]), #[]⟩
noncomputable def fd82 : FuncData := { name := ⟨#[95,95,110,101,119,95,95]⟩, qualname := ⟨#[77,97,116,99,104,46,95,95,110,101,119,95,95]⟩, params := argsOf (mth 3 4), body := .stmts (bodyOf (mth 3 4)), scope := scopeOf (mth 3 4), globals := 3, closure := [], defaults := .none, kwdefaults := .none, doc := (.str ⟨#[67,114,101,97,116,101,32,110,101,119,32,105,110,115,116,97,110,99,101,32,111,102,32,77,97,116,99,104,40,97,44,32,98,44,32,115,105,122,101,41]⟩ 283), pyModule := (.str ⟨#[99,112,121,51,49,51,46,100,105,102,102,108,105,98]⟩ 194), annotations := none, code := (.ref 81), closureTuple := .none, builtins := 0 }
noncomputable def o82 (P : Params) : Obj := ⟨(.type "function"), none, (.func fd82), #[]⟩
noncomputable def o83 (P : Params) : Obj := ⟨(.type "tuple"), none, (.seq #[] 0), #[]⟩
noncomputable def o85 (P : Params) : Obj := ⟨(.type "tuple"), none, (.seq #[(.str ⟨#[99,108,115]⟩ 288), (.str ⟨#[105,116,101,114,97,98,108,101]⟩ 289), (.str ⟨#[114,101,115,117,108,116]⟩ 290)] 0), #[]⟩
noncomputable def o86 (P : Params) : Obj := ⟨(.type "tuple"), none, (.seq #[] 0), #[]⟩
noncomputable def o88 (P : Params) : Obj := ⟨(.type "code"), none, (.fields #[(.str ⟨#[95,109,97,107,101]⟩ 285), (.str ⟨#[77,97,116,99,104,46,95,109,97,107,101]⟩ 286), (.str ⟨#[47,99,108,97,105,109,47,99,117,116,46,112,121]⟩ 287), (.int (33) 0), (.int (2) 0), (.int (0) 0), (.int (0) 0), (.int (3) 0), (.ref 83), (.bool true), (.int (181) 0), (.ref 84), .none, (.ref 85), (.ref 86), (.ref 87), (.int (291) 0), (.int (33) 0), (.str ⟨#[47,99,108,97,105,109,47,99,117,116,46,112,121]⟩ 292)]), #[]⟩
noncomputable def fd89 : FuncData := { name := ⟨#[95,109,97,107,101]⟩, qualname := ⟨#[77,97,116,99,104,46,95,109,97,107,101]⟩, params := argsOf (mth 3 5), body := .stmts (bodyOf (mth 3 5)), scope := scopeOf (mth 3 5), globals := 3, closure := [], defaults := .none, kwdefaults := .none, doc := (.str ⟨#[77,97,107,101,32,97,32,110,101,119,32,77,97,116,99,104,32,111,98,106,101,99,116,32,102,114,111,109,32,97,32,115,101,113,117,101,110,99,101,32,111,114,32,105,116,101,114,97,98,108,101]⟩ 293), pyModule := (.str ⟨#[99,112,121,51,49,51,46,100,105,102,102,108,105,98]⟩ 194), annotations := (some 92), code := (.ref 88), closureTuple := .none, builtins := 0 }
noncomputable def o89 (P : Params) : Obj := ⟨(.type "function"), none, (.func fd89), #[]⟩
noncomputable def o90 (P : Params) : Obj := ⟨(.type "dict"), none, (.dict #[⟨PyData.keyHash P ⟨#[95,95,109,111,100,117,108,101,95,95]⟩, (.str ⟨#[95,95,109,111,100,117,108,101,95,95]⟩ 295), (.str ⟨#[99,112,121,51,49,51,46,100,105,102,102,108,105,98]⟩ 194)⟩, ⟨PyData.keyHash P ⟨#[95,95,110,97,109,101,95,95]⟩, (.str ⟨#[95,95,110,97,109,101,95,95]⟩ 298), (.str ⟨#[95,109,97,107,101]⟩ 297)⟩, ⟨PyData.keyHash P ⟨#[95,95,113,117,97,108,110,97,109,101,95,95]⟩, (.str ⟨#[95,95,113,117,97,108,110,97,109,101,95,95]⟩ 301), (.str ⟨#[77,97,116,99,104,46,95,109,97,107,101]⟩ 300)⟩, ⟨PyData.keyHash P ⟨#[95,95,100,111,99,95,95]⟩, (.str ⟨#[95,95,100,111,99,95,95]⟩ 303), (.str ⟨#[77,97,107,101,32,97,32,110,101,119,32,77,97,116,99,104,32,111,98,106,101,99,116,32,102,114,111,109,32,97,32,115,101,113,117,101,110,99,101,32,111,114,32,105,116,101,114,97,98,108,101]⟩ 293)⟩, ⟨PyData.keyHash P ⟨#[95,95,97,110,110,111,116,97,116,105,111,110,115,95,95]⟩, (.str ⟨#[95,95,97,110,110,111,116,97,116,105,111,110,115,95,95]⟩ 305), (.ref 92)⟩] 5), #[]⟩
noncomputable def o91 (P : Params) : Obj := ⟨(.type "classmethod"), (some 90), (.fields #[(.ref 89), (.bool false)]), #[]⟩
noncomputable def o92 (P : Params) : Obj := ⟨(.type "dict"), none, (.dict #[] 0), #[]⟩
noncomputable def o93 (P : Params) : Obj := ⟨(.type "tuple"), none, (.seq #[(.ref 68)] 0), #[]⟩
noncomputable def o94 (P : Params) : Obj := ⟨(.type "tuple"), none, (.seq #[(.str ⟨#[95,95,99,108,97,115,115,95,95]⟩ 310)] 0), #[]⟩
noncomputable def o96 (P : Params) : Obj := ⟨(.type "tuple"), none, (.seq #[(.str ⟨#[115,101,108,102]⟩ 311), (.str ⟨#[107,119,100,115]⟩ 312), (.str ⟨#[114,101,115,117,108,116]⟩ 313)] 0), #[]⟩
noncomputable def o97 (P : Params) : Obj := ⟨(.type "tuple"), none, (.seq #[] 0), #[]⟩
noncomputable def o99 (P : Params) : Obj := ⟨(.type "code"), none, (.fields #[(.str ⟨#[95,114,101,112,108,97,99,101]⟩ 307), (.str ⟨#[77,97,116,99,104,46,95,114,101,112,108,97,99,101]⟩ 308), (.str ⟨#[47,99,108,97,105,109,47,99,117,116,46,112,121]⟩ 309), (.int (41) 0), (.int (1) 0), (.int (1) 0), (.int (0) 0), (.int (11) 0), (.ref 94), (.bool true), (.int (181) 0), (.ref 95), .none, (.ref 96), (.ref 97), (.ref 98), (.int (314) 0), (.int (41) 0), (.str ⟨#[47,99,108,97,105,109,47,99,117,116,46,112,121]⟩ 315)]), #[]⟩
noncomputable def fd100 : FuncData := { name := ⟨#[95,114,101,112,108,97,99,101]⟩, qualname := ⟨#[77,97,116,99,104,46,95,114,101,112,108,97,99,101]⟩, params := argsOf (mth 3 6), body := .stmts (bodyOf (mth 3 6)), scope := scopeOf (mth 3 6), globals := 3, closure := [(⟨#[95,95,99,108,97,115,115,95,95]⟩, 68)], defaults := .none, kwdefaults := .none, doc := (.str (docOf (mth 3 6)) 316), pyModule := (.str ⟨#[99,112,121,51,49,51,46,100,105,102,102,108,105,98]⟩ 194), annotations := none, code := (.ref 99), closureTuple := (.ref 93), builtins := 0 }
noncomputable def o100 (P : Params) : Obj := ⟨(.type "function"), none, (.func fd100), #[]⟩
noncomputable def o101 (P : Params) : Obj := ⟨(.type "tuple"), none, (.seq #[] 0), #[]⟩
noncomputable def o103 (P : Params) : Obj := ⟨(.type "tuple"), none, (.seq #[(.str ⟨#[115,101,108,102]⟩ 322)] 0), #[]⟩
noncomputable def o104 (P : Params) : Obj := ⟨(.type "tuple"), none, (.seq #[] 0), #[]⟩
noncomputable def o106 (P : Params) : Obj := ⟨(.type "code"), none, (.fields #[(.str ⟨#[95,95,114,101,112,114,95,95]⟩ 319), (.str ⟨#[77,97,116,99,104,46,95,95,114,101,112,114,95,95]⟩ 320), (.str ⟨#[47,99,108,97,105,109,47,99,117,116,46,112,121]⟩ 321), (.int (52) 0), (.int (1) 0), (.int (0) 0), (.int (0) 0), (.int (3) 0), (.ref 101), (.bool true), (.int (181) 0), (.ref 102), .none, (.ref 103), (.ref 104), (.ref 105), (.int (323) 0), (.int (52) 0), (.str ⟨#[47,99,108,97,105,109,47,99,117,116,46,112,121]⟩ 324)]), #[]⟩
noncomputable def fd107 : FuncData := { name := ⟨#[95,95,114,101,112,114,95,95]⟩, qualname := ⟨#[77,97,116,99,104,46,95,95,114,101,112,114,95,95]⟩, params := argsOf (mth 3 8), body := .stmts (bodyOf (mth 3 8)), scope := scopeOf (mth 3 8), globals := 3, closure := [], defaults := .none, kwdefaults := .none, doc := (.str ⟨#[82,101,116,117,114,110,32,97,32,110,105,99,101,108,121,32,102,111,114,109,97,116,116,101,100,32,114,101,112,114,101,115,101,110,116,97,116,105,111,110,32,115,116,114,105,110,103]⟩ 325), pyModule := (.str ⟨#[99,112,121,51,49,51,46,100,105,102,102,108,105,98]⟩ 194), annotations := none, code := (.ref 106), closureTuple := .none, builtins := 0 }
noncomputable def o107 (P : Params) : Obj := ⟨(.type "function"), none, (.func fd107), #[]⟩
noncomputable def o108 (P : Params) : Obj := ⟨(.type "tuple"), none, (.seq #[] 0), #[]⟩
noncomputable def o110 (P : Params) : Obj := ⟨(.type "tuple"), none, (.seq #[(.str ⟨#[115,101,108,102]⟩ 330)] 0), #[]⟩
noncomputable def o111 (P : Params) : Obj := ⟨(.type "tuple"), none, (.seq #[] 0), #[]⟩
noncomputable def o113 (P : Params) : Obj := ⟨(.type "code"), none, (.fields #[(.str ⟨#[95,97,115,100,105,99,116]⟩ 327), (.str ⟨#[77,97,116,99,104,46,95,97,115,100,105,99,116]⟩ 328), (.str ⟨#[47,99,108,97,105,109,47,99,117,116,46,112,121]⟩ 329), (.int (56) 0), (.int (1) 0), (.int (0) 0), (.int (0) 0), (.int (3) 0), (.ref 108), (.bool true), (.int (181) 0), (.ref 109), .none, (.ref 110), (.ref 111), (.ref 112), (.int (331) 0), (.int (56) 0), (.str ⟨#[47,99,108,97,105,109,47,99,117,116,46,112,121]⟩ 332)]), #[]⟩
noncomputable def fd114 : FuncData := { name := ⟨#[95,97,115,100,105,99,116]⟩, qualname := ⟨#[77,97,116,99,104,46,95,97,115,100,105,99,116]⟩, params := argsOf (mth 3 9), body := .stmts (bodyOf (mth 3 9)), scope := scopeOf (mth 3 9), globals := 3, closure := [], defaults := .none, kwdefaults := .none, doc := .none, pyModule := (.str ⟨#[99,112,121,51,49,51,46,100,105,102,102,108,105,98]⟩ 194), annotations := none, code := (.ref 113), closureTuple := .none, builtins := 0 }
noncomputable def o114 (P : Params) : Obj := ⟨(.type "function"), none, (.func fd114), #[]⟩
noncomputable def o115 (P : Params) : Obj := ⟨(.type "tuple"), none, (.seq #[] 0), #[]⟩
noncomputable def o117 (P : Params) : Obj := ⟨(.type "tuple"), none, (.seq #[(.str ⟨#[115,101,108,102]⟩ 337)] 0), #[]⟩
noncomputable def o118 (P : Params) : Obj := ⟨(.type "tuple"), none, (.seq #[] 0), #[]⟩
noncomputable def o120 (P : Params) : Obj := ⟨(.type "code"), none, (.fields #[(.str ⟨#[95,95,103,101,116,110,101,119,97,114,103,115,95,95]⟩ 334), (.str ⟨#[77,97,116,99,104,46,95,95,103,101,116,110,101,119,97,114,103,115,95,95]⟩ 335), (.str ⟨#[47,99,108,97,105,109,47,99,117,116,46,112,121]⟩ 336), (.int (59) 0), (.int (1) 0), (.int (0) 0), (.int (0) 0), (.int (3) 0), (.ref 115), (.bool true), (.int (181) 0), (.ref 116), .none, (.ref 117), (.ref 118), (.ref 119), (.int (338) 0), (.int (59) 0), (.str ⟨#[47,99,108,97,105,109,47,99,117,116,46,112,121]⟩ 339)]), #[]⟩
noncomputable def fd121 : FuncData := { name := ⟨#[95,95,103,101,116,110,101,119,97,114,103,115,95,95]⟩, qualname := ⟨#[77,97,116,99,104,46,95,95,103,101,116,110,101,119,97,114,103,115,95,95]⟩, params := argsOf (mth 3 10), body := .stmts (bodyOf (mth 3 10)), scope := scopeOf (mth 3 10), globals := 3, closure := [], defaults := .none, kwdefaults := .none, doc := (.str ⟨#[82,101,116,117,114,110,32,115,101,108,102,32,97,115,32,97,32,112,108,97,105,110,32,116,117,112,108,101,46,32,32,85,115,101,100,32,98,121,32,99,111,112,121,32,97,110,100,32,112,105,99,107,108,101,46]⟩ 340), pyModule := (.str ⟨#[99,112,121,51,49,51,46,100,105,102,102,108,105,98]⟩ 194), annotations := none, code := (.ref 120), closureTuple := .none, builtins := 0 }
noncomputable def o121 (P : Params) : Obj := ⟨(.type "function"), none, (.func fd121), #[]⟩
noncomputable def o122 (P : Params) : Obj := ⟨(.type "tuple"), none, (.seq #[(.str ⟨#[97]⟩ 342), (.str ⟨#[98]⟩ 343), (.str ⟨#[115,105,122,101]⟩ 344)] 0), #[]⟩
noncomputable def o123 (P : Params) : Obj := ⟨(.type "dict"), none, (.dict #[⟨PyData.keyHash P ⟨#[105,110,100,101,120]⟩, (.str ⟨#[105,110,100,101,120]⟩ 352), (.int (0) 346)⟩, ⟨PyData.keyHash P ⟨#[95,95,100,111,99,95,95]⟩, (.str ⟨#[95,95,100,111,99,95,95]⟩ 354), (.str ⟨#[65,108,105,97,115,32,102,111,114,32,102,105,101,108,100,32,110,117,109,98,101,114,32,48]⟩ 347)⟩] 2), #[]⟩
noncomputable def o124 (P : Params) : Obj := ⟨(.ref 60), (some 123), .plain, #[]⟩
noncomputable def o126 (P : Params) : Obj := ⟨(.type "dict"), none, (.dict #[⟨PyData.keyHash P ⟨#[105,110,100,101,120]⟩, (.str ⟨#[105,110,100,101,120]⟩ 362), (.int (1) 356)⟩, ⟨PyData.keyHash P ⟨#[95,95,100,111,99,95,95]⟩, (.str ⟨#[95,95,100,111,99,95,95]⟩ 364), (.str ⟨#[65,108,105,97,115,32,102,111,114,32,102,105,101,108,100,32,110,117,109,98,101,114,32,49]⟩ 357)⟩] 2), #[]⟩
noncomputable def o127 (P : Params) : Obj := ⟨(.ref 60), (some 126), .plain, #[]⟩
noncomputable def o129 (P : Params) : Obj := ⟨(.type "dict"), none, (.dict #[⟨PyData.keyHash P ⟨#[105,110,100,101,120]⟩, (.str ⟨#[105,110,100,101,120]⟩ 372), (.int (2) 366)⟩, ⟨PyData.keyHash P ⟨#[95,95,100,111,99,95,95]⟩, (.str ⟨#[95,95,100,111,99,95,95]⟩ 374), (.str ⟨#[65,108,105,97,115,32,102,111,114,32,102,105,101,108,100,32,110,117,109,98,101,114,32,50]⟩ 367)⟩] 2), #[]⟩
noncomputable def o130 (P : Params) : Obj := ⟨(.ref 60), (some 129), .plain, #[]⟩
noncomputable def o132 (P : Params) : Obj := ⟨(.type "tuple"), none, (.seq #[] 0), #[]⟩
noncomputable def o134 (P : Params) : Obj := ⟨(.type "dict"), none, (.dict #[⟨PyData.keyHash P ⟨#[95,95,109,111,100,117,108,101,95,95]⟩, (.str ⟨#[95,95,109,111,100,117,108,101,95,95]⟩ 260), (.str ⟨#[99,112,121,51,49,51,46,100,105,102,102,108,105,98]⟩ 194)⟩, ⟨PyData.keyHash P ⟨#[95,95,102,105,114,115,116,108,105,110,101,110,111,95,95]⟩, (.str ⟨#[95,95,102,105,114,115,116,108,105,110,101,110,111,95,95]⟩ 264), (.int (23) 263)⟩, ⟨PyData.keyHash P ⟨#[95,95,100,111,99,95,95]⟩, (.str ⟨#[95,95,100,111,99,95,95]⟩ 266), (.str ⟨#[77,97,116,99,104,40,97,44,32,98,44,32,115,105,122,101,41]⟩ 265)⟩, ⟨PyData.keyHash P ⟨#[95,95,115,108,111,116,115,95,95]⟩, (.str ⟨#[95,95,115,108,111,116,115,95,95]⟩ 268), (.ref 73)⟩, ⟨PyData.keyHash P ⟨#[95,102,105,101,108,100,115]⟩, (.str ⟨#[95,102,105,101,108,100,115]⟩ 272), (.ref 74)⟩, ⟨PyData.keyHash P ⟨#[95,102,105,101,108,100,95,100,101,102,97,117,108,116,115]⟩, (.str ⟨#[95,102,105,101,108,100,95,100,101,102,97,117,108,116,115]⟩ 273), (.ref 75)⟩, ⟨PyData.keyHash P ⟨#[95,95,110,101,119,95,95]⟩, (.str ⟨#[95,95,110,101,119,95,95]⟩ 284), (.ref 136)⟩, ⟨PyData.keyHash P ⟨#[95,109,97,107,101]⟩, (.str ⟨#[95,109,97,107,101]⟩ 306), (.ref 91)⟩, ⟨PyData.keyHash P ⟨#[95,114,101,112,108,97,99,101]⟩, (.str ⟨#[95,114,101,112,108,97,99,101]⟩ 317), (.ref 100)⟩, ⟨PyData.keyHash P ⟨#[95,95,114,101,112,108,97,99,101,95,95]⟩, (.str ⟨#[95,95,114,101,112,108,97,99,101,95,95]⟩ 318), (.ref 100)⟩, ⟨PyData.keyHash P ⟨#[95,95,114,101,112,114,95,95]⟩, (.str ⟨#[95,95,114,101,112,114,95,95]⟩ 326), (.ref 107)⟩, ⟨PyData.keyHash P ⟨#[95,97,115,100,105,99,116]⟩, (.str ⟨#[95,97,115,100,105,99,116]⟩ 333), (.ref 114)⟩, ⟨PyData.keyHash P ⟨#[95,95,103,101,116,110,101,119,97,114,103,115,95,95]⟩, (.str ⟨#[95,95,103,101,116,110,101,119,97,114,103,115,95,95]⟩ 341), (.ref 121)⟩, ⟨PyData.keyHash P ⟨#[95,95,109,97,116,99,104,95,97,114,103,115,95,95]⟩, (.str ⟨#[95,95,109,97,116,99,104,95,97,114,103,115,95,95]⟩ 345), (.ref 122)⟩, ⟨PyData.keyHash P ⟨#[97]⟩, (.str ⟨#[97]⟩ 355), (.ref 124)⟩, ⟨PyData.keyHash P ⟨#[98]⟩, (.str ⟨#[98]⟩ 365), (.ref 127)⟩, ⟨PyData.keyHash P ⟨#[115,105,122,101]⟩, (.str ⟨#[115,105,122,101]⟩ 375), (.ref 130)⟩, ⟨PyData.keyHash P ⟨#[95,95,115,116,97,116,105,99,95,97,116,116,114,105,98,117,116,101,115,95,95]⟩, (.str ⟨#[95,95,115,116,97,116,105,99,95,97,116,116,114,105,98,117,116,101,115,95,95]⟩ 376), (.ref 132)⟩] 2), #[]⟩
noncomputable def o135 (P : Params) : Obj := ⟨(.type "type"), none, (.cls { name := ⟨#[77,97,116,99,104]⟩, bases := [(.type "tuple")], mro := [(.ref 135), (.type "tuple"), (.type "object")], ns := 134, qualname := ⟨#[77,97,116,99,104]⟩, hasDict := false, slotNames := [], subclasses := [], abstract := false, collection := none, hasDel := false }), #[(some (.ref 65)), none, (some (.str ⟨#[77,97,116,99,104]⟩ 253)), (some (.str ⟨#[77,97,116,99,104]⟩ 261)), (some .none), (some (.bool false))]⟩
noncomputable def o136 (P : Params) : Obj := ⟨(.type "staticmethod"), none, (.fields #[(.ref 82)]), #[]⟩
noncomputable def o139 (P : Params) : Obj := ⟨(.type "tuple"), none, (.seq #[] 0), #[]⟩
noncomputable def o141 (P : Params) : Obj := ⟨(.type "tuple"), none, (.seq #[(.str ⟨#[109,97,116,99,104,101,115]⟩ 384), (.str ⟨#[108,101,110,103,116,104]⟩ 385)] 0), #[]⟩
noncomputable def o142 (P : Params) : Obj := ⟨(.type "tuple"), none, (.seq #[] 0), #[]⟩
noncomputable def o144 (P : Params) : Obj := ⟨(.type "code"), none, (.fields #[(.str ⟨#[95,99,97,108,99,117,108,97,116,101,95,114,97,116,105,111]⟩ 381), (.str ⟨#[95,99,97,108,99,117,108,97,116,101,95,114,97,116,105,111]⟩ 382), (.str ⟨#[47,99,108,97,105,109,47,99,117,116,46,112,121]⟩ 383), (.int (66) 0), (.int (2) 0), (.int (0) 0), (.int (0) 0), (.int (3) 0), (.ref 139), (.bool true), (.int (181) 0), (.ref 140), .none, (.ref 141), (.ref 142), (.ref 143), (.int (386) 0), (.int (66) 0), (.str ⟨#[47,99,108,97,105,109,47,99,117,116,46,112,121]⟩ 387)]), #[]⟩
noncomputable def fd145 : FuncData := { name := ⟨#[95,99,97,108,99,117,108,97,116,101,95,114,97,116,105,111]⟩, qualname := ⟨#[95,99,97,108,99,117,108,97,116,101,95,114,97,116,105,111]⟩, params := argsOf (stm 4), body := .stmts (bodyOf (stm 4)), scope := scopeOf (stm 4), globals := 3, closure := [], defaults := .none, kwdefaults := .none, doc := .none, pyModule := (.str ⟨#[99,112,121,51,49,51,46,100,105,102,102,108,105,98]⟩ 194), annotations := none, code := (.ref 144), closureTuple := .none, builtins := 0 }
noncomputable def o145 (P : Params) : Obj := ⟨(.type "function"), none, (.func fd145), #[]⟩
noncomputable def o153 (P : Params) : Obj := ⟨(.type "tuple"), none, (.seq #[.none, (.str ⟨#[]⟩ 404), (.str ⟨#[]⟩ 405), (.bool true)] 0), #[]⟩
noncomputable def o154 (P : Params) : Obj := ⟨(.type "tuple"), none, (.seq #[] 0), #[]⟩
noncomputable def o156 (P : Params) : Obj := ⟨(.type "tuple"), none, (.seq #[(.str ⟨#[115,101,108,102]⟩ 409), (.str ⟨#[105,115,106,117,110,107]⟩ 410), (.str ⟨#[97]⟩ 411), (.str ⟨#[98]⟩ 412), (.str ⟨#[97,117,116,111,106,117,110,107]⟩ 413)] 0), #[]⟩
noncomputable def o157 (P : Params) : Obj := ⟨(.type "tuple"), none, (.seq #[] 0), #[]⟩
noncomputable def o159 (P : Params) : Obj := ⟨(.type "code"), none, (.fields #[(.str ⟨#[95,95,105,110,105,116,95,95]⟩ 406), (.str ⟨#[83,101,113,117,101,110,99,101,77,97,116,99,104,101,114,46,95,95,105,110,105,116,95,95]⟩ 407), (.str ⟨#[47,99,108,97,105,109,47,99,117,116,46,112,121]⟩ 408), (.int (145) 0), (.int (5) 0), (.int (0) 0), (.int (0) 0), (.int (3) 0), (.ref 154), (.bool true), (.int (181) 0), (.ref 155), .none, (.ref 156), (.ref 157), (.ref 158), (.int (414) 0), (.int (145) 0), (.str ⟨#[47,99,108,97,105,109,47,99,117,116,46,112,121]⟩ 415)]), #[]⟩
noncomputable def fd160 : FuncData := { name := ⟨#[95,95,105,110,105,116,95,95]⟩, qualname := ⟨#[83,101,113,117,101,110,99,101,77,97,116,99,104,101,114,46,95,95,105,110,105,116,95,95]⟩, params := argsOf (mth 5 1), body := .stmts (bodyOf (mth 5 1)), scope := scopeOf (mth 5 1), globals := 3, closure := [], defaults := (.ref 153), kwdefaults := .none, doc := (.str (docOf (mth 5 1)) 416), pyModule := (.str ⟨#[99,112,121,51,49,51,46,100,105,102,102,108,105,98]⟩ 194), annotations := none, code := (.ref 159), closureTuple := .none, builtins := 0 }
noncomputable def o160 (P : Params) : Obj := ⟨(.type "function"), none, (.func fd160), #[]⟩
noncomputable def o161 (P : Params) : Obj := ⟨(.type "tuple"), none, (.seq #[] 0), #[]⟩
noncomputable def o163 (P : Params) : Obj := ⟨(.type "tuple"), none, (.seq #[(.str ⟨#[115,101,108,102]⟩ 421), (.str ⟨#[97]⟩ 422), (.str ⟨#[98]⟩ 423)] 0), #[]⟩
noncomputable def o164 (P : Params) : Obj := ⟨(.type "tuple"), none, (.seq #[] 0), #[]⟩
noncomputable def o166 (P : Params) : Obj := ⟨(.type "code"), none, (.fields #[(.str ⟨#[115,101,116,95,115,101,113,115]⟩ 418), (.str ⟨#[83,101,113,117,101,110,99,101,77,97,116,99,104,101,114,46,115,101,116,95,115,101,113,115]⟩ 419), (.str ⟨#[47,99,108,97,105,109,47,99,117,116,46,112,121]⟩ 420), (.int (173) 0), (.int (3) 0), (.int (0) 0), (.int (0) 0), (.int (3) 0), (.ref 161), (.bool true), (.int (181) 0), (.ref 162), .none, (.ref 163), (.ref 164), (.ref 165), (.int (424) 0), (.int (173) 0), (.str ⟨#[47,99,108,97,105,109,47,99,117,116,46,112,121]⟩ 425)]), #[]⟩
noncomputable def fd167 : FuncData := { name := ⟨#[115,101,116,95,115,101,113,115]⟩, qualname := ⟨#[83,101,113,117,101,110,99,101,77,97,116,99,104,101,114,46,115,101,116,95,115,101,113,115]⟩, params := argsOf (mth 5 2), body := .stmts (bodyOf (mth 5 2)), scope := scopeOf (mth 5 2), globals := 3, closure := [], defaults := .none, kwdefaults := .none, doc := (.str (docOf (mth 5 2)) 426), pyModule := (.str ⟨#[99,112,121,51,49,51,46,100,105,102,102,108,105,98]⟩ 194), annotations := none, code := (.ref 166), closureTuple := .none, builtins := 0 }
noncomputable def o167 (P : Params) : Obj := ⟨(.type "function"), none, (.func fd167), #[]⟩
noncomputable def o168 (P : Params) : Obj := ⟨(.type "tuple"), none, (.seq #[] 0), #[]⟩
noncomputable def o170 (P : Params) : Obj := ⟨(.type "tuple"), none, (.seq #[(.str ⟨#[115,101,108,102]⟩ 431), (.str ⟨#[97]⟩ 432)] 0), #[]⟩
noncomputable def o171 (P : Params) : Obj := ⟨(.type "tuple"), none, (.seq #[] 0), #[]⟩
noncomputable def o173 (P : Params) : Obj := ⟨(.type "code"), none, (.fields #[(.str ⟨#[115,101,116,95,115,101,113,49]⟩ 428), (.str ⟨#[83,101,113,117,101,110,99,101,77,97,116,99,104,101,114,46,115,101,116,95,115,101,113,49]⟩ 429), (.str ⟨#[47,99,108,97,105,109,47,99,117,116,46,112,121]⟩ 430), (.int (184) 0), (.int (2) 0), (.int (0) 0), (.int (0) 0), (.int (3) 0), (.ref 168), (.bool true), (.int (181) 0), (.ref 169), .none, (.ref 170), (.ref 171), (.ref 172), (.int (433) 0), (.int (184) 0), (.str ⟨#[47,99,108,97,105,109,47,99,117,116,46,112,121]⟩ 434)]), #[]⟩
noncomputable def fd174 : FuncData := { name := ⟨#[115,101,116,95,115,101,113,49]⟩, qualname := ⟨#[83,101,113,117,101,110,99,101,77,97,116,99,104,101,114,46,115,101,116,95,115,101,113,49]⟩, params := argsOf (mth 5 3), body := .stmts (bodyOf (mth 5 3)), scope := scopeOf (mth 5 3), globals := 3, closure := [], defaults := .none, kwdefaults := .none, doc := (.str (docOf (mth 5 3)) 435), pyModule := (.str ⟨#[99,112,121,51,49,51,46,100,105,102,102,108,105,98]⟩ 194), annotations := none, code := (.ref 173), closureTuple := .none, builtins := 0 }
noncomputable def o174 (P : Params) : Obj := ⟨(.type "function"), none, (.func fd174), #[]⟩
noncomputable def o175 (P : Params) : Obj := ⟨(.type "tuple"), none, (.seq #[] 0), #[]⟩
noncomputable def o177 (P : Params) : Obj := ⟨(.type "tuple"), none, (.seq #[(.str ⟨#[115,101,108,102]⟩ 440), (.str ⟨#[98]⟩ 441)] 0), #[]⟩
noncomputable def o178 (P : Params) : Obj := ⟨(.type "tuple"), none, (.seq #[] 0), #[]⟩
noncomputable def o180 (P : Params) : Obj := ⟨(.type "code"), none, (.fields #[(.str ⟨#[115,101,116,95,115,101,113,50]⟩ 437), (.str ⟨#[83,101,113,117,101,110,99,101,77,97,116,99,104,101,114,46,115,101,116,95,115,101,113,50]⟩ 438), (.str ⟨#[47,99,108,97,105,109,47,99,117,116,46,112,121]⟩ 439), (.int (209) 0), (.int (2) 0), (.int (0) 0), (.int (0) 0), (.int (3) 0), (.ref 175), (.bool true), (.int (181) 0), (.ref 176), .none, (.ref 177), (.ref 178), (.ref 179), (.int (442) 0), (.int (209) 0), (.str ⟨#[47,99,108,97,105,109,47,99,117,116,46,112,121]⟩ 443)]), #[]⟩
noncomputable def fd181 : FuncData := { name := ⟨#[115,101,116,95,115,101,113,50]⟩, qualname := ⟨#[83,101,113,117,101,110,99,101,77,97,116,99,104,101,114,46,115,101,116,95,115,101,113,50]⟩, params := argsOf (mth 5 4), body := .stmts (bodyOf (mth 5 4)), scope := scopeOf (mth 5 4), globals := 3, closure := [], defaults := .none, kwdefaults := .none, doc := (.str (docOf (mth 5 4)) 444), pyModule := (.str ⟨#[99,112,121,51,49,51,46,100,105,102,102,108,105,98]⟩ 194), annotations := none, code := (.ref 180), closureTuple := .none, builtins := 0 }
noncomputable def o181 (P : Params) : Obj := ⟨(.type "function"), none, (.func fd181), #[]⟩
noncomputable def o182 (P : Params) : Obj := ⟨(.type "tuple"), none, (.seq #[] 0), #[]⟩
noncomputable def o184 (P : Params) : Obj := ⟨(.type "tuple"), none, (.seq #[(.str ⟨#[115,101,108,102]⟩ 449), (.str ⟨#[98]⟩ 450), (.str ⟨#[98,50,106]⟩ 451), (.str ⟨#[105]⟩ 452), (.str ⟨#[101,108,116]⟩ 453), (.str ⟨#[105,110,100,105,99,101,115]⟩ 454), (.str ⟨#[106,117,110,107]⟩ 455), (.str ⟨#[105,115,106,117,110,107]⟩ 456), (.str ⟨#[112,111,112,117,108,97,114]⟩ 457), (.str ⟨#[110]⟩ 458), (.str ⟨#[110,116,101,115,116]⟩ 459), (.str ⟨#[105,100,120,115]⟩ 460)] 0), #[]⟩
noncomputable def o185 (P : Params) : Obj := ⟨(.type "tuple"), none, (.seq #[] 0), #[]⟩
noncomputable def o187 (P : Params) : Obj := ⟨(.type "code"), none, (.fields #[(.str ⟨#[95,95,99,104,97,105,110,95,98]⟩ 446), (.str ⟨#[83,101,113,117,101,110,99,101,77,97,116,99,104,101,114,46,95,95,99,104,97,105,110,95,98]⟩ 447), (.str ⟨#[47,99,108,97,105,109,47,99,117,116,46,112,121]⟩ 448), (.int (236) 0), (.int (1) 0), (.int (0) 0), (.int (0) 0), (.int (3) 0), (.ref 182), (.bool true), (.int (181) 0), (.ref 183), .none, (.ref 184), (.ref 185), (.ref 186), (.int (461) 0), (.int (236) 0), (.str ⟨#[47,99,108,97,105,109,47,99,117,116,46,112,121]⟩ 462)]), #[]⟩
noncomputable def fd188 : FuncData := { name := ⟨#[95,95,99,104,97,105,110,95,98]⟩, qualname := ⟨#[83,101,113,117,101,110,99,101,77,97,116,99,104,101,114,46,95,95,99,104,97,105,110,95,98]⟩, params := argsOf (mth 5 5), body := .stmts (bodyOf (mth 5 5)), scope := scopeOf (mth 5 5), globals := 3, closure := [], defaults := .none, kwdefaults := .none, doc := .none, pyModule := (.str ⟨#[99,112,121,51,49,51,46,100,105,102,102,108,105,98]⟩ 194), annotations := none, code := (.ref 187), closureTuple := .none, builtins := 0 }
noncomputable def o188 (P : Params) : Obj := ⟨(.type "function"), none, (.func fd188), #[]⟩
noncomputable def o189 (P : Params) : Obj := ⟨(.type "tuple"), none, (.seq #[(.int (0) 464), .none, (.int (0) 465), .none] 0), #[]⟩
noncomputable def o190 (P : Params) : Obj := ⟨(.type "tuple"), none, (.seq #[] 0), #[]⟩
noncomputable def o192 (P : Params) : Obj := ⟨(.type "tuple"), none, (.seq #[(.str ⟨#[115,101,108,102]⟩ 469), (.str ⟨#[97,108,111]⟩ 470), (.str ⟨#[97,104,105]⟩ 471), (.str ⟨#[98,108,111]⟩ 472), (.str ⟨#[98,104,105]⟩ 473), (.str ⟨#[97]⟩ 474), (.str ⟨#[98]⟩ 475), (.str ⟨#[98,50,106]⟩ 476), (.str ⟨#[105,115,98,106,117,110,107]⟩ 477), (.str ⟨#[98,101,115,116,105]⟩ 478), (.str ⟨#[98,101,115,116,106]⟩ 479), (.str ⟨#[98,101,115,116,115,105,122,101]⟩ 480), (.str ⟨#[106,50,108,101,110]⟩ 481), (.str ⟨#[110,111,116,104,105,110,103]⟩ 482), (.str ⟨#[105]⟩ 483), (.str ⟨#[106,50,108,101,110,103,101,116]⟩ 484), (.str ⟨#[110,101,119,106,50,108,101,110]⟩ 485), (.str ⟨#[106]⟩ 486), (.str ⟨#[107]⟩ 487)] 0), #[]⟩
noncomputable def o193 (P : Params) : Obj := ⟨(.type "tuple"), none, (.seq #[] 0), #[]⟩
noncomputable def o195 (P : Params) : Obj := ⟨(.type "code"), none, (.fields #[(.str ⟨#[102,105,110,100,95,108,111,110,103,101,115,116,95,109,97,116,99,104]⟩ 466), (.str ⟨#[83,101,113,117,101,110,99,101,77,97,116,99,104,101,114,46,102,105,110,100,95,108,111,110,103,101,115,116,95,109,97,116,99,104]⟩ 467), (.str ⟨#[47,99,108,97,105,109,47,99,117,116,46,112,121]⟩ 468), (.int (260) 0), (.int (5) 0), (.int (0) 0), (.int (0) 0), (.int (3) 0), (.ref 190), (.bool true), (.int (181) 0), (.ref 191), .none, (.ref 192), (.ref 193), (.ref 194), (.int (488) 0), (.int (260) 0), (.str ⟨#[47,99,108,97,105,109,47,99,117,116,46,112,121]⟩ 489)]), #[]⟩
noncomputable def fd196 : FuncData := { name := ⟨#[102,105,110,100,95,108,111,110,103,101,115,116,95,109,97,116,99,104]⟩, qualname := ⟨#[83,101,113,117,101,110,99,101,77,97,116,99,104,101,114,46,102,105,110,100,95,108,111,110,103,101,115,116,95,109,97,116,99,104]⟩, params := argsOf (mth 5 6), body := .stmts (bodyOf (mth 5 6)), scope := scopeOf (mth 5 6), globals := 3, closure := [], defaults := (.ref 189), kwdefaults := .none, doc := (.str (docOf (mth 5 6)) 490), pyModule := (.str ⟨#[99,112,121,51,49,51,46,100,105,102,102,108,105,98]⟩ 194), annotations := none, code := (.ref 195), closureTuple := .none, builtins := 0 }
noncomputable def o196 (P : Params) : Obj := ⟨(.type "function"), none, (.func fd196), #[]⟩
noncomputable def o197 (P : Params) : Obj := ⟨(.type "tuple"), none, (.seq #[] 0), #[]⟩
noncomputable def o199 (P : Params) : Obj := ⟨(.type "tuple"), none, (.seq #[(.str ⟨#[115,101,108,102]⟩ 495), (.str ⟨#[108,97]⟩ 496), (.str ⟨#[108,98]⟩ 497), (.str ⟨#[113,117,101,117,101]⟩ 498), (.str ⟨#[109,97,116,99,104,105,110,103,95,98,108,111,99,107,115]⟩ 499), (.str ⟨#[97,108,111]⟩ 500), (.str ⟨#[97,104,105]⟩ 501), (.str ⟨#[98,108,111]⟩ 502), (.str ⟨#[98,104,105]⟩ 503), (.str ⟨#[105]⟩ 504), (.str ⟨#[106]⟩ 505), (.str ⟨#[107]⟩ 506), (.str ⟨#[120]⟩ 507), (.str ⟨#[105,49]⟩ 508), (.str ⟨#[106,49]⟩ 509), (.str ⟨#[107,49]⟩ 510), (.str ⟨#[110,111,110,95,97,100,106,97,99,101,110,116]⟩ 511), (.str ⟨#[105,50]⟩ 512), (.str ⟨#[106,50]⟩ 513), (.str ⟨#[107,50]⟩ 514)] 0), #[]⟩
noncomputable def o200 (P : Params) : Obj := ⟨(.type "tuple"), none, (.seq #[] 0), #[]⟩
noncomputable def o202 (P : Params) : Obj := ⟨(.type "code"), none, (.fields #[(.str ⟨#[103,101,116,95,109,97,116,99,104,105,110,103,95,98,108,111,99,107,115]⟩ 492), (.str ⟨#[83,101,113,117,101,110,99,101,77,97,116,99,104,101,114,46,103,101,116,95,109,97,116,99,104,105,110,103,95,98,108,111,99,107,115]⟩ 493), (.str ⟨#[47,99,108,97,105,109,47,99,117,116,46,112,121]⟩ 494), (.int (335) 0), (.int (1) 0), (.int (0) 0), (.int (0) 0), (.int (3) 0), (.ref 197), (.bool true), (.int (181) 0), (.ref 198), .none, (.ref 199), (.ref 200), (.ref 201), (.int (515) 0), (.int (335) 0), (.str ⟨#[47,99,108,97,105,109,47,99,117,116,46,112,121]⟩ 516)]), #[]⟩
noncomputable def fd203 : FuncData := { name := ⟨#[103,101,116,95,109,97,116,99,104,105,110,103,95,98,108,111,99,107,115]⟩, qualname := ⟨#[83,101,113,117,101,110,99,101,77,97,116,99,104,101,114,46,103,101,116,95,109,97,116,99,104,105,110,103,95,98,108,111,99,107,115]⟩, params := argsOf (mth 5 7), body := .stmts (bodyOf (mth 5 7)), scope := scopeOf (mth 5 7), globals := 3, closure := [], defaults := .none, kwdefaults := .none, doc := (.str (docOf (mth 5 7)) 517), pyModule := (.str ⟨#[99,112,121,51,49,51,46,100,105,102,102,108,105,98]⟩ 194), annotations := none, code := (.ref 202), closureTuple := .none, builtins := 0 }
noncomputable def o203 (P : Params) : Obj := ⟨(.type "function"), none, (.func fd203), #[]⟩
noncomputable def o204 (P : Params) : Obj := ⟨(.type "tuple"), none, (.seq #[] 0), #[]⟩
noncomputable def o206 (P : Params) : Obj := ⟨(.type "tuple"), none, (.seq #[(.str ⟨#[115,101,108,102]⟩ 522)] 0), #[]⟩
noncomputable def o207 (P : Params) : Obj := ⟨(.type "tuple"), none, (.seq #[] 0), #[]⟩
noncomputable def o209 (P : Params) : Obj := ⟨(.type "code"), none, (.fields #[(.str ⟨#[103,101,116,95,111,112,99,111,100,101,115]⟩ 519), (.str ⟨#[83,101,113,117,101,110,99,101,77,97,116,99,104,101,114,46,103,101,116,95,111,112,99,111,100,101,115]⟩ 520), (.str ⟨#[47,99,108,97,105,109,47,99,117,116,46,112,121]⟩ 521), (.int (383) 0), (.int (1) 0), (.int (0) 0), (.int (0) 0), (.int (3) 0), (.ref 204), (.bool true), (.int (181) 0), (.ref 205), .none, (.ref 206), (.ref 207), (.ref 208), (.int (523) 0), (.int (383) 0), (.str ⟨#[47,99,108,97,105,109,47,99,117,116,46,112,121]⟩ 524)]), #[]⟩
noncomputable def fd210 : FuncData := { name := ⟨#[103,101,116,95,111,112,99,111,100,101,115]⟩, qualname := ⟨#[83,101,113,117,101,110,99,101,77,97,116,99,104,101,114,46,103,101,116,95,111,112,99,111,100,101,115]⟩, params := argsOf (mth 5 8), body := .stmts (bodyOf (mth 5 8)), scope := scopeOf (mth 5 8), globals := 3, closure := [], defaults := .none, kwdefaults := .none, doc := .none, pyModule := (.str ⟨#[99,112,121,51,49,51,46,100,105,102,102,108,105,98]⟩ 194), annotations := none, code := (.ref 209), closureTuple := .none, builtins := 0 }
noncomputable def o210 (P : Params) : Obj := ⟨(.type "function"), none, (.func fd210), #[]⟩
noncomputable def o211 (P : Params) : Obj := ⟨(.type "tuple"), none, (.seq #[(.int (3) 526)] 0), #[]⟩
noncomputable def o212 (P : Params) : Obj := ⟨(.type "tuple"), none, (.seq #[] 0), #[]⟩
noncomputable def o214 (P : Params) : Obj := ⟨(.type "tuple"), none, (.seq #[(.str ⟨#[115,101,108,102]⟩ 530), (.str ⟨#[110]⟩ 531)] 0), #[]⟩
noncomputable def o215 (P : Params) : Obj := ⟨(.type "tuple"), none, (.seq #[] 0), #[]⟩
noncomputable def o217 (P : Params) : Obj := ⟨(.type "code"), none, (.fields #[(.str ⟨#[103,101,116,95,103,114,111,117,112,101,100,95,111,112,99,111,100,101,115]⟩ 527), (.str ⟨#[83,101,113,117,101,110,99,101,77,97,116,99,104,101,114,46,103,101,116,95,103,114,111,117,112,101,100,95,111,112,99,111,100,101,115]⟩ 528), (.str ⟨#[47,99,108,97,105,109,47,99,117,116,46,112,121]⟩ 529), (.int (386) 0), (.int (2) 0), (.int (0) 0), (.int (0) 0), (.int (3) 0), (.ref 212), (.bool true), (.int (181) 0), (.ref 213), .none, (.ref 214), (.ref 215), (.ref 216), (.int (532) 0), (.int (386) 0), (.str ⟨#[47,99,108,97,105,109,47,99,117,116,46,112,121]⟩ 533)]), #[]⟩
noncomputable def fd218 : FuncData := { name := ⟨#[103,101,116,95,103,114,111,117,112,101,100,95,111,112,99,111,100,101,115]⟩, qualname := ⟨#[83,101,113,117,101,110,99,101,77,97,116,99,104,101,114,46,103,101,116,95,103,114,111,117,112,101,100,95,111,112,99,111,100,101,115]⟩, params := argsOf (mth 5 9), body := .stmts (bodyOf (mth 5 9)), scope := scopeOf (mth 5 9), globals := 3, closure := [], defaults := (.ref 211), kwdefaults := .none, doc := .none, pyModule := (.str ⟨#[99,112,121,51,49,51,46,100,105,102,102,108,105,98]⟩ 194), annotations := none, code := (.ref 217), closureTuple := .none, builtins := 0 }
noncomputable def o218 (P : Params) : Obj := ⟨(.type "function"), none, (.func fd218), #[]⟩
noncomputable def o219 (P : Params) : Obj := ⟨(.type "tuple"), none, (.seq #[] 0), #[]⟩
noncomputable def o221 (P : Params) : Obj := ⟨(.type "tuple"), none, (.seq #[(.str ⟨#[115,101,108,102]⟩ 538), (.str ⟨#[109,97,116,99,104,101,115]⟩ 539)] 0), #[]⟩
noncomputable def o222 (P : Params) : Obj := ⟨(.type "tuple"), none, (.seq #[] 0), #[]⟩
noncomputable def o224 (P : Params) : Obj := ⟨(.type "code"), none, (.fields #[(.str ⟨#[114,97,116,105,111]⟩ 535), (.str ⟨#[83,101,113,117,101,110,99,101,77,97,116,99,104,101,114,46,114,97,116,105,111]⟩ 536), (.str ⟨#[47,99,108,97,105,109,47,99,117,116,46,112,121]⟩ 537), (.int (389) 0), (.int (1) 0), (.int (0) 0), (.int (0) 0), (.int (3) 0), (.ref 219), (.bool true), (.int (181) 0), (.ref 220), .none, (.ref 221), (.ref 222), (.ref 223), (.int (540) 0), (.int (389) 0), (.str ⟨#[47,99,108,97,105,109,47,99,117,116,46,112,121]⟩ 541)]), #[]⟩
noncomputable def fd225 : FuncData := { name := ⟨#[114,97,116,105,111]⟩, qualname := ⟨#[83,101,113,117,101,110,99,101,77,97,116,99,104,101,114,46,114,97,116,105,111]⟩, params := argsOf (mth 5 10), body := .stmts (bodyOf (mth 5 10)), scope := scopeOf (mth 5 10), globals := 3, closure := [], defaults := .none, kwdefaults := .none, doc := (.str (docOf (mth 5 10)) 542), pyModule := (.str ⟨#[99,112,121,51,49,51,46,100,105,102,102,108,105,98]⟩ 194), annotations := none, code := (.ref 224), closureTuple := .none, builtins := 0 }
noncomputable def o225 (P : Params) : Obj := ⟨(.type "function"), none, (.func fd225), #[]⟩
noncomputable def o226 (P : Params) : Obj := ⟨(.type "tuple"), none, (.seq #[] 0), #[]⟩
noncomputable def o228 (P : Params) : Obj := ⟨(.type "tuple"), none, (.seq #[(.str ⟨#[115,101,108,102]⟩ 547)] 0), #[]⟩
noncomputable def o229 (P : Params) : Obj := ⟨(.type "tuple"), none, (.seq #[] 0), #[]⟩
noncomputable def o231 (P : Params) : Obj := ⟨(.type "code"), none, (.fields #[(.str ⟨#[113,117,105,99,107,95,114,97,116,105,111]⟩ 544), (.str ⟨#[83,101,113,117,101,110,99,101,77,97,116,99,104,101,114,46,113,117,105,99,107,95,114,97,116,105,111]⟩ 545), (.str ⟨#[47,99,108,97,105,109,47,99,117,116,46,112,121]⟩ 546), (.int (413) 0), (.int (1) 0), (.int (0) 0), (.int (0) 0), (.int (3) 0), (.ref 226), (.bool true), (.int (181) 0), (.ref 227), .none, (.ref 228), (.ref 229), (.ref 230), (.int (548) 0), (.int (413) 0), (.str ⟨#[47,99,108,97,105,109,47,99,117,116,46,112,121]⟩ 549)]), #[]⟩
noncomputable def fd232 : FuncData := { name := ⟨#[113,117,105,99,107,95,114,97,116,105,111]⟩, qualname := ⟨#[83,101,113,117,101,110,99,101,77,97,116,99,104,101,114,46,113,117,105,99,107,95,114,97,116,105,111]⟩, params := argsOf (mth 5 11), body := .stmts (bodyOf (mth 5 11)), scope := scopeOf (mth 5 11), globals := 3, closure := [], defaults := .none, kwdefaults := .none, doc := .none, pyModule := (.str ⟨#[99,112,121,51,49,51,46,100,105,102,102,108,105,98]⟩ 194), annotations := none, code := (.ref 231), closureTuple := .none, builtins := 0 }
noncomputable def o232 (P : Params) : Obj := ⟨(.type "function"), none, (.func fd232), #[]⟩
noncomputable def o233 (P : Params) : Obj := ⟨(.type "tuple"), none, (.seq #[] 0), #[]⟩
noncomputable def o235 (P : Params) : Obj := ⟨(.type "tuple"), none, (.seq #[(.str ⟨#[115,101,108,102]⟩ 554)] 0), #[]⟩
noncomputable def o236 (P : Params) : Obj := ⟨(.type "tuple"), none, (.seq #[] 0), #[]⟩
noncomputable def o238 (P : Params) : Obj := ⟨(.type "code"), none, (.fields #[(.str ⟨#[114,101,97,108,95,113,117,105,99,107,95,114,97,116,105,111]⟩ 551), (.str ⟨#[83,101,113,117,101,110,99,101,77,97,116,99,104,101,114,46,114,101,97,108,95,113,117,105,99,107,95,114,97,116,105,111]⟩ 552), (.str ⟨#[47,99,108,97,105,109,47,99,117,116,46,112,121]⟩ 553), (.int (416) 0), (.int (1) 0), (.int (0) 0), (.int (0) 0), (.int (3) 0), (.ref 233), (.bool true), (.int (181) 0), (.ref 234), .none, (.ref 235), (.ref 236), (.ref 237), (.int (555) 0), (.int (416) 0), (.str ⟨#[47,99,108,97,105,109,47,99,117,116,46,112,121]⟩ 556)]), #[]⟩
noncomputable def fd239 : FuncData := { name := ⟨#[114,101,97,108,95,113,117,105,99,107,95,114,97,116,105,111]⟩, qualname := ⟨#[83,101,113,117,101,110,99,101,77,97,116,99,104,101,114,46,114,101,97,108,95,113,117,105,99,107,95,114,97,116,105,111]⟩, params := argsOf (mth 5 12), body := .stmts (bodyOf (mth 5 12)), scope := scopeOf (mth 5 12), globals := 3, closure := [], defaults := .none, kwdefaults := .none, doc := .none, pyModule := (.str ⟨#[99,112,121,51,49,51,46,100,105,102,102,108,105,98]⟩ 194), annotations := none, code := (.ref 238), closureTuple := .none, builtins := 0 }
noncomputable def o239 (P : Params) : Obj := ⟨(.type "function"), none, (.func fd239), #[]⟩
noncomputable def o240 (P : Params) : Obj := ⟨(.type "tuple"), none, (.seq #[(.str ⟨#[97]⟩ 558), (.str ⟨#[97,117,116,111,106,117,110,107]⟩ 559), (.str ⟨#[98]⟩ 560), (.str ⟨#[98,50,106]⟩ 561), (.str ⟨#[98,106,117,110,107]⟩ 562), (.str ⟨#[98,112,111,112,117,108,97,114]⟩ 563), (.str ⟨#[102,117,108,108,98,99,111,117,110,116]⟩ 564), (.str ⟨#[105,115,106,117,110,107]⟩ 565), (.str ⟨#[109,97,116,99,104,105,110,103,95,98,108,111,99,107,115]⟩ 566), (.str ⟨#[111,112,99,111,100,101,115]⟩ 567)] 0), #[]⟩
noncomputable def o241 (P : Params) : Obj := ⟨(.type "dict"), none, (.dict #[⟨PyData.keyHash P ⟨#[95,95,109,111,100,117,108,101,95,95]⟩, (.str ⟨#[95,95,109,111,100,117,108,101,95,95]⟩ 396), (.str ⟨#[99,112,121,51,49,51,46,100,105,102,102,108,105,98]⟩ 194)⟩, ⟨PyData.keyHash P ⟨#[95,95,102,105,114,115,116,108,105,110,101,110,111,95,95]⟩, (.str ⟨#[95,95,102,105,114,115,116,108,105,110,101,110,111,95,95]⟩ 400), (.int (70) 399)⟩, ⟨PyData.keyHash P ⟨#[95,95,100,111,99,95,95]⟩, (.str ⟨#[95,95,100,111,99,95,95]⟩ 402), (.str (docOf (stm 5)) 401)⟩, ⟨PyData.keyHash P ⟨#[95,95,105,110,105,116,95,95]⟩, (.str ⟨#[95,95,105,110,105,116,95,95]⟩ 417), (.ref 160)⟩, ⟨PyData.keyHash P ⟨#[115,101,116,95,115,101,113,115]⟩, (.str ⟨#[115,101,116,95,115,101,113,115]⟩ 427), (.ref 167)⟩, ⟨PyData.keyHash P ⟨#[115,101,116,95,115,101,113,49]⟩, (.str ⟨#[115,101,116,95,115,101,113,49]⟩ 436), (.ref 174)⟩, ⟨PyData.keyHash P ⟨#[115,101,116,95,115,101,113,50]⟩, (.str ⟨#[115,101,116,95,115,101,113,50]⟩ 445), (.ref 181)⟩, ⟨PyData.keyHash P ⟨#[95,83,101,113,117,101,110,99,101,77,97,116,99,104,101,114,95,95,99,104,97,105,110,95,98]⟩, (.str ⟨#[95,83,101,113,117,101,110,99,101,77,97,116,99,104,101,114,95,95,99,104,97,105,110,95,98]⟩ 463), (.ref 188)⟩, ⟨PyData.keyHash P ⟨#[102,105,110,100,95,108,111,110,103,101,115,116,95,109,97,116,99,104]⟩, (.str ⟨#[102,105,110,100,95,108,111,110,103,101,115,116,95,109,97,116,99,104]⟩ 491), (.ref 196)⟩, ⟨PyData.keyHash P ⟨#[103,101,116,95,109,97,116,99,104,105,110,103,95,98,108,111,99,107,115]⟩, (.str ⟨#[103,101,116,95,109,97,116,99,104,105,110,103,95,98,108,111,99,107,115]⟩ 518), (.ref 203)⟩, ⟨PyData.keyHash P ⟨#[103,101,116,95,111,112,99,111,100,101,115]⟩, (.str ⟨#[103,101,116,95,111,112,99,111,100,101,115]⟩ 525), (.ref 210)⟩, ⟨PyData.keyHash P ⟨#[103,101,116,95,103,114,111,117,112,101,100,95,111,112,99,111,100,101,115]⟩, (.str ⟨#[103,101,116,95,103,114,111,117,112,101,100,95,111,112,99,111,100,101,115]⟩ 534), (.ref 218)⟩, ⟨PyData.keyHash P ⟨#[114,97,116,105,111]⟩, (.str ⟨#[114,97,116,105,111]⟩ 543), (.ref 225)⟩, ⟨PyData.keyHash P ⟨#[113,117,105,99,107,95,114,97,116,105,111]⟩, (.str ⟨#[113,117,105,99,107,95,114,97,116,105,111]⟩ 550), (.ref 232)⟩, ⟨PyData.keyHash P ⟨#[114,101,97,108,95,113,117,105,99,107,95,114,97,116,105,111]⟩, (.str ⟨#[114,101,97,108,95,113,117,105,99,107,95,114,97,116,105,111]⟩ 557), (.ref 239)⟩, ⟨PyData.keyHash P ⟨#[95,95,115,116,97,116,105,99,95,97,116,116,114,105,98,117,116,101,115,95,95]⟩, (.str ⟨#[95,95,115,116,97,116,105,99,95,97,116,116,114,105,98,117,116,101,115,95,95]⟩ 568), (.ref 240)⟩, ⟨PyData.keyHash P ⟨#[95,95,100,105,99,116,95,95]⟩, (.str ⟨#[95,95,100,105,99,116,95,95]⟩ 570), (.ref 243)⟩, ⟨PyData.keyHash P ⟨#[95,95,119,101,97,107,114,101,102,95,95]⟩, (.str ⟨#[95,95,119,101,97,107,114,101,102,95,95]⟩ 572), (.ref 244)⟩] 3), #[]⟩
noncomputable def o242 (P : Params) : Obj := ⟨(.type "type"), none, (.cls { name := ⟨#[83,101,113,117,101,110,99,101,77,97,116,99,104,101,114]⟩, bases := [(.type "object")], mro := [(.ref 242), (.type "object")], ns := 241, qualname := ⟨#[83,101,113,117,101,110,99,101,77,97,116,99,104,101,114]⟩, hasDict := true, slotNames := [], subclasses := [], abstract := false, collection := none, hasDel := false }), #[none, none, (some (.str ⟨#[83,101,113,117,101,110,99,101,77,97,116,99,104,101,114]⟩ 389)), (some (.str ⟨#[83,101,113,117,101,110,99,101,77,97,116,99,104,101,114]⟩ 397)), (some (.builtin "object.__new__")), (some (.bool true))]⟩
noncomputable def o243 (P : Params) : Obj := ⟨(.type "getset_descriptor"), none, (.fields #[(.str ⟨#[95,95,100,105,99,116,95,95]⟩ 569), (.ref 242), (.builtin "function.__dict__"), (.builtin "function.__dict__#set")]), #[]⟩
noncomputable def o244 (P : Params) : Obj := ⟨(.type "getset_descriptor"), none, (.fields #[(.str ⟨#[95,95,119,101,97,107,114,101,102,95,95]⟩ 571), (.ref 242), (.builtin "ExceptionGroup.__weakref__"), .none]), #[]⟩
noncomputable def o247 (P : Params) : Obj := ⟨(.type "tuple"), none, (.seq #[] 0), #[]⟩
noncomputable def o249 (P : Params) : Obj := ⟨(.type "tuple"), none, (.seq #[(.str ⟨#[104,101,97,112]⟩ 580), (.str ⟨#[105,116,101,109]⟩ 581)] 0), #[]⟩
noncomputable def o250 (P : Params) : Obj := ⟨(.type "tuple"), none, (.seq #[] 0), #[]⟩
noncomputable def o252 (P : Params) : Obj := ⟨(.type "code"), none, (.fields #[(.str ⟨#[104,101,97,112,112,117,115,104]⟩ 577), (.str ⟨#[104,101,97,112,112,117,115,104]⟩ 578), (.str ⟨#[47,99,108,97,105,109,47,99,117,116,46,112,121]⟩ 579), (.int (419) 0), (.int (2) 0), (.int (0) 0), (.int (0) 0), (.int (3) 0), (.ref 247), (.bool true), (.int (181) 0), (.ref 248), .none, (.ref 249), (.ref 250), (.ref 251), (.int (582) 0), (.int (419) 0), (.str ⟨#[47,99,108,97,105,109,47,99,117,116,46,112,121]⟩ 583)]), #[]⟩
noncomputable def fd253 : FuncData := { name := ⟨#[104,101,97,112,112,117,115,104]⟩, qualname := ⟨#[104,101,97,112,112,117,115,104]⟩, params := argsOf (stm 7), body := .stmts (bodyOf (stm 7)), scope := scopeOf (stm 7), globals := 3, closure := [], defaults := .none, kwdefaults := .none, doc := (.str ⟨#[80,117,115,104,32,105,116,101,109,32,111,110,116,111,32,104,101,97,112,44,32,109,97,105,110,116,97,105,110,105,110,103,32,116,104,101,32,104,101,97,112,32,105,110,118,97,114,105,97,110,116,46]⟩ 584), pyModule := (.str ⟨#[99,112,121,51,49,51,46,104,101,97,112,113]⟩ 575), annotations := none, code := (.ref 252), closureTuple := .none, builtins := 0 }
noncomputable def o253 (P : Params) : Obj := ⟨(.type "function"), none, (.func fd253), #[]⟩
noncomputable def o254 (P : Params) : Obj := ⟨(.type "tuple"), none, (.seq #[] 0), #[]⟩
noncomputable def o256 (P : Params) : Obj := ⟨(.type "tuple"), none, (.seq #[(.str ⟨#[104,101,97,112]⟩ 589), (.str ⟨#[108,97,115,116,101,108,116]⟩ 590), (.str ⟨#[114,101,116,117,114,110,105,116,101,109]⟩ 591)] 0), #[]⟩
noncomputable def o257 (P : Params) : Obj := ⟨(.type "tuple"), none, (.seq #[] 0), #[]⟩
noncomputable def o259 (P : Params) : Obj := ⟨(.type "code"), none, (.fields #[(.str ⟨#[104,101,97,112,112,111,112]⟩ 586), (.str ⟨#[104,101,97,112,112,111,112]⟩ 587), (.str ⟨#[47,99,108,97,105,109,47,99,117,116,46,112,121]⟩ 588), (.int (423) 0), (.int (1) 0), (.int (0) 0), (.int (0) 0), (.int (3) 0), (.ref 254), (.bool true), (.int (181) 0), (.ref 255), .none, (.ref 256), (.ref 257), (.ref 258), (.int (592) 0), (.int (423) 0), (.str ⟨#[47,99,108,97,105,109,47,99,117,116,46,112,121]⟩ 593)]), #[]⟩
noncomputable def fd260 : FuncData := { name := ⟨#[104,101,97,112,112,111,112]⟩, qualname := ⟨#[104,101,97,112,112,111,112]⟩, params := argsOf (stm 8), body := .stmts (bodyOf (stm 8)), scope := scopeOf (stm 8), globals := 3, closure := [], defaults := .none, kwdefaults := .none, doc := (.str (docOf (stm 8)) 594), pyModule := (.str ⟨#[99,112,121,51,49,51,46,104,101,97,112,113]⟩ 575), annotations := none, code := (.ref 259), closureTuple := .none, builtins := 0 }
noncomputable def o260 (P : Params) : Obj := ⟨(.type "function"), none, (.func fd260), #[]⟩
noncomputable def o261 (P : Params) : Obj := ⟨(.type "tuple"), none, (.seq #[] 0), #[]⟩
noncomputable def o263 (P : Params) : Obj := ⟨(.type "tuple"), none, (.seq #[(.str ⟨#[104,101,97,112]⟩ 599), (.str ⟨#[115,116,97,114,116,112,111,115]⟩ 600), (.str ⟨#[112,111,115]⟩ 601), (.str ⟨#[110,101,119,105,116,101,109]⟩ 602), (.str ⟨#[112,97,114,101,110,116,112,111,115]⟩ 603), (.str ⟨#[112,97,114,101,110,116]⟩ 604)] 0), #[]⟩
noncomputable def o264 (P : Params) : Obj := ⟨(.type "tuple"), none, (.seq #[] 0), #[]⟩
noncomputable def o266 (P : Params) : Obj := ⟨(.type "code"), none, (.fields #[(.str ⟨#[95,115,105,102,116,100,111,119,110]⟩ 596), (.str ⟨#[95,115,105,102,116,100,111,119,110]⟩ 597), (.str ⟨#[47,99,108,97,105,109,47,99,117,116,46,112,121]⟩ 598), (.int (432) 0), (.int (3) 0), (.int (0) 0), (.int (0) 0), (.int (3) 0), (.ref 261), (.bool true), (.int (181) 0), (.ref 262), .none, (.ref 263), (.ref 264), (.ref 265), (.int (605) 0), (.int (432) 0), (.str ⟨#[47,99,108,97,105,109,47,99,117,116,46,112,121]⟩ 606)]), #[]⟩
noncomputable def fd267 : FuncData := { name := ⟨#[95,115,105,102,116,100,111,119,110]⟩, qualname := ⟨#[95,115,105,102,116,100,111,119,110]⟩, params := argsOf (stm 9), body := .stmts (bodyOf (stm 9)), scope := scopeOf (stm 9), globals := 3, closure := [], defaults := .none, kwdefaults := .none, doc := .none, pyModule := (.str ⟨#[99,112,121,51,49,51,46,104,101,97,112,113]⟩ 575), annotations := none, code := (.ref 266), closureTuple := .none, builtins := 0 }
noncomputable def o267 (P : Params) : Obj := ⟨(.type "function"), none, (.func fd267), #[]⟩
noncomputable def o268 (P : Params) : Obj := ⟨(.type "tuple"), none, (.seq #[] 0), #[]⟩
noncomputable def o270 (P : Params) : Obj := ⟨(.type "tuple"), none, (.seq #[(.str ⟨#[104,101,97,112]⟩ 611), (.str ⟨#[112,111,115]⟩ 612), (.str ⟨#[101,110,100,112,111,115]⟩ 613), (.str ⟨#[115,116,97,114,116,112,111,115]⟩ 614), (.str ⟨#[110,101,119,105,116,101,109]⟩ 615), (.str ⟨#[99,104,105,108,100,112,111,115]⟩ 616), (.str ⟨#[114,105,103,104,116,112,111,115]⟩ 617)] 0), #[]⟩
noncomputable def o271 (P : Params) : Obj := ⟨(.type "tuple"), none, (.seq #[] 0), #[]⟩
noncomputable def o273 (P : Params) : Obj := ⟨(.type "code"), none, (.fields #[(.str ⟨#[95,115,105,102,116,117,112]⟩ 608), (.str ⟨#[95,115,105,102,116,117,112]⟩ 609), (.str ⟨#[47,99,108,97,105,109,47,99,117,116,46,112,121]⟩ 610), (.int (443) 0), (.int (2) 0), (.int (0) 0), (.int (0) 0), (.int (3) 0), (.ref 268), (.bool true), (.int (181) 0), (.ref 269), .none, (.ref 270), (.ref 271), (.ref 272), (.int (618) 0), (.int (443) 0), (.str ⟨#[47,99,108,97,105,109,47,99,117,116,46,112,121]⟩ 619)]), #[]⟩
noncomputable def fd274 : FuncData := { name := ⟨#[95,115,105,102,116,117,112]⟩, qualname := ⟨#[95,115,105,102,116,117,112]⟩, params := argsOf (stm 10), body := .stmts (bodyOf (stm 10)), scope := scopeOf (stm 10), globals := 3, closure := [], defaults := .none, kwdefaults := .none, doc := .none, pyModule := (.str ⟨#[99,112,121,51,49,51,46,104,101,97,112,113]⟩ 575), annotations := none, code := (.ref 273), closureTuple := .none, builtins := 0 }
noncomputable def o274 (P : Params) : Obj := ⟨(.type "function"), none, (.func fd274), #[]⟩
noncomputable def o275 (P : Params) : Obj := ⟨(.type "tuple"), none, (.seq #[] 0), #[]⟩
noncomputable def o277 (P : Params) : Obj := ⟨(.type "tuple"), none, (.seq #[(.str ⟨#[101,120,112,101,99,116,101,100]⟩ 626), (.str ⟨#[97,99,116,117,97,108]⟩ 627), (.str ⟨#[105]⟩ 628), (.str ⟨#[106]⟩ 629), (.str ⟨#[109,105,115,115,105,110,103]⟩ 630), (.str ⟨#[117,110,101,120,112,101,99,116,101,100]⟩ 631), (.str ⟨#[101]⟩ 632), (.str ⟨#[97]⟩ 633)] 0), #[]⟩
noncomputable def o278 (P : Params) : Obj := ⟨(.type "tuple"), none, (.seq #[] 0), #[]⟩
noncomputable def o280 (P : Params) : Obj := ⟨(.type "code"), none, (.fields #[(.str ⟨#[115,111,114,116,101,100,95,108,105,115,116,95,100,105,102,102,101,114,101,110,99,101]⟩ 623), (.str ⟨#[115,111,114,116,101,100,95,108,105,115,116,95,100,105,102,102,101,114,101,110,99,101]⟩ 624), (.str ⟨#[47,99,108,97,105,109,47,99,117,116,46,112,121]⟩ 625), (.int (458) 0), (.int (2) 0), (.int (0) 0), (.int (0) 0), (.int (3) 0), (.ref 275), (.bool true), (.int (181) 0), (.ref 276), .none, (.ref 277), (.ref 278), (.ref 279), (.int (634) 0), (.int (458) 0), (.str ⟨#[47,99,108,97,105,109,47,99,117,116,46,112,121]⟩ 635)]), #[]⟩
noncomputable def fd281 : FuncData := { name := ⟨#[115,111,114,116,101,100,95,108,105,115,116,95,100,105,102,102,101,114,101,110,99,101]⟩, qualname := ⟨#[115,111,114,116,101,100,95,108,105,115,116,95,100,105,102,102,101,114,101,110,99,101]⟩, params := argsOf (stm 12), body := .stmts (bodyOf (stm 12)), scope := scopeOf (stm 12), globals := 3, closure := [], defaults := .none, kwdefaults := .none, doc := (.str (docOf (stm 12)) 636), pyModule := (.str ⟨#[99,112,121,51,49,51,46,117,110,105,116,116,101,115,116,46,117,116,105,108]⟩ 621), annotations := none, code := (.ref 280), closureTuple := .none, builtins := 0 }
noncomputable def o281 (P : Params) : Obj := ⟨(.type "function"), none, (.func fd281), #[]⟩
noncomputable def o282 (P : Params) : Obj := ⟨(.type "tuple"), none, (.seq #[] 0), #[]⟩
noncomputable def o284 (P : Params) : Obj := ⟨(.type "tuple"), none, (.seq #[(.str ⟨#[101,120,112,101,99,116,101,100]⟩ 641), (.str ⟨#[97,99,116,117,97,108]⟩ 642), (.str ⟨#[109,105,115,115,105,110,103]⟩ 643), (.str ⟨#[105,116,101,109]⟩ 644)] 0), #[]⟩
noncomputable def o285 (P : Params) : Obj := ⟨(.type "tuple"), none, (.seq #[] 0), #[]⟩
noncomputable def o287 (P : Params) : Obj := ⟨(.type "code"), none, (.fields #[(.str ⟨#[117,110,111,114,100,101,114,97,98,108,101,95,108,105,115,116,95,100,105,102,102,101,114,101,110,99,101]⟩ 638), (.str ⟨#[117,110,111,114,100,101,114,97,98,108,101,95,108,105,115,116,95,100,105,102,102,101,114,101,110,99,101]⟩ 639), (.str ⟨#[47,99,108,97,105,109,47,99,117,116,46,112,121]⟩ 640), (.int (497) 0), (.int (2) 0), (.int (0) 0), (.int (0) 0), (.int (3) 0), (.ref 282), (.bool true), (.int (181) 0), (.ref 283), .none, (.ref 284), (.ref 285), (.ref 286), (.int (645) 0), (.int (497) 0), (.str ⟨#[47,99,108,97,105,109,47,99,117,116,46,112,121]⟩ 646)]), #[]⟩
noncomputable def fd288 : FuncData := { name := ⟨#[117,110,111,114,100,101,114,97,98,108,101,95,108,105,115,116,95,100,105,102,102,101,114,101,110,99,101]⟩, qualname := ⟨#[117,110,111,114,100,101,114,97,98,108,101,95,108,105,115,116,95,100,105,102,102,101,114,101,110,99,101]⟩, params := argsOf (stm 13), body := .stmts (bodyOf (stm 13)), scope := scopeOf (stm 13), globals := 3, closure := [], defaults := .none, kwdefaults := .none, doc := (.str (docOf (stm 13)) 647), pyModule := (.str ⟨#[99,112,121,51,49,51,46,117,110,105,116,116,101,115,116,46,117,116,105,108]⟩ 621), annotations := none, code := (.ref 287), closureTuple := .none, builtins := 0 }
noncomputable def o288 (P : Params) : Obj := ⟨(.type "function"), none, (.func fd288), #[]⟩
noncomputable def o289 (P : Params) : Obj := ⟨(.type "tuple"), none, (.seq #[] 0), #[]⟩
noncomputable def o292 (P : Params) : Obj := ⟨(.type "code"), none, (.fields #[(.str ⟨#[95,108,97,119,95,108,105,115,116,115]⟩ 651), (.str ⟨#[95,108,97,119,95,108,105,115,116,115]⟩ 652), (.str ⟨#[47,99,108,97,105,109,47,99,117,116,46,112,121]⟩ 653), (.int (512) 0), (.int (1) 0), (.int (0) 0), (.int (0) 0), (.int (3) 0), (.ref 289), (.bool true), (.int (181) 0), (.ref 290), .none, .none, .none, (.ref 291), (.int (654) 0), (.int (512) 0), (.str ⟨#[47,99,108,97,105,109,47,99,117,116,46,112,121]⟩ 655)]), #[]⟩
noncomputable def fd293 : FuncData := { name := ⟨#[95,108,97,119,95,108,105,115,116,115]⟩, qualname := ⟨#[95,108,97,119,95,108,105,115,116,115]⟩, params := argsOf (stm 15), body := .stmts (bodyOf (stm 15)), scope := scopeOf (stm 15), globals := 3, closure := [], defaults := .none, kwdefaults := .none, doc := .none, pyModule := (.str ⟨#[108,97,119,95,111,104,48,49,49,56,95,48,49]⟩ 649), annotations := none, code := (.ref 292), closureTuple := .none, builtins := 0 }
noncomputable def o293 (P : Params) : Obj := ⟨(.type "function"), none, (.func fd293), #[]⟩
noncomputable def o294 (P : Params) : Obj := ⟨(.type "tuple"), none, (.seq #[] 0), #[]⟩
noncomputable def o296 (P : Params) : Obj := ⟨(.type "tuple"), none, (.seq #[(.str ⟨#[110,117,109,98,101,114,115]⟩ 660), (.str ⟨#[104,101,97,112]⟩ 661), (.str ⟨#[114,111,119]⟩ 662), (.str ⟨#[110,117,109,98,101,114]⟩ 663)] 0), #[]⟩
noncomputable def o297 (P : Params) : Obj := ⟨(.type "tuple"), none, (.seq #[] 0), #[]⟩
noncomputable def o299 (P : Params) : Obj := ⟨(.type "code"), none, (.fields #[(.str ⟨#[95,108,97,119,95,114,111,119]⟩ 657), (.str ⟨#[95,108,97,119,95,114,111,119]⟩ 658), (.str ⟨#[47,99,108,97,105,109,47,99,117,116,46,112,121]⟩ 659), (.int (515) 0), (.int (1) 0), (.int (0) 0), (.int (0) 0), (.int (3) 0), (.ref 294), (.bool true), (.int (181) 0), (.ref 295), .none, (.ref 296), (.ref 297), (.ref 298), (.int (664) 0), (.int (515) 0), (.str ⟨#[47,99,108,97,105,109,47,99,117,116,46,112,121]⟩ 665)]), #[]⟩
noncomputable def fd300 : FuncData := { name := ⟨#[95,108,97,119,95,114,111,119]⟩, qualname := ⟨#[95,108,97,119,95,114,111,119]⟩, params := argsOf (stm 16), body := .stmts (bodyOf (stm 16)), scope := scopeOf (stm 16), globals := 3, closure := [], defaults := .none, kwdefaults := .none, doc := .none, pyModule := (.str ⟨#[108,97,119,95,111,104,48,49,49,56,95,48,49]⟩ 649), annotations := none, code := (.ref 299), closureTuple := .none, builtins := 0 }
noncomputable def o300 (P : Params) : Obj := ⟨(.type "function"), none, (.func fd300), #[]⟩
noncomputable def o301 (P : Params) : Obj := ⟨(.type "tuple"), none, (.seq #[] 0), #[]⟩
noncomputable def o303 (P : Params) : Obj := ⟨(.type "tuple"), none, (.seq #[(.str ⟨#[102,105,114,115,116]⟩ 670), (.str ⟨#[115,101,99,111,110,100]⟩ 671), (.str ⟨#[114,117,110,115]⟩ 672), (.str ⟨#[105]⟩ 673), (.str ⟨#[110,117,109,98,101,114]⟩ 674), (.str ⟨#[106]⟩ 675)] 0), #[]⟩
noncomputable def o304 (P : Params) : Obj := ⟨(.type "tuple"), none, (.seq #[] 0), #[]⟩
noncomputable def o306 (P : Params) : Obj := ⟨(.type "code"), none, (.fields #[(.str ⟨#[95,108,97,119,95,114,117,110,115]⟩ 667), (.str ⟨#[95,108,97,119,95,114,117,110,115]⟩ 668), (.str ⟨#[47,99,108,97,105,109,47,99,117,116,46,112,121]⟩ 669), (.int (524) 0), (.int (2) 0), (.int (0) 0), (.int (0) 0), (.int (3) 0), (.ref 301), (.bool true), (.int (181) 0), (.ref 302), .none, (.ref 303), (.ref 304), (.ref 305), (.int (676) 0), (.int (524) 0), (.str ⟨#[47,99,108,97,105,109,47,99,117,116,46,112,121]⟩ 677)]), #[]⟩
noncomputable def fd307 : FuncData := { name := ⟨#[95,108,97,119,95,114,117,110,115]⟩, qualname := ⟨#[95,108,97,119,95,114,117,110,115]⟩, params := argsOf (stm 17), body := .stmts (bodyOf (stm 17)), scope := scopeOf (stm 17), globals := 3, closure := [], defaults := .none, kwdefaults := .none, doc := .none, pyModule := (.str ⟨#[108,97,119,95,111,104,48,49,49,56,95,48,49]⟩ 649), annotations := none, code := (.ref 306), closureTuple := .none, builtins := 0 }
noncomputable def o307 (P : Params) : Obj := ⟨(.type "function"), none, (.func fd307), #[]⟩
noncomputable def o308 (P : Params) : Obj := ⟨(.type "tuple"), none, (.seq #[] 0), #[]⟩
noncomputable def o311 (P : Params) : Obj := ⟨(.type "code"), none, (.fields #[(.str ⟨#[95,108,97,119,95,111,117,116,115,105,100,101]⟩ 679), (.str ⟨#[95,108,97,119,95,111,117,116,115,105,100,101]⟩ 680), (.str ⟨#[47,99,108,97,105,109,47,99,117,116,46,112,121]⟩ 681), (.int (533) 0), (.int (3) 0), (.int (0) 0), (.int (0) 0), (.int (3) 0), (.ref 308), (.bool true), (.int (181) 0), (.ref 309), .none, .none, .none, (.ref 310), (.int (682) 0), (.int (533) 0), (.str ⟨#[47,99,108,97,105,109,47,99,117,116,46,112,121]⟩ 683)]), #[]⟩
noncomputable def fd312 : FuncData := { name := ⟨#[95,108,97,119,95,111,117,116,115,105,100,101]⟩, qualname := ⟨#[95,108,97,119,95,111,117,116,115,105,100,101]⟩, params := argsOf (stm 18), body := .stmts (bodyOf (stm 18)), scope := scopeOf (stm 18), globals := 3, closure := [], defaults := .none, kwdefaults := .none, doc := .none, pyModule := (.str ⟨#[108,97,119,95,111,104,48,49,49,56,95,48,49]⟩ 649), annotations := none, code := (.ref 311), closureTuple := .none, builtins := 0 }
noncomputable def o312 (P : Params) : Obj := ⟨(.type "function"), none, (.func fd312), #[]⟩
noncomputable def o313 (P : Params) : Obj := ⟨(.type "tuple"), none, (.seq #[] 0), #[]⟩
noncomputable def o316 (P : Params) : Obj := ⟨(.type "code"), none, (.fields #[(.str ⟨#[108,97,119]⟩ 685), (.str ⟨#[108,97,119]⟩ 686), (.str ⟨#[47,99,108,97,105,109,47,99,117,116,46,112,121]⟩ 687), (.int (536) 0), (.int (1) 0), (.int (0) 0), (.int (0) 0), (.int (3) 0), (.ref 313), (.bool true), (.int (181) 0), (.ref 314), .none, .none, .none, (.ref 315), (.int (688) 0), (.int (536) 0), (.str ⟨#[47,99,108,97,105,109,47,99,117,116,46,112,121]⟩ 689)]), #[]⟩
noncomputable def fd317 : FuncData := { name := ⟨#[108,97,119]⟩, qualname := ⟨#[108,97,119]⟩, params := argsOf (stm 19), body := .stmts (bodyOf (stm 19)), scope := scopeOf (stm 19), globals := 3, closure := [], defaults := .none, kwdefaults := .none, doc := .none, pyModule := (.str ⟨#[108,97,119,95,111,104,48,49,49,56,95,48,49]⟩ 649), annotations := none, code := (.ref 316), closureTuple := .none, builtins := 0 }
noncomputable def o317 (P : Params) : Obj := ⟨(.type "function"), none, (.func fd317), #[]⟩
noncomputable def K (P : Params) : Frag := [(2, o2 P), (3, o3 P), (15, o15 P), (17, o17 P), (18, o18 P), (20, o20 P), (21, o21 P), (29, o29 P), (31, o31 P), (32, o32 P), (34, o34 P), (35, o35 P), (36, o36 P), (37, o37 P), (39, o39 P), (40, o40 P), (42, o42 P), (43, o43 P), (44, o44 P), (46, o46 P), (47, o47 P), (49, o49 P), (50, o50 P), (51, o51 P), (53, o53 P), (54, o54 P), (56, o56 P), (57, o57 P), (58, o58 P), (59, o59 P), (60, o60 P), (61, o61 P), (62, o62 P), (65, o65 P), (68, o68 P), (73, o73 P), (74, o74 P), (75, o75 P), (76, o76 P), (78, o78 P), (79, o79 P), (81, o81 P), (82, o82 P), (83, o83 P), (85, o85 P), (86, o86 P), (88, o88 P), (89, o89 P), (90, o90 P), (91, o91 P), (92, o92 P), (93, o93 P), (94, o94 P), (96, o96 P), (97, o97 P), (99, o99 P), (100, o100 P), (101, o101 P), (103, o103 P), (104, o104 P), (106, o106 P), (107, o107 P), (108, o108 P), (110, o110 P), (111, o111 P), (113, o113 P), (114, o114 P), (115, o115 P), (117, o117 P), (118, o118 P), (120, o120 P), (121, o121 P), (122, o122 P), (123, o123 P), (124, o124 P), (126, o126 P), (127, o127 P), (129, o129 P), (130, o130 P), (132, o132 P), (134, o134 P), (135, o135 P), (136, o136 P), (139, o139 P), (141, o141 P), (142, o142 P), (144, o144 P), (145, o145 P), (153, o153 P), (154, o154 P), (156, o156 P), (157, o157 P), (159, o159 P), (160, o160 P), (161, o161 P), (163, o163 P), (164, o164 P), (166, o166 P), (167, o167 P), (168, o168 P), (170, o170 P), (171, o171 P), (173, o173 P), (174, o174 P), (175, o175 P), (177, o177 P), (178, o178 P), (180, o180 P), (181, o181 P), (182, o182 P), (184, o184 P), (185, o185 P), (187, o187 P), (188, o188 P), (189, o189 P), (190, o190 P), (192, o192 P), (193, o193 P), (195, o195 P), (196, o196 P), (197, o197 P), (199, o199 P), (200, o200 P), (202, o202 P), (203, o203 P), (204, o204 P), (206, o206 P), (207, o207 P), (209, o209 P), (210, o210 P), (211, o211 P), (212, o212 P), (214, o214 P), (215, o215 P), (217, o217 P), (218, o218 P), (219, o219 P), (221, o221 P), (222, o222 P), (224, o224 P), (225, o225 P), (226, o226 P), (228, o228 P), (229, o229 P), (231, o231 P), (232, o232 P), (233, o233 P), (235, o235 P), (236, o236 P), (238, o238 P), (239, o239 P), (240, o240 P), (241, o241 P), (242, o242 P), (243, o243 P), (244, o244 P), (247, o247 P), (249, o249 P), (250, o250 P), (252, o252 P), (253, o253 P), (254, o254 P), (256, o256 P), (257, o257 P), (259, o259 P), (260, o260 P), (261, o261 P), (263, o263 P), (264, o264 P), (266, o266 P), (267, o267 P), (268, o268 P), (270, o270 P), (271, o271 P), (273, o273 P), (274, o274 P), (275, o275 P), (277, o277 P), (278, o278 P), (280, o280 P), (281, o281 P), (282, o282 P), (284, o284 P), (285, o285 P), (287, o287 P), (288, o288 P), (289, o289 P), (292, o292 P), (293, o293 P), (294, o294 P), (296, o296 P), (297, o297 P), (299, o299 P), (300, o300 P), (301, o301 P), (303, o303 P), (304, o304 P), (306, o306 P), (307, o307 P), (308, o308 P), (311, o311 P), (312, o312 P), (313, o313 P), (316, o316 P), (317, o317 P)]
noncomputable def ads : List Addr := [2, 3, 15, 17, 18, 20, 21, 29, 31, 32, 34, 35, 36, 37, 39, 40, 42, 43, 44, 46, 47, 49, 50, 51, 53, 54, 56, 57, 58, 59, 60, 61, 62, 65, 68, 73, 74, 75, 76, 78, 79, 81, 82, 83, 85, 86, 88, 89, 90, 91, 92, 93, 94, 96, 97, 99, 100, 101, 103, 104, 106, 107, 108, 110, 111, 113, 114, 115, 117, 118, 120, 121, 122, 123, 124, 126, 127, 129, 130, 132, 134, 135, 136, 139, 141, 142, 144, 145, 153, 154, 156, 157, 159, 160, 161, 163, 164, 166, 167, 168, 170, 171, 173, 174, 175, 177, 178, 180, 181, 182, 184, 185, 187, 188, 189, 190, 192, 193, 195, 196, 197, 199, 200, 202, 203, 204, 206, 207, 209, 210, 211, 212, 214, 215, 217, 218, 219, 221, 222, 224, 225, 226, 228, 229, 231, 232, 233, 235, 236, 238, 239, 240, 241, 242, 243, 244, 247, 249, 250, 252, 253, 254, 256, 257, 259, 260, 261, 263, 264, 266, 267, 268, 270, 271, 273, 274, 275, 277, 278, 280, 281, 282, 284, 285, 287, 288, 289, 292, 293, 294, 296, 297, 299, 300, 301, 303, 304, 306, 307, 308, 311, 312, 313, 316, 317]
end Mine
end
section
open PySem PySem.W PyProof.Rows
set_option Elab.async false
set_option maxRecDepth 100000
set_option maxHeartbeats 0
namespace Mine
noncomputable def qOf (p : Program) : Program := { p with main := { p.main with body := p.main.body.drop 19 } }
noncomputable def looseN : List Str := [Str.ofString "_wall", Str.ofString "_tuplegetter", Str.ofString "Match", Str.ofString "_calculate_ratio", Str.ofString "SequenceMatcher", Str.ofString "heappush", Str.ofString "heappop", Str.ofString "_siftdown", Str.ofString "_siftup", Str.ofString "sorted_list_difference", Str.ofString "unorderable_list_difference", Str.ofString "_law_lists", Str.ofString "_law_row", Str.ofString "_law_runs", Str.ofString "_law_outside"]
noncomputable def obsA (p : Program) (P : Params) (s : Shared) :=
  (staticsOk (importedModules p.main.body) (boot_heap P) s.heap && namesBound p s.heap && gensDone s && laidKept (boot_heap P) s.heap,
   openSeen (qOf p) looseN (importedModules p.main.body) (fun s => xlAt (qOf p) [] s && recOk [] s) true s, ads.map s.heap.get?)
theorem run_looks : ∀ (w : World) (os : OsState), (runF pwF w 11 (some (.ref 6)) 2600 (S0T w os) (topStub pwF)).map (fun s => obsA pwF w.params s.abs) = some (true, openGood (qOf pwF) looseN, (K w.params).map fun p => some p.2) := by
  intro w os
  unfold obsA
  rw [Fast.te4187177175401517315]
  kernel_rfl
end Mine
end
section
open PySem PySem.W PyProof.Rows
set_option Elab.async false
set_option maxRecDepth 100000
set_option maxHeartbeats 0
namespace Mine
noncomputable abbrev pw : Program := PySem.Challenge.pw_oh0118_01
theorem left_of_run {p q : Program} {loose : List Str} {Xt : Shared → Bool} {α : Type} {Yf : Shared → α} {Ya : World → α} {N : Nat} {g0 : Bool} {H₀ : Params → Heap} {gs₀ : Array GenState} {d₀ : Drawn} {k₀ : Nat} {m₀ : Nat} {ann : Option Value} {M : Nat}
    (open_ : ∀ w : World, (fencedOpening treeTable p w N).map (fun s => (s.heap, s.gens, s.drawn, s.toks)) = some (H₀ w.params, gs₀, d₀, k₀))
    (size : ∀ w : World, ((H₀ w.params).isNs mainGlobals && gs₀.size == 0, (H₀ w.params).objs.size, (H₀ w.params).nsMap mainGlobals "__annotations__") = (true, m₀, ann))
    (run : ∀ (w : World) (os : OsState), ∃ s₁ : Shared, topRun treeTable p w m₀ ann M ⟨H₀ w.params, gs₀, d₀, k₀, os⟩ (topStub p) = some s₁ ∧
      (staticsOk (importedModules p.main.body) (H₀ w.params) s₁.heap && namesBound p s₁.heap && gensDone s₁ && laidKept (H₀ w.params) s₁.heap) = true ∧
      openSeen q loose (importedModules p.main.body) Xt g0 s₁ = openGood q loose ∧ Yf s₁ = Ya w) (le : Nat.ble M N = true) : LeftO p q loose Xt Yf Ya N g0 := fun w => by
  obtain ⟨⟨h, gs, d, k, os⟩, e, e'⟩ := Option.map_eq_some_iff.mp (open_ w)
  obtain ⟨rfl, rfl, rfl, rfl⟩ : h = H₀ w.params ∧ gs = gs₀ ∧ d = d₀ ∧ k = k₀ := by simpa using e'
  obtain ⟨z1, z2, z3⟩ : _ ∧ _ ∧ _ := by simpa only [Prod.mk.injEq] using size w
  obtain ⟨s₁, r, l1, l2, l3⟩ := run w os
  have r := topRun_mono (N - M) _ _ _ _ r
  rw [show M + (N - M) = N by have := Nat.le_of_ble_eq_true le; walk_at "om"] at r
  have t : topFrom treeTable p w N ⟨H₀ w.params, gs, d, k, os⟩ = some s₁ := by
    unfold topFrom
    dsimp only
    rw [z1, z2, z3, r]
    show (match staticsOk (importedModules p.main.body) (H₀ w.params) s₁.heap && namesBound p s₁.heap && gensDone s₁ && laidKept (H₀ w.params) s₁.heap with | true => _ | false => _) = _
    rw [l1]
  unfold openEnds
  rw [e]
  show (topFrom treeTable p w N _).map _ = _
  rw [t]
  exact congrArg some (Prod.ext l2 l3)
theorem run_ok : ∀ (w : World) (os : OsState), ∃ s₁ : Shared, topRun treeTable pw w 11 (some (.ref 6)) 2600 ⟨boot_heap w.params, #[], boot_drawn, boot_toks, os⟩ (topStub pw) = some s₁ ∧
      (staticsOk (importedModules pw.main.body) (boot_heap w.params) s₁.heap && namesBound pw s₁.heap && gensDone s₁ && laidKept (boot_heap w.params) s₁.heap) = true ∧
      openSeen (qOf pw) looseN (importedModules pw.main.body) (fun s => xlAt (qOf pw) [] s && recOk [] s) true s₁ = openGood (qOf pw) looseN ∧ ads.map s₁.heap.get? = (K w.params).map fun p => some p.2 := by
  intro w os
  have h := run_looks w os
  rw [← pw_eq] at h
  obtain ⟨s, h1, h2⟩ := Option.map_eq_some_iff.mp h
  have h3 := runF_spec _ _ _ _ h1
  rw [S0_abs] at h3
  unfold obsA at h2
  obtain ⟨a, b, c⟩ : _ ∧ _ ∧ _ := by simpa only [Prod.mk.injEq] using h2
  exact ⟨s.abs, h3, a, b, c⟩
theorem ads_ok : ∀ P, ads = (K P).map (·.1) := fun _ => by kernel_rfl
theorem opening_eq : opening pw = plainProg pw.main.scope.names := by kernel_rfl
theorem fence_eq : ∀ s, fenceModules? pw s = some s := fun s => by kernel_rfl
theorem size_ok : ∀ w : World, ((boot_heap w.params).isNs mainGlobals && (#[] : Array GenState).size == 0, (boot_heap w.params).objs.size, (boot_heap w.params).nsMap mainGlobals "__annotations__") = (true, 11, some (.ref 6)) := fun w => by kernel_rfl
theorem left : LeftO pw (qOf pw) looseN (fun s => xlAt (qOf pw) [] s && recOk (RowW.records PySem.Challenge.rw_oh0118_01.row.toRowW) s) (Hook.obs (kHook K ads ads_ok)) (Hook.val (kHook K ads ads_ok)) 5042 :=
  left_of_run (boot_open opening_eq rfl fence_eq) size_ok run_ok rfl
end Mine
end
section
open PySem PySem.W PyProof.Rows
set_option Elab.async false
set_option maxRecDepth 100000
set_option maxHeartbeats 0
namespace Mine
noncomputable abbrev row : OpenRow := PySem.Challenge.rw_oh0118_01.row
noncomputable def lawS : Stmt := atSt pw.main.body 19
noncomputable def lawD : DefRec × List (Str × Expr) := ({ name := Str.ofString "law", params := argsOf lawS, body := bodyOf lawS, scope := scopeOf lawS, pos := lawS.pos }, [])
theorem lawD_eq : defOf (qOf pw) row.name = some (lawD.1, lawD.2) := by kernel_rfl
/-- the law over a program -/
noncomputable abbrev lawOf (p : Program) : OpenLaw := { prog := p, name := (PySem.Str.ofString "law"), about := [(PySem.Str.ofString "SequenceMatcher"), (PySem.Str.ofString "get_matching_blocks")], foot := 5, most := some 63, bound := none, writes := false }
theorem law_pw : PySem.Challenge.rw_oh0118_01 = lawOf pwF := (show PySem.Challenge.rw_oh0118_01 = lawOf pw from rfl).trans (congrArg lawOf pw_eq)
theorem law_of (h : PySem.Challenge.rw_oh0118_01.row.wellSaid = true → PySem.Challenge.rw_oh0118_01.row.Holds) : PySem.Challenge.rw_oh0118_01.Holds := by
  rw [law_pw] at h ⊢
  w_on
  o_law
  exact h (by assumption)
theorem hd (call : WalkO (qOf pw) looseN (XL (qOf pw) []) (Hook.says (kHook K ads ads_ok)) row.toRowW lawD.1 lawD.2 fun f vs => PySem.call f vs) : PySem.Challenge.rw_oh0118_01.Holds := by
  refine law_of fun said => ?_
  refine holds_open (q := qOf pw) (loose := looseN) (Xt := fun s => xlAt (qOf pw) [] s && recOk (RowW.records row.toRowW) s) (XP := XL (qOf pw) []) (Yf := Hook.obs (kHook K ads ads_ok)) (Ya := Hook.val (kHook K ads ads_ok)) (YP := Hook.says (kHook K ads ads_ok)) (N := 5042) left (Hook.of (kHook K ads ads_ok)) (Hook.keeps (kHook K ads ads_ok)) (fun s e => xl_of s (Bool.and_eq_true_iff.mp e).1) XL.keeps lawD_eq (by kernel_rfl) (by kernel_rfl) (fun s e => recFacts_of (Bool.and_eq_true_iff.mp e).2) (by rfl) said (by decide +kernel) ⟨rfl, rfl, rfl, rfl, rfl, by decide +kernel⟩ ?hw call
  case hw => w_witness2
end Mine
end
section
open PySem PySem.W PyProof.Rows PySem.Calls
set_option Elab.async false
set_option linter.unusedVariables false
set_option maxRecDepth 10000
namespace Mine

/-! ## abstract values and objects -/
inductive AV where
  | none
  | bool (b : Bool)
  | int (i : Int)
  | ref (a : Addr)
  | raw (v : Value)
  | tup (c : Value) (l : List AV)
deriving Inhabited

/-- the classes whose objects never change: tuples, and Match -/
noncomputable def Imm (c : Value) : Prop := c = .type "tuple" ∨ c = .ref 135

inductive Rep (h : Heap) : AV → Value → Prop where
  | none : Rep h .none .none
  | bool (b : Bool) : Rep h (.bool b) (.bool b)
  | int (i : Int) (t : Tok) : Rep h (.int i) (.int i t)
  | ref (a : Addr) : Rep h (.ref a) (.ref a)
  | raw (v : Value) : Rep h (.raw v) v
  | tup {c : Value} {l : List AV} {a : Addr} {dd : Option Addr} {vs : List Value} {n : Nat} : Imm c → (c = .type "tuple" → dd = .none) → h.get? a = some ⟨c, dd, .seq vs.toArray n, #[]⟩ → l.length = vs.length →
      (∀ (i : Nat) (x : AV) (v : Value), l[i]? = some x → vs[i]? = some v → Rep h x v) → Rep h (.tup c l) (.ref a)

inductive RepL (h : Heap) : List AV → List Value → Prop where
  | nil : RepL h [] []
  | cons {x : AV} {v : Value} {l : List AV} {vs : List Value} : Rep h x v → RepL h l vs → RepL h (x :: l) (v :: vs)

theorem RepL.length {h : Heap} : ∀ {l : List AV} {vs : List Value}, RepL h l vs → l.length = vs.length
  | _, _, .nil => rfl
  | _, _, .cons _ r => by simp [r.length]
theorem RepL.get {h : Heap} : ∀ {l : List AV} {vs : List Value}, RepL h l vs → ∀ {i : Nat} {x : AV} {v : Value}, l[i]? = some x → vs[i]? = some v → Rep h x v
  | _, _, .nil, _, _, _, e, _ => by simp at e
  | _, _, .cons r _, 0, _, _, e, e' => by simp at e e'; subst e e'; exact r
  | _, _, .cons _ q, i + 1, _, _, e, e' => q.get (i := i) (by simpa using e) (by simpa using e')
theorem RepL.of_get {h : Heap} : ∀ {l : List AV} {vs : List Value}, l.length = vs.length → (∀ (i : Nat) (x : AV) (v : Value), l[i]? = some x → vs[i]? = some v → Rep h x v) → RepL h l vs
  | [], [], _, _ => .nil
  | _ :: _, _ :: _, e, k => .cons (k 0 _ _ rfl rfl) (RepL.of_get (by simpa using e) fun i x v a b => k (i + 1) x v (by simpa using a) (by simpa using b))
theorem RepL.some {h : Heap} {l : List AV} {vs : List Value} (r : RepL h l vs) {i : Nat} {x : AV} (e : l[i]? = .some x) : ∃ v, vs[i]? = .some v ∧ Rep h x v := by
  have hi : i < l.length := (List.getElem?_eq_some_iff.mp e).1
  have : i < vs.length := by rw [← r.length]; exact hi
  exact ⟨vs[i], List.getElem?_eq_getElem this, r.get e (List.getElem?_eq_getElem this)⟩
theorem Rep.tupL {h : Heap} {c : Value} {l : List AV} {a : Addr} {dd : Option Addr} {vs : List Value} {n : Nat} (hc : Imm c) (hd : c = .type "tuple" → dd = .none) (e : h.get? a = some ⟨c, dd, .seq vs.toArray n, #[]⟩) (r : RepL h l vs) : Rep h (.tup c l) (.ref a) :=
  .tup hc hd e r.length fun _ _ _ a b => r.get a b

/-- what is immutable stays -/
noncomputable def Mono (h h' : Heap) : Prop := ∀ b c dd vs n, Imm c → h.get? b = some ⟨c, dd, .seq vs n, #[]⟩ → h'.get? b = some ⟨c, dd, .seq vs n, #[]⟩
theorem Mono.refl (h : Heap) : Mono h h := fun _ _ _ _ _ _ e => e
theorem Mono.trans {h₁ h₂ h₃ : Heap} (a : Mono h₁ h₂) (b : Mono h₂ h₃) : Mono h₁ h₃ := fun x c dd vs n i e => b x c dd vs n i (a x c dd vs n i e)
theorem Mono.of_keep {h h' : Heap} (k : ∀ b o, h.get? b = some o → h'.get? b = some o) : Mono h h' := fun _ _ _ _ _ _ e => k _ _ e
theorem Rep.mono {h h' : Heap} (m : Mono h h') {x : AV} {v : Value} (r : Rep h x v) : Rep h' x v := by
  induction r with
  | none => exact .none
  | bool b => exact .bool b
  | int i t => exact .int i t
  | ref a => exact .ref a
  | raw v => exact .raw v
  | tup hc hd e hl _ ih => exact .tup hc hd (m _ _ _ _ _ hc e) hl fun i x v a b => ih i x v a b
theorem RepL.mono {h h' : Heap} (m : Mono h h') : ∀ {l : List AV} {vs : List Value}, RepL h l vs → RepL h' l vs
  | _, _, .nil => .nil
  | _, _, .cons r q => .cons (r.mono m) (q.mono m)


/-- the pairs of a dict -/
inductive RepKV {K : Type} (h : Heap) : List (K × AV) → List (K × Value) → Prop where
  | nil : RepKV h [] []
  | cons {k : K} {x : AV} {v : Value} {l : List (K × AV)} {es : List (K × Value)} : Rep h x v → RepKV h l es → RepKV h ((k, x) :: l) ((k, v) :: es)
theorem RepKV.mono {K : Type} {h h' : Heap} (m : Mono h h') : ∀ {l : List (K × AV)} {vs : List (K × Value)}, RepKV h l vs → RepKV h' l vs
  | _, _, .nil => .nil
  | _, _, .cons r q => .cons (r.mono m) (q.mono m)

/-- the entries of an object's dict -/
inductive RepNs (h : Heap) : List (Str × AV) → List DictEntry → Prop where
  | nil : RepNs h [] []
  | cons {n : Str} {x : AV} {t : Tok} {hs : Int} {v : Value} {fs : List (Str × AV)} {es : List DictEntry} : Rep h x v → RepNs h fs es → RepNs h ((n, x) :: fs) (⟨hs, .str n t, v⟩ :: es)
theorem RepNs.mono {h h' : Heap} (m : Mono h h') : ∀ {fs : List (Str × AV)} {es : List DictEntry}, RepNs h fs es → RepNs h' fs es
  | _, _, .nil => .nil
  | _, _, .cons r q => .cons (r.mono m) (q.mono m)
inductive AO where
  | list (l : List AV)
  | dict (es : List (Int × AV))
  | set0
  | ns (fs : List (Str × AV))
  | cell (x : Option AV)
  | obj (o : Obj)
deriving Inhabited


noncomputable abbrev listO (vs : List Value) (n : Nat) : Obj := { cls := .type "list", data := .seq vs.toArray n }
noncomputable def Mut (o : Obj) : Prop := ¬ Imm o.cls ∨ ∀ vs n, o.data ≠ .seq vs n

noncomputable def RepO (w : World) (h : Heap) (a : Addr) : AO → Prop
  | .list l => ∃ vs n, h.get? a = some (listO vs n) ∧ RepL h l vs
  | .dict es => (a == sysModules) = false ∧ ∃ kvs, h.DictOf (intKind pw w) a kvs ∧ RepKV h es kvs
  | .set0 => ∃ n ld, h.get? a = some { cls := .type "set", data := .set #[] n (.fresh 0 0 ld) }
  | .ns fs => ∃ es n, h.get? a = some (dictOf es n) ∧ RepNs h fs es
  | .cell x => ∃ v, h.IsCell a v ∧ (match x, v with | none, none => True | some x, some v => Rep h x v | _, _ => False)
  | .obj o => h.get? a = some o
theorem RepO.keep {w : World} {h h' : Heap} {a : Addr} {o : AO} (m : Mono h h') (k : ∀ x, h.get? a = some x → h'.get? a = some x) (r : RepO w h a o) : RepO w h' a o := by
  cases o with
  | list l => obtain ⟨vs, n, e, r⟩ := r; exact ⟨vs, n, k _ e, r.mono m⟩
  | dict es => obtain ⟨q, kvs, d, r⟩ := r; exact ⟨q, kvs, Heap.DictOf.at d k, r.mono m⟩
  | set0 => obtain ⟨n, t, e⟩ := r; exact ⟨n, t, k _ e⟩
  | ns es => obtain ⟨es, n, e, r⟩ := r; exact ⟨es, n, k _ e, r.mono m⟩
  | cell x =>
    obtain ⟨v, e, r⟩ := r
    refine ⟨v, (let ⟨o, e1, d⟩ := e; ⟨o, k _ e1, d⟩), ?_⟩
    cases x <;> cases v <;> first | exact r | exact r.mono m
  | obj o => exact k _ r
theorem RepO.some {w : World} {h : Heap} {a : Addr} {o : AO} (r : RepO w h a o) : ∃ x, h.get? a = .some x := by
  cases o with
  | list l => obtain ⟨vs, n, e, r⟩ := r; exact ⟨_, e⟩
  | dict es => obtain ⟨q, kvs, ⟨o, _, _, e, _⟩, r⟩ := r; exact ⟨_, e⟩
  | set0 => obtain ⟨n, t, e⟩ := r; exact ⟨_, e⟩
  | ns es => obtain ⟨es, n, e, r⟩ := r; exact ⟨_, e⟩
  | cell x => obtain ⟨v, ⟨o, e, _⟩, _⟩ := r; exact ⟨_, e⟩
  | obj o => exact ⟨_, r⟩

/-! ## a frame -/
structure Fx where
  w : World
  hT : Heap
  h₀ : Heap
  mods : List Addr
  env : Env
  names : List Str
  globs : List Str
  A : Around
  g : Array GenState
  os : OsState
  k : Nat
  hd : Option Value := none
  fs : List Addr := []
  hb : Heap := h₀

/-- what the top left -/
structure Gnd (w : World) (hT : Heap) : Prop where
  kin : (K w.params).In hT
  g : ∃ mg, hT.Ns mainGlobals mg
  b : ∃ mb, hT.Ns builtinsNs mb ∧ ∀ x : Str, x ≠ "__name__" → mb x = bootBuiltins x
  nolimit : hT.NoLimit
  size : 318 ≤ hT.objs.size

structure FxOk (F : Fx) : Prop where
  kind : F.env.scope.kind = .function
  loc : ∀ (i : Nat) (x : Str), F.names[i]? = some x → F.env.kindOf x = some .local ∧ (x == ("__debug__" : Str)) = false
  nd : F.names.Nodup
  gk : ∀ x ∈ F.globs, F.env.kindOf x = some .globalImplicit ∧ (x == ("__debug__" : Str)) = false
  glob : F.env.globals = 3
  bi : F.env.builtins = 0
  hh : F.A.handled = F.hd
  dep : F.A.depth + F.k ≤ 900
  un : F.A.units + 20 * F.k ≤ 9000
  top : Gnd F.w F.hT
  ht : ∀ b o, F.hT.get? b = some o → F.h₀.get? b = some o
  hm : ∀ a ∈ F.mods, F.hT.get? a = none
  hmi : ∀ a ∈ F.mods, ∀ c dd vs n, Imm c → F.h₀.get? a ≠ some ⟨c, dd, .seq vs n, #[]⟩
  fsm : ∀ b ∈ F.fs, b ∈ F.mods ∧ ∃ o, F.h₀.get? b = some o ∧ ∀ vs, o.data ≠ .fields vs

structure Sig where
  vals : List (Option AV)
  led : List (Addr × AO)

structure St (F : Fx) (σ : Sig) (s : Shared) : Prop where
  ok : FxOk F
  ns : ∃ m, s.heap.Ns F.env.locals m ∧ ∀ (i : Nat) (x : Str) (av : AV), F.names[i]? = some x → σ.vals[i]? = some (some av) → ∃ v, m x = some v ∧ Rep s.heap av v
  rep : ∀ p ∈ σ.led, RepO F.w s.heap p.1 p.2
  nd : (F.env.locals :: σ.led.map (·.1)).Nodup
  new : ∀ a ∈ σ.led.map (·.1), F.h₀.get? a = none ∨ a ∈ F.mods
  Lnew : F.h₀.get? F.env.locals = none
  keep : ∀ b o, F.h₀.get? b = some o → b ∉ F.mods → s.heap.get? b = some o
  gens : s.gens = F.g
  os : s.os = F.os
  fr : ∀ b ∈ F.fs, b ∉ σ.led.map (·.1) ∧ ∀ o, F.h₀.get? b = some o → ∃ sl, s.heap.get? b = some { o with slots := sl }
  mb : Mono F.hb s.heap

section
variable {F : Fx} {σ : Sig} {s : Shared}
theorem St.topK (S : St F σ s) : ∀ b o, F.hT.get? b = some o → s.heap.get? b = some o := fun b o e =>
  S.keep b o (S.ok.ht b o e) fun hm => by rw [S.ok.hm b hm] at e; cases e
theorem St.mono₀ (S : St F σ s) : Mono F.h₀ s.heap := fun b c dd vs n hc e => S.keep b _ e fun hm => S.ok.hmi b hm c dd vs n hc e
theorem St.Lnot (S : St F σ s) : F.env.locals ∉ σ.led.map (·.1) := (List.nodup_cons.mp S.nd).1

/-- a change of the heap that leaves the frame's names as they are -/
theorem St.go (S : St F σ s) {h' : Heap} {tk : Nat} (M : List Addr) (led' : List (Addr × AO)) (hk : ∀ b o, s.heap.get? b = some o → b ∉ M → h'.get? b = some o) (hM : ∀ a ∈ M, a ∈ σ.led.map (·.1)) (mono : Mono s.heap h')
    (hrep : ∀ p ∈ led', RepO F.w h' p.1 p.2) (hnd : (led'.map (·.1)).Nodup) (hnew : ∀ a ∈ led'.map (·.1), a ∈ σ.led.map (·.1) ∨ s.heap.get? a = none) : St F ⟨σ.vals, led'⟩ { s with heap := h', toks := tk } := by
  obtain ⟨m, hn, hv⟩ := S.ns
  have hL : F.env.locals ∉ M := fun q => S.Lnot (hM _ q)
  obtain ⟨oL, es, ep, e, r⟩ := hn
  refine ⟨S.ok, ⟨m, ⟨oL, es, ep, hk _ _ e hL, r⟩, fun i x av a b => ?_⟩, hrep, ?_, fun a ha => ?_, S.Lnew, fun b o q n => ?_, S.gens, S.os, fun b hb => ?_, S.mb.trans mono⟩
  · obtain ⟨v, q, z⟩ := hv i x av a b
    exact ⟨v, q, z.mono mono⟩
  · refine List.nodup_cons.mpr ⟨fun q => ?_, hnd⟩
    rcases hnew _ q with z | z
    · exact S.Lnot z
    · rw [e] at z; cases z
  · rcases hnew a ha with z | z
    · exact S.new a z
    · cases q : F.h₀.get? a with
      | none => exact .inl rfl
      | some o =>
        by_cases hm : a ∈ F.mods
        · exact .inr hm
        · rw [S.keep a o q hm] at z; cases z
  · refine hk _ _ (S.keep b o q n) fun hb => ?_
    rcases S.new b (hM b hb) with z | z
    · rw [q] at z; cases z
    · exact n z
  · obtain ⟨n1, k1⟩ := S.fr b hb
    refine ⟨fun q => ?_, fun o e => ?_⟩
    · rcases hnew b q with z | z
      · exact n1 z
      · obtain ⟨_, o, e, _⟩ := S.ok.fsm b hb
        obtain ⟨sl, e'⟩ := k1 o e
        rw [e'] at z; cases z
    · obtain ⟨sl, e'⟩ := k1 o e
      exact ⟨sl, hk _ _ e' fun q => n1 (hM _ q)⟩
/-- nothing of the heap changes -/
theorem St.tok (S : St F σ s) {tk : Nat} : St F σ { s with toks := tk } := ⟨S.ok, S.ns, S.rep, S.nd, S.new, S.Lnew, S.keep, S.gens, S.os, S.fr, S.mb⟩
/-- the heap grows, nothing of it is to be known -/
theorem St.grow (S : St F σ s) {h' : Heap} {tk : Nat} (hk : ∀ b o, s.heap.get? b = some o → h'.get? b = some o) : St F σ { s with heap := h', toks := tk } :=
  S.go (h' := h') [] σ.led (fun b o e _ => hk b o e) (fun _ h => nomatch h) (.of_keep hk) (fun p hp => (S.rep p hp).keep (.of_keep hk) fun x e => hk _ _ e) (List.nodup_cons.mp S.nd).2 fun a ha => .inl ha
/-- a new object -/
theorem St.alloc (S : St F σ s) {h' : Heap} {tk : Nat} {a : Addr} {o : AO} (hk : ∀ b o, s.heap.get? b = some o → h'.get? b = some o) (hn : s.heap.get? a = none) (hr : RepO F.w h' a o) : St F ⟨σ.vals, (a, o) :: σ.led⟩ { s with heap := h', toks := tk } := by
  have hna : a ∉ σ.led.map (·.1) := fun q => by
    obtain ⟨p, hp, rfl⟩ := List.mem_map.mp q
    obtain ⟨x, e⟩ := (S.rep p hp).some
    rw [e] at hn; cases hn
  refine S.go (h' := h') [] _ (fun b o e _ => hk b o e) (fun _ h => nomatch h) (.of_keep hk) (fun p hp => ?_) (List.nodup_cons.mpr ⟨hna, (List.nodup_cons.mp S.nd).2⟩) fun b hb => ?_
  · rcases List.mem_cons.mp hp with rfl | hp
    · exact hr
    · exact (S.rep p hp).keep (.of_keep hk) fun x e => hk _ _ e
  · rcases List.mem_cons.mp hb with rfl | hb
    · exact .inr hn
    · exact .inl hb
end

/-- an entry of the ledger is another now -/
inductive Upd (a : Addr) (o o' : AO) : List (Addr × AO) → List (Addr × AO) → Prop where
  | head {r : List (Addr × AO)} : Upd a o o' ((a, o) :: r) ((a, o') :: r)
  | tail {p : Addr × AO} {r r' : List (Addr × AO)} : Upd a o o' r r' → Upd a o o' (p :: r) (p :: r')
theorem Upd.keys {a : Addr} {o o' : AO} {l l' : List (Addr × AO)} (u : Upd a o o' l l') : l'.map (·.1) = l.map (·.1) := by
  induction u with
  | head => rfl
  | tail _ ih => simp [ih]
theorem Upd.mem {a : Addr} {o o' : AO} {l l' : List (Addr × AO)} (u : Upd a o o' l l') : (a, o) ∈ l := by
  induction u with
  | head => exact .head _
  | tail _ ih => exact .tail _ ih
theorem Upd.mem' {a : Addr} {o o' : AO} {l l' : List (Addr × AO)} (u : Upd a o o' l l') (nd : (l.map (·.1)).Nodup) : ∀ p ∈ l', p = (a, o') ∨ (p ∈ l ∧ p.1 ≠ a) := by
  induction u with
  | @head r =>
    intro p hp
    rcases List.mem_cons.mp hp with rfl | hp
    · exact .inl rfl
    · refine .inr ⟨.tail _ hp, fun e => ?_⟩
      have := (List.nodup_cons.mp nd).1
      exact this (List.mem_map.mpr ⟨p, hp, e⟩)
  | @tail q r r' u ih =>
    intro p hp
    have nd' := List.nodup_cons.mp nd
    rcases List.mem_cons.mp hp with rfl | hp
    · exact .inr ⟨.head _, fun e => nd'.1 (List.mem_map.mpr ⟨_, u.mem, e.symm⟩)⟩
    · rcases ih nd'.2 p hp with z | z
      · exact .inl z
      · exact .inr ⟨.tail _ z.1, z.2⟩
section
variable {F : Fx} {σ : Sig} {s : Shared}
theorem St.upd (S : St F σ s) {h' : Heap} {tk : Nat} {a : Addr} {o o' : AO} {led' : List (Addr × AO)} (u : Upd a o o' σ.led led') (hk : ∀ b x, s.heap.get? b = some x → b ≠ a → h'.get? b = some x) (mono : Mono s.heap h') (hr : RepO F.w h' a o') :
    St F ⟨σ.vals, led'⟩ { s with heap := h', toks := tk } := by
  have nd := (List.nodup_cons.mp S.nd).2
  refine S.go (h' := h') [a] led' (fun b x e n => hk b x e fun q => n (by rw [q]; exact .head _)) (fun b hb => ?_) mono (fun p hp => ?_) (by rw [u.keys]; exact nd) fun b hb => .inl (by rw [← u.keys]; exact hb)
  · rw [List.mem_singleton.mp hb]; exact List.mem_map_of_mem u.mem
  · rcases u.mem' nd p hp with rfl | ⟨hp, hn⟩
    · exact hr
    · exact (S.rep p hp).keep mono fun x e => hk _ _ e hn
end

/-- what is known of an object: it is of the ledger, or stood ahead of the call and is not changed by it -/
noncomputable def Has (F : Fx) (σ : Sig) (a : Addr) (o : AO) : Prop := (a, o) ∈ σ.led ∨ (RepO F.w F.h₀ a o ∧ a ∉ F.mods)
theorem St.has {F : Fx} {σ : Sig} {s : Shared} (S : St F σ s) {a : Addr} {o : AO} (h : Has F σ a o) : RepO F.w s.heap a o := by
  rcases h with h | ⟨h, n⟩
  · exact S.rep _ h
  · exact h.keep S.mono₀ fun x e => S.keep a x e n
end Mine
end
section
open PySem PySem.W PyProof.Rows PySem.Calls
set_option Elab.async false
set_option linter.unusedVariables false
set_option maxRecDepth 10000
namespace Mine

/-! ## names by place -/
noncomputable def natsB : List Nat → List Nat → Bool
  | [], [] => true
  | a :: l, b :: r => match Nat.beq a b with
    | true => natsB l r
    | false => false
  | _, _ => false
theorem natsB_eq : ∀ {a b : List Nat}, natsB a b = true → a = b
  | [], [], _ => rfl
  | a :: l, b :: r, h => by
    unfold natsB at h
    cases q : Nat.beq a b with
    | false => rw [q] at h; cases h
    | true => rw [q] at h; rw [Nat.eq_of_beq_eq_true q, natsB_eq h]
  | [], _ :: _, h => by cases h
  | _ :: _, [], h => by cases h
noncomputable def strB (a b : Str) : Bool := natsB a.cps.toList b.cps.toList
theorem strB_eq {a b : Str} (h : strB a b = true) : a = b := by
  cases a; cases b
  exact congrArg Str.mk (Array.ext' (natsB_eq h))
noncomputable def idxOf : List Str → Str → Option Nat
  | [], _ => none
  | a :: r, x => match strB a x with
    | true => some 0
    | false => match idxOf r x with
      | some i => some (i + 1)
      | none => none
theorem idxOf_eq : ∀ {l : List Str} {x : Str} {i : Nat}, idxOf l x = some i → l[i]? = some x
  | [], _, _, h => by cases h
  | a :: r, x, i, h => by
    unfold idxOf at h
    cases q : strB a x with
    | true => rw [q] at h; cases h; rw [strB_eq q]; rfl
    | false =>
      rw [q] at h
      cases z : idxOf r x with
      | none => rw [z] at h; cases h
      | some j => rw [z] at h; cases h; simpa using idxOf_eq z

/-! ## the judgement -/
noncomputable def Post {α β : Type} (F : Fx) (R : Heap → β → α → Prop) (h : Heap) (Q : β → Sig → Prop) : α → Shared → Prop :=
  fun v s' => ∃ x σ', R s'.heap x v ∧ St F σ' s' ∧ Mono h s'.heap ∧ Q x σ'
noncomputable def W {α β : Type} (F : Fx) (E : Value → Shared → Prop) (R : Heap → β → α → Prop) (t : Sem α) (σ : Sig) (Q : β → Sig → Prop) : Prop :=
  ∀ s, St F σ s → wpAny (model pw F.w) F.A t (Post F R s.heap Q) E s
noncomputable abbrev NoE : Value → Shared → Prop := fun _ _ => False
noncomputable abbrev RB : Heap → Bool → Bool → Prop := fun _ a b => a = b
inductive AF where
  | next | brk | cont
  | ret (x : AV)
inductive RepF (h : Heap) : AF → Flow → Prop where
  | next : RepF h .next .next
  | brk : RepF h .brk .brk
  | cont : RepF h .cont .cont
  | ret {x : AV} {v : Value} : Rep h x v → RepF h (.ret x) (.ret v)
noncomputable abbrev WE (F : Fx) (E : Value → Shared → Prop) (t : Sem Value) := W F E Rep t
noncomputable abbrev WB (F : Fx) (E : Value → Shared → Prop) (t : Sem Bool) := W F E RB t
noncomputable abbrev WL (F : Fx) (E : Value → Shared → Prop) (t : Sem (List Value)) := W F E RepL t
noncomputable abbrev WS (F : Fx) (E : Value → Shared → Prop) (t : Sem Flow) := W F E RepF t

noncomputable def WO1 {α β : Type} (F : Fx) (E : Value → Shared → Prop) (R : Heap → β → α → Prop) (op : Value → Sem α) (x : AV) (σ : Sig) (Q : β → Sig → Prop) : Prop :=
  ∀ s v, St F σ s → Rep s.heap x v → wpAny (model pw F.w) F.A (op v) (Post F R s.heap Q) E s
noncomputable def WO2 {α β : Type} (F : Fx) (E : Value → Shared → Prop) (R : Heap → β → α → Prop) (op : Value → Value → Sem α) (x y : AV) (σ : Sig) (Q : β → Sig → Prop) : Prop :=
  ∀ s v u, St F σ s → Rep s.heap x v → Rep s.heap y u → wpAny (model pw F.w) F.A (op v u) (Post F R s.heap Q) E s
noncomputable def WOL {α β : Type} (F : Fx) (E : Value → Shared → Prop) (R : Heap → β → α → Prop) (op : List Value → Sem α) (xs : List AV) (σ : Sig) (Q : β → Sig → Prop) : Prop :=
  ∀ s vs, St F σ s → RepL s.heap xs vs → wpAny (model pw F.w) F.A (op vs) (Post F R s.heap Q) E s

section
variable {α β γ δ : Type} {F : Fx} {E : Value → Shared → Prop} {σ : Sig}

theorem Post.up {R : Heap → β → α → Prop} {h h' : Heap} {Q : β → Sig → Prop} (m : Mono h h') {v : α} {s : Shared} (p : Post F R h' Q v s) : Post F R h Q v s :=
  let ⟨x, σ', r, S, m', q⟩ := p; ⟨x, σ', r, S, m.trans m', q⟩
/-- an end: nothing but tokens is used up -/
theorem Post.here {R : Heap → β → α → Prop} {Q : β → Sig → Prop} {v : α} {s : Shared} {x : β} {tk : Nat} (S : St F σ s) (r : R s.heap x v) (q : Q x σ) : Post F R s.heap Q v { s with toks := tk } :=
  ⟨x, σ, r, S.tok, .refl _, q⟩
theorem Post.here' {R : Heap → β → α → Prop} {Q : β → Sig → Prop} {v : α} {s : Shared} {x : β} (S : St F σ s) (r : R s.heap x v) (q : Q x σ) : Post F R s.heap Q v s :=
  ⟨x, σ, r, S, .refl _, q⟩
theorem W.mono {R : Heap → β → α → Prop} {t : Sem α} {Q Q' : β → Sig → Prop} (h : W F E R t σ Q) (k : ∀ x σ', Q x σ' → Q' x σ') : W F E R t σ Q' :=
  fun s S => wpAny_mono (h s S) (fun _ _ ⟨x, σ', r, S', m, q⟩ => ⟨x, σ', r, S', m, k x σ' q⟩) fun _ _ e => e
/-- the common chain: a tree, then another that hangs on its value -/
theorem W.then {R : Heap → β → α → Prop} {t : Sem α} {Q : β → Sig → Prop} {s : Shared} (h : W F E R t σ Q) (S : St F σ s) {P : α → Shared → Prop}
    (k : ∀ v s' x σ', R s'.heap x v → St F σ' s' → Mono s.heap s'.heap → Q x σ' → P v s') : wpAny (model pw F.w) F.A t P E s :=
  wpAny_mono (h s S) (fun v s' ⟨x, σ', r, S', m, q⟩ => k v s' x σ' r S' m q) fun _ _ e => e

/-! ## statements -/
theorem ws_nil {Q : AF → Sig → Prop} (h : Q .next σ) : WS F E (execs [] F.env) σ Q := fun s S => wpAny_execs_nil (.here' S .next h)
/-- the rest of a block -/
noncomputable def Seq (F : Fx) (E : Value → Shared → Prop) (rest : List Stmt) (Q : AF → Sig → Prop) (f : AF) (σ : Sig) : Prop := match f with
  | .next => WS F E (execs rest F.env) σ Q
  | .brk => Q .brk σ
  | .cont => Q .cont σ
  | .ret x => Q (.ret x) σ
theorem seq_next {rest : List Stmt} {Q : AF → Sig → Prop} (h : WS F E (execs rest F.env) σ Q) : Seq F E rest Q .next σ := h
theorem seq_brk {rest : List Stmt} {Q : AF → Sig → Prop} (h : Q .brk σ) : Seq F E rest Q .brk σ := h
theorem seq_cont {rest : List Stmt} {Q : AF → Sig → Prop} (h : Q .cont σ) : Seq F E rest Q .cont σ := h
theorem seq_ret {rest : List Stmt} {Q : AF → Sig → Prop} {x : AV} (h : Q (.ret x) σ) : Seq F E rest Q (.ret x) σ := h
theorem ws_cons {st : Stmt} {rest : List Stmt} {Q : AF → Sig → Prop} (h : WS F E (exec st F.env) σ (Seq F E rest Q)) : WS F E (execs (st :: rest) F.env) σ Q := by
  intro s S
  refine wpAny_execs_cons (h.then S ?_)
  rintro v s' x σ' r S' m q
  cases r with
  | next => exact wpAny_mono (q s' S') (fun _ _ p => p.up m) fun _ _ e => e
  | brk => exact ⟨.brk, σ', .brk, S', m, q⟩
  | cont => exact ⟨.cont, σ', .cont, S', m, q⟩
  | ret r => exact ⟨.ret _, σ', .ret r, S', m, q⟩
theorem St.name (S : St F σ s) {i : Nat} {x : Str} {av : AV} (hx : idxOf F.names x = some i) (hv : σ.vals[i]? = some (some av)) : ∃ m v, s.heap.Ns F.env.locals m ∧ m x = some v ∧ Rep s.heap av v :=
  let ⟨m, hn, k⟩ := S.ns; let ⟨v, e, r⟩ := k i x av (idxOf_eq hx) hv; ⟨m, v, hn, e, r⟩
theorem w_load {i : Nat} {x : Str} {av : AV} {Q : AV → Sig → Prop} (hx : idxOf F.names x = some i) (hv : σ.vals[i]? = some (some av)) (h : Q av σ) : WE F E (loadName F.env x) σ Q := by
  intro s S
  obtain ⟨m, v, hn, e, r⟩ := S.name hx hv
  exact wpAny_loadName_local S.ok.kind (S.ok.loc i x (idxOf_eq hx)).1 hn e (.here' S r h)
theorem we_name {i : Nat} {x : Str} {p : Pos} {av : AV} {Q : AV → Sig → Prop} (hx : idxOf F.names x = some i) (hv : σ.vals[i]? = some (some av)) (h : Q av σ) : WE F E (eval (.Name x p) F.env) σ Q :=
  fun s S => wpAny_Name (w_load hx hv h s S) (S.ok.loc i x (idxOf_eq hx)).2
/-- a name is bound -/
theorem St.put (S : St F σ s) {h' : Heap} {tk : Nat} {i : Nat} {x : Str} {v : Value} {av : AV} (hx : idxOf F.names x = some i) {m : Str → Option Value} (hv : ∀ (j : Nat) (y : Str) (av : AV), F.names[j]? = some y → σ.vals[j]? = some (some av) → ∃ v, m y = some v ∧ Rep s.heap av v)
    (hn : h'.Ns F.env.locals (fun y => if y = x then some v else m y)) (hL : ∃ o es ep, s.heap.get? F.env.locals = some o ∧ o.data = .dict es ep) (hs : Heap.SameBut F.env.locals s.heap h') (r : Rep s.heap av v) : St F ⟨σ.vals.set i (some av), σ.led⟩ { s with heap := h', toks := tk } ∧ Mono s.heap h' := by
  have mono : Mono s.heap h' := fun b c dd vs n hc e => by
    by_cases hb : b = F.env.locals
    · obtain ⟨o, es, ep, e', d⟩ := hL
      subst hb
      rw [e] at e'
      cases e'
      cases d
    · exact (hs.2 b hb).trans e
  refine ⟨⟨S.ok, ⟨_, hn, fun j y a hj hy => ?_⟩, fun p hp => (S.rep p hp).keep mono fun x e => ?_, S.nd, S.new, S.Lnew, fun b o e n => ?_, S.gens, S.os, fun b hb => ⟨(S.fr b hb).1, fun o e => ?_⟩, S.mb.trans mono⟩, mono⟩
  · by_cases hij : i = j
    · subst hij
      have : y = x := Option.some.inj (hj.symm.trans (idxOf_eq hx))
      subst this
      have hl : i < σ.vals.length := by
        have := (List.getElem?_eq_some_iff.mp hy).1
        simpa using this
      rw [List.getElem?_set_self hl] at hy
      cases hy
      exact ⟨v, by simp, r.mono mono⟩
    · rw [List.getElem?_set_ne hij] at hy
      obtain ⟨u, e, q⟩ := hv j y a hj hy
      refine ⟨u, ?_, q.mono mono⟩
      have : y ≠ x := fun e => by
        subst e
        have nd := S.ok.nd
        have h1 := List.getElem?_eq_some_iff.mp hj
        have h2 := List.getElem?_eq_some_iff.mp (idxOf_eq hx)
        have pr := List.pairwise_iff_getElem.mp nd
        rcases Nat.lt_or_gt_of_ne hij with q | q
        · exact pr _ _ h2.1 h1.1 q (h2.2.trans h1.2.symm)
        · exact pr _ _ h1.1 h2.1 q (h1.2.trans h2.2.symm)
      simp only [this, if_false]
      exact e
  · have : p.1 ≠ F.env.locals := fun q => S.Lnot (q ▸ List.mem_map_of_mem hp)
    exact (hs.2 _ this).trans e
  · refine (hs.2 b fun q => ?_).trans (S.keep b o e n)
    subst q
    rw [S.Lnew] at e; cases e
  · obtain ⟨sl, e'⟩ := (S.fr b hb).2 o e
    exact ⟨sl, (hs.2 b fun q => by subst q; rw [S.Lnew] at e; cases e).trans e'⟩
theorem w_store {i : Nat} {x : Str} {av : AV} {v : Value} {s : Shared} (S : St F σ s) {h : Heap} {Q : AF → Sig → Prop} {fl : Flow} (hx : idxOf F.names x = some i) (r : Rep s.heap av v) (m0 : Mono h s.heap) (hf : RepF h .next fl) (q : Q .next ⟨σ.vals.set i (some av), σ.led⟩) :
    wpAny (model pw F.w) F.A (storeName F.env x v) (fun _ => Post F RepF h Q .next) E s := by
  obtain ⟨m, hn, hv⟩ := S.ns
  have hn' := hn
  obtain ⟨o, es, ep, e, d, _⟩ := hn'
  refine wpAny_storeName_local (S.ok.loc i x (idxOf_eq hx)).1 hn (fun h' hn' hs => ?_) ?_
  · obtain ⟨S', mono⟩ := S.put (h' := h') (tk := s.toks + 1) hx hv hn' ⟨o, es, ep, e, d⟩ hs r
    exact ⟨.next, _, .next, S', m0.trans mono, q⟩
  · rw [S.ok.kind]; rfl
noncomputable abbrev SetQ (i : Nat) (Q : AF → Sig → Prop) (v : AV) (σ' : Sig) : Prop := Q .next ⟨σ'.vals.set i (some v), σ'.led⟩
noncomputable abbrev RetQ (Q : AF → Sig → Prop) (v : AV) (σ' : Sig) : Prop := Q (.ret v) σ'
theorem ws_assign {i : Nat} {x : Str} {p p' : Pos} {value : Expr} {Q : AF → Sig → Prop} (hx : idxOf F.names x = some i) (h : WE F E (eval value F.env) σ (SetQ i Q))
    (hs : swapsWith value (some (.Name x p')) p.line F.env = pure false := by with_unfolding_all rfl) : WS F E (exec (.Assign [.Name x p'] value p) F.env) σ Q := by
  intro s S
  refine wpAny_Assign_Name (h.then S ?_) hs
  rintro v s' av σ' r S' m q
  exact w_store S' hx r m .next q
inductive IfQ (F : Fx) (E : Value → Shared → Prop) (body orelse : List Stmt) (Q : AF → Sig → Prop) (b : Bool) (σ : Sig) : Prop where
  | mk (t : b = true → WS F E (execs body F.env) σ Q) (f : b = false → WS F E (execs orelse F.env) σ Q)
theorem ws_if {test : Expr} {body orelse : List Stmt} {p : Pos} {Q : AF → Sig → Prop} (h : WB F E (isTrue test F.env (eval test F.env)) σ (IfQ F E body orelse Q)) :
    WS F E (exec (.If test body orelse p) F.env) σ Q := by
  intro s S
  refine wpAny_If (h.then S ?_)
  rintro b s' b' σ' r S' m ⟨q1, q2⟩
  obtain rfl : b' = b := r
  cases b' with
  | true => exact wpAny_mono (q1 rfl s' S') (fun _ _ p => p.up m) fun _ _ e => e
  | false => exact wpAny_mono (q2 rfl s' S') (fun _ _ p => p.up m) fun _ _ e => e
theorem ws_return {e : Expr} {p : Pos} {Q : AF → Sig → Prop} (h : WE F E (eval e F.env) σ (RetQ Q)) : WS F E (exec (.Return (some e) p) F.env) σ Q := by
  intro s S
  refine wpAny_Return_some (h.then S ?_)
  rintro v s' av σ' r S' m q
  exact ⟨_, σ', .ret r, S', m, q⟩
theorem ws_break {p : Pos} {Q : AF → Sig → Prop} (h : Q .brk σ) : WS F E (exec (.Break p) F.env) σ Q := fun s S => wpAny_Break (.here' S .brk h)
theorem ws_continue {p : Pos} {Q : AF → Sig → Prop} (h : Q .cont σ) : WS F E (exec (.Continue p) F.env) σ Q := fun s S => wpAny_Continue (.here' S .cont h)
inductive Less (I : Nat → Sig → Prop) (n : Nat) (σ : Sig) : Prop where
  | mk (m : Nat) (h : m < n) (i : I m σ)
/-- the end of a turn of a while -/
noncomputable abbrev WEnd (I : Nat → Sig → Prop) (n : Nat) (Q : AF → Sig → Prop) (f : AF) (σ : Sig) : Prop := match f with
  | .next | .cont => Less I n σ
  | .brk => Q .next σ
  | .ret v => Q (.ret v) σ
inductive WhQ (F : Fx) (I : Nat → Sig → Prop) (n : Nat) (body : List Stmt) (Q : AF → Sig → Prop) (b : Bool) (σ : Sig) : Prop where
  | mk (t : b = true → WS F NoE (execs body F.env) σ (WEnd I n Q)) (f : b = false → Q .next σ)
/-- a while whose turns raise nothing: an invariant with a measure -/
theorem ws_while {test : Expr} {body : List Stmt} {p : Pos} {Q : AF → Sig → Prop} (I : Nat → Sig → Prop) (n : Nat) (h0 : I n σ)
    (turn : ∀ n σ, I n σ → WB F NoE (isTrue test F.env (eval test F.env)) σ (WhQ F I n body Q)) : WS F E (exec (.While test body [] p) F.env) σ Q := by
  intro s S
  refine wpAny_While (codeAny_whileLoop (fun n s' => ∃ σ', St F σ' s' ∧ Mono s.heap s'.heap ∧ I n σ') (fun n s₁ hI => ?_) n ⟨σ, S, .refl _, h0⟩)
  obtain ⟨σ₁, S₁, m₁, hI⟩ := hI
  refine wpAny_mono (turn n σ₁ hI s₁ S₁) ?_ fun _ _ e => e.elim
  rintro b s₂ ⟨b', σ₂, r, S₂, m₂, q1, q2⟩
  obtain rfl : b' = b := r
  cases b' with
  | false =>
    show wpAny _ _ (execs [] F.env) _ _ s₂
    exact wpAny_execs_nil ⟨.next, σ₂, .next, S₂, m₁.trans m₂, q2 rfl⟩
  | true =>
    show wpAny _ _ (execs body F.env) _ _ s₂
    refine wpAny_mono (q1 rfl s₂ S₂) ?_ fun _ _ e => e.elim
    rintro f s₃ ⟨f', σ₃, rf, S₃, m₃, q⟩
    have mm := m₁.trans (m₂.trans m₃)
    cases rf with
    | next => obtain ⟨k, hk, hq⟩ := q; exact ⟨k, hk, σ₃, S₃, mm, hq⟩
    | cont => obtain ⟨k, hk, hq⟩ := q; exact ⟨k, hk, σ₃, S₃, mm, hq⟩
    | brk => exact ⟨.next, σ₃, .next, S₃, mm, q⟩
    | ret r => exact ⟨_, σ₃, .ret r, S₃, mm, q⟩
end
end Mine
end
section
open PySem PySem.W PyProof.Rows PySem.Calls
set_option Elab.async false
set_option linter.unusedVariables false
set_option maxRecDepth 10000
namespace Mine

/-! ## names of the text and of the language -/
noncomputable def gtab : List (Str × Value) := [(⟨#[95,119,97,108,108]⟩, .ref 21), (⟨#[95,116,117,112,108,101,103,101,116,116,101,114]⟩, .ref 60), (⟨#[77,97,116,99,104]⟩, .ref 135), (⟨#[83,101,113,117,101,110,99,101,77,97,116,99,104,101,114]⟩, .ref 242), (⟨#[104,101,97,112,112,117,115,104]⟩, .ref 253), (⟨#[104,101,97,112,112,111,112]⟩, .ref 260), (⟨#[95,115,105,102,116,100,111,119,110]⟩, .ref 267), (⟨#[95,115,105,102,116,117,112]⟩, .ref 274), (⟨#[115,111,114,116,101,100,95,108,105,115,116,95,100,105,102,102,101,114,101,110,99,101]⟩, .ref 281), (⟨#[117,110,111,114,100,101,114,97,98,108,101,95,108,105,115,116,95,100,105,102,102,101,114,101,110,99,101]⟩, .ref 288), (⟨#[95,108,97,119,95,108,105,115,116,115]⟩, .ref 293), (⟨#[95,108,97,119,95,114,111,119]⟩, .ref 300), (⟨#[95,108,97,119,95,114,117,110,115]⟩, .ref 307), (⟨#[95,108,97,119,95,111,117,116,115,105,100,101]⟩, .ref 312), (⟨#[108,97,119]⟩, .ref 317)]
noncomputable def btab : List (Str × Value) := [(⟨#[108,101,110]⟩, .builtin "len"), (⟨#[115,117,109]⟩, .builtin "sum"), (⟨#[114,97,110,103,101]⟩, .type "range"), (⟨#[101,110,117,109,101,114,97,116,101]⟩, .type "enumerate"), (⟨#[108,105,115,116]⟩, .type "list"), (⟨#[115,101,116]⟩, .type "set"), (⟨#[109,97,112]⟩, .type "map"), (⟨#[116,117,112,108,101]⟩, .type "tuple"), (⟨#[116,121,112,101]⟩, .type "type"), (⟨#[105,115,115,117,98,99,108,97,115,115]⟩, .builtin "issubclass"), (⟨#[73,110,100,101,120,69,114,114,111,114]⟩, .type "IndexError"), (⟨#[86,97,108,117,101,69,114,114,111,114]⟩, .type "ValueError")]

theorem gtab_ok (P : Params) : (gtab.all fun p => decide (nsIn (K P) mainGlobals p.1 = some (some p.2))) = true := by kernel_rfl
theorem btab_ok (P : Params) : (btab.all fun p => decide (nsIn (K P) mainGlobals p.1 = some none) && decide (bootBuiltins p.1 = some p.2) && !decide (p.1 = ("__name__" : Str))) = true := by kernel_rfl
noncomputable def findS : List (Str × Value) → Str → Option Value
  | [], _ => none
  | p :: r, x => match strB p.1 x with
    | true => some p.2
    | false => findS r x
theorem findS_mem : ∀ {l : List (Str × Value)} {x : Str} {v : Value}, findS l x = some v → (x, v) ∈ l
  | [], _, _, h => by cases h
  | p :: r, x, v, h => by
    unfold findS at h
    cases q : strB p.1 x with
    | true => rw [q] at h; cases h; rw [← strB_eq q]; exact .head _
    | false => rw [q] at h; exact .tail _ (findS_mem h)
noncomputable def memS : List Str → Str → Bool
  | [], _ => false
  | a :: r, x => match strB a x with
    | true => true
    | false => memS r x
theorem memS_mem : ∀ {l : List Str} {x : Str}, memS l x = true → x ∈ l
  | [], _, h => by cases h
  | a :: r, x, h => by
    unfold memS at h
    cases q : strB a x with
    | true => rw [strB_eq q]; exact .head _
    | false => rw [q] at h; exact .tail _ (memS_mem h)

section
variable {F : Fx} {E : Value → Shared → Prop} {σ : Sig}
theorem we_glob {x : Str} {p : Pos} {v : Value} {Q : AV → Sig → Prop} (hm : memS F.globs x = true) (hv : findS gtab x = some v) (h : Q (.raw v) σ) : WE F E (eval (.Name x p) F.env) σ Q := by
  intro s S
  obtain ⟨hx, hd⟩ := S.ok.gk x (memS_mem hm)
  obtain ⟨mg, hg⟩ := S.ok.top.g
  have e := of_decide_eq_true (List.all_eq_true.mp (gtab_ok F.w.params) _ (findS_mem hv))
  refine Name_function_global S.ok.kind hx (loadGlobal_global (mg := mg) ?_ (mg_of S.ok.top.kin hg e) (.here' S (.raw v) h)) hd
  rw [S.ok.glob]
  exact hg.keeps S.topK
theorem we_blt {x : Str} {p : Pos} {v : Value} {Q : AV → Sig → Prop} (hm : memS F.globs x = true) (hv : findS btab x = some v) (h : Q (.raw v) σ) : WE F E (eval (.Name x p) F.env) σ Q := by
  intro s S
  obtain ⟨hx, hd⟩ := S.ok.gk x (memS_mem hm)
  obtain ⟨mg, hg⟩ := S.ok.top.g
  obtain ⟨mb, hb, hbb⟩ := S.ok.top.b
  have e := List.all_eq_true.mp (btab_ok F.w.params) _ (findS_mem hv)
  simp only [Bool.and_eq_true, decide_eq_true_eq, Bool.not_eq_true', decide_eq_false_iff_not] at e
  obtain ⟨⟨e1, e2⟩, e3⟩ := e
  refine Name_function_global S.ok.kind hx (loadGlobal_builtin (mg := mg) (mb := mb) ?_ (mg_none_of S.ok.top.kin hg e1) ?_ ((hbb x e3).trans e2) (.here' S (.raw v) h)) hd
  · rw [S.ok.glob]; exact hg.keeps S.topK
  · rw [S.ok.bi]; exact hb.keeps S.topK

/-! ## constants, operators -/
noncomputable abbrev OpQ2 (F : Fx) (E : Value → Shared → Prop) (op : Value → Value → Sem Value) (Q : AV → Sig → Prop) (x y : AV) (σ₂ : Sig) : Prop := WO2 F E Rep op x y σ₂ Q
noncomputable abbrev OpQ (F : Fx) (E : Value → Shared → Prop) (r : Expr) (op : Value → Value → Sem Value) (Q : AV → Sig → Prop) (x : AV) (σ₁ : Sig) : Prop := WE F E (eval r F.env) σ₁ (OpQ2 F E op Q x)
noncomputable abbrev NotQ (Q : Bool → Sig → Prop) (b : Bool) (σ' : Sig) : Prop := Q (!b) σ'
noncomputable abbrev TruQ (F : Fx) (E : Value → Shared → Prop) (Q : Bool → Sig → Prop) (x : AV) (σ' : Sig) : Prop := WO1 F E RB truthy x σ' Q
theorem we_int {i : Int} {k : Nat} {p : Pos} {Q : AV → Sig → Prop} (h : Q (.int i) σ) : WE F E (eval (.Constant (.int i) k p) F.env) σ Q := fun s S => wpAny_Constant_int (.here S (.int _ _) h)
theorem we_none {k : Nat} {p : Pos} {Q : AV → Sig → Prop} (h : Q .none σ) : WE F E (eval (.Constant .none k p) F.env) σ Q := fun s S _ _ _ => .here' S .none h
theorem we_bool {b : Bool} {k : Nat} {p : Pos} {Q : AV → Sig → Prop} (h : Q (.bool b) σ) : WE F E (eval (.Constant (.bool b) k p) F.env) σ Q := fun s S _ _ _ => .here' S (.bool b) h
theorem we_bin {l r : Expr} {op : Operator} {p : Pos} {Q : AV → Sig → Prop} (h : WE F E (eval l F.env) σ (OpQ F E r (binaryOp op) Q)) : WE F E (eval (.BinOp l op r p) F.env) σ Q := by
  intro s S
  refine wpAny_BinOp (h.then S ?_)
  rintro v s₁ x σ₁ r₁ S₁ m₁ h₁
  refine h₁.then S₁ ?_
  rintro u s₂ y σ₂ r₂ S₂ m₂ h₂
  exact wpAny_mono (h₂ s₂ v u S₂ (r₁.mono m₂) r₂) (fun _ _ q => q.up (m₁.trans m₂)) fun _ _ e => e
theorem we_cmp {l r : Expr} {op : CmpOp} {p : Pos} {Q : AV → Sig → Prop} (h : WE F E (eval l F.env) σ (OpQ F E r (compareOp op) Q))
    (hm : behindInMarks op r = false := by with_unfolding_all rfl) : WE F E (eval (.Compare l [op] [r] p) F.env) σ Q := by
  intro s S
  refine wpAny_Compare1 (h.then S ?_) hm
  rintro v s₁ x σ₁ r₁ S₁ m₁ h₁
  refine h₁.then S₁ ?_
  rintro u s₂ y σ₂ r₂ S₂ m₂ h₂
  exact wpAny_mono (h₂ s₂ v u S₂ (r₁.mono m₂) r₂) (fun _ _ q => q.up (m₁.trans m₂)) fun _ _ e => e
inductive AsB (Q : Bool → Sig → Prop) (z : AV) (σ : Sig) : Prop where
  | mk (b : Bool) (e : z = .bool b) (q : Q b σ)
/-- a comparison as a test: its answer is a bool -/
theorem wb_cmp {l r : Expr} {op : CmpOp} {p : Pos} {whole : Sem Value} {Q : Bool → Sig → Prop} (h : WE F E (eval l F.env) σ (OpQ F E r (compareOp op) (AsB Q)))
    (hm : behindInMarks op r = false := by with_unfolding_all rfl) : WB F E (isTrue (.Compare l [op] [r] p) F.env whole) σ Q := by
  intro s S
  refine wpAny_isTrue_Compare1 (h.then S ?_) hm
  rintro v s₁ x σ₁ r₁ S₁ m₁ h₁
  refine h₁.then S₁ ?_
  rintro u s₂ y σ₂ r₂ S₂ m₂ h₂
  refine wpAny_mono (h₂ s₂ v u S₂ (r₁.mono m₂) r₂) ?_ fun _ _ e => e
  rintro c s₃ ⟨z, σ₃, r₃, S₃, m₃, b, rfl, q⟩
  cases r₃
  exact wpAny_truthy_bool ⟨b, σ₃, rfl, S₃, m₁.trans (m₂.trans m₃), q⟩
theorem wb_not {x : Expr} {p : Pos} {whole : Sem Value} {Q : Bool → Sig → Prop} (h : WB F E (isTrue x F.env (eval x F.env)) σ (NotQ Q)) : WB F E (isTrue (.UnaryOp .Not x p) F.env whole) σ Q := by
  intro s S
  refine isTrue_not (h.then S ?_)
  rintro b s' b' σ' r S' m q
  obtain rfl : b' = b := r
  exact ⟨_, σ', rfl, S', m, q⟩
theorem wb_and_nil {p : Pos} {whole : Sem Value} {Q : Bool → Sig → Prop} (h : Q true σ) : WB F E (isTrue (.BoolOp .And [] p) F.env whole) σ Q := fun s S => isTrue_and_nil (.here' S rfl h)
theorem wb_or_nil {p : Pos} {whole : Sem Value} {Q : Bool → Sig → Prop} (h : Q false σ) : WB F E (isTrue (.BoolOp .Or [] p) F.env whole) σ Q := fun s S => isTrue_or_nil (.here' S rfl h)
inductive AndQ (F : Fx) (E : Value → Shared → Prop) (rest : List Expr) (p : Pos) (whole : Sem Value) (Q : Bool → Sig → Prop) (b : Bool) (σ : Sig) : Prop where
  | mk (t : b = true → WB F E (isTrue (.BoolOp .And rest p) F.env whole) σ Q) (f : b = false → Q false σ)
inductive OrQ (F : Fx) (E : Value → Shared → Prop) (rest : List Expr) (p : Pos) (whole : Sem Value) (Q : Bool → Sig → Prop) (b : Bool) (σ : Sig) : Prop where
  | mk (f : b = false → WB F E (isTrue (.BoolOp .Or rest p) F.env whole) σ Q) (t : b = true → Q true σ)
theorem wb_and {x : Expr} {rest : List Expr} {p : Pos} {whole : Sem Value} {Q : Bool → Sig → Prop} (h : WB F E (isTrue x F.env (eval x F.env)) σ (AndQ F E rest p whole Q)) :
    WB F E (isTrue (.BoolOp .And (x :: rest) p) F.env whole) σ Q := by
  intro s S
  refine isTrue_and (h.then S ?_)
  rintro b s' b' σ' r S' m ⟨q1, q2⟩
  obtain rfl : b' = b := r
  cases b' with
  | true => exact wpAny_mono (q1 rfl s' S') (fun _ _ p => p.up m) fun _ _ e => e
  | false => exact ⟨_, σ', rfl, S', m, q2 rfl⟩
theorem wb_or {x : Expr} {rest : List Expr} {p : Pos} {whole : Sem Value} {Q : Bool → Sig → Prop} (h : WB F E (isTrue x F.env (eval x F.env)) σ (OrQ F E rest p whole Q)) :
    WB F E (isTrue (.BoolOp .Or (x :: rest) p) F.env whole) σ Q := by
  intro s S
  refine isTrue_or (h.then S ?_)
  rintro b s' b' σ' r S' m ⟨q1, q2⟩
  obtain rfl : b' = b := r
  cases b' with
  | false => exact wpAny_mono (q1 rfl s' S') (fun _ _ p => p.up m) fun _ _ e => e
  | true => exact ⟨_, σ', rfl, S', m, q2 rfl⟩
/-- any other expression as a test -/
theorem wb_plain {e : Expr} {whole : Sem Value} {Q : Bool → Sig → Prop} (h : WE F E whole σ (TruQ F E Q))
    (he : isTrue e F.env whole = (do let v ← whole; standAt e.pos; holding [v] (truthy v)) := by with_unfolding_all rfl) : WB F E (isTrue e F.env whole) σ Q := by
  intro s S
  refine isTrue_plain (h.then S ?_) he
  rintro v s' x σ' r S' m q
  exact wpAny_mono (q s' v S' r) (fun _ _ p => p.up m) fun _ _ e => e

variable {i j : Int}
theorem o_add {Q : AV → Sig → Prop} (h : Q (.int (i + j)) σ) : WO2 F E Rep (binaryOp .Add) (.int i) (.int j) σ Q := by rintro s v u S ⟨⟩ ⟨⟩; exact add_int (.here S (.int _ _) h)
theorem o_sub {Q : AV → Sig → Prop} (h : Q (.int (i - j)) σ) : WO2 F E Rep (binaryOp .Sub) (.int i) (.int j) σ Q := by rintro s v u S ⟨⟩ ⟨⟩; exact sub_int (.here S (.int _ _) h)
theorem o_two {Q : AV → Sig → Prop} (h : Q (.int (2 * j)) σ) : WO2 F E Rep (binaryOp .Mult) (.int 2) (.int j) σ Q := by rintro s v u S ⟨⟩ ⟨⟩; exact mul_int (.here S (.int _ _) h) (PySem.IntMulOk.of_left (PySem.intBits_le_64 (by decide) (by decide)))
theorem o_shr1 {Q : AV → Sig → Prop} (h : Q (.int (i.fdiv 2)) σ) : WO2 F E Rep (binaryOp .RShift) (.int i) (.int 1) σ Q := by rintro s v u S ⟨⟩ ⟨⟩; exact rshift_int (by decide) (.here S (.int _ _) h)
theorem o_div3 {Q : AV → Sig → Prop} (h : Q (.int (i.fdiv 3)) σ) : WO2 F E Rep (binaryOp .FloorDiv) (.int i) (.int 3) σ Q := by rintro s v u S ⟨⟩ ⟨⟩; exact floordiv_int (by decide) (.here S (.int _ _) h)
theorem o_mod {Q : AV → Sig → Prop} (hj : j ≠ 0) (h : Q (.int (i.fmod j)) σ) : WO2 F E Rep (binaryOp .Mod) (.int i) (.int j) σ Q := by rintro s v u S ⟨⟩ ⟨⟩; exact mod_int' hj (.here S (.int _ _) h)
theorem o_lt {Q : AV → Sig → Prop} (h : Q (.bool (decide (i < j))) σ) : WO2 F E Rep (compareOp .Lt) (.int i) (.int j) σ Q := by rintro s v u S ⟨⟩ ⟨⟩; exact lt_int (.here' S (.bool _) h)
theorem o_gt {Q : AV → Sig → Prop} (h : Q (.bool (decide (j < i))) σ) : WO2 F E Rep (compareOp .Gt) (.int i) (.int j) σ Q := by rintro s v u S ⟨⟩ ⟨⟩; exact gt_int (.here' S (.bool _) h)
theorem o_ge {Q : AV → Sig → Prop} (h : Q (.bool (decide (j ≤ i))) σ) : WO2 F E Rep (compareOp .GtE) (.int i) (.int j) σ Q := by rintro s v u S ⟨⟩ ⟨⟩; exact ge_int (.here' S (.bool _) h)
theorem o_eq {Q : AV → Sig → Prop} (h : Q (.bool (i == j)) σ) : WO2 F E Rep (compareOp .Eq) (.int i) (.int j) σ Q := by rintro s v u S ⟨⟩ ⟨⟩; exact eq_int (.here' S (.bool _) h)
theorem o_ne {Q : AV → Sig → Prop} (h : Q (.bool (i != j)) σ) : WO2 F E Rep (compareOp .NotEq) (.int i) (.int j) σ Q := by rintro s v u S ⟨⟩ ⟨⟩; exact ne_int (.here' S (.bool _) h)
theorem o_isnone_none {Q : AV → Sig → Prop} (h : Q (.bool true) σ) : WO2 F E Rep (compareOp .Is) .none .none σ Q := by rintro s v u S ⟨⟩ ⟨⟩; exact is_none_none (.here' S (.bool _) h)
theorem o_isnone_int {Q : AV → Sig → Prop} (h : Q (.bool false) σ) : WO2 F E Rep (compareOp .Is) (.int i) .none σ Q := by rintro s v u S ⟨⟩ ⟨⟩; exact is_none_ne (by intro h; cases h) (.here' S (.bool _) h)
theorem o_isnone_ref {a : Addr} {Q : AV → Sig → Prop} (h : Q (.bool false) σ) : WO2 F E Rep (compareOp .Is) (.ref a) .none σ Q := by rintro s v u S ⟨⟩ ⟨⟩; exact is_none_ne (by intro h; cases h) (.here' S (.bool _) h)
theorem o_isnot_none {Q : AV → Sig → Prop} (h : Q (.bool false) σ) : WO2 F E Rep (compareOp .IsNot) .none .none σ Q := by rintro s v u S ⟨⟩ ⟨⟩; exact isnot_none_none (.here' S (.bool _) h)
theorem o_true_none {Q : Bool → Sig → Prop} (h : Q false σ) : WO1 F E RB truthy .none σ Q := by rintro s v S ⟨⟩; exact truthy_none (.here' S rfl h)
theorem o_true_bool {b : Bool} {Q : Bool → Sig → Prop} (h : Q b σ) : WO1 F E RB truthy (.bool b) σ Q := by rintro s v S ⟨⟩; exact wpAny_truthy_bool (.here' S rfl h)
end
end Mine
end
section
open PySem PySem.W PyProof.Rows PySem.Calls
set_option Elab.async false
set_option linter.unusedVariables false
set_option maxRecDepth 10000
namespace Mine

/-! ## calls -/
noncomputable def fnAds : List Addr := [253, 260, 267, 274, 281, 288, 293, 300, 307, 312, 317, 135, 242, 60]
theorem fn_keep (P : Params) : (fnAds.all fun a => keepIn (K P) (.ref a)) = true := by kernel_rfl
noncomputable def memN : List Addr → Addr → Bool
  | [], _ => false
  | a :: r, x => match Nat.beq a x with
    | true => true
    | false => memN r x
theorem memN_mem : ∀ {l : List Addr} {x : Addr}, memN l x = true → x ∈ l
  | [], _, h => by cases h
  | a :: r, x, h => by
    unfold memN at h
    cases q : Nat.beq a x with
    | true => rw [Nat.eq_of_beq_eq_true q]; exact .head _
    | false => rw [q] at h; exact .tail _ (memN_mem h)
inductive Callee : Value → Prop where
  | builtin (id : String) : Callee (.builtin id)
  | type (T : String) : Callee (.type T)
  | fn {a : Addr} : memN fnAds a = true → Callee (.ref a)
section
variable {F : Fx} {E : Value → Shared → Prop} {σ : Sig}
theorem wa_nil {p : Pos} {Q : List AV → Sig → Prop} (h : Q [] σ) : WL F E (spliced (backTo p (starEach [] F.env))) σ Q := fun s S => args_nil (.here' S .nil h)
noncomputable abbrev ConsQ (Q : List AV → Sig → Prop) (x : AV) (xs : List AV) (σ₂ : Sig) : Prop := Q (x :: xs) σ₂
noncomputable abbrev RestQ (F : Fx) (E : Value → Shared → Prop) (rest : List Expr) (p : Pos) (Q : List AV → Sig → Prop) (x : AV) (σ₁ : Sig) : Prop := WL F E (spliced (backTo p (starEach rest F.env))) σ₁ (ConsQ Q x)
noncomputable abbrev AppQ (F : Fx) (E : Value → Shared → Prop) (fv : Value) (Q : AV → Sig → Prop) (xs : List AV) (σ₂ : Sig) : Prop := WOL F E Rep (fun vs => call fv vs) xs σ₂ Q
noncomputable abbrev AppQ1 (F : Fx) (E : Value → Shared → Prop) (fv : Value) (Q : AV → Sig → Prop) (x : AV) (xs : List AV) (σ₂ : Sig) : Prop := WOL F E Rep (fun vs => call fv vs) (x :: xs) σ₂ Q
theorem wa_cons {e : Expr} {rest : List Expr} {p : Pos} {Q : List AV → Sig → Prop} (h : WE F E (eval e F.env) σ (RestQ F E rest p Q))
    (he : starEach (e :: rest) F.env = (false, eval e F.env) :: starEach rest F.env := by with_unfolding_all rfl) : WL F E (spliced (backTo p (starEach (e :: rest) F.env))) σ Q := by
  intro s S
  refine args_cons (h.then S ?_) he
  rintro v s₁ x σ₁ r₁ S₁ m₁ h₁
  refine wpAny_mono (h₁ s₁ S₁) ?_ fun _ _ e => e
  rintro vs s₂ ⟨xs, σ₂, r₂, S₂, m₂, q⟩
  exact ⟨_, σ₂, .cons (r₁.mono m₂) r₂, S₂, m₁.trans m₂, q⟩
theorem evalArgs_any {M : Model} {A : Around} {s : Shared} {f : Value} : ∀ {trees : List (Bool × Sem Value)} {Q : Args → Shared → Prop}, trees.any (·.1) = false → wpAny M A (spliced trees) (fun vs s' => Q ⟨vs, []⟩ s') E s → wpAny M A (evalArgs f true trees []) Q E s
  | [], Q, _, h => fun Γ p hΓ => evalArgs_nil3 (M := M) (A := A) (E := E) (Q := Q) (h Γ p hΓ) Γ p hΓ
  | (b, x) :: r, Q, hp, h => by
    cases b with
    | true => simp at hp
    | false => exact evalArgs_plain h
theorem callWith_any {p : Pos} {fv : Value} {first : List Value} {trees : List (Bool × Sem Value)} {s : Shared} {Q : Value → Shared → Prop} (c : Callee fv) (hp : trees.any (·.1) = false)
    (h : wpAny (model pw F.w) F.A (spliced trees) (fun vs s₁ => (K F.w.params).In s₁.heap ∧ wpAny (model pw F.w) F.A (call fv (first ++ vs)) Q E s₁) E s) : wpAny (model pw F.w) F.A (callWith p fv first trees []) Q E s := by
  cases c with
  | builtin id => exact callWith_builtin hp (evalArgs_any hp (wpAny_mono h (fun _ _ x => x.2) fun _ _ e => e))
  | type T => exact PySem.callWith_type hp (evalArgs_any hp (wpAny_mono h (fun _ _ x => x.2) fun _ _ e => e))
  | fn hm =>
    have hk := List.all_eq_true.mp (fn_keep F.w.params) _ (memN_mem hm)
    exact callWith_of (P := (K F.w.params).In) (by rw [hp]; rfl) (keeps_K hk) (evalArgs_any hp h)
inductive CallQ (F : Fx) (E : Value → Shared → Prop) (args : List Expr) (p : Pos) (Q : AV → Sig → Prop) (f : AV) (σ₁ : Sig) : Prop where
  | mk (fv : Value) (e : f = .raw fv) (c : Callee fv) (h : WL F E (spliced (backTo p (starEach args F.env))) σ₁ (AppQ F E fv Q))
theorem we_call {func : Expr} {args : List Expr} {p : Pos} {Q : AV → Sig → Prop} (h : WE F E (eval func F.env) σ (CallQ F E args p Q))
    (he : eval (.Call func args [] p) F.env = (do callWith p (← eval func F.env) [] (backTo p (starEach args F.env)) (backToKw p (keywordEach [] F.env))) := by with_unfolding_all rfl)
    (hp : (backTo p (starEach args F.env)).any (·.1) = false := by with_unfolding_all rfl) : WE F E (eval (.Call func args [] p) F.env) σ Q := by
  intro s S
  refine Call_ (h.then S ?_) he
  rintro f s₁ x σ₁ r₁ S₁ m₁ ⟨fv, rfl, c, h₁⟩
  cases r₁
  refine callWith_any (F := F) c hp (h₁.then S₁ ?_)
  rintro vs s₂ xs σ₂ r₂ S₂ m₂ h₂
  refine ⟨S₂.ok.top.kin.keeps S₂.topK, ?_⟩
  exact wpAny_mono (h₂ s₂ vs S₂ r₂) (fun _ _ q => q.up (m₁.trans m₂)) fun _ _ e => e

/-! ## methods of the language's own types -/
noncomputable def TypeB (F : Fx) (σ : Sig) (x : AV) (T : String) : Prop := ∀ s v, St F σ s → Rep s.heap x v → s.TypeIs v T ∧ ∀ a, v = .ref a → ∃ ob, s.heap.get? a = some ob ∧ ob.dict = none
theorem typeB_list {a : Addr} {l : List AV} (h : Has F σ a (.list l)) : TypeB F σ (.ref a) "list" := by
  rintro s v S ⟨⟩
  obtain ⟨vs, n, e, _⟩ := S.has h
  exact ⟨⟨_, e, rfl⟩, fun b q => by cases q; exact ⟨_, e, rfl⟩⟩
inductive MethQ (F : Fx) (E : Value → Shared → Prop) (T id : String) (args : List Expr) (p : Pos) (Q : AV → Sig → Prop) (x : AV) (σ₁ : Sig) : Prop where
  | mk (t : TypeB F σ₁ x T) (h : WL F E (spliced (backTo p (starEach args F.env))) σ₁ (AppQ1 F E (.builtin id) Q x))
theorem we_meth {o : Expr} {name : Str} {ap p : Pos} {args : List Expr} {Q : AV → Sig → Prop} (T id : String) (pa : PlainAttrs T) (slot : Slot T name id) (ty : typeOf (.builtin id) = pure (.type "method_descriptor"))
    (h : WE F E (eval o F.env) σ (MethQ F E T id args p Q))
    (hbase : attributeBase o name F.env (eval o F.env) = eval o F.env := by with_unfolding_all rfl)
    (hfew : ((backTo p (starEach args F.env)).all (fun x => !x.1) && (backToKw p (keywordEach [] F.env)).all (fun x => x.1.isSome)
      && decide (args.length + ([] : List Keyword).length + (if ([] : List Keyword).isEmpty then 0 else 1) < 30)) = true := by with_unfolding_all rfl)
    (hline : (ap.endLine == p.line) = true := by with_unfolding_all rfl) (hp : (backTo p (starEach args F.env)).any (·.1) = false := by with_unfolding_all rfl) :
    WE F E (eval (.Call (.Attribute o name ap) args [] p) F.env) σ Q := by
  intro s S
  refine wpAny_Call_method_late hbase hfew hline rfl (h.then S ?_)
  rintro v s₁ x σ₁ r₁ S₁ m₁ ⟨tb, h₁⟩
  obtain ⟨t1, t2⟩ := tb s₁ v S₁ r₁
  refine ⟨T, id, pa, slot, ty, t1, t2, ?_⟩
  refine callWith_any (F := F) (.builtin id) hp (h₁.then S₁ ?_)
  rintro vs s₂ xs σ₂ r₂ S₂ m₂ h₂
  refine ⟨S₂.ok.top.kin.keeps S₂.topK, ?_⟩
  exact wpAny_mono (h₂ s₂ (v :: vs) S₂ (.cons (r₁.mono m₂) r₂)) (fun _ _ q => q.up (m₁.trans m₂)) fun _ _ e => e
end

/-! ## lists -/
theorem RepL.inv1 {h : Heap} {x : AV} {vs : List Value} (r : RepL h [x] vs) : ∃ v, vs = [v] ∧ Rep h x v := by
  cases r with | cons r1 r => cases r; exact ⟨_, rfl, r1⟩
theorem RepL.inv2 {h : Heap} {x y : AV} {vs : List Value} (r : RepL h [x, y] vs) : ∃ v u, vs = [v, u] ∧ Rep h x v ∧ Rep h y u := by
  cases r with | cons r1 r => obtain ⟨u, rfl, r2⟩ := r.inv1; exact ⟨_, _, rfl, r1, r2⟩
theorem RepL.inv3 {h : Heap} {x y z : AV} {vs : List Value} (r : RepL h [x, y, z] vs) : ∃ v u t, vs = [v, u, t] ∧ Rep h x v ∧ Rep h y u ∧ Rep h z t := by
  cases r with | cons r1 r => obtain ⟨u, t, rfl, r2, r3⟩ := r.inv2; exact ⟨_, _, _, rfl, r1, r2, r3⟩
theorem RepL.snoc {h : Heap} {x : AV} {v : Value} (r : Rep h x v) : ∀ {l : List AV} {vs : List Value}, RepL h l vs → RepL h (l ++ [x]) (vs ++ [v])
  | _, _, .nil => .cons r .nil
  | _, _, .cons q k => .cons q (RepL.snoc r k)
theorem RepL.append {h : Heap} {l' : List AV} {vs' : List Value} (r : RepL h l' vs') : ∀ {l : List AV} {vs : List Value}, RepL h l vs → RepL h (l ++ l') (vs ++ vs')
  | _, _, .nil => r
  | _, _, .cons q k => .cons q (RepL.append r k)
section
variable {F : Fx} {E : Value → Shared → Prop} {σ : Sig}
theorem not_imm_list : ¬ Imm (.type "list") := by rintro (h | h) <;> simp at h
theorem St.listUpd {s : Shared} (S : St F σ s) {a : Addr} {l l' : List AV} {led' : List (Addr × AO)} (u : Upd a (.list l) (.list l') σ.led led') {vs vs' : List Value} {n : Nat} (ho : s.heap.get? a = some (listO vs n)) (f : Array Value → Array Value) (he : f vs.toArray = vs'.toArray)
    (hr : ∀ h', Mono s.heap h' → RepL h' l' vs') {tk : Nat} : St F ⟨σ.vals, led'⟩ { s with heap := s.heap.update a (Obj.mapSeq f), toks := tk } ∧ Mono s.heap (s.heap.update a (Obj.mapSeq f)) := by
  have hs : Heap.SameBut a s.heap (s.heap.update a (Obj.mapSeq f)) := Heap.SameBut.update ..
  have mono : Mono s.heap (s.heap.update a (Obj.mapSeq f)) := fun b c dd xs k hc e => by
    by_cases hb : b = a
    · subst hb
      rw [ho] at e
      cases e
      exact absurd hc not_imm_list
    · exact (hs.2 b hb).trans e
  have q := PySem.IsL.update ho f
  rw [he] at q
  exact ⟨S.upd u (fun b x e nb => (hs.2 b nb).trans e) mono ⟨vs', _, q, hr _ mono⟩, mono⟩
theorem o_item {value slice : Expr} {a : Addr} {l : List AV} {k : Int} {x : AV} {Q : AV → Sig → Prop} (ha : Has F σ a (.list l)) (h0 : 0 ≤ k) (hfit : k < 2 ^ 63) (hx : l[k.toNat]? = some x) (h : Q x σ)
    (hs : ∀ u, subscripted slice false (.ref a) (.int k u) = operate [.ref a, .int k u] (getItem (.ref a) (.int k u)) := by intro u; with_unfolding_all rfl) : WO2 F E Rep (subscriptTail value slice) (.ref a) (.int k) σ Q := by
  rintro s v u S ⟨⟩ ⟨⟩
  obtain ⟨vs, n, e, r⟩ := S.has ha
  obtain ⟨y, hy, ry⟩ := r.some hx
  have hl : s.heap.IsList a vs.toArray := PySem.IsL.isList e
  exact tail_any hl.typeIs slot_list_getitem.lookup (wpAny_getItem_list hl h0 hfit (by simpa using hy) (.here' S ry h)) (hs _)
theorem we_sub {value slice : Expr} {p : Pos} {Q : AV → Sig → Prop} (h : WE F E (eval value F.env) σ (OpQ F E slice (subscriptTail value slice) Q)) : WE F E (eval (.Subscript value slice p) F.env) σ Q := by
  intro s S
  refine Subscript_ (h.then S ?_)
  rintro v s₁ x σ₁ r₁ S₁ m₁ h₁
  refine h₁.then S₁ ?_
  rintro u s₂ y σ₂ r₂ S₂ m₂ h₂
  exact wpAny_mono (h₂ s₂ v u S₂ (r₁.mono m₂) r₂) (fun _ _ q => q.up (m₁.trans m₂)) fun _ _ e => e
noncomputable abbrev SetIQ (F : Fx) (E : Value → Shared → Prop) (Q : AF → Sig → Prop) (x y z : AV) (σ₃ : Sig) : Prop := WOL F E (fun _ (_ _ : Unit) => True) (fun vs => match vs with | [ov, iv, v] => setItem ov iv v | _ => throw .none) [y, z, x] σ₃ fun _ σ₄ => Q .next σ₄
noncomputable abbrev SetIQ2 (F : Fx) (E : Value → Shared → Prop) (i : Expr) (Q : AF → Sig → Prop) (x y : AV) (σ₂ : Sig) : Prop := WE F E (eval i F.env) σ₂ (SetIQ F E Q x y)
noncomputable abbrev SetIQ1 (F : Fx) (E : Value → Shared → Prop) (o i : Expr) (Q : AF → Sig → Prop) (x : AV) (σ₁ : Sig) : Prop := WE F E (eval o F.env) σ₁ (SetIQ2 F E i Q x)
theorem ws_setitem {value o i : Expr} {p p' : Pos} {Q : AF → Sig → Prop} (h : WE F E (eval value F.env) σ (SetIQ1 F E o i Q))
    (hs : swapsWith value (some (.Subscript o i p')) p.line F.env = pure false := by with_unfolding_all rfl) : WS F E (exec (.Assign [.Subscript o i p'] value p) F.env) σ Q := by
  intro s S
  refine wpAny_Assign_Subscript (h.then S ?_) hs
  rintro v s₁ x σ₁ r₁ S₁ m₁ h₁
  refine h₁.then S₁ ?_
  rintro ov s₂ y σ₂ r₂ S₂ m₂ h₂
  refine h₂.then S₂ ?_
  rintro iv s₃ z σ₃ r₃ S₃ m₃ h₃
  refine wpAny_mono (h₃ s₃ [ov, iv, v] S₃ (.cons (r₂.mono m₃) (.cons r₃ (.cons ((r₁.mono m₂).mono m₃) .nil)))) ?_ fun _ _ e => e
  rintro _ s₄ ⟨_, σ₄, _, S₄, m₄, q⟩
  exact ⟨.next, σ₄, .next, S₄, m₁.trans (m₂.trans (m₃.trans m₄)), q⟩
theorem o_setitem {a : Addr} {l : List AV} {k : Int} {x : AV} {led' : List (Addr × AO)} {Q : Unit → Sig → Prop} (u : Upd a (.list l) (.list (l.set k.toNat x)) σ.led led') (h0 : 0 ≤ k) (hfit : k < 2 ^ 63) (hk : k < l.length) (h : Q () ⟨σ.vals, led'⟩) :
    WOL F E (fun _ (_ _ : Unit) => True) (fun vs => match vs with | [ov, iv, v] => setItem ov iv v | _ => throw .none) [.ref a, .int k, x] σ Q := by
  rintro s vs S r
  obtain ⟨_, _, v, rfl, r1, r2, r3⟩ := r.inv3
  cases r1; cases r2
  obtain ⟨ws, n, e, rl⟩ := S.has (.inl u.mem)
  have hlen := rl.length
  show wpAny _ _ (setItem _ _ _) _ _ _
  refine ki_setAt (n := n) e h0 hfit (by rw [List.size_toArray, ← hlen]; exact hk) ?_
  have key : ∀ h', Mono s.heap h' → RepL h' (l.set k.toNat x) (ws.set k.toNat v) := fun h' mn => by
    refine RepL.of_get (by simp [hlen]) fun i y z hy hz => ?_
    by_cases hi : k.toNat = i
    · subst hi
      have h1 : k.toNat < l.length := by walk_at "om"
      rw [List.getElem?_set_self h1] at hy
      rw [List.getElem?_set_self (by walk_at "om")] at hz
      cases hy; cases hz
      exact r3.mono mn
    · rw [List.getElem?_set_ne hi] at hy hz
      exact (rl.get hy hz).mono mn
  obtain ⟨S', mono⟩ := S.listUpd (tk := s.toks) u (vs' := ws.set k.toNat v) e (·.setIfInBounds k.toNat v) (by apply Array.toList_inj.mp; simp) key
  exact ⟨(), _, trivial, S', mono, h⟩
theorem o_append {a : Addr} {l : List AV} {x : AV} {led' : List (Addr × AO)} {Q : AV → Sig → Prop} (u : Upd a (.list l) (.list (l ++ [x])) σ.led led') (hsz : l.length ≤ sizeLine) (h : Q .none ⟨σ.vals, led'⟩) :
    WOL F E Rep (fun vs => call (.builtin "list.append") vs) [.ref a, x] σ Q := by
  rintro s vs S r
  obtain ⟨_, v, rfl, r1, r2⟩ := r.inv2
  cases r1
  obtain ⟨ws, n, e, rl⟩ := S.has (.inl u.mem)
  refine append_at e (fun h' hs ho' => ?_) (by rw [List.size_toArray, ← rl.length]; exact hsz)
  have mono : Mono s.heap h' := fun b c dd xs k hc e' => by
    by_cases hb : b = a
    · subst hb; rw [e] at e'; cases e'; exact absurd hc not_imm_list
    · exact (hs.2 b hb).trans e'
  refine ⟨.none, _, .none, S.upd (tk := s.toks) u (fun b y e' nb => (hs.2 b nb).trans e') mono ⟨ws ++ [v], n + 1, ?_, ?_⟩, mono, h⟩
  · rw [ho']; simp [listO]
  · exact RepL.snoc (r2.mono mono) (rl.mono mono)
theorem o_pop {a : Addr} {l : List AV} {x : AV} {led' : List (Addr × AO)} {Q : AV → Sig → Prop} (u : Upd a (.list (l ++ [x])) (.list l) σ.led led') (hsz : l.length + 1 ≤ sizeLine) (h : Q x ⟨σ.vals, led'⟩) :
    WOL F E Rep (fun vs => call (.builtin "list.pop") vs) [.ref a] σ Q := by
  rintro s vs S r
  obtain ⟨_, rfl, r1⟩ := r.inv1
  cases r1
  obtain ⟨ws, n, e, rl⟩ := S.has (.inl u.mem)
  have hlen : l.length + 1 = ws.length := by have := rl.length; simpa using this
  obtain ⟨y, hy, ry⟩ := rl.some (i := l.length) (x := x) (by simp)
  have hy' : ws.toArray[ws.toArray.size - 1]? = some y := by
    have : ws.toArray.size - 1 = l.length := by rw [List.size_toArray]; walk_at "om"
    rw [this]; simpa using hy
  refine call_meets PySem.F.slot_list_pop ⟨_, e, rfl⟩ PySem.F.entry_list_pop (PySem.F.args_list_pop_1 _) (PySem.MeetsSeq.list_pop_last a _ n y hy' (by rw [List.size_toArray]; walk_at "om")) ⟨e, ?_⟩
  have key : ∀ h', Mono s.heap h' → RepL h' l ws.dropLast := fun h' mn => by
    refine RepL.of_get (by simp; walk_at "om") fun i y z hy hz => ?_
    have hi : i < l.length := (List.getElem?_eq_some_iff.mp hy).1
    refine (rl.get (i := i) (by rw [List.getElem?_append_left hi]; exact hy) ?_).mono mn
    rw [List.getElem?_dropLast] at hz
    split at hz
    · exact hz
    · cases hz
  have cut : ws.toArray.eraseIdxIfInBounds (ws.toArray.size - 1) = ws.dropLast.toArray := by
    have hk : ws.toArray.size - 1 = ws.length - 1 := by rw [List.size_toArray]
    rw [hk]
    apply Array.toList_inj.mp
    unfold Array.eraseIdxIfInBounds
    rw [dif_pos (by rw [List.size_toArray]; walk_at "om"), Array.toList_eraseIdx]
    simp only [List.dropLast_eq_take]
    rw [List.eraseIdx_eq_take_drop_succ]
    have : ws.length - 1 + 1 = ws.length := by walk_at "om"
    rw [this]
    simp
  obtain ⟨S', mono⟩ := S.listUpd (tk := s.toks) u (vs' := ws.dropLast) e (fun xs => xs.eraseIdxIfInBounds (ws.toArray.size - 1)) cut key
  exact ⟨x, _, ry.mono mono, S', mono, h⟩
theorem o_len {a : Addr} {l : List AV} {Q : AV → Sig → Prop} (ha : Has F σ a (.list l)) (hfit : l.length ≤ sizeLine) (h : Q (.int l.length) σ) : WOL F E Rep (fun vs => call (.builtin "len") vs) [.ref a] σ Q := by
  rintro s vs S r
  obtain ⟨_, rfl, r1⟩ := r.inv1
  cases r1
  obtain ⟨ws, n, e, rl⟩ := S.has ha
  refine Calls.call_len_list (PySem.IsL.isList e) ?_ ?_
  · rw [List.size_toArray, ← rl.length]
    have : sizeLine = 16777216 := rfl
    walk_at "om"
  · rw [List.size_toArray, ← rl.length]
    exact .here S (.int _ _) h
theorem o_true_list {a : Addr} {l : List AV} {Q : Bool → Sig → Prop} (ha : Has F σ a (.list l)) (hfit : l.length ≤ sizeLine) (h : Q (!l.isEmpty) σ) : WO1 F E RB truthy (.ref a) σ Q := by
  rintro s v S ⟨⟩
  obtain ⟨ws, n, e, rl⟩ := S.has ha
  refine wpAny_truthy_list (PySem.IsL.isList e) ?_ ?_
  · rw [List.size_toArray, ← rl.length]
    have : sizeLine = 16777216 := rfl
    walk_at "om"
  · have : (!ws.toArray.isEmpty) = !l.isEmpty := by cases rl <;> simp
    rw [this]
    exact .here S rfl h
end
end Mine
end
section
open PySem PySem.W PyProof.Rows PySem.Calls
set_option Elab.async false
set_option linter.unusedVariables false
set_option maxRecDepth 10000
namespace Mine

/-! ## a call of a def of the text -/
/-- the room for a call -/
structure Cx (w : World) (hT : Heap) (A : Around) (s : Shared) (k : Nat) : Prop where
  top : Gnd w hT
  ht : ∀ b o, hT.get? b = some o → s.heap.get? b = some o
  hh : A.handled = none
  dep : A.depth + k ≤ 900
  un : A.units + 20 * k ≤ 9000

/-- what a call hands back -/
noncomputable def Ret (w : World) (s : Shared) (mods : List Addr) (Qf : AV → List (Addr × AO) → Prop) : Result → Shared → Prop := fun r s' =>
  ∃ v x led', r = .ok (.ret v) ∧ Rep s'.heap x v ∧ (∀ p ∈ led', RepO w s'.heap p.1 p.2) ∧ (led'.map (·.1)).Nodup ∧ (∀ a ∈ led'.map (·.1), a ∈ mods ∨ s.heap.get? a = none) ∧
    (∀ b o, s.heap.get? b = some o → b ∉ mods → s'.heap.get? b = some o) ∧ Mono s.heap s'.heap ∧ s'.gens = s.gens ∧ s'.os = s.os ∧ Qf x led'

/-- the checks of a def's scope -/
noncomputable def scopeOk (sc : Scope) (names globs : List Str) : Bool :=
  (match sc.kind with | .function => true | _ => false) && names.all (fun x => decide (sc.names.lookup x = some .local) && !(x == ("__debug__" : Str))) && decide names.Nodup &&
    globs.all (fun x => decide (sc.names.lookup x = some .globalImplicit) && !(x == ("__debug__" : Str))) && sc.names.all (fun x => !decide (x.2 = .cell)) && !sc.isCoroutine && !sc.isGenerator
structure Def where
  fa : Addr
  fd : FuncData
  body : List Stmt
  names : List Str
  globs : List Str
structure Def.Ok (d : Def) : Prop where
  obj : ∀ P, ∃ c dd sl, (K P).lookup d.fa = some ⟨c, dd, .func d.fd, sl⟩
  body : d.fd.body = .stmts d.body
  code : ∀ P, codeIn (K P) d.fd.code d.fd.qualname = true
  scope : scopeOk d.fd.scope d.names d.globs = true
  glob : d.fd.globals = 3
  bi : d.fd.builtins = 0

noncomputable abbrev Def.frame (d : Def) (w : World) (hT h₀ : Heap) (mods : List Addr) (L : Addr) (A : Around) (g : Array GenState) (os : OsState) (k : Nat) : Fx :=
  { w, hT, h₀, mods, env := callEnv d.fd L d.fa, names := d.names, globs := d.globs, A := A.deeper (callEnv d.fd L d.fa), g, os, k }
/-- what the def's end says -/
noncomputable def EndF (Qf : AV → List (Addr × AO) → Prop) : AF → Sig → Prop := fun f σ => match f with
  | .ret x => Qf x σ.led
  | .next => Qf .none σ.led
  | _ => False

theorem lookup_local {sc : Scope} {names : List Str} {x : Str} {i : Nat} (h : names.all (fun x => decide (sc.names.lookup x = some .local) && !(x == ("__debug__" : Str))) = true) (e : names[i]? = some x) :
    sc.names.lookup x = some .local ∧ (x == ("__debug__" : Str)) = false := by
  have := List.all_eq_true.mp h x (List.mem_of_getElem? e)
  simp only [Bool.and_eq_true, decide_eq_true_eq, Bool.not_eq_true'] at this
  exact this

theorem enter {d : Def} (D : d.Ok) {w : World} {hT : Heap} {A : Around} {s : Shared} {k : Nat} (C : Cx w hT A s (k + 1)) {vs : List Value} {binds : List (Str × Value)} (mods : List Addr) (led₀ : List (Addr × AO)) (vals : List (Option AV)) {Qf : AV → List (Addr × AO) → Prop}
    (hbind : BindsTo s d.fd ⟨vs, []⟩ binds) (hloc : ∀ y ∈ binds, y.1 ∈ d.names)
    (hvals : ∀ (i : Nat) (x : Str) (av : AV), d.names[i]? = some x → vals[i]? = some (some av) → ∃ v, binds.reverse.lookup x = some v ∧ Rep s.heap av v)
    (hm : ∀ a ∈ mods, hT.get? a = none) (hmi : ∀ a ∈ mods, ∀ c dd vs n, Imm c → s.heap.get? a ≠ some ⟨c, dd, .seq vs n, #[]⟩)
    (hled : ∀ p ∈ led₀, p.1 ∈ mods ∧ RepO w s.heap p.1 p.2) (hnd : (led₀.map (·.1)).Nodup)
    (hbody : ∀ L, s.heap.get? L = none → WS (d.frame w hT s.heap mods L A s.gens s.os k) NoE (execs d.body (callEnv d.fd L d.fa)) ⟨vals, led₀⟩ (EndF Qf)) :
    codeAny (model pw w) A (.call (.ref d.fa) ⟨vs, []⟩) (Ret w s mods Qf) s := by
  obtain ⟨c, dd, sl, ho⟩ := D.obj w.params
  have X := C.top.kin.keeps C.ht
  have sc := D.scope
  unfold scopeOk at sc
  simp only [Bool.and_eq_true, Bool.not_eq_true'] at sc
  obtain ⟨⟨⟨⟨⟨⟨s1, s2⟩, s3⟩, s4⟩, s5⟩, s6⟩, s7⟩ := sc
  have hkind : d.fd.scope.kind = .function := by
    cases q : d.fd.scope.kind <;> simp_all
  have hL : s.heap.get? s.heap.objs.size = none := by
    cases q : s.heap.get? s.heap.objs.size with
    | none => rfl
    | some o => exact absurd (Heap.lt_size q) (Nat.lt_irrefl _)
  refine codeAny_call_def (fd := d.fd) (body := d.body) (binds := binds) (by have := C.dep; have : recursionLimit = 1000 := rfl; walk_at "om") (X _ _ ho) rfl (C.top.nolimit.keeps C.ht) (codeRec_of X (D.code _)) D.body hbind
    (fun x hx => by have := List.all_eq_true.mp s5 x hx; simpa using this)
    (fun y hy => by
      obtain ⟨i, hi⟩ := List.getElem?_of_mem (hloc y hy)
      exact (lookup_local s2 hi).1) (fun h₁ hns hk₁ => ?_) s6 s7 hkind
  have mono₁ : Mono s.heap h₁ := .of_keep hk₁
  have okF : FxOk (d.frame w hT s.heap mods s.heap.objs.size A s.gens s.os k) := {
    kind := hkind
    loc := fun i x e => lookup_local s2 e
    nd := of_decide_eq_true s3
    gk := fun x hx => by
      have := List.all_eq_true.mp s4 x hx
      simp only [Bool.and_eq_true, decide_eq_true_eq, Bool.not_eq_true'] at this
      exact this
    glob := D.glob
    bi := D.bi
    hh := C.hh
    dep := by show A.depth + 1 + k ≤ 900; have := C.dep; walk_at "om"
    un := by show A.units + 3 + 20 * k ≤ 9000; have := C.un; walk_at "om"
    top := C.top
    ht := C.ht
    hm := hm
    hmi := hmi
    fsm := fun _ h => nomatch h }
  have S : St (d.frame w hT s.heap mods s.heap.objs.size A s.gens s.os k) ⟨vals, led₀⟩ { s with heap := h₁, toks := s.toks + binds.length } := {
    ok := okF
    ns := ⟨_, hns, fun i x av a b => let ⟨v, e, r⟩ := hvals i x av a b; ⟨v, e, r.mono mono₁⟩⟩
    rep := fun p hp => (hled p hp).2.keep mono₁ fun x e => hk₁ _ _ e
    nd := by
      refine List.nodup_cons.mpr ⟨fun q => ?_, hnd⟩
      obtain ⟨p, hp, e⟩ := List.mem_map.mp q
      obtain ⟨x, ex⟩ := (hled p hp).2.some
      have e' : p.1 = s.heap.objs.size := e
      rw [e', hL] at ex
      cases ex
    new := fun a ha => by
      obtain ⟨p, hp, rfl⟩ := List.mem_map.mp ha
      exact .inr (hled p hp).1
    Lnew := hL
    keep := fun b o e n => hk₁ b o e
    gens := rfl
    os := rfl
    fr := fun _ h => nomatch h
    mb := mono₁ }
  refine wpAny_mono (hbody _ hL _ S) ?_ fun _ _ e => e.elim
  rintro f s' ⟨f', σ', rf, S', m', q⟩
  have fin : ∀ v x, Rep s'.heap x v → Qf x σ'.led → Ret w s mods Qf (.ok (.ret v)) s' := fun v x r q =>
    ⟨v, x, σ'.led, rfl, r, S'.rep, (List.nodup_cons.mp S'.nd).2, fun a ha => (S'.new a ha).elim .inr .inl, S'.keep, S'.mono₀, S'.gens, S'.os, q⟩
  cases rf with
  | next => exact fin _ _ .none q
  | ret r => exact fin _ _ r q
  | brk => exact q.elim
  | cont => exact q.elim

section
variable {F : Fx} {E : Value → Shared → Prop} {σ : Sig}
theorem St.cx {s : Shared} {k : Nat} (S : St F σ s) (hk : k ≤ F.k) (hd : F.hd = none := by rfl) : Cx F.w F.hT F.A s k :=
  ⟨S.ok.top, S.topK, S.ok.hh.trans hd, by have := S.ok.dep; walk_at "om", by have := S.ok.un; walk_at "om"⟩
theorem St.cxUp {s : Shared} (S : St F σ s) (k : Nat) (hk : k ≤ F.k := by exact Nat.le_of_ble_eq_true rfl) (hd : F.hd = none := by rfl) : Cx F.w F.hT F.A s k := S.cx hk hd
theorem St.not_hT {s : Shared} (S : St F σ s) {a : Addr} (h : a ∈ σ.led.map (·.1)) : F.hT.get? a = none := by
  cases q : F.hT.get? a with
  | none => rfl
  | some o =>
    rcases S.new a h with z | z
    · rw [S.ok.ht a o q] at z; cases z
    · rw [S.ok.hm a z] at q; cases q
/-- a call by its contract -/
theorem wol_call {fv : Value} {xs : List AV} {mods : List Addr} {Qf : AV → List (Addr × AO) → Prop} {Q : AV → Sig → Prop} (hmods : ∀ a ∈ mods, a ∈ σ.led.map (·.1))
    (c : ∀ s vs, St F σ s → RepL s.heap xs vs → codeAny (model pw F.w) F.A (.call fv ⟨vs, []⟩) (Ret F.w s mods Qf) s)
    (k : ∀ x led', Qf x led' → (led'.map (·.1)).Nodup → (∀ a ∈ led'.map (·.1), a ∈ mods ∨ a ∉ σ.led.map (·.1)) → ∃ led₂, (∀ p ∈ led₂, p ∈ led' ∨ (p ∈ σ.led ∧ p.1 ∉ mods)) ∧ (led₂.map (·.1)).Nodup ∧ Q x ⟨σ.vals, led₂⟩) :
    WOL F E Rep (fun vs => call fv vs) xs σ Q := by
  intro s vs S r
  refine wpAny_call (codeAny_mono (c s vs S r) ?_)
  rintro r s' ⟨v, x, led', rfl, rx, h1, h2, h3, h4, h5, h6, h7, q⟩
  have h3' : ∀ a ∈ led'.map (·.1), a ∈ mods ∨ a ∉ σ.led.map (·.1) := fun a ha => (h3 a ha).imp id fun z hl => by
    obtain ⟨p, hp, rfl⟩ := List.mem_map.mp hl
    obtain ⟨o, e⟩ := (S.rep p hp).some
    rw [e] at z; cases z
  obtain ⟨led₂, k1, k2, k3⟩ := k x led' q h2 h3'
  have S' : St F ⟨σ.vals, led₂⟩ { s with heap := s'.heap, toks := s'.toks } := by
    refine S.go (h' := s'.heap) mods led₂ h4 hmods h5 (fun p hp => ?_) k2 fun a ha => ?_
    · rcases k1 p hp with z | ⟨z, n⟩
      · exact h1 p z
      · exact (S.rep p z).keep h5 fun x e => h4 _ _ e n
    · obtain ⟨p, hp, rfl⟩ := List.mem_map.mp ha
      rcases k1 p hp with z | ⟨z, _⟩
      · rcases h3 p.1 (List.mem_map_of_mem z) with y | y
        · exact .inl (hmods _ y)
        · exact .inr y
      · exact .inl (List.mem_map_of_mem z)
  have S'' : St F ⟨σ.vals, led₂⟩ s' := ⟨S'.ok, S'.ns, S'.rep, S'.nd, S'.new, S'.Lnew, S'.keep, h6.trans S.gens, h7.trans S.os, S'.fr, S'.mb⟩
  exact ⟨x, _, rx, S'', h5, k3⟩
/-- a call that changes one list -/
theorem wol_call_upd {fv : Value} {xs : List AV} {a : Addr} {o o' : AO} {led' : List (Addr × AO)} {x : AV} {Q : AV → Sig → Prop} (u : Upd a o o' σ.led led')
    (c : ∀ s vs, St F σ s → RepL s.heap xs vs → codeAny (model pw F.w) F.A (.call fv ⟨vs, []⟩) (Ret F.w s [a] fun y led => y = x ∧ led = [(a, o')]) s) (h : Q x ⟨σ.vals, led'⟩) :
    WOL F E Rep (fun vs => call fv vs) xs σ Q := by
  intro s vs S r
  have nd := (List.nodup_cons.mp S.nd).2
  refine wol_call (Q := Q) (mods := [a]) (fun b hb => by rw [List.mem_singleton.mp hb]; exact List.mem_map_of_mem u.mem) c ?_ s vs S r
  rintro y led ⟨rfl, rfl⟩ _ _
  refine ⟨led', fun p hp => ?_, by rw [u.keys]; exact nd, h⟩
  rcases u.mem' nd p hp with rfl | ⟨z, n⟩
  · exact .inl (.head _)
  · exact .inr ⟨z, fun q => n (List.mem_singleton.mp q)⟩
theorem wol_call_pure {fv : Value} {xs : List AV} {x : AV} {Q : AV → Sig → Prop}
    (c : ∀ s vs, St F σ s → RepL s.heap xs vs → codeAny (model pw F.w) F.A (.call fv ⟨vs, []⟩) (Ret F.w s [] fun y led => y = x ∧ led = []) s) (h : Q x σ) :
    WOL F E Rep (fun vs => call fv vs) xs σ Q := by
  intro s vs S r
  refine wol_call (Q := Q) (mods := []) (fun _ h => nomatch h) c ?_ s vs S r
  rintro y led ⟨rfl, rfl⟩ _ _
  exact ⟨σ.led, fun p hp => .inr ⟨hp, fun h => nomatch h⟩, (List.nodup_cons.mp S.nd).2, h⟩
theorem wol_call_new {fv : Value} {xs : List AV} {o : AO} {Q : AV → Sig → Prop}
    (c : ∀ s vs, St F σ s → RepL s.heap xs vs → codeAny (model pw F.w) F.A (.call fv ⟨vs, []⟩) (Ret F.w s [] fun y led => ∃ b, y = .ref b ∧ led = [(b, o)]) s) (h : ∀ b, b ∉ σ.led.map (·.1) → Q (.ref b) ⟨σ.vals, (b, o) :: σ.led⟩) :
    WOL F E Rep (fun vs => call fv vs) xs σ Q := by
  intro s vs S r
  refine wol_call (Q := Q) (mods := []) (fun _ h => nomatch h) c ?_ s vs S r
  rintro y led ⟨b, rfl, rfl⟩ _ hn
  have hb : b ∉ σ.led.map (·.1) := (hn b (.head _)).resolve_left fun h => nomatch h
  refine ⟨(b, o) :: σ.led, fun p hp => ?_, List.nodup_cons.mpr ⟨hb, (List.nodup_cons.mp S.nd).2⟩, h b hb⟩
  rcases List.mem_cons.mp hp with rfl | hp
  · exact .inl (.head _)
  · exact .inr ⟨hp, fun h => nomatch h⟩
end
end Mine
end
section
open PySem PySem.W PyProof.Rows PySem.Calls
set_option Elab.async false
set_option linter.unusedVariables false
set_option maxRecDepth 10000
namespace Mine
noncomputable abbrev zs (l : List Int) : List AV := l.map AV.int

theorem zip_lookup : ∀ {names : List Str} {vs : List Value} {i : Nat} {x : Str} {v : Value}, names.Nodup → names[i]? = some x → vs[i]? = some v → (names.zip vs).reverse.lookup x = some v := by
  intro names
  induction names with
  | nil => intro vs i x v _ h; simp at h
  | cons n r ih =>
    intro vs i x v nd h hv
    cases vs with
    | nil => simp at hv
    | cons u us =>
      have nd' := List.nodup_cons.mp nd
      rw [List.zip_cons_cons, List.reverse_cons, List.lookup_append]
      cases i with
      | zero =>
        simp at h hv
        subst h hv
        have : (r.zip us).reverse.lookup n = none := by
          rw [List.lookup_eq_none_iff]
          intro p hp
          have hp' : p ∈ r.zip us := by simpa using hp
          have := (List.of_mem_zip (a := p.1) (b := p.2) hp').1
          simp only [bne_iff_ne, ne_eq]
          rintro e
          exact nd'.1 (e ▸ this)
        rw [this]
        simp
      | succ j =>
        rw [ih nd'.2 (by simpa using h) (by simpa using hv)]
        rfl
noncomputable def AO.mut : AO → Bool
  | .obj _ => false
  | _ => true
theorem repO_mut {w : World} {h : Heap} {a : Addr} {o : AO} (m : o.mut = true) (r : RepO w h a o) (c : Value) (dd : Option Addr) (vs : Array Value) (n : Nat) (hc : Imm c) : h.get? a ≠ some ⟨c, dd, .seq vs n, #[]⟩ := by
  intro e
  cases o with
  | list l => obtain ⟨vs, n, e', _⟩ := r; rw [e] at e'; cases e'; exact not_imm_list hc
  | dict es => obtain ⟨q, kvs, ⟨o, es', ep, e', hx, hd, _⟩, _⟩ := r; rw [e] at e'; cases e'; cases hd
  | set0 => obtain ⟨n, t, e'⟩ := r; rw [e] at e'; cases e'
  | ns es => obtain ⟨es, n, e', _⟩ := r; rw [e] at e'; cases e'
  | cell x => obtain ⟨v, ⟨o, e', d⟩, _⟩ := r; rw [e] at e'; cases e'; cases d
  | obj o => cases m
/-- a call whose arguments stand by their places -/
theorem enterP {d : Def} (D : d.Ok) {w : World} {hT : Heap} {A : Around} {s : Shared} {k : Nat} (C : Cx w hT A s (k + 1)) {xs : List AV} {vs : List Value} (r : RepL s.heap xs vs) (hb : bindArgs d.fd ⟨vs, []⟩ = pure (d.names.zip vs)) (led₀ : List (Addr × AO)) (vals : List (Option AV)) (j : Nat) {Qf : AV → List (Addr × AO) → Prop}
    (hled : ∀ p ∈ led₀, hT.get? p.1 = none ∧ p.2.mut = true ∧ RepO w s.heap p.1 p.2) (hnd : (led₀.map (·.1)).Nodup) (hv : xs.map some ++ List.replicate j none = vals)
    (hbody : ∀ L, s.heap.get? L = none → WS (d.frame w hT s.heap (led₀.map (·.1)) L A s.gens s.os k) NoE (execs d.body (callEnv d.fd L d.fa)) ⟨vals, led₀⟩ (EndF Qf)) :
    codeAny (model pw w) A (.call (.ref d.fa) ⟨vs, []⟩) (Ret w s (led₀.map (·.1)) Qf) s := by
  have sc := D.scope
  unfold scopeOk at sc
  simp only [Bool.and_eq_true, Bool.not_eq_true'] at sc
  have nd : d.names.Nodup := of_decide_eq_true sc.1.1.1.1.2
  refine enter D C (led₀.map (·.1)) led₀ vals (BindsTo.of_eq hb) (fun y hy => (List.of_mem_zip (a := y.1) (b := y.2) hy).1) (fun i x av hx ha => ?_) (fun a ha => ?_) (fun a ha => ?_) (fun p hp => ⟨List.mem_map_of_mem hp, (hled p hp).2.2⟩) hnd hbody
  · subst hv
    by_cases hi : i < xs.length
    · rw [List.getElem?_append_left (by simpa using hi), List.getElem?_map] at ha
      cases q : xs[i]? with
      | none => rw [q] at ha; cases ha
      | some z =>
        rw [q] at ha
        cases ha
        obtain ⟨v, e, rv⟩ := r.some q
        exact ⟨v, zip_lookup nd hx e, rv⟩
    · rw [List.getElem?_append_right (by simpa using hi), List.getElem?_replicate] at ha
      split at ha <;> cases ha
  · obtain ⟨p, hp, rfl⟩ := List.mem_map.mp ha
    exact (hled p hp).1
  · obtain ⟨p, hp, rfl⟩ := List.mem_map.mp ha
    exact repO_mut (hled p hp).2.1 (hled p hp).2.2

section
variable {F : Fx} {E : Value → Shared → Prop} {σ : Sig}
inductive ExprQ (Q : AF → Sig → Prop) (x : AV) (σ' : Sig) : Prop where
  | mk (e : x = .none) (q : Q .next σ')
noncomputable abbrev AugQ (F : Fx) (E : Value → Shared → Prop) (op : Operator) (i : Nat) (y : AV) (Q : AF → Sig → Prop) (z : AV) (σ₁ : Sig) : Prop := WO2 F E Rep (inplaceOp op) y z σ₁ (SetQ i Q)
theorem ws_expr {e : Expr} {p : Pos} {Q : AF → Sig → Prop} (h : WE F E (eval e F.env) σ (ExprQ Q))
    (hi : interactive F.env = false := by with_unfolding_all rfl) (hs : swapsWith e none p.line F.env = pure false := by with_unfolding_all rfl) : WS F E (exec (.Expr e p) F.env) σ Q := by
  intro s S
  refine wpAny_Expr (h.then S ?_) hi hs
  rintro v s' x σ' r S' m ⟨rfl, q⟩
  cases r
  exact ⟨.next, σ', .next, S', m, q⟩
theorem ws_doc {x : Str} {k : Nat} {p p' : Pos} {Q : AF → Sig → Prop} (h : Q .next σ)
    (hi : interactive F.env = false := by with_unfolding_all rfl) (hs : swapsWith (.Constant (.str x) k p') none p.line F.env = pure false := by with_unfolding_all rfl) : WS F E (exec (.Expr (.Constant (.str x) k p') p) F.env) σ Q :=
  fun s S => wpAny_Expr (Constant_str (.here S .next h)) hi hs
theorem ws_aug {i : Nat} {x : Str} {p p' : Pos} {op : Operator} {value : Expr} {y : AV} {Q : AF → Sig → Prop} (hx : idxOf F.names x = some i) (hv : σ.vals[i]? = some (some y))
    (h : WE F E (eval value F.env) σ (AugQ F E op i y Q)) : WS F E (exec (.AugAssign (.Name x p') op value p) F.env) σ Q := by
  intro s S
  obtain ⟨m, v, hn, e, r⟩ := S.name hx hv
  refine wpAny_AugAssign_Name (wpAny_loadName_local S.ok.kind (S.ok.loc i x (idxOf_eq hx)).1 hn e (h.then S ?_))
  rintro u s₁ z σ₁ r₁ S₁ m₁ h₁
  refine wpAny_mono (h₁ s₁ v u S₁ (r.mono m₁) r₁) ?_ fun _ _ e => e
  rintro t s₂ ⟨y', σ₂, r₂, S₂, m₂, q⟩
  exact w_store S₂ hx r₂ (m₁.trans m₂) .next q
theorem o_iadd {i j : Int} {Q : AV → Sig → Prop} (h : Q (.int (i + j)) σ) : WO2 F E Rep (inplaceOp .Add) (.int i) (.int j) σ Q := by rintro s v u S ⟨⟩ ⟨⟩; exact iadd_int (.here S (.int _ _) h)
end
end Mine
end
section
open PySem PySem.W PyProof.Rows PySem.Calls
set_option Elab.async false
set_option linter.unusedVariables false
set_option maxRecDepth 10000
namespace Mine
section
variable {F : Fx} {E : Value → Shared → Prop} {σ : Sig}
theorem slotA_list_append : Slot "list" ⟨#[97,112,112,101,110,100]⟩ "list.append" := (show Str.ofString "append" = ⟨#[97,112,112,101,110,100]⟩ by kernel_rfl) ▸ PySem.F.slot_list_append
theorem we_list_append {o : Expr} {ap p : Pos} {args : List Expr} {Q : AV → Sig → Prop} (h : WE F E (eval o F.env) σ (MethQ F E "list" "list.append" args p Q))
    (hbase : attributeBase o ⟨#[97,112,112,101,110,100]⟩ F.env (eval o F.env) = eval o F.env := by with_unfolding_all rfl)
    (hfew : ((backTo p (starEach args F.env)).all (fun x => !x.1) && (backToKw p (keywordEach [] F.env)).all (fun x => x.1.isSome)
      && decide (args.length + ([] : List Keyword).length + (if ([] : List Keyword).isEmpty then 0 else 1) < 30)) = true := by with_unfolding_all rfl)
    (hline : (ap.endLine == p.line) = true := by with_unfolding_all rfl) (hp : (backTo p (starEach args F.env)).any (·.1) = false := by with_unfolding_all rfl) :
    WE F E (eval (.Call (.Attribute o ⟨#[97,112,112,101,110,100]⟩ ap) args [] p) F.env) σ Q := we_meth "list" "list.append" PySem.F.plainAttrs_list slotA_list_append PySem.F.type_list_append h hbase hfew hline hp
theorem slotA_list_pop : Slot "list" ⟨#[112,111,112]⟩ "list.pop" := (show Str.ofString "pop" = ⟨#[112,111,112]⟩ by kernel_rfl) ▸ PySem.F.slot_list_pop
theorem we_list_pop {o : Expr} {ap p : Pos} {args : List Expr} {Q : AV → Sig → Prop} (h : WE F E (eval o F.env) σ (MethQ F E "list" "list.pop" args p Q))
    (hbase : attributeBase o ⟨#[112,111,112]⟩ F.env (eval o F.env) = eval o F.env := by with_unfolding_all rfl)
    (hfew : ((backTo p (starEach args F.env)).all (fun x => !x.1) && (backToKw p (keywordEach [] F.env)).all (fun x => x.1.isSome)
      && decide (args.length + ([] : List Keyword).length + (if ([] : List Keyword).isEmpty then 0 else 1) < 30)) = true := by with_unfolding_all rfl)
    (hline : (ap.endLine == p.line) = true := by with_unfolding_all rfl) (hp : (backTo p (starEach args F.env)).any (·.1) = false := by with_unfolding_all rfl) :
    WE F E (eval (.Call (.Attribute o ⟨#[112,111,112]⟩ ap) args [] p) F.env) σ Q := we_meth "list" "list.pop" PySem.F.plainAttrs_list slotA_list_pop PySem.F.type_list_pop h hbase hfew hline hp
theorem slotA_list_extend : Slot "list" ⟨#[101,120,116,101,110,100]⟩ "list.extend" := (show Str.ofString "extend" = ⟨#[101,120,116,101,110,100]⟩ by kernel_rfl) ▸ PySem.F.slot_list_extend
theorem we_list_extend {o : Expr} {ap p : Pos} {args : List Expr} {Q : AV → Sig → Prop} (h : WE F E (eval o F.env) σ (MethQ F E "list" "list.extend" args p Q))
    (hbase : attributeBase o ⟨#[101,120,116,101,110,100]⟩ F.env (eval o F.env) = eval o F.env := by with_unfolding_all rfl)
    (hfew : ((backTo p (starEach args F.env)).all (fun x => !x.1) && (backToKw p (keywordEach [] F.env)).all (fun x => x.1.isSome)
      && decide (args.length + ([] : List Keyword).length + (if ([] : List Keyword).isEmpty then 0 else 1) < 30)) = true := by with_unfolding_all rfl)
    (hline : (ap.endLine == p.line) = true := by with_unfolding_all rfl) (hp : (backTo p (starEach args F.env)).any (·.1) = false := by with_unfolding_all rfl) :
    WE F E (eval (.Call (.Attribute o ⟨#[101,120,116,101,110,100]⟩ ap) args [] p) F.env) σ Q := we_meth "list" "list.extend" PySem.F.plainAttrs_list slotA_list_extend PySem.F.type_list_extend h hbase hfew hline hp
theorem slotA_list_remove : Slot "list" ⟨#[114,101,109,111,118,101]⟩ "list.remove" := (show Str.ofString "remove" = ⟨#[114,101,109,111,118,101]⟩ by kernel_rfl) ▸ PySem.F.slot_list_remove
theorem we_list_remove {o : Expr} {ap p : Pos} {args : List Expr} {Q : AV → Sig → Prop} (h : WE F E (eval o F.env) σ (MethQ F E "list" "list.remove" args p Q))
    (hbase : attributeBase o ⟨#[114,101,109,111,118,101]⟩ F.env (eval o F.env) = eval o F.env := by with_unfolding_all rfl)
    (hfew : ((backTo p (starEach args F.env)).all (fun x => !x.1) && (backToKw p (keywordEach [] F.env)).all (fun x => x.1.isSome)
      && decide (args.length + ([] : List Keyword).length + (if ([] : List Keyword).isEmpty then 0 else 1) < 30)) = true := by with_unfolding_all rfl)
    (hline : (ap.endLine == p.line) = true := by with_unfolding_all rfl) (hp : (backTo p (starEach args F.env)).any (·.1) = false := by with_unfolding_all rfl) :
    WE F E (eval (.Call (.Attribute o ⟨#[114,101,109,111,118,101]⟩ ap) args [] p) F.env) σ Q := we_meth "list" "list.remove" PySem.F.plainAttrs_list slotA_list_remove PySem.F.type_list_remove h hbase hfew hline hp
theorem slotA_list_index : Slot "list" ⟨#[105,110,100,101,120]⟩ "list.index" := (show Str.ofString "index" = ⟨#[105,110,100,101,120]⟩ by kernel_rfl) ▸ PySem.F.slot_list_index
theorem we_list_index {o : Expr} {ap p : Pos} {args : List Expr} {Q : AV → Sig → Prop} (h : WE F E (eval o F.env) σ (MethQ F E "list" "list.index" args p Q))
    (hbase : attributeBase o ⟨#[105,110,100,101,120]⟩ F.env (eval o F.env) = eval o F.env := by with_unfolding_all rfl)
    (hfew : ((backTo p (starEach args F.env)).all (fun x => !x.1) && (backToKw p (keywordEach [] F.env)).all (fun x => x.1.isSome)
      && decide (args.length + ([] : List Keyword).length + (if ([] : List Keyword).isEmpty then 0 else 1) < 30)) = true := by with_unfolding_all rfl)
    (hline : (ap.endLine == p.line) = true := by with_unfolding_all rfl) (hp : (backTo p (starEach args F.env)).any (·.1) = false := by with_unfolding_all rfl) :
    WE F E (eval (.Call (.Attribute o ⟨#[105,110,100,101,120]⟩ ap) args [] p) F.env) σ Q := we_meth "list" "list.index" PySem.F.plainAttrs_list slotA_list_index PySem.F.type_list_index h hbase hfew hline hp
theorem slotA_list_sort : Slot "list" ⟨#[115,111,114,116]⟩ "list.sort" := (show Str.ofString "sort" = ⟨#[115,111,114,116]⟩ by kernel_rfl) ▸ PySem.F.slot_list_sort
theorem we_list_sort {o : Expr} {ap p : Pos} {args : List Expr} {Q : AV → Sig → Prop} (h : WE F E (eval o F.env) σ (MethQ F E "list" "list.sort" args p Q))
    (hbase : attributeBase o ⟨#[115,111,114,116]⟩ F.env (eval o F.env) = eval o F.env := by with_unfolding_all rfl)
    (hfew : ((backTo p (starEach args F.env)).all (fun x => !x.1) && (backToKw p (keywordEach [] F.env)).all (fun x => x.1.isSome)
      && decide (args.length + ([] : List Keyword).length + (if ([] : List Keyword).isEmpty then 0 else 1) < 30)) = true := by with_unfolding_all rfl)
    (hline : (ap.endLine == p.line) = true := by with_unfolding_all rfl) (hp : (backTo p (starEach args F.env)).any (·.1) = false := by with_unfolding_all rfl) :
    WE F E (eval (.Call (.Attribute o ⟨#[115,111,114,116]⟩ ap) args [] p) F.env) σ Q := we_meth "list" "list.sort" PySem.F.plainAttrs_list slotA_list_sort PySem.F.type_list_sort h hbase hfew hline hp
theorem slotA_dict_setdefault : Slot "dict" ⟨#[115,101,116,100,101,102,97,117,108,116]⟩ "dict.setdefault" := (show Str.ofString "setdefault" = ⟨#[115,101,116,100,101,102,97,117,108,116]⟩ by kernel_rfl) ▸ PySem.F.slot_dict_setdefault
theorem we_dict_setdefault {o : Expr} {ap p : Pos} {args : List Expr} {Q : AV → Sig → Prop} (h : WE F E (eval o F.env) σ (MethQ F E "dict" "dict.setdefault" args p Q))
    (hbase : attributeBase o ⟨#[115,101,116,100,101,102,97,117,108,116]⟩ F.env (eval o F.env) = eval o F.env := by with_unfolding_all rfl)
    (hfew : ((backTo p (starEach args F.env)).all (fun x => !x.1) && (backToKw p (keywordEach [] F.env)).all (fun x => x.1.isSome)
      && decide (args.length + ([] : List Keyword).length + (if ([] : List Keyword).isEmpty then 0 else 1) < 30)) = true := by with_unfolding_all rfl)
    (hline : (ap.endLine == p.line) = true := by with_unfolding_all rfl) (hp : (backTo p (starEach args F.env)).any (·.1) = false := by with_unfolding_all rfl) :
    WE F E (eval (.Call (.Attribute o ⟨#[115,101,116,100,101,102,97,117,108,116]⟩ ap) args [] p) F.env) σ Q := we_meth "dict" "dict.setdefault" PySem.F.plainAttrs_dict slotA_dict_setdefault PySem.F.type_dict_setdefault h hbase hfew hline hp
theorem slotA_dict_get : Slot "dict" ⟨#[103,101,116]⟩ "dict.get" := (show Str.ofString "get" = ⟨#[103,101,116]⟩ by kernel_rfl) ▸ PySem.F.slot_dict_get
theorem we_dict_get {o : Expr} {ap p : Pos} {args : List Expr} {Q : AV → Sig → Prop} (h : WE F E (eval o F.env) σ (MethQ F E "dict" "dict.get" args p Q))
    (hbase : attributeBase o ⟨#[103,101,116]⟩ F.env (eval o F.env) = eval o F.env := by with_unfolding_all rfl)
    (hfew : ((backTo p (starEach args F.env)).all (fun x => !x.1) && (backToKw p (keywordEach [] F.env)).all (fun x => x.1.isSome)
      && decide (args.length + ([] : List Keyword).length + (if ([] : List Keyword).isEmpty then 0 else 1) < 30)) = true := by with_unfolding_all rfl)
    (hline : (ap.endLine == p.line) = true := by with_unfolding_all rfl) (hp : (backTo p (starEach args F.env)).any (·.1) = false := by with_unfolding_all rfl) :
    WE F E (eval (.Call (.Attribute o ⟨#[103,101,116]⟩ ap) args [] p) F.env) σ Q := we_meth "dict" "dict.get" PySem.F.plainAttrs_dict slotA_dict_get PySem.F.type_dict_get h hbase hfew hline hp
end
end Mine
end
section
open PySem PySem.W PyProof.Rows PySem.Calls
set_option Elab.async false
set_option linter.unusedVariables false
set_option maxRecDepth 10000
namespace Mine

/-! ## less may be known -/
noncomputable def Weak (σ σ' : Sig) : Prop := List.Sublist σ'.led σ.led ∧ ∀ (i : Nat) (av : AV), σ'.vals[i]? = some (some av) → σ.vals[i]? = some (some av)
theorem Weak.refl (σ : Sig) : Weak σ σ := ⟨List.Sublist.refl _, fun _ _ h => h⟩
theorem Weak.led {vals : List (Option AV)} {l l' : List (Addr × AO)} (h : List.Sublist l' l) : Weak ⟨vals, l⟩ ⟨vals, l'⟩ := ⟨h, fun _ _ h => h⟩
section
variable {F : Fx} {E : Value → Shared → Prop} {σ : Sig}
theorem St.weak {s : Shared} {σ' : Sig} (S : St F σ s) (k : Weak σ σ') : St F σ' s := by
  obtain ⟨m, hn, hv⟩ := S.ns
  refine ⟨S.ok, ⟨m, hn, fun i x av a b => hv i x av a (k.2 i av b)⟩, fun p hp => S.rep p (k.1.subset hp), ?_, fun a ha => S.new a ((k.1.map _).subset ha), S.Lnew, S.keep, S.gens, S.os, fun b hb => ⟨fun q => (S.fr b hb).1 ((k.1.map _).subset q), (S.fr b hb).2⟩, S.mb⟩
  exact List.Nodup.sublist ((k.1.map _).cons_cons _) S.nd
inductive NextQ (P : Sig → Prop) (f : AF) (σ : Sig) : Prop where
  | mk (e : f = .next) (p : P σ)
inductive NextIs (S : Sig) (f : AF) (σ : Sig) : Prop where
  | mk (e : f = .next) (h : σ = S)
inductive BoolIs (b : Bool) (S : Sig) (q : Bool) (σ : Sig) : Prop where
  | mk (e : q = b) (h : σ = S)
/-- an invariant of a loop with one turn -/
noncomputable abbrev OneQ (S₀ : Sig) (P : Sig → Prop) (i : Nat) (σ : Sig) : Prop := match i with
  | 0 => σ = S₀
  | _ + 1 => P σ
inductive WeakQ {β : Type} (Q : β → Sig → Prop) (x : β) (σ' : Sig) : Prop where
  | mk (σ'' : Sig) (k : Weak σ' σ'') (q : Q x σ'')
theorem W.weak {α β : Type} {R : Heap → β → α → Prop} {t : Sem α} {Q : β → Sig → Prop} (h : W F E R t σ (WeakQ Q)) : W F E R t σ Q :=
  fun s S => wpAny_mono (h s S) (fun _ _ ⟨x, σ', r, S', m, σ'', k, q⟩ => ⟨x, σ'', r, S'.weak k, m, q⟩) fun _ _ e => e
theorem W.pre {α β : Type} {R : Heap → β → α → Prop} {t : Sem α} {σ' : Sig} {Q : β → Sig → Prop} (k : Weak σ σ') (h : W F E R t σ' Q) : W F E R t σ Q :=
  fun s S => h s (S.weak k)
inductive LessW (I : Nat → Sig → Prop) (n : Nat) (σ : Sig) : Prop where
  | mk (m : Nat) (h : m < n) (σ₃ : Sig) (k : Weak σ σ₃) (i : I m σ₃)
noncomputable abbrev WEndW (I : Nat → Sig → Prop) (n : Nat) (Q : AF → Sig → Prop) (f : AF) (σ : Sig) : Prop := match f with
  | .next | .cont => LessW I n σ
  | .brk => Q .next σ
  | .ret v => Q (.ret v) σ
inductive WhQW (F : Fx) (I : Nat → Sig → Prop) (n : Nat) (body : List Stmt) (Q : AF → Sig → Prop) (b : Bool) (σ : Sig) : Prop where
  | mk (t : b = true → WS F NoE (execs body F.env) σ (WEndW I n Q)) (f : b = false → Q .next σ)
/-- a while, with less known at each turn -/
theorem ws_whileW {test : Expr} {body : List Stmt} {p : Pos} {Q : AF → Sig → Prop} (I : Nat → Sig → Prop) (n : Nat) (h0 : ∃ σ', Weak σ σ' ∧ I n σ')
    (turn : ∀ n σ, I n σ → WB F NoE (isTrue test F.env (eval test F.env)) σ (WhQW F I n body Q)) : WS F E (exec (.While test body [] p) F.env) σ Q := by
  obtain ⟨σ', k0, h0⟩ := h0
  refine W.pre k0 (ws_while I n h0 fun n σ hI => ?_)
  refine (turn n σ hI).mono fun b σ' hb => hb.casesOn fun hb1 hb2 => ⟨fun e => W.weak ((hb1 e).mono fun f σ'' hf => ?_), hb2⟩
  cases f with
  | next => obtain ⟨m, hm, σ₃, k, q⟩ := hf; exact ⟨σ₃, k, m, hm, q⟩
  | cont => obtain ⟨m, hm, σ₃, k, q⟩ := hf; exact ⟨σ₃, k, m, hm, q⟩
  | brk => exact ⟨σ'', .refl _, hf⟩
  | ret v => exact ⟨σ'', .refl _, hf⟩

/-! ## displays -/
theorem size_none (h : Heap) : h.get? h.objs.size = none := by
  cases q : h.get? h.objs.size with
  | none => rfl
  | some o => exact absurd (Heap.lt_size q) (Nat.lt_irrefl _)
theorem not_led {s : Shared} (S : St F σ s) {a : Addr} (h : s.heap.get? a = none) : a ∉ σ.led.map (·.1) := fun q => by
  obtain ⟨p, hp, rfl⟩ := List.mem_map.mp q
  obtain ⟨x, e⟩ := (S.rep p hp).some
  rw [e] at h; cases h
inductive ListQ (Q : AV → Sig → Prop) (xs : List AV) (σ₁ : Sig) : Prop where
  | mk (h : xs.length ≤ sizeLine) (k : ∀ a, a ∉ σ₁.led.map (·.1) → Q (.ref a) ⟨σ₁.vals, (a, .list xs) :: σ₁.led⟩)
inductive TupQ (Q : AV → Sig → Prop) (xs : List AV) (σ₁ : Sig) : Prop where
  | mk (h : xs.length ≤ sizeLine) (k : Q (.tup (.type "tuple") xs) σ₁)
theorem we_list {elts : List Expr} {p : Pos} {Q : AV → Sig → Prop} (h : WL F E (spliced (backTo p (starEach elts F.env))) σ (ListQ Q)) :
    WE F E (eval (.List elts p) F.env) σ Q := by
  intro s S
  refine List_ (h.then S ?_)
  rintro vs s₁ xs σ₁ r S₁ m ⟨hsz, q⟩
  refine wpAny_newObj_type (T := "list") (data := .seq vs.toArray) ?_ (by show vs.toArray.size ≤ sizeLine; rw [List.size_toArray, ← r.length]; exact hsz)
  have hk : ∀ b o, s₁.heap.get? b = some o → (s₁.heap.push { cls := .type "list", data := .seq vs.toArray }).get? b = some o := fun b o e => Heap.get?_push_of_some _ e
  have hn := size_none s₁.heap
  refine ⟨_, _, .ref _, S₁.alloc (tk := s₁.toks) hk hn (o := .list xs) ⟨vs, 0, Heap.get?_push_size _ rfl, r.mono (.of_keep hk)⟩, m.trans (.of_keep hk), q _ (not_led S₁ hn)⟩
theorem we_tuple {elts : List Expr} {k : Nat} {p : Pos} {Q : AV → Sig → Prop} (h : WL F E (spliced (backTo p (starEach elts F.env))) σ (TupQ Q)) :
    WE F E (eval (.Tuple elts k p) F.env) σ Q := by
  intro s S
  refine Tuple_ (h.then S ?_)
  rintro vs s₁ xs σ₁ r S₁ m ⟨hsz, q⟩
  refine wpAny_newObj_type (T := "tuple") (data := .seq vs.toArray) ?_ (by show vs.toArray.size ≤ sizeLine; rw [List.size_toArray, ← r.length]; exact hsz)
  have hk : ∀ b o, s₁.heap.get? b = some o → (s₁.heap.push { cls := .type "tuple", data := .seq vs.toArray }).get? b = some o := fun b o e => Heap.get?_push_of_some _ e
  exact ⟨_, _, Rep.tupL (.inl rfl) (fun _ => rfl) (Heap.get?_push_size _ rfl) (r.mono (.of_keep hk)), S₁.grow (tk := s₁.toks) hk, m.trans (.of_keep hk), q⟩

/-! ## several names at once -/
theorem w_bind {i : Nat} {x : Str} {av : AV} {v : Value} {s : Shared} (S : St F σ s) (hx : idxOf F.names x = some i) (r : Rep s.heap av v) {Q : Unit → Shared → Prop} (k : ∀ s', St F ⟨σ.vals.set i (some av), σ.led⟩ s' → Mono s.heap s'.heap → Q () s') : wpAny (model pw F.w) F.A (storeName F.env x v) Q E s := by
  obtain ⟨m, hn, hv⟩ := S.ns
  have hn' := hn
  obtain ⟨o, es, ep, e, d, _⟩ := hn'
  refine wpAny_storeName_local (S.ok.loc i x (idxOf_eq hx)).1 hn (fun h' hn' hs => ?_) (by rw [S.ok.kind]; rfl)
  obtain ⟨S', mono⟩ := S.put (h' := h') (tk := s.toks + 1) hx hv hn' ⟨o, es, ep, e, d⟩ hs r
  exact k _ S' mono
/-- names and their places -/
inductive Places (F : Fx) : List Str → List Nat → Prop where
  | nil : Places F [] []
  | cons {x : Str} {i : Nat} {xs : List Str} {is : List Nat} : idxOf F.names x = some i → Places F xs is → Places F (x :: xs) (i :: is)
noncomputable def setAll : List (Option AV) → List Nat → List AV → List (Option AV)
  | vals, i :: is, a :: as => setAll (vals.set i (some a)) is as
  | vals, _, _ => vals
theorem w_binds {names : List Str} {is : List Nat} (pl : Places F names is) : ∀ {σ : Sig} {s : Shared} {xs : List AV} {vs : List Value} {Q : Unit → Shared → Prop}, St F σ s → RepL s.heap xs vs → xs.length = names.length →
    (∀ s', St F ⟨setAll σ.vals is xs, σ.led⟩ s' → Mono s.heap s'.heap → Q () s') → wpAny (model pw F.w) F.A (assignInOrder (names.map fun n => bindName F.env n) vs) Q E s := by
  induction pl with
  | nil =>
    intro σ s xs vs Q S r hl k
    cases xs with
    | cons _ _ => simp at hl
    | nil => cases r; exact assignInOrder_nil (k s S (.refl _))
  | @cons x i ns is hx _ ih =>
    intro σ s xs vs Q S r hl k
    cases r with
    | nil => simp at hl
    | cons r rs =>
      refine assignInOrder_cons (wpAny_bindName (w_bind S hx r fun s' S' m => ?_))
      exact ih S' (rs.mono m) (by simpa using hl) fun s'' S'' m' => k s'' S'' (m.trans m')
theorem Rep.isTup {s : Shared} {l : List AV} {v : Value} (r : Rep s.heap (.tup (.type "tuple") l) v) : ∃ a vs, v = .ref a ∧ IsTup s.heap a vs.toArray ∧ RepL s.heap l vs := by
  cases r with
  | tup hc hd e hl k => exact ⟨_, _, rfl, ⟨_, e, rfl, _, rfl⟩, RepL.of_get hl k⟩
inductive SwapQ (names : List Str) (is : List Nat) (Q : AF → Sig → Prop) (v : AV) (σ₁ : Sig) : Prop where
  | mk (xs : List AV) (e : v = .tup (.type "tuple") xs) (h : xs.length = names.length) (q : Q .next ⟨setAll σ₁.vals is xs.reverse, σ₁.led⟩)
/-- «a, b = (.., ..)»: the names are bound from the last to the first -/
theorem ws_swap {elts : List Expr} {k : Nat} {tp p : Pos} {value : Expr} {names : List Str} {is : List Nat} {Q : AF → Sig → Prop}
    (hw : swappedStores [.Tuple elts k tp] value F.env = pure (some names)) (pl : Places F names.reverse is)
    (h : WE F E (eval value F.env) σ (SwapQ names is Q))
    (hs : swapsWithSole [.Tuple elts k tp] value p.line F.env = pure false := by with_unfolding_all rfl) (hd : F.hd = none := by rfl) : WS F E (exec (.Assign [.Tuple elts k tp] value p) F.env) σ Q := by
  intro s S
  refine Assign_Tuple_swapped (names := names) (h.then S ?_) hs hw
  rintro v s₁ x σ₁ r S₁ m ⟨xs, rfl, hl, q⟩
  obtain ⟨a, vs, rfl, ht, rl⟩ := r.isTup
  have hn : names.length = vs.toArray.size := by rw [List.size_toArray, ← rl.length, hl]
  rw [hn]
  refine unpackItems_tuple (S₁.ok.hh.trans hd) ht fun h' hx => ?_
  have hk : ∀ b o, s₁.heap.get? b = some o → h'.get? b = some o := fun b o e => hx b o (Nat.ne_of_lt (Heap.lt_size e)) e
  have S₂ : St F σ₁ { s₁ with heap := h' } := S₁.grow (tk := s₁.toks) hk
  have rr : RepL h' xs.reverse vs.reverse := by
    have r2 := rl.mono (.of_keep hk)
    refine RepL.of_get (by simp [r2.length]) fun i y z hy hz => ?_
    have hlen := r2.length
    have hi : i < xs.length := by have := (List.getElem?_eq_some_iff.mp hy).1; simpa using this
    rw [List.getElem?_reverse hi] at hy
    rw [List.getElem?_reverse (by walk_at "om")] at hz
    rw [← hlen] at hz
    exact r2.get hy hz
  refine w_binds pl S₂ rr (by simp [hl]) fun s' S' m' => ⟨.next, _, .next, S', m.trans ((Mono.of_keep hk).trans m'), q⟩
end

/-! ## loops -/
noncomputable abbrev hide (its : List (Addr × Obj)) : List (Addr × AO) := its.map fun p => (p.1, AO.obj p.2)
noncomputable abbrev TurnEnd (J : Sig → Prop) (Q : AF → Sig → Prop) (f : AF) (σ : Sig) : Prop := match f with
  | .next => J σ
  | .cont => J σ
  | .brk => Q .next σ
  | .ret v => Q (.ret v) σ
noncomputable abbrev LessV (vals : List (Option AV)) (σ : Sig) : Prop := ∀ (i : Nat) (av : AV), vals[i]? = some (some av) → σ.vals[i]? = some (some av)
inductive ForEnd (its : List (Addr × AO)) (J : Sig → Prop) (Q : AF → Sig → Prop) (f : AF) (σ : Sig) : Prop where
  | mk (vals : List (Option AV)) (led' : List (Addr × AO)) (s : List.Sublist (its ++ led') σ.led) (k : LessV vals σ) (q : TurnEnd J Q f ⟨vals, led'⟩)
/-- an iterator -/
structure Iter (w : World) (A : Around) (I : Addr) (wr : List Addr) (l : List AV) (Ro : Heap → Prop) (It : Nat → Heap → Prop) (target : Expr) : Prop where
  frame : ∀ i h h', It i h → (∀ b ∈ wr, ∀ o, h.get? b = some o → h'.get? b = some o) → It i h'
  here : ∀ i h, It i h → ∀ b ∈ wr, ∃ o, h.get? b = some o ∧ ∀ vs n, o.data ≠ .seq vs n
  item : ∀ (i : Nat) (y : AV) (s : Shared) (Q : Option Value → Shared → Prop) (E : Value → Shared → Prop), l[i]? = some y → Ro s.heap → It i s.heap →
    (∀ v s₁, (∀ (P : Unit → Shared → Prop) (E' : Value → Shared → Prop), (∀ h' tk, Rep h' y v → It (i + 1) h' → (∀ b o, b ∉ wr → s.heap.get? b = some o → h'.get? b = some o) → P () { s with heap := h', toks := tk }) →
      wpAny (model pw w) A (letOwnedTupleGo target (.ref I) v) P E' s₁) → Q (some v) s₁) → wpAny (model pw w) A (pyNext (.ref I)) Q E s
  done : ∀ (s : Shared) (Q : Option Value → Shared → Prop) (E : Value → Shared → Prop), Ro s.heap → It l.length s.heap →
    (∀ h' tk, (∀ b o, b ∉ wr → s.heap.get? b = some o → h'.get? b = some o) → Q none { s with heap := h', toks := tk }) → wpAny (model pw w) A (pyNext (.ref I)) Q E s
  self : ∀ (i : Nat) (s : Shared) (Q : Value → Shared → Prop) (E : Value → Shared → Prop), It i s.heap → Q (.ref I) s → wpAny (model pw w) A (pyIter (.ref I)) Q E s
theorem its_of {h : Heap} : ∀ {wr : List Addr}, (∀ b ∈ wr, ∃ o, h.get? b = some o) → ∃ its : List (Addr × Obj), its.map (·.1) = wr ∧ ∀ p ∈ its, h.get? p.1 = some p.2
  | [], _ => ⟨[], rfl, fun _ h => nomatch h⟩
  | b :: r, k => by
    obtain ⟨o, e⟩ := k b (.head _)
    obtain ⟨its, h1, h2⟩ := its_of (wr := r) fun x hx => k x (.tail _ hx)
    exact ⟨(b, o) :: its, by simp [h1], fun p hp => by rcases List.mem_cons.mp hp with rfl | hp; exact e; exact h2 p hp⟩
theorem hide_keys (its : List (Addr × Obj)) : (hide its).map (·.1) = its.map (·.1) := by simp [hide]
noncomputable def Binds (F : Fx) (target : Expr) (y : AV) (σ σ' : Sig) : Prop := ∀ (s : Shared) (v : Value) (Q : Unit → Shared → Prop) (E : Value → Shared → Prop), St F σ s → Rep s.heap y v → (∀ s', St F σ' s' → Mono s.heap s'.heap → Q () s') → wpAny (model pw F.w) F.A (assign target F.env v) Q E s
section
variable {F : Fx} {E : Value → Shared → Prop} {σ : Sig}
theorem mono_wr {h h' : Heap} {wr : List Addr} (nseq : ∀ b ∈ wr, ∃ o, h.get? b = some o ∧ ∀ vs n, o.data ≠ .seq vs n) (hk : ∀ b o, b ∉ wr → h.get? b = some o → h'.get? b = some o) : Mono h h' := fun b c dd vs n hc e => by
  by_cases hb : b ∈ wr
  · obtain ⟨o, e', d⟩ := nseq b hb
    rw [e] at e'; cases e'; exact absurd rfl (d _ _)
  · exact hk b _ hb e
/-- the iterator's objects are others now -/
theorem St.its {s : Shared} {its its' : List (Addr × Obj)} {led : List (Addr × AO)} {vals : List (Option AV)} (S : St F ⟨vals, hide its ++ led⟩ s) (hw : its'.map (·.1) = its.map (·.1)) {h' : Heap} {tk : Nat} (nseq : ∀ b ∈ its.map (·.1), ∃ o, s.heap.get? b = some o ∧ ∀ vs n, o.data ≠ .seq vs n)
    (hk : ∀ b o, b ∉ its.map (·.1) → s.heap.get? b = some o → h'.get? b = some o) (hi : ∀ p ∈ its', h'.get? p.1 = some p.2) : St F ⟨vals, hide its' ++ led⟩ { s with heap := h', toks := tk } ∧ St F ⟨vals, led⟩ { s with heap := h', toks := tk } ∧ Mono s.heap h' := by
  have mono := mono_wr nseq hk
  have nd := (List.nodup_cons.mp S.nd).2
  have nd2 : ((hide its).map (·.1) ++ led.map (·.1)).Nodup := by rw [← List.map_append]; exact nd
  have nd3 := List.nodup_append.mp nd2
  have hold : ∀ p ∈ led, RepO F.w h' p.1 p.2 := fun p hp => (S.rep p (List.mem_append.mpr (.inr hp))).keep mono fun x e => hk _ _ (fun q => nd3.2.2 p.1 (by rw [hide_keys]; exact q) p.1 (List.mem_map_of_mem hp) rfl) e
  have hM : ∀ a ∈ its.map (·.1), a ∈ (hide its ++ led).map (·.1) := fun a ha => by rw [List.map_append, hide_keys]; exact List.mem_append.mpr (.inl ha)
  refine ⟨S.go (h' := h') (its.map (·.1)) (hide its' ++ led) (fun b o e n => hk b o n e) hM mono (fun p hp => ?_) ?_ fun a ha => .inl ?_, S.go (h' := h') (its.map (·.1)) led (fun b o e n => hk b o n e) hM mono hold nd3.2.1 fun a ha => .inl ?_, mono⟩
  · rcases List.mem_append.mp hp with hp | hp
    · obtain ⟨q, hq, rfl⟩ := List.mem_map.mp hp
      exact hi q hq
    · exact hold p hp
  · rw [List.map_append, hide_keys, hw, ← hide_keys, ← List.map_append]; exact nd
  · rw [List.map_append, hide_keys, hw, ← hide_keys, ← List.map_append] at ha; exact ha
  · rw [List.map_append]; exact List.mem_append.mpr (.inr ha)
inductive TurnQ (F : Fx) (target : Expr) (body : List Stmt) (y : AV) (its : List (Addr × AO)) (J : Sig → Prop) (Q : AF → Sig → Prop) (σ₁ : Sig) : Prop where
  | mk (σ₂ : Sig) (b : Binds F target y ⟨σ₁.vals, its ++ σ₁.led⟩ σ₂) (k : WS F NoE (execs body F.env) σ₂ (ForEnd its J Q))
theorem for_core {target : Expr} {p : Pos} {body : List Stmt} {wr : List Addr} {its : List (Addr × Obj)} {l : List AV} {I : Addr} {s : Shared} {Q : AF → Sig → Prop} {h : Heap} {Ro : Heap → Prop} {It : Nat → Heap → Prop} (J : Nat → Sig → Prop) (X : Iter F.w F.A I wr l Ro It target)
    (hw : its.map (·.1) = wr) (ro : ∀ j σ its s, J j σ → St F ⟨σ.vals, hide its ++ σ.led⟩ s → Ro s.heap) (hI : It 0 s.heap) (S : St F ⟨σ.vals, hide its ++ σ.led⟩ s) (m0 : Mono h s.heap) (h0 : J 0 σ)
    (turn : ∀ (j : Nat) (y : AV) (σ₁ : Sig) (its : List (Addr × Obj)), its.length = wr.length → l[j]? = some y → J j σ₁ → (∀ a ∈ its.map (·.1), a ∉ σ₁.led.map (·.1)) → TurnQ F target body y (hide its) (J (j + 1)) Q σ₁)
    (done : ∀ σ₁, J l.length σ₁ → Q .next σ₁) :
    codeAny (model pw F.w) F.A (.forLoop target (.ref I) body [] F.env) (fun r s' => match r with | .ok f => Post F RepF h Q f s' | .error e => cameBackBy (model pw F.w) F.A F.env E e s') s := by
  refine codeAny_forLoop_any (fun n s' => ∃ σ₁ its j, its.map (·.1) = wr ∧ St F ⟨σ₁.vals, hide its ++ σ₁.led⟩ s' ∧ It j s'.heap ∧ Mono h s'.heap ∧ J j σ₁ ∧ j ≤ l.length ∧ n = l.length + 1 - j) (fun n s' hI' => ?_) (l.length + 1)
    ⟨σ, its, 0, hw, S, hI, m0, h0, Nat.zero_le _, rfl⟩
  obtain ⟨σ₁, its₁, j, hw₁, S₁, hit, m₁, hJ, hj, rfl⟩ := hI'
  have nseq : ∀ b ∈ its₁.map (·.1), ∃ o, s'.heap.get? b = some o ∧ ∀ vs n, o.data ≠ .seq vs n := by rw [hw₁]; exact X.here j _ hit
  by_cases hlt : j < l.length
  · refine X.item j l[j] s' _ _ (List.getElem?_eq_getElem hlt) (ro j σ₁ its₁ s' hJ S₁) hit fun v s₁ go => go _ _ fun h₁ tk rv hit₁ hk => ?_
    · obtain ⟨its₂, e2, i2⟩ := its_of (h := h₁) (wr := wr) fun b hb => let ⟨o, e, _⟩ := X.here _ _ hit₁ b hb; ⟨o, e⟩
      obtain ⟨S₂, _, mono₂⟩ := S₁.its (its' := its₂) (tk := tk) (e2.trans hw₁.symm) nseq (by rw [hw₁]; exact hk) i2
      have nd := (List.nodup_cons.mp S₂.nd).2
      have nd2 := List.nodup_append.mp (by rw [← List.map_append]; exact nd : ((hide its₂).map (·.1) ++ σ₁.led.map (·.1)).Nodup)
      obtain ⟨σ₃, hb, ht⟩ := turn j l[j] σ₁ its₂ (by rw [← e2]; simp) (List.getElem?_eq_getElem hlt) hJ fun a ha hb => nd2.2.2 a (by rw [hide_keys]; exact ha) a hb rfl
      refine hb _ v _ _ S₂ rv fun s₃ S₃ m₃ => ?_
      refine wpAny_mono (ht s₃ S₃) ?_ fun _ _ e => e.elim
      rintro f s₄ ⟨f', σ₄, rf, S₄, m₄, vals, led', hsub, hvs, q⟩
      have S₅ : St F ⟨vals, hide its₂ ++ led'⟩ s₄ := S₄.weak ⟨hsub, hvs⟩
      have mm : Mono h s₄.heap := m₁.trans (mono₂.trans (m₃.trans m₄))
      have drop : St F ⟨vals, led'⟩ s₄ := S₅.weak ⟨List.sublist_append_right _ _, fun _ _ h => h⟩
      have it₄ : It (j + 1) s₄.heap := X.frame _ h₁ _ hit₁ fun b hb o e => by
        obtain ⟨p, hp, rfl⟩ := List.mem_map.mp (by rw [e2]; exact hb : b ∈ its₂.map (·.1))
        have := i2 p hp
        rw [e] at this
        cases this
        exact S₅.rep (p.1, .obj p.2) (List.mem_append.mpr (.inl (List.mem_map.mpr ⟨p, hp, rfl⟩)))
      have again : J (j + 1) ⟨vals, led'⟩ → ∃ m, m < l.length + 1 - j ∧ ∃ σ₁ its j, its.map (·.1) = wr ∧ St F ⟨σ₁.vals, hide its ++ σ₁.led⟩ s₄ ∧ It j s₄.heap ∧ Mono h s₄.heap ∧ J j σ₁ ∧ j ≤ l.length ∧ m = l.length + 1 - j := fun hq =>
        ⟨l.length + 1 - (j + 1), by walk_at "om", ⟨vals, led'⟩, its₂, j + 1, e2, S₅, it₄, mm, hq, by walk_at "om", rfl⟩
      cases rf with
      | next => exact again q
      | cont => exact again q
      | brk => exact ⟨.next, _, .next, drop, mm, q⟩
      | ret r => exact ⟨_, _, .ret r, drop, mm, q⟩
  · have hjn : j = l.length := by walk_at "om"
    subst hjn
    refine X.done s' _ _ (ro _ σ₁ its₁ s' hJ S₁) hit fun h₁ tk hk => wpAny_execs_nil ?_
    obtain ⟨its₂, e2, i2⟩ := its_of (h := s'.heap) (wr := wr) fun b hb => let ⟨o, e, _⟩ := X.here _ _ hit b hb; ⟨o, e⟩
    have mono := mono_wr nseq (h' := h₁) (by rw [hw₁]; exact hk)
    have nd := (List.nodup_cons.mp S₁.nd).2
    have nd2 := List.nodup_append.mp (by rw [← List.map_append]; exact nd : ((hide its₁).map (·.1) ++ σ₁.led.map (·.1)).Nodup)
    have S₆ : St F σ₁ { s' with heap := h₁, toks := tk } := S₁.go (h' := h₁) (its₁.map (·.1)) σ₁.led (fun b o e n => hk b o (by rw [← hw₁]; exact n) e) (fun a ha => by rw [List.map_append, hide_keys]; exact List.mem_append.mpr (.inl ha)) mono
      (fun p hp => (S₁.rep p (List.mem_append.mpr (.inr hp))).keep mono fun x e => hk _ _ (fun q => nd2.2.2 p.1 (by rw [hide_keys, hw₁]; exact q) p.1 (List.mem_map_of_mem hp) rfl) e) nd2.2.1 fun a ha => .inl (by rw [List.map_append]; exact List.mem_append.mpr (.inr ha))
    exact ⟨.next, σ₁, .next, S₆, m₁.trans mono, done σ₁ hJ⟩
theorem binds_name {x : Str} {p : Pos} {y : AV} {i : Nat} (hx : idxOf F.names x = some i) : Binds F (.Name x p) y σ ⟨σ.vals.set i (some y), σ.led⟩ := fun s v Q E S r k => wpAny_assign_Name (w_bind S hx r k)
end
end Mine
end
section
open PySem PySem.W PyProof.Rows PySem.Calls
set_option Elab.async false
set_option linter.unusedVariables false
set_option maxRecDepth 10000
namespace Mine
theorem intsAre {h : Heap} : ∀ {l : List Int} {vs : List Value}, RepL h (zs l) vs → IntsAre vs l
  | [], _, .nil => .nil
  | i :: l, _, .cons r q => by cases r; exact .cons _ _ (intsAre q)
section
variable {F : Fx} {E : Value → Shared → Prop} {σ : Sig}
theorem cLine_is : cLine = 9900 := rfl
theorem St.units {s : Shared} (S : St F σ s) : F.A.units + 64 < cLine := by have := S.ok.un; rw [cLine_is]; walk_at "om"
theorem o_ne_ints {a b : Addr} {l m : List Int} {Q : AV → Sig → Prop} (ha : Has F σ a (.list (zs l))) (hb : Has F σ b (.list (zs m))) (h : Q (.bool (!decide (l = m))) σ) : WO2 F E Rep (compareOp .NotEq) (.ref a) (.ref b) σ Q := by
  rintro s v u S ⟨⟩ ⟨⟩
  obtain ⟨vs, n, e, r⟩ := S.has ha
  obtain ⟨us, k, e', r'⟩ := S.has hb
  exact ke_ne_ints (PySem.IsL.isList e) (PySem.IsL.isList e') (intsAre r) (intsAre r') S.units (.here' S (.bool _) h)
theorem o_eq_ints {a b : Addr} {l m : List Int} {Q : AV → Sig → Prop} (ha : Has F σ a (.list (zs l))) (hb : Has F σ b (.list (zs m))) (h : Q (.bool (decide (l = m))) σ) : WO2 F E Rep (compareOp .Eq) (.ref a) (.ref b) σ Q := by
  rintro s v u S ⟨⟩ ⟨⟩
  obtain ⟨vs, n, e, r⟩ := S.has ha
  obtain ⟨us, k, e', r'⟩ := S.has hb
  exact ke_eq_ints (PySem.IsL.isList e) (PySem.IsL.isList e') (intsAre r) (intsAre r') S.units (.here' S (.bool _) h)
inductive NegQ (Q : AV → Sig → Prop) (v : AV) (σ₁ : Sig) : Prop where
  | mk (i : Int) (e : v = .int i) (q : Q (.int (-i)) σ₁)
theorem we_neg {x : Expr} {p : Pos} {Q : AV → Sig → Prop} (h : WE F E (eval x F.env) σ (NegQ Q)) : WE F E (eval (.UnaryOp .USub x p) F.env) σ Q := by
  intro s S
  rw [arm_eval_UnaryOp]
  refine wpAny_bind (h.then S ?_)
  rintro v s₁ x σ₁ r S₁ m ⟨i, rfl, q⟩
  cases r
  refine wpAny_bind (wpAny_standAt (wpAny_holding (neg_int ?_)))
  exact (Post.here S₁ (.int _ _) q).up m
noncomputable abbrev RPart : Heap → Option Int → Value → Prop := fun _ o v => IsPart v o
theorem wp_none {Q : Option Int → Sig → Prop} (h : Q none σ) : W F E RPart (evalPart none F.env) σ Q := fun s S => evalPart_none_step (.here' S .none h)
inductive PartQ (Q : Option Int → Sig → Prop) (v : AV) (σ₁ : Sig) : Prop where
  | mk (i : Int) (e : v = .int i) (q : Q (some i) σ₁)
theorem wp_some {e : Expr} {Q : Option Int → Sig → Prop} (h : WE F E (eval e F.env) σ (PartQ Q)) : W F E RPart (evalPart (some e) F.env) σ Q := by
  intro s S
  refine evalPart_some_step (h.then S ?_)
  rintro v s₁ x σ₁ r S₁ m ⟨i, rfl, q⟩
  cases r
  exact ⟨some i, σ₁, .int _ _, S₁, m, q⟩
noncomputable def Picks (l l' : List AV) (lo hi st : Option Int) : Prop := ∀ h vs, RepL h l vs → RepL h l' (slicePick vs.toArray lo hi st).toList
theorem picks_from (l : List AV) (a : Nat) : Picks l (l.drop a) (some a) none none := fun h vs r => by
  rw [slicePick_from']
  refine RepL.of_get (by simp [r.length]) fun i x v hx hv => ?_
  simp only [List.toList_toArray, List.getElem?_drop] at hx hv
  exact r.get hx hv
theorem picks_upto (l : List AV) (a : Nat) : Picks l (l.take a) none (some a) none := fun h vs r => by
  rw [slicePick_upto']
  refine RepL.of_get (by simp [r.length]) fun i x v hx hv => ?_
  simp only [List.toList_toArray, List.getElem?_take] at hx hv
  split at hx
  · rw [if_pos (by assumption)] at hv; exact r.get hx hv
  · cases hx
theorem picks_last (l : List AV) : Picks l (l.drop (l.length - 1)) (some (-1)) none none := fun h vs r => by
  have := slicePick_last vs.toArray 1 (Nat.le_refl _)
  rw [show (-((1 : Nat) : Int)) = -1 by rfl] at this
  rw [this]
  refine RepL.of_get (by simp [r.length]) fun i x v hx hv => ?_
  simp only [List.toList_toArray, List.getElem?_drop, List.size_toArray] at hx hv
  rw [← r.length] at hv
  exact r.get hx hv
inductive SliceQ (a : Addr) (l l' : List AV) (Q : AV → Sig → Prop) (lo hi st : Option Int) (σ₄ : Sig) (F : Fx) : Prop where
  | mk (h1 : Has F σ₄ a (.list l)) (h2 : l.length ≤ sizeLine) (h3 : st ≠ some 0) (h4 : Picks l l' lo hi st) (h5 : ∀ b, b ∉ σ₄.led.map (·.1) → Q (.ref b) ⟨σ₄.vals, (b, .list l') :: σ₄.led⟩)
noncomputable abbrev SliceQ3 (F : Fx) (a : Addr) (l l' : List AV) (Q : AV → Sig → Prop) (lo hi st : Option Int) (σ₄ : Sig) : Prop := SliceQ a l l' Q lo hi st σ₄ F
noncomputable abbrev SliceQ2 (F : Fx) (E : Value → Shared → Prop) (a : Addr) (l l' : List AV) (step : Option Expr) (Q : AV → Sig → Prop) (lo hi : Option Int) (σ₃ : Sig) : Prop := W F E RPart (evalPart step F.env) σ₃ (SliceQ3 F a l l' Q lo hi)
noncomputable abbrev SliceQ1 (F : Fx) (E : Value → Shared → Prop) (a : Addr) (l l' : List AV) (upper step : Option Expr) (Q : AV → Sig → Prop) (lo : Option Int) (σ₂ : Sig) : Prop := W F E RPart (evalPart upper F.env) σ₂ (SliceQ2 F E a l l' step Q lo)
inductive SliceQ0 (F : Fx) (E : Value → Shared → Prop) (a : Addr) (l l' : List AV) (lower upper step : Option Expr) (Q : AV → Sig → Prop) (x : AV) (σ₁ : Sig) : Prop where
  | mk (e : x = .ref a) (h : W F E RPart (evalPart lower F.env) σ₁ (SliceQ1 F E a l l' upper step Q))
theorem we_slice {value : Expr} {lower upper step : Option Expr} {p p' : Pos} {Q : AV → Sig → Prop} (a : Addr) (l l' : List AV)
    (h : WE F E (eval value F.env) σ (SliceQ0 F E a l l' lower upper step Q))
    (hs : ∀ b, ∃ ops, subscripted (.Slice lower upper step p') false (.ref a) (.ref b) = operate ops (getItem (.ref a) (.ref b)) := by intro b; exact ⟨_, by with_unfolding_all rfl⟩) :
    WE F E (eval (.Subscript value (.Slice lower upper step p') p) F.env) σ Q := by
  intro s S
  refine Subscript_ (h.then S ?_)
  rintro v s₁ x σ₁ rv S₁ m₁ ⟨rfl, h₁⟩
  cases rv
  refine wpAny_Slice (h₁.then S₁ ?_)
  rintro vl s₂ lo σ₂ r₂ S₂ m₂ h₂
  refine h₂.then S₂ ?_
  rintro vu s₃ hi σ₃ r₃ S₃ m₃ h₃
  refine h₃.then S₃ ?_
  rintro vt s₄ st σ₄ r₄ S₄ m₄ ⟨ha, hsz, h0, hp, q⟩
  obtain ⟨vs, n, e, r⟩ := S₄.has ha
  obtain ⟨ops, hops⟩ := hs s₄.heap.objs.size
  have hk : ∀ b o, s₄.heap.get? b = some o → (s₄.heap.push { cls := .type "slice", data := .fields #[vl, vu, vt] }).get? b = some o := fun b o e => Heap.get?_push_of_some _ e
  have S₅ : St F σ₄ { s₄ with heap := s₄.heap.push { cls := .type "slice", data := .fields #[vl, vu, vt] } } := S₄.grow (tk := s₄.toks) hk
  have el := hk _ _ e
  have hl : (s₄.heap.push { cls := .type "slice", data := .fields #[vl, vu, vt] }).IsList a vs.toArray := PySem.IsL.isList el
  refine tail_any (T := "list") (Heap.IsList.typeIs (s := { s₄ with heap := s₄.heap.push { cls := .type "slice", data := .fields #[vl, vu, vt] } }) hl) slot_list_getitem.lookup ?_ hops
  refine wpAny_getItem_list_slice hl (Heap.IsSliceOf.new ..) r₂ r₃ r₄ h0 ?_ (by rw [List.size_toArray, ← r.length]; exact hsz)
  have hk2 : ∀ b o, (s₄.heap.push { cls := .type "slice", data := .fields #[vl, vu, vt] }).get? b = some o → ((s₄.heap.push { cls := .type "slice", data := .fields #[vl, vu, vt] }).push { cls := .type "list", data := .seq (slicePick vs.toArray lo hi st) }).get? b = some o := fun b o e => Heap.get?_push_of_some _ e
  have hn := size_none (s₄.heap.push { cls := .type "slice", data := .fields #[vl, vu, vt] })
  have mm : Mono s₄.heap ((s₄.heap.push { cls := .type "slice", data := .fields #[vl, vu, vt] }).push { cls := .type "list", data := .seq (slicePick vs.toArray lo hi st) }) := .of_keep fun b o e => hk2 b o (hk b o e)
  refine ⟨_, _, .ref _, S₅.alloc (tk := s₄.toks) hk2 hn (o := .list l') ⟨(slicePick vs.toArray lo hi st).toList, 0, ?_, (hp _ _ r).mono mm⟩, m₁.trans (m₂.trans (m₃.trans (m₄.trans mm))), q _ (not_led S₅ hn)⟩
  rw [Array.toArray_toList]
  exact Heap.get?_push_size _ rfl
end
end Mine
end
section
open PySem PySem.W PyProof.Rows PySem.Calls
set_option Elab.async false
set_option linter.unusedVariables false
set_option maxRecDepth 10000
namespace Mine

/-! ## iterators -/
theorem not_imm_data {h h' : Heap} {I : Addr} {o : Obj} (e : h.get? I = some o) (hd : ∀ vs n, o.data ≠ .seq vs n) (hk : ∀ b x, h.get? b = some x → b ≠ I → h'.get? b = some x) : Mono h h' := fun b c dd vs n hc e' => by
  by_cases hb : b = I
  · subst hb; rw [e] at e'; cases e'; exact absurd rfl (hd _ _)
  · exact hk b _ e' hb
theorem push_keep (h : Heap) (ob : Obj) : ∀ b o, h.get? b = some o → (h.push ob).get? b = some o := fun b o e => Heap.get?_push_of_some _ e
theorem go_list {w : World} {A : Around} {I ax : Addr} {i : Nat} {target : Expr} (ht : (∃ x p, target = .Name x p) ∨ ∃ elts k p, target = .Tuple elts k p) (v : Value) (s : Shared) (P : Unit → Shared → Prop) (E : Value → Shared → Prop) (hit : s.heap.IsListIter I ax i) (h : P () s) :
    wpAny (model pw w) A (letOwnedTupleGo target (.ref I) v) P E s := by
  rcases ht with ⟨x, p, rfl⟩ | ⟨elts, k, p, rfl⟩
  · exact wpAny_pure h
  · cases v with
    | ref T => exact wpAny_letOwnedTupleGo_listiter hit h
    | _ => exact wpAny_pure h
theorem iter_list {w : World} {A : Around} (hh : A.handled = none) {I ax : Addr} {l : List AV} {target : Expr} (ht : (∃ x p, target = .Name x p) ∨ ∃ elts k p, target = .Tuple elts k p) : Iter w A I [I] l (fun h => RepO w h ax (.list l)) (fun i h => h.IsListIter I ax i) target := by
  have hne : ∀ {h : Heap} {i : Nat}, RepO w h ax (.list l) → h.IsListIter I ax i → ax ≠ I := by
    rintro h i ⟨vs, n, e, _⟩ ⟨o, e', _, d⟩ rfl
    rw [e] at e'; cases e'; cases d
  refine ⟨fun i h h' st hk => st.at fun o e => hk I (.head _) o e, fun i h st b hb => ?_, fun i y s Q E hy ro st k => ?_, fun s Q E ro st k => ?_, fun i s Q E st k => wpAny_pyIter_listiter st k⟩
  · obtain ⟨o, e, _, d⟩ := st
    rw [List.mem_singleton.mp hb]
    exact ⟨o, e, fun vs n q => by rw [d] at q; cases q⟩
  · obtain ⟨vs, n, e, r⟩ := ro
    obtain ⟨v, hv, rv⟩ := r.some hy
    refine wpAny_pyNext_list_item st (PySem.IsL.isList e) (x := v) (by simpa using hv) fun h' hit' hs' => k v _ fun P E' hP => go_list ht v _ P E' hit' ?_
    have hk : ∀ b o, b ∉ [I] → s.heap.get? b = some o → h'.get? b = some o := fun b o hb e => (hs'.2 b (by simpa using hb)).trans e
    obtain ⟨o, e', _, d⟩ := st
    have mono : Mono s.heap h' := not_imm_data (I := I) e' (fun vs n q => by rw [d] at q; cases q) fun b x ex hb => (hs'.2 b hb).trans ex
    exact hP h' s.toks (rv.mono mono) hit' hk
  · obtain ⟨vs, n, e, r⟩ := ro
    exact wpAny_pyNext_list_end hh st (PySem.IsL.isList e) (by have := r.length; simp; walk_at "om") fun h' he' => k h' s.toks fun b o hb e => he' b o (by simpa using hb) e
noncomputable abbrev rangeL (a : Int) (n : Nat) : List AV := (List.range n).map fun (i : Nat) => .int (a + i)
theorem iter_range {w : World} {A : Around} (hh : A.handled = none) {I : Addr} (a : Int) (n : Nat) {x : Str} {p : Pos} : Iter w A I [I] (rangeL a n) (fun _ => True) (fun i h => IsRangeIter h I (a + (i : Nat) * 1) ((n : Int) - (i : Nat)) 1) (.Name x p) := by
  have Wk := Walks.range (prog := pw) (w := w) hh I a 1 n
  refine ⟨fun i h h' st hk => hk I (.head _) _ st, fun i h st b hb => ?_, fun i y s Q E hy ro st k => ?_, fun s Q E ro st k => ?_, Wk.self⟩
  · rw [List.mem_singleton.mp hb]
    exact ⟨_, st, fun vs n q => by cases q⟩
  · have hi : i < n := by have := (List.getElem?_eq_some_iff.mp hy).1; simpa using this
    refine Wk.item i s _ E hi st fun v h' tk hv st' hk => k v _ fun P E' hP => wpAny_pure (hP h' tk ?_ st' hk)
    obtain ⟨t, rfl⟩ := hv
    have : y = .int (a + i) := by simp [rangeL, hi] at hy; exact hy.symm
    rw [this, Int.mul_one]
    exact .int _ _
  · exact Wk.done s Q E (by simpa using st) k
noncomputable abbrev enumL : Nat → List AV → List AV
  | _, [] => []
  | i, x :: r => .tup (.type "tuple") [.int i, x] :: enumL (i + 1) r
theorem enumL_get : ∀ (l : List AV) (k i : Nat) (y : AV), (enumL k l)[i]? = some y → ∃ x, l[i]? = some x ∧ y = .tup (.type "tuple") [.int (k + i : Nat), x]
  | [], _, _, _, h => by simp [enumL] at h
  | x :: r, k, 0, y, h => by simp [enumL] at h; exact ⟨x, rfl, h.symm⟩
  | x :: r, k, i + 1, y, h => by
    obtain ⟨z, e, q⟩ := enumL_get r (k + 1) i y (by simpa [enumL] using h)
    exact ⟨z, by simpa using e, by rw [q, show k + 1 + i = k + (i + 1) by walk_at "om"]⟩
theorem enumL_len : ∀ (l : List AV) (k : Nat), (enumL k l).length = l.length
  | [], _ => rfl
  | x :: r, k => by simp [enumL, enumL_len r]
theorem iter_enum {w : World} {A : Around} (hh : A.handled = none) {e it ax : Addr} (hei : e ≠ it) {l : List AV} {elts : List Expr} {kk : Nat} {p : Pos} :
    Iter w A e [e, it] (enumL 0 l) (fun h => RepO w h ax (.list l)) (fun i h => (∃ old, IsEnum h e it i old) ∧ h.IsListIter it ax i) (.Tuple elts kk p) := by
  refine ⟨fun i h h' st hk => ⟨let ⟨old, q⟩ := st.1; ⟨old, hk e (.head _) _ q⟩, st.2.at fun o x => hk it (.tail _ (.head _)) o x⟩, fun i h st b hb => ?_, fun i y s Q E hy ro st k => ?_, fun s Q E ro st k => ?_, fun i s Q E st k => let ⟨old, q⟩ := st.1; wpAny_pyIter_enum q k⟩
  · rcases List.mem_cons.mp hb with rfl | hb
    · obtain ⟨old, q⟩ := st.1; exact ⟨_, q, fun vs n d => by cases d⟩
    · rw [List.mem_singleton.mp hb]
      obtain ⟨o, q, _, d⟩ := st.2
      exact ⟨o, q, fun vs n x => by rw [d] at x; cases x⟩
  · obtain ⟨vs, n, el, r⟩ := ro
    obtain ⟨⟨old, he⟩, hit⟩ := st
    obtain ⟨x, hx, rfl⟩ := enumL_get l 0 i y hy
    obtain ⟨v, hv, rv⟩ := r.some hx
    refine wpAny_pyNext_enum_item he hit (PySem.IsL.isList el) (x := v) (by simpa using hv) hei fun h' ho hit' hT hsz hk => k _ _ fun P E' hP => ?_
    have hTe : s.heap.objs.size ≠ e := Nat.ne_of_gt (Heap.lt_size he)
    obtain ⟨oi, ei, ci, di⟩ := hit
    refine wpAny_letOwnedTupleGo_enum ho fun h₂ he₂ hs₂ => ?_
    have hk₂ : ∀ b o, b ∉ [e, it] → s.heap.get? b = some o → h₂.get? b = some o := fun b o hb x => (hs₂.2 b fun q => hb (by simp [q])).trans (hk b o (fun q => hb (by simp [q])) (fun q => hb (by simp [q])) x)
    have mono : Mono s.heap h₂ := mono_wr (wr := [e, it]) (fun b hb => by
      rcases List.mem_cons.mp hb with rfl | hb
      · exact ⟨_, he, fun vs n d => by cases d⟩
      · rw [List.mem_singleton.mp hb]; exact ⟨oi, ei, fun vs n x => by rw [di] at x; cases x⟩) hk₂
    refine hP h₂ (s.toks + 1) ?_ ⟨⟨_, he₂⟩, hit'.at fun o y => (hs₂.2 it hei.symm).trans y⟩ hk₂
    have hT₂ : h₂.get? s.heap.objs.size = some ⟨.type "tuple", .none, .seq [Value.int i s.toks, v].toArray 0, #[]⟩ := (hs₂.2 _ hTe).trans hT
    rw [Nat.zero_add]
    exact Rep.tupL (.inl rfl) (fun _ => rfl) hT₂ (.cons (.int _ _) (.cons (rv.mono mono) .nil))
  · obtain ⟨vs, n, el, r⟩ := ro
    obtain ⟨⟨old, he⟩, hit⟩ := st
    rw [enumL_len] at he hit
    exact wpAny_pyNext_enum_end hh he hit (PySem.IsL.isList el) (by have := r.length; simp; walk_at "om") fun h' hx => k h' s.toks fun b o hb y => hx b o (fun q => hb (by simp [q])) y

/-! ## a loop's start -/
noncomputable def Starts (F : Fx) (target : Expr) (xv : AV) (σ σ₂ : Sig) (nw : Nat) (l : List AV) (Ro : Heap → Prop) : Prop := ∀ (s : Shared) (v : Value) (Q : Value → Shared → Prop) (E : Value → Shared → Prop), St F σ s → Rep s.heap xv v →
  (∀ I wr It its s', wr.length = nw → Iter F.w F.A I wr l Ro It target → its.map (·.1) = wr → It 0 s'.heap → St F ⟨σ₂.vals, hide its ++ σ₂.led⟩ s' → Mono s.heap s'.heap → Q (.ref I) s') → wpAny (model pw F.w) F.A (pyIter v) Q E s
section
variable {F : Fx} {E : Value → Shared → Prop} {σ : Sig}
theorem starts_list {target : Expr} {ax : Addr} {l : List AV} (ht : (∃ x p, target = .Name x p) ∨ ∃ elts k p, target = .Tuple elts k p) (ha : Has F σ ax (.list l)) (hd : F.hd = none := by rfl) : Starts F target (.ref ax) σ σ 1 l (fun h => RepO F.w h ax (.list l)) := by
  rintro s v Q E S ⟨⟩ k
  obtain ⟨vs, n, e, r⟩ := S.has ha
  refine wpAny_pyIter_list (PySem.IsL.isList e) ?_
  have hk : ∀ b o, s.heap.get? b = some o → (s.heap.push { cls := .type "list_iterator", data := .fields #[.ref ax, .int 0 0] }).get? b = some o := fun b o e => Heap.get?_push_of_some _ e
  have hn := size_none s.heap
  have hI : (s.heap.push { cls := .type "list_iterator", data := .fields #[.ref ax, .int 0 0] }).get? s.heap.objs.size = some { cls := .type "list_iterator", data := .fields #[.ref ax, .int 0 0] } := Heap.get?_push_size _ rfl
  have S₂ := S.alloc (tk := s.toks) hk hn (o := .obj { cls := .type "list_iterator", data := .fields #[.ref ax, .int 0 0] }) hI
  exact k s.heap.objs.size [s.heap.objs.size] _ [(s.heap.objs.size, { cls := .type "list_iterator", data := .fields #[.ref ax, .int 0 0] })] _ rfl (iter_list (S.ok.hh.trans hd) ht) rfl ⟨_, hI, rfl, rfl⟩ S₂ (.of_keep hk)
noncomputable def RangeO (a b : Int) (o : Obj) : Prop := ∃ t u v, o = { cls := .type "range", data := .fields #[.int a t, .int b u, .int 1 v] }
theorem o_range1 {b : Int} {Q : AV → Sig → Prop} (h : ∀ r o, r ∉ σ.led.map (·.1) → RangeO 0 b o → Q (.ref r) ⟨σ.vals, (r, .obj o) :: σ.led⟩) : WOL F E Rep (fun vs => call (.type "range") vs) [.int b] σ Q := by
  rintro s vs S r
  obtain ⟨_, rfl, r1⟩ := r.inv1
  cases r1 with | int _ tb =>
  refine call_range_1 ?_
  have hk := push_keep s.heap { cls := .type "range", data := .fields #[.int 0 s.toks, .int b tb, .int 1 (s.toks + 1)] }
  exact ⟨_, _, .ref _, S.alloc hk (size_none _) (o := .obj _) (Heap.get?_push_size _ rfl), .of_keep hk, h _ _ (not_led S (size_none _)) ⟨_, _, _, rfl⟩⟩
theorem o_range2 {a b : Int} {Q : AV → Sig → Prop} (h : ∀ r o, r ∉ σ.led.map (·.1) → RangeO a b o → Q (.ref r) ⟨σ.vals, (r, .obj o) :: σ.led⟩) : WOL F E Rep (fun vs => call (.type "range") vs) [.int a, .int b] σ Q := by
  rintro s vs S r
  obtain ⟨_, _, rfl, r1, r2⟩ := r.inv2
  cases r1 with | int _ ta =>
  cases r2 with | int _ tb =>
  refine call_range_2 ?_
  have hk := push_keep s.heap { cls := .type "range", data := .fields #[.int a ta, .int b tb, .int 1 s.toks] }
  exact ⟨_, _, .ref _, S.alloc hk (size_none _) (o := .obj _) (Heap.get?_push_size _ rfl), .of_keep hk, h _ _ (not_led S (size_none _)) ⟨_, _, _, rfl⟩⟩
theorem starts_range {x : Str} {p : Pos} {r : Addr} {o : Obj} {a b : Int} {σ₂ : Sig} (hr : (r, AO.obj o) ∈ σ.led) (ho : RangeO a b o) (hw : Weak σ σ₂) (ha : -(2 ^ 62) ≤ a) (ha' : a < 2 ^ 62) (hb : -(2 ^ 62) ≤ b) (hb' : b < 2 ^ 62) (hd : F.hd = none := by rfl) : Starts F (.Name x p) (.ref r) σ σ₂ 1 (rangeL a (b - a).toNat) (fun _ => True) := by
  rintro s v Q E S ⟨⟩ k
  obtain ⟨t, u, z, rfl⟩ := ho
  have e := S.rep _ hr
  refine wpAny_pyIter_range e (small_one ha ha' hb hb') ?_
  have hk := push_keep s.heap { cls := .type "range_iterator", data := .fields #[rawInt a, rawInt (Builtin.Range.rangeSize a b 1), rawInt 1] }
  have hI : (s.heap.push { cls := .type "range_iterator", data := .fields #[rawInt a, rawInt (Builtin.Range.rangeSize a b 1), rawInt 1] }).get? s.heap.objs.size = some { cls := .type "range_iterator", data := .fields #[rawInt a, rawInt (Builtin.Range.rangeSize a b 1), rawInt 1] } := Heap.get?_push_size _ rfl
  have S₂ := (S.weak hw).alloc (tk := s.toks) hk (size_none _) (o := .obj _) hI
  refine k s.heap.objs.size [s.heap.objs.size] _ [(s.heap.objs.size, _)] _ rfl (iter_range (S.ok.hh.trans hd) a _) rfl ?_ S₂ (.of_keep hk)
  have q1 : a + ((0 : Nat) : Int) * 1 = a := by simp
  have q2 : (((b - a).toNat : Nat) : Int) - ((0 : Nat) : Int) = Builtin.Range.rangeSize a b 1 := by rw [rangeSize_one]; split <;> walk_at "om"
  show IsRangeIter _ _ (a + ((0 : Nat) : Int) * 1) ((((b - a).toNat : Nat) : Int) - ((0 : Nat) : Int)) 1
  rw [q1, q2]
  exact hI
noncomputable def EnumO (ax e it : Addr) (oe oi : Obj) : Prop := oe = { cls := .type "enumerate", dict := none, data := .fields #[.none, .bool false, .ref it, rawInt 0, .none, .none], slots := #[] } ∧ oi.cls = .type "list_iterator" ∧ oi.data = .fields #[.ref ax, .int (0 : Nat) 0]
theorem o_enum {ax : Addr} {l : List AV} {Q : AV → Sig → Prop} (ha : Has F σ ax (.list l)) (h : ∀ e it oe oi, e ∉ σ.led.map (·.1) → it ∉ σ.led.map (·.1) → e ≠ it → EnumO ax e it oe oi → Q (.ref e) ⟨σ.vals, (e, .obj oe) :: (it, .obj oi) :: σ.led⟩) :
    WOL F E Rep (fun vs => call (.type "enumerate") vs) [.ref ax] σ Q := by
  rintro s vs S r
  obtain ⟨_, rfl, r1⟩ := r.inv1
  cases r1
  obtain ⟨ws, n, el, rl⟩ := S.has ha
  refine call_enumerate_list (PySem.IsL.isList el) fun h' he hi hsz hk => ?_
  obtain ⟨oi, ei, ci, di⟩ := hi
  have mono : Mono s.heap h' := .of_keep hk
  have hn1 := size_none s.heap
  have hn2 : s.heap.get? (s.heap.objs.size + 1) = none := by
    cases q : s.heap.get? (s.heap.objs.size + 1) with
    | none => rfl
    | some o => exact absurd (Heap.lt_size q) (Nat.not_lt.mpr (Nat.le_succ _))
  have nl1 := not_led S hn1
  have nl2 := not_led S hn2
  refine ⟨.ref _, ⟨σ.vals, (s.heap.objs.size + 1, .obj _) :: (s.heap.objs.size, .obj oi) :: σ.led⟩, .ref _, ?_, mono, h _ _ _ _ nl2 nl1 (Nat.succ_ne_self _) ⟨rfl, ci, di⟩⟩
  refine S.go (h' := h') (tk := s.toks) [] _ (fun b o e _ => hk b o e) (fun _ h => nomatch h) mono (fun p hp => ?_) ?_ fun a ha => ?_
  · rcases List.mem_cons.mp hp with rfl | hp
    · exact he
    · rcases List.mem_cons.mp hp with rfl | hp
      · exact ei
      · exact (S.rep p hp).keep mono fun x e => hk _ _ e
  · refine List.nodup_cons.mpr ⟨fun q => ?_, List.nodup_cons.mpr ⟨nl1, (List.nodup_cons.mp S.nd).2⟩⟩
    rcases List.mem_cons.mp q with q | q
    · exact absurd q (Nat.succ_ne_self _)
    · exact nl2 q
  · rcases List.mem_cons.mp ha with rfl | ha
    · exact .inr hn2
    · rcases List.mem_cons.mp ha with rfl | ha
      · exact .inr hn1
      · exact .inl ha
theorem starts_enum {elts : List Expr} {kk : Nat} {p : Pos} {ax e it : Addr} {oe oi : Obj} {led : List (Addr × AO)} {l : List AV} (hei : e ≠ it) (ho : EnumO ax e it oe oi) (hσ : σ.led = (e, .obj oe) :: (it, .obj oi) :: led) (hd : F.hd = none := by rfl) : Starts F (.Tuple elts kk p) (.ref e) σ ⟨σ.vals, led⟩ 2 (enumL 0 l) (fun h => RepO F.w h ax (.list l)) := by
  rintro s v Q E S ⟨⟩ k
  have he : s.heap.get? e = some oe := S.rep (e, .obj oe) (by rw [hσ]; exact .head _)
  have hi : s.heap.get? it = some oi := S.rep (it, .obj oi) (by rw [hσ]; exact .tail _ (.head _))
  have S' : St F ⟨σ.vals, hide [(e, oe), (it, oi)] ++ led⟩ s := by
    have : (⟨σ.vals, hide [(e, oe), (it, oi)] ++ led⟩ : Sig) = σ := by obtain ⟨a, b⟩ := σ; cases hσ; rfl
    rw [this]; exact S
  obtain ⟨rfl, ci, di⟩ := ho
  exact wpAny_pyIter_enum he (k e [e, it] _ [(e, _), (it, oi)] _ rfl (iter_enum (S.ok.hh.trans hd) hei) rfl ⟨⟨_, he⟩, ⟨oi, hi, ci, di⟩⟩ S' (.refl _))
inductive StartQ (F : Fx) (target : Expr) (nw : Nat) (l : List AV) (Ro : Heap → Prop) (J : Nat → Sig → Prop) (xv : AV) (σ₁ : Sig) : Prop where
  | mk (σ₂ : Sig) (s : Starts F target xv σ₁ σ₂ nw l Ro) (j : J 0 σ₂)
/-- a for loop -/
theorem ws_for {target iter : Expr} {p : Pos} {body : List Stmt} {Q : AF → Sig → Prop} (l : List AV) (nw : Nat) (Ro : Heap → Prop) (J : Nat → Sig → Prop)
    (h : WE F E (eval iter F.env) σ (StartQ F target nw l Ro J))
    (ro : ∀ j σ its s, J j σ → St F ⟨σ.vals, hide its ++ σ.led⟩ s → Ro s.heap)
    (turn : ∀ (j : Nat) (y : AV) (σ₁ : Sig) (its : List (Addr × Obj)), its.length = nw → l[j]? = some y → J j σ₁ → (∀ a ∈ its.map (·.1), a ∉ σ₁.led.map (·.1)) → TurnQ F target body y (hide its) (J (j + 1)) Q σ₁)
    (done : ∀ σ₁, J l.length σ₁ → Q .next σ₁) (hs : ∀ x, foldedSetIterable iter F.env x = pure x := by intro _; with_unfolding_all rfl) : WS F E (exec (.For target iter body [] p) F.env) σ Q := by
  intro s S
  refine wpAny_For (h.then S ?_) hs
  rintro v s₁ xv σ₁ rv S₁ m ⟨σ₂, st, h0⟩
  refine st s₁ v _ _ S₁ rv fun I wr It its s₂ hn X hw hI S₂ m₂ => ?_
  exact for_core (p := p) (h := s.heap) (σ := σ₂) J X hw ro hI S₂ (m.trans m₂) h0 (fun j y σ₃ its hl => turn j y σ₃ its (hl.trans hn)) done
theorem ro_true {J : Nat → Sig → Prop} : ∀ j σ its s, J j σ → St F ⟨σ.vals, hide its ++ σ.led⟩ s → True := fun _ _ _ _ _ _ => trivial
theorem ro_has {J : Nat → Sig → Prop} {ax : Addr} {o : AO} (h : ∀ j σ, J j σ → Has F σ ax o) : ∀ j σ its s, J j σ → St F ⟨σ.vals, hide its ++ σ.led⟩ s → RepO F.w s.heap ax o := fun j σ its s hJ S => by
  refine S.has ?_
  rcases h j σ hJ with z | z
  · exact .inl (List.mem_append.mpr (.inr z))
  · exact .inr z
/-- one iterator object -/
theorem one_it {its : List (Addr × Obj)} (h : its.length = 1) : ∃ I o, its = [(I, o)] := by
  cases its with
  | nil => cases h
  | cons a r => cases r with
    | nil => exact ⟨a.1, a.2, rfl⟩
    | cons _ _ => simp at h
theorem two_it {its : List (Addr × Obj)} (h : its.length = 2) : ∃ e oe it oi, its = [(e, oe), (it, oi)] := by
  cases its with
  | nil => cases h
  | cons a r =>
    obtain ⟨I, o, rfl⟩ := one_it (its := r) (by simpa using h)
    exact ⟨a.1, a.2, I, o, rfl⟩
/-- over a list that stood ahead of the call -/
theorem ws_for_ro {x : Str} {px p : Pos} {iter : Expr} {body : List Stmt} {i : Nat} {Q : AF → Sig → Prop} (hx : idxOf F.names x = some i) (ax : Addr) (l : List AV) (J : Nat → Sig → Prop) (hro : RepO F.w F.h₀ ax (.list l) ∧ ax ∉ F.mods)
    (h : WE F E (eval iter F.env) σ fun xv σ₁ => xv = .ref ax ∧ J 0 σ₁)
    (turn : ∀ (j : Nat) (y : AV) (σ₁ : Sig) (I : Addr) (o : Obj), l[j]? = some y → J j σ₁ → I ∉ σ₁.led.map (·.1) → WS F NoE (execs body F.env) ⟨σ₁.vals.set i (some y), (I, .obj o) :: σ₁.led⟩ (ForEnd [(I, .obj o)] (J (j + 1)) Q))
    (done : ∀ σ₁, J l.length σ₁ → Q .next σ₁) (hs : ∀ x, foldedSetIterable iter F.env x = pure x := by intro _; with_unfolding_all rfl) (hd : F.hd = none := by rfl) : WS F E (exec (.For (.Name x px) iter body [] p) F.env) σ Q := by
  refine ws_for l 1 (fun h => RepO F.w h ax (.list l)) J (h.mono ?_) (ro_has fun _ _ _ => .inr hro) ?_ done hs
  · rintro _ σ₁ ⟨rfl, h0⟩
    exact ⟨σ₁, starts_list (.inl ⟨_, _, rfl⟩) (.inr hro) hd, h0⟩
  · rintro j y σ₁ its hn hy hJ hni
    obtain ⟨I, o, rfl⟩ := one_it hn
    exact ⟨_, binds_name hx, turn j y σ₁ I o hy hJ (hni I (.head _))⟩
/-- the names of a tuple target -/
inductive Names (F : Fx) : List Expr → List Nat → Prop where
  | nil : Names F [] []
  | cons {x : Str} {p : Pos} {i : Nat} {xs : List Expr} {is : List Nat} : idxOf F.names x = some i → Names F xs is → Names F (.Name x p :: xs) (i :: is)
theorem Names.star {elts : List Expr} {is : List Nat} (n : Names F elts is) : ∀ env, (assignEach elts env).findIdx? (·.1) = none ∧ (assignEach elts env).length = elts.length := by
  induction n with
  | nil => intro env; exact ⟨rfl, rfl⟩
  | @cons x p i xs is hx _ ih =>
    intro env
    have q : assignEach (.Name x p :: xs) env = (false, assign (.Name x p) env) :: assignEach xs env := rfl
    rw [q]
    refine ⟨?_, by simp [(ih env).2]⟩
    rw [List.findIdx?_cons]
    simp [(ih env).1]
theorem w_names {elts : List Expr} {is : List Nat} (pl : Names F elts is) : ∀ {σ : Sig} {s : Shared} {xs : List AV} {vs : List Value} {Q : Unit → Shared → Prop}, St F σ s → RepL s.heap xs vs → xs.length = elts.length →
    (∀ s', St F ⟨setAll σ.vals is xs, σ.led⟩ s' → Mono s.heap s'.heap → Q () s') → wpAny (model pw F.w) F.A (assignInOrder ((assignEach elts F.env).map (·.2)) vs) Q E s := by
  induction pl with
  | nil =>
    intro σ s xs vs Q S r hl k
    cases xs with
    | cons _ _ => simp at hl
    | nil => cases r; exact assignInOrder_nil (k s S (.refl _))
  | @cons x p i xs is hx _ ih =>
    intro σ s xs vs Q S r hl k
    cases r with
    | nil => simp at hl
    | cons r rs =>
      refine assignInOrder_cons (wpAny_assign_Name (w_bind S hx r fun s' S' m => ?_))
      exact ih S' (rs.mono m) (by simpa using hl) fun s'' S'' m' => k s'' S'' (m.trans m')
theorem binds_tuple {elts : List Expr} {is : List Nat} {k : Nat} {p : Pos} {xs : List AV} (pl : Names F elts is) (hl : xs.length = elts.length) (hd : F.hd = none := by rfl) : Binds F (.Tuple elts k p) (.tup (.type "tuple") xs) σ ⟨setAll σ.vals is xs, σ.led⟩ := by
  intro s v Q E S r kk
  obtain ⟨a, vs, rfl, ht, rl⟩ := r.isTup
  refine assign_Tuple_tuple (S.ok.hh.trans hd) ht (by rw [(pl.star _).2, List.size_toArray, ← rl.length, hl]) (pl.star _).1 fun h' hx => ?_
  have hk : ∀ b o, s.heap.get? b = some o → h'.get? b = some o := fun b o e => hx b o (Nat.ne_of_lt (Heap.lt_size e)) e
  have S₂ : St F σ { s with heap := h' } := S.grow (tk := s.toks) hk
  exact w_names pl S₂ (rl.mono (.of_keep hk)) hl fun s' S' m' => kk s' S' ((Mono.of_keep hk).trans m')
end
end Mine
end
section
open PySem PySem.W PyProof.Rows PySem.Calls
set_option Elab.async false
set_option linter.unusedVariables false
set_option maxRecDepth 10000
namespace Mine

/-! ## cells -/
noncomputable def cellLed (n : Nat) : List (Str × NameKind) → List (Addr × AO)
  | [] => []
  | (_, kind) :: r => if kind == .cell then (n, .cell none) :: cellLed (n + 1) r else cellLed n r
theorem cellLed_ok (w : World) : ∀ (names : List (Str × NameKind)) (h : Heap), (∀ p ∈ cellLed h.objs.size names, RepO w (pushCells h names) p.1 p.2 ∧ h.objs.size ≤ p.1) ∧ ((cellLed h.objs.size names).map (·.1)).Nodup
  | [], h => ⟨fun _ h => (nomatch h), .nil⟩
  | (name, kind) :: r, h => by
    unfold cellLed pushCells
    split
    · obtain ⟨h1, h2⟩ := cellLed_ok w r (h.push { cls := .type "cell", data := .cell none })
      rw [Heap.size_push] at h1 h2
      refine ⟨fun p hp => ?_, List.nodup_cons.mpr ⟨fun q => ?_, h2⟩⟩
      · rcases List.mem_cons.mp hp with rfl | hp
        · exact ⟨⟨none, ⟨_, pushCells_keeps _ _ _ _ (Heap.get?_push_size _ rfl), rfl⟩, trivial⟩, Nat.le_refl _⟩
        · exact ⟨(h1 p hp).1, Nat.le_of_succ_le (h1 p hp).2⟩
      · obtain ⟨p, hp, e⟩ := List.mem_map.mp q
        have := (h1 p hp).2
        rw [e] at this
        exact absurd this (Nat.not_succ_le_self _)
    · exact cellLed_ok w r h
section
variable {F : Fx} {E : Value → Shared → Prop} {σ : Sig}
/-- a name of a cell -/
theorem we_cell {x : Str} {p : Pos} {c : Addr} {av : AV} {Q : AV → Sig → Prop} (hc : F.env.cells.lookup x = some c) (ha : Has F σ c (.cell (some av))) (h : Q av σ)
    (hl : F.env.kindOf x = some .cell ∨ F.env.kindOf x = some .free) (hd : (x == ("__debug__" : Str)) = false := by decide) (hn : (x == ("__classdict__" : Str)) = false := by decide) : WE F E (eval (.Name x p) F.env) σ Q := by
  intro s S
  obtain ⟨v, hv, r⟩ := S.has ha
  cases v with
  | none => exact r.elim
  | some v =>
    refine wpAny_Name ?_ hd
    rcases hl with hl | hl
    · exact wpAny_loadName_cell S.ok.kind hl hc hv (.here' S r h)
    · exact wpAny_loadName_free S.ok.kind hl hc hv (.here' S r h) hn
theorem St.cellPut {s : Shared} (S : St F σ s) {c : Addr} {x : Option AV} {y : AV} {v : Value} {led' : List (Addr × AO)} (u : Upd c (.cell x) (.cell (some y)) σ.led led') (r : Rep s.heap y v) {h' : Heap} {tk : Nat} (hc : h'.IsCell c (some v)) (hs : Heap.SameBut c s.heap h') : St F ⟨σ.vals, led'⟩ { s with heap := h', toks := tk } ∧ Mono s.heap h' := by
  obtain ⟨v₀, ⟨o, e, d⟩, _⟩ := S.has (.inl u.mem)
  have mono : Mono s.heap h' := not_imm_data e (fun vs n q => by rw [d] at q; cases q) fun b x ex hb => (hs.2 b hb).trans ex
  exact ⟨S.upd u (fun b x e nb => (hs.2 b nb).trans e) mono ⟨some v, hc, r.mono mono⟩, mono⟩
theorem binds_cell {x : Str} {p : Pos} {c : Addr} {y : AV} {o : Option AV} {led' : List (Addr × AO)} (hc : F.env.cells.lookup x = some c) (u : Upd c (.cell o) (.cell (some y)) σ.led led') (hl : F.env.kindOf x = some .cell) : Binds F (.Name x p) y σ ⟨σ.vals, led'⟩ := by
  intro s v Q E S r k
  obtain ⟨v₀, hv, _⟩ := S.has (.inl u.mem)
  refine wpAny_assign_Name (wpAny_storeName_cell S.ok.kind hl hc hv fun h' hc' hs' => ?_)
  obtain ⟨S', m⟩ := S.cellPut (tk := s.toks) u r hc' hs'
  exact k _ S' m
inductive CellQ (c : Addr) (Q : AF → Sig → Prop) (v : AV) (σ' : Sig) : Prop where
  | mk (o : Option AV) (led' : List (Addr × AO)) (u : Upd c (.cell o) (.cell (some v)) σ'.led led') (q : Q .next ⟨σ'.vals, led'⟩)
theorem ws_assign_cell {x : Str} {p p' : Pos} {value : Expr} {c : Addr} {Q : AF → Sig → Prop} (hc : F.env.cells.lookup x = some c) (hl : F.env.kindOf x = some .cell)
    (h : WE F E (eval value F.env) σ (CellQ c Q))
    (hs : swapsWith value (some (.Name x p')) p.line F.env = pure false := by with_unfolding_all rfl) : WS F E (exec (.Assign [.Name x p'] value p) F.env) σ Q := by
  intro s S
  refine wpAny_Assign_Name (h.then S ?_) hs
  rintro v s' av σ' r S' m ⟨o, led', u, q⟩
  obtain ⟨v₀, hv, _⟩ := S'.has (.inl u.mem)
  refine wpAny_storeName_cell S'.ok.kind hl hc hv fun h' hc' hs' => ?_
  obtain ⟨S'', m'⟩ := S'.cellPut (tk := s'.toks) u r hc' hs'
  exact ⟨.next, _, .next, S'', m.trans m', q⟩
end

/-! ## comprehensions -/
noncomputable abbrev Fx.comp (F : Fx) (scope : Scope) (cl : List (Str × Addr)) (C : Addr) (names globs : List Str) (h₀ : Heap) (mods : List Addr) (g : Array GenState) (os : OsState) : Fx :=
  { w := F.w, hT := F.hT, h₀, mods, env := compEnvC scope (cellsFrom (C + 1) scope.names cl) C F.env, names, globs, A := F.A, g, os, k := F.k, hd := F.hd }
noncomputable def compOk (sc sc' : Scope) (names globs : List Str) : Bool :=
  (match sc.kind with | .function => true | _ => false) && names.all (fun x => decide (sc'.names.lookup x = some .local) && !(x == ("__debug__" : Str))) && decide names.Nodup &&
    globs.all (fun x => decide (sc'.names.lookup x = some .globalImplicit) && !(x == ("__debug__" : Str))) && sc.names.all (fun x => !decide (x.2 = .local) || decide (sc.names.lookup x.1 = some .local))
theorem newEnv_comp {M : Model} {A : Around} {E : Value → Shared → Prop} {s : Shared} {scope : Scope} {globals : Addr} {cl : List (Str × Addr)} {qual : Str} {env : Env} {Q : Env → Shared → Prop}
    (h : Q { scope, locals := s.heap.objs.size, globals, cells := cellsFrom (s.heap.objs.size + 1) scope.names cl, qual, func := none, code := env.code, frame := env.frame, builtins := env.builtins }
      { s with heap := pushCells (s.heap.push { cls := .type "dict", data := .dict #[] }) scope.names }) :
    wpAny M A (newFunctionEnv scope globals cl [] qual none .none (some env)) Q E s := by
  simp only [newFunctionEnv, Option.isSome_some, if_true]
  refine wpAny_bind (wpAny_alloc ?_)
  refine wpAny_bind (wpAny_layCells _ (fun name kind cells => by cases hkc : kind == NameKind.cell <;> simp [hkc]) _ _ _ _ ?_)
  rw [show ({ s with heap := s.heap.push { cls := .type "dict", data := .dict #[] } } : Shared).heap.objs.size = s.heap.objs.size + 1 from Heap.size_push ..]
  exact wpAny_bind (wpAny_pure (wpAny_pure h))
theorem nones_get {names : List Str} {i : Nat} {av : AV} : ¬ (names.map fun _ => (none : Option AV))[i]? = some (some av) := by
  intro h
  rw [List.getElem?_map] at h
  cases q : names[i]? with
  | none => rw [q] at h; cases h
  | some x => rw [q] at h; cases h
section
variable {F : Fx} {E : Value → Shared → Prop} {σ : Sig}
/-- the comprehension's own names -/
theorem comp_enter {scope : Scope} {cl : List (Str × Addr)} {names globs : List Str} {its : List (Addr × Obj)} {s : Shared} (hok : compOk scope (relabel scope F.env) names globs = true)
    (nseq : ∀ b ∈ its.map (·.1), ∃ o, s.heap.get? b = some o ∧ ∀ vs n, o.data ≠ .seq vs n) (S : St F ⟨σ.vals, hide its ++ σ.led⟩ s) {Q : Value → Env → Shared → Prop}
    (k : ∀ D C s', D ≠ C → s.heap.get? D = none → s.heap.get? C = none → St (F.comp scope cl C names globs s.heap (its.map (·.1)) s.gens s.os) ⟨names.map fun _ => none, hide its ++ (D, .list []) :: cellLed (C + 1) scope.names⟩ s' → (∀ b o, s.heap.get? b = some o → s'.heap.get? b = some o) →
      Q (.ref D) { scope := scope, locals := C, globals := F.env.globals, cells := cellsFrom (C + 1) scope.names cl, qual := F.env.qual, func := none, code := F.env.code, frame := F.env.frame, builtins := F.env.builtins } s') :
    wpAny (model pw F.w) F.A (newList []) (fun acc s₃ => wpAny (model pw F.w) F.A (newFunctionEnv scope F.env.globals cl [] F.env.qual none .none (some F.env)) (fun cenv s₄ => Q acc cenv s₄) E s₃) E s := by
  unfold compOk at hok
  simp only [Bool.and_eq_true] at hok
  obtain ⟨⟨⟨⟨s1, s2⟩, s3⟩, s4⟩, _⟩ := hok
  have hkind : scope.kind = .function := by cases q : scope.kind <;> simp_all
  refine wpAny_newObj_type (T := "list") (data := .seq ([] : List Value).toArray) (newEnv_comp ?_) (by size_fits)
  generalize hH1 : s.heap.push { cls := .type "list", dict := none, data := .seq ([] : List Value).toArray } = H1
  have hz1 : H1.objs.size = s.heap.objs.size + 1 := by rw [← hH1, Heap.size_push]
  generalize hH2 : H1.push { cls := .type "dict", data := .dict #[] } = H2
  have hz2 : H2.objs.size = H1.objs.size + 1 := by rw [← hH2, Heap.size_push]
  have k1 : ∀ b o, s.heap.get? b = some o → H1.get? b = some o := fun b o e => by rw [← hH1]; exact push_keep _ _ b o e
  have k2 : ∀ b o, H1.get? b = some o → H2.get? b = some o := fun b o e => by rw [← hH2]; exact push_keep _ _ b o e
  have k3 : ∀ b o, H2.get? b = some o → (pushCells H2 scope.names).get? b = some o := pushCells_keeps _ _
  have kk : ∀ b o, s.heap.get? b = some o → (pushCells H2 scope.names).get? b = some o := fun b o e => k3 b o (k2 b o (k1 b o e))
  have hD : s.heap.get? s.heap.objs.size = none := size_none _
  have above : ∀ a, s.heap.objs.size ≤ a → s.heap.get? a = none := fun a ha => by
    cases q : s.heap.get? a with
    | none => rfl
    | some o => exact absurd (Heap.lt_size q) (Nat.not_lt.mpr ha)
  have hC : s.heap.get? H1.objs.size = none := above _ (by rw [hz1]; exact Nat.le_succ _)
  have hDC : s.heap.objs.size ≠ H1.objs.size := by rw [hz1]; exact (Nat.succ_ne_self _).symm
  obtain ⟨c1, c2⟩ := cellLed_ok F.w scope.names H2
  rw [hz2] at c1 c2
  have dD : H1.get? s.heap.objs.size = some (listO [] 0) := by rw [← hH1]; exact Heap.get?_push_size _ rfl
  have dC : H2.get? H1.objs.size = some { cls := .type "dict", data := .dict #[] } := by rw [← hH2]; exact Heap.get?_push_size _ rfl
  have mono : Mono s.heap (pushCells H2 scope.names) := .of_keep kk
  have hst : ∀ p ∈ hide its, RepO F.w s.heap p.1 p.2 := fun p hp => S.rep p (List.mem_append.mpr (.inl hp))
  have nd0 := List.nodup_append.mp (by rw [← List.map_append]; exact (List.nodup_cons.mp S.nd).2 : ((hide its).map (·.1) ++ σ.led.map (·.1)).Nodup)
  have hits : ∀ b ∈ (hide its).map (·.1), ∃ o, s.heap.get? b = some o := fun b hb => by
    obtain ⟨p, hp, rfl⟩ := List.mem_map.mp hb
    exact (hst p hp).some
  refine k _ _ _ hDC hD hC ?_ kk
  refine { ok := ?_, ns := ⟨_, (Heap.Ns.new H1 (.type "dict")).keeps (by rw [hH2]; exact k3), fun i x av _ b => absurd b nones_get⟩, rep := fun p hp => ?_, nd := ?_, new := fun a ha => ?_, Lnew := hC, keep := fun b o e _ => kk b o e, gens := rfl, os := rfl, fr := (fun _ h => nomatch h), mb := mono }
  · exact {
      kind := hkind
      loc := fun i x e => lookup_local (sc := relabel scope F.env) s2 e
      nd := of_decide_eq_true s3
      gk := fun x hx => by
        have := List.all_eq_true.mp s4 x hx
        simp only [Bool.and_eq_true, decide_eq_true_eq, Bool.not_eq_true'] at this
        exact this
      glob := S.ok.glob
      bi := S.ok.bi
      hh := S.ok.hh
      dep := S.ok.dep
      un := S.ok.un
      top := S.ok.top
      ht := S.topK
      hm := fun a ha => S.not_hT (by rw [List.map_append, hide_keys]; exact List.mem_append.mpr (.inl ha))
      hmi := fun a ha c dd vs n hc e => by obtain ⟨o, e', d⟩ := nseq a ha; rw [e] at e'; cases e'; exact d _ _ rfl
      fsm := fun _ h => nomatch h }
  · rcases List.mem_append.mp hp with hp | hp
    · exact (hst p hp).keep mono fun x e => kk _ _ e
    · rcases List.mem_cons.mp hp with rfl | hp
      · exact ⟨[], 0, k3 _ _ (k2 _ _ dD), .nil⟩
      · exact (c1 p hp).1
  · show (H1.objs.size :: (hide its ++ (s.heap.objs.size, AO.list []) :: cellLed (H1.objs.size + 1) scope.names).map (·.1)).Nodup
    rw [List.map_append, List.map_cons]
    have cb : ∀ a ∈ (cellLed (H1.objs.size + 1) scope.names).map (·.1), H1.objs.size + 1 ≤ a := fun a ha => by obtain ⟨p, hp, rfl⟩ := List.mem_map.mp ha; exact (c1 p hp).2
    refine List.nodup_cons.mpr ⟨fun q => ?_, List.nodup_append.mpr ⟨nd0.1, List.nodup_cons.mpr ⟨fun q => ?_, c2⟩, fun a ha b hb e => ?_⟩⟩
    · rcases List.mem_append.mp q with q | q
      · obtain ⟨o, e⟩ := hits _ q; rw [hC] at e; cases e
      · rcases List.mem_cons.mp q with q | q
        · exact hDC q.symm
        · exact absurd (cb _ q) (Nat.not_succ_le_self _)
    · have := cb _ q
      rw [hz1] at this
      exact absurd this (Nat.not_le.mpr (Nat.lt_succ_of_lt (Nat.lt_succ_self _)))
    · subst e
      obtain ⟨o, e⟩ := hits _ ha
      rcases List.mem_cons.mp hb with q | q
      · rw [q, hD] at e; cases e
      · rw [above a (by have := cb _ q; rw [hz1] at this; exact Nat.le_of_succ_le (Nat.le_of_succ_le this))] at e; cases e
  · rw [List.map_append, hide_keys] at ha
    rcases List.mem_append.mp ha with ha | ha
    · exact .inr ha
    · rcases List.mem_cons.mp ha with rfl | ha
      · exact .inl hD
      · obtain ⟨p, hp, rfl⟩ := List.mem_map.mp ha
        exact .inl (above _ (by have := (c1 p hp).2; rw [hz1] at this; exact Nat.le_of_succ_le (Nat.le_of_succ_le this)))
/-- back in the frame around it: the own names still stand -/
theorem comp_leave {scope : Scope} {cl : List (Str × Addr)} {C : Addr} {names globs : List Str} {its : List (Addr × Obj)} {s s' : Shared} {vals : List (Option AV)} {led' : List (Addr × AO)}
    (S : St F ⟨σ.vals, hide its ++ σ.led⟩ s) (S' : St (F.comp scope cl C names globs s.heap (its.map (·.1)) s.gens s.os) ⟨vals, led'⟩ s') (hni : ∀ a ∈ led'.map (·.1), a ∉ its.map (·.1)) (m : Mono s.heap s'.heap) :
    ∃ oC m, s'.heap.get? C = some oC ∧ s'.heap.Ns C m ∧ St F ⟨σ.vals, (C, .obj oC) :: (led' ++ σ.led)⟩ s' := by
  obtain ⟨m₁, hn, _⟩ := S'.ns
  have hn' := hn
  obtain ⟨oC, es, ep, eC, _⟩ := hn'
  refine ⟨oC, m₁, eC, hn, ?_⟩
  have nd' := List.nodup_cons.mp S'.nd
  have nd0 := List.nodup_append.mp (by rw [← List.map_append]; exact (List.nodup_cons.mp S.nd).2 : ((hide its).map (·.1) ++ σ.led.map (·.1)).Nodup)
  have old : ∀ a ∈ σ.led.map (·.1), ∃ o, s.heap.get? a = some o := fun a ha => by
    obtain ⟨p, hp, rfl⟩ := List.mem_map.mp ha
    exact (S.rep p (List.mem_append.mpr (.inr hp))).some
  have new' : ∀ a ∈ led'.map (·.1), s.heap.get? a = none := fun a ha => (S'.new a ha).resolve_right (hni a ha)
  have hC : s.heap.get? C = none := S'.Lnew
  have Z := S.go (h' := s'.heap) (tk := s'.toks) (its.map (·.1)) ((C, .obj oC) :: (led' ++ σ.led)) (fun b o e n => S'.keep b o e n) (fun a ha => by rw [List.map_append, hide_keys]; exact List.mem_append.mpr (.inl ha)) m (fun p hp => ?_) ?_ fun a ha => ?_
  · exact ⟨Z.ok, Z.ns, Z.rep, Z.nd, Z.new, Z.Lnew, Z.keep, S'.gens.trans S.gens, S'.os.trans S.os, Z.fr, Z.mb⟩
  · rcases List.mem_cons.mp hp with rfl | hp
    · exact eC
    · rcases List.mem_append.mp hp with hp | hp
      · exact S'.rep p hp
      · exact (S.rep p (List.mem_append.mpr (.inr hp))).keep m fun x e => S'.keep _ _ e fun q => nd0.2.2 p.1 (by rw [hide_keys]; exact q) p.1 (List.mem_map_of_mem hp) rfl
  · rw [List.map_cons, List.map_append]
    refine List.nodup_cons.mpr ⟨fun q => ?_, List.nodup_append.mpr ⟨nd'.2, nd0.2.1, fun a ha b hb e => ?_⟩⟩
    · rcases List.mem_append.mp q with q | q
      · exact nd'.1 q
      · obtain ⟨o, e⟩ := old _ q; rw [hC] at e; cases e
    · subst e
      obtain ⟨o, e⟩ := old _ hb
      rw [new' a ha] at e; cases e
  · rcases List.mem_cons.mp ha with rfl | ha
    · exact .inr hC
    · rw [List.map_append] at ha
      rcases List.mem_append.mp ha with ha | ha
      · exact .inr (new' a ha)
      · exact .inl (by rw [List.map_append]; exact List.mem_append.mpr (.inr ha))
/-- an object of the ledger is let go -/
theorem St.drop {s : Shared} {C : Addr} {o : AO} {led : List (Addr × AO)} {vals : List (Option AV)} (S : St F ⟨vals, (C, o) :: led⟩ s) (nseq : ∃ o, s.heap.get? C = some o ∧ ∀ vs n, o.data ≠ .seq vs n) {h' : Heap} (hs : Heap.SameBut C s.heap h') : St F ⟨vals, led⟩ { s with heap := h' } ∧ Mono s.heap h' := by
  obtain ⟨ob, e, d⟩ := nseq
  have mono : Mono s.heap h' := not_imm_data e d fun b x ex hb => (hs.2 b hb).trans ex
  have nd := List.nodup_cons.mp (List.nodup_cons.mp S.nd).2
  refine ⟨S.go (h' := h') (tk := s.toks) [C] led (fun b o e n => (hs.2 b (by simpa using n)).trans e) (fun a ha => by rw [List.mem_singleton.mp ha]; exact .head _) mono (fun p hp => ?_) nd.2 fun a ha => .inl (.tail _ ha), mono⟩
  refine (S.rep p (.tail _ hp)).keep mono fun x e => (hs.2 _ fun q => nd.1 ?_).trans e
  have : p.1 ∈ led.map (·.1) := List.mem_map_of_mem hp
  rw [q] at this
  exact this
end
end Mine
end
section
open PySem PySem.W PyProof.Rows PySem.Calls
set_option Elab.async false
set_option linter.unusedVariables false
set_option maxRecDepth 10000
namespace Mine
theorem upd_mid {a : Addr} {o o' : AO} {q : List (Addr × AO)} : ∀ {p : List (Addr × AO)}, Upd a o o' (p ++ (a, o) :: q) (p ++ (a, o') :: q)
  | [] => .head
  | _ :: p => .tail (upd_mid (p := p))
noncomputable def WT (F : Fx) (ifs : List Expr) (σ : Sig) (Q : Bool → Sig → Prop) : Prop := match ifs with
  | [] => Q true σ
  | [c] => WB F NoE (isTrue c F.env (eval c F.env)) σ Q
  | _ => False
noncomputable def EndC (vals₀ : List (Option AV)) (pre : List (Addr × AO)) (D : Addr) (ys : List AV) (K : List (Addr × AO) → Prop) (σ : Sig) : Prop :=
  ∃ extra', List.Sublist (pre ++ (D, .list ys) :: extra') σ.led ∧ (∀ (i : Nat) (av : AV), vals₀[i]? = some (some av) → σ.vals[i]? = some (some av)) ∧ K extra'
/-- what a turn of a comprehension does -/
noncomputable def TurnIs (elt target iter : Expr) (ifs : List Expr) (gens : List Comprehension) (scope : Scope) (pos : Pos) (d : Nat) (env : Env) : Prop := ∀ it acc, compTurn (.ListComp elt gens scope pos) d it acc env = (do
      standAt iter.pos
      match ← pyNext it with
      | none => pure (.done .next)
      | some v =>
        letOwnedTupleGo target it v
        assign target env v
        let mut ok := true
        for c in ifs do
          if ok then ok ← isTrue c env (eval c env)
        if ok then
          (do let _ ← call (.builtin "list.append") [acc, ← eval elt env])
        again (.compLoop (.ListComp elt gens scope pos) d it acc env))
theorem turnIs_one (elt target iter : Expr) (ifs : List Expr) (scope : Scope) (pos : Pos) (env : Env) : TurnIs elt target iter ifs [⟨target, iter, ifs, 0⟩] scope pos 0 env := fun it acc => by rfl
theorem turnIs_inner (elt target iter t0 i0 : Expr) (ifs f0 : List Expr) (scope : Scope) (pos : Pos) (env : Env) : TurnIs elt target iter ifs [⟨t0, i0, f0, 0⟩, ⟨target, iter, ifs, 0⟩] scope pos 1 env := fun it acc => by rfl
section
variable {F : Fx} {E : Value → Shared → Prop} {σ : Sig}
theorem WT.run {ifs : List Expr} {Q : Bool → Sig → Prop} {s : Shared} (h : WT F ifs σ Q) (S : St F σ s) {P : Bool → Shared → Prop} (k : ∀ b s' σ', St F σ' s' → Mono s.heap s'.heap → Q b σ' → P b s') :
    wpAny (model pw F.w) F.A (forIn ifs true fun c r => if r = true then do let ok ← isTrue c F.env (eval c F.env); pure (ForInStep.yield ok) else pure (ForInStep.yield r)) P E s := by
  match ifs, h with
  | [], h => exact wpAny_tests_nil (k true s σ S (.refl _) h)
  | [c], h =>
    refine wpAny_tests_one (wpAny_mono (h s S) ?_ fun _ _ e => e.elim)
    rintro b s' ⟨b', σ', rfl, S', m, q⟩
    exact k _ s' σ' S' m q
theorem comp_core {elt target iter : Expr} {ifs : List Expr} {gens : List Comprehension} {scope : Scope} {pos : Pos} {d : Nat} (ht : TurnIs elt target iter ifs gens scope pos d F.env)
    {wr : List Addr} {its : List (Addr × Obj)} {l : List AV} {I D : Addr} {s : Shared} {h : Heap} {Ro : Heap → Prop} {It : Nat → Heap → Prop} {pre : List (Addr × AO)} {vals₀ : List (Option AV)} (J : Nat → List AV → List (Addr × AO) → Prop) {ys : List AV} {extra : List (Addr × AO)}
    (X : Iter F.w F.A I wr l Ro It target) (hw : its.map (·.1) = wr) (ro : ∀ σ s, St F σ s → Mono h s.heap → Ro s.heap) (hI : It 0 s.heap) (S : St F ⟨vals₀, hide its ++ (pre ++ (D, .list ys) :: extra)⟩ s) (m0 : Mono h s.heap) (h0 : J 0 ys extra) (hsz : ∀ j ys extra, J j ys extra → ys.length ≤ sizeLine)
    (turn : ∀ (j : Nat) (y : AV) (ys : List AV) (extra : List (Addr × AO)) (its : List (Addr × Obj)), its.length = wr.length → l[j]? = some y → J j ys extra → ∃ σ₃, Binds F target y ⟨vals₀, hide its ++ (pre ++ (D, .list ys) :: extra)⟩ σ₃ ∧
      WT F ifs σ₃ fun b σ₄ => (b = true → WE F NoE (eval elt F.env) σ₄ fun x σ₅ => EndC vals₀ (hide its ++ pre) D ys (J (j + 1) (ys ++ [x])) σ₅) ∧ (b = false → EndC vals₀ (hide its ++ pre) D ys (J (j + 1) ys) σ₄))
    {R : Result → Shared → Prop} (done : ∀ s' ys extra, J l.length ys extra → St F ⟨vals₀, pre ++ (D, .list ys) :: extra⟩ s' → Mono h s'.heap → (∀ a ∈ (pre ++ (D, AO.list ys) :: extra).map (·.1), a ∉ wr) → R (.ok .next) s') :
    codeAny (model pw F.w) F.A (.compLoop (.ListComp elt gens scope pos) d (.ref I) (.ref D) F.env) R s := by
  refine codeAny_loop rfl (fun n s' => ∃ ys extra its j, its.map (·.1) = wr ∧ St F ⟨vals₀, hide its ++ (pre ++ (D, .list ys) :: extra)⟩ s' ∧ It j s'.heap ∧ Mono h s'.heap ∧ J j ys extra ∧ j ≤ l.length ∧ n = l.length + 1 - j) (fun n s' hI' => ?_) (l.length + 1)
    ⟨ys, extra, its, 0, hw, S, hI, m0, h0, Nat.zero_le _, rfl⟩
  show wpAny _ F.A ((compTurn (.ListComp elt gens scope pos) d (.ref I) (.ref D) F.env).onRaise (fun x => do noteFrame x F.env; theTreesLotGoes x)) _ _ s'
  refine wpAny_noted ?_
  rw [ht]
  obtain ⟨ys₁, extra₁, its₁, j, hw₁, S₁, hit, m₁, hJ, hj, rfl⟩ := hI'
  have nseq : ∀ b ∈ its₁.map (·.1), ∃ o, s'.heap.get? b = some o ∧ ∀ vs n, o.data ≠ .seq vs n := by rw [hw₁]; exact X.here j _ hit
  refine wpAny_bind (wpAny_standAt (wpAny_bind ?_))
  by_cases hlt : j < l.length
  · refine X.item j l[j] s' _ _ (List.getElem?_eq_getElem hlt) (ro _ s' S₁ m₁) hit fun v s₁ go => ?_
    refine wpAny_bind (go _ _ fun h₁ tk rv hit₁ hk => ?_)
    obtain ⟨its₂, e2, i2⟩ := its_of (h := h₁) (wr := wr) fun b hb => let ⟨o, e, _⟩ := X.here _ _ hit₁ b hb; ⟨o, e⟩
    obtain ⟨S₂, _, mono₂⟩ := S₁.its (its' := its₂) (tk := tk) (e2.trans hw₁.symm) nseq (by rw [hw₁]; exact hk) i2
    obtain ⟨σ₃, hb, htt⟩ := turn j l[j] ys₁ extra₁ its₂ (by rw [← e2]; simp) (List.getElem?_eq_getElem hlt) hJ
    refine wpAny_bind (hb _ v _ _ S₂ rv fun s₃ S₃ m₃ => ?_)
    refine wpAny_bind (htt.run S₃ fun b s₄ σ₄ S₄ m₄ hq => ?_)
    -- the iterator is as it was left
    have fin : ∀ (s₅ : Shared) ys' extra', St F ⟨vals₀, hide its₂ ++ (pre ++ (D, .list ys') :: extra')⟩ s₅ → Mono h s₅.heap → J (j + 1) ys' extra' → ∃ m, m < l.length + 1 - j ∧ ∃ ys extra its j, its.map (·.1) = wr ∧ St F ⟨vals₀, hide its ++ (pre ++ (D, .list ys) :: extra)⟩ s₅ ∧ It j s₅.heap ∧ Mono h s₅.heap ∧ J j ys extra ∧ j ≤ l.length ∧ m = l.length + 1 - j := fun s₅ ys' extra' S₅ mm hq => by
      refine ⟨l.length + 1 - (j + 1), by walk_at "om", ys', extra', its₂, j + 1, e2, S₅, X.frame _ h₁ _ hit₁ fun b hb o e => ?_, mm, hq, by walk_at "om", rfl⟩
      obtain ⟨p, hp, rfl⟩ := List.mem_map.mp (by rw [e2]; exact hb : b ∈ its₂.map (·.1))
      have := i2 p hp
      rw [e] at this
      cases this
      exact S₅.rep (p.1, .obj p.2) (List.mem_append.mpr (.inl (List.mem_map.mpr ⟨p, hp, rfl⟩)))
    have mm4 : Mono h s₄.heap := m₁.trans (mono₂.trans (m₃.trans m₄))
    cases b with
    | false =>
      obtain ⟨extra', sub, hv, hK⟩ := hq.2 rfl
      have S₅ : St F ⟨vals₀, hide its₂ ++ (pre ++ (D, .list ys₁) :: extra')⟩ s₄ := S₄.weak ⟨by rw [← List.append_assoc]; exact sub, hv⟩
      exact wpAny_pure ⟨rfl, fin s₄ ys₁ extra' S₅ mm4 hK⟩
    | true =>
      refine wpAny_bind (wpAny_bind (wpAny_mono (hq.1 rfl s₄ S₄) ?_ fun _ _ e => e.elim))
      rintro xv s₅ ⟨x, σ₅, rx, S₅, m₅, extra', sub, hv, hK⟩
      have S₆ : St F ⟨vals₀, hide its₂ ++ (pre ++ (D, .list ys₁) :: extra')⟩ s₅ := S₅.weak ⟨by rw [← List.append_assoc]; exact sub, hv⟩
      have u : Upd D (.list ys₁) (.list (ys₁ ++ [x])) (hide its₂ ++ (pre ++ (D, .list ys₁) :: extra')) (hide its₂ ++ (pre ++ (D, .list (ys₁ ++ [x])) :: extra')) := by
        rw [← List.append_assoc, ← List.append_assoc]; exact upd_mid
      have ap := o_append (F := F) (E := notedBy (model pw F.w) F.A F.env fun e s' => R (.error e) s') (σ := ⟨vals₀, hide its₂ ++ (pre ++ (D, .list ys₁) :: extra')⟩) (Q := fun _ σ' => σ' = ⟨vals₀, hide its₂ ++ (pre ++ (D, .list (ys₁ ++ [x])) :: extra')⟩) u (hsz _ _ _ hJ) rfl
      refine wpAny_bind (wpAny_mono (ap s₅ [.ref D, xv] S₆ (.cons (.ref D) (.cons rx .nil))) ?_ fun _ _ e => e)
      rintro _ s₇ ⟨_, σ₇, _, S₇, m₇, rfl⟩
      exact wpAny_pure (wpAny_pure ⟨rfl, fin s₇ _ extra' S₇ (mm4.trans (m₅.trans m₇)) hK⟩)
  · have hjn : j = l.length := by walk_at "om"
    subst hjn
    refine X.done s' _ _ (ro _ s' S₁ m₁) hit fun h₁ tk hk => wpAny_pure ?_
    have mono := mono_wr nseq (h' := h₁) (by rw [hw₁]; exact hk)
    have nd := (List.nodup_cons.mp S₁.nd).2
    have nd2 := List.nodup_append.mp (by rw [← List.map_append]; exact nd : ((hide its₁).map (·.1) ++ (pre ++ (D, AO.list ys₁) :: extra₁).map (·.1)).Nodup)
    have S₆ : St F ⟨vals₀, pre ++ (D, .list ys₁) :: extra₁⟩ { s' with heap := h₁, toks := tk } := S₁.go (h' := h₁) (its₁.map (·.1)) _ (fun b o e n => hk b o (by rw [← hw₁]; exact n) e) (fun a ha => by rw [List.map_append, hide_keys]; exact List.mem_append.mpr (.inl ha)) mono
      (fun p hp => (S₁.rep p (List.mem_append.mpr (.inr hp))).keep mono fun x e => hk _ _ (fun q => nd2.2.2 p.1 (by rw [hide_keys, hw₁]; exact q) p.1 (List.mem_map_of_mem hp) rfl) e) nd2.2.1 fun a ha => .inl (by rw [List.map_append]; exact List.mem_append.mpr (.inr ha))
    exact done _ ys₁ extra₁ hJ S₆ (m₁.trans mono) fun a ha q => nd2.2.2 a (by rw [hide_keys, hw₁]; exact q) a ha rfl
end
end Mine
end
section
open PySem PySem.W PyProof.Rows PySem.Calls
set_option Elab.async false
set_option linter.unusedVariables false
set_option maxRecDepth 10000
namespace Mine
/-- what has to be known of a comprehension's turns -/
noncomputable def CompBody (F : Fx) (σ : Sig) (scope : Scope) (cl : List (Str × Addr)) (names globs : List Str) (target : Expr) (ifs : List Expr) (elt : Expr) (l : List AV) (nw : Nat) (Ro : Heap → Prop) (J : Addr → Nat → List AV → List (Addr × AO) → Prop) : Prop :=
  ∀ C h₀ wr g os, (∀ a o, Has F σ a o → RepO F.w h₀ a o ∧ a ∉ wr) →
    (∀ σ' s, St (F.comp scope cl C names globs h₀ wr g os) σ' s → Mono h₀ s.heap → Ro s.heap) ∧ J C 0 [] (cellLed (C + 1) scope.names) ∧ (∀ j ys extra, J C j ys extra → ys.length ≤ sizeLine) ∧
    ∀ (j : Nat) (y : AV) (ys : List AV) (extra : List (Addr × AO)) (its : List (Addr × Obj)) (D : Addr), its.length = nw → l[j]? = some y → J C j ys extra →
      ∃ σ₃, Binds (F.comp scope cl C names globs h₀ wr g os) target y ⟨names.map fun _ => none, hide its ++ (D, .list ys) :: extra⟩ σ₃ ∧
        WT (F.comp scope cl C names globs h₀ wr g os) ifs σ₃ fun b σ₄ =>
          (b = true → WE (F.comp scope cl C names globs h₀ wr g os) NoE (eval elt (compEnvC scope (cellsFrom (C + 1) scope.names cl) C F.env)) σ₄ fun x σ₅ => EndC (names.map fun _ => none) (hide its ++ []) D ys (J C (j + 1) (ys ++ [x])) σ₅) ∧
          (b = false → EndC (names.map fun _ => none) (hide its ++ []) D ys (J C (j + 1) ys) σ₄)
section
variable {F : Fx} {E : Value → Shared → Prop} {σ : Sig}
theorem comp_run {elt target iter : Expr} {ifs : List Expr} {scope : Scope} {pos : Pos} {cl : List (Str × Addr)} {names globs : List Str} {l : List AV} {nw : Nat} {Ro : Heap → Prop} {J : Addr → Nat → List AV → List (Addr × AO) → Prop}
    (hok : compOk scope (relabel scope F.env) names globs = true) {xv : AV} {σ₁ : Sig} {s₁ : Shared} {v : Value} (S₁ : St F σ₁ s₁) (rv : Rep s₁.heap xv v) (st : Starts F target xv σ₁ σ nw l Ro) (body : CompBody F σ scope cl names globs target ifs elt l nw Ro J)
    {R : Value → Addr → Result → Shared → Prop}
    (k : ∀ D C ys extra oC m s', J C l.length ys extra → D ∉ σ.led.map (·.1) → s'.heap.get? C = some oC → s'.heap.Ns C m → St F ⟨σ.vals, (C, .obj oC) :: ((D, .list ys) :: extra ++ σ.led)⟩ s' → Mono s₁.heap s'.heap → R (.ref D) C (.ok .next) s') :
    wpAny (model pw F.w) F.A (pyIter v) (fun it s₂ => wpAny (model pw F.w) F.A (newList []) (fun acc s₃ => wpAny (model pw F.w) F.A (newFunctionEnv scope F.env.globals cl [] F.env.qual none .none (some F.env)) (fun cenv s₄ =>
      codeAny (model pw F.w) F.A (.compStart (.ListComp elt [⟨target, iter, ifs, 0⟩] scope pos) 0 it acc { cenv with scope := relabel scope F.env }) (R acc cenv.locals) s₄) E s₃) E s₂) E s₁ := by
  refine st s₁ v _ _ S₁ rv fun I wr It its s₂ hn X hw hI S₂ m₂ => ?_
  have nseq : ∀ b ∈ its.map (·.1), ∃ o, s₂.heap.get? b = some o ∧ ∀ vs n, o.data ≠ .seq vs n := by rw [hw]; exact X.here 0 _ hI
  refine comp_enter (cl := cl) hok nseq S₂ fun D C s' hDC hD hC S' hk => ?_
  have nd0 := List.nodup_append.mp (by rw [← List.map_append]; exact (List.nodup_cons.mp S₂.nd).2 : ((hide its).map (·.1) ++ σ.led.map (·.1)).Nodup)
  have facts : ∀ a o, Has F σ a o → RepO F.w s₂.heap a o ∧ a ∉ its.map (·.1) := fun a o ha => by
    have ha' : Has F ⟨σ.vals, hide its ++ σ.led⟩ a o := ha.imp (fun z => List.mem_append.mpr (.inr z)) id
    refine ⟨S₂.has ha', fun q => ?_⟩
    rcases ha with z | ⟨z, nm⟩
    · exact nd0.2.2 a (by rw [hide_keys]; exact q) a (List.mem_map_of_mem z) rfl
    · rcases S₂.new a (by rw [List.map_append, hide_keys]; exact List.mem_append.mpr (.inl q)) with z' | z'
      · obtain ⟨x, e⟩ := z.some
        rw [z'] at e; cases e
      · exact nm z'
  obtain ⟨ro, h0, hsz, turn⟩ := body C s₂.heap (its.map (·.1)) s₂.gens s₂.os facts
  have hI' : It 0 s'.heap := X.frame _ _ _ hI fun b _ o e => hk b o e
  have loop : codeAny (model pw F.w) F.A (.compLoop (.ListComp elt [⟨target, iter, ifs, 0⟩] scope pos) 0 (.ref I) (.ref D) (compEnvC scope (cellsFrom (C + 1) scope.names cl) C F.env)) (R (.ref D) C) s' := by
    refine comp_core (F := F.comp scope cl C names globs s₂.heap (its.map (·.1)) s₂.gens s₂.os) (turnIs_one elt target iter ifs scope pos _) (pre := []) (h := s₂.heap) (J C) X hw ro hI' S' (.of_keep hk) h0 hsz (fun j y ys extra its hl hy hJ => turn j y ys extra its D (hl.trans hn) hy hJ) fun s'' ys extra hJ S'' m'' hni => ?_
    obtain ⟨oC, m, eC, hn', Z⟩ := comp_leave S₂ S'' (by rw [hw]; exact hni) m''
    refine k D C ys extra oC m s'' hJ (fun q => ?_) eC hn' Z (m₂.trans m'')
    obtain ⟨p, hp, e⟩ := List.mem_map.mp q
    obtain ⟨x, ex⟩ := (S₂.rep p (List.mem_append.mpr (.inr hp))).some
    rw [e, hD] at ex; cases ex
  exact codeAny_compStart_list loop (X.self 0 _ _ _ hI' loop)
theorem ns_nseq {h : Heap} {C : Addr} {m : Str → Option Value} {o : Obj} (hn : h.Ns C m) (e : h.get? C = some o) : ∃ o, h.get? C = some o ∧ ∀ vs n, o.data ≠ .seq vs n := by
  obtain ⟨o', es, ep, e', d, _⟩ := hn
  exact ⟨o', e', fun vs n q => by rw [d] at q; cases q⟩
theorem compOk_kind {sc sc' : Scope} {names globs : List Str} (h : compOk sc sc' names globs = true) : sc.kind = .function ∧ ∀ x ∈ sc.names, x.2 = .local → sc.names.lookup x.1 = some .local := by
  unfold compOk at h
  simp only [Bool.and_eq_true] at h
  obtain ⟨⟨⟨⟨s1, s2⟩, s3⟩, s4⟩, s5⟩ := h
  refine ⟨by cases q : sc.kind <;> simp_all, fun x hx hl => ?_⟩
  have := List.all_eq_true.mp s5 x hx
  simpa [hl] using this
inductive CompQ (F : Fx) (target : Expr) (nw : Nat) (l : List AV) (Ro : Heap → Prop) (B : Sig → Prop) (J : Addr → Nat → List AV → List (Addr × AO) → Prop) (P : AV → Sig → Prop) (xv : AV) (σ₁ : Sig) : Prop where
  | mk (σ₂ : Sig) (s : Starts F target xv σ₁ σ₂ nw l Ro) (b : B σ₂) (q : ∀ D C ys extra, J C l.length ys extra → D ∉ σ₂.led.map (·.1) → P (.ref D) ⟨σ₂.vals, (D, .list ys) :: (extra ++ σ₂.led)⟩)
/-- a comprehension -/
theorem we_comp {elt target iter : Expr} {ifs : List Expr} {scope : Scope} {pos : Pos} {Q : AV → Sig → Prop} (cl : List (Str × Addr)) (names globs : List Str) (l : List AV) (nw : Nat) (Ro : Heap → Prop) (J : Addr → Nat → List AV → List (Addr × AO) → Prop)
    (hclos : closureFor scope F.env = pure cl) (hok : compOk scope (relabel scope F.env) names globs = true)
    (h : WE F E (eval iter F.env) σ (CompQ F target nw l Ro (fun σ₂ => CompBody F σ₂ scope cl names globs target ifs elt l nw Ro J) J Q))
    (hs : ∀ x, foldedSetIterable iter F.env x = pure x := by intro _; with_unfolding_all rfl) : WE F E (eval (.ListComp elt [⟨target, iter, ifs, 0⟩] scope pos) F.env) σ Q := by
  intro s S
  rw [eval_ListComp]
  obtain ⟨hkind, hnames⟩ := compOk_kind hok
  refine wpAny_comprehension_free (use := none) rfl hs hclos hkind hnames (h.then S ?_)
  rintro v s₁ xv σ₁ rv S₁ m₁ ⟨σ₂, st, body, q⟩
  refine comp_run hok S₁ rv st body fun D C ys extra oC m s' hJ hD eC hn Z m' => ?_
  refine ⟨m, hn, fun h' hs' => ?_⟩
  obtain ⟨Z', mz⟩ := Z.drop (ns_nseq hn eC) hs'
  exact ⟨_, _, .ref _, Z', m₁.trans (m'.trans mz), q D C ys extra hJ hD⟩
/-- «x = [..]»: the name is bound ahead of the letting go -/
theorem ws_assign_comp {x : Str} {i : Nat} {p p' : Pos} {elt target iter : Expr} {ifs : List Expr} {scope : Scope} {pos : Pos} {Q : AF → Sig → Prop} (cl : List (Str × Addr)) (names globs : List Str) (l : List AV) (nw : Nat) (Ro : Heap → Prop) (J : Addr → Nat → List AV → List (Addr × AO) → Prop)
    (hx : idxOf F.names x = some i) (hclos : closureFor scope F.env = pure cl) (hok : compOk scope (relabel scope F.env) names globs = true)
    (h : WE F E (eval iter F.env) σ (CompQ F target nw l Ro (fun σ₂ => CompBody F σ₂ scope cl names globs target ifs elt l nw Ro J) J (SetQ i Q)))
    (hsw : swapsWith (.ListComp elt [⟨target, iter, ifs, 0⟩] scope pos) (some (.Name x p')) p.line F.env = pure true := by with_unfolding_all rfl)
    (hs : ∀ x, foldedSetIterable iter F.env x = pure x := by intro _; with_unfolding_all rfl) : WS F E (exec (.Assign [.Name x p'] (.ListComp elt [⟨target, iter, ifs, 0⟩] scope pos) p) F.env) σ Q := by
  intro s S
  rw [exec_Assign_Name_used _ _ _ _ hsw]
  refine wpAny_bind (wpAny_standAt (wpAny_bind ?_))
  show wpAny _ F.A (do let _ ← comprehension (.ListComp elt [⟨target, iter, ifs, 0⟩] scope pos) scope F.env _ (newList []) false (eval iter F.env) (some (assign (.Name x p') F.env))) _ _ s
  obtain ⟨hkind, hnames⟩ := compOk_kind hok
  refine wpAny_bind (wpAny_mono (wpAny_comprehension_free (use := some (assign (.Name x p') F.env)) (Q := fun _ s' => Post F RepF s.heap Q .next s') rfl hs hclos hkind hnames (h.then S ?_)) (fun _ s' hq => wpAny_pure (wpAny_pure hq)) fun _ _ e => e)
  rintro v s₁ xv σ₁ rv S₁ m₁ ⟨σ₂, st, body, q⟩
  refine comp_run hok S₁ rv st body fun D C ys extra oC m s' hJ hD eC hn Z m' => ?_
  show wpAny _ F.A (assign (.Name x p') F.env (.ref D)) _ _ _
  refine wpAny_assign_Name (w_bind Z hx (.ref D) fun s'' Z'' m'' => ?_)
  have eC' : s''.heap.get? C = some oC := Z''.rep (C, .obj oC) (.head _)
  have hn'' : s''.heap.Ns C m := by
    obtain ⟨o, es, ep, e, r⟩ := hn
    rw [eC] at e; cases e
    exact ⟨_, es, ep, eC', r⟩
  refine ⟨m, hn'', fun h' hs' => ?_⟩
  obtain ⟨Z', mz⟩ := Z''.drop (ns_nseq hn'' eC') hs'
  exact ⟨.next, _, .next, Z', m₁.trans (m'.trans (m''.trans mz)), q D C ys extra hJ hD⟩
end
end Mine
end
section
open PySem PySem.W PyProof.Rows PySem.Calls
set_option Elab.async false
set_option linter.unusedVariables false
set_option maxRecDepth 10000
namespace Mine

/-! ## data, compared -/
noncomputable def Dat (F : Fx) (σ : Sig) (x : AV) (d : PyData) : Prop := ∀ s v, St F σ s → Rep s.heap x v → ∃ as, Reads s.heap v d as
noncomputable def Dats (F : Fx) (σ : Sig) (l : List AV) (ds : List PyData) : Prop := ∀ s vs, St F σ s → RepL s.heap l vs → ∃ as, ReadsAll s.heap vs ds as
noncomputable def Fine (n : Nat) (d : PyData) : Prop := d.canLay0 = true ∧ d.depth ≤ n
theorem fine_all {n : Nat} : ∀ {ds : List PyData}, (∀ d ∈ ds, Fine n d) → PyData.canLayAll0 ds = true ∧ PyData.depthAll ds ≤ n
  | [], _ => ⟨rfl, Nat.zero_le _⟩
  | d :: r, h => by
    obtain ⟨h1, h2⟩ := fine_all (ds := r) fun x hx => h x (.tail _ hx)
    obtain ⟨h3, h4⟩ := h d (.head _)
    simp only [PyData.canLayAll0, PyData.depthAll, h1, h3, Bool.and_true, true_and]
    exact Nat.max_le.mpr ⟨h4, h2⟩
theorem Fine.int {i : Int} {n : Nat} : Fine n (.int i) := ⟨rfl, Nat.zero_le _⟩
theorem Fine.list {n : Nat} {ds : List PyData} (h : ∀ d ∈ ds, Fine n d) : Fine (n + 1) (.list ds) := by
  obtain ⟨h1, h2⟩ := fine_all h
  exact ⟨by simpa [PyData.canLay0] using h1, by simpa [PyData.depth] using h2⟩
theorem Fine.tuple {n : Nat} {ds : List PyData} (h : ∀ d ∈ ds, Fine n d) : Fine (n + 1) (.tuple ds) := by
  obtain ⟨h1, h2⟩ := fine_all h
  exact ⟨by simpa [PyData.canLay0] using h1, by simpa [PyData.depth] using h2⟩
theorem Fine.shaped {n : Nat} {d : PyData} (h : Fine n d) (hn : n ≤ 64 := by decide) : SeqAt.shaped d = true := by
  unfold SeqAt.shaped; rw [h.1, Bool.true_and]; exact decide_eq_true (Nat.le_trans h.2 hn)
theorem eqvAll_map {α : Type} [DecidableEq α] {f : α → PyData} (h : ∀ a b, PyData.eqv (f a) (f b) = decide (a = b)) : ∀ xs ys : List α, PyData.eqvAll (xs.map f) (ys.map f) = decide (xs = ys)
  | [], [] => by simp [PyData.eqvAll]
  | [], _ :: _ => by simp [PyData.eqvAll]
  | _ :: _, [] => by simp [PyData.eqvAll]
  | a :: r, b :: t => by
    simp only [List.map_cons, PyData.eqvAll, h, eqvAll_map h r t]
    by_cases h1 : a = b <;> by_cases h2 : r = t <;> simp [h1, h2]
noncomputable abbrev pInts (ns : List Int) : PyData := .list (ns.map PyData.int)
theorem eqv_ints (ns ms : List Int) : PyData.eqv (pInts ns) (pInts ms) = decide (ns = ms) := by
  simp only [PyData.eqv]
  exact eqvAll_map (fun a b => by simp [PyData.eqv]; by_cases h : a = b <;> simp [h]) ns ms
noncomputable abbrev Tri := Int × Int × Int
noncomputable abbrev pTri (t : Tri) : PyData := .tuple [.int t.1, .int t.2.1, .int t.2.2]
theorem eqv_tri (a b : Tri) : PyData.eqv (pTri a) (pTri b) = decide (a = b) := by
  obtain ⟨a1, a2, a3⟩ := a
  obtain ⟨b1, b2, b3⟩ := b
  simp only [PyData.eqv, PyData.eqvAll, Bool.and_true]
  by_cases h1 : a1 = b1 <;> by_cases h2 : a2 = b2 <;> by_cases h3 : a3 = b3 <;> simp [h1, h2, h3]
theorem eqv_tris (xs ys : List Tri) : PyData.eqv (.list (xs.map pTri)) (.list (ys.map pTri)) = decide (xs = ys) := by
  simp only [PyData.eqv]
  exact eqvAll_map eqv_tri xs ys
theorem fine_ints (ns : List Int) : Fine 1 (pInts ns) := .list fun d hd => by obtain ⟨i, _, rfl⟩ := List.mem_map.mp hd; exact .int
theorem fine_tri (t : Tri) : Fine 1 (pTri t) := .tuple fun d hd => by
  rcases List.mem_cons.mp hd with rfl | hd
  · exact .int
  · rcases List.mem_cons.mp hd with rfl | hd
    · exact .int
    · rw [List.mem_singleton.mp hd]; exact .int
theorem fine_tris (ts : List Tri) : Fine 2 (.list (ts.map pTri)) := .list fun d hd => by obtain ⟨t, _, rfl⟩ := List.mem_map.mp hd; exact fine_tri t
noncomputable abbrev aTri (c : Value) (t : Tri) : AV := .tup c [.int t.1, .int t.2.1, .int t.2.2]
noncomputable abbrev ts (l : List Tri) : List AV := l.map (aTri (.type "tuple"))
section
variable {F : Fx} {E : Value → Shared → Prop} {σ : Sig}
theorem dat_int {i : Int} : Dat F σ (.int i) (.int i) := by rintro s v S ⟨⟩; exact ⟨_, .int _ _⟩
theorem dats_nil : Dats F σ [] [] := by rintro s v S ⟨⟩; exact ⟨_, .nil⟩
theorem dats_cons {x : AV} {d : PyData} {l : List AV} {ds : List PyData} (h : Dat F σ x d) (hs : Dats F σ l ds) : Dats F σ (x :: l) (d :: ds) := by
  rintro s v S (_ | ⟨r, q⟩)
  obtain ⟨as, h1⟩ := h s _ S r
  obtain ⟨bs, h2⟩ := hs s _ S q
  exact ⟨_, .cons h1 h2⟩
theorem dats_map {α : Type} {f : α → AV} {g : α → PyData} (h : ∀ a, Dat F σ (f a) (g a)) : ∀ l : List α, Dats F σ (l.map f) (l.map g)
  | [] => dats_nil
  | a :: r => dats_cons (h a) (dats_map h r)
theorem dat_list {a : Addr} {l : List AV} {ds : List PyData} (ha : Has F σ a (.list l)) (h : Dats F σ l ds) : Dat F σ (.ref a) (.list ds) := by
  rintro s v S ⟨⟩
  obtain ⟨vs, n, e, r⟩ := S.has ha
  obtain ⟨as, q⟩ := h s vs S r
  exact ⟨_, .list e rfl rfl (by simpa using q)⟩
theorem dat_tup {l : List AV} {ds : List PyData} (h : Dats F σ l ds) : Dat F σ (.tup (.type "tuple") l) (.tuple ds) := by
  rintro s v S r
  cases r with
  | tup hc hd e hl k =>
    obtain ⟨as, q⟩ := h s _ S (RepL.of_get hl k)
    exact ⟨_, .tuple e rfl rfl (by simpa using q)⟩
theorem dat_ints {a : Addr} {ns : List Int} (ha : Has F σ a (.list (zs ns))) : Dat F σ (.ref a) (pInts ns) := dat_list ha (dats_map (fun _ => dat_int) ns)
theorem dat_tri (t : Tri) : Dat F σ (aTri (.type "tuple") t) (pTri t) := dat_tup (dats_cons dat_int (dats_cons dat_int (dats_cons dat_int dats_nil)))
theorem dat_tris {a : Addr} {l : List Tri} (ha : Has F σ a (.list (ts l))) : Dat F σ (.ref a) (.list (l.map pTri)) := dat_list ha (dats_map dat_tri l)
theorem o_eqD {x y : AV} {d e : PyData} {n m : Nat} {Q : AV → Sig → Prop} (hx : Dat F σ x d) (hy : Dat F σ y e) (fd : Fine n d) (fe : Fine m e) (h : Q (.bool (PyData.eqv d e)) σ) (hn : n ≤ 64 := by decide) (hm : m ≤ 64 := by decide) : WO2 F E Rep (compareOp .Eq) x y σ Q := by
  rintro s v u S rv ru
  obtain ⟨as, h1⟩ := hx s v S rv
  obtain ⟨bs, h2⟩ := hy s u S ru
  exact eq_dataH h1 h2 (fd.shaped hn) (fe.shaped hm) S.units (.here' S (.bool _) h)
theorem o_neD {x y : AV} {d e : PyData} {n m : Nat} {Q : AV → Sig → Prop} (hx : Dat F σ x d) (hy : Dat F σ y e) (fd : Fine n d) (fe : Fine m e) (h : Q (.bool (!PyData.eqv d e)) σ) (hn : n ≤ 64 := by decide) (hm : m ≤ 64 := by decide) : WO2 F E Rep (compareOp .NotEq) x y σ Q := by
  rintro s v u S rv ru
  obtain ⟨as, h1⟩ := hx s v S rv
  obtain ⟨bs, h2⟩ := hy s u S ru
  exact ne_dataH h1 h2 (fd.shaped hn) (fe.shaped hm) S.units (.here' S (.bool _) h)
theorem any_ints (ns : List Int) (x : Int) : ((ns.map PyData.int).any fun y => PyData.eqv y (.int x)) = decide (x ∈ ns) := by
  induction ns with
  | nil => simp
  | cons a r ih =>
    rw [List.map_cons, List.any_cons, ih]
    simp only [PyData.eqv]
    by_cases h1 : a = x
    · subst h1; simp
    · have : x ≠ a := fun e => h1 e.symm
      simp [h1, this]
theorem o_in {a : Addr} {ns : List Int} {x : Int} {Q : AV → Sig → Prop} (ha : Has F σ a (.list (zs ns))) (h : Q (.bool (decide (x ∈ ns))) σ) : WO2 F E Rep (compareOp .In) (.int x) (.ref a) σ Q := by
  rintro s v u S ⟨⟩ ⟨⟩
  obtain ⟨as, h1⟩ := dat_ints ha s _ S (.ref a)
  obtain ⟨h3, h4⟩ := fine_all (n := 0) (ds := ns.map PyData.int) fun d hd => by obtain ⟨i, _, rfl⟩ := List.mem_map.mp hd; exact .int
  have hu := S.units
  exact SeqAt.in_list_reads h1 (.int x _) h3 rfl (by have := Nat.min_le_right (PyData.depthAll (ns.map PyData.int)) (PyData.int x).depth; have : (PyData.int x).depth = 0 := rfl; walk_at "om") (by rw [any_ints]; exact .here' S (.bool _) h)
theorem o_notin {a : Addr} {ns : List Int} {x : Int} {Q : AV → Sig → Prop} (ha : Has F σ a (.list (zs ns))) (h : Q (.bool (!decide (x ∈ ns))) σ) : WO2 F E Rep (compareOp .NotIn) (.int x) (.ref a) σ Q := by
  rintro s v u S ⟨⟩ ⟨⟩
  obtain ⟨as, h1⟩ := dat_ints ha s _ S (.ref a)
  obtain ⟨h3, h4⟩ := fine_all (n := 0) (ds := ns.map PyData.int) fun d hd => by obtain ⟨i, _, rfl⟩ := List.mem_map.mp hd; exact .int
  have hu := S.units
  exact SeqAt.notIn_list_reads h1 (.int x _) h3 rfl (by have := Nat.min_le_right (PyData.depthAll (ns.map PyData.int)) (PyData.int x).depth; have : (PyData.int x).depth = 0 := rfl; walk_at "om") (by rw [any_ints]; exact .here' S (.bool _) h)

/-! ## more of lists and tuples -/
inductive IfEQ (F : Fx) (E : Value → Shared → Prop) (body orelse : Expr) (Q : AV → Sig → Prop) (b : Bool) (σ' : Sig) : Prop where
  | mk (t : b = true → WE F E (eval body F.env) σ' Q) (f : b = false → WE F E (eval orelse F.env) σ' Q)
theorem we_ifexp {test body orelse : Expr} {p : Pos} {Q : AV → Sig → Prop} (h : WB F E (isTrue test F.env (eval test F.env)) σ (IfEQ F E body orelse Q)) : WE F E (eval (.IfExp test body orelse p) F.env) σ Q := by
  intro s S
  refine wpAny_IfExp (h.then S ?_)
  rintro b s' b' σ' r S' m ⟨q1, q2⟩
  obtain rfl : b' = b := r
  cases b' with
  | true => exact wpAny_mono (q1 rfl s' S') (fun _ _ p => p.up m) fun _ _ e => e
  | false => exact wpAny_mono (q2 rfl s' S') (fun _ _ p => p.up m) fun _ _ e => e
theorem o_last {value slice : Expr} {a : Addr} {l : List AV} {x : AV} {Q : AV → Sig → Prop} (ha : Has F σ a (.list (l ++ [x]))) (h : Q x σ)
    (hs : ∀ u, subscripted slice false (.ref a) (.int (-1) u) = operate [.ref a, .int (-1) u] (getItem (.ref a) (.int (-1) u)) := by intro u; with_unfolding_all rfl) : WO2 F E Rep (subscriptTail value slice) (.ref a) (.int (-1)) σ Q := by
  rintro s v u S ⟨⟩ ⟨⟩
  obtain ⟨vs, n, e, r⟩ := S.has ha
  obtain ⟨y, hy, ry⟩ := r.some (i := l.length) (x := x) (by simp)
  have hlen := r.length
  have hl : s.heap.IsList a vs.toArray := PySem.IsL.isList e
  refine tail_any hl.typeIs slot_list_getitem.lookup (wpAny_getItem_list_neg hl (by decide) (by simp at hlen ⊢; walk_at "om") (by decide) (x := y) ?_ (.here' S ry h)) (hs _)
  have : ((-1 : Int) + (vs.toArray.size : Int)).toNat = l.length := by simp at hlen ⊢; walk_at "om"
  rw [this]; simpa using hy
theorem o_setlast {a : Addr} {l : List AV} {x y : AV} {led' : List (Addr × AO)} {Q : Unit → Sig → Prop} (u : Upd a (.list (l ++ [y])) (.list (l ++ [x])) σ.led led') (h : Q () ⟨σ.vals, led'⟩) :
    WOL F E (fun _ (_ _ : Unit) => True) (fun vs => match vs with | [ov, iv, v] => setItem ov iv v | _ => throw .none) [.ref a, .int (-1), x] σ Q := by
  rintro s vs S r
  obtain ⟨_, _, v, rfl, r1, r2, r3⟩ := r.inv3
  cases r1; cases r2
  obtain ⟨ws, n, e, rl⟩ := S.has (.inl u.mem)
  have hlen : l.length + 1 = ws.length := by have := rl.length; simpa using this
  show wpAny _ _ (setItem _ _ _) _ _ _
  refine ki_setBack (n := n) e (by decide) (by rw [List.size_toArray]; walk_at "om") (by decide) ?_
  have hk : ((-1 : Int) + (ws.toArray.size : Int)).toNat = l.length := by rw [List.size_toArray]; walk_at "om"
  rw [hk]
  have key : ∀ h', Mono s.heap h' → RepL h' (l ++ [x]) (ws.set l.length v) := fun h' mn => by
    refine RepL.of_get (by simp; walk_at "om") fun i p z hy hz => ?_
    by_cases hi : l.length = i
    · subst hi
      rw [List.getElem?_set_self (by walk_at "om")] at hz
      simp at hy
      cases hy; cases hz
      exact r3.mono mn
    · rw [List.getElem?_set_ne hi] at hz
      have hi2 : i < l.length := by
        have := (List.getElem?_eq_some_iff.mp hy).1
        simp at this; walk_at "om"
      rw [List.getElem?_append_left hi2] at hy
      exact (rl.get (by rw [List.getElem?_append_left hi2]; exact hy) hz).mono mn
  obtain ⟨S', mono⟩ := S.listUpd (tk := s.toks) u (vs' := ws.set l.length v) e (·.setIfInBounds l.length v) (by apply Array.toList_inj.mp; simp) key
  exact ⟨(), _, trivial, S', mono, h⟩
theorem o_titem {value slice : Expr} {l : List AV} {k : Nat} {x : AV} {Q : AV → Sig → Prop} (hx : l[k]? = some x) (h : Q x σ) (hk : (k : Int) < 2 ^ 63 := by decide)
    (hs : ∀ a u, subscripted slice false (.ref a) (.int (k : Int) u) = operate [.ref a, .int (k : Int) u] (getItem (.ref a) (.int (k : Int) u)) := by intro a u; with_unfolding_all rfl) : WO2 F E Rep (subscriptTail value slice) (.tup (.type "tuple") l) (.int (k : Int)) σ Q := by
  rintro s v u S r ⟨⟩
  cases r with
  | @tup _ _ a dd vs n hc hd e hl kk =>
    obtain rfl := hd rfl
    have rl : RepL s.heap l vs := RepL.of_get hl kk
    obtain ⟨y, hy, ry⟩ := rl.some hx
    have ht : IsT s.heap a vs.toArray n := e
    have hlt : k < vs.length := (List.getElem?_eq_some_iff.mp hy).1
    refine tail_any (T := "tuple") ⟨_, e, rfl⟩ PySem.F.slot_tuple_getitem.lookup (PySem.P.getItem_tuple ht (by walk_at "om") hk (k := k) (seqIndex_of (by walk_at "om") (by rw [List.size_toArray]; walk_at "om")) (y := y) ?_ (.here' S ry h)) (hs _ _)
    simpa using hy
theorem o_addlist {a b : Addr} {l m : List AV} {Q : AV → Sig → Prop} (ha : Has F σ a (.list l)) (hb : Has F σ b (.list m)) (hsz : l.length + m.length ≤ sizeLine) (h : ∀ c, c ∉ σ.led.map (·.1) → Q (.ref c) ⟨σ.vals, (c, .list (l ++ m)) :: σ.led⟩) : WO2 F E Rep (binaryOp .Add) (.ref a) (.ref b) σ Q := by
  rintro s v u S ⟨⟩ ⟨⟩
  obtain ⟨vs, n, e, r⟩ := S.has ha
  obtain ⟨us, k, e', r'⟩ := S.has hb
  refine PySem.P.add_list (n := n) (n2 := k) e e' ?_ (by rw [List.size_toArray, List.size_toArray, ← r.length, ← r'.length]; exact hsz)
  have hk := push_keep s.heap { cls := .type "list", data := .seq (vs.toArray ++ us.toArray) }
  refine ⟨_, _, .ref _, S.alloc (tk := s.toks) hk (size_none _) (o := .list (l ++ m)) ⟨vs ++ us, 0, ?_, (RepL.append r' r).mono (.of_keep hk)⟩, .of_keep hk, h _ (not_led S (size_none _))⟩
  have q : (vs ++ us).toArray = vs.toArray ++ us.toArray := by simp
  rw [listO, q]
  exact Heap.get?_push_size _ rfl
theorem o_index {a : Addr} {ns : List Int} {x : Int} {j : Nat} {Q : AV → Sig → Prop} (ha : Has F σ a (.list (zs ns))) (hj : ns[j]? = some x) (hno : ∀ m < j, ns[m]? ≠ some x) (hsz : ns.length < 2 ^ 62) (h : Q (.int j) σ) :
    WOL F E Rep (fun vs => call (.builtin "list.index") vs) [.ref a, .int x] σ Q := by
  rintro s vs S r
  obtain ⟨_, _, rfl, r1, r2⟩ := r.inv2
  cases r1
  cases r2 with | int _ t =>
  obtain ⟨ws, n, e, rl⟩ := S.has ha
  have hia := intsAre rl
  have hlen : ns.length = ws.length := by simpa using rl.length
  have hjl : j < ns.length := (List.getElem?_eq_some_iff.mp hj).1
  have val : ∀ m (hm : m < ws.toArray.size), ∃ t, ws.toArray[m] = .int (ns.getD m 0) t := fun m hm => by
    have hm' : m < ws.length := by simpa using hm
    have := rl.get (i := m) (x := .int (ns.getD m 0)) (v := ws[m]) (by simp [List.getD, hlen, hm']) (List.getElem?_eq_getElem hm')
    generalize hq : ws[m] = q at this
    cases this with
    | int _ t => exact ⟨t, by simpa using hq⟩
  refine call_meets PySem.F.slot_list_index ⟨_, e, rfl⟩ PySem.F.entry_list_index (PySem.F.args_list_index_2 _ _) (PySem.MeetsSeq.list_index a ws.toArray n (.int x t) (fun y => match y with | .int i _ => i == x | _ => false) (fun y hy => ?_) j (by rw [List.size_toArray]; walk_at "om") (by walk_at "om") ?_ ?_) ⟨e, ?_⟩
  · obtain ⟨m, hm, rfl⟩ := Array.getElem_of_mem hy
    obtain ⟨t', q⟩ := val m hm
    rw [q]
    exact PySem.MeetsSeq.EqGives.int _ _ _ _
  · obtain ⟨t', q⟩ := val j (by rw [List.size_toArray]; walk_at "om")
    rw [q]
    simp [List.getD, hj]
  · intro m hm hmj
    obtain ⟨t', q⟩ := val m hm
    rw [q]
    have h1 := hno m hmj
    have h2 : m < ns.length := by walk_at "om"
    have h3 : ns[m]? = some (ns.getD m 0) := by simp [List.getD, h2]
    rw [h3] at h1
    simpa using h1
  · exact .here S (.int _ _) h
end
end Mine
end
section
open PySem PySem.W PyProof.Rows PySem.Calls
set_option Elab.async false
set_option linter.unusedVariables false
set_option maxRecDepth 10000
namespace Mine

/-! ## instances of Match: what the tuple's own slots do with them -/
section
variable {w : World} {A : Around} {E : Value → Shared → Prop} {s : Shared} {a : Addr} {dd : Option Addr} {vs : Array Value} {n : Nat} {sl : Array (Option Value)}
theorem mt_type {M : Model} {h : Heap} (o : h.get? a = some ⟨.ref 135, dd, .seq vs n, sl⟩) : Looks M h (typeOf (.ref a)) (.ref 135) := (Looks.ld o).andThen .now
theorem mt_inst {M : Model} {h : Heap} {P : Params} (X : (K P).In h) (o : h.get? a = some ⟨.ref 135, dd, .seq vs n, sl⟩) : Looks M h (isInstance (.ref a) (.type "tuple")) true := (mt_type o).andThen (looks_mroIn X (by kernel_rfl))
theorem mt_f_iter (P : Params) : findIn (K P) (.ref 135) "__iter__" = some (some (.builtin "tuple.__iter__")) := by kernel_rfl
theorem mt_f_getitem (P : Params) : findIn (K P) (.ref 135) "__getitem__" = some (some (.builtin "tuple.__getitem__")) := by kernel_rfl
theorem mt_f_len (P : Params) : findIn (K P) (.ref 135) "__len__" = some (some (.builtin "tuple.__len__")) := by kernel_rfl
theorem sub_special {M : Model} {P : Params} {self : Value} {name : Str} {id : String} {args : List Value} {Q : Option Value → Shared → Prop} (X : (K P).In s.heap) (T : Looks M s.heap (typeOf self) (.ref 135)) (hf : findIn (K P) (.ref 135) name = some (some (.builtin id)))
    (hb : ∀ self, bindSpecial (.builtin id) self = pure (.builtin id, [self])) (h : wpAny M A (call (.builtin id) (self :: args)) (fun v => Q (some v)) E s) : wpAny M A (callSpecial? self name args) Q E s :=
  wpAny_bind (wpAny_bind (T.here ((looks_findIn X hf).here (wpAny_holding (wpAny_bind ((Looks.of_pure (hb self)).here (wpAny_bind (wpAny_mono h (fun _ _ z => wpAny_pure z) fun _ _ z => z))))))))
theorem sub_call {id owner nn : String} {B : Builtin} {self : Value} {rest : List Value} {Q : Value → Shared → Prop} (pl : plainId id = true) (entry : entryFor table id = some B) (hk : builtinKind id = some .slot) (hs : splitId id = some (owner, nn)) (hi : Looks (model pw w) s.heap (isInstance self (.type owner)) true) (ha : argsOk id ⟨self :: rest, []⟩)
    (h : wpAny (model pw w) A.in1 (B ⟨self :: rest, []⟩) (fun fin s' => ∃ v, fin = .done (.ret v) ∧ Q v s') E s) : wpAny (model pw w) A (call (.builtin id) (self :: rest)) Q E s := by
  refine wpAny_call (codeAny_call_builtin pl entry (check_slot hk hs hi ha (wpAny_mono h (fun fin s' h' => ?_) fun _ _ h' => h')))
  obtain ⟨v, rfl, hv⟩ := h'; exact hv
theorem mt_iter {Q : Value → Shared → Prop} (X : (K w.params).In s.heap) (o : s.heap.get? a = some ⟨.ref 135, dd, .seq vs n, sl⟩)
    (hQ : Q (.ref s.heap.objs.size) { s with heap := s.heap.push { cls := .type "tuple_iterator", data := .fields #[.ref a, .int 0 0] } }) : wpAny (model pw w) A (pyIter (.ref a)) Q E s := by
  have T := mt_type (M := model pw w) o
  have L : Looks (model pw w) s.heap (specialOf (.ref a) "__iter__") (some (.builtin "tuple.__iter__")) := T.andThen (looks_findIn X (mt_f_iter _))
  have key : wpAny (model pw w) A (call (.builtin "tuple.__iter__") [.ref a]) (fun it s' => ∃ T' r, s'.TypeIs it T' ∧ typeLookup (.type T') "__next__" = pure (some r) ∧ Q it s') E s := by
    refine sub_call (owner := "tuple") (nn := "__iter__") (by decide +kernel) entry_tuple_iter (by decide +kernel) (by decide +kernel) (mt_inst X o) (args_tuple_iter _) ?_
    show wpAny _ _ (do ret (← newFields "tuple_iterator" [.ref a, rawInt 0])) _ _ s
    exact wpAny_bind (wpAny_newObj_type (wpAny_pure ⟨_, rfl, "tuple_iterator", _, ⟨_, Heap.get?_push_size _ rfl, rfl⟩, slot_tupleiter_next.lookup, hQ⟩))
  unfold pyIter
  refine wpAny_bind (L.here ?_)
  show wpAny _ A (callSpecialIfBoundUnlessNone? (.ref a) "__iter__" _ >>= _) Q E s
  refine wpAny_bind ?_
  simp only [callSpecialIfBoundUnlessNone?, bindSpecialIfBound?]
  refine wpAny_holding (wpAny_bind (wpAny_bind (L.here ?_)))
  simp only [slot_tuple_iter.bind]
  refine wpAny_bind (wpAny_askSetting (wpAny_ite ?_))
  have fin : ∀ {rf : Sem Value}, wpAny (model pw w) A (if (Value.builtin "tuple.__iter__" == Value.none) = true then (rf >>= fun v => pure (some v)) else (call (.builtin "tuple.__iter__") [.ref a] >>= fun v => pure (some v))) (fun r s' => wpAny (model pw w) A (match r with
    | some it => (do match ← specialOf it "__next__" with
      | none => rule "iter.non-iterator"; raiseError "TypeError" s!"iter() returned non-iterator of type '{← typeNameOf it}'"
      | some _ => pure it : Sem Value)
    | none => (do match ← bindSpecialIfBound? (.ref a) "__getitem__" with
      | none => rule "iter.not-iterable"; raiseError "TypeError" s!"'{← typeNameOf (.ref a)}' object is not iterable"
      | some _ => rule "iter.getitem-fallback"; newFields "iterator" [(.ref a), ← mkInt 0] : Sem Value)) Q E s') E s := by
    intro rf
    rw [if_neg (by decide)]
    refine wpAny_bind (wpAny_mono key (fun it s' h' => wpAny_pure ?_) fun _ _ e => e)
    obtain ⟨T', r, hT', hl, hq⟩ := h'
    exact wpAny_bind (wpAny_specialOf hT' hl (wpAny_pure hq))
  split
  · exact wpAny_bind (wpAny_pure (wpAny_pure fin))
  · refine wpAny_tryCatch ?_
    exact wpAny_bind (wpAny_pure (wpAny_pure fin))
/-- a thing whose data are a row of values -/
noncomputable def IsRow (h : Heap) (t : Addr) (items : Array Value) : Prop := ∃ o k, h.get? t = some o ∧ o.data = .seq items k
theorem IsRow.keep {h h' : Heap} {t : Addr} {items : Array Value} (r : IsRow h t items) (k : ∀ o, h.get? t = some o → h'.get? t = some o) : IsRow h' t items := let ⟨o, n, e, d⟩ := r; ⟨o, n, k _ e, d⟩
theorem row_next {it t : Addr} {i : Nat} {items : Array Value} {x : Value} {Q : Option Value → Shared → Prop} (hit : IsTupIter s.heap it t i) (ht : IsRow s.heap t items) (hx : items[i]? = some x)
    (hQ : ∀ h', IsTupIter h' it t (i + 1) → Heap.SameBut it s.heap h' → Q (some x) { s with heap := h' }) : wpAny (model pw w) A (pyNext (.ref it)) Q E s := by
  obtain ⟨o, ho, hc, hd⟩ := id hit
  obtain ⟨ol, nl, hol, hdl⟩ := ht
  unfold pyNext
  refine wpAny_bind (wpAny_attempt (wpAny_callSpecial?_slot (name := Str.ofString "__next__") hit.typeIs slot_tupleiter_next (wpAny_call_entry slot_tupleiter_next hit.typeIs entry_tupleiter_next ?_ (args_tupleiter_next _))))
  show wpAny _ _ (field (.ref it) 0 >>= _) _ _ s
  refine wpAny_bind (wpAny_field ho hd (x := .ref t) rfl ?_)
  show wpAny _ _ (if (Value.ref t == Value.none) = true then _ else _) _ _ s
  rw [if_neg (show ¬ ((Value.ref t == Value.none) = true) from Bool.false_ne_true)]
  show wpAny _ _ (field (.ref it) 1 >>= _) _ _ s
  refine wpAny_bind (wpAny_field ho hd (x := .int i 0) rfl ?_)
  show wpAny _ _ (seqItems? (.ref t) >>= _) _ _ s
  refine wpAny_bind (wpAny_seqItems hol hdl ?_)
  simp only [Int.toNat_natCast, hx]
  refine wpAny_bind (wpAny_setField ho hd (by simp) (wpAny_pure ⟨x, rfl, wpAny_pure (hQ _ ?_ (Heap.SameBut.update ..))⟩))
  exact ⟨_, Heap.get?_update_self _ ho (Obj.isFreed_of_fields (Obj.data_mapFields hd _)), (Obj.cls_mapFields ..).trans hc, by rw [Obj.data_mapFields hd]; simp [rawInt]⟩
theorem row_end {it t : Addr} {i : Nat} {items : Array Value} {Q : Option Value → Shared → Prop} (hh : A.handled = none) (hit : IsTupIter s.heap it t i) (ht : IsRow s.heap t items) (hx : items[i]? = none)
    (hQ : ∀ h', Heap.ExtBut it s.heap h' → Q none { s with heap := h' }) : wpAny (model pw w) A (pyNext (.ref it)) Q E s := by
  obtain ⟨o, ho, hc, hd⟩ := id hit
  obtain ⟨ol, nl, hol, hdl⟩ := ht
  unfold pyNext
  refine wpAny_bind (wpAny_attempt (wpAny_callSpecial?_slot (name := Str.ofString "__next__") hit.typeIs slot_tupleiter_next (wpAny_call_entry slot_tupleiter_next hit.typeIs entry_tupleiter_next ?_ (args_tupleiter_next _))))
  show wpAny _ _ (field (.ref it) 0 >>= _) _ _ s
  refine wpAny_bind (wpAny_field ho hd (x := .ref t) rfl ?_)
  show wpAny _ _ (if (Value.ref t == Value.none) = true then _ else _) _ _ s
  rw [if_neg (show ¬ ((Value.ref t == Value.none) = true) from Bool.false_ne_true)]
  show wpAny _ _ (field (.ref it) 1 >>= _) _ _ s
  refine wpAny_bind (wpAny_field ho hd (x := .int i 0) rfl ?_)
  show wpAny _ _ (seqItems? (.ref t) >>= _) _ _ s
  refine wpAny_bind (wpAny_seqItems hol hdl ?_)
  simp only [Int.toNat_natCast, hx]
  refine wpAny_bind (wpAny_rule (wpAny_bind (wpAny_setField ho hd (by simp) ?_)))
  show wpAny _ _ (newExc (.type "StopIteration") [] >>= _) _ _ _
  refine wpAny_bind ?_
  simp only [newExc, newTuple]
  refine wpAny_bind (wpAny_newObj_type ?_ (by size_fits))
  refine wpAny_bind (m := firstArgMember _ _) (wpAny_of_eq (a := Value.none) (by first | rfl | (simp only [firstArgMember]; rfl)) ?_)
  refine wpAny_newObj_type ?_ (by size_fits)
  simp only [raiseNew]
  refine wpAny_bind (wpAny_handled ?_)
  rw [show A.in1.handled = none from hh]
  refine wpAny_bind (wpAny_pure (wpAny_throw ?_))
  refine wpAny_bind (wpAny_isInstance (T := "StopIteration") (b := true) ⟨_, Heap.get?_push_size _ rfl, rfl⟩ isSubtype_stop ?_)
  exact wpAny_pure (hQ _ (((Heap.SameBut.update ..).extBut.push _).push _))
theorem row_draw {it t : Addr} {items : Array Value} (hne : t ≠ it) : ∀ (k i : Nat) (s : Shared) (Q : List Value → Shared → Prop), IsTupIter s.heap it t i → IsRow s.heap t items → i + k ≤ items.size →
    (∀ h', IsTupIter h' it t (i + k) → Heap.SameBut it s.heap h' → Q ((items.toList.drop i).take k) { s with heap := h' }) → wpAny (model pw w) A (draw (.ref it) k) Q E s
  | 0, i, s, Q, hit, _, _, hQ => by
    show wpAny _ _ (pure []) Q E s
    exact wpAny_pure (by simpa using hQ s.heap hit (Heap.SameBut.refl ..))
  | k + 1, i, s, Q, hit, ht, hle, hQ => by
    have hlt : i < items.size := by walk_at "om"
    show wpAny _ _ (pyNext (.ref it) >>= _) Q E s
    refine wpAny_bind (row_next hit ht (x := items[i]) (by simp [hlt]) fun h₁ hit₁ hs₁ => ?_)
    refine wpAny_bind (wpAny_holding (row_draw hne k (i + 1) _ _ hit₁ (ht.keep fun o e => (hs₁.2 t hne).trans e) (by walk_at "om") fun h₂ hit₂ hs₂ => wpAny_pure ?_))
    have hd : items.toList.drop i = items[i] :: items.toList.drop (i + 1) := by simp [List.drop_eq_getElem_cons, hlt]
    have := hQ h₂ (by rw [show i + (k + 1) = i + 1 + k by walk_at "om"]; exact hit₂) (hs₁.trans hs₂)
    rw [hd, List.take_succ_cons] at this
    exact this
theorem mt_unpack {Q : List Value → Shared → Prop} (hh : A.handled = none) (X : (K w.params).In s.heap) (o : s.heap.get? a = some ⟨.ref 135, dd, .seq vs n, sl⟩)
    (hQ : ∀ h', Heap.ExtBut s.heap.objs.size s.heap h' → Q vs.toList { s with heap := h' }) : wpAny (model pw w) A (unpackItems (.ref a) vs.size none) Q E s := by
  have hlt : a ≠ s.heap.objs.size := Nat.ne_of_lt (Heap.lt_size o)
  have L : Looks (model pw w) s.heap (specialOf (.ref a) "__iter__") (some (.builtin "tuple.__iter__")) := (mt_type o).andThen (looks_findIn X (mt_f_iter _))
  have hr : IsRow s.heap a vs := ⟨_, _, o, rfl⟩
  unfold unpackItems
  refine wpAny_bind ?_
  unfold notIterableAtAll
  refine wpAny_bind (L.here ?_)
  refine wpAny_pure ?_
  simp only [Bool.false_eq_true, if_false]
  refine wpAny_bind (wpAny_holding (mt_iter X o ?_))
  refine wpAny_bind (wpAny_holding (row_draw hlt vs.size 0 _ _ ⟨_, Heap.get?_push_size _ rfl, rfl, rfl⟩ (hr.keep fun o e => push_keep _ _ _ _ e) (by walk_at "om") fun h₁ hit₁ hs₁ => ?_))
  have hall : List.take vs.size (List.drop 0 vs.toList) = vs.toList := by rw [List.drop_zero]; exact List.take_of_length_le (by simp)
  rw [hall]
  rw [if_neg (by simp)]
  have ht₁ : IsRow h₁ a vs := hr.keep fun o e => (hs₁.2 a hlt).trans (push_keep _ _ _ _ e)
  refine wpAny_bind (wpAny_holding (row_end hh hit₁ ht₁ (by simp) fun h₂ he₂ => ?_))
  simp only [Option.isSome_none, Bool.false_eq_true, if_false]
  exact wpAny_pure (hQ h₂ fun b o hb e => he₂ b o hb (hs₁.extBut b o hb (Heap.get?_push_of_some _ e)))
end
end Mine
end
section
open PySem PySem.W PyProof.Rows PySem.Calls
open AutoSeq1 (wpAny_loadPart')
set_option Elab.async false
set_option linter.unusedVariables false
set_option maxRecDepth 10000
namespace Mine
section
variable {w : World} {A : Around} {E : Value → Shared → Prop} {s : Shared} {a : Addr} {dd : Option Addr} {vs : Array Value} {n : Nat} {sl : Array (Option Value)}
theorem sub_meets {id owner nn : String} {B : Builtin} {self : Value} {rest : List Value} {S : PySem.Spec} {Q : Value → Shared → Prop} (pl : plainId id = true) (entry : entryFor table id = some B) (hk : builtinKind id = some .slot) (hs : splitId id = some (owner, nn)) (hi : Looks (model pw w) s.heap (isInstance self (.type owner)) true) (ha : argsOk id ⟨self :: rest, []⟩)
    (g : Meets (B ⟨self :: rest, []⟩) S) (h : S A (wants Q E) s) : wpAny (model pw w) A (call (.builtin id) (self :: rest)) Q E s :=
  wpAny_call (codeAny_call_builtin pl entry (check_slot hk hs hi ha (g pw w A (wants Q E) s h)))
theorem mt_getitem_meets (l : Addr) (c : Addr) (dd : Option Addr) (items : Array Value) (n : Nat) (sl : Array (Option Value)) (i : Int) (u : Tok) (k : Nat) (y : Value) (hlo : -2 ^ 63 ≤ i) (hhi : i < 2 ^ 63) (hk : seqIndex? i items.size = some k) (hy : items[k]? = some y) :
    Meets (Builtin.«tuple.__getitem__» ⟨[.ref l, .int i u], []⟩) (fun _ R s => s.heap.get? l = some ⟨.ref c, dd, .seq items n, sl⟩ ∧ R (.ok (.ret y)) s) :=
  .of_wp fun prog w A R s h => by
    obtain ⟨hp, g, d, tk, os⟩ := s; obtain ⟨hl, h⟩ := h
    have f1 := AutoSeq1.idx_int
    have hf : ¬ (decide (i < -2 ^ 63) || decide (i ≥ 2 ^ 63)) = true := by simp; walk_at "om"
    wp_walk using wpAny_loadPart' hl
    simp only [hk, hy, Option.bind_some]
    refine wpAny_ite_false (by simp; walk_at "om") ?_
    wp_walk
    exact ⟨_, rfl, h⟩
theorem mt_getItem {i : Int} {u : Tok} {k : Nat} {y : Value} {Q : Value → Shared → Prop} (X : (K w.params).In s.heap) (o : s.heap.get? a = some ⟨.ref 135, dd, .seq vs n, sl⟩) (hlo : -2 ^ 63 ≤ i) (hhi : i < 2 ^ 63) (hk : seqIndex? i vs.size = some k) (hy : vs[k]? = some y) (h : Q y s) :
    wpAny (model pw w) A (getItem (.ref a) (.int i u)) Q E s := by
  have T := mt_type (M := model pw w) o
  have L : Looks (model pw w) s.heap (sequenceKey (.ref a) (.int i u) "__getitem__") (.int i u) := by
    unfold sequenceKey
    refine T.andThen ?_
    have L1 : Looks (model pw w) s.heap (isSubtype (.ref 135) (.type "collections.deque")) false := looks_mroIn X (by kernel_rfl)
    exact (show Looks (model pw w) s.heap (seqItemTypes.anyM fun n => isSubtype (.ref 135) (.type n)) false from L1.andThen .now).andThen .now
  unfold getItem
  refine wpAny_holding (wpAny_bind (L.here (wpAny_bind (sub_special X T (mt_f_getitem _) slot_tuple_getitem.bind ?_))))
  exact sub_meets (owner := "tuple") (nn := "__getitem__") (by decide +kernel) PySem.F.entry_tuple_getitem (by decide +kernel) (by decide +kernel) (mt_inst X o) (PySem.F.args_tuple_getitem_2 _ _) (mt_getitem_meets a 135 dd vs n sl i u k y hlo hhi hk hy) ⟨o, wpAny_pure h⟩
theorem mt_tail {value slice : Expr} {i : Int} {u : Tok} {k : Nat} {y : Value} {Q : Value → Shared → Prop} (X : (K w.params).In s.heap) (o : s.heap.get? a = some ⟨.ref 135, dd, .seq vs n, sl⟩) (hlo : -2 ^ 63 ≤ i) (hhi : i < 2 ^ 63) (hk : seqIndex? i vs.size = some k) (hy : vs[k]? = some y) (h : Q y s)
    (hs : subscripted slice false (.ref a) (.int i u) = operate [.ref a, .int i u] (getItem (.ref a) (.int i u))) : wpAny (model pw w) A (subscriptTail value slice (.ref a) (.int i u)) Q E s := by
  have T := mt_type (M := model pw w) o
  unfold subscriptTail
  refine wpAny_bind ?_
  have L : Looks (model pw w) s.heap (getitemInPython (.ref a)) false := by
    unfold getitemInPython
    exact (show Looks (model pw w) s.heap (specialOf (.ref a) "__getitem__") _ from T.andThen (looks_findIn X (mt_f_getitem _))).andThen .now
  refine L.here (wpAny_bind ?_)
  rw [hs]
  exact wpAny_operating (wpAny_mono (mt_getItem X o hlo hhi hk hy h) (fun r s₃ h₃ => wpAny_bind (wpAny_letTemporaryGo (wpAny_pure h₃))) fun _ _ x => x)
end
section
variable {F : Fx} {E : Value → Shared → Prop} {σ : Sig}
theorem St.inK {s : Shared} (S : St F σ s) : (K F.w.params).In s.heap := S.ok.top.kin.keeps S.topK
theorem o_mitem {value slice : Expr} {l : List AV} {k : Nat} {x : AV} {Q : AV → Sig → Prop} (hx : l[k]? = some x) (h : Q x σ) (hk : (k : Int) < 2 ^ 63 := by decide)
    (hs : ∀ a u, subscripted slice false (.ref a) (.int (k : Int) u) = operate [.ref a, .int (k : Int) u] (getItem (.ref a) (.int (k : Int) u)) := by intro a u; with_unfolding_all rfl) : WO2 F E Rep (subscriptTail value slice) (.tup (.ref 135) l) (.int (k : Int)) σ Q := by
  rintro s v u S r ⟨⟩
  cases r with
  | @tup _ _ a dd vs n hc hd e hl kk =>
    have rl : RepL s.heap l vs := RepL.of_get hl kk
    obtain ⟨y, hy, ry⟩ := rl.some hx
    have hlt : k < vs.length := (List.getElem?_eq_some_iff.mp hy).1
    exact mt_tail S.inK e (by walk_at "om") hk (k := k) (seqIndex_of (by walk_at "om") (by rw [List.size_toArray]; walk_at "om")) (by simpa using hy) (.here' S ry h) (hs _ _)
theorem binds_match {elts : List Expr} {is : List Nat} {k : Nat} {p : Pos} {xs : List AV} (pl : Names F elts is) (hl : xs.length = elts.length) (hd : F.hd = none := by rfl) : Binds F (.Tuple elts k p) (.tup (.ref 135) xs) σ ⟨setAll σ.vals is xs, σ.led⟩ := by
  intro s v Q E S r kk
  cases r with
  | @tup _ _ a dd vs n hc hdd e hll kkk =>
    have rl : RepL s.heap xs vs := RepL.of_get hll kkk
    rw [assign_Tuple]
    refine wpAny_bind (wpAny_standAt ?_)
    unfold unpack
    have hn : (assignEach elts F.env).length = vs.toArray.size := by rw [(pl.star _).2, List.size_toArray, ← rl.length, hl]
    rw [hn, (pl.star _).1]
    refine wpAny_bind (wpAny_holding (mt_unpack (S.ok.hh.trans hd) S.inK e fun h' hx => ?_))
    have hk : ∀ b o, s.heap.get? b = some o → h'.get? b = some o := fun b o e => hx b o (Nat.ne_of_lt (Heap.lt_size e)) e
    have S₂ : St F σ { s with heap := h' } := S.grow (tk := s.toks) hk
    exact w_names pl S₂ (rl.mono (.of_keep hk)) hl fun s' S' m' => kk s' S' ((Mono.of_keep hk).trans m')
end
end Mine
end
section
open PySem PySem.W PyProof.Rows PySem.Calls
set_option Elab.async false
set_option linter.unusedVariables false
set_option maxRecDepth 10000
namespace Mine

/-! ## a def with cells -/
noncomputable def scopeOkC (sc : Scope) (names globs : List Str) : Bool :=
  (match sc.kind with | .function => true | _ => false) && names.all (fun x => decide (sc.names.lookup x = some .local) && !(x == ("__debug__" : Str))) && decide names.Nodup &&
    globs.all (fun x => decide (sc.names.lookup x = some .globalImplicit) && !(x == ("__debug__" : Str))) && !sc.isCoroutine && !sc.isGenerator
structure Def.OkC (d : Def) : Prop where
  obj : ∀ P, ∃ c dd sl, (K P).lookup d.fa = some ⟨c, dd, .func d.fd, sl⟩
  body : d.fd.body = .stmts d.body
  code : ∀ P, codeIn (K P) d.fd.code d.fd.qualname = true
  scope : scopeOkC d.fd.scope d.names d.globs = true
  glob : d.fd.globals = 3
  bi : d.fd.builtins = 0
  clo : d.fd.closure = []
noncomputable abbrev Def.frameC (d : Def) (w : World) (hT h₀ : Heap) (L : Addr) (A : Around) (g : Array GenState) (os : OsState) (k : Nat) : Fx :=
  { w, hT, h₀, mods := [], env := callEnvC d.fd L d.fa, names := d.names, globs := d.globs, A := A.deeper (callEnvC d.fd L d.fa), g, os, k }
theorem enterC {d : Def} (D : d.OkC) {w : World} {hT : Heap} {A : Around} {s : Shared} {k : Nat} (C : Cx w hT A s (k + 1)) {vs : List Value} {binds : List (Str × Value)} (led₀ : Addr → List (Addr × AO)) (vals : List (Option AV)) {Qf : AV → List (Addr × AO) → Prop}
    (hbind : bindArgs d.fd ⟨vs, []⟩ = pure binds)
    (hkind : ∀ (z : Nat), ∀ x ∈ binds, d.fd.scope.names.lookup x.1 = some .local ∨ (d.fd.scope.names.lookup x.1 = some .cell ∧ ((cellsFrom (z + 1) d.fd.scope.names []).lookup x.1).isSome = true))
    (hvals : ∀ (L : Addr) (i : Nat) (x : Str) (av : AV), d.names[i]? = some x → vals[i]? = some (some av) → ∃ v, bindL (callEnvC d.fd L d.fa).kindOf binds (fun _ => none) x = some v ∧ Rep s.heap av v)
    (hcells : ∀ (L : Addr) (h : Heap), Mono s.heap h → (∀ n c, (callEnvC d.fd L d.fa).cells.lookup n = some c → h.IsCell c (bindC (callEnvC d.fd L d.fa).kindOf binds (fun _ => none) n)) → ∀ p ∈ led₀ L, RepO w h p.1 p.2)
    (hnd : ∀ L, ((led₀ L).map (·.1)).Nodup ∧ ∀ a ∈ (led₀ L).map (·.1), L < a)
    (hbody : ∀ L, s.heap.get? L = none → WS (d.frameC w hT s.heap L A s.gens s.os k) NoE (execs d.body (callEnvC d.fd L d.fa)) ⟨vals, led₀ L⟩ (EndF Qf)) :
    codeAny (model pw w) A (.call (.ref d.fa) ⟨vs, []⟩) (Ret w s [] Qf) s := by
  obtain ⟨c, dd, sl, ho⟩ := D.obj w.params
  have X := C.top.kin.keeps C.ht
  have sc := D.scope
  unfold scopeOkC at sc
  simp only [Bool.and_eq_true, Bool.not_eq_true'] at sc
  obtain ⟨⟨⟨⟨⟨s1, s2⟩, s3⟩, s4⟩, s6⟩, s7⟩ := sc
  have hkindF : d.fd.scope.kind = .function := by cases q : d.fd.scope.kind <;> simp_all
  have hL : s.heap.get? s.heap.objs.size = none := size_none _
  refine codeAny_call_cells (fd := d.fd) (body := d.body) (binds := binds) (by have := C.dep; have : recursionLimit = 1000 := rfl; walk_at "om") (X _ _ ho) rfl (C.top.nolimit.keeps C.ht) (codeRec_of X (D.code _)) D.body hbind D.clo (hkind _) (fun s₁ I => ?_) s6 s7 hkindF
  obtain ⟨⟨⟨h₁, tk₁, rfl⟩, hns, hk₁, _⟩, hcell, hap, hab⟩ := I
  have mono₁ : Mono s.heap h₁ := .of_keep hk₁
  have okF : FxOk (d.frameC w hT s.heap s.heap.objs.size A s.gens s.os k) := {
    kind := hkindF
    loc := fun i x e => lookup_local s2 e
    nd := of_decide_eq_true s3
    gk := fun x hx => by
      have := List.all_eq_true.mp s4 x hx
      simp only [Bool.and_eq_true, decide_eq_true_eq, Bool.not_eq_true'] at this
      exact this
    glob := D.glob
    bi := D.bi
    hh := C.hh
    dep := by show A.depth + 1 + k ≤ 900; have := C.dep; walk_at "om"
    un := by show A.units + 3 + 20 * k ≤ 9000; have := C.un; walk_at "om"
    top := C.top
    ht := C.ht
    hm := fun _ h => nomatch h
    hmi := fun _ h => nomatch h
    fsm := fun _ h => nomatch h }
  obtain ⟨nd1, nd2⟩ := hnd s.heap.objs.size
  have S : St (d.frameC w hT s.heap s.heap.objs.size A s.gens s.os k) ⟨vals, led₀ s.heap.objs.size⟩ { s with heap := h₁, toks := tk₁ } := {
    ok := okF
    ns := ⟨_, hns, fun i x av a b => let ⟨v, e, r⟩ := hvals _ i x av a b; ⟨v, e, r.mono mono₁⟩⟩
    rep := hcells _ h₁ mono₁ hcell
    nd := List.nodup_cons.mpr ⟨fun q => absurd (nd2 _ q) (Nat.lt_irrefl _), nd1⟩
    new := fun a ha => by
      cases q : s.heap.get? a with
      | none => exact .inl rfl
      | some o => exact absurd (Heap.lt_size q) (Nat.not_lt.mpr (Nat.le_of_lt (nd2 a ha)))
    Lnew := hL
    keep := fun b o e n => hk₁ b o e
    gens := rfl
    os := rfl
    fr := fun _ h => nomatch h
    mb := mono₁ }
  refine wpAny_mono (hbody _ hL _ S) ?_ fun _ _ e => e.elim
  rintro f s' ⟨f', σ', rf, S', m', q⟩
  have fin : ∀ v x, Rep s'.heap x v → Qf x σ'.led → Ret w s [] Qf (.ok (.ret v)) s' := fun v x r q =>
    ⟨v, x, σ'.led, rfl, r, S'.rep, (List.nodup_cons.mp S'.nd).2, fun a ha => (S'.new a ha).elim .inr .inl, S'.keep, S'.mono₀, S'.gens, S'.os, q⟩
  cases rf with
  | next => exact fin _ _ .none q
  | ret r => exact fin _ _ r q
  | brk => exact q.elim
  | cont => exact q.elim
end Mine
end
section
open PySem PySem.W PyProof.Rows PySem.Calls
set_option Elab.async false
set_option linter.unusedVariables false
set_option maxRecDepth 10000
namespace Mine

/-! ## a comprehension with two loops -/
noncomputable def emit2 (elt t0 i0 t1 i1 : Expr) (scope : Scope) (pos : Pos) (acc : Value) (env : Env) : Sem Unit := do
  let x ← eval i1 env
  standAt i1.pos
  let x ← foldedSetIterable i1 env x
  let _ ← runOwn (.compStart (.ListComp elt [⟨t0, i0, [], 0⟩, ⟨t1, i1, [], 0⟩] scope pos) 1 (← holding [x] (pyIter x)) acc env) env
  pure ()
theorem turn2_eq (elt t0 i0 t1 i1 : Expr) (scope : Scope) (pos : Pos) (it acc : Value) (env : Env) : compTurn (.ListComp elt [⟨t0, i0, [], 0⟩, ⟨t1, i1, [], 0⟩] scope pos) 0 it acc env = (do
      standAt i0.pos
      match ← pyNext it with
      | none => pure (.done .next)
      | some v =>
        letOwnedTupleGo t0 it v
        assign t0 env v
        let x ← eval i1 env
        standAt i1.pos
        let x ← foldedSetIterable i1 env x
        let _ ← runOwn (.compStart (.ListComp elt [⟨t0, i0, [], 0⟩, ⟨t1, i1, [], 0⟩] scope pos) 1 (← holding [x] (pyIter x)) acc env) env
        again (.compLoop (.ListComp elt [⟨t0, i0, [], 0⟩, ⟨t1, i1, [], 0⟩] scope pos) 0 it acc env)) := by rfl
theorem compStart1 {w : World} {A : Around} {R : Result → Shared → Prop} {s : Shared} {elt t0 i0 t1 i1 : Expr} {scope : Scope} {pos : Pos} {it acc : Value} {env : Env}
    (h0 : codeAny (model pw w) A (.compLoop (.ListComp elt [⟨t0, i0, [], 0⟩, ⟨t1, i1, [], 0⟩] scope pos) 1 it acc env) R s)
    (h : wpAny (model pw w) A (pyIter it) (fun it' s' => codeAny (model pw w) A (.compLoop (.ListComp elt [⟨t0, i0, [], 0⟩, ⟨t1, i1, [], 0⟩] scope pos) 1 it' acc env) R s') (notedBy (model pw w) A env fun x s' => R (.error x) s') s) :
    codeAny (model pw w) A (.compStart (.ListComp elt [⟨t0, i0, [], 0⟩, ⟨t1, i1, [], 0⟩] scope pos) 1 it acc env) R s := by
  refine codeAny_of_tree ?_
  show wpAny _ _ ((compStart (.ListComp elt [⟨t0, i0, [], 0⟩, ⟨t1, i1, [], 0⟩] scope pos) 1 it acc env).onRaise (fun x => do noteFrame x env; standAt theWindowsPlace)) _ _ s
  refine wpAny_notedAt ?_
  unfold compStart
  show wpAny _ _ (ask >>= _) _ _ s
  refine wpAny_bind (wpAny_askSetting (wpAny_ite ?_))
  split
  · first
      | exact wpAny_bind (wpAny_pure (wpAny_pure (And.intro rfl h0)))
      | exact wpAny_pure (And.intro rfl h0)
  · refine wpAny_bind (wpAny_rule ?_)
    show wpAny _ _ (standAt i1.pos >>= _) _ _ s
    exact wpAny_bind (wpAny_standAt (wpAny_bind (wpAny_mono h (fun it' s' h' => wpAny_pure (And.intro rfl h')) fun _ _ x => x)))
section
variable {F : Fx} {E : Value → Shared → Prop} {σ : Sig}
/-- the loop behind: what it needs -/
noncomputable def Inner (F : Fx) (t1 elt : Expr) (vals₀ : List (Option AV)) (pre : List (Addr × AO)) (D : Addr) (ys : List AV) (extra : List (Addr × AO)) (l : List AV) (nw : Nat) (Ro : Heap → Prop) (J : Nat → List AV → List (Addr × AO) → Prop) : Prop :=
  (∀ σ s, St F σ s → Ro s.heap) ∧ J 0 ys extra ∧ (∀ j ys extra, J j ys extra → ys.length ≤ sizeLine) ∧
  ∀ (j : Nat) (y : AV) (ys : List AV) (extra : List (Addr × AO)) (its : List (Addr × Obj)), its.length = nw → l[j]? = some y → J j ys extra → ∃ σ₃, Binds F t1 y ⟨vals₀, hide its ++ (pre ++ (D, .list ys) :: extra)⟩ σ₃ ∧
    WE F NoE (eval elt F.env) σ₃ fun x σ₅ => EndC vals₀ (hide its ++ pre) D ys (J (j + 1) (ys ++ [x])) σ₅
theorem comp_core2 {elt t0 i0 t1 i1 : Expr} {scope : Scope} {pos : Pos}
    {wr : List Addr} {its : List (Addr × Obj)} {l : List AV} {I D : Addr} {s : Shared} {h : Heap} {Ro : Heap → Prop} {It : Nat → Heap → Prop} {vals₀ : List (Option AV)} (J : Nat → List AV → List (Addr × AO) → Prop) {ys : List AV} {extra : List (Addr × AO)}
    (X : Iter F.w F.A I wr l Ro It t0) (hw : its.map (·.1) = wr) (ro : ∀ σ s, St F σ s → Mono h s.heap → Ro s.heap) (hI : It 0 s.heap) (S : St F ⟨vals₀, hide its ++ (D, .list ys) :: extra⟩ s) (m0 : Mono h s.heap) (h0 : J 0 ys extra)
    (turn : ∀ (j : Nat) (y : AV) (ys : List AV) (extra : List (Addr × AO)) (its : List (Addr × Obj)), its.length = wr.length → l[j]? = some y → J j ys extra → ∃ σ₃, Binds F t0 y ⟨vals₀, hide its ++ (D, .list ys) :: extra⟩ σ₃ ∧
      WE F NoE (eval i1 F.env) σ₃ fun xv σ₄ => ∃ l₂ nw₂ Ro₂ J₂ extra₂ σ₅, Starts F t1 xv σ₄ σ₅ nw₂ l₂ Ro₂ ∧ Weak σ₅ ⟨vals₀, hide its ++ (D, .list ys) :: extra₂⟩ ∧ Inner F t1 elt vals₀ (hide its) D ys extra₂ l₂ nw₂ Ro₂ J₂ ∧ ∀ ys' extra', J₂ l₂.length ys' extra' → J (j + 1) ys' extra')
    {R : Result → Shared → Prop} (done : ∀ s' ys extra, J l.length ys extra → St F ⟨vals₀, (D, .list ys) :: extra⟩ s' → Mono h s'.heap → (∀ a ∈ ((D, AO.list ys) :: extra).map (·.1), a ∉ wr) → R (.ok .next) s') (hs : ∀ x, foldedSetIterable i1 F.env x = pure x) :
    codeAny (model pw F.w) F.A (.compLoop (.ListComp elt [⟨t0, i0, [], 0⟩, ⟨t1, i1, [], 0⟩] scope pos) 0 (.ref I) (.ref D) F.env) R s := by
  refine codeAny_loop rfl (fun n s' => ∃ ys extra its j, its.map (·.1) = wr ∧ St F ⟨vals₀, hide its ++ (D, .list ys) :: extra⟩ s' ∧ It j s'.heap ∧ Mono h s'.heap ∧ J j ys extra ∧ j ≤ l.length ∧ n = l.length + 1 - j) (fun n s' hI' => ?_) (l.length + 1)
    ⟨ys, extra, its, 0, hw, S, hI, m0, h0, Nat.zero_le _, rfl⟩
  show wpAny _ F.A ((compTurn (.ListComp elt [⟨t0, i0, [], 0⟩, ⟨t1, i1, [], 0⟩] scope pos) 0 (.ref I) (.ref D) F.env).onRaise (fun x => do noteFrame x F.env; theTreesLotGoes x)) _ _ s'
  refine wpAny_noted ?_
  rw [turn2_eq]
  obtain ⟨ys₁, extra₁, its₁, j, hw₁, S₁, hit, m₁, hJ, hj, rfl⟩ := hI'
  have nseq : ∀ b ∈ its₁.map (·.1), ∃ o, s'.heap.get? b = some o ∧ ∀ vs n, o.data ≠ .seq vs n := by rw [hw₁]; exact X.here j _ hit
  refine wpAny_bind (wpAny_standAt (wpAny_bind ?_))
  by_cases hlt : j < l.length
  · refine X.item j l[j] s' _ _ (List.getElem?_eq_getElem hlt) (ro _ s' S₁ m₁) hit fun v s₁ go => ?_
    refine wpAny_bind (go _ _ fun h₁ tk rv hit₁ hk => ?_)
    obtain ⟨its₂, e2, i2⟩ := its_of (h := h₁) (wr := wr) fun b hb => let ⟨o, e, _⟩ := X.here _ _ hit₁ b hb; ⟨o, e⟩
    obtain ⟨S₂, _, mono₂⟩ := S₁.its (its' := its₂) (tk := tk) (e2.trans hw₁.symm) nseq (by rw [hw₁]; exact hk) i2
    obtain ⟨σ₃, hb, htt⟩ := turn j l[j] ys₁ extra₁ its₂ (by rw [← e2]; simp) (List.getElem?_eq_getElem hlt) hJ
    refine wpAny_bind (hb _ v _ _ S₂ rv fun s₃ S₃ m₃ => ?_)
    refine wpAny_bind (wpAny_mono (htt s₃ S₃) ?_ fun _ _ e => e.elim)
    rintro xv s₄ ⟨x, σ₄, rx, S₄, m₄, l₂, nw₂, Ro₂, J₂, extra₂, σ₅, st, wk, ⟨ro₂, j0, hsz₂, turn₂⟩, fin₂⟩
    refine wpAny_bind (wpAny_standAt (wpAny_bind (wpAny_of_eq (hs xv) (wpAny_bind (wpAny_holding (st s₄ xv _ _ S₄ rx fun I₂ wr₂ It₂ its₃ s₅ hn₂ X₂ hw₂ hI₂ S₅ m₅ => ?_))))))
    have S₆ : St F ⟨vals₀, hide its₃ ++ (hide its₂ ++ (D, .list ys₁) :: extra₂)⟩ s₅ := S₅.weak ⟨wk.1.append_left _, wk.2⟩
    refine wpAny_bind (wpAny_runOwn ?_)
    have fin : ∀ (s₇ : Shared) ys' extra', St F ⟨vals₀, hide its₂ ++ (D, .list ys') :: extra'⟩ s₇ → Mono h s₇.heap → J (j + 1) ys' extra' → ∃ m, m < l.length + 1 - j ∧ ∃ ys extra its j, its.map (·.1) = wr ∧ St F ⟨vals₀, hide its ++ (D, .list ys) :: extra⟩ s₇ ∧ It j s₇.heap ∧ Mono h s₇.heap ∧ J j ys extra ∧ j ≤ l.length ∧ m = l.length + 1 - j := fun s₇ ys' extra' S₇ mm hq => by
      refine ⟨l.length + 1 - (j + 1), by walk_at "om", ys', extra', its₂, j + 1, e2, S₇, X.frame _ h₁ _ hit₁ fun b hb o e => ?_, mm, hq, by walk_at "om", rfl⟩
      obtain ⟨p, hp, rfl⟩ := List.mem_map.mp (by rw [e2]; exact hb : b ∈ its₂.map (·.1))
      have := i2 p hp
      rw [e] at this
      cases this
      exact S₇.rep (p.1, .obj p.2) (List.mem_append.mpr (.inl (List.mem_map.mpr ⟨p, hp, rfl⟩)))
    have mm5 : Mono h s₅.heap := m₁.trans (mono₂.trans (m₃.trans (m₄.trans m₅)))
    have loop := comp_core (F := F) (turnIs_inner elt t1 i1 t0 i0 [] [] scope pos F.env) (pre := hide its₂) (h := h) (vals₀ := vals₀) (I := I₂) (D := D) (s := s₅) J₂ X₂ hw₂ (fun σ s S _ => ro₂ σ s S) hI₂ S₆ mm5 j0 hsz₂ (fun j y ys extra its hl hy hJ => by
      obtain ⟨σ₃, hb, ht⟩ := turn₂ j y ys extra its (hl.trans hn₂) hy hJ
      exact ⟨σ₃, hb, fun _ => ht, fun e => by cases e⟩) (R := fun r s' => match r with | .ok f => wpAny (model pw F.w) F.A (again (.compLoop (.ListComp elt [⟨t0, i0, [], 0⟩, ⟨t1, i1, [], 0⟩] scope pos) 0 (.ref I) (.ref D) F.env)) (fun fin s' => match fin with
          | .done f => R (.ok f) s'
          | .again c' => c' = .compLoop (.ListComp elt [⟨t0, i0, [], 0⟩, ⟨t1, i1, [], 0⟩] scope pos) 0 (.ref I) (.ref D) F.env ∧ ∃ m, m < l.length + 1 - j ∧ ∃ ys extra its j, its.map (·.1) = wr ∧ St F ⟨vals₀, hide its ++ (D, .list ys) :: extra⟩ s' ∧ It j s'.heap ∧ Mono h s'.heap ∧ J j ys extra ∧ j ≤ l.length ∧ m = l.length + 1 - j) (notedBy (model pw F.w) F.A F.env fun e s' => R (.error e) s') s' | .error e => cameBackBy (model pw F.w) F.A F.env (notedBy (model pw F.w) F.A F.env fun e s' => R (.error e) s') e s')
      (fun s₇ ys' extra' hq S₇ m₇ _ => wpAny_pure ⟨rfl, fin s₇ ys' extra' S₇ m₇ (fin₂ ys' extra' hq)⟩)
    exact compStart1 loop (X₂.self 0 _ _ _ hI₂ loop)
  · have hjn : j = l.length := by walk_at "om"
    subst hjn
    refine X.done s' _ _ (ro _ s' S₁ m₁) hit fun h₁ tk hk => wpAny_pure ?_
    have mono := mono_wr nseq (h' := h₁) (by rw [hw₁]; exact hk)
    have nd := (List.nodup_cons.mp S₁.nd).2
    have nd2 := List.nodup_append.mp (by rw [← List.map_append]; exact nd : ((hide its₁).map (·.1) ++ ((D, AO.list ys₁) :: extra₁).map (·.1)).Nodup)
    have S₆ : St F ⟨vals₀, (D, .list ys₁) :: extra₁⟩ { s' with heap := h₁, toks := tk } := S₁.go (h' := h₁) (its₁.map (·.1)) _ (fun b o e n => hk b o (by rw [← hw₁]; exact n) e) (fun a ha => by rw [List.map_append, hide_keys]; exact List.mem_append.mpr (.inl ha)) mono
      (fun p hp => (S₁.rep p (List.mem_append.mpr (.inr hp))).keep mono fun x e => hk _ _ (fun q => nd2.2.2 p.1 (by rw [hide_keys, hw₁]; exact q) p.1 (List.mem_map_of_mem hp) rfl) e) nd2.2.1 fun a ha => .inl (by rw [List.map_append]; exact List.mem_append.mpr (.inr ha))
    exact done _ ys₁ extra₁ hJ S₆ (m₁.trans mono) fun a ha q => nd2.2.2 a (by rw [hide_keys, hw₁]; exact q) a ha rfl
end
end Mine
end
section
open PySem PySem.W PyProof.Rows PySem.Calls
set_option Elab.async false
set_option linter.unusedVariables false
set_option maxRecDepth 10000
namespace Mine
noncomputable def CompBody2 (F : Fx) (σ : Sig) (scope : Scope) (cl : List (Str × Addr)) (names globs : List Str) (t0 t1 i1 elt : Expr) (l : List AV) (nw : Nat) (Ro : Heap → Prop) (J : Addr → Nat → List AV → List (Addr × AO) → Prop) : Prop :=
  ∀ C h₀ wr g os, (∀ a o, Has F σ a o → RepO F.w h₀ a o ∧ a ∉ wr) →
    (∀ σ' s, St (F.comp scope cl C names globs h₀ wr g os) σ' s → Mono h₀ s.heap → Ro s.heap) ∧ J C 0 [] (cellLed (C + 1) scope.names) ∧
    ∀ (j : Nat) (y : AV) (ys : List AV) (extra : List (Addr × AO)) (its : List (Addr × Obj)) (D : Addr), its.length = nw → l[j]? = some y → J C j ys extra →
      ∃ σ₃, Binds (F.comp scope cl C names globs h₀ wr g os) t0 y ⟨names.map fun _ => none, hide its ++ (D, .list ys) :: extra⟩ σ₃ ∧
        WE (F.comp scope cl C names globs h₀ wr g os) NoE (eval i1 (compEnvC scope (cellsFrom (C + 1) scope.names cl) C F.env)) σ₃ fun xv σ₄ =>
          ∃ l₂ nw₂ Ro₂ J₂ extra₂ σ₅, Starts (F.comp scope cl C names globs h₀ wr g os) t1 xv σ₄ σ₅ nw₂ l₂ Ro₂ ∧ Weak σ₅ ⟨names.map fun _ => none, hide its ++ (D, .list ys) :: extra₂⟩ ∧
            Inner (F.comp scope cl C names globs h₀ wr g os) t1 elt (names.map fun _ => none) (hide its) D ys extra₂ l₂ nw₂ Ro₂ J₂ ∧ ∀ ys' extra', J₂ l₂.length ys' extra' → J C (j + 1) ys' extra'
section
variable {F : Fx} {E : Value → Shared → Prop} {σ : Sig}
theorem we_comp2 {elt t0 i0 t1 i1 : Expr} {scope : Scope} {pos : Pos} {Q : AV → Sig → Prop} (cl : List (Str × Addr)) (names globs : List Str) (l : List AV) (nw : Nat) (Ro : Heap → Prop) (J : Addr → Nat → List AV → List (Addr × AO) → Prop)
    (hclos : closureFor scope F.env = pure cl) (hok : compOk scope (relabel scope F.env) names globs = true)
    (h : WE F E (eval i0 F.env) σ (CompQ F t0 nw l Ro (fun σ₂ => CompBody2 F σ₂ scope cl names globs t0 t1 i1 elt l nw Ro J) J Q))
    (hs : ∀ x, foldedSetIterable i0 F.env x = pure x := by intro _; with_unfolding_all rfl) (hs1 : ∀ C x, foldedSetIterable i1 (compEnvC scope (cellsFrom (C + 1) scope.names cl) C F.env) x = pure x := by intro _ _; with_unfolding_all rfl) :
    WE F E (eval (.ListComp elt [⟨t0, i0, [], 0⟩, ⟨t1, i1, [], 0⟩] scope pos) F.env) σ Q := by
  intro s S
  rw [eval_ListComp]
  obtain ⟨hkind, hnames⟩ := compOk_kind hok
  refine wpAny_comprehension_free (use := none) rfl hs hclos hkind hnames (h.then S ?_)
  rintro v s₁ xv σ₁ rv S₁ m₁ ⟨σ₂, st, body, q⟩
  refine st s₁ v _ _ S₁ rv fun I wr It its s₂ hn X hw hI S₂ m₂ => ?_
  have nseq : ∀ b ∈ its.map (·.1), ∃ o, s₂.heap.get? b = some o ∧ ∀ vs n, o.data ≠ .seq vs n := by rw [hw]; exact X.here 0 _ hI
  refine comp_enter (cl := cl) hok nseq S₂ fun D C s' hDC hD hC S' hk => ?_
  have nd0 := List.nodup_append.mp (by rw [← List.map_append]; exact (List.nodup_cons.mp S₂.nd).2 : ((hide its).map (·.1) ++ σ₂.led.map (·.1)).Nodup)
  have facts : ∀ a o, Has F σ₂ a o → RepO F.w s₂.heap a o ∧ a ∉ its.map (·.1) := fun a o ha => by
    have ha' : Has F ⟨σ₂.vals, hide its ++ σ₂.led⟩ a o := ha.imp (fun z => List.mem_append.mpr (.inr z)) id
    refine ⟨S₂.has ha', fun q => ?_⟩
    rcases ha with z | ⟨z, nm⟩
    · exact nd0.2.2 a (by rw [hide_keys]; exact q) a (List.mem_map_of_mem z) rfl
    · rcases S₂.new a (by rw [List.map_append, hide_keys]; exact List.mem_append.mpr (.inl q)) with z' | z'
      · obtain ⟨x, e⟩ := z.some
        rw [z'] at e; cases e
      · exact nm z'
  obtain ⟨ro, h0, turn⟩ := body C s₂.heap (its.map (·.1)) s₂.gens s₂.os facts
  have hI' : It 0 s'.heap := X.frame _ _ _ hI fun b _ o e => hk b o e
  have loop : codeAny (model pw F.w) F.A (.compLoop (.ListComp elt [⟨t0, i0, [], 0⟩, ⟨t1, i1, [], 0⟩] scope pos) 0 (.ref I) (.ref D) (compEnvC scope (cellsFrom (C + 1) scope.names cl) C F.env)) (compPost (model pw F.w) F.A E none (Post F Rep s.heap Q) (.ref D) C) s' := by
    refine comp_core2 (F := F.comp scope cl C names globs s₂.heap (its.map (·.1)) s₂.gens s₂.os) (h := s₂.heap) (J C) X hw ro hI' S' (.of_keep hk) h0 (fun j y ys extra its hl hy hJ => turn j y ys extra its D (hl.trans hn) hy hJ) (fun s'' ys extra hJ S'' m'' hni => ?_) (hs1 C)
    obtain ⟨oC, m, eC, hn', Z⟩ := comp_leave S₂ S'' (by rw [hw]; exact hni) m''
    refine ⟨m, hn', fun h' hs' => ?_⟩
    obtain ⟨Z', mz⟩ := Z.drop (ns_nseq hn' eC) hs'
    refine ⟨_, _, .ref _, Z', m₁.trans (m₂.trans (m''.trans mz)), q D C ys extra hJ fun qq => ?_⟩
    obtain ⟨p, hp, e⟩ := List.mem_map.mp qq
    obtain ⟨x, ex⟩ := (S₂.rep p (List.mem_append.mpr (.inr hp))).some
    rw [e, hD] at ex; cases ex
  exact codeAny_compStart_list loop (X.self 0 _ _ _ hI' loop)
end
end Mine
end
section
open PySem PySem.W PyProof.Rows PySem.Calls Builtin Builtin.ObjectAttr
set_option Elab.async false
set_option linter.unusedVariables false
set_option maxRecDepth 10000
namespace Mine

/-! ## instances of SequenceMatcher -/
noncomputable def getF (name : Str) : List (Str × AV) → Option AV
  | [] => none
  | (n, x) :: r => match strB n name with
    | true => some x
    | false => getF name r
noncomputable def putF (name : Str) (y : AV) : List (Str × AV) → List (Str × AV)
  | [] => [(name, y)]
  | (n, x) :: r => match strB n name with
    | true => (n, y) :: r
    | false => (n, x) :: putF name y r
theorem natsB_refl : ∀ l : List Nat, natsB l l = true
  | [] => rfl
  | a :: l => by unfold natsB; rw [Nat.beq_refl]; exact natsB_refl l
theorem strB_refl (a : Str) : strB a a = true := natsB_refl _
theorem isStr_strB (n name : Str) (t : Tok) : (Value.str n t).isStr name = strB n name := by
  show (n == name) = strB n name
  cases h : strB n name with
  | true => rw [strB_eq h]; simp
  | false =>
    have : n ≠ name := fun e => by rw [e, strB_refl] at h; cases h
    simpa using this
theorem RepNs.get {h : Heap} {name : Str} : ∀ {fs : List (Str × AV)} {es : List DictEntry}, RepNs h fs es → (∀ x, getF name fs = some x → ∃ v, getL name es = some (some v) ∧ Rep h x v) ∧ (getF name fs = none → getL name es = some none)
  | _, _, .nil => ⟨fun x e => (by cases e), fun _ => rfl⟩
  | _, _, .cons (n := n) (x := x) (t := t) (hs := hs) (v := v) (fs := fs) (es := es) r q => by
    obtain ⟨h1, h2⟩ := RepNs.get (name := name) q
    have e1 := isStr_strB n name t
    unfold getF
    cases hb : strB n name with
    | true =>
      rw [hb] at e1
      refine ⟨fun y e => ?_, fun e => by cases e⟩
      cases e
      refine ⟨v, ?_, r⟩
      unfold getL
      rw [List.find?_cons]
      simp [e1]
    | false =>
      rw [hb] at e1
      have e2 : getL name (⟨hs, .str n t, v⟩ :: es) = getL name es := by
        unfold getL
        rw [List.find?_cons]
        simp only [e1]
        simp [DictEntry.refKey]
      rw [e2]
      exact ⟨h1, h2⟩
theorem RepNs.put {h : Heap} {name : Str} {y : AV} {u : Value} {hsh : Int} {t : Tok} (ry : Rep h y u) : ∀ {fs : List (Str × AV)} {es : List DictEntry}, RepNs h fs es → RepNs h (putF name y fs) (putL name hsh (.str name t) u es)
  | _, _, .nil => .cons ry .nil
  | _, _, .cons (n := n) (x := x) (t := t') (hs := hs) (v := v) (fs := fs) (es := es) r q => by
    have e1 := isStr_strB n name t'
    unfold putF putL
    cases hb : strB n name with
    | true => rw [hb] at e1; rw [if_pos e1]; exact .cons ry q
    | false => rw [hb] at e1; rw [if_neg (by rw [e1]; decide)]; exact .cons r (RepNs.put ry q)
theorem RepNs.length {h : Heap} : ∀ {fs : List (Str × AV)} {es : List DictEntry}, RepNs h fs es → fs.length = es.length
  | _, _, .nil => rfl
  | _, _, .cons _ q => by simp [q.length]
theorem putF_len (name : Str) (y : AV) : ∀ fs : List (Str × AV), (putF name y fs).length ≤ fs.length + 1
  | [] => by simp [putF]
  | (n, x) :: r => by
    unfold putF
    split
    · simp
    · simp only [List.length_cons]; have := putF_len name y r; walk_at "om"
noncomputable def AV.handed : AV → Bool
  | .raw _ => false
  | _ => true
theorem handed_of {h : Heap} {x : AV} {v : Value} (r : Rep h x v) (hx : x.handed = true) : handedIn v = true := by
  cases r with
  | raw => cases hx
  | _ => rfl
section
variable {w : World} {A : Around} {E : Value → Shared → Prop} {s : Shared} {x dx : Addr} {es : List DictEntry} {n : Nat}
theorem instAt {h : Heap} (h1 : h.get? x = some (instObj 242 dx)) (h2 : h.get? dx = some (dictOf es n)) : InstAt h x (instObj 242 dx) 242 (some (dictOf es n)) := ⟨h1, rfl, rfl, h2⟩
theorem sm_get (X : (K w.params).In s.heap) (h1 : s.heap.get? x = some (instObj 242 dx)) (h2 : s.heap.get? dx = some (dictOf es n)) {name : Str} {v : Value} {expr : Bool} {Q : Value → Shared → Prop}
    (ha : findIn (K w.params) (.ref 242) name = some none) (hl : getL name es = some (some v)) (hv : handedIn v = true) (h : Q v { s with toks := s.toks + 1 }) : wpAny (model pw w) A (getAttr (.ref x) name expr) Q E s :=
  get_value X (instAt h1 h2) (by kernel_rfl) (findObj_own (by kernel_rfl) ha rfl hl) hv h
theorem sm_set (X : (K w.params).In s.heap) (h1 : s.heap.get? x = some (instObj 242 dx)) (h2 : s.heap.get? dx = some (dictOf es n)) {name : Str} {v : Value} {Q : Unit → Shared → Prop}
    (ht : takerIn (K w.params) 242 name = some none) (hl : (getL name es).isSome = true) (hz : es.length ≤ 900)
    (h : ∀ h', Heap.SameBut dx s.heap h' → h'.get? dx = some (dictOf (putL name (PyData.keyHash w.params name) (.str name (s.toks + 1)) v es) (putN name es n)) → Q () { s with heap := h', toks := s.toks + 2 }) : wpAny (model pw w) A (setAttr (.ref x) name v) Q E s := by
  have I := instAt h1 h2
  refine set_plain X I (by kernel_rfl) (osa_open (s := { s with toks := s.toks + 1 }) X I (by kernel_rfl) ht fun b => ?_)
  have hd' : (clsIn (K w.params) 242).any (·.hasDict) = true := by kernel_rfl
  obtain ⟨cd, hc, hdd⟩ := any_some hd'
  refine wpAny_bind (wpAny_pure (wpAny_bind (wpAny_bind (wpAny_loadPart h1 (wpAny_bind (Looks.here (s := { s with toks := s.toks + 1 }) (looks_clsIn X hc) ?_))))))
  rw [hdd]
  refine wpAny_pure (a := some dx) (wpAny_bind (wpAny_pure (wpAny_bind ?_)))
  unfold nsSet
  refine wpAny_bind (wpAny_bind (wpAny_askSetting (wpAny_pure (wpAny_bind (wpAny_mkText (wpAny_bind (wpAny_loadPart h2 ?_)))))))
  have c : (!es.toArray.any (·.key.isStr name) && es.toArray.any (·.refKey)) = false := by
    rw [← Array.any_toList, ← Array.any_toList]
    unfold getL at hl
    split at hl
    · rename_i en he
      rw [List.any_eq_true.mpr ⟨en, List.mem_of_find?_eq_some he, List.find?_some he⟩]; rfl
    · split at hl
      · cases hl
      · rename_i z; rw [Bool.not_eq_true] at z; rw [show es.toArray.toList = es by simp, z, Bool.and_false]
  dsimp only
  rw [aRefKeyMayBeTheName_at, c]
  have hlen : (putL name (PyData.keyHash w.params name) (.str name (s.toks + 1)) v es).length ≤ es.length + 1 := by
    clear hl c h h2 I hz
    induction es with
    | nil => simp [putL]
    | cons e r ih => unfold putL; split <;> simp; exact ih
  have D' : (s.heap.update dx (Obj.putName name (PyData.keyHash w.params name) (.str name (s.toks + 1)) v)).get? dx = some (dictOf (putL name (PyData.keyHash w.params name) (.str name (s.toks + 1)) v es) (putN name es n)) := by
    rw [Heap.get?_update_self _ h2 (by rw [putName_dict]; rfl), putName_dict]
  refine wpAny_updatePart h2 ?_
  refine wpAny_bind (wpAny_lookBehind D' (pastItsLine_dict (by rw [List.size_toArray, sizeLine_eq]; walk_at "om")) ?_)
  exact wpAny_pure (h _ (Heap.SameBut.update ..) D')
end
end Mine
end
section
open PySem PySem.W PyProof.Rows PySem.Calls
set_option Elab.async false
set_option linter.unusedVariables false
set_option maxRecDepth 10000
namespace Mine
/-- the names of a SequenceMatcher's own things -/
noncomputable def smNames : List Str := [⟨#[105,115,106,117,110,107]⟩, ⟨#[97]⟩, ⟨#[98]⟩, ⟨#[97,117,116,111,106,117,110,107]⟩, ⟨#[109,97,116,99,104,105,110,103,95,98,108,111,99,107,115]⟩, ⟨#[111,112,99,111,100,101,115]⟩, ⟨#[102,117,108,108,98,99,111,117,110,116]⟩, ⟨#[98,50,106]⟩, ⟨#[98,106,117,110,107]⟩, ⟨#[98,112,111,112,117,108,97,114]⟩]
theorem smNames_ok (P : Params) : (smNames.all fun n => decide (findIn (K P) (.ref 242) n = some none) && decide (takerIn (K P) 242 n = some none)) = true := by kernel_rfl
theorem smName {name : Str} (h : memS smNames name = true) (P : Params) : findIn (K P) (.ref 242) name = some none ∧ takerIn (K P) 242 name = some none := by
  have := List.all_eq_true.mp (smNames_ok P) name (memS_mem h)
  simpa using this
section
variable {F : Fx} {E : Value → Shared → Prop} {σ : Sig}
noncomputable abbrev AttrQ (F : Fx) (E : Value → Shared → Prop) (attr : Str) (Q : AV → Sig → Prop) (x : AV) (σ₁ : Sig) : Prop := WO1 F E Rep (fun v => getAttr v attr true) x σ₁ Q
theorem we_attr {o : Expr} {attr : Str} {p : Pos} {Q : AV → Sig → Prop} (h : WE F E (eval o F.env) σ (AttrQ F E attr Q))
    (he : eval (.Attribute o attr p) F.env = (do
      let o' ← eval o F.env
      standAt p.atName
      let r ← holding [o'] (getAttr o' attr true)
      letTemporaryGo o o' r
      pure r) := by with_unfolding_all rfl) : WE F E (eval (.Attribute o attr p) F.env) σ Q := by
  intro s S
  refine Attribute_any_ (h.then S ?_) he
  rintro v s' x σ' r S' m q
  exact wpAny_mono (q s' v S' r) (fun _ _ p => p.up m) fun _ _ e => e
theorem o_attr {xa dx : Addr} {attr : Str} {fs : List (Str × AV)} {av : AV} {Q : AV → Sig → Prop} (h1 : Has F σ xa (.obj (instObj 242 dx))) (h2 : Has F σ dx (.ns fs)) (hn : memS smNames attr = true) (hg : getF attr fs = some av) (hh : av.handed = true) (h : Q av σ) :
    WO1 F E Rep (fun v => getAttr v attr true) (.ref xa) σ Q := by
  rintro s v S ⟨⟩
  obtain ⟨es, n, e2, r⟩ := S.has h2
  obtain ⟨v, hl, rv⟩ := (r.get (name := attr)).1 av hg
  exact sm_get S.inK (S.has h1) e2 (smName hn _).1 hl (handed_of rv hh) (.here S rv h)
theorem not_imm_dict : ¬ Imm (.type "dict") := by rintro (h | h) <;> simp at h
theorem binds_attr {x : Str} {xp p : Pos} {i : Nat} {attr : Str} {xa dx : Addr} {fs : List (Str × AV)} {y : AV} {led' : List (Addr × AO)} (hx : idxOf F.names x = some i) (hv : σ.vals[i]? = some (some (.ref xa))) (h1 : Has F σ xa (.obj (instObj 242 dx)))
    (u : Upd dx (.ns fs) (.ns (putF attr y fs)) σ.led led') (hn : memS smNames attr = true) (hz : fs.length ≤ 900) (hd : (x == ("__debug__" : Str)) = false := by decide) : Binds F (.Attribute (.Name x xp) attr p) y σ ⟨σ.vals, led'⟩ := by
  intro s v Q E S r k
  rw [PySem.assign_Attribute]
  obtain ⟨m, u', hn', e, ru⟩ := S.name hx hv
  cases ru
  refine wpAny_bind (wpAny_holding (wpAny_Name (wpAny_loadName_local S.ok.kind (S.ok.loc i x (idxOf_eq hx)).1 hn' e ?_) (S.ok.loc i x (idxOf_eq hx)).2))
  refine wpAny_bind (wpAny_standAt (wpAny_bind (wpAny_holding ?_)))
  obtain ⟨es, n, e2, rn⟩ := S.has (.inl u.mem)
  obtain ⟨g1, g2⟩ := rn.get (name := attr)
  refine sm_set S.inK (S.has h1) e2 (smName hn _).2 ?_ (by rw [← rn.length]; exact hz) fun h' hs' hd' => ?_
  · cases q : getF attr fs with
    | none => rw [g2 q]; rfl
    | some z => obtain ⟨v, hv, _⟩ := g1 z q; rw [hv]; rfl
  · have mono : Mono s.heap h' := not_imm_data e2 (fun vs n q => by cases q) fun b x ex hb => (hs'.2 b hb).trans ex
    refine wpAny_release (k _ (S.upd (tk := s.toks + 2) u (fun b x e nb => (hs'.2 b nb).trans e) mono ⟨_, _, hd', ?_⟩) mono)
    exact RepNs.put (r.mono mono) (rn.mono mono)
inductive Bind1Q (F : Fx) (t : Expr) (Q : AF → Sig → Prop) (v : AV) (σ₁ : Sig) : Prop where
  | mk (σ₂ : Sig) (b : Binds F t v σ₁ σ₂) (q : Q .next σ₂)
inductive Bind2Q (F : Fx) (t₁ t₂ : Expr) (Q : AF → Sig → Prop) (v : AV) (σ₁ : Sig) : Prop where
  | mk (σ₂ : Sig) (b : Binds F t₁ v σ₁ σ₂) (q : Bind1Q F t₂ Q v σ₂)
inductive Bind3Q (F : Fx) (t₁ t₂ t₃ : Expr) (Q : AF → Sig → Prop) (v : AV) (σ₁ : Sig) : Prop where
  | mk (σ₂ : Sig) (b : Binds F t₁ v σ₁ σ₂) (q : Bind2Q F t₂ t₃ Q v σ₂)
theorem ws_bind1 {t value : Expr} {p : Pos} {Q : AF → Sig → Prop} (h : WE F E (eval value F.env) σ (Bind1Q F t Q))
    (he : (assignEach [t] F.env).map (·.2) = [assign t F.env] := by with_unfolding_all rfl) (hs : swapsWithSole [t] value p.line F.env = pure false := by with_unfolding_all rfl) (hw : swappedStores [t] value F.env = pure none := by with_unfolding_all rfl) : WS F E (exec (.Assign [t] value p) F.env) σ Q := by
  intro s S
  refine wpAny_Assign_stores (h.then S ?_) hs hw
  rintro v s₁ x σ₁ r S₁ m ⟨σ₂, b, q⟩
  rw [he]
  exact b s₁ v _ _ S₁ r fun s₂ S₂ m₂ => ⟨.next, σ₂, .next, S₂, m.trans m₂, q⟩
theorem ws_bind2 {t₁ t₂ value : Expr} {p : Pos} {Q : AF → Sig → Prop} (h : WE F E (eval value F.env) σ (Bind2Q F t₁ t₂ Q))
    (he : (assignEach [t₁, t₂] F.env).map (·.2) = [assign t₁ F.env, assign t₂ F.env] := by with_unfolding_all rfl) (hw : swappedStores [t₁, t₂] value F.env = pure none := by with_unfolding_all rfl) : WS F E (exec (.Assign [t₁, t₂] value p) F.env) σ Q := by
  intro s S
  refine wpAny_Assign_two (h.then S ?_) he hw
  rintro v s₁ x σ₁ r S₁ m ⟨σ₂, b, σ₃, b', q⟩
  exact b s₁ v _ _ S₁ r fun s₂ S₂ m₂ => b' s₂ v _ _ S₂ (r.mono m₂) fun s₃ S₃ m₃ => ⟨.next, σ₃, .next, S₃, m.trans (m₂.trans m₃), q⟩
theorem ws_bind3 {t₁ t₂ t₃ value : Expr} {p : Pos} {Q : AF → Sig → Prop} (h : WE F E (eval value F.env) σ (Bind3Q F t₁ t₂ t₃ Q))
    (he : (assignEach [t₁, t₂, t₃] F.env).map (·.2) = [assign t₁ F.env, assign t₂ F.env, assign t₃ F.env] := by with_unfolding_all rfl) (hw : swappedStores [t₁, t₂, t₃] value F.env = pure none := by with_unfolding_all rfl) : WS F E (exec (.Assign [t₁, t₂, t₃] value p) F.env) σ Q := by
  intro s S
  refine wpAny_Assign_three (h.then S ?_) he hw
  rintro v s₁ x σ₁ r S₁ m ⟨σ₂, b, σ₃, b', σ₄, b'', q⟩
  exact b s₁ v _ _ S₁ r fun s₂ S₂ m₂ => b' s₂ v _ _ S₂ (r.mono m₂) fun s₃ S₃ m₃ => b'' s₃ v _ _ S₃ ((r.mono m₂).mono m₃) fun s₄ S₄ m₄ => ⟨.next, σ₄, .next, S₄, m.trans (m₂.trans (m₃.trans m₄)), q⟩
end
end Mine
end
section
open PySem PySem.W PyProof.Rows PySem.Calls
set_option Elab.async false
set_option linter.unusedVariables false
set_option maxRecDepth 10000
namespace Mine
/-- the methods that are called -/
noncomputable def smMeths : List (Str × Addr) := [(⟨#[115,101,116,95,115,101,113,115]⟩, 167), (⟨#[115,101,116,95,115,101,113,49]⟩, 174), (⟨#[115,101,116,95,115,101,113,50]⟩, 181), (⟨#[95,83,101,113,117,101,110,99,101,77,97,116,99,104,101,114,95,95,99,104,97,105,110,95,98]⟩, 188), (⟨#[102,105,110,100,95,108,111,110,103,101,115,116,95,109,97,116,99,104]⟩, 196), (⟨#[103,101,116,95,109,97,116,99,104,105,110,103,95,98,108,111,99,107,115]⟩, 203)]
theorem smMeths_ok (P : Params) : (smMeths.all fun p => decide (findIn (K P) (.ref 242) p.1 = some (some (.ref p.2))) && decide (typeIn (K P) (.ref p.2) = some (.type "function")) && keepIn (K P) (.ref p.2)) = true := by kernel_rfl
noncomputable def findA : List (Str × Addr) → Str → Option Addr
  | [], _ => none
  | p :: r, x => match strB p.1 x with
    | true => some p.2
    | false => findA r x
theorem findA_mem : ∀ {l : List (Str × Addr)} {x : Str} {v : Addr}, findA l x = some v → (x, v) ∈ l
  | [], _, _, h => by cases h
  | p :: r, x, v, h => by
    unfold findA at h
    cases q : strB p.1 x with
    | true => rw [q] at h; cases h; rw [← strB_eq q]; exact .head _
    | false => rw [q] at h; exact .tail _ (findA_mem h)
section
variable {F : Fx} {E : Value → Shared → Prop} {σ : Sig}
inductive McallQ (F : Fx) (E : Value → Shared → Prop) (name : Str) (f : Addr) (args : List Expr) (p : Pos) (Q : AV → Sig → Prop) (x : AV) (σ₁ : Sig) : Prop where
  | mk (xa dx : Addr) (fs : List (Str × AV)) (e : x = .ref xa) (h1 : Has F σ₁ xa (.obj (instObj 242 dx))) (h2 : Has F σ₁ dx (.ns fs)) (h3 : getF name fs = none)
      (h4 : WL F E (spliced (backTo p (starEach args F.env))) σ₁ (AppQ1 F E (.ref f) Q (.ref xa)))
theorem we_mcall {o : Expr} {name : Str} {ap p : Pos} {args : List Expr} {pl : Sem Bool} {f : Addr} {Q : AV → Sig → Prop} (hm : findA smMeths name = some f)
    (h : WE F E (eval o F.env) σ (McallQ F E name f args p Q))
    (he : eval (.Call (.Attribute o name ap) args [] p) F.env = (do
      let ov ← eval o F.env
      standAt ap.atName
      let (f, first) ← holding [ov] (getMethod ov name pl)
      callWith p f first (backTo p (starEach args F.env)) []) := by with_unfolding_all rfl)
    (hp : (backTo p (starEach args F.env)).any (·.1) = false := by with_unfolding_all rfl) : WE F E (eval (.Call (.Attribute o name ap) args [] p) F.env) σ Q := by
  intro s S
  have ok := List.all_eq_true.mp (smMeths_ok F.w.params) _ (findA_mem hm)
  simp only [Bool.and_eq_true, decide_eq_true_eq] at ok
  obtain ⟨⟨o1, o2⟩, o3⟩ := ok
  refine MethodCall_ (pl := pl) (h.then S ?_) he
  rintro v s₁ x σ₁ r₁ S₁ m₁ ⟨xa, dx, fs, rfl, h1, h2, h3, h4⟩
  cases r₁
  obtain ⟨es, n, e2, rn⟩ := S₁.has h2
  have hl := (rn.get (name := name)).2 h3
  refine method_fn S₁.inK (instAt (S₁.has h1) e2) (by kernel_rfl) (by kernel_rfl) o1 o2 (by show (lookIn name (dictOf es n)).map _ = _; rw [lookIn_dict, hl]; rfl) ?_
  refine callWith_of (P := (K F.w.params).In) (by rw [hp]; rfl) (keeps_K o3) (evalArgs_any hp (h4.then S₁ ?_))
  rintro vs s₂ xs σ₂ r₂ S₂ m₂ h₂
  refine ⟨S₂.inK, ?_⟩
  exact wpAny_mono (h₂ s₂ (.ref xa :: vs) S₂ (.cons (.ref xa) r₂)) (fun _ _ q => q.up (m₁.trans m₂)) fun _ _ e => e
end
end Mine
end
section
open PySem PySem.W PyProof.Rows PySem.Calls
set_option Elab.async false
set_option linter.unusedVariables false
set_option maxRecDepth 10000
namespace Mine

/-! ## dicts with ints for keys -/
noncomputable def getI (k : Int) : List (Int × AV) → Option AV
  | [] => none
  | (i, x) :: r => if i = k then some x else getI k r
noncomputable def putI (k : Int) (y : AV) (es : List (Int × AV)) : List (Int × AV) := if (getI k es).isSome then es.map (fun p => if p.1 = k then (p.1, y) else p) else es ++ [(k, y)]
theorem RepKV.length {h : Heap} : ∀ {es : List (Int × AV)} {kvs : List (Int × Value)}, RepKV h es kvs → es.length = kvs.length
  | _, _, .nil => rfl
  | _, _, .cons _ q => by simp [q.length]
theorem RepKV.get {h : Heap} {k : Int} : ∀ {es : List (Int × AV)} {kvs : List (Int × Value)}, RepKV h es kvs → (∀ x, getI k es = some x → ∃ v, valueAt kvs k = some v ∧ Rep h x v) ∧ (getI k es = none → valueAt kvs k = none)
  | _, _, .nil => ⟨fun x e => (by cases e), fun _ => rfl⟩
  | _, _, .cons (k := i) (x := x) (v := v) (l := l) (es := es) r q => by
    obtain ⟨h1, h2⟩ := RepKV.get (k := k) q
    unfold getI
    by_cases hk : i = k
    · rw [if_pos hk]
      refine ⟨fun y e => ?_, fun e => by cases e⟩
      cases e
      exact ⟨v, by simp [valueAt, hk], r⟩
    · rw [if_neg hk]
      have : valueAt ((i, v) :: es) k = valueAt es k := by simp [valueAt, hk]
      rw [this]
      exact ⟨h1, h2⟩
theorem RepKV.map {h : Heap} {k : Int} {y : AV} {u : Value} (ry : Rep h y u) : ∀ {es : List (Int × AV)} {kvs : List (Int × Value)}, RepKV h es kvs → RepKV h (es.map fun p => if p.1 = k then (p.1, y) else p) (kvs.map fun kv => if kv.1 = k then (kv.1, u) else kv)
  | _, _, .nil => .nil
  | _, _, .cons (k := i) r q => by
    rw [List.map_cons, List.map_cons]
    by_cases hk : i = k
    · simp only [hk, if_true]; exact .cons ry (RepKV.map ry q)
    · simp only [hk, if_false]; exact .cons r (RepKV.map ry q)
theorem RepKV.snoc {h : Heap} {k : Int} {y : AV} {u : Value} (ry : Rep h y u) : ∀ {es : List (Int × AV)} {kvs : List (Int × Value)}, RepKV h es kvs → RepKV h (es ++ [(k, y)]) (kvs ++ [(k, u)])
  | _, _, .nil => .cons ry .nil
  | _, _, .cons r q => .cons r (RepKV.snoc ry q)
theorem any_valueAt (kvs : List (Int × Value)) (k : Int) : (kvs.any fun kv => decide (kv.1 = k)) = (valueAt kvs k).isSome := by
  unfold valueAt
  rw [Option.isSome_map]
  induction kvs with
  | nil => rfl
  | cons p r ih =>
    rw [List.any_cons, List.find?_cons]
    by_cases hk : p.1 = k
    · simp [hk]
    · simp [hk]; simpa using ih
theorem RepKV.put {h : Heap} {k : Int} {y : AV} {u : Value} (ry : Rep h y u) {es : List (Int × AV)} {kvs : List (Int × Value)} (q : RepKV h es kvs) : RepKV h (putI k y es) (stored kvs k u) := by
  have e : (kvs.any fun kv => decide (kv.1 = k)) = (getI k es).isSome := by
    rw [any_valueAt]
    obtain ⟨h1, h2⟩ := q.get (k := k)
    cases hg : getI k es with
    | none => rw [h2 hg]; rfl
    | some x => obtain ⟨v, hv, _⟩ := h1 x hg; rw [hv]; rfl
  unfold putI stored
  rw [e]
  split
  · exact q.map ry
  · exact q.snoc ry
theorem putI_len (k : Int) (y : AV) (es : List (Int × AV)) : (putI k y es).length ≤ es.length + 1 := by unfold putI; split <;> simp
section
variable {F : Fx} {E : Value → Shared → Prop} {σ : Sig}
theorem isInt_key (k : Int) (t : Tok) : (intKind pw F.w).is k (.int k t) = true := by show Value.isInt k (.int k t) = true; simp [Value.isInt]
theorem typeB_dict {a : Addr} {es : List (Int × AV)} (h : Has F σ a (.dict es)) : TypeB F σ (.ref a) "dict" := by
  rintro s v S ⟨⟩
  obtain ⟨q, kvs, d, _⟩ := S.has h
  exact ⟨d.typeIs, d.mapOf.noDict⟩
theorem dict_nseq {w : World} {h : Heap} {a : Addr} {kvs : List (Int × Value)} (d : h.DictOf (intKind pw w) a kvs) : ∃ o, h.get? a = some o ∧ ∀ vs n, o.data ≠ .seq vs n := by
  obtain ⟨o, es, ep, e, _, hd, _⟩ := d
  exact ⟨o, e, fun vs n q => by rw [hd] at q; cases q⟩
theorem we_dict0 {p : Pos} {Q : AV → Sig → Prop} (h : ∀ a, a ∉ σ.led.map (·.1) → Q (.ref a) ⟨σ.vals, (a, .dict []) :: σ.led⟩) : WE F E (eval (.Dict [] [] p) F.env) σ Q := by
  intro s S
  refine wpAny_Dict_empty ?_
  have hk := push_keep s.heap { cls := .type "dict", data := .dict #[] }
  have hsz : 317 < s.heap.objs.size := Heap.lt_size (S.inK 317 _ (by kernel_rfl : (K F.w.params).lookup 317 = some (o317 F.w.params)))
  refine ⟨_, _, .ref _, S.alloc (tk := s.toks) hk (size_none _) (o := .dict []) ⟨?_, [], Heap.DictOf.new _, .nil⟩, .of_keep hk, h _ (not_led S (size_none _))⟩
  have : sysModules < 317 := by decide
  exact beq_eq_false_iff_ne.mpr (Nat.ne_of_gt (Nat.lt_trans this hsz))
theorem o_dget {a : Addr} {es : List (Int × AV)} {k : Int} {y : AV} {Q : AV → Sig → Prop} (ha : Has F σ a (.dict es)) (h : Q ((getI k es).getD y) σ) : WOL F E Rep (fun vs => call (.builtin "dict.get") vs) [.ref a, .int k, y] σ Q := by
  rintro s vs S r
  obtain ⟨_, _, v, rfl, r1, r2, r3⟩ := r.inv3
  cases r1
  cases r2 with | int _ t =>
  obtain ⟨q, kvs, d, rk⟩ := S.has ha
  refine call_meetsIn PySem.F.slot_dict_get d.typeIs PySem.F.entry_dict_get (PySem.F.args_dict_get_3 _ _ _) (meets_dict_get_default (intKind pw F.w) (k := k) a (isInt_key k t) q v) ⟨_, d.mapOf, ?_⟩
  obtain ⟨h1, h2⟩ := rk.get (k := k)
  cases hg : getI k es with
  | none => rw [h2 hg]; rw [hg] at h; exact .here S r3 h
  | some x => obtain ⟨u, hu, ru⟩ := h1 x hg; rw [hu]; rw [hg] at h; exact .here S ru h
theorem o_setdefault_new {a : Addr} {es : List (Int × AV)} {k : Int} {y : AV} {led' : List (Addr × AO)} {Q : AV → Sig → Prop} (u : Upd a (.dict es) (.dict (putI k y es)) σ.led led') (hg : getI k es = none) (hz : es.length ≤ sizeLine) (h : Q y ⟨σ.vals, led'⟩) :
    WOL F E Rep (fun vs => call (.builtin "dict.setdefault") vs) [.ref a, .int k, y] σ Q := by
  rintro s vs S r
  obtain ⟨_, _, v, rfl, r1, r2, r3⟩ := r.inv3
  cases r1
  cases r2 with | int _ t =>
  obtain ⟨q, kvs, d, rk⟩ := S.has (.inl u.mem)
  obtain ⟨h1, h2⟩ := rk.get (k := k)
  obtain ⟨o, e, ns⟩ := dict_nseq d
  refine call_meetsIn PySem.F.slot_dict_setdefault d.typeIs PySem.F.entry_dict_setdefault (PySem.F.args_dict_setdefault_3 _ _ _) (kt_meets_setdefault (intKind pw F.w) (k := k) a (isInt_key k t) q v) ⟨kvs, d, by rw [← rk.length]; exact hz, fun x hx => ?_, fun _ h' d' hs' => ?_⟩
  · rw [h2 hg] at hx; cases hx
  · have mono : Mono s.heap h' := not_imm_data e ns fun b x ex hb => (hs'.2 b hb).trans ex
    exact ⟨_, _, r3.mono mono, S.upd (tk := s.toks + 1) u (fun b x e nb => (hs'.2 b nb).trans e) mono ⟨q, _, d', RepKV.put (r3.mono mono) (rk.mono mono)⟩, mono, h⟩
theorem o_dset {a : Addr} {es : List (Int × AV)} {k : Int} {x : AV} {led' : List (Addr × AO)} {Q : Unit → Sig → Prop} (u : Upd a (.dict es) (.dict (putI k x es)) σ.led led') (hz : es.length ≤ sizeLine) (h : Q () ⟨σ.vals, led'⟩) :
    WOL F E (fun _ (_ _ : Unit) => True) (fun vs => match vs with | [ov, iv, v] => setItem ov iv v | _ => throw .none) [.ref a, .int k, x] σ Q := by
  rintro s vs S r
  obtain ⟨_, _, v, rfl, r1, r2, r3⟩ := r.inv3
  cases r1
  cases r2 with | int _ t =>
  obtain ⟨q, kvs, d, rk⟩ := S.has (.inl u.mem)
  obtain ⟨o, e, ns⟩ := dict_nseq d
  show wpAny _ _ (setItem _ _ _) _ _ _
  refine wpAny_setItem_pairs (knd := intKind pw F.w) (k := k) (isInt_key k t) d (fun h' d' hs' => ?_) (by rw [← rk.length]; exact hz)
  have mono : Mono s.heap h' := not_imm_data e ns fun b x ex hb => (hs'.2 b hb).trans ex
  exact ⟨(), _, trivial, S.upd (tk := s.toks + 1) u (fun b x e nb => (hs'.2 b nb).trans e) mono ⟨q, _, d', RepKV.put (r3.mono mono) (rk.mono mono)⟩, mono, h⟩
/-- «d[i]» as one of several targets -/
theorem binds_sub {x y : Str} {xp yp p : Pos} {i j : Nat} {xa ya z : AV} {σ' : Sig} (hx : idxOf F.names x = some i) (hxv : σ.vals[i]? = some (some xa)) (hy : idxOf F.names y = some j) (hyv : σ.vals[j]? = some (some ya))
    (h : ∀ E, WOL F E (fun _ (_ _ : Unit) => True) (fun vs => match vs with | [ov, iv, v] => setItem ov iv v | _ => throw .none) [xa, ya, z] σ fun _ σ₂ => σ₂ = σ') : Binds F (.Subscript (.Name x xp) (.Name y yp) p) z σ σ' := by
  intro s v Q E S r k
  rw [arm_assign_Subscript]
  obtain ⟨m, u, hn, e, ru⟩ := S.name hx hxv
  obtain ⟨m', u', hn', e', ru'⟩ := S.name hy hyv
  refine wpAny_bind (wpAny_holding (wpAny_Name (wpAny_loadName_local S.ok.kind (S.ok.loc i x (idxOf_eq hx)).1 hn e ?_) (S.ok.loc i x (idxOf_eq hx)).2))
  refine wpAny_bind (wpAny_holding (wpAny_Name (wpAny_loadName_local S.ok.kind (S.ok.loc j y (idxOf_eq hy)).1 hn' e' ?_) (S.ok.loc j y (idxOf_eq hy)).2))
  refine wpAny_bind (wpAny_standAt (wpAny_bind (wpAny_holding (wpAny_mono (h E s [u, u', v] S (.cons ru (.cons ru' (.cons r .nil)))) ?_ fun _ _ e => e))))
  rintro _ s₂ ⟨_, σ₂, _, S₂, m₂, rfl⟩
  exact wpAny_release (k s₂ S₂ m₂)
end
end Mine
end
section
open PySem PySem.W PyProof.Rows PySem.Calls
set_option Elab.async false
set_option linter.unusedVariables false
set_option maxRecDepth 10000
namespace Mine
/-- a call with arguments left out -/
theorem enterD {d : Def} (D : d.Ok) {w : World} {hT : Heap} {A : Around} {s : Shared} {k : Nat} (C : Cx w hT A s (k + 1)) {xs : List AV} {vs vs' : List Value} (r : RepL s.heap xs vs') (hb : BindsTo s d.fd ⟨vs, []⟩ (d.names.zip vs')) (led₀ : List (Addr × AO)) (vals : List (Option AV)) (j : Nat) {Qf : AV → List (Addr × AO) → Prop}
    (hled : ∀ p ∈ led₀, hT.get? p.1 = none ∧ p.2.mut = true ∧ RepO w s.heap p.1 p.2) (hnd : (led₀.map (·.1)).Nodup) (hv : xs.map some ++ List.replicate j none = vals)
    (hbody : ∀ L, s.heap.get? L = none → WS (d.frame w hT s.heap (led₀.map (·.1)) L A s.gens s.os k) NoE (execs d.body (callEnv d.fd L d.fa)) ⟨vals, led₀⟩ (EndF Qf)) :
    codeAny (model pw w) A (.call (.ref d.fa) ⟨vs, []⟩) (Ret w s (led₀.map (·.1)) Qf) s := by
  have sc := D.scope
  unfold scopeOk at sc
  simp only [Bool.and_eq_true, Bool.not_eq_true'] at sc
  have nd : d.names.Nodup := of_decide_eq_true sc.1.1.1.1.2
  refine enter D C (led₀.map (·.1)) led₀ vals hb (fun y hy => (List.of_mem_zip (a := y.1) (b := y.2) hy).1) (fun i x av hx ha => ?_) (fun a ha => ?_) (fun a ha => ?_) (fun p hp => ⟨List.mem_map_of_mem hp, (hled p hp).2.2⟩) hnd hbody
  · subst hv
    by_cases hi : i < xs.length
    · rw [List.getElem?_append_left (by simpa using hi), List.getElem?_map] at ha
      cases q : xs[i]? with
      | none => rw [q] at ha; cases ha
      | some z =>
        rw [q] at ha
        cases ha
        obtain ⟨v, e, rv⟩ := r.some q
        exact ⟨v, zip_lookup nd hx e, rv⟩
    · rw [List.getElem?_append_right (by simpa using hi), List.getElem?_replicate] at ha
      split at ha <;> cases ha
  · obtain ⟨p, hp, rfl⟩ := List.mem_map.mp ha
    exact (hled p hp).1
  · obtain ⟨p, hp, rfl⟩ := List.mem_map.mp ha
    exact repO_mut (hled p hp).2.1 (hled p hp).2.2
end Mine
end
section
open PySem PySem.W PyProof.Rows PySem.Calls
set_option Elab.async false
set_option linter.unusedVariables false
set_option maxRecDepth 100000
namespace Mine
theorem md_get_lookup : typeLookup (.type "method_descriptor") "__get__" = pure (some (.builtin "method_descriptor.__get__")) := by rw [typeLookup_type, builtinLookup_eq_fast]; kernel_rfl
theorem md_set_lookup : typeLookup (.type "method_descriptor") "__set__" = pure none := by rw [typeLookup_type, builtinLookup_eq_fast]; kernel_rfl
theorem md_del_lookup : typeLookup (.type "method_descriptor") "__delete__" = pure none := by rw [typeLookup_type, builtinLookup_eq_fast]; kernel_rfl
theorem md_get_slot : Slot "method_descriptor" "__get__" "method_descriptor.__get__" := .of (owner := "method_descriptor") (n := "__get__") md_get_lookup (by decide +kernel) (by decide +kernel) (by decide +kernel) (.inl (by decide +kernel)) (by rw [isSubtype_type]; kernel_rfl)
theorem md_get_entry : entryFor table "method_descriptor.__get__" = some Builtin.«method_descriptor.__get__» := entryFor_of_tree (by kernel_rfl)
theorem md_get_args (a b c : Value) : argsOk "method_descriptor.__get__" ⟨[a, b, c], []⟩ := by unfold argsOk; kernel_rfl
theorem own_dict_get : ".".intercalate ("dict.get".cutAt '.').dropLast = "dict" := by decide +kernel
section
variable {w : World} {A : Around} {E : Value → Shared → Prop} {h : Heap} {g : Array GenState} {d : Drawn} {t : Nat} {os : OsState} {a : Addr} {o : Obj}
theorem bm_get {R : Result → Shared → Prop} (hx : h.get? a = some o) (hc : o.cls = .type "dict") (hq : R (.ok (.ret (.ref h.objs.size))) ⟨h.push { cls := .type "builtin_function_or_method", data := .fields #[.builtin "dict.get", .ref a] }, g, d, t, os⟩) :
    codeAny (model pw w) A (.call (.builtin "method_descriptor.__get__") ⟨[.builtin "dict.get", .ref a, .type "dict"], []⟩) R ⟨h, g, d, t, os⟩ := by
  have hT : (⟨h, g, d, t, os⟩ : Shared).TypeIs (.ref a) "dict" := ⟨_, hx, hc⟩
  have hT5 : (⟨h, g, d, t, os⟩ : Shared).TypeIs (.builtin "dict.get") "method_descriptor" := PySem.F.type_dict_get
  have f8 : isSubtype (.type "dict") (.type (".".intercalate ("dict.get".cutAt '.').dropLast)) = pure true := by rw [own_dict_get, isSubtype_type]; kernel_rfl
  refine codeAny_call_builtin md_get_slot.plain md_get_entry (md_get_slot.check _ _ _ _ _ _ _ _ hT5 (md_get_args _ _ _) ?_)
  repeat (any_goals (first | assumption | wp_step))
theorem bm_entry {tk : Tok} {es : Array DictEntry} {ep : Nat} {sl : Array (Option Value)} {Q : Fin → Shared → Prop} (hx : h.get? a = some ⟨.type "dict", none, .dict es ep, sl⟩) (hq : Q (.done (.ret (.ref h.objs.size))) ⟨h.push { cls := .type "builtin_function_or_method", data := .fields #[.builtin "dict.get", .ref a] }, g, d, t, os⟩) :
    wpAny (model pw w) A (Builtin.«object.__getattribute__» ⟨[.ref a, .str "get" tk], []⟩) Q E ⟨h, g, d, t, os⟩ := by
  have hT : (⟨h, g, d, t, os⟩ : Shared).TypeIs (.ref a) "dict" := ⟨_, hx, rfl⟩
  have hT5 : (⟨h, g, d, t, os⟩ : Shared).TypeIs (.builtin "dict.get") "method_descriptor" := PySem.F.type_dict_get
  have f4 := PySem.F.slot_dict_get.lookup
  have f5 := PySem.F.type_dict_get
  have f6 := md_get_lookup
  have f7 := md_set_lookup
  have f9 := md_del_lookup
  repeat (any_goals (first | assumption | wp_step))
  refine bm_get hx rfl ?_
  exact wpAny_pure hq
theorem bm_attr {es : Array DictEntry} {ep : Nat} {sl : Array (Option Value)} {expr : Bool} {Q : Value → Shared → Prop} (hx : h.get? a = some ⟨.type "dict", none, .dict es ep, sl⟩) (hq : Q (.ref h.objs.size) ⟨h.push { cls := .type "builtin_function_or_method", data := .fields #[.builtin "dict.get", .ref a] }, g, d, t + 1, os⟩) :
    wpAny (model pw w) A (getAttr (.ref a) "get" expr) Q E ⟨h, g, d, t, os⟩ := by
  have hT : (⟨h, g, d, t + 1, os⟩ : Shared).TypeIs (.ref a) "dict" := ⟨_, hx, rfl⟩
  have f2 := PySem.F.slot_dict_getattribute.lookup
  have f3 := PySem.F.slot_dict_getattribute.bind (.ref a)
  unfold getAttr
  repeat (any_goals (first | assumption | wp_step))
  rw [if_neg (by cases expr <;> decide)]
  unfold boundAndCalled
  repeat (any_goals (first | assumption | wp_step))
  refine codeAny_call_builtin PySem.F.slot_dict_getattribute.plain PySem.F.entry_dict_ga (PySem.F.slot_dict_getattribute.check _ _ _ _ _ _ _ _ hT (PySem.F.args_dict_getattribute_2 _ _) (bm_entry hx ?_))
  exact wpAny_pure hq
end
end Mine
end
section
open PySem PySem.W PyProof.Rows PySem.Calls
set_option Elab.async false
set_option linter.unusedVariables false
set_option maxRecDepth 100000
namespace Mine
theorem own_set_contains : ".".intercalate ("set.__contains__".cutAt '.').dropLast = "set" := by decide +kernel
section
variable {w : World} {A : Around} {E : Value → Shared → Prop} {h : Heap} {g : Array GenState} {d : Drawn} {t : Nat} {os : OsState} {a : Addr} {o : Obj}
theorem bs_get {R : Result → Shared → Prop} (hx : h.get? a = some o) (hc : o.cls = .type "set") (hq : R (.ok (.ret (.ref h.objs.size))) ⟨h.push { cls := .type "builtin_function_or_method", data := .fields #[.builtin "set.__contains__", .ref a] }, g, d, t, os⟩) :
    codeAny (model pw w) A (.call (.builtin "method_descriptor.__get__") ⟨[.builtin "set.__contains__", .ref a, .type "set"], []⟩) R ⟨h, g, d, t, os⟩ := by
  have hT : (⟨h, g, d, t, os⟩ : Shared).TypeIs (.ref a) "set" := ⟨_, hx, hc⟩
  have hT5 : (⟨h, g, d, t, os⟩ : Shared).TypeIs (.builtin "set.__contains__") "method_descriptor" := PySem.F.type_set_contains
  have f8 : isSubtype (.type "set") (.type (".".intercalate ("set.__contains__".cutAt '.').dropLast)) = pure true := by rw [own_set_contains, isSubtype_type]; kernel_rfl
  refine codeAny_call_builtin md_get_slot.plain md_get_entry (md_get_slot.check _ _ _ _ _ _ _ _ hT5 (md_get_args _ _ _) ?_)
  repeat (any_goals (first | assumption | wp_step))
theorem bs_entry {tk : Tok} {n0 : Nat} {tt : SetTable} {sl : Array (Option Value)} {Q : Fin → Shared → Prop} (hx : h.get? a = some ⟨.type "set", none, .set #[] n0 tt, sl⟩) (hq : Q (.done (.ret (.ref h.objs.size))) ⟨h.push { cls := .type "builtin_function_or_method", data := .fields #[.builtin "set.__contains__", .ref a] }, g, d, t, os⟩) :
    wpAny (model pw w) A (Builtin.«object.__getattribute__» ⟨[.ref a, .str "__contains__" tk], []⟩) Q E ⟨h, g, d, t, os⟩ := by
  have hT : (⟨h, g, d, t, os⟩ : Shared).TypeIs (.ref a) "set" := ⟨_, hx, rfl⟩
  have hT5 : (⟨h, g, d, t, os⟩ : Shared).TypeIs (.builtin "set.__contains__") "method_descriptor" := PySem.F.type_set_contains
  have f4 := PySem.F.slot_set_contains.lookup
  have f5 := PySem.F.type_set_contains
  have f6 := md_get_lookup
  have f7 := md_set_lookup
  have f9 := md_del_lookup
  repeat (any_goals (first | assumption | wp_step))
  refine bs_get hx rfl ?_
  exact wpAny_pure hq
theorem bs_attr {n0 : Nat} {tt : SetTable} {sl : Array (Option Value)} {expr : Bool} {Q : Value → Shared → Prop} (hx : h.get? a = some ⟨.type "set", none, .set #[] n0 tt, sl⟩) (hq : Q (.ref h.objs.size) ⟨h.push { cls := .type "builtin_function_or_method", data := .fields #[.builtin "set.__contains__", .ref a] }, g, d, t + 1, os⟩) :
    wpAny (model pw w) A (getAttr (.ref a) "__contains__" expr) Q E ⟨h, g, d, t, os⟩ := by
  have hT : (⟨h, g, d, t + 1, os⟩ : Shared).TypeIs (.ref a) "set" := ⟨_, hx, rfl⟩
  have f2 := PySem.F.slot_set_getattribute.lookup
  have f3 := PySem.F.slot_set_getattribute.bind (.ref a)
  unfold getAttr
  repeat (any_goals (first | assumption | wp_step))
  rw [if_neg (by cases expr <;> decide)]
  unfold boundAndCalled
  repeat (any_goals (first | assumption | wp_step))
  refine codeAny_call_builtin PySem.F.slot_set_getattribute.plain PySem.F.entry_set_ga (PySem.F.slot_set_getattribute.check _ _ _ _ _ _ _ _ hT (PySem.F.args_set_getattribute_2 _ _) (bs_entry hx ?_))
  exact wpAny_pure hq
end
end Mine
end
section
open PySem PySem.W PyProof.Rows PySem.Calls
set_option Elab.async false
set_option linter.unusedVariables false
set_option maxRecDepth 100000
namespace Mine
section
variable {w : World} {A : Around} {E : Value → Shared → Prop} {h : Heap} {g : Array GenState} {d : Drawn} {t : Nat} {os : OsState} {a : Addr} {o : Obj}
theorem bc_get {x y : Value} {es : Array DictEntry} {ep : Nat} {sl : Array (Option Value)} {Q : Unit → Shared → Prop} (hx : h.get? a = some ⟨.type "dict", none, .dict es ep, sl⟩) (hq : Q () ⟨h, g, d, t, os⟩) :
    wpAny (model pw w) A (checkBoundCall "dict.get" ⟨[.ref a, x, y], []⟩) Q E ⟨h, g, d, t, os⟩ := by
  have hT : (⟨h, g, d, t, os⟩ : Shared).TypeIs (.ref a) "dict" := ⟨_, hx, rfl⟩
  have f1 : isSubtype (.type "dict") (.type "module") = pure false := by rw [isSubtype_type]; kernel_rfl
  unfold checkBoundCall
  repeat (any_goals (first | assumption | wp_step))
theorem bc_contains {x : Value} {n0 : Nat} {tt : SetTable} {sl : Array (Option Value)} {Q : Unit → Shared → Prop} (hx : h.get? a = some ⟨.type "set", none, .set #[] n0 tt, sl⟩) (hq : Q () ⟨h, g, d, t, os⟩) :
    wpAny (model pw w) A (checkBoundCall "set.__contains__" ⟨[.ref a, x], []⟩) Q E ⟨h, g, d, t, os⟩ := by
  have hT : (⟨h, g, d, t, os⟩ : Shared).TypeIs (.ref a) "set" := ⟨_, hx, rfl⟩
  have f1 : isSubtype (.type "set") (.type "module") = pure false := by rw [isSubtype_type]; kernel_rfl
  unfold checkBoundCall
  repeat (any_goals (first | assumption | wp_step))
end
end Mine
end
section
open PySem PySem.W PyProof.Rows PySem.Calls
set_option Elab.async false
set_option linter.unusedVariables false
set_option maxRecDepth 10000
namespace Mine
noncomputable abbrev boundO (id : String) (self : Value) : Obj := { cls := .type "builtin_function_or_method", data := .fields #[.builtin id, self] }
section
variable {w : World} {A : Around} {E : Value → Shared → Prop} {s : Shared} {q : Addr} {id : String} {self : Value} {vs : List Value} {R : Result → Shared → Prop}
theorem bound_call {B : Builtin} (ho : s.heap.get? q = some (boundO id self)) (pl : plainId id = true) (entry : entryFor table id = some B)
    (hc : ∀ A' E', wpAny (model pw w) A' (checkBoundCall id ⟨self :: vs, []⟩) (fun _ s₁ => s₁ = s) E' s)
    (h : wpAny (model pw w) A.in1 (B ⟨self :: vs, []⟩) (fun fin s' => match fin with | .done f => R (.ok f) s' | .again c' => c'.quiet = true ∧ codeAny (model pw w) A c' R s') (fun e s' => R (.error e) s') s) :
    codeAny (model pw w) A (.call (.ref q) ⟨vs, []⟩) R s := by
  refine codeAny_of_tree ?_
  show wpAny _ _ (callAny (.ref q) _) _ _ _
  refine nd_load ho ?_
  show wpAny _ _ (checkBoundCall id ⟨self :: vs, []⟩ >>= fun _ => again (.builtin id ⟨self :: vs, []⟩)) _ _ _
  refine wpAny_bind (wpAny_mono (hc _ _) ?_ fun _ _ e => e)
  rintro _ s₁ rfl
  exact wpAny_pure ⟨plainId_quiet pl _, codeAny_builtin entry (by rw [Around.under_plainId pl]; exact h)⟩
end
end Mine
end
section
open PySem PySem.W PyProof.Rows PySem.Calls
set_option Elab.async false
set_option linter.unusedVariables false
set_option maxRecDepth 10000
namespace Mine
section
variable {F : Fx} {E : Value → Shared → Prop} {σ : Sig}
theorem dict_shape {w : World} {h : Heap} {a : Addr} {kvs : List (Int × Value)} (d : h.DictOf (intKind pw w) a kvs) : ∃ es ep, h.get? a = some ⟨.type "dict", none, .dict es ep, #[]⟩ := by
  obtain ⟨⟨c, dd, dt, sl⟩, es, ep, e, ⟨h1, h2, h3⟩, hd, _⟩ := d
  cases h1; cases h2; cases h3; cases hd
  exact ⟨es, ep, e⟩
theorem o_bget {a : Addr} {es : List (Int × AV)} {Q : AV → Sig → Prop} (ha : Has F σ a (.dict es)) (h : ∀ q, q ∉ σ.led.map (·.1) → Q (.ref q) ⟨σ.vals, (q, .obj (boundO "dict.get" (.ref a))) :: σ.led⟩) : WO1 F E Rep (fun v => getAttr v ⟨#[103,101,116]⟩ true) (.ref a) σ Q := by
  rintro s v S ⟨⟩
  obtain ⟨q, kvs, d, rk⟩ := S.has ha
  obtain ⟨es', ep, e⟩ := dict_shape d
  obtain ⟨hp, g, dr, t, os⟩ := s
  have hk := push_keep hp (boundO "dict.get" (.ref a))
  show wpAny _ _ (getAttr (.ref a) (Str.ofString "get") true) _ _ _
  exact bm_attr e ⟨_, _, .ref _, S.alloc (tk := t + 1) hk (size_none _) (o := .obj _) (Heap.get?_push_size _ rfl), .of_keep hk, h _ (not_led S (size_none _))⟩
theorem o_bcont {a : Addr} {Q : AV → Sig → Prop} (ha : Has F σ a .set0) (h : ∀ q, q ∉ σ.led.map (·.1) → Q (.ref q) ⟨σ.vals, (q, .obj (boundO "set.__contains__" (.ref a))) :: σ.led⟩) : WO1 F E Rep (fun v => getAttr v ⟨#[95,95,99,111,110,116,97,105,110,115,95,95]⟩ true) (.ref a) σ Q := by
  rintro s v S ⟨⟩
  obtain ⟨n, tt, e⟩ := S.has ha
  obtain ⟨hp, g, dr, t, os⟩ := s
  have hk := push_keep hp (boundO "set.__contains__" (.ref a))
  show wpAny _ _ (getAttr (.ref a) (Str.ofString "__contains__") true) _ _ _
  exact bs_attr e ⟨_, _, .ref _, S.alloc (tk := t + 1) hk (size_none _) (o := .obj _) (Heap.get?_push_size _ rfl), .of_keep hk, h _ (not_led S (size_none _))⟩
end
end Mine
end
section
open PySem PySem.W PyProof.Rows PySem.Calls
set_option Elab.async false
set_option linter.unusedVariables false
set_option maxRecDepth 10000
namespace Mine
theorem keeps_b {w : World} {q : Addr} {id : String} {self : Value} (h : Heap) (X : h.get? q = some (boundO id self)) : ∃ k, (k = Keeper.frame ∨ k = Keeper.machine ∨ k = Keeper.boundFrame) ∧ Looks (model pw w) h (keeperOf (.ref q)) k :=
  ⟨.machine, .inr (.inl rfl), (Looks.ld (part := none) X).andThen .now⟩
section
variable {F : Fx} {E : Value → Shared → Prop} {σ : Sig}
inductive BappQ (F : Fx) (E : Value → Shared → Prop) (q : Addr) (id : String) (self : Value) (Q : AV → Sig → Prop) (xs : List AV) (σ₂ : Sig) : Prop where
  | mk (h : Has F σ₂ q (.obj (boundO id self))) (k : WOL F E Rep (fun vs => call (.ref q) vs) xs σ₂ Q)
inductive BcallQ (F : Fx) (E : Value → Shared → Prop) (args : List Expr) (p : Pos) (Q : AV → Sig → Prop) (f : AV) (σ₁ : Sig) : Prop where
  | mk (q : Addr) (id : String) (self : Value) (e : f = .ref q) (h : WL F E (spliced (backTo p (starEach args F.env))) σ₁ (BappQ F E q id self Q))
/-- a call of a name that holds a bound method of the language's own -/
theorem we_bcall {func : Expr} {args : List Expr} {p : Pos} {Q : AV → Sig → Prop} (h : WE F E (eval func F.env) σ (BcallQ F E args p Q))
    (he : eval (.Call func args [] p) F.env = (do callWith p (← eval func F.env) [] (backTo p (starEach args F.env)) (backToKw p (keywordEach [] F.env))) := by with_unfolding_all rfl)
    (hp : (backTo p (starEach args F.env)).any (·.1) = false := by with_unfolding_all rfl) : WE F E (eval (.Call func args [] p) F.env) σ Q := by
  intro s S
  refine Call_ (h.then S ?_) he
  rintro f s₁ x σ₁ r₁ S₁ m₁ ⟨q, id, self, rfl, h₁⟩
  cases r₁
  refine callWith_of (P := fun h => h.get? q = some (boundO id self)) (by rw [hp]; rfl) keeps_b (evalArgs_any hp (h₁.then S₁ ?_))
  rintro vs s₂ xs σ₂ r₂ S₂ m₂ ⟨h₂, h₃⟩
  refine ⟨S₂.has h₂, ?_⟩
  exact wpAny_mono (h₃ s₂ vs S₂ r₂) (fun _ _ q => q.up (m₁.trans m₂)) fun _ _ e => e
theorem o_bgetc {q a : Addr} {es : List (Int × AV)} {k : Int} {y : AV} {Q : AV → Sig → Prop} (hq : Has F σ q (.obj (boundO "dict.get" (.ref a)))) (ha : Has F σ a (.dict es)) (h : Q ((getI k es).getD y) σ) : WOL F E Rep (fun vs => call (.ref q) vs) [.int k, y] σ Q := by
  rintro s vs S r
  obtain ⟨_, v, rfl, r2, r3⟩ := r.inv2
  cases r2 with | int _ t =>
  obtain ⟨q', kvs, d, rk⟩ := S.has ha
  obtain ⟨es', ep, e⟩ := dict_shape d
  refine wpAny_call (bound_call (S.has hq) PySem.F.slot_dict_get.plain PySem.F.entry_dict_get (fun A' E' => bc_get (h := s.heap) (g := s.gens) (d := s.drawn) (t := s.toks) (os := s.os) e rfl) (meets_dict_get_default (intKind pw F.w) (k := k) a (isInt_key k t) q' v F.A (wants (Post F Rep s.heap Q) E) s ⟨_, d.mapOf, ?_⟩))
  obtain ⟨h1, h2⟩ := rk.get (k := k)
  cases hg : getI k es with
  | none => rw [h2 hg]; rw [hg] at h; exact .here S r3 h
  | some x => obtain ⟨u, hu, ru⟩ := h1 x hg; rw [hu]; rw [hg] at h; exact .here S ru h
theorem o_bcontc {q a : Addr} {k : Int} {Q : AV → Sig → Prop} (hq : Has F σ q (.obj (boundO "set.__contains__" (.ref a)))) (ha : Has F σ a .set0) (h : Q (.bool false) σ) : WOL F E Rep (fun vs => call (.ref q) vs) [.int k] σ Q := by
  rintro s vs S r
  obtain ⟨_, rfl, r2⟩ := r.inv1
  cases r2 with | int _ t =>
  obtain ⟨n, ld, e⟩ := S.has ha
  have hS : s.heap.SetOf (intKind pw F.w) a (fun _ => false) 0 := ⟨_, #[], n, _, e, ⟨rfl, rfl, rfl⟩, rfl, fun e he => by simp at he, fun k => by simp, by decide, by rfl, rfl⟩
  have hkey := isInt_key (F := F) k t
  refine wpAny_call (bound_call (S.has hq) PySem.F.slot_set_contains.plain entry_set_contains (fun A' E' => bc_contains (h := s.heap) (g := s.gens) (d := s.drawn) (t := s.toks) (os := s.os) e rfl) ?_)
  unfold Builtin.«frozenset.__contains__» Builtin.Frozenset.oneOther
  simp only [List.isEmpty_nil, bind_assoc]
  unfold Builtin.Frozenset.addrOf Builtin.Frozenset.withSetAsKey setContains
  refine wpAny_bind (wpAny_pure ?_)
  try dsimp only
  refine wpAny_bind (wpAny_pure ?_)
  try dsimp only
  refine wpAny_bind (wpAny_tryCatch ?_)
  refine wpAny_holding ?_
  refine wpAny_bind ((intKind pw F.w).pyHash hkey ?_)
  refine wpAny_bind (wpAny_setFind_of (s := { s with toks := s.toks + 1 }) hkey rfl hS fun r hr => ?_)
  refine wpAny_pure ?_
  show wpAny _ _ (ret (Value.bool r.isSome)) _ _ _
  rw [hr]
  exact wpAny_pure (.here S (.bool _) h)
end
end Mine
end
section
open PySem PySem.W PyProof.Rows PySem.Calls
set_option Elab.async false
set_option linter.unusedVariables false
set_option maxRecDepth 100000
namespace Mine
section
variable {w : World} {A : Around} {E : Value → Shared → Prop} {h : Heap}
theorem mk_look (P : Params) : ∃ oc od cd sl, (K P).lookup 135 = some ⟨oc, od, .cls cd, sl⟩ ∧ cd.mro = [.ref 135, .type "tuple", .type "object"] ∧ cd.bases = [.type "tuple"] ∧ sl[4]? = some (some .none) ∧ cd.hasDel = false := by
  refine ⟨_, _, _, _, (by kernel_rfl : (K P).lookup 135 = some (o135 P)), rfl, rfl, rfl, rfl⟩
theorem mk_mro (X : (K w.params).In h) : Looks (model pw w) h (mroOf (.ref 135)) [.ref 135, .type "tuple", .type "object"] := by
  obtain ⟨oc, od, cd, sl, ho, hm, _⟩ := mk_look w.params
  have hc : clsIn (K w.params) 135 = some cd := by unfold clsIn; rw [ho]
  rw [← hm]
  exact (looks_clsIn X hc).andThen .now
theorem mk_made (X : (K w.params).In h) : Looks (model pw w) h (Bind.madeBy (.ref 135)) none := by
  obtain ⟨oc, od, cd, sl, ho, hm, _, hs, _⟩ := mk_look w.params
  intro A Q E s k q
  unfold Bind.madeBy
  refine wpAny_bind (mk_mro X A _ E s k ?_)
  rw [List.forIn_cons]
  refine wpAny_bind (wpAny_bind (wpAny_bind (wpAny_bind (wpAny_loadPart (k _ _ (X _ _ ho)) (wpAny_pure ?_)))))
  dsimp only
  rw [show sl[4]?.join = some .none by rw [hs]; rfl]
  exact wpAny_pure (wpAny_pure (wpAny_pure q))
theorem mk_best : Builtin.Slots.bestBase [.type "tuple"] = pure (.type "tuple") := by kernel_rfl
theorem mk_base (X : (K w.params).In h) : Looks (model pw w) h (Bind.staticBase (.ref 135)) (.type "tuple") := by
  obtain ⟨oc, od, cd, sl, ho, hm, hb, hs, _⟩ := mk_look w.params
  have hc : clsIn (K w.params) 135 = some cd := by unfold clsIn; rw [ho]
  intro A Q E s k q
  unfold Bind.staticBase
  refine wpAny_bind (mk_mro X A _ E s k ?_)
  rw [List.forIn_cons]
  refine wpAny_bind (wpAny_bind (wpAny_bind (mk_made X A _ E s k ?_)))
  refine wpAny_bind (looks_clsIn X hc A _ E s k ?_)
  rw [hb, mk_best]
  refine wpAny_bind (wpAny_pure (wpAny_pure ?_))
  dsimp only
  rw [List.forIn_cons]
  refine wpAny_bind (wpAny_bind ?_)
  dsimp only
  rw [PySem.F.called_tuple.made]
  exact wpAny_pure (wpAny_pure (wpAny_pure (wpAny_pure q)))
end
end Mine
end
section
open PySem PySem.W PyProof.Rows PySem.Calls
set_option Elab.async false
set_option linter.unusedVariables false
set_option maxRecDepth 100000
namespace Mine
section
variable {w : World} {A : Around} {E : Value → Shared → Prop} {s : Shared} {h : Heap}
theorem tn_kind : builtinKind "tuple.__new__" = some .builtinFn := by decide +kernel
theorem tn_split : splitId "tuple.__new__" = some ("tuple", "__new__") := by decide +kernel
theorem tn_args (v : Value) : argsOk "tuple.__new__" ⟨[.ref 135, v], []⟩ := by unfold argsOk; kernel_rfl
theorem tn_sub (X : (K w.params).In h) : Looks (model pw w) h (isSubtype (.ref 135) (.type "tuple")) true := looks_mroIn X (by kernel_rfl)
theorem tn_typ (X : (K w.params).In h) : Looks (model pw w) h (isInstance (.ref 135) (.type "type")) true := looks_instIn X (by kernel_rfl)
theorem tn_check {v : Value} {Q : Unit → Shared → Prop} (X : (K w.params).In s.heap) (q : Q () s) : wpAny (model pw w) A (checkBuiltinCall "tuple.__new__" ⟨[.ref 135, v], []⟩) Q E s := by
  simp only [checkBuiltinCall, tn_kind, tn_split]
  obtain ⟨oc, od, cd, sl, hK, _, _, _, hdel⟩ := mk_look w.params
  have h1 : s.heap.get? 135 = some ⟨oc, od, .cls cd, sl⟩ := X _ _ hK
  have h2 := tn_sub X
  have h3 := mk_base X
  have h4 : Looks (model pw w) s.heap (Bind.madeBy (.type "tuple")) (some "tuple.__new__") := Looks.of_pure PySem.F.called_tuple.made
  have h5 : wpAny (model pw w) A (match Manifest.signature? "tuple.__new__" with | some sig => Bind.checkArgs "tuple.__new__" sig ⟨[.ref 135, v], []⟩ | x => pure ()) Q E s := by
    have ha := tn_args v
    cases hsig : Manifest.signature? "tuple.__new__" with
    | none => exact wpAny_pure q
    | some sig =>
      simp only [argsOk, hsig] at ha
      have h2 : Bind.checkArgs "tuple.__new__" sig ⟨[.ref 135, v], []⟩ = pure () := ha
      dsimp only
      rw [h2]; exact wpAny_pure q
  repeat (first | exact h5 | simp only [bne_self_eq_false, Bool.false_eq_true, if_false, Bool.not_true] | lk)
/-- the tuple's own maker on the class Match -/
theorem tn_call {t : Addr} {vs : Array Value} {R : Result → Shared → Prop} (X : (K w.params).In s.heap) (ht : IsTup s.heap t vs) (hsz : vs.size ≤ sizeLine)
    (hq : ∀ h' x dx, (∀ b o, s.heap.get? b = some o → h'.get? b = some o) → h'.get? x = some ⟨.ref 135, some dx, .seq vs 0, #[]⟩ → s.heap.get? x = none → R (.ok (.ret (.ref x))) { s with heap := h' }) :
    codeAny (model pw w) A (.call (.builtin "tuple.__new__") ⟨[.ref 135, .ref t], []⟩) R s := by
  refine codeAny_call_builtin PySem.F.plain_tuple_new PySem.F.entry_tuple_new (tn_check X ?_)
  obtain ⟨o, ho, hc, n, hd⟩ := ht
  unfold Builtin.«tuple.__new__»
  obtain ⟨oc, od, cd, sl, hK, _, _, _, hdel⟩ := mk_look w.params
  have h1 : s.heap.get? 135 = some ⟨oc, od, .cls cd, sl⟩ := X _ _ hK
  have h2 := tn_sub X
  have h3 := mk_base X
  have h4 : Looks (model pw w) s.heap (Bind.madeBy (.type "tuple")) (some "tuple.__new__") := Looks.of_pure PySem.F.called_tuple.made
  have h5 : Looks (model pw w) s.heap (typeLookup (.ref 135) "__init__") (some (.builtin "object.__init__")) := looks_findIn X (by kernel_rfl)
  refine wpAny_bind ?_
  repeat (first | (refine wpAny_collect_seq (hsz := hsz) t (.inr rfl) ho hc hd fun h' hk => ?_) | simp only [Bool.false_eq_true, if_false, Bool.not_true] | lk)
  rw [if_neg (by simp; exact hsz)]
  unfold newObjAsIs classHasDel
  have k1 : ∀ b o, s.heap.get? b = some o → ((h'.push { cls := Value.type "dict", data := Data.dict #[] }).push { cls := .ref 135, dict := some h'.objs.size, data := .seq vs.toList.toArray }).get? b = some o := fun b o e => Heap.get?_push_of_some _ (Heap.get?_push_of_some _ (hk b o e))
  refine wpAny_bind (wpAny_alloc (wpAny_bind (wpAny_bind (wpAny_load (k1 _ _ h1) (wpAny_pure ?_)))))
  dsimp only
  rw [hdel]
  refine wpAny_pure (wpAny_pure ?_)
  refine hq _ _ h'.objs.size k1 ?_ ?_
  · rw [Heap.get?_push_size _ rfl]
  · cases q : s.heap.get? (h'.push { cls := Value.type "dict", data := Data.dict #[] }).objs.size with
    | none => rfl
    | some o => exact absurd (Heap.lt_size (Heap.get?_push_of_some _ (hk _ _ q))) (Nat.lt_irrefl _)
end
end Mine
end
section
open PySem PySem.W PyProof.Rows PySem.Calls
set_option Elab.async false
set_option linter.unusedVariables false
set_option maxRecDepth 100000
namespace Mine
section
variable {w : World} {A : Around} {E : Value → Shared → Prop} {s : Shared}
theorem method_typ {T : String} {name : Str} {v : Value} {pl : Sem Bool} {Q : Value × List Value → Shared → Prop} (X : (K w.params).In s.heap) (ht : typeOf (.type T) = pure (.type "type")) (hs : Manifest.isStub T = false)
    (e : findCls (K w.params) (.type T) (.type "type") name = some (.val v)) (hh : handedIn v = true) (h : Q (v, []) { s with toks := s.toks + 1 }) : wpAny (model pw w) A (getMethod (.type T) name pl) Q E s := by
  have hstub : opaqueClassAbove (.type T) = pure none := by unfold opaqueClassAbove; dsimp only; rw [hs]; rfl
  have L0 : Looks (model pw w) s.heap (typeOf (.type T)) (.type "type") := Looks.of_pure ht
  have hg : findIn (K w.params) (.type "type") "__getattribute__" = some (some (.builtin "type.__getattribute__")) := type_tga
  unfold getMethod specialOf
  refine wpAny_bind (wpAny_bind (L0.here ((looks_findIn X hg).here ?_)))
  dsimp only
  rw [if_pos canon_tga]
  refine wpAny_bind (wpAny_mono (Q := fun v => Q (v, [])) (E := E) ?_ (fun _ _ z => wpAny_pure z) fun _ _ z => z)
  have LO : Looks (model pw w) s.heap (opaqueClassAbove (.type T)) none := Looks.of_pure hstub
  refine cls_open X LO L0 hg (looks_hook X (r := none) (by rfl)) (by show subIn _ _ _ = _; rfl) e
    (wpAny_pure (by show wpAny _ _ (handedOut v) _ _ _; rw [handedOut_of hh]; exact wpAny_pure h))
end
theorem typ_tuple : typeOf (.type "tuple") = pure (.type "type") := by kernel_rfl
theorem stub_tuple : Manifest.isStub "tuple" = false := by decide +kernel
noncomputable abbrev nNew : Str := ⟨#[95,95,110,101,119,95,95]⟩
noncomputable abbrev nGetitem : Str := ⟨#[95,95,103,101,116,105,116,101,109,95,95]⟩
theorem fc_new (P : Params) : findCls (K P) (.type "tuple") (.type "type") nNew = some (.val (.builtin "tuple.__new__")) := by kernel_rfl
theorem fc_getitem (P : Params) : findCls (K P) (.type "tuple") (.type "type") nGetitem = some (.val (.builtin "tuple.__getitem__")) := by kernel_rfl
section
variable {F : Fx} {E : Value → Shared → Prop} {σ : Sig}
inductive TmethQ (F : Fx) (E : Value → Shared → Prop) (fv : Value) (args : List Expr) (p : Pos) (Q : AV → Sig → Prop) (x : AV) (σ₁ : Sig) : Prop where
  | mk (e : x = .raw (.type "tuple")) (h : WL F E (spliced (backTo p (starEach args F.env))) σ₁ (AppQ F E fv Q))
/-- a method of tuple, asked of the type -/
theorem we_tmeth {o : Expr} {name : Str} {ap p : Pos} {args : List Expr} {pl : Sem Bool} {Q : AV → Sig → Prop} (id : String) (e : ∀ P, findCls (K P) (.type "tuple") (.type "type") name = some (.val (.builtin id)))
    (h : WE F E (eval o F.env) σ (TmethQ F E (.builtin id) args p Q)) (hh : handedIn (.builtin id) = true := by rfl)
    (he : eval (.Call (.Attribute o name ap) args [] p) F.env = (do
      let ov ← eval o F.env
      standAt ap.atName
      let (f, first) ← holding [ov] (getMethod ov name pl)
      callWith p f first (backTo p (starEach args F.env)) []) := by with_unfolding_all rfl)
    (hp : (backTo p (starEach args F.env)).any (·.1) = false := by with_unfolding_all rfl) : WE F E (eval (.Call (.Attribute o name ap) args [] p) F.env) σ Q := by
  intro s S
  refine MethodCall_ (pl := pl) (h.then S ?_) he
  rintro v s₁ x σ₁ r₁ S₁ m₁ ⟨rfl, h₁⟩
  cases r₁
  have e' := e F.w.params
  refine method_typ (w := F.w) (s := s₁) (T := "tuple") (name := name) (v := .builtin id) S₁.inK typ_tuple stub_tuple e' hh ?_
  refine callWith_any (F := F) (.builtin id) hp (h₁.then (S₁.tok (tk := s₁.toks + 1)) ?_)
  rintro vs s₂ xs σ₂ r₂ S₂ m₂ h₂
  refine ⟨S₂.inK, ?_⟩
  exact wpAny_mono (h₂ s₂ vs S₂ r₂) (fun _ _ q => q.up (m₁.trans m₂)) fun _ _ e => e
theorem o_tnew {l : List AV} {Q : AV → Sig → Prop} (hsz : l.length ≤ sizeLine) (h : Q (.tup (.ref 135) l) σ) : WOL F E Rep (fun vs => call (.builtin "tuple.__new__") vs) [.raw (.ref 135), .tup (.type "tuple") l] σ Q := by
  rintro s vs S r
  obtain ⟨_, v, rfl, r1, r2⟩ := r.inv2
  cases r1
  obtain ⟨a, ws, rfl, ht, rl⟩ := r2.isTup
  refine wpAny_call (tn_call S.inK ht (by rw [List.size_toArray, ← rl.length]; exact hsz) fun h' x dx hk hx hn => ?_)
  refine ⟨_, σ, Rep.tupL (.inr rfl) (fun e => by cases e) hx (rl.mono (.of_keep hk)), S.grow (tk := s.toks) hk, .of_keep hk, h⟩
end
end Mine
end
section
open PySem PySem.W PyProof.Rows PySem.Calls
set_option Elab.async false
set_option linter.unusedVariables false
set_option maxRecDepth 10000
namespace Mine
/-! ## the sort of less than 64 things with keys that are all different -/
section
variable {key : Nat → Int} {n : Nat} {cmp : Nat → Nat → (Bool → Shared → Prop) → Shared → Prop} {s : Shared}
noncomputable def PR (n : Nat) (p : Array Nat) : Prop := p.size = n ∧ p.toList.Perm (List.range n)
noncomputable def kq (key : Nat → Int) (p : Array Nat) (i : Nat) : Int := key (p.getD i 0)
noncomputable def AscTo (key : Nat → Int) (p : Array Nat) (m : Nat) : Prop := ∀ i j, i < j → j < m → kq key p i < kq key p j
theorem PR.lt {p : Array Nat} (h : PR n p) {i : Nat} (hi : i < n) : p.getD i 0 < n := by
  have h1 : i < p.size := by rw [h.1]; exact hi
  have e : p.getD i 0 = p[i] := by simp [Array.getD, h1]
  have : p[i] ∈ List.range n := h.2.mem_iff.mp (by simp)
  rw [e]; simpa using this
theorem PR.ne {p : Array Nat} (h : PR n p) {i j : Nat} (hi : i < n) (hj : j < n) (hij : i ≠ j) : p.getD i 0 ≠ p.getD j 0 := by
  have h1 : i < p.toList.length := by rw [Array.length_toList, h.1]; exact hi
  have h2 : j < p.toList.length := by rw [Array.length_toList, h.1]; exact hj
  have nd : p.toList.Nodup := h.2.nodup_iff.mpr List.nodup_range
  intro e
  have e' : p.toList[i] = p.toList[j] := by
    have b1 : i < p.size := by simpa using h1
    have b2 : j < p.size := by simpa using h2
    have a1 : p.getD i 0 = p[i] := by simp [Array.getD, b1]
    have a2 : p.getD j 0 = p[j] := by simp [Array.getD, b2]
    rw [a1, a2] at e
    simpa using e
  exact hij ((List.getElem_inj nd).mp e')
structure Cmp (key : Nat → Int) (n : Nat) (cmp : Nat → Nat → (Bool → Shared → Prop) → Shared → Prop) (s : Shared) : Prop where
  ask : ∀ i j (C : Bool → Shared → Prop), i < n → j < n → i ≠ j → C (decide (key i < key j)) s → cmp i j C s
  inj : ∀ i j, i < n → j < n → i ≠ j → key i ≠ key j
theorem ask_at (H : Cmp key n cmp s) {p : Array Nat} (hp : PR n p) {i j : Nat} (hi : i < n) (hj : j < n) (hij : i ≠ j) {α : Type} {k : Bool → KasT α} {Q : α → Shared → Prop} (h : (k (decide (kq key p i < kq key p j))).kasWp cmp Q s) : (KasT.ask (p.getD i 0) (p.getD j 0) k).kasWp cmp Q s :=
  H.ask _ _ _ (hp.lt hi) (hp.lt hj) (hp.ne hi hj hij) h
theorem kq_ne (H : Cmp key n cmp s) {p : Array Nat} (hp : PR n p) {i j : Nat} (hi : i < n) (hj : j < n) (hij : i ≠ j) : kq key p i ≠ kq key p j := H.inj _ _ (hp.lt hi) (hp.lt hj) (hp.ne hi hj hij)
theorem AscTo.snoc {p : Array Nat} {m : Nat} (h : AscTo key p m) (hm : 1 ≤ m) (e : kq key p (m - 1) < kq key p m) : AscTo key p (m + 1) := by
  intro i j hij hj
  by_cases q : j = m
  · subst q
    by_cases q2 : i = j - 1
    · rw [q2]; exact e
    · have := h i (j - 1) (by walk_at "om") (by walk_at "om"); walk_at "om"
  · exact h i j hij (by walk_at "om")
theorem srt_asc (H : Cmp key n cmp s) {p : Array Nat} (hp : PR n p) {G : Nat → Shared → Prop} : ∀ (f m : Nat), 1 ≤ m → m + f ≤ n → AscTo key p m → (∀ m', m ≤ m' → m' ≤ m + f → AscTo key p m' → (m' < m + f → kq key p m' < kq key p (m' - 1)) → G m' s) → (kas_asc p f m).kasWp cmp G s
  | 0, m, h1, h2, h3, hG => hG m (Nat.le_refl _) (Nat.le_refl _) h3 fun q => absurd q (by walk_at "om")
  | f + 1, m, h1, h2, h3, hG => by
    refine ask_at H hp (by walk_at "om") (by walk_at "om") (by walk_at "om") ?_
    by_cases q : kq key p m < kq key p (m - 1)
    · rw [decide_eq_true q]
      exact hG m (Nat.le_refl _) (by walk_at "om") h3 fun _ => q
    · rw [decide_eq_false q]
      have := kq_ne H hp (i := m) (j := m - 1) (by walk_at "om") (by walk_at "om") (by walk_at "om")
      exact srt_asc H hp f (m + 1) (by walk_at "om") (by walk_at "om") (h3.snoc h1 (by walk_at "om")) fun m' a b c d => hG m' (by walk_at "om") (by walk_at "om") c fun z => d (by walk_at "om")
noncomputable def DescTo (key : Nat → Int) (p : Array Nat) (m : Nat) : Prop := ∀ i j, i < j → j < m → kq key p j < kq key p i
theorem DescTo.snoc {p : Array Nat} {m : Nat} (h : DescTo key p m) (hm : 1 ≤ m) (e : kq key p m < kq key p (m - 1)) : DescTo key p (m + 1) := by
  intro i j hij hj
  by_cases q : j = m
  · subst q
    by_cases q2 : i = j - 1
    · rw [q2]; exact e
    · have := h i (j - 1) (by walk_at "om") (by walk_at "om"); walk_at "om"
  · exact h i j hij (by walk_at "om")
theorem srt_desc (H : Cmp key n cmp s) {p : Array Nat} (hp : PR n p) {G : Array Nat × Nat × Nat → Shared → Prop} : ∀ (f m : Nat), 1 ≤ m → m + f ≤ n → DescTo key p m → (∀ m', m ≤ m' → m' ≤ m + f → DescTo key p m' → G (p, m', 0) s) → (kas_desc f p m 0).kasWp cmp G s
  | 0, m, h1, h2, h3, hG => hG m (Nat.le_refl _) (Nat.le_refl _) h3
  | f + 1, m, h1, h2, h3, hG => by
    refine ask_at H hp (by walk_at "om") (by walk_at "om") (by walk_at "om") ?_
    by_cases q : kq key p m < kq key p (m - 1)
    · rw [decide_eq_true q]
      exact srt_desc H hp f (m + 1) (by walk_at "om") (by walk_at "om") (h3.snoc h1 q) fun m' a b c => hG m' (by walk_at "om") (by walk_at "om") c
    · rw [decide_eq_false q]
      have := kq_ne H hp (i := m) (j := m - 1) (by walk_at "om") (by walk_at "om") (by walk_at "om")
      refine ask_at H hp (by walk_at "om") (by walk_at "om") (by walk_at "om") ?_
      rw [decide_eq_true (by walk_at "om")]
      exact hG m (Nat.le_refl _) (by walk_at "om") h3
theorem PR.rev {p : Array Nat} (h : PR n p) (i j : Nat) : PR n (kas_rev p i j) := ⟨(kas_rev_size i j).trans h.1, (Array.perm_iff_toList_perm.mp (mirror_perm p i j ((j - i) / 2))).trans h.2⟩
theorem PR.bub {p : Array Nat} (h : PR n p) (i j : Nat) : PR n (bubble p i j) := ⟨(bubble_size p i j).trans h.1, (Array.perm_iff_toList_perm.mp (bubble_perm p i j)).trans h.2⟩
theorem getD_of {p q : Array Nat} {i j : Nat} (h : p[i]? = q[j]?) : p.getD i 0 = q.getD j 0 := by rw [Array.getD_eq_getD_getElem?, Array.getD_eq_getD_getElem?, h]
theorem rev_asc {p : Array Nat} (h : PR n p) {m : Nat} (hm : m ≤ n) (d : DescTo key p m) : AscTo key (kas_rev p 0 m) m := by
  intro i j hij hj
  have g : ∀ k, k < m → kq key (kas_rev p 0 m) k = kq key p (m - 1 - k) := fun k hk => by
    unfold kq
    congr 1
    refine getD_of ?_
    unfold kas_rev
    rw [getElem?_mirror_all (by rw [h.1]; exact hm), if_pos (by walk_at "om")]
    congr 1; walk_at "om"
  rw [g i (by walk_at "om"), g j hj]
  exact d _ _ (by walk_at "om") (by walk_at "om")
theorem srt_count (H : Cmp key n cmp s) {p : Array Nat} (hp : PR n p) (h1 : 1 ≤ n) {G : Nat × Array Nat → Shared → Prop} (hG : ∀ m p', 1 ≤ m → m ≤ n → PR n p' → AscTo key p' m → G (m, p') s) : (kas_count n p).kasWp cmp G s := by
  unfold kas_count
  rw [KasT.kasWp_bind]
  refine srt_asc H hp (n - 1) 1 (Nat.le_refl _) (by walk_at "om") (fun i j a b => by walk_at "om") fun m a b c d => ?_
  by_cases e : (m == n) = true
  · rw [if_pos e]; exact hG m p a (by walk_at "om") hp c
  · rw [if_neg e]
    have hne : m ≠ n := fun q => e (by rw [q]; exact beq_self_eq_true _)
    have dd := d (by walk_at "om")
    by_cases e2 : m > 1
    · rw [if_pos e2]
      refine ask_at H hp (by walk_at "om") (by walk_at "om") (by walk_at "om") ?_
      rw [decide_eq_true (c 0 (m - 1) (by walk_at "om") (by walk_at "om"))]
      exact hG m p a (by walk_at "om") hp c
    · rw [if_neg e2]
      obtain rfl : m = 1 := by walk_at "om"
      unfold kas_descPart
      rw [KasT.kasWp_bind]
      have d2 : DescTo key p 2 := fun i j hij hj => by
        obtain rfl : i = 0 := by walk_at "om"
        obtain rfl : j = 1 := by walk_at "om"
        exact dd
      refine srt_desc H hp (n - (1 + 1)) (1 + 1) (by walk_at "om") (by walk_at "om") d2 fun m' a' b' c' => ?_
      show (if 0 > 0 then _ else kas_tail3 m' n p).kasWp cmp G s
      rw [if_neg (by walk_at "om")]
      unfold kas_tail3
      rw [KasT.kasWp_bind]
      exact srt_asc H (hp.rev 0 m') (n - m') m' (by walk_at "om") (by walk_at "om") (rev_asc hp (by walk_at "om") c') fun m'' a'' b'' c'' _ => hG m'' _ (by walk_at "om") (by walk_at "om") (hp.rev 0 m') c''
theorem srt_place (H : Cmp key n cmp s) {p : Array Nat} (hp : PR n p) {k : Nat} (hk : k < n) {G : Nat → Shared → Prop} (hG : ∀ l, l ≤ k → (∀ i, i < l → kq key p i < kq key p k) → (∀ i, l ≤ i → i < k → kq key p k < kq key p i) → G l s) (ha : AscTo key p k) :
    ∀ (f l r : Nat), l ≤ r → r ≤ k → r - l ≤ f → (∀ i, i < l → kq key p i < kq key p k) → (∀ i, r ≤ i → i < k → kq key p k < kq key p i) → (kas_place p k f l r).kasWp cmp G s
  | 0, l, r, h1, h2, h3, h4, h5 => by
    obtain rfl : l = r := by walk_at "om"
    exact hG l h2 h4 h5
  | f + 1, l, r, h1, h2, h3, h4, h5 => by
    unfold kas_place
    by_cases e : l ≥ r
    · rw [if_pos e]
      obtain rfl : l = r := by walk_at "om"
      exact hG l h2 h4 h5
    · rw [if_neg e]
      have lr : l < r := Nat.lt_of_not_le e
      have m1 : l ≤ (l + r) / 2 := by walk_at "om"
      have m2 : (l + r) / 2 < r := by walk_at "om"
      have hkn := hk
      revert m1 m2
      generalize (l + r) / 2 = m
      intro m1 m2
      have mk : m < k := Nat.lt_of_lt_of_le m2 h2
      have mn : m < n := Nat.lt_trans mk hk
      refine ask_at H hp hk mn (Nat.ne_of_gt mk) ?_
      by_cases q : kq key p k < kq key p m
      · rw [decide_eq_true q]
        refine srt_place H hp hk hG ha f l m m1 (Nat.le_of_lt mk) (by walk_at "om") h4 fun i a b => ?_
        by_cases z : i = m
        · rw [z]; exact q
        · exact Int.lt_trans q (ha m i (Nat.lt_of_le_of_ne a (Ne.symm z)) b)
      · rw [decide_eq_false q]
        have q' : kq key p m < kq key p k := by have := kq_ne H hp (i := k) (j := m) hk mn (Nat.ne_of_gt mk); walk_at "om"
        refine srt_place H hp hk hG ha f (m + 1) r m2 h2 (by walk_at "om") (fun i a => ?_) h5
        by_cases z : i = m
        · rw [z]; exact q'
        · exact Int.lt_trans (ha i m (Nat.lt_of_le_of_ne (Nat.le_of_lt_succ a) z) mk) q'
theorem srt_bin (H : Cmp key n cmp s) {G : Array Nat → Shared → Prop} (hG : ∀ p', PR n p' → AscTo key p' n → G p' s) : ∀ (f k : Nat) (p : Array Nat), k + f = n → 1 ≤ k → PR n p → AscTo key p k → (kas_bin f p k).kasWp cmp G s
  | 0, k, p, h1, h2, hp, ha => by
    obtain rfl : k = n := by walk_at "om"
    exact hG p hp ha
  | f + 1, k, p, h1, h2, hp, ha => by
    unfold kas_bin
    rw [KasT.kasWp_bind]
    refine srt_place H hp (by walk_at "om") (fun l hl a b => ?_) ha k 0 k (by walk_at "om") (by walk_at "om") (by walk_at "om") (fun i h => by walk_at "om") fun i h h' => by walk_at "om"
    refine srt_bin H hG f (k + 1) _ (by walk_at "om") (by walk_at "om") (hp.bub k (k - l)) ?_
    have g : ∀ i, kq key (bubble p k (k - l)) i = if i = l then kq key p k else if l < i ∧ i ≤ k then kq key p (i - 1) else kq key p i := fun i => by
      have e := getElem?_bubble (xs := p) (src := k) (by rw [hp.1]; walk_at "om") (k - l) (by walk_at "om") i
      rw [show k - (k - l) = l by walk_at "om"] at e
      unfold kq
      by_cases c1 : i = l
      · rw [if_pos c1] at e ⊢; congr 1; exact getD_of e
      · rw [if_neg c1] at e ⊢
        by_cases c2 : l < i ∧ i ≤ k
        · rw [if_pos c2] at e ⊢; congr 1; exact getD_of e
        · rw [if_neg c2] at e ⊢; congr 1; exact getD_of e
    intro i j hij hj
    rw [g i, g j]
    by_cases c1 : i = l
    · rw [if_pos c1, if_neg (by walk_at "om"), if_pos (by walk_at "om")]
      exact b (j - 1) (by walk_at "om") (by walk_at "om")
    · rw [if_neg c1]
      by_cases c2 : l < i
      · rw [if_pos (by walk_at "om"), if_neg (by walk_at "om"), if_pos (by walk_at "om")]
        exact ha (i - 1) (j - 1) (by walk_at "om") (by walk_at "om")
      · rw [if_neg (by walk_at "om")]
        by_cases c3 : j = l
        · rw [if_pos c3]; exact a i (by walk_at "om")
        · rw [if_neg c3]
          by_cases c4 : l < j
          · rw [if_pos (by walk_at "om")]
            by_cases c5 : i = j - 1
            · walk_at "om"
            · exact ha i (j - 1) (by walk_at "om") (by walk_at "om")
          · rw [if_neg (by walk_at "om")]; exact ha i j hij (by walk_at "om")
theorem srt_sort (H : Cmp key n cmp s) (h1 : 1 ≤ n) {G : Array Nat → Shared → Prop} (hG : ∀ p', PR n p' → AscTo key p' n → G p' s) : (kas_sort n).kasWp cmp G s := by
  unfold kas_sort
  rw [KasT.kasWp_bind]
  have h0 : PR n (List.toArray (List.range n)) := ⟨by simp, by simp⟩
  refine srt_count H h0 h1 fun m p' a b c d => ?_
  show (if m < n then kas_bin (n - max m 1) p' (max m 1) else KasT.ret p').kasWp cmp G s
  have hm : max m 1 = m := by walk_at "om"
  rw [hm]
  by_cases q : m < n
  · rw [if_pos q]; exact srt_bin H hG (n - m) m p' (by walk_at "om") a c d
  · rw [if_neg q]
    obtain rfl : m = n := by walk_at "om"
    exact hG p' c d
end
end Mine
end
section
open PySem PySem.W PyProof.Rows PySem.Calls
set_option Elab.async false
set_option linter.unusedVariables false
set_option maxRecDepth 10000
namespace Mine
section
variable {w : World} {A : Around} {E : Value → Shared → Prop} {s : Shared} {a b : Addr} {da db : Option Addr} {na nb : Nat} {sa sb : Array (Option Value)} {i j : Int} {ti tj : Tok} {x2 x3 y2 y3 : Value}
theorem mt_f_lt (P : Params) : findIn (K P) (.ref 135) "__lt__" = some (some (.builtin "tuple.__lt__")) := by kernel_rfl
theorem lt_rich {Q : Value → Shared → Prop} (h : Q (.bool (decide (i < j))) s) : wpAny (model pw w) A (richCompare .Lt (.int i ti) (.int j tj)) Q E s :=
  wpAny_richCompare_same (op := .Lt) (typeIs_int _ _ _) (typeIs_int _ _ _) PySem.F.slot_int_lt (call_int_lt ⟨(fun e => by cases e), h⟩)
theorem mt_lt_run {Q : Value → Shared → Prop} (X : (K w.params).In s.heap) (oa : s.heap.get? a = some ⟨.ref 135, da, .seq #[.int i ti, x2, x3] na, sa⟩) (ob : s.heap.get? b = some ⟨.ref 135, db, .seq #[.int j tj, y2, y3] nb, sb⟩) (hij : i ≠ j) (h : Q (.bool (decide (i < j))) s) :
    wpAny (model pw w) A (Builtin.«tuple.__lt__» ⟨[.ref a, .ref b], []⟩) (fun fin s' => ∃ v, fin = .done (.ret v) ∧ Q v s') E s := by
  have hi := mt_inst (M := model pw w) X ob
  have hij' : (i == j) = false := by simpa using hij
  unfold Builtin.«tuple.__lt__»
  repeat (first | (with_reducible refine lt_rich ?_) | (with_reducible refine wpAny_eqBool_int ?_) | simp only [hij', Bool.not_false, Bool.not_true, Bool.false_eq_true, if_false, if_true] | lk)
  exact ⟨_, rfl, h⟩
theorem mt_lt {Q : Bool → Shared → Prop} (hu : A.units < cLine) (X : (K w.params).In s.heap) (oa : s.heap.get? a = some ⟨.ref 135, da, .seq #[.int i ti, x2, x3] na, sa⟩) (ob : s.heap.get? b = some ⟨.ref 135, db, .seq #[.int j tj, y2, y3] nb, sb⟩) (hij : i ≠ j) (h : Q (decide (i < j)) s) :
    wpAny (model pw w) A (oneLt' true (.ref a) (.ref b)) Q E s := by
  have L : Looks (model pw w) s.heap (specialOf (.ref a) "__lt__") (some (.builtin "tuple.__lt__")) := (mt_type oa).andThen (looks_findIn X (mt_f_lt _))
  rw [oneLt'_eq]
  simp only [if_true]
  refine wpAny_bind (wpAny_cRoomFor hu ?_)
  refine wpAny_bind ?_
  simp only [callSpecialIfBound?, bindSpecialIfBound?]
  refine wpAny_holding (wpAny_bind (wpAny_bind (L.here ?_)))
  have key : wpAny (model pw w) A (call (.builtin "tuple.__lt__") [.ref a, .ref b]) (fun v s' => v = .bool (decide (i < j)) ∧ s' = s) E s :=
    sub_call (owner := "tuple") (nn := "__lt__") (by decide +kernel) PySem.F.entry_tuple_lt (by decide +kernel) (by decide +kernel) (mt_inst X oa) (PySem.F.args_tuple_lt_2 _ _) (mt_lt_run X oa ob hij ⟨rfl, rfl⟩)
  dsimp only
  rw [PySem.F.slot_tuple_lt.bind]
  refine wpAny_bind (wpAny_askSetting (wpAny_ite ?_))
  split
  · refine wpAny_bind (wpAny_pure (wpAny_pure (wpAny_bind (wpAny_mono key ?_ fun _ _ e => e))))
    rintro _ _ ⟨rfl, rfl⟩
    exact wpAny_pure (wpAny_truthy_bool h)
  · refine wpAny_tryCatch ?_
    refine wpAny_bind (wpAny_pure (wpAny_pure (wpAny_bind (wpAny_mono key ?_ fun _ _ e => e))))
    rintro _ _ ⟨rfl, rfl⟩
    exact wpAny_pure (wpAny_truthy_bool h)
end
end Mine
end
section
open PySem PySem.W PyProof.Rows PySem.Calls
set_option Elab.async false
set_option linter.unusedVariables false
set_option maxRecDepth 100000
set_option maxHeartbeats 1000000
namespace Mine
section
variable {w : World} {A : Around} {E : Value → Shared → Prop} {s : Shared} {a : Addr} {vs : List Value} {n : Nat}
/-- the sort of a list of Match instances whose first places are all different -/
theorem mt_sort {P : PySem.Fin → Shared → Prop} (key : Nat → Int) (hu : A.units < cLine) (X : (K w.params).In s.heap) (haK : (K w.params).lookup a = none) (ho : s.heap.get? a = some (seqObj "list" vs.toArray n)) (h64 : vs.length < 64)
    (hk : ∀ i, i < vs.length → ∃ b dd n' sl t x2 x3, vs.getD i Value.none = .ref b ∧ s.heap.get? b = some ⟨.ref 135, dd, .seq #[.int (key i) t, x2, x3] n', sl⟩)
    (inj : ∀ i j, i < vs.length → j < vs.length → i ≠ j → key i ≠ key j)
    (h : ∀ h' c p, (∀ b o, s.heap.get? b = some o → b ≠ a → h'.get? b = some o) → h'.get? a = some (seqObj "list" (List.toArray (p.toList.map fun i => vs.getD i Value.none)) c) → PR vs.length p → AscTo key p vs.length → P (.done (.ret .none)) { s with heap := h' }) :
    wpAny (model pw w) A (Builtin.«list.sort» ⟨[.ref a], []⟩) P E s := by
  have ha : a < s.heap.objs.size := Heap.lt_size ho
  have s1 := Heap.SameBut.update s.heap a (Obj.mapSeq fun _ => (#[] : Array Value))
  obtain ⟨e1, ho1⟩ : ∃ e1, (s.heap.update a (Obj.mapSeq fun _ => (#[] : Array Value))).get? a = some (seqObj "list" #[] e1) := ⟨_, get?_update_seq ho fun _ => #[]⟩
  rw [list_sort_plain]
  refine wpAny_bind (listItems_at ho rfl ?_)
  refine wpAny_bind (listUpdate_at ho rfl ?_ (by rw [List.size_toArray, sizeLine_eq]; walk_at "om") (Nat.zero_le _))
  refine wpAny_bind (seqEpoch_at ho1 rfl ?_)
  refine wpAny_bind (wpAny_newTuple ?_ (by show vs.length ≤ _; rw [sizeLine_eq]; walk_at "om"))
  refine wpAny_bind (wpAny_newList ?_ (Nat.zero_le _))
  refine wpAny_holding ?_
  show wpAny (model pw w) A _ P E { s with heap := ((s.heap.update a (Obj.mapSeq fun _ => (#[] : Array Value))).push (seqObj "tuple" vs.toArray 0)).push (seqObj "list" #[] 0) }
  generalize hH : ((s.heap.update a (Obj.mapSeq fun _ => (#[] : Array Value))).push (seqObj "tuple" vs.toArray 0)).push (seqObj "list" #[] 0) = H
  have k1 : ∀ b o, s.heap.get? b = some o → b ≠ a → H.get? b = some o := fun b o e hb => by
    rw [← hH]; exact Heap.get?_push_of_some _ (Heap.get?_push_of_some _ ((s1.2 b hb).trans e))
  have ho6 : H.get? a = some (seqObj "list" #[] e1) := by rw [← hH]; exact Heap.get?_push_of_some _ (Heap.get?_push_of_some _ ho1)
  have X' : (K w.params).In H := fun b o e => k1 b o (X b o e) fun q => by rw [q, haK] at e; cases e
  dsimp only
  by_cases h2 : vs.toArray.size < 2
  · rw [if_pos h2, if_pos h2]
    refine wpAny_bind (wpAny_pure ?_)
    rw [StateT.run_pure]
    refine wpAny_bind (wpAny_pure ?_)
    dsimp only
    refine wpAny_bind (seqEpoch_at ho6 rfl ?_)
    refine wpAny_bind (listUpdate_at ho6 rfl ?_ (Nat.zero_le _) (by rw [Array.size_map]; show (pairsOf vs).size ≤ _; rw [pairsOf_size, sizeLine_eq]; walk_at "om"))
    simp only [bne_self_eq_false, Bool.false_eq_true, if_false]
    rw [List.size_toArray] at h2
    have hout : ((vs.toArray.zip vs.toArray).map fun x => x.snd) = List.toArray ((List.toArray (List.range vs.length)).toList.map fun i => vs.getD i Value.none) := by
      apply Array.toList_inj.mp
      apply List.ext_getElem (by simp)
      intro i p1 p2
      simp at p1
      simp [p1]
    rw [hout]
    have s2 := Heap.SameBut.update H a (Obj.mapSeq fun _ => List.toArray ((List.toArray (List.range vs.length)).toList.map fun i => vs.getD i Value.none))
    exact wpAny_pure (h _ _ (List.toArray (List.range vs.length)) (fun b o e hb => (s2.2 b hb).trans (k1 b o e hb)) (get?_update_seq ho6 _) ⟨by simp, by simp⟩ fun i j hij hj => by walk_at "om")
  · rw [if_neg h2, if_neg h2]
    rw [List.size_toArray] at h2
    have hT : ∀ v ∈ vs, Looks (model pw w) H (typeOf v) (.ref 135) := fun v hv => by
      obtain ⟨i, hi, rfl⟩ := List.getElem_of_mem hv
      obtain ⟨b, dd, n', sl, t, x2, x3, e, q⟩ := hk i hi
      rw [show vs[i] = vs.getD i Value.none by simp [hi], e]
      exact mt_type (k1 _ _ q fun z => by rw [z, ho] at q; cases q)
    refine wpAny_bind (kas_kind (s := { s with heap := H }) (by walk_at "om") hT (by decide) (by decide) ?_)
    have est : SortSt.mk' oneType' (vs.toArray.zip vs.toArray) #[] 7 none = kas_st oneType' (pairsOf vs) (List.toArray (List.range vs.length)) := by
      have e := kas_range (pairsOf vs)
      rw [pairsOf_size] at e
      show SortSt.mk' oneType' (pairsOf vs) #[] 7 none = SortSt.mk' oneType' ((List.toArray (List.range vs.length)).map (kas_item (pairsOf vs))) #[] 7 none
      rw [e]
    have H1 : Cmp key vs.length (kas_cmp pw w A oneType' (pairsOf vs)) { s with heap := H } := by
      refine ⟨fun i j C hi hj hij hC => ?_, inj⟩
      rw [← kas_ask_eq]
      unfold kas_ask
      obtain ⟨b, dd, n', sl, t, x2, x3, e, q⟩ := hk i hi
      obtain ⟨b', dd', n'', sl', t', x2', x3', e', q'⟩ := hk j hj
      rw [e, e', keyLt'_oneType]
      exact mt_lt (s := { s with heap := H }) hu X' (k1 _ _ q fun z => by rw [z, ho] at q; cases q) (k1 _ _ q' fun z => by rw [z, ho] at q'; cases q') (inj i j hi hj hij) hC
    have run := kas_runs (E := E) (Q := fun _ st' s' => ∃ p : Array Nat, p.size = vs.length ∧ arrOf st' = p.map (kas_item (pairsOf vs)) ∧ failedOf st' = none ∧ s' = { s with heap := H } ∧ PR vs.length p ∧ AscTo key p vs.length)
      (by walk_at "om") h64 (fun p' st' s' a1 a2 a3 a4 => ⟨p', a1, a2, a3, a4⟩) (srt_sort H1 (by walk_at "om") fun p' hp ha => ⟨rfl, hp, ha⟩)
    rw [← est] at run
    refine wpAny_bind (wpAny_mono run ?_ fun _ _ e => e)
    rintro ⟨⟨⟩, st'⟩ s' ⟨p, hp, har, hf, rfl, hPR, hAsc⟩
    dsimp only
    have hout : (arrOf st').map (·.2) = List.toArray (p.toList.map fun i => vs.getD i Value.none) := by
      apply Array.toList_inj.mp
      rw [har, Array.map_map, Array.toList_map]
      exact List.map_congr_left fun i _ => by show (kas_item (pairsOf vs) i).2 = _; rw [kas_item_eq]
    have hsz : (List.toArray (p.toList.map fun i => vs.getD i Value.none)).size = vs.length := by rw [List.size_toArray, List.length_map, Array.length_toList, hp]
    rw [hout]
    have s2 := Heap.SameBut.update H a (Obj.mapSeq fun _ => List.toArray (p.toList.map fun i => vs.getD i Value.none))
    refine wpAny_bind (seqEpoch_at ho6 rfl ?_)
    refine wpAny_bind (listUpdate_at ho6 rfl ?_ (Nat.zero_le _) (Nat.le_trans (Nat.le_of_eq hsz) (by rw [sizeLine_eq]; walk_at "om")))
    rw [hf]
    simp only [bne_self_eq_false, Bool.false_eq_true, if_false]
    exact wpAny_pure (h _ _ p (fun b o e hb => (s2.2 b hb).trans (k1 b o e hb)) (get?_update_seq ho6 _) hPR hAsc)
end
end Mine
end
section
open PySem PySem.W PyProof.Rows PySem.Calls
namespace Mine
local macro_rules | `(tactic| walk_at "mem") => `(tactic| first | exact List.Mem.head _ | (refine List.Mem.tail _ ?_; walk_at "mem"))
local macro_rules | `(tactic| walk_at "has") => `(tactic| first | exact Or.inl (List.Mem.head _) | exact Or.inl (List.Mem.tail _ (List.Mem.head _)) | exact Or.inl (List.Mem.tail _ (List.Mem.tail _ (List.Mem.head _))) | exact Or.inl (List.Mem.tail _ (List.Mem.tail _ (List.Mem.tail _ (List.Mem.head _)))) | exact Or.inl (by walk_at "mem") | exact Or.inr (by assumption) | exact Or.inr ⟨by assumption, by simp⟩)
local macro_rules | `(tactic| walk_at "upd") => `(tactic| first | exact Upd.head | exact Upd.tail Upd.head | exact Upd.tail (Upd.tail Upd.head) | exact Upd.tail (Upd.tail (Upd.tail Upd.head)) | exact Upd.tail (Upd.tail (Upd.tail (Upd.tail Upd.head))) | (apply Upd.tail; walk_at "upd"))
local macro_rules | `(tactic| walk_at "callee") => `(tactic| first | exact Callee.builtin _ | exact Callee.type _ | exact Callee.fn rfl)
local macro_rules | `(tactic| walk_at "sub") => `(tactic| first | exact List.Sublist.refl _ | (refine List.Sublist.cons_cons _ ?_; walk_at "sub") | (refine List.Sublist.cons _ ?_; walk_at "sub") | exact List.nil_sublist _)
local macro_rules | `(tactic| walk_at "n") => `(tactic| ((with_reducible refine' we_name ?a ?b ?_); (case a => exact rfl); (case b => exact rfl)))
section
open PySem PySem.W PyProof.Rows PySem.Calls
set_option Elab.async false
set_option linter.unusedVariables false
set_option maxRecDepth 10000
noncomputable def dSD : Def := { fa := 267, fd := fd267, body := bodyOf (stm 9), names := [⟨#[104,101,97,112]⟩, ⟨#[115,116,97,114,116,112,111,115]⟩, ⟨#[112,111,115]⟩, ⟨#[110,101,119,105,116,101,109]⟩, ⟨#[112,97,114,101,110,116,112,111,115]⟩, ⟨#[112,97,114,101,110,116]⟩], globs := [] }
theorem dSD_ok : dSD.Ok := {
  obj := fun P => ⟨_, _, _, (by kernel_rfl : (K P).lookup 267 = some ⟨.type "function", none, .func fd267, #[]⟩)⟩
  body := by kernel_rfl
  code := fun P => by kernel_rfl
  scope := by kernel_rfl
  glob := by kernel_rfl
  bi := by kernel_rfl }
noncomputable def sd (l : List Int) (x : Int) (p : Nat) : List Int :=
  if h : p = 0 then l.set 0 x
  else if x < l.getD ((p - 1) / 2) 0 then sd (l.set p (l.getD ((p - 1) / 2) 0)) x ((p - 1) / 2) else l.set p x
termination_by p
decreasing_by walk_at "om"
theorem zs_get {l : List Int} {p : Nat} (hp : p < l.length) : (zs l)[p]? = some (.int (l.getD p 0)) := by
  simp [hp, List.getD]
theorem zs_set (l : List Int) (p : Nat) (x : Int) : (zs l).set p (.int x) = zs (l.set p x) := by
  simp [List.map_set]
theorem sizeLine_is : sizeLine = 16777216 := rfl
theorem half_cast (q : Nat) : (((q + 1 : Nat) : Int) - 1).fdiv 2 = ((q / 2 : Nat) : Int) := by
  rw [Int.fdiv_eq_ediv_of_nonneg _ (by decide)]; walk_at "om"
theorem sd_c {w : World} {hT : Heap} {A : Around} {s : Shared} (C : Cx w hT A s 1) {a : Addr} {l : List Int} {p : Nat} {vs : List Value} (r : RepL s.heap [.ref a, .int 0, .int p] vs) (hl : RepO w s.heap a (.list (zs l))) (ha : hT.get? a = none) (hp : p < l.length) (hsz : l.length ≤ sizeLine) :
    codeAny (model pw w) A (.call (.ref 267) ⟨vs, []⟩) (Ret w s [a] fun y led => y = .none ∧ led = [(a, .list (zs (sd l (l.getD p 0) p)))]) s := by
  obtain ⟨v1, v2, v3, rfl, r1, r2, r3⟩ := r.inv3
  refine enterP dSD_ok (k := 0) C (.cons r1 (.cons r2 (.cons r3 .nil))) rfl [(a, .list (zs l))] [some (.ref a), some (.int 0), some (.int p), none, none, none] 3 (fun p hp => by cases List.mem_singleton.mp hp; exact ⟨ha, rfl, hl⟩) (by simp) rfl fun L hL => ?_
  have hz := sizeLine_is
  refine ws_cons ?_
  (((with_reducible refine' ws_assign ?za1 ?_); (case za1 => exact rfl)); (with_reducible refine' we_sub ?_); walk_at "n"; walk_at "n")
  refine o_item (l := zs l) (by walk_at "has") (by walk_at "om") (by walk_at "om") (zs_get (by simpa using hp)) ?_
  simp only [Int.toNat_natCast]
  ((with_reducible refine' seq_next ?_; refine' ws_cons ?_))
  generalize hx : l.getD p 0 = x
  refine ws_while (fun n σ => ∃ l' : List Int, ∃ o1 o2, n < l'.length ∧ l'.length = l.length ∧ sd l' x n = sd l x p ∧ σ = ⟨[some (.ref a), some (.int 0), some (.int n), some (.int x), o1, o2], [(a, .list (zs l'))]⟩) p ⟨l, _, _, hp, rfl, rfl, rfl⟩ ?_
  rintro n σ ⟨l', o1, o2, hn, hlen, hsd, rfl⟩
  ((with_reducible refine' wb_cmp ?_); walk_at "n"; walk_at "n"; (with_reducible refine' o_gt ?_))
  refine ⟨_, rfl, fun hb => ?_, fun hb => ?_⟩
  · have hpos : 0 < n := by simpa using hb
    obtain ⟨q, rfl⟩ : ∃ q, n = q + 1 := ⟨n - 1, by walk_at "om"⟩
    ((with_reducible refine' ws_cons ?_); ((with_reducible refine' ws_assign ?za2 ?_); (case za2 => exact rfl)); (with_reducible refine' we_bin ?_; refine' we_bin ?_); walk_at "n"; (with_reducible refine' we_int ?_; refine' o_sub ?_; refine' we_int ?_; refine' o_shr1 ?_; refine' seq_next ?_; refine' ws_cons ?_); ((with_reducible refine' ws_assign ?za3 ?_); (case za3 => exact rfl)); (with_reducible refine' we_sub ?_); walk_at "n"; walk_at "n")
    rw [half_cast]
    skip
    refine o_item (l := zs l') (by walk_at "has") (by walk_at "om") (by walk_at "om") (zs_get (by simp; walk_at "om")) ?_
    simp only [Int.toNat_natCast]
    ((with_reducible refine' seq_next ?_; refine' ws_cons ?_))
    refine ws_if ?_
    ((with_reducible refine' wb_cmp ?_); walk_at "n"; walk_at "n"; (with_reducible refine' o_lt ?_))
    refine ⟨_, rfl, fun hb => ?_, fun hb => ?_⟩
    · ((with_reducible refine' ws_cons ?_; refine' ws_setitem ?_); walk_at "n"; walk_at "n"; walk_at "n")
      refine o_setitem (l := zs l') (by walk_at "upd") (by walk_at "om") (by walk_at "om") (by simp; walk_at "om") ?_
      simp only [Int.toNat_natCast, zs_set]
      ((with_reducible refine' seq_next ?_; refine' ws_cons ?_); ((with_reducible refine' ws_assign ?za4 ?_); (case za4 => exact rfl)); walk_at "n"; (with_reducible refine' seq_next ?_; refine' ws_cons ?_; refine' ws_continue ?_; refine' seq_cont ?_; refine' seq_cont ?_))
      refine ⟨q / 2, by walk_at "om", l'.set (q + 1) (l'.getD (q / 2) 0), _, _, by simp; walk_at "om", by simp [hlen], ?_, rfl⟩
      rw [← hsd]
      conv => rhs; unfold sd
      rw [dif_neg (by walk_at "om"), if_pos (by simpa using hb)]
      rfl
    · ((with_reducible refine' ws_nil ?_; refine' seq_next ?_; refine' ws_cons ?_; refine' ws_break ?_; refine' seq_brk ?_; refine' seq_next ?_; refine' ws_cons ?_; refine' ws_setitem ?_); walk_at "n"; walk_at "n"; walk_at "n")
      refine o_setitem (l := zs l') (by walk_at "upd") (by walk_at "om") (by walk_at "om") (by simp; walk_at "om") ?_
      simp only [Int.toNat_natCast, zs_set]
      ((with_reducible refine' seq_next ?_; refine' ws_nil ?_))
      refine ⟨rfl, ?_⟩
      rw [← hsd]
      conv => rhs; unfold sd
      rw [dif_neg (by walk_at "om"), if_neg (by simpa using hb)]
  · have h0 : n = 0 := by simpa using hb
    subst h0
    ((with_reducible refine' seq_next ?_; refine' ws_cons ?_; refine' ws_setitem ?_); walk_at "n"; walk_at "n"; walk_at "n")
    refine o_setitem (l := zs l') (by walk_at "upd") (by walk_at "om") (by walk_at "om") (by simp; walk_at "om") ?_
    simp only [Int.toNat_natCast, zs_set]
    ((with_reducible refine' seq_next ?_; refine' ws_nil ?_))
    refine ⟨rfl, ?_⟩
    rw [← hsd]
    conv => rhs; unfold sd
    rw [dif_pos rfl]
end
section
open PySem PySem.W PyProof.Rows PySem.Calls
set_option Elab.async false
set_option linter.unusedVariables false
set_option maxRecDepth 10000
noncomputable def dHPush : Def := { fa := 253, fd := fd253, body := bodyOf (stm 7), names := [⟨#[104,101,97,112]⟩, ⟨#[105,116,101,109]⟩], globs := [⟨#[95,115,105,102,116,100,111,119,110]⟩, ⟨#[108,101,110]⟩] }
theorem dHPush_ok : dHPush.Ok := {
  obj := fun P => ⟨_, _, _, (by kernel_rfl : (K P).lookup 253 = some ⟨.type "function", none, .func fd253, #[]⟩)⟩
  body := by kernel_rfl
  code := fun P => by kernel_rfl
  scope := by kernel_rfl
  glob := by kernel_rfl
  bi := by kernel_rfl }
noncomputable def dSU : Def := { fa := 274, fd := fd274, body := bodyOf (stm 10), names := [⟨#[104,101,97,112]⟩, ⟨#[112,111,115]⟩, ⟨#[101,110,100,112,111,115]⟩, ⟨#[115,116,97,114,116,112,111,115]⟩, ⟨#[110,101,119,105,116,101,109]⟩, ⟨#[99,104,105,108,100,112,111,115]⟩, ⟨#[114,105,103,104,116,112,111,115]⟩], globs := [⟨#[108,101,110]⟩, ⟨#[95,115,105,102,116,100,111,119,110]⟩] }
theorem dSU_ok : dSU.Ok := {
  obj := fun P => ⟨_, _, _, (by kernel_rfl : (K P).lookup 274 = some ⟨.type "function", none, .func fd274, #[]⟩)⟩
  body := by kernel_rfl
  code := fun P => by kernel_rfl
  scope := by kernel_rfl
  glob := by kernel_rfl
  bi := by kernel_rfl }
noncomputable def dHPop : Def := { fa := 260, fd := fd260, body := bodyOf (stm 8), names := [⟨#[104,101,97,112]⟩, ⟨#[108,97,115,116,101,108,116]⟩, ⟨#[114,101,116,117,114,110,105,116,101,109]⟩], globs := [⟨#[95,115,105,102,116,117,112]⟩] }
theorem dHPop_ok : dHPop.Ok := {
  obj := fun P => ⟨_, _, _, (by kernel_rfl : (K P).lookup 260 = some ⟨.type "function", none, .func fd260, #[]⟩)⟩
  body := by kernel_rfl
  code := fun P => by kernel_rfl
  scope := by kernel_rfl
  glob := by kernel_rfl
  bi := by kernel_rfl }
noncomputable def hpush (l : List Int) (x : Int) : List Int := sd (l ++ [x]) x l.length
theorem hpush_c {w : World} {hT : Heap} {A : Around} {s : Shared} (C : Cx w hT A s 2) {a : Addr} {l : List Int} {x : Int} {vs : List Value} (r : RepL s.heap [.ref a, .int x] vs) (hl : RepO w s.heap a (.list (zs l))) (ha : hT.get? a = none) (hsz : l.length < sizeLine) :
    codeAny (model pw w) A (.call (.ref 253) ⟨vs, []⟩) (Ret w s [a] fun y led => y = .none ∧ led = [(a, .list (zs (hpush l x)))]) s := by
  obtain ⟨v1, v2, rfl, r1, r2⟩ := r.inv2
  refine enterP dHPush_ok (k := 1) C (.cons r1 (.cons r2 .nil)) rfl [(a, .list (zs l))] [some (.ref a), some (.int x)] 0 (fun p hp => by cases List.mem_singleton.mp hp; exact ⟨ha, rfl, hl⟩) (by simp) rfl fun L hL => ?_
  have hz := sizeLine_is
  refine ws_cons ?_
  ((with_reducible refine' ws_doc ?_; refine' seq_next ?_; refine' ws_cons ?_; refine' ws_expr ?_; refine' we_list_append ?_); walk_at "n")
  refine ⟨typeB_list (by walk_at "has"), ?_⟩
  ((with_reducible refine' wa_cons ?_); walk_at "n"; (with_reducible refine' wa_nil ?_))
  refine o_append (l := zs l) (by walk_at "upd") (by simp; walk_at "om") ⟨rfl, ?_⟩
  ((with_reducible refine' seq_next ?_; refine' ws_cons ?_; refine' ws_expr ?_; refine' we_call ?_); ((with_reducible refine' we_glob ?za5 ?zb5 ?_); (case za5 => exact rfl); (case zb5 => exact rfl)))
  refine ⟨_, rfl, by walk_at "callee", ?_⟩
  ((with_reducible refine' wa_cons ?_); walk_at "n"; (with_reducible refine' wa_cons ?_; refine' we_int ?_; refine' wa_cons ?_; refine' we_bin ?_; refine' we_call ?_); ((with_reducible refine' we_blt ?za6 ?zb6 ?_); (case za6 => exact rfl); (case zb6 => exact rfl)))
  refine ⟨_, rfl, by walk_at "callee", ?_⟩
  ((with_reducible refine' wa_cons ?_); walk_at "n"; (with_reducible refine' wa_nil ?_))
  have e1 : zs l ++ [AV.int x] = zs (l ++ [x]) := by simp
  rw [e1]
  refine o_len (l := zs (l ++ [x])) (by walk_at "has") (by simp; walk_at "om") ?_
  ((with_reducible refine' we_int ?_; refine' o_sub ?_; refine' wa_nil ?_))
  have e2 : (((zs (l ++ [x])).length : Nat) : Int) - 1 = ((l.length : Nat) : Int) := by simp
  rw [e2]
  refine wol_call_upd (x := .none) (o' := .list (zs (hpush l x))) (led' := [(a, .list (zs (hpush l x)))]) Upd.head (fun s' vs' S' r' => ?_) ⟨rfl, ?_⟩
  · have hd := sd_c (S'.cxUp 1) r' (S'.has (.inl (List.Mem.head _))) (S'.not_hT (List.Mem.head _)) (by simp) (by simp; walk_at "om")
    have e3 : (l ++ [x]).getD l.length 0 = x := by simp [List.getD]
    rw [e3] at hd
    exact hd
  · ((with_reducible refine' seq_next ?_; refine' ws_nil ?_))
    exact ⟨rfl, rfl⟩
theorem zs_getN {l : List Int} {k : Int} {n : Nat} (hk : k = n) (hn : n < l.length) : (zs l)[k.toNat]? = some (.int (l.getD n 0)) := by
  subst hk; exact zs_get hn
/-- the way down of _siftup -/
noncomputable def suC (l : List Int) (p : Nat) : Nat := if 2 * p + 2 < l.length ∧ ¬ l.getD (2 * p + 1) 0 < l.getD (2 * p + 2) 0 then 2 * p + 2 else 2 * p + 1
theorem suC_lt {l : List Int} {p : Nat} (h : 2 * p + 1 < l.length) : suC l p < l.length ∧ p < suC l p := by
  unfold suC; split <;> walk_at "om"
noncomputable def suP (l : List Int) (p : Nat) : List Int × Nat :=
  if 2 * p + 1 < l.length then suP (l.set p (l.getD (suC l p) 0)) (suC l p) else (l, p)
termination_by l.length - p
decreasing_by rw [List.length_set]; exact Nat.sub_lt_sub_left (Nat.lt_trans (suC_lt (by assumption)).2 (suC_lt (by assumption)).1) (suC_lt (by assumption)).2
noncomputable def su (l : List Int) : List Int := let r := suP l 0; sd (r.1.set r.2 (l.getD 0 0)) (l.getD 0 0) r.2
theorem suP_len (l : List Int) (p : Nat) (hp : p < l.length) : (suP l p).1.length = l.length ∧ (suP l p).2 < l.length := by
  unfold suP
  split
  · rename_i h
    have := suC_lt h
    have ih := suP_len (l.set p (l.getD (suC l p) 0)) (suC l p) (by simp; walk_at "om")
    simpa using ih
  · exact ⟨rfl, hp⟩
termination_by l.length - p
decreasing_by simp only [List.length_set]; walk_at "om"
theorem su_c {w : World} {hT : Heap} {A : Around} {s : Shared} (C : Cx w hT A s 2) {a : Addr} {l : List Int} {vs : List Value} (r : RepL s.heap [.ref a, .int 0] vs) (hl : RepO w s.heap a (.list (zs l))) (ha : hT.get? a = none) (hne : 0 < l.length) (hsz : l.length ≤ sizeLine) :
    codeAny (model pw w) A (.call (.ref 274) ⟨vs, []⟩) (Ret w s [a] fun y led => y = .none ∧ led = [(a, .list (zs (su l)))]) s := by
  obtain ⟨v1, v2, rfl, r1, r2⟩ := r.inv2
  refine enterP dSU_ok (k := 1) C (.cons r1 (.cons r2 .nil)) rfl [(a, .list (zs l))] [some (.ref a), some (.int 0), none, none, none, none, none] 5 (fun p hp => by cases List.mem_singleton.mp hp; exact ⟨ha, rfl, hl⟩) (by simp) rfl fun L hL => ?_
  have hz := sizeLine_is
  refine ws_cons ?_
  (((with_reducible refine' ws_assign ?za7 ?_); (case za7 => exact rfl)); (with_reducible refine' we_call ?_); ((with_reducible refine' we_blt ?za8 ?zb8 ?_); (case za8 => exact rfl); (case zb8 => exact rfl)))
  refine ⟨_, rfl, by walk_at "callee", ?_⟩
  ((with_reducible refine' wa_cons ?_); walk_at "n"; (with_reducible refine' wa_nil ?_))
  refine o_len (l := zs l) (by walk_at "has") (by simp; walk_at "om") ?_
  simp only [List.length_map]
  ((with_reducible refine' seq_next ?_; refine' ws_cons ?_); ((with_reducible refine' ws_assign ?za9 ?_); (case za9 => exact rfl)); walk_at "n"; (with_reducible refine' seq_next ?_; refine' ws_cons ?_); ((with_reducible refine' ws_assign ?za10 ?_); (case za10 => exact rfl)); (with_reducible refine' we_sub ?_); walk_at "n"; walk_at "n")
  refine o_item (l := zs l) (by walk_at "has") (by walk_at "om") (by walk_at "om") (zs_get (by simpa using hne)) ?_
  simp only [Int.toNat_zero]
  ((with_reducible refine' seq_next ?_; refine' ws_cons ?_); ((with_reducible refine' ws_assign ?za11 ?_); (case za11 => exact rfl)); (with_reducible refine' we_bin ?_; refine' we_bin ?_; refine' we_int ?_); walk_at "n"; (with_reducible refine' o_two ?_; refine' we_int ?_; refine' o_add ?_; refine' seq_next ?_; refine' ws_cons ?_))
  generalize hx : l.getD 0 0 = x
  refine ws_while (fun n σ => ∃ l' : List Int, ∃ p : Nat, ∃ o1, n = l.length - p ∧ p < l'.length ∧ l'.length = l.length ∧ suP l' p = suP l 0 ∧ σ = ⟨[some (.ref a), some (.int p), some (.int l.length), some (.int 0), some (.int x), some (.int (2 * (p : Int) + 1)), o1], [(a, .list (zs l'))]⟩) (l.length - 0) ⟨l, 0, _, rfl, hne, rfl, rfl, rfl⟩ ?_
  rintro n σ ⟨l', p, o1, rfl, hp, hlen, hsu, rfl⟩
  ((with_reducible refine' wb_cmp ?_); walk_at "n"; walk_at "n"; (with_reducible refine' o_lt ?_))
  refine ⟨_, rfl, fun hb => ?_, fun hb => ?_⟩
  · have hc : 2 * p + 1 < l'.length := by
      have : 2 * (p : Int) + 1 < (l.length : Int) := by simpa using hb
      walk_at "om"
    have h1 : 2 * (p : Int) + 1 = ((2 * p + 1 : Nat) : Int) := by walk_at "om"
    have h2 : 2 * (p : Int) + 1 + 1 = ((2 * p + 2 : Nat) : Int) := by walk_at "om"
    ((with_reducible refine' ws_cons ?_); ((with_reducible refine' ws_assign ?za12 ?_); (case za12 => exact rfl)); (with_reducible refine' we_bin ?_); walk_at "n"; (with_reducible refine' we_int ?_; refine' o_add ?_; refine' seq_next ?_; refine' ws_cons ?_))
    refine W.mono (Q := fun f σ' => f = .next ∧ σ' = ⟨[some (.ref a), some (.int p), some (.int l.length), some (.int 0), some (.int x), some (.int (suC l' p)), some (.int (2 * (p : Int) + 1 + 1))], [(a, .list (zs l'))]⟩) ?_ ?_
    · refine ws_if ?_
      ((with_reducible refine' wb_and ?_; refine' wb_cmp ?_); walk_at "n"; walk_at "n"; (with_reducible refine' o_lt ?_))
      refine ⟨_, rfl, fun hb2 => ?_, fun hb2 => ?_⟩
      · have hr : 2 * p + 2 < l'.length := by
          have : 2 * (p : Int) + 1 + 1 < (l.length : Int) := by simpa using hb2
          walk_at "om"
        ((with_reducible refine' wb_and ?_; refine' wb_not ?_; refine' wb_cmp ?_; refine' we_sub ?_); walk_at "n"; walk_at "n")
        refine o_item (l := zs l') (by walk_at "has") (by walk_at "om") (by walk_at "om") (zs_getN (n := 2 * p + 1) (by walk_at "om") (by walk_at "om")) ?_
        ((with_reducible refine' we_sub ?_); walk_at "n"; walk_at "n")
        refine o_item (l := zs l') (by walk_at "has") (by walk_at "om") (by walk_at "om") (zs_getN (n := 2 * p + 2) (by walk_at "om") (by walk_at "om")) ?_
        (with_reducible refine' o_lt ?_)
        refine ⟨_, rfl, fun hb3 => ?_, fun hb3 => ?_⟩
        · (with_reducible refine' wb_and_nil ?_)
          refine ⟨fun _ => ?_, fun hf => by cases hf⟩
          ((with_reducible refine' ws_cons ?_); ((with_reducible refine' ws_assign ?za13 ?_); (case za13 => exact rfl)); walk_at "n"; (with_reducible refine' seq_next ?_; refine' ws_nil ?_))
          refine ⟨rfl, ?_⟩
          have : suC l' p = 2 * p + 2 := by unfold suC; rw [if_pos ⟨hr, by simpa using hb3⟩]
          rw [this, ← h2]
          rfl
        · refine ⟨fun hf => by (cases hf), fun _ => ?_⟩
          (with_reducible refine' ws_nil ?_)
          refine ⟨rfl, ?_⟩
          have : suC l' p = 2 * p + 1 := by unfold suC; rw [if_neg (fun q => q.2 (by simpa using hb3))]
          rw [this, ← h1]
          rfl
      · refine ⟨fun hf => by (cases hf), fun _ => ?_⟩
        (with_reducible refine' ws_nil ?_)
        have hr : ¬ 2 * p + 2 < l'.length := by
          have : ¬ 2 * (p : Int) + 1 + 1 < (l.length : Int) := by simpa using hb2
          walk_at "om"
        refine ⟨rfl, ?_⟩
        have : suC l' p = 2 * p + 1 := by unfold suC; rw [if_neg (fun q => hr q.1)]
        rw [this, ← h1]
        rfl
    · rintro f σ' ⟨rfl, rfl⟩
      obtain ⟨c1, c2⟩ := suC_lt hc
      ((with_reducible refine' seq_next ?_; refine' ws_cons ?_; refine' ws_setitem ?_; refine' we_sub ?_); walk_at "n"; walk_at "n")
      refine o_item (l := zs l') (by walk_at "has") (by walk_at "om") (by walk_at "om") (zs_get (by simp; walk_at "om")) ?_
      simp only [Int.toNat_natCast]
      (walk_at "n"; walk_at "n")
      refine o_setitem (l := zs l') (by walk_at "upd") (by walk_at "om") (by walk_at "om") (by simp; walk_at "om") ?_
      simp only [Int.toNat_natCast, zs_set]
      ((with_reducible refine' seq_next ?_; refine' ws_cons ?_); ((with_reducible refine' ws_assign ?za14 ?_); (case za14 => exact rfl)); walk_at "n"; (with_reducible refine' seq_next ?_; refine' ws_cons ?_); ((with_reducible refine' ws_assign ?za15 ?_); (case za15 => exact rfl)); (with_reducible refine' we_bin ?_; refine' we_bin ?_; refine' we_int ?_); walk_at "n"; (with_reducible refine' o_two ?_; refine' we_int ?_; refine' o_add ?_; refine' seq_next ?_; refine' ws_nil ?_))
      refine ⟨l.length - suC l' p, by walk_at "om", l'.set p (l'.getD (suC l' p) 0), suC l' p, _, rfl, by simp; walk_at "om", by simp [hlen], ?_, rfl⟩
      rw [← hsu]
      conv => rhs; unfold suP
      rw [if_pos hc]
  · have hc : ¬ 2 * p + 1 < l'.length := by
      have : ¬ 2 * (p : Int) + 1 < (l.length : Int) := by simpa using hb
      walk_at "om"
    have hend : suP l 0 = (l', p) := by rw [← hsu]; unfold suP; rw [if_neg hc]
    ((with_reducible refine' seq_next ?_; refine' ws_cons ?_; refine' ws_setitem ?_); walk_at "n"; walk_at "n"; walk_at "n")
    refine o_setitem (l := zs l') (by walk_at "upd") (by walk_at "om") (by walk_at "om") (by simp; walk_at "om") ?_
    simp only [Int.toNat_natCast, zs_set]
    ((with_reducible refine' seq_next ?_; refine' ws_cons ?_; refine' ws_expr ?_; refine' we_call ?_); ((with_reducible refine' we_glob ?za16 ?zb16 ?_); (case za16 => exact rfl); (case zb16 => exact rfl)))
    refine ⟨_, rfl, by walk_at "callee", ?_⟩
    ((with_reducible refine' wa_cons ?_); walk_at "n"; (with_reducible refine' wa_cons ?_); walk_at "n"; (with_reducible refine' wa_cons ?_); walk_at "n"; (with_reducible refine' wa_nil ?_))
    refine wol_call_upd (x := .none) (o' := .list (zs (su l))) (led' := [(a, .list (zs (su l)))]) Upd.head (fun s' vs' S' r' => ?_) ⟨rfl, ?_⟩
    · have hd := sd_c (S'.cxUp 1) r' (S'.has (.inl (List.Mem.head _))) (S'.not_hT (List.Mem.head _)) (by simp; walk_at "om") (by simp; walk_at "om")
      have e3 : (l'.set p x).getD p 0 = x := by simp [List.getD, hp]
      rw [e3] at hd
      have e4 : su l = sd (l'.set p x) x p := by unfold su; rw [hend, hx]
      rw [e4]
      exact hd
    · ((with_reducible refine' seq_next ?_; refine' ws_nil ?_))
      exact ⟨rfl, rfl⟩
noncomputable def hpop (l : List Int) : Int × List Int := if l.dropLast = [] then (l.getLast?.getD 0, []) else (l.dropLast.getD 0 0, su (l.dropLast.set 0 (l.getLast?.getD 0)))
theorem hpop_snoc (m : List Int) (z : Int) : hpop (m ++ [z]) = if m = [] then (z, []) else (m.getD 0 0, su (m.set 0 z)) := by simp [hpop]
theorem hpop_c {w : World} {hT : Heap} {A : Around} {s : Shared} (C : Cx w hT A s 3) {a : Addr} {l : List Int} {vs : List Value} (r : RepL s.heap [.ref a] vs) (hl : RepO w s.heap a (.list (zs l))) (ha : hT.get? a = none) (hne : 0 < l.length) (hsz : l.length ≤ sizeLine) :
    codeAny (model pw w) A (.call (.ref 260) ⟨vs, []⟩) (Ret w s [a] fun y led => y = .int (hpop l).1 ∧ led = [(a, .list (zs (hpop l).2))]) s := by
  obtain ⟨v1, rfl, r1⟩ := r.inv1
  refine enterP dHPop_ok (k := 2) C (.cons r1 .nil) rfl [(a, .list (zs l))] [some (.ref a), none, none] 2 (fun p hp => by cases List.mem_singleton.mp hp; exact ⟨ha, rfl, hl⟩) (by simp) rfl fun L hL => ?_
  have hz := sizeLine_is
  obtain ⟨m, z, rfl⟩ : ∃ m z, l = m ++ [z] := ⟨l.dropLast, l.getLast (by intro e; subst e; simp at hne), (List.dropLast_concat_getLast _).symm⟩
  have ez : zs (m ++ [z]) = zs m ++ [.int z] := by simp
  rw [ez]
  refine ws_cons ?_
  ((with_reducible refine' ws_doc ?_; refine' seq_next ?_; refine' ws_cons ?_); ((with_reducible refine' ws_assign ?za17 ?_); (case za17 => exact rfl)); (with_reducible refine' we_list_pop ?_); walk_at "n")
  refine ⟨typeB_list (by walk_at "has"), ?_⟩
  (with_reducible refine' wa_nil ?_)
  refine o_pop (l := zs m) (x := .int z) (by walk_at "upd") (by simp at hsz ⊢; walk_at "om") ?_
  ((with_reducible refine' seq_next ?_; refine' ws_cons ?_))
  refine ws_if ?_
  ((with_reducible refine' wb_plain ?_); walk_at "n")
  refine o_true_list (l := zs m) (by walk_at "has") (by simp at hsz ⊢; walk_at "om") ?_
  refine ⟨fun hb => ?_, fun hb => ?_⟩
  · cases m with
    | nil => simp at hb
    | cons y m' =>
      ((with_reducible refine' ws_cons ?_); ((with_reducible refine' ws_assign ?za18 ?_); (case za18 => exact rfl)); (with_reducible refine' we_sub ?_); walk_at "n"; (with_reducible refine' we_int ?_))
      refine o_item (l := zs (y :: m')) (by walk_at "has") (by walk_at "om") (by walk_at "om") (zs_get (by simp)) ?_
      ((with_reducible refine' seq_next ?_; refine' ws_cons ?_; refine' ws_setitem ?_); walk_at "n"; walk_at "n"; (with_reducible refine' we_int ?_))
      refine o_setitem (l := zs (y :: m')) (by walk_at "upd") (by walk_at "om") (by walk_at "om") (by simp) ?_
      simp only [Int.toNat_zero, zs_set]
      ((with_reducible refine' seq_next ?_; refine' ws_cons ?_; refine' ws_expr ?_; refine' we_call ?_); ((with_reducible refine' we_glob ?za19 ?zb19 ?_); (case za19 => exact rfl); (case zb19 => exact rfl)))
      refine ⟨_, rfl, by walk_at "callee", ?_⟩
      ((with_reducible refine' wa_cons ?_); walk_at "n"; (with_reducible refine' wa_cons ?_; refine' we_int ?_; refine' wa_nil ?_))
      refine wol_call_upd (x := .none) (o' := .list (zs (su ((y :: m').set 0 z)))) (led' := [(a, .list (zs (su ((y :: m').set 0 z))))]) Upd.head (fun s' vs' S' r' => ?_) ⟨rfl, ?_⟩
      · exact su_c (S'.cxUp 2) r' (S'.has (.inl (List.Mem.head _))) (S'.not_hT (List.Mem.head _)) (by simp) (by simp at hsz ⊢; walk_at "om")
      · ((with_reducible refine' seq_next ?_; refine' ws_cons ?_; refine' ws_return ?_); walk_at "n"; (with_reducible refine' seq_ret ?_; refine' seq_ret ?_))
        rw [hpop_snoc]
        exact ⟨rfl, rfl⟩
  · cases m with
    | cons y m' => simp at hb
    | nil =>
      ((with_reducible refine' ws_nil ?_; refine' seq_next ?_; refine' ws_cons ?_; refine' ws_return ?_); walk_at "n"; (with_reducible refine' seq_ret ?_))
      rw [hpop_snoc]
      exact ⟨rfl, rfl⟩
end
section
open PySem PySem.W PyProof.Rows PySem.Calls
set_option Elab.async false
set_option linter.unusedVariables false
set_option maxRecDepth 10000
noncomputable def dLR : Def := { fa := 300, fd := fd300, body := bodyOf (stm 16), names := [⟨#[110,117,109,98,101,114,115]⟩, ⟨#[104,101,97,112]⟩, ⟨#[114,111,119]⟩, ⟨#[110,117,109,98,101,114]⟩], globs := [⟨#[104,101,97,112,112,117,115,104]⟩, ⟨#[104,101,97,112,112,111,112]⟩] }
theorem dLR_ok : dLR.Ok := {
  obj := fun P => ⟨_, _, _, (by kernel_rfl : (K P).lookup 300 = some ⟨.type "function", none, .func fd300, #[]⟩)⟩
  body := by kernel_rfl
  code := fun P => by kernel_rfl
  scope := by kernel_rfl
  glob := by kernel_rfl
  bi := by kernel_rfl }
theorem sd_len (l : List Int) (x : Int) (p : Nat) : (sd l x p).length = l.length := by
  unfold sd
  split
  · simp
  · split
    · rw [sd_len]; simp
    · simp
termination_by p
decreasing_by walk_at "om"
theorem hpush_len (l : List Int) (x : Int) : (hpush l x).length = l.length + 1 := by simp [hpush, sd_len]
theorem su_len (l : List Int) (h : 0 < l.length) : (su l).length = l.length := by
  have := suP_len l 0 h
  simp [su, sd_len, this.1]
theorem hpop_len (l : List Int) : (hpop l).2.length = l.length - 1 := by
  unfold hpop
  split
  · rename_i h; have := congrArg List.length h; simp at this; simp; walk_at "om"
  · rename_i h
    have h2 : 0 < l.dropLast.length := by cases q : l.dropLast with | nil => exact absurd q h | cons _ _ => simp
    rw [su_len _ (by simpa using h2)]
    simp
noncomputable def pushAll (ns : List Int) : List Int := ns.foldl hpush []
theorem pushAll_len (ns : List Int) : (pushAll ns).length = ns.length := by
  have : ∀ (ns l : List Int), (ns.foldl hpush l).length = l.length + ns.length := by
    intro ns
    induction ns with
    | nil => intro l; simp
    | cons n r ih => intro l; rw [List.foldl_cons, ih, hpush_len]; simp; walk_at "om"
  simpa [pushAll] using this ns []
noncomputable def popRow : Nat → List Int → List Int → List Int
  | 0, _, row => row
  | n + 1, h, row => popRow n (hpop h).2 (if row.drop (row.length - 1) = [(hpop h).1] then row else row ++ [(hpop h).1])
noncomputable def lawRow (ns : List Int) : List Int := popRow ns.length (pushAll ns) []
theorem zs_drop (l : List Int) (k : Nat) : (zs l).drop k = zs (l.drop k) := by simp
theorem lr_c {w : World} {hT : Heap} {A : Around} {s : Shared} (C : Cx w hT A s 4) {na : Addr} {ns : List Int} {vs : List Value} (r : RepL s.heap [.ref na] vs) (hl : RepO w s.heap na (.list (zs ns))) (hsz : ns.length < 1000) :
    codeAny (model pw w) A (.call (.ref 300) ⟨vs, []⟩) (Ret w s [] fun y led => ∃ b, y = .ref b ∧ led = [(b, .list (zs (lawRow ns)))]) s := by
  obtain ⟨v1, rfl, r1⟩ := r.inv1
  refine enterP dLR_ok (k := 3) C (.cons r1 .nil) rfl [] [some (.ref na), none, none, none] 3 (fun p hp => nomatch hp) (by simp) rfl fun L hL => ?_
  have hz := sizeLine_is
  refine W.weak ?_
  refine ws_cons ?_
  refine ws_swap (is := [2, 1]) (by with_unfolding_all rfl) (.cons rfl (.cons rfl .nil)) ?_
  ((with_reducible refine' we_tuple ?_; refine' wa_cons ?_; refine' we_list ?_; refine' wa_nil ?_))
  refine ⟨by simp, fun a ha => ?_⟩
  ((with_reducible refine' wa_cons ?_; refine' we_list ?_; refine' wa_nil ?_))
  refine ⟨by simp, fun b hb => ?_⟩
  (with_reducible refine' wa_nil ?_)
  refine ⟨by simp; walk_at "om", _, rfl, rfl, ?_⟩
  ((with_reducible refine' seq_next ?_; refine' ws_cons ?_))
  refine ws_for_ro rfl na (zs ns) (fun j σ => ∃ o1, σ = ⟨[some (.ref na), some (.ref a), some (.ref b), o1], [(b, .list []), (a, .list (zs (pushAll (ns.take j))))]⟩) ⟨hl, by simp⟩ ?_ ?_ ?_
  · walk_at "n"
    exact ⟨rfl, _, rfl⟩
  · rintro j y σ₁ I o hy ⟨o1, rfl⟩ hI
    have hj : j < ns.length := by have := (List.getElem?_eq_some_iff.mp hy).1; simpa using this
    obtain rfl : y = .int (ns.getD j 0) := by rw [zs_get hj] at hy; exact (Option.some.inj hy).symm
    have hpl := pushAll_len (ns.take j)
    ((with_reducible refine' ws_cons ?_; refine' ws_expr ?_; refine' we_call ?_); ((with_reducible refine' we_glob ?za20 ?zb20 ?_); (case za20 => exact rfl); (case zb20 => exact rfl)))
    refine ⟨_, rfl, by walk_at "callee", ?_⟩
    ((with_reducible refine' wa_cons ?_); walk_at "n"; (with_reducible refine' wa_cons ?_); walk_at "n"; (with_reducible refine' wa_nil ?_))
    refine wol_call_upd (x := .none) (o := .list (zs (pushAll (ns.take j)))) (o' := .list (zs (hpush (pushAll (ns.take j)) (ns.getD j 0)))) (led' := [(I, .obj o), (b, .list []), (a, .list (zs (hpush (pushAll (ns.take j)) (ns.getD j 0))))]) (Upd.tail (Upd.tail Upd.head)) (fun s' vs' S' r' => ?_) ⟨rfl, ?_⟩
    · exact hpush_c (S'.cxUp 2) r' (S'.has (.inl (.tail _ (.tail _ (.head _))))) (S'.not_hT (.tail _ (.tail _ (.head _)))) (by rw [hpl, List.length_take]; walk_at "om")
    · ((with_reducible refine' seq_next ?_; refine' ws_nil ?_))
      refine ⟨_, _, List.Sublist.refl _, fun _ _ h => h, some (.int (ns.getD j 0)), ?_⟩
      have : pushAll (ns.take (j + 1)) = hpush (pushAll (ns.take j)) (ns.getD j 0) := by
        unfold pushAll
        rw [List.take_add_one, List.foldl_append]
        simp [List.getD, hj]
      rw [this]
      rfl
  · rintro σ₁ ⟨o1, rfl⟩
    have hpl := pushAll_len ns
    rw [List.length_map, List.take_length]
    ((with_reducible refine' seq_next ?_; refine' ws_cons ?_))
    refine ws_whileW (fun n σ => ∃ hp row o1, hp.length = n ∧ n ≤ ns.length ∧ row.length + n ≤ ns.length ∧ popRow n hp row = lawRow ns ∧ σ = ⟨[some (.ref na), some (.ref a), some (.ref b), o1], [(b, .list (zs row)), (a, .list (zs hp))]⟩) ns.length ⟨_, .refl _, pushAll ns, [], _, hpl, Nat.le_refl _, by simp, rfl, rfl⟩ ?_
    rintro n σ ⟨hp, row, o1, rfl, hn, hrow, hpr, rfl⟩
    ((with_reducible refine' wb_cmp ?_); walk_at "n"; (with_reducible refine' we_list ?_; refine' wa_nil ?_))
    refine ⟨by simp, fun c hc => ?_⟩
    refine o_ne_ints (l := hp) (m := []) (by walk_at "has") (by walk_at "has") ⟨_, rfl, fun hb => ?_, fun hb => ?_⟩
    · have hne : 0 < hp.length := by cases hp with | nil => simp at hb | cons _ _ => simp
      ((with_reducible refine' ws_cons ?_); ((with_reducible refine' ws_assign ?za21 ?_); (case za21 => exact rfl)); (with_reducible refine' we_call ?_); ((with_reducible refine' we_glob ?za22 ?zb22 ?_); (case za22 => exact rfl); (case zb22 => exact rfl)))
      refine ⟨_, rfl, by walk_at "callee", ?_⟩
      ((with_reducible refine' wa_cons ?_); walk_at "n"; (with_reducible refine' wa_nil ?_))
      refine wol_call_upd (x := .int (hpop hp).1) (o := .list (zs hp)) (o' := .list (zs (hpop hp).2)) (led' := [(c, .list []), (b, .list (zs row)), (a, .list (zs (hpop hp).2))]) (Upd.tail (Upd.tail Upd.head)) (fun s' vs' S' r' => ?_) ?_
      · exact hpop_c (S'.cxUp 3) r' (S'.has (.inl (.tail _ (.tail _ (.head _))))) (S'.not_hT (.tail _ (.tail _ (.head _)))) hne (by walk_at "om")
      ((with_reducible refine' seq_next ?_; refine' ws_cons ?_))
      obtain ⟨n, hn'⟩ : ∃ n, hp.length = n + 1 := ⟨hp.length - 1, by walk_at "om"⟩
      have hlen2 := hpop_len hp
      rw [hn'] at hpr
      have fin : ∀ row', row' = (if row.drop (row.length - 1) = [(hpop hp).1] then row else row ++ [(hpop hp).1]) → popRow n (hpop hp).2 row' = lawRow ns ∧ row'.length + n ≤ ns.length := by
        rintro row' rfl
        refine ⟨hpr, ?_⟩
        split
        · walk_at "om"
        · simp; walk_at "om"
      refine ws_if ?_
      (with_reducible refine' wb_cmp ?_)
      refine we_slice b (zs row) (zs (row.drop (row.length - 1))) ?_
      walk_at "n"
      refine ⟨rfl, ?_⟩
      ((with_reducible refine' wp_some ?_; refine' we_neg ?_; refine' we_int ?_))
      refine ⟨_, rfl, _, rfl, ?_⟩
      ((with_reducible refine' wp_none ?_; refine' wp_none ?_))
      refine ⟨by walk_at "has", by simp; walk_at "om", by simp, ?_, fun d hd => ?_⟩
      · have := picks_last (zs row)
        rw [zs_drop, List.length_map] at this
        exact this
      ((with_reducible refine' we_list ?_; refine' wa_cons ?_); walk_at "n"; (with_reducible refine' wa_nil ?_))
      refine ⟨by simp; walk_at "om", fun e he => ?_⟩
      refine o_ne_ints (l := row.drop (row.length - 1)) (m := [(hpop hp).1]) (by walk_at "has") (by walk_at "has") ⟨_, rfl, fun hb => ?_, fun hb => ?_⟩
      · ((with_reducible refine' ws_cons ?_; refine' ws_expr ?_; refine' we_list_append ?_); walk_at "n")
        refine ⟨typeB_list (l := zs row) (by walk_at "has"), ?_⟩
        ((with_reducible refine' wa_cons ?_); walk_at "n"; (with_reducible refine' wa_nil ?_))
        refine o_append (l := zs row) (by walk_at "upd") (by simp; walk_at "om") ⟨rfl, ?_⟩
        ((with_reducible refine' seq_next ?_; refine' ws_nil ?_; refine' seq_next ?_; refine' ws_nil ?_))
        obtain ⟨f1, f2⟩ := fin (row ++ [(hpop hp).1]) (by rw [if_neg]; simpa using hb)
        refine ⟨n, by walk_at "om", _, .led (l' := [(b, .list (zs row ++ [.int (hpop hp).1])), (a, .list (zs (hpop hp).2))]) (by walk_at "sub"), (hpop hp).2, row ++ [(hpop hp).1], some (.int (hpop hp).1), by walk_at "om", by walk_at "om", f2, f1, ?_⟩
        rw [show zs (row ++ [(hpop hp).1]) = zs row ++ [.int (hpop hp).1] by simp]
        rfl
      · ((with_reducible refine' ws_nil ?_; refine' seq_next ?_; refine' ws_nil ?_))
        obtain ⟨f1, f2⟩ := fin row (by rw [if_pos]; simpa using hb)
        exact ⟨n, by walk_at "om", _, .led (l' := [(b, .list (zs row)), (a, .list (zs (hpop hp).2))]) (by walk_at "sub"), (hpop hp).2, row, _, by walk_at "om", by walk_at "om", f2, f1, rfl⟩
    · have h0 : hp = [] := by simpa using hb
      subst h0
      ((with_reducible refine' seq_next ?_; refine' ws_cons ?_; refine' ws_return ?_); walk_at "n"; (with_reducible refine' seq_ret ?_))
      refine ⟨_, .led (l' := [(b, .list (zs row))]) (by walk_at "sub"), b, rfl, ?_⟩
      rw [← hpr]
      rfl
end
section
open PySem PySem.W PyProof.Rows PySem.Calls
set_option Elab.async false
set_option linter.unusedVariables false
set_option maxRecDepth 10000
noncomputable def dLL : Def := { fa := 293, fd := fd293, body := bodyOf (stm 15), names := [⟨#[110,117,109,98,101,114,115]⟩, ⟨#[102,105,114,115,116]⟩], globs := [] }
theorem dLL_ok : dLL.Ok := {
  obj := fun P => ⟨_, _, _, (by kernel_rfl : (K P).lookup 293 = some ⟨.type "function", none, .func fd293, #[]⟩)⟩
  body := by kernel_rfl
  code := fun P => by kernel_rfl
  scope := by kernel_rfl
  glob := by kernel_rfl
  bi := by kernel_rfl }
noncomputable def thirds (r : Int) (ns : List Int) : List Int := (ns.filter fun x => x.fmod 3 != r).map fun x => (x.fdiv 3).fmod 16
theorem thirds_snoc (r : Int) (ns : List Int) (x : Int) : thirds r (ns ++ [x]) = if x.fmod 3 != r then thirds r ns ++ [(x.fdiv 3).fmod 16] else thirds r ns := by
  unfold thirds
  rw [List.filter_append]
  by_cases h : (x.fmod 3 != r) = true
  · simp [h]
  · simp [h]
theorem thirds_len (r : Int) (ns : List Int) : (thirds r ns).length ≤ ns.length := by
  unfold thirds
  rw [List.length_map]
  exact List.length_filter_le _ _
theorem take_snoc {ns : List Int} {j : Nat} (hj : j < ns.length) : ns.take (j + 1) = ns.take j ++ [ns.getD j 0] := by
  rw [List.take_add_one]; simp [List.getD, hj]
theorem ll_c {w : World} {hT : Heap} {A : Around} {s : Shared} (C : Cx w hT A s 1) {na : Addr} {ns : List Int} {vs : List Value} (r : RepL s.heap [.ref na] vs) (hl : RepO w s.heap na (.list (zs ns))) (hsz : ns.length < 1000) :
    codeAny (model pw w) A (.call (.ref 293) ⟨vs, []⟩) (Ret w s [] fun y led => ∃ a b, y = .tup (.type "tuple") [.ref a, .ref b] ∧ led = [(b, .list (zs (thirds 0 ns))), (a, .list (zs (thirds 1 ns)))]) s := by
  obtain ⟨v1, rfl, r1⟩ := r.inv1
  refine enterP dLL_ok (k := 0) C (.cons r1 .nil) rfl [] [some (.ref na), none] 1 (fun p hp => nomatch hp) (by simp) rfl fun L hL => ?_
  have hz := sizeLine_is
  refine ws_cons ?_
  refine ws_assign_comp [] [⟨#[120]⟩] [] (zs ns) 1 (fun h => RepO w h na (.list (zs ns))) (fun _ j ys extra => extra = [] ∧ ys = zs (thirds 1 (ns.take j)) ∧ j ≤ ns.length) rfl (by with_unfolding_all rfl) (by kernel_rfl) ?_
  walk_at "n"
  refine ⟨_, starts_list (.inl ⟨_, _, rfl⟩) (.inr ⟨hl, by simp⟩), ?_, ?_⟩
  · intro C h₀ wr g os facts
    have hna := facts na _ (.inr ⟨hl, by simp⟩)
    refine ⟨fun σ' s' S' _ => S'.has (.inr hna), ⟨rfl, rfl, Nat.zero_le _⟩, ?_, ?_⟩
    · rintro j ys extra ⟨_, rfl, hj⟩
      have := thirds_len 1 (ns.take j)
      rw [List.length_take] at this
      simp; walk_at "om"
    · rintro j y ys extra its D hn hy ⟨rfl, rfl, hj⟩
      obtain ⟨I, o, rfl⟩ := one_it hn
      have hj : j < ns.length := by have := (List.getElem?_eq_some_iff.mp hy).1; simpa using this
      obtain rfl : y = .int (ns.getD j 0) := by rw [zs_get hj] at hy; exact (Option.some.inj hy).symm
      refine ⟨_, binds_name rfl, ?_⟩
      show WB _ _ _ _ _
      ((with_reducible refine' wb_cmp ?_; refine' we_bin ?_); walk_at "n"; (with_reducible refine' we_int ?_; refine' o_mod (by decide) ?_; refine' we_int ?_; refine' o_ne ?_))
      refine ⟨_, rfl, fun hb => ?_, fun hb => ?_⟩
      · ((with_reducible refine' we_bin ?_; refine' we_bin ?_); walk_at "n"; (with_reducible refine' we_int ?_; refine' o_div3 ?_; refine' we_int ?_; refine' o_mod (by decide) ?_))
        refine ⟨[], List.Sublist.refl _, fun _ _ h => absurd h nones_get, rfl, ?_, hj⟩
        rw [take_snoc hj, thirds_snoc, if_pos hb]; simp
      · refine ⟨[], List.Sublist.refl _, fun _ _ h => absurd h nones_get, rfl, ?_, hj⟩
        rw [take_snoc hj, thirds_snoc, if_neg (by simpa using hb)]
  · rintro a C ys extra ⟨rfl, rfl, _⟩ ha
    rw [List.length_map, List.take_length]
    ((with_reducible refine' seq_next ?_; refine' ws_cons ?_; refine' ws_return ?_; refine' we_tuple ?_; refine' wa_cons ?_); walk_at "n"; (with_reducible refine' wa_cons ?_))
    refine we_comp [] [⟨#[120]⟩] [] (zs ns) 1 (fun h => RepO w h na (.list (zs ns))) (fun _ j ys extra => extra = [] ∧ ys = zs (thirds 0 (ns.take j)) ∧ j ≤ ns.length) (by with_unfolding_all rfl) (by kernel_rfl) ?_
    walk_at "n"
    refine ⟨_, starts_list (.inl ⟨_, _, rfl⟩) (.inr ⟨hl, by simp⟩), ?_, ?_⟩
    · intro C h₀ wr g os facts
      have hna := facts na _ (.inr ⟨hl, by simp⟩)
      refine ⟨fun σ' s' S' _ => S'.has (.inr hna), ⟨rfl, rfl, Nat.zero_le _⟩, ?_, ?_⟩
      · rintro j ys extra ⟨_, rfl, hj⟩
        have := thirds_len 0 (ns.take j)
        rw [List.length_take] at this
        simp; walk_at "om"
      · rintro j y ys extra its D hn hy ⟨rfl, rfl, hj⟩
        obtain ⟨I, o, rfl⟩ := one_it hn
        have hj : j < ns.length := by have := (List.getElem?_eq_some_iff.mp hy).1; simpa using this
        obtain rfl : y = .int (ns.getD j 0) := by rw [zs_get hj] at hy; exact (Option.some.inj hy).symm
        refine ⟨_, binds_name rfl, ?_⟩
        show WB _ _ _ _ _
        ((with_reducible refine' wb_cmp ?_; refine' we_bin ?_); walk_at "n"; (with_reducible refine' we_int ?_; refine' o_mod (by decide) ?_; refine' we_int ?_; refine' o_ne ?_))
        refine ⟨_, rfl, fun hb => ?_, fun hb => ?_⟩
        · ((with_reducible refine' we_bin ?_; refine' we_bin ?_); walk_at "n"; (with_reducible refine' we_int ?_; refine' o_div3 ?_; refine' we_int ?_; refine' o_mod (by decide) ?_))
          refine ⟨[], List.Sublist.refl _, fun _ _ h => absurd h nones_get, rfl, ?_, hj⟩
          rw [take_snoc hj, thirds_snoc, if_pos hb]; simp
        · refine ⟨[], List.Sublist.refl _, fun _ _ h => absurd h nones_get, rfl, ?_, hj⟩
          rw [take_snoc hj, thirds_snoc, if_neg (by simpa using hb)]
    · rintro b C ys extra ⟨rfl, rfl, _⟩ hb
      rw [List.length_map, List.take_length]
      (with_reducible refine' wa_nil ?_)
      refine ⟨by simp; walk_at "om", ?_⟩
      (with_reducible refine' seq_ret ?_)
      exact ⟨a, b, rfl, rfl⟩
end
section
open PySem PySem.W PyProof.Rows PySem.Calls
set_option Elab.async false
set_option linter.unusedVariables false
set_option maxRecDepth 10000
noncomputable def dRU : Def := { fa := 307, fd := fd307, body := bodyOf (stm 17), names := [⟨#[102,105,114,115,116]⟩, ⟨#[115,101,99,111,110,100]⟩, ⟨#[114,117,110,115]⟩, ⟨#[105]⟩, ⟨#[110,117,109,98,101,114]⟩, ⟨#[106]⟩], globs := [⟨#[101,110,117,109,101,114,97,116,101]⟩, ⟨#[108,101,110]⟩] }
theorem dRU_ok : dRU.Ok := {
  obj := fun P => ⟨_, _, _, (by kernel_rfl : (K P).lookup 307 = some ⟨.type "function", none, .func fd307, #[]⟩)⟩
  body := by kernel_rfl
  code := fun P => by kernel_rfl
  scope := by kernel_rfl
  glob := by kernel_rfl
  bi := by kernel_rfl }
noncomputable def idx (x : Int) : List Int → Nat
  | [] => 0
  | a :: r => if a = x then 0 else idx x r + 1
theorem idx_spec {x : Int} : ∀ {l : List Int}, x ∈ l → l[idx x l]? = some x ∧ ∀ m < idx x l, l[m]? ≠ some x
  | [], h => by cases h
  | a :: r, h => by
    unfold idx
    by_cases q : a = x
    · rw [if_pos q]; exact ⟨by simp [q], fun m hm => absurd hm (Nat.not_lt_zero _)⟩
    · rw [if_neg q]
      have hr : x ∈ r := by rcases List.mem_cons.mp h with e | e; exact absurd e.symm q; exact e
      obtain ⟨h1, h2⟩ := idx_spec hr
      refine ⟨by simpa using h1, fun m hm => ?_⟩
      cases m with
      | zero => simpa using q
      | succ m => simpa using h2 m (by walk_at "om")
noncomputable def runsStep (s : List Int) (runs : List Tri) (i : Nat) (x : Int) : List Tri :=
  if x ∈ s then
    match runs.getLast? with
    | some t => if t.1 + t.2.2 = i ∧ t.2.1 + t.2.2 = (idx x s : Int) then runs.dropLast ++ [(t.1, t.2.1, t.2.2 + 1)] else runs ++ [((i : Int), (idx x s : Int), 1)]
    | none => runs ++ [((i : Int), (idx x s : Int), 1)]
  else runs
noncomputable def runsTo (f s : List Int) : Nat → List Tri
  | 0 => []
  | j + 1 => runsStep s (runsTo f s j) j (f.getD j 0)
noncomputable def lawRuns (f s : List Int) : List Tri := runsTo f s f.length ++ [((f.length : Int), (s.length : Int), 0)]
theorem runsStep_len (s : List Int) (runs : List Tri) (i : Nat) (x : Int) : (runsStep s runs i x).length ≤ runs.length + 1 := by
  unfold runsStep
  split
  · split
    · split
      · simp
      · simp
    · simp
  · walk_at "om"
theorem runsTo_len (f s : List Int) (j : Nat) : (runsTo f s j).length ≤ j := by
  induction j with
  | zero => simp [runsTo]
  | succ j ih => have := runsStep_len s (runsTo f s j) j (f.getD j 0); simp only [runsTo]; walk_at "om"
theorem runs_c {w : World} {hT : Heap} {A : Around} {s : Shared} (C : Cx w hT A s 1) {fa sa : Addr} {f g : List Int} {vs : List Value} (r : RepL s.heap [.ref fa, .ref sa] vs) (hf : RepO w s.heap fa (.list (zs f))) (hg : RepO w s.heap sa (.list (zs g))) (hfs : f.length < 1000) (hgs : g.length < 1000) :
    codeAny (model pw w) A (.call (.ref 307) ⟨vs, []⟩) (Ret w s [] fun y led => ∃ b, y = .ref b ∧ led = [(b, .list (ts (lawRuns f g)))]) s := by
  obtain ⟨v1, v2, rfl, r1, r2⟩ := r.inv2
  refine enterP dRU_ok (k := 0) C (.cons r1 (.cons r2 .nil)) rfl [] [some (.ref fa), some (.ref sa), none, none, none, none] 4 (fun p hp => nomatch hp) (by simp) rfl fun L hL => ?_
  have hz := sizeLine_is
  refine W.weak ?_
  refine ws_cons ?_
  (((with_reducible refine' ws_assign ?za23 ?_); (case za23 => exact rfl)); (with_reducible refine' we_list ?_; refine' wa_nil ?_))
  refine ⟨by simp, fun rb hrb => ?_⟩
  ((with_reducible refine' seq_next ?_; refine' ws_cons ?_))
  refine ws_for (enumL 0 (zs f)) 2 (fun h => RepO w h fa (.list (zs f))) (fun j σ => j ≤ f.length ∧ ∃ o1 o2 o3, σ = ⟨[some (.ref fa), some (.ref sa), some (.ref rb), o1, o2, o3], [(rb, .list (ts (runsTo f g j)))]⟩) ?_ (ro_has fun _ _ _ => .inr ⟨hf, by simp⟩) ?_ ?_
  · ((with_reducible refine' we_call ?_); ((with_reducible refine' we_blt ?za24 ?zb24 ?_); (case za24 => exact rfl); (case zb24 => exact rfl)))
    refine ⟨_, rfl, by walk_at "callee", ?_⟩
    ((with_reducible refine' wa_cons ?_); walk_at "n"; (with_reducible refine' wa_nil ?_))
    refine o_enum (l := zs f) (.inr ⟨hf, by simp⟩) fun e it oe oi he hit hei ho => ?_
    exact ⟨_, starts_enum hei ho rfl, Nat.zero_le _, none, none, none, rfl⟩
  · rintro j y σ₁ its hn hy ⟨hj, o1, o2, o3, rfl⟩ hni
    obtain ⟨e, oe, it, oi, rfl⟩ := two_it hn
    obtain ⟨x, hx, rfl⟩ := enumL_get _ _ _ _ hy
    have hj : j < f.length := by have := (List.getElem?_eq_some_iff.mp hx).1; simpa using this
    obtain rfl : x = .int (f.getD j 0) := by rw [zs_get hj] at hx; exact (Option.some.inj hx).symm
    rw [Nat.zero_add]
    refine ⟨_, binds_tuple (is := [3, 4]) (.cons rfl (.cons rfl .nil)) rfl, ?_⟩
    generalize hxx : f.getD j 0 = x
    have hrl := runsTo_len f g j
    generalize hR : runsTo f g j = R at hrl
    have hR1 : runsTo f g (j + 1) = runsStep g R j x := by simp only [runsTo, hR, hxx]
    -- j
    refine ws_cons ?_
    refine W.mono (Q := fun (f : AF) σ' => f = .next ∧ σ' = ⟨[some (.ref fa), some (.ref sa), some (.ref rb), some (.int j), some (.int x), some (.int (if x ∈ g then (idx x g : Int) else -1))], [(e, .obj oe), (it, .obj oi), (rb, .list (ts R))]⟩) ?_ ?_
    · (((with_reducible refine' ws_assign ?za25 ?_); (case za25 => exact rfl)); (with_reducible refine' we_ifexp ?_; refine' wb_cmp ?_); walk_at "n"; walk_at "n")
      refine o_in (ns := g) (.inr ⟨hg, by simp⟩) ⟨_, rfl, fun hb => ?_, fun hb => ?_⟩
      · have hb : x ∈ g := by simpa using hb
        ((with_reducible refine' we_list_index ?_); walk_at "n")
        refine ⟨typeB_list (l := zs g) (.inr ⟨hg, by simp⟩), ?_⟩
        ((with_reducible refine' wa_cons ?_); walk_at "n"; (with_reducible refine' wa_nil ?_))
        obtain ⟨i1, i2⟩ := idx_spec hb
        refine o_index (ns := g) (j := idx x g) (.inr ⟨hg, by simp⟩) i1 i2 (by walk_at "om") ?_
        refine ⟨rfl, ?_⟩
        rw [if_pos hb]
        rfl
      · have hb : ¬ x ∈ g := by simpa using hb
        ((with_reducible refine' we_neg ?_; refine' we_int ?_))
        refine ⟨_, rfl, rfl, ?_⟩
        rw [if_neg hb]
        rfl
    · rintro _ σ' ⟨rfl, rfl⟩
      have hnone : g.length < 1000 := hgs
      by_cases hxg : x ∈ g
      · rw [if_pos hxg]
        generalize hJ : idx x g = J
        have hstep : ∀ R', R' = runsStep g R j x → R'.length ≤ sizeLine := by
          rintro R' rfl
          have := runsStep_len g R j x
          walk_at "om"
        ((with_reducible refine' seq_next ?_; refine' ws_cons ?_))
        refine ws_if ?_
        ((with_reducible refine' wb_and ?_; refine' wb_cmp ?_); walk_at "n"; (with_reducible refine' we_int ?_; refine' o_ge ?_))
        refine ⟨_, rfl, fun hb => ?_, fun hb => by simp at hb⟩
        ((with_reducible refine' wb_and ?_; refine' wb_cmp ?_); walk_at "n"; (with_reducible refine' we_list ?_; refine' wa_nil ?_))
        refine ⟨by simp, fun n1 hn1 => ?_⟩
        refine o_neD (dat_tris (l := R) (by walk_at "has")) (dat_tris (l := []) (by walk_at "has")) (fine_tris _) (fine_tris _) ?_
        rw [eqv_tris]
        refine ⟨_, rfl, fun hb => ?_, fun hb => ?_⟩
        · have hne : R ≠ [] := by simpa using hb
          obtain ⟨R₀, t, rfl⟩ : ∃ R₀ t, R = R₀ ++ [t] := ⟨R.dropLast, R.getLast hne, (List.dropLast_concat_getLast hne).symm⟩
          have ets : ts (R₀ ++ [t]) = ts R₀ ++ [aTri (.type "tuple") t] := by simp
          rw [ets]
          ((with_reducible refine' wb_and ?_; refine' wb_cmp ?_; refine' we_list ?_; refine' wa_cons ?_; refine' we_bin ?_; refine' we_sub ?_; refine' we_sub ?_); walk_at "n"; (with_reducible refine' we_neg ?_; refine' we_int ?_); refine ⟨_, rfl, ?_⟩; refine o_last (by walk_at "has") ?_; (with_reducible refine' we_int ?_))
          refine o_titem (k := 0) rfl ?_
          ((with_reducible refine' we_sub ?_; refine' we_sub ?_); walk_at "n"; (with_reducible refine' we_neg ?_; refine' we_int ?_); refine ⟨_, rfl, ?_⟩; refine o_last (by walk_at "has") ?_; (with_reducible refine' we_int ?_))
          refine o_titem (k := 2) rfl ?_
          ((with_reducible refine' o_add ?_; refine' wa_cons ?_; refine' we_bin ?_; refine' we_sub ?_; refine' we_sub ?_); walk_at "n"; (with_reducible refine' we_neg ?_; refine' we_int ?_))
          (refine ⟨_, rfl, ?_⟩; refine o_last (by walk_at "has") ?_; (with_reducible refine' we_int ?_))
          refine o_titem (k := 1) rfl ?_
          ((with_reducible refine' we_sub ?_; refine' we_sub ?_); walk_at "n"; (with_reducible refine' we_neg ?_; refine' we_int ?_); refine ⟨_, rfl, ?_⟩; refine o_last (by walk_at "has") ?_; (with_reducible refine' we_int ?_))
          refine o_titem (k := 2) rfl ?_
          ((with_reducible refine' o_add ?_; refine' wa_nil ?_))
          refine ⟨by simp; walk_at "om", fun n2 hn2 => ?_⟩
          ((with_reducible refine' we_list ?_; refine' wa_cons ?_); walk_at "n"; (with_reducible refine' wa_cons ?_); walk_at "n"; (with_reducible refine' wa_nil ?_))
          refine ⟨by simp; walk_at "om", fun n3 hn3 => ?_⟩
          refine o_eq_ints (l := [t.1 + t.2.2, t.2.1 + t.2.2]) (m := [(j : Int), (J : Int)]) (by walk_at "has") (by walk_at "has") ?_
          refine ⟨_, rfl, fun hb => ?_, fun hb => ?_⟩
          · have hb : t.1 + t.2.2 = (j : Int) ∧ t.2.1 + t.2.2 = (J : Int) := by simpa using hb
            (with_reducible refine' wb_and_nil ?_)
            refine ⟨fun _ => ?_, fun hf => by (cases hf)⟩
            ((with_reducible refine' ws_cons ?_; refine' ws_setitem ?_; refine' we_tuple ?_; refine' wa_cons ?_; refine' we_sub ?_; refine' we_sub ?_); walk_at "n"; (with_reducible refine' we_neg ?_; refine' we_int ?_); refine ⟨_, rfl, ?_⟩; refine o_last (by walk_at "has") ?_; (with_reducible refine' we_int ?_))
            refine o_titem (k := 0) rfl ?_
            ((with_reducible refine' wa_cons ?_; refine' we_sub ?_; refine' we_sub ?_); walk_at "n"; (with_reducible refine' we_neg ?_; refine' we_int ?_); refine ⟨_, rfl, ?_⟩; refine o_last (by walk_at "has") ?_; (with_reducible refine' we_int ?_))
            refine o_titem (k := 1) rfl ?_
            ((with_reducible refine' wa_cons ?_; refine' we_bin ?_; refine' we_sub ?_; refine' we_sub ?_); walk_at "n"; (with_reducible refine' we_neg ?_; refine' we_int ?_); refine ⟨_, rfl, ?_⟩; refine o_last (by walk_at "has") ?_; (with_reducible refine' we_int ?_))
            refine o_titem (k := 2) rfl ?_
            ((with_reducible refine' we_int ?_; refine' o_add ?_; refine' wa_nil ?_))
            refine ⟨by simp; walk_at "om", ?_⟩
            (walk_at "n"; (with_reducible refine' we_neg ?_; refine' we_int ?_))
            refine ⟨_, rfl, ?_⟩
            refine o_setlast (by walk_at "upd") ?_
            ((with_reducible refine' seq_next ?_; refine' ws_nil ?_; refine' seq_next ?_; refine' ws_nil ?_))
            refine ⟨_, [(rb, .list (ts R₀ ++ [aTri (.type "tuple") (t.1, t.2.1, t.2.2 + 1)]))], by walk_at "sub", fun _ _ h => h, hj, some (.int j), some (.int x), some (.int J), ?_⟩
            rw [hR1]
            unfold runsStep
            rw [if_pos hxg, hJ]
            simp only [List.getLast?_append, List.getLast?_singleton, Option.some_or, List.dropLast_concat]
            rw [if_pos hb]
            simp only [List.map_append, List.map_cons, List.map_nil]
          · have hbn : ¬ (t.1 + t.2.2 = (j : Int) ∧ t.2.1 + t.2.2 = (J : Int)) := by simpa using hb
            refine ⟨fun hf => by (cases hf), fun _ => ?_⟩
            (with_reducible refine' ws_cons ?_)
            refine ws_if ?_
            ((with_reducible refine' wb_cmp ?_); walk_at "n"; (with_reducible refine' we_int ?_; refine' o_ge ?_))
            refine ⟨_, rfl, fun hb => ?_, fun hb => by simp at hb⟩
            ((with_reducible refine' ws_cons ?_; refine' ws_expr ?_; refine' we_list_append ?_); walk_at "n")
            refine ⟨typeB_list (l := ts R₀ ++ [aTri (.type "tuple") t]) (by walk_at "has"), ?_⟩
            ((with_reducible refine' wa_cons ?_; refine' we_tuple ?_; refine' wa_cons ?_); walk_at "n"; (with_reducible refine' wa_cons ?_); walk_at "n"; (with_reducible refine' wa_cons ?_; refine' we_int ?_; refine' wa_nil ?_))
            refine ⟨by simp; walk_at "om", ?_⟩
            (with_reducible refine' wa_nil ?_)
            refine o_append (l := ts R₀ ++ [aTri (.type "tuple") t]) (by walk_at "upd") (by simp at hrl ⊢; walk_at "om") ⟨rfl, ?_⟩
            ((with_reducible refine' seq_next ?_; refine' ws_nil ?_; refine' seq_next ?_; refine' ws_nil ?_; refine' seq_next ?_; refine' ws_nil ?_))
            refine ⟨_, [(rb, .list (ts R₀ ++ [aTri (.type "tuple") t] ++ [aTri (.type "tuple") ((j : Int), (J : Int), 1)]))], by walk_at "sub", fun _ _ h => h, hj, some (.int j), some (.int x), some (.int J), ?_⟩
            rw [hR1]
            unfold runsStep
            rw [if_pos hxg, hJ]
            simp only [List.getLast?_append, List.getLast?_singleton, Option.some_or]
            rw [if_neg hbn]
            simp only [List.map_append, List.map_cons, List.map_nil]
        · have hne : R = [] := by simpa using hb
          subst hne
          refine ⟨fun hf => by (cases hf), fun _ => ?_⟩
          (with_reducible refine' ws_cons ?_)
          refine ws_if ?_
          ((with_reducible refine' wb_cmp ?_); walk_at "n"; (with_reducible refine' we_int ?_; refine' o_ge ?_))
          refine ⟨_, rfl, fun hb => ?_, fun hb => by simp at hb⟩
          ((with_reducible refine' ws_cons ?_; refine' ws_expr ?_; refine' we_list_append ?_); walk_at "n")
          refine ⟨typeB_list (l := ts []) (by walk_at "has"), ?_⟩
          ((with_reducible refine' wa_cons ?_; refine' we_tuple ?_; refine' wa_cons ?_); walk_at "n"; (with_reducible refine' wa_cons ?_); walk_at "n"; (with_reducible refine' wa_cons ?_; refine' we_int ?_; refine' wa_nil ?_))
          refine ⟨by simp; walk_at "om", ?_⟩
          (with_reducible refine' wa_nil ?_)
          refine o_append (l := ts []) (by walk_at "upd") (by simp) ⟨rfl, ?_⟩
          ((with_reducible refine' seq_next ?_; refine' ws_nil ?_; refine' seq_next ?_; refine' ws_nil ?_; refine' seq_next ?_; refine' ws_nil ?_))
          refine ⟨_, [(rb, .list [aTri (.type "tuple") ((j : Int), (J : Int), 1)])], by walk_at "sub", fun _ _ h => h, hj, some (.int j), some (.int x), some (.int J), ?_⟩
          rw [hR1]
          unfold runsStep
          rw [if_pos hxg, hJ]
          rfl
      · rw [if_neg hxg]
        ((with_reducible refine' seq_next ?_; refine' ws_cons ?_))
        refine ws_if ?_
        ((with_reducible refine' wb_and ?_; refine' wb_cmp ?_); walk_at "n"; (with_reducible refine' we_int ?_; refine' o_ge ?_))
        refine ⟨_, rfl, fun hb => by simp at hb, fun hb => ?_⟩
        refine ⟨fun hf => by (cases hf), fun _ => ?_⟩
        (with_reducible refine' ws_cons ?_)
        refine ws_if ?_
        ((with_reducible refine' wb_cmp ?_); walk_at "n"; (with_reducible refine' we_int ?_; refine' o_ge ?_))
        refine ⟨_, rfl, fun hb => by simp at hb, fun hb => ?_⟩
        ((with_reducible refine' ws_nil ?_; refine' seq_next ?_; refine' ws_nil ?_; refine' seq_next ?_; refine' ws_nil ?_))
        refine ⟨_, _, List.Sublist.refl _, fun _ _ h => h, hj, some (.int j), some (.int x), some (.int (-1)), ?_⟩
        rw [hR1]
        unfold runsStep
        rw [if_neg hxg]
  · rintro σ₁ ⟨hj, o1, o2, o3, rfl⟩
    rw [enumL_len, List.length_map]
    have hrl := runsTo_len f g f.length
    ((with_reducible refine' seq_next ?_; refine' ws_cons ?_; refine' ws_return ?_; refine' we_bin ?_); walk_at "n"; (with_reducible refine' we_list ?_; refine' wa_cons ?_; refine' we_tuple ?_; refine' wa_cons ?_; refine' we_call ?_); ((with_reducible refine' we_blt ?za26 ?zb26 ?_); (case za26 => exact rfl); (case zb26 => exact rfl)))
    refine ⟨_, rfl, by walk_at "callee", ?_⟩
    ((with_reducible refine' wa_cons ?_); walk_at "n"; (with_reducible refine' wa_nil ?_))
    refine o_len (l := zs f) (.inr ⟨hf, by simp⟩) (by simp; walk_at "om") ?_
    ((with_reducible refine' wa_cons ?_; refine' we_call ?_); ((with_reducible refine' we_blt ?za27 ?zb27 ?_); (case za27 => exact rfl); (case zb27 => exact rfl)))
    refine ⟨_, rfl, by walk_at "callee", ?_⟩
    ((with_reducible refine' wa_cons ?_); walk_at "n"; (with_reducible refine' wa_nil ?_))
    refine o_len (l := zs g) (.inr ⟨hg, by simp⟩) (by simp; walk_at "om") ?_
    ((with_reducible refine' wa_cons ?_; refine' we_int ?_; refine' wa_nil ?_))
    refine ⟨by simp; walk_at "om", ?_⟩
    (with_reducible refine' wa_nil ?_)
    refine ⟨by simp; walk_at "om", fun n1 hn1 => ?_⟩
    refine o_addlist (l := ts (runsTo f g f.length)) (m := ts [((f.length : Int), (g.length : Int), 0)]) (by walk_at "has") (by simp only [List.length_map]; exact Or.inl (List.Mem.head _)) (by simp; walk_at "om") fun c hc => ?_
    (with_reducible refine' seq_ret ?_)
    refine ⟨_, .led (l' := [(c, .list (ts (lawRuns f g)))]) ?_, c, rfl, rfl⟩
    unfold lawRuns
    simp only [List.map_append]
    walk_at "sub"
end
section
open PySem PySem.W PyProof.Rows PySem.Calls
set_option Elab.async false
set_option linter.unusedVariables false
set_option maxRecDepth 10000
noncomputable def dLO : Def := { fa := 312, fd := fd312, body := bodyOf (stm 18), names := [⟨#[114,111,119]⟩, ⟨#[98,108,111,99,107,115]⟩], globs := [⟨#[101,110,117,109,101,114,97,116,101]⟩] }
theorem dLO_ok : dLO.OkC := {
  obj := fun P => ⟨_, _, _, (by kernel_rfl : (K P).lookup 312 = some ⟨.type "function", none, .func fd312, #[]⟩)⟩
  body := by kernel_rfl
  code := fun P => by kernel_rfl
  scope := by kernel_rfl
  glob := by kernel_rfl
  bi := by kernel_rfl
  clo := by kernel_rfl }
noncomputable abbrev ms (l : List Tri) : List AV := l.map (aTri (.ref 135))
noncomputable def sdOf : Nat → Tri → Int
  | 0, t => t.1
  | _, t => t.2.1
noncomputable def insideOf (side : Nat) (bs : List Tri) : List Int := bs.flatMap fun t => (List.range t.2.2.toNat).map fun i => sdOf side t + ((i : Nat) : Int)
noncomputable def outsTo (row ins : List Int) (j : Nat) : List Int := ((List.range j).filter fun i => !decide (((i : Nat) : Int) ∈ ins)).map fun i => row.getD i 0
noncomputable def small (t : Tri) : Prop := 0 ≤ t.1 ∧ t.1 ≤ 1000 ∧ 0 ≤ t.2.1 ∧ t.2.1 ≤ 1000 ∧ 0 ≤ t.2.2 ∧ t.2.2 ≤ 1000
theorem insideOf_len (side : Nat) (bs : List Tri) (h : ∀ t ∈ bs, small t) : (insideOf side bs).length ≤ bs.length * 1000 := by
  induction bs with
  | nil => simp [insideOf]
  | cons t r ih =>
    have := ih fun x hx => h x (.tail _ hx)
    obtain ⟨_, _, _, _, h1, h2⟩ := h t (.head _)
    simp only [insideOf, List.flatMap_cons, List.length_append, List.length_map, List.length_range, List.length_cons] at this ⊢
    walk_at "om"
theorem insideOf_snoc (side : Nat) (bs : List Tri) (t : Tri) : insideOf side (bs ++ [t]) = insideOf side bs ++ (List.range t.2.2.toNat).map fun i => sdOf side t + ((i : Nat) : Int) := by
  simp [insideOf]
theorem outsTo_succ (row ins : List Int) (j : Nat) : outsTo row ins (j + 1) = if ((j : Nat) : Int) ∈ ins then outsTo row ins j else outsTo row ins j ++ [row.getD j 0] := by
  unfold outsTo
  rw [List.range_succ, List.filter_append, List.map_append]
  by_cases h : ((j : Nat) : Int) ∈ ins <;> simp [h]
theorem outsTo_len (row ins : List Int) (j : Nat) : (outsTo row ins j).length ≤ j := by
  unfold outsTo
  rw [List.length_map]
  exact Nat.le_trans (List.length_filter_le _ _) (by simp)
theorem ms_get {bs : List Tri} {j : Nat} {y : AV} (h : (ms bs)[j]? = some y) : ∃ t, bs[j]? = some t ∧ y = aTri (.ref 135) t := by
  rw [List.getElem?_map] at h
  cases q : bs[j]? with
  | none => rw [q] at h; cases h
  | some t => rw [q] at h; exact ⟨t, rfl, (Option.some.inj h).symm⟩
theorem take_snocT {bs : List Tri} {j : Nat} {t : Tri} (h : bs[j]? = some t) : bs.take (j + 1) = bs.take j ++ [t] := by
  rw [List.take_add_one, h]; rfl
theorem sdOf_item (side : Nat) (hs : side < 2) (t : Tri) : [AV.int t.1, .int t.2.1, .int t.2.2][side]? = some (.int (sdOf side t)) := by
  match side, hs with
  | 0, _ => rfl
  | 1, _ => rfl
theorem sdOf_small (side : Nat) (hs : side < 2) (t : Tri) (h : small t) : 0 ≤ sdOf side t ∧ sdOf side t ≤ 1000 := by
  obtain ⟨t1, t2, t3, t4, t5, t6⟩ := h
  match side, hs with
  | 0, _ => exact ⟨t1, t2⟩
  | 1, _ => exact ⟨t3, t4⟩
set_option maxHeartbeats 1000000 in
theorem lo_c {w : World} {hT : Heap} {A : Around} {s : Shared} (C : Cx w hT A s 1) {ra ba : Addr} {side : Nat} {row : List Int} {bs : List Tri} {vs : List Value} (r : RepL s.heap [.ref ra, .ref ba, .int (side : Int)] vs) (hr : RepO w s.heap ra (.list (zs row))) (hb : RepO w s.heap ba (.list (ms bs)))
    (hside : side < 2) (hbs : ∀ t ∈ bs, small t) (hrs : row.length < 1000) (hbl : bs.length < 1000) :
    codeAny (model pw w) A (.call (.ref 312) ⟨vs, []⟩) (Ret w s [] fun y led => ∃ b, y = .ref b ∧ led = [(b, .list (zs (outsTo row (insideOf side bs) row.length)))]) s := by
  obtain ⟨v1, v2, v3, rfl, r1, r2, r3⟩ := r.inv3
  have hz := sizeLine_is
  refine enterC dLO_ok (k := 0) C (binds := [(⟨#[114,111,119]⟩, v1), (⟨#[98,108,111,99,107,115]⟩, v2), (⟨#[115,105,100,101]⟩, v3)]) (fun L => [(L + 1, .cell (some (.int (side : Int)))), (L + 2, .cell none)]) [some (.ref ra), some (.ref ba)] rfl ?_ ?_ ?_ ?_ fun L hL => ?_
  · intro z x hx
    rcases List.mem_cons.mp hx with rfl | hx
    · exact .inl (by kernel_rfl)
    · rcases List.mem_cons.mp hx with rfl | hx
      · exact .inl (by kernel_rfl)
      · rw [List.mem_singleton.mp hx]
        exact .inr ⟨by kernel_rfl, by kernel_rfl⟩
  · intro L i x av hx ha
    match i, hx, ha with
    | 0, hx, ha => cases hx; cases ha; exact ⟨v1, by kernel_rfl, r1⟩
    | 1, hx, ha => cases hx; cases ha; exact ⟨v2, by kernel_rfl, r2⟩
    | i + 2, hx, ha => simp at ha
  · intro L h mn hc p hp
    rcases List.mem_cons.mp hp with rfl | hp
    · have := hc ⟨#[115,105,100,101]⟩ (L + 1) (by kernel_rfl)
      exact ⟨some v3, this, r3.mono mn⟩
    · rw [List.mem_singleton.mp hp]
      have := hc ⟨#[105,110,115,105,100,101]⟩ (L + 2) (by kernel_rfl)
      exact ⟨none, this, trivial⟩
  · intro L
    refine ⟨by simp, fun a ha => ?_⟩
    simp at ha
    rcases ha with rfl | rfl
    · exact Nat.lt_succ_self _
    · exact Nat.lt_succ_of_lt (Nat.lt_succ_self _)
  · refine W.weak ?_
    refine ws_cons ?_
    refine ws_assign_cell (c := L + 2) (by kernel_rfl) (by kernel_rfl) ?_
    refine we_comp2 [(⟨#[115,105,100,101]⟩, L + 1)] [⟨#[112,108,97,99,101]⟩, ⟨#[98,108,111,99,107]⟩] [⟨#[114,97,110,103,101]⟩] (ms bs) 1 (fun h => RepO w h ba (.list (ms bs))) (fun _ j ys extra => extra = [] ∧ ys = zs (insideOf side (bs.take j)) ∧ j ≤ bs.length) (by kernel_rfl) (by kernel_rfl) ?_
    walk_at "n"
    refine ⟨_, starts_list (.inl ⟨_, _, rfl⟩) (.inr ⟨hb, by simp⟩), ?_, ?_⟩
    · intro C h₀ wr g os facts
      have hba := facts ba _ (.inr ⟨hb, by simp⟩)
      have hsd := facts (L + 1) (.cell (some (.int (side : Int)))) (.inl (.head _))
      refine ⟨fun σ' s' S' _ => S'.has (.inr hba), ⟨rfl, rfl, Nat.zero_le _⟩, ?_⟩
      rintro j y ys extra its D hn hy ⟨rfl, rfl, hj⟩
      obtain ⟨I, o, rfl⟩ := one_it hn
      obtain ⟨t, ht, rfl⟩ := ms_get hy
      have hj : j < bs.length := (List.getElem?_eq_some_iff.mp ht).1
      obtain ⟨t1, t2, t3, t4, t5, t6⟩ := hbs t (List.mem_of_getElem? ht)
      have hsm := sdOf_small side hside t (hbs t (List.mem_of_getElem? ht))
      refine ⟨_, binds_name rfl, ?_⟩
      ((with_reducible refine' we_call ?_); ((with_reducible refine' we_blt ?za28 ?zb28 ?_); (case za28 => exact rfl); (case zb28 => exact rfl)))
      refine ⟨_, rfl, by walk_at "callee", ?_⟩
      ((with_reducible refine' wa_cons ?_; refine' we_sub ?_); walk_at "n")
      refine we_cell (c := L + 1) (by kernel_rfl) (.inr hsd) ?_ (.inl (by kernel_rfl))
      refine o_mitem (sdOf_item side hside t) ?_ (by walk_at "om")
      ((with_reducible refine' wa_cons ?_; refine' we_bin ?_; refine' we_sub ?_); walk_at "n")
      refine we_cell (c := L + 1) (by kernel_rfl) (.inr hsd) ?_ (.inl (by kernel_rfl))
      refine o_mitem (sdOf_item side hside t) ?_ (by walk_at "om")
      ((with_reducible refine' we_sub ?_); walk_at "n"; (with_reducible refine' we_int ?_))
      refine o_mitem (k := 2) rfl ?_
      ((with_reducible refine' o_add ?_; refine' wa_nil ?_))
      refine o_range2 fun r o hr ho => ?_
      refine ⟨_, _, _, fun i ys extra => extra = [] ∧ i ≤ t.2.2.toNat ∧ ys = zs (insideOf side (bs.take j) ++ (List.range i).map fun i => sdOf side t + ((i : Nat) : Int)), [], _, starts_range (σ₂ := ⟨_, _⟩) (.head _) ho ⟨List.sublist_cons_self _ _, fun _ _ h => h⟩ (by walk_at "om") (by walk_at "om") (by walk_at "om") (by walk_at "om"), ⟨List.Sublist.refl _, fun _ _ h => absurd h nones_get⟩, ?_, ?_⟩
      · have hil := insideOf_len side (bs.take j) fun x hx => hbs x (List.mem_of_mem_take hx)
        rw [List.length_take] at hil
        refine ⟨fun _ _ _ => trivial, ⟨rfl, Nat.zero_le _, by simp⟩, ?_, ?_⟩
        · rintro i ys extra ⟨rfl, hi, rfl⟩
          simp only [List.length_map, List.length_append, List.length_range]
          walk_at "om"
        · rintro i y ys extra its hn hy ⟨rfl, hi, rfl⟩
          obtain ⟨I₂, o₂, rfl⟩ := one_it hn
          have hi2 : i < (sdOf side t + t.2.2 - sdOf side t).toNat := by have := (List.getElem?_eq_some_iff.mp hy).1; simpa using this
          obtain rfl : y = .int (sdOf side t + i) := by simp [rangeL, hi2] at hy; exact hy.symm
          refine ⟨_, binds_name rfl, ?_⟩
          walk_at "n"
          refine ⟨[], List.Sublist.refl _, fun _ _ h => absurd h nones_get, rfl, by walk_at "om", ?_⟩
          rw [List.range_succ]
          simp
      · rintro ys' extra' ⟨rfl, hi, rfl⟩
        refine ⟨rfl, ?_, hj⟩
        rw [take_snocT ht, insideOf_snoc]
        have : (rangeL (sdOf side t) (sdOf side t + t.2.2 - sdOf side t).toNat).length = t.2.2.toNat := by simp; walk_at "om"
        rw [this]
    · rintro D C ys extra ⟨rfl, rfl, _⟩ hD
      rw [List.length_map, List.take_length]
      have hil := insideOf_len side bs hbs
      generalize hin : insideOf side bs = ins at hil
      refine ⟨_, _, by walk_at "upd", ?_⟩
      ((with_reducible refine' seq_next ?_; refine' ws_cons ?_; refine' ws_return ?_))
      refine we_comp [(⟨#[105,110,115,105,100,101]⟩, L + 2)] [⟨#[112,108,97,99,101]⟩, ⟨#[110,117,109,98,101,114]⟩] [] (enumL 0 (zs row)) 2 (fun h => RepO w h ra (.list (zs row))) (fun _ j ys extra => extra = [] ∧ ys = zs (outsTo row ins j) ∧ j ≤ row.length) (by kernel_rfl) (by kernel_rfl) ?_
      ((with_reducible refine' we_call ?_); ((with_reducible refine' we_blt ?za29 ?zb29 ?_); (case za29 => exact rfl); (case zb29 => exact rfl)))
      refine ⟨_, rfl, by walk_at "callee", ?_⟩
      ((with_reducible refine' wa_cons ?_); walk_at "n"; (with_reducible refine' wa_nil ?_))
      refine o_enum (l := zs row) (.inr ⟨hr, by simp⟩) fun e it oe oi he hit hei ho => ?_
      refine ⟨_, starts_enum hei ho rfl, ?_, ?_⟩
      · intro C h₀ wr g os facts
        have hra := facts ra _ (.inr ⟨hr, by simp⟩)
        have hic := facts (L + 2) (.cell (some (.ref D))) (.inl (by walk_at "mem"))
        have hid := facts D (.list (zs ins)) (.inl (by walk_at "mem"))
        refine ⟨fun σ' s' S' _ => S'.has (.inr hra), ⟨rfl, rfl, Nat.zero_le _⟩, ?_, ?_⟩
        · rintro j ys extra ⟨_, rfl, hj⟩
          have := outsTo_len row ins j
          simp; walk_at "om"
        · rintro j y ys extra its D' hn hy ⟨rfl, rfl, hj⟩
          obtain ⟨e, oe, it, oi, rfl⟩ := two_it hn
          obtain ⟨x, hx, rfl⟩ := enumL_get _ _ _ _ hy
          have hj : j < row.length := by have := (List.getElem?_eq_some_iff.mp hx).1; simpa using this
          obtain rfl : x = .int (row.getD j 0) := by rw [zs_get hj] at hx; exact (Option.some.inj hx).symm
          rw [Nat.zero_add]
          refine ⟨_, binds_tuple (is := [0, 1]) (.cons rfl (.cons rfl .nil)) rfl, ?_⟩
          show WB _ _ _ _ _
          ((with_reducible refine' wb_cmp ?_); walk_at "n")
          refine we_cell (c := L + 2) (by kernel_rfl) (.inr hic) ?_ (.inl (by kernel_rfl))
          refine o_notin (ns := ins) (.inr hid) ⟨_, rfl, fun hb => ?_, fun hb => ?_⟩
          · walk_at "n"
            refine ⟨[], List.Sublist.refl _, fun _ _ h => absurd h nones_get, rfl, ?_, hj⟩
            rw [outsTo_succ, if_neg (by simpa using hb)]; simp
          · refine ⟨[], List.Sublist.refl _, fun _ _ h => absurd h nones_get, rfl, ?_, hj⟩
            rw [outsTo_succ, if_pos (by simpa using hb)]
      · rintro b C ys extra ⟨rfl, rfl, _⟩ hb
        rw [enumL_len, List.length_map]
        (with_reducible refine' seq_ret ?_)
        exact ⟨_, .led (l' := [(b, .list (zs (outsTo row ins row.length)))]) (by walk_at "sub"), b, rfl, rfl⟩
end
section
open PySem PySem.W PyProof.Rows PySem.Calls
set_option Elab.async false
set_option linter.unusedVariables false
set_option maxRecDepth 10000
noncomputable def dS1 : Def := { fa := 174, fd := fd174, body := bodyOf (mth 5 3), names := [⟨#[115,101,108,102]⟩, ⟨#[97]⟩], globs := [] }
theorem dS1_ok : dS1.Ok := {
  obj := fun P => ⟨_, _, _, (by kernel_rfl : (K P).lookup 174 = some ⟨.type "function", none, .func fd174, #[]⟩)⟩
  body := by kernel_rfl
  code := fun P => by kernel_rfl
  scope := by kernel_rfl
  glob := by kernel_rfl
  bi := by kernel_rfl }
noncomputable abbrev nIs : Str := ⟨#[105,115,106,117,110,107]⟩
noncomputable abbrev nA : Str := ⟨#[97]⟩
noncomputable abbrev nB : Str := ⟨#[98]⟩
noncomputable abbrev nAu : Str := ⟨#[97,117,116,111,106,117,110,107]⟩
noncomputable abbrev nMb : Str := ⟨#[109,97,116,99,104,105,110,103,95,98,108,111,99,107,115]⟩
noncomputable abbrev nOp : Str := ⟨#[111,112,99,111,100,101,115]⟩
noncomputable abbrev nFb : Str := ⟨#[102,117,108,108,98,99,111,117,110,116]⟩
noncomputable abbrev nBj : Str := ⟨#[98,50,106]⟩
noncomputable abbrev nJu : Str := ⟨#[98,106,117,110,107]⟩
noncomputable abbrev nPo : Str := ⟨#[98,112,111,112,117,108,97,114]⟩
theorem s1_c {w : World} {hT : Heap} {A : Around} {s : Shared} (C : Cx w hT A s 1) {x dx aa : Addr} {vs : List Value} (r : RepL s.heap [.ref x, .ref aa] vs) (hx : RepO w s.heap x (.obj (instObj 242 dx)))
    (hd : RepO w s.heap dx (.ns [(nIs, .none), (nA, .none), (nB, .none), (nAu, .bool true)])) (hdT : hT.get? dx = none) (hxd : x ≠ dx) :
    codeAny (model pw w) A (.call (.ref 174) ⟨vs, []⟩) (Ret w s [dx] fun y led => y = .none ∧ led = [(dx, .ns [(nIs, .none), (nA, .ref aa), (nB, .none), (nAu, .bool true), (nMb, .none), (nOp, .none)])]) s := by
  obtain ⟨v1, v2, rfl, r1, r2⟩ := r.inv2
  refine enterP dS1_ok (k := 0) C (.cons r1 (.cons r2 .nil)) rfl [(dx, .ns [(nIs, .none), (nA, .none), (nB, .none), (nAu, .bool true)])] [some (.ref x), some (.ref aa)] 0 (fun p hp => by cases List.mem_singleton.mp hp; exact ⟨hdT, rfl, hd⟩) (by simp) rfl fun L hL => ?_
  have hxm : x ∉ [dx] := by simpa using hxd
  refine ws_cons ?_
  ((with_reducible refine' ws_doc ?_; refine' seq_next ?_; refine' ws_cons ?_))
  refine ws_if ?_
  ((with_reducible refine' wb_cmp ?_); walk_at "n"; (with_reducible refine' we_attr ?_); walk_at "n")
  refine o_attr (dx := dx) (.inr ⟨hx, hxm⟩) (by walk_at "has") rfl rfl rfl ?_
  refine o_isnone_ref ⟨_, rfl, fun hb => by (cases hb), fun _ => ?_⟩
  ((with_reducible refine' ws_nil ?_; refine' seq_next ?_; refine' ws_cons ?_; refine' ws_bind1 ?_); walk_at "n")
  refine ⟨_, binds_attr (dx := dx) rfl rfl (.inr ⟨hx, hxm⟩) (by walk_at "upd") rfl (Nat.le_of_ble_eq_true rfl), ?_⟩
  ((with_reducible refine' seq_next ?_; refine' ws_cons ?_; refine' ws_bind2 ?_; refine' we_none ?_))
  refine ⟨_, binds_attr (dx := dx) rfl rfl (.inr ⟨hx, hxm⟩) (by walk_at "upd") rfl (Nat.le_of_ble_eq_true rfl), _, binds_attr (dx := dx) rfl rfl (.inr ⟨hx, hxm⟩) (by walk_at "upd") rfl (Nat.le_of_ble_eq_true rfl), ?_⟩
  ((with_reducible refine' seq_next ?_; refine' ws_nil ?_))
  exact ⟨rfl, rfl⟩
end
section
open PySem PySem.W PyProof.Rows PySem.Calls
set_option Elab.async false
set_option linter.unusedVariables false
set_option maxRecDepth 10000
noncomputable def dCB : Def := { fa := 188, fd := fd188, body := bodyOf (mth 5 5), names := [⟨#[115,101,108,102]⟩, ⟨#[98]⟩, ⟨#[98,50,106]⟩, ⟨#[105]⟩, ⟨#[101,108,116]⟩, ⟨#[105,110,100,105,99,101,115]⟩, ⟨#[106,117,110,107]⟩, ⟨#[105,115,106,117,110,107]⟩, ⟨#[112,111,112,117,108,97,114]⟩, ⟨#[110]⟩], globs := [⟨#[101,110,117,109,101,114,97,116,101]⟩, ⟨#[115,101,116]⟩, ⟨#[108,101,110]⟩] }
theorem dCB_ok : dCB.Ok := {
  obj := fun P => ⟨_, _, _, (by kernel_rfl : (K P).lookup 188 = some ⟨.type "function", none, .func fd188, #[]⟩)⟩
  body := by kernel_rfl
  code := fun P => by kernel_rfl
  scope := by kernel_rfl
  glob := by kernel_rfl
  bi := by kernel_rfl }
section
variable {F : Fx} {E : Value → Shared → Prop} {σ : Sig}
theorem o_set0 {Q : AV → Sig → Prop} (h : ∀ a, a ∉ σ.led.map (·.1) → Q (.ref a) ⟨σ.vals, (a, .set0) :: σ.led⟩) : WOL F E Rep (fun vs => call (.type "set") vs) [] σ Q := by
  rintro s vs S r
  cases r
  refine call_set_0 fun ld => ?_
  have hk := push_keep s.heap { cls := .type "set", dict := none, data := .set #[] 0 (.fresh 0 0 ld) }
  exact ⟨_, _, .ref _, S.alloc (tk := s.toks) hk (size_none _) (o := .set0) ⟨_, _, Heap.get?_push_size _ rfl⟩, .of_keep hk, h _ (not_led S (size_none _))⟩
theorem St.perm {v : List (Option AV)} {l l' : List (Addr × AO)} {s : Shared} (S : St F ⟨v, l⟩ s) (p : l.Perm l') : St F ⟨v, l'⟩ s :=
  ⟨S.ok, S.ns, fun q hq => S.rep q (p.mem_iff.mpr hq), (List.Perm.cons _ (p.map _)).nodup_iff.mp S.nd, fun a ha => S.new a ((p.map _).mem_iff.mpr ha), S.Lnew, S.keep, S.gens, S.os, fun b hb => ⟨fun q => (S.fr b hb).1 ((p.map _).mem_iff.mpr q), (S.fr b hb).2⟩, S.mb⟩
theorem W.perm {α β : Type} {R : Heap → β → α → Prop} {t : Sem α} {v : List (Option AV)} {l : List (Addr × AO)} (l' : List (Addr × AO)) {Q : β → Sig → Prop} (p : l.Perm l') (h : W F E R t ⟨v, l'⟩ Q) : W F E R t ⟨v, l⟩ Q := fun s S => h s (S.perm p)
end
/-- the lists of the places -/
noncomputable def placeLed : Nat → List Addr → List (Addr × AO)
  | _, [] => []
  | i, a :: r => (a, .list [.int i]) :: placeLed (i + 1) r
theorem placeLed_snoc : ∀ (ads : List Addr) (i : Nat) (a : Addr), placeLed i (ads ++ [a]) = placeLed i ads ++ [(a, .list [.int ((i + ads.length : Nat) : Int)])]
  | [], i, a => by simp [placeLed]
  | b :: r, i, a => by
    have e : i + 1 + r.length = i + (r.length + 1) := by walk_at "om"
    simp only [List.cons_append, placeLed, placeLed_snoc r (i + 1) a, List.length_cons, e]
noncomputable def b2jOf (b : List Int) (ads : List Addr) : List (Int × AV) := b.zip (ads.map AV.ref)
theorem getI_none {k : Int} : ∀ {es : List (Int × AV)}, k ∉ es.map (·.1) → getI k es = none
  | [], _ => rfl
  | (i, x) :: r, h => by
    unfold getI
    have h1 : i ≠ k := fun e => h (by simp [e])
    rw [if_neg h1]
    exact getI_none fun q => h (by simp at q ⊢; exact .inr q)
theorem b2jOf_keys (b : List Int) (ads : List Addr) (h : ads.length = b.length) : (b2jOf b ads).map (·.1) = b := by
  unfold b2jOf
  rw [List.map_fst_zip]
  simp [h]
theorem b2jOf_snoc (b : List Int) (ads : List Addr) (h : ads.length = b.length) (x : Int) (a : Addr) : b2jOf (b ++ [x]) (ads ++ [a]) = b2jOf b ads ++ [(x, .ref a)] := by
  unfold b2jOf
  rw [List.map_append, List.zip_append (by simp [h])]
  rfl
theorem rev4 (a b c d : Addr × AO) (P : List (Addr × AO)) : (a :: b :: c :: d :: P).Perm (d :: c :: b :: a :: P) := ((List.reverse_perm [a, b, c, d]).symm).append_right P
set_option maxHeartbeats 1000000 in
theorem cb_c {w : World} {hT : Heap} {A : Around} {s : Shared} (C : Cx w hT A s 1) {x dx aa ba : Addr} {b : List Int} {vs : List Value} (r : RepL s.heap [.ref x] vs) (hx : RepO w s.heap x (.obj (instObj 242 dx)))
    (hd : RepO w s.heap dx (.ns [(nIs, .none), (nA, .ref aa), (nB, .ref ba), (nAu, .bool true), (nMb, .none), (nOp, .none), (nFb, .none)])) (hdT : hT.get? dx = none) (hxd : x ≠ dx) (hb : RepO w s.heap ba (.list (zs b))) (hbd : ba ≠ dx) (hnd : b.Nodup) (hbl : b.length < 100) :
    codeAny (model pw w) A (.call (.ref 188) ⟨vs, []⟩) (Ret w s [dx] fun y led => y = .none ∧ ∃ d j p ads, ads.length = b.length ∧ led = [(dx, .ns [(nIs, .none), (nA, .ref aa), (nB, .ref ba), (nAu, .bool true), (nMb, .none), (nOp, .none), (nFb, .none), (nBj, .ref d), (nJu, .ref j), (nPo, .ref p)]), (d, .dict (b2jOf b ads)), (j, .set0), (p, .set0)] ++ placeLed 0 ads) s := by
  obtain ⟨v1, rfl, r1⟩ := r.inv1
  refine enterP dCB_ok (k := 0) C (.cons r1 .nil) rfl [(dx, .ns [(nIs, .none), (nA, .ref aa), (nB, .ref ba), (nAu, .bool true), (nMb, .none), (nOp, .none), (nFb, .none)])] [some (.ref x), none, none, none, none, none, none, none, none, none] 9 (fun p hp => by cases List.mem_singleton.mp hp; exact ⟨hdT, rfl, hd⟩) (by simp) rfl fun L hL => ?_
  have hz := sizeLine_is
  have hxm : x ∉ [dx] := by simpa using hxd
  have hbm : ba ∉ [dx] := by simpa using hbd
  refine ws_cons ?_
  (((with_reducible refine' ws_assign ?za30 ?_); (case za30 => exact rfl)); (with_reducible refine' we_attr ?_); walk_at "n")
  refine o_attr (dx := dx) (.inr ⟨hx, hxm⟩) (by walk_at "has") rfl rfl rfl ?_
  ((with_reducible refine' seq_next ?_; refine' ws_cons ?_; refine' ws_bind2 ?_; refine' we_dict0 ?_))
  intro d hd'
  refine ⟨_, binds_attr (dx := dx) rfl rfl (.inr ⟨hx, hxm⟩) (by walk_at "upd") rfl (Nat.le_of_ble_eq_true rfl), _, binds_name rfl, ?_⟩
  ((with_reducible refine' seq_next ?_; refine' ws_cons ?_))
  refine ws_for (enumL 0 (zs b)) 2 (fun h => RepO w h ba (.list (zs b))) (fun i σ => i ≤ b.length ∧ ∃ o1 o2 o3 ads, ads.length = i ∧ σ = ⟨[some (.ref x), some (.ref ba), some (.ref d), o1, o2, o3, none, none, none, none], [(d, .dict (b2jOf (b.take i) ads)), (dx, .ns [(nIs, .none), (nA, .ref aa), (nB, .ref ba), (nAu, .bool true), (nMb, .none), (nOp, .none), (nFb, .none), (nBj, .ref d)])] ++ placeLed 0 ads⟩) ?_ (ro_has fun _ _ _ => .inr ⟨hb, hbm⟩) ?_ ?_
  · ((with_reducible refine' we_call ?_); ((with_reducible refine' we_blt ?za31 ?zb31 ?_); (case za31 => exact rfl); (case zb31 => exact rfl)))
    refine ⟨_, rfl, by walk_at "callee", ?_⟩
    ((with_reducible refine' wa_cons ?_); walk_at "n"; (with_reducible refine' wa_nil ?_))
    refine o_enum (l := zs b) (.inr ⟨hb, hbm⟩) fun e it oe oi he hit hei ho => ?_
    exact ⟨_, starts_enum hei ho rfl, Nat.zero_le _, none, none, none, [], rfl, rfl⟩
  · rintro i y σ₁ its hn hy ⟨hi, o1, o2, o3, ads, hads, rfl⟩ hni
    obtain ⟨e, oe, it, oi, rfl⟩ := two_it hn
    obtain ⟨z, hz', rfl⟩ := enumL_get _ _ _ _ hy
    have hi : i < b.length := by have := (List.getElem?_eq_some_iff.mp hz').1; simpa using this
    obtain rfl : z = .int (b.getD i 0) := by rw [zs_get hi] at hz'; exact (Option.some.inj hz').symm
    rw [Nat.zero_add]
    refine ⟨_, binds_tuple (is := [3, 4]) (.cons rfl (.cons rfl .nil)) rfl, ?_⟩
    generalize hxx : b.getD i 0 = k
    have htl : ads.length = (b.take i).length := by rw [List.length_take]; walk_at "om"
    have hkn : k ∉ b.take i := by
      intro hk
      obtain ⟨m, hm, e⟩ := List.getElem_of_mem hk
      rw [List.length_take] at hm
      have h1 : b[m]'(by walk_at "om") = b[i] := by
        rw [List.getElem_take] at e
        rw [e, ← hxx]; simp [List.getD, hi]
      have := (List.getElem_inj hnd).mp h1
      walk_at "om"
    have hgn : getI k (b2jOf (b.take i) ads) = none := getI_none (by rw [b2jOf_keys _ _ htl]; exact hkn)
    have hlen : (b2jOf (b.take i) ads).length ≤ 100 := by unfold b2jOf; rw [List.length_zip, List.length_take]; walk_at "om"
    ((with_reducible refine' ws_cons ?_); ((with_reducible refine' ws_assign ?za32 ?_); (case za32 => exact rfl)); (with_reducible refine' we_dict_setdefault ?_); walk_at "n")
    refine ⟨typeB_dict (by walk_at "has"), ?_⟩
    ((with_reducible refine' wa_cons ?_); walk_at "n"; (with_reducible refine' wa_cons ?_; refine' we_list ?_; refine' wa_nil ?_))
    refine ⟨by simp, fun c hc => ?_⟩
    (with_reducible refine' wa_nil ?_)
    refine o_setdefault_new (by walk_at "upd") hgn (by walk_at "om") ?_
    ((with_reducible refine' seq_next ?_; refine' ws_cons ?_; refine' ws_expr ?_; refine' we_list_append ?_); walk_at "n")
    refine ⟨typeB_list (l := []) (by walk_at "has"), ?_⟩
    ((with_reducible refine' wa_cons ?_); walk_at "n"; (with_reducible refine' wa_nil ?_))
    refine o_append (l := []) (by walk_at "upd") (by simp) ⟨rfl, ?_⟩
    refine seq_next ?_
    refine W.perm _ (List.perm_append_singleton _ _).symm ?_
    (with_reducible refine' ws_nil ?_)
    refine ⟨_, [(d, .dict (b2jOf (b.take (i + 1)) (ads ++ [c]))), (dx, .ns [(nIs, .none), (nA, .ref aa), (nB, .ref ba), (nAu, .bool true), (nMb, .none), (nOp, .none), (nFb, .none), (nBj, .ref d)])] ++ placeLed 0 (ads ++ [c]), ?_, fun _ _ h => h, hi, some (.int i), some (.int k), some (.ref c), ads ++ [c], by simp [hads], rfl⟩
    have e1 : b2jOf (b.take (i + 1)) (ads ++ [c]) = putI k (.ref c) (b2jOf (b.take i) ads) := by
      unfold putI
      rw [hgn, take_snoc hi, hxx, b2jOf_snoc _ _ htl]
      rfl
    rw [e1, placeLed_snoc, Nat.zero_add, hads]
    exact List.Sublist.refl _
  · rintro σ₁ ⟨hi, o1, o2, o3, ads, hads, rfl⟩
    rw [enumL_len, List.length_map] at hads ⊢
    rw [List.take_length]
    ((with_reducible refine' seq_next ?_; refine' ws_cons ?_; refine' ws_bind2 ?_; refine' we_call ?_); ((with_reducible refine' we_blt ?za33 ?zb33 ?_); (case za33 => exact rfl); (case zb33 => exact rfl)))
    refine ⟨_, rfl, by walk_at "callee", ?_⟩
    (with_reducible refine' wa_nil ?_)
    refine o_set0 fun j hj => ?_
    refine ⟨_, binds_attr (dx := dx) rfl rfl (.inr ⟨hx, hxm⟩) (by walk_at "upd") rfl (Nat.le_of_ble_eq_true rfl), _, binds_name rfl, ?_⟩
    ((with_reducible refine' seq_next ?_; refine' ws_cons ?_); ((with_reducible refine' ws_assign ?za34 ?_); (case za34 => exact rfl)); (with_reducible refine' we_attr ?_); walk_at "n")
    refine o_attr (dx := dx) (.inr ⟨hx, hxm⟩) (by walk_at "has") rfl rfl rfl ?_
    ((with_reducible refine' seq_next ?_; refine' ws_cons ?_))
    refine ws_if ?_
    ((with_reducible refine' wb_plain ?_); walk_at "n")
    refine o_true_none ⟨fun hb => by (cases hb), fun _ => ?_⟩
    ((with_reducible refine' ws_nil ?_; refine' seq_next ?_; refine' ws_cons ?_; refine' ws_bind2 ?_; refine' we_call ?_); ((with_reducible refine' we_blt ?za35 ?zb35 ?_); (case za35 => exact rfl); (case zb35 => exact rfl)))
    refine ⟨_, rfl, by walk_at "callee", ?_⟩
    (with_reducible refine' wa_nil ?_)
    refine o_set0 fun p hp => ?_
    refine ⟨_, binds_attr (dx := dx) rfl rfl (.inr ⟨hx, hxm⟩) (by walk_at "upd") rfl (Nat.le_of_ble_eq_true rfl), _, binds_name rfl, ?_⟩
    ((with_reducible refine' seq_next ?_; refine' ws_cons ?_); ((with_reducible refine' ws_assign ?za36 ?_); (case za36 => exact rfl)); (with_reducible refine' we_call ?_); ((with_reducible refine' we_blt ?za37 ?zb37 ?_); (case za37 => exact rfl); (case zb37 => exact rfl)))
    refine ⟨_, rfl, by walk_at "callee", ?_⟩
    ((with_reducible refine' wa_cons ?_); walk_at "n"; (with_reducible refine' wa_nil ?_))
    refine o_len (l := zs b) (.inr ⟨hb, hbm⟩) (by simp; walk_at "om") ?_
    ((with_reducible refine' seq_next ?_; refine' ws_cons ?_))
    refine ws_if ?_
    ((with_reducible refine' wb_and ?_; refine' wb_plain ?_; refine' we_attr ?_); walk_at "n")
    refine o_attr (dx := dx) (.inr ⟨hx, hxm⟩) (by walk_at "has") rfl rfl rfl ?_
    refine o_true_bool ⟨fun _ => ?_, fun hb => by (cases hb)⟩
    ((with_reducible refine' wb_and ?_; refine' wb_cmp ?_); walk_at "n"; (with_reducible refine' we_int ?_; refine' o_ge ?_))
    refine ⟨_, rfl, fun hb => by simp at hb; walk_at "om", fun hb => ?_⟩
    refine ⟨fun hf => by (cases hf), fun _ => ?_⟩
    refine ws_nil ?_
    refine seq_next ?_
    refine W.perm _ (rev4 _ _ _ _ _) ?_
    refine ws_nil ?_
    exact ⟨rfl, d, j, p, ads, hads, rfl⟩
end
section
open PySem PySem.W PyProof.Rows PySem.Calls
set_option Elab.async false
set_option linter.unusedVariables false
set_option maxRecDepth 10000
noncomputable def dS2 : Def := { fa := 181, fd := fd181, body := bodyOf (mth 5 4), names := [⟨#[115,101,108,102]⟩, ⟨#[98]⟩], globs := [] }
theorem dS2_ok : dS2.Ok := {
  obj := fun P => ⟨_, _, _, (by kernel_rfl : (K P).lookup 181 = some ⟨.type "function", none, .func fd181, #[]⟩)⟩
  body := by kernel_rfl
  code := fun P => by kernel_rfl
  scope := by kernel_rfl
  glob := by kernel_rfl
  bi := by kernel_rfl }
noncomputable def dSS : Def := { fa := 167, fd := fd167, body := bodyOf (mth 5 2), names := [⟨#[115,101,108,102]⟩, ⟨#[97]⟩, ⟨#[98]⟩], globs := [] }
theorem dSS_ok : dSS.Ok := {
  obj := fun P => ⟨_, _, _, (by kernel_rfl : (K P).lookup 167 = some ⟨.type "function", none, .func fd167, #[]⟩)⟩
  body := by kernel_rfl
  code := fun P => by kernel_rfl
  scope := by kernel_rfl
  glob := by kernel_rfl
  bi := by kernel_rfl }
noncomputable abbrev smFields (aa ba d j p : Addr) : List (Str × AV) := [(nIs, .none), (nA, .ref aa), (nB, .ref ba), (nAu, .bool true), (nMb, .none), (nOp, .none), (nFb, .none), (nBj, .ref d), (nJu, .ref j), (nPo, .ref p)]
theorem s2_c {w : World} {hT : Heap} {A : Around} {s : Shared} (C : Cx w hT A s 2) {x dx aa ba : Addr} {b : List Int} {vs : List Value} (r : RepL s.heap [.ref x, .ref ba] vs) (hx : RepO w s.heap x (.obj (instObj 242 dx)))
    (hd : RepO w s.heap dx (.ns [(nIs, .none), (nA, .ref aa), (nB, .none), (nAu, .bool true), (nMb, .none), (nOp, .none)])) (hdT : hT.get? dx = none) (hxd : x ≠ dx) (hb : RepO w s.heap ba (.list (zs b))) (hbd : ba ≠ dx) (hnd : b.Nodup) (hbl : b.length < 100) :
    codeAny (model pw w) A (.call (.ref 181) ⟨vs, []⟩) (Ret w s [dx] fun y led => y = .none ∧ ∃ d j p ads, ads.length = b.length ∧ led = [(dx, .ns (smFields aa ba d j p)), (d, .dict (b2jOf b ads)), (j, .set0), (p, .set0)] ++ placeLed 0 ads) s := by
  obtain ⟨v1, v2, rfl, r1, r2⟩ := r.inv2
  refine enterP dS2_ok (k := 1) C (.cons r1 (.cons r2 .nil)) rfl [(dx, .ns [(nIs, .none), (nA, .ref aa), (nB, .none), (nAu, .bool true), (nMb, .none), (nOp, .none)])] [some (.ref x), some (.ref ba)] 0 (fun p hp => by cases List.mem_singleton.mp hp; exact ⟨hdT, rfl, hd⟩) (by simp) rfl fun L hL => ?_
  have hxm : x ∉ [dx] := by simpa using hxd
  have hbm : ba ∉ [dx] := by simpa using hbd
  refine ws_cons ?_
  ((with_reducible refine' ws_doc ?_; refine' seq_next ?_; refine' ws_cons ?_))
  refine ws_if ?_
  ((with_reducible refine' wb_cmp ?_); walk_at "n"; (with_reducible refine' we_attr ?_); walk_at "n")
  refine o_attr (dx := dx) (.inr ⟨hx, hxm⟩) (by walk_at "has") rfl rfl rfl ?_
  refine o_isnone_ref ⟨_, rfl, fun hb => by (cases hb), fun _ => ?_⟩
  ((with_reducible refine' ws_nil ?_; refine' seq_next ?_; refine' ws_cons ?_; refine' ws_bind1 ?_); walk_at "n")
  refine ⟨_, binds_attr (dx := dx) rfl rfl (.inr ⟨hx, hxm⟩) (by walk_at "upd") rfl (Nat.le_of_ble_eq_true rfl), ?_⟩
  ((with_reducible refine' seq_next ?_; refine' ws_cons ?_; refine' ws_bind2 ?_; refine' we_none ?_))
  refine ⟨_, binds_attr (dx := dx) rfl rfl (.inr ⟨hx, hxm⟩) (by walk_at "upd") rfl (Nat.le_of_ble_eq_true rfl), _, binds_attr (dx := dx) rfl rfl (.inr ⟨hx, hxm⟩) (by walk_at "upd") rfl (Nat.le_of_ble_eq_true rfl), ?_⟩
  ((with_reducible refine' seq_next ?_; refine' ws_cons ?_; refine' ws_bind1 ?_; refine' we_none ?_))
  refine ⟨_, binds_attr (dx := dx) rfl rfl (.inr ⟨hx, hxm⟩) (by walk_at "upd") rfl (Nat.le_of_ble_eq_true rfl), ?_⟩
  refine seq_next ?_
  refine ws_cons ?_
  refine ws_expr ?_
  refine we_mcall (f := 188) rfl ?_
  walk_at "n"
  refine ⟨x, dx, [(nIs, .none), (nA, .ref aa), (nB, .ref ba), (nAu, .bool true), (nMb, .none), (nOp, .none), (nFb, .none)], rfl, .inr ⟨hx, hxm⟩, by walk_at "has", rfl, ?_⟩
  (with_reducible refine' wa_nil ?_)
  refine wol_call (mods := [dx]) (Qf := fun y led => y = .none ∧ ∃ d j p ads, ads.length = b.length ∧ led = [(dx, .ns (smFields aa ba d j p)), (d, .dict (b2jOf b ads)), (j, .set0), (p, .set0)] ++ placeLed 0 ads) (fun a ha => by rw [List.mem_singleton.mp ha]; exact .head _) (fun s' vs' S' r' => ?_) ?_
  · exact cb_c (S'.cxUp 1) r' (S'.has (.inr ⟨hx, hxm⟩)) (S'.has (.inl (.head _))) hdT hxd (S'.has (.inr ⟨hb, hbm⟩)) hbd hnd hbl
  · rintro y led' ⟨rfl, d, j, p, ads, hads, rfl⟩ nd _
    refine ⟨_, fun q hq => .inl hq, nd, rfl, ?_⟩
    ((with_reducible refine' seq_next ?_; refine' ws_nil ?_))
    exact ⟨rfl, d, j, p, ads, hads, rfl⟩
theorem ss_c {w : World} {hT : Heap} {A : Around} {s : Shared} (C : Cx w hT A s 3) {x dx aa ba : Addr} {b : List Int} {vs : List Value} (r : RepL s.heap [.ref x, .ref aa, .ref ba] vs) (hx : RepO w s.heap x (.obj (instObj 242 dx)))
    (hd : RepO w s.heap dx (.ns [(nIs, .none), (nA, .none), (nB, .none), (nAu, .bool true)])) (hdT : hT.get? dx = none) (hxd : x ≠ dx) (hb : RepO w s.heap ba (.list (zs b))) (hbd : ba ≠ dx) (hnd : b.Nodup) (hbl : b.length < 100) :
    codeAny (model pw w) A (.call (.ref 167) ⟨vs, []⟩) (Ret w s [dx] fun y led => y = .none ∧ ∃ d j p ads, ads.length = b.length ∧ led = [(dx, .ns (smFields aa ba d j p)), (d, .dict (b2jOf b ads)), (j, .set0), (p, .set0)] ++ placeLed 0 ads) s := by
  obtain ⟨v1, v2, v3, rfl, r1, r2, r3⟩ := r.inv3
  refine enterP dSS_ok (k := 2) C (.cons r1 (.cons r2 (.cons r3 .nil))) rfl [(dx, .ns [(nIs, .none), (nA, .none), (nB, .none), (nAu, .bool true)])] [some (.ref x), some (.ref aa), some (.ref ba)] 0 (fun p hp => by cases List.mem_singleton.mp hp; exact ⟨hdT, rfl, hd⟩) (by simp) rfl fun L hL => ?_
  have hxm : x ∉ [dx] := by simpa using hxd
  have hbm : ba ∉ [dx] := by simpa using hbd
  refine ws_cons ?_
  (with_reducible refine' ws_doc ?_)
  refine seq_next ?_
  refine ws_cons ?_
  refine ws_expr ?_
  refine we_mcall (f := 174) rfl ?_
  walk_at "n"
  refine ⟨x, dx, [(nIs, .none), (nA, .none), (nB, .none), (nAu, .bool true)], rfl, .inr ⟨hx, hxm⟩, by walk_at "has", rfl, ?_⟩
  ((with_reducible refine' wa_cons ?_); walk_at "n"; (with_reducible refine' wa_nil ?_))
  refine wol_call_upd (x := .none) (o' := .ns [(nIs, .none), (nA, .ref aa), (nB, .none), (nAu, .bool true), (nMb, .none), (nOp, .none)]) Upd.head (fun s' vs' S' r' => ?_) ⟨rfl, ?_⟩
  · exact s1_c (S'.cxUp 1) r' (S'.has (.inr ⟨hx, hxm⟩)) (S'.has (.inl (.head _))) hdT hxd
  refine seq_next ?_
  refine ws_cons ?_
  refine ws_expr ?_
  refine we_mcall (f := 181) rfl ?_
  walk_at "n"
  refine ⟨x, dx, [(nIs, .none), (nA, .ref aa), (nB, .none), (nAu, .bool true), (nMb, .none), (nOp, .none)], rfl, .inr ⟨hx, hxm⟩, by walk_at "has", rfl, ?_⟩
  ((with_reducible refine' wa_cons ?_); walk_at "n"; (with_reducible refine' wa_nil ?_))
  refine wol_call (mods := [dx]) (Qf := fun y led => y = .none ∧ ∃ d j p ads, ads.length = b.length ∧ led = [(dx, .ns (smFields aa ba d j p)), (d, .dict (b2jOf b ads)), (j, .set0), (p, .set0)] ++ placeLed 0 ads) (fun a ha => by rw [List.mem_singleton.mp ha]; exact .head _) (fun s' vs' S' r' => ?_) ?_
  · exact s2_c (S'.cxUp 2) r' (S'.has (.inr ⟨hx, hxm⟩)) (S'.has (.inl (.head _))) hdT hxd (S'.has (.inr ⟨hb, hbm⟩)) hbd hnd hbl
  · rintro y led' ⟨rfl, d, j, p, ads, hads, rfl⟩ nd _
    refine ⟨_, fun q hq => .inl hq, nd, rfl, ?_⟩
    ((with_reducible refine' seq_next ?_; refine' ws_nil ?_))
    exact ⟨rfl, d, j, p, ads, hads, rfl⟩
end
section
open PySem PySem.W PyProof.Rows PySem.Calls
set_option Elab.async false
set_option linter.unusedVariables false
set_option maxRecDepth 10000
noncomputable def dIN : Def := { fa := 160, fd := fd160, body := bodyOf (mth 5 1), names := [⟨#[115,101,108,102]⟩, ⟨#[105,115,106,117,110,107]⟩, ⟨#[97]⟩, ⟨#[98]⟩, ⟨#[97,117,116,111,106,117,110,107]⟩], globs := [] }
theorem dIN_ok : dIN.Ok := {
  obj := fun P => ⟨_, _, _, (by kernel_rfl : (K P).lookup 160 = some ⟨.type "function", none, .func fd160, #[]⟩)⟩
  body := by kernel_rfl
  code := fun P => by kernel_rfl
  scope := by kernel_rfl
  glob := by kernel_rfl
  bi := by kernel_rfl }
theorem init_c {w : World} {hT : Heap} {A : Around} {s : Shared} (C : Cx w hT A s 4) {x dx aa ba : Addr} {b : List Int} {vs : List Value} (r : RepL s.heap [.ref x, .none, .ref aa, .ref ba] vs) (hx : RepO w s.heap x (.obj (instObj 242 dx)))
    (hd : RepO w s.heap dx (.ns [])) (hdT : hT.get? dx = none) (hxd : x ≠ dx) (hb : RepO w s.heap ba (.list (zs b))) (hbd : ba ≠ dx) (hnd : b.Nodup) (hbl : b.length < 100) :
    codeAny (model pw w) A (.call (.ref 160) ⟨vs, []⟩) (Ret w s [dx] fun y led => y = .none ∧ ∃ d j p ads, ads.length = b.length ∧ led = [(dx, .ns (smFields aa ba d j p)), (d, .dict (b2jOf b ads)), (j, .set0), (p, .set0)] ++ placeLed 0 ads) s := by
  cases r with | cons r1 r => ?_
  obtain ⟨v2, v3, v4, rfl, r2, r3, r4⟩ := r.inv3
  refine enterD dIN_ok (k := 3) C (vs' := [_, v2, v3, v4, .bool true]) (.cons r1 (.cons r2 (.cons r3 (.cons r4 (.cons (.bool true) .nil))))) (kp_binds (C.top.kin.keeps C.ht) fun S => by kernel_rfl) [(dx, .ns [])] [some (.ref x), some .none, some (.ref aa), some (.ref ba), some (.bool true)] 0 (fun p hp => by cases List.mem_singleton.mp hp; exact ⟨hdT, rfl, hd⟩) (by simp) rfl fun L hL => ?_
  have hxm : x ∉ [dx] := by simpa using hxd
  have hbm : ba ∉ [dx] := by simpa using hbd
  refine ws_cons ?_
  ((with_reducible refine' ws_doc ?_; refine' seq_next ?_; refine' ws_cons ?_; refine' ws_bind1 ?_); walk_at "n")
  refine ⟨_, binds_attr (dx := dx) rfl rfl (.inr ⟨hx, hxm⟩) (by walk_at "upd") rfl (Nat.le_of_ble_eq_true rfl), ?_⟩
  ((with_reducible refine' seq_next ?_; refine' ws_cons ?_; refine' ws_bind2 ?_; refine' we_none ?_))
  refine ⟨_, binds_attr (dx := dx) rfl rfl (.inr ⟨hx, hxm⟩) (by walk_at "upd") rfl (Nat.le_of_ble_eq_true rfl), _, binds_attr (dx := dx) rfl rfl (.inr ⟨hx, hxm⟩) (by walk_at "upd") rfl (Nat.le_of_ble_eq_true rfl), ?_⟩
  ((with_reducible refine' seq_next ?_; refine' ws_cons ?_; refine' ws_bind1 ?_); walk_at "n")
  refine ⟨_, binds_attr (dx := dx) rfl rfl (.inr ⟨hx, hxm⟩) (by walk_at "upd") rfl (Nat.le_of_ble_eq_true rfl), ?_⟩
  refine seq_next ?_
  refine ws_cons ?_
  refine ws_expr ?_
  refine we_mcall (f := 167) rfl ?_
  walk_at "n"
  refine ⟨x, dx, [(nIs, .none), (nA, .none), (nB, .none), (nAu, .bool true)], rfl, .inr ⟨hx, hxm⟩, by walk_at "has", rfl, ?_⟩
  ((with_reducible refine' wa_cons ?_); walk_at "n"; (with_reducible refine' wa_cons ?_); walk_at "n"; (with_reducible refine' wa_nil ?_))
  refine wol_call (mods := [dx]) (Qf := fun y led => y = .none ∧ ∃ d j p ads, ads.length = b.length ∧ led = [(dx, .ns (smFields aa ba d j p)), (d, .dict (b2jOf b ads)), (j, .set0), (p, .set0)] ++ placeLed 0 ads) (fun a ha => by rw [List.mem_singleton.mp ha]; exact .head _) (fun s' vs' S' r' => ?_) ?_
  · exact ss_c (S'.cxUp 3) r' (S'.has (.inr ⟨hx, hxm⟩)) (S'.has (.inl (.head _))) hdT hxd (S'.has (.inr ⟨hb, hbm⟩)) hbd hnd hbl
  · rintro y led' ⟨rfl, d, j, p, ads, hads, rfl⟩ nd _
    refine ⟨_, fun q hq => .inl hq, nd, rfl, ?_⟩
    ((with_reducible refine' seq_next ?_; refine' ws_nil ?_))
    exact ⟨rfl, d, j, p, ads, hads, rfl⟩
end
section
open PySem PySem.W PyProof.Rows PySem.Calls
set_option Elab.async false
set_option linter.unusedVariables false
set_option maxRecDepth 10000
section
variable {w : World} {A : Around} {E : Value → Shared → Prop} {s : Shared} {a : Addr} {dd : Option Addr} {vs : Array Value} {n : Nat} {sl : Array (Option Value)}
theorem mt_len {Q : Value → Shared → Prop} (X : (K w.params).In s.heap) (o : s.heap.get? a = some ⟨.ref 135, dd, .seq vs n, sl⟩) (hfit : (vs.size : Int) < 2 ^ 63) (h : Q (.int vs.size (s.toks + 1)) { s with toks := s.toks + 1 + 1 }) :
    wpAny (model pw w) A (call (.builtin "len") [.ref a]) Q E s := by
  refine call_function_entry kind_len plain_len entry_len (args_len1 _) ?_
  unfold Builtin.«len»
  refine wpAny_bind (m := oneArg "len" _) (wpAny_pure ?_)
  refine wpAny_bind (m := callSpecial? (.ref a) (Str.ofString "__len__")) (sub_special X (mt_type o) (mt_f_len _) PySem.F.slot_tuple_len.bind (sub_call (owner := "tuple") (nn := "__len__") (by decide +kernel) PySem.F.entry_tuple_len (by decide +kernel) (by decide +kernel) (mt_inst X o) (PySem.F.args_tuple_len_1 _) ?_))
  show wpAny _ _ (do retInt (← Builtin.Tuple.tupleItemsOf (.ref a)).size) _ _ s
  refine wpAny_bind (wpAny_tupleItemsOf o rfl (wpAny_bind (wpAny_mkInt (wpAny_pure ⟨_, rfl, ?_⟩))))
  refine wpAny_bind (wpAny_holding (wpAny_pure ?_))
  refine wpAny_bind (wpAny_letGo ?_)
  show wpAny _ _ (if (vs.size : Int) < 0 then _ else _) _ _ _
  rw [if_neg (by walk_at "om")]
  show wpAny _ _ (if (vs.size : Int) ≥ 2 ^ 63 then _ else _) _ _ _
  rw [if_neg (by walk_at "om")]
  exact wpAny_bind (wpAny_mkInt (wpAny_pure ⟨_, rfl, h⟩))
end
section
variable {F : Fx} {E : Value → Shared → Prop} {σ : Sig}
theorem o_mlen {l : List AV} {Q : AV → Sig → Prop} (hsz : l.length ≤ sizeLine) (h : Q (.int l.length) σ) : WOL F E Rep (fun vs => call (.builtin "len") vs) [.tup (.ref 135) l] σ Q := by
  rintro s vs S r
  obtain ⟨v, rfl, r1⟩ := r.inv1
  cases r1 with
  | @tup _ _ a dd ws n hc hd e hl kk =>
    refine mt_len S.inK e ?_ ?_
    · rw [List.size_toArray, ← hl]; have : sizeLine = 16777216 := rfl; walk_at "om"
    · rw [List.size_toArray, ← hl]; exact .here S (.int _ _) h
end
theorem sz3 : 3 ≤ sizeLine := by decide
noncomputable def dNW : Def := { fa := 82, fd := fd82, body := bodyOf (mth 3 4), names := [⟨#[95,99,108,115]⟩, ⟨#[97]⟩, ⟨#[98]⟩, ⟨#[115,105,122,101]⟩], globs := [⟨#[116,117,112,108,101]⟩] }
theorem dNW_ok : dNW.Ok := {
  obj := fun P => ⟨_, _, _, (by kernel_rfl : (K P).lookup 82 = some ⟨.type "function", none, .func fd82, #[]⟩)⟩
  body := by kernel_rfl
  code := fun P => by kernel_rfl
  scope := by kernel_rfl
  glob := by kernel_rfl
  bi := by kernel_rfl }
noncomputable def dMK : Def := { fa := 89, fd := fd89, body := bodyOf (mth 3 5), names := [⟨#[99,108,115]⟩, ⟨#[105,116,101,114,97,98,108,101]⟩, ⟨#[114,101,115,117,108,116]⟩], globs := [⟨#[116,117,112,108,101]⟩, ⟨#[108,101,110]⟩] }
theorem dMK_ok : dMK.Ok := {
  obj := fun P => ⟨_, _, _, (by kernel_rfl : (K P).lookup 89 = some ⟨.type "function", none, .func fd89, #[]⟩)⟩
  body := by kernel_rfl
  code := fun P => by kernel_rfl
  scope := by kernel_rfl
  glob := by kernel_rfl
  bi := by kernel_rfl }
theorem nw_c {w : World} {hT : Heap} {A : Around} {s : Shared} (C : Cx w hT A s 1) {t : Tri} {vs : List Value} (r : RepL s.heap [.raw (.ref 135), .int t.1, .int t.2.1, .int t.2.2] vs) :
    codeAny (model pw w) A (.call (.ref 82) ⟨vs, []⟩) (Ret w s [] fun y led => y = aTri (.ref 135) t ∧ led = []) s := by
  cases r with | cons r1 r => ?_
  obtain ⟨v2, v3, v4, rfl, r2, r3, r4⟩ := r.inv3
  refine enterP dNW_ok (k := 0) C (.cons r1 (.cons r2 (.cons r3 (.cons r4 .nil)))) rfl [] [some (.raw (.ref 135)), some (.int t.1), some (.int t.2.1), some (.int t.2.2)] 0 (fun p hp => nomatch hp) (by simp) rfl fun L hL => ?_
  refine ws_cons ?_
  (with_reducible refine' ws_doc ?_)
  refine seq_next ?_
  refine ws_cons ?_
  refine ws_return ?_
  refine we_tmeth "tuple.__new__" fc_new ?_
  (((with_reducible refine' we_blt ?za38 ?zb38 ?_); (case za38 => exact rfl); (case zb38 => exact rfl)))
  refine ⟨rfl, ?_⟩
  ((with_reducible refine' wa_cons ?_); walk_at "n"; (with_reducible refine' wa_cons ?_; refine' we_tuple ?_; refine' wa_cons ?_); walk_at "n"; (with_reducible refine' wa_cons ?_); walk_at "n"; (with_reducible refine' wa_cons ?_); walk_at "n"; (with_reducible refine' wa_nil ?_))
  refine ⟨sz3, ?_⟩
  (with_reducible refine' wa_nil ?_)
  refine o_tnew sz3 ?_
  (with_reducible refine' seq_ret ?_)
  exact ⟨rfl, rfl⟩
theorem make_c {w : World} {hT : Heap} {A : Around} {s : Shared} (C : Cx w hT A s 1) {t : Tri} {vs : List Value} (r : RepL s.heap [.raw (.ref 135), aTri (.type "tuple") t] vs) :
    codeAny (model pw w) A (.call (.ref 89) ⟨vs, []⟩) (Ret w s [] fun y led => y = aTri (.ref 135) t ∧ led = []) s := by
  obtain ⟨v1, v2, rfl, r1, r2⟩ := r.inv2
  refine enterP dMK_ok (k := 0) C (.cons r1 (.cons r2 .nil)) rfl [] [some (.raw (.ref 135)), some (aTri (.type "tuple") t), none] 1 (fun p hp => nomatch hp) (by simp) rfl fun L hL => ?_
  refine ws_cons ?_
  (with_reducible refine' ws_doc ?_)
  refine seq_next ?_
  refine ws_cons ?_
  refine ws_assign rfl ?_
  refine we_tmeth "tuple.__new__" fc_new ?_
  (((with_reducible refine' we_blt ?za39 ?zb39 ?_); (case za39 => exact rfl); (case zb39 => exact rfl)))
  refine ⟨rfl, ?_⟩
  ((with_reducible refine' wa_cons ?_); walk_at "n"; (with_reducible refine' wa_cons ?_); walk_at "n"; (with_reducible refine' wa_nil ?_))
  refine o_tnew sz3 ?_
  ((with_reducible refine' seq_next ?_; refine' ws_cons ?_))
  refine ws_if ?_
  ((with_reducible refine' wb_cmp ?_; refine' we_call ?_); ((with_reducible refine' we_blt ?za40 ?zb40 ?_); (case za40 => exact rfl); (case zb40 => exact rfl)))
  refine ⟨_, rfl, by walk_at "callee", ?_⟩
  ((with_reducible refine' wa_cons ?_); walk_at "n"; (with_reducible refine' wa_nil ?_))
  refine o_mlen sz3 ?_
  ((with_reducible refine' we_int ?_; refine' o_ne ?_))
  refine ⟨_, rfl, fun hb => by simp at hb, fun _ => ?_⟩
  ((with_reducible refine' ws_nil ?_; refine' seq_next ?_; refine' ws_cons ?_; refine' ws_return ?_); walk_at "n"; (with_reducible refine' seq_ret ?_))
  exact ⟨rfl, rfl⟩
theorem fn_new (P : Params) : findCls (K P) (.ref 135) (.type "type") nNew = some (.get (.builtin "staticmethod.__get__") (.ref 136) .none (.ref 135)) := by kernel_rfl
theorem rd_new (P : Params) : readsIn (K P) 135 (.type "type") = true := by kernel_rfl
theorem rec_new (P : Params) : recIn (K P) 136 "staticmethod" = some [.ref 82] := by kernel_rfl
theorem Ret.swap {w : World} {s₁ s₂ : Shared} {mods : List Addr} {Qf : AV → List (Addr × AO) → Prop} {r : Result} {s' : Shared} (h : Ret w s₂ mods Qf r s') (e1 : s₂.heap = s₁.heap) (e2 : s₂.gens = s₁.gens) (e3 : s₂.os = s₁.os) : Ret w s₁ mods Qf r s' := by
  obtain ⟨v, x, led', a, b, c, d, e, f, g, i, j, k⟩ := h
  rw [e1] at e f g
  exact ⟨v, x, led', a, b, c, d, e, f, g, i.trans e2, j.trans e3, k⟩
theorem oi_args4 (a b c d : Value) : argsOk "object.__init__" ⟨[a, b, c, d], []⟩ := by unfold argsOk; kernel_rfl
set_option maxHeartbeats 2000000 in
/-- the class Match, called -/
theorem mk_c {w : World} {hT : Heap} {A : Around} {s : Shared} (C : Cx w hT A s 2) {t : Tri} {vs : List Value} (r : RepL s.heap [.int t.1, .int t.2.1, .int t.2.2] vs) :
    codeAny (model pw w) A (.call (.ref 135) ⟨vs, []⟩) (Ret w s [] fun y led => y = aTri (.ref 135) t ∧ led = []) s := by
  have X := C.top.kin.keeps C.ht
  obtain ⟨oc, od, cd, sl, hK, hmro, _, _, hdel⟩ := mk_look w.params
  have hC : s.heap.get? 135 = some ⟨oc, od, .cls cd, sl⟩ := X _ _ hK
  refine codeAny_of_tree ?_
  show wpAny _ _ (callAny (.ref 135) _) _ _ _
  refine nd_load hC ?_
  show wpAny _ _ (callAny.viaDunder (.ref 135) _) _ _ _
  unfold callAny.viaDunder
  have call : Looks (model pw w) s.heap (specialOf (.ref 135) "__call__") (some (.builtin "type.__call__")) := looks_specialIn X (by kernel_rfl)
  refine wpAny_bind (call.at ?_)
  dsimp only
  rw [tc_bind]
  refine wpAny_bind (wpAny_pure (wpAny_bind (wpAny_pure ?_)))
  refine wpAny_pure (a := Fin.again (.call (.builtin "type.__call__") ⟨.ref 135 :: vs, []⟩)) (And.intro rfl ?_)
  refine codeAny_call_builtin_at (Code.quiet_builtin _ (by decide +kernel)) entry_typeCall (check_slot tc_kind tc_split (tn_typ X) (tc_args _ _ _) ?_)
  unfold Builtin.«type.__call__»
  have hm := mk_mro X
  have hmade := mk_made X
  generalize hA : A.under (Code.builtin "type.__call__" { pos := Value.ref 135 :: vs }) = A'
  have C' : Cx w hT A' { s with toks := s.toks + 1 } 1 := by
    subst hA
    exact ⟨C.top, C.ht, C.hh, (by have := C.dep; show A.depth + 1 + 1 ≤ 900; walk_at "om"), (by have := C.un; show A.units + 1 + 20 * 1 ≤ 9000; walk_at "om")⟩
  have hfc := fn_new w.params
  have ga : ∀ {Q : Value → Shared → Prop} {E : Value → Shared → Prop}, Q (.ref 82) { s with toks := s.toks + 1 } → wpAny (model pw w) A' (getAttr (.ref 135) nNew) Q E s := fun q =>
    cls_bind X (rd_new _) hfc (wpAny_call (PySem.W.sm_get (s := { s with toks := s.toks + 1 }) X (rec_new _) (handed_on rfl q)))
  repeat (first | (refine ga ?_) | (with_reducible refine wpAny_call ?_) | simp only [List.isEmpty_cons, Bool.false_eq_true, if_false] | lk)
  refine codeAny_mono (nw_c C' (.cons (.raw _) r)) ?_
  rintro r' s' ⟨v, y, led', rfl, ry, h1, h2, h3, h4, h5, h6, h7, rfl, rfl⟩
  cases ry with | @tup _ _ a dd ws n hc hd e hl kk => ?_
  obtain ⟨hp, g, dr, tk, os⟩ := s'
  have X' : (K w.params).In hp := X.keeps fun b o e => h4 b o e (fun h => nomatch h)
  have T := mt_type (M := model pw w) e
  have sub : Looks (model pw w) hp (isSubtype (.ref 135) (.ref 135)) true := looks_mroIn X' (by kernel_rfl)
  have ini : Looks (model pw w) hp (typeLookup (.ref 135) "__init__") (some (.builtin "object.__init__")) := looks_findIn X' (by kernel_rfl)
  have bnd : Looks (model pw w) hp (bindSpecial (.builtin "object.__init__") (.ref a)) (.builtin "object.__init__", [.ref a]) := Looks.of_pure (oi_bind _)
  unfold isInstance callSpecial? specialOf
  repeat (first | (with_reducible refine wpAny_call ?_) | simp only [Bool.false_eq_true, if_false, Bool.not_true] | lk)
  obtain ⟨u1, u2, u3, rfl, _, _, _⟩ := r.inv3
  have top : Looks (model pw w) hp (isInstance (.ref a) (.type "object")) true := T.andThen (looks_mroIn X' (by kernel_rfl))
  have made' := mk_made X'
  refine codeAny_call_builtin oi_plain entry_oi (check_slot oi_kind oi_split top (oi_args4 _ _ _ _) ?_)
  unfold Builtin.«object.__init__»
  repeat (first | (with_reducible refine wpAny_call ?_) | simp only [List.isEmpty_cons, Bool.not_false, Bool.true_or, if_true, Bool.false_eq_true, if_false, Bool.not_true, bne_self_eq_false] | lk)
  refine ⟨.ref a, _, [], rfl, ?_, h1, h2, h3, h4, h5, h6, h7, rfl, rfl⟩
  exact .tup hc hd e hl kk
end
section
open PySem PySem.W PyProof.Rows PySem.Calls
set_option Elab.async false
set_option linter.unusedVariables false
set_option maxRecDepth 10000
/-! ## find_longest_match: what it says, in plain words -/
noncomputable abbrev at' (a : List Int) (i : Int) : Int := a.getD i.toNat 0
noncomputable def FV (a b : List Int) (alo ahi blo bhi bi bj bs : Int) : Prop := alo ≤ bi ∧ bi + bs ≤ ahi ∧ blo ≤ bj ∧ bj + bs ≤ bhi ∧ 0 ≤ bs ∧ ∀ t : Nat, (t : Int) < bs → at' a (bi + t) = at' b (bj + t)
noncomputable def NoP (a b : List Int) (alo hi blo bhi : Int) : Prop := ∀ i j : Int, alo ≤ i → i < hi → blo ≤ j → j < bhi → at' a i ≠ at' b j
noncomputable def JL (a b : List Int) (alo hi blo bhi : Int) (es : List (Int × AV)) : Prop := es = [] ∨ ∃ m k : Int, es = [(m, .int k)] ∧ 1 ≤ k ∧ alo ≤ hi - k ∧ blo ≤ m + 1 - k ∧ m < bhi ∧ ∀ t : Nat, (t : Int) < k → at' a (hi - 1 - t) = at' b (m - t)
noncomputable def FI (a b : List Int) (alo hi blo bhi bi bj bs : Int) (es : List (Int × AV)) : Prop := FV a b alo hi blo bhi bi bj bs ∧ (bs = 0 → NoP a b alo hi blo bhi) ∧ JL a b alo hi blo bhi es
theorem FV.up {a b : List Int} {alo hi hi' blo bhi bi bj bs : Int} (h : FV a b alo hi blo bhi bi bj bs) (hh : hi ≤ hi') : FV a b alo hi' blo bhi bi bj bs :=
  ⟨h.1, by have := h.2.1; walk_at "om", h.2.2⟩
/-- nothing of the row b in the window stands at i -/
theorem FI.skip {a b : List Int} {alo hi blo bhi bi bj bs : Int} {es : List (Int × AV)} (h : FI a b alo hi blo bhi bi bj bs es) (hn : ∀ j : Int, blo ≤ j → j < bhi → at' a hi ≠ at' b j) : FI a b alo (hi + 1) blo bhi bi bj bs [] :=
  ⟨h.1.up (by walk_at "om"), fun e i j h1 h2 h3 h4 => by
    by_cases hi' : i = hi
    · subst hi'; exact hn j h3 h4
    · exact h.2.1 e i j h1 (by walk_at "om") h3 h4, .inl rfl⟩
/-- the length of the run that ends at (hi, m) -/
noncomputable def kOf (m : Int) (es : List (Int × AV)) : AV := (getI (m - 1) es).getD (.int 0)
theorem FI.kOf {a b : List Int} {alo hi blo bhi bi bj bs : Int} {es : List (Int × AV)} (h : FI a b alo hi blo bhi bi bj bs es) (halo : alo ≤ hi) {m : Int} (hm : at' a hi = at' b m) (hb : blo ≤ m) (hb' : m < bhi) :
    ∃ k0 : Int, Mine.kOf m es = .int k0 ∧ 0 ≤ k0 ∧ alo ≤ hi + 1 - (k0 + 1) ∧ blo ≤ m + 1 - (k0 + 1) ∧ ∀ t : Nat, (t : Int) < k0 + 1 → at' a (hi + 1 - 1 - t) = at' b (m - t) := by
  rcases h.2.2 with rfl | ⟨m0, k0, rfl, h1, h2, h3, h4, h5⟩
  · refine ⟨0, rfl, by walk_at "om", by walk_at "om", by walk_at "om", fun t ht => ?_⟩
    obtain rfl : t = 0 := by walk_at "om"
    simpa using hm
  · by_cases e : m0 = m - 1
    · subst e
      refine ⟨k0, by simp [Mine.kOf, getI], by walk_at "om", by walk_at "om", by walk_at "om", fun t ht => ?_⟩
      cases t with
      | zero => simpa using hm
      | succ t =>
        have := h5 t (by walk_at "om")
        rw [show hi + 1 - 1 - ((t + 1 : Nat) : Int) = hi - 1 - t by walk_at "om", show m - ((t + 1 : Nat) : Int) = m - 1 - t by walk_at "om"]
        exact this
    · refine ⟨0, by simp [Mine.kOf, getI, e], by walk_at "om", by walk_at "om", by walk_at "om", fun t ht => ?_⟩
      obtain rfl : t = 0 := by walk_at "om"
      simpa using hm
theorem run_back {a b : List Int} {hi m k : Int} (h : ∀ t : Nat, (t : Int) < k → at' a (hi + 1 - 1 - t) = at' b (m - t)) (t : Nat) (ht : (t : Int) < k) : at' a (hi - k + 1 + t) = at' b (m - k + 1 + t) := by
  have := h (k - 1 - t).toNat (by walk_at "om")
  rw [show hi + 1 - 1 - (((k - 1 - t).toNat : Nat) : Int) = hi - k + 1 + t by walk_at "om", show m - (((k - 1 - t).toNat : Nat) : Int) = m - k + 1 + t by walk_at "om"] at this
  exact this
theorem FI.keepBest {a b : List Int} {alo hi blo bhi bi bj bs : Int} {es : List (Int × AV)} (h : FI a b alo hi blo bhi bi bj bs es) {m k : Int} (h1 : 1 ≤ k) (h2 : alo ≤ hi + 1 - k) (h3 : blo ≤ m + 1 - k) (h4 : m < bhi)
    (h5 : ∀ t : Nat, (t : Int) < k → at' a (hi + 1 - 1 - t) = at' b (m - t)) (hk : ¬ bs < k) : FI a b alo (hi + 1) blo bhi bi bj bs [(m, .int k)] :=
  ⟨h.1.up (by walk_at "om"), fun e => by walk_at "om", .inr ⟨m, k, rfl, h1, h2, h3, h4, h5⟩⟩
theorem FI.newBest {a b : List Int} {alo hi blo bhi bi bj bs : Int} {es : List (Int × AV)} (h : FI a b alo hi blo bhi bi bj bs es) {m k : Int} (h1 : 1 ≤ k) (h2 : alo ≤ hi + 1 - k) (h3 : blo ≤ m + 1 - k) (h4 : m < bhi)
    (h5 : ∀ t : Nat, (t : Int) < k → at' a (hi + 1 - 1 - t) = at' b (m - t)) : FI a b alo (hi + 1) blo bhi (hi - k + 1) (m - k + 1) k [(m, .int k)] :=
  ⟨⟨by walk_at "om", by walk_at "om", by walk_at "om", by walk_at "om", by walk_at "om", run_back h5⟩, fun e => by walk_at "om", .inr ⟨m, k, rfl, h1, h2, h3, h4, h5⟩⟩
theorem FV.left {a b : List Int} {alo ahi blo bhi bi bj bs : Int} (h : FV a b alo ahi blo bhi bi bj bs) (h1 : alo < bi) (h2 : blo < bj) (e : at' a (bi - 1) = at' b (bj - 1)) : FV a b alo ahi blo bhi (bi - 1) (bj - 1) (bs + 1) := by
  obtain ⟨a1, a2, a3, a4, a5, a6⟩ := h
  refine ⟨by walk_at "om", by walk_at "om", by walk_at "om", by walk_at "om", by walk_at "om", fun t ht => ?_⟩
  cases t with
  | zero => simpa using e
  | succ t =>
    have := a6 t (by walk_at "om")
    rw [show bi - 1 + ((t + 1 : Nat) : Int) = bi + t by walk_at "om", show bj - 1 + ((t + 1 : Nat) : Int) = bj + t by walk_at "om"]
    exact this
theorem FV.right {a b : List Int} {alo ahi blo bhi bi bj bs : Int} (h : FV a b alo ahi blo bhi bi bj bs) (h1 : bi + bs < ahi) (h2 : bj + bs < bhi) (e : at' a (bi + bs) = at' b (bj + bs)) : FV a b alo ahi blo bhi bi bj (bs + 1) := by
  obtain ⟨a1, a2, a3, a4, a5, a6⟩ := h
  refine ⟨by walk_at "om", by walk_at "om", by walk_at "om", by walk_at "om", by walk_at "om", fun t ht => ?_⟩
  by_cases q : (t : Int) = bs
  · rw [q]; exact e
  · exact a6 t (by walk_at "om")
/-- the places of b -/
theorem b2j_get {b : List Int} {ads : List Addr} (hl : ads.length = b.length) (hnd : b.Nodup) {m : Nat} (hm : m < b.length) : getI (b.getD m 0) (b2jOf b ads) = some (.ref (ads.getD m 0)) := by
  induction b generalizing ads m with
  | nil => simp at hm
  | cons x r ih =>
    cases ads with
    | nil => simp at hl
    | cons d ds =>
      have nd := List.nodup_cons.mp hnd
      show (if x = _ then some (AV.ref d) else getI _ (b2jOf r ds)) = _
      cases m with
      | zero => simp
      | succ m =>
        have hm' : m < r.length := by simpa using hm
        have hne : x ≠ r.getD m 0 := fun e => nd.1 (by rw [e]; simp [List.getD, hm'])
        rw [show (x :: r).getD (m + 1) 0 = r.getD m 0 by simp [List.getD], if_neg hne, ih (by simpa using hl) nd.2 hm']
        simp [List.getD]
theorem b2j_none {b : List Int} {ads : List Addr} (hl : ads.length = b.length) {x : Int} (hx : x ∉ b) : getI x (b2jOf b ads) = none := getI_none (by rw [b2jOf_keys _ _ hl]; exact hx)
theorem at_mem {b : List Int} {j : Int} (h0 : 0 ≤ j) (h : j < b.length) : at' b j ∈ b := by
  have : j.toNat < b.length := by walk_at "om"
  simp [at', List.getD, this]
theorem at_inj {b : List Int} (hnd : b.Nodup) {m : Nat} (hm : m < b.length) {j : Int} (h0 : 0 ≤ j) (h : j < b.length) (e : b.getD m 0 = at' b j) : j = m := by
  have hj : j.toNat < b.length := by walk_at "om"
  have e' : b[m] = b[j.toNat] := by simpa [at', List.getD, hm, hj] using e
  have := (List.getElem_inj hnd).mp e'
  walk_at "om"
end
section
open PySem PySem.W PyProof.Rows PySem.Calls
set_option Elab.async false
set_option linter.unusedVariables false
set_option maxRecDepth 10000
noncomputable def dFL : Def := { fa := 196, fd := fd196, body := bodyOf (mth 5 6), names := [⟨#[115,101,108,102]⟩, ⟨#[97,108,111]⟩, ⟨#[97,104,105]⟩, ⟨#[98,108,111]⟩, ⟨#[98,104,105]⟩, ⟨#[97]⟩, ⟨#[98]⟩, ⟨#[98,50,106]⟩, ⟨#[105,115,98,106,117,110,107]⟩, ⟨#[98,101,115,116,105]⟩, ⟨#[98,101,115,116,106]⟩, ⟨#[98,101,115,116,115,105,122,101]⟩, ⟨#[106,50,108,101,110]⟩, ⟨#[110,111,116,104,105,110,103]⟩, ⟨#[105]⟩, ⟨#[106,50,108,101,110,103,101,116]⟩, ⟨#[110,101,119,106,50,108,101,110]⟩, ⟨#[106]⟩, ⟨#[107]⟩], globs := [⟨#[108,101,110]⟩, ⟨#[114,97,110,103,101]⟩, ⟨#[77,97,116,99,104]⟩] }
theorem dFL_ok : dFL.Ok := {
  obj := fun P => ⟨_, _, _, (by kernel_rfl : (K P).lookup 196 = some ⟨.type "function", none, .func fd196, #[]⟩)⟩
  body := by kernel_rfl
  code := fun P => by kernel_rfl
  scope := by kernel_rfl
  glob := by kernel_rfl
  bi := by kernel_rfl }
/-- what a SequenceMatcher holds -/
structure SmAt (w : World) (h : Heap) (x dx aa ba d j p : Addr) (ads : List Addr) (a b : List Int) : Prop where
  hx : RepO w h x (.obj (instObj 242 dx))
  hd : RepO w h dx (.ns (smFields aa ba d j p))
  ha : RepO w h aa (.list (zs a))
  hb : RepO w h ba (.list (zs b))
  hj : RepO w h d (.dict (b2jOf b ads))
  hs : RepO w h j .set0
  hl : ads.length = b.length
  hp : ∀ m : Nat, m < b.length → RepO w h (ads.getD m 0) (.list [.int m])
structure Win (a b : List Int) (alo ahi blo bhi : Int) : Prop where
  a0 : 0 ≤ alo
  a1 : alo ≤ ahi
  a2 : ahi ≤ a.length
  b0 : 0 ≤ blo
  b1 : blo ≤ bhi
  b2 : bhi ≤ b.length
theorem at_ok {a : List Int} {lo hi x : Int} (h0 : 0 ≤ lo) (h1 : lo ≤ x) (h2 : x < hi) (h3 : hi ≤ a.length) (h4 : a.length < 1000) : 0 ≤ x ∧ x < 2 ^ 63 ∧ x.toNat < a.length := by walk_at "om"
/-- what the frame holds, as a thing of what changes -/
noncomputable def flV (x aa ba d q : Addr) (alo ahi blo bhi bi bj bs : Int) (R : List (Option AV)) : List (Option AV) := some (.ref x) :: some (.int alo) :: some (.int ahi) :: some (.int blo) :: some (.int bhi) :: some (.ref aa) :: some (.ref ba) :: some (.ref d) :: some (.ref q) :: some (.int bi) :: some (.int bj) :: some (.int bs) :: R
noncomputable def flA (x aa ba d q j no : Addr) (alo ahi blo bhi bi bj bs : Int) (es : List (Int × AV)) (jl : Addr) (o14 o15 o16 o17 o18 : Option AV) : Sig :=
  ⟨flV x aa ba d q alo ahi blo bhi bi bj bs [some (.ref jl), some (.ref no), o14, o15, o16, o17, o18], [(jl, .dict es), (no, .list []), (q, .obj (boundO "set.__contains__" (.ref j)))]⟩
noncomputable def flB (x aa ba d q j no jl bg nd I : Addr) (o : Obj) (es : List (Int × AV)) (alo ahi blo bhi i bi bj bs : Int) (es' : List (Int × AV)) (o17 o18 : Option AV) : Sig :=
  ⟨flV x aa ba d q alo ahi blo bhi bi bj bs [some (.ref jl), some (.ref no), some (.int i), some (.ref bg), some (.ref nd), o17, o18], [(nd, .dict es'), (bg, .obj (boundO "dict.get" (.ref jl))), (I, .obj o), (jl, .dict es), (no, .list []), (q, .obj (boundO "set.__contains__" (.ref j)))]⟩
noncomputable def flW (x aa ba d q j : Addr) (R : List (Option AV)) (alo ahi blo bhi bi bj bs : Int) : Sig :=
  ⟨flV x aa ba d q alo ahi blo bhi bi bj bs R, [(q, .obj (boundO "set.__contains__" (.ref j)))]⟩
inductive FlA (a b : List Int) (alo hi blo bhi : Int) (S : Int → Int → Int → List (Int × AV) → Addr → Option AV → Option AV → Option AV → Option AV → Option AV → Sig) (σ : Sig) : Prop where
  | mk (bi bj bs : Int) (es : List (Int × AV)) (jl : Addr) (o14 o15 o16 o17 o18 : Option AV) (e : σ = S bi bj bs es jl o14 o15 o16 o17 o18) (h : FI a b alo hi blo bhi bi bj bs es)
inductive FlB (a b : List Int) (alo hi blo bhi : Int) (S : Int → Int → Int → List (Int × AV) → Option AV → Option AV → Sig) (σ : Sig) : Prop where
  | mk (bi bj bs : Int) (es' : List (Int × AV)) (o17 o18 : Option AV) (h : FI a b alo hi blo bhi bi bj bs es') (e : σ = S bi bj bs es' o17 o18)
inductive FlI (a b : List Int) (alo ahi blo bhi : Int) (S : Int → Int → Int → Sig) (σ : Sig) : Prop where
  | mk (bi bj bs : Int) (hFV : FV a b alo ahi blo bhi bi bj bs) (hNo : bs = 0 → NoP a b alo ahi blo bhi) (e : σ = S bi bj bs)
inductive FlN (a b : List Int) (alo ahi blo bhi : Int) (S : Int → Int → Int → Sig) (M : Int → Int → Int → Int) (n : Nat) (σ : Sig) : Prop where
  | mk (bi bj bs : Int) (hn : (n : Int) = M bi bj bs) (hFV : FV a b alo ahi blo bhi bi bj bs) (hNo : bs = 0 → NoP a b alo ahi blo bhi) (e : σ = S bi bj bs)
set_option maxHeartbeats 2000000 in
theorem fl_c {w : World} {hT : Heap} {A : Around} {s : Shared} (C : Cx w hT A s 3) {x dx aa ba d j p : Addr} {ads : List Addr} {a b : List Int} (M : SmAt w s.heap x dx aa ba d j p ads a b) (hnd : b.Nodup) (hal : a.length < 1000) (hbl : b.length < 1000) {alo ahi blo bhi : Int} (wn : Win a b alo ahi blo bhi)
    {vs : List Value} (r : RepL s.heap [.ref x, .int alo, .int ahi, .int blo, .int bhi] vs) :
    codeAny (model pw w) A (.call (.ref 196) ⟨vs, []⟩) (Ret w s [] fun y led => led = [] ∧ ∃ bi bj bs, y = aTri (.ref 135) (bi, bj, bs) ∧ FV a b alo ahi blo bhi bi bj bs ∧ (bs = 0 → NoP a b alo ahi blo bhi)) s := by
  obtain ⟨hx, hd, ha, hb, hj, hs, hl, hp⟩ := M
  obtain ⟨wa0, wa1, wa2, wb0, wb1, wb2⟩ := wn
  cases r with | cons r0 r => ?_
  cases r with | cons r1 r => ?_
  obtain ⟨v3, v4, v5, rfl, r3, r4, r5⟩ := r.inv3
  refine enterD dFL_ok (k := 2) C (vs' := [_, _, v3, v4, v5]) (.cons r0 (.cons r1 (.cons r3 (.cons r4 (.cons r5 .nil))))) (kp_binds (C.top.kin.keeps C.ht) fun S => by kernel_rfl) [] [some (.ref x), some (.int alo), some (.int ahi), some (.int blo), some (.int bhi), none, none, none, none, none, none, none, none, none, none, none, none, none, none] 14 (fun p hp => nomatch hp) (by simp) rfl fun L hL => ?_
  have hz := sizeLine_is
  refine W.weak ?_
  refine ws_cons ?_
  (with_reducible refine' ws_doc ?_)
  ((with_reducible refine' seq_next ?_; refine' ws_cons ?_; refine' ws_bind1 ?_; refine' we_tuple ?_; refine' wa_cons ?_; refine' we_attr ?_); walk_at "n")
  refine o_attr (dx := dx) (.inr ⟨hx, by simp⟩) (.inr ⟨hd, by simp⟩) rfl rfl rfl ?_
  ((with_reducible refine' wa_cons ?_; refine' we_attr ?_); walk_at "n")
  refine o_attr (dx := dx) (.inr ⟨hx, by simp⟩) (.inr ⟨hd, by simp⟩) rfl rfl rfl ?_
  ((with_reducible refine' wa_cons ?_; refine' we_attr ?_); walk_at "n")
  refine o_attr (dx := dx) (.inr ⟨hx, by simp⟩) (.inr ⟨hd, by simp⟩) rfl rfl rfl ?_
  ((with_reducible refine' wa_cons ?_; refine' we_attr ?_; refine' we_attr ?_); walk_at "n")
  refine o_attr (dx := dx) (.inr ⟨hx, by simp⟩) (.inr ⟨hd, by simp⟩) rfl rfl rfl ?_
  refine o_bcont (.inr ⟨hs, by simp⟩) fun q hq => ?_
  (with_reducible refine' wa_nil ?_)
  refine ⟨by show 4 ≤ sizeLine; decide, _, binds_tuple (is := [5, 6, 7, 8]) (.cons rfl (.cons rfl (.cons rfl (.cons rfl .nil)))) rfl, ?_⟩
  ((with_reducible refine' seq_next ?_; refine' ws_cons ?_))
  refine ws_if ?_
  ((with_reducible refine' wb_cmp ?_); walk_at "n"; (with_reducible refine' we_none ?_))
  refine o_isnone_int ⟨_, rfl, fun hb => by (cases hb), fun _ => ?_⟩
  ((with_reducible refine' ws_nil ?_; refine' seq_next ?_; refine' ws_cons ?_))
  refine ws_if ?_
  ((with_reducible refine' wb_cmp ?_); walk_at "n"; (with_reducible refine' we_none ?_))
  refine o_isnone_int ⟨_, rfl, fun hb => by (cases hb), fun _ => ?_⟩
  ((with_reducible refine' ws_nil ?_; refine' seq_next ?_; refine' ws_cons ?_))
  refine ws_swap (is := [11, 10, 9]) (by with_unfolding_all rfl) (.cons rfl (.cons rfl (.cons rfl .nil))) ?_
  ((with_reducible refine' we_tuple ?_; refine' wa_cons ?_); walk_at "n"; (with_reducible refine' wa_cons ?_); walk_at "n"; (with_reducible refine' wa_cons ?_; refine' we_int ?_; refine' wa_nil ?_))
  refine ⟨sz3, _, rfl, rfl, ?_⟩
  ((with_reducible refine' seq_next ?_; refine' ws_cons ?_); ((with_reducible refine' ws_assign ?za41 ?_); (case za41 => exact rfl)); (with_reducible refine' we_dict0 ?_))
  intro jl hjl
  ((with_reducible refine' seq_next ?_; refine' ws_cons ?_); ((with_reducible refine' ws_assign ?za42 ?_); (case za42 => exact rfl)); (with_reducible refine' we_list ?_; refine' wa_nil ?_))
  refine ⟨by simp, fun no hno => ?_⟩
  ((with_reducible refine' seq_next ?_; refine' ws_cons ?_))
  refine W.perm _ (List.Perm.swap _ _ _) ?_
  refine ws_for (rangeL alo (ahi - alo).toNat) 1 (fun _ => True) (fun n σ => FlA a b alo (alo + n) blo bhi (flA x aa ba d q j no alo ahi blo bhi) σ) ?_ ro_true ?_ ?_
  · ((with_reducible refine' we_call ?_); ((with_reducible refine' we_blt ?za43 ?zb43 ?_); (case za43 => exact rfl); (case zb43 => exact rfl)))
    refine ⟨_, rfl, by walk_at "callee", ?_⟩
    ((with_reducible refine' wa_cons ?_); walk_at "n"; (with_reducible refine' wa_cons ?_); walk_at "n"; (with_reducible refine' wa_nil ?_))
    refine o_range2 fun rg o hrg ho => ?_
    refine ⟨_, starts_range (.head _) ho (.led (List.sublist_cons_self _ _)) (by walk_at "om") (by walk_at "om") (by walk_at "om") (by walk_at "om"), alo, blo, 0, [], jl, none, none, none, none, none, rfl, ⟨by walk_at "om", by walk_at "om", by walk_at "om", by walk_at "om", by walk_at "om", fun t ht => by walk_at "om"⟩, fun _ i j h1 h2 h3 h4 => by walk_at "om", .inl rfl⟩
  · rintro n y σ₁ its hn hy ⟨bi, bj, bs, es, jl, o14, o15, o16, o17, o18, rfl, hFI⟩ hni
    obtain ⟨I, o, rfl⟩ := one_it hn
    have hnl : n < (ahi - alo).toNat := by have := (List.getElem?_eq_some_iff.mp hy).1; simpa using this
    obtain rfl : y = .int (alo + n) := by simp [rangeL, hnl] at hy; exact hy.symm
    refine ⟨_, binds_name rfl, ?_⟩
    ((with_reducible refine' ws_cons ?_); ((with_reducible refine' ws_assign ?za44 ?_); (case za44 => exact rfl)); (with_reducible refine' we_attr ?_); walk_at "n")
    refine o_bget (by walk_at "has") fun bg hbg => ?_
    ((with_reducible refine' seq_next ?_; refine' ws_cons ?_); ((with_reducible refine' ws_assign ?za45 ?_); (case za45 => exact rfl)); (with_reducible refine' we_dict0 ?_))
    intro nd hnd'
    refine seq_next ?_
    refine ws_cons ?_
    obtain ⟨hi0, hi2, hi3⟩ := at_ok wa0 (show alo ≤ alo + (n : Int) by walk_at "om") (show alo + (n : Int) < ahi by walk_at "om") wa2 hal
    have hi1 : alo + (n : Int) < a.length := by walk_at "om"
    refine W.mono (Q := NextQ (FlB a b alo (alo + n + 1) blo bhi (flB x aa ba d q j no jl bg nd I o es alo ahi blo bhi (alo + n)))) ?_ ?_
    rotate_left
    · rintro _ _ ⟨rfl, bi, bj, bs, es', o17, o18, h, rfl⟩
      refine seq_next ?_
      refine W.perm _ (((List.Perm.swap _ _ _).cons _).trans (List.Perm.swap _ _ _)) ?_
      ((with_reducible refine' ws_cons ?_); ((with_reducible refine' ws_assign ?za46 ?_); (case za46 => exact rfl)); walk_at "n"; (with_reducible refine' seq_next ?_; refine' ws_nil ?_))
      refine ⟨_, [(nd, .dict es'), (no, .list []), (q, .obj (boundO "set.__contains__" (.ref j)))], by walk_at "sub", fun _ _ h => h, bi, bj, bs, es', nd, _, _, _, _, _, rfl, ?_⟩
      rw [show alo + ((n + 1 : Nat) : Int) = alo + n + 1 by walk_at "om"]
      exact h
    by_cases hmem : at' a (alo + n) ∈ b
    · obtain ⟨m, hm, em⟩ : ∃ m, m < b.length ∧ b.getD m 0 = at' a (alo + n) := by
        obtain ⟨m, hm, e⟩ := List.getElem_of_mem hmem
        exact ⟨m, hm, by simpa [List.getD, hm] using e⟩
      have hget : getI (at' a (alo + n)) (b2jOf b ads) = some (.ref (ads.getD m 0)) := by rw [← em]; exact b2j_get hl hnd hm
      have uniq : ∀ j' : Int, blo ≤ j' → j' < bhi → at' a (alo + n) = at' b j' → j' = m := fun j' h1 h2 e => at_inj hnd hm (by walk_at "om") (by walk_at "om") (em.trans e)
      refine ws_for [.int m] 1 (fun h => RepO w h (ads.getD m 0) (.list [.int m])) (OneQ (flB x aa ba d q j no jl bg nd I o es alo ahi blo bhi (alo + n) bi bj bs [] o17 o18) (FlB a b alo (alo + n + 1) blo bhi (flB x aa ba d q j no jl bg nd I o es alo ahi blo bhi (alo + n)))) ?_ (ro_has fun _ _ _ => .inr ⟨hp m hm, by simp⟩) ?_ ?_
      · ((with_reducible refine' we_dict_get ?_); walk_at "n")
        refine ⟨typeB_dict (.inr ⟨hj, by simp⟩), ?_⟩
        ((with_reducible refine' wa_cons ?_; refine' we_sub ?_); walk_at "n"; walk_at "n")
        refine o_item (.inr ⟨ha, by simp⟩) hi0 hi2 (zs_get hi3) ?_
        ((with_reducible refine' wa_cons ?_); walk_at "n"; (with_reducible refine' wa_nil ?_))
        refine o_dget (.inr ⟨hj, by simp⟩) ?_
        rw [hget]
        exact ⟨_, starts_list (.inl ⟨_, _, rfl⟩) (.inr ⟨hp m hm, by simp⟩), rfl⟩
      · rintro i y σ₂ its' hn' hy' hJ hni'
        obtain ⟨I', o', rfl⟩ := one_it hn'
        cases i with
        | succ i => simp at hy'
        | zero =>
        obtain rfl : y = .int m := by simpa using hy'.symm
        subst hJ
        refine ⟨_, binds_name rfl, ?_⟩
        (with_reducible refine' ws_cons ?_)
        refine ws_if ?_
        ((with_reducible refine' wb_cmp ?_); walk_at "n"; walk_at "n"; (with_reducible refine' o_lt ?_))
        refine ⟨_, rfl, fun hb => ?_, fun hb => ?_⟩
        · have hmb : (m : Int) < blo := by simpa using hb
          ((with_reducible refine' ws_cons ?_; refine' ws_continue ?_; refine' seq_cont ?_; refine' seq_cont ?_))
          refine ⟨_, _, List.Sublist.refl _, fun _ _ h => h, bi, bj, bs, [], _, _, ?_, rfl⟩
          exact hFI.skip fun j' h1 h2 e => by have := uniq j' h1 h2 e; walk_at "om"
        have hmb : ¬ (m : Int) < blo := by simpa using hb
        ((with_reducible refine' ws_nil ?_; refine' seq_next ?_; refine' ws_cons ?_))
        refine ws_if ?_
        ((with_reducible refine' wb_cmp ?_); walk_at "n"; walk_at "n"; (with_reducible refine' o_ge ?_))
        refine ⟨_, rfl, fun hb => ?_, fun hb => ?_⟩
        · have hmb : bhi ≤ (m : Int) := by simpa using hb
          ((with_reducible refine' ws_cons ?_; refine' ws_break ?_; refine' seq_brk ?_; refine' seq_brk ?_))
          refine ⟨_, _, List.Sublist.refl _, fun _ _ h => h, rfl, bi, bj, bs, [], _, _, ?_, rfl⟩
          exact hFI.skip fun j' h1 h2 e => by have := uniq j' h1 h2 e; walk_at "om"
        have hmb2 : ¬ bhi ≤ (m : Int) := by simpa using hb
        have em' : at' a (alo + n) = at' b m := by rw [← em]; simp [at']
        obtain ⟨k0, ek, hk0, hk1, hk2, hk3⟩ := hFI.kOf (by walk_at "om") em' (by walk_at "om") (by walk_at "om")
        refine ws_nil ?_
        refine seq_next ?_
        refine ws_cons ?_
        refine ws_bind2 ?_
        refine we_bin ?_
        refine we_bcall ?_
        walk_at "n"
        refine ⟨bg, "dict.get", .ref jl, rfl, ?_⟩
        ((with_reducible refine' wa_cons ?_; refine' we_bin ?_); walk_at "n"; (with_reducible refine' we_int ?_; refine' o_sub ?_; refine' wa_cons ?_; refine' we_int ?_; refine' wa_nil ?_))
        refine ⟨by walk_at "has", ?_⟩
        refine o_bgetc (es := es) (by walk_at "has") (by walk_at "has") ?_
        rw [show (getI ((m : Int) - 1) es).getD (.int 0) = .int k0 from ek]
        ((with_reducible refine' we_int ?_; refine' o_add ?_))
        refine ⟨_, binds_name rfl, _, binds_sub rfl rfl rfl rfl fun E => o_dset (by walk_at "upd") (by simp) rfl, ?_⟩
        ((with_reducible refine' seq_next ?_; refine' ws_cons ?_))
        refine ws_if ?_
        ((with_reducible refine' wb_cmp ?_); walk_at "n"; walk_at "n"; (with_reducible refine' o_gt ?_))
        refine ⟨_, rfl, fun hb => ?_, fun hb => ?_⟩
        · (with_reducible refine' ws_cons ?_)
          refine ws_swap (is := [11, 10, 9]) (by with_unfolding_all rfl) (.cons rfl (.cons rfl (.cons rfl .nil))) ?_
          ((with_reducible refine' we_tuple ?_; refine' wa_cons ?_; refine' we_bin ?_; refine' we_bin ?_); walk_at "n"; walk_at "n"; (with_reducible refine' o_sub ?_; refine' we_int ?_; refine' o_add ?_; refine' wa_cons ?_; refine' we_bin ?_; refine' we_bin ?_); walk_at "n"; walk_at "n"; (with_reducible refine' o_sub ?_; refine' we_int ?_; refine' o_add ?_; refine' wa_cons ?_); walk_at "n"; (with_reducible refine' wa_nil ?_))
          refine ⟨sz3, _, rfl, rfl, ?_⟩
          ((with_reducible refine' seq_next ?_; refine' ws_nil ?_; refine' seq_next ?_; refine' ws_nil ?_))
          refine ⟨_, _, List.Sublist.refl _, fun _ _ h => h, _, _, _, _, _, _, ?_, rfl⟩
          exact hFI.newBest (by walk_at "om") hk1 hk2 (by walk_at "om") hk3
        · have hb' : ¬ bs < k0 + 1 := by simpa using hb
          ((with_reducible refine' ws_nil ?_; refine' seq_next ?_; refine' ws_nil ?_))
          refine ⟨_, _, List.Sublist.refl _, fun _ _ h => h, _, _, _, _, _, _, ?_, rfl⟩
          exact hFI.keepBest (by walk_at "om") hk1 hk2 (by walk_at "om") hk3 hb'
      · rintro σ₂ h
        exact ⟨rfl, h⟩
    · have hget : getI (at' a (alo + n)) (b2jOf b ads) = none := b2j_none hl hmem
      refine ws_for [] 1 (fun h => RepO w h no (.list [])) (fun _ => FlB a b alo (alo + n + 1) blo bhi (flB x aa ba d q j no jl bg nd I o es alo ahi blo bhi (alo + n))) ?_ (ro_has fun _ σ h => by obtain ⟨_, _, _, _, _, _, _, rfl⟩ := h; walk_at "has") (fun _ _ _ _ _ hy => by simp at hy) fun σ₁ h => ⟨rfl, h⟩
      ((with_reducible refine' we_dict_get ?_); walk_at "n")
      refine ⟨typeB_dict (.inr ⟨hj, by simp⟩), ?_⟩
      ((with_reducible refine' wa_cons ?_; refine' we_sub ?_); walk_at "n"; walk_at "n")
      refine o_item (.inr ⟨ha, by simp⟩) hi0 hi2 (zs_get hi3) ?_
      ((with_reducible refine' wa_cons ?_); walk_at "n"; (with_reducible refine' wa_nil ?_))
      refine o_dget (.inr ⟨hj, by simp⟩) ?_
      rw [hget]
      refine ⟨_, starts_list (.inl ⟨_, _, rfl⟩) (by walk_at "has"), bi, bj, bs, [], _, _, ?_, rfl⟩
      exact hFI.skip fun j' h1 h2 e => hmem (by rw [e]; exact at_mem (by walk_at "om") (by walk_at "om"))
  · rintro σ₁ ⟨bi, bj, bs, es, jl, o14, o15, o16, o17, o18, rfl, hFV, hNo, _⟩
    have elen : alo + ((rangeL alo (ahi - alo).toNat).length : Nat) = ahi := by simp [rangeL]; walk_at "om"
    rw [elen] at hFV hNo
    clear elen hl
    refine W.pre (σ' := flW x aa ba d q j [some (.ref jl), some (.ref no), o14, o15, o16, o17, o18] alo ahi blo bhi bi bj bs) ⟨by unfold flA flW; walk_at "sub", fun _ _ h => h⟩ ?_
    generalize [some (AV.ref jl), some (AV.ref no), o14, o15, o16, o17, o18] = R
    refine ws_cons ?_
    refine W.mono (Q := NextQ (FlI a b alo ahi blo bhi (flW x aa ba d q j R alo ahi blo bhi))) (ws_while (FlN a b alo ahi blo bhi (flW x aa ba d q j R alo ahi blo bhi) (fun bi _ _ => bi)) bi.toNat ⟨bi, bj, bs, by have := hFV.1; have := hFV.2.1; walk_at "om", hFV, hNo, rfl⟩ ?_) ?_
    · rintro n σ ⟨bi, bj, bs, hn, hFV, hNo, rfl⟩
      obtain ⟨f1, f2, f3, f4, f5, f6⟩ := id hFV
      ((with_reducible refine' wb_and ?_; refine' wb_cmp ?_); walk_at "n"; walk_at "n"; (with_reducible refine' o_gt ?_))
      refine ⟨_, rfl, fun hb1 => ?_, fun _ => ⟨fun h => by (cases h), fun _ => ⟨rfl, bi, bj, bs, hFV, hNo, rfl⟩⟩⟩
      have hb1 := of_decide_eq_true hb1
      ((with_reducible refine' wb_and ?_; refine' wb_cmp ?_); walk_at "n"; walk_at "n"; (with_reducible refine' o_gt ?_))
      refine ⟨_, rfl, fun hb2 => ?_, fun _ => ⟨fun h => by (cases h), fun _ => ⟨rfl, bi, bj, bs, hFV, hNo, rfl⟩⟩⟩
      have hb2 := of_decide_eq_true hb2
      obtain ⟨p1, p2, p3⟩ := at_ok wb0 (Int.le_sub_one_of_lt hb2) (show bj - 1 < bhi by walk_at "om") wb2 hbl
      obtain ⟨r1, r2, r3⟩ := at_ok wa0 (Int.le_sub_one_of_lt hb1) (show bi - 1 < ahi by walk_at "om") wa2 hal
      refine wb_and ?_
      refine wb_not ?_
      refine wb_plain ?_
      refine we_bcall ?_
      walk_at "n"
      refine ⟨q, "set.__contains__", .ref j, rfl, ?_⟩
      ((with_reducible refine' wa_cons ?_; refine' we_sub ?_); walk_at "n"; (with_reducible refine' we_bin ?_); walk_at "n"; (with_reducible refine' we_int ?_; refine' o_sub ?_))
      refine o_item (.inr ⟨hb, by simp⟩) p1 p2 (zs_get p3) ?_
      (with_reducible refine' wa_nil ?_)
      refine ⟨by walk_at "has", ?_⟩
      refine o_bcontc (by walk_at "has") (.inr ⟨hs, by simp⟩) ?_
      refine o_true_bool ?_
      refine ⟨fun _ => ?_, fun h => by (cases h)⟩
      ((with_reducible refine' wb_and ?_; refine' wb_cmp ?_; refine' we_sub ?_); walk_at "n"; (with_reducible refine' we_bin ?_); walk_at "n"; (with_reducible refine' we_int ?_; refine' o_sub ?_))
      refine o_item (.inr ⟨ha, by simp⟩) r1 r2 (zs_get r3) ?_
      ((with_reducible refine' we_sub ?_); walk_at "n"; (with_reducible refine' we_bin ?_); walk_at "n"; (with_reducible refine' we_int ?_; refine' o_sub ?_))
      refine o_item (.inr ⟨hb, by simp⟩) p1 p2 (zs_get p3) ?_
      (with_reducible refine' o_eq ?_)
      refine ⟨_, rfl, fun hb3 => ?_, fun _ => ⟨fun h => by (cases h), fun _ => ⟨rfl, bi, bj, bs, hFV, hNo, rfl⟩⟩⟩
      have hb3 := eq_of_beq hb3
      (with_reducible refine' wb_and_nil ?_)
      refine ⟨fun _ => ?_, fun h => by (cases h)⟩
      (with_reducible refine' ws_cons ?_)
      refine ws_swap (is := [11, 10, 9]) (by with_unfolding_all rfl) (.cons rfl (.cons rfl (.cons rfl .nil))) ?_
      ((with_reducible refine' we_tuple ?_; refine' wa_cons ?_; refine' we_bin ?_); walk_at "n"; (with_reducible refine' we_int ?_; refine' o_sub ?_; refine' wa_cons ?_; refine' we_bin ?_); walk_at "n"; (with_reducible refine' we_int ?_; refine' o_sub ?_; refine' wa_cons ?_; refine' we_bin ?_); walk_at "n"; (with_reducible refine' we_int ?_; refine' o_add ?_; refine' wa_nil ?_))
      refine ⟨sz3, _, rfl, rfl, ?_⟩
      ((with_reducible refine' seq_next ?_; refine' ws_nil ?_))
      refine ⟨n - 1, by walk_at "om", bi - 1, bj - 1, bs + 1, by walk_at "om", hFV.left hb1 hb2 hb3, fun e => by walk_at "om", rfl⟩
    rintro _ _ ⟨rfl, bi, bj, bs, hFV, hNo, rfl⟩
    refine seq_next ?_
    refine ws_cons ?_
    refine W.mono (Q := NextQ (FlI a b alo ahi blo bhi (flW x aa ba d q j R alo ahi blo bhi))) (ws_while (FlN a b alo ahi blo bhi (flW x aa ba d q j R alo ahi blo bhi) (fun bi _ bs => ahi - (bi + bs))) (ahi - (bi + bs)).toNat ⟨bi, bj, bs, by have := hFV.1; have := hFV.2.1; walk_at "om", hFV, hNo, rfl⟩ ?_) ?_
    · rintro n σ ⟨bi, bj, bs, hn, hFV, hNo, rfl⟩
      obtain ⟨f1, f2, f3, f4, f5, f6⟩ := id hFV
      ((with_reducible refine' wb_and ?_; refine' wb_cmp ?_; refine' we_bin ?_); walk_at "n"; walk_at "n"; (with_reducible refine' o_add ?_); walk_at "n"; (with_reducible refine' o_lt ?_))
      refine ⟨_, rfl, fun hb1 => ?_, fun _ => ⟨fun h => by (cases h), fun _ => ⟨rfl, bi, bj, bs, hFV, hNo, rfl⟩⟩⟩
      have hb1 := of_decide_eq_true hb1
      ((with_reducible refine' wb_and ?_; refine' wb_cmp ?_; refine' we_bin ?_); walk_at "n"; walk_at "n"; (with_reducible refine' o_add ?_); walk_at "n"; (with_reducible refine' o_lt ?_))
      refine ⟨_, rfl, fun hb2 => ?_, fun _ => ⟨fun h => by (cases h), fun _ => ⟨rfl, bi, bj, bs, hFV, hNo, rfl⟩⟩⟩
      have hb2 := of_decide_eq_true hb2
      obtain ⟨p1, p2, p3⟩ := at_ok wb0 (show blo ≤ bj + bs by walk_at "om") hb2 wb2 hbl
      obtain ⟨r1, r2, r3⟩ := at_ok wa0 (show alo ≤ bi + bs by walk_at "om") hb1 wa2 hal
      refine wb_and ?_
      refine wb_not ?_
      refine wb_plain ?_
      refine we_bcall ?_
      walk_at "n"
      refine ⟨q, "set.__contains__", .ref j, rfl, ?_⟩
      ((with_reducible refine' wa_cons ?_; refine' we_sub ?_); walk_at "n"; (with_reducible refine' we_bin ?_); walk_at "n"; walk_at "n"; (with_reducible refine' o_add ?_))
      refine o_item (.inr ⟨hb, by simp⟩) p1 p2 (zs_get p3) ?_
      (with_reducible refine' wa_nil ?_)
      refine ⟨by walk_at "has", ?_⟩
      refine o_bcontc (by walk_at "has") (.inr ⟨hs, by simp⟩) ?_
      refine o_true_bool ?_
      refine ⟨fun _ => ?_, fun h => by (cases h)⟩
      ((with_reducible refine' wb_and ?_; refine' wb_cmp ?_; refine' we_sub ?_); walk_at "n"; (with_reducible refine' we_bin ?_); walk_at "n"; walk_at "n"; (with_reducible refine' o_add ?_))
      refine o_item (.inr ⟨ha, by simp⟩) r1 r2 (zs_get r3) ?_
      ((with_reducible refine' we_sub ?_); walk_at "n"; (with_reducible refine' we_bin ?_); walk_at "n"; walk_at "n"; (with_reducible refine' o_add ?_))
      refine o_item (.inr ⟨hb, by simp⟩) p1 p2 (zs_get p3) ?_
      (with_reducible refine' o_eq ?_)
      refine ⟨_, rfl, fun hb3 => ?_, fun _ => ⟨fun h => by (cases h), fun _ => ⟨rfl, bi, bj, bs, hFV, hNo, rfl⟩⟩⟩
      have hb3 := eq_of_beq hb3
      (with_reducible refine' wb_and_nil ?_)
      refine ⟨fun _ => ?_, fun h => by (cases h)⟩
      ((with_reducible refine' ws_cons ?_); ((with_reducible refine' ws_aug ?za47 ?zb47 ?_); (case za47 => exact rfl); (case zb47 => exact rfl)); (with_reducible refine' we_int ?_; refine' o_iadd ?_; refine' seq_next ?_; refine' ws_nil ?_))
      refine ⟨n - 1, by walk_at "om", bi, bj, bs + 1, by walk_at "om", hFV.right hb1 hb2 hb3, fun e => by walk_at "om", rfl⟩
    rintro _ _ ⟨rfl, bi, bj, bs, hFV, hNo, rfl⟩
    refine seq_next ?_
    refine ws_cons ?_
    refine W.mono (Q := NextQ (FlI a b alo ahi blo bhi (flW x aa ba d q j R alo ahi blo bhi))) (ws_while (FlN a b alo ahi blo bhi (flW x aa ba d q j R alo ahi blo bhi) (fun _ _ _ => 0)) 0 ⟨bi, bj, bs, by have := hFV.1; have := hFV.2.1; walk_at "om", hFV, hNo, rfl⟩ ?_) ?_
    · rintro n σ ⟨bi, bj, bs, hn, hFV, hNo, rfl⟩
      obtain ⟨f1, f2, f3, f4, f5, f6⟩ := id hFV
      ((with_reducible refine' wb_and ?_; refine' wb_cmp ?_); walk_at "n"; walk_at "n"; (with_reducible refine' o_gt ?_))
      refine ⟨_, rfl, fun hb1 => ?_, fun _ => ⟨fun h => by (cases h), fun _ => ⟨rfl, bi, bj, bs, hFV, hNo, rfl⟩⟩⟩
      have hb1 := of_decide_eq_true hb1
      ((with_reducible refine' wb_and ?_; refine' wb_cmp ?_); walk_at "n"; walk_at "n"; (with_reducible refine' o_gt ?_))
      refine ⟨_, rfl, fun hb2 => ?_, fun _ => ⟨fun h => by (cases h), fun _ => ⟨rfl, bi, bj, bs, hFV, hNo, rfl⟩⟩⟩
      have hb2 := of_decide_eq_true hb2
      obtain ⟨p1, p2, p3⟩ := at_ok wb0 (Int.le_sub_one_of_lt hb2) (show bj - 1 < bhi by walk_at "om") wb2 hbl
      refine wb_and ?_
      refine wb_plain ?_
      refine we_bcall ?_
      walk_at "n"
      refine ⟨q, "set.__contains__", .ref j, rfl, ?_⟩
      ((with_reducible refine' wa_cons ?_; refine' we_sub ?_); walk_at "n"; (with_reducible refine' we_bin ?_); walk_at "n"; (with_reducible refine' we_int ?_; refine' o_sub ?_))
      refine o_item (.inr ⟨hb, by simp⟩) p1 p2 (zs_get p3) ?_
      (with_reducible refine' wa_nil ?_)
      refine ⟨by walk_at "has", ?_⟩
      refine o_bcontc (by walk_at "has") (.inr ⟨hs, by simp⟩) ?_
      refine o_true_bool ?_
      exact ⟨fun h => by (cases h), fun _ => ⟨fun h => by (cases h), fun _ => ⟨rfl, bi, bj, bs, hFV, hNo, rfl⟩⟩⟩
    rintro _ _ ⟨rfl, bi, bj, bs, hFV, hNo, rfl⟩
    refine seq_next ?_
    refine ws_cons ?_
    refine W.mono (Q := NextQ (FlI a b alo ahi blo bhi (flW x aa ba d q j R alo ahi blo bhi))) (ws_while (FlN a b alo ahi blo bhi (flW x aa ba d q j R alo ahi blo bhi) (fun _ _ _ => 0)) 0 ⟨bi, bj, bs, by have := hFV.1; have := hFV.2.1; walk_at "om", hFV, hNo, rfl⟩ ?_) ?_
    · rintro n σ ⟨bi, bj, bs, hn, hFV, hNo, rfl⟩
      obtain ⟨f1, f2, f3, f4, f5, f6⟩ := id hFV
      ((with_reducible refine' wb_and ?_; refine' wb_cmp ?_; refine' we_bin ?_); walk_at "n"; walk_at "n"; (with_reducible refine' o_add ?_); walk_at "n"; (with_reducible refine' o_lt ?_))
      refine ⟨_, rfl, fun hb1 => ?_, fun _ => ⟨fun h => by (cases h), fun _ => ⟨rfl, bi, bj, bs, hFV, hNo, rfl⟩⟩⟩
      have hb1 := of_decide_eq_true hb1
      ((with_reducible refine' wb_and ?_; refine' wb_cmp ?_; refine' we_bin ?_); walk_at "n"; walk_at "n"; (with_reducible refine' o_add ?_); walk_at "n"; (with_reducible refine' o_lt ?_))
      refine ⟨_, rfl, fun hb2 => ?_, fun _ => ⟨fun h => by (cases h), fun _ => ⟨rfl, bi, bj, bs, hFV, hNo, rfl⟩⟩⟩
      have hb2 := of_decide_eq_true hb2
      obtain ⟨p1, p2, p3⟩ := at_ok wb0 (show blo ≤ bj + bs by walk_at "om") hb2 wb2 hbl
      refine wb_and ?_
      refine wb_plain ?_
      refine we_bcall ?_
      walk_at "n"
      refine ⟨q, "set.__contains__", .ref j, rfl, ?_⟩
      ((with_reducible refine' wa_cons ?_; refine' we_sub ?_); walk_at "n"; (with_reducible refine' we_bin ?_); walk_at "n"; walk_at "n"; (with_reducible refine' o_add ?_))
      refine o_item (.inr ⟨hb, by simp⟩) p1 p2 (zs_get p3) ?_
      (with_reducible refine' wa_nil ?_)
      refine ⟨by walk_at "has", ?_⟩
      refine o_bcontc (by walk_at "has") (.inr ⟨hs, by simp⟩) ?_
      refine o_true_bool ?_
      exact ⟨fun h => by (cases h), fun _ => ⟨fun h => by (cases h), fun _ => ⟨rfl, bi, bj, bs, hFV, hNo, rfl⟩⟩⟩
    rintro _ _ ⟨rfl, bi, bj, bs, hFV, hNo, rfl⟩
    refine seq_next ?_
    ((with_reducible refine' ws_cons ?_; refine' ws_return ?_; refine' we_call ?_); ((with_reducible refine' we_glob ?za48 ?zb48 ?_); (case za48 => exact rfl); (case zb48 => exact rfl)))
    refine ⟨_, rfl, by walk_at "callee", ?_⟩
    ((with_reducible refine' wa_cons ?_); walk_at "n"; (with_reducible refine' wa_cons ?_); walk_at "n"; (with_reducible refine' wa_cons ?_); walk_at "n"; (with_reducible refine' wa_nil ?_))
    refine wol_call_pure (x := aTri (.ref 135) (bi, bj, bs)) (fun s' vs' S' r' => mk_c (t := (bi, bj, bs)) (S'.cxUp 2) r') ?_
    (with_reducible refine' seq_ret ?_)
    exact ⟨⟨[], []⟩, ⟨List.nil_sublist _, fun _ _ h => by simp at h⟩, rfl, bi, bj, bs, rfl, hFV, hNo⟩
end
section
open PySem PySem.W PyProof.Rows PySem.Calls
set_option Elab.async false
set_option linter.unusedVariables false
set_option maxRecDepth 10000
theorem tri_ref {h : Heap} {t : Tri} {v : Value} (r : Rep h (aTri (.ref 135) t) v) : ∃ b dd n sl u x2 x3, v = .ref b ∧ h.get? b = some ⟨.ref 135, dd, .seq #[.int t.1 u, x2, x3] n, sl⟩ := by
  cases r with
  | @tup _ _ a dd vs n hc hd e hl k =>
    have rl : RepL h [.int t.1, .int t.2.1, .int t.2.2] vs := RepL.of_get hl k
    obtain ⟨v1, v2, v3, rfl, r1, r2, r3⟩ := rl.inv3
    cases r1
    exact ⟨_, _, _, _, _, _, _, rfl, e⟩
section
variable {F : Fx} {E : Value → Shared → Prop} {σ : Sig}
theorem o_sort {a : Addr} {bl : List Tri} {led' : List Tri → List (Addr × AO)} {Q : AV → Sig → Prop} (u : ∀ bl', Upd a (.list (ms bl)) (.list (ms bl')) σ.led (led' bl')) (hd : (bl.map (·.1)).Nodup) (h64 : bl.length < 64)
    (h : ∀ bl', bl'.Perm bl → bl'.Pairwise (fun x y => x.1 < y.1) → Q .none ⟨σ.vals, led' bl'⟩) : WOL F E Rep (fun vs => call (.builtin "list.sort") vs) [.ref a] σ Q := by
  rintro s vs S r
  obtain ⟨_, rfl, r1⟩ := r.inv1
  cases r1
  obtain ⟨ws, n, e, rl⟩ := S.has (.inl (u bl).mem)
  have hlen : bl.length = ws.length := by simpa using rl.length
  have hin : a ∈ σ.led.map (·.1) := List.mem_map_of_mem (u bl).mem
  have haK : (K F.w.params).lookup a = none := by
    cases q : (K F.w.params).lookup a with
    | none => rfl
    | some o => have := S.ok.top.kin a o q; rw [S.not_hT hin] at this; cases this
  have at_i : ∀ i, i < ws.length → Rep s.heap (aTri (.ref 135) (bl.getD i default)) (ws.getD i Value.none) := fun i hi => by
    refine rl.get (i := i) ?_ ?_
    · simp [ms, hlen ▸ hi]
    · simp [hi]
  refine wpAny_call_entry slot_list_sort ⟨_, e, rfl⟩ entry_list_sort (mt_sort (key := fun i => (bl.getD i default).1) (by have := S.units; show F.A.units + 1 < cLine; walk_at "om") S.inK haK e (by walk_at "om") (fun i hi => tri_ref (at_i i hi)) (fun i j hi hj hij q => ?_) fun h' c p hk hl hPR hAsc => ⟨_, rfl, ?_⟩) (args_list_sort _)
  · have h1 : i < (bl.map (·.1)).length := by simpa [hlen] using hi
    have h2 : j < (bl.map (·.1)).length := by simpa [hlen] using hj
    refine hij ((List.getElem_inj hd (h₀ := h1) (h₁ := h2)).mp ?_)
    simpa [hlen, hi, hj] using q
  · have mono : Mono s.heap h' := fun b c dd xs k hc e' => by
      by_cases hb : b = a
      · subst hb; rw [e] at e'; cases e'; exact absurd hc not_imm_list
      · exact hk b _ e' hb
    have hpl : p.toList.length = bl.length := by rw [Array.length_toList, hPR.1, hlen]
    have key : RepL h' (ms (p.toList.map fun i => bl.getD i default)) (p.toList.map fun i => ws.getD i Value.none) := by
      refine RepL.of_get (by simp) fun i y z hy hz => ?_
      simp only [ms, List.map_map, List.getElem?_map] at hy hz
      cases q : p.toList[i]? with
      | none => rw [q] at hy; cases hy
      | some m =>
        rw [q] at hy hz
        cases hy; cases hz
        have hm : m < ws.length := by simpa using hPR.2.mem_iff.mp (List.mem_of_getElem? q)
        exact (at_i m hm).mono mono
    refine ⟨.none, _, .none, S.upd (tk := s.toks) (u (p.toList.map fun i => bl.getD i default)) (fun b y e' nb => hk b y e' nb) mono ⟨_, c, hl, key⟩, mono, h _ ?_ ?_⟩
    · have := hPR.2.map fun i => bl.getD i default
      refine this.trans (List.Perm.of_eq ?_)
      rw [← hlen]
      exact List.ext_getElem (by simp) fun i p1 p2 => by simp [p2]
    · rw [List.pairwise_iff_getElem]
      intro i j hi hj hij
      simp only [List.length_map, hpl] at hi hj
      have := hAsc i j hij (by rw [← hlen]; exact hj)
      unfold kq at this
      have g : ∀ k (hk : k < p.size), p.getD k 0 = p[k] := fun k hk => by simp [Array.getD, hk]
      rw [g i (by rw [hPR.1, ← hlen]; exact hi), g j (by rw [hPR.1, ← hlen]; exact hj)] at this
      simpa using this
end
end
section
open PySem PySem.W PyProof.Rows PySem.Calls
set_option Elab.async false
set_option linter.unusedVariables false
set_option maxRecDepth 10000
/-! ## get_matching_blocks: plain mathematics -/
noncomputable abbrev Qd := Int × Int × Int × Int
noncomputable def Inc (l : List Int) : Prop := l.Pairwise (· < ·)
theorem Inc.nodup {l : List Int} (h : Inc l) : l.Nodup := List.Pairwise.imp (fun h => Int.ne_of_lt h) h
theorem Inc.at_lt {l : List Int} (h : Inc l) {i j : Int} (h0 : 0 ≤ i) (hij : i < j) (hj : j < l.length) : at' l i < at' l j := by
  have h1 : i.toNat < l.length := by walk_at "om"
  have h2 : j.toNat < l.length := by walk_at "om"
  have := (List.pairwise_iff_getElem.mp h) i.toNat j.toNat h1 h2 (by walk_at "om")
  simpa [at', List.getD, h1, h2] using this
theorem Inc.lt_of {l : List Int} (h : Inc l) {i j : Int} (h0 : 0 ≤ j) (hi : i < l.length) (hj : j < l.length) (e : at' l i < at' l j) (hi0 : 0 ≤ i) : i < j := by
  by_cases q : j ≤ i
  · by_cases q2 : j = i
    · subst q2; walk_at "om"
    · have := h.at_lt h0 (by walk_at "om" : j < i) hi; walk_at "om"
  · walk_at "om"
noncomputable def Pr (a b : List Int) (i j : Int) : Prop := 0 ≤ i ∧ i < a.length ∧ 0 ≤ j ∧ j < b.length ∧ at' a i = at' b j
noncomputable def Bk (a b : List Int) (t : Tri) : Prop := 0 ≤ t.1 ∧ t.1 + t.2.2 ≤ a.length ∧ 0 ≤ t.2.1 ∧ t.2.1 + t.2.2 ≤ b.length ∧ 1 ≤ t.2.2 ∧ ∀ r : Nat, (r : Int) < t.2.2 → at' a (t.1 + r) = at' b (t.2.1 + r)
noncomputable def inB (t : Tri) (i : Int) : Prop := t.1 ≤ i ∧ i < t.1 + t.2.2
noncomputable def inW (w : Qd) (i j : Int) : Prop := w.1 ≤ i ∧ i < w.2.1 ∧ w.2.2.1 ≤ j ∧ j < w.2.2.2
noncomputable def WinQ (a b : List Int) (w : Qd) : Prop := Win a b w.1 w.2.1 w.2.2.1 w.2.2.2
noncomputable def disj (x y : Int × Int) : Prop := x.2 ≤ y.1 ∨ y.2 ≤ x.1
noncomputable def ivB (t : Tri) : Int × Int := (t.1, t.1 + t.2.2)
noncomputable def ivW (w : Qd) : Int × Int := (w.1, w.2.1)
noncomputable def qsum (q : List Qd) : Int := (q.map fun w => w.2.1 - w.1).sum
noncomputable def msr (q : List Qd) : Nat := (q.map fun w => 2 * (w.2.1 - w.1).toNat + 1).sum
structure GInv (a b : List Int) (q : List Qd) (bl : List Tri) : Prop where
  win : ∀ w ∈ q, WinQ a b w
  blk : ∀ t ∈ bl, Bk a b t
  cov : ∀ i j, Pr a b i j → (∃ t ∈ bl, inB t i) ∨ ∃ w ∈ q, inW w i j
  dis : (bl.map ivB ++ q.map ivW).Pairwise disj
  len : (bl.length : Int) + qsum q ≤ a.length
theorem disj_symm {x y : Int × Int} (h : disj x y) : disj y x := h.elim .inr .inl
theorem disj_sub {x x' y : Int × Int} (h : disj x y) (h1 : x.1 ≤ x'.1) (h2 : x'.2 ≤ x.2) : disj x' y := by
  rcases h with h | h
  · exact .inl (by walk_at "om")
  · exact .inr (by walk_at "om")
noncomputable def nextL (w : Qd) (i j : Int) : List Qd := if w.1 < i ∧ w.2.2.1 < j then [(w.1, i, w.2.2.1, j)] else []
noncomputable def nextR (w : Qd) (i j k : Int) : List Qd := if i + k < w.2.1 ∧ j + k < w.2.2.2 then [(i + k, w.2.1, j + k, w.2.2.2)] else []
theorem qsum_append (p q : List Qd) : qsum (p ++ q) = qsum p + qsum q := by simp [qsum]
theorem msr_append (p q : List Qd) : msr (p ++ q) = msr p + msr q := by simp [msr]
theorem msr_one (w : Qd) : msr [w] = 2 * (w.2.1 - w.1).toNat + 1 := by simp [msr]
theorem qsum_one (w : Qd) : qsum [w] = w.2.1 - w.1 := by simp [qsum]
theorem msr_len (q : List Qd) : q.length ≤ msr q := by
  induction q with
  | nil => simp [msr]
  | cons w r ih => simp only [List.length_cons]; have : msr (w :: r) = 2 * (w.2.1 - w.1).toNat + 1 + msr r := by simp [msr]
                   walk_at "om"
variable {a b : List Int}
theorem GInv.drop {q : List Qd} {w : Qd} {bl : List Tri} (h : GInv a b (q ++ [w]) bl) (hn : NoP a b w.1 w.2.1 w.2.2.1 w.2.2.2) : GInv a b q bl := by
  have hw := h.win w (by simp)
  refine ⟨fun w' hw' => h.win w' (by simp [hw']), h.blk, fun i j hp => ?_, ?_, ?_⟩
  · rcases h.cov i j hp with c | ⟨w', hw', c⟩
    · exact .inl c
    · rcases List.mem_append.mp hw' with z | z
      · exact .inr ⟨w', z, c⟩
      · rw [List.mem_singleton.mp z] at c
        exact absurd hp.2.2.2.2 (hn i j c.1 c.2.1 c.2.2.1 c.2.2.2)
  · have := h.dis
    rw [List.map_append, ← List.append_assoc] at this
    exact (List.pairwise_append.mp this).1
  · have := h.len
    rw [qsum_append, qsum_one] at this
    have := hw.a1
    walk_at "om"
theorem GInv.split (ia : Inc a) (ib : Inc b) {q : List Qd} {w : Qd} {bl : List Tri} (h : GInv a b (q ++ [w]) bl) {i j k : Int} (hv : FV a b w.1 w.2.1 w.2.2.1 w.2.2.2 i j k) (hk : 1 ≤ k) :
    GInv a b (q ++ nextL w i j ++ nextR w i j k) (bl ++ [(i, j, k)]) ∧ msr (q ++ nextL w i j ++ nextR w i j k) < msr (q ++ [w]) := by
  have hw := h.win w (by simp)
  obtain ⟨v1, v2, v3, v4, v5, v6⟩ := hv
  obtain ⟨w1, w2, w3, w4, w5, w6⟩ := hw
  have e0 := v6 0 (by walk_at "om")
  have e1 := v6 (k - 1).toNat (by walk_at "om")
  rw [show i + ((0 : Nat) : Int) = i by walk_at "om", show j + ((0 : Nat) : Int) = j by walk_at "om"] at e0
  rw [show i + (((k - 1).toNat : Nat) : Int) = i + k - 1 by walk_at "om", show j + (((k - 1).toNat : Nat) : Int) = j + k - 1 by walk_at "om"] at e1
  have hL : ∀ x ∈ nextL w i j, x = (w.1, i, w.2.2.1, j) ∧ w.1 < i ∧ w.2.2.1 < j := fun x hx => by
    unfold nextL at hx
    split at hx
    · rename_i c; exact ⟨List.mem_singleton.mp hx, c⟩
    · cases hx
  have hR : ∀ x ∈ nextR w i j k, x = (i + k, w.2.1, j + k, w.2.2.2) ∧ i + k < w.2.1 ∧ j + k < w.2.2.2 := fun x hx => by
    unfold nextR at hx
    split at hx
    · rename_i c; exact ⟨List.mem_singleton.mp hx, c⟩
    · cases hx
  have sL : qsum (nextL w i j) ≤ i - w.1 ∧ msr (nextL w i j) ≤ 2 * (i - w.1).toNat + 1 := by
    unfold nextL
    split
    · exact ⟨by rw [qsum_one]; simp, by rw [msr_one]; simp⟩
    · exact ⟨by simp [qsum]; walk_at "om", by simp [msr]⟩
  have sR : qsum (nextR w i j k) ≤ w.2.1 - (i + k) ∧ msr (nextR w i j k) ≤ 2 * (w.2.1 - (i + k)).toNat + 1 := by
    unfold nextR
    split
    · exact ⟨by rw [qsum_one]; simp, by rw [msr_one]; simp⟩
    · exact ⟨by simp [qsum]; walk_at "om", by simp [msr]⟩
  refine ⟨⟨fun x hx => ?_, fun t ht => ?_, fun i' j' hp => ?_, ?_, ?_⟩, ?_⟩
  · rcases List.mem_append.mp hx with hx | hx
    · rcases List.mem_append.mp hx with hx | hx
      · exact h.win x (by simp [hx])
      · obtain ⟨rfl, c1, c2⟩ := hL x hx
        refine ⟨?_, ?_, ?_, ?_, ?_, ?_⟩ <;> show _ ≤ _ <;> (try dsimp only) <;> walk_at "om"
    · obtain ⟨rfl, c1, c2⟩ := hR x hx
      refine ⟨?_, ?_, ?_, ?_, ?_, ?_⟩ <;> show _ ≤ _ <;> (try dsimp only) <;> walk_at "om"
  · rcases List.mem_append.mp ht with ht | ht
    · exact h.blk t ht
    · rw [List.mem_singleton.mp ht]
      exact ⟨by show 0 ≤ i; walk_at "om", by show i + k ≤ _; walk_at "om", by show 0 ≤ j; walk_at "om", by show j + k ≤ _; walk_at "om", hk, v6⟩
  · rcases h.cov i' j' hp with ⟨t, ht, c⟩ | ⟨x, hx, c⟩
    · exact .inl ⟨t, by simp [ht], c⟩
    · rcases List.mem_append.mp hx with hx | hx
      · exact .inr ⟨x, by simp [hx], c⟩
      · rw [List.mem_singleton.mp hx] at c
        obtain ⟨c1, c2, c3, c4⟩ := c
        obtain ⟨p1, p2, p3, p4, p5⟩ := hp
        by_cases q1 : i' < i
        · have := ia.at_lt p1 q1 (by walk_at "om")
          have hj : j' < j := ib.lt_of (by walk_at "om") p4 (by walk_at "om") (by rw [← p5, ← e0]; exact this) p3
          refine .inr ⟨(w.1, i, w.2.2.1, j), ?_, c1, q1, c3, hj⟩
          have : nextL w i j = [(w.1, i, w.2.2.1, j)] := if_pos ⟨by walk_at "om", by walk_at "om"⟩
          rw [this]; simp
        · by_cases q2 : i' < i + k
          · exact .inl ⟨(i, j, k), by simp, by show i ≤ i'; walk_at "om", q2⟩
          · have := ia.at_lt (by walk_at "om") (by walk_at "om" : i + k - 1 < i') p2
            have hj : j + k - 1 < j' := ib.lt_of p3 (by walk_at "om") p4 (by rw [← e1, ← p5]; exact this) (by walk_at "om")
            refine .inr ⟨(i + k, w.2.1, j + k, w.2.2.2), ?_, by show i + k ≤ i'; walk_at "om", c2, by show j + k ≤ j'; walk_at "om", c4⟩
            have : nextR w i j k = [(i + k, w.2.1, j + k, w.2.2.2)] := if_pos ⟨by walk_at "om", by walk_at "om"⟩
            rw [this]; simp
  · have d0 := h.dis
    rw [List.map_append, ← List.append_assoc] at d0
    obtain ⟨d1, _, d2⟩ := List.pairwise_append.mp d0
    have dw : ∀ y ∈ bl.map ivB ++ q.map ivW, disj y (ivW w) := fun y hy => d2 y hy (ivW w) (by simp)
    have perm : (bl.map ivB ++ q.map ivW ++ ((i, i + k) :: (nextL w i j ++ nextR w i j k).map ivW)).Perm ((bl ++ [(i, j, k)]).map ivB ++ (q ++ nextL w i j ++ nextR w i j k).map ivW) := by
      rw [List.map_append, List.map_append, List.map_append, List.map_append, List.append_assoc, List.append_assoc, List.append_assoc]
      refine List.Perm.append_left _ ?_
      show (q.map ivW ++ ((i, i + k) :: ((nextL w i j).map ivW ++ (nextR w i j k).map ivW))).Perm ((i, i + k) :: (q.map ivW ++ ((nextL w i j).map ivW ++ (nextR w i j k).map ivW)))
      exact List.perm_middle
    refine (perm.pairwise_iff fun h => disj_symm h).mp ?_
    have sub : ∀ y ∈ (i, i + k) :: (nextL w i j ++ nextR w i j k).map ivW, w.1 ≤ y.1 ∧ y.2 ≤ w.2.1 := fun y hy => by
      rcases List.mem_cons.mp hy with rfl | hy
      · exact ⟨v1, v2⟩
      · obtain ⟨x, hx, rfl⟩ := List.mem_map.mp hy
        rcases List.mem_append.mp hx with hx | hx
        · obtain ⟨rfl, c1, c2⟩ := hL x hx; exact ⟨by show w.1 ≤ w.1; walk_at "om", by show i ≤ _; walk_at "om"⟩
        · obtain ⟨rfl, c1, c2⟩ := hR x hx; exact ⟨by show w.1 ≤ i + k; walk_at "om", by show w.2.1 ≤ w.2.1; walk_at "om"⟩
    refine List.pairwise_append.mpr ⟨d1, ?_, fun y hy z hz => disj_symm (disj_sub (disj_symm (dw y hy)) (sub z hz).1 (sub z hz).2)⟩
    refine List.pairwise_cons.mpr ⟨fun y hy => ?_, ?_⟩
    · obtain ⟨x, hx, rfl⟩ := List.mem_map.mp hy
      rcases List.mem_append.mp hx with hx | hx
      · obtain ⟨rfl, c1, c2⟩ := hL x hx; exact .inr (Int.le_refl _)
      · obtain ⟨rfl, c1, c2⟩ := hR x hx; exact .inl (Int.le_refl _)
    · rw [List.map_append]
      refine List.pairwise_append.mpr ⟨?_, ?_, fun y hy z hz => ?_⟩
      · unfold nextL; split <;> simp
      · unfold nextR; split <;> simp
      · obtain ⟨x, hx, rfl⟩ := List.mem_map.mp hy
        obtain ⟨x', hx', rfl⟩ := List.mem_map.mp hz
        obtain ⟨rfl, _⟩ := hL x hx
        obtain ⟨rfl, _⟩ := hR x' hx'
        exact .inl (by show i ≤ i + k; walk_at "om")
  · have := h.len
    rw [qsum_append, qsum_one] at this
    rw [qsum_append, qsum_append]
    simp only [List.length_append, List.length_singleton]
    walk_at "om"
  · rw [msr_append, msr_append, msr_append, msr_one]
    obtain ⟨x, ex⟩ := Int.eq_ofNat_of_zero_le (Int.sub_nonneg_of_le v1)
    obtain ⟨y, ey⟩ := Int.eq_ofNat_of_zero_le (Int.sub_nonneg_of_le v2)
    obtain ⟨z, ez⟩ := Int.eq_ofNat_of_zero_le (Int.sub_nonneg_of_le w2)
    have hx := sL.2
    have hy := sR.2
    rw [ex, Int.toNat_natCast] at hx
    rw [ey, Int.toNat_natCast] at hy
    rw [ez, Int.toNat_natCast, Nat.add_assoc]
    have hxy : x + y + 1 ≤ z := by walk_at "om"
    clear sL sR ex ey ez
    walk_at "om"
theorem GInv.start : GInv a b [(0, (a.length : Int), 0, (b.length : Int))] [] := by
  refine ⟨fun w hw => ?_, fun t ht => (nomatch ht), fun i j hp => .inr ⟨_, .head _, hp.1, hp.2.1, hp.2.2.1, hp.2.2.2.1⟩, by simp, by simp [qsum]⟩
  rw [List.mem_singleton.mp hw]
  refine ⟨?_, ?_, ?_, ?_, ?_, ?_⟩ <;> show _ ≤ _ <;> (try dsimp only) <;> walk_at "om"
theorem GInv.nodup {bl : List Tri} (h : GInv a b [] bl) : (bl.map (·.1)).Nodup := by
  have d := h.dis
  rw [List.map_nil, List.append_nil, List.pairwise_map] at d
  unfold List.Nodup
  rw [List.pairwise_map]
  refine List.Pairwise.imp_of_mem (fun {x y} hx hy hd => ?_) d
  have b1 := (h.blk x hx).2.2.2.2.1
  have b2 := (h.blk y hy).2.2.2.2.1
  rcases hd with hd | hd
  · have : x.1 + x.2.2 ≤ y.1 := hd; walk_at "om"
  · have : y.1 + y.2.2 ≤ x.1 := hd; walk_at "om"
end
section
open PySem PySem.W PyProof.Rows PySem.Calls
set_option Elab.async false
set_option linter.unusedVariables false
set_option maxRecDepth 10000
/-! ## the merging of neighbours gives the runs -/
noncomputable def mg (st : Tri × List Tri) (t : Tri) : Tri × List Tri :=
  if st.1.1 + st.1.2.2 = t.1 ∧ st.1.2.1 + st.1.2.2 = t.2.1 then ((st.1.1, st.1.2.1, st.1.2.2 + t.2.2), st.2) else (t, if st.1.2.2 ≠ 0 then st.2 ++ [st.1] else st.2)
noncomputable def view (st : Tri × List Tri) : List Tri := if st.1.2.2 ≠ 0 then st.2 ++ [st.1] else st.2
noncomputable def mgAll (bl : List Tri) : Tri × List Tri := bl.foldl mg ((0, 0, 0), [])
noncomputable def ext (R : List Tri) (t : Tri) : List Tri := match R.getLast? with
  | some u => if u.1 + u.2.2 = t.1 ∧ u.2.1 + u.2.2 = t.2.1 then R.dropLast ++ [(u.1, u.2.1, u.2.2 + t.2.2)] else R ++ [t]
  | none => R ++ [t]
theorem ext_snoc (R : List Tri) (u t : Tri) : ext (R ++ [u]) t = if u.1 + u.2.2 = t.1 ∧ u.2.1 + u.2.2 = t.2.1 then R ++ [(u.1, u.2.1, u.2.2 + t.2.2)] else R ++ [u] ++ [t] := by
  unfold ext
  rw [List.getLast?_concat]
  simp
theorem ext_nil (t : Tri) : ext [] t = [t] := rfl
theorem snoc_or (R : List Tri) : R = [] ∨ ∃ R' u, R = R' ++ [u] := by
  rcases List.eq_nil_or_concat R with h | ⟨R', u, h⟩
  · exact .inl h
  · exact .inr ⟨R', u, by simpa using h⟩
theorem ext_more (R : List Tri) (i j k : Int) : ext (ext R (i, j, k)) (i + k, j + k, 1) = ext R (i, j, k + 1) := by
  rcases snoc_or R with rfl | ⟨R', u, rfl⟩
  · rw [ext_nil, ext_nil]
    rw [show [(i, j, k)] = [] ++ [((i, j, k) : Tri)] by rfl, ext_snoc, if_pos ⟨rfl, rfl⟩]
    rfl
  · rw [ext_snoc, ext_snoc]
    by_cases c : u.1 + u.2.2 = i ∧ u.2.1 + u.2.2 = j
    · rw [if_pos c, if_pos c, ext_snoc, if_pos ⟨by show u.1 + (u.2.2 + k) = i + k; walk_at "om", by show u.2.1 + (u.2.2 + k) = j + k; walk_at "om"⟩]
      show R' ++ [(u.1, u.2.1, u.2.2 + k + 1)] = R' ++ [(u.1, u.2.1, u.2.2 + (k + 1))]
      rw [Int.add_assoc]
    · rw [if_neg c, if_neg c, ext_snoc, if_pos ⟨rfl, rfl⟩]
structure WfS (st : Tri × List Tri) : Prop where
  pos : 0 ≤ st.1.2.2
  zero : st.1.2.2 = 0 → st = ((0, 0, 0), [])
theorem view_mg {st : Tri × List Tri} (h : WfS st) {t : Tri} (ht : 1 ≤ t.2.2) : view (mg st t) = ext (view st) t ∧ WfS (mg st t) := by
  by_cases z : st.1.2.2 = 0
  · rw [h.zero z]
    unfold mg
    by_cases c : (0 : Int) + 0 = t.1 ∧ (0 : Int) + 0 = t.2.1
    · rw [if_pos c]
      obtain ⟨t1, t2, t3⟩ := t
      obtain ⟨c1, c2⟩ := c
      simp only at c1 c2 ht
      subst c1 c2
      refine ⟨?_, by show (0 : Int) ≤ 0 + t3; walk_at "om", fun e => ?_⟩
      · have e1 : view ((0, 0, 0), []) = [] := rfl
        rw [e1, ext_nil]
        unfold view
        rw [if_pos (by show (0 : Int) + t3 ≠ 0; walk_at "om")]
        simp
      · have : (0 : Int) + t3 = 0 := e; walk_at "om"
    · rw [if_neg c]
      refine ⟨?_, by show (0 : Int) ≤ t.2.2; walk_at "om", fun e => ?_⟩
      · have e1 : view ((0, 0, 0), []) = [] := rfl
        rw [e1, ext_nil]
        unfold view
        rw [if_pos (by show t.2.2 ≠ 0; walk_at "om")]
        simp
      · have : t.2.2 = 0 := e; walk_at "om"
  · have hp := h.pos
    have ev : view st = st.2 ++ [st.1] := if_pos z
    rw [ev, ext_snoc]
    unfold mg
    by_cases c : st.1.1 + st.1.2.2 = t.1 ∧ st.1.2.1 + st.1.2.2 = t.2.1
    · rw [if_pos c, if_pos c]
      refine ⟨if_pos (by show st.1.2.2 + t.2.2 ≠ 0; walk_at "om"), by show 0 ≤ st.1.2.2 + t.2.2; walk_at "om", fun e => ?_⟩
      have : st.1.2.2 + t.2.2 = 0 := e; walk_at "om"
    · rw [if_neg c, if_neg c, if_pos z]
      refine ⟨if_pos (by show t.2.2 ≠ 0; walk_at "om"), by show 0 ≤ t.2.2; walk_at "om", fun e => ?_⟩
      have : t.2.2 = 0 := e; walk_at "om"
variable {a b : List Int}
theorem runsStep_ext (R : List Tri) (i : Nat) (x : Int) (hx : x ∈ b) : runsStep b R i x = ext R ((i : Int), (idx x b : Int), 1) := by
  unfold runsStep ext
  rw [if_pos hx]
  all_goals (cases R.getLast? <;> rfl)
theorem idx_at (hb : b.Nodup) {j : Nat} (hj : j < b.length) {x : Int} (e : b.getD j 0 = x) : x ∈ b ∧ idx x b = j := by
  have hx : x ∈ b := by rw [← e]; simp [List.getD, hj]
  obtain ⟨h1, _⟩ := idx_spec hx
  refine ⟨hx, ?_⟩
  obtain ⟨h2, h3⟩ := List.getElem?_eq_some_iff.mp h1
  have e' : b[j] = x := by simpa [List.getD, hj] using e
  exact (List.getElem_inj hb).mp (h3.trans e'.symm)
/-- no pair between e and e' -/
theorem runs_gap (e : Nat) : ∀ d, (∀ i : Nat, e ≤ i → i < e + d → a.getD i 0 ∉ b) → runsTo a b (e + d) = runsTo a b e
  | 0, _ => rfl
  | d + 1, h => by
    show runsStep b (runsTo a b (e + d)) (e + d) (a.getD (e + d) 0) = _
    unfold runsStep
    rw [if_neg (h (e + d) (by walk_at "om") (by walk_at "om"))]
    exact runs_gap e d fun i h1 h2 => h i h1 (by walk_at "om")
theorem runs_block (hb : b.Nodup) (i j : Nat) : ∀ k : Nat, (∀ r : Nat, r < k + 1 → a.getD (i + r) 0 = b.getD (j + r) 0) → j + (k + 1) ≤ b.length → runsTo a b (i + (k + 1)) = ext (runsTo a b i) ((i : Int), (j : Int), ((k + 1 : Nat) : Int))
  | 0, h, hj => by
    have e := h 0 (by walk_at "om")
    obtain ⟨h1, h2⟩ := idx_at hb (j := j) (by walk_at "om") e.symm
    show runsStep b (runsTo a b i) i (a.getD i 0) = _
    rw [runsStep_ext _ _ _ (by simpa using h1)]
    simp only [Nat.add_zero] at h2
    rw [h2]; rfl
  | k + 1, h, hj => by
    have ih := runs_block hb i j k (fun r hr => h r (by walk_at "om")) (by walk_at "om")
    have e := h (k + 1) (by walk_at "om")
    obtain ⟨h1, h2⟩ := idx_at hb (j := j + (k + 1)) (by walk_at "om") e.symm
    show runsStep b (runsTo a b (i + (k + 1))) (i + (k + 1)) (a.getD (i + (k + 1)) 0) = _
    rw [runsStep_ext _ _ _ h1, h2, ih]
    have := ext_more (runsTo a b i) i j ((k + 1 : Nat) : Int)
    rw [show ((i + (k + 1) : Nat) : Int) = (i : Int) + ((k + 1 : Nat) : Int) by walk_at "om", show ((j + (k + 1) : Nat) : Int) = (j : Int) + ((k + 1 : Nat) : Int) by walk_at "om", this]
    congr 1
/-- blocks in order, from e on -/
theorem merge_runs (hb : b.Nodup) : ∀ (bl : List Tri) (e : Nat) (st : Tri × List Tri), e ≤ a.length → WfS st → view st = runsTo a b e → (∀ t ∈ bl, Bk a b t) → (∀ t ∈ bl, (e : Int) ≤ t.1) → bl.Pairwise (fun x y => x.1 + x.2.2 ≤ y.1) →
    (∀ i j, Pr a b i j → (e : Int) ≤ i → ∃ t ∈ bl, inB t i) → view (bl.foldl mg st) = runsTo a b a.length
  | [], e, st, he, wf, hv, _, _, _, hc => by
    show view st = _
    rw [hv]
    obtain ⟨d, ed⟩ : ∃ d, a.length = e + d := ⟨a.length - e, by walk_at "om"⟩
    have := runs_gap (a := a) (b := b) e d fun i h1 h2 hm => by
      obtain ⟨j, hj, ej⟩ := List.getElem_of_mem hm
      have hia : i < a.length := Nat.lt_of_lt_of_eq h2 ed.symm
      obtain ⟨t, ht, _⟩ := hc i j ⟨Int.natCast_nonneg _, Int.ofNat_lt.mpr hia, Int.natCast_nonneg _, Int.ofNat_lt.mpr hj, by simp only [at', Int.toNat_natCast]; rw [← ej]; simp [List.getD, hj]⟩ (Int.ofNat_le.mpr h1)
      cases ht
    rw [← ed] at this
    exact this.symm
  | t :: r, e, st, he, wf, hv, hbk, hst, hpw, hc => by
    obtain ⟨b1, b2, b3, b4, b5, b6⟩ := hbk t (.head _)
    have hs := hst t (.head _)
    have pw := List.pairwise_cons.mp hpw
    obtain ⟨v, wf'⟩ := view_mg wf b5
    show view (r.foldl mg (mg st t)) = _
    obtain ⟨k, hk⟩ : ∃ k : Nat, t.2.2 = ((k + 1 : Nat) : Int) := ⟨(t.2.2 - 1).toNat, by walk_at "om"⟩
    obtain ⟨d, eT⟩ : ∃ d : Nat, t.1 = ((e + d : Nat) : Int) := ⟨t.1.toNat - e, by walk_at "om"⟩
    obtain ⟨S, eS⟩ : ∃ S : Nat, t.2.1 = (S : Int) := ⟨t.2.1.toNat, (Int.toNat_of_nonneg b3).symm⟩
    have hea : e + d + (k + 1) ≤ a.length := by rw [eT, hk] at b2; exact Int.ofNat_le.mp b2
    have heb : S + (k + 1) ≤ b.length := by rw [eS, hk] at b4; exact Int.ofNat_le.mp b4
    have gap := runs_gap (a := a) (b := b) e d fun i h1 h2 hm => by
      obtain ⟨j, hj, ej⟩ := List.getElem_of_mem hm
      have hia : i < a.length := by walk_at "om"
      obtain ⟨u, hu, c⟩ := hc i j ⟨Int.natCast_nonneg _, Int.ofNat_lt.mpr hia, Int.natCast_nonneg _, Int.ofNat_lt.mpr hj, by simp only [at', Int.toNat_natCast]; rw [← ej]; simp [List.getD, hj]⟩ (Int.ofNat_le.mpr h1)
      rcases List.mem_cons.mp hu with rfl | hu
      · have := c.1; walk_at "om"
      · have := pw.1 u hu; have := c.1; walk_at "om"
    have blk := runs_block (a := a) hb (e + d) S k (fun r hr => by
      have := b6 r (by rw [hk]; exact Int.ofNat_lt.mpr hr)
      rw [eT, eS] at this
      exact this) heb
    refine merge_runs hb r (e + d + (k + 1)) (mg st t) hea wf' ?_ (fun u hu => hbk u (.tail _ hu)) (fun u hu => by have := pw.1 u hu; walk_at "om") pw.2 fun i j hp hi => ?_
    · rw [v, hv, ← gap, blk]
      congr 1
      exact Prod.ext eT (Prod.ext eS hk)
    · obtain ⟨u, hu, c⟩ := hc i j hp (by walk_at "om")
      rcases List.mem_cons.mp hu with rfl | hu
      · have := c.2; walk_at "om"
      · exact ⟨u, hu, c⟩
/-- the blocks, sorted and merged -/
theorem blocks_runs (hb : b.Nodup) {bl bl' : List Tri} (h : GInv a b [] bl) (hp : bl'.Perm bl) (hs : bl'.Pairwise fun x y => x.1 < y.1) : view (mgAll bl') = runsTo a b a.length := by
  have blk : ∀ t ∈ bl', Bk a b t := fun t ht => h.blk t (hp.mem_iff.mp ht)
  refine merge_runs hb bl' 0 _ (Nat.zero_le _) ⟨Int.le_refl _, fun _ => rfl⟩ rfl blk (fun t ht => (blk t ht).1) ?_ fun i j hpr _ => ?_
  · have d := h.dis
    rw [List.map_nil, List.append_nil, List.pairwise_map] at d
    have d' : bl'.Pairwise fun x y => disj (ivB x) (ivB y) := (hp.pairwise_iff fun h => disj_symm h).mpr d
    refine List.Pairwise.imp_of_mem (fun {x y} hx hy hxy => ?_) (d'.and hs)
    have b1 := (blk x hx).2.2.2.2.1
    have b2 := (blk y hy).2.2.2.2.1
    obtain ⟨hd, hlt⟩ := hxy
    rcases hd with hd | hd
    · exact hd
    · have : y.1 + y.2.2 ≤ x.1 := hd; walk_at "om"
  · rcases h.cov i j hpr with ⟨t, ht, c⟩ | ⟨w, hw, _⟩
    · exact ⟨t, hp.mem_iff.mpr ht, c⟩
    · cases hw
end
section
open PySem PySem.W PyProof.Rows PySem.Calls
set_option Elab.async false
set_option linter.unusedVariables false
set_option maxRecDepth 10000
theorem mp_next_lookup : typeLookup (.type "map") "__next__" = pure (some (.builtin "map.__next__")) := by rw [typeLookup_type, builtinLookup_eq_fast]; kernel_rfl
theorem mp_next_slot : Slot "map" "__next__" "map.__next__" := .of (owner := "map") (n := "__next__") mp_next_lookup (by decide +kernel) (by decide +kernel) (by decide +kernel) (.inl (by decide +kernel)) (by rw [isSubtype_type]; kernel_rfl)
theorem mp_next_entry : entryFor table "map.__next__" = some Builtin.«map.__next__» := entryFor_of_tree (by kernel_rfl)
theorem mp_next_args (a : Value) : argsOk "map.__next__" ⟨[a], []⟩ := by unfold argsOk; kernel_rfl
theorem mp_iter_lookup : typeLookup (.type "map") "__iter__" = pure (some (.builtin "map.__iter__")) := by rw [typeLookup_type, builtinLookup_eq_fast]; kernel_rfl
theorem mp_iter_slot : Slot "map" "__iter__" "map.__iter__" := .of (owner := "map") (n := "__iter__") mp_iter_lookup (by decide +kernel) (by decide +kernel) (by decide +kernel) (.inl (by decide +kernel)) (by rw [isSubtype_type]; kernel_rfl)
theorem mp_iter_entry : entryFor table "map.__iter__" = some Builtin.«dict_keyiterator.__iter__» :=
  entryFor_alias (id' := "dict_keyiterator.__iter__") (by kernel_rfl) (by first | rfl | decide +kernel | (unfold String.splitOn; simp +decide [String.splitOnAux])) (by decide +kernel) (by kernel_rfl)
theorem mp_iter_args (a : Value) : argsOk "map.__iter__" ⟨[a], []⟩ := by unfold argsOk; kernel_rfl
theorem mp_no_len : typeLookup (.type "map") "__len__" = pure none := by rw [typeLookup_type, builtinLookup_eq_fast]; kernel_rfl
theorem mp_no_hint : typeLookup (.type "map") "__length_hint__" = pure none := by rw [typeLookup_type, builtinLookup_eq_fast]; kernel_rfl
theorem mp_mro : mroOf (.type "map") = pure [.type "map", .type "object"] := by rw [mroOf_type]; kernel_rfl
theorem mp_lookup_new : typeLookup (.type "map") "__new__" = pure (some (.builtin "map.__new__")) := by rw [typeLookup_type, builtinLookup_eq_fast]; kernel_rfl
theorem mp_init_lookup : typeLookup (.type "map") "__init__" = pure (some (.builtin "object.__init__")) := by rw [typeLookup_type, builtinLookup_eq_fast]; kernel_rfl
theorem mp_init_slot : Slot "map" "__init__" "object.__init__" := .of (owner := "object") (n := "__init__") mp_init_lookup (by decide +kernel) (by decide +kernel) (by decide +kernel) (.inl (by decide +kernel)) (by rw [isSubtype_type]; kernel_rfl)
theorem mp_called : TypeCalled "map" "map.__new__" "object.__init__" :=
  ⟨by decide +kernel, by decide +kernel, ⟨_, _, mp_mro⟩, madeBy_type mp_mro mp_lookup_new (by decide +kernel), by decide +kernel, by rw [isSubtype_type]; kernel_rfl, mp_init_slot⟩
theorem mp_typeCall (a b : Value) : checkTypeCall "map" ⟨[a, b], []⟩ = pure () := by kernel_rfl
theorem mp_newCall (a b : Value) : checkBuiltinCall "map.__new__" ⟨[.type "map", a, b], []⟩ = pure () := by kernel_rfl
theorem mp_new_entry : entryFor table "map.__new__" = some Builtin.«map.__new__» := entryFor_of_tree (by kernel_rfl)
theorem mp_sub : isSubtype (.type "map") (.type "map") = pure true := by rw [isSubtype_type]; kernel_rfl
noncomputable abbrev mapO (T q : Addr) : Obj := { cls := .type "map", data := .fields #[.ref T, .ref q] }
noncomputable abbrev mapH1 (h : Heap) (l : Addr) : Heap := h.push { cls := .type "list_iterator", data := .fields #[.ref l, .int 0 0] }
noncomputable abbrev mapH2 (h : Heap) (l : Addr) : Heap := (mapH1 h l).push { cls := .type "tuple", data := .seq #[.ref h.objs.size] }
noncomputable abbrev mapH3 (h : Heap) (l q : Addr) : Heap := (mapH2 h l).push (mapO (mapH1 h l).objs.size q)
theorem mp_new_meets (q l : Addr) (xs : Array Value) :
    Meets (Builtin.«map.__new__» ⟨[.type "map", .ref q, .ref l], []⟩) (fun _ R s => s.heap.IsList l xs ∧ R (.ok (.ret (.ref (mapH2 s.heap l).objs.size))) { s with heap := mapH3 s.heap l q }) :=
  .of_wp fun prog w A R s h => by
    obtain ⟨hp, g, d, tk, os⟩ := s; obtain ⟨hl, h⟩ := h
    have hsub := mp_sub
    have hL : Heap.IsList (Shared.heap ⟨hp, g, d, tk, os⟩) l xs := hl
    wp_walk using wpAny_pyIter_list hL
    exact ⟨_, rfl, h⟩
section
variable {w : World} {A : Around} {E : Value → Shared → Prop} {s : Shared}
theorem call_map {q l : Addr} {xs : Array Value} {Q : Value → Shared → Prop} (hl : s.heap.IsList l xs)
    (h : ∀ h', h'.get? (s.heap.objs.size + 2) = some (mapO (s.heap.objs.size + 1) q) → h'.get? (s.heap.objs.size + 1) = some { cls := .type "tuple", data := .seq #[.ref s.heap.objs.size] } → h'.IsListIter s.heap.objs.size l 0 →
      (∀ c o, s.heap.get? c = some o → h'.get? c = some o) → Q (.ref (s.heap.objs.size + 2)) { s with heap := h' }) :
    wpAny (model pw w) A (call (.type "map") [.ref q, .ref l]) Q E s := by
  refine callType_new mp_called (by decide) (mp_typeCall _ _) (mp_newCall _ _) (fun obj => PySem.F.args_object_init_3 obj _ _) mp_new_entry (mp_new_meets q l xs) ⟨hl, ?_⟩
  have z1 : (mapH1 s.heap l).objs.size = s.heap.objs.size + 1 := Heap.size_push ..
  have z2 : (mapH2 s.heap l).objs.size = s.heap.objs.size + 2 := by rw [Heap.size_push, z1]
  have g3 : (mapH3 s.heap l q).get? (mapH2 s.heap l).objs.size = some _ := Heap.get?_push_size _ rfl
  have g2 : (mapH3 s.heap l q).get? (mapH1 s.heap l).objs.size = some _ := Heap.get?_push_of_some _ (Heap.get?_push_size _ rfl)
  have g1 : (mapH3 s.heap l q).get? s.heap.objs.size = some _ := Heap.get?_push_of_some _ (Heap.get?_push_of_some _ (Heap.get?_push_size _ rfl))
  rw [z2] at g3
  rw [z1] at g2
  show _ ∧ _
  rw [z2]
  refine ⟨⟨_, g3, rfl⟩, h _ ?_ g2 ⟨_, g1, rfl, rfl⟩ fun c o x => Heap.get?_push_of_some _ (Heap.get?_push_of_some _ (Heap.get?_push_of_some _ x))⟩
  rw [z1] at g3
  exact g3
end
end
section
open PySem PySem.W PyProof.Rows PySem.Calls
set_option Elab.async false
set_option linter.unusedVariables false
set_option maxRecDepth 10000
theorem Cx.room {w : World} {hT : Heap} {A A' : Around} {s s' : Shared} {k : Nat} (C : Cx w hT A s (k + 1)) (hh : A'.handled = A.handled) (hd : A'.depth = A.depth) (hu : A'.units ≤ A.units + 20) (ht : ∀ b o, hT.get? b = some o → s'.heap.get? b = some o) : Cx w hT A' s' k :=
  ⟨C.top, ht, hh.trans C.hh, by have := C.dep; walk_at "om", by have := C.un; walk_at "om"⟩
section
variable {w : World} {hT : Heap} {A : Around} {E : Value → Shared → Prop} {s : Shared} {M T I na q S : Addr} {l : List Tri} {i : Nat}
/-- the bound method Match._make, called -/
theorem bm_make {R : Result → Shared → Prop} {t : Tri} {v : Value} (C : Cx w hT A s 1) (hq : s.heap.get? q = some (methodObj (.ref 89) (.ref 135))) (r : Rep s.heap (aTri (.type "tuple") t) v)
    (h : ∀ r' s', Ret w s [] (fun y led => y = aTri (.ref 135) t ∧ led = []) r' s' → R r' s') : codeAny (model pw w) A (.call (.ref q) ⟨[v], []⟩) R s := by
  refine codeAny_of_tree ?_
  show wpAny _ _ (callAny (.ref q) _) _ _ _
  refine nd_load hq ?_
  refine wpAny_pure (a := Fin.again (.call (.ref 89) ⟨[.ref 135, v], []⟩)) (And.intro rfl ?_)
  exact codeAny_mono (make_c C (.cons (.raw _) (.cons r .nil))) fun r' s' z => h r' s' z
theorem mp_next {Q : Option Value → Shared → Prop} {t : Tri} (C : Cx w hT A s 2) (hIT : hT.get? I = none) (hM : s.heap.get? M = some (mapO T q)) (hTt : s.heap.get? T = some { cls := .type "tuple", data := .seq #[.ref I] }) (hI : s.heap.IsListIter I na i) (hna : RepO w s.heap na (.list (ts l)))
    (hq : s.heap.get? q = some (methodObj (.ref 89) (.ref 135))) (ht : l[i]? = some t)
    (hQ : ∀ v s', Rep s'.heap (aTri (.ref 135) t) v → s'.heap.IsListIter I na (i + 1) → (∀ b o, b ≠ I → s.heap.get? b = some o → s'.heap.get? b = some o) → s'.gens = s.gens → s'.os = s.os → Q (some v) s') :
    wpAny (model pw w) A (pyNext (.ref M)) Q E s := by
  have hTy : s.TypeIs (.ref M) "map" := ⟨_, hM, rfl⟩
  obtain ⟨vs, n, el, rl⟩ := hna
  obtain ⟨x, hx, rx⟩ := rl.some (i := i) (x := aTri (.type "tuple") t) (by simp [ts, ht])
  obtain ⟨oI, eI, cI, dI⟩ := id hI
  have neI : ∀ {b : Addr} {o : Obj}, s.heap.get? b = some o → o.cls ≠ .type "list_iterator" → b ≠ I := fun e hc q => by rw [q, eI] at e; cases e; exact hc cI
  unfold pyNext
  refine wpAny_bind (wpAny_attempt (wpAny_callSpecial?_slot (name := Str.ofString "__next__") hTy mp_next_slot (wpAny_call_entry mp_next_slot hTy mp_next_entry ?_ (mp_next_args _))))
  show wpAny _ _ (field (.ref M) 0 >>= _) _ _ _
  refine wpAny_bind (wpAny_field hM rfl (x := .ref T) rfl ?_)
  refine wpAny_bind (wpAny_seqItems hTt rfl ?_)
  refine wpAny_bind ?_
  simp only [← Array.forIn_toList, List.forIn_cons, List.forIn_nil]
  refine wpAny_bind (wpAny_bind (wpAny_holding ?_))
  refine wpAny_nextOf_list_item hI (PySem.IsL.isList el) (x := x) (by simpa using hx) fun h₁ hI₁ hs₁ => ?_
  refine wpAny_pure (wpAny_pure ?_)
  have mono : Mono s.heap h₁ := not_imm_data (I := I) eI (fun vs n q => by rw [dI] at q; cases q) fun b x ex hb => (hs₁.2 b hb).trans ex
  have k1 : ∀ b o, b ≠ I → s.heap.get? b = some o → h₁.get? b = some o := fun b o hb e => (hs₁.2 b hb).trans e
  refine wpAny_bind ?_
  have hM₁ := k1 _ _ (neI hM (by simp)) hM
  refine wpAny_field hM₁ rfl (x := .ref q) rfl ?_
  refine wpAny_bind (wpAny_holding (wpAny_call (bm_make (C.room (A' := A.in1) (s' := { s with heap := h₁ }) rfl rfl (by show A.units + 1 ≤ _; walk_at "om") fun b o e => k1 b o (fun z => by rw [z, hIT] at e; cases e) (C.ht b o e)) (k1 _ _ (neI hq (by simp)) hq) (rx.mono mono) ?_)))
  rintro r' s' ⟨v, y, led', rfl, ry, h1, h2, h3, h4, h5, h6, h7, rfl, rfl⟩
  refine wpAny_bind (wpAny_letGo (wpAny_pure ⟨_, rfl, ?_⟩))
  exact wpAny_pure (hQ v s' ry (hI₁.at fun o e => h4 _ _ e (fun h => nomatch h)) (fun b o hb e => h4 _ _ (k1 b o hb e) (fun h => nomatch h)) h6 h7)
theorem mp_end {Q : Option Value → Shared → Prop} (hh : A.handled = none) (hM : s.heap.get? M = some (mapO T q)) (hTt : s.heap.get? T = some { cls := .type "tuple", data := .seq #[.ref I] }) (hI : s.heap.IsListIter I na l.length) (hna : RepO w s.heap na (.list (ts l)))
    (hQ : ∀ h', (∀ b o, b ≠ I → s.heap.get? b = some o → h'.get? b = some o) → Q none { s with heap := h' }) : wpAny (model pw w) A (pyNext (.ref M)) Q E s := by
  have hTy : s.TypeIs (.ref M) "map" := ⟨_, hM, rfl⟩
  obtain ⟨vs, n, el, rl⟩ := hna
  unfold pyNext
  refine wpAny_bind (wpAny_attempt (wpAny_callSpecial?_slot (name := Str.ofString "__next__") hTy mp_next_slot (wpAny_call_entry mp_next_slot hTy mp_next_entry ?_ (mp_next_args _))))
  show wpAny _ _ (field (.ref M) 0 >>= _) _ _ _
  refine wpAny_bind (wpAny_field hM rfl (x := .ref T) rfl ?_)
  refine wpAny_bind (wpAny_seqItems hTt rfl ?_)
  refine wpAny_bind ?_
  simp only [← Array.forIn_toList, List.forIn_cons, List.forIn_nil]
  refine wpAny_bind (wpAny_bind (wpAny_holding ?_))
  refine wpAny_nextOf_list_end hh hI (PySem.IsL.isList el) (by have := rl.length; simp [ts] at this; simp; walk_at "om") fun h' e he ho => ?_
  obtain ⟨o, ho, hc⟩ := ho
  refine wpAny_bind (wpAny_isInstance (T := "StopIteration") (b := true) ⟨o, ho, hc⟩ isSubtype_stop ?_)
  exact wpAny_pure (hQ h' fun b o hb e => he b o hb e)
theorem mp_loop {R : Result → Shared → Prop} {res : Value} (hIT : hT.get? I = none) (hST : hT.get? S = none) (hSna : S ≠ na) (hl : l.length ≤ sizeLine) :
    ∀ (k i : Nat) (s : Shared) (acc : List Value) (c : Nat), l.length - i = k → i ≤ l.length → Cx w hT A s 3 → s.heap.get? M = some (mapO T q) → s.heap.get? T = some { cls := .type "tuple", data := .seq #[.ref I] } → s.heap.IsListIter I na i → RepO w s.heap na (.list (ts l)) →
      s.heap.get? q = some (methodObj (.ref 89) (.ref 135)) → s.heap.get? S = some (listO acc c) → RepL s.heap (ms (l.take i)) acc →
      (∀ s' acc' c', (∀ b o, b ≠ I → b ≠ S → s.heap.get? b = some o → s'.heap.get? b = some o) → s'.heap.get? S = some (listO acc' c') → RepL s'.heap (ms l) acc' → s'.gens = s.gens → s'.os = s.os → R (.ok (.ret res)) s') →
      codeAny (model pw w) A (.builtin "list.extend.loop" ⟨[.ref S, .ref M, res], []⟩) R s := by
  intro k
  induction k with
  | zero =>
    intro i s acc c hk hi C hM hTt hI hna hq hS rS hR
    obtain rfl : i = l.length := by walk_at "om"
    refine codeAny_builtin PySem.F.entry_extend_loop ?_
    rw [Around.under_plainId PySem.F.plain_extend_loop _]
    show wpAny _ A.in1 (pyNext (.ref M) >>= _) _ _ s
    obtain ⟨oI, eI, cI, dI⟩ := id hI
    refine wpAny_bind (mp_end C.hh hM hTt hI hna fun h' hk' => ?_)
    have hSI : S ≠ I := fun z => by rw [z, eI] at hS; cases hS; simp at cI
    have mono : Mono s.heap h' := not_imm_data (I := I) eI (fun vs n q => by rw [dI] at q; cases q) fun b x ex hb => hk' b x hb ex
    rw [List.take_length] at rS
    exact wpAny_pure (hR _ acc c (fun b o hb _ e => hk' b o hb e) (hk' _ _ hSI hS) (rS.mono mono) rfl rfl)
  | succ k ih =>
    intro i s acc c hk hi C hM hTt hI hna hq hS rS hR
    have hlt : i < l.length := by walk_at "om"
    refine codeAny_builtin PySem.F.entry_extend_loop ?_
    rw [Around.under_plainId PySem.F.plain_extend_loop _]
    show wpAny _ A.in1 (pyNext (.ref M) >>= _) _ _ s
    obtain ⟨oI, eI, cI, dI⟩ := id hI
    have neI : ∀ {b : Addr} {o : Obj}, s.heap.get? b = some o → o.cls ≠ .type "list_iterator" → b ≠ I := fun e hc q => by rw [q, eI] at e; cases e; exact hc cI
    have neS : ∀ {b : Addr} {o : Obj}, s.heap.get? b = some o → o.cls ≠ .type "list" → b ≠ S := fun e hc q => by rw [q, hS] at e; cases e; exact hc rfl
    refine wpAny_bind (mp_next (C.room (A' := A.in1) rfl rfl (by show A.units + 1 ≤ _; walk_at "om") C.ht) hIT hM hTt hI hna hq (List.getElem?_eq_getElem hlt) fun v s' rv hI' hk' hg ho => ?_)
    have hSI : S ≠ I := neI hS (by simp)
    have hS' := hk' _ _ hSI hS
    have mono : Mono s.heap s'.heap := not_imm_data (I := I) eI (fun vs n q => by rw [dI] at q; cases q) fun b x ex hb => hk' b x hb ex
    have hlen : acc.length = i := by have := rS.length; simp [ms] at this; walk_at "om"
    show wpAny _ A.in1 (updateSeq S (·.push v) >>= _) _ _ _
    refine wpAny_bind (wpAny_updateSeq hS' rfl (wpAny_pure ⟨plainId_quiet PySem.F.plain_extend_loop _, ?_⟩) (by simp; walk_at "om") (by simp; walk_at "om"))
    have hs₂ := Heap.SameBut.update s'.heap S (Obj.mapSeq (·.push v))
    have mono₂ : Mono s'.heap (s'.heap.update S (Obj.mapSeq (·.push v))) := fun b c dd xs k hc e' => by
      by_cases hb : b = S
      · subst hb; rw [hS'] at e'; cases e'; exact absurd hc not_imm_list
      · exact (hs₂.2 b hb).trans e'
    have up : ∀ b o, b ≠ I → b ≠ S → s.heap.get? b = some o → (s'.heap.update S (Obj.mapSeq (·.push v))).get? b = some o := fun b o h1 h2 e => (hs₂.2 b h2).trans (hk' b o h1 e)
    obtain ⟨vs, nn, el, rl⟩ := id hna
    obtain ⟨c₂, hS₂⟩ : ∃ c₂, (s'.heap.update S (Obj.mapSeq (·.push v))).get? S = some (listO (acc ++ [v]) c₂) := by
      have q := PySem.IsL.update hS' (·.push v)
      rw [show acc.toArray.push v = (acc ++ [v]).toArray by simp] at q
      exact ⟨_, q⟩
    have hIS : I ≠ S := fun z => hSI z.symm
    refine ih (i + 1) { s' with heap := s'.heap.update S (Obj.mapSeq (·.push v)) } (acc ++ [v]) c₂ (by walk_at "om") hlt ⟨C.top, fun b o e => up b o (fun z => by rw [z, hIT] at e; cases e) (fun z => by rw [z, hST] at e; cases e) (C.ht b o e), C.hh, C.dep, C.un⟩
      (up _ _ (neI hM (by simp)) (neS hM (by simp)) hM) (up _ _ (neI hTt (by simp)) (neS hTt (by simp)) hTt) (hI'.at fun o e => (hs₂.2 _ hIS).trans e)
      ⟨vs, nn, up _ _ (neI el (by simp)) (fun z => hSna z.symm) el, (rl.mono mono).mono mono₂⟩ (up _ _ (neI hq (by simp)) (neS hq (by simp)) hq) hS₂ ?_ fun s'' acc' c' h1 h2 h3 h4 h5 => ?_
    · have e : l.take (i + 1) = l.take i ++ [l[i]] := List.take_succ_eq_append_getElem hlt
      rw [e]
      show RepL _ ((l.take i ++ [l[i]]).map (aTri (.ref 135))) _
      rw [List.map_append]
      exact RepL.snoc (rv.mono mono₂) ((rS.mono mono).mono mono₂)
    · exact hR s'' acc' c' (fun b o hb hb' e => h1 b o hb hb' (up b o hb hb' e)) h2 h3 (h4.trans hg) (h5.trans ho)
end
end
section
open PySem PySem.W PyProof.Rows PySem.Calls
set_option Elab.async false
set_option linter.unusedVariables false
set_option maxRecDepth 10000
section
variable {w : World} {hT : Heap} {A : Around} {E : Value → Shared → Prop} {s : Shared} {M T I na q : Addr} {l : List Tri}
theorem mp_iter {Q : Value → Shared → Prop} (hM : s.heap.get? M = some (mapO T q)) (h : Q (.ref M) s) : wpAny (model pw w) A (pyIter (.ref M)) Q E s := by
  have hTy : s.TypeIs (.ref M) "map" := ⟨_, hM, rfl⟩
  refine wpAny_pyIter_slot hTy mp_iter_slot (wpAny_call_entry mp_iter_slot hTy mp_iter_entry ?_ (mp_iter_args _))
  show wpAny _ _ (ret (.ref M)) _ _ s
  exact wpAny_pure ⟨_, rfl, "map", _, hTy, mp_next_slot.lookup, h⟩
theorem call_listmap {Q : Value → Shared → Prop} (C : Cx w hT A s 4) (hIT : hT.get? I = none) (hl : l.length ≤ sizeLine) (hM : s.heap.get? M = some (mapO T q)) (hTt : s.heap.get? T = some { cls := .type "tuple", data := .seq #[.ref I] }) (hI : s.heap.IsListIter I na 0) (hna : RepO w s.heap na (.list (ts l)))
    (hq : s.heap.get? q = some (methodObj (.ref 89) (.ref 135)))
    (hQ : ∀ S s' acc c, s.heap.get? S = none → (∀ b o, b ≠ I → s.heap.get? b = some o → s'.heap.get? b = some o) → s'.heap.get? S = some (listO acc c) → RepL s'.heap (ms l) acc → s'.gens = s.gens → s'.os = s.os → Q (.ref S) s') :
    wpAny (model pw w) A (call (.type "list") [.ref M]) Q E s := by
  have hn := size_none s.heap
  have hST : hT.get? s.heap.objs.size = none := by
    cases z : hT.get? s.heap.objs.size with
    | none => rfl
    | some o => have := C.ht _ _ z; rw [hn] at this; cases this
  refine callType_codes (Q₁ := fun obj s₁ => obj = .ref s.heap.objs.size ∧ s₁ = { s with heap := s.heap.push { cls := .type "list", data := .seq #[] } }) PySem.F.called_list (PySem.F.typeCall_list_1 _) PySem.F.entry_list_init
    (code_list_new _ ⟨rfl, rfl⟩) fun obj s₁ h₁ => ?_
  obtain ⟨rfl, rfl⟩ := h₁
  have hS : (s.heap.push { cls := .type "list", data := .seq #[] }).get? s.heap.objs.size = some { cls := .type "list", data := .seq #[] } := Heap.get?_push_size _ rfl
  refine ⟨⟨_, hS, rfl⟩, PySem.F.args_list_init_2 _ _, ?_⟩
  generalize hSd : s.heap.objs.size = S at hS hn hST ⊢
  show wpAny _ A.in1.in1 (do let old ← Builtin.List.listItems (.ref S); Builtin.List.listUpdate (.ref S) (fun _ => #[]); letGo old.toList.reverse; Builtin.List.listExtendWith (.ref S) (.ref M) .none) _ _ _
  refine wpAny_bind ?_
  unfold Builtin.List.listItems
  refine wpAny_bind (wpAny_seqItems hS rfl (wpAny_pure ?_))
  show wpAny _ A.in1.in1 (updateSeq S (fun _ => #[]) >>= fun _ => letGo (#[] : Array Value).toList.reverse >>= fun _ => Builtin.List.listExtendWith (.ref S) (.ref M) .none) _ _ _
  refine wpAny_bind (wpAny_updateSeq hS rfl ?_)
  refine wpAny_bind (wpAny_letGo ?_)
  have hs₂ := Heap.SameBut.update (s.heap.push { cls := .type "list", data := .seq #[] }) S (Obj.mapSeq (fun _ => (#[] : Array Value)))
  obtain ⟨c₂, hS₂⟩ : ∃ c₂, ((s.heap.push { cls := .type "list", data := .seq #[] }).update S (Obj.mapSeq (fun _ => (#[] : Array Value)))).get? S = some (listO [] c₂) := ⟨_, PySem.IsL.update (items := #[]) hS (fun _ => #[])⟩
  generalize ((s.heap.push { cls := .type "list", data := .seq #[] }).update S (Obj.mapSeq (fun _ => (#[] : Array Value)))) = H at hs₂ hS₂ ⊢
  have up : ∀ b o, s.heap.get? b = some o → H.get? b = some o := fun b o e => (hs₂.2 b (fun z => by rw [z, hn] at e; cases e)).trans (Heap.get?_push_of_some _ e)
  have neS : ∀ {b : Addr} {o : Obj}, s.heap.get? b = some o → b ≠ S := fun e z => by rw [z, hn] at e; cases e
  have hM₂ := up _ _ hM
  have hTy : ({ s with heap := H } : Shared).TypeIs (.ref M) "map" := ⟨_, hM₂, rfl⟩
  have hSM : S ≠ M := (neS hM).symm
  unfold Builtin.List.listExtendWith
  refine wpAny_bind (wpAny_typeOf hTy ?_)
  have h1 : Builtin.List.listSameRef (.ref S) (.ref M) = false := by simp [Builtin.List.listSameRef, hSM]
  have h2 : (Value.type "map" == Value.type "list") = false := by decide
  have h3 : (Value.type "map" == Value.type "tuple") = false := by decide
  simp only [h1, h2, h3, Bool.or_false, Bool.false_eq_true, if_false]
  refine wpAny_bind (mp_iter hM₂ ?_)
  refine wpAny_bind (wpAny_holding ?_)
  unfold Builtin.List.listLengthHint
  refine wpAny_bind (wpAny_specialOf hTy mp_no_len ?_)
  show wpAny _ A.in1.in1 (specialOf (Value.ref M) (Str.ofString "__length_hint__") >>= _) _ _ _
  refine wpAny_bind (wpAny_specialOf hTy mp_no_hint ?_)
  refine wpAny_pure ?_
  show wpAny _ A.in1.in1 (rule "list.extend.makes-room" >>= fun _ => Builtin.List.listTouch (.ref S) >>= fun _ => again (.builtin "list.extend.loop" ⟨[.ref S, .ref M, .none], []⟩)) _ _ _
  refine wpAny_bind (wpAny_rule ?_)
  refine wpAny_bind ?_
  show wpAny _ A.in1.in1 (updateSeq S (·.push .none) >>= fun _ => updateSeq S (·.pop)) _ _ _
  refine wpAny_bind (wpAny_updateSeq hS₂ rfl ?_)
  have hs₃ := Heap.SameBut.update H S (Obj.mapSeq (·.push Value.none))
  have hS₃ := PySem.IsL.update hS₂ (·.push Value.none)
  refine wpAny_updateSeq (hz := by seq_fits) hS₃ rfl ?_
  have hs₄ := Heap.SameBut.update (H.update S (Obj.mapSeq (·.push Value.none))) S (Obj.mapSeq (·.pop))
  obtain ⟨c₄, hS₄⟩ : ∃ c₄, ((H.update S (Obj.mapSeq (·.push Value.none))).update S (Obj.mapSeq (·.pop))).get? S = some (listO [] c₄) := ⟨_, PySem.IsL.update hS₃ (·.pop)⟩
  generalize ((H.update S (Obj.mapSeq (·.push Value.none))).update S (Obj.mapSeq (·.pop))) = H₂ at hs₄ hS₄ ⊢
  have up₂ : ∀ b o, s.heap.get? b = some o → H₂.get? b = some o := fun b o e => (hs₄.2 b (neS e)).trans ((hs₃.2 b (neS e)).trans (up b o e))
  obtain ⟨vs, nn, el, rl⟩ := id hna
  refine wpAny_pure ⟨plainId_quiet PySem.F.plain_extend_loop _, mp_loop (T := T) (I := I) (na := na) (q := q) (l := l) (hT := hT) hIT hST (neS el).symm hl l.length 0 { s with heap := H₂ } [] c₄ rfl (Nat.zero_le _) ?_ (up₂ _ _ hM) (up₂ _ _ hTt) (hI.at fun o e => up₂ _ _ e)
    (hna.keep (.of_keep up₂) fun x e => up₂ _ _ e) (up₂ _ _ hq) hS₄ .nil fun s' acc' c' a1 a2 a3 a4 a5 => ?_⟩
  · exact C.room (A' := A.in1) (s' := { s with heap := H₂ }) rfl rfl (by show A.units + 1 ≤ _; walk_at "om") fun b o e => up₂ b o (C.ht b o e)
  · exact ⟨rfl, hQ S s' acc' c' hn (fun b o hb e => a1 b o hb (neS e) (up₂ b o e)) a2 a3 a4 a5⟩
end
section
variable {F : Fx} {E : Value → Shared → Prop} {σ : Sig}
noncomputable def MapO (na T I q : Addr) (oM oT oI : Obj) : Prop := oM = mapO T q ∧ oT = { cls := .type "tuple", data := .seq #[.ref I] } ∧ oI.cls = .type "list_iterator" ∧ oI.data = .fields #[.ref na, .int (0 : Nat) 0]
theorem o_map {q na : Addr} {L : List AV} {Q : AV → Sig → Prop} (ha : Has F σ na (.list L)) (h : ∀ M T I oM oT oI, MapO na T I q oM oT oI → Q (.ref M) ⟨σ.vals, (M, .obj oM) :: (T, .obj oT) :: (I, .obj oI) :: σ.led⟩) : WOL F E Rep (fun vs => call (.type "map") vs) [.ref q, .ref na] σ Q := by
  rintro s vs S r
  obtain ⟨_, _, rfl, r1, r2⟩ := r.inv2
  cases r1; cases r2
  obtain ⟨ws, n, el, rl⟩ := S.has ha
  refine call_map (PySem.IsL.isList el) fun h' hM hT hI hk => ?_
  obtain ⟨oi, ei, ci, di⟩ := hI
  have mono : Mono s.heap h' := .of_keep hk
  have above : ∀ k, s.heap.get? (s.heap.objs.size + k) = none := fun k => by
    cases q : s.heap.get? (s.heap.objs.size + k) with
    | none => rfl
    | some o => exact absurd (Heap.lt_size q) (Nat.not_lt.mpr (Nat.le_add_right _ _))
  have n0 := size_none s.heap
  refine ⟨.ref _, ⟨σ.vals, (s.heap.objs.size + 2, .obj (mapO (s.heap.objs.size + 1) q)) :: (s.heap.objs.size + 1, .obj { cls := .type "tuple", data := .seq #[.ref s.heap.objs.size] }) :: (s.heap.objs.size, .obj oi) :: σ.led⟩, .ref _, ?_, mono, h _ _ _ _ _ _ ⟨rfl, rfl, ci, di⟩⟩
  refine S.go (h' := h') (tk := s.toks) [] _ (fun b o e _ => hk b o e) (fun _ h => nomatch h) mono (fun p hp => ?_) ?_ fun a ha => ?_
  · rcases List.mem_cons.mp hp with rfl | hp
    · exact hM
    · rcases List.mem_cons.mp hp with rfl | hp
      · exact hT
      · rcases List.mem_cons.mp hp with rfl | hp
        · exact ei
        · exact (S.rep p hp).keep mono fun x e => hk _ _ e
  · have nl := fun k => not_led S (above k)
    refine List.nodup_cons.mpr ⟨fun q => ?_, List.nodup_cons.mpr ⟨fun q => ?_, List.nodup_cons.mpr ⟨not_led S n0, (List.nodup_cons.mp S.nd).2⟩⟩⟩
    · rcases List.mem_cons.mp q with q | q
      · exact absurd q (by show s.heap.objs.size + 2 ≠ s.heap.objs.size + 1; exact Nat.succ_ne_self _)
      · rcases List.mem_cons.mp q with q | q
        · exact absurd q (by show s.heap.objs.size + 2 ≠ s.heap.objs.size; exact Nat.ne_of_gt (Nat.lt_add_of_pos_right (by decide)))
        · exact nl 2 q
    · rcases List.mem_cons.mp q with q | q
      · exact absurd q (by show s.heap.objs.size + 1 ≠ s.heap.objs.size; exact Nat.succ_ne_self _)
      · exact nl 1 q
  · rcases List.mem_cons.mp ha with rfl | ha
    · exact .inr (above 2)
    · rcases List.mem_cons.mp ha with rfl | ha
      · exact .inr (above 1)
      · rcases List.mem_cons.mp ha with rfl | ha
        · exact .inr n0
        · exact .inl ha
theorem o_listmap {M T I na q : Addr} {oM oT oI : Obj} {l : List Tri} {led : List (Addr × AO)} {Q : AV → Sig → Prop} (ho : MapO na T I q oM oT oI) (hσ : σ.led = (M, .obj oM) :: (T, .obj oT) :: (I, .obj oI) :: led) (hq : Has F σ q (.obj (methodObj (.ref 89) (.ref 135)))) (ha : Has F σ na (.list (ts l))) (hl : l.length ≤ sizeLine)
    (h : ∀ S, S ∉ led.map (·.1) → Q (.ref S) ⟨σ.vals, (S, .list (ms l)) :: led⟩) (hk : 4 ≤ F.k := by exact Nat.le_of_ble_eq_true rfl) (hd : F.hd = none := by rfl) : WOL F E Rep (fun vs => call (.type "list") vs) [.ref M] σ Q := by
  rintro s vs S r
  obtain ⟨_, rfl, r1⟩ := r.inv1
  cases r1
  obtain ⟨rfl, rfl, ci, di⟩ := ho
  have hM := S.rep (M, .obj (mapO T q)) (by rw [hσ]; exact .head _)
  have hT := S.rep (T, .obj _) (by rw [hσ]; exact .tail _ (.head _))
  have hI : s.heap.get? I = some oI := S.rep (I, .obj oI) (by rw [hσ]; exact .tail _ (.tail _ (.head _)))
  have hIin : I ∈ σ.led.map (·.1) := by rw [hσ]; exact .tail _ (.tail _ (.head _))
  refine call_listmap (hT := F.hT) (S.cxUp 4 hk hd) (S.not_hT hIin) hl hM hT ⟨oI, hI, ci, di⟩ (S.has ha) (S.has hq) fun D s' acc c hn hkeep hD rD hg hos => ?_
  have mono : Mono s.heap s'.heap := not_imm_data (I := I) hI (fun vs n q => by rw [di] at q; cases q) fun b x ex hb => hkeep b x hb ex
  have nd := (List.nodup_cons.mp S.nd).2
  rw [hσ] at nd
  have nd3 := List.nodup_cons.mp (List.nodup_cons.mp (List.nodup_cons.mp nd).2).2
  have hDl : D ∉ σ.led.map (·.1) := not_led S hn
  have hDl' : D ∉ led.map (·.1) := fun z => hDl (by rw [hσ]; exact .tail _ (.tail _ (.tail _ z)))
  have S' : St F ⟨σ.vals, (D, .list (ms l)) :: led⟩ { s with heap := s'.heap, toks := s'.toks } := by
    refine S.go (h' := s'.heap) [I] _ (fun b o e n => hkeep b o (fun z => n (by rw [z]; exact .head _)) e) (fun a ha => by rw [List.mem_singleton.mp ha]; exact hIin) mono (fun p hp => ?_) (List.nodup_cons.mpr ⟨hDl', nd3.2⟩) fun a ha => ?_
    · rcases List.mem_cons.mp hp with rfl | hp
      · exact ⟨acc, c, hD, rD⟩
      · exact (S.rep p (by rw [hσ]; exact .tail _ (.tail _ (.tail _ hp)))).keep mono fun x e => hkeep _ _ (fun z => nd3.1 (by show I ∈ _; rw [← z]; exact List.mem_map_of_mem hp)) e
    · rcases List.mem_cons.mp ha with rfl | ha
      · exact .inr hn
      · exact .inl (by rw [hσ]; exact .tail _ (.tail _ (.tail _ ha)))
  exact ⟨_, _, .ref _, ⟨S'.ok, S'.ns, S'.rep, S'.nd, S'.new, S'.Lnew, S'.keep, hg.trans S.gens, hos.trans S.os, S'.fr, S'.mb⟩, mono, h D hDl'⟩
noncomputable abbrev nMake : Str := ⟨#[95,109,97,107,101]⟩
theorem fn_make (P : Params) : findCls (K P) (.ref 135) (.type "type") nMake = some (.get (.builtin "classmethod.__get__") (.ref 91) .none (.ref 135)) := by kernel_rfl
theorem rec_make (P : Params) : recIn (K P) 91 "classmethod" = some [.ref 89, .bool false] := by kernel_rfl
theorem o_mkattr {Q : AV → Sig → Prop} (h : ∀ q, q ∉ σ.led.map (·.1) → Q (.ref q) ⟨σ.vals, (q, .obj (methodObj (.ref 89) (.ref 135))) :: σ.led⟩) : WO1 F E Rep (fun v => getAttr v nMake true) (.raw (.ref 135)) σ Q := by
  rintro s v S ⟨⟩
  have hfc := fn_make F.w.params
  have hk := push_keep s.heap (methodObj (.ref 89) (.ref 135))
  refine cls_bind S.inK (rd_new _) hfc (wpAny_call (PySem.W.cm_get (s := { s with toks := s.toks + 1 }) S.inK (rec_make _) (handed_on rfl ?_)))
  exact ⟨_, _, .ref _, S.alloc (tk := s.toks + 1) hk (size_none _) (o := .obj _) (Heap.get?_push_size _ rfl), .of_keep hk, h _ (not_led S (size_none _))⟩
theorem o_true_int {i : Int} {Q : Bool → Sig → Prop} (h : Q (i != 0) σ) : WO1 F E RB truthy (.int i) σ Q := by
  rintro s v S ⟨⟩
  exact PyProof.Rows.truthy_int (.here' S rfl h)
end
end
section
open PySem PySem.W PyProof.Rows PySem.Calls
set_option Elab.async false
set_option linter.unusedVariables false
set_option maxRecDepth 10000
noncomputable def dGB : Def := { fa := 203, fd := fd203, body := bodyOf (mth 5 7), names := [⟨#[115,101,108,102]⟩, ⟨#[108,97]⟩, ⟨#[108,98]⟩, ⟨#[113,117,101,117,101]⟩, ⟨#[109,97,116,99,104,105,110,103,95,98,108,111,99,107,115]⟩, ⟨#[97,108,111]⟩, ⟨#[97,104,105]⟩, ⟨#[98,108,111]⟩, ⟨#[98,104,105]⟩, ⟨#[105]⟩, ⟨#[106]⟩, ⟨#[107]⟩, ⟨#[120]⟩, ⟨#[105,49]⟩, ⟨#[106,49]⟩, ⟨#[107,49]⟩, ⟨#[110,111,110,95,97,100,106,97,99,101,110,116]⟩, ⟨#[105,50]⟩, ⟨#[106,50]⟩, ⟨#[107,50]⟩], globs := [⟨#[108,101,110]⟩, ⟨#[108,105,115,116]⟩, ⟨#[109,97,112]⟩, ⟨#[77,97,116,99,104]⟩] }
theorem dGB_ok : dGB.Ok := {
  obj := fun P => ⟨_, _, _, (by kernel_rfl : (K P).lookup 203 = some ⟨.type "function", none, .func fd203, #[]⟩)⟩
  body := by kernel_rfl
  code := fun P => by kernel_rfl
  scope := by kernel_rfl
  glob := by kernel_rfl
  bi := by kernel_rfl }
noncomputable abbrev aQd (w : Qd) : AV := .tup (.type "tuple") [.int w.1, .int w.2.1, .int w.2.2.1, .int w.2.2.2]
noncomputable abbrev qs (q : List Qd) : List AV := q.map aQd
theorem list_ne_ns {w : World} {h : Heap} {a dx : Addr} {l : List AV} {fs : List (Str × AV)} (h1 : RepO w h a (.list l)) (h2 : RepO w h dx (.ns fs)) : a ≠ dx := by
  rintro rfl
  obtain ⟨vs, n, e, _⟩ := h1
  obtain ⟨es, m, e', _⟩ := h2
  rw [e] at e'; simp [dictOf] at e'
theorem set_ne_ns {w : World} {h : Heap} {a dx : Addr} {fs : List (Str × AV)} (h1 : RepO w h a .set0) (h2 : RepO w h dx (.ns fs)) : a ≠ dx := by
  rintro rfl
  obtain ⟨n, t, e⟩ := h1
  obtain ⟨es, m, e', _⟩ := h2
  rw [e] at e'; simp [dictOf] at e'
theorem inst_ne_ns {w : World} {h : Heap} {a dx d : Addr} {fs : List (Str × AV)} (h1 : RepO w h a (.obj (instObj 242 d))) (h2 : RepO w h dx (.ns fs)) : a ≠ dx := by
  rintro rfl
  obtain ⟨es, m, e', _⟩ := h2
  have e : h.get? a = some (instObj 242 d) := h1
  rw [e] at e'; cases e'
section
variable {F : Fx} {E : Value → Shared → Prop} {σ : Sig}
theorem wol_call_ro {fv : Value} {xs : List AV} {Qf : AV → Prop} {Q : AV → Sig → Prop}
    (c : ∀ s vs, St F σ s → RepL s.heap xs vs → codeAny (model pw F.w) F.A (.call fv ⟨vs, []⟩) (Ret F.w s [] fun y led => led = [] ∧ Qf y) s) (h : ∀ y, Qf y → Q y σ) :
    WOL F E Rep (fun vs => call fv vs) xs σ Q := by
  intro s vs S r
  refine wol_call (Q := Q) (mods := []) (fun _ h => nomatch h) c ?_ s vs S r
  rintro y led ⟨rfl, hq⟩ _ _
  exact ⟨σ.led, fun p hp => .inr ⟨hp, fun h => nomatch h⟩, (List.nodup_cons.mp S.nd).2, h y hq⟩
end
structure O8 where
  (o5 o6 o7 o8 o9 o10 o11 o12 : Option AV)
noncomputable def gbV (x qu mb : Addr) (la lb : Int) (O : O8) (R : List (Option AV)) : List (Option AV) := some (.ref x) :: some (.int la) :: some (.int lb) :: some (.ref qu) :: some (.ref mb) :: O.o5 :: O.o6 :: O.o7 :: O.o8 :: O.o9 :: O.o10 :: O.o11 :: O.o12 :: R
noncomputable def gbO (wd : Qd) (i j k : Int) : O8 := ⟨some (.int wd.1), some (.int wd.2.1), some (.int wd.2.2.1), some (.int wd.2.2.2), some (.int i), some (.int j), some (.int k), some (aTri (.ref 135) (i, j, k))⟩
noncomputable def gbW (x qu mb dx : Addr) (la lb : Int) (ns : AO) (O : O8) (m q : List AV) : Sig := ⟨gbV x qu mb la lb O [none, none, none, none, none, none, none], [(mb, .list m), (qu, .list q), (dx, ns)]⟩
noncomputable def gbF (x qu mb dx no : Addr) (la lb : Int) (ns : AO) (O : O8) (m : List AV) (t : Tri) (r : List AV) (o17 o18 o19 : Option AV) : Sig := ⟨gbV x qu mb la lb O [some (.int t.1), some (.int t.2.1), some (.int t.2.2), some (.ref no), o17, o18, o19], [(no, .list r), (mb, .list m), (dx, ns)]⟩
noncomputable def withIt (I : Addr) (o : Obj) (σ : Sig) : Sig := ⟨σ.vals, (I, .obj o) :: σ.led⟩
inductive GbW (a b : List Int) (S : O8 → List AV → List AV → Sig) (n : Nat) (σ : Sig) : Prop where
  | mk (q : List Qd) (bl : List Tri) (O : O8) (e1 : n = msr q) (e2 : n ≤ 2 * a.length + 1) (G : GInv a b q bl) (e : σ = S O (ms bl) (qs q))
inductive GbE (a b : List Int) (S : O8 → List AV → List AV → Sig) (σ : Sig) : Prop where
  | mk (bl : List Tri) (O : O8) (G : GInv a b [] bl) (e : σ = S O (ms bl) (qs []))
inductive GbF (bl : List Tri) (S : Tri → List AV → Option AV → Option AV → Option AV → Sig) (n : Nat) (σ : Sig) : Prop where
  | mk (st : Tri × List Tri) (o17 o18 o19 : Option AV) (e1 : st = (bl.take n).foldl mg ((0, 0, 0), [])) (e2 : st.2.length ≤ n) (e : σ = S st.1 (ts st.2) o17 o18 o19)
inductive GbG (bl : List Tri) (S : Tri → List AV → Option AV → Option AV → Option AV → Sig) (σ : Sig) : Prop where
  | mk (st : Tri × List Tri) (o17 o18 o19 : Option AV) (e1 : st = mgAll bl) (e : σ = S st.1 (ts st.2) o17 o18 o19)
set_option maxHeartbeats 2000000 in
theorem gb_c {w : World} {hT : Heap} {A : Around} {s : Shared} (C : Cx w hT A s 5) {x dx aa ba d j p : Addr} {ads : List Addr} {a b : List Int} (M : SmAt w s.heap x dx aa ba d j p ads a b) (hdT : hT.get? dx = none) (hdd : d ≠ dx) (ia : Inc a) (ib : Inc b) (hal : a.length < 64) (hbl : b.length < 64)
    {vs : List Value} (r : RepL s.heap [.ref x] vs) :
    codeAny (model pw w) A (.call (.ref 203) ⟨vs, []⟩) (Ret w s [dx] fun y led => ∃ B, y = .ref B ∧ led = [(B, .list (ms (lawRuns a b)))]) s := by
  obtain ⟨hx, hd, ha, hb, hj, hs, hl, hp⟩ := id M
  have nx := inst_ne_ns hx hd
  have na := list_ne_ns ha hd
  have nb := list_ne_ns hb hd
  have ns := set_ne_ns hs hd
  obtain ⟨v1, rfl, r1⟩ := r.inv1
  refine enterP dGB_ok (k := 4) C (.cons r1 .nil) rfl [(dx, .ns (smFields aa ba d j p))] [some (.ref x), none, none, none, none, none, none, none, none, none, none, none, none, none, none, none, none, none, none, none] 19 (fun p hp => by cases List.mem_singleton.mp hp; exact ⟨hdT, rfl, hd⟩) (by simp) rfl fun L hL => ?_
  have hz := sizeLine_is
  refine W.weak ?_
  refine ws_cons ?_
  (with_reducible refine' ws_doc ?_)
  ((with_reducible refine' seq_next ?_; refine' ws_cons ?_))
  refine ws_if ?_
  ((with_reducible refine' wb_cmp ?_; refine' we_attr ?_); walk_at "n")
  refine o_attr (dx := dx) (.inr ⟨hx, by simpa using nx⟩) (by walk_at "has") rfl rfl rfl ?_
  (with_reducible refine' we_none ?_)
  refine o_isnot_none ⟨_, rfl, fun hb => by (cases hb), fun _ => ?_⟩
  ((with_reducible refine' ws_nil ?_; refine' seq_next ?_; refine' ws_cons ?_))
  refine ws_swap (is := [2, 1]) (by with_unfolding_all rfl) (.cons rfl (.cons rfl .nil)) ?_
  ((with_reducible refine' we_tuple ?_; refine' wa_cons ?_; refine' we_call ?_); ((with_reducible refine' we_blt ?za49 ?zb49 ?_); (case za49 => exact rfl); (case zb49 => exact rfl)))
  refine ⟨_, rfl, by walk_at "callee", ?_⟩
  ((with_reducible refine' wa_cons ?_; refine' we_attr ?_); walk_at "n")
  refine o_attr (dx := dx) (.inr ⟨hx, by simpa using nx⟩) (by walk_at "has") rfl rfl rfl ?_
  (with_reducible refine' wa_nil ?_)
  refine o_len (l := zs a) (.inr ⟨ha, by simpa using na⟩) (by simp; walk_at "om") ?_
  ((with_reducible refine' wa_cons ?_; refine' we_call ?_); ((with_reducible refine' we_blt ?za50 ?zb50 ?_); (case za50 => exact rfl); (case zb50 => exact rfl)))
  refine ⟨_, rfl, by walk_at "callee", ?_⟩
  ((with_reducible refine' wa_cons ?_; refine' we_attr ?_); walk_at "n")
  refine o_attr (dx := dx) (.inr ⟨hx, by simpa using nx⟩) (by walk_at "has") rfl rfl rfl ?_
  (with_reducible refine' wa_nil ?_)
  refine o_len (l := zs b) (.inr ⟨hb, by simpa using nb⟩) (by simp; walk_at "om") ?_
  (with_reducible refine' wa_nil ?_)
  refine ⟨by show 2 ≤ sizeLine; decide, _, rfl, rfl, ?_⟩
  ((with_reducible refine' seq_next ?_; refine' ws_cons ?_); ((with_reducible refine' ws_assign ?za51 ?_); (case za51 => exact rfl)); (with_reducible refine' we_list ?_; refine' wa_cons ?_; refine' we_tuple ?_; refine' wa_cons ?_; refine' we_int ?_; refine' wa_cons ?_); walk_at "n"; (with_reducible refine' wa_cons ?_; refine' we_int ?_; refine' wa_cons ?_); walk_at "n"; (with_reducible refine' wa_nil ?_))
  refine ⟨by show 4 ≤ sizeLine; decide, ?_⟩
  (with_reducible refine' wa_nil ?_)
  refine ⟨by show 1 ≤ sizeLine; decide, fun qu hqu => ?_⟩
  ((with_reducible refine' seq_next ?_; refine' ws_cons ?_); ((with_reducible refine' ws_assign ?za52 ?_); (case za52 => exact rfl)); (with_reducible refine' we_list ?_; refine' wa_nil ?_))
  refine ⟨by simp, fun mb hmb => ?_⟩
  ((with_reducible refine' seq_next ?_; refine' ws_cons ?_))
  rw [List.length_map, List.length_map]
  refine W.mono (Q := NextQ (GbE a b (gbW x qu mb dx a.length b.length (.ns (smFields aa ba d j p))))) (ws_while (GbW a b (gbW x qu mb dx a.length b.length (.ns (smFields aa ba d j p)))) (2 * a.length + 1) ⟨[(0, (a.length : Int), 0, (b.length : Int))], [], ⟨none, none, none, none, none, none, none, none⟩, by rw [msr_one]; simp, Nat.le_refl _, .start, rfl⟩ ?_) ?_
  · rintro n σ ⟨q, bl, O, rfl, hn, G, rfl⟩
    have hql : (qs q).length ≤ 200 := by have := msr_len q; simp; walk_at "om"
    have hbll : bl.length ≤ a.length := by
      have h1 := G.len
      have h2 : 0 ≤ qsum q := by
        clear h1 hql
        have win := G.win
        clear G hn
        induction q with
        | nil => simp [qsum]
        | cons w r ih =>
          have := ih fun x hx => win x (.tail _ hx)
          have w1 := (win w (.head _)).a1
          simp only [qsum, List.map_cons, List.sum_cons] at this ⊢
          walk_at "om"
      walk_at "om"
    ((with_reducible refine' wb_plain ?_); walk_at "n")
    refine o_true_list (by walk_at "has") (by walk_at "om") ?_
    refine ⟨fun hq => ?_, fun hq => ?_⟩
    · obtain ⟨q', wd, rfl⟩ : ∃ q' wd, q = q' ++ [wd] := by
        rcases List.eq_nil_or_concat q with h | ⟨q', wd, h⟩
        · subst h; simp at hq
        · exact ⟨q', wd, by simpa using h⟩
      have hwd := G.win wd (by simp)
      rw [show qs (q' ++ [wd]) = qs q' ++ [aQd wd] by simp [qs]]
      ((with_reducible refine' ws_cons ?_; refine' ws_bind1 ?_; refine' we_list_pop ?_); walk_at "n")
      refine ⟨typeB_list (by walk_at "has"), ?_⟩
      (with_reducible refine' wa_nil ?_)
      refine o_pop (by walk_at "upd") (by simp at hql ⊢; walk_at "om") ?_
      refine ⟨_, binds_tuple (is := [5, 6, 7, 8]) (.cons rfl (.cons rfl (.cons rfl (.cons rfl .nil)))) rfl, ?_⟩
      refine seq_next ?_
      refine ws_cons ?_
      refine ws_bind2 ?_
      refine we_mcall (f := 196) rfl ?_
      walk_at "n"
      refine ⟨x, dx, smFields aa ba d j p, rfl, .inr ⟨hx, by simpa using nx⟩, by walk_at "has", rfl, ?_⟩
      ((with_reducible refine' wa_cons ?_); walk_at "n"; (with_reducible refine' wa_cons ?_); walk_at "n"; (with_reducible refine' wa_cons ?_); walk_at "n"; (with_reducible refine' wa_cons ?_); walk_at "n"; (with_reducible refine' wa_nil ?_))
      refine wol_call_ro (Qf := fun y => ∃ bi bj bs, y = aTri (.ref 135) (bi, bj, bs) ∧ FV a b wd.1 wd.2.1 wd.2.2.1 wd.2.2.2 bi bj bs ∧ (bs = 0 → NoP a b wd.1 wd.2.1 wd.2.2.1 wd.2.2.2)) (fun s' vs' S' r' => ?_) ?_
      · refine fl_c (S'.cxUp 3) (ads := ads) ⟨S'.has (.inr ⟨hx, by simpa using nx⟩), S'.has (by walk_at "has"), S'.has (.inr ⟨ha, by simpa using na⟩), S'.has (.inr ⟨hb, by simpa using nb⟩), S'.has (.inr ⟨hj, by simpa using hdd⟩), S'.has (.inr ⟨hs, by simpa using ns⟩), hl, fun m hm => S'.has (.inr ⟨hp m hm, by simpa using list_ne_ns (hp m hm) hd⟩)⟩ ib.nodup (by walk_at "om") (by walk_at "om") hwd r'
      rintro y ⟨i, jj, k, rfl, hFV, hNo⟩
      refine ⟨_, binds_match (is := [9, 10, 11]) (.cons rfl (.cons rfl (.cons rfl .nil))) rfl, _, binds_name rfl, ?_⟩
      ((with_reducible refine' seq_next ?_; refine' ws_cons ?_))
      refine ws_if ?_
      ((with_reducible refine' wb_plain ?_); walk_at "n")
      refine o_true_int ?_
      have h0 : 0 ≤ k := hFV.2.2.2.2.1
      refine ⟨fun hk => ?_, fun hk => ?_⟩
      · have hk' : 1 ≤ k := by have : k ≠ 0 := by simpa using hk
                               walk_at "om"
        obtain ⟨G', hm⟩ := G.split ia ib hFV hk'
        have eb : ms (bl ++ [(i, jj, k)]) = ms bl ++ [aTri (.ref 135) (i, jj, k)] := List.map_append
        have nl1 : (nextL wd i jj).length ≤ 1 := by unfold nextL; split <;> simp
        ((with_reducible refine' ws_cons ?_; refine' ws_expr ?_; refine' we_list_append ?_); walk_at "n")
        refine ⟨typeB_list (by walk_at "has"), ?_⟩
        ((with_reducible refine' wa_cons ?_); walk_at "n"; (with_reducible refine' wa_nil ?_))
        refine o_append (by walk_at "upd") (by simp; walk_at "om") ⟨rfl, ?_⟩
        ((with_reducible refine' seq_next ?_; refine' ws_cons ?_))
        refine W.mono (Q := NextIs (gbW x qu mb dx a.length b.length (.ns (smFields aa ba d j p)) (gbO wd i jj k) (ms (bl ++ [(i, jj, k)])) (qs (q' ++ nextL wd i jj)))) (ws_if ?_) ?_
        · ((with_reducible refine' wb_and ?_; refine' wb_cmp ?_); walk_at "n"; walk_at "n"; (with_reducible refine' o_lt ?_))
          refine ⟨_, rfl, fun h1 => ?_, fun h1 => ⟨fun h => by (cases h), fun _ => ?_⟩⟩
          · have h1 := of_decide_eq_true h1
            ((with_reducible refine' wb_and ?_; refine' wb_cmp ?_); walk_at "n"; walk_at "n"; (with_reducible refine' o_lt ?_))
            refine ⟨_, rfl, fun h2 => ?_, fun h2 => ⟨fun h => by (cases h), fun _ => ?_⟩⟩
            · have h2 := of_decide_eq_true h2
              (with_reducible refine' wb_and_nil ?_)
              refine ⟨fun _ => ?_, fun h => by (cases h)⟩
              ((with_reducible refine' ws_cons ?_; refine' ws_expr ?_; refine' we_list_append ?_); walk_at "n")
              refine ⟨typeB_list (by walk_at "has"), ?_⟩
              ((with_reducible refine' wa_cons ?_; refine' we_tuple ?_; refine' wa_cons ?_); walk_at "n"; (with_reducible refine' wa_cons ?_); walk_at "n"; (with_reducible refine' wa_cons ?_); walk_at "n"; (with_reducible refine' wa_cons ?_); walk_at "n"; (with_reducible refine' wa_nil ?_))
              refine ⟨by show 4 ≤ sizeLine; decide, ?_⟩
              (with_reducible refine' wa_nil ?_)
              refine o_append (by walk_at "upd") (by simp at hql ⊢; walk_at "om") ⟨rfl, ?_⟩
              ((with_reducible refine' seq_next ?_; refine' ws_nil ?_))
              rw [show qs (q' ++ nextL wd i jj) = qs q' ++ [aQd (wd.1, i, wd.2.2.1, jj)] by rw [nextL, if_pos ⟨h1, h2⟩]; exact List.map_append, eb]
              exact ⟨rfl, rfl⟩
            · have h2 := of_decide_eq_false h2
              (with_reducible refine' ws_nil ?_)
              rw [show qs (q' ++ nextL wd i jj) = qs q' by rw [nextL, if_neg (fun h => h2 h.2), List.append_nil], eb]
              exact ⟨rfl, rfl⟩
          · have h1 := of_decide_eq_false h1
            (with_reducible refine' ws_nil ?_)
            rw [show qs (q' ++ nextL wd i jj) = qs q' by rw [nextL, if_neg (fun h => h1 h.1), List.append_nil], eb]
            exact ⟨rfl, rfl⟩
        rintro _ _ ⟨rfl, rfl⟩
        ((with_reducible refine' seq_next ?_; refine' ws_cons ?_))
        refine W.mono (Q := NextIs (gbW x qu mb dx a.length b.length (.ns (smFields aa ba d j p)) (gbO wd i jj k) (ms (bl ++ [(i, jj, k)])) (qs (q' ++ nextL wd i jj ++ nextR wd i jj k)))) (ws_if ?_) ?_
        · ((with_reducible refine' wb_and ?_; refine' wb_cmp ?_; refine' we_bin ?_); walk_at "n"; walk_at "n"; (with_reducible refine' o_add ?_); walk_at "n"; (with_reducible refine' o_lt ?_))
          refine ⟨_, rfl, fun h1 => ?_, fun h1 => ⟨fun h => by (cases h), fun _ => ?_⟩⟩
          · have h1 := of_decide_eq_true h1
            ((with_reducible refine' wb_and ?_; refine' wb_cmp ?_; refine' we_bin ?_); walk_at "n"; walk_at "n"; (with_reducible refine' o_add ?_); walk_at "n"; (with_reducible refine' o_lt ?_))
            refine ⟨_, rfl, fun h2 => ?_, fun h2 => ⟨fun h => by (cases h), fun _ => ?_⟩⟩
            · have h2 := of_decide_eq_true h2
              (with_reducible refine' wb_and_nil ?_)
              refine ⟨fun _ => ?_, fun h => by (cases h)⟩
              ((with_reducible refine' ws_cons ?_; refine' ws_expr ?_; refine' we_list_append ?_); walk_at "n")
              refine ⟨typeB_list (by walk_at "has"), ?_⟩
              ((with_reducible refine' wa_cons ?_; refine' we_tuple ?_; refine' wa_cons ?_; refine' we_bin ?_); walk_at "n"; walk_at "n"; (with_reducible refine' o_add ?_; refine' wa_cons ?_); walk_at "n"; (with_reducible refine' wa_cons ?_; refine' we_bin ?_); walk_at "n"; walk_at "n"; (with_reducible refine' o_add ?_; refine' wa_cons ?_); walk_at "n"; (with_reducible refine' wa_nil ?_))
              refine ⟨by show 4 ≤ sizeLine; decide, ?_⟩
              (with_reducible refine' wa_nil ?_)
              refine o_append (by walk_at "upd") (by simp at hql ⊢; walk_at "om") ⟨rfl, ?_⟩
              ((with_reducible refine' seq_next ?_; refine' ws_nil ?_))
              rw [show qs (q' ++ nextL wd i jj ++ nextR wd i jj k) = qs (q' ++ nextL wd i jj) ++ [aQd (i + k, wd.2.1, jj + k, wd.2.2.2)] by rw [nextR, if_pos ⟨h1, h2⟩]; exact List.map_append]
              exact ⟨rfl, rfl⟩
            · have h2 := of_decide_eq_false h2
              (with_reducible refine' ws_nil ?_)
              rw [show qs (q' ++ nextL wd i jj ++ nextR wd i jj k) = qs (q' ++ nextL wd i jj) by rw [nextR, if_neg (fun h => h2 h.2), List.append_nil]]
              exact ⟨rfl, rfl⟩
          · have h1 := of_decide_eq_false h1
            (with_reducible refine' ws_nil ?_)
            rw [show qs (q' ++ nextL wd i jj ++ nextR wd i jj k) = qs (q' ++ nextL wd i jj) by rw [nextR, if_neg (fun h => h1 h.1), List.append_nil]]
            exact ⟨rfl, rfl⟩
        rintro _ _ ⟨rfl, rfl⟩
        ((with_reducible refine' seq_next ?_; refine' ws_nil ?_; refine' seq_next ?_; refine' ws_nil ?_))
        refine ⟨_, hm, _, _, ⟨_, _, _, _, _, _, _, _⟩, rfl, by walk_at "om", G', rfl⟩
      · obtain rfl : k = 0 := by simpa using hk
        ((with_reducible refine' ws_nil ?_; refine' seq_next ?_; refine' ws_nil ?_))
        refine ⟨msr q', ?_, q', bl, ⟨_, _, _, _, _, _, _, _⟩, rfl, ?_, G.drop (hNo rfl), rfl⟩
        · rw [msr_append, msr_one]; walk_at "om"
        · rw [msr_append, msr_one] at hn; walk_at "om"
    · obtain rfl : q = [] := by cases q with | nil => rfl | cons _ _ => simp at hq
      exact ⟨rfl, bl, O, G, rfl⟩
  · rintro _ _ ⟨rfl, bl, O, G, rfl⟩
    have hbll : bl.length ≤ a.length := by have h1 := G.len; simp [qsum] at h1; walk_at "om"
    ((with_reducible refine' seq_next ?_; refine' ws_cons ?_; refine' ws_expr ?_; refine' we_list_sort ?_); walk_at "n")
    refine ⟨typeB_list (by walk_at "has"), ?_⟩
    (with_reducible refine' wa_nil ?_)
    refine o_sort (led' := fun bl' => [(mb, .list (ms bl')), (qu, .list (qs [])), (dx, .ns (smFields aa ba d j p))]) (fun bl' => Upd.head) G.nodup (by walk_at "om") fun bl' hperm hsrt => ⟨rfl, ?_⟩
    have hlen' : bl'.length ≤ a.length := by rw [hperm.length_eq]; exact hbll
    ((with_reducible refine' seq_next ?_; refine' ws_cons ?_; refine' ws_bind3 ?_; refine' we_int ?_))
    refine ⟨_, binds_name rfl, _, binds_name rfl, _, binds_name rfl, ?_⟩
    ((with_reducible refine' seq_next ?_; refine' ws_cons ?_); ((with_reducible refine' ws_assign ?za53 ?_); (case za53 => exact rfl)); (with_reducible refine' we_list ?_; refine' wa_nil ?_))
    refine ⟨by simp, fun no hno => ?_⟩
    ((with_reducible refine' seq_next ?_; refine' ws_cons ?_))
    refine W.pre (σ' := gbF x qu mb dx no a.length b.length (.ns (smFields aa ba d j p)) O (ms bl') (0, 0, 0) (ts []) none none none) ⟨by walk_at "sub", fun _ _ h => h⟩ ?_
    refine W.mono (Q := NextQ (GbG bl' (gbF x qu mb dx no a.length b.length (.ns (smFields aa ba d j p)) O (ms bl')))) (ws_for (ms bl') 1 (fun h => RepO w h mb (.list (ms bl'))) (GbF bl' (gbF x qu mb dx no a.length b.length (.ns (smFields aa ba d j p)) O (ms bl'))) ?_ (ro_has fun _ σ h => by obtain ⟨_, _, _, _, _, _, rfl⟩ := h; walk_at "has") ?_ ?_) ?_
    · walk_at "n"
      exact ⟨_, starts_list (.inr ⟨_, _, _, rfl⟩) (by walk_at "has"), ((0, 0, 0), []), none, none, none, rfl, by simp, rfl⟩
    · rintro n y σ₁ its hn hy ⟨st, o17, o18, o19, hst, hsl, rfl⟩ hni
      obtain ⟨I, o, rfl⟩ := one_it hn
      obtain ⟨t, ht, rfl⟩ := ms_get hy
      have htl : n < bl'.length := (List.getElem?_eq_some_iff.mp ht).1
      have hnext : mg st t = (bl'.take (n + 1)).foldl mg ((0, 0, 0), []) := by rw [take_snocT ht, List.foldl_append, hst]; rfl
      refine ⟨_, binds_match (is := [17, 18, 19]) (.cons rfl (.cons rfl (.cons rfl .nil))) rfl, ?_⟩
      refine ws_cons ?_
      refine ws_if ?_
      refine W.mono (Q := BoolIs (decide (st.1.1 + st.1.2.2 = t.1 ∧ st.1.2.1 + st.1.2.2 = t.2.1)) (withIt I o (gbF x qu mb dx no a.length b.length (.ns (smFields aa ba d j p)) O (ms bl') st.1 (ts st.2) (some (.int t.1)) (some (.int t.2.1)) (some (.int t.2.2))))) ?_ ?_
      · ((with_reducible refine' wb_and ?_; refine' wb_cmp ?_; refine' we_bin ?_); walk_at "n"; walk_at "n"; (with_reducible refine' o_add ?_); walk_at "n"; (with_reducible refine' o_eq ?_))
        refine ⟨_, rfl, fun h1 => ?_, fun h1 => ?_⟩
        · have h1 := eq_of_beq h1
          ((with_reducible refine' wb_and ?_; refine' wb_cmp ?_; refine' we_bin ?_); walk_at "n"; walk_at "n"; (with_reducible refine' o_add ?_); walk_at "n"; (with_reducible refine' o_eq ?_))
          refine ⟨_, rfl, fun h2 => ?_, fun h2 => ?_⟩
          · have h2 := eq_of_beq h2
            (with_reducible refine' wb_and_nil ?_)
            exact ⟨(decide_eq_true ⟨h1, h2⟩).symm, rfl⟩
          · exact ⟨(decide_eq_false fun h => (by simpa using h2 : ¬ _) h.2).symm, rfl⟩
        · exact ⟨(decide_eq_false fun h => (by simpa using h1 : ¬ _) h.1).symm, rfl⟩
      rintro q σ' ⟨rfl, rfl⟩
      refine ⟨fun hc => ?_, fun hc => ?_⟩
      · have hc := of_decide_eq_true hc
        have e : mg st t = ((st.1.1, st.1.2.1, st.1.2.2 + t.2.2), st.2) := if_pos hc
        ((with_reducible refine' ws_cons ?_); ((with_reducible refine' ws_aug ?za54 ?zb54 ?_); (case za54 => exact rfl); (case zb54 => exact rfl)); walk_at "n"; (with_reducible refine' o_iadd ?_; refine' seq_next ?_; refine' ws_nil ?_; refine' seq_next ?_; refine' ws_nil ?_))
        refine ⟨_, _, List.Sublist.refl _, fun _ _ h => h, ((st.1.1, st.1.2.1, st.1.2.2 + t.2.2), st.2), _, _, _, e.symm.trans hnext, by show st.2.length ≤ _; walk_at "om", rfl⟩
      · have hc := of_decide_eq_false hc
        have e : mg st t = (t, if st.1.2.2 ≠ 0 then st.2 ++ [st.1] else st.2) := if_neg hc
        refine ws_cons ?_
        refine ws_if ?_
        ((with_reducible refine' wb_plain ?_); walk_at "n")
        refine o_true_int ?_
        refine ⟨fun hk => ?_, fun hk => ?_⟩
        · have hk' : st.1.2.2 ≠ 0 := by simpa using hk
          rw [if_pos hk'] at e
          ((with_reducible refine' ws_cons ?_; refine' ws_expr ?_; refine' we_list_append ?_); walk_at "n")
          refine ⟨typeB_list (by walk_at "has"), ?_⟩
          ((with_reducible refine' wa_cons ?_; refine' we_tuple ?_; refine' wa_cons ?_); walk_at "n"; (with_reducible refine' wa_cons ?_); walk_at "n"; (with_reducible refine' wa_cons ?_); walk_at "n"; (with_reducible refine' wa_nil ?_))
          refine ⟨sz3, ?_⟩
          (with_reducible refine' wa_nil ?_)
          refine o_append (by walk_at "upd") (by simp; walk_at "om") ⟨rfl, ?_⟩
          ((with_reducible refine' seq_next ?_; refine' ws_nil ?_; refine' seq_next ?_; refine' ws_cons ?_))
          refine ws_swap (is := [15, 14, 13]) (by with_unfolding_all rfl) (.cons rfl (.cons rfl (.cons rfl .nil))) ?_
          ((with_reducible refine' we_tuple ?_; refine' wa_cons ?_); walk_at "n"; (with_reducible refine' wa_cons ?_); walk_at "n"; (with_reducible refine' wa_cons ?_); walk_at "n"; (with_reducible refine' wa_nil ?_))
          refine ⟨sz3, _, rfl, rfl, ?_⟩
          ((with_reducible refine' seq_next ?_; refine' ws_nil ?_; refine' seq_next ?_; refine' ws_nil ?_))
          refine ⟨_, [(no, .list (ts (st.2 ++ [st.1]))), (mb, .list (ms bl')), (dx, .ns (smFields aa ba d j p))], ?_, fun _ _ h => h, (t, st.2 ++ [st.1]), _, _, _, e.symm.trans hnext, by simp; walk_at "om", rfl⟩
          rw [show ts (st.2 ++ [st.1]) = ts st.2 ++ [aTri (.type "tuple") st.1] from List.map_append]
          exact List.Sublist.refl _
        · have hk' : st.1.2.2 = 0 := by simpa using hk
          rw [if_neg (fun h => h hk')] at e
          ((with_reducible refine' ws_nil ?_; refine' seq_next ?_; refine' ws_cons ?_))
          refine ws_swap (is := [15, 14, 13]) (by with_unfolding_all rfl) (.cons rfl (.cons rfl (.cons rfl .nil))) ?_
          ((with_reducible refine' we_tuple ?_; refine' wa_cons ?_); walk_at "n"; (with_reducible refine' wa_cons ?_); walk_at "n"; (with_reducible refine' wa_cons ?_); walk_at "n"; (with_reducible refine' wa_nil ?_))
          refine ⟨sz3, _, rfl, rfl, ?_⟩
          ((with_reducible refine' seq_next ?_; refine' ws_nil ?_; refine' seq_next ?_; refine' ws_nil ?_))
          exact ⟨_, [(no, .list (ts st.2)), (mb, .list (ms bl')), (dx, .ns (smFields aa ba d j p))], List.Sublist.refl _, fun _ _ h => h, (t, st.2), _, _, _, e.symm.trans hnext, by show st.2.length ≤ _; walk_at "om", rfl⟩
    · rintro σ₁ ⟨st, o17, o18, o19, hst, _, rfl⟩
      rw [List.length_map, List.take_length] at hst
      exact ⟨rfl, st, o17, o18, o19, hst, rfl⟩
    · rintro _ _ ⟨rfl, st, o17, o18, o19, rfl, rfl⟩
      have hview := blocks_runs (a := a) ib.nodup G hperm hsrt
      have hrl : (runsTo a b a.length).length ≤ a.length := runsTo_len a b a.length
      refine seq_next ?_
      refine ws_cons ?_
      refine W.mono (Q := NextIs (gbF x qu mb dx no a.length b.length (.ns (smFields aa ba d j p)) O (ms bl') (mgAll bl').1 (ts (runsTo a b a.length)) o17 o18 o19)) (ws_if ?_) ?_
      · rw [← hview] at hrl ⊢
        ((with_reducible refine' wb_plain ?_); walk_at "n")
        refine o_true_int ?_
        refine ⟨fun hk => ?_, fun hk => ?_⟩
        · have hk' : (mgAll bl').1.2.2 ≠ 0 := by simpa using hk
          have e : view (mgAll bl') = (mgAll bl').2 ++ [(mgAll bl').1] := if_pos hk'
          rw [e] at hrl ⊢
          simp only [List.length_append, List.length_singleton] at hrl
          ((with_reducible refine' ws_cons ?_; refine' ws_expr ?_; refine' we_list_append ?_); walk_at "n")
          refine ⟨typeB_list (by walk_at "has"), ?_⟩
          ((with_reducible refine' wa_cons ?_; refine' we_tuple ?_; refine' wa_cons ?_); walk_at "n"; (with_reducible refine' wa_cons ?_); walk_at "n"; (with_reducible refine' wa_cons ?_); walk_at "n"; (with_reducible refine' wa_nil ?_))
          refine ⟨sz3, ?_⟩
          (with_reducible refine' wa_nil ?_)
          refine o_append (by walk_at "upd") (by simp; walk_at "om") ⟨rfl, ?_⟩
          ((with_reducible refine' seq_next ?_; refine' ws_nil ?_))
          rw [show ts ((mgAll bl').2 ++ [(mgAll bl').1]) = ts (mgAll bl').2 ++ [aTri (.type "tuple") (mgAll bl').1] from List.map_append]
          exact ⟨rfl, rfl⟩
        · have hk' : (mgAll bl').1.2.2 = 0 := by simpa using hk
          have e : view (mgAll bl') = (mgAll bl').2 := if_neg fun h => h hk'
          rw [e]
          (with_reducible refine' ws_nil ?_)
          exact ⟨rfl, rfl⟩
      rintro _ _ ⟨rfl, rfl⟩
      ((with_reducible refine' seq_next ?_; refine' ws_cons ?_; refine' ws_expr ?_; refine' we_list_append ?_); walk_at "n")
      refine ⟨typeB_list (by walk_at "has"), ?_⟩
      ((with_reducible refine' wa_cons ?_; refine' we_tuple ?_; refine' wa_cons ?_); walk_at "n"; (with_reducible refine' wa_cons ?_); walk_at "n"; (with_reducible refine' wa_cons ?_; refine' we_int ?_; refine' wa_nil ?_))
      refine ⟨sz3, ?_⟩
      (with_reducible refine' wa_nil ?_)
      refine o_append (by walk_at "upd") (by simp; walk_at "om") ⟨rfl, ?_⟩
      have elr : ts (runsTo a b a.length) ++ [AV.tup (.type "tuple") [.int a.length, .int b.length, .int 0]] = ts (lawRuns a b) := by simp [ts, lawRuns]
      rw [elr]
      ((with_reducible refine' seq_next ?_; refine' ws_cons ?_; refine' ws_bind1 ?_; refine' we_call ?_); ((with_reducible refine' we_blt ?za55 ?zb55 ?_); (case za55 => exact rfl); (case zb55 => exact rfl)))
      refine ⟨_, rfl, by walk_at "callee", ?_⟩
      ((with_reducible refine' wa_cons ?_; refine' we_call ?_); ((with_reducible refine' we_blt ?za56 ?zb56 ?_); (case za56 => exact rfl); (case zb56 => exact rfl)))
      refine ⟨_, rfl, by walk_at "callee", ?_⟩
      ((with_reducible refine' wa_cons ?_; refine' we_attr ?_); ((with_reducible refine' we_glob ?za57 ?zb57 ?_); (case za57 => exact rfl); (case zb57 => exact rfl)))
      refine o_mkattr fun mk hmk => ?_
      ((with_reducible refine' wa_cons ?_); walk_at "n"; (with_reducible refine' wa_nil ?_))
      refine o_map (by walk_at "has") fun Mo T I oM oT oI hMO => ?_
      (with_reducible refine' wa_nil ?_)
      refine o_listmap (l := lawRuns a b) hMO rfl (by walk_at "has") (by walk_at "has") (by simp [lawRuns]; walk_at "om") fun B hB => ?_
      refine ⟨_, binds_attr (dx := dx) rfl rfl (.inr ⟨hx, by simpa using nx⟩) (by walk_at "upd") rfl (Nat.le_of_ble_eq_true rfl), ?_⟩
      ((with_reducible refine' seq_next ?_; refine' ws_cons ?_; refine' ws_return ?_; refine' we_attr ?_); walk_at "n")
      refine o_attr (dx := dx) (.inr ⟨hx, by simpa using nx⟩) (by walk_at "has") rfl rfl rfl ?_
      (with_reducible refine' seq_ret ?_)
      exact ⟨⟨[], [(B, .list (ms (lawRuns a b)))]⟩, ⟨by walk_at "sub", fun _ _ h => by simp at h⟩, B, rfl, rfl⟩
end
section
open PySem PySem.W PyProof.Rows PySem.Calls
set_option Elab.async false
set_option linter.unusedVariables false
set_option maxRecDepth 10000
/-! ## exceptions -/
/-- an exception's record: its class, its traceback, no context -/
noncomputable def ExF (oe : Obj) (cls : String) (tb : Value) : Prop := oe.cls = .type cls ∧ ∃ vs, oe.data = .fields vs ∧ vs[1]? = some tb ∧ vs.size = 6
noncomputable def ExC (oe : Obj) : Prop := ∃ vs, oe.data = .fields vs ∧ vs[2]? = some .none
/-- what is being handled -/
noncomputable def HOk (h : Heap) (hd : Option Value) : Prop := hd = none ∨ ∃ e oe, hd = some (.ref e) ∧ h.get? e = some oe ∧ ExC oe
theorem unchain_entry : entryFor table "proto.unchain" = some Builtin.«proto.unchain» := entryFor_of_tree (by kernel_rfl)
theorem unchain_plain : plainId "proto.unchain" = true := by decide +kernel
section
variable {w : World} {A : Around} {E : Value → Shared → Prop} {s : Shared}
theorem raise_new {α : Type} {cls : String} {args : List Value} {Q : α → Shared → Prop} (hp : PlainExc cls) (hargs : args.length ≤ sizeLine) (hd : HOk s.heap A.handled)
    (hE : ∀ h' e oe, (∀ b o, s.heap.get? b = some o → h'.get? b = some o) → s.heap.get? e = none → h'.get? e = some oe → ExF oe cls .none → (A.handled = none → ExC oe) → E (.ref e) { s with heap := h' }) :
    wpAny (model pw w) A (newExc (.type cls) args >>= fun e => (raiseNew e : Sem α)) Q E s := by
  refine wpAny_bind (wpAny_newExc_plain hp (fun h' e hm => ?_) hargs)
  obtain ⟨k1, k2, t, k3, k4, k5⟩ := hm
  unfold raiseNew
  refine wpAny_bind (wpAny_handled ?_)
  rcases hd with hd | ⟨e0, oe0, hd, ho, ⟨vs0, hd0, hc0⟩⟩
  · rw [hd]
    exact wpAny_bind (wpAny_pure (wpAny_throw (hE h' e _ k1 k2 k3 ⟨rfl, _, rfl, rfl, rfl⟩ fun _ => ⟨_, rfl, rfl⟩)))
  · rw [hd]
    have hne : e0 ≠ e := fun q => by rw [q, k2] at ho; cases ho
    show wpAny _ _ (if (Value.ref e0 != Value.ref e) = true then _ else _) _ _ _
    rw [if_pos (by simpa using hne)]
    refine wpAny_bind (wpAny_holding (wpAny_runValue (codeAny_builtin unchain_entry ?_)))
    show wpAny _ _ (field (.ref e0) 2 >>= _) _ _ _
    refine wpAny_bind (wpAny_field (k1 _ _ ho) hd0 hc0 ?_)
    rw [if_pos (by rfl)]
    refine wpAny_pure ?_
    refine wpAny_bind ?_
    show wpAny _ _ (setField (.ref e) 2 (.ref e0)) _ _ _
    refine wpAny_setField k3 rfl (by simp) ?_
    refine wpAny_throw (hE _ e _ (fun b o eb => ?_) k2 (Heap.get?_update_self _ k3 (by rfl)) ⟨rfl, _, rfl, rfl, rfl⟩ fun q => by rw [hd] at q; cases q)
    exact (Heap.get?_update_other _ _ (fun q => by rw [← q, k2] at eb; cases eb)).trans (k1 b o eb)
theorem raise_words {α : Type} {cls msg : String} {Q : α → Shared → Prop} (hp : PlainExc cls) (hd : HOk s.heap A.handled)
    (hE : ∀ h' tk e oe, (∀ b o, s.heap.get? b = some o → h'.get? b = some o) → s.heap.get? e = none → h'.get? e = some oe → ExF oe cls .none → (A.handled = none → ExC oe) → E (.ref e) { s with heap := h', toks := tk }) :
    wpAny (model pw w) A (raiseErrorWords cls msg : Sem α) Q E s := by
  unfold raiseErrorWords
  exact wpAny_bind (wpAny_mkText (raise_new (s := { s with toks := s.toks + 1 }) hp (by show 1 ≤ sizeLine; decide) hd fun h' e oe a b c d f => hE h' _ e oe a b c d f))
theorem item_out {l : Addr} {items : Array Value} {k : Int} {t : Tok} {Q : Value → Shared → Prop} (hd : HOk s.heap A.handled) (hl : s.heap.IsList l items) (hk : 0 ≤ k) (hout : (items.size : Int) ≤ k) (hhi : k < 2 ^ 63)
    (hE : ∀ h' tk e oe, (∀ b o, s.heap.get? b = some o → h'.get? b = some o) → s.heap.get? e = none → h'.get? e = some oe → ExF oe "IndexError" .none → (A.handled = none → ExC oe) → E (.ref e) { s with heap := h', toks := tk }) :
    wpAny (model pw w) A (getItem (.ref l) (.int k t)) Q E s := by
  obtain ⟨o, ho, hc, ne, hdd⟩ := id hl
  unfold getItem
  try with_reducible refine wpAny_holding ?_
  refine wpAny_bind (wpAny_sequenceKey hl.typeIs (by decide) ?_)
  refine wpAny_bind (wpAny_callSpecial?_slot (name := Str.ofString "__getitem__") hl.typeIs slot_list_getitem (wpAny_call_entry slot_list_getitem hl.typeIs entry_list_getitem ?_ (args_list_getitem _ _)))
  show wpAny _ _ (Builtin.List.listSubscript? (.int k t) >>= _) _ _ s
  refine wpAny_bind (wpAny_listSubscript_int (fitsIndex_both (by walk_at "om") hhi) ?_)
  obtain ⟨j, rfl⟩ : ∃ j : Nat, k = Int.ofNat j := ⟨k.toNat, by simp only [Int.ofNat_eq_natCast]; walk_at "om"⟩
  have hx : items[j]? = none := Array.getElem?_eq_none (by have : (items.size : Int) ≤ (j : Int) := hout; walk_at "om")
  show wpAny _ _ ((seqItemAt l j >>= fun r => pure (r.map (j, ·))) >>= _) _ _ s
  refine wpAny_bind (wpAny_bind (wpAny_seqItemAt ho hdd (wpAny_pure ?_)))
  rw [hx]
  first
    | exact wpAny_bind (wpAny_rule (raise_words (A := A.in1) plainExc_IndexError hd hE))
    | exact wpAny_bind (wpAny_rule (wpAny_bind (raise_words (A := A.in1) plainExc_IndexError hd hE)))
    | exact wpAny_rule (raise_words (A := A.in1) plainExc_IndexError hd hE)
end
/-! ## an exception in flight, in a frame -/
structure FrOk (F : Fx) (outer : List Env) : Prop where
  frs : F.A.frames = some (F.env :: outer)
  fr : F.env.frame = some F.env.locals
  out : ∀ env ∈ outer, env.scope.kind ≠ .module ∧ ∃ L, L ∈ F.fs ∧ env.frame = some L
  dic : ∀ b ∈ F.fs, ∃ o es ep, F.h₀.get? b = some o ∧ o.data = .dict es ep
noncomputable def FlyN (cx : Prop) (F : Fx) (cls : String) (σ : Sig) (v : Value) (s : Shared) : Prop := ∃ e oe, v = .ref e ∧ ExF oe cls .none ∧ (cx → ExC oe) ∧ St F ⟨σ.vals, (e, .obj oe) :: σ.led⟩ s
noncomputable def FlyT (cx : Prop) (F : Fx) (cls : String) (x : Value) (σ : Sig) (v : Value) (s : Shared) : Prop := ∃ e oe T oT ts, v = .ref e ∧ ExF oe cls (.ref T) ∧ (cx → ExC oe) ∧ oT.data = .fields ts ∧ ts[3]? = some x ∧ St F ⟨σ.vals, (e, .obj oe) :: (T, .obj oT) :: σ.led⟩ s
noncomputable def Fly (cx : Prop) (F : Fx) (cls : String) (σ : Sig) (v : Value) (s : Shared) : Prop := FlyN cx F cls σ v s ∨ FlyT cx F cls (rawInt F.env.locals) σ v s
section
variable {cx : Prop} {F : Fx} {E : Value → Shared → Prop} {σ : Sig} {s : Shared} {outer : List Env}
theorem St.frames (S : St F σ s) (fo : FrOk F outer) : s.heap.FunFrames F.hT (F.env :: outer) := by
  have hout : ∀ l : List Env, (∀ env ∈ l, env.scope.kind ≠ .module ∧ ∃ L, L ∈ F.fs ∧ env.frame = some L) → s.heap.FunFrames F.hT l := by
    intro l
    induction l with
    | nil => intro _; trivial
    | cons env r ih =>
      intro h
      obtain ⟨h1, L, hL, h2⟩ := h env (.head _)
      obtain ⟨hm, o, ho, hd⟩ := S.ok.fsm L hL
      obtain ⟨sl, hs⟩ := (S.fr L hL).2 o ho
      exact ⟨h1, ⟨L, _, h2, S.ok.hm L hm, hs, hd⟩, ih fun env he => h env (.tail _ he)⟩
  obtain ⟨m, hn, _⟩ := S.ns
  obtain ⟨o, es, ep, ho, hd, _⟩ := hn
  refine ⟨(by rw [S.ok.kind]; intro h; cases h), ⟨F.env.locals, o, fo.fr, ?_, ho, fun vs q => (by rw [hd] at q; cases q)⟩, hout outer fo.out⟩
  cases q : F.hT.get? F.env.locals with
  | none => rfl
  | some o => have := S.ok.ht _ _ q; rw [S.Lnew] at this; cases this
/-- the frames' slots are others now -/
theorem St.slots (S : St F σ s) (fo : FrOk F outer) {h' : Heap} (hs : Heap.SlotsOnly ((F.env :: outer).filterMap (·.frame)) s.heap h') : St F σ { s with heap := h' } ∧ Mono s.heap h' := by
  have hin : ∀ b, b ∈ (F.env :: outer).filterMap (·.frame) → b = F.env.locals ∨ b ∈ F.fs := by
    intro b hb
    rw [List.filterMap_cons, fo.fr] at hb
    rcases List.mem_cons.mp hb with e | hb
    · exact .inl e
    · obtain ⟨env, he, hf⟩ := List.mem_filterMap.mp hb
      obtain ⟨_, L, hL, h2⟩ := fo.out env he
      rw [h2] at hf; cases hf; exact .inr hL
  have oth : ∀ b o, b ≠ F.env.locals → b ∉ F.fs → s.heap.get? b = some o → h'.get? b = some o := fun b o h1 h2 e => by
    rw [hs.2.1 b fun z => (hin b z).elim h1 h2]; exact e
  obtain ⟨m, hn, hv⟩ := S.ns
  have mono : Mono s.heap h' := fun b c dd vs n hc e => by
    refine oth b _ (fun z => ?_) (fun z => ?_) e
    · obtain ⟨o, es, ep, ho, hd, _⟩ := hn
      rw [z, ho] at e; cases e; cases hd
    · obtain ⟨o, es, ep, ho, hd⟩ := fo.dic b z
      obtain ⟨sl, q⟩ := (S.fr b z).2 o ho
      rw [e] at q
      have : (⟨c, dd, .seq vs n, #[]⟩ : Obj).data = ({ o with slots := sl } : Obj).data := congrArg Obj.data (Option.some.inj q)
      dsimp only at this
      rw [hd] at this; cases this
  have hns : h'.Ns F.env.locals m := by
    obtain ⟨o, es, ep, ho, hd, hk, hf⟩ := hn
    obtain ⟨sl, q⟩ := hs.2.2 _ o ho
    exact ⟨_, es, ep, q, hd, hk, hf⟩
  refine ⟨⟨S.ok, ⟨m, hns, fun i x av a b => ?_⟩, fun p hp => ?_, S.nd, S.new, S.Lnew, fun b o e n => ?_, S.gens, S.os, fun b hb => ⟨(S.fr b hb).1, fun o e => ?_⟩, S.mb.trans mono⟩, mono⟩
  · obtain ⟨v, q, z⟩ := hv i x av a b
    exact ⟨v, q, z.mono mono⟩
  · refine (S.rep p hp).keep mono fun x e => oth _ _ (fun z => S.Lnot (z ▸ List.mem_map_of_mem hp)) (fun z => (S.fr _ z).1 (List.mem_map_of_mem hp)) e
  · exact oth b o (fun z => by rw [z, S.Lnew] at e; cases e) (fun z => n (S.ok.fsm b z).1) (S.keep b o e n)
  · obtain ⟨sl, q⟩ := (S.fr b hb).2 o e
    obtain ⟨sl', q'⟩ := hs.2.2 _ _ q
    exact ⟨sl', q'⟩
/-- the frame is noted -/
theorem fly_note {cls : String} {v : Value} {Q : Unit → Shared → Prop} (fo : FrOk F outer) (h : Fly cx F cls σ v s) (hQ : ∀ s', FlyT cx F cls (rawInt F.env.locals) σ v s' → Mono s.heap s'.heap → Q () s') : wpAny (model pw F.w) F.A (noteFrame v F.env) Q E s := by
  rcases h with ⟨e, oe, rfl, ⟨hc, vs, hd, h1, hz⟩, hx, S⟩ | ⟨e, oe, T, oT, ts, rfl, ⟨hc, vs, hd, h1, hz⟩, hx, hdT, h3, S⟩
  · unfold noteFrame
    simp only [fo.fr]
    have he := S.rep (e, .obj oe) (.head _)
    refine wpAny_bind (wpAny_field he hd h1 ?_)
    rw [if_neg (by decide)]
    refine wpAny_bind (wpAny_frameOf_fun fo.frs (S.frames fo) fo.fr fun h₁ hs₁ => ?_)
    obtain ⟨S₁, m₁⟩ := S.slots fo hs₁
    refine wpAny_bind (wpAny_entryPlaceOf fun pl hpl => ?_)
    unfold EntryCells.newEntry newFields
    refine wpAny_bind (wpAny_newObj_type ?_ (hpl.sizeOk5 _ _ _ _ _))
    generalize hoT : ({ cls := .type "traceback", dict := none, data := .fields ([Value.none, .ref F.env.locals, .none, rawInt F.env.locals, .none] ++ (if pl.isEmpty then List.replicate 6 Value.none else pl)).toArray } : Obj) = oT
    have hk₂ := push_keep h₁ oT
    have S₂ := S₁.alloc (tk := s.toks) (a := h₁.objs.size) (o := .obj oT) hk₂ (size_none _) (Heap.get?_push_size _ (by rw [← hoT]; rfl))
    have he₂ : (h₁.push oT).get? e = some oe := S₂.rep (e, .obj oe) (.tail _ (.head _))
    refine wpAny_setField he₂ hd (by walk_at "om") ?_
    have hs₃ := Heap.SameBut.update (h₁.push oT) e (Obj.mapFields (·.setIfInBounds 1 (.ref h₁.objs.size)))
    have hd₃ := Obj.data_mapFields hd (·.setIfInBounds 1 (Value.ref h₁.objs.size))
    have m₃ : Mono (h₁.push oT) ((h₁.push oT).update e (Obj.mapFields (·.setIfInBounds 1 (.ref h₁.objs.size)))) := not_imm_data he₂ (fun vs n q => by rw [hd] at q; cases q) fun b x ex hb => (hs₃.2 b hb).trans ex
    have S₃ := S₂.upd (tk := s.toks) (a := e) (o := .obj oe) (o' := .obj (oe.mapFields (·.setIfInBounds 1 (.ref h₁.objs.size)))) (.tail .head) (fun b x ex hb => (hs₃.2 b hb).trans ex) m₃ (Heap.get?_update_self _ he₂ (Obj.isFreed_of_fields hd₃))
    refine hQ _ ⟨e, _, h₁.objs.size, oT, _, rfl, ⟨(Obj.cls_mapFields _ _).trans hc, _, hd₃, by simp [hz], by simp [hz]⟩, fun q => ?_, by rw [← hoT], by simp, S₃.perm (List.Perm.swap _ _ _)⟩ (m₁.trans ((Mono.of_keep hk₂).trans m₃))
    obtain ⟨vs', hd', h2⟩ := hx q
    rw [hd] at hd'; cases hd'
    exact ⟨_, hd₃, by simpa using h2⟩
  · have he := S.rep (e, .obj oe) (.head _)
    have hT := S.rep (T, .obj oT) (.tail _ (.head _))
    exact wpAny_noteFrame_inFlight fo.fr he hd h1 hT hdT h3 (hQ s ⟨e, oe, T, oT, ts, rfl, ⟨hc, vs, hd, h1, hz⟩, hx, hdT, h3, S⟩ (.refl _))
/-- the flight's mark is set -/
theorem fly_set {cls : String} {x : Value} {v : Value} {fr : Option Addr} {Q : Unit → Shared → Prop} {A : Around} (h : FlyT cx F cls x σ v s) (hQ : ∀ s', FlyT cx F cls (fr.elim .none fun f => rawInt f) σ v s' → Mono s.heap s'.heap → Q () s') : wpAny (model pw F.w) A (setFlight v fr) Q E s := by
  obtain ⟨e, oe, T, oT, ts, rfl, ⟨hc, vs, hd, h1, hz⟩, hx, hdT, h3, S⟩ := h
  have he := S.rep (e, .obj oe) (.head _)
  have hT := S.rep (T, .obj oT) (.tail _ (.head _))
  have hlt : 3 < ts.size := (Array.getElem?_eq_some_iff.mp h3).1
  unfold setFlight
  refine wpAny_bind (wpAny_field he hd h1 ?_)
  rw [if_pos (show (Value.ref T != Value.none) = true from by simp)]
  refine wpAny_setField hT hdT hlt ?_
  generalize hy : (fr.elim Value.none fun f => rawInt f) = y
  have hs₃ := Heap.SameBut.update s.heap T (Obj.mapFields (·.setIfInBounds 3 y))
  have hd₃ := Obj.data_mapFields hdT (·.setIfInBounds 3 y)
  have m₃ : Mono s.heap (s.heap.update T (Obj.mapFields (·.setIfInBounds 3 y))) := not_imm_data hT (fun vs n q => by rw [hdT] at q; cases q) fun b x ex hb => (hs₃.2 b hb).trans ex
  have S₃ := S.upd (tk := s.toks) (a := T) (o := .obj oT) (o' := .obj (oT.mapFields (·.setIfInBounds 3 y))) (.tail .head) (fun b x ex hb => (hs₃.2 b hb).trans ex) m₃ (Heap.get?_update_self _ hT (Obj.isFreed_of_fields hd₃))
  exact hQ _ ⟨e, oe, T, _, _, rfl, ⟨hc, vs, hd, h1, hz⟩, hx, hd₃, by rw [hy]; simp [hlt], S₃⟩ m₃
theorem fly_back {cls : String} {v : Value} (fo : FrOk F outer) (h : FlyT cx F cls (rawInt F.env.locals) σ v s) (hE : ∀ s', FlyT cx F cls (rawInt F.env.locals) σ v s' → Mono s.heap s'.heap → E v s') : cameBackBy (model pw F.w) F.A F.env E v s := by
  have h' := h
  obtain ⟨e, oe, T, oT, ts, rfl, ⟨hc, vs, hd, h1, hz⟩, hx, hdT, h3, S⟩ := h
  have he := S.rep (e, .obj oe) (.head _)
  unfold cameBackBy
  refine wpAny_bind (wpAny_field he hd h1 ?_)
  rw [if_neg (show ¬ ((Value.ref T == Value.none) = true) from Bool.false_ne_true), fo.fr]
  exact fly_set h' fun s' f m => hE s' f m
end
end
section
open PySem PySem.W PyProof.Rows PySem.Calls
set_option Elab.async false
set_option linter.unusedVariables false
set_option maxRecDepth 10000
noncomputable abbrev Fx.bas (F : Fx) (h : Heap) : Fx := { F with hb := h }
noncomputable abbrev Fx.hdl (F : Fx) (v : Value) : Fx := { F with A := F.A.mark (some v), hd := some v }
/-- what a raise leaves -/
noncomputable def FE (cx : Prop) (F : Fx) (cls : String) (Qe : Sig → Prop) : Value → Shared → Prop := fun v s => ∃ σ, Fly cx F cls σ v s ∧ Qe σ
section
variable {cx : Prop} {F : Fx} {E : Value → Shared → Prop} {σ : Sig} {s : Shared} {outer : List Env} {cls : String}
theorem St.bas (S : St F σ s) {h : Heap} (m : Mono h s.heap) : St (F.bas h) σ s := ⟨⟨S.ok.kind, S.ok.loc, S.ok.nd, S.ok.gk, S.ok.glob, S.ok.bi, S.ok.hh, S.ok.dep, S.ok.un, S.ok.top, S.ok.ht, S.ok.hm, S.ok.hmi, S.ok.fsm⟩, S.ns, S.rep, S.nd, S.new, S.Lnew, S.keep, S.gens, S.os, S.fr, m⟩
theorem St.unbas {h : Heap} (S : St (F.bas h) σ s) (m : Mono F.hb h) : St F σ s := ⟨⟨S.ok.kind, S.ok.loc, S.ok.nd, S.ok.gk, S.ok.glob, S.ok.bi, S.ok.hh, S.ok.dep, S.ok.un, S.ok.top, S.ok.ht, S.ok.hm, S.ok.hmi, S.ok.fsm⟩, S.ns, S.rep, S.nd, S.new, S.Lnew, S.keep, S.gens, S.os, S.fr, m.trans S.mb⟩
theorem St.hdl (S : St F σ s) (v : Value) : St (F.hdl v) σ s := ⟨⟨S.ok.kind, S.ok.loc, S.ok.nd, S.ok.gk, S.ok.glob, S.ok.bi, rfl, S.ok.dep, S.ok.un, S.ok.top, S.ok.ht, S.ok.hm, S.ok.hmi, S.ok.fsm⟩, S.ns, S.rep, S.nd, S.new, S.Lnew, S.keep, S.gens, S.os, S.fr, S.mb⟩
theorem St.unhdl {v : Value} (S : St (F.hdl v) σ s) (hh : F.A.handled = F.hd) : St F σ s := ⟨⟨S.ok.kind, S.ok.loc, S.ok.nd, S.ok.gk, S.ok.glob, S.ok.bi, hh, S.ok.dep, S.ok.un, S.ok.top, S.ok.ht, S.ok.hm, S.ok.hmi, S.ok.fsm⟩, S.ns, S.rep, S.nd, S.new, S.Lnew, S.keep, S.gens, S.os, S.fr, S.mb⟩
theorem FrOk.bas (fo : FrOk F outer) (h : Heap) : FrOk (F.bas h) outer := ⟨fo.frs, fo.fr, fo.out, fo.dic⟩
theorem FrOk.hdl (fo : FrOk F outer) (v : Value) : FrOk (F.hdl v) outer := ⟨fo.frs, fo.fr, fo.out, fo.dic⟩
theorem FlyT.unhdl {v u x : Value} (f : FlyT cx (F.hdl v) cls x σ u s) (hh : F.A.handled = F.hd) : FlyT False F cls x σ u s :=
  let ⟨e, oe, T, oT, ts, h1, h2, h3, h4, h5, S⟩ := f; ⟨e, oe, T, oT, ts, h1, h2, fun h => h.elim, h4, h5, S.unhdl hh⟩
theorem FlyT.weak {x u : Value} (f : FlyT cx F cls x σ u s) : FlyT False F cls x σ u s :=
  let ⟨e, oe, T, oT, ts, h1, h2, h3, h4, h5, S⟩ := f; ⟨e, oe, T, oT, ts, h1, h2, fun h => h.elim, h4, h5, S⟩
theorem FlyT.unbas {h : Heap} {x u : Value} (f : FlyT cx (F.bas h) cls x σ u s) (m : Mono F.hb h) : FlyT cx F cls x σ u s :=
  let ⟨e, oe, T, oT, ts, h1, h2, h3, h4, h5, S⟩ := f; ⟨e, oe, T, oT, ts, h1, h2, h3, h4, h5, S.unbas m⟩
/-- an index beyond the end -/
theorem o_item_out {value slice : Expr} {a : Addr} {l : List AV} {k : Int} {Q : AV → Sig → Prop} {Qe : Sig → Prop} (ha : Has F σ a (.list l)) (h0 : 0 ≤ k) (hk : (l.length : Int) ≤ k) (hfit : k < 2 ^ 63) (hcx : cx → F.hd = none)
    (hh : F.hd = none ∨ ∃ e0 oe0, F.hd = some (.ref e0) ∧ (e0, AO.obj oe0) ∈ σ.led ∧ ExC oe0) (hq : Qe σ)
    (hs : ∀ u, subscripted slice false (.ref a) (.int k u) = operate [.ref a, .int k u] (getItem (.ref a) (.int k u)) := by intro u; with_unfolding_all rfl) : WO2 F (FE cx F "IndexError" Qe) Rep (subscriptTail value slice) (.ref a) (.int k) σ Q := by
  rintro s v u S ⟨⟩ ⟨⟩
  obtain ⟨vs, n, e, r⟩ := S.has ha
  have hl : s.heap.IsList a vs.toArray := PySem.IsL.isList e
  have hd : HOk s.heap F.A.handled := by
    rw [S.ok.hh]
    rcases hh with h | ⟨e0, oe0, h1, h2, h3⟩
    · exact .inl h
    · exact .inr ⟨e0, oe0, h1, S.rep _ h2, h3⟩
  refine tail_any hl.typeIs slot_list_getitem.lookup (item_out hd hl h0 (by rw [List.size_toArray, ← r.length]; exact hk) hfit ?_) (hs _)
  intro h' tk e oe k1 k2 k3 k4 k5
  exact ⟨σ, .inl ⟨e, oe, rfl, k4, fun h => k5 (by rw [S.ok.hh]; exact hcx h), S.alloc (tk := tk) k1 k2 (o := .obj oe) k3⟩, hq⟩
/-- a while whose turns may raise -/
theorem ws_whileE {test : Expr} {body : List Stmt} {p : Pos} {Q : AF → Sig → Prop} {Qe : Sig → Prop} (fo : FrOk F outer) (I : Nat → Sig → Prop) (n : Nat) (h0 : I n σ)
    (turn : ∀ n σ, I n σ → WB F (FE cx F cls Qe) (isTrue test F.env (eval test F.env)) σ fun b σ' =>
      (b = true → WS F (FE cx F cls Qe) (execs body F.env) σ' fun f σ'' => match f with
        | .next | .cont => ∃ m, m < n ∧ I m σ''
        | .brk => Q .next σ''
        | .ret v => Q (.ret v) σ'') ∧ (b = false → Q .next σ')) : WS F (FE cx F cls Qe) (exec (.While test body [] p) F.env) σ Q := by
  intro s S
  have up : ∀ v s', FE cx F cls Qe v s' → notedBy (model pw F.w) F.A F.env (fun e s' => cameBackBy (model pw F.w) F.A F.env (FE cx F cls Qe) e s') v s' := by
    rintro v s' ⟨σ', f, q⟩
    exact fly_note fo f fun s₁ f₁ _ => fly_back fo f₁ fun s₂ f₂ _ => ⟨σ', .inr f₂, q⟩
  refine wpAny_While (codeAny_whileLoop (fun n s' => ∃ σ', St F σ' s' ∧ Mono s.heap s'.heap ∧ I n σ') (fun n s₁ hI => ?_) n ⟨σ, S, .refl _, h0⟩)
  obtain ⟨σ₁, S₁, m₁, hI⟩ := hI
  refine wpAny_mono (turn n σ₁ hI s₁ S₁) ?_ up
  rintro b s₂ ⟨b', σ₂, r, S₂, m₂, q1, q2⟩
  obtain rfl : b' = b := r
  cases b' with
  | false =>
    show wpAny _ _ (execs [] F.env) _ _ s₂
    exact wpAny_execs_nil ⟨.next, σ₂, .next, S₂, m₁.trans m₂, q2 rfl⟩
  | true =>
    show wpAny _ _ (execs body F.env) _ _ s₂
    refine wpAny_mono (q1 rfl s₂ S₂) ?_ up
    rintro f s₃ ⟨f', σ₃, rf, S₃, m₃, q⟩
    have mm := m₁.trans (m₂.trans m₃)
    cases rf with
    | next => obtain ⟨k, hk, hq⟩ := q; exact ⟨k, hk, σ₃, S₃, mm, hq⟩
    | cont => obtain ⟨k, hk, hq⟩ := q; exact ⟨k, hk, σ₃, S₃, mm, hq⟩
    | brk => exact ⟨.next, σ₃, .next, S₃, mm, q⟩
    | ret r => exact ⟨_, σ₃, .ret r, S₃, mm, q⟩
structure ExcOk (cls : String) : Prop where
  exc : isSubtype (.type cls) (.type "BaseException") = pure true
  nt : isSubtype (.type ((Manifest.find? cls).elim "type" fun x => x.metatype)) (.type "tuple") = pure false
  sub : isSubtype (.type cls) (.type cls) = pure true
theorem excOk_index : ExcOk "IndexError" := ⟨by rw [isSubtype_type]; kernel_rfl, by rw [isSubtype_type]; kernel_rfl, by rw [isSubtype_type]; kernel_rfl⟩
theorem excOk_value : ExcOk "ValueError" := ⟨by rw [isSubtype_type]; kernel_rfl, by rw [isSubtype_type]; kernel_rfl, by rw [isSubtype_type]; kernel_rfl⟩
/-- try .. except X: a raise is caught -/
theorem ws_try {body suite : List Stmt} {b₀ : Stmt} {x : Str} {xp pos hpos : Pos} {Q : AF → Sig → Prop} {Qe : Sig → Prop} (fo : FrOk F outer) (ok : ExcOk cls) (hm : memS F.globs x = true) (hv : findS btab x = some (.type cls))
    (hbody : ∀ hb, WS (F.bas hb) (FE cx (F.bas hb) cls Qe) (execs body F.env) σ Q)
    (hh : ∀ σ' hb e oe T oT, Qe σ' → WS ((F.bas hb).hdl (.ref e)) NoE (execs (b₀ :: suite) F.env) ⟨σ'.vals, (e, .obj oe) :: (T, .obj oT) :: σ'.led⟩ fun f σ'' => ∃ σ₃, Weak σ'' σ₃ ∧ Q f σ₃) :
    WS F E (exec (.Try body [.ExceptHandler (some (.Name x xp)) none (b₀ :: suite) hpos] [] [] pos) F.env) σ Q := by
  intro s S
  have Sb := S.bas (.refl s.heap)
  have hhd := S.ok.hh
  refine wpAny_Try_except (wpAny_mono (hbody s.heap s Sb) ?_ ?_)
  · rintro f s₁ ⟨f', σ₁, rf, S₁, m₁, q⟩
    have S₂ := S₁.unbas S.mb
    cases rf with
    | next => exact wpAny_execs_nil ⟨.next, σ₁, .next, S₂, m₁, q⟩
    | brk => exact ⟨.brk, σ₁, .brk, S₂, m₁, q⟩
    | cont => exact ⟨.cont, σ₁, .cont, S₂, m₁, q⟩
    | ret r => exact ⟨_, σ₁, .ret r, S₂, m₁, q⟩
  · rintro v s₁ ⟨σ₁, f₁, q⟩
    refine fly_note (F := F.bas s.heap) (fo.bas s.heap) f₁ fun s₂ f₂ _ => fly_set (F := F.bas s.heap) (fr := none) f₂ fun s₃ f₃ _ => ?_
    obtain ⟨e, oe, T, oT, ts, rfl, ⟨hc, vs, hd, h1, hz⟩, hx, hdT, h3, S₃⟩ := id f₃
    refine wpAny_handleBy_builtin (X := cls) (T := cls) (b := true) ok.exc ok.nt ok.sub ?_
    have S₄ := S₃.hdl (.ref e)
    refine wpAny_mono (we_blt (F := (F.bas s.heap).hdl (.ref e)) (E := NoE) (σ := ⟨σ₁.vals, (e, .obj oe) :: (T, .obj oT) :: σ₁.led⟩) (Q := fun y σ' => y = .raw (.type cls) ∧ σ' = ⟨σ₁.vals, (e, .obj oe) :: (T, .obj oT) :: σ₁.led⟩) hm hv ⟨rfl, rfl⟩ s₃ S₄) ?_ fun _ _ h => h.elim
    rintro c s₅ ⟨y, σ₅, ry, S₅, m₅, rfl, rfl⟩
    cases ry
    refine ⟨rfl, ⟨oe, S₅.rep (e, .obj oe) (.head _), hc⟩, ?_⟩
    rw [if_pos rfl]
    have S₆ : St (F.bas s.heap) ⟨σ₁.vals, (e, .obj oe) :: (T, .obj oT) :: σ₁.led⟩ s₅ := S₅.unhdl hhd
    refine fly_set (F := F.bas s.heap) (cx := cx) (fr := none) (x := .none) ⟨e, oe, T, oT, ts, rfl, ⟨hc, vs, hd, h1, hz⟩, hx, hdT, h3, S₆⟩ fun s₇ f₇ _ => ?_
    obtain ⟨e', oe', T', oT', ts', hee, _, _, _, _, S₇⟩ := f₇
    cases hee
    refine wpAny_mono (hh σ₁ s.heap e oe' T' oT' q s₇ (S₇.hdl (.ref e))) ?_ fun _ _ h => h.elim
    rintro f s₈ ⟨f', σ₈, rf, S₈, m₈, σ₉, wk, q₉⟩
    have S₉ := ((S₈.unhdl hhd).unbas S.mb).weak wk
    have mm : Mono s.heap s₈.heap := S₈.mb
    cases rf with
    | next => exact ⟨.next, σ₉, .next, S₉, mm, q₉⟩
    | brk => exact ⟨.brk, σ₉, .brk, S₉, mm, q₉⟩
    | cont => exact ⟨.cont, σ₉, .cont, S₉, mm, q₉⟩
    | ret r => exact ⟨_, σ₉, .ret r, S₉, mm, q₉⟩
end
end
section
open PySem PySem.W PyProof.Rows PySem.Calls
set_option Elab.async false
set_option linter.unusedVariables false
set_option maxRecDepth 10000
section
variable {cx : Prop} {F : Fx} {E : Value → Shared → Prop} {σ : Sig} {s : Shared} {outer : List Env} {cls : String}
/-- try .. finally, where both may raise -/
theorem ws_tryfin {body fs : List Stmt} {f₀ : Stmt} {pos : Pos} {Q : AF → Sig → Prop} {Qn Qb Qe : Sig → Prop} (fo : FrOk F outer)
    (hbody : ∀ hb, WS (F.bas hb) (FE True (F.bas hb) cls Qb) (execs body F.env) σ fun f σ' => f = .next ∧ Qn σ')
    (hnorm : ∀ σ', Qn σ' → WS F (FE False F cls Qe) (execs (f₀ :: fs) F.env) σ' fun f σ'' => f = .next ∧ Q .next σ'')
    (hexc : ∀ σ' hb e oe T oT, Qb σ' → ExC oe → WS ((F.bas hb).hdl (.ref e)) (FE False ((F.bas hb).hdl (.ref e)) cls fun σ₂ => ∃ σ₃, Weak σ₂ σ₃ ∧ Qe σ₃) (execs (f₀ :: fs) F.env) ⟨σ'.vals, (e, .obj oe) :: (T, .obj oT) :: σ'.led⟩ fun f σ'' => f = .next ∧ ∃ σ₃, σ'' = ⟨σ₃.vals, (e, .obj oe) :: (T, .obj oT) :: σ₃.led⟩ ∧ Qe σ₃) :
    WS F (FE False F cls Qe) (exec (.Try body [] [] (f₀ :: fs) pos) F.env) σ Q := by
  intro s S
  have hhd := S.ok.hh
  have up : ∀ v s', FE False F cls Qe v s' → notedBy (model pw F.w) F.A F.env (cameBackBy (model pw F.w) F.A F.env (FE False F cls Qe)) v s' := by
    rintro v s' ⟨σ', f, q⟩
    exact fly_note fo f fun s₁ f₁ _ => fly_back fo f₁ fun s₂ f₂ _ => ⟨σ', .inr f₂, q⟩
  have fin : ∀ σ₁ s₁, St F σ₁ s₁ → Mono s.heap s₁.heap → Qn σ₁ → wpAny (model pw F.w) F.A (execs (f₀ :: fs) F.env) (fun g s' => match g with | .next => Post F RepF s.heap Q .next s' | g => Post F RepF s.heap Q g s') (notedBy (model pw F.w) F.A F.env (cameBackBy (model pw F.w) F.A F.env (FE False F cls Qe))) s₁ := by
    intro σ₁ s₁ S₁ m₁ q
    refine wpAny_mono (hnorm σ₁ q s₁ S₁) ?_ up
    rintro f s₂ ⟨f', σ₂, rf, S₂, m₂, rfl, q₂⟩
    cases rf
    exact ⟨.next, σ₂, .next, S₂, m₁.trans m₂, q₂⟩
  refine wpAny_Try_finally (wpAny_mono (hbody s.heap s (S.bas (.refl s.heap))) ?_ ?_)
  · rintro f s₁ ⟨f', σ₁, rf, S₁, m₁, rfl, q⟩
    cases rf
    exact wpAny_execs_nil (fin σ₁ s₁ (S₁.unbas S.mb) m₁ q)
  · rintro v s₁ ⟨σ₁, f₁, q⟩
    refine fly_note (F := F.bas s.heap) (fo.bas s.heap) f₁ fun s₂ f₂ _ => ?_
    refine ⟨by obtain ⟨e, oe, T, oT, ts, rfl, _⟩ := f₂; exact ref_ne_byPass e, ?_⟩
    refine fly_note (F := F.bas s.heap) (fo.bas s.heap) (.inr f₂) fun s₃ f₃ _ => fly_set (F := F.bas s.heap) (fr := none) f₃ fun s₄ f₄ _ => ?_
    obtain ⟨e, oe, T, oT, ts, rfl, ⟨hc, vs, hd, h1, hz⟩, hx, hdT, h3, S₄⟩ := f₄
    refine wpAny_mono (hexc σ₁ s.heap e oe T oT q (hx trivial) s₄ (S₄.hdl (.ref e))) ?_ ?_
    · rintro g s₅ ⟨g', σ₅, rg, S₅, m₅, rfl, σ₆, rfl, q₆⟩
      cases rg
      have S₆ : St F ⟨σ₆.vals, (e, .obj oe) :: (T, .obj oT) :: σ₆.led⟩ s₅ := (S₅.unhdl hhd).unbas S.mb
      have f₆ : FlyT False F cls .none σ₆ (.ref e) s₅ := ⟨e, oe, T, oT, ts, rfl, ⟨hc, vs, hd, h1, hz⟩, fun h => h.elim, hdT, h3, S₆⟩
      unfold PySem.passOn
      refine wpAny_bind (wpAny_field (S₆.rep (e, .obj oe) (.head _)) hd h1 ?_)
      rw [if_neg (show ¬ ((Value.ref T == Value.none) = true) from Bool.false_ne_true), fo.fr]
      exact wpAny_bind (fly_set f₆ fun s₇ f₇ _ => wpAny_throw ⟨σ₆, .inr f₇, q₆⟩)
    · rintro v' s₅ ⟨σ₅, f₅, σ₆, wk, q₆⟩
      refine fly_note (F := (F.bas s.heap).hdl (.ref e)) ((fo.bas s.heap).hdl (.ref e)) f₅ fun s₆ f₆ _ => ?_
      have f₇ : FlyT False F cls (rawInt F.env.locals) σ₅ v' s₆ := (FlyT.unhdl (F := F.bas s.heap) f₆ hhd).unbas S.mb
      have f₈ : FlyT False F cls (rawInt F.env.locals) σ₆ v' s₆ := by
        obtain ⟨e', oe', T', oT', ts', h1', h2', h3', h4', h5', S'⟩ := f₇
        exact ⟨e', oe', T', oT', ts', h1', h2', h3', h4', h5', S'.weak ⟨(wk.1.cons_cons _).cons_cons _, wk.2⟩⟩
      exact fly_back fo f₈ fun s₇ f₉ _ => ⟨σ₆, .inr f₉, q₆⟩
theorem o_extend {a b : Addr} {l m : List AV} {led' : List (Addr × AO)} {Q : AV → Sig → Prop} (u : Upd a (.list l) (.list (l ++ m)) σ.led led') (hb : Has F σ b (.list m)) (hsz : l.length + m.length ≤ sizeLine) (h : Q .none ⟨σ.vals, led'⟩) :
    WOL F E Rep (fun vs => call (.builtin "list.extend") vs) [.ref a, .ref b] σ Q := by
  rintro s vs S r
  obtain ⟨_, _, rfl, r1, r2⟩ := r.inv2
  cases r1; cases r2
  obtain ⟨ws, n, e, rl⟩ := S.has (.inl u.mem)
  obtain ⟨us, k, e', rm⟩ := S.has hb
  have hsz' : ws.toArray.size + us.toArray.size ≤ sizeLine := by rw [List.size_toArray, List.size_toArray, ← rl.length, ← rm.length]; exact hsz
  refine call_meets PySem.F.slot_list_extend ⟨_, e, rfl⟩ PySem.F.entry_list_extend (PySem.F.args_list_extend_2 _ _) (AutoSeq1.list_extend_list_list_0 a ws.toArray n b us.toArray k (extend_door hsz') (Nat.le_trans (Nat.le_add_right _ _) hsz')) ⟨e, e', ?_⟩
  obtain ⟨S', mono⟩ := S.listUpd (tk := s.toks) u (vs' := ws ++ us) e (fun x => x ++ us.toArray) (by simp) fun h' mn => RepL.append (rm.mono mn) (rl.mono mn)
  exact ⟨.none, _, .none, S', mono, h⟩
theorem ints_ne {ws : List Value} {ns : List Int} {h : Heap} (rl : RepL h (zs ns) ws) : ∀ m (hm : m < ws.toArray.size), ∃ t, ws.toArray[m] = .int (ns.getD m 0) t := fun m hm => by
  have hlen : ns.length = ws.length := by simpa using rl.length
  have hm' : m < ws.length := by simpa using hm
  have := rl.get (i := m) (x := .int (ns.getD m 0)) (v := ws[m]) (by simp [List.getD, hlen, hm']) (List.getElem?_eq_getElem hm')
  generalize hq : ws[m] = q at this
  cases this with
  | int _ t => exact ⟨t, by simpa using hq⟩
theorem o_remove {a : Addr} {ns : List Int} {x : Int} {j : Nat} {led' : List (Addr × AO)} {Q : AV → Sig → Prop} (u : Upd a (.list (zs ns)) (.list (zs (ns.eraseIdx j))) σ.led led') (hj : ns[j]? = some x) (hno : ∀ m < j, ns[m]? ≠ some x) (hsz : ns.length ≤ sizeLine) (h : Q .none ⟨σ.vals, led'⟩) :
    WOL F E Rep (fun vs => call (.builtin "list.remove") vs) [.ref a, .int x] σ Q := by
  rintro s vs S r
  obtain ⟨_, _, rfl, r1, r2⟩ := r.inv2
  cases r1
  cases r2 with | int _ t =>
  obtain ⟨ws, n, e, rl⟩ := S.has (.inl u.mem)
  have val := ints_ne rl
  have hlen : ns.length = ws.length := by simpa using rl.length
  have hjl : j < ns.length := (List.getElem?_eq_some_iff.mp hj).1
  refine call_meets PySem.F.slot_list_remove ⟨_, e, rfl⟩ PySem.F.entry_list_remove (PySem.F.args_list_remove_2 _ _) (PySem.MeetsSeq.list_remove a ws.toArray n (.int x t) (fun y => match y with | .int i _ => i == x | _ => false) (fun y hy => ?_) j (by rw [List.size_toArray]; walk_at "om") ?_ ?_ (by rw [List.size_toArray]; walk_at "om")) ⟨e, ?_⟩
  · obtain ⟨m, hm, rfl⟩ := Array.getElem_of_mem hy
    obtain ⟨t', q⟩ := val m hm
    rw [q]
    exact PySem.MeetsSeq.EqGives.int _ _ _ _
  · obtain ⟨t', q⟩ := val j (by rw [List.size_toArray]; walk_at "om")
    rw [q]
    simp [List.getD, hj]
  · intro m hm hmj
    obtain ⟨t', q⟩ := val m hm
    rw [q]
    have h1 := hno m hmj
    have h2 : m < ns.length := by walk_at "om"
    have h3 : ns[m]? = some (ns.getD m 0) := by simp [List.getD, h2]
    rw [h3] at h1
    simpa using h1
  · obtain ⟨S', mono⟩ := S.listUpd (tk := s.toks) u (vs' := ws.eraseIdx j) e (fun xs => xs.eraseIdxIfInBounds j) (by
      apply Array.toList_inj.mp
      unfold Array.eraseIdxIfInBounds
      rw [dif_pos (by rw [List.size_toArray]; walk_at "om"), Array.toList_eraseIdx]) fun h' mn => by
      have : zs (ns.eraseIdx j) = (zs ns).eraseIdx j := by simp [List.eraseIdx_eq_take_drop_succ]
      rw [this]
      refine RepL.of_get (by simp [List.length_eraseIdx, hlen]) fun i y z hy hz => ?_
      rw [List.getElem?_eraseIdx] at hy hz
      by_cases c : i < j
      · rw [if_pos c] at hy hz; exact (rl.get hy hz).mono mn
      · rw [if_neg c] at hy hz; exact (rl.get hy hz).mono mn
    exact ⟨.none, _, .none, S', mono, h⟩
theorem o_remove_none {a : Addr} {ns : List Int} {x : Int} {Q : AV → Sig → Prop} {Qe : Sig → Prop} (ha : Has F σ a (.list (zs ns))) (hx : x ∉ ns) (hd : F.hd = none) (hq : Qe σ) :
    WOL F (FE True F "ValueError" Qe) Rep (fun vs => call (.builtin "list.remove") vs) [.ref a, .int x] σ Q := by
  rintro s vs S r
  obtain ⟨_, _, rfl, r1, r2⟩ := r.inv2
  cases r1
  cases r2 with | int _ t =>
  obtain ⟨ws, n, e, rl⟩ := S.has ha
  have val := ints_ne rl
  have hlen : ns.length = ws.length := by simpa using rl.length
  refine call_meets PySem.F.slot_list_remove ⟨_, e, rfl⟩ PySem.F.entry_list_remove (PySem.F.args_list_remove_2 _ _) (PySem.MeetsSeq.list_remove_none a ws.toArray n (.int x t) (fun y => match y with | .int i _ => i == x | _ => false) (fun y hy => ?_) ?_) ⟨e, S.ok.hh.trans hd, ?_⟩
  · obtain ⟨m, hm, rfl⟩ := Array.getElem_of_mem hy
    obtain ⟨t', q⟩ := val m hm
    rw [q]
    exact PySem.MeetsSeq.EqGives.int _ _ _ _
  · intro m hm
    obtain ⟨t', q⟩ := val m hm
    rw [q]
    have h2 : m < ns.length := by have : m < ws.length := by simpa using hm
                                  walk_at "om"
    have : ns.getD m 0 ≠ x := fun z => hx (by rw [← z]; simp [List.getD, h2])
    simpa using this
  · intro h' tk ex hm
    obtain ⟨k1, k2, oe, tt, k3, k4, k5⟩ := hm
    exact ⟨σ, .inl ⟨ex, oe, rfl, ⟨k4, _, k5, rfl, rfl⟩, fun _ => ⟨_, k5, rfl⟩, S.alloc (tk := tk) k1 k2 (o := .obj oe) k3⟩, hq⟩
end
end
section
open PySem PySem.W PyProof.Rows PySem.Calls
set_option Elab.async false
set_option linter.unusedVariables false
set_option maxRecDepth 10000
/-- what a call hands back that may have noted the frame around it -/
noncomputable def RetE (w : World) (s : Shared) (mods : List Addr) (Lc : Addr) (Qf : AV → List (Addr × AO) → Prop) : Result → Shared → Prop := fun r s' =>
  ∃ v x led', r = .ok (.ret v) ∧ Rep s'.heap x v ∧ (∀ p ∈ led', RepO w s'.heap p.1 p.2) ∧ (led'.map (·.1)).Nodup ∧ (∀ a ∈ led'.map (·.1), (a ∈ mods ∨ s.heap.get? a = none) ∧ a ≠ Lc) ∧
    (∀ b o, s.heap.get? b = some o → b ∉ mods → b ≠ Lc → s'.heap.get? b = some o) ∧ Mono s.heap s'.heap ∧ s'.gens = s.gens ∧ s'.os = s.os ∧ (∀ o, s.heap.get? Lc = some o → ∃ sl, s'.heap.get? Lc = some { o with slots := sl }) ∧ Qf x led'
/-- the frame around a call -/
structure Arnd (hT : Heap) (A : Around) (s : Shared) (envc : Env) (Lc : Addr) : Prop where
  frs : A.frames = some [envc]
  fr : envc.frame = some Lc
  kind : envc.scope.kind ≠ .module
  obj : ∃ o es ep, s.heap.get? Lc = some o ∧ o.data = .dict es ep
  new : hT.get? Lc = none
noncomputable abbrev Def.frameE (d : Def) (w : World) (hT h₀ : Heap) (mods : List Addr) (Lc L : Addr) (A : Around) (g : Array GenState) (os : OsState) (k : Nat) : Fx :=
  { w, hT, h₀, mods := Lc :: mods, env := callEnv d.fd L d.fa, names := d.names, globs := d.globs, A := A.deeper (callEnv d.fd L d.fa), g, os, k, fs := [Lc] }
theorem frameE_ok {d : Def} {w : World} {hT : Heap} {A : Around} {s : Shared} {envc : Env} {Lc : Addr} (R : Arnd hT A s envc Lc) {mods : List Addr} {L : Addr} {k : Nat} : FrOk (d.frameE w hT s.heap mods Lc L A s.gens s.os k) [envc] :=
  ⟨Around.frames_deeper R.frs, rfl, fun env he => by rw [List.mem_singleton.mp he]; exact ⟨R.kind, Lc, .head _, R.fr⟩, fun b hb => by rw [List.mem_singleton.mp hb]; exact R.obj⟩
theorem enterE {d : Def} (D : d.Ok) {w : World} {hT : Heap} {A : Around} {s : Shared} {k : Nat} {envc : Env} {Lc : Addr} (C : Cx w hT A s (k + 1)) (R : Arnd hT A s envc Lc) {xs : List AV} {vs : List Value} (r : RepL s.heap xs vs) (hb : bindArgs d.fd ⟨vs, []⟩ = pure (d.names.zip vs)) (led₀ : List (Addr × AO)) (vals : List (Option AV)) (j : Nat) {Qf : AV → List (Addr × AO) → Prop}
    (hled : ∀ p ∈ led₀, hT.get? p.1 = none ∧ p.2.mut = true ∧ RepO w s.heap p.1 p.2 ∧ p.1 ≠ Lc) (hnd : (led₀.map (·.1)).Nodup) (hv : xs.map some ++ List.replicate j none = vals)
    (hbody : ∀ L, s.heap.get? L = none → WS (d.frameE w hT s.heap (led₀.map (·.1)) Lc L A s.gens s.os k) NoE (execs d.body (callEnv d.fd L d.fa)) ⟨vals, led₀⟩ (EndF Qf)) :
    codeAny (model pw w) A (.call (.ref d.fa) ⟨vs, []⟩) (RetE w s (led₀.map (·.1)) Lc Qf) s := by
  obtain ⟨c, dd, sl, ho⟩ := D.obj w.params
  have X := C.top.kin.keeps C.ht
  have sc := D.scope
  unfold scopeOk at sc
  simp only [Bool.and_eq_true, Bool.not_eq_true'] at sc
  obtain ⟨⟨⟨⟨⟨⟨s1, s2⟩, s3⟩, s4⟩, s5⟩, s6⟩, s7⟩ := sc
  have nd : d.names.Nodup := of_decide_eq_true s3
  have hkind : d.fd.scope.kind = .function := by
    cases q : d.fd.scope.kind <;> simp_all
  have hL : s.heap.get? s.heap.objs.size = none := size_none _
  obtain ⟨oc, esc, epc, hoc, hdc⟩ := R.obj
  have hLc : s.heap.objs.size ≠ Lc := fun q => by rw [← q, hL] at hoc; cases hoc
  refine codeAny_call_def (fd := d.fd) (body := d.body) (binds := d.names.zip vs) (by have := C.dep; have : recursionLimit = 1000 := rfl; walk_at "om") (X _ _ ho) rfl (C.top.nolimit.keeps C.ht) (codeRec_of X (D.code _)) D.body (BindsTo.of_eq hb)
    (fun x hx => by have := List.all_eq_true.mp s5 x hx; simpa using this)
    (fun y hy => by
      obtain ⟨i, hi⟩ := List.getElem?_of_mem (List.of_mem_zip (a := y.1) (b := y.2) hy).1
      exact (lookup_local s2 hi).1) (fun h₁ hns hk₁ => ?_) s6 s7 hkind
  have mono₁ : Mono s.heap h₁ := .of_keep hk₁
  have okF : FxOk (d.frameE w hT s.heap (led₀.map (·.1)) Lc s.heap.objs.size A s.gens s.os k) := {
    kind := hkind
    loc := fun i x e => lookup_local s2 e
    nd := nd
    gk := fun x hx => by
      have := List.all_eq_true.mp s4 x hx
      simp only [Bool.and_eq_true, decide_eq_true_eq, Bool.not_eq_true'] at this
      exact this
    glob := D.glob
    bi := D.bi
    hh := C.hh
    dep := by show A.depth + 1 + k ≤ 900; have := C.dep; walk_at "om"
    un := by show A.units + 3 + 20 * k ≤ 9000; have := C.un; walk_at "om"
    top := C.top
    ht := C.ht
    hm := fun a ha => by
      rcases List.mem_cons.mp ha with rfl | ha
      · exact R.new
      · obtain ⟨p, hp, rfl⟩ := List.mem_map.mp ha
        exact (hled p hp).1
    hmi := fun a ha c dd vs n hc e => by
      rcases List.mem_cons.mp ha with rfl | ha
      · rw [hoc] at e; cases e; cases hdc
      · obtain ⟨p, hp, rfl⟩ := List.mem_map.mp ha
        exact repO_mut (hled p hp).2.1 (hled p hp).2.2.1 c dd vs n hc e
    fsm := fun b hb => by
      rw [List.mem_singleton.mp hb]
      exact ⟨.head _, oc, hoc, fun vs q => by rw [hdc] at q; cases q⟩ }
  have S : St (d.frameE w hT s.heap (led₀.map (·.1)) Lc s.heap.objs.size A s.gens s.os k) ⟨vals, led₀⟩ { s with heap := h₁, toks := s.toks + (d.names.zip vs).length } := {
    ok := okF
    ns := ⟨_, hns, fun i x av hx ha => by
      subst hv
      by_cases hi : i < xs.length
      · rw [List.getElem?_append_left (by simpa using hi), List.getElem?_map] at ha
        cases q : xs[i]? with
        | none => rw [q] at ha; cases ha
        | some z =>
          rw [q] at ha
          cases ha
          obtain ⟨v, e, rv⟩ := r.some q
          exact ⟨v, zip_lookup nd hx e, rv.mono mono₁⟩
      · rw [List.getElem?_append_right (by simpa using hi), List.getElem?_replicate] at ha
        split at ha <;> cases ha⟩
    rep := fun p hp => (hled p hp).2.2.1.keep mono₁ fun x e => hk₁ _ _ e
    nd := by
      refine List.nodup_cons.mpr ⟨fun q => ?_, hnd⟩
      obtain ⟨p, hp, e⟩ := List.mem_map.mp q
      obtain ⟨x, ex⟩ := (hled p hp).2.2.1.some
      have e' : p.1 = s.heap.objs.size := e
      rw [e', hL] at ex
      cases ex
    new := fun a ha => .inr (.tail _ ha)
    Lnew := hL
    keep := fun b o e n => hk₁ b o e
    gens := rfl
    os := rfl
    fr := fun b hb => by
      rw [List.mem_singleton.mp hb]
      exact ⟨fun q => by obtain ⟨p, hp, e⟩ := List.mem_map.mp q; exact (hled p hp).2.2.2 e, fun o e => ⟨o.slots, hk₁ _ _ e⟩⟩
    mb := mono₁ }
  refine wpAny_mono (hbody _ hL _ S) ?_ fun _ _ e => e.elim
  rintro f s' ⟨f', σ', rf, S', m', q⟩
  have fin : ∀ v x, Rep s'.heap x v → Qf x σ'.led → RetE w s (led₀.map (·.1)) Lc Qf (.ok (.ret v)) s' := fun v x r q =>
    ⟨v, x, σ'.led, rfl, r, S'.rep, (List.nodup_cons.mp S'.nd).2, fun a ha => ⟨(S'.new a ha).elim .inr fun z => by
      rcases List.mem_cons.mp z with rfl | z
      · exact absurd ha (S'.fr _ (.head _)).1
      · exact .inl z, fun z => (S'.fr _ (.head _)).1 (z ▸ ha)⟩, fun b o e n n' => S'.keep b o e fun z => (List.mem_cons.mp z).elim n' n, S'.mono₀, S'.gens, S'.os, fun o e => (S'.fr Lc (.head _)).2 o e, q⟩
  cases rf with
  | next => exact fin _ _ .none q
  | ret r => exact fin _ _ r q
  | brk => exact q.elim
  | cont => exact q.elim
section
variable {F : Fx} {E : Value → Shared → Prop} {σ : Sig}
theorem St.arnd {s : Shared} (S : St F σ s) (hf : F.A.frames = some [F.env]) (hfr : F.env.frame = some F.env.locals) : Arnd F.hT F.A s F.env F.env.locals := by
  obtain ⟨m, hn, _⟩ := S.ns
  obtain ⟨o, es, ep, ho, hd, _⟩ := hn
  refine ⟨hf, hfr, (by rw [S.ok.kind]; intro h; cases h), ⟨o, es, ep, ho, hd⟩, ?_⟩
  cases q : F.hT.get? F.env.locals with
  | none => rfl
  | some o => have := S.ok.ht _ _ q; rw [S.Lnew] at this; cases this
/-- a call that may note this frame -/
theorem wol_callE {fv : Value} {xs : List AV} {mods : List Addr} {Qf : AV → List (Addr × AO) → Prop} {Q : AV → Sig → Prop} (hmods : ∀ a ∈ mods, a ∈ σ.led.map (·.1)) (hfs : F.fs = [])
    (c : ∀ s vs, St F σ s → RepL s.heap xs vs → codeAny (model pw F.w) F.A (.call fv ⟨vs, []⟩) (RetE F.w s mods F.env.locals Qf) s)
    (k : ∀ x led', Qf x led' → (led'.map (·.1)).Nodup → (∀ a ∈ led'.map (·.1), a ∈ mods ∨ a ∉ σ.led.map (·.1)) → (σ.led.map (·.1)).Nodup → ∃ led₂, (∀ p ∈ led₂, p ∈ led' ∨ (p ∈ σ.led ∧ p.1 ∉ mods)) ∧ (led₂.map (·.1)).Nodup ∧ Q x ⟨σ.vals, led₂⟩) :
    WOL F E Rep (fun vs => call fv vs) xs σ Q := by
  intro s vs S r
  refine wpAny_call (codeAny_mono (c s vs S r) ?_)
  rintro r s' ⟨v, x, led', rfl, rx, h1, h2, h3, h4, h5, h6, h7, h8, q⟩
  have h3' : ∀ a ∈ led'.map (·.1), a ∈ mods ∨ a ∉ σ.led.map (·.1) := fun a ha => (h3 a ha).1.imp id fun z hl => by
    obtain ⟨p, hp, rfl⟩ := List.mem_map.mp hl
    obtain ⟨o, e⟩ := (S.rep p hp).some
    rw [e] at z; cases z
  obtain ⟨led₂, k1, k2, k3⟩ := k x led' q h2 h3' (List.nodup_cons.mp S.nd).2
  have notL : ∀ b, b ∈ σ.led.map (·.1) → b ≠ F.env.locals := fun b hb z => S.Lnot (z ▸ hb)
  obtain ⟨m, hn, hv⟩ := S.ns
  have hns : s'.heap.Ns F.env.locals m := by
    obtain ⟨o, es, ep, ho, hd, hk, hf⟩ := hn
    obtain ⟨sl, q⟩ := h8 o ho
    exact ⟨_, es, ep, q, hd, hk, hf⟩
  have old : ∀ p ∈ led₂, p.1 ∈ σ.led.map (·.1) ∨ (s.heap.get? p.1 = none ∧ p.1 ≠ F.env.locals) := fun p hp => by
    rcases k1 p hp with z | ⟨z, _⟩
    · have := h3 p.1 (List.mem_map_of_mem z)
      rcases this.1 with y | y
      · exact .inl (hmods _ y)
      · exact .inr ⟨y, this.2⟩
    · exact .inl (List.mem_map_of_mem z)
  refine ⟨x, ⟨σ.vals, led₂⟩, rx, ⟨S.ok, ⟨m, hns, fun i y av a b => ?_⟩, fun p hp => ?_, ?_, fun a ha => ?_, S.Lnew, fun b o e n => ?_, h6.trans S.gens, h7.trans S.os, fun b hb => (by rw [hfs] at hb; cases hb), S.mb.trans h5⟩, h5, k3⟩
  · obtain ⟨u, e, z⟩ := hv i y av a b
    exact ⟨u, e, z.mono h5⟩
  · rcases k1 p hp with z | ⟨z, n⟩
    · exact h1 p z
    · exact (S.rep p z).keep h5 fun y e => h4 _ _ e n (notL _ (List.mem_map_of_mem z))
  · refine List.nodup_cons.mpr ⟨fun z => ?_, k2⟩
    obtain ⟨p, hp, e⟩ := List.mem_map.mp z
    rcases old p hp with y | y
    · exact notL _ y e
    · exact y.2 e
  · obtain ⟨p, hp, rfl⟩ := List.mem_map.mp ha
    rcases old p hp with y | ⟨y, _⟩
    · exact S.new _ y
    · cases z : F.h₀.get? p.1 with
      | none => exact .inl rfl
      | some o =>
        by_cases hm : p.1 ∈ F.mods
        · exact .inr hm
        · rw [S.keep _ o z hm] at y; cases y
  · refine h4 b o (S.keep b o e n) (fun z => ?_) fun z => by rw [z, S.Lnew] at e; cases e
    rcases S.new b (hmods b z) with y | y
    · rw [e] at y; cases y
    · exact n y
end
end
section
open PySem PySem.W PyProof.Rows PySem.Calls
set_option Elab.async false
set_option linter.unusedVariables false
set_option maxRecDepth 10000
/-! ## the differences: plain mathematics -/
noncomputable def dif (a b : List Int) : List Int := a.filter fun x => !decide (x ∈ b)
structure SInv (a b : List Int) (i j : Int) : Prop where
  i0 : 0 ≤ i
  i1 : i ≤ a.length
  j0 : 0 ≤ j
  j1 : j ≤ b.length
  lt : ∀ p q : Int, 0 ≤ p → p < i → j ≤ q → q < b.length → at' a p < at' b q
  gt : ∀ p q : Int, 0 ≤ q → q < j → i ≤ p → p < a.length → at' b q < at' a p
theorem take_at {a : List Int} {i : Int} (h0 : 0 ≤ i) (h1 : i < a.length) : a.take (i + 1).toNat = a.take i.toNat ++ [at' a i] := by
  rw [show (i + 1).toNat = i.toNat + 1 by walk_at "om"]
  exact take_snoc (by walk_at "om")
theorem dif_snoc (a b : List Int) (x : Int) : dif (a ++ [x]) b = if x ∈ b then dif a b else dif a b ++ [x] := by
  unfold dif
  rw [List.filter_append]
  by_cases h : x ∈ b <;> simp [h]
theorem mem_at {b : List Int} {x : Int} (h : x ∈ b) : ∃ q : Int, 0 ≤ q ∧ q < b.length ∧ at' b q = x := by
  obtain ⟨q, hq, e⟩ := List.getElem_of_mem h
  exact ⟨q, by walk_at "om", by walk_at "om", by simpa [at', List.getD, hq] using e⟩
variable {a b : List Int}
theorem SInv.start : SInv a b 0 0 := ⟨by walk_at "om", by walk_at "om", by walk_at "om", by walk_at "om", fun p q h1 h2 => by walk_at "om", fun p q h1 h2 => by walk_at "om"⟩
theorem SInv.symm {i j : Int} (h : SInv a b i j) : SInv b a j i := ⟨h.j0, h.j1, h.i0, h.i1, fun p q h1 h2 h3 h4 => h.gt q p h1 h2 h3 h4, fun p q h1 h2 h3 h4 => h.lt q p h1 h2 h3 h4⟩
theorem SInv.stepL (ib : Inc b) {i j : Int} (h : SInv a b i j) (hi : i < a.length) (hj : j < b.length) (e : at' a i < at' b j) : SInv a b (i + 1) j ∧ dif (a.take (i + 1).toNat) b = dif (a.take i.toNat) b ++ [at' a i] := by
  have h0 := h.i0
  have hj0 := h.j0
  have big : ∀ q : Int, j ≤ q → q < b.length → at' a i < at' b q := fun q h3 h4 => by
    by_cases z : q = j
    · rw [z]; exact e
    · have := ib.at_lt hj0 (by walk_at "om" : j < q) h4; walk_at "om"
  refine ⟨⟨by walk_at "om", by walk_at "om", h.j0, h.j1, fun p q h1 h2 h3 h4 => ?_, fun p q h1 h2 h3 h4 => h.gt p q h1 h2 (by walk_at "om") h4⟩, ?_⟩
  · by_cases z : p = i
    · rw [z]; exact big q h3 h4
    · exact h.lt p q h1 (by walk_at "om") h3 h4
  · rw [take_at h0 hi, dif_snoc, if_neg]
    intro hm
    obtain ⟨q, q0, q1, eq⟩ := mem_at hm
    by_cases z : q < j
    · have := h.gt i q q0 z (Int.le_refl _) hi; walk_at "om"
    · have := big q (by walk_at "om") q1; walk_at "om"
theorem SInv.stepE (ia : Inc a) (ib : Inc b) {i j : Int} (h : SInv a b i j) (hi : i < a.length) (hj : j < b.length) (e : at' a i = at' b j) : SInv a b (i + 1) (j + 1) ∧ dif (a.take (i + 1).toNat) b = dif (a.take i.toNat) b := by
  have h0 := h.i0
  have hj0 := h.j0
  refine ⟨⟨by walk_at "om", by walk_at "om", by walk_at "om", by walk_at "om", fun p q h1 h2 h3 h4 => ?_, fun p q h1 h2 h3 h4 => ?_⟩, ?_⟩
  · by_cases z : p = i
    · rw [z, e]; exact ib.at_lt hj0 (by walk_at "om") h4
    · exact h.lt p q h1 (by walk_at "om") (by walk_at "om") h4
  · by_cases z : q = j
    · rw [z, ← e]; exact ia.at_lt h0 (by walk_at "om") h4
    · exact h.gt p q h1 (by walk_at "om") (by walk_at "om") h4
  · rw [take_at h0 hi, dif_snoc, if_pos]
    rw [e]; exact at_mem hj0 hj
theorem SInv.fin {i j : Int} (h : SInv a b i j) (hf : i = a.length ∨ j = b.length) : dif (a.take i.toNat) b ++ a.drop i.toNat = dif a b := by
  have h0 := h.i0
  have : dif (a.drop i.toNat) b = a.drop i.toNat := by
    unfold dif
    rw [List.filter_eq_self]
    intro x hx
    simp only [Bool.not_eq_true', decide_eq_false_iff_not]
    intro hm
    obtain ⟨p, hp, e⟩ := List.getElem_of_mem hx
    rw [List.length_drop] at hp
    rw [List.getElem_drop] at e
    obtain ⟨q, q0, q1, eq⟩ := mem_at hm
    rcases hf with hf | hf
    · walk_at "om"
    · have := h.gt (i.toNat + p : Nat) q q0 (by walk_at "om") (by walk_at "om") (by walk_at "om")
      have e2 : at' a ((i.toNat + p : Nat) : Int) = x := by
        simp only [at', Int.toNat_natCast]
        rw [← e]
        simp [List.getD, show i.toNat + p < a.length by walk_at "om"]
      walk_at "om"
  conv => rhs; rw [← List.take_append_drop i.toNat a]
  show _ = dif (a.take i.toNat ++ a.drop i.toNat) b
  unfold dif at this ⊢
  rw [List.filter_append, this]
end
section
open PySem PySem.W PyProof.Rows PySem.Calls
set_option Elab.async false
set_option linter.unusedVariables false
set_option maxRecDepth 10000
noncomputable def dSL : Def := { fa := 281, fd := fd281, body := bodyOf (stm 12), names := [⟨#[101,120,112,101,99,116,101,100]⟩, ⟨#[97,99,116,117,97,108]⟩, ⟨#[105]⟩, ⟨#[106]⟩, ⟨#[109,105,115,115,105,110,103]⟩, ⟨#[117,110,101,120,112,101,99,116,101,100]⟩, ⟨#[101]⟩, ⟨#[97]⟩], globs := [⟨#[73,110,100,101,120,69,114,114,111,114]⟩] }
theorem dSL_ok : dSL.Ok := {
  obj := fun P => ⟨_, _, _, (by kernel_rfl : (K P).lookup 281 = some ⟨.type "function", none, .func fd281, #[]⟩)⟩
  body := by kernel_rfl
  code := fun P => by kernel_rfl
  scope := by kernel_rfl
  glob := by kernel_rfl
  bi := by kernel_rfl }
/-- the state of sorted_list_difference -/
noncomputable abbrev slS (ea aa mi un : Addr) (a b : List Int) (i j : Int) (o6 o7 : Option AV) : Sig := ⟨[some (.ref ea), some (.ref aa), some (.int i), some (.int j), some (.ref mi), some (.ref un), o6, o7], [(un, .list (zs (dif (b.take j.toNat) a))), (mi, .list (zs (dif (a.take i.toNat) b)))]⟩
inductive slE (ea aa mi un : Addr) (a b : List Int) (σ : Sig) : Prop where
  | mk (i j : Int) (o6 o7 : Option AV) (h : SInv a b i j) (f : i = a.length ∨ j = b.length) (e : σ = slS ea aa mi un a b i j o6 o7)
inductive slI (ea aa mi un : Addr) (a b : List Int) (n : Nat) (σ : Sig) : Prop where
  | mk (i j : Int) (o6 o7 : Option AV) (h : SInv a b i j) (f : (n : Int) = a.length - i + (b.length - j)) (e : σ = slS ea aa mi un a b i j o6 o7)
inductive slD (mi un : Addr) (a b : List Int) (t : AF) (f : AF) (σ : Sig) : Prop where
  | mk (e : f = t) (h4 : σ.vals[4]? = some (some (.ref mi))) (h5 : σ.vals[5]? = some (some (.ref un))) (hl : σ.led = [(un, .list (zs (dif b a))), (mi, .list (zs (dif a b)))])
theorem idx_ok {a : List Int} {i : Int} (h0 : 0 ≤ i) (h1 : i < a.length) (h : a.length < 1000) : i < 2 ^ 63 ∧ i.toNat < a.length ∧ 0 ≤ i + 1 ∧ i + 1 < 2 ^ 63 := by walk_at "om"
theorem meas_i {n : Nat} {i j la lb : Int} (hn : (n : Int) = la - i + (lb - j)) (hi : i < la) (hj : j ≤ lb) : n - 1 < n ∧ ((n - 1 : Nat) : Int) = la - (i + 1) + (lb - j) := by walk_at "om"
theorem meas_j {n : Nat} {i j la lb : Int} (hn : (n : Int) = la - i + (lb - j)) (hi : i ≤ la) (hj : j < lb) : n - 1 < n ∧ ((n - 1 : Nat) : Int) = la - i + (lb - (j + 1)) := by walk_at "om"
theorem meas_ij {n : Nat} {i j la lb : Int} (hn : (n : Int) = la - i + (lb - j)) (hi : i < la) (hj : j < lb) : n - 2 < n ∧ ((n - 2 : Nat) : Int) = la - (i + 1) + (lb - (j + 1)) := by walk_at "om"
theorem le_sz {n m : Nat} (h : n ≤ m) (h' : m < 1000) : n ≤ sizeLine := Nat.le_trans h (Nat.le_trans (Nat.le_of_lt h') (by decide))
theorem dif_drop_sz {a b : List Int} {n : Nat} (h : a.length < 1000) : (zs (dif (a.take n) b)).length + ((zs a).drop n).length ≤ sizeLine := by
  have l1 : (dif (a.take n) b).length ≤ a.length := Nat.le_trans (List.length_filter_le _ _) (List.length_take_le' _ _)
  rw [List.length_map, List.length_drop, List.length_map]
  have := sizeLine_is; walk_at "om"
section
variable {cx : Prop} {F : Fx} {σ : Sig} {outer : List Env}
/-- «while row[i] == e: i += 1», where the next one is another, or there is none -/
theorem skip_loop {lst ix el : Str} {p1 p2 p3 p4 p5 p6 : Pos} {body : List Stmt} {Q : AF → Sig → Prop} {Qe : Sig → Prop} {n1 n2 n3 : Nat} {x : Addr} {a : List Int} {k e : Int} (fo : FrOk F outer) (h1 : idxOf F.names lst = some n1) (v1 : σ.vals[n1]? = some (some (.ref x))) (h2 : idxOf F.names ix = some n2) (v2 : σ.vals[n2]? = some (some (.int k)))
    (h3 : idxOf F.names el = some n3) (v3 : σ.vals[n3]? = some (some (.int e))) (ha : Has F σ x (.list (zs a))) (hk : 0 ≤ k) (hfit : k < 2 ^ 63) (hcx : cx → F.hd = none) (hh : F.hd = none ∨ ∃ e0 oe0, F.hd = some (.ref e0) ∧ (e0, AO.obj oe0) ∈ σ.led ∧ ExC oe0)
    (hout : (a.length : Int) ≤ k → Qe σ) (hin : k < a.length → at' a k ≠ e ∧ Q .next σ) :
    WS F (FE cx F "IndexError" Qe) (exec (.While (.Compare (.Subscript (.Name lst p1) (.Name ix p2) p3) [.Eq] [.Name el p4] p5) body [] p6) F.env) σ Q := by
  refine ws_whileE fo (fun _ σ' => σ' = σ) 0 rfl ?_
  rintro n _ rfl
  refine wb_cmp (we_sub (we_name h1 v1 (we_name h2 v2 ?_)))
  by_cases hlt : k < a.length
  · obtain ⟨hne, hq⟩ := hin hlt
    refine o_item ha hk hfit (zs_get (by walk_at "om")) (we_name h3 v3 (o_eq ⟨_, rfl, fun hb => absurd (eq_of_beq hb) hne, fun _ => hq⟩))
  · exact o_item_out ha hk (by rw [List.length_map]; walk_at "om") hfit hcx hh (hout (by walk_at "om"))
end
set_option maxHeartbeats 2000000 in
theorem sl_c {w : World} {hT : Heap} {A : Around} {s : Shared} {envc : Env} {Lc : Addr} (C : Cx w hT A s 1) (R : Arnd hT A s envc Lc) {ea aa : Addr} {a b : List Int} {vs : List Value} (r : RepL s.heap [.ref ea, .ref aa] vs) (ha : RepO w s.heap ea (.list (zs a))) (hb : RepO w s.heap aa (.list (zs b))) (ia : Inc a) (ib : Inc b) (hal : a.length < 1000) (hbl : b.length < 1000) :
    codeAny (model pw w) A (.call (.ref 281) ⟨vs, []⟩) (RetE w s [] Lc fun y led => ∃ m u, y = .tup (.type "tuple") [.ref m, .ref u] ∧ led = [(u, .list (zs (dif b a))), (m, .list (zs (dif a b)))]) s := by
  obtain ⟨oc, esc, epc, hoc, hdc⟩ := R.obj
  have notc : ∀ {x : Addr} {l : List AV}, RepO w s.heap x (.list l) → x ∉ [Lc] := fun hx q => by
    obtain ⟨vs, n, e, _⟩ := hx
    rw [List.mem_singleton.mp q, hoc] at e; cases e; cases hdc
  have na := notc ha
  have nb := notc hb
  obtain ⟨v1, v2, rfl, r1, r2⟩ := r.inv2
  refine enterE dSL_ok (k := 0) C R (.cons r1 (.cons r2 .nil)) rfl [] [some (.ref ea), some (.ref aa), none, none, none, none, none, none] 6 (fun p hp => nomatch hp) (by simp) rfl fun L hL => ?_
  have fo := frameE_ok (d := dSL) (w := w) (mods := []) (L := L) (k := 0) R
  have hz := sizeLine_is
  refine ws_cons ?_
  (with_reducible refine' ws_doc ?_)
  ((with_reducible refine' seq_next ?_; refine' ws_cons ?_; refine' ws_bind2 ?_; refine' we_int ?_))
  refine ⟨_, binds_name rfl, _, binds_name rfl, ?_⟩
  ((with_reducible refine' seq_next ?_; refine' ws_cons ?_); ((with_reducible refine' ws_assign ?za58 ?_); (case za58 => exact rfl)); (with_reducible refine' we_list ?_; refine' wa_nil ?_))
  refine ⟨by simp, fun mi hmi => ?_⟩
  ((with_reducible refine' seq_next ?_; refine' ws_cons ?_); ((with_reducible refine' ws_assign ?za59 ?_); (case za59 => exact rfl)); (with_reducible refine' we_list ?_; refine' wa_nil ?_))
  refine ⟨by simp, fun un hun => ?_⟩
  ((with_reducible refine' seq_next ?_; refine' ws_cons ?_))
  refine W.mono (Q := slD mi un a b .next) (ws_while (slI ea aa mi un a b) (a.length + b.length) ⟨0, 0, none, none, .start, by walk_at "om", rfl⟩ ?_) ?_
  · rintro n σ ⟨i, j, o6, o7, hI, hn, rfl⟩
    ((with_reducible refine' wb_plain ?_; refine' we_bool ?_))
    refine o_true_bool ⟨fun _ => ?_, fun h => by (cases h)⟩
    obtain ⟨hi0, hi1, hj0, hj1, _, _⟩ := id hI
    refine ws_cons ?_
    refine W.mono (Q := fun f σ => NextQ (Less (slI ea aa mi un a b) n) f σ ∨ slD mi un a b .brk f σ) ?_ ?_
    · refine ws_try (cx := False) (cls := "IndexError") (Qe := slE ea aa mi un a b) fo excOk_index rfl rfl (fun hb' => ?_) ?_
      · have fo' := fo.bas hb'
        refine ws_cons ?_
        refine ws_assign rfl ?_
        ((with_reducible refine' we_sub ?_); walk_at "n"; walk_at "n")
        by_cases hin : i < a.length
        · obtain ⟨p1, p2, p3, p4⟩ := idx_ok hi0 hin hal
          refine o_item (.inr ⟨ha, na⟩) hi0 p1 (zs_get p2) ?_
          refine seq_next ?_
          refine ws_cons ?_
          refine ws_assign rfl ?_
          ((with_reducible refine' we_sub ?_); walk_at "n"; walk_at "n")
          by_cases hjn : j < b.length
          · obtain ⟨q1, q2, q3, q4⟩ := idx_ok hj0 hjn hbl
            refine o_item (.inr ⟨hb, nb⟩) hj0 q1 (zs_get q2) ?_
            refine seq_next ?_
            refine ws_cons ?_
            refine ws_if ?_
            ((with_reducible refine' wb_cmp ?_); walk_at "n"; walk_at "n"; (with_reducible refine' o_lt ?_))
            refine ⟨_, rfl, fun h1 => ?_, fun h1 => ?_⟩
            · have h1 : at' a i < at' b j := of_decide_eq_true h1
              obtain ⟨hI', ed⟩ := hI.stepL ib hin hjn h1
              ((with_reducible refine' ws_cons ?_; refine' ws_expr ?_; refine' we_list_append ?_); walk_at "n")
              refine ⟨typeB_list (by walk_at "has"), ?_⟩
              ((with_reducible refine' wa_cons ?_); walk_at "n"; (with_reducible refine' wa_nil ?_))
              have l1 : (dif (a.take i.toNat) b).length ≤ a.length := Nat.le_trans (List.length_filter_le _ _) (List.length_take_le' _ _)
              refine o_append (by walk_at "upd") (by rw [List.length_map]; exact le_sz l1 hal) ⟨rfl, ?_⟩
              rw [show zs (dif (a.take i.toNat) b) ++ [AV.int (a.getD i.toNat 0)] = zs (dif (a.take (i + 1).toNat) b) by rw [ed]; simp]
              ((with_reducible refine' seq_next ?_; refine' ws_cons ?_); ((with_reducible refine' ws_aug ?za60 ?zb60 ?_); (case za60 => exact rfl); (case zb60 => exact rfl)); (with_reducible refine' we_int ?_; refine' o_iadd ?_; refine' seq_next ?_; refine' ws_cons ?_))
              refine skip_loop (x := ea) (a := a) (k := i + 1) (e := at' a i) fo' rfl rfl rfl rfl rfl rfl (.inr ⟨ha, na⟩) p3 p4 (fun h => h.elim) (.inl rfl) (fun hk => ?_) (fun hk => ⟨?_, ?_⟩)
              · exact ⟨i + 1, j, _, _, hI', .inl (Int.le_antisymm hI'.i1 hk), rfl⟩
              · exact Int.ne_of_gt (ia.at_lt hi0 (Int.lt_succ i) hk)
              · ((with_reducible refine' seq_next ?_; refine' ws_nil ?_; refine' seq_next ?_; refine' ws_nil ?_))
                exact .inl ⟨rfl, n - 1, (meas_i hn hin hj1).1, i + 1, j, _, _, hI', (meas_i hn hin hj1).2, rfl⟩
            · have h1 : ¬ at' a i < at' b j := of_decide_eq_false h1
              refine ws_cons ?_
              refine ws_if ?_
              ((with_reducible refine' wb_cmp ?_); walk_at "n"; walk_at "n"; (with_reducible refine' o_gt ?_))
              refine ⟨_, rfl, fun h2 => ?_, fun h2 => ?_⟩
              · have h2 : at' b j < at' a i := of_decide_eq_true h2
                obtain ⟨hI', ed⟩ := hI.symm.stepL ia hjn hin h2
                have hI' := hI'.symm
                ((with_reducible refine' ws_cons ?_; refine' ws_expr ?_; refine' we_list_append ?_); walk_at "n")
                refine ⟨typeB_list (by walk_at "has"), ?_⟩
                ((with_reducible refine' wa_cons ?_); walk_at "n"; (with_reducible refine' wa_nil ?_))
                have l1 : (dif (b.take j.toNat) a).length ≤ b.length := Nat.le_trans (List.length_filter_le _ _) (List.length_take_le' _ _)
                refine o_append (by walk_at "upd") (by rw [List.length_map]; exact le_sz l1 hbl) ⟨rfl, ?_⟩
                rw [show zs (dif (b.take j.toNat) a) ++ [AV.int (b.getD j.toNat 0)] = zs (dif (b.take (j + 1).toNat) a) by rw [ed]; simp]
                ((with_reducible refine' seq_next ?_; refine' ws_cons ?_); ((with_reducible refine' ws_aug ?za61 ?zb61 ?_); (case za61 => exact rfl); (case zb61 => exact rfl)); (with_reducible refine' we_int ?_; refine' o_iadd ?_; refine' seq_next ?_; refine' ws_cons ?_))
                refine skip_loop (x := aa) (a := b) (k := j + 1) (e := at' b j) fo' rfl rfl rfl rfl rfl rfl (.inr ⟨hb, nb⟩) q3 q4 (fun h => h.elim) (.inl rfl) (fun hk => ?_) (fun hk => ⟨?_, ?_⟩)
                · exact ⟨i, j + 1, _, _, hI', .inr (Int.le_antisymm hI'.j1 hk), rfl⟩
                · exact Int.ne_of_gt (ib.at_lt hj0 (Int.lt_succ j) hk)
                · ((with_reducible refine' seq_next ?_; refine' ws_nil ?_; refine' seq_next ?_; refine' ws_nil ?_; refine' seq_next ?_; refine' ws_nil ?_))
                  exact .inl ⟨rfl, n - 1, (meas_j hn hi1 hjn).1, i, j + 1, _, _, hI', (meas_j hn hi1 hjn).2, rfl⟩
              · have h2 : ¬ at' b j < at' a i := of_decide_eq_false h2
                have he : at' a i = at' b j := Int.le_antisymm (Int.not_lt.mp h2) (Int.not_lt.mp h1)
                obtain ⟨hI', ed⟩ := hI.stepE ia ib hin hjn he
                obtain ⟨_, ed'⟩ := hI.symm.stepE ib ia hjn hin he.symm
                have fin : ∀ o6 o7, (⟨[some (.ref ea), some (.ref aa), some (.int (i + 1)), some (.int (j + 1)), some (.ref mi), some (.ref un), o6, o7], [(un, .list (zs (dif (b.take j.toNat) a))), (mi, .list (zs (dif (a.take i.toNat) b)))]⟩ : Sig) = slS ea aa mi un a b (i + 1) (j + 1) o6 o7 := fun o6 o7 => by rw [slS, ed, ed']
                ((with_reducible refine' ws_cons ?_); ((with_reducible refine' ws_aug ?za62 ?zb62 ?_); (case za62 => exact rfl); (case zb62 => exact rfl)); (with_reducible refine' we_int ?_; refine' o_iadd ?_; refine' seq_next ?_; refine' ws_cons ?_))
                refine ws_tryfin (cls := "IndexError") (Qn := fun σ => σ = ⟨[some (.ref ea), some (.ref aa), some (.int (i + 1)), some (.int j), some (.ref mi), some (.ref un), some (.int (at' a i)), some (.int (at' b j))], [(un, .list (zs (dif (b.take j.toNat) a))), (mi, .list (zs (dif (a.take i.toNat) b)))]⟩) (Qb := fun σ => σ = ⟨[some (.ref ea), some (.ref aa), some (.int (i + 1)), some (.int j), some (.ref mi), some (.ref un), some (.int (at' a i)), some (.int (at' b j))], [(un, .list (zs (dif (b.take j.toNat) a))), (mi, .list (zs (dif (a.take i.toNat) b)))]⟩ ∧ i + 1 = a.length) fo' (fun hb'' => ?_) ?_ ?_
                · refine ws_cons ?_
                  refine skip_loop (cx := True) (x := ea) (a := a) (k := i + 1) (e := at' a i) (fo'.bas hb'') rfl rfl rfl rfl rfl rfl (.inr ⟨ha, na⟩) p3 p4 (fun _ => rfl) (.inl rfl) (fun hk => ?_) (fun hk => ⟨?_, ?_⟩)
                  · exact ⟨rfl, Int.le_antisymm hin hk⟩
                  · exact Int.ne_of_gt (ia.at_lt hi0 (Int.lt_succ i) hk)
                  · ((with_reducible refine' seq_next ?_; refine' ws_nil ?_))
                    exact ⟨rfl, rfl⟩
                · rintro _ rfl
                  ((with_reducible refine' ws_cons ?_); ((with_reducible refine' ws_aug ?za63 ?zb63 ?_); (case za63 => exact rfl); (case zb63 => exact rfl)); (with_reducible refine' we_int ?_; refine' o_iadd ?_; refine' seq_next ?_; refine' ws_cons ?_))
                  refine skip_loop (x := aa) (a := b) (k := j + 1) (e := at' b j) fo' rfl rfl rfl rfl rfl rfl (.inr ⟨hb, nb⟩) q3 q4 (fun h => h.elim) (.inl rfl) (fun hk => ?_) (fun hk => ⟨?_, ?_⟩)
                  · exact ⟨i + 1, j + 1, _, _, hI', .inr (Int.le_antisymm hI'.j1 hk), fin _ _⟩
                  · exact Int.ne_of_gt (ib.at_lt hj0 (Int.lt_succ j) hk)
                  · ((with_reducible refine' seq_next ?_; refine' ws_nil ?_))
                    refine ⟨rfl, ?_⟩
                    ((with_reducible refine' seq_next ?_; refine' ws_nil ?_; refine' seq_next ?_; refine' ws_nil ?_; refine' seq_next ?_; refine' ws_nil ?_))
                    exact .inl ⟨rfl, n - 2, (meas_ij hn hin hjn).1, i + 1, j + 1, _, _, hI', (meas_ij hn hin hjn).2, fin _ _⟩
                · rintro _ hb'' e oe T oT ⟨rfl, hia⟩ hx
                  ((with_reducible refine' ws_cons ?_); ((with_reducible refine' ws_aug ?za64 ?zb64 ?_); (case za64 => exact rfl); (case zb64 => exact rfl)); (with_reducible refine' we_int ?_; refine' o_iadd ?_; refine' seq_next ?_; refine' ws_cons ?_))
                  refine skip_loop (x := aa) (a := b) (k := j + 1) (e := at' b j) ((fo'.bas hb'').hdl (.ref e)) rfl rfl rfl rfl rfl rfl (.inr ⟨hb, nb⟩) q3 q4 (fun h => h.elim) (.inr ⟨e, oe, rfl, .head _, hx⟩) (fun hk => ?_) (fun hk => ⟨?_, ?_⟩)
                  · exact ⟨⟨[some (.ref ea), some (.ref aa), some (.int (i + 1)), some (.int (j + 1)), some (.ref mi), some (.ref un), some (.int (at' a i)), some (.int (at' b j))], [(un, .list (zs (dif (b.take j.toNat) a))), (mi, .list (zs (dif (a.take i.toNat) b)))]⟩, ⟨((List.Sublist.refl _).cons _).cons _, fun _ _ h => h⟩, i + 1, j + 1, _, _, hI', .inl hia, fin _ _⟩
                  · exact Int.ne_of_gt (ib.at_lt hj0 (Int.lt_succ j) hk)
                  · ((with_reducible refine' seq_next ?_; refine' ws_nil ?_))
                    exact ⟨rfl, ⟨[some (.ref ea), some (.ref aa), some (.int (i + 1)), some (.int (j + 1)), some (.ref mi), some (.ref un), some (.int (at' a i)), some (.int (at' b j))], [(un, .list (zs (dif (b.take j.toNat) a))), (mi, .list (zs (dif (a.take i.toNat) b)))]⟩, rfl, i + 1, j + 1, _, _, hI', .inl hia, fin _ _⟩
          · refine o_item_out (.inr ⟨hb, nb⟩) hj0 (by rw [List.length_map]; walk_at "om") (by walk_at "om") (fun h => h.elim) (.inl rfl) ⟨i, j, _, _, hI, .inr (by walk_at "om"), rfl⟩
        · refine o_item_out (.inr ⟨ha, na⟩) hi0 (by rw [List.length_map]; walk_at "om") (by walk_at "om") (fun h => h.elim) (.inl rfl) ⟨i, j, o6, o7, hI, .inl (by walk_at "om"), rfl⟩
      · rintro _ hb' e oe T oT ⟨i, j, o6, o7, hI, hf, rfl⟩
        obtain ⟨hi0, hi1, hj0, hj1, _, _⟩ := id hI
        have l1 : (dif (a.take i.toNat) b).length ≤ a.length := Nat.le_trans (List.length_filter_le _ _) (List.length_take_le' _ _)
        have l2 : (dif (b.take j.toNat) a).length ≤ b.length := Nat.le_trans (List.length_filter_le _ _) (List.length_take_le' _ _)
        refine ws_cons ?_
        refine ws_expr ?_
        refine we_list_extend ?_
        walk_at "n"
        refine ⟨typeB_list (by walk_at "has"), ?_⟩
        refine wa_cons ?_
        refine we_slice ea (zs a) ((zs a).drop i.toNat) ?_
        walk_at "n"
        refine ⟨rfl, ?_⟩
        ((with_reducible refine' wp_some ?_); walk_at "n")
        refine ⟨i, rfl, ?_⟩
        ((with_reducible refine' wp_none ?_; refine' wp_none ?_))
        refine ⟨.inr ⟨ha, na⟩, by rw [List.length_map]; exact le_sz (Nat.le_refl _) hal, by simp, (by have := picks_from (zs a) i.toNat; rwa [Int.toNat_of_nonneg hi0] at this), fun c hc => ?_⟩
        (with_reducible refine' wa_nil ?_)
        refine o_extend (by walk_at "upd") (by walk_at "has") (dif_drop_sz hal) ⟨rfl, ?_⟩
        rw [show zs (dif (a.take i.toNat) b) ++ (zs a).drop i.toNat = zs (dif a b) by rw [zs_drop, ← List.map_append, hI.fin hf]]
        refine seq_next ?_
        refine ws_cons ?_
        refine ws_expr ?_
        refine we_list_extend ?_
        walk_at "n"
        refine ⟨typeB_list (by walk_at "has"), ?_⟩
        refine wa_cons ?_
        refine we_slice aa (zs b) ((zs b).drop j.toNat) ?_
        walk_at "n"
        refine ⟨rfl, ?_⟩
        ((with_reducible refine' wp_some ?_); walk_at "n")
        refine ⟨j, rfl, ?_⟩
        ((with_reducible refine' wp_none ?_; refine' wp_none ?_))
        refine ⟨.inr ⟨hb, nb⟩, by rw [List.length_map]; exact le_sz (Nat.le_refl _) hbl, by simp, (by have := picks_from (zs b) j.toNat; rwa [Int.toNat_of_nonneg hj0] at this), fun c' hc' => ?_⟩
        (with_reducible refine' wa_nil ?_)
        refine o_extend (by walk_at "upd") (by walk_at "has") (dif_drop_sz hbl) ⟨rfl, ?_⟩
        rw [show zs (dif (b.take j.toNat) a) ++ (zs b).drop j.toNat = zs (dif b a) by rw [zs_drop, ← List.map_append, hI.symm.fin hf.symm]]
        ((with_reducible refine' seq_next ?_; refine' ws_cons ?_; refine' ws_break ?_; refine' seq_brk ?_))
        exact ⟨⟨_, [(un, .list (zs (dif b a))), (mi, .list (zs (dif a b)))]⟩, ⟨by walk_at "sub", fun _ _ h => h⟩, .inr ⟨rfl, rfl, rfl, rfl⟩⟩
    · rintro f σ (⟨rfl, m, hm, h⟩ | ⟨rfl, h4, h5, hl⟩)
      · refine seq_next (ws_nil ?_)
        exact ⟨m, hm, h⟩
      · refine seq_brk ?_
        exact ⟨rfl, h4, h5, hl⟩
  · rintro _ ⟨vals, led⟩ ⟨rfl, h4, h5, hl⟩
    obtain rfl : led = _ := hl
    refine seq_next ?_
    refine ws_cons ?_
    refine ws_return ?_
    refine we_tuple ?_
    refine wa_cons (we_name rfl h4 (wa_cons (we_name rfl h5 (wa_nil ?_))))
    refine ⟨by show 2 ≤ sizeLine; decide, ?_⟩
    (with_reducible refine' seq_ret ?_)
    exact ⟨mi, un, rfl, rfl⟩
end
section
open PySem PySem.W PyProof.Rows PySem.Calls
set_option Elab.async false
set_option linter.unusedVariables false
set_option maxRecDepth 10000
noncomputable def dUL : Def := { fa := 288, fd := fd288, body := bodyOf (stm 13), names := [⟨#[101,120,112,101,99,116,101,100]⟩, ⟨#[97,99,116,117,97,108]⟩, ⟨#[109,105,115,115,105,110,103]⟩, ⟨#[105,116,101,109]⟩], globs := [⟨#[86,97,108,117,101,69,114,114,111,114]⟩] }
theorem dUL_ok : dUL.Ok := {
  obj := fun P => ⟨_, _, _, (by kernel_rfl : (K P).lookup 288 = some ⟨.type "function", none, .func fd288, #[]⟩)⟩
  body := by kernel_rfl
  code := fun P => by kernel_rfl
  scope := by kernel_rfl
  glob := by kernel_rfl
  bi := by kernel_rfl }
theorem erase_idx {x : Int} : ∀ {l : List Int}, l.Nodup → x ∈ l → l.eraseIdx (idx x l) = l.filter fun y => !decide (y = x)
  | [], _, h => by cases h
  | y :: r, hn, h => by
    have nd := List.nodup_cons.mp hn
    unfold idx
    by_cases q : y = x
    · subst q
      rw [if_pos rfl]
      have : r.filter (fun z => !decide (z = y)) = r := by
        rw [List.filter_eq_self]
        intro z hz
        have : z ≠ y := fun e => nd.1 (e ▸ hz)
        simp [this]
      simp [this]
    · rw [if_neg q]
      have hr : x ∈ r := by rcases List.mem_cons.mp h with e | e; exact absurd e.symm q; exact e
      simp [q, erase_idx nd.2 hr]
theorem dif_nil (b : List Int) : dif b [] = b := by unfold dif; rw [List.filter_eq_self]; intro x _; rfl
theorem dif_cons_l (x : Int) (a b : List Int) : dif (x :: a) b = if x ∈ b then dif a b else x :: dif a b := by
  unfold dif
  by_cases h : x ∈ b <;> simp [h]
theorem dif_cons_r (x : Int) (a b : List Int) : dif b (x :: a) = (dif b a).filter fun y => !decide (y = x) := by
  unfold dif
  rw [List.filter_filter]
  apply List.filter_congr
  intro y _
  by_cases h1 : y = x <;> by_cases h2 : y ∈ a <;> simp [h1, h2]
theorem drop_at {a : List Int} {k : Nat} (h : k < a.length) : a.drop k = a.getD k 0 :: a.drop (k + 1) := by
  rw [List.drop_eq_getElem_cons h]; simp [List.getD, h]
noncomputable abbrev ulS (ea aa mi : Addr) (a b : List Int) (k : Nat) (o3 : Option AV) : Sig := ⟨[some (.ref ea), some (.ref aa), some (.ref mi), o3], [(mi, .list (zs (dif (a.drop k) b).reverse)), (ea, .list (zs (a.take k))), (aa, .list (zs (dif b (a.drop k))))]⟩
set_option maxHeartbeats 1000000 in
theorem ul_c {w : World} {hT : Heap} {A : Around} {s : Shared} {envc : Env} {Lc : Addr} (C : Cx w hT A s 1) (R : Arnd hT A s envc Lc) {ea aa : Addr} {a b : List Int} {vs : List Value} (r : RepL s.heap [.ref ea, .ref aa] vs) (ha : RepO w s.heap ea (.list (zs a))) (hb : RepO w s.heap aa (.list (zs b))) (hab : ea ≠ aa) (haT : hT.get? ea = none) (hbT : hT.get? aa = none) (ia : a.Nodup) (ib : b.Nodup) (hal : a.length < 1000) (hbl : b.length < 1000) :
    codeAny (model pw w) A (.call (.ref 288) ⟨vs, []⟩) (RetE w s [ea, aa] Lc fun y led => ∃ m, y = .tup (.type "tuple") [.ref m, .ref aa] ∧ led = [(m, .list (zs (dif a b).reverse)), (ea, .list []), (aa, .list (zs (dif b a)))]) s := by
  obtain ⟨oc, esc, epc, hoc, hdc⟩ := R.obj
  have notc : ∀ {x : Addr} {l : List AV}, RepO w s.heap x (.list l) → x ≠ Lc := fun hx q => by
    obtain ⟨vs, n, e, _⟩ := hx
    rw [q, hoc] at e; cases e; cases hdc
  obtain ⟨v1, v2, rfl, r1, r2⟩ := r.inv2
  refine enterE dUL_ok (k := 0) C R (.cons r1 (.cons r2 .nil)) rfl [(ea, .list (zs a)), (aa, .list (zs b))] [some (.ref ea), some (.ref aa), none, none] 2 (fun p hp => ?_) (by simpa using hab) rfl fun L hL => ?_
  · rcases List.mem_cons.mp hp with rfl | hp
    · exact ⟨haT, rfl, ha, notc ha⟩
    · rw [List.mem_singleton.mp hp]; exact ⟨hbT, rfl, hb, notc hb⟩
  have fo := frameE_ok (d := dUL) (w := w) (mods := [ea, aa]) (L := L) (k := 0) R
  have hz := sizeLine_is
  refine ws_cons ?_
  (with_reducible refine' ws_doc ?_)
  ((with_reducible refine' seq_next ?_; refine' ws_cons ?_); ((with_reducible refine' ws_assign ?za65 ?_); (case za65 => exact rfl)); (with_reducible refine' we_list ?_; refine' wa_nil ?_))
  refine ⟨by simp, fun mi hmi => ?_⟩
  refine seq_next ?_
  refine ws_cons ?_
  refine W.mono (Q := fun f σ => f = AF.next ∧ ∃ o3, σ = ulS ea aa mi a b 0 o3) (ws_while (fun n σ => ∃ o3, n ≤ a.length ∧ σ = ulS ea aa mi a b n o3) a.length ⟨none, Nat.le_refl _, by rw [ulS, List.drop_length, List.take_length, dif_nil]; rfl⟩ ?_) ?_
  · rintro n σ ⟨o3, hn, rfl⟩
    have l0 : (dif (a.drop n) b).length ≤ a.length := Nat.le_trans (List.length_filter_le _ _) (by rw [List.length_drop]; walk_at "om")
    have l1 : (dif b (a.drop n)).length ≤ b.length := List.length_filter_le _ _
    ((with_reducible refine' wb_plain ?_); walk_at "n")
    refine o_true_list (by walk_at "has") (by simp; walk_at "om") ?_
    refine ⟨fun hq => ?_, fun hq => ?_⟩
    · obtain ⟨k, rfl⟩ : ∃ k, n = k + 1 := by
        cases n with
        | zero => simp at hq
        | succ k => exact ⟨k, rfl⟩
      have hk : k < a.length := by walk_at "om"
      have et : zs (a.take (k + 1)) = zs (a.take k) ++ [.int (a.getD k 0)] := by rw [take_snoc hk]; simp
      have ed := drop_at hk
      have hxn : a.getD k 0 ∉ a.drop (k + 1) := by
        have := ia
        rw [← List.take_append_drop k a, ed] at this
        exact (List.nodup_cons.mp (List.nodup_append.mp this).2.1).1
      rw [ulS, et]
      ((with_reducible refine' ws_cons ?_); ((with_reducible refine' ws_assign ?za66 ?_); (case za66 => exact rfl)); (with_reducible refine' we_list_pop ?_); walk_at "n")
      refine ⟨typeB_list (by walk_at "has"), ?_⟩
      (with_reducible refine' wa_nil ?_)
      refine o_pop (by walk_at "upd") (by simp; walk_at "om") ?_
      refine seq_next ?_
      refine ws_cons ?_
      refine W.mono (Q := fun f σ => f = AF.next ∧ ∃ o3, σ = ulS ea aa mi a b k o3) ?_ ?_
      · refine ws_try (cx := True) (cls := "ValueError") (Qe := fun σ => a.getD k 0 ∉ b ∧ σ = ⟨[some (.ref ea), some (.ref aa), some (.ref mi), some (.int (a.getD k 0))], [(mi, .list (zs (dif (a.drop (k + 1)) b).reverse)), (ea, .list (zs (a.take k))), (aa, .list (zs (dif b (a.drop (k + 1)))))]⟩) fo excOk_value rfl rfl (fun hb' => ?_) ?_
        · ((with_reducible refine' ws_cons ?_; refine' ws_expr ?_; refine' we_list_remove ?_); walk_at "n")
          refine ⟨typeB_list (by walk_at "has"), ?_⟩
          ((with_reducible refine' wa_cons ?_); walk_at "n"; (with_reducible refine' wa_nil ?_))
          by_cases hx : a.getD k 0 ∈ b
          · have hx' : a.getD k 0 ∈ dif b (a.drop (k + 1)) := by unfold dif; rw [List.mem_filter]; exact ⟨hx, by simpa using hxn⟩
            have nd' : (dif b (a.drop (k + 1))).Nodup := List.Nodup.sublist List.filter_sublist ib
            obtain ⟨g1, g2⟩ := idx_spec hx'
            refine o_remove (j := idx (a.getD k 0) (dif b (a.drop (k + 1)))) (by walk_at "upd") g1 g2 (by walk_at "om") ⟨rfl, ?_⟩
            rw [erase_idx nd' hx', ← dif_cons_r, ← ed]
            ((with_reducible refine' seq_next ?_; refine' ws_nil ?_))
            refine ⟨rfl, some (.int (a.getD k 0)), ?_⟩
            rw [ulS, show dif (a.drop k) b = dif (a.drop (k + 1)) b by rw [ed, dif_cons_l, if_pos hx]]
            rfl
          · refine o_remove_none (by walk_at "has") (fun h => hx (List.mem_filter.mp h).1) rfl ⟨hx, rfl⟩
        · rintro _ hb' e oe T oT ⟨hx, rfl⟩
          ((with_reducible refine' ws_cons ?_; refine' ws_expr ?_; refine' we_list_append ?_); walk_at "n")
          refine ⟨typeB_list (by walk_at "has"), ?_⟩
          ((with_reducible refine' wa_cons ?_); walk_at "n"; (with_reducible refine' wa_nil ?_))
          refine o_append (by walk_at "upd") (by simp; walk_at "om") ⟨rfl, ?_⟩
          ((with_reducible refine' seq_next ?_; refine' ws_nil ?_))
          refine ⟨ulS ea aa mi a b k (some (.int (a.getD k 0))), ⟨?_, fun _ _ h => h⟩, rfl, _, rfl⟩
          rw [ulS, show dif (a.drop k) b = a.getD k 0 :: dif (a.drop (k + 1)) b by rw [ed, dif_cons_l, if_neg hx], show dif b (a.drop k) = dif b (a.drop (k + 1)) by
            rw [ed, dif_cons_r, List.filter_eq_self]
            intro y hy
            have : y ≠ a.getD k 0 := fun z => hx (z ▸ (List.mem_filter.mp hy).1)
            simpa using this]
          rw [show zs (a.getD k 0 :: dif (a.drop (k + 1)) b).reverse = zs (dif (a.drop (k + 1)) b).reverse ++ [.int (a.getD k 0)] by simp]
          exact ((List.Sublist.refl _).cons _).cons _
      · rintro _ _ ⟨rfl, o3, rfl⟩
        refine seq_next (ws_nil ?_)
        exact ⟨k, by walk_at "om", o3, by walk_at "om", rfl⟩
    · obtain rfl : n = 0 := by
        cases n with
        | zero => rfl
        | succ k =>
          have hk : k < a.length := by walk_at "om"
          rw [take_snoc hk] at hq
          simp at hq
      exact ⟨rfl, o3, rfl⟩
  · rintro _ _ ⟨rfl, o3, rfl⟩
    rw [ulS, List.drop_zero, List.take_zero]
    ((with_reducible refine' seq_next ?_; refine' ws_cons ?_; refine' ws_return ?_; refine' we_tuple ?_; refine' wa_cons ?_); walk_at "n"; (with_reducible refine' wa_cons ?_); walk_at "n"; (with_reducible refine' wa_nil ?_))
    refine ⟨by show 2 ≤ sizeLine; decide, ?_⟩
    (with_reducible refine' seq_ret ?_)
    exact ⟨mi, rfl, rfl⟩
end
section
open PySem PySem.W PyProof.Rows PySem.Calls
set_option Elab.async false
set_option linter.unusedVariables false
set_option maxRecDepth 10000
open Builtin Builtin.ObjectAttr
section
variable {w : World} {A : Around} {E : Value → Shared → Prop} {s : Shared}
theorem sub_match {Q : Value → Shared → Prop} (X : (K w.params).In s.heap) (h : Q (.bool true) s) : wpAny (model pw w) A (call (.builtin "issubclass") [.ref 135, .type "tuple"]) Q E s := by
  have fin : wpAny (model pw w) A.in1 (Builtin.«issubclass» ⟨[.ref 135, .type "tuple"], []⟩)
      (fun fin s' => match fin with | .done f => wants Q E (.ok f) s' | .again c' => c'.quiet = true ∧ codeAny (model pw w) A c' (wants Q E) s') (fun e s' => wants Q E (.error e) s') s := by
    refine issubclass_outer ?_
    obtain ⟨oc, od, cd, sl, hK, _, _, _, hdel⟩ := mk_look w.params
    have h1 : s.heap.get? 135 = some ⟨oc, od, .cls cd, sl⟩ := X _ _ hK
    have h2 := tn_sub X
    have h3 : Looks (model pw w) s.heap (typeOf (.type "tuple")) (.type "type") := Looks.of_pure typ_tuple
    unfold Builtin.«issubclass.nested»
    repeat (first | exact h | simp only [Bool.and_self, if_true] | lk)
  refine wpAny_call (codeAny_call_builtin PySem.F.plain_issubclass PySem.F.entry_issubclass ?_)
  simp only [checkBuiltinCall, PySem.F.kind_issubclass]
  have ok := PySem.F.args_issubclass_2 (.ref 135) (.type "tuple")
  cases hsig : Manifest.signature? "issubclass" with
  | none => exact wpAny_pure fin
  | some sig =>
    simp only [argsOk, hsig] at ok
    have h2 : Bind.checkArgs "issubclass" sig ⟨[.ref 135, .type "tuple"], []⟩ = pure () := ok
    show wpAny _ _ (Bind.checkArgs "issubclass" sig ⟨[.ref 135, .type "tuple"], []⟩) _ _ s
    rw [h2]; exact wpAny_pure fin
/-- the getters of Match -/
noncomputable def tgs : List (Str × Addr × Addr × Int × Tok) := [(⟨#[97]⟩, 124, 123, 0, 346), (⟨#[98]⟩, 127, 126, 1, 356), (⟨#[115,105,122,101]⟩, 130, 129, 2, 366)]
noncomputable abbrev nIndex : Str := ⟨#[105,110,100,101,120]⟩
theorem tgs_ok (P : Params) : (tgs.all fun p => decide (findIn (K P) (.ref 135) p.1 = some (some (.ref p.2.1))) && decide (specialIn (K P) (.ref p.2.1) "__get__" = some (some (.ref 43))) && decide (takesIn (K P) (.ref p.2.1) = some true)) = true := by kernel_rfl
theorem tg_find (P : Params) (p : Str × Addr × Addr × Int × Tok) (hp : p ∈ tgs) : findIn (K P) (.ref 135) p.1 = some (some (.ref p.2.1)) ∧ specialIn (K P) (.ref p.2.1) "__get__" = some (some (.ref 43)) ∧ takesIn (K P) (.ref p.2.1) = some true := by
  have := List.all_eq_true.mp (tgs_ok P) p hp
  simp only [Bool.and_eq_true, decide_eq_true_eq] at this
  exact ⟨this.1.1, this.1.2, this.2⟩
theorem tg_own (P : Params) : ∀ p ∈ tgs, ∃ o od, (K P).lookup p.2.1 = some o ∧ (K P).lookup p.2.2.1 = some od ∧ o.cls = .ref 60 ∧ notCls o = true ∧ o.dict = some p.2.2.1 ∧ findObj (K P) 60 (some od) nIndex = some (.value (.int p.2.2.2.1 p.2.2.2.2)) := by
  intro p hp
  rcases List.mem_cons.mp hp with rfl | hp
  · exact ⟨_, _, (by kernel_rfl : (K P).lookup 124 = some (o124 P)), (by kernel_rfl : (K P).lookup 123 = some (o123 P)), rfl, rfl, rfl, by kernel_rfl⟩
  · rcases List.mem_cons.mp hp with rfl | hp
    · exact ⟨_, _, (by kernel_rfl : (K P).lookup 127 = some (o127 P)), (by kernel_rfl : (K P).lookup 126 = some (o126 P)), rfl, rfl, rfl, by kernel_rfl⟩
    · rw [List.mem_singleton.mp hp]
      exact ⟨_, _, (by kernel_rfl : (K P).lookup 130 = some (o130 P)), (by kernel_rfl : (K P).lookup 129 = some (o129 P)), rfl, rfl, rfl, by kernel_rfl⟩
theorem tg_index {p : Str × Addr × Addr × Int × Tok} (hp : p ∈ tgs) {expr : Bool} {Q : Value → Shared → Prop} (X : (K w.params).In s.heap) (h : Q (.int p.2.2.2.1 p.2.2.2.2) { s with toks := s.toks + 1 }) : wpAny (model pw w) A (getAttr (.ref p.2.1) nIndex expr) Q E s := by
  obtain ⟨o, od, h1, h2, h3, h4, h5, h6⟩ := tg_own w.params p hp
  have I : InstAt s.heap p.2.1 o 60 (some od) := ⟨X _ _ h1, h3, h4, by rw [h5]; exact X _ _ h2⟩
  exact get_value X I (by kernel_rfl) h6 rfl h
end
section
variable {F : Fx} {E : Value → Shared → Prop} {σ : Sig}
theorem o_isnone_tup {c : Value} {l : List AV} {Q : AV → Sig → Prop} (h : Q (.bool false) σ) : WO2 F E Rep (compareOp .Is) (.tup c l) .none σ Q := by
  rintro s v u S r ⟨⟩
  cases r
  exact is_none_ne (by intro h; cases h) (.here' S (.bool _) h)
theorem o_type1 {l : List AV} {Q : AV → Sig → Prop} (h : Q (.raw (.ref 135)) σ) : WOL F E Rep (fun vs => call (.type "type") vs) [.tup (.ref 135) l] σ Q := by
  rintro s vs S r
  obtain ⟨v, rfl, r1⟩ := r.inv1
  cases r1 with
  | @tup _ _ a dd ws n hc hd e hl kk => exact call_type_obj (h := s.heap) (g := s.gens) (d := s.drawn) (t := s.toks) (os := s.os) e rfl (.here' S (.raw _) h)
theorem o_issub {Q : AV → Sig → Prop} (h : Q (.bool true) σ) : WOL F E Rep (fun vs => call (.builtin "issubclass") vs) [.raw (.ref 135), .raw (.type "tuple")] σ Q := by
  rintro s vs S r
  obtain ⟨_, _, rfl, r1, r2⟩ := r.inv2
  cases r1; cases r2
  exact sub_match S.inK (.here' S (.bool _) h)
theorem o_tgindex {p : Str × Addr × Addr × Int × Tok} (hp : p ∈ tgs) {Q : AV → Sig → Prop} (h : Q (.int p.2.2.2.1) σ) : WO1 F E Rep (fun v => getAttr v nIndex true) (.raw (.ref p.2.1)) σ Q := by
  rintro s v S ⟨⟩
  exact tg_index hp S.inK (.here S (.int _ _) h)
theorem o_mgetitem {l : List AV} {k : Nat} {x : AV} {Q : AV → Sig → Prop} (hx : l[k]? = some x) (hk : (k : Int) < 2 ^ 63) (h : Q x σ) : WOL F E Rep (fun vs => call (.builtin "tuple.__getitem__") vs) [.tup (.ref 135) l, .int (k : Int)] σ Q := by
  rintro s vs S r
  obtain ⟨v, _, rfl, r1, r2⟩ := r.inv2
  cases r2 with | int _ u =>
  cases r1 with
  | @tup _ _ a dd ws n hc hd e hl kk =>
    have rl : RepL s.heap l ws := RepL.of_get hl kk
    obtain ⟨y, hy, ry⟩ := rl.some hx
    have hlt : k < ws.length := (List.getElem?_eq_some_iff.mp hy).1
    exact sub_meets (owner := "tuple") (nn := "__getitem__") (by decide +kernel) PySem.F.entry_tuple_getitem (by decide +kernel) (by decide +kernel) (mt_inst S.inK e) (PySem.F.args_tuple_getitem_2 _ _) (mt_getitem_meets a 135 dd ws.toArray n #[] k u k y (by walk_at "om") hk (seqIndex_of (by walk_at "om") (by rw [List.size_toArray]; walk_at "om")) (by simpa using hy)) ⟨e, .here' S ry h⟩
end
end
section
open PySem PySem.W PyProof.Rows PySem.Calls
set_option Elab.async false
set_option linter.unusedVariables false
set_option maxRecDepth 10000
noncomputable def dTG : Def := { fa := 43, fd := fd43, body := bodyOf (mth 2 1), names := [⟨#[115,101,108,102]⟩, ⟨#[111,98,106]⟩, ⟨#[111,98,106,116,121,112,101]⟩], globs := [⟨#[105,115,115,117,98,99,108,97,115,115]⟩, ⟨#[116,121,112,101]⟩, ⟨#[116,117,112,108,101]⟩] }
theorem dTG_ok : dTG.Ok := {
  obj := fun P => ⟨_, _, _, (by kernel_rfl : (K P).lookup 43 = some ⟨.type "function", none, .func fd43, #[]⟩)⟩
  body := by kernel_rfl
  code := fun P => by kernel_rfl
  scope := by kernel_rfl
  glob := by kernel_rfl
  bi := by kernel_rfl }
theorem tg_c {w : World} {hT : Heap} {A : Around} {s : Shared} (C : Cx w hT A s 1) {p : Str × Addr × Addr × Int × Tok} (hp : p ∈ tgs) {l : List AV} {k : Nat} {x : AV} (hk : p.2.2.2.1 = (k : Int)) (hx : l[k]? = some x) (hk2 : k < 3) {vs : List Value} (r : RepL s.heap [.raw (.ref p.2.1), .tup (.ref 135) l, .raw (.ref 135)] vs) :
    codeAny (model pw w) A (.call (.ref 43) ⟨vs, []⟩) (Ret w s [] fun y led => y = x ∧ led = []) s := by
  obtain ⟨v1, v2, v3, rfl, r1, r2, r3⟩ := r.inv3
  refine enterD dTG_ok (k := 0) C (vs' := [v1, v2, v3]) (.cons r1 (.cons r2 (.cons r3 .nil))) (kp_binds (C.top.kin.keeps C.ht) fun S => by kernel_rfl) [] [some (.raw (.ref p.2.1)), some (.tup (.ref 135) l), some (.raw (.ref 135))] 0 (fun p hp => nomatch hp) (by simp) rfl fun L hL => ?_
  refine ws_cons ?_
  refine ws_if ?_
  ((with_reducible refine' wb_cmp ?_); walk_at "n"; (with_reducible refine' we_none ?_))
  refine o_isnone_tup ⟨_, rfl, fun hb => by (cases hb), fun _ => ?_⟩
  ((with_reducible refine' ws_nil ?_; refine' seq_next ?_; refine' ws_cons ?_))
  refine ws_if ?_
  ((with_reducible refine' wb_not ?_; refine' wb_plain ?_; refine' we_call ?_); ((with_reducible refine' we_blt ?za67 ?zb67 ?_); (case za67 => exact rfl); (case zb67 => exact rfl)))
  refine ⟨_, rfl, by walk_at "callee", ?_⟩
  ((with_reducible refine' wa_cons ?_; refine' we_call ?_); ((with_reducible refine' we_blt ?za68 ?zb68 ?_); (case za68 => exact rfl); (case zb68 => exact rfl)))
  refine ⟨_, rfl, by walk_at "callee", ?_⟩
  ((with_reducible refine' wa_cons ?_); walk_at "n"; (with_reducible refine' wa_nil ?_))
  refine o_type1 ?_
  ((with_reducible refine' wa_cons ?_); ((with_reducible refine' we_blt ?za69 ?zb69 ?_); (case za69 => exact rfl); (case zb69 => exact rfl)); (with_reducible refine' wa_nil ?_))
  refine o_issub ?_
  refine o_true_bool ⟨fun hb => by (cases hb), fun _ => ?_⟩
  refine ws_nil ?_
  refine seq_next ?_
  refine ws_cons ?_
  refine ws_return ?_
  refine we_tmeth "tuple.__getitem__" fc_getitem ?_
  (((with_reducible refine' we_blt ?za70 ?zb70 ?_); (case za70 => exact rfl); (case zb70 => exact rfl)))
  refine ⟨rfl, ?_⟩
  ((with_reducible refine' wa_cons ?_); walk_at "n"; (with_reducible refine' wa_cons ?_; refine' we_attr ?_); walk_at "n")
  refine o_tgindex hp ?_
  (with_reducible refine' wa_nil ?_)
  rw [hk]
  refine o_mgetitem hx (by walk_at "om") ?_
  (with_reducible refine' seq_ret ?_)
  exact ⟨rfl, rfl⟩
section
variable {w : World} {A : Around} {E : Value → Shared → Prop} {s : Shared} {a : Addr} {dd : Option Addr} {vs : Array Value} {n : Nat} {sl : Array (Option Value)}
open Builtin Builtin.ObjectAttr
theorem mt_getattr {p : Str × Addr × Addr × Int × Tok} (hp : p ∈ tgs) {expr : Bool} {Q : Value → Shared → Prop} (X : (K w.params).In s.heap) (o : s.heap.get? a = some ⟨.ref 135, dd, .seq vs n, sl⟩)
    (h : codeAny (model pw w) A.in1 (.call (.ref 43) ⟨[.ref p.2.1, .ref a, .ref 135], []⟩) (fun r s' => match r with | .ok (.ret v) => handedIn v = true ∧ Q v s' | _ => False) { s with toks := s.toks + 1 }) : wpAny (model pw w) A (getAttr (.ref a) p.1 expr) Q E s := by
  obtain ⟨h1, h2, h3⟩ := tg_find w.params p hp
  have L0 := mt_type (M := model pw w) o
  have L1 : Looks (model pw w) s.heap (typeLookup (.ref 135) "__getattribute__") (some (.builtin "tuple.__getattribute__")) := looks_findIn X (by kernel_rfl)
  have LF : Looks (model pw w) s.heap (find (.ref a) (.ref 135) p.1) (.bind (.ref 43) (.ref p.2.1)) := by
    refine (looks_findIn X h1).andThen ((show Looks (model pw w) s.heap (getOf (some (.ref p.2.1))) (some (.ref 43)) from looks_specialIn X h2).andThen ?_)
    exact (show Looks (model pw w) s.heap (dataDescriptor? (some (.ref p.2.1)) (some (.ref 43))) (some (.ref 43, .ref p.2.1)) from (looks_takesIn X h3).andThen .now).andThen (Looks.tag .now)
  have LH : Looks (model pw w) s.heap (hookBefore (.ref 135)) none := looks_hook X (by kernel_rfl)
  refine wpAny_bind (wpAny_mkText (wpAny_holding (wpAny_bind (L0 _ _ _ _ (fun _ _ e => e) (wpAny_bind (L1 _ _ _ _ (fun _ _ e => e) ?_))))))
  dsimp only
  rw [show (onTheHeap (.ref 135) && Value.builtin "tuple.__getattribute__" == Value.builtin "object.__getattribute__") = false from by rw [show (Value.builtin "tuple.__getattribute__" == Value.builtin "object.__getattribute__") = false from by decide +kernel, Bool.and_false], if_neg (by decide)]
  refine wpAny_bind (LH _ _ _ _ (fun _ _ e => e) (wpAny_bind (wpAny_attempt (wpAny_holding ?_))))
  unfold callGetattribute
  rw [show (expr && onTheHeap (Value.builtin "tuple.__getattribute__")) = false from Bool.and_false _, if_neg (by decide)]
  unfold boundAndCalled
  rw [PySem.F.slot_tuple_getattribute.bind]
  refine wpAny_bind (wpAny_pure ?_)
  show wpAny _ _ (call (.builtin "tuple.__getattribute__") [.ref a, .str p.1 s.toks]) _ _ _
  refine wpAny_call (codeAny_call_builtin PySem.F.slot_tuple_getattribute.plain PySem.F.entry_tuple_ga ?_)
  refine @check_slot (model pw w) _ _ { s with toks := s.toks + 1 } "tuple.__getattribute__" "tuple" "__getattribute__" (.ref a) [.str p.1 s.toks] [] _ (by decide +kernel) (by decide +kernel) (mt_inst X o) (PySem.F.args_tuple_getattribute_2 _ _) ?_
  unfold Builtin.«object.__getattribute__»
  refine wpAny_bind (wpAny_pure (wpAny_bind (wpAny_pure (wpAny_bind (L0 _ _ _ _ (fun _ _ e => e) (wpAny_bind (LF _ _ _ _ (fun _ _ e => e) ?_)))))))
  show wpAny _ _ (holding [.ref p.2.1] (call (.ref 43) [.ref p.2.1, .ref a, .ref 135]) >>= ret) _ _ _
  refine wpAny_bind (wpAny_holding (wpAny_call (codeAny_mono h fun r s' z => ?_)))
  rcases r with e | (v | _ | _ | _) <;> first | exact z.elim | skip
  refine wpAny_pure ?_
  show wpAny _ _ (handedOut _) _ _ _
  rw [handedOut_of z.1]; exact wpAny_pure z.2
end
section
variable {F : Fx} {E : Value → Shared → Prop} {σ : Sig}
theorem o_mattr {p : Str × Addr × Addr × Int × Tok} (hp : p ∈ tgs) {l : List AV} {k : Nat} {x : AV} {Q : AV → Sig → Prop} (hk : p.2.2.2.1 = (k : Int)) (hx : l[k]? = some x) (hk2 : k < 3) (hh : x.handed = true) (h : Q x σ) (hF : 2 ≤ F.k := by exact Nat.le_of_ble_eq_true rfl) (hd : F.hd = none := by rfl) :
    WO1 F E Rep (fun v => getAttr v p.1 true) (.tup (.ref 135) l) σ Q := by
  rintro s v S r
  have r0 := r
  cases r with
  | @tup _ _ a dd ws n hc hdd e hl kk =>
    have C : Cx F.w F.hT F.A.in1 { s with toks := s.toks + 1 } 1 := by
      have c := S.cxUp 2 hF hd
      exact ⟨c.top, c.ht, c.hh, by have := c.dep; show F.A.depth + 1 ≤ 900; walk_at "om", by have := c.un; show F.A.units + 1 + 20 * 1 ≤ 9000; walk_at "om"⟩
    refine mt_getattr hp S.inK e (codeAny_mono (tg_c C hp hk hx hk2 (.cons (.raw _) (.cons r0 (.cons (.raw _) .nil)))) ?_)
    rintro r' s' ⟨v, y, led', rfl, ry, h1, h2, h3, h4, h5, h6, h7, rfl, rfl⟩
    refine ⟨handed_of ry hh, y, σ, ry, ?_, h5, h⟩
    have S' := S.grow (h' := s'.heap) (tk := s'.toks) fun b o e => h4 b o e fun h => nomatch h
    exact ⟨S'.ok, S'.ns, S'.rep, S'.nd, S'.new, S'.Lnew, S'.keep, h6.trans S.gens, h7.trans S.os, S'.fr, S'.mb⟩
end
end
section
open PySem PySem.W PyProof.Rows PySem.Calls
set_option Elab.async false
set_option linter.unusedVariables false
set_option maxRecDepth 10000
section
variable {w : World} {A : Around} {E : Value → Shared → Prop} {s : Shared}
theorem adjust_rev2 : Builtin.Slice.sliceAdjust none none (-1) 2 = (1, -1) := by decide
theorem places_rev2 : Builtin.Slice.slicePlaces 1 (-1) (-1) = 2 := by decide
theorem applied_rev2 {sl : Addr} {u : Tok} {Q : Int × Int × Nat → Shared → Prop} (hs : s.heap.IsSliceOf sl .none .none (.int (-1) u)) (h : Q (1, -1, 2) s) : wpAny (model pw w) A (Builtin.Slice.sliceApplied (.ref sl) (pure (2 : Int))) Q E s := by
  obtain ⟨os, hos, hcs, hds⟩ := id hs
  unfold Builtin.Slice.sliceApplied Builtin.Slice.sliceFields
  refine wpAny_bind (wpAny_bind (wpAny_field hos hds (x := .none) rfl (wpAny_bind (wpAny_field hos hds (x := .none) rfl (wpAny_bind (wpAny_field hos hds (x := .int (-1) u) rfl (wpAny_pure ?_)))))))
  refine wpAny_bind (slicePart_int ?_)
  show wpAny _ _ (if ((-1 : Int) == 0) = true then _ else _) _ _ s
  rw [if_neg (by decide)]
  refine wpAny_bind (slicePart_none (wpAny_bind (slicePart_none (wpAny_bind (wpAny_pure ?_)))))
  show wpAny _ _ (match Builtin.Slice.sliceAdjust none none (-1) 2 with | (lo, hi) => pure (lo, (-1 : Int), Builtin.Slice.slicePlaces lo hi (-1))) _ _ s
  rw [adjust_rev2]
  show wpAny _ _ (pure ((1 : Int), (-1 : Int), Builtin.Slice.slicePlaces 1 (-1) (-1))) _ _ s
  rw [places_rev2]
  exact wpAny_pure h
theorem tup_rev2 {t sl : Addr} {x y : Value} {u : Tok} {Q : Value → Shared → Prop} (ht : IsTup s.heap t #[x, y]) (hs : s.heap.IsSliceOf sl .none .none (.int (-1) u)) (h : Q (.ref s.heap.objs.size) { s with heap := s.heap.push { cls := .type "tuple", data := .seq #[y, x] } }) :
    wpAny (model pw w) A (getItem (.ref t) (.ref sl)) Q E s := by
  obtain ⟨os, hos, hcs, hds⟩ := id hs
  have hTs : s.TypeIs (.ref sl) "slice" := ⟨os, hos, hcs⟩
  unfold getItem
  try with_reducible refine wpAny_holding ?_
  refine wpAny_bind (wpAny_sequenceKey ht.typeIs (by decide) ?_)
  refine wpAny_bind (wpAny_callSpecial?_slot (name := Str.ofString "__getitem__") ht.typeIs slot_tuple_getitem (wpAny_call_entry slot_tuple_getitem ht.typeIs entry_tuple_getitem ?_ (args_tuple_getitem _ _)))
  show wpAny _ _ (Builtin.Tuple.tupleItemsOf (.ref t) >>= _) _ _ s
  refine wpAny_bind (tupleItemsOf_ ht ?_)
  refine wpAny_bind (wpAny_typeOf hTs ?_)
  rw [if_pos (by decide)]
  refine wpAny_bind (applied_rev2 hs ?_)
  show wpAny _ _ (if ((1 : Int) == 0 && (-1 : Int) == 1 && 2 == 2) = true then _ else _) _ _ s
  rw [if_neg (by decide)]
  have e : ((List.range 2).filterMap fun (k : Nat) => (#[x, y] : Array Value)[((1 : Int) + (k : Int) * (-1)).toNat]?).toArray = #[y, x] := rfl
  rw [e]
  have hz : sizeOk (.seq #[y, x]) := by show 2 ≤ sizeLine; decide
  first
    | exact wpAny_bind (m := Builtin.Tuple.tupleExact _) (wpAny_newObj_type (wpAny_pure ⟨_, rfl, wpAny_pure h⟩) hz)
    | exact wpAny_bind (m := Builtin.Tuple.tupleExact _) (wpAny_newObj_type (wpAny_bind (wpAny_pure (wpAny_pure ⟨_, rfl, wpAny_pure h⟩))) hz)
    | exact wpAny_bind (wpAny_bind (m := Builtin.Tuple.tupleExact _) (wpAny_newObj_type (wpAny_pure (wpAny_pure ⟨_, rfl, wpAny_pure h⟩)) hz))
    | exact wpAny_bind (wpAny_bind (m := Builtin.Tuple.tupleExact _) (wpAny_newObj_type (wpAny_pure ⟨_, rfl, wpAny_pure h⟩) hz))
end
theorem ints_items {h : Heap} : ∀ {ns : List Int} {vs : List Value}, RepL h (zs ns) vs → ∃ xs : List (Int × Tok), vs.toArray = intItems xs.toArray ∧ xs.map (·.1) = ns
  | [], _, .nil => ⟨[], by simp [intItems], rfl⟩
  | i :: r, _, .cons (v := v) (vs := vs) rv q => by
    obtain ⟨xs, e1, e2⟩ := ints_items q
    cases rv with | int _ t =>
    refine ⟨(i, t) :: xs, ?_, by simp [e2]⟩
    apply Array.toList_inj.mp
    have := congrArg Array.toList e1
    simp [intItems] at this ⊢
    exact this
section
variable {F : Fx} {E : Value → Shared → Prop} {σ : Sig}
theorem we_trev2 {value step : Expr} {p p' : Pos} {x y : AV} {Q : AV → Sig → Prop}
    (h : WE F E (eval value F.env) σ fun v σ₁ => v = .tup (.type "tuple") [x, y] ∧ W F E RPart (evalPart (some step) F.env) σ₁ fun st σ₂ => st = some (-1) ∧ Q (.tup (.type "tuple") [y, x]) σ₂)
    (hs : ∀ a b, ∃ ops, subscripted (.Slice none none (some step) p') false (.ref a) (.ref b) = operate ops (getItem (.ref a) (.ref b)) := by intro a b; exact ⟨_, by with_unfolding_all rfl⟩) :
    WE F E (eval (.Subscript value (.Slice none none (some step) p') p) F.env) σ Q := by
  intro s S
  refine Subscript_ (h.then S ?_)
  rintro v s₁ x' σ₁ rv S₁ m₁ ⟨rfl, h₁⟩
  have e0 := wp_none (F := F) (E := E) (σ := σ₁) (Q := fun o σ' => o = none ∧ W F E RPart (evalPart none F.env) σ' fun o σ' => o = none ∧ W F E RPart (evalPart (some step) F.env) σ' fun st σ₂ => st = some (-1) ∧ Q (.tup (.type "tuple") [y, x]) σ₂) ⟨rfl, wp_none ⟨rfl, h₁⟩⟩
  refine wpAny_Slice (e0.then S₁ ?_)
  rintro vl s₂ lo σ₂ r₂ S₂ m₂ ⟨rfl, h₂⟩
  refine h₂.then S₂ ?_
  rintro vu s₃ hi σ₃ r₃ S₃ m₃ ⟨rfl, h₃⟩
  refine h₃.then S₃ ?_
  rintro vt s₄ st σ₄ r₄ S₄ m₄ ⟨rfl, q⟩
  cases r₂; cases r₃
  cases r₄ with | int _ u =>
  have rv' := (((rv.mono m₂).mono m₃).mono m₄)
  obtain ⟨a, ws, rfl, ht, rl⟩ := rv'.isTup
  obtain ⟨vx, vy, rfl, rx, ry⟩ := rl.inv2
  obtain ⟨ops, hops⟩ := hs a s₄.heap.objs.size
  have hk : ∀ b o, s₄.heap.get? b = some o → (s₄.heap.push { cls := .type "slice", data := .fields #[.none, .none, .int (-1) u] }).get? b = some o := fun b o e => Heap.get?_push_of_some _ e
  have S₅ : St F σ₄ { s₄ with heap := s₄.heap.push { cls := .type "slice", data := .fields #[.none, .none, .int (-1) u] } } := S₄.grow (tk := s₄.toks) hk
  have ht' : IsTup (s₄.heap.push { cls := .type "slice", data := .fields #[.none, .none, .int (-1) u] }) a #[vx, vy] := ht.keeps hk
  refine tail_any (T := "tuple") ht'.typeIs PySem.F.slot_tuple_getitem.lookup ?_ hops
  refine tup_rev2 ht' (Heap.IsSliceOf.new ..) ?_
  have hk2 := push_keep (s₄.heap.push { cls := .type "slice", data := .fields #[.none, .none, .int (-1) u] }) { cls := .type "tuple", data := .seq #[vy, vx] }
  have mm : Mono s₄.heap ((s₄.heap.push { cls := .type "slice", data := .fields #[.none, .none, .int (-1) u] }).push { cls := .type "tuple", data := .seq #[vy, vx] }) := .of_keep fun b o e => hk2 b o (hk b o e)
  exact ⟨_, σ₄, Rep.tupL (vs := [vy, vx]) (.inl rfl) (fun _ => rfl) (Heap.get?_push_size _ rfl) (.cons (ry.mono mm) (.cons (rx.mono mm) .nil)), S₅.grow (tk := s₄.toks) hk2, m₁.trans (m₂.trans (m₃.trans (m₄.trans mm))), q⟩
theorem picks_rev (l : List AV) : Picks l l.reverse none none (some (-1)) := fun h vs r => by
  rw [krv_pick]
  refine RepL.of_get (by simp [r.length]) fun i x v hx hv => ?_
  have hl := r.length
  simp only [List.toList_toArray] at hv
  have hi : i < l.length := by have := (List.getElem?_eq_some_iff.mp hx).1; simpa using this
  rw [List.getElem?_reverse hi] at hx
  rw [List.getElem?_reverse (by walk_at "om")] at hv
  rw [← hl] at hv
  exact r.get hx hv
theorem o_sum {a : Addr} {ns : List Int} {Q : AV → Sig → Prop} (ha : Has F σ a (.list (zs ns))) (h : ∀ i, Q (.int i) σ) (hd : F.hd = none := by rfl) : WOL F E Rep (fun vs => call (.builtin "sum") vs) [.ref a] σ Q := by
  rintro s vs S r
  obtain ⟨_, rfl, r1⟩ := r.inv1
  cases r1
  obtain ⟨ws, n, e, rl⟩ := S.has ha
  obtain ⟨xs, e1, _⟩ := ints_items rl
  refine sum_intListG (xs := xs.toArray) (S.ok.hh.trans hd) (by rw [← e1]; exact PySem.IsL.isList e) fun h' tk t' hk => ?_
  exact ⟨_, σ, .int _ _, S.grow (tk := tk) hk, .of_keep hk, h _⟩
theorem o_listcopy {a : Addr} {l : List AV} {Q : AV → Sig → Prop} (ha : Has F σ a (.list l)) (hz : l.length ≤ sizeLine) (h : ∀ b, b ∉ σ.led.map (·.1) → Q (.ref b) ⟨σ.vals, (b, .list l) :: σ.led⟩) : WOL F E Rep (fun vs => call (.type "list") vs) [.ref a] σ Q := by
  rintro s vs S r
  obtain ⟨_, rfl, r1⟩ := r.inv1
  cases r1
  obtain ⟨ws, n, e, rl⟩ := S.has ha
  refine call_list_seq a (.inl rfl) e rfl rfl (fun h' c hk hn => ?_) (by rw [List.size_toArray, ← rl.length]; exact hz)
  exact ⟨_, _, .ref _, S.alloc (tk := s.toks) hk (size_none _) (o := .list l) ⟨ws, c, hn, rl.mono (.of_keep hk)⟩, .of_keep hk, h _ (not_led S (size_none _))⟩
end
end
section
open PySem PySem.W PyProof.Rows PySem.Calls
set_option Elab.async false
set_option linter.unusedVariables false
set_option maxRecDepth 10000
theorem sm_makes (P : Params) : makesIn (K P) 242 = true := by kernel_rfl
theorem sm_init (P : Params) : findIn (K P) (.ref 242) "__init__" = some (some (.ref 160)) := by kernel_rfl
theorem sm_initT (P : Params) : typeIn (K P) (.ref 160) = some (.type "function") := by kernel_rfl
/-- a SequenceMatcher is made -/
theorem sm_c {w : World} {hT : Heap} {A : Around} {s : Shared} (C : Cx w hT A s 5) {aa ba : Addr} {b : List Int} {vs : List Value} (r : RepL s.heap [.none, .ref aa, .ref ba] vs) (hb : RepO w s.heap ba (.list (zs b))) (hnd : b.Nodup) (hbl : b.length < 100) :
    codeAny (model pw w) A (.call (.ref 242) ⟨vs, []⟩) (Ret w s [] fun y led => ∃ x dx d j p ads, y = .ref x ∧ ads.length = b.length ∧ led = (x, .obj (instObj 242 dx)) :: ([(dx, .ns (smFields aa ba d j p)), (d, .dict (b2jOf b ads)), (j, .set0), (p, .set0)] ++ placeLed 0 ads)) s := by
  have X := C.top.kin.keeps C.ht
  obtain ⟨hh, g, dr, t, os⟩ := s
  refine make_core (makes_of X (sm_makes _)) (looks_findIn X (sm_init _)) (fun self => bind_fn X self (sm_initT _)) (.inl rfl) ?_
  have hz : (hh.push emptyDict).objs.size = hh.objs.size + 1 := Heap.size_push ..
  have k : ∀ b o, hh.get? b = some o → ((hh.push emptyDict).push (instObj 242 hh.objs.size)).get? b = some o := fun b o e => Heap.get?_push_of_some _ (Heap.get?_push_of_some _ e)
  have hx : ((hh.push emptyDict).push (instObj 242 hh.objs.size)).get? (hh.objs.size + 1) = some (instObj 242 hh.objs.size) := by rw [← hz]; exact Heap.get?_push_size _ rfl
  have hd : ((hh.push emptyDict).push (instObj 242 hh.objs.size)).get? hh.objs.size = some emptyDict := Heap.get?_push_of_some _ (Heap.get?_push_size _ rfl)
  have n0 : hh.get? hh.objs.size = none := size_none hh
  have n1 : hh.get? (hh.objs.size + 1) = none := by
    cases q : hh.get? (hh.objs.size + 1) with
    | none => rfl
    | some o => exact absurd (Heap.lt_size q) (Nat.not_lt.mpr (Nat.le_succ _))
  have nT : hT.get? hh.objs.size = none := by
    cases q : hT.get? hh.objs.size with
    | none => rfl
    | some o => have := C.ht _ _ q; rw [n0] at this; cases this
  have mono : Mono hh ((hh.push emptyDict).push (instObj 242 hh.objs.size)) := .of_keep k
  generalize hA : A.under (Code.builtin "type.__call__" { pos := Value.ref 242 :: vs }) = A'
  have C' : Cx w hT A' ⟨(hh.push emptyDict).push (instObj 242 hh.objs.size), g, dr, t, os⟩ 4 := by
    subst hA
    exact ⟨C.top, fun b o e => k b o (C.ht b o e), C.hh, (by have := C.dep; show A.depth + 1 + 4 ≤ 900; walk_at "om"), (by have := C.un; show A.units + 1 + 20 * 4 ≤ 9000; walk_at "om")⟩
  have hbne : ba ≠ hh.objs.size := fun q => by
    obtain ⟨ws, n, e, _⟩ := hb
    rw [q, n0] at e; cases e
  refine codeAny_mono (init_c (x := hh.objs.size + 1) (dx := hh.objs.size) C' (.cons (.ref _) (r.mono mono)) hx ⟨[], 0, hd, .nil⟩ nT (Nat.succ_ne_self _) (hb.keep mono fun x e => k _ _ e) hbne hnd hbl) ?_
  rintro r' s' ⟨v, y, led', rfl, ry, h1, h2, h3, h4, h5, h6, h7, rfl, d, j, p, ads, hads, rfl⟩
  cases ry
  refine ⟨rfl, .ref _, .ref _, _, rfl, .ref _, fun q hq => ?_, ?_, fun a ha => ?_, fun b o e n => ?_, mono.trans h5, h6, h7, hh.objs.size + 1, hh.objs.size, d, j, p, ads, rfl, hads, rfl⟩
  · rcases List.mem_cons.mp hq with rfl | hq
    · exact h4 _ _ hx (by simp)
    · exact h1 q hq
  · refine List.nodup_cons.mpr ⟨fun q => ?_, h2⟩
    rcases h3 _ q with z | z
    · exact absurd (List.mem_singleton.mp z) (Nat.succ_ne_self _)
    · rw [hx] at z; cases z
  · rcases List.mem_cons.mp ha with rfl | ha
    · exact .inr n1
    · rcases h3 a ha with z | z
      · rw [List.mem_singleton.mp z]; exact .inr n0
      · cases q : hh.get? a with
        | none => exact .inr rfl
        | some o => rw [k a o q] at z; cases z
  · exact h4 b o (k b o e) fun z => by rw [List.mem_singleton.mp z, n0] at e; cases e
theorem placeLed_mem : ∀ (ads : List Addr) (i m : Nat), m < ads.length → (ads.getD m 0, AO.list [.int ((i + m : Nat) : Int)]) ∈ placeLed i ads
  | [], _, _, h => by simp at h
  | a :: r, i, 0, _ => by simp [placeLed]
  | a :: r, i, m + 1, h => by
    have := placeLed_mem r (i + 1) m (by simpa using h)
    rw [show i + 1 + m = i + (m + 1) by walk_at "om"] at this
    exact List.mem_cons_of_mem _ (by simpa [List.getD] using this)
end
section
open PySem PySem.W PyProof.Rows PySem.Calls
set_option Elab.async false
set_option linter.unusedVariables false
/-- those of 0 .. 15 that are in a list -/
noncomputable def due16 (xs : List Int) : List Int := ((List.range 16).map fun (i : Nat) => (i : Int)).filter fun x => decide (x ∈ xs)
noncomputable def In16 (xs : List Int) : Prop := ∀ x ∈ xs, 0 ≤ x ∧ x < 16
theorem due_inc (xs : List Int) : Inc (due16 xs) := by
  refine List.Pairwise.sublist List.filter_sublist ?_
  rw [List.pairwise_map]
  exact List.Pairwise.imp (fun h => by walk_at "om") List.pairwise_lt_range
theorem due_len (xs : List Int) : (due16 xs).length ≤ 16 := Nat.le_trans (List.length_filter_le _ _) (by simp)
theorem thirds_16 (r : Int) (ns : List Int) : In16 (thirds r ns) := by
  intro x hx
  unfold thirds at hx
  obtain ⟨y, _, rfl⟩ := List.mem_map.mp hx
  have h1 := Int.fmod_nonneg_of_pos (y.fdiv 3) (b := 16) (by decide)
  have h2 := Int.fmod_lt_of_pos (y.fdiv 3) (b := 16) (by decide)
  exact ⟨h1, h2⟩
end
section
open PySem PySem.W PyProof.Rows PySem.Calls
set_option Elab.async false
set_option linter.unusedVariables false
set_option maxRecDepth 10000
noncomputable def dLW : Def := { fa := 317, fd := fd317, body := bodyOf (stm 19), names := [⟨#[115,99,114,105,112,116]⟩, ⟨#[98,101,115,105,100,101]⟩, ⟨#[102,105,114,115,116]⟩, ⟨#[115,101,99,111,110,100]⟩, ⟨#[114,111,119,115]⟩, ⟨#[100,117,101]⟩, ⟨#[98,108,111,99,107,115]⟩, ⟨#[97,108,111,110,101]⟩], globs := [⟨#[115,117,109]⟩, ⟨#[95,108,97,119,95,108,105,115,116,115]⟩, ⟨#[95,108,97,119,95,114,111,119]⟩, ⟨#[83,101,113,117,101,110,99,101,77,97,116,99,104,101,114]⟩, ⟨#[95,108,97,119,95,114,117,110,115]⟩, ⟨#[95,108,97,119,95,111,117,116,115,105,100,101]⟩, ⟨#[115,111,114,116,101,100,95,108,105,115,116,95,100,105,102,102,101,114,101,110,99,101]⟩, ⟨#[117,110,111,114,100,101,114,97,98,108,101,95,108,105,115,116,95,100,105,102,102,101,114,101,110,99,101]⟩, ⟨#[108,105,115,116]⟩] }
theorem dLW_ok : dLW.Ok := {
  obj := fun P => ⟨_, _, _, (by kernel_rfl : (K P).lookup 317 = some ⟨.type "function", none, .func fd317, #[]⟩)⟩
  body := by kernel_rfl
  code := fun P => by kernel_rfl
  scope := by kernel_rfl
  glob := by kernel_rfl
  bi := by kernel_rfl }
section
variable {F : Fx} {E : Value → Shared → Prop} {σ : Sig}
/-- «x = [..]» over a list that is made there -/
theorem ws_assign_compR {x : Str} {i : Nat} {p p' : Pos} {elt target iter : Expr} {ifs : List Expr} {scope : Scope} {pos : Pos} {Q : AF → Sig → Prop} (cl : List (Str × Addr)) (names globs : List Str) (l : List AV) (nw : Nat) (J : Addr → Nat → List AV → List (Addr × AO) → Prop)
    (hx : idxOf F.names x = some i) (hclos : closureFor scope F.env = pure cl) (hok : compOk scope (relabel scope F.env) names globs = true)
    (h : WE F E (eval iter F.env) σ fun xv σ₁ => ∃ Ro, CompQ F target nw l Ro (fun σ₂ => CompBody F σ₂ scope cl names globs target ifs elt l nw Ro J) J (SetQ i Q) xv σ₁)
    (hsw : swapsWith (.ListComp elt [⟨target, iter, ifs, 0⟩] scope pos) (some (.Name x p')) p.line F.env = pure true := by with_unfolding_all rfl)
    (hs : ∀ x, foldedSetIterable iter F.env x = pure x := by intro _; with_unfolding_all rfl) : WS F E (exec (.Assign [.Name x p'] (.ListComp elt [⟨target, iter, ifs, 0⟩] scope pos) p) F.env) σ Q := by
  intro s S
  rw [exec_Assign_Name_used _ _ _ _ hsw]
  refine wpAny_bind (wpAny_standAt (wpAny_bind ?_))
  show wpAny _ F.A (do let _ ← comprehension (.ListComp elt [⟨target, iter, ifs, 0⟩] scope pos) scope F.env _ (newList []) false (eval iter F.env) (some (assign (.Name x p') F.env))) _ _ s
  obtain ⟨hkind, hnames⟩ := compOk_kind hok
  refine wpAny_bind (wpAny_mono (wpAny_comprehension_free (use := some (assign (.Name x p') F.env)) (Q := fun _ s' => Post F RepF s.heap Q .next s') rfl hs hclos hkind hnames (h.then S ?_)) (fun _ s' hq => wpAny_pure (wpAny_pure hq)) fun _ _ e => e)
  rintro v s₁ xv σ₁ rv S₁ m₁ ⟨Ro, σ₂, st, body, q⟩
  refine comp_run hok S₁ rv st body fun D C ys extra oC m s' hJ hD eC hn Z m' => ?_
  show wpAny _ F.A (assign (.Name x p') F.env (.ref D)) _ _ _
  refine wpAny_assign_Name (w_bind Z hx (.ref D) fun s'' Z'' m'' => ?_)
  have eC' : s''.heap.get? C = some oC := Z''.rep (C, .obj oC) (.head _)
  have hn'' : s''.heap.Ns C m := by
    obtain ⟨o, es, ep, e, r⟩ := hn
    rw [eC] at e; cases e
    exact ⟨_, es, ep, eC', r⟩
  refine ⟨m, hn'', fun h' hs' => ?_⟩
  obtain ⟨Z', mz⟩ := Z''.drop (ns_nseq hn'' eC') hs'
  exact ⟨.next, _, .next, Z', m₁.trans (m'.trans (m''.trans mz)), q D C ys extra hJ hD⟩
theorem W.permQ {α β : Type} {R : Heap → β → α → Prop} {t : Sem α} {Q : β → Sig → Prop} (h : W F E R t σ fun x σ' => ∃ l', σ'.led.Perm l' ∧ Q x ⟨σ'.vals, l'⟩) : W F E R t σ Q :=
  fun s S => wpAny_mono (h s S) (fun _ _ ⟨x, σ', r, S', m, l', k, q⟩ => ⟨x, _, r, S'.perm k, m, q⟩) fun _ _ e => e
theorem wol_nd {f : List Value → Sem Value} {xs : List AV} {Q : AV → Sig → Prop} (h : (σ.led.map (·.1)).Nodup → WOL F E Rep f xs σ Q) : WOL F E Rep f xs σ Q := fun s vs S r => h (List.nodup_cons.mp S.nd).2 s vs S r
theorem St.ledT {s : Shared} (S : St F σ s) {a : Addr} {o : AO} (h : (a, o) ∈ σ.led) : F.hT.get? a = none := by
  rcases S.new a (List.mem_map_of_mem h) with z | z
  · cases q : F.hT.get? a with
    | none => rfl
    | some x => have := S.ok.ht _ _ q; rw [z] at this; cases this
  · exact S.ok.hm a z
end
theorem pick_led {mods : List Addr} {led' pre rest : List (Addr × AO)} (hm : ∀ a ∈ mods, a ∈ pre.map (·.1)) (nd : ((pre ++ rest).map (·.1)).Nodup) (nd' : (led'.map (·.1)).Nodup) (nw : ∀ a ∈ led'.map (·.1), a ∈ mods ∨ a ∉ (pre ++ rest).map (·.1)) :
    (∀ p ∈ led' ++ rest, p ∈ led' ∨ (p ∈ pre ++ rest ∧ p.1 ∉ mods)) ∧ ((led' ++ rest).map (·.1)).Nodup := by
  rw [List.map_append] at nd nw
  have nd := List.nodup_append.mp nd
  refine ⟨fun p hp => ?_, ?_⟩
  · rcases List.mem_append.mp hp with h | h
    · exact .inl h
    · exact .inr ⟨List.mem_append.mpr (.inr h), fun q => nd.2.2 _ (hm _ q) _ (List.mem_map_of_mem h) rfl⟩
  · rw [List.map_append]
    refine List.nodup_append.mpr ⟨nd', nd.2.1, fun x hx y hy e => ?_⟩
    subst e
    rcases nw x hx with z | z
    · exact nd.2.2 _ (hm _ z) _ hy rfl
    · exact z (List.mem_append.mpr (.inr hy))
theorem eqv_two (a b : List Int) : PyData.eqv (.list [pInts a, pInts b]) (.list [pInts a, pInts b]) = true := by
  have h1 : PyData.eqv (pInts a) (pInts a) = true := by rw [eqv_ints]; simp
  have h2 : PyData.eqv (pInts b) (pInts b) = true := by rw [eqv_ints]; simp
  simp only [PyData.eqv] at h1 h2
  simp only [PyData.eqv, PyData.eqvAll]
  simp [h1, h2]
theorem eqv_twoT (a b : List Int) : PyData.eqv (.tuple [pInts a, pInts b]) (.tuple [pInts a, pInts b]) = true := by
  have h1 : PyData.eqv (pInts a) (pInts a) = true := by rw [eqv_ints]; simp
  have h2 : PyData.eqv (pInts b) (pInts b) = true := by rw [eqv_ints]; simp
  simp only [PyData.eqv] at h1 h2
  simp only [PyData.eqv, PyData.eqvAll]
  simp [h1, h2]
theorem fine_two (a b : List Int) : Fine 2 (.list [pInts a, pInts b]) := .list fun d hd => by
  rcases List.mem_cons.mp hd with rfl | hd
  · exact fine_ints _
  · rw [List.mem_singleton.mp hd]; exact fine_ints _
theorem fine_twoT (a b : List Int) : Fine 2 (.tuple [pInts a, pInts b]) := .tuple fun d hd => by
  rcases List.mem_cons.mp hd with rfl | hd
  · exact fine_ints _
  · rw [List.mem_singleton.mp hd]; exact fine_ints _
theorem mem_two {c0 c1 : Addr} {l r : List Addr} (h : l = c1 :: c0 :: r) : ∀ q ∈ [c0, c1], q ∈ l := by
  intro q hq
  rw [h]
  rcases List.mem_cons.mp hq with e | hq
  · rw [e]; exact .tail _ (.head _)
  · rw [List.mem_singleton.mp hq]; exact .head _
theorem dif_len (a b : List Int) : (dif a b).length ≤ a.length := List.length_filter_le _ _
theorem sz2 : 2 ≤ sizeLine := by decide
noncomputable def J2 (us ws : List Int) (fi se C : Addr) (j : Nat) (ys : List AV) (extra : List (Addr × AO)) : Prop :=
  (j = 0 ∧ ys = [] ∧ extra = [(C + 1, .cell none)]) ∨ (j = 1 ∧ ∃ d, ys = [.ref d] ∧ extra = [(d, .list (zs (due16 us))), (C + 1, .cell (some (.ref fi)))]) ∨
  (j = 2 ∧ ∃ d e, ys = [.ref d, .ref e] ∧ extra = [(e, .list (zs (due16 ws))), (d, .list (zs (due16 us))), (C + 1, .cell (some (.ref se)))])
theorem J2.len {us ws : List Int} {fi se C : Addr} {j : Nat} {ys : List AV} {extra : List (Addr × AO)} (h : J2 us ws fi se C j ys extra) : ys.length ≤ sizeLine := by
  have hz := sizeLine_is
  rcases h with ⟨_, rfl, _⟩ | ⟨_, d, rfl, _⟩ | ⟨_, d, e, rfl, _⟩ <;> simp <;> walk_at "om"
theorem J2.step {us ws : List Int} {fi se C : Addr} {j : Nat} {y : AV} {ys : List AV} {extra : List (Addr × AO)} (h : J2 us ws fi se C j ys extra) (hy : [AV.ref fi, .ref se][j]? = some y) :
    ∃ nm xs pre o, y = .ref nm ∧ (nm, xs) ∈ [(fi, us), (se, ws)] ∧ extra = pre ++ [(C + 1, .cell o)] ∧ ∀ d, J2 us ws fi se C (j + 1) (ys ++ [.ref d]) ((d, .list (zs (due16 xs))) :: (pre ++ [(C + 1, .cell (some (.ref nm)))])) := by
  rcases h with ⟨rfl, rfl, rfl⟩ | ⟨rfl, d, rfl, rfl⟩ | ⟨rfl, d, e, rfl, rfl⟩
  · cases hy
    exact ⟨fi, us, [], _, rfl, .head _, rfl, fun d => .inr (.inl ⟨rfl, d, rfl, rfl⟩)⟩
  · cases hy
    exact ⟨se, ws, [_], _, rfl, .tail _ (.head _), rfl, fun e => .inr (.inr ⟨rfl, d, e, rfl, rfl⟩)⟩
  · cases hy
theorem Upd.last {a : Addr} {o o' : AO} : ∀ (pre : List (Addr × AO)), Upd a o o' (pre ++ [(a, o)]) (pre ++ [(a, o')])
  | [] => .head
  | _ :: r => .tail (Upd.last r)
noncomputable def dueTo (xs : List Int) (j : Nat) : List Int := ((List.range j).map fun (i : Nat) => (i : Int)).filter fun x => decide (x ∈ xs)
theorem dueTo_succ (xs : List Int) (j : Nat) : dueTo xs (j + 1) = if ((j : Nat) : Int) ∈ xs then dueTo xs j ++ [(j : Int)] else dueTo xs j := by
  unfold dueTo
  rw [List.range_succ, List.map_append, List.filter_append]
  by_cases h : ((j : Nat) : Int) ∈ xs <;> simp [h]
theorem dueTo_len (xs : List Int) (j : Nat) : (dueTo xs j).length ≤ j := by
  unfold dueTo
  exact Nat.le_trans (List.length_filter_le _ _) (by simp)
set_option maxHeartbeats 4000000 in
theorem law_c (M1 : ∀ xs, In16 xs → lawRow xs = due16 xs) (M3 : ∀ a b, Inc a → Inc b → a.length ≤ 16 → b.length ≤ 16 → outsTo a (insideOf 0 (lawRuns a b)) a.length = dif a b ∧ outsTo b (insideOf 1 (lawRuns a b)) b.length = dif b a) (M4 : ∀ a b, Inc a → Inc b → a.length ≤ 16 → b.length ≤ 16 → ∀ t ∈ lawRuns a b, small t)
    {w : World} {hT : Heap} {A : Around} {s : Shared} (C : Cx w hT A s 8) (hA : A.frames = some []) {sa : Addr} {ns : List Int} {vs : List Value} (r : RepL s.heap [.ref sa] vs) (hs : RepO w s.heap sa (.list (zs ns))) (hlen : ns.length ≤ 63) :
    codeAny (model pw w) A (.call (.ref 317) ⟨vs, []⟩) (Ret w s [] fun y led => y = .bool true) s := by
  obtain ⟨v1, rfl, r1⟩ := r.inv1
  refine enterP dLW_ok (k := 7) C (.cons r1 .nil) rfl [] [some (.ref sa), none, none, none, none, none, none, none] 7 (fun p hp => nomatch hp) (by simp) rfl fun L hL => ?_
  have hz := sizeLine_is
  refine ws_cons ?_
  (((with_reducible refine' ws_assign ?za71 ?_); (case za71 => exact rfl)); (with_reducible refine' we_sub ?_; refine' we_list ?_; refine' wa_cons ?_; refine' we_list ?_; refine' wa_cons ?_; refine' we_int ?_; refine' wa_cons ?_; refine' we_int ?_; refine' wa_cons ?_; refine' we_int ?_; refine' wa_cons ?_; refine' we_int ?_; refine' wa_cons ?_; refine' we_int ?_; refine' wa_cons ?_; refine' we_int ?_; refine' wa_nil ?_))
  refine ⟨by show 6 ≤ sizeLine; decide, fun b0 hb0 => ?_⟩
  ((with_reducible refine' wa_cons ?_; refine' we_list ?_; refine' wa_cons ?_; refine' we_int ?_; refine' wa_cons ?_; refine' we_int ?_; refine' wa_cons ?_; refine' we_int ?_; refine' wa_cons ?_; refine' we_int ?_; refine' wa_cons ?_; refine' we_int ?_; refine' wa_cons ?_; refine' we_int ?_; refine' wa_nil ?_))
  refine ⟨by show 6 ≤ sizeLine; decide, fun b1 hb1 => ?_⟩
  ((with_reducible refine' wa_cons ?_; refine' we_list ?_; refine' wa_nil ?_))
  refine ⟨by simp, fun b2 hb2 => ?_⟩
  (with_reducible refine' wa_nil ?_)
  refine ⟨sz3, fun bb hbb => ?_⟩
  ((with_reducible refine' we_bin ?_; refine' we_bin ?_; refine' we_call ?_); ((with_reducible refine' we_blt ?za72 ?zb72 ?_); (case za72 => exact rfl); (case zb72 => exact rfl)))
  refine ⟨_, rfl, by walk_at "callee", ?_⟩
  refine wa_cons ?_
  refine we_slice sa (zs ns) ((zs ns).take 6) ?_
  walk_at "n"
  refine ⟨rfl, ?_⟩
  ((with_reducible refine' wp_none ?_; refine' wp_some ?_; refine' we_int ?_))
  refine ⟨6, rfl, ?_⟩
  (with_reducible refine' wp_none ?_)
  refine ⟨.inr ⟨hs, by simp⟩, by simp; walk_at "om", by simp, picks_upto (zs ns) 6, fun sl hsl => ?_⟩
  (with_reducible refine' wa_nil ?_)
  rw [show (zs ns).take 6 = zs (ns.take 6) by simp]
  refine o_sum (by walk_at "has") fun sm => ?_
  ((with_reducible refine' we_int ?_; refine' o_div3 ?_; refine' we_int ?_; refine' o_mod (by decide) ?_))
  have hk0 : 0 ≤ (sm.fdiv 3).fmod 3 := Int.fmod_nonneg_of_pos _ (by decide)
  have hk1 : (sm.fdiv 3).fmod 3 < 3 := Int.fmod_lt_of_pos _ (by decide)
  obtain ⟨bs, bl, hbs, hb6, hget⟩ : ∃ bs bl, (bs, AO.list (zs bl)) ∈ [(b0, AO.list (zs [12, 3, 8, 17, 8, 22])), (b1, .list (zs [12, 3, 6, 16, 6, 22])), (b2, .list (zs []))] ∧ bl.length ≤ 6 ∧ [AV.ref b0, .ref b1, .ref b2][((sm.fdiv 3).fmod 3).toNat]? = some (.ref bs) := by
    rcases (by walk_at "om" : (sm.fdiv 3).fmod 3 = 0 ∨ (sm.fdiv 3).fmod 3 = 1 ∨ (sm.fdiv 3).fmod 3 = 2) with e | e | e
    · rw [e]; exact ⟨b0, _, .head _, by simp, rfl⟩
    · rw [e]; exact ⟨b1, _, .tail _ (.head _), by simp, rfl⟩
    · rw [e]; exact ⟨b2, _, .tail _ (.tail _ (.head _)), by simp, rfl⟩
  refine o_item (by walk_at "has") hk0 (by walk_at "om") hget ?_
  ((with_reducible refine' seq_next ?_; refine' ws_cons ?_; refine' ws_bind1 ?_; refine' we_call ?_); ((with_reducible refine' we_glob ?za73 ?zb73 ?_); (case za73 => exact rfl); (case zb73 => exact rfl)))
  refine ⟨_, rfl, by walk_at "callee", ?_⟩
  ((with_reducible refine' wa_cons ?_; refine' we_bin ?_); walk_at "n")
  refine we_slice sa (zs ns) ((zs ns).take 6) ?_
  walk_at "n"
  refine ⟨rfl, ?_⟩
  ((with_reducible refine' wp_none ?_; refine' wp_some ?_; refine' we_int ?_))
  refine ⟨6, rfl, ?_⟩
  (with_reducible refine' wp_none ?_)
  refine ⟨.inr ⟨hs, by simp⟩, by simp; walk_at "om", by simp, picks_upto (zs ns) 6, fun sl2 hsl2 => ?_⟩
  skip
  rw [show (zs ns).take 6 = zs (ns.take 6) by simp]
  have hbs' : ∀ {X Y Z : List (Addr × AO)} {p}, p ∈ [(b0, AO.list (zs [12, 3, 8, 17, 8, 22])), (b1, .list (zs [12, 3, 6, 16, 6, 22])), (b2, .list (zs []))] → p ∈ X ++ (b2, .list (zs [])) :: (b1, .list (zs [12, 3, 6, 16, 6, 22])) :: (b0, AO.list (zs [12, 3, 8, 17, 8, 22])) :: Y := by
    intro X Y Z p hp
    simp only [List.mem_cons, List.mem_append, List.not_mem_nil, or_false] at hp ⊢
    rcases hp with h | h | h
    · exact .inr (.inr (.inr (.inl h)))
    · exact .inr (.inr (.inl h))
    · exact .inr (.inl h)
  refine o_addlist (l := zs bl) (m := zs (ns.take 6)) (.inl (hbs' (Z := []) (X := [_, _, _]) hbs)) (by walk_at "has") (by simp; walk_at "om") fun ad had => ?_
  rw [show zs bl ++ zs (ns.take 6) = zs (bl ++ ns.take 6) by simp]
  generalize hxs : bl ++ ns.take 6 = xs
  have hxl : xs.length ≤ 12 := by rw [← hxs]; simp; walk_at "om"
  (with_reducible refine' wa_nil ?_)
  refine wol_call (mods := []) (by simp) (fun s' vs' S' r' => ll_c (S'.cxUp 1) r' (S'.has (by walk_at "has")) (by walk_at "om")) fun y led' hq nd nw => ?_
  obtain ⟨fi, se, rfl, rfl⟩ := hq
  refine ⟨[(se, .list (zs (thirds 0 xs))), (fi, .list (zs (thirds 1 xs)))], fun p hp => .inl hp, nd, ?_⟩
  have h1l := thirds_len 1 xs
  have h2l := thirds_len 0 xs
  have h1in := thirds_16 1 xs
  have h2in := thirds_16 0 xs
  generalize thirds 1 xs = us at h1l h1in
  generalize thirds 0 xs = ws at h2l h2in
  clear nw nd had hsl2 hsl hbb hb2 hb1 hb0 hbs hbs'
  refine ⟨_, binds_tuple (is := [2, 3]) (.cons rfl (.cons rfl .nil)) rfl, ?_⟩
  refine seq_next ?_
  refine W.pre (σ' := ⟨[some (.ref sa), none, some (.ref fi), some (.ref se), none, none, none, none], [(se, .list (zs ws)), (fi, .list (zs us))]⟩) ⟨List.Sublist.refl _, ?_⟩ ?_
  · intro i av h
    match i with
    | 0 | 1 | 2 | 3 | 4 | 5 | 6 | 7 => first | exact h | cases h
    | i + 8 => simp at h
  ((with_reducible refine' ws_cons ?_); ((with_reducible refine' ws_assign ?za74 ?_); (case za74 => exact rfl)); (with_reducible refine' we_tuple ?_; refine' wa_cons ?_; refine' we_call ?_); ((with_reducible refine' we_glob ?za75 ?zb75 ?_); (case za75 => exact rfl); (case zb75 => exact rfl)))
  refine ⟨_, rfl, by walk_at "callee", ?_⟩
  ((with_reducible refine' wa_cons ?_); walk_at "n"; (with_reducible refine' wa_nil ?_))
  refine wol_call_new (fun s' vs' S' r' => lr_c (S'.cxUp 4) r' (S'.has (by walk_at "has")) (by walk_at "om")) fun r0 hr0 => ?_
  ((with_reducible refine' wa_cons ?_; refine' we_call ?_); ((with_reducible refine' we_glob ?za76 ?zb76 ?_); (case za76 => exact rfl); (case zb76 => exact rfl)))
  refine ⟨_, rfl, by walk_at "callee", ?_⟩
  ((with_reducible refine' wa_cons ?_); walk_at "n"; (with_reducible refine' wa_nil ?_))
  refine wol_call_new (fun s' vs' S' r' => lr_c (S'.cxUp 4) r' (S'.has (by walk_at "has")) (by walk_at "om")) fun r1 hr1 => ?_
  (with_reducible refine' wa_nil ?_)
  rw [M1 _ h1in, M1 _ h2in]
  refine ⟨sz2, ?_⟩
  have hul := due_len us
  have hwl := due_len ws
  have hui := due_inc us
  have hwi := due_inc ws
  refine seq_next ?_
  refine ws_cons ?_
  refine W.pre (σ' := ⟨[some (.ref sa), none, some (.ref fi), some (.ref se), some (.tup (.type "tuple") [.ref r0, .ref r1]), none, none, none], [(r1, .list (zs (due16 ws))), (r0, .list (zs (due16 us))), (se, .list (zs ws)), (fi, .list (zs us))]⟩) ⟨List.Sublist.refl _, fun _ _ h => h⟩ ?_
  clear hr0 hr1
  refine ws_assign_compR [] [] [⟨#[114,97,110,103,101]⟩] [.ref fi, .ref se] 1 (J2 us ws fi se) rfl (by with_unfolding_all rfl) (by kernel_rfl) ?_
  ((with_reducible refine' we_list ?_; refine' wa_cons ?_); walk_at "n"; (with_reducible refine' wa_cons ?_); walk_at "n"; (with_reducible refine' wa_nil ?_))
  refine ⟨sz2, fun l2 hl2 => ?_⟩
  refine ⟨_, _, starts_list (.inl ⟨_, _, rfl⟩) (by walk_at "has"), ?_, ?_⟩
  · intro C h₀ wr g os facts
    have hl2' := facts l2 _ (.inl (.head _))
    have hfi := facts fi (.list (zs us)) (.inl (by walk_at "mem"))
    have hse := facts se (.list (zs ws)) (.inl (by walk_at "mem"))
    refine ⟨fun σ' s' S' _ => S'.has (.inr hl2'), .inl ⟨rfl, rfl, rfl⟩, fun j ys extra h => h.len, ?_⟩
    rintro j y ys extra its D hn hy hJ
    obtain ⟨I, o, rfl⟩ := one_it hn
    obtain ⟨nm, xs', pre, oc, rfl, hmem, rfl, next⟩ := hJ.step hy
    have hnm : RepO w h₀ nm (.list (zs xs')) ∧ nm ∉ wr := by
      rcases List.mem_cons.mp hmem with h | h
      · cases h; exact hfi
      · cases List.mem_singleton.mp h; exact hse
    refine ⟨_, binds_cell (c := C + 1) (by kernel_rfl) (.tail (.tail (Upd.last pre))) (by kernel_rfl), ?_⟩
    refine ⟨fun _ => ?_, fun h => by cases h⟩
    refine W.permQ ?_
    refine we_comp [(⟨#[110,117,109,98,101,114,115]⟩, C + 1)] [⟨#[110,117,109,98,101,114]⟩] [] (rangeL 0 16) 1 (fun _ => True) (fun _ j ys extra => extra = [] ∧ ys = zs (dueTo xs' j) ∧ j ≤ 16) (by with_unfolding_all rfl) (by kernel_rfl) ?_
    ((with_reducible refine' we_call ?_); ((with_reducible refine' we_blt ?za77 ?zb77 ?_); (case za77 => exact rfl); (case zb77 => exact rfl)))
    refine ⟨_, rfl, by walk_at "callee", ?_⟩
    ((with_reducible refine' wa_cons ?_; refine' we_int ?_; refine' wa_nil ?_))
    refine o_range1 fun r o' hr ho => ?_
    refine ⟨⟨[], (I, .obj o) :: (D, .list ys) :: (pre ++ [(C + 1, .cell (some (.ref nm)))])⟩, starts_range (.head _) ho ⟨List.Sublist.cons _ (List.Sublist.refl _), fun _ _ h => by simp at h⟩ (by walk_at "om") (by walk_at "om") (by walk_at "om") (by walk_at "om"), ?_, ?_⟩
    · intro C' h₁ wr' g' os' facts'
      have hc := facts' (C + 1) (.cell (some (.ref nm))) (.inl (.tail _ (.tail _ (List.mem_append.mpr (.inr (.head _))))))
      have hnm' := facts' nm _ (.inr hnm)
      refine ⟨fun _ _ _ _ => trivial, ⟨rfl, rfl, Nat.zero_le _⟩, ?_, ?_⟩
      · rintro j ys extra ⟨_, rfl, hj⟩
        have := dueTo_len xs' j
        simp; walk_at "om"
      · rintro i y ys' extra its D' hn' hy' ⟨rfl, rfl, hi⟩
        obtain ⟨I', o2, rfl⟩ := one_it hn'
        have hi2 : i < 16 := by have := (List.getElem?_eq_some_iff.mp hy').1; simpa using this
        obtain rfl : y = .int i := by simp [rangeL, hi2] at hy'; exact hy'.symm
        refine ⟨_, binds_name rfl, ?_⟩
        show WB _ _ _ _ _
        ((with_reducible refine' wb_cmp ?_); walk_at "n")
        refine we_cell (c := C + 1) (by kernel_rfl) (.inr hc) ?_ (.inl (by kernel_rfl))
        refine o_in (.inr hnm') ?_
        refine ⟨_, rfl, fun hb => ?_, fun hb => ?_⟩
        · walk_at "n"
          refine ⟨[], List.Sublist.refl _, fun _ _ h => absurd h nones_get, rfl, ?_, hi2⟩
          rw [dueTo_succ, if_pos (of_decide_eq_true hb)]; simp
        · refine ⟨[], List.Sublist.refl _, fun _ _ h => absurd h nones_get, rfl, ?_, hi2⟩
          rw [dueTo_succ, if_neg (of_decide_eq_false hb)]
    · rintro E' C' ys' extra' ⟨rfl, rfl, _⟩ hE
      have hd16 : dueTo xs' (rangeL 0 16).length = due16 xs' := rfl
      rw [hd16]
      refine ⟨_, (List.Perm.swap _ _ _).trans ((List.Perm.swap _ _ _).cons _), (E', .list (zs (due16 xs'))) :: (pre ++ [(C + 1, .cell (some (.ref nm)))]), List.Sublist.refl _, fun _ _ h => absurd h nones_get, next E'⟩
  · rintro D C ys extra hJ hD
    rcases hJ with ⟨h, _⟩ | ⟨h, _⟩ | ⟨_, d0, d1, rfl, rfl⟩
    · cases h
    · cases h
    refine seq_next ?_
    refine W.pre (σ' := ⟨[some (.ref sa), none, some (.ref fi), some (.ref se), some (.tup (.type "tuple") [.ref r0, .ref r1]), some (.ref D), none, none], [(D, .list [.ref d0, .ref d1]), (d1, .list (zs (due16 ws))), (d0, .list (zs (due16 us))), (r1, .list (zs (due16 ws))), (r0, .list (zs (due16 us)))]⟩) ⟨by walk_at "sub", fun _ _ h => h⟩ ?_
    generalize due16 us = a at hul hui
    generalize due16 ws = b at hwl hwi
    clear hD hl2 h1in h2in
    refine ws_cons ?_
    refine ws_if ?_
    ((with_reducible refine' wb_cmp ?_; refine' we_list ?_; refine' wa_cons ?_; refine' we_sub ?_); walk_at "n"; (with_reducible refine' we_int ?_))
    refine o_titem (k := 0) rfl ?_
    ((with_reducible refine' wa_cons ?_; refine' we_sub ?_); walk_at "n"; (with_reducible refine' we_int ?_))
    refine o_titem (k := 1) rfl ?_
    (with_reducible refine' wa_nil ?_)
    refine ⟨sz2, fun q1 hq1 => ?_⟩
    walk_at "n"
    refine o_neD (d := .list [pInts a, pInts b]) (e := .list [pInts a, pInts b]) (dat_list (by walk_at "has") (dats_cons (dat_ints (by walk_at "has")) (dats_cons (dat_ints (by walk_at "has")) dats_nil))) (dat_list (by walk_at "has") (dats_cons (dat_ints (by walk_at "has")) (dats_cons (dat_ints (by walk_at "has")) dats_nil))) (fine_two a b) (fine_two a b) ?_
    rw [eqv_two]
    refine ⟨_, rfl, (fun h => by cases h), fun _ => ?_⟩
    ((with_reducible refine' ws_nil ?_; refine' seq_next ?_; refine' ws_cons ?_); ((with_reducible refine' ws_assign ?za78 ?_); (case za78 => exact rfl)))
    refine W.pre (σ' := ⟨[some (.ref sa), none, some (.ref fi), some (.ref se), some (.tup (.type "tuple") [.ref r0, .ref r1]), some (.ref D), none, none], [(D, .list [.ref d0, .ref d1]), (d1, .list (zs b)), (d0, .list (zs a)), (r1, .list (zs b)), (r0, .list (zs a))]⟩) ⟨by walk_at "sub", fun _ _ h => h⟩ ?_
    clear hq1
    skip
    refine we_mcall (f := 203) rfl ?_
    ((with_reducible refine' we_call ?_); ((with_reducible refine' we_glob ?za79 ?zb79 ?_); (case za79 => exact rfl); (case zb79 => exact rfl)))
    refine ⟨_, rfl, by walk_at "callee", ?_⟩
    ((with_reducible refine' wa_cons ?_; refine' we_none ?_; refine' wa_cons ?_; refine' we_sub ?_); walk_at "n"; (with_reducible refine' we_int ?_))
    refine o_titem (k := 0) rfl ?_
    ((with_reducible refine' wa_cons ?_; refine' we_sub ?_); walk_at "n"; (with_reducible refine' we_int ?_))
    refine o_titem (k := 1) rfl ?_
    (with_reducible refine' wa_nil ?_)
    refine wol_nd fun snd => ?_
    refine wol_call (mods := []) (by simp) (fun s' vs' S' r' => sm_c (b := b) (S'.cxUp 5) r' (S'.has (by walk_at "has")) hwi.nodup (by walk_at "om")) fun y led' hq nd nw => ?_
    obtain ⟨x, dx, d, j, p, ads, rfl, hads, rfl⟩ := hq
    obtain ⟨hp1, hp2⟩ := pick_led (pre := []) (mods := []) (by simp) snd nd nw
    refine ⟨_, hp1, hp2, x, dx, _, rfl, (by walk_at "has"), (by walk_at "has"), rfl, ?_⟩
    (with_reducible refine' wa_nil ?_)
    clear hp1 hp2 nd nw snd
    refine wol_nd fun snd => ?_
    have hrest : ∀ {q}, q ∈ [(D, AO.list [.ref d0, .ref d1]), (d1, .list (zs b)), (d0, .list (zs a)), (r1, .list (zs b)), (r0, .list (zs a))] → q ∈ (x, AO.obj (instObj 242 dx)) :: ([(dx, .ns (smFields r0 r1 d j p)), (d, .dict (b2jOf b ads)), (j, .set0), (p, .set0)] ++ placeLed 0 ads) ++ [(D, AO.list [.ref d0, .ref d1]), (d1, .list (zs b)), (d0, .list (zs a)), (r1, .list (zs b)), (r0, .list (zs a))] := fun h => List.mem_append.mpr (.inr h)
    have hads' : ∀ m, m < b.length → (ads.getD m 0, AO.list [.int m]) ∈ (x, AO.obj (instObj 242 dx)) :: ([(dx, .ns (smFields r0 r1 d j p)), (d, .dict (b2jOf b ads)), (j, .set0), (p, .set0)] ++ placeLed 0 ads) ++ [(D, AO.list [.ref d0, .ref d1]), (d1, .list (zs b)), (d0, .list (zs a)), (r1, .list (zs b)), (r0, .list (zs a))] := fun m hm => by
      have := placeLed_mem ads 0 m (by walk_at "om")
      rw [Nat.zero_add] at this
      exact List.mem_append.mpr (.inl (.tail _ (List.mem_append.mpr (.inr this))))
    have hddx : d ≠ dx := by
      rintro rfl
      have := (List.nodup_cons.mp (List.nodup_cons.mp snd).2).1
      exact this (.head _)
    refine wol_call (mods := [dx]) (fun q hq => by rw [List.mem_singleton.mp hq]; exact .tail _ (.head _)) (fun s' vs' S' r' => gb_c (S'.cxUp 5) (x := x) (dx := dx) (aa := r0) (ba := r1) (d := d) (j := j) (p := p) (ads := ads) (a := a) (b := b) ⟨S'.has (by walk_at "has"), S'.has (by walk_at "has"), S'.has (.inl (hrest (by walk_at "mem"))), S'.has (.inl (hrest (by walk_at "mem"))), S'.has (by walk_at "has"), S'.has (by walk_at "has"), hads, fun m hm => S'.has (.inl (hads' m hm))⟩ (S'.ledT (.tail _ (.head _))) hddx hui hwi (by walk_at "om") (by walk_at "om") r') fun y led' hq nd nw => ?_
    obtain ⟨B, rfl, rfl⟩ := hq
    obtain ⟨hp1, hp2⟩ := pick_led (mods := [dx]) (fun q hq => by rw [List.mem_singleton.mp hq]; exact .tail _ (.head _)) snd nd nw
    refine ⟨_, hp1, hp2, ?_⟩
    refine seq_next ?_
    refine ws_cons ?_
    clear hp1 hp2 nd nw snd hrest hads' hddx
    have hsm := M4 a b hui hwi hul hwl
    have hlr : (lawRuns a b).length ≤ 17 := by
      have := runsTo_len a b a.length
      simp [lawRuns]; walk_at "om"
    obtain ⟨m3, m3'⟩ := M3 a b hui hwi hul hwl
    refine W.pre (σ' := ⟨[some (.ref sa), none, some (.ref fi), some (.ref se), some (.tup (.type "tuple") [.ref r0, .ref r1]), some (.ref D), some (.ref B), none], [(B, .list (ms (lawRuns a b))), (D, .list [.ref d0, .ref d1]), (d1, .list (zs b)), (d0, .list (zs a)), (r1, .list (zs b)), (r0, .list (zs a))]⟩) ⟨List.Sublist.refl _, fun _ _ h => h⟩ ?_
    generalize hR : lawRuns a b = R at hsm hlr m3 m3'
    refine ws_if ?_
    (with_reducible refine' wb_cmp ?_)
    refine we_comp [] [⟨#[98,108,111,99,107]⟩] [] (ms R) 1 (fun h => RepO w h B (.list (ms R))) (fun _ j ys extra => extra = [] ∧ ys = ts (R.take j) ∧ j ≤ R.length) (by with_unfolding_all rfl) (by kernel_rfl) ?_
    walk_at "n"
    refine ⟨_, starts_list (.inl ⟨_, _, rfl⟩) (by walk_at "has"), ?_, ?_⟩
    · intro C h₀ wr g os facts
      have hB := facts B _ (.inl (.head _))
      refine ⟨fun σ' s' S' _ => S'.has (.inr hB), ⟨rfl, rfl, Nat.zero_le _⟩, ?_, ?_⟩
      · rintro j ys extra ⟨_, rfl, hj⟩
        simp; walk_at "om"
      · rintro j y ys extra its D hn hy ⟨rfl, rfl, hj⟩
        obtain ⟨I, o, rfl⟩ := one_it hn
        obtain ⟨t, ht, rfl⟩ := ms_get hy
        have hj : j < R.length := (List.getElem?_eq_some_iff.mp ht).1
        refine ⟨_, binds_name rfl, ?_⟩
        refine ⟨fun _ => ?_, fun h => by cases h⟩
        ((with_reducible refine' we_tuple ?_; refine' wa_cons ?_; refine' we_attr ?_); walk_at "n")
        refine o_mattr (k := 0) (p := (⟨#[97]⟩, 124, 123, 0, 346)) (.head _) rfl rfl (by decide) rfl ?_
        ((with_reducible refine' wa_cons ?_; refine' we_attr ?_); walk_at "n")
        refine o_mattr (k := 1) (p := (⟨#[98]⟩, 127, 126, 1, 356)) (.tail _ (.head _)) rfl rfl (by decide) rfl ?_
        ((with_reducible refine' wa_cons ?_; refine' we_attr ?_); walk_at "n")
        refine o_mattr (k := 2) (p := (⟨#[115,105,122,101]⟩, 130, 129, 2, 366)) (.tail _ (.tail _ (.head _))) rfl rfl (by decide) rfl ?_
        (with_reducible refine' wa_nil ?_)
        refine ⟨sz3, ?_⟩
        refine ⟨[], List.Sublist.refl _, fun _ _ h => absurd h nones_get, rfl, ?_, hj⟩
        rw [take_snocT ht]
        simp [ts]
    rintro q2 C ys extra ⟨rfl, rfl, _⟩ hq2
    rw [List.length_map, List.take_length]
    ((with_reducible refine' we_call ?_); ((with_reducible refine' we_glob ?za80 ?zb80 ?_); (case za80 => exact rfl); (case zb80 => exact rfl)))
    refine ⟨_, rfl, by walk_at "callee", ?_⟩
    ((with_reducible refine' wa_cons ?_; refine' we_sub ?_); walk_at "n"; (with_reducible refine' we_int ?_))
    refine o_item (by walk_at "has") (by decide) (by decide) rfl ?_
    ((with_reducible refine' wa_cons ?_; refine' we_sub ?_); walk_at "n"; (with_reducible refine' we_int ?_))
    refine o_item (by walk_at "has") (by decide) (by decide) rfl ?_
    (with_reducible refine' wa_nil ?_)
    refine wol_call_new (fun s' vs' S' r' => runs_c (f := a) (g := b) (S'.cxUp 1) r' (S'.has (by walk_at "has")) (S'.has (by walk_at "has")) (by walk_at "om") (by walk_at "om")) fun q3 hq3 => ?_
    rw [hR]
    refine o_neD (dat_tris (by walk_at "has")) (dat_tris (by walk_at "has")) (fine_tris R) (fine_tris R) ?_
    rw [eqv_tris, decide_eq_true rfl]
    refine ⟨_, rfl, (fun h => by cases h), fun _ => ?_⟩
    refine ws_nil ?_
    refine seq_next ?_
    refine ws_cons ?_
    refine W.pre (σ' := ⟨[some (.ref sa), none, some (.ref fi), some (.ref se), some (.tup (.type "tuple") [.ref r0, .ref r1]), some (.ref D), some (.ref B), none], [(B, .list (ms R)), (D, .list [.ref d0, .ref d1]), (d1, .list (zs b)), (d0, .list (zs a)), (r1, .list (zs b)), (r0, .list (zs a))]⟩) ⟨by walk_at "sub", fun _ _ h => h⟩ ?_
    clear hq2 hq3
    (((with_reducible refine' ws_assign ?za81 ?_); (case za81 => exact rfl)); (with_reducible refine' we_tuple ?_; refine' wa_cons ?_; refine' we_call ?_); ((with_reducible refine' we_glob ?za82 ?zb82 ?_); (case za82 => exact rfl); (case zb82 => exact rfl)))
    refine ⟨_, rfl, by walk_at "callee", ?_⟩
    ((with_reducible refine' wa_cons ?_; refine' we_sub ?_); walk_at "n"; (with_reducible refine' we_int ?_))
    refine o_titem (k := 0) rfl ?_
    ((with_reducible refine' wa_cons ?_); walk_at "n"; (with_reducible refine' wa_cons ?_; refine' we_int ?_; refine' wa_nil ?_))
    refine wol_call_new (fun s' vs' S' r' => lo_c (side := 0) (row := a) (bs := R) (S'.cxUp 1) r' (S'.has (by walk_at "has")) (S'.has (by walk_at "has")) (by decide) hsm (by walk_at "om") (by walk_at "om")) fun a0 ha0 => ?_
    ((with_reducible refine' wa_cons ?_; refine' we_call ?_); ((with_reducible refine' we_glob ?za83 ?zb83 ?_); (case za83 => exact rfl); (case zb83 => exact rfl)))
    refine ⟨_, rfl, by walk_at "callee", ?_⟩
    ((with_reducible refine' wa_cons ?_; refine' we_sub ?_); walk_at "n"; (with_reducible refine' we_int ?_))
    refine o_titem (k := 1) rfl ?_
    ((with_reducible refine' wa_cons ?_); walk_at "n"; (with_reducible refine' wa_cons ?_; refine' we_int ?_; refine' wa_nil ?_))
    refine wol_call_new (fun s' vs' S' r' => lo_c (side := 1) (row := b) (bs := R) (S'.cxUp 1) r' (S'.has (by walk_at "has")) (S'.has (by walk_at "has")) (by decide) hsm (by walk_at "om") (by walk_at "om")) fun a1 ha1 => ?_
    (with_reducible refine' wa_nil ?_)
    refine ⟨sz2, ?_⟩
    rw [m3, m3']
    refine seq_next ?_
    refine ws_cons ?_
    refine W.pre (σ' := ⟨[some (.ref sa), none, some (.ref fi), some (.ref se), some (.tup (.type "tuple") [.ref r0, .ref r1]), some (.ref D), some (.ref B), some (.tup (.type "tuple") [.ref a0, .ref a1])], [(a1, .list (zs (dif b a))), (a0, .list (zs (dif a b))), (r1, .list (zs b)), (r0, .list (zs a))]⟩) ⟨by walk_at "sub", fun _ _ h => h⟩ ?_
    clear ha0 ha1
    refine ws_if ?_
    ((with_reducible refine' wb_or ?_; refine' wb_cmp ?_; refine' we_call ?_); ((with_reducible refine' we_glob ?za84 ?zb84 ?_); (case za84 => exact rfl); (case zb84 => exact rfl)))
    refine ⟨_, rfl, by walk_at "callee", ?_⟩
    ((with_reducible refine' wa_cons ?_; refine' we_sub ?_); walk_at "n"; (with_reducible refine' we_int ?_))
    refine o_titem (k := 0) rfl ?_
    ((with_reducible refine' wa_cons ?_; refine' we_sub ?_); walk_at "n"; (with_reducible refine' we_int ?_))
    refine o_titem (k := 1) rfl ?_
    (with_reducible refine' wa_nil ?_)
    have hfr : (dLW.frame w hT s.heap (List.map (fun x => x.fst) ([] : List (Addr × AO))) L A s.gens s.os 7).A.frames = some [(dLW.frame w hT s.heap (List.map (fun x => x.fst) ([] : List (Addr × AO))) L A s.gens s.os 7).env] := by
      show (A.frames.map _) = _
      rw [hA]; rfl
    refine wol_callE (mods := []) (by simp) rfl (fun s' vs' S' r' => sl_c (a := a) (b := b) (S'.cxUp 1) (S'.arnd hfr rfl) r' (S'.has (by walk_at "has")) (S'.has (by walk_at "has")) hui hwi (by walk_at "om") (by walk_at "om")) fun y led' hq nd nw snd => ?_
    obtain ⟨m, u, rfl, rfl⟩ := hq
    obtain ⟨hp1, hp2⟩ := pick_led (pre := []) (mods := []) (by simp) snd nd nw
    refine ⟨_, hp1, hp2, ?_⟩
    clear hp1 hp2 nd nw snd
    walk_at "n"
    refine o_neD (d := .tuple [pInts (dif a b), pInts (dif b a)]) (e := .tuple [pInts (dif a b), pInts (dif b a)]) (dat_tup (dats_cons (dat_ints (by walk_at "has")) (dats_cons (dat_ints (by walk_at "has")) dats_nil))) (dat_tup (dats_cons (dat_ints (by walk_at "has")) (dats_cons (dat_ints (by walk_at "has")) dats_nil))) (fine_twoT _ _) (fine_twoT _ _) ?_
    rw [eqv_twoT]
    refine ⟨_, rfl, fun _ => ?_, (fun h => by cases h)⟩
    refine W.pre (σ' := ⟨[some (.ref sa), none, some (.ref fi), some (.ref se), some (.tup (.type "tuple") [.ref r0, .ref r1]), some (.ref D), some (.ref B), some (.tup (.type "tuple") [.ref a0, .ref a1])], [(a1, .list (zs (dif b a))), (a0, .list (zs (dif a b))), (r1, .list (zs b)), (r0, .list (zs a))]⟩) ⟨by walk_at "sub", fun _ _ h => h⟩ ?_
    ((with_reducible refine' wb_or ?_; refine' wb_cmp ?_; refine' we_call ?_); ((with_reducible refine' we_glob ?za85 ?zb85 ?_); (case za85 => exact rfl); (case zb85 => exact rfl)))
    refine ⟨_, rfl, by walk_at "callee", ?_⟩
    ((with_reducible refine' wa_cons ?_; refine' we_sub ?_); walk_at "n"; (with_reducible refine' we_int ?_))
    refine o_titem (k := 1) rfl ?_
    ((with_reducible refine' wa_cons ?_; refine' we_sub ?_); walk_at "n"; (with_reducible refine' we_int ?_))
    refine o_titem (k := 0) rfl ?_
    (with_reducible refine' wa_nil ?_)
    refine wol_callE (mods := []) (by simp) rfl (fun s' vs' S' r' => sl_c (a := b) (b := a) (S'.cxUp 1) (S'.arnd hfr rfl) r' (S'.has (by walk_at "has")) (S'.has (by walk_at "has")) hwi hui (by walk_at "om") (by walk_at "om")) fun y led' hq nd nw snd => ?_
    obtain ⟨m', u', rfl, rfl⟩ := hq
    obtain ⟨hp1, hp2⟩ := pick_led (pre := []) (mods := []) (by simp) snd nd nw
    refine ⟨_, hp1, hp2, ?_⟩
    clear hp1 hp2 nd nw snd
    refine we_trev2 (x := .ref a0) (y := .ref a1) ?_
    walk_at "n"
    refine ⟨rfl, ?_⟩
    ((with_reducible refine' wp_some ?_; refine' we_neg ?_; refine' we_int ?_))
    refine ⟨1, rfl, -1, rfl, rfl, ?_⟩
    refine o_neD (d := .tuple [pInts (dif b a), pInts (dif a b)]) (e := .tuple [pInts (dif b a), pInts (dif a b)]) (dat_tup (dats_cons (dat_ints (by walk_at "has")) (dats_cons (dat_ints (by walk_at "has")) dats_nil))) (dat_tup (dats_cons (dat_ints (by walk_at "has")) (dats_cons (dat_ints (by walk_at "has")) dats_nil))) (fine_twoT _ _) (fine_twoT _ _) ?_
    rw [eqv_twoT]
    refine ⟨_, rfl, fun _ => ?_, (fun h => by cases h)⟩
    refine wb_or_nil ?_
    refine ⟨(fun h => by cases h), fun _ => ?_⟩
    refine ws_nil ?_
    refine seq_next ?_
    refine ws_cons ?_
    refine W.pre (σ' := ⟨[some (.ref sa), none, some (.ref fi), some (.ref se), some (.tup (.type "tuple") [.ref r0, .ref r1]), some (.ref D), some (.ref B), some (.tup (.type "tuple") [.ref a0, .ref a1])], [(a1, .list (zs (dif b a))), (a0, .list (zs (dif a b))), (r1, .list (zs b)), (r0, .list (zs a))]⟩) ⟨by walk_at "sub", fun _ _ h => h⟩ ?_
    ((with_reducible refine' ws_return ?_; refine' we_cmp ?_; refine' we_call ?_); ((with_reducible refine' we_glob ?za86 ?zb86 ?_); (case za86 => exact rfl); (case zb86 => exact rfl)))
    refine ⟨_, rfl, by walk_at "callee", ?_⟩
    ((with_reducible refine' wa_cons ?_; refine' we_call ?_); ((with_reducible refine' we_blt ?za87 ?zb87 ?_); (case za87 => exact rfl); (case zb87 => exact rfl)))
    refine ⟨_, rfl, by walk_at "callee", ?_⟩
    ((with_reducible refine' wa_cons ?_; refine' we_sub ?_); walk_at "n"; (with_reducible refine' we_int ?_))
    refine o_titem (k := 0) rfl ?_
    (with_reducible refine' wa_nil ?_)
    refine o_listcopy (l := zs a) (by walk_at "has") (by simp; walk_at "om") fun c0 hc0 => ?_
    ((with_reducible refine' wa_cons ?_; refine' we_call ?_); ((with_reducible refine' we_blt ?za88 ?zb88 ?_); (case za88 => exact rfl); (case zb88 => exact rfl)))
    refine ⟨_, rfl, by walk_at "callee", ?_⟩
    ((with_reducible refine' wa_cons ?_; refine' we_sub ?_); walk_at "n"; (with_reducible refine' we_int ?_))
    refine o_titem (k := 1) rfl ?_
    (with_reducible refine' wa_nil ?_)
    refine o_listcopy (l := zs b) (by walk_at "has") (by simp; walk_at "om") fun c1 hc1 => ?_
    (with_reducible refine' wa_nil ?_)
    have hcc : c0 ≠ c1 := fun q => hc1 (by rw [← q]; exact .head _)
    refine wol_callE (mods := [c0, c1]) (mem_two rfl) rfl (fun s' vs' S' r' => ul_c (a := a) (b := b) (S'.cxUp 1) (S'.arnd hfr rfl) r' (S'.has (by walk_at "has")) (S'.has (by walk_at "has")) hcc (S'.ledT (.tail _ (.head _))) (S'.ledT (.head _)) hui.nodup hwi.nodup (by walk_at "om") (by walk_at "om")) fun y led' hq nd nw snd => ?_
    obtain ⟨m'', rfl, rfl⟩ := hq
    obtain ⟨hp1, hp2⟩ := pick_led (pre := [(c1, .list (zs b)), (c0, .list (zs a))]) (mods := [c0, c1]) (mem_two rfl) snd nd nw
    refine ⟨_, hp1, hp2, ?_⟩
    clear hp1 hp2 nd nw snd
    ((with_reducible refine' we_tuple ?_; refine' wa_cons ?_))
    refine we_slice a0 (zs (dif a b)) (zs (dif a b)).reverse ?_
    ((with_reducible refine' we_sub ?_); walk_at "n"; (with_reducible refine' we_int ?_))
    refine o_titem (k := 0) rfl ?_
    refine ⟨rfl, ?_⟩
    ((with_reducible refine' wp_none ?_; refine' wp_none ?_; refine' wp_some ?_; refine' we_neg ?_; refine' we_int ?_))
    refine ⟨1, rfl, -1, rfl, ?_⟩
    refine ⟨by walk_at "has", by have := dif_len a b; simp; walk_at "om", by simp, picks_rev _, fun rv hrv => ?_⟩
    rw [show (zs (dif a b)).reverse = zs (dif a b).reverse by simp]
    ((with_reducible refine' wa_cons ?_; refine' we_sub ?_); walk_at "n"; (with_reducible refine' we_int ?_))
    refine o_titem (k := 1) rfl ?_
    (with_reducible refine' wa_nil ?_)
    refine ⟨sz2, ?_⟩
    refine o_eqD (d := .tuple [pInts (dif a b).reverse, pInts (dif b a)]) (e := .tuple [pInts (dif a b).reverse, pInts (dif b a)]) (dat_tup (dats_cons (dat_ints (by walk_at "has")) (dats_cons (dat_ints (by walk_at "has")) dats_nil))) (dat_tup (dats_cons (dat_ints (by walk_at "has")) (dats_cons (dat_ints (by walk_at "has")) dats_nil))) (fine_twoT _ _) (fine_twoT _ _) ?_
    rw [eqv_twoT]
    (with_reducible refine' seq_ret ?_)
    exact rfl
end
section
open PySem PySem.W PyProof.Rows PySem.Calls
set_option Elab.async false
set_option linter.unusedVariables false
/-! ## the heap: plain mathematics -/
theorem gset {l : List Int} {p : Nat} (hp : p < l.length) (v : Int) (i : Nat) : (l.set p v).getD i 0 = if i = p then v else l.getD i 0 := by
  by_cases h : i = p
  · subst h; simp [List.getD, hp]
  · rw [if_neg h]; simp [List.getD, Ne.symm h]
theorem mem_gd {l : List Int} {y : Int} : y ∈ l ↔ ∃ i, i < l.length ∧ l.getD i 0 = y := by
  rw [List.mem_iff_getElem]
  constructor
  · rintro ⟨i, h, e⟩; exact ⟨i, h, by simp [List.getD, h, e]⟩
  · rintro ⟨i, h, e⟩; exact ⟨i, h, by simpa [List.getD, h] using e⟩
theorem sw_mem {l : List Int} {p c : Nat} (hp : p < l.length) (hc : c < l.length) (hpc : p ≠ c) (x y : Int) : y ∈ (l.set p (l.getD c 0)).set c x ↔ y ∈ l.set p x := by
  have hc' : c < (l.set p (l.getD c 0)).length := by simpa using hc
  constructor
  · intro h
    obtain ⟨i, hi, e⟩ := mem_gd.mp h
    simp only [List.length_set] at hi
    rw [gset hc', gset hp] at e
    by_cases h1 : i = c
    · rw [if_pos h1] at e
      exact mem_gd.mpr ⟨p, by simpa using hp, by rw [gset hp, if_pos rfl]; exact e⟩
    · rw [if_neg h1] at e
      by_cases h2 : i = p
      · rw [if_pos h2] at e
        exact mem_gd.mpr ⟨c, by simpa using hc, by rw [gset hp, if_neg (Ne.symm hpc)]; exact e⟩
      · rw [if_neg h2] at e
        exact mem_gd.mpr ⟨i, by simpa using hi, by rw [gset hp, if_neg h2]; exact e⟩
  · intro h
    obtain ⟨i, hi, e⟩ := mem_gd.mp h
    simp only [List.length_set] at hi
    rw [gset hp] at e
    by_cases h1 : i = p
    · rw [if_pos h1] at e
      exact mem_gd.mpr ⟨c, by simpa using hc, by rw [gset hc', if_pos rfl]; exact e⟩
    · rw [if_neg h1] at e
      by_cases h2 : i = c
      · exact mem_gd.mpr ⟨p, by simpa using hp, by rw [gset hc', if_neg hpc, gset hp, if_pos rfl, ← h2]; exact e⟩
      · exact mem_gd.mpr ⟨i, by simpa using hi, by rw [gset hc', if_neg h2, gset hp, if_neg h1]; exact e⟩
theorem sd_mem (l : List Int) (x : Int) (p : Nat) (hp : p < l.length) (y : Int) : y ∈ sd l x p ↔ y ∈ l.set p x := by
  unfold sd
  split
  · rename_i h; subst h; exact Iff.rfl
  · split
    · rw [sd_mem _ x ((p - 1) / 2) (by simp; walk_at "om") y]
      exact sw_mem hp (by walk_at "om") (by walk_at "om") x y
    · exact Iff.rfl
termination_by p
decreasing_by walk_at "om"
noncomputable def Hp (l : List Int) : Prop := ∀ i, 0 < i → i < l.length → l.getD ((i - 1) / 2) 0 ≤ l.getD i 0
/-- a heap but for the place p -/
noncomputable def Hq (l : List Int) (p : Nat) : Prop := (∀ i, 0 < i → i < l.length → i ≠ p → (i - 1) / 2 ≠ p → l.getD ((i - 1) / 2) 0 ≤ l.getD i 0) ∧ (0 < p → ∀ c, 0 < c → c < l.length → (c - 1) / 2 = p → l.getD ((p - 1) / 2) 0 ≤ l.getD c 0)
theorem sd_heap (l : List Int) (x : Int) (p : Nat) (hp : p < l.length) (h : Hq l p) (hx : ∀ c, 0 < c → c < l.length → (c - 1) / 2 = p → x ≤ l.getD c 0) : Hp (sd l x p) := by
  obtain ⟨h1, h3⟩ := h
  unfold sd
  have fin : (∀ q, 0 < p → q = (p - 1) / 2 → l.getD q 0 ≤ x) → Hp (l.set p x) := by
    intro hq i hi hl
    simp only [List.length_set] at hl
    rw [gset hp, gset hp]
    by_cases e : i = p
    · subst e
      rw [if_pos rfl, if_neg (by walk_at "om")]
      exact hq _ hi rfl
    · rw [if_neg e]
      by_cases e' : (i - 1) / 2 = p
      · rw [if_pos e']; exact hx i hi hl e'
      · rw [if_neg e']; exact h1 i hi hl e e'
  split
  · rename_i e; subst e
    exact fin fun q h => absurd h (Nat.lt_irrefl _)
  · rename_i e
    split
    · rename_i hlt
      refine sd_heap _ x ((p - 1) / 2) (by simp; walk_at "om") ⟨fun i hi hl n1 n2 => ?_, fun hpp c hc hl ec => ?_⟩ fun c hc hl ec => ?_
      · simp only [List.length_set] at hl
        rw [gset hp, gset hp]
        by_cases e1 : i = p
        · exact absurd (by rw [e1]) n2
        · rw [if_neg e1]
          by_cases e2 : (i - 1) / 2 = p
          · rw [if_pos e2]; exact h3 (by walk_at "om") i hi hl e2
          · rw [if_neg e2]; exact h1 i hi hl e1 e2
      · simp only [List.length_set] at hl
        rw [gset hp, gset hp, if_neg (by walk_at "om")]
        have up : l.getD (((p - 1) / 2 - 1) / 2) 0 ≤ l.getD ((p - 1) / 2) 0 := h1 _ hpp (by walk_at "om") (by walk_at "om") (by walk_at "om")
        by_cases e1 : c = p
        · rw [if_pos e1]; exact up
        · rw [if_neg e1]
          have := h1 c hc hl e1 (by walk_at "om")
          rw [ec] at this
          walk_at "om"
      · simp only [List.length_set] at hl
        rw [gset hp]
        by_cases e1 : c = p
        · rw [if_pos e1]; walk_at "om"
        · rw [if_neg e1]
          have := h1 c hc hl e1 (by walk_at "om")
          rw [ec] at this
          walk_at "om"
    · rename_i hge
      exact fin fun q _ e => by rw [e]; walk_at "om"
termination_by p
decreasing_by walk_at "om"
theorem hpush_mem (l : List Int) (x y : Int) : y ∈ hpush l x ↔ y ∈ l ∨ y = x := by
  unfold hpush
  rw [sd_mem _ _ _ (by simp)]
  simp
theorem hpush_heap (l : List Int) (x : Int) (h : Hp l) : Hp (hpush l x) := by
  refine sd_heap _ _ _ (by simp) ⟨fun i hi hl n1 n2 => ?_, fun _ c hc hl e => ?_⟩ fun c hc hl e => ?_
  · simp only [List.length_append, List.length_singleton] at hl
    have := h i hi (by walk_at "om")
    have e1 : (l ++ [x]).getD i 0 = l.getD i 0 := by simp [List.getD, List.getElem?_append_left (show i < l.length by walk_at "om")]
    have e2 : (l ++ [x]).getD ((i - 1) / 2) 0 = l.getD ((i - 1) / 2) 0 := by simp [List.getD, List.getElem?_append_left (show (i - 1) / 2 < l.length by walk_at "om")]
    rw [e1, e2]; exact this
  · simp only [List.length_append, List.length_singleton] at hl; walk_at "om"
  · simp only [List.length_append, List.length_singleton] at hl; walk_at "om"
theorem suP_mem (l : List Int) (p : Nat) (hp : p < l.length) (x y : Int) : y ∈ (suP l p).1.set (suP l p).2 x ↔ y ∈ l.set p x := by
  unfold suP
  split
  · rename_i h
    have := suC_lt h
    rw [suP_mem (l.set p (l.getD (suC l p) 0)) (suC l p) (by simp; walk_at "om") x y]
    exact sw_mem hp this.1 (by walk_at "om") x y
  · exact Iff.rfl
termination_by l.length - p
decreasing_by simp only [List.length_set]; walk_at "om"
theorem suC_min {l : List Int} {p i : Nat} (hi : 0 < i) (hl : i < l.length) (e : (i - 1) / 2 = p) : l.getD (suC l p) 0 ≤ l.getD i 0 ∧ (suC l p - 1) / 2 = p := by
  have : i = 2 * p + 1 ∨ i = 2 * p + 2 := by walk_at "om"
  unfold suC
  split
  · rename_i h
    rcases this with rfl | rfl
    · exact ⟨by walk_at "om", by walk_at "om"⟩
    · exact ⟨by walk_at "om", by walk_at "om"⟩
  · rename_i h
    rcases this with rfl | rfl
    · exact ⟨by walk_at "om", by walk_at "om"⟩
    · have : l.getD (2 * p + 1) 0 < l.getD (2 * p + 2) 0 := by
        by_cases q : l.getD (2 * p + 1) 0 < l.getD (2 * p + 2) 0
        · exact q
        · exact absurd ⟨hl, q⟩ h
      exact ⟨by walk_at "om", by walk_at "om"⟩
theorem suC_par {l : List Int} {p : Nat} : (suC l p - 1) / 2 = p := by unfold suC; split <;> walk_at "om"
theorem suP_heap (l : List Int) (p : Nat) (hp : p < l.length) (h : Hq l p) : Hq (suP l p).1 (suP l p).2 ∧ ¬ 2 * (suP l p).2 + 1 < l.length := by
  unfold suP
  split
  · rename_i hc
    have hlt := suC_lt hc
    have ih := suP_heap (l.set p (l.getD (suC l p) 0)) (suC l p) (by simp; walk_at "om") ?_
    · simpa using ih
    · refine ⟨fun i hi hl n1 n2 => ?_, fun _ c hc' hl e => ?_⟩
      · simp only [List.length_set] at hl
        rw [gset hp, gset hp]
        by_cases e1 : i = p
        · subst e1
          rw [if_pos rfl, if_neg (by walk_at "om")]
          exact h.2 hi (suC l i) (by walk_at "om") hlt.1 suC_par
        · rw [if_neg e1]
          by_cases e2 : (i - 1) / 2 = p
          · rw [if_pos e2]; exact (suC_min hi hl e2).1
          · rw [if_neg e2]; exact h.1 i hi hl e1 e2
      · simp only [List.length_set] at hl
        rw [suC_par, gset hp, gset hp, if_pos rfl, if_neg (by walk_at "om")]
        have := h.1 c hc' hl (by walk_at "om") (by walk_at "om")
        rw [e] at this
        exact this
  · rename_i hc
    exact ⟨h, hc⟩
termination_by l.length - p
decreasing_by simp only [List.length_set]; walk_at "om"
theorem set_gd {l : List Int} (h : 0 < l.length) : l.set 0 (l.getD 0 0) = l := by
  cases l with
  | nil => simp at h
  | cons a r => rfl
theorem su_mem (l : List Int) (h : 0 < l.length) (y : Int) : y ∈ su l ↔ y ∈ l := by
  have hl := suP_len l 0 h
  unfold su
  show y ∈ sd ((suP l 0).1.set (suP l 0).2 (l.getD 0 0)) (l.getD 0 0) (suP l 0).2 ↔ _
  rw [sd_mem _ _ _ (by simp; walk_at "om"), List.set_set, suP_mem l 0 h, set_gd h]
theorem su_heap (l : List Int) (h : 0 < l.length) (hq : Hq l 0) : Hp (su l) := by
  have hl := suP_len l 0 h
  obtain ⟨k1, k2⟩ := suP_heap l 0 h hq
  have hs : (suP l 0).2 < (suP l 0).1.length := by walk_at "om"
  refine sd_heap _ _ _ (by simp; walk_at "om") ⟨fun i hi hl' n1 n2 => ?_, fun _ c hc hl' e => ?_⟩ fun c hc hl' e => ?_
  · simp only [List.length_set] at hl'
    rw [gset hs, gset hs, if_neg n1, if_neg n2]
    exact k1.1 i hi hl' n1 n2
  · simp only [List.length_set] at hl'; walk_at "om"
  · simp only [List.length_set] at hl'; walk_at "om"
theorem Hp.min {l : List Int} (h : Hp l) : ∀ i, i < l.length → l.getD 0 0 ≤ l.getD i 0
  | 0, _ => Int.le_refl _
  | i + 1, hi => by
    have := h (i + 1) (by walk_at "om") hi
    have ih := h.min ((i + 1 - 1) / 2) (by walk_at "om")
    walk_at "om"
termination_by i => i
decreasing_by walk_at "om"
theorem hpop_is (l : List Int) (hl : 0 < l.length) (h : Hp l) : Hp (hpop l).2 ∧ (∀ y ∈ l, (hpop l).1 ≤ y) ∧ ∀ y, y ∈ l ↔ y = (hpop l).1 ∨ y ∈ (hpop l).2 := by
  obtain ⟨m, z, rfl⟩ : ∃ m z, l = m ++ [z] := ⟨l.dropLast, l.getLast (by intro e; subst e; simp at hl), (List.dropLast_concat_getLast _).symm⟩
  rw [hpop_snoc]
  by_cases hm : m = []
  · subst hm
    rw [if_pos rfl]
    refine ⟨fun i _ hi => by simp at hi, fun y hy => ?_, fun y => by simp⟩
    simp at hy; walk_at "om"
  · rw [if_neg hm]
    obtain ⟨v, r, rfl⟩ : ∃ v r, m = v :: r := by cases m with | nil => exact absurd rfl hm | cons v r => exact ⟨v, r, rfl⟩
    refine ⟨su_heap _ (by simp) ⟨fun i hi hl' n1 n2 => ?_, fun h => absurd h (Nat.lt_irrefl _)⟩, fun y hy => ?_, fun y => ?_⟩
    · simp only [List.length_set] at hl'
      rw [gset (by simp), gset (by simp), if_neg n1, if_neg n2]
      have := h i hi (by simp at hl' ⊢; walk_at "om")
      have e1 : (v :: r ++ [z]).getD i 0 = (v :: r).getD i 0 := by simp only [List.getD, List.getElem?_append_left hl']
      have e2 : (v :: r ++ [z]).getD ((i - 1) / 2) 0 = (v :: r).getD ((i - 1) / 2) 0 := by simp only [List.getD, List.getElem?_append_left (show (i - 1) / 2 < (v :: r).length by walk_at "om")]
      rw [e1, e2] at this; exact this
    · obtain ⟨i, hi, rfl⟩ := mem_gd.mp hy
      exact h.min i hi
    · rw [su_mem _ (by simp)]
      simp only [List.set_cons_zero, List.getD_cons_zero, List.mem_append, List.mem_cons, List.not_mem_nil, or_false, List.cons_append]
      constructor
      · rintro (h | h | h)
        · exact .inl h
        · exact .inr (.inr h)
        · exact .inr (.inl h)
      · rintro (h | h | h)
        · exact .inl h
        · exact .inr (.inr h)
        · exact .inr (.inl h)
theorem pushAll_is (ns : List Int) : Hp (pushAll ns) ∧ ∀ y, y ∈ pushAll ns ↔ y ∈ ns := by
  have : ∀ (ns l : List Int), Hp l → Hp (ns.foldl hpush l) ∧ ∀ y, y ∈ ns.foldl hpush l ↔ y ∈ l ∨ y ∈ ns := by
    intro ns
    induction ns with
    | nil => intro l h; exact ⟨h, fun y => by simp⟩
    | cons n r ih =>
      intro l h
      obtain ⟨i1, i2⟩ := ih (hpush l n) (hpush_heap l n h)
      refine ⟨i1, fun y => ?_⟩
      rw [List.foldl_cons, i2, hpush_mem, List.mem_cons, or_assoc]
  obtain ⟨h1, h2⟩ := this ns [] (fun i _ hi => by simp at hi)
  exact ⟨h1, fun y => by unfold pushAll; rw [h2]; simp⟩
theorem popRow_is : ∀ (n : Nat) (h row : List Int), h.length = n → Hp h → Inc row → (∀ r ∈ row, ∀ y ∈ h, r ≤ y) → Inc (popRow n h row) ∧ ∀ y, y ∈ popRow n h row ↔ y ∈ row ∨ y ∈ h
  | 0, h, row, hl, _, ir, _ => by
    obtain rfl : h = [] := List.length_eq_zero_iff.mp hl
    exact ⟨ir, fun y => by simp [popRow]⟩
  | n + 1, h, row, hl, hh, ir, hle => by
    obtain ⟨p1, p2, p3⟩ := hpop_is h (by walk_at "om") hh
    have hlen := hpop_len h
    have hv : (hpop h).1 ∈ h := (p3 _).mpr (.inl rfl)
    show Inc (popRow n (hpop h).2 _) ∧ ∀ y, y ∈ popRow n (hpop h).2 _ ↔ _
    generalize hrow : (if row.drop (row.length - 1) = [(hpop h).1] then row else row ++ [(hpop h).1]) = row'
    have key : Inc row' ∧ ∀ y, y ∈ row' ↔ y ∈ row ∨ y = (hpop h).1 := by
      rw [← hrow]
      split
      · rename_i e
        refine ⟨ir, fun y => ⟨.inl, fun q => q.elim id fun q => ?_⟩⟩
        have : (hpop h).1 ∈ row.drop (row.length - 1) := by rw [e]; simp
        rw [q]; exact List.mem_of_mem_drop this
      · rename_i e
        refine ⟨?_, fun y => by simp⟩
        refine List.pairwise_append.mpr ⟨ir, by simp, fun r hr v hv' => ?_⟩
        rw [List.mem_singleton.mp hv']
        have hrv := hle r hr _ hv
        rcases Int.lt_or_eq_of_le hrv with q | q
        · exact q
        · exfalso
          obtain ⟨q', t, rfl⟩ : ∃ q t, row = q ++ [t] := ⟨row.dropLast, row.getLast (by intro e; subst e; simp at hr), (List.dropLast_concat_getLast _).symm⟩
          have ht := hle t (by simp) _ hv
          apply e
          have : t = (hpop h).1 := by
            rcases List.mem_append.mp hr with z | z
            · have := (List.pairwise_append.mp ir).2.2 r z t (by simp)
              walk_at "om"
            · rw [List.mem_singleton.mp z] at q; exact q
          simp [this]
    obtain ⟨i1, i2⟩ := popRow_is n (hpop h).2 row' (by walk_at "om") p1 key.1 fun r hr y hy => by
      have hyh := (p3 y).mpr (.inr hy)
      rcases (key.2 r).mp hr with z | z
      · exact hle r z y hyh
      · rw [z]; exact p2 y hyh
    refine ⟨i1, fun y => ?_⟩
    rw [i2, key.2, p3 y, or_assoc]
theorem inc_ext : ∀ {a b : List Int}, Inc a → Inc b → (∀ y, y ∈ a ↔ y ∈ b) → a = b
  | [], [], _, _, _ => rfl
  | [], y :: b, _, _, h => by have := (h y).mpr (.head _); simp at this
  | x :: a, [], _, _, h => by have := (h x).mp (.head _); simp at this
  | x :: a, y :: b, ia, ib, h => by
    have a1 := List.pairwise_cons.mp ia
    have b1 := List.pairwise_cons.mp ib
    have e : x = y := by
      rcases List.mem_cons.mp ((h x).mp (.head _)) with q | q
      · exact q
      · rcases List.mem_cons.mp ((h y).mpr (.head _)) with q' | q'
        · exact q'.symm
        · have := a1.1 y q'
          have := b1.1 x q
          walk_at "om"
    subst e
    rw [inc_ext a1.2 b1.2 fun z => ?_]
    constructor
    · intro hz
      rcases List.mem_cons.mp ((h z).mp (.tail _ hz)) with q | q
      · have := a1.1 z hz; walk_at "om"
      · exact q
    · intro hz
      rcases List.mem_cons.mp ((h z).mpr (.tail _ hz)) with q | q
      · have := b1.1 z hz; walk_at "om"
      · exact q
theorem lawRow_due (xs : List Int) (h : In16 xs) : lawRow xs = due16 xs := by
  obtain ⟨p1, p2⟩ := pushAll_is xs
  obtain ⟨r1, r2⟩ := popRow_is xs.length (pushAll xs) [] (pushAll_len xs) p1 List.Pairwise.nil (fun r hr => by simp at hr)
  refine inc_ext r1 (due_inc xs) fun y => ?_
  show y ∈ popRow xs.length (pushAll xs) [] ↔ _
  rw [r2, p2]
  unfold due16
  simp only [List.not_mem_nil, false_or, List.mem_filter, List.mem_map, List.mem_range, decide_eq_true_eq]
  constructor
  · intro hy
    obtain ⟨h1, h2⟩ := h y hy
    exact ⟨⟨y.toNat, by walk_at "om", by walk_at "om"⟩, hy⟩
  · rintro ⟨_, hy⟩; exact hy
end
section
open PySem PySem.W PyProof.Rows PySem.Calls
set_option Elab.async false
set_option linter.unusedVariables false
/-! ## what the runs cover: plain mathematics -/
theorem mem_ins (side : Nat) (R : List Tri) (y : Int) : y ∈ insideOf side R ↔ ∃ t ∈ R, sdOf side t ≤ y ∧ y < sdOf side t + t.2.2 := by
  unfold insideOf
  rw [List.mem_flatMap]
  constructor
  · rintro ⟨t, ht, h⟩
    obtain ⟨i, hi, rfl⟩ := List.mem_map.mp h
    have := List.mem_range.mp hi
    exact ⟨t, ht, by walk_at "om", by walk_at "om"⟩
  · rintro ⟨t, ht, h1, h2⟩
    exact ⟨t, ht, List.mem_map.mpr ⟨(y - sdOf side t).toNat, List.mem_range.mpr (by walk_at "om"), by walk_at "om"⟩⟩
theorem ins_ext (side : Nat) (hs : side < 2) (R : List Tri) (t : Tri) (hR : ∀ u ∈ R, 1 ≤ u.2.2) (ht : 1 ≤ t.2.2) (y : Int) : y ∈ insideOf side (ext R t) ↔ y ∈ insideOf side R ∨ (sdOf side t ≤ y ∧ y < sdOf side t + t.2.2) := by
  rcases snoc_or R with rfl | ⟨R', u, rfl⟩
  · rw [ext_nil, mem_ins, mem_ins]; simp
  · rw [ext_snoc]
    have hu := hR u (by simp)
    split
    · rename_i h
      rw [mem_ins, mem_ins]
      have e : sdOf side (u.1, u.2.1, u.2.2 + t.2.2) = sdOf side u := by match side with | 0 => rfl | 1 => rfl | _ + 2 => rfl
      have e2 : sdOf side u + u.2.2 = sdOf side t := by
        match side, hs with
        | 0, _ => exact h.1
        | 1, _ => exact h.2
      constructor
      · rintro ⟨v, hv, h1, h2⟩
        rcases List.mem_append.mp hv with z | z
        · exact .inl ⟨v, by simp [z], h1, h2⟩
        · rw [List.mem_singleton.mp z, e] at h1 h2
          simp only at h2
          by_cases q : y < sdOf side u + u.2.2
          · exact .inl ⟨u, by simp, h1, q⟩
          · exact .inr ⟨by walk_at "om", by walk_at "om"⟩
      · rintro (⟨v, hv, h1, h2⟩ | ⟨h1, h2⟩)
        · rcases List.mem_append.mp hv with z | z
          · exact ⟨v, by simp [z], h1, h2⟩
          · rw [List.mem_singleton.mp z] at h1 h2
            exact ⟨(u.1, u.2.1, u.2.2 + t.2.2), by simp, by rw [e]; exact h1, by rw [e]; simp only; walk_at "om"⟩
        · exact ⟨(u.1, u.2.1, u.2.2 + t.2.2), by simp, by rw [e]; walk_at "om", by rw [e]; simp only; walk_at "om"⟩
    · rw [mem_ins, mem_ins]
      constructor
      · rintro ⟨v, hv, h1, h2⟩
        rcases List.mem_append.mp hv with z | z
        · exact .inl ⟨v, z, h1, h2⟩
        · rw [List.mem_singleton.mp z] at h1 h2; exact .inr ⟨h1, h2⟩
      · rintro (⟨v, hv, h1, h2⟩ | ⟨h1, h2⟩)
        · exact ⟨v, List.mem_append.mpr (.inl hv), h1, h2⟩
        · exact ⟨t, by simp, h1, h2⟩
theorem idx_lt {x : Int} {b : List Int} (h : x ∈ b) : idx x b < b.length := (List.getElem?_eq_some_iff.mp (idx_spec h).1).1
theorem idx_get {x : Int} {b : List Int} (h : x ∈ b) : b.getD (idx x b) 0 = x := by simp [List.getD, (idx_spec h).1]
noncomputable def Rok (b : List Int) (n : Nat) (t : Tri) : Prop := 0 ≤ t.1 ∧ t.1 + t.2.2 ≤ n ∧ 0 ≤ t.2.1 ∧ t.2.1 + t.2.2 ≤ b.length ∧ 1 ≤ t.2.2
theorem runsTo_is (a b : List Int) : ∀ n : Nat, (∀ t ∈ runsTo a b n, Rok b n t) ∧ (∀ y, y ∈ insideOf 0 (runsTo a b n) ↔ ∃ i : Nat, i < n ∧ a.getD i 0 ∈ b ∧ y = i) ∧ (∀ y, y ∈ insideOf 1 (runsTo a b n) ↔ ∃ i : Nat, i < n ∧ a.getD i 0 ∈ b ∧ y = (idx (a.getD i 0) b : Nat))
  | 0 => ⟨fun t ht => by simp [runsTo] at ht, fun y => by simp [runsTo, insideOf], fun y => by simp [runsTo, insideOf]⟩
  | n + 1 => by
    obtain ⟨h1, h2, h3⟩ := runsTo_is a b n
    have h1' : ∀ t ∈ runsTo a b n, 1 ≤ t.2.2 := fun t ht => (h1 t ht).2.2.2.2
    show (∀ t ∈ runsStep b (runsTo a b n) n (a.getD n 0), _) ∧ (∀ y, y ∈ insideOf 0 (runsStep b (runsTo a b n) n (a.getD n 0)) ↔ _) ∧ (∀ y, y ∈ insideOf 1 (runsStep b (runsTo a b n) n (a.getD n 0)) ↔ _)
    by_cases hx : a.getD n 0 ∈ b
    · have hlt := idx_lt hx
      rw [runsStep_ext _ _ _ hx]
      refine ⟨?_, fun y => ?_, fun y => ?_⟩
      · intro t ht
        have mo : ∀ u ∈ runsTo a b n, Rok b (n + 1) u := fun u hu => by
          obtain ⟨q1, q2, q3, q4, q5⟩ := h1 u hu
          exact ⟨q1, by walk_at "om", q3, q4, q5⟩
        have new : Rok b (n + 1) ((n : Int), (idx (a.getD n 0) b : Int), 1) := ⟨by simp only; walk_at "om", by simp only; walk_at "om", by simp only; walk_at "om", by simp only; walk_at "om", by simp⟩
        rcases snoc_or (runsTo a b n) with e | ⟨R', u, e⟩
        · rw [e, ext_nil] at ht
          rw [List.mem_singleton.mp ht]; exact new
        · rw [e, ext_snoc] at ht
          split at ht
          · rename_i hh
            simp only at hh
            rcases List.mem_append.mp ht with z | z
            · exact mo t (by rw [e]; simp [z])
            · obtain ⟨q1, q2, q3, q4, q5⟩ := mo u (by rw [e]; simp)
              rw [List.mem_singleton.mp z]
              exact ⟨q1, by simp only; walk_at "om", q3, by simp only; walk_at "om", by simp only; walk_at "om"⟩
          · rcases List.mem_append.mp ht with z | z
            · exact mo t (by rw [e]; exact z)
            · rw [List.mem_singleton.mp z]; exact new
      · rw [ins_ext 0 (by decide) _ _ h1' (by simp), h2]
        show _ ∨ ((n : Int) ≤ y ∧ y < (n : Int) + 1) ↔ _
        constructor
        · rintro (⟨i, hi, hb, e⟩ | h)
          · exact ⟨i, by walk_at "om", hb, e⟩
          · exact ⟨n, by walk_at "om", hx, by walk_at "om"⟩
        · rintro ⟨i, hi, hb, e⟩
          by_cases q : i = n
          · subst q; exact .inr (by walk_at "om")
          · exact .inl ⟨i, by walk_at "om", hb, e⟩
      · rw [ins_ext 1 (by decide) _ _ h1' (by simp), h3]
        show _ ∨ ((idx (a.getD n 0) b : Int) ≤ y ∧ y < (idx (a.getD n 0) b : Int) + 1) ↔ _
        constructor
        · rintro (⟨i, hi, hb, e⟩ | h)
          · exact ⟨i, by walk_at "om", hb, e⟩
          · exact ⟨n, by walk_at "om", hx, by walk_at "om"⟩
        · rintro ⟨i, hi, hb, e⟩
          by_cases q : i = n
          · subst q; exact .inr (by walk_at "om")
          · exact .inl ⟨i, by walk_at "om", hb, e⟩
    · rw [show runsStep b (runsTo a b n) n (a.getD n 0) = runsTo a b n from if_neg hx]
      have same : ∀ {P : Nat → Prop}, (∃ i : Nat, i < n ∧ a.getD i 0 ∈ b ∧ P i) ↔ ∃ i : Nat, i < n + 1 ∧ a.getD i 0 ∈ b ∧ P i := by
        intro P
        constructor
        · rintro ⟨i, hi, hb, e⟩; exact ⟨i, by walk_at "om", hb, e⟩
        · rintro ⟨i, hi, hb, e⟩
          by_cases q : i = n
          · subst q; exact absurd hb hx
          · exact ⟨i, by walk_at "om", hb, e⟩
      refine ⟨fun t ht => ?_, fun y => (h2 y).trans same, fun y => (h3 y).trans same⟩
      obtain ⟨q1, q2, q3, q4, q5⟩ := h1 t ht
      exact ⟨q1, by walk_at "om", q3, q4, q5⟩
theorem lawRuns_small (a b : List Int) (ha : a.length ≤ 16) (hb : b.length ≤ 16) : ∀ t ∈ lawRuns a b, small t := by
  intro t ht
  rcases List.mem_append.mp ht with z | z
  · obtain ⟨q1, q2, q3, q4, q5⟩ := (runsTo_is a b a.length).1 t z
    exact ⟨q1, by walk_at "om", q3, by walk_at "om", by walk_at "om", by walk_at "om"⟩
  · rw [List.mem_singleton.mp z]
    exact ⟨by simp only; walk_at "om", by simp only; walk_at "om", by simp only; walk_at "om", by simp only; walk_at "om", by simp, by simp⟩
theorem ins_law (side : Nat) (a b : List Int) (y : Int) : y ∈ insideOf side (lawRuns a b) ↔ y ∈ insideOf side (runsTo a b a.length) := by
  rw [mem_ins, mem_ins]
  constructor
  · rintro ⟨t, ht, h1, h2⟩
    rcases List.mem_append.mp ht with z | z
    · exact ⟨t, z, h1, h2⟩
    · rw [List.mem_singleton.mp z] at h1 h2
      simp only at h2
      walk_at "om"
  · rintro ⟨t, ht, h⟩
    exact ⟨t, List.mem_append.mpr (.inl ht), h⟩
theorem map_range (a : List Int) : (List.range a.length).map (fun i => a.getD i 0) = a := by
  refine List.ext_getElem (by simp) fun i h1 h2 => ?_
  simp [List.getD, h2]
theorem outs_dif (a ins b : List Int) (h : ∀ i : Nat, i < a.length → (((i : Nat) : Int) ∈ ins ↔ a.getD i 0 ∈ b)) : outsTo a ins a.length = dif a b := by
  unfold outsTo dif
  conv => rhs; rw [← map_range a]
  rw [List.filter_map]
  congr 1
  refine List.filter_congr fun i hi => ?_
  simp only [Function.comp]
  congr 1
  exact decide_eq_decide.mpr (h i (List.mem_range.mp hi))
theorem outs_law (a b : List Int) (ib : b.Nodup) : outsTo a (insideOf 0 (lawRuns a b)) a.length = dif a b ∧ outsTo b (insideOf 1 (lawRuns a b)) b.length = dif b a := by
  obtain ⟨_, h2, h3⟩ := runsTo_is a b a.length
  refine ⟨outs_dif _ _ _ fun i hi => ?_, outs_dif _ _ _ fun i hi => ?_⟩
  · rw [ins_law, h2]
    constructor
    · rintro ⟨k, hk, hb, e⟩
      obtain rfl : i = k := by walk_at "om"
      exact hb
    · intro hb; exact ⟨i, hi, hb, rfl⟩
  · rw [ins_law, h3]
    constructor
    · rintro ⟨k, hk, hb, e⟩
      obtain rfl : i = idx (a.getD k 0) b := by walk_at "om"
      rw [idx_get hb]
      exact mem_gd.mpr ⟨k, hk, rfl⟩
    · intro hb
      obtain ⟨k, hk, e⟩ := mem_gd.mp hb
      obtain ⟨h4, h5⟩ := idx_at ib hi e.symm
      exact ⟨k, hk, h4, by rw [h5]⟩
end
section
open PySem PySem.W PyProof.Rows PySem.Calls
set_option Elab.async false
set_option linter.unusedVariables false
set_option maxRecDepth 10000
theorem law_in (P : Params) : nsIn (K P) mainGlobals lawD.1.name = some (some (.ref 317)) := by kernel_rfl
theorem low_317 (P : Params) : ((K P).lookup 317).isSome = true := by kernel_rfl
theorem cut_holds (d : Bool) (e : WCtx) : (WTm.and (.not (.lit (.bool d))) (.lit (.bool true))).holds [] e = !d := by cases d <;> rfl
theorem pre_len {ns : List Int} (h : row.toRowW.pre.holds [] { args := [.list (ns.map .int)] } = true) : ns.length ≤ 63 := by
  have e : row.toRowW.pre.holds [] { args := [.list (ns.map .int)] } = (WTm.and (.not (.lit (.bool (decide ((63 : Int) < ((ns.map WData.int).length : Int)))))) (.lit (.bool true))).holds [] { args := [.list (ns.map .int)] } := by kernel_rfl
  rw [e, cut_holds, List.length_map, Bool.not_eq_true'] at h
  exact Int.ofNat_le.mp (Int.not_lt.mp (of_decide_eq_false h))
theorem post_true (args ds : List WData) : row.toRowW.claim.post args (.bool true) ds = true := by
  show (WShape.has [] (.bool true) .bool && (WTm.eq .res (.lit (.bool true))).holds [] { args := args, res := some (.bool true), after := ds }) = true
  rw [Bool.and_eq_true]
  exact ⟨by kernel_rfl, by kernel_rfl⟩
theorem wellInts {P : Params} {h : Heap} : ∀ {ns : List Int} {vs : List Value}, WellAll P h vs (ns.map WData.int) → RepL h (zs ns) vs
  | [], _, x => by cases x; exact .nil
  | n :: r, _, x => by
    cases x with
    | cons a b => cases a with | int i t => exact .cons (.int _ _) (wellInts b)
theorem walk : WalkO (qOf pw) looseN (XL (qOf pw) []) (Hook.says (kHook K ads ads_ok)) row.toRowW lawD.1 lawD.2 fun f vs => PySem.call f vs := by
  intro w s₀ s₁ mg mb G Y a o pm cd doc dV kV ho hod hcr hdf hmg hgens args vals as hpre hlay hrd hwell hsys
  have kin : (K w.params).In s₁.heap := kIn_of Y
  obtain rfl : a = 317 := by
    have := mg_of kin G.T.g (law_in w.params)
    rw [hmg] at this
    cases this; rfl
  obtain ⟨hsh, hpr⟩ := pre_splitW hpre
  obtain ⟨d, r, rfl, hd, hr⟩ := hasAllW_cons hsh
  obtain rfl := hasAllW_nil hr
  obtain ⟨xs, rfl, hx⟩ := hasW_list hd
  obtain ⟨ns, rfl⟩ := items_int hx
  have hlen := pre_len hpr
  cases hwell with
  | cons w1 w2 =>
  cases w2
  cases w1 with
  | @list la vs _ e wl =>
  have hs : RepO w s₁.heap la (.list (zs ns)) := ⟨vs, 0, e, wellInts wl⟩
  have gnd : Gnd w s₁.heap := by
    refine ⟨kin, ⟨mg, G.T.g⟩, ⟨mb, G.T.b, G.T.builtins⟩, G.T.nolimit, ?_⟩
    exact Heap.lt_size ho
  have C : Cx w s₁.heap callerA s₁ 8 := ⟨gnd, fun _ _ e => e, rfl, by decide, by decide⟩
  refine wpAny_call (codeAny_mono (law_c lawRow_due (fun a b _ ib _ _ => outs_law a b ib.nodup) (fun a b _ _ h1 h2 => lawRuns_small a b h1 h2) C rfl (.cons (.ref la) .nil) hs hlen) ?_)
  rintro r s' ⟨v, y, led', rfl, ry, h1, h2, h3, h4, h5, h6, h7, rfl⟩
  cases ry
  refine GoodW.toG ⟨.inl ⟨_, .bool true, [], rfl, fun _ => rfl, .bool true, post_true _ _, fun _ => ⟨List.nodup_nil, fun _ h => nomatch h⟩⟩, fun b o e => h4 b o e (by simp), h7, h6.trans hgens⟩
theorem holds : PySem.Challenge.rw_oh0118_01.Holds := hd walk
end
end Mine
end
end
theorem PySem.Challenge.cw_oh0118_01_holds : PySem.Challenge.rw_oh0118_01.Holds := by
  exact Mine.holds
