import PyProof.Rows.All
import Wide.All
import OpenK.AllK
import Wide.FinOn
import PySem.Challenge.RW_om0062_01
set_option Elab.async false
set_option maxRecDepth 100000
set_option linter.unusedVariables false
set_option maxHeartbeats 8000000

open PySem PySem.Calls PyProof.Rows
namespace Mine

/-! M1 -/

abbrev P0 : Program := PySem.Challenge.pw_om0062_01

inductive PV where
  | none | bool (b : Bool) | int (i : Int) | str (s : Str) | ref (a : Addr) | other

noncomputable def pv : Value → PV
  | .none => .none
  | .bool b => .bool b
  | .int i _ => .int i
  | .str s _ => .str s
  | .ref a => .ref a
  | _ => .other

theorem pv_none {v : Value} (h : pv v = .none) : v = .none := by cases v <;> simp_all [pv]
theorem pv_bool {v : Value} {b : Bool} (h : pv v = .bool b) : v = .bool b := by cases v <;> simp_all [pv]
theorem pv_int {v : Value} {i : Int} (h : pv v = .int i) : ∃ t, v = .int i t := by cases v <;> simp_all [pv]
theorem pv_str {v : Value} {x : Str} (h : pv v = .str x) : ∃ t, v = .str x t := by cases v <;> simp_all [pv]
theorem pv_ref {v : Value} {a : Addr} (h : pv v = .ref a) : v = .ref a := by cases v <;> simp_all [pv]

abbrev Sto := Addr → Option (List PV)
abbrev Loc := Str → Option PV
noncomputable def Sto.put (σ : Sto) (a : Addr) (l : List PV) : Sto := fun b => if b = a then some l else σ b
noncomputable def Loc.put (ρ : Loc) (x : Str) (p : PV) : Loc := fun y => if y = x then some p else ρ y

theorem Sto.put_self (σ : Sto) (a : Addr) (l : List PV) : (σ.put a l) a = some l := by simp [Sto.put]
theorem Sto.put_ne (σ : Sto) {a b : Addr} (l : List PV) (h : b ≠ a) : (σ.put a l) b = σ b := by simp [Sto.put, h]
theorem Sto.put_put (σ : Sto) (a : Addr) (l m : List PV) : (σ.put a l).put a m = σ.put a m := by
  funext b; by_cases h : b = a <;> simp [Sto.put, h]
theorem Sto.put_same (σ : Sto) {a : Addr} {l : List PV} (h : σ a = some l) : σ.put a l = σ := by
  funext b; by_cases e : b = a <;> simp [Sto.put, e, h]

/-- a list of the call's own at a -/
noncomputable def PL (h : Heap) (a : Addr) (l : List PV) : Prop := ∃ vs : List Value, h.PlainList a vs.toArray ∧ vs.map pv = l

structure Rn where
  w : World
  h₀ : Heap
  os₀ : OsState
  mg : Str → Option Value
  mb : Str → Option Value
  G : Array GenState → Prop
  top : List Env

abbrev Rn.M (R : Rn) : Model := model P0 R.w

structure St (R : Rn) (σ : Sto) (s : Shared) : Prop where
  keep : ∀ b o, R.h₀.get? b = some o → s.heap.get? b = some o
  lists : ∀ a l, σ a = some l → PL s.heap a l ∧ R.h₀.get? a = none
  os : s.os = R.os₀
  bare : R.G s.gens

structure LocAt (R : Rn) (L : Addr) (ρ : Loc) (s : Shared) : Prop where
  ns : ∃ m, s.heap.Ns L m ∧ ∀ x p, ρ x = some p → ∃ v, m x = some v ∧ pv v = p
  new : R.h₀.get? L = none

structure Room (top : List Env) (r : Nat) (A : Around) : Prop where
  hd : A.handled = none
  dep : A.depth + r < recursionLimit
  un : A.units + 8 * r + 200 < cLine
  fr : ∃ pre, A.frames = some (pre ++ top) ∧ pre.length + 302 ≤ A.depth

theorem Room.le {top : List Env} {r r' : Nat} {A : Around} (h : Room top r A) (hr : r' ≤ r) : Room top r' A := ⟨h.hd, by have := h.dep; omega, by have := h.un; omega, h.fr⟩

noncomputable def Go (σ σ' : Sto) (s s' : Shared) : Prop := ∀ b o, s.heap.get? b = some o → σ b = none → s'.heap.get? b = some o ∧ σ' b = none
noncomputable def GoL (L : Addr) (σ σ' : Sto) (s s' : Shared) : Prop := ∀ b o, b ≠ L → s.heap.get? b = some o → σ b = none → s'.heap.get? b = some o ∧ σ' b = none

theorem Go.refl {σ : Sto} {s : Shared} : Go σ σ s s := fun _ _ e h => ⟨e, h⟩
theorem Go.trans {σ σ₁ σ₂ : Sto} {s s₁ s₂ : Shared} (h : Go σ σ₁ s s₁) (k : Go σ₁ σ₂ s₁ s₂) : Go σ σ₂ s s₂ := fun b o e q => let ⟨x, y⟩ := h b o e q; k b o x y
theorem GoL.refl {L : Addr} {σ : Sto} {s : Shared} : GoL L σ σ s s := fun _ _ _ e h => ⟨e, h⟩
theorem GoL.trans {L : Addr} {σ σ₁ σ₂ : Sto} {s s₁ s₂ : Shared} (h : GoL L σ σ₁ s s₁) (k : GoL L σ₁ σ₂ s₁ s₂) : GoL L σ σ₂ s s₂ :=
  fun b o n e q => let ⟨x, y⟩ := h b o n e q; k b o n x y
theorem Go.l {L : Addr} {σ σ' : Sto} {s s' : Shared} (h : Go σ σ' s s') : GoL L σ σ' s s' := fun b o _ e q => h b o e q

theorem St.notNs {R : Rn} {σ : Sto} {s : Shared} {L : Addr} {m : Str → Option Value} (S : St R σ s) (hn : s.heap.Ns L m) : σ L = none := by
  cases h : σ L with
  | none => rfl
  | some l =>
    obtain ⟨⟨vs, ⟨n, e⟩, _⟩, _⟩ := S.lists L l h
    obtain ⟨o, es, ep, ho, hd, _⟩ := hn
    rw [e] at ho; cases ho; cases hd

theorem LocAt.go {R : Rn} {L : Addr} {ρ : Loc} {σ σ' : Sto} {s s' : Shared} (F : LocAt R L ρ s) (S : St R σ s) (g : Go σ σ' s s') : LocAt R L ρ s' := by
  obtain ⟨m, hn, hm⟩ := F.ns
  exact ⟨⟨m, hn.at' fun o e => (g L o e (S.notNs hn)).1, hm⟩, F.new⟩

/-- what a tree does -/
noncomputable def Post {α β : Type} (R : Rn) (σ : Sto) (s : Shared) (f : α → β) (Q : β → Sto → Prop) : α → Shared → Prop :=
  fun a s' => ∃ σ', St R σ' s' ∧ Go σ σ' s s' ∧ Q (f a) σ'

theorem Post.trans {α β : Type} {R : Rn} {σ σ₁ : Sto} {s s₁ s' : Shared} {f : α → β} {Q : β → Sto → Prop} {a : α} (g : Go σ σ₁ s s₁) (h : Post R σ₁ s₁ f Q a s') : Post R σ s f Q a s' :=
  let ⟨σ', S, k, q⟩ := h; ⟨σ', S, g.trans k, q⟩

abbrev nope : Value → Shared → Prop := fun _ _ => False

noncomputable def Tr {α β : Type} (R : Rn) (r : Nat) (t : Sem α) (f : α → β) (σ : Sto) (Q : β → Sto → Prop) : Prop :=
  ∀ A, Room R.top r A → ∀ s, St R σ s → wpAny R.M A t (Post R σ s f Q) nope s

noncomputable def EV (R : Rn) (r : Nat) (env : Env) (e : Expr) (ρ : Loc) (σ : Sto) (Q : PV → Sto → Prop) : Prop :=
  ∀ A, Room R.top r A → ∀ s, St R σ s → LocAt R env.locals ρ s → wpAny R.M A (eval e env) (Post R σ s pv Q) nope s

/-- a test -/
noncomputable def TS (R : Rn) (r : Nat) (env : Env) (e : Expr) (ρ : Loc) (σ : Sto) (Q : Bool → Sto → Prop) : Prop :=
  ∀ A, Room R.top r A → ∀ s, St R σ s → LocAt R env.locals ρ s → wpAny R.M A (isTrue e env (eval e env)) (Post R σ s id Q) nope s

/-- arguments -/
noncomputable def ES (R : Rn) (r : Nat) (env : Env) (pos : Pos) (es : List Expr) (ρ : Loc) (σ : Sto) (Q : List PV → Sto → Prop) : Prop :=
  ∀ A, Room R.top r A → ∀ s, St R σ s → LocAt R env.locals ρ s → wpAny R.M A (spliced (backTo pos (starEach es env))) (Post R σ s (List.map pv) Q) nope s

inductive FL where | next | brk | cont | ret (v : PV)
noncomputable def fl : Flow → FL
  | .next => .next | .brk => .brk | .cont => .cont | .ret v => .ret (pv v)

noncomputable def PostS {α : Type} (R : Rn) (L : Addr) (σ : Sto) (s : Shared) (f : α → FL) (Q : FL → Loc → Sto → Prop) : α → Shared → Prop :=
  fun a s' => ∃ ρ' σ', St R σ' s' ∧ LocAt R L ρ' s' ∧ GoL L σ σ' s s' ∧ Q (f a) ρ' σ'

theorem PostS.trans {α : Type} {R : Rn} {L : Addr} {σ σ₁ : Sto} {s s₁ s' : Shared} {f : α → FL} {Q : FL → Loc → Sto → Prop} {a : α} (g : GoL L σ σ₁ s s₁) (h : PostS R L σ₁ s₁ f Q a s') : PostS R L σ s f Q a s' :=
  let ⟨ρ', σ', S, F, k, q⟩ := h; ⟨ρ', σ', S, F, g.trans k, q⟩

noncomputable def EX (R : Rn) (r : Nat) (env : Env) (st : Stmt) (ρ : Loc) (σ : Sto) (Q : FL → Loc → Sto → Prop) : Prop :=
  ∀ A, Room R.top r A → ∀ s, St R σ s → LocAt R env.locals ρ s → wpAny R.M A (exec st env) (PostS R env.locals σ s fl Q) nope s
noncomputable def EXS (R : Rn) (r : Nat) (env : Env) (sts : List Stmt) (ρ : Loc) (σ : Sto) (Q : FL → Loc → Sto → Prop) : Prop :=
  ∀ A, Room R.top r A → ∀ s, St R σ s → LocAt R env.locals ρ s → wpAny R.M A (execs sts env) (PostS R env.locals σ s fl Q) nope s

section
variable {R : Rn} {r : Nat} {env : Env} {ρ : Loc} {σ : Sto}

theorem Tr.mono {α β : Type} {t : Sem α} {f : α → β} {Q Q' : β → Sto → Prop} (h : Tr R r t f σ Q) (hq : ∀ b σ, Q b σ → Q' b σ) : Tr R r t f σ Q' :=
  fun A hA s S => wpAny_mono (h A hA s S) (fun _ _ ⟨σ', a, b, c⟩ => ⟨σ', a, b, hq _ _ c⟩) fun _ _ x => x
theorem EV.mono {e : Expr} {Q Q' : PV → Sto → Prop} (h : EV R r env e ρ σ Q) (hq : ∀ b σ, Q b σ → Q' b σ) : EV R r env e ρ σ Q' :=
  fun A hA s S F => wpAny_mono (h A hA s S F) (fun _ _ ⟨σ', a, b, c⟩ => ⟨σ', a, b, hq _ _ c⟩) fun _ _ x => x
theorem TS.mono {e : Expr} {Q Q' : Bool → Sto → Prop} (h : TS R r env e ρ σ Q) (hq : ∀ b σ, Q b σ → Q' b σ) : TS R r env e ρ σ Q' :=
  fun A hA s S F => wpAny_mono (h A hA s S F) (fun _ _ ⟨σ', a, b, c⟩ => ⟨σ', a, b, hq _ _ c⟩) fun _ _ x => x
theorem EX.mono {e : Stmt} {Q Q' : FL → Loc → Sto → Prop} (h : EX R r env e ρ σ Q) (hq : ∀ b ρ σ, Q b ρ σ → Q' b ρ σ) : EX R r env e ρ σ Q' :=
  fun A hA s S F => wpAny_mono (h A hA s S F) (fun _ _ ⟨ρ', σ', a, b, c, d⟩ => ⟨ρ', σ', a, b, c, hq _ _ _ d⟩) fun _ _ x => x
theorem EXS.mono {e : List Stmt} {Q Q' : FL → Loc → Sto → Prop} (h : EXS R r env e ρ σ Q) (hq : ∀ b ρ σ, Q b ρ σ → Q' b ρ σ) : EXS R r env e ρ σ Q' :=
  fun A hA s S F => wpAny_mono (h A hA s S F) (fun _ _ ⟨ρ', σ', a, b, c, d⟩ => ⟨ρ', σ', a, b, c, hq _ _ _ d⟩) fun _ _ x => x

/-- a state whose tokens alone differ -/
theorem St.toks {s : Shared} (S : St R σ s) (t : Nat) : St R σ { s with toks := t } := ⟨S.keep, S.lists, S.os, S.bare⟩
theorem Post.same {α β : Type} {f : α → β} {Q : β → Sto → Prop} {a : α} {s : Shared} (S : St R σ s) (t : Nat) (h : Q (f a) σ) : Post R σ s f Q a { s with toks := t } :=
  ⟨σ, S.toks t, fun _ _ e q => ⟨e, q⟩, h⟩
theorem Post.now {α β : Type} {f : α → β} {Q : β → Sto → Prop} {a : α} {s : Shared} (S : St R σ s) (h : Q (f a) σ) : Post R σ s f Q a s :=
  ⟨σ, S, Go.refl, h⟩

theorem EV_int {i : Int} {k pos} {Q : PV → Sto → Prop} (h : Q (.int i) σ) : EV R r env (.Constant (.int i) k pos) ρ σ Q :=
  fun _ _ _ S _ => wpAny_Constant_int (Post.same S _ h)
theorem EV_str {x : Str} {k pos} {Q : PV → Sto → Prop} (h : Q (.str x) σ) : EV R r env (.Constant (.str x) k pos) ρ σ Q :=
  fun _ _ _ S _ => Constant_str (Post.same S _ h)
theorem EV_bool {b : Bool} {k pos} {Q : PV → Sto → Prop} (h : Q (.bool b) σ) : EV R r env (.Constant (.bool b) k pos) ρ σ Q :=
  fun _ _ _ S _ _ _ _ => Post.now S h
theorem EV_none {k pos} {Q : PV → Sto → Prop} (h : Q .none σ) : EV R r env (.Constant .none k pos) ρ σ Q :=
  fun _ _ _ S _ _ _ _ => Post.now S h

theorem EV_local {x : Str} {pos} {p : PV} {Q : PV → Sto → Prop} (hk : env.scope.kind = .function) (hl : env.kindOf x = some .local)
    (hp : ρ x = some p) (h : Q p σ) (hd : (x == ("__debug__" : Str)) = false) : EV R r env (.Name x pos) ρ σ Q := fun A hA s S F => by
  obtain ⟨m, hn, hm⟩ := F.ns
  obtain ⟨v, hv, rfl⟩ := hm x p hp
  exact wpAny_Name (wpAny_loadName_local hk hl hn hv (Post.now S h)) hd
end

/-! J0 -/
section
open PySem.W
/-- the text without the rows that bind __name__ -/
noncomputable def keepSt : Stmt → Bool
  | .Assign [.Name x _] _ _ => !(x == ("__name__" : Str))
  | _ => true
noncomputable def view : Program := { P0 with main := { P0.main with body := P0.main.body.filter keepSt } }
abbrev loose : List Str := ["_filemode_table"]
noncomputable def cellW (p : Int × Nat) : WData := .tuple [.int p.1, .str ⟨#[p.2]⟩]
noncomputable def rowsW : List (List (Int × Nat)) := [[(40960, 108), (49152, 115), (32768, 45), (24576, 98), (16384, 100), (8192, 99), (4096, 112)], [(256, 114)], [(128, 119)], [(2112, 115), (2048, 83), (64, 120)],
  [(32, 114)], [(16, 119)], [(1032, 115), (1024, 83), (8, 120)], [(4, 114)], [(2, 119)], [(513, 116), (512, 84), (1, 120)]]
noncomputable abbrev lv : List (Str × WData) := [("_filemode_table", .tuple (rowsW.map fun ps => .tuple (ps.map cellW)))]
/-- the top's run -/
theorem left_ok : LeftO P0 view loose (fun s => xlAt view lv s && recOk (RowW.records PySem.Challenge.rw_om0062_01.row.toRowW) s) (Hook.obs Hook.none) (Hook.val Hook.none) 2288 := by
  intro w
  kernel_rfl
end

/-! M2 -/

section
variable {R : Rn} {r : Nat} {env : Env} {ρ : Loc} {σ : Sto}

noncomputable def BIN (R : Rn) (r : Nat) (op : Operator) (a b : PV) (σ : Sto) (Q : PV → Sto → Prop) : Prop :=
  ∀ va vb, pv va = a → pv vb = b → Tr R r (binaryOp op va vb) pv σ Q
noncomputable def INP (R : Rn) (r : Nat) (op : Operator) (a b : PV) (σ : Sto) (Q : PV → Sto → Prop) : Prop :=
  ∀ va vb, pv va = a → pv vb = b → Tr R r (inplaceOp op va vb) pv σ Q
noncomputable def CMP (R : Rn) (r : Nat) (op : CmpOp) (a b : PV) (σ : Sto) (Q : PV → Sto → Prop) : Prop :=
  ∀ va vb, pv va = a → pv vb = b → Tr R r (compareOp op va vb) pv σ Q
noncomputable def TRU (R : Rn) (r : Nat) (a : PV) (σ : Sto) (Q : Bool → Sto → Prop) : Prop :=
  ∀ va, pv va = a → Tr R r (truthy va) id σ Q
noncomputable def SUB (R : Rn) (r : Nat) (value slice : Expr) (a b : PV) (σ : Sto) (Q : PV → Sto → Prop) : Prop :=
  ∀ va vb, pv va = a → pv vb = b → Tr R r (subscriptTail value slice va vb) pv σ Q
noncomputable def SETI (R : Rn) (r : Nat) (a b c : PV) (σ : Sto) (Q : Unit → Sto → Prop) : Prop :=
  ∀ va vb vc, pv va = a → pv vb = b → pv vc = c → Tr R r (setItem va vb vc) id σ Q
noncomputable def CL (R : Rn) (r : Nat) (f : Value) (args : List PV) (σ : Sto) (Q : PV → Sto → Prop) : Prop :=
  ∀ vals, vals.map pv = args → Tr R r (call f vals) pv σ Q

theorem EV_BinOp {l op r' pos} {Q : PV → Sto → Prop} (h : EV R r env l ρ σ fun a σ₁ => EV R r env r' ρ σ₁ fun b σ₂ => BIN R r op a b σ₂ Q) :
    EV R r env (.BinOp l op r' pos) ρ σ Q := fun A hA s S F =>
  wpAny_BinOp (wpAny_mono (h A hA s S F) (fun va s₁ ⟨_, S₁, g₁, h₁⟩ => wpAny_mono (h₁ A hA s₁ S₁ (F.go S g₁))
    (fun vb s₂ ⟨_, S₂, g₂, h₂⟩ => wpAny_mono (h₂ va vb rfl rfl A hA s₂ S₂) (fun _ _ p => Post.trans (g₁.trans g₂) p) fun _ _ x => x) fun _ _ x => x) fun _ _ x => x)

theorem EV_Compare {l op r' pos} {Q : PV → Sto → Prop} (hm : behindInMarks op r' = false) (h : EV R r env l ρ σ fun a σ₁ => EV R r env r' ρ σ₁ fun b σ₂ => CMP R r op a b σ₂ Q) :
    EV R r env (.Compare l [op] [r'] pos) ρ σ Q := fun A hA s S F =>
  wpAny_Compare1 (wpAny_mono (h A hA s S F) (fun va s₁ ⟨_, S₁, g₁, h₁⟩ => wpAny_mono (h₁ A hA s₁ S₁ (F.go S g₁))
    (fun vb s₂ ⟨_, S₂, g₂, h₂⟩ => wpAny_mono (h₂ va vb rfl rfl A hA s₂ S₂) (fun _ _ p => Post.trans (g₁.trans g₂) p) fun _ _ x => x) fun _ _ x => x) fun _ _ x => x) hm

noncomputable def boolQ (Q : Bool → Sto → Prop) : PV → Sto → Prop := fun c σ => match c with | .bool b => Q b σ | _ => False

theorem TS_Compare {l op r' pos} {Q : Bool → Sto → Prop} (hm : behindInMarks op r' = false) (h : EV R r env l ρ σ fun a σ₁ => EV R r env r' ρ σ₁ fun b σ₂ => CMP R r op a b σ₂ (boolQ Q)) :
    TS R r env (.Compare l [op] [r'] pos) ρ σ Q := fun A hA s S F =>
  wpAny_isTrue_Compare1 (wpAny_mono (h A hA s S F) (fun va s₁ ⟨_, S₁, g₁, h₁⟩ => wpAny_mono (h₁ A hA s₁ S₁ (F.go S g₁))
    (fun vb s₂ ⟨_, S₂, g₂, h₂⟩ => wpAny_mono (h₂ va vb rfl rfl A hA s₂ S₂) (fun c s₃ ⟨σ₃, S₃, g₃, h₃⟩ => by
      cases c <;> first | exact h₃.elim | skip
      exact wpAny_truthy_bool ⟨σ₃, S₃, (g₁.trans g₂).trans g₃, h₃⟩) fun _ _ x => x) fun _ _ x => x) fun _ _ x => x) hm

theorem TS_not {x pos} {Q : Bool → Sto → Prop} (h : TS R r env x ρ σ fun b σ => Q (!b) σ) : TS R r env (.UnaryOp .Not x pos) ρ σ Q := fun A hA s S F =>
  isTrue_not (wpAny_mono (h A hA s S F) (fun _ _ ⟨σ', S', g, q⟩ => ⟨σ', S', g, q⟩) fun _ _ x => x)

theorem TS_plain {e : Expr} {Q : Bool → Sto → Prop} (he : ∀ whole, isTrue e env whole = (do let v ← whole; standAt e.pos; holding [v] (truthy v)))
    (h : EV R r env e ρ σ fun a σ₁ => TRU R r a σ₁ Q) : TS R r env e ρ σ Q := fun A hA s S F => by
  show wpAny _ _ (isTrue e env (eval e env)) _ _ s
  rw [he]
  exact wpAny_bind (wpAny_mono (h A hA s S F) (fun va s₁ ⟨_, S₁, g₁, h₁⟩ => wpAny_bind (wpAny_standAt (wpAny_holding (wpAny_mono (h₁ va rfl A hA s₁ S₁) (fun _ _ p => Post.trans g₁ p) fun _ _ x => x)))) fun _ _ x => x)

theorem TS_and_nil {pos} {Q : Bool → Sto → Prop} (h : Q true σ) : TS R r env (.BoolOp .And [] pos) ρ σ Q := fun _ _ _ S _ => isTrue_and_nil (Post.now S h)
theorem TS_or_nil {pos} {Q : Bool → Sto → Prop} (h : Q false σ) : TS R r env (.BoolOp .Or [] pos) ρ σ Q := fun _ _ _ S _ => isTrue_or_nil (Post.now S h)

theorem TS_and {x rest pos} {Q : Bool → Sto → Prop} (h : TS R r env x ρ σ fun b σ₁ => if b then TS R r env (.BoolOp .And rest pos) ρ σ₁ Q else Q false σ₁) :
    TS R r env (.BoolOp .And (x :: rest) pos) ρ σ Q := fun A hA s S F => by
  refine isTrue_and (wpAny_mono (h A hA s S F) (fun b s₁ ⟨σ₁, S₁, g₁, h₁⟩ => ?_) fun _ _ x => x)
  cases b with
  | true => exact wpAny_mono (h₁ A hA s₁ S₁ (F.go S g₁)) (fun _ _ p => Post.trans g₁ p) fun _ _ x => x
  | false => exact ⟨σ₁, S₁, g₁, h₁⟩
theorem TS_or {x rest pos} {Q : Bool → Sto → Prop} (h : TS R r env x ρ σ fun b σ₁ => if b then Q true σ₁ else TS R r env (.BoolOp .Or rest pos) ρ σ₁ Q) :
    TS R r env (.BoolOp .Or (x :: rest) pos) ρ σ Q := fun A hA s S F => by
  refine isTrue_or (wpAny_mono (h A hA s S F) (fun b s₁ ⟨σ₁, S₁, g₁, h₁⟩ => ?_) fun _ _ x => x)
  cases b with
  | false => exact wpAny_mono (h₁ A hA s₁ S₁ (F.go S g₁)) (fun _ _ p => Post.trans g₁ p) fun _ _ x => x
  | true => exact ⟨σ₁, S₁, g₁, h₁⟩

theorem EV_IfExp {test body orelse pos} {Q : PV → Sto → Prop} (h : TS R r env test ρ σ fun b σ₁ => if b then EV R r env body ρ σ₁ Q else EV R r env orelse ρ σ₁ Q) :
    EV R r env (.IfExp test body orelse pos) ρ σ Q := fun A hA s S F => by
  refine IfExp_ (wpAny_mono (h A hA s S F) (fun b s₁ ⟨σ₁, S₁, g₁, h₁⟩ => ?_) fun _ _ x => x)
  cases b <;> exact wpAny_mono (h₁ A hA s₁ S₁ (F.go S g₁)) (fun _ _ p => Post.trans g₁ p) fun _ _ x => x

theorem ES_nil {pos} {Q : List PV → Sto → Prop} (h : Q [] σ) : ES R r env pos [] ρ σ Q := fun _ _ _ S _ => args_nil (Post.now S h)
theorem ES_cons {e rest pos} {Q : List PV → Sto → Prop} (he : starEach (e :: rest) env = (false, eval e env) :: starEach rest env)
    (h : EV R r env e ρ σ fun a σ₁ => ES R r env pos rest ρ σ₁ fun as σ₂ => Q (a :: as) σ₂) : ES R r env pos (e :: rest) ρ σ Q := fun A hA s S F =>
  args_cons (wpAny_mono (h A hA s S F) (fun v s₁ ⟨_, S₁, g₁, h₁⟩ => wpAny_mono (h₁ A hA s₁ S₁ (F.go S g₁)) (fun _ _ ⟨σ₂, S₂, g₂, h₂⟩ => ⟨σ₂, S₂, g₁.trans g₂, h₂⟩) fun _ _ x => x) fun _ _ x => x) he

/-- a new list goes onto the store -/
theorem St.newList {s : Shared} (S : St R σ s) (vs : List Value) :
    St R (σ.put s.heap.objs.size (vs.map pv)) { s with heap := s.heap.push { cls := .type "list", data := .seq vs.toArray } } ∧
    Go σ (σ.put s.heap.objs.size (vs.map pv)) s { s with heap := s.heap.push { cls := .type "list", data := .seq vs.toArray } } ∧ σ s.heap.objs.size = none := by
  have hno : s.heap.get? s.heap.objs.size = none := by
    cases h : s.heap.get? s.heap.objs.size with
    | none => rfl
    | some o => exact absurd (Heap.lt_size h) (Nat.lt_irrefl _)
  have hsig : σ s.heap.objs.size = none := by
    cases h : σ s.heap.objs.size with
    | none => rfl
    | some l =>
      obtain ⟨⟨vs, ⟨n, e⟩, _⟩, _⟩ := S.lists _ l h
      rw [hno] at e; cases e
  refine ⟨⟨fun b o e => Heap.get?_push_of_some _ (S.keep b o e), fun a l h => ?_, S.os, S.bare⟩, fun b o e q => ⟨Heap.get?_push_of_some _ e, ?_⟩, hsig⟩
  · by_cases ha : a = s.heap.objs.size
    · subst ha
      rw [Sto.put_self] at h; cases h
      refine ⟨⟨vs, ⟨0, Heap.get?_push_size _ rfl⟩, rfl⟩, ?_⟩
      cases h : R.h₀.get? s.heap.objs.size with
      | none => rfl
      | some o => rw [S.keep _ _ h] at hno; cases hno
    · rw [Sto.put_ne _ _ ha] at h
      obtain ⟨⟨ws, ⟨n, e⟩, hw⟩, hn⟩ := S.lists a l h
      exact ⟨⟨ws, ⟨n, Heap.get?_push_of_some _ e⟩, hw⟩, hn⟩
  · have : b ≠ s.heap.objs.size := Nat.ne_of_lt (Heap.lt_size e)
    rw [Sto.put_ne _ _ this]; exact q

theorem EV_List {elts pos} {Q : PV → Sto → Prop} (h : ES R r env pos elts ρ σ fun ps σ₁ => ps.length ≤ sizeLine ∧ ∀ a, σ₁ a = none → Q (.ref a) (σ₁.put a ps)) :
    EV R r env (.List elts pos) ρ σ Q := fun A hA s S F =>
  wpAny_List (wpAny_mono (h A hA s S F) (fun vs s₁ ⟨σ₁, S₁, g₁, h₁⟩ => ⟨by simpa using h₁.1, by
    obtain ⟨a, b, c⟩ := S₁.newList vs
    exact ⟨_, a, g₁.trans b, h₁.2 _ c⟩⟩) fun _ _ x => x)

theorem EV_Subscript {value slice pos} {Q : PV → Sto → Prop} (h : EV R r env value ρ σ fun a σ₁ => EV R r env slice ρ σ₁ fun b σ₂ => SUB R r value slice a b σ₂ Q) :
    EV R r env (.Subscript value slice pos) ρ σ Q := fun A hA s S F =>
  Subscript_ (wpAny_mono (h A hA s S F) (fun va s₁ ⟨_, S₁, g₁, h₁⟩ => wpAny_mono (h₁ A hA s₁ S₁ (F.go S g₁))
    (fun vb s₂ ⟨_, S₂, g₂, h₂⟩ => wpAny_mono (h₂ va vb rfl rfl A hA s₂ S₂) (fun _ _ p => Post.trans (g₁.trans g₂) p) fun _ _ x => x) fun _ _ x => x) fun _ _ x => x)
end

section
variable {R : Rn} {r : Nat} {env : Env} {ρ : Loc} {σ : Sto}

theorem EXS_nil {Q : FL → Loc → Sto → Prop} (h : Q .next ρ σ) : EXS R r env [] ρ σ Q := fun _ _ _ S F => wpAny_execs_nil ⟨ρ, σ, S, F, GoL.refl, h⟩
noncomputable def seqQ (R : Rn) (r : Nat) (env : Env) (rest : List Stmt) (Q : FL → Loc → Sto → Prop) : FL → Loc → Sto → Prop := fun f ρ σ => match f with | .next => EXS R r env rest ρ σ Q | f => Q f ρ σ
theorem EXS_cons {st rest} {Q : FL → Loc → Sto → Prop} (h : EX R r env st ρ σ (seqQ R r env rest Q)) : EXS R r env (st :: rest) ρ σ Q := fun A hA s S F => by
  refine wpAny_execs_cons (wpAny_mono (h A hA s S F) (fun f s₁ ⟨ρ₁, σ₁, S₁, F₁, g₁, h₁⟩ => ?_) fun _ _ x => x)
  cases f with
  | next => exact wpAny_mono (h₁ A hA s₁ S₁ F₁) (fun _ _ p => PostS.trans g₁ p) fun _ _ x => x
  | brk => exact ⟨ρ₁, σ₁, S₁, F₁, g₁, h₁⟩
  | cont => exact ⟨ρ₁, σ₁, S₁, F₁, g₁, h₁⟩
  | ret v => exact ⟨ρ₁, σ₁, S₁, F₁, g₁, h₁⟩

theorem EX_Return {e pos} {Q : FL → Loc → Sto → Prop} (h : EV R r env e ρ σ fun p σ₁ => Q (.ret p) ρ σ₁) : EX R r env (.Return (some e) pos) ρ σ Q := fun A hA s S F =>
  wpAny_Return_some (wpAny_mono (h A hA s S F) (fun _ _ ⟨σ₁, S₁, g₁, h₁⟩ => ⟨ρ, σ₁, S₁, F.go S g₁, g₁.l, h₁⟩) fun _ _ x => x)
theorem EX_Break {pos} {Q : FL → Loc → Sto → Prop} (h : Q .brk ρ σ) : EX R r env (.Break pos) ρ σ Q := fun _ _ _ S F => SiftDown.break_ ⟨ρ, σ, S, F, GoL.refl, h⟩
theorem EX_Continue {pos} {Q : FL → Loc → Sto → Prop} (h : Q .cont ρ σ) : EX R r env (.Continue pos) ρ σ Q := fun _ _ _ S F => SiftDown.continue_ ⟨ρ, σ, S, F, GoL.refl, h⟩

theorem EX_If {test body orelse pos} {Q : FL → Loc → Sto → Prop} (h : TS R r env test ρ σ fun b σ₁ => if b then EXS R r env body ρ σ₁ Q else EXS R r env orelse ρ σ₁ Q) :
    EX R r env (.If test body orelse pos) ρ σ Q := fun A hA s S F => by
  refine wpAny_If (wpAny_mono (h A hA s S F) (fun b s₁ ⟨σ₁, S₁, g₁, h₁⟩ => ?_) fun _ _ x => x)
  cases b <;> exact wpAny_mono (h₁ A hA s₁ S₁ (F.go S g₁)) (fun _ _ p => PostS.trans g₁.l p) fun _ _ x => x

theorem EX_Expr {e pos} {Q : FL → Loc → Sto → Prop} (hi : interactive env = false) (hs : swapsWith e none pos.line env = pure false)
    (h : EV R r env e ρ σ fun p σ₁ => p = .none ∧ Q .next ρ σ₁) : EX R r env (.Expr e pos) ρ σ Q := fun A hA s S F =>
  wpAny_Expr (wpAny_mono (h A hA s S F) (fun v s₁ ⟨σ₁, S₁, g₁, h₁⟩ => by
    have := pv_none h₁.1
    subst this
    exact ⟨ρ, σ₁, S₁, F.go S g₁, g₁.l, h₁.2⟩) fun _ _ x => x) hi hs

/-- a name is stored -/
noncomputable def EnvOk (env : Env) : Prop := (env.scope.kind == .class || (env.scope.kind == .module && env.locals != env.globals)) = false
theorem store {A : Around} {x : Str} {v : Value} {s : Shared} {Q : Unit → Shared → Prop} (he : EnvOk env) (hl : env.kindOf x = some .local) (S : St R σ s) (F : LocAt R env.locals ρ s)
    (h : ∀ s', St R σ s' → LocAt R env.locals (ρ.put x (pv v)) s' → GoL env.locals σ σ s s' → Q () s') : wpAny R.M A (storeName env x v) Q nope s := by
  obtain ⟨m, hn, hm⟩ := F.ns
  have hσ := S.notNs hn
  refine wpAny_storeName_local hl hn (fun h' hn' hs' => h _ ⟨fun b o e => ?_, fun a l q => ?_, S.os, S.bare⟩ ⟨⟨_, hn', fun y p hy => ?_⟩, F.new⟩ fun b o ne e q => ⟨(hs'.2 b ne).trans e, q⟩) he
  · have : b ≠ env.locals := fun z => by rw [z, F.new] at e; cases e
    exact (hs'.2 b this).trans (S.keep b o e)
  · have : a ≠ env.locals := fun z => by rw [z, hσ] at q; cases q
    obtain ⟨⟨vs, ⟨n, e⟩, hv⟩, hh⟩ := S.lists a l q
    exact ⟨⟨vs, ⟨n, (hs'.2 a this).trans e⟩, hv⟩, hh⟩
  · unfold Loc.put at hy
    by_cases hyx : y = x
    · simp only [hyx, if_true] at hy ⊢
      cases hy
      exact ⟨v, rfl, rfl⟩
    · simp only [hyx, if_false] at hy ⊢
      exact hm y p hy

theorem EX_Assign {x pos' value pos} {Q : FL → Loc → Sto → Prop} (he : EnvOk env) (hl : env.kindOf x = some .local) (hs : swapsWith value (some (.Name x pos')) pos.line env = pure false)
    (h : EV R r env value ρ σ fun p σ₁ => Q .next (ρ.put x p) σ₁) : EX R r env (.Assign [.Name x pos'] value pos) ρ σ Q := fun A hA s S F =>
  wpAny_Assign_Name (wpAny_mono (h A hA s S F) (fun v s₁ ⟨σ₁, S₁, g₁, h₁⟩ => store he hl S₁ (F.go S g₁) fun s₂ S₂ F₂ g₂ => ⟨_, σ₁, S₂, F₂, g₁.l.trans g₂, h₁⟩) fun _ _ x => x) hs

theorem EX_AssignSub {o i pos' value pos} {Q : FL → Loc → Sto → Prop} (hs : swapsWith value (some (.Subscript o i pos')) pos.line env = pure false)
    (h : EV R r env value ρ σ fun p σ₁ => EV R r env o ρ σ₁ fun a σ₂ => EV R r env i ρ σ₂ fun b σ₃ => SETI R r a b p σ₃ fun _ σ₄ => Q .next ρ σ₄) :
    EX R r env (.Assign [.Subscript o i pos'] value pos) ρ σ Q := fun A hA s S F =>
  wpAny_Assign_Subscript (wpAny_mono (h A hA s S F) (fun v s₁ ⟨_, S₁, g₁, h₁⟩ => wpAny_mono (h₁ A hA s₁ S₁ (F.go S g₁)) (fun a s₂ ⟨_, S₂, g₂, h₂⟩ =>
    wpAny_mono (h₂ A hA s₂ S₂ ((F.go S g₁).go S₁ g₂)) (fun b s₃ ⟨_, S₃, g₃, h₃⟩ => wpAny_mono (h₃ a b v rfl rfl rfl A hA s₃ S₃) (fun _ s₄ ⟨σ₄, S₄, g₄, h₄⟩ =>
      ⟨ρ, σ₄, S₄, (((F.go S g₁).go S₁ g₂).go S₂ g₃).go S₃ g₄, (((g₁.trans g₂).trans g₃).trans g₄).l, h₄⟩) fun _ _ x => x) fun _ _ x => x) fun _ _ x => x) fun _ _ x => x) hs

theorem EX_Aug {x pos' op value pos} {p : PV} {Q : FL → Loc → Sto → Prop} (he : EnvOk env) (hk : env.scope.kind = .function) (hl : env.kindOf x = some .local) (hp : ρ x = some p)
    (h : EV R r env value ρ σ fun b σ₁ => INP R r op p b σ₁ fun c σ₂ => Q .next (ρ.put x c) σ₂) : EX R r env (.AugAssign (.Name x pos') op value pos) ρ σ Q := fun A hA s S F => by
  obtain ⟨m, hn, hm⟩ := F.ns
  obtain ⟨v, hv, rfl⟩ := hm x p hp
  exact wpAny_AugAssign_Name (wpAny_loadName_local hk hl hn hv (wpAny_mono (h A hA s S F) (fun b s₁ ⟨_, S₁, g₁, h₁⟩ => wpAny_mono (h₁ v b rfl rfl A hA s₁ S₁) (fun c s₂ ⟨σ₂, S₂, g₂, h₂⟩ =>
    store he hl S₂ ((F.go S g₁).go S₁ g₂) fun s₃ S₃ F₃ g₃ => ⟨_, σ₂, S₃, F₃, (g₁.trans g₂).l.trans g₃, h₂⟩) fun _ _ x => x) fun _ _ x => x))

/-- while, by fuel -/
noncomputable def whileQ (R : Rn) (r : Nat) (env : Env) (test : Expr) (body orelse : List Stmt) (Q : FL → Loc → Sto → Prop) : Nat → Loc → Sto → Prop
  | 0, _, _ => False
  | k + 1, ρ, σ => TS R r env test ρ σ fun b σ₁ => if b then EXS R r env body ρ σ₁ fun f ρ' σ' => match f with
      | .next | .cont => whileQ R r env test body orelse Q k ρ' σ'
      | .brk => Q .next ρ' σ'
      | .ret v => Q (.ret v) ρ' σ'
    else EXS R r env orelse ρ σ₁ Q

theorem EX_While {test body orelse pos} {Q : FL → Loc → Sto → Prop} (k : Nat) (h : whileQ R r env test body orelse Q k ρ σ) : EX R r env (.While test body orelse pos) ρ σ Q := fun A hA s S F => by
  refine wpAny_While (codeAny_whileLoop (fun n s' => ∃ ρ' σ', St R σ' s' ∧ LocAt R env.locals ρ' s' ∧ GoL env.locals σ σ' s s' ∧ whileQ R r env test body orelse Q n ρ' σ') (fun n s' I => ?_) k ⟨ρ, σ, S, F, GoL.refl, h⟩)
  obtain ⟨ρ', σ', S', F', g', hW⟩ := I
  cases n with
  | zero => exact hW.elim
  | succ n =>
    refine wpAny_mono (hW A hA s' S' F') (fun b s₁ ⟨σ₁, S₁, g₁, h₁⟩ => ?_) fun _ _ x => x.elim
    cases b with
    | false =>
      simp only [Bool.false_eq_true, if_false] at h₁ ⊢
      exact wpAny_mono (h₁ A hA s₁ S₁ (F'.go S' g₁)) (fun f s₂ ⟨ρ₂, σ₂, S₂, F₂, g₂, h₂⟩ => ⟨ρ₂, σ₂, S₂, F₂, (g'.trans g₁.l).trans g₂, h₂⟩) fun _ _ x => x.elim
    | true =>
      simp only [if_true] at h₁ ⊢
      refine wpAny_mono (h₁ A hA s₁ S₁ (F'.go S' g₁)) (fun f s₂ ⟨ρ₂, σ₂, S₂, F₂, g₂, h₂⟩ => ?_) fun _ _ x => x.elim
      cases f with
      | next => exact ⟨n, Nat.lt_succ_self _, ρ₂, σ₂, S₂, F₂, (g'.trans g₁.l).trans g₂, h₂⟩
      | cont => exact ⟨n, Nat.lt_succ_self _, ρ₂, σ₂, S₂, F₂, (g'.trans g₁.l).trans g₂, h₂⟩
      | brk => exact ⟨ρ₂, σ₂, S₂, F₂, (g'.trans g₁.l).trans g₂, h₂⟩
      | ret v => exact ⟨ρ₂, σ₂, S₂, F₂, (g'.trans g₁.l).trans g₂, h₂⟩
end

/-! M3 -/

section
variable {R : Rn} {r : Nat} {env : Env} {ρ : Loc} {σ : Sto} {x y : Int} {a b : Str}

theorem BIN_add {Q : PV → Sto → Prop} (h : Q (.int (x + y)) σ) : BIN R r .Add (.int x) (.int y) σ Q := fun va vb ha hb A hA s S => by
  obtain ⟨t, rfl⟩ := pv_int ha; obtain ⟨u, rfl⟩ := pv_int hb; exact wpAny_add_int (Post.same S _ h)
theorem BIN_sub {Q : PV → Sto → Prop} (h : Q (.int (x - y)) σ) : BIN R r .Sub (.int x) (.int y) σ Q := fun va vb ha hb A hA s S => by
  obtain ⟨t, rfl⟩ := pv_int ha; obtain ⟨u, rfl⟩ := pv_int hb; exact SiftDown.sub_int (Post.same S _ h)
theorem BIN_mul {Q : PV → Sto → Prop} (hm : -(2 ^ 64) < y ∧ y < 2 ^ 64) (h : Q (.int (x * y)) σ) : BIN R r .Mult (.int x) (.int y) σ Q := fun va vb ha hb A hA s S => by
  obtain ⟨t, rfl⟩ := pv_int ha; obtain ⟨u, rfl⟩ := pv_int hb; exact PyProof.Rows.mul_int (Post.same S _ h) (IntMulOk.of_right (intBits_le_64 hm.1 hm.2))
theorem BIN_fdiv {Q : PV → Sto → Prop} (hy : y ≠ 0) (hs : y.natAbs < 1073741824) (h : Q (.int (x.fdiv y)) σ) : BIN R r .FloorDiv (.int x) (.int y) σ Q := fun va vb ha hb A hA s S => by
  obtain ⟨t, rfl⟩ := pv_int ha; obtain ⟨u, rfl⟩ := pv_int hb; exact floordiv_int hy (Post.same S _ h) (.inl (PyProof.noPylong_small hs))
theorem BIN_fmod {Q : PV → Sto → Prop} (hy : y ≠ 0) (h : Q (.int (x.fmod y)) σ) : BIN R r .Mod (.int x) (.int y) σ Q := fun va vb ha hb A hA s S => by
  obtain ⟨t, rfl⟩ := pv_int ha; obtain ⟨u, rfl⟩ := pv_int hb; exact mod_int' hy (Post.same S _ h)
theorem BIN_and {Q : PV → Sto → Prop} (h : Q (.int (Builtin.bitAnd x y)) σ) : BIN R r .BitAnd (.int x) (.int y) σ Q := fun va vb ha hb A hA s S => by
  obtain ⟨t, rfl⟩ := pv_int ha; obtain ⟨u, rfl⟩ := pv_int hb; exact and_int (Post.same S _ h)
theorem BIN_shr {Q : PV → Sto → Prop} (hy : 0 ≤ y) (h : Q (.int (x.fdiv (2 ^ y.toNat))) σ) : BIN R r .RShift (.int x) (.int y) σ Q := fun va vb ha hb A hA s S => by
  obtain ⟨t, rfl⟩ := pv_int ha; obtain ⟨u, rfl⟩ := pv_int hb; exact rshift_int hy (Post.same S _ h)
theorem BIN_pow {Q : PV → Sto → Prop} (hy : 0 ≤ y) (hy2 : y ≤ 1000000) (hx : x.natAbs < 2 ^ 64) (h : Q (.int (x ^ y.toNat)) σ) : BIN R r .Pow (.int x) (.int y) σ Q := fun va vb ha hb A hA s S => by
  obtain ⟨t, rfl⟩ := pv_int ha; obtain ⟨u, rfl⟩ := pv_int hb; exact pow_int_small hy hy2 hx (Post.same S _ h)
theorem BIN_cat {Q : PV → Sto → Prop} (hz : a.length + b.length ≤ sizeLine) (h : Q (.str (a ++ b)) σ) : BIN R r .Add (.str a) (.str b) σ Q := fun va vb ha hb A hA s S => by
  obtain ⟨t, rfl⟩ := pv_str ha; obtain ⟨u, rfl⟩ := pv_str hb; exact PyProof.Rows.add_str (fun _ _ => Post.same S _ h) hz
theorem INP_add {Q : PV → Sto → Prop} (h : Q (.int (x + y)) σ) : INP R r .Add (.int x) (.int y) σ Q := fun va vb ha hb A hA s S => by
  obtain ⟨t, rfl⟩ := pv_int ha; obtain ⟨u, rfl⟩ := pv_int hb; exact wpAny_iadd_int (Post.same S _ h)

theorem CMP_lt {Q : PV → Sto → Prop} (h : Q (.bool (decide (x < y))) σ) : CMP R r .Lt (.int x) (.int y) σ Q := fun va vb ha hb A hA s S => by
  obtain ⟨t, rfl⟩ := pv_int ha; obtain ⟨u, rfl⟩ := pv_int hb; exact wpAny_lt_int (Post.now S h)
theorem CMP_gt {Q : PV → Sto → Prop} (h : Q (.bool (decide (y < x))) σ) : CMP R r .Gt (.int x) (.int y) σ Q := fun va vb ha hb A hA s S => by
  obtain ⟨t, rfl⟩ := pv_int ha; obtain ⟨u, rfl⟩ := pv_int hb; exact PyProof.Rows.gt_int (Post.now S h)
theorem CMP_eq {Q : PV → Sto → Prop} (h : Q (.bool (decide (x = y))) σ) : CMP R r .Eq (.int x) (.int y) σ Q := fun va vb ha hb A hA s S => by
  obtain ⟨t, rfl⟩ := pv_int ha; obtain ⟨u, rfl⟩ := pv_int hb; exact PyProof.Rows.eq_int (Post.now S h)
theorem CMP_ne {Q : PV → Sto → Prop} (h : Q (.bool (!decide (x = y))) σ) : CMP R r .NotEq (.int x) (.int y) σ Q := fun va vb ha hb A hA s S => by
  obtain ⟨t, rfl⟩ := pv_int ha; obtain ⟨u, rfl⟩ := pv_int hb; exact PyProof.Rows.ne_int (Post.now S h)
theorem CMP_eqs {Q : PV → Sto → Prop} (h : Q (.bool (a == b)) σ) : CMP R r .Eq (.str a) (.str b) σ Q := fun va vb ha hb A hA s S => by
  obtain ⟨t, rfl⟩ := pv_str ha; obtain ⟨u, rfl⟩ := pv_str hb; exact PyProof.Rows.eq_str (Post.now S h)
theorem CMP_nes {Q : PV → Sto → Prop} (h : Q (.bool (a != b)) σ) : CMP R r .NotEq (.str a) (.str b) σ Q := fun va vb ha hb A hA s S => by
  obtain ⟨t, rfl⟩ := pv_str ha; obtain ⟨u, rfl⟩ := pv_str hb; exact PyProof.Rows.ne_str (Post.now S h)
theorem CMP_nenn {Q : PV → Sto → Prop} (h : Q (.bool false) σ) : CMP R r .NotEq .none .none σ Q := fun va vb ha hb A hA s S => by
  rw [pv_none ha, pv_none hb]; exact EqNone.ne_none_none (Post.now S h)
theorem CMP_isnot_none {Q : PV → Sto → Prop} (h : Q (.bool false) σ) : CMP R r .IsNot .none .none σ Q := fun va vb ha hb A hA s S => by
  rw [pv_none ha, pv_none hb]; exact isnot_none_none (Post.now S h)
theorem CMP_is_none {Q : PV → Sto → Prop} (h : Q (.bool true) σ) : CMP R r .Is .none .none σ Q := fun va vb ha hb A hA s S => by
  rw [pv_none ha, pv_none hb]; exact is_none_none (Post.now S h)
theorem CMP_isnot_bool {Q : PV → Sto → Prop} {c d : Bool} (h : Q (.bool (c != d)) σ) : CMP R r .IsNot (.bool c) (.bool d) σ Q := fun va vb ha hb A hA s S => by
  rw [pv_bool ha, pv_bool hb]; exact isnot_bool (Post.now S h)
theorem CMP_notin {Q : PV → Sto → Prop} (h : Q (.bool (!Txt.contains b a)) σ) : CMP R r .NotIn (.str a) (.str b) σ Q := fun va vb ha hb A hA s S => by
  obtain ⟨t, rfl⟩ := pv_str ha; obtain ⟨u, rfl⟩ := pv_str hb; exact SB.notContains (Post.now S h)

theorem TRU_bool {Q : Bool → Sto → Prop} {c : Bool} (h : Q c σ) : TRU R r (.bool c) σ Q := fun va ha A hA s S => by
  rw [pv_bool ha]; exact wpAny_truthy_bool (Post.now S h)

/-- the list at l -/
theorem St.list {l : Addr} {ps : List PV} {s : Shared} (S : St R σ s) (h : σ l = some ps) : ∃ vs : List Value, s.heap.PlainList l vs.toArray ∧ vs.map pv = ps := (S.lists l ps h).1

theorem St.upd {l : Addr} {ps : List PV} {s : Shared} {h' : Heap} (S : St R σ s) (h : σ l = some ps) {vs : List Value} (hp : h'.PlainList l vs.toArray) (hs : Heap.SameBut l s.heap h') {t : Nat} :
    St R (σ.put l (vs.map pv)) { s with heap := h', toks := t } ∧ Go σ (σ.put l (vs.map pv)) s { s with heap := h', toks := t } := by
  refine ⟨⟨fun b o e => ?_, fun a m q => ?_, S.os, S.bare⟩, fun b o e q => ?_⟩
  · have : b ≠ l := fun z => by rw [z, (S.lists l ps h).2] at e; cases e
    exact (hs.2 b this).trans (S.keep b o e)
  · by_cases ha : a = l
    · subst ha
      rw [Sto.put_self] at q; cases q
      exact ⟨⟨vs, hp, rfl⟩, (S.lists a ps h).2⟩
    · rw [Sto.put_ne _ _ ha] at q
      obtain ⟨⟨ws, ⟨n, e⟩, hw⟩, hn⟩ := S.lists a m q
      exact ⟨⟨ws, ⟨n, (hs.2 a ha).trans e⟩, hw⟩, hn⟩
  · have : b ≠ l := fun z => by rw [z, h] at q; cases q
    exact ⟨(hs.2 b this).trans e, by rw [Sto.put_ne _ _ this]; exact q⟩

theorem TRU_list {l : Addr} {ps : List PV} {Q : Bool → Sto → Prop} (hl : σ l = some ps) (hz : (ps.length : Int) < 2 ^ 62) (h : Q (!ps.isEmpty) σ) : TRU R r (.ref l) σ Q := fun va ha A hA s S => by
  rw [pv_ref ha]
  obtain ⟨vs, hp, hv⟩ := S.list hl
  have hlen : vs.length = ps.length := by rw [← hv, List.length_map]
  refine wpAny_truthy_list hp.isList ?_ ?_
  · rw [List.size_toArray, hlen]; omega
  · have : (!vs.toArray.isEmpty) = !ps.isEmpty := by
      rw [← hv]; cases vs <;> rfl
    rw [this]; exact Post.same S _ h

theorem SUB_list {value slice : Expr} {l : Addr} {ps : List PV} {k : Int} {p : PV} {Q : PV → Sto → Prop} (hl : σ l = some ps) (h0 : 0 ≤ k) (hp : ps[k.toNat]? = some p) (hz : k < 2 ^ 63)
    (hs : ∀ u, subscripted slice false (.ref l) (.int k u) = operate [.ref l, .int k u] (getItem (.ref l) (.int k u))) (h : Q p σ) : SUB R r value slice (.ref l) (.int k) σ Q := fun va vb ha hb A hA s S => by
  rw [pv_ref ha]; obtain ⟨u, rfl⟩ := pv_int hb
  obtain ⟨vs, hpl, hv⟩ := S.list hl
  rw [← hv, List.getElem?_map] at hp
  cases hx : vs[k.toNat]? with
  | none => rw [hx] at hp; cases hp
  | some v =>
    rw [hx] at hp; cases hp
    exact tail_any hpl.isList.typeIs slot_list_getitem.lookup (wpAny_getItem_list hpl.isList h0 hz (by simpa using hx) (Post.now S h)) (hs u)

theorem SUB_str {value slice : Expr} {k : Int} {c : Nat} {Q : PV → Sto → Prop} (h0 : 0 ≤ k) (hc : a.cps[k.toNat]? = some c) (hz : k < 2 ^ 63)
    (hs : ∀ t u, subscripted slice false (.str a t) (.int k u) = operate [.str a t, .int k u] (getItem (.str a t) (.int k u))) (h : Q (.str ⟨#[c]⟩) σ) : SUB R r value slice (.str a) (.int k) σ Q := fun va vb ha hb A hA s S => by
  obtain ⟨t, rfl⟩ := pv_str ha; obtain ⟨u, rfl⟩ := pv_int hb
  refine tail_any (typeIs_str _ a t) F.slot_str_getitem.lookup (P.getItem_str ?_ ?_ (Post.same S _ h)) (hs t u)
  · simp; omega
  · have hlt : k.toNat < a.length := by
      have := (Array.getElem?_eq_some_iff.mp hc).1
      exact this
    have : seqIndex? k a.length = some k.toNat := by
      unfold seqIndex?
      have h1 : ¬ k < 0 := by omega
      simp only [h1, if_false]
      rw [if_pos]
      simp; omega
    rw [this]; exact hc

theorem SETI_list {l : Addr} {ps : List PV} {k : Int} {p : PV} {Q : Unit → Sto → Prop} (hl : σ l = some ps) (h0 : 0 ≤ k) (hk : k < ps.length) (hz : k < 2 ^ 63) (h : Q () (σ.put l (ps.set k.toNat p))) :
    SETI R r (.ref l) (.int k) p σ Q := fun va vb vc ha hb hc A hA s S => by
  rw [pv_ref ha]; obtain ⟨u, rfl⟩ := pv_int hb
  obtain ⟨vs, ⟨n, hpl⟩, hv⟩ := S.list hl
  subst hc
  have hlen : vs.length = ps.length := by rw [← hv, List.length_map]
  have hkn : k.toNat < vs.length := by omega
  refine W.ki_setAt hpl h0 hz (by rw [List.size_toArray]; omega) ?_
  have key : (s.heap.update l (Obj.mapSeq (·.setIfInBounds k.toNat vc))).PlainList l (vs.set k.toNat vc).toArray := by
    have q := PySem.IsL.update hpl (·.setIfInBounds k.toNat vc)
    have e : vs.toArray.setIfInBounds k.toNat vc = (vs.set k.toNat vc).toArray := by apply Array.toList_inj.mp; simp
    exact ⟨_, by rw [e] at q; exact q⟩
  obtain ⟨a, b⟩ := S.upd (t := s.toks) hl key (Heap.SameBut.update ..)
  refine ⟨_, a, b, ?_⟩
  have : (vs.set k.toNat vc).map pv = ps.set k.toNat (pv vc) := by rw [← hv, List.map_set]
  rw [this]; exact h

/-- list methods -/
noncomputable def METH (R : Rn) (r : Nat) (id : String) (a : PV) (args : List PV) (σ : Sto) (Q : PV → Sto → Prop) : Prop :=
  ∀ va vals, pv va = a → vals.map pv = args → Tr R r (call (.builtin id) (va :: vals)) pv σ Q

theorem METH_append {l : Addr} {ps : List PV} {p : PV} {Q : PV → Sto → Prop} (hl : σ l = some ps) (hz : ps.length ≤ sizeLine) (h : Q .none (σ.put l (ps ++ [p]))) : METH R r "list.append" (.ref l) [p] σ Q := fun va vals ha hv A hA s S => by
  rw [pv_ref ha]
  obtain ⟨v, rfl⟩ : ∃ v, vals = [v] := by
    cases vals with
    | nil => cases hv
    | cons v r => cases r with
      | nil => exact ⟨v, rfl⟩
      | cons => cases hv
  cases hv
  obtain ⟨vs, ⟨n, hpl⟩, hv⟩ := S.list hl
  have hlen : vs.length = ps.length := by rw [← hv, List.length_map]
  refine append_at hpl (fun h' hs ho' => ?_) (by rw [List.size_toArray]; omega)
  have e : vs.toArray.push v = (vs ++ [v]).toArray := by apply Array.toList_inj.mp; simp
  rw [e] at ho'
  obtain ⟨a, b⟩ := S.upd (t := s.toks) hl ⟨_, ho'⟩ hs
  refine ⟨_, a, b, ?_⟩
  have : (vs ++ [v]).map pv = ps ++ [pv v] := by rw [← hv, List.map_append]; rfl
  rw [this]; exact h

theorem METH_pop {l : Addr} {ps : List PV} {p : PV} {Q : PV → Sto → Prop} (hl : σ l = some (ps ++ [p])) (hz : ps.length + 1 ≤ sizeLine) (h : Q p (σ.put l ps)) : METH R r "list.pop" (.ref l) [] σ Q := fun va vals ha hv A hA s S => by
  rw [pv_ref ha]
  obtain rfl : vals = [] := by cases vals with | nil => rfl | cons => cases hv
  obtain ⟨vs, ⟨n, hpl⟩, hv⟩ := S.list hl
  obtain ⟨us, v, rfl⟩ : ∃ us v, vs = us ++ [v] := by
    rcases List.eq_nil_or_concat vs with h | ⟨us, v, h⟩
    · subst h; simp at hv
    · exact ⟨us, v, by simpa using h⟩
  have h2 : us.map pv = ps ∧ pv v = p := by
    rw [List.map_append] at hv
    obtain ⟨x, y⟩ := List.append_inj' hv rfl
    exact ⟨x, by simpa using y⟩
  obtain ⟨rfl, rfl⟩ := h2
  have hk : (us ++ [v]).toArray.size - 1 = us.length := by rw [List.size_toArray, List.length_append]; rfl
  have hy : (us ++ [v]).toArray[(us ++ [v]).toArray.size - 1]? = some v := by rw [hk]; simp
  have hz' : (us ++ [v]).toArray.size ≤ sizeLine := by rw [List.size_toArray, List.length_append]; simpa using hz
  refine call_meets F.slot_list_pop ⟨_, hpl, rfl⟩ F.entry_list_pop (F.args_list_pop_1 _) (MeetsSeq.list_pop_last l _ n v hy hz') ⟨hpl, ?_⟩
  have key : (s.heap.update l (Obj.mapSeq (·.eraseIdxIfInBounds ((us ++ [v]).toArray.size - 1)))).PlainList l us.toArray := by
    have q := PySem.IsL.update hpl (·.eraseIdxIfInBounds ((us ++ [v]).toArray.size - 1))
    have e : (us ++ [v]).toArray.eraseIdxIfInBounds ((us ++ [v]).toArray.size - 1) = us.toArray := by
      rw [hk, W.kl_erase, List.append_nil]
    exact ⟨_, by rw [e] at q; exact q⟩
  obtain ⟨a, b⟩ := S.upd (t := s.toks) hl key (Heap.SameBut.update ..)
  exact ⟨_, a, b, h⟩

end

/-! M4 -/

section
variable {R : Rn} {r : Nat} {env : Env} {ρ : Loc} {σ : Sto} {x y : Int} {a b : Str}

theorem St.dictNone {l : Addr} {ps : List PV} {s : Shared} (S : St R σ s) (h : σ l = some ps) : s.TypeIs (.ref l) "list" ∧ ∀ a, Value.ref l = .ref a → ∃ ob, s.heap.get? a = some ob ∧ ob.dict = none := by
  obtain ⟨vs, hp, _⟩ := S.list h
  refine ⟨hp.isList.typeIs, fun a e => ?_⟩
  cases e
  obtain ⟨n, e⟩ := hp
  exact ⟨_, e, rfl⟩

theorem EV_list0 {o : Expr} {name : Str} {apos pos : Pos} {id : String} {Q : PV → Sto → Prop} (hbase : attributeBase o name env (eval o env) = eval o env) (hline : (apos.endLine == pos.line) = true)
    (slot : Slot "list" name id) (hty : typeOf (.builtin id) = pure (.type "method_descriptor"))
    (h : EV R r env o ρ σ fun a σ₁ => ∃ l ps, a = .ref l ∧ σ₁ l = some ps ∧ METH R r id (.ref l) [] σ₁ Q) :
    EV R r env (.Call (.Attribute o name apos) [] [] pos) ρ σ Q := fun A hA s S F => by
  refine wpAny_Call_method hbase rfl hline PySem.F.plainAttrs_list slot hty (wpAny_mono (h A hA s S F) (fun v s₁ ⟨σ₁, S₁, g₁, l, ps, e, hl, h₁⟩ => ?_) fun _ _ x => x)
  rw [pv_ref e]
  refine ⟨(S₁.dictNone hl).1, (S₁.dictNone hl).2, callWith_method0 ?_⟩
  exact wpAny_mono (h₁ (.ref l) [] rfl rfl A hA s₁ S₁) (fun _ _ p => Post.trans g₁ p) fun _ _ x => x

theorem EV_list1 {o e : Expr} {name : Str} {apos pos : Pos} {id : String} {Q : PV → Sto → Prop} (hbase : attributeBase o name env (eval o env) = eval o env) (hs : starEach [e] env = [(false, eval e env)]) (hline : (apos.endLine == pos.line) = true)
    (slot : Slot "list" name id) (hty : typeOf (.builtin id) = pure (.type "method_descriptor"))
    (h : EV R r env o ρ σ fun a σ₁ => ∃ l ps, a = .ref l ∧ σ₁ l = some ps ∧ EV R r env e ρ σ₁ fun b σ₂ => METH R r id (.ref l) [b] σ₂ Q) :
    EV R r env (.Call (.Attribute o name apos) [e] [] pos) ρ σ Q := fun A hA s S F => by
  refine wpAny_Call_method hbase (by rw [hs]; rfl) hline PySem.F.plainAttrs_list slot hty (wpAny_mono (h A hA s S F) (fun v s₁ ⟨σ₁, S₁, g₁, l, ps, eq, hl, h₁⟩ => ?_) fun _ _ x => x)
  rw [pv_ref eq]
  refine ⟨(S₁.dictNone hl).1, (S₁.dictNone hl).2, callWith_method1 (e := e) (rest := []) (args_cons (rest := []) (wpAny_mono (h₁ A hA s₁ S₁ (F.go S g₁)) (fun vb s₂ ⟨σ₂, S₂, g₂, h₂⟩ => args_nil ?_) fun _ _ x => x) hs) hs rfl⟩
  exact wpAny_mono (h₂ (.ref l) [vb] rfl rfl A hA s₂ S₂) (fun _ _ p => Post.trans (g₁.trans g₂) p) fun _ _ x => x

theorem EV_str1 {o e : Expr} {name : Str} {apos pos : Pos} {id : String} {Q : PV → Sto → Prop} (hbase : attributeBase o name env (eval o env) = eval o env) (hs : starEach [e] env = [(false, eval e env)]) (hline : (apos.endLine == pos.line) = true)
    (slot : Slot "str" name id) (hty : typeOf (.builtin id) = pure (.type "method_descriptor"))
    (h : EV R r env o ρ σ fun a σ₁ => ∃ x, a = .str x ∧ EV R r env e ρ σ₁ fun b σ₂ => METH R r id (.str x) [b] σ₂ Q) :
    EV R r env (.Call (.Attribute o name apos) [e] [] pos) ρ σ Q := fun A hA s S F => by
  refine wpAny_Call_method hbase (by rw [hs]; rfl) hline PySem.F.plainAttrs_str slot hty (wpAny_mono (h A hA s S F) (fun v s₁ ⟨σ₁, S₁, g₁, x, eq, h₁⟩ => ?_) fun _ _ x => x)
  obtain ⟨t, rfl⟩ := pv_str eq
  refine ⟨typeIs_str _ _ _, (fun _ e => nomatch e), callWith_method1 (e := e) (rest := []) (args_cons (rest := []) (wpAny_mono (h₁ A hA s₁ S₁ (F.go S g₁)) (fun vb s₂ ⟨σ₂, S₂, g₂, h₂⟩ => args_nil ?_) fun _ _ x => x) hs) hs rfl⟩
  exact wpAny_mono (h₂ (.str x t) [vb] rfl rfl A hA s₂ S₂) (fun _ _ p => Post.trans (g₁.trans g₂) p) fun _ _ x => x

theorem EV_str2 {o e e' : Expr} {name : Str} {apos pos : Pos} {id : String} {Q : PV → Sto → Prop} (hbase : attributeBase o name env (eval o env) = eval o env) (hs : starEach [e, e'] env = [(false, eval e env), (false, eval e' env)]) (hs' : starEach [e'] env = [(false, eval e' env)]) (hline : (apos.endLine == pos.line) = true)
    (slot : Slot "str" name id) (hty : typeOf (.builtin id) = pure (.type "method_descriptor"))
    (h : EV R r env o ρ σ fun a σ₁ => ∃ x, a = .str x ∧ EV R r env e ρ σ₁ fun b σ₂ => EV R r env e' ρ σ₂ fun c σ₃ => METH R r id (.str x) [b, c] σ₃ Q) :
    EV R r env (.Call (.Attribute o name apos) [e, e'] [] pos) ρ σ Q := fun A hA s S F => by
  refine wpAny_Call_method hbase (by rw [hs]; rfl) hline PySem.F.plainAttrs_str slot hty (wpAny_mono (h A hA s S F) (fun v s₁ ⟨σ₁, S₁, g₁, x, eq, h₁⟩ => ?_) fun _ _ x => x)
  obtain ⟨t, rfl⟩ := pv_str eq
  refine ⟨typeIs_str _ _ _, (fun _ e => nomatch e), callWith_method1 (e := e) (rest := [e']) (args_cons (rest := [e']) (wpAny_mono (h₁ A hA s₁ S₁ (F.go S g₁)) (fun vb s₂ ⟨σ₂, S₂, g₂, h₂⟩ =>
    args_cons (rest := []) (wpAny_mono (h₂ A hA s₂ S₂ ((F.go S g₁).go S₁ g₂)) (fun vc s₃ ⟨σ₃, S₃, g₃, h₃⟩ => args_nil ?_) fun _ _ x => x) hs') fun _ _ x => x) (by rw [hs, hs'])) (by rw [hs, hs']) (by rw [hs']; rfl)⟩
  exact wpAny_mono (h₃ (.str x t) [vb, vc] rfl rfl A hA s₃ S₃) (fun _ _ p => Post.trans ((g₁.trans g₂).trans g₃) p) fun _ _ x => x

theorem one_of {vals : List Value} {p : PV} (h : vals.map pv = [p]) : ∃ v, vals = [v] ∧ pv v = p := by
  match vals, h with
  | [v], h => exact ⟨v, rfl, by simpa using h⟩
theorem two_of {vals : List Value} {p q : PV} (h : vals.map pv = [p, q]) : ∃ v u, vals = [v, u] ∧ pv v = p ∧ pv u = q := by
  match vals, h with
  | [v, u], h => exact ⟨v, u, rfl, by simpa using h⟩

theorem METH_find {Q : PV → Sto → Prop} (h : Q (.int (Txt.find a b)) σ) : METH R r "str.find" (.str a) [.str b] σ Q := fun va vals ha hv A hA s S => by
  obtain ⟨t, rfl⟩ := pv_str ha
  obtain ⟨v, rfl, hb⟩ := one_of hv
  obtain ⟨u, rfl⟩ := pv_str hb
  exact call_gives F.slot_str_find (typeIs_str _ _ _) F.entry_str_find (F.args_str_find_2 _ _) (gives_str_find a b t u) (Post.same S _ h)
theorem METH_find3 {Q : PV → Sto → Prop} (h : Q (.int (Txt.find3 a b x)) σ) : METH R r "str.find" (.str a) [.str b, .int x] σ Q := fun va vals ha hv A hA s S => by
  obtain ⟨t, rfl⟩ := pv_str ha
  obtain ⟨v, k, rfl, hb, hc⟩ := two_of hv
  obtain ⟨u, rfl⟩ := pv_str hb
  obtain ⟨u', rfl⟩ := pv_int hc
  exact call_gives F.slot_str_find (typeIs_str _ _ _) F.entry_str_find (F.args_str_find_3 _ _ _) (gives_str_find_from a b x t u u') (Post.same S _ h)

theorem EV_find {o e : Expr} {apos pos : Pos} {Q : PV → Sto → Prop} (hbase : attributeBase o "find" env (eval o env) = eval o env) (hs : starEach [e] env = [(false, eval e env)]) (hline : (apos.endLine == pos.line) = true)
    (h : EV R r env o ρ σ fun a σ₁ => ∃ x, a = .str x ∧ EV R r env e ρ σ₁ fun b σ₂ => METH R r "str.find" (.str x) [b] σ₂ Q) :
    EV R r env (.Call (.Attribute o "find" apos) [e] [] pos) ρ σ Q := EV_str1 hbase hs hline F.slot_str_find F.type_str_find h
theorem EV_find3 {o e e' : Expr} {apos pos : Pos} {Q : PV → Sto → Prop} (hbase : attributeBase o "find" env (eval o env) = eval o env) (hs : starEach [e, e'] env = [(false, eval e env), (false, eval e' env)]) (hs' : starEach [e'] env = [(false, eval e' env)]) (hline : (apos.endLine == pos.line) = true)
    (h : EV R r env o ρ σ fun a σ₁ => ∃ x, a = .str x ∧ EV R r env e ρ σ₁ fun b σ₂ => EV R r env e' ρ σ₂ fun c σ₃ => METH R r "str.find" (.str x) [b, c] σ₃ Q) :
    EV R r env (.Call (.Attribute o "find" apos) [e, e'] [] pos) ρ σ Q := EV_str2 hbase hs hs' hline F.slot_str_find F.type_str_find h
theorem EV_append {o e : Expr} {apos pos : Pos} {Q : PV → Sto → Prop} (hbase : attributeBase o "append" env (eval o env) = eval o env) (hs : starEach [e] env = [(false, eval e env)]) (hline : (apos.endLine == pos.line) = true)
    (h : EV R r env o ρ σ fun a σ₁ => ∃ l ps, a = .ref l ∧ σ₁ l = some ps ∧ EV R r env e ρ σ₁ fun b σ₂ => METH R r "list.append" (.ref l) [b] σ₂ Q) :
    EV R r env (.Call (.Attribute o "append" apos) [e] [] pos) ρ σ Q := EV_list1 hbase hs hline slot_list_append type_list_append h
theorem EV_pop {o : Expr} {apos pos : Pos} {Q : PV → Sto → Prop} (hbase : attributeBase o "pop" env (eval o env) = eval o env) (hline : (apos.endLine == pos.line) = true)
    (h : EV R r env o ρ σ fun a σ₁ => ∃ l ps, a = .ref l ∧ σ₁ l = some ps ∧ METH R r "list.pop" (.ref l) [] σ₁ Q) :
    EV R r env (.Call (.Attribute o "pop" apos) [] [] pos) ρ σ Q := EV_list0 hbase hline F.slot_list_pop F.type_list_pop h
theorem EV_join {o e : Expr} {apos pos : Pos} {Q : PV → Sto → Prop} (hbase : attributeBase o "join" env (eval o env) = eval o env) (hs : starEach [e] env = [(false, eval e env)]) (hline : (apos.endLine == pos.line) = true)
    (h : EV R r env o ρ σ fun a σ₁ => ∃ x, a = .str x ∧ EV R r env e ρ σ₁ fun b σ₂ => METH R r "str.join" (.str x) [b] σ₂ Q) :
    EV R r env (.Call (.Attribute o "join" apos) [e] [] pos) ρ σ Q := EV_str1 hbase hs hline F.slot_str_join F.type_str_join h
end

theorem len1 {α : Type} : ∀ {l : List α}, l.length = 1 → ∃ a, l = [a]
  | [a], _ => ⟨a, rfl⟩
theorem len2 {α : Type} {l : List α} (h : l.length = 2) : ∃ a b, l = [a, b] := by
  cases l with
  | nil => cases h
  | cons a l => obtain ⟨b, rfl⟩ := len1 (Nat.succ.inj h); exact ⟨a, b, rfl⟩
theorem len3 {α : Type} {l : List α} (h : l.length = 3) : ∃ a b c, l = [a, b, c] := by
  cases l with
  | nil => cases h
  | cons a l => obtain ⟨b, c, rfl⟩ := len2 (Nat.succ.inj h); exact ⟨a, b, c, rfl⟩
theorem len4 {α : Type} {l : List α} (h : l.length = 4) : ∃ a b c d, l = [a, b, c, d] := by
  cases l with
  | nil => cases h
  | cons a l => obtain ⟨b, c, d, rfl⟩ := len3 (Nat.succ.inj h); exact ⟨a, b, c, d, rfl⟩

/-! calls of the text's defs -/
structure Base (R : Rn) : Prop where
  g : R.h₀.Ns mainGlobals R.mg
  b : R.h₀.Ns builtinsNs R.mb
  lim : R.h₀.NoLimit
  bi : ∀ x : Str, x ≠ "__name__" → R.mb x = bootBuiltins x
  free : ∀ x : Str, x ∈ (["len", "sorted", "range", "reversed", "enumerate"] : List Str) → R.mg x = none
  fn : ∀ n ps body sc, P0.theDef n = some (ps, body, sc) → ∃ fa o pm cd doc, R.mg n = some (.ref fa) ∧ R.h₀.get? fa = some o ∧ o.data = .func (docDef n ps body sc pm cd doc) ∧ R.h₀.CodeRec cd n

noncomputable def CF (R : Rn) (r : Nat) (f : Str) (args : List PV) (σ : Sto) (Q : PV → Sto → Prop) : Prop := ∀ fa, R.mg f = some (.ref fa) → CL R r (.ref fa) args σ Q

section
variable {R : Rn} {r : Nat} {env : Env} {ρ : Loc} {σ : Sto}

theorem EV_Call {x : Str} {p pos : Pos} {e : Expr} {rest : List Expr} {d : Arguments × List Stmt × Scope} {Q : PV → Sto → Prop} (B : Base R) (hdef : P0.theDef x = some d) (hk : env.scope.kind = .function) (hx : env.kindOf x = some .globalImplicit) (hg : env.globals = mainGlobals)
    (hd : (x == ("__debug__" : Str)) = false) (he : starEach (e :: rest) env = (false, eval e env) :: starEach rest env)
    (hev : eval (.Call (.Name x p) (e :: rest) [] pos) env = (do callWith pos (← eval (.Name x p) env) [] (backTo pos (starEach (e :: rest) env)) (backToKw pos (keywordEach [] env))))
    (h : ES R r env pos (e :: rest) ρ σ fun ps σ₁ => CF R r x ps σ₁ Q) : EV R r env (.Call (.Name x p) (e :: rest) [] pos) ρ σ Q := fun A hA s S F => by
  obtain ⟨ps, body, sc⟩ := d
  obtain ⟨fa, o, pm, cd, doc, h1, h2, h3, h4⟩ := B.fn x ps body sc hdef
  refine Call_ (Name_function_global hk hx (loadGlobal_global (mg := R.mg) (by rw [hg]; exact B.g.keeps S.keep) h1 (callWith_def h3 ?_ he)) hd) hev
  refine wpAny_mono (h A hA s S F) (fun vs s₁ ⟨σ₁, S₁, g₁, h₁⟩ => ⟨S₁.keep _ _ h2, ?_⟩) fun _ _ x => x
  exact wpAny_mono (h₁ fa h1 vs rfl A hA s₁ S₁) (fun _ _ p => Post.trans g₁ p) fun _ _ x => x

noncomputable def Loc.of (l : List (Str × PV)) : Loc := fun y => l.lookup y
noncomputable def retv : FL → PV
  | .ret p => p
  | _ => .none

theorem lookup_pv (x : Str) : ∀ (l : List (Str × Value)), (l.map fun q => (q.1, pv q.2)).lookup x = (l.lookup x).map pv
  | [] => rfl
  | (y, v) :: l => by
    simp only [List.map_cons, List.lookup_cons, lookup_pv x l]
    cases x == y <;> rfl

theorem CF_of {x : Str} {ps : Arguments} {body : List Stmt} {sc : Scope} {args : List PV} {Q : PV → Sto → Prop} (B : Base R) (hdef : P0.theDef x = some (ps, body, sc))
    (hbind : ∀ pm cd doc (vals : List Value), vals.length = args.length → bindArgs (docDef x ps body sc pm cd doc) ⟨vals, []⟩ = pure ((ps.args.map (·.arg)).zip vals))
    (hloc : ((ps.args.map (·.arg)).all fun n => decide (sc.names.lookup n = some .local)) = true)
    (hco : sc.isCoroutine = false) (hgen : sc.isGenerator = false) (hk : sc.kind = .function) (hcell : (sc.names.all fun x => decide (x.2 ≠ .cell)) = true)
    (h : ∀ L a cd, EXS R r (envOf x sc L a cd) body (Loc.of ((ps.args.map (·.arg)).zip args).reverse) σ fun f _ σ' => Q (retv f) σ') : CF R (r + 1) x args σ Q := by
  intro fa hfa vals hv A hA s S
  obtain ⟨fa', o, pm, cd, doc, h1, h2, h3, h4⟩ := B.fn x ps body sc hdef
  rw [hfa] at h1; cases h1
  have hno : s.heap.get? s.heap.objs.size = none := by
    cases h : s.heap.get? s.heap.objs.size with
    | none => rfl
    | some o => exact absurd (Heap.lt_size h) (Nat.lt_irrefl _)
  have hnew : R.h₀.get? s.heap.objs.size = none := by
    cases h : R.h₀.get? s.heap.objs.size with
    | none => rfl
    | some o => rw [S.keep _ _ h] at hno; cases hno
  have hlen : vals.length = args.length := by rw [← hv, List.length_map]
  refine wpAny_call (call_plain_ret (by have := hA.dep; omega) (S.keep _ _ h2) h3 (B.lim.keeps S.keep) (h4.keeps S.keep) (hbind pm cd doc vals hlen) ?_ (fun h₁ F₁ => ?_) hco hgen hk ?_)
  · intro q hq
    exact of_decide_eq_true (List.all_eq_true.mp hloc q.1 (List.of_mem_zip hq).1)
  · have hA' : Room R.top r (A.deeper (envOf x sc s.heap.objs.size fa cd)) := ⟨hA.hd, by have := hA.dep; show A.depth + 1 + r < _; omega, by have := hA.un; show A.units + 3 + 8 * r + 200 < _; omega, by
      obtain ⟨pre, e, hl⟩ := hA.fr
      exact ⟨_ :: pre, Around.frames_deeper e, by show pre.length + 1 + 302 ≤ A.depth + 1; omega⟩⟩
    have S₁ : St R σ { s with heap := h₁, toks := s.toks + ((ps.args.map (·.arg)).zip vals).length } :=
      ⟨fun b o e => F₁.keep _ _ (S.keep b o e), fun a l q => by
        obtain ⟨⟨vs, ⟨n, e⟩, hw⟩, hn⟩ := S.lists a l q
        exact ⟨⟨vs, ⟨n, F₁.keep _ _ e⟩, hw⟩, hn⟩, S.os, S.bare⟩
    have L₁ : LocAt R (envOf x sc s.heap.objs.size fa cd).locals (Loc.of ((ps.args.map (·.arg)).zip args).reverse) { s with heap := h₁, toks := s.toks + ((ps.args.map (·.arg)).zip vals).length } := by
      refine ⟨⟨_, F₁.ns, fun y p hy => ?_⟩, hnew⟩
      have e : ((ps.args.map (·.arg)).zip args).reverse = (((ps.args.map (·.arg)).zip vals).reverse.map fun q => (q.1, pv q.2)) := by
        rw [List.map_reverse, ← hv, List.zip_map_right]
        rfl
      unfold Loc.of at hy
      rw [e, lookup_pv] at hy
      cases hl : ((ps.args.map (·.arg)).zip vals).reverse.lookup y with
      | none => rw [hl] at hy; cases hy
      | some v => rw [hl] at hy; cases hy; exact ⟨v, rfl, rfl⟩
    refine wpAny_mono (h _ fa cd _ hA' _ S₁ L₁) (fun f s' ⟨ρ', σ', S', F', g', q'⟩ => ?_) fun _ _ x => x
    have hgo : Go σ σ' s s' := fun b o e q => g' b o (Nat.ne_of_lt (Heap.lt_size e)) (F₁.keep _ _ e) q
    cases f with
    | ret v => exact ⟨σ', S', hgo, q'⟩
    | next => exact ⟨σ', S', hgo, q'⟩
    | brk => exact ⟨σ', S', hgo, q'⟩
    | cont => exact ⟨σ', S', hgo, q'⟩
  · intro q hq
    exact of_decide_eq_true (List.all_eq_true.mp hcell q hq)
end

/-! M5 -/

section
variable {R : Rn} {r : Nat} {env : Env} {ρ : Loc} {σ : Sto}
noncomputable def Le (ρ' ρ : Loc) : Prop := ∀ x p, ρ' x = some p → ρ x = some p
theorem Le.refl : Le ρ ρ := fun _ _ h => h
theorem Le.nil : Le (Loc.of []) ρ := fun _ _ h => by cases h
theorem Le.cons {x : Str} {p : PV} {l : List (Str × PV)} (h : ρ x = some p) (t : Le (Loc.of l) ρ) : Le (Loc.of ((x, p) :: l)) ρ := fun y q hy => by
  unfold Loc.of at hy
  rw [List.lookup_cons] at hy
  cases hb : y == x with
  | true => rw [hb] at hy; cases hy; rw [eq_of_beq hb]; exact h
  | false => rw [hb] at hy; exact t y q hy
theorem LocAt.le {L : Addr} {ρ' : Loc} {s : Shared} (F : LocAt R L ρ s) (h : Le ρ' ρ) : LocAt R L ρ' s :=
  let ⟨m, hn, hm⟩ := F.ns; ⟨⟨m, hn, fun x p e => hm x p (h x p e)⟩, F.new⟩
theorem EXS_le {sts : List Stmt} {ρ' : Loc} {Q : FL → Loc → Sto → Prop} (h : Le ρ' ρ) (k : EXS R r env sts ρ' σ Q) : EXS R r env sts ρ σ Q := fun A hA s S F => k A hA s S (F.le h)
theorem EX_le {st : Stmt} {ρ' : Loc} {Q : FL → Loc → Sto → Prop} (h : Le ρ' ρ) (k : EX R r env st ρ' σ Q) : EX R r env st ρ σ Q := fun A hA s S F => k A hA s S (F.le h)
theorem TS_le {e : Expr} {ρ' : Loc} {Q : Bool → Sto → Prop} (h : Le ρ' ρ) (k : TS R r env e ρ' σ Q) : TS R r env e ρ σ Q := fun A hA s S F => k A hA s S (F.le h)
theorem EV_le {e : Expr} {ρ' : Loc} {Q : PV → Sto → Prop} (h : Le ρ' ρ) (k : EV R r env e ρ' σ Q) : EV R r env e ρ σ Q := fun A hA s S F => k A hA s S (F.le h)

noncomputable def loopQ (Q : FL → Loc → Sto → Prop) (J : Loc → Sto → Prop) : FL → Loc → Sto → Prop := fun f ρ' σ' => match f with
  | .next => J ρ' σ'
  | .cont => J ρ' σ'
  | .brk => Q .next ρ' σ'
  | .ret v => Q (.ret v) ρ' σ'
theorem loopQ_next {Q : FL → Loc → Sto → Prop} {J : Loc → Sto → Prop} (h : J ρ σ) : loopQ Q J .next ρ σ := h
theorem loopQ_cont {Q : FL → Loc → Sto → Prop} {J : Loc → Sto → Prop} (h : J ρ σ) : loopQ Q J .cont ρ σ := h
theorem loopQ_brk {Q : FL → Loc → Sto → Prop} {J : Loc → Sto → Prop} (h : Q .next ρ σ) : loopQ Q J .brk ρ σ := h
theorem loopQ_ret {Q : FL → Loc → Sto → Prop} {J : Loc → Sto → Prop} {v : PV} (h : Q (.ret v) ρ σ) : loopQ Q J (.ret v) ρ σ := h

theorem whileQ_le {test : Expr} {body orelse : List Stmt} {Q : FL → Loc → Sto → Prop} {ρ' : Loc} (h : Le ρ' ρ) : ∀ {k : Nat}, whileQ R r env test body orelse Q k ρ' σ → whileQ R r env test body orelse Q k ρ σ
  | 0, k => k
  | k + 1, w => TS.mono (TS_le h w) fun b σ₁ h₁ => by
    cases b with
    | false => exact EXS_le h h₁
    | true => exact EXS_le h h₁
theorem whileQ_up {test : Expr} {body orelse : List Stmt} {Q : FL → Loc → Sto → Prop} : ∀ {k n : Nat} {ρ : Loc} {σ : Sto}, whileQ R r env test body orelse Q k ρ σ → k ≤ n → whileQ R r env test body orelse Q n ρ σ
  | 0, _, _, _, w, _ => w.elim
  | k + 1, 0, _, _, _, h => absurd h (Nat.not_succ_le_zero _)
  | k + 1, n + 1, _, _, w, h => TS.mono w fun b σ₁ h₁ => by
    cases b with
    | false => exact h₁
    | true =>
      refine EXS.mono h₁ fun f ρ' σ' h' => ?_
      cases f with
      | next => exact whileQ_up h' (Nat.le_of_succ_le_succ h)
      | cont => exact whileQ_up h' (Nat.le_of_succ_le_succ h)
      | brk => exact h'
      | ret v => exact h'
/-- while by an invariant: data D, their names and store, a measure -/
theorem EX_WhileD {D : Type} {test : Expr} {body orelse : List Stmt} {pos : Pos} {Q : FL → Loc → Sto → Prop} (loc : D → Loc) (sto : D → Sto) (m : D → Nat) (P : D → Prop)
    (turn : ∀ d, P d → TS R r env test (loc d) (sto d) fun b σ₁ => if b then EXS R r env body (loc d) σ₁ (loopQ Q fun ρ' σ' => ∃ d', P d' ∧ m d' < m d ∧ Le (loc d') ρ' ∧ σ' = sto d') else EXS R r env orelse (loc d) σ₁ Q)
    (d : D) (hP : P d) (hle : Le (loc d) ρ) (hσ : σ = sto d) : EX R r env (.While test body orelse pos) ρ σ Q := by
  suffices H : ∀ n d, m d = n → P d → whileQ R r env test body orelse Q (n + 1) (loc d) (sto d) by
    subst hσ
    exact EX_le hle (EX_While (m d + 1) (H _ d rfl hP))
  intro n
  induction n using Nat.strongRecOn with
  | ind n ih =>
    intro d hn hd
    refine TS.mono (turn d hd) fun b σ₁ h₁ => ?_
    cases b with
    | false => exact h₁
    | true =>
      refine EXS.mono h₁ fun f ρ' σ' h' => ?_
      have go : (∃ d', P d' ∧ m d' < m d ∧ Le (loc d') ρ' ∧ σ' = sto d') → whileQ R r env test body orelse Q n ρ' σ' := by
        rintro ⟨d', p', l', e', rfl⟩
        have hk : whileQ R r env test body orelse Q (m d' + 1) (loc d') (sto d') := ih (m d') (by omega) d' rfl p'
        exact whileQ_up (whileQ_le e' hk) (by omega)
      cases f with
      | next => exact go h'
      | cont => exact go h'
      | brk => exact h'
      | ret v => exact h'
theorem seqQ_next {rest : List Stmt} {Q : FL → Loc → Sto → Prop} (h : EXS R r env rest ρ σ Q) : seqQ R r env rest Q .next ρ σ := h
theorem seqQ_ret {rest : List Stmt} {Q : FL → Loc → Sto → Prop} {p : PV} (h : Q (.ret p) ρ σ) : seqQ R r env rest Q (.ret p) ρ σ := h
theorem seqQ_brk {rest : List Stmt} {Q : FL → Loc → Sto → Prop} (h : Q .brk ρ σ) : seqQ R r env rest Q .brk ρ σ := h
theorem seqQ_cont {rest : List Stmt} {Q : FL → Loc → Sto → Prop} (h : Q .cont ρ σ) : seqQ R r env rest Q .cont ρ σ := h
theorem boolQ_ {Q : Bool → Sto → Prop} {b : Bool} (h : Q b σ) : boolQ Q (.bool b) σ := h
theorem dT {c : Prop} [Decidable c] {A B : Prop} (hc : c) (h : A) : if decide c = true then A else B := by rw [if_pos (decide_eq_true hc)]; exact h
theorem dF {c : Prop} [Decidable c] {A B : Prop} (hc : ¬ c) (h : B) : if decide c = true then A else B := by rw [if_neg (by simpa using hc)]; exact h
theorem dC {c : Prop} [Decidable c] {A B : Prop} (h : c → A) (k : ¬ c → B) : if decide c = true then A else B := by
  by_cases hc : c
  · exact dT hc (h hc)
  · exact dF hc (k hc)
theorem ndT {c : Prop} [Decidable c] {A B : Prop} (hc : ¬ c) (h : A) : if (!decide c) = true then A else B := by rw [if_pos (by simpa using hc)]; exact h
theorem ndF {c : Prop} [Decidable c] {A B : Prop} (hc : c) (h : B) : if (!decide c) = true then A else B := by rw [if_neg (by simpa using hc)]; exact h
theorem ndC {c : Prop} [Decidable c] {A B : Prop} (h : ¬ c → A) (k : c → B) : if (!decide c) = true then A else B := by
  by_cases hc : c
  · exact ndF hc (k hc)
  · exact ndT hc (h hc)
theorem bT {A B : Prop} (h : A) : if true = true then A else B := h
theorem bF {A B : Prop} (h : B) : if false = true then A else B := h
end

local macro_rules | `(tactic| walk_at "step") => `(tactic| first
  | with_reducible refine loopQ_next ?_ | with_reducible refine loopQ_cont ?_ | with_reducible refine loopQ_brk ?_ | with_reducible refine loopQ_ret ?_
  | with_reducible refine seqQ_next ?_ | with_reducible refine seqQ_ret ?_ | with_reducible refine seqQ_brk ?_ | with_reducible refine seqQ_cont ?_ | with_reducible refine boolQ_ ?_
  | with_reducible refine EXS_cons ?_ | with_reducible refine EXS_nil ?_
  | with_reducible refine EV_int ?_ | with_reducible refine EV_str ?_ | with_reducible refine EV_none ?_ | with_reducible refine EV_bool ?_
  | ((with_reducible refine' EV_local ?k1 ?k2 ?k3 ?_ ?k4); (case k1 => exact rfl); (case k2 => exact rfl); (case k3 => exact rfl); (case k4 => exact rfl))
  | with_reducible refine EV_BinOp ?_ | ((with_reducible refine EV_Compare ?_ ?_); iterate 1 exact rfl) | with_reducible refine EV_IfExp ?_ | with_reducible refine EV_Subscript ?_
  | ((with_reducible refine TS_Compare ?_ ?_); iterate 1 exact rfl) | with_reducible refine TS_not ?_ | with_reducible refine TS_and ?_ | with_reducible refine TS_or ?_ | with_reducible refine TS_and_nil ?_ | with_reducible refine TS_or_nil ?_
  | with_reducible refine BIN_add ?_ | with_reducible refine BIN_sub ?_ | ((with_reducible refine BIN_shr ?k1 ?_); (case k1 => decide)) | with_reducible refine BIN_and ?_
  | with_reducible refine INP_add ?_
  | with_reducible refine CMP_lt ?_ | with_reducible refine CMP_gt ?_ | with_reducible refine CMP_eq ?_
  | ((with_reducible refine EX_Assign ?_ ?_ ?_ ?_); iterate 3 exact rfl)
  | ((with_reducible refine EX_AssignSub ?_ ?_); iterate 1 exact rfl)
  | ((with_reducible refine' EX_Aug ?k1 ?k2 ?k3 ?k4 ?_); (case k1 => exact rfl); (case k2 => exact rfl); (case k3 => exact rfl); (case k4 => exact rfl))
  | with_reducible refine EX_If ?_ | with_reducible refine EX_Return ?_ | with_reducible refine EX_Break ?_ | with_reducible refine EX_Continue ?_
  | ((with_reducible refine EX_Expr ?_ ?_ ?_); iterate 2 exact rfl)
  | ((with_reducible refine dT ?k1 ?_); (case k1 => first | omega | assumption))
  | ((with_reducible refine dF ?k1 ?_); (case k1 => first | omega | assumption)))

local macro_rules | `(tactic| walk_at "walk") => `(tactic| repeat walk_at "step")
local macro_rules | `(tactic| walk_at "le") => `(tactic| repeat (first | exact Le.nil | (refine Le.cons ?_ ?_; first | exact rfl | exact congrArg (fun z => some (PV.int z)) (by omega))))

/-! M6 -/
section
variable {R : Rn} {r : Nat} {env : Env} {ρ : Loc} {σ : Sto}

theorem EV_CallB {x : Str} {id : String} {p pos : Pos} {e : Expr} {rest : List Expr} {Q : PV → Sto → Prop} (B : Base R) (hb : bootBuiltins x = some (.builtin id)) (hfree : x ∈ (["len", "sorted", "range", "reversed", "enumerate"] : List Str)) (hn : x ≠ "__name__")
    (hk : env.scope.kind = .function) (hx : env.kindOf x = some .globalImplicit) (hg : env.globals = mainGlobals) (hgb : env.builtins = builtinsNs)
    (hd : (x == ("__debug__" : Str)) = false) (he : starEach (e :: rest) env = (false, eval e env) :: starEach rest env) (hpl : (backTo pos (starEach rest env)).any (·.1) = false)
    (hev : eval (.Call (.Name x p) (e :: rest) [] pos) env = (do callWith pos (← eval (.Name x p) env) [] (backTo pos (starEach (e :: rest) env)) (backToKw pos (keywordEach [] env))))
    (h : ES R r env pos (e :: rest) ρ σ fun ps σ₁ => CL R r (.builtin id) ps σ₁ Q) : EV R r env (.Call (.Name x p) (e :: rest) [] pos) ρ σ Q := fun A hA s S F => by
  refine Call_ (Name_function_global hk hx (loadGlobal_builtin (mg := R.mg) (mb := R.mb) (by rw [hg]; exact B.g.keeps S.keep) (B.free x hfree) (by rw [hgb]; exact B.b.keeps S.keep) ((B.bi x hn).trans hb) (PyProof.Rows.callWith_builtin1 ?_ he hpl)) hd) hev
  refine wpAny_mono (h A hA s S F) (fun vs s₁ ⟨σ₁, S₁, g₁, h₁⟩ => ?_) fun _ _ x => x
  exact wpAny_mono (h₁ vs rfl A hA s₁ S₁) (fun _ _ p => Post.trans g₁ p) fun _ _ x => x

theorem CL_len {l : Addr} {ps : List PV} {Q : PV → Sto → Prop} (hl : σ l = some ps) (hz : ps.length < 1000000) (h : Q (.int ps.length) σ) : CL R r (.builtin "len") [.ref l] σ Q := fun vals hv A hA s S => by
  obtain ⟨v, rfl, hw⟩ := one_of hv
  rw [pv_ref hw]
  obtain ⟨vs, hp, hvs⟩ := S.list hl
  have hlen : vs.length = ps.length := by rw [← hvs, List.length_map]
  refine call_len_list hp.isList (by rw [List.size_toArray]; omega) ?_
  rw [List.size_toArray, hlen]
  exact Post.same S _ h
theorem CL_lens {a : Str} {Q : PV → Sto → Prop} (hz : a.length < 1000000) (h : Q (.int a.length) σ) : CL R r (.builtin "len") [.str a] σ Q := fun vals hv A hA s S => by
  obtain ⟨v, rfl, hw⟩ := one_of hv
  obtain ⟨t, rfl⟩ := pv_str hw
  exact P.len_str (by omega) (Post.same S _ h)

theorem EV_len {p pos : Pos} {e : Expr} {Q : PV → Sto → Prop} (B : Base R) (hk : env.scope.kind = .function) (hx : env.kindOf "len" = some .globalImplicit) (hg : env.globals = mainGlobals) (hgb : env.builtins = builtinsNs)
    (he : starEach [e] env = [(false, eval e env)]) (h : EV R r env e ρ σ fun a σ₁ => CL R r (.builtin "len") [a] σ₁ Q) : EV R r env (.Call (.Name "len" p) [e] [] pos) ρ σ Q :=
  EV_CallB B (by decide +kernel) (by decide) (by decide) hk hx hg hgb (by decide) he rfl rfl (ES_cons he (EV.mono h fun _ _ h => ES_nil h))
end
local macro_rules | `(tactic| walk_at "step2") => `(tactic| first
  | ((with_reducible refine EV_len (by assumption) ?_ ?_ ?_ ?_ ?_ ?_); iterate 5 exact rfl)
  | ((with_reducible refine EV_append ?_ ?_ ?_ ?_); iterate 3 exact rfl)
  | ((with_reducible refine EV_pop ?_ ?_ ?_); iterate 2 exact rfl)
  | ((with_reducible refine EV_find ?_ ?_ ?_ ?_); iterate 3 exact rfl)
  | ((with_reducible refine EV_find3 ?_ ?_ ?_ ?_ ?_); iterate 4 exact rfl)
  | ((with_reducible refine EV_join ?_ ?_ ?_ ?_); iterate 3 exact rfl)
  | ((with_reducible refine' EV_Call (by assumption) ?k0 ?k1 ?k2 ?k3 ?k4 ?k5 ?k6 ?_); (case k0 => exact rfl); (case k1 => exact rfl); (case k2 => exact rfl); (case k3 => exact rfl); (case k4 => exact rfl); (case k5 => exact rfl); (case k6 => exact rfl))
  | (with_reducible refine bT ?_) | (with_reducible refine bF ?_)
  | (with_reducible refine ES_nil ?_) | (with_reducible refine And.intro (rfl : PV.none = PV.none) ?_)
  | ((with_reducible refine BIN_mul ?k1 ?_); (case k1 => first | decide | (constructor <;> omega)))
  | ((with_reducible refine BIN_fdiv ?k1 ?k2 ?_); (case k1 => decide); (case k2 => decide))
  | ((with_reducible refine BIN_fmod ?k1 ?_); (case k1 => decide))
  | (with_reducible refine CMP_ne ?_) | (with_reducible refine CMP_eqs ?_) | (with_reducible refine CMP_nes ?_) | (with_reducible refine CMP_nenn ?_) | (with_reducible refine CMP_isnot_none ?_) | (with_reducible refine CMP_is_none ?_) | (with_reducible refine CMP_isnot_bool ?_)
  | (with_reducible refine TRU_bool ?_)
  | ((with_reducible refine ES_cons ?_ ?_); iterate 1 exact rfl))
local macro_rules | `(tactic| walk_at "walk") => `(tactic| repeat (first | walk_at "step" | walk_at "step2"))

/-! M7 -/
section
variable {R : Rn} {r : Nat} {env : Env} {ρ : Loc} {σ : Sto}

/-- the iterator it, its items still to come, in a statement that began at s₀ -/
noncomputable def Walker (R : Rn) (A : Around) (L : Addr) (σ₀ σ : Sto) (s₀ s : Shared) (it : Value) (n : Nat) (T : Nat → Value → Prop) : Prop :=
  ∃ I fp wr P Stt, it = .ref I ∧ Walks P0 R.w A I fp wr n P Stt ∧ Stt 0 s.heap ∧ (∀ b ∈ fp, σ b = none ∧ b ≠ L) ∧ (∀ b ∈ wr, R.h₀.get? b = none ∧ ∀ o, s₀.heap.get? b = some o → σ₀ b ≠ none) ∧ (∀ i h, Stt i h → ∀ b ∈ fp, ∃ o, h.get? b = some o) ∧ (∀ i v, i < n → P i v → T i v)

noncomputable def ITR (R : Rn) (r : Nat) (env : Env) (iter : Expr) (ρ : Loc) (σ : Sto) (K : List PV → Sto → Prop) : Prop :=
  ∀ A, Room R.top r A → ∀ s, St R σ s → LocAt R env.locals ρ s → wpAny R.M A (eval iter env) (fun v s₁ => wpAny R.M A (pyIter v) (fun it s₂ => ∃ items σ₂, St R σ₂ s₂ ∧ Go σ σ₂ s s₂ ∧
    Walker R A env.locals σ σ₂ s s₂ it items.length (fun i v => items[i]? = some (pv v)) ∧ K items σ₂) nope s₁) nope s

noncomputable def forQ (R : Rn) (r : Nat) (env : Env) (x : Str) (body orelse : List Stmt) (Q : FL → Loc → Sto → Prop) : List PV → Loc → Sto → Prop
  | [], ρ, σ => EXS R r env orelse ρ σ Q
  | p :: ps, ρ, σ => EXS R r env body (ρ.put x p) σ (loopQ Q fun ρ' σ' => forQ R r env x body orelse Q ps ρ' σ')

/-- objects away from wr stand -/
theorem St.away {s : Shared} {wr : List Addr} {h' : Heap} {tk : Nat} (S : St R σ s) (hσ : ∀ b ∈ wr, σ b = none) (hw : ∀ b ∈ wr, R.h₀.get? b = none) (hk : ∀ b o, b ∉ wr → s.heap.get? b = some o → h'.get? b = some o) :
    St R σ { s with heap := h', toks := tk } := by
  refine ⟨fun b o e => hk b o (fun hb => by rw [hw b hb] at e; cases e) (S.keep b o e), fun a l q => ?_, S.os, S.bare⟩
  obtain ⟨⟨vs, ⟨n, e⟩, hv⟩, hn⟩ := S.lists a l q
  exact ⟨⟨vs, ⟨n, hk a _ (fun hb => by rw [hσ a hb] at q; cases q) e⟩, hv⟩, hn⟩
theorem LocAt.away {L : Addr} {s : Shared} {wr : List Addr} {h' : Heap} {tk : Nat} (F : LocAt R L ρ s) (hL : ∀ b ∈ wr, b ≠ L) (hk : ∀ b o, b ∉ wr → s.heap.get? b = some o → h'.get? b = some o) :
    LocAt R L ρ { s with heap := h', toks := tk } := by
  obtain ⟨m, hn, hm⟩ := F.ns
  exact ⟨⟨m, hn.at' fun o e => hk L o (fun hb => hL L hb rfl) e, hm⟩, F.new⟩

theorem EX_For {x : Str} {px pos : Pos} {iter : Expr} {body orelse : List Stmt} {Q : FL → Loc → Sto → Prop} (he : EnvOk env) (hl : env.kindOf x = some .local) (hs : ∀ x, foldedSetIterable iter env x = pure x)
    (h : ITR R r env iter ρ σ fun items σ₁ => forQ R r env x body orelse Q items ρ σ₁) : EX R r env (.For (.Name x px) iter body orelse pos) ρ σ Q := fun A hA s S F => by
  refine wpAny_For (wpAny_mono (h A hA s S F) (fun v s₁ h₁ => wpAny_mono h₁ (fun it s₂ h₂ => ?_) fun _ _ x => x.elim) fun _ _ x => x.elim) hs
  obtain ⟨items, σ₂, S₂, g₂, ⟨I, fp, wr, P, Stt, rfl, W, st0, hfp, hwr, hex, hP⟩, hQ⟩ := h₂
  have hwr0 : ∀ b ∈ wr, R.h₀.get? b = none := fun b hb => (hwr b hb).1
  refine codeAny_forLoop (fun n s' => ∃ i ρ' σ', i ≤ items.length ∧ n = items.length + 1 - i ∧ St R σ' s' ∧ LocAt R env.locals ρ' s' ∧ GoL env.locals σ σ' s s' ∧ Stt i s'.heap ∧ (∀ b ∈ fp, σ' b = none ∧ b ≠ env.locals) ∧
    forQ R r env x body orelse Q (items.drop i) ρ' σ') (fun n s' hI => ?_) (items.length + 1) ⟨0, ρ, σ₂, Nat.zero_le _, rfl, S₂, F.go S g₂, g₂.l, st0, hfp, hQ⟩
  obtain ⟨i, ρ', σ', hi, rfl, S', F', g', st', hfp', hQ'⟩ := hI
  have hσw : ∀ b ∈ wr, σ' b = none := fun b hb => (hfp' b (W.sub b hb)).1
  have hLw : ∀ b ∈ wr, b ≠ env.locals := fun b hb => (hfp' b (W.sub b hb)).2
  by_cases hlt : i < items.length
  · refine W.item i s' _ _ hlt st' fun v h' tk hPv st₁ hk => ?_
    have S₁ : St R σ' { s' with heap := h', toks := tk } := S'.away hσw hwr0 hk
    have F₁ : LocAt R env.locals ρ' { s' with heap := h', toks := tk } := F'.away hLw hk
    have ev := hP i v hlt hPv
    have hd : items.drop i = pv v :: items.drop (i + 1) := by
      obtain ⟨hlt', e⟩ := List.getElem?_eq_some_iff.mp ev
      rw [List.drop_eq_getElem_cons hlt', e]
    rw [hd] at hQ'
    refine wpAny_assign_Name (wpAny_mono (store he hl S₁ F₁ (Q := fun _ s₃ => St R σ' s₃ ∧ LocAt R env.locals (ρ'.put x (pv v)) s₃ ∧ GoL env.locals σ' σ' { s' with heap := h', toks := tk } s₃) fun s₃ a b c => ⟨a, b, c⟩) (fun _ s₃ ⟨S₃, F₃, g₃⟩ => ?_) fun _ _ x => x.elim)
    refine wpAny_mono (hQ' A hA s₃ S₃ F₃) (fun f s₄ ⟨ρ₄, σ₄, S₄, F₄, g₄, h₄⟩ => ?_) fun _ _ x => x.elim
    have st₃ : Stt (i + 1) s₃.heap := W.frame _ _ _ st₁ fun b hb o e => (g₃ b o (hfp' b hb).2 e (hfp' b hb).1).1
    have st₄ : Stt (i + 1) s₄.heap := W.frame _ _ _ st₃ fun b hb o e => (g₄ b o (hfp' b hb).2 e (hfp' b hb).1).1
    have hfp₄ : ∀ b ∈ fp, σ₄ b = none ∧ b ≠ env.locals := fun b hb => by
      obtain ⟨o, e⟩ := hex _ _ st₃ b hb
      exact ⟨(g₄ b o (hfp' b hb).2 e (hfp' b hb).1).2, (hfp' b hb).2⟩
    have gg : GoL env.locals σ σ₄ s s₄ := fun b o ne e q => by
      obtain ⟨e', q'⟩ := g' b o ne e q
      have hbw : b ∉ wr := fun hb => (hwr b hb).2 o e q
      obtain ⟨e3, q3⟩ := g₃ b o ne (hk b o hbw e') q'
      exact g₄ b o ne e3 q3
    cases f with
    | next => exact ⟨items.length + 1 - (i + 1), by omega, i + 1, ρ₄, σ₄, hlt, rfl, S₄, F₄, gg, st₄, hfp₄, h₄⟩
    | cont => exact ⟨items.length + 1 - (i + 1), by omega, i + 1, ρ₄, σ₄, hlt, rfl, S₄, F₄, gg, st₄, hfp₄, h₄⟩
    | brk => exact ⟨ρ₄, σ₄, S₄, F₄, gg, h₄⟩
    | ret v => exact ⟨ρ₄, σ₄, S₄, F₄, gg, h₄⟩
  · obtain rfl : i = items.length := by omega
    refine W.done s' _ _ st' fun h' tk hk => ?_
    have S₁ : St R σ' { s' with heap := h', toks := tk } := S'.away hσw hwr0 hk
    have F₁ : LocAt R env.locals ρ' { s' with heap := h', toks := tk } := F'.away hLw hk
    rw [List.drop_length] at hQ'
    refine wpAny_mono (hQ' A hA _ S₁ F₁) (fun f s₄ ⟨ρ₄, σ₄, S₄, F₄, g₄, h₄⟩ => ⟨ρ₄, σ₄, S₄, F₄, fun b o ne e q => ?_, h₄⟩) fun _ _ x => x.elim
    obtain ⟨e', q'⟩ := g' b o ne e q
    have hbw : b ∉ wr := fun hb => (hwr b hb).2 o e q
    exact g₄ b o ne (hk b o hbw e') q'
end

/-! M8 -/
section
variable {R : Rn} {r : Nat} {env : Env} {ρ : Loc} {σ : Sto}

theorem St.fresh {s : Shared} (S : St R σ s) : s.heap.get? s.heap.objs.size = none ∧ R.h₀.get? s.heap.objs.size = none ∧ σ s.heap.objs.size = none := by
  have hno : s.heap.get? s.heap.objs.size = none := by
    cases h : s.heap.get? s.heap.objs.size with
    | none => rfl
    | some o => exact absurd (Heap.lt_size h) (Nat.lt_irrefl _)
  refine ⟨hno, ?_, ?_⟩
  · cases h : R.h₀.get? s.heap.objs.size with
    | none => rfl
    | some o => rw [S.keep _ _ h] at hno; cases hno
  · cases h : σ s.heap.objs.size with
    | none => rfl
    | some l =>
      obtain ⟨⟨vs, ⟨n, e⟩, _⟩, _⟩ := S.lists _ l h
      rw [hno] at e; cases e
theorem St.push {s : Shared} (S : St R σ s) (o : Obj) (t : Nat) : St R σ { s with heap := s.heap.push o, toks := t } :=
  ⟨fun b o' e => Heap.get?_push_of_some _ (S.keep b o' e), fun a l h => by
    obtain ⟨⟨ws, ⟨n, e⟩, hw⟩, hn⟩ := S.lists a l h
    exact ⟨⟨ws, ⟨n, Heap.get?_push_of_some _ e⟩, hw⟩, hn⟩, S.os, S.bare⟩
theorem Go.push {s : Shared} (o : Obj) (t : Nat) : Go σ σ s { s with heap := s.heap.push o, toks := t } := fun b o' e q => ⟨Heap.get?_push_of_some _ e, q⟩

theorem type_name {A : Around} {x : Str} {T : String} {p : Pos} {s : Shared} {Q : Value → Shared → Prop} {E : Value → Shared → Prop} (B : Base R) (S : St R σ s) (hb : bootBuiltins x = some (.type T)) (hfree : x ∈ (["len", "sorted", "range", "reversed", "enumerate"] : List Str)) (hn : x ≠ "__name__")
    (hk : env.scope.kind = .function) (hx : env.kindOf x = some .globalImplicit) (hg : env.globals = mainGlobals) (hgb : env.builtins = builtinsNs) (hd : (x == ("__debug__" : Str)) = false) (h : Q (.type T) s) :
    wpAny R.M A (eval (.Name x p) env) Q E s :=
  Name_function_global hk hx (loadGlobal_builtin (mg := R.mg) (mb := R.mb) (by rw [hg]; exact B.g.keeps S.keep) (B.free x hfree) (by rw [hgb]; exact B.b.keeps S.keep) ((B.bi x hn).trans hb) h) hd

noncomputable def rng (n : Nat) : List PV := (List.range n).map fun (i : Nat) => PV.int i

/-- an iterator that is a new object -/
theorem fresh_it {s s₁ : Shared} {σ₁ : Sto} (S : St R σ s) (S₁ : St R σ₁ s₁) (F : LocAt R env.locals ρ s) (g : Go σ σ₁ s s₁) :
    (∀ b ∈ [s₁.heap.objs.size], σ₁ b = none ∧ b ≠ env.locals) ∧ (∀ b ∈ [s₁.heap.objs.size], R.h₀.get? b = none ∧ ∀ o, s.heap.get? b = some o → σ b ≠ none) := by
  obtain ⟨f1, f2, f3⟩ := S₁.fresh
  refine ⟨fun b hb => ?_, fun b hb => ?_⟩ <;> obtain rfl := List.mem_singleton.mp hb
  · refine ⟨f3, fun z => ?_⟩
    obtain ⟨m, hn, _⟩ := (F.go S g).ns
    exact Nat.lt_irrefl _ (z ▸ hn.lt)
  · refine ⟨f2, fun o e q => ?_⟩
    rw [(g _ o e q).1] at f1; cases f1

theorem ITR_range1 {p pos : Pos} {e : Expr} {K : List PV → Sto → Prop} (B : Base R) (hk : env.scope.kind = .function) (hx : env.kindOf "range" = some .globalImplicit) (hg : env.globals = mainGlobals) (hgb : env.builtins = builtinsNs)
    (he : starEach [e] env = [(false, eval e env)]) (h : EV R r env e ρ σ fun a σ₁ => ∃ n : Nat, a = .int n ∧ n < 1000000 ∧ K (rng n) σ₁) : ITR R r env (.Call (.Name "range" p) [e] [] pos) ρ σ K := fun A hA s S F => by
  refine Call_ (type_name B S (T := "range") (by decide +kernel) (by decide) (by decide) hk hx hg hgb (by decide) (callWith_type1 (args_cons (rest := []) (wpAny_mono (h A hA s S F) (fun v s₁ ⟨σ₁, S₁, g₁, n, ev, hn, h₁⟩ => args_nil ?_) fun _ _ x => x) he) he rfl)) rfl
  obtain ⟨t, rfl⟩ := pv_int ev
  refine call_range_1 (wpAny_pyIter_range (IsRange.new ..) (small_one (by omega) (by omega) (by omega) (by omega)) ?_)
  have S₂ := S₁.push { cls := .type "range", data := .fields #[.int 0 s₁.toks, .int n t, .int 1 (s₁.toks + 1)] } (s₁.toks + 1 + 1)
  have g₂ := g₁.trans (Go.push { cls := .type "range", data := .fields #[.int 0 s₁.toks, .int n t, .int 1 (s₁.toks + 1)] } (s₁.toks + 1 + 1))
  have hf := fresh_it S S₂ F g₂
  have hlen : (rng n).length = n := by simp [rng]
  refine ⟨rng n, σ₁, S₂.push _ _, g₂.trans (Go.push _ _), ⟨_, _, _, _, _, rfl, by rw [hlen]; exact Walks.range hA.hd _ 0 1 n, ?_, hf.1, hf.2, ?_, ?_⟩, h₁⟩
  · show IsRangeIter _ _ _ _ _
    rw [rangeSize_one]
    have e1 : (if (0 : Int) < n then (n : Int) - 0 else 0) = (n : Int) - (0 : Nat) := by split <;> omega
    rw [e1]
    simp only [Int.natCast_zero, Int.zero_mul, Int.add_zero]
    exact Heap.get?_push_size _ rfl
  · intro i h hst b hb
    obtain rfl := List.mem_singleton.mp hb
    exact ⟨_, hst⟩
  · rintro i v hi ⟨t, rfl⟩
    rw [hlen] at hi
    simp [rng, hi, pv]

noncomputable def rsmall (a b c : Int) : Bool := Builtin.Range.rangeFitsLong a && Builtin.Range.rangeFitsLong b && Builtin.Range.rangeFitsLong c && Builtin.Range.rangeFitsLong (-c) && Builtin.Range.rangeFitsLong (a - c) && Builtin.Range.rangeFitsLong (Builtin.Range.rangeSize a b c)
theorem range_reversed_meets (ra : Addr) (a b c : Int) (t u v : Tok) (hc0 : ¬(!(Builtin.Range.rangeFitsLong a && Builtin.Range.rangeFitsLong b && Builtin.Range.rangeFitsLong c && Builtin.Range.rangeFitsLong (-c) && Builtin.Range.rangeFitsLong (a - c) && Builtin.Range.rangeFitsLong (Builtin.Range.rangeSize a b c))) = true) :
    Meets (Builtin.«range.__reversed__» ⟨[.ref ra], []⟩) (fun _ R s => s.heap.get? ra = some { cls := .type "range", dict := none, data := .fields #[.int a t, .int b u, .int c v], slots := #[] } ∧
      R (.ok (.ret (Value.ref s.heap.objs.size))) { s with heap := s.heap.push { cls := Value.type (if (Builtin.Range.rangeFitsLong a && Builtin.Range.rangeFitsLong b && Builtin.Range.rangeFitsLong c && Builtin.Range.rangeFitsLong (-c) && Builtin.Range.rangeFitsLong (a - c) && Builtin.Range.rangeFitsLong (Builtin.Range.rangeSize a b c)) = true then "range_iterator" else "longrange_iterator"), dict := none, data := .fields #[rawInt (a + (Builtin.Range.rangeSize a b c - 1) * c), rawInt (Builtin.Range.rangeSize a b c), rawInt (-c)], slots := #[] } }) :=
  .of_wp fun prog w A R s h => by obtain ⟨hp, g, d, tk, os⟩ := s; obtain ⟨hl, h⟩ := h; wp_walk; exact ⟨_, rfl, h⟩

theorem rangeSize_n (n : Nat) : Builtin.Range.rangeSize 0 n 1 = n := by rw [rangeSize_one]; split <;> omega
theorem rsmall_n (n : Nat) (hn : n < 1000000) : (Builtin.Range.rangeFitsLong 0 && Builtin.Range.rangeFitsLong n && Builtin.Range.rangeFitsLong 1 && Builtin.Range.rangeFitsLong (-1) && Builtin.Range.rangeFitsLong (0 - 1) && Builtin.Range.rangeFitsLong (Builtin.Range.rangeSize 0 n 1)) = true := by
  rw [rangeSize_n]
  simp only [Builtin.Range.rangeFitsLong, Bool.and_eq_true, decide_eq_true_eq]
  omega
theorem call_range_reversed {A : Around} {E : Value → Shared → Prop} {s : Shared} {ra : Addr} {n : Nat} {t u v : Tok} {Q : Value → Shared → Prop} (hr : IsRange s.heap ra 0 n 1 t u v) (hn : n < 1000000)
    (h : Q (.ref s.heap.objs.size) { s with heap := s.heap.push { cls := .type "range_iterator", data := .fields #[rawInt (0 + ((n : Int) - 1) * 1), rawInt n, rawInt (-1)] } }) :
    wpAny R.M A (call (.builtin "range.__reversed__") [.ref ra]) Q E s := by
  have hT : s.TypeIs (.ref ra) "range" := ⟨_, hr, rfl⟩
  refine call_meets F.slot_range_reversed hT F.entry_range_reversed (F.args_range_reversed_1 _) (range_reversed_meets ra 0 n 1 t u v (by rw [rsmall_n n hn]; exact Bool.false_ne_true)) ⟨hr, ?_⟩
  rw [rsmall_n n hn, rangeSize_n]
  exact h
theorem sub_ri_reversed : isSubtype (.type "range_iterator") (.type "reversed") = pure false := by rw [isSubtype_type]; kernel_rfl
theorem code_reversed_range {A : Around} {E : Value → Shared → Prop} {s : Shared} {ra : Addr} {n : Nat} {t u v : Tok} {Q₁ : Value → Shared → Prop} (hr : IsRange s.heap ra 0 n 1 t u v) (hn : n < 1000000)
    (h : Q₁ (.ref s.heap.objs.size) { s with heap := s.heap.push { cls := .type "range_iterator", data := .fields #[rawInt (0 + ((n : Int) - 1) * 1), rawInt n, rawInt (-1)] } }) :
    codeAny R.M A (.call (.builtin "reversed.__new__") ⟨[.type "reversed", .ref ra], []⟩) (wants Q₁ E) s := by
  have hT : s.TypeIs (.ref ra) "range" := ⟨_, hr, rfl⟩
  refine codeAny_of_tree ?_
  show wpAny _ A.in1 (do checkBuiltinCall "reversed.__new__" ⟨[.type "reversed", .ref ra], []⟩; again (.builtin "reversed.__new__" ⟨[.type "reversed", .ref ra], []⟩)) _ _ s
  refine wpAny_bind (wpAny_of_eq (F.newCall_reversed_1 _) (wpAny_pure ⟨plainId_quiet F.plain_reversed_new _, codeAny_builtin F.entry_reversed_new ?_⟩))
  rw [Around.under_plainId F.plain_reversed_new _]
  unfold Builtin.«reversed.__new__»
  refine wpAny_bind (wpAny_of_eq (newClass_reversed _) ?_)
  try dsimp only
  refine wpAny_bind (wpAny_of_eq (a := ()) (by first | rfl | kernel_rfl) ?_)
  refine wpAny_bind (wpAny_of_eq (a := ()) (by first | rfl | kernel_rfl) ?_)
  try dsimp only
  refine wpAny_bind (wpAny_specialOf hT F.slot_range_reversed.lookup ?_)
  try dsimp only
  refine wpAny_bind (wpAny_of_eq (F.slot_range_reversed.bind _) ?_)
  try dsimp only
  first
  | rw [if_neg (show ¬ ((Value.builtin "range.__reversed__" == Value.none) = true) from Bool.false_ne_true)]
  | (show wpAny _ _ (if (Value.builtin "range.__reversed__" == Value.none) = true then _ else _) _ _ _; rw [if_neg (show ¬ ((Value.builtin "range.__reversed__" == Value.none) = true) from Bool.false_ne_true)])
  refine wpAny_bind (wpAny_rule ?_)
  refine wpAny_bind (m := runValue (.call (.builtin "range.__reversed__") ⟨[.ref ra], []⟩)) (show wpAny _ _ (call (.builtin "range.__reversed__") [.ref ra]) _ _ _ from call_range_reversed hr hn ?_)
  first
  | exact wpAny_pure h
  | exact wpAny_bind (wpAny_pure (wpAny_pure h))
theorem call_reversed_range {A : Around} {E : Value → Shared → Prop} {s : Shared} {ra : Addr} {n : Nat} {t u v : Tok} {Q : Value → Shared → Prop} (hr : IsRange s.heap ra 0 n 1 t u v) (hn : n < 1000000)
    (h : Q (.ref s.heap.objs.size) { s with heap := s.heap.push { cls := .type "range_iterator", data := .fields #[rawInt (0 + ((n : Int) - 1) * 1), rawInt n, rawInt (-1)] } }) :
    wpAny R.M A (call (.type "reversed") [.ref ra]) Q E s := by
  refine callType_other (U := "range_iterator") (Q₁ := fun obj s₁ => obj = .ref s.heap.objs.size ∧ s₁ = { s with heap := s.heap.push { cls := .type "range_iterator", data := .fields #[rawInt (0 + ((n : Int) - 1) * 1), rawInt n, rawInt (-1)] } }) (by decide +kernel) F.create_reversed ⟨_, _, F.mro_reversed⟩ F.made_reversed sub_ri_reversed (F.typeCall_reversed_1 _) (code_reversed_range hr hn ⟨rfl, rfl⟩) ?_
  rintro obj s₁ ⟨rfl, rfl⟩
  exact ⟨⟨_, Heap.get?_push_size _ rfl, rfl⟩, h⟩

theorem ITR_revrange {p p' pos pos' : Pos} {e : Expr} {K : List PV → Sto → Prop} (B : Base R) (hk : env.scope.kind = .function) (hx : env.kindOf "range" = some .globalImplicit) (hx' : env.kindOf "reversed" = some .globalImplicit) (hg : env.globals = mainGlobals) (hgb : env.builtins = builtinsNs)
    (he : starEach [e] env = [(false, eval e env)]) (h : EV R r env e ρ σ fun a σ₁ => ∃ n : Nat, a = .int n ∧ n < 1000000 ∧ K (rng n).reverse σ₁) :
    ITR R r env (.Call (.Name "reversed" p') [.Call (.Name "range" p) [e] [] pos] [] pos') ρ σ K := fun A hA s S F => by
  refine Call_ (type_name B S (T := "reversed") (by decide +kernel) (by decide) (by decide) hk hx' hg hgb (by decide) (callWith_type1 (args_cons (rest := []) ?_ rfl) rfl rfl)) rfl
  refine Call_ (type_name B S (T := "range") (by decide +kernel) (by decide) (by decide) hk hx hg hgb (by decide) (callWith_type1 (args_cons (rest := []) (wpAny_mono (h A hA s S F) (fun v s₁ ⟨σ₁, S₁, g₁, n, ev, hn, h₁⟩ => args_nil ?_) fun _ _ x => x) he) he rfl)) rfl
  obtain ⟨t, rfl⟩ := pv_int ev
  refine call_range_1 (args_nil (call_reversed_range (IsRange.new ..) hn ?_))
  have S₂ := S₁.push { cls := .type "range", data := .fields #[.int 0 s₁.toks, .int n t, .int 1 (s₁.toks + 1)] } (s₁.toks + 1 + 1)
  have g₂ := g₁.trans (Go.push { cls := .type "range", data := .fields #[.int 0 s₁.toks, .int n t, .int 1 (s₁.toks + 1)] } (s₁.toks + 1 + 1))
  have hf := fresh_it S S₂ F g₂
  have hlen : (rng n).reverse.length = n := by simp [rng]
  refine wpAny_pyIter_rangeiter (Heap.get?_push_size _ rfl) ?_
  refine ⟨(rng n).reverse, σ₁, S₂.push _ _, g₂.trans (Go.push _ _), ⟨_, _, _, _, _, rfl, by rw [hlen]; exact Walks.range hA.hd _ (0 + ((n : Int) - 1) * 1) (-1) n, ?_, hf.1, hf.2, ?_, ?_⟩, h₁⟩
  · show IsRangeIter _ _ _ _ _
    simp only [Int.natCast_zero, Int.zero_mul, Int.add_zero, Int.sub_zero]
    exact Heap.get?_push_size _ rfl
  · intro i h hst b hb
    obtain rfl := List.mem_singleton.mp hb
    exact ⟨_, hst⟩
  · rintro i v hi ⟨t, rfl⟩
    rw [hlen] at hi
    rw [List.getElem?_reverse (by simpa [rng] using hi)]
    have hl2 : (rng n).length = n := by simp [rng]
    rw [hl2]
    have : n - 1 - i < n := by omega
    simp only [rng, List.getElem?_map, List.getElem?_range this, Option.map_some, pv]
    congr 2
    omega
end

/-! M9 -/
section
variable {R : Rn} {r : Nat} {env : Env} {ρ : Loc} {σ : Sto}

noncomputable def Sto.drop (σ : Sto) (a : Addr) : Sto := fun b => if b = a then none else σ b
theorem St.drop {s : Shared} (S : St R σ s) (a : Addr) : St R (σ.drop a) s := ⟨S.keep, fun b l h => S.lists b l (by
  unfold Sto.drop at h
  split at h
  · cases h
  · exact h), S.os, S.bare⟩
theorem Sto.drop_ne {a b : Addr} (h : b ≠ a) : (σ.drop a) b = σ b := by simp [Sto.drop, h]
theorem Sto.drop_self {a : Addr} : (σ.drop a) a = none := by simp [Sto.drop]
theorem Go.drop {σ₁ : Sto} {s s₁ : Shared} (g : Go σ σ₁ s s₁) (a : Addr) : Go σ (σ₁.drop a) s s₁ := fun b o e q => ⟨(g b o e q).1, by
  unfold Sto.drop; split
  · rfl
  · exact (g b o e q).2⟩

theorem ITR_list {iter : Expr} {K : List PV → Sto → Prop} (h : EV R r env iter ρ σ fun a σ₁ => ∃ l items, a = .ref l ∧ σ₁ l = some items ∧ K items (σ₁.drop l)) : ITR R r env iter ρ σ K := fun A hA s S F => by
  refine wpAny_mono (h A hA s S F) (fun v s₁ ⟨σ₁, S₁, g₁, l, items, e, hl, h₁⟩ => ?_) fun _ _ x => x
  rw [pv_ref e]
  obtain ⟨vs, hp, hv⟩ := S₁.list hl
  have hlen : vs.toArray.size = items.length := by rw [List.size_toArray, ← hv, List.length_map]
  obtain ⟨f1, f2, f3⟩ := S₁.fresh
  have hne : l ≠ s₁.heap.objs.size := fun z => by obtain ⟨n, e⟩ := hp; rw [z, f1] at e; cases e
  have hf := fresh_it S S₁ F g₁
  refine wpAny_pyIter_list hp.isList ⟨items, σ₁.drop l, (S₁.drop l).push _ _, (g₁.drop l).trans (Go.push _ _), ⟨_, _, _, _, _, rfl, by rw [← hlen]; exact Walks.list hA.hd _ l hne vs.toArray, ?_, ?_, hf.2, ?_, ?_⟩, h₁⟩
  · exact ⟨⟨_, Heap.get?_push_size _ rfl, rfl, rfl⟩, hp.isList.push _⟩
  · intro b hb
    rcases List.mem_cons.mp hb with rfl | hb
    · exact ⟨by rw [Sto.drop_ne hne.symm]; exact (hf.1 _ (.head _)).1, (hf.1 _ (.head _)).2⟩
    · obtain rfl := List.mem_singleton.mp hb
      refine ⟨Sto.drop_self, fun z => ?_⟩
      obtain ⟨m, hn, _⟩ := (F.go S g₁).ns
      have := S₁.notNs hn
      rw [← z, hl] at this; cases this
  · rintro i h ⟨⟨o, ho, _⟩, ⟨o', ho', _⟩⟩ b hb
    rcases List.mem_cons.mp hb with rfl | hb
    · exact ⟨_, ho⟩
    · obtain rfl := List.mem_singleton.mp hb
      exact ⟨_, ho'⟩
  · intro i v hi hv'
    rw [← hv, List.getElem?_map]
    have : vs[i]? = some v := by simpa using hv'
    rw [this]; rfl

theorem St.ext {s : Shared} {h' : Heap} (S : St R σ s) (he : Heap.ExtBut s.heap.objs.size s.heap h') : St R σ { s with heap := h' } ∧ Go σ σ s { s with heap := h' } := by
  have key : ∀ b o, s.heap.get? b = some o → h'.get? b = some o := fun b o e => he b o (Nat.ne_of_lt (Heap.lt_size e)) e
  exact ⟨⟨fun b o e => key _ _ (S.keep b o e), fun a l h => by
    obtain ⟨⟨ws, ⟨n, e⟩, hw⟩, hn⟩ := S.lists a l h
    exact ⟨⟨ws, ⟨n, key _ _ e⟩, hw⟩, hn⟩, S.os, S.bare⟩, fun b o e q => ⟨key _ _ e, q⟩⟩

/-- x, o[i] = (e1, e2) -/
theorem EX_AssignTup {x : Str} {px ps tpos vpos pos : Pos} {k k' : Nat} {o i e₁ e₂ : Expr} {Q : FL → Loc → Sto → Prop} (he : EnvOk env) (hl : env.kindOf x = some .local)
    (hs : swapsWithSole [.Tuple [.Name x px, .Subscript o i ps] k tpos] (.Tuple [e₁, e₂] k' vpos) pos.line env = pure false)
    (hw : swappedStores [.Tuple [.Name x px, .Subscript o i ps] k tpos] (.Tuple [e₁, e₂] k' vpos) env = pure none)
    (h1 : starEach [e₁, e₂] env = (false, eval e₁ env) :: starEach [e₂] env) (h2 : starEach [e₂] env = [(false, eval e₂ env)])
    (h : EV R r env e₁ ρ σ fun a σ₁ => EV R r env e₂ ρ σ₁ fun b σ₂ => EV R r env o (ρ.put x a) σ₂ fun c σ₃ => EV R r env i (ρ.put x a) σ₃ fun d σ₄ => SETI R r c d b σ₄ fun _ σ₅ => Q .next (ρ.put x a) σ₅) :
    EX R r env (.Assign [.Tuple [.Name x px, .Subscript o i ps] k tpos] (.Tuple [e₁, e₂] k' vpos) pos) ρ σ Q := fun A hA s S F => by
  refine PyProof.Rows.Assign_Tuple (wpAny_Tuple (args_cons (rest := [e₂]) (wpAny_mono (h A hA s S F) (fun va s₁ ⟨σ₁, S₁, g₁, q₁⟩ => args_cons (rest := []) (wpAny_mono (q₁ A hA s₁ S₁ (F.go S g₁)) (fun vb s₂ ⟨σ₂, S₂, g₂, q₂⟩ => args_nil ⟨by show 2 ≤ sizeLine; decide, ?_⟩) fun _ _ x => x) h2) fun _ _ x => x) h1)) hs hw
  have S₃ := S₂.push { cls := .type "tuple", data := .seq [va, vb].toArray } s₂.toks
  have g₃ := (g₁.trans g₂).trans (Go.push { cls := .type "tuple", data := .seq [va, vb].toArray } s₂.toks)
  refine assign_Tuple_tuple hA.hd ⟨_, Heap.get?_push_size _ rfl, rfl, _, rfl⟩ rfl rfl fun h' hx => ?_
  obtain ⟨S₄, g₄⟩ := S₃.ext hx
  refine assignInOrder_cons (wpAny_assign_Name (store he hl S₄ (F.go S (g₃.trans g₄)) fun s₅ S₅ F₅ g₅ => assignInOrder_cons ?_))
  show wpAny _ _ (assign (.Subscript o i ps) env vb) _ _ _
  rw [assign_Subscript]
  refine wpAny_bind (wpAny_holding (wpAny_mono (q₂ A hA s₅ S₅ F₅) (fun vc s₆ ⟨σ₆, S₆, g₆, q₆⟩ => ?_) fun _ _ x => x))
  refine wpAny_bind (wpAny_holding (wpAny_mono (q₆ A hA s₆ S₆ (F₅.go S₅ g₆)) (fun vd s₇ ⟨σ₇, S₇, g₇, q₇⟩ => ?_) fun _ _ x => x))
  refine wpAny_bind (wpAny_standAt (wpAny_bind (wpAny_holding (wpAny_mono (q₇ vc vd vb rfl rfl rfl A hA s₇ S₇) (fun _ s₈ ⟨σ₈, S₈, g₈, q₈⟩ => ?_) fun _ _ x => x))))
  have fin : PostS R env.locals σ s fl Q .next s₈ := ⟨_, σ₈, S₈, ((F₅.go S₅ g₆).go S₆ g₇).go S₇ g₈, ((g₃.trans g₄).l.trans g₅).trans ((g₆.trans g₇).trans g₈).l, q₈⟩
  exact PyProof.Rows.wpAny_release' (assignInOrder_nil fin)
end
section
variable {R : Rn} {r : Nat} {env : Env} {ρ : Loc} {σ : Sto}
theorem Le.put {ρ' : Loc} (h : Le ρ' ρ) (x : Str) (p : PV) : Le (ρ'.put x p) (ρ.put x p) := fun y q hy => by
  unfold Loc.put at hy ⊢
  split
  · rename_i e; rw [if_pos e] at hy; exact hy
  · rename_i e; rw [if_neg e] at hy; exact h y q hy
theorem forQ_ind {D : Type} {x : Str} {body orelse : List Stmt} {Q : FL → Loc → Sto → Prop} (loc : D → Loc) (sto : D → Sto) (P : List PV → D → Prop)
    (turn : ∀ p ps d, P (p :: ps) d → EXS R r env body ((loc d).put x p) (sto d) (loopQ Q fun ρ' σ' => ∃ d', P ps d' ∧ Le (loc d') ρ' ∧ σ' = sto d'))
    (done : ∀ d, P [] d → EXS R r env orelse (loc d) (sto d) Q) :
    ∀ (items : List PV) (d : D) {ρ : Loc} {σ : Sto}, P items d → Le (loc d) ρ → σ = sto d → forQ R r env x body orelse Q items ρ σ
  | [], d, ρ, σ, hP, hle, hσ => by subst hσ; exact EXS_le hle (done d hP)
  | p :: ps, d, ρ, σ, hP, hle, hσ => by
    subst hσ
    refine EXS_le (hle.put x p) (EXS.mono (turn p ps d hP) fun f ρ' σ' h' => ?_)
    cases f with
    | next => obtain ⟨d', p', l', e'⟩ := h'; exact forQ_ind loc sto P turn done ps d' p' l' e'
    | cont => obtain ⟨d', p', l', e'⟩ := h'; exact forQ_ind loc sto P turn done ps d' p' l' e'
    | brk => exact h'
    | ret v => exact h'
end
section
variable {R : Rn} {r : Nat} {env : Env} {ρ : Loc} {σ : Sto}
theorem forQ_nil {x : Str} {body orelse : List Stmt} {Q : FL → Loc → Sto → Prop} (h : EXS R r env orelse ρ σ Q) : forQ R r env x body orelse Q [] ρ σ := h
theorem forQ_cons {x : Str} {body orelse : List Stmt} {Q : FL → Loc → Sto → Prop} {p : PV} {ps : List PV} (h : EXS R r env body (ρ.put x p) σ (loopQ Q fun ρ' σ' => forQ R r env x body orelse Q ps ρ' σ')) : forQ R r env x body orelse Q (p :: ps) ρ σ := h
end
local macro_rules | `(tactic| walk_at "step3") => `(tactic| first
  | with_reducible refine forQ_nil ?_ | with_reducible refine forQ_cons ?_
  | ((with_reducible refine EX_For ?k1 ?k2 ?k3 ?_); (case k1 => exact rfl); (case k2 => exact rfl); (case k3 => intro _; exact rfl))
  | ((with_reducible refine ITR_revrange (by assumption) ?_ ?_ ?_ ?_ ?_ ?_ ?_); iterate 6 exact rfl)
  | ((with_reducible refine ITR_range1 (by assumption) ?_ ?_ ?_ ?_ ?_ ?_); iterate 5 exact rfl)
  | ((with_reducible refine EX_AssignTup ?_ ?_ ?_ ?_ ?_ ?_ ?_); iterate 6 exact rfl))
local macro_rules | `(tactic| walk_at "walk") => `(tactic| repeat (first | walk_at "step" | walk_at "step2" | walk_at "step3"))

/-! H1 -/
noncomputable def pvi (xs : List Int) : List PV := xs.map PV.int
theorem pvi_get {xs : List Int} {k : Nat} (h : k < xs.length) : (pvi xs)[k]? = some (.int (xs.getD k 0)) := by
  simp [pvi, h]
theorem pvi_set {xs : List Int} {k : Nat} {x : Int} : (pvi xs).set k (.int x) = pvi (xs.set k x) := by
  simp [pvi, List.map_set]
theorem pvi_len {xs : List Int} : (pvi xs).length = xs.length := by simp [pvi]

/-- _siftdown's loop -/
noncomputable def sdw : Nat → List Int → Nat → Nat → Int → List Int
  | 0, xs, _, pos, new => xs.set pos new
  | k + 1, xs, start, pos, new => if start < pos ∧ new < xs.getD ((pos - 1) / 2) 0 then sdw k (xs.set pos (xs.getD ((pos - 1) / 2) 0)) start ((pos - 1) / 2) new else xs.set pos new

theorem sdw_step (n : Nat) (ys : List Int) (start p : Nat) (new : Int) : sdw (n + 1) ys start p new = if start < p ∧ new < ys.getD ((p - 1) / 2) 0 then sdw n (ys.set p (ys.getD ((p - 1) / 2) 0)) start ((p - 1) / 2) new else ys.set p new := rfl
theorem sdw_zero (n : Nat) (ys : List Int) (start p : Nat) (new : Int) (h : ¬ start < p) : sdw n ys start p new = ys.set p new := by
  cases n with
  | zero => rfl
  | succ n => rw [sdw_step, if_neg (fun q => h q.1)]
theorem sdw_fuel : ∀ (p k k' : Nat) (ys : List Int) (start : Nat) (new : Int), p ≤ k → p ≤ k' → sdw k ys start p new = sdw k' ys start p new := by
  intro p
  induction p using Nat.strongRecOn with
  | ind p ih =>
    intro k k' ys start new h h'
    by_cases hp : start < p
    · obtain ⟨a, rfl⟩ : ∃ a, k = a + 1 := ⟨k - 1, by omega⟩
      obtain ⟨b, rfl⟩ : ∃ b, k' = b + 1 := ⟨k' - 1, by omega⟩
      rw [sdw_step, sdw_step]
      split
      · exact ih _ (by omega) _ _ _ _ _ (by omega) (by omega)
      · rfl
    · rw [sdw_zero _ _ _ _ _ hp, sdw_zero _ _ _ _ _ hp]
theorem shr1 (pos : Nat) (h : 0 < pos) : Int.fdiv ((pos : Int) - 1) (2 ^ (1 : Int).toNat) = (((pos - 1) / 2 : Nat) : Int) := by
  have : ((pos : Int) - 1) = ((pos - 1 : Nat) : Int) := by omega
  rw [this]
  show Int.fdiv _ 2 = _
  rw [Int.fdiv_eq_ediv_of_nonneg _ (by omega)]
  omega

theorem siftdown_ok {R : Rn} {r : Nat} {σ : Sto} {l : Addr} {xs : List Int} {start pos : Nat} {Q : PV → Sto → Prop} (B : Base R)
    (hl : σ l = some (pvi xs)) (hp : pos < xs.length) (hz : xs.length < 1000)
    (h : Q .none (σ.put l (pvi (sdw pos xs start pos (xs.getD pos 0))))) : CF R (r + 1) "_siftdown" [.ref l, .int start, .int pos] σ Q := by
  refine CF_of B rfl (fun pm cd doc vals hv => ?_) rfl rfl rfl rfl rfl (fun L a cd => ?_)
  · obtain ⟨_, _, _, rfl⟩ := len3 hv
    rfl
  walk_at "walk"
  refine SUB_list hl (by omega) (pvi_get (by simpa using hp)) (by omega) (fun _ => rfl) ?_
  walk_at "walk"
  refine EX_WhileD (D := Nat × List Int) (fun d => Loc.of [("heap", .ref l), ("startpos", .int start), ("pos", .int d.1), ("newitem", .int (xs.getD pos 0))]) (fun d => σ.put l (pvi d.2)) (fun d => d.1)
    (fun d => d.1 < d.2.length ∧ d.2.length = xs.length ∧ sdw d.1 d.2 start d.1 (xs.getD pos 0) = sdw pos xs start pos (xs.getD pos 0)) ?_ (pos, xs) ⟨hp, rfl, rfl⟩ (by walk_at "le") (Sto.put_same σ hl).symm
  rintro ⟨p, ys⟩ ⟨h1, h2, h3⟩
  dsimp only at h1 h2 h3 ⊢
  walk_at "walk"
  refine dC (fun hlt => ?_) fun hge => ?_
  · have hlt' : start < p := by omega
    walk_at "walk"
    rw [shr1 p (by omega)]
    walk_at "walk"
    refine SUB_list (Sto.put_self ..) (by omega) (pvi_get (by simp; omega)) (by omega) (fun _ => rfl) ?_
    walk_at "walk"
    simp only [Int.toNat_natCast]
    have hstep : sdw p ys start p (xs.getD pos 0) = if start < p ∧ xs.getD pos 0 < ys.getD ((p - 1) / 2) 0 then sdw (p - 1) (ys.set p (ys.getD ((p - 1) / 2) 0)) start ((p - 1) / 2) (xs.getD pos 0) else ys.set p (xs.getD pos 0) := by
      have e : p = p - 1 + 1 := by omega
      conv => lhs; rw [e]
      rw [sdw_step, ← e]
    refine dC (fun hc => ?_) fun hc => ?_
    · walk_at "walk"
      refine SETI_list (Sto.put_self ..) (by omega) (by rw [pvi_len]; omega) (by omega) ?_
      rw [Sto.put_put, Int.toNat_natCast, pvi_set]
      walk_at "walk"
      refine ⟨((p - 1) / 2, ys.set p (ys.getD ((p - 1) / 2) 0)), ⟨by simp; omega, by simpa using h2, ?_⟩, by dsimp only; omega, by walk_at "le", rfl⟩
      dsimp only
      rw [← h3, hstep, if_pos ⟨hlt', hc⟩]
      exact sdw_fuel _ _ _ _ _ _ (by omega) (by omega)
    · walk_at "walk"
      refine SETI_list (Sto.put_self ..) (by omega) (by rw [pvi_len]; omega) (by omega) ?_
      walk_at "walk"
      rw [Sto.put_put, Int.toNat_natCast, pvi_set, ← (hstep.trans (if_neg fun q => hc q.2)), h3]
      exact h
  · walk_at "walk"
    refine SETI_list (Sto.put_self ..) (by omega) (by rw [pvi_len]; omega) (by omega) ?_
    walk_at "walk"
    rw [Sto.put_put, Int.toNat_natCast, pvi_set, ← sdw_zero p ys start p _ (by omega), h3]
    exact h

/-! H2 -/
noncomputable def suc (xs : List Int) (pos : Nat) : Nat := if 2 * pos + 2 < xs.length ∧ ¬ xs.getD (2 * pos + 1) 0 < xs.getD (2 * pos + 2) 0 then 2 * pos + 2 else 2 * pos + 1
noncomputable def suw : Nat → List Int → Nat → List Int × Nat
  | 0, xs, pos => (xs, pos)
  | k + 1, xs, pos => if 2 * pos + 1 < xs.length then suw k (xs.set pos (xs.getD (suc xs pos) 0)) (suc xs pos) else (xs, pos)
noncomputable def su (xs : List Int) (pos : Nat) : List Int :=
  let r := suw xs.length xs pos
  sdw r.2 (r.1.set r.2 (xs.getD pos 0)) pos r.2 (xs.getD pos 0)

theorem suc_lt {xs : List Int} {pos : Nat} (h : 2 * pos + 1 < xs.length) : suc xs pos < xs.length := by
  unfold suc; split <;> omega
theorem suc_gt {xs : List Int} {pos : Nat} : pos < suc xs pos := by
  unfold suc; split <;> omega
theorem suw_len : ∀ (k : Nat) (xs : List Int) (pos : Nat), (suw k xs pos).1.length = xs.length
  | 0, _, _ => rfl
  | k + 1, xs, pos => by unfold suw; split; · rw [suw_len]; simp
                         · rfl
theorem suw_lt : ∀ (k : Nat) (xs : List Int) (pos : Nat), pos < xs.length → (suw k xs pos).2 < xs.length
  | 0, _, _, h => h
  | k + 1, xs, pos, h => by
    unfold suw; split
    · rename_i q
      have := suw_lt k (xs.set pos (xs.getD (suc xs pos) 0)) (suc xs pos) (by simp; exact suc_lt q)
      simpa using this
    · exact h
theorem suw_end {k : Nat} {xs : List Int} {pos : Nat} (h : ¬ 2 * pos + 1 < xs.length) : suw k xs pos = (xs, pos) := by
  cases k with
  | zero => rfl
  | succ k => unfold suw; rw [if_neg h]
theorem suw_step {k : Nat} {xs : List Int} {pos : Nat} (h : 2 * pos + 1 < xs.length) : suw (k + 1) xs pos = suw k (xs.set pos (xs.getD (suc xs pos) 0)) (suc xs pos) := by
  show (if _ then _ else _) = _
  rw [if_pos h]
theorem siftup_ok {R : Rn} {r : Nat} {σ : Sto} {l : Addr} {xs : List Int} {pos : Nat} {Q : PV → Sto → Prop} (B : Base R)
    (hl : σ l = some (pvi xs)) (hp : pos < xs.length) (hz : xs.length < 1000)
    (h : Q .none (σ.put l (pvi (su xs pos)))) : CF R (r + 2) "_siftup" [.ref l, .int pos] σ Q := by
  refine CF_of B rfl (fun pm cd doc vals hv => ?_) rfl rfl rfl rfl rfl (fun L a cd => ?_)
  · obtain ⟨_, _, rfl⟩ := len2 hv
    rfl
  walk_at "walk"
  refine CL_len hl (by rw [pvi_len]; omega) ?_
  walk_at "walk"
  refine SUB_list hl (by omega) (pvi_get (by simpa using hp)) (by omega) (fun _ => rfl) ?_
  walk_at "walk"
  refine EX_WhileD (D := Nat × Nat × List Int) (fun d => Loc.of [("heap", .ref l), ("endpos", .int xs.length), ("startpos", .int pos), ("pos", .int d.2.1), ("childpos", .int (2 * (d.2.1 : Int) + 1)), ("newitem", .int (xs.getD pos 0))]) (fun d => σ.put l (pvi d.2.2)) (fun d => xs.length - d.2.1)
    (fun d => d.2.1 < d.2.2.length ∧ d.2.2.length = xs.length ∧ xs.length ≤ d.1 + d.2.1 ∧ suw d.1 d.2.2 d.2.1 = suw xs.length xs pos) ?_ (xs.length, pos, xs) ⟨hp, rfl, by simp, rfl⟩ ?_ (Sto.put_same σ hl).symm
  · rintro ⟨k, p, ys⟩ ⟨h1, h2, h3, h4⟩
    dsimp only at h1 h2 h3 h4 ⊢
    walk_at "walk"
    refine dC (fun hlt => ?_) fun hge => ?_
    · obtain ⟨k, rfl⟩ : ∃ j, k = j + 1 := ⟨k - 1, by omega⟩
      rw [suw_step (by omega)] at h4
      have hc1 := suc_lt (xs := ys) (pos := p) (by omega)
      have hc2 := suc_gt (xs := ys) (pos := p)
      have fin : ∀ (c : Nat) (zs : List PV), c = suc ys p → zs = pvi (ys.set p (ys.getD c 0)) → ∀ ρ' : Loc, Le (Loc.of [("heap", .ref l), ("endpos", .int xs.length), ("startpos", .int pos), ("pos", .int c), ("childpos", .int (2 * (c : Int) + 1)), ("newitem", .int (xs.getD pos 0))]) ρ' →
          ∃ d' : Nat × Nat × List Int, (d'.2.1 < d'.2.2.length ∧ d'.2.2.length = xs.length ∧ xs.length ≤ d'.1 + d'.2.1 ∧ suw d'.1 d'.2.2 d'.2.1 = suw xs.length xs pos) ∧ xs.length - d'.2.1 < xs.length - p ∧
            Le (Loc.of [("heap", .ref l), ("endpos", .int xs.length), ("startpos", .int pos), ("pos", .int d'.2.1), ("childpos", .int (2 * (d'.2.1 : Int) + 1)), ("newitem", .int (xs.getD pos 0))]) ρ' ∧ (σ.put l (pvi ys)).put l zs = σ.put l (pvi d'.2.2) := by
        rintro c zs rfl rfl ρ' hle
        exact ⟨(k, suc ys p, ys.set p (ys.getD (suc ys p) 0)), ⟨by simpa using hc1, by simpa using h2, by dsimp only; omega, h4⟩, by dsimp only; omega, hle, Sto.put_put ..⟩
      have e1 : (2 * (p : Int) + 1).toNat = 2 * p + 1 := by omega
      have e2 : (2 * (p : Int) + 1 + 1).toNat = 2 * p + 2 := by omega
      walk_at "walk"
      refine dC (fun hr => ?_) fun hr => ?_
      · walk_at "walk"
        refine SUB_list (Sto.put_self ..) (by omega) (pvi_get (by omega)) (by omega) (fun _ => rfl) ?_
        walk_at "walk"
        refine SUB_list (Sto.put_self ..) (by omega) (pvi_get (by omega)) (by omega) (fun _ => rfl) ?_
        walk_at "walk"
        rw [e1, e2]
        refine ndC (fun hcc => ?_) fun hcc => ?_
        all_goals
          walk_at "walk"
          refine SUB_list (Sto.put_self ..) (by omega) (pvi_get (by omega)) (by omega) (fun _ => rfl) ?_
          walk_at "walk"
          refine SETI_list (Sto.put_self ..) (by omega) (by rw [pvi_len]; omega) (by omega) ?_
          walk_at "walk"
        · refine fin (2 * p + 2) _ (if_pos ⟨by omega, hcc⟩).symm ?_ _ (by walk_at "le")
          rw [Int.toNat_natCast, pvi_set, e2]
        · refine fin (2 * p + 1) _ (if_neg fun q => q.2 hcc).symm ?_ _ (by walk_at "le")
          rw [Int.toNat_natCast, pvi_set, e1]
      · walk_at "walk"
        refine SUB_list (Sto.put_self ..) (by omega) (pvi_get (by omega)) (by omega) (fun _ => rfl) ?_
        walk_at "walk"
        refine SETI_list (Sto.put_self ..) (by omega) (by rw [pvi_len]; omega) (by omega) ?_
        walk_at "walk"
        refine fin (2 * p + 1) _ (if_neg fun q => by omega).symm ?_ _ (by walk_at "le")
        rw [Int.toNat_natCast, pvi_set, e1]
    · rw [suw_end (by omega)] at h4
      walk_at "walk"
      refine SETI_list (Sto.put_self ..) (by omega) (by rw [pvi_len]; omega) (by omega) ?_
      walk_at "walk"
      rw [Sto.put_put, Int.toNat_natCast, pvi_set]
      refine siftdown_ok B (Sto.put_self ..) (by simp; omega) (by simp; omega) ?_
      walk_at "walk"
      have e : su xs pos = sdw p (ys.set p (xs.getD pos 0)) pos p (xs.getD pos 0) := by unfold su; rw [← h4]
      have e3 : (ys.set p (xs.getD pos 0)).getD p 0 = xs.getD pos 0 := by simp [List.getD, h1]
      rw [Sto.put_put, e3, ← e]
      exact h
  · rw [pvi_len]
    walk_at "le"

/-! H3 -/
noncomputable def hpush (xs : List Int) (x : Int) : List Int := sdw xs.length (xs ++ [x]) 0 xs.length x
theorem pvi_app {xs ys : List Int} : pvi xs ++ pvi ys = pvi (xs ++ ys) := by simp [pvi]
theorem pvi_one {x : Int} : [PV.int x] = pvi [x] := rfl

theorem heappush_ok {R : Rn} {r : Nat} {σ : Sto} {l : Addr} {xs : List Int} {x : Int} {Q : PV → Sto → Prop} (B : Base R)
    (hl : σ l = some (pvi xs)) (hz : xs.length < 900)
    (h : Q .none (σ.put l (pvi (hpush xs x)))) : CF R (r + 2) "heappush" [.ref l, .int x] σ Q := by
  refine CF_of B rfl (fun pm cd doc vals hv => ?_) rfl rfl rfl rfl rfl (fun L a cd => ?_)
  · obtain ⟨_, _, rfl⟩ := len2 hv
    rfl
  walk_at "walk"
  refine ⟨l, _, rfl, hl, ?_⟩
  walk_at "walk"
  refine METH_append hl (by rw [pvi_len]; show _ ≤ 2 ^ 24; omega) ?_
  rw [pvi_one, pvi_app]
  walk_at "walk"
  refine CL_len (Sto.put_self ..) (by rw [pvi_len]; simp; omega) ?_
  walk_at "walk"
  have e : (((pvi (xs ++ [x])).length : Nat) : Int) - 1 = ((xs.length : Nat) : Int) := by rw [pvi_len]; simp
  rw [e]
  refine siftdown_ok (start := 0) B (Sto.put_self ..) (by simp) (by simp; omega) ?_
  walk_at "walk"
  rw [Sto.put_put]
  have e2 : (xs ++ [x]).getD xs.length 0 = x := by simp [List.getD]
  rw [e2]
  exact h

theorem heapreplace_ok {R : Rn} {r : Nat} {σ : Sto} {l : Addr} {xs : List Int} {x : Int} {Q : PV → Sto → Prop} (B : Base R)
    (hl : σ l = some (pvi xs)) (hne : 0 < xs.length) (hz : xs.length < 900)
    (h : Q (.int (xs.getD 0 0)) (σ.put l (pvi (su (xs.set 0 x) 0)))) : CF R (r + 3) "heapreplace" [.ref l, .int x] σ Q := by
  refine CF_of B rfl (fun pm cd doc vals hv => ?_) rfl rfl rfl rfl rfl (fun L a cd => ?_)
  · obtain ⟨_, _, rfl⟩ := len2 hv
    rfl
  walk_at "walk"
  refine SUB_list hl (by omega) (pvi_get hne) (by omega) (fun _ => rfl) ?_
  walk_at "walk"
  refine SETI_list hl (by omega) (by rw [pvi_len]; omega) (by omega) ?_
  walk_at "walk"
  refine siftup_ok (pos := 0) B (by rw [Sto.put_self]; exact congrArg some pvi_set) (by simpa using hne) (by simp; omega) ?_
  walk_at "walk"
  rw [Sto.put_put]
  exact h

theorem heappushpop_ok {R : Rn} {r : Nat} {σ : Sto} {l : Addr} {xs : List Int} {x : Int} {Q : PV → Sto → Prop} (B : Base R)
    (hl : σ l = some (pvi xs)) (hz : xs.length < 900)
    (h1 : 0 < xs.length → xs.getD 0 0 < x → Q (.int (xs.getD 0 0)) (σ.put l (pvi (su (xs.set 0 x) 0))))
    (h2 : (0 < xs.length → ¬ xs.getD 0 0 < x) → Q (.int x) σ) : CF R (r + 3) "heappushpop" [.ref l, .int x] σ Q := by
  refine CF_of B rfl (fun pm cd doc vals hv => ?_) rfl rfl rfl rfl rfl (fun L a cd => ?_)
  · obtain ⟨_, _, rfl⟩ := len2 hv
    rfl
  walk_at "walk"
  refine TS_plain (fun _ => rfl) ?_
  walk_at "walk"
  refine TRU_list hl (by rw [pvi_len]; omega) ?_
  cases xs with
  | nil =>
    show if false = true then _ else _
    walk_at "walk"
    exact h2 (fun q => by simp at q)
  | cons y ys =>
    show if true = true then _ else _
    walk_at "walk"
    refine SUB_list hl (by omega) (pvi_get (by simp)) (by omega) (fun _ => rfl) ?_
    walk_at "walk"
    refine dC (fun hc => ?_) fun hc => ?_
    · walk_at "walk"
      refine SUB_list hl (by omega) (pvi_get (by simp)) (by omega) (fun _ => rfl) ?_
      walk_at "walk"
      refine SETI_list hl (by omega) (by rw [pvi_len]; simp) (by omega) ?_
      walk_at "walk"
      refine siftup_ok (pos := 0) B (by rw [Sto.put_self]; exact congrArg some pvi_set) (by simp) (by simp at hz ⊢; omega) ?_
      walk_at "walk"
      rw [Sto.put_put]
      exact h1 (by simp) hc
    · walk_at "walk"
      exact h2 (fun _ => hc)

theorem heappop_ok {R : Rn} {r : Nat} {σ : Sto} {l : Addr} {xs : List Int} {x : Int} {Q : PV → Sto → Prop} (B : Base R)
    (hl : σ l = some (pvi (xs ++ [x]))) (hz : xs.length < 900)
    (h1 : xs = [] → Q (.int x) (σ.put l (pvi [])))
    (h2 : 0 < xs.length → Q (.int (xs.getD 0 0)) (σ.put l (pvi (su (xs.set 0 x) 0)))) : CF R (r + 3) "heappop" [.ref l] σ Q := by
  refine CF_of B rfl (fun pm cd doc vals hv => ?_) rfl rfl rfl rfl rfl (fun L a cd => ?_)
  · obtain ⟨_, rfl⟩ := len1 hv
    rfl
  walk_at "walk"
  refine ⟨l, _, rfl, hl, ?_⟩
  refine METH_pop (by rw [hl, ← pvi_app]; rfl) (by rw [pvi_len]; show _ ≤ 2 ^ 24; omega) ?_
  walk_at "walk"
  refine TS_plain (fun _ => rfl) ?_
  walk_at "walk"
  refine TRU_list (Sto.put_self ..) (by rw [pvi_len]; omega) ?_
  cases xs with
  | nil =>
    show if false = true then _ else _
    walk_at "walk"
    exact h1 rfl
  | cons y ys =>
    show if true = true then _ else _
    walk_at "walk"
    refine SUB_list (Sto.put_self ..) (by omega) (pvi_get (by simp)) (by omega) (fun _ => rfl) ?_
    walk_at "walk"
    refine SETI_list (Sto.put_self ..) (by omega) (by rw [pvi_len]; simp) (by omega) ?_
    walk_at "walk"
    refine siftup_ok (pos := 0) B (by rw [Sto.put_self]; exact congrArg some pvi_set) (by simp) (by simp at hz ⊢; omega) ?_
    walk_at "walk"
    rw [Sto.put_put, Sto.put_put]
    exact h2 (by simp)

noncomputable def hify (xs : List Int) : List Int := (List.range (xs.length / 2)).reverse.foldl su xs
theorem sdw_len : ∀ (k : Nat) (xs : List Int) (a b : Nat) (c : Int), (sdw k xs a b c).length = xs.length
  | 0, xs, a, b, c => by simp [sdw]
  | k + 1, xs, a, b, c => by rw [sdw_step]; split; · rw [sdw_len]; simp
                             · simp
theorem su_len (xs : List Int) (p : Nat) : (su xs p).length = xs.length := by
  unfold su; dsimp only; rw [sdw_len]; simp [suw_len]

theorem heapify_ok {R : Rn} {r : Nat} {σ : Sto} {l : Addr} {xs : List Int} {Q : PV → Sto → Prop} (B : Base R)
    (hl : σ l = some (pvi xs)) (hz : xs.length < 900)
    (h : Q .none (σ.put l (pvi (hify xs)))) : CF R (r + 3) "heapify" [.ref l] σ Q := by
  refine CF_of B rfl (fun pm cd doc vals hv => ?_) rfl rfl rfl rfl rfl (fun L a cd => ?_)
  · obtain ⟨_, rfl⟩ := len1 hv
    rfl
  walk_at "walk"
  refine CL_len hl (by rw [pvi_len]; omega) ?_
  walk_at "walk"
  refine ⟨xs.length / 2, ?_, by omega, ?_⟩
  · rw [pvi_len]; exact congrArg PV.int (by rw [Int.fdiv_eq_ediv_of_nonneg _ (by omega)]; omega)
  refine forQ_ind (D := List Int) (fun ys => Loc.of [("x", .ref l)]) (fun ys => σ.put l (pvi ys))
    (fun rest ys => ∃ is : List Nat, rest = is.map (fun i : Nat => PV.int i) ∧ (∀ i ∈ is, i < ys.length) ∧ ys.length = xs.length ∧ is.foldl su ys = hify xs) ?_ ?_ _ xs ⟨(List.range (xs.length / 2)).reverse, ?_, ?_, rfl, rfl⟩ (by walk_at "le") (Sto.put_same σ hl).symm
  · rintro p ps ys ⟨is, e, hi, hlen, hf⟩
    cases is with
    | nil => cases e
    | cons i is =>
      simp only [List.map_cons, List.cons.injEq] at e
      obtain ⟨rfl, rfl⟩ := e
      walk_at "walk"
      refine siftup_ok (pos := i) B (Sto.put_self ..) (hi i (.head _)) (by omega) ?_
      walk_at "walk"
      refine ⟨su ys i, ⟨is, rfl, fun j hj => ?_, ?_, hf⟩, by walk_at "le", Sto.put_put ..⟩
      · rw [su_len]; exact hi j (.tail _ hj)
      · rw [su_len]; exact hlen
  · rintro ys ⟨is, e, hi, hlen, hf⟩
    cases is with
    | cons => cases e
    | nil =>
      walk_at "walk"
      have : ys = hify xs := hf
      rw [this]; exact h
  · simp [rng]
  · intro i hi
    simp at hi
    omega

/-! M10 -/
section
variable {R : Rn} {r : Nat} {env : Env} {ρ : Loc} {σ : Sto}

/-- an end of a slice -/
noncomputable def EP (R : Rn) (r : Nat) (env : Env) (e : Option Expr) (ρ : Loc) (σ : Sto) (K : Option Int → Sto → Prop) : Prop :=
  ∀ A, Room R.top r A → ∀ s, St R σ s → LocAt R env.locals ρ s → wpAny R.M A (evalPart e env) (fun v s' => ∃ σ' l, St R σ' s' ∧ Go σ σ' s s' ∧ IsPart v l ∧ K l σ') nope s
theorem EP_none {K : Option Int → Sto → Prop} (h : K none σ) : EP R r env none ρ σ K := fun A hA s S F => by
  rw [evalPart_none]; exact wpAny_pure ⟨σ, none, S, Go.refl, .none, h⟩
theorem EP_some {e : Expr} {K : Option Int → Sto → Prop} (h : EV R r env e ρ σ fun a σ₁ => ∃ i, a = .int i ∧ K (some i) σ₁) : EP R r env (some e) ρ σ K := fun A hA s S F => by
  rw [evalPart_some]
  refine wpAny_mono (h A hA s S F) (fun v s₁ ⟨σ₁, S₁, g₁, i, e, h₁⟩ => ?_) fun _ _ x => x
  obtain ⟨t, rfl⟩ := pv_int e
  exact ⟨σ₁, some i, S₁, g₁, .int i t, h₁⟩

theorem EV_sliceS {value : Expr} {lower upper : Option Expr} {p pos : Pos} {Q : PV → Sto → Prop}
    (h : EV R r env value ρ σ fun o σ₁ => ∃ x, o = .str x ∧ x.length ≤ sizeLine ∧ EP R r env lower ρ σ₁ fun l σ₂ => EP R r env upper ρ σ₂ fun u σ₃ => Q (.str (Txt.slice x l u)) σ₃) :
    EV R r env (.Subscript value (.Slice lower upper none p) pos) ρ σ Q := fun A hA s S F => by
  refine Subscript_ (wpAny_mono (h A hA s S F) (fun o s₁ ⟨σ₁, S₁, g₁, x, eo, hx, h₁⟩ => wpAny_Slice (wpAny_mono (h₁ A hA s₁ S₁ (F.go S g₁)) (fun vl s₂ ⟨σ₂, l, S₂, g₂, pl, h₂⟩ => wpAny_mono (h₂ A hA s₂ S₂ ((F.go S g₁).go S₁ g₂)) (fun vu s₃ ⟨σ₃, u, S₃, g₃, pu, h₃⟩ => ?_) fun _ _ x => x) fun _ _ x => x)) fun _ _ x => x)
  rw [evalPart_none]
  refine wpAny_pure ?_
  obtain ⟨t, rfl⟩ := pv_str eo
  have hk : KeptByPush (fun s' => St R σ₃ s' ∧ Go σ σ₃ s s') := fun s' ob k q => ⟨q.1.push ob k, q.2.trans (Go.push ob k)⟩
  have hI : St R σ₃ s₃ ∧ Go σ σ₃ s s₃ := ⟨S₃, (g₁.trans g₂).trans g₃⟩
  cases pl <;> cases pu
  · obtain ⟨T, id, a1, a2, a3⟩ := SBG.sliceItem_nn (prog := P0) (w := R.w) (A := A) (E := nope) (x := x) (t := t) (Q := Post R σ s pv Q) hk hI (fun s' t' q => ⟨σ₃, q.1, q.2, h₃⟩) hx
    exact tail_any a2 a1 a3 rfl
  · obtain ⟨T, id, a1, a2, a3⟩ := SBG.sliceItem_ns (prog := P0) (w := R.w) (A := A) (E := nope) (x := x) (t := t) (Q := Post R σ s pv Q) hk hI (fun s' t' q => ⟨σ₃, q.1, q.2, h₃⟩) hx
    exact tail_any a2 a1 a3 rfl
  · obtain ⟨T, id, a1, a2, a3⟩ := SBG.sliceItem_sn (prog := P0) (w := R.w) (A := A) (E := nope) (x := x) (t := t) (Q := Post R σ s pv Q) hk hI (fun s' t' q => ⟨σ₃, q.1, q.2, h₃⟩) hx
    exact tail_any a2 a1 a3 rfl
  · obtain ⟨T, id, a1, a2, a3⟩ := SBG.sliceItem_ss (prog := P0) (w := R.w) (A := A) (E := nope) (x := x) (t := t) (Q := Post R σ s pv Q) hk hI (fun s' t' q => ⟨σ₃, q.1, q.2, h₃⟩) hx
    exact tail_any a2 a1 a3 rfl

noncomputable def pick {α : Type} (l : List α) (lo hi : Option Int) : List α := (l.drop (W.kms_lo lo l.length)).take (W.kms_hi hi l.length - W.kms_lo lo l.length)
theorem pick_map {α β : Type} (f : α → β) (l : List α) (lo hi : Option Int) : (pick l lo hi).map f = pick (l.map f) lo hi := by
  simp [pick]

theorem EV_sliceL {value : Expr} {lower upper : Option Expr} {p pos : Pos} {Q : PV → Sto → Prop}
    (h : EV R r env value ρ σ fun o σ₁ => ∃ l, o = .ref l ∧ EP R r env lower ρ σ₁ fun lo σ₂ => EP R r env upper ρ σ₂ fun hi σ₃ => ∃ ps, σ₃ l = some ps ∧ ps.length ≤ sizeLine ∧ ∀ a, σ₃ a = none → Q (.ref a) (σ₃.put a (pick ps lo hi))) :
    EV R r env (.Subscript value (.Slice lower upper none p) pos) ρ σ Q := fun A hA s S F => by
  refine Subscript_ (wpAny_mono (h A hA s S F) (fun o s₁ ⟨σ₁, S₁, g₁, l, eo, h₁⟩ => wpAny_Slice (wpAny_mono (h₁ A hA s₁ S₁ (F.go S g₁)) (fun vl s₂ ⟨σ₂, lo, S₂, g₂, pl, h₂⟩ => wpAny_mono (h₂ A hA s₂ S₂ ((F.go S g₁).go S₁ g₂)) (fun vu s₃ ⟨σ₃, hi, S₃, g₃, pu, ps, hps, hz, h₃⟩ => ?_) fun _ _ x => x) fun _ _ x => x)) fun _ _ x => x)
  rw [evalPart_none]
  refine wpAny_pure ?_
  rw [pv_ref eo]
  have S₄ := S₃.push { cls := .type "slice", data := .fields #[vl, vu, .none] } s₃.toks
  have g₄ := ((g₁.trans g₂).trans g₃).trans (Go.push { cls := .type "slice", data := .fields #[vl, vu, .none] } s₃.toks)
  obtain ⟨vs, hp, hv⟩ := S₄.list hps
  have hlen : vs.length = ps.length := by rw [← hv, List.length_map]
  refine tail_any hp.isList.typeIs slot_list_getitem.lookup (wpAny_getItem_list_slice hp.isList (Heap.IsSliceOf.new ..) pl pu .none (by simp) ?_ (by rw [List.size_toArray]; omega)) rfl
  rw [W.kms_pick_eq]
  obtain ⟨a, b, c⟩ := S₄.newList (W.kms_pick vs lo hi)
  refine ⟨_, a, g₄.trans b, ?_⟩
  have : (W.kms_pick vs lo hi).map pv = pick ps lo hi := by rw [← hv]; exact pick_map pv vs lo hi
  rw [this]
  exact h₃ _ c

theorem EV_sliceRev {value st : Expr} {p pos : Pos} {Q : PV → Sto → Prop}
    (h : EV R r env value ρ σ fun o σ₁ => ∃ l, o = .ref l ∧ EV R r env st ρ σ₁ fun k σ₃ => k = .int (-1) ∧ ∃ ps, σ₃ l = some ps ∧ ps.length ≤ sizeLine ∧ ∀ a, σ₃ a = none → Q (.ref a) (σ₃.put a ps.reverse)) :
    EV R r env (.Subscript value (.Slice none none (some st) p) pos) ρ σ Q := fun A hA s S F => by
  refine Subscript_ (wpAny_mono (h A hA s S F) (fun o s₁ ⟨σ₁, S₁, g₁, l, eo, h₁⟩ => wpAny_Slice ?_) fun _ _ x => x)
  rw [evalPart_none]
  refine wpAny_pure (wpAny_pure ?_)
  rw [evalPart_some]
  refine wpAny_mono (h₁ A hA s₁ S₁ (F.go S g₁)) (fun vk s₃ ⟨σ₃, S₃, g₃, ek, ps, hps, hz, h₃⟩ => ?_) fun _ _ x => x
  obtain ⟨t, rfl⟩ := pv_int ek
  rw [pv_ref eo]
  have S₄ := S₃.push { cls := .type "slice", data := .fields #[.none, .none, .int (-1) t] } s₃.toks
  have g₄ := (g₁.trans g₃).trans (Go.push { cls := .type "slice", data := .fields #[.none, .none, .int (-1) t] } s₃.toks)
  obtain ⟨vs, hp, hv⟩ := S₄.list hps
  have hlen : vs.length = ps.length := by rw [← hv, List.length_map]
  refine tail_any hp.isList.typeIs slot_list_getitem.lookup (wpAny_getItem_list_slice hp.isList (Heap.IsSliceOf.new ..) .none .none (.int (-1) t) (by simp) ?_ (by rw [List.size_toArray]; omega)) rfl
  rw [W.krv_pick]
  obtain ⟨a, b, c⟩ := S₄.newList vs.reverse
  refine ⟨_, a, g₄.trans b, ?_⟩
  have : vs.reverse.map pv = ps.reverse := by rw [← hv, List.map_reverse]
  rw [this]
  exact h₃ _ c
end

/-! M11 -/

/-- a text by its signs -/
noncomputable abbrev mk (l : List Nat) : Str := ⟨l.toArray⟩
theorem mk_app (a b : List Nat) : mk a ++ mk b = mk (a ++ b) := Str.ext' (by simp [Str.cps_append])
theorem mk_len (l : List Nat) : (mk l).length = l.length := by simp [Str.length]
theorem mk_beq (a b : List Nat) : (mk a == mk b) = decide (a = b) := by
  by_cases h : a = b
  · subst h; simp
  · have : mk a ≠ mk b := fun e => h (by have := congrArg (fun x => x.cps.toList) e; simpa using this)
    simp [h, this]
theorem mk_bne (a b : List Nat) : (mk a != mk b) = !decide (a = b) := by rw [bne, mk_beq]
theorem mk_get (l : List Nat) (k : Nat) : (mk l).cps[k]? = l[k]? := by simp

noncomputable def fnd (l : List Nat) (c : Nat) (i : Nat) : Int := match (l.drop i).findIdx? (· == c) with
  | some k => ((i + k : Nat) : Int)
  | none => -1

theorem find_from (l : List Nat) (c i : Nat) (hi : i ≤ l.length) : (match Builtin.Str.occurrences (mk l) (mk [c]) i (mk l).length 1 with | k :: _ => (k : Int) | [] => -1) = fnd l c i := by
  have at_iff : ∀ k, StrLaws.At (mk l) (mk [c]) (mk l).length k ↔ l[k]? = some c := by
    intro k
    have q := StrLaws.subAt_one (mk l) c k
    constructor
    · intro h
      simpa using q.mp h
    · intro h
      exact q.mpr (by simpa using h)
  rcases StrLaws.occ_head_from (mk l) (mk [c]) i 1 (Nat.le_refl _) with ⟨e, hn⟩ | ⟨k, r, e, hk, ha, hn⟩
  · rw [e]
    have : (l.drop i).findIdx? (· == c) = none := by
      rw [List.findIdx?_eq_none_iff]
      intro x hx
      obtain ⟨j, hj⟩ := List.mem_iff_getElem?.mp hx
      rw [List.getElem?_drop] at hj
      have := fun q => hn (i + j) (by omega) ((at_iff _).mpr q)
      simp only [beq_eq_false_iff_ne, ne_eq]
      intro h; subst h; exact this hj
    unfold fnd; rw [this]
  · rw [e]
    have hk' := (at_iff k).mp ha
    have : (l.drop i).findIdx? (· == c) = some (k - i) := by
      rw [List.findIdx?_eq_some_iff_getElem]
      have hlt := (List.getElem?_eq_some_iff.mp hk').1
      refine ⟨by simp; omega, ?_, ?_⟩
      · rw [List.getElem_drop]
        have e2 : i + (k - i) = k := by omega
        simp only [e2]
        simp [(List.getElem?_eq_some_iff.mp hk').2]
      · intro j hj
        rw [List.getElem_drop]
        have := hn (i + j) (by omega) (by omega)
        rw [at_iff] at this
        have h2 : i + j < l.length := by omega
        simp only [Bool.not_eq_true, beq_eq_false_iff_ne, ne_eq]
        intro h
        exact this (by rw [List.getElem?_eq_getElem h2, h])
    unfold fnd; rw [this]
    have : i + (k - i) = k := by omega
    simp only [this]
theorem find_mk (l : List Nat) (c : Nat) : Txt.find (mk l) (mk [c]) = fnd l c 0 := find_from l c 0 (Nat.zero_le _)
theorem find3_mk (l : List Nat) (c i : Nat) (hi : i ≤ l.length) : Txt.find3 (mk l) (mk [c]) i = fnd l c i := by
  unfold Txt.find3
  have : fromIndex (mk l).length (i : Int) = i := by
    unfold fromIndex
    have : ¬ ((i : Int) < 0) := by omega
    rw [if_neg this]; omega
  rw [this]; exact find_from l c i hi
theorem contains_mk (l : List Nat) (c : Nat) : Txt.contains (mk l) (mk [c]) = decide (c ∈ l) := by
  have := StrLaws.found_one (mk l) c
  show (!(Builtin.Str.occurrences (mk l) ⟨#[c]⟩ 0 (mk l).length 1).isEmpty) = _
  rw [this]

theorem slice_mk (l : List Nat) (i j : Nat) (hij : i ≤ j) (hj : j ≤ l.length) : Txt.slice (mk l) (some (i : Int)) (some (j : Int)) = mk ((l.drop i).take (j - i)) := by
  show StrLaws.sliceText (mk l) _ _ = _
  rw [StrLaws.sliceText_nat (mk l) hij (by rw [mk_len]; exact hj)]
theorem slice_from_mk (l : List Nat) (i : Nat) (hi : i ≤ l.length) : Txt.slice (mk l) (some (i : Int)) none = mk (l.drop i) := by
  rw [slice_from_eq (b := l.length) (by omega) (by rw [mk_len]; omega) (by rw [mk_len])]
  simp only [Int.toNat_natCast]
  congr 2
  apply List.take_of_length_le
  simp
theorem slice_to_mk (l : List Nat) (j : Nat) (hj : j ≤ l.length) : Txt.slice (mk l) none (some (j : Int)) = mk (l.take j) := by
  show StrLaws.sliceText (mk l) _ _ = _
  rw [StrLaws.sliceText_to ⟨by omega, by simpa using hj⟩]
  simp
theorem slice_neg_mk (l : List Nat) (i : Nat) (hi : i + 1 ≤ l.length) : Txt.slice (mk l) (some (i : Int)) (some (-1)) = mk ((l.drop i).take (l.length - 1 - i)) := by
  show StrLaws.sliceText (mk l) _ _ = _
  rw [StrLaws.sliceText_neg_hi (mk l) _ (by omega) (by rw [mk_len]; omega)]
  have : (-1 : Int) + ((mk l).length : Nat) = ((l.length - 1 : Nat) : Int) := by rw [mk_len]; omega
  rw [this]
  exact slice_mk l i (l.length - 1) (by omega) (by omega)
section
variable {R : Rn} {r : Nat} {env : Env} {ρ : Loc} {σ : Sto}
theorem SUB_strL {value slice : Expr} {l : List Nat} {k : Int} {Q : PV → Sto → Prop} (h0 : 0 ≤ k) (hk : k < l.length) (hz : l.length < 1000000)
    (hs : ∀ t u, subscripted slice false (.str (mk l) t) (.int k u) = operate [.str (mk l) t, .int k u] (getItem (.str (mk l) t) (.int k u))) (h : Q (.str (mk [l.getD k.toNat 0])) σ) : SUB R r value slice (.str (mk l)) (.int k) σ Q :=
  SUB_str h0 (c := l.getD k.toNat 0) (by rw [mk_get]; have : k.toNat < l.length := by omega
                                         simp [this]) (by omega) hs h
theorem METH_findL {a : Str} {l : List Nat} {c : Nat} {Q : PV → Sto → Prop} (ha : a = mk l) (h : Q (.int (fnd l c 0)) σ) : METH R r "str.find" (.str a) [.str (mk [c])] σ Q := by
  subst ha
  exact METH_find (by rw [find_mk]; exact h)
end
theorem s_kind : Str.ofString "?pc?d?b?-?l?s" = mk [63, 112, 99, 63, 100, 63, 98, 63, 45, 63, 108, 63, 115] := by decide +kernel
theorem s_r : Str.ofString "-r" = mk [45, 114] := by decide +kernel
theorem s_w : Str.ofString "-w" = mk [45, 119] := by decide +kernel
theorem s_xSs : Str.ofString "-xSs" = mk [45, 120, 83, 115] := by decide +kernel
theorem s_xTt : Str.ofString "-xTt" = mk [45, 120, 84, 116] := by decide +kernel
theorem s_open : Str.ofString "(" = mk [40] := by decide +kernel
theorem s_close : Str.ofString ")" = mk [41] := by decide +kernel
theorem s_back : Str.ofString "\\" = mk [92] := by decide +kernel
theorem s_quote : Str.ofString "\"" = mk [34] := by decide +kernel
theorem s_four : Str.ofString "()\"\\" = mk [40, 41, 34, 92] := by decide +kernel
theorem s_nil : Str.ofString "" = mk [] := by decide +kernel
theorem s_torn : Str.ofString "torn" = mk [116, 111, 114, 110] := by decide +kernel
theorem s_q : Str.ofString "?" = mk [63] := by decide +kernel
theorem s_minus : Str.ofString "-" = mk [45] := by decide +kernel
local macro_rules | `(tactic| walk_at "lit") => `(tactic| first | with_reducible exact s_kind | with_reducible exact s_r | with_reducible exact s_w | with_reducible exact s_xSs | with_reducible exact s_xTt | with_reducible exact s_open | with_reducible exact s_close | with_reducible exact s_back | with_reducible exact s_quote | with_reducible exact s_four | with_reducible exact s_nil | with_reducible exact s_torn | with_reducible exact s_q | with_reducible exact s_minus)
section
variable {R : Rn} {r : Nat} {env : Env} {ρ : Loc} {σ : Sto}
theorem EV_strL {x : Str} {l : List Nat} {k pos} {Q : PV → Sto → Prop} (hx : x = mk l) (h : Q (.str (mk l)) σ) : EV R r env (.Constant (.str x) k pos) ρ σ Q := EV_str (by rw [hx]; exact h)
theorem exS {a : Str} {P : Str → Prop} (h : P a) : ∃ x, PV.str a = PV.str x ∧ P x := ⟨a, rfl, h⟩
theorem exI {a : Int} {P : Int → Prop} (h : P a) : ∃ x, PV.int a = PV.int x ∧ P x := ⟨a, rfl, h⟩
theorem BIN_catL {a b : List Nat} {Q : PV → Sto → Prop} (hz : a.length + b.length < 1000000) (h : Q (.str (mk (a ++ b))) σ) : BIN R r .Add (.str (mk a)) (.str (mk b)) σ Q :=
  BIN_cat (by rw [mk_len, mk_len]; show _ ≤ 2 ^ 24; omega) (by rw [mk_app]; exact h)
theorem CMP_eqL {a b : List Nat} {Q : PV → Sto → Prop} (h : Q (.bool (decide (a = b))) σ) : CMP R r .Eq (.str (mk a)) (.str (mk b)) σ Q := CMP_eqs (by rw [mk_beq]; exact h)
theorem CMP_neL {a b : List Nat} {Q : PV → Sto → Prop} (h : Q (.bool (!decide (a = b))) σ) : CMP R r .NotEq (.str (mk a)) (.str (mk b)) σ Q := CMP_nes (by rw [mk_bne]; exact h)
end
section
variable {R : Rn} {r : Nat} {env : Env} {ρ : Loc} {σ : Sto}
noncomputable def SLI (o : PV) (lo hi : Option Int) (σ : Sto) (Q : PV → Sto → Prop) : Prop := match o with
  | .str x => x.length ≤ sizeLine ∧ Q (.str (Txt.slice x lo hi)) σ
  | .ref l => ∃ ps, σ l = some ps ∧ ps.length ≤ sizeLine ∧ ∀ a, σ a = none → Q (.ref a) (σ.put a (pick ps lo hi))
  | _ => False
theorem EV_slice {value : Expr} {lower upper : Option Expr} {p pos : Pos} {Q : PV → Sto → Prop}
    (h : EV R r env value ρ σ fun o σ₁ => EP R r env lower ρ σ₁ fun l σ₂ => EP R r env upper ρ σ₂ fun u σ₃ => SLI o l u σ₃ Q) :
    EV R r env (.Subscript value (.Slice lower upper none p) pos) ρ σ Q := fun A hA s S F => by
  refine Subscript_ (wpAny_mono (h A hA s S F) (fun o s₁ ⟨σ₁, S₁, g₁, h₁⟩ => wpAny_Slice (wpAny_mono (h₁ A hA s₁ S₁ (F.go S g₁)) (fun vl s₂ ⟨σ₂, lo, S₂, g₂, pl, h₂⟩ => wpAny_mono (h₂ A hA s₂ S₂ ((F.go S g₁).go S₁ g₂)) (fun vu s₃ ⟨σ₃, hi, S₃, g₃, pu, h₃⟩ => ?_) fun _ _ x => x) fun _ _ x => x)) fun _ _ x => x)
  rw [evalPart_none]
  refine wpAny_pure ?_
  have hc : (∃ x t, o = Value.str x t) ∨ (∃ l, o = Value.ref l) := by
    cases o <;> first | exact h₃.elim | exact .inl ⟨_, _, rfl⟩ | exact .inr ⟨_, rfl⟩
  rcases hc with ⟨x, t, rfl⟩ | ⟨l, rfl⟩
  · obtain ⟨hx, h₃⟩ := h₃
    have hk : KeptByPush (fun s' => St R σ₃ s' ∧ Go σ σ₃ s s') := fun s' ob k q => ⟨q.1.push ob k, q.2.trans (Go.push ob k)⟩
    have hI : St R σ₃ s₃ ∧ Go σ σ₃ s s₃ := ⟨S₃, (g₁.trans g₂).trans g₃⟩
    cases pl <;> cases pu
    · obtain ⟨T, id, a1, a2, a3⟩ := SBG.sliceItem_nn (prog := P0) (w := R.w) (A := A) (E := nope) (x := x) (t := t) (Q := Post R σ s pv Q) hk hI (fun s' t' q => ⟨σ₃, q.1, q.2, h₃⟩) hx
      exact tail_any a2 a1 a3 rfl
    · obtain ⟨T, id, a1, a2, a3⟩ := SBG.sliceItem_ns (prog := P0) (w := R.w) (A := A) (E := nope) (x := x) (t := t) (Q := Post R σ s pv Q) hk hI (fun s' t' q => ⟨σ₃, q.1, q.2, h₃⟩) hx
      exact tail_any a2 a1 a3 rfl
    · obtain ⟨T, id, a1, a2, a3⟩ := SBG.sliceItem_sn (prog := P0) (w := R.w) (A := A) (E := nope) (x := x) (t := t) (Q := Post R σ s pv Q) hk hI (fun s' t' q => ⟨σ₃, q.1, q.2, h₃⟩) hx
      exact tail_any a2 a1 a3 rfl
    · obtain ⟨T, id, a1, a2, a3⟩ := SBG.sliceItem_ss (prog := P0) (w := R.w) (A := A) (E := nope) (x := x) (t := t) (Q := Post R σ s pv Q) hk hI (fun s' t' q => ⟨σ₃, q.1, q.2, h₃⟩) hx
      exact tail_any a2 a1 a3 rfl
  · obtain ⟨ps, hps, hz, h₃⟩ := h₃
    have S₄ := S₃.push { cls := .type "slice", data := .fields #[vl, vu, .none] } s₃.toks
    have g₄ := ((g₁.trans g₂).trans g₃).trans (Go.push { cls := .type "slice", data := .fields #[vl, vu, .none] } s₃.toks)
    obtain ⟨vs, hp, hv⟩ := S₄.list hps
    have hlen : vs.length = ps.length := by rw [← hv, List.length_map]
    refine tail_any hp.isList.typeIs slot_list_getitem.lookup (wpAny_getItem_list_slice hp.isList (Heap.IsSliceOf.new ..) pl pu .none (by simp) ?_ (by rw [List.size_toArray]; omega)) rfl
    rw [W.kms_pick_eq]
    obtain ⟨a, b, c⟩ := S₄.newList (W.kms_pick vs lo hi)
    refine ⟨_, a, g₄.trans b, ?_⟩
    have : (W.kms_pick vs lo hi).map pv = pick ps lo hi := by rw [← hv]; exact pick_map pv vs lo hi
    rw [this]
    exact h₃ _ c

theorem SLI_ss {l : List Nat} {a b : Int} {Q : PV → Sto → Prop} (hz : l.length < 1000000) (h0 : 0 ≤ a) (hab : a ≤ b) (hb : b ≤ l.length) (h : Q (.str (mk ((l.drop a.toNat).take (b.toNat - a.toNat)))) σ) : SLI (.str (mk l)) (some a) (some b) σ Q := by
  refine ⟨by rw [mk_len]; show _ ≤ 2 ^ 24; omega, ?_⟩
  have := slice_mk l a.toNat b.toNat (by omega) (by omega)
  rw [Int.toNat_of_nonneg h0, Int.toNat_of_nonneg (by omega)] at this
  rw [this]; exact h
theorem SLI_sn {l : List Nat} {a : Int} {Q : PV → Sto → Prop} (hz : l.length < 1000000) (h0 : 0 ≤ a) (ha : a ≤ l.length) (h : Q (.str (mk (l.drop a.toNat))) σ) : SLI (.str (mk l)) (some a) none σ Q := by
  refine ⟨by rw [mk_len]; show _ ≤ 2 ^ 24; omega, ?_⟩
  have := slice_from_mk l a.toNat (by omega)
  rw [Int.toNat_of_nonneg h0] at this
  rw [this]; exact h
theorem SLI_ns {l : List Nat} {b : Int} {Q : PV → Sto → Prop} (hz : l.length < 1000000) (h0 : 0 ≤ b) (hb : b ≤ l.length) (h : Q (.str (mk (l.take b.toNat))) σ) : SLI (.str (mk l)) none (some b) σ Q := by
  refine ⟨by rw [mk_len]; show _ ≤ 2 ^ 24; omega, ?_⟩
  have := slice_to_mk l b.toNat (by omega)
  rw [Int.toNat_of_nonneg h0] at this
  rw [this]; exact h
theorem SLI_neg {l : List Nat} {a : Int} {Q : PV → Sto → Prop} (hz : l.length < 1000000) (h0 : 0 ≤ a) (ha : a + 1 ≤ l.length) (h : Q (.str (mk ((l.drop a.toNat).take (l.length - 1 - a.toNat)))) σ) : SLI (.str (mk l)) (some a) (some (-1)) σ Q := by
  refine ⟨by rw [mk_len]; show _ ≤ 2 ^ 24; omega, ?_⟩
  have := slice_neg_mk l a.toNat (by omega)
  rw [Int.toNat_of_nonneg h0] at this
  rw [this]; exact h
theorem SLI_list {l : Addr} {ps : List PV} {lo hi : Option Int} {Q : PV → Sto → Prop} (hps : σ l = some ps) (hz : ps.length < 1000000) (h : ∀ a, σ a = none → Q (.ref a) (σ.put a (pick ps lo hi))) : SLI (.ref l) lo hi σ Q :=
  ⟨ps, hps, by show _ ≤ 2 ^ 24; omega, h⟩
theorem EV_neg1 {x : Int} {k p pos} {Q : PV → Sto → Prop} (h : Q (.int (-x)) σ) : EV R r env (.UnaryOp .USub (.Constant (.int x) k p) pos) ρ σ Q := fun A hA s S F =>
  UnaryOp_ (wpAny_Constant_int (PyProof.Rows.neg_int (Post.same S _ h)))
end
local macro_rules | `(tactic| walk_at "step0") => `(tactic| first
  | ((with_reducible refine' EV_strL ?k1 ?_); (case k1 => walk_at "lit"))
  | with_reducible refine exS ?_ | with_reducible refine exI ?_
  | with_reducible refine EV_slice ?_ | with_reducible refine EP_none ?_ | with_reducible refine EP_some ?_
  | with_reducible refine EV_neg1 ?_
  | with_reducible refine CMP_eqL ?_ | with_reducible refine CMP_neL ?_)
local macro_rules | `(tactic| walk_at "walk") => `(tactic| repeat (first | walk_at "step0" | walk_at "step" | walk_at "step2" | walk_at "step3"))

/-! T1 -/
noncomputable def kinds : List Int := [1, 2, 4, 6, 8, 10, 12]
noncomputable def lmode (n : Int) : Int := kinds.getD (n.fmod 7).toNat 0 * 4096 + (n.fdiv 7).fmod 4096
theorem fmod_range (n : Int) (k : Nat) (hk : 0 < k) : 0 ≤ n.fmod k ∧ n.fmod k < k := by
  rw [Int.fmod_eq_emod_of_nonneg _ (by omega)]
  exact ⟨Int.emod_nonneg _ (by omega), Int.emod_lt_of_pos _ (by omega)⟩

theorem lawmode_ok {R : Rn} {r : Nat} {σ : Sto} {n : Int} {Q : PV → Sto → Prop} (B : Base R)
    (h : ∀ a, σ a = none → Q (.int (lmode n)) (σ.put a (kinds.map .int))) : CF R (r + 1) "_law_mode" [.int n] σ Q := by
  refine CF_of B rfl (fun pm cd doc vals hv => ?_) rfl rfl rfl rfl rfl (fun L a cd => ?_)
  · obtain ⟨_, rfl⟩ := len1 hv
    rfl
  walk_at "walk"
  refine EV_List ?_
  walk_at "walk"
  refine ⟨by show 7 ≤ sizeLine; decide, fun b hb => ?_⟩
  walk_at "walk"
  obtain ⟨h0, h7⟩ : 0 ≤ n.fmod 7 ∧ n.fmod 7 < 7 := fmod_range n 7 (by decide)
  refine SUB_list (Sto.put_self ..) h0 (p := .int (kinds.getD (n.fmod 7).toNat 0)) ?_ (by omega) (fun _ => rfl) ?_
  · have : (n.fmod 7).toNat < 7 := by omega
    generalize (n.fmod 7).toNat = k at this
    match k, this with
    | 0, _ => rfl | 1, _ => rfl | 2, _ => rfl | 3, _ => rfl | 4, _ => rfl | 5, _ => rfl | 6, _ => rfl
  walk_at "walk"
  exact h b hb

noncomputable def wI (xs : List Nat) (c : Nat) : Int := fnd xs c 0
/-- what _law_read makes of ten signs -/
noncomputable def rdlast (k c : Nat) : Int := if k < 2 then fnd [45, 120, 83, 115] c 0 else fnd [45, 120, 84, 116] c 0
noncomputable def rdstep (l : List Nat) (k : Nat) (m : Int) : Int :=
  m + (fnd [45, 114] (l.getD (3 * k + 1) 0) 0 * 4 + fnd [45, 119] (l.getD (3 * k + 2) 0) 0 * 2 + (rdlast k (l.getD (3 * k + 3) 0)).fmod 2) * 8 ^ (2 - k) + (rdlast k (l.getD (3 * k + 3) 0)).fdiv 2 * 512 * 2 ^ (2 - k)
noncomputable def rd (l : List Nat) : Int := rdstep l 2 (rdstep l 1 (rdstep l 0 (fnd [63, 112, 99, 63, 100, 63, 98, 63, 45, 63, 108, 63, 115] (l.getD 0 0) 0 * 4096)))

theorem lawread_ok {R : Rn} {r : Nat} {σ : Sto} {l : List Nat} {Q : PV → Sto → Prop} (B : Base R) (hl : l.length = 10)
    (h : Q (.int (rd l)) σ) : CF R (r + 1) "_law_read" [.str (mk l)] σ Q := by
  refine CF_of B rfl (fun pm cd doc vals hv => ?_) rfl rfl rfl rfl rfl (fun L a cd => ?_)
  · obtain ⟨_, rfl⟩ := len1 hv
    rfl
  walk_at "walk"
  refine SUB_strL (by decide) (by omega) (by omega) (fun _ _ => rfl) (METH_findL rfl ?_)
  walk_at "walk"
  refine ⟨3, rfl, by decide, ?_⟩
  show forQ _ _ _ _ _ _ _ [PV.int 0, PV.int 1, PV.int 2] _ _
  walk_at "walk"
  iterate 3
    refine SUB_strL (by decide) (by omega) (by omega) (fun _ _ => rfl) (METH_findL rfl ?_)
    walk_at "walk"
    refine SUB_strL (by decide) (by omega) (by omega) (fun _ _ => rfl) (METH_findL rfl ?_)
    walk_at "walk"
    refine SUB_strL (by decide) (by omega) (by omega) (fun _ _ => rfl) (METH_findL rfl ?_)
    walk_at "walk"
    refine BIN_pow (by decide) (by decide) (by decide) ?_
    walk_at "walk"
    refine BIN_pow (by decide) (by decide) (by decide) ?_
    walk_at "walk"
  exact h

/-! M12 -/
section
open AutoSeq1 (wpAny_loadPart')
section
variable {prog : Program} {w : World} {A : Around} {E : Value → Shared → Prop} {s : Shared}

theorem nextOf_tuple_item {it l : Addr} {i : Nat} {items : Array Value} {x : Value} {Q : Value → Shared → Prop} (hit : s.heap.IsTupleIter it l i) (hl : s.heap.IsTuple l items) (hx : items[i]? = some x)
    (hQ : ∀ h', h'.IsTupleIter it l (i + 1) → Heap.SameBut it s.heap h' → Q x { s with heap := h' }) : wpAny (model prog w) A (Builtin.SmallTypes.nextOf (.ref it)) Q E s := by
  obtain ⟨o, ho, hc, hd⟩ := id hit
  obtain ⟨ol, hol, _, nl, hdl⟩ := hl
  unfold Builtin.SmallTypes.nextOf
  refine wpAny_bind (wpAny_callSpecial?_slot (name := Str.ofString "__next__") hit.typeIs F.slot_tuple_iterator_next
    (wpAny_call_entry F.slot_tuple_iterator_next hit.typeIs F.entry_tuple_iterator_next ?_ (F.args_tuple_iterator_next_1 _)))
  show wpAny _ _ (field (.ref it) 0 >>= _) _ _ s
  refine wpAny_bind (wpAny_field ho hd (x := .ref l) rfl ?_)
  show wpAny _ _ (if (Value.ref l == Value.none) = true then _ else _) _ _ s
  rw [if_neg (show ¬ ((Value.ref l == Value.none) = true) from Bool.false_ne_true)]
  show wpAny _ _ (field (.ref it) 1 >>= _) _ _ s
  refine wpAny_bind (wpAny_field ho hd (x := .int i 0) rfl ?_)
  show wpAny _ _ (seqItems? (.ref l) >>= _) _ _ s
  refine wpAny_bind (wpAny_seqItems hol hdl ?_)
  simp only [Int.toNat_natCast, hx]
  refine wpAny_bind (wpAny_setField ho hd (by simp) (wpAny_pure ⟨x, rfl, wpAny_pure (hQ _ ?_ (Heap.SameBut.update ..))⟩))
  exact ⟨_, Heap.get?_update_self _ ho (Obj.isFreed_of_fields (Obj.data_mapFields hd _)), (Obj.cls_mapFields ..).trans hc, by
    rw [Obj.data_mapFields hd]; simp [rawInt]⟩

theorem nextOf_tuple_end {it l : Addr} {i : Nat} {items : Array Value} {Q : Value → Shared → Prop} (hh : A.handled = none) (hit : s.heap.IsTupleIter it l i) (hl : s.heap.IsTuple l items) (hx : items[i]? = none)
    (hE : ∀ h' e, Heap.ExtBut it s.heap h' → (∃ o, h'.get? e = some o ∧ o.cls = .type "StopIteration") → E (.ref e) { s with heap := h' }) :
    wpAny (model prog w) A (Builtin.SmallTypes.nextOf (.ref it)) Q E s := by
  obtain ⟨o, ho, hc, hd⟩ := id hit
  obtain ⟨ol, hol, _, nl, hdl⟩ := hl
  unfold Builtin.SmallTypes.nextOf
  refine wpAny_bind (wpAny_callSpecial?_slot (name := Str.ofString "__next__") hit.typeIs F.slot_tuple_iterator_next
    (wpAny_call_entry F.slot_tuple_iterator_next hit.typeIs F.entry_tuple_iterator_next ?_ (F.args_tuple_iterator_next_1 _)))
  show wpAny _ _ (field (.ref it) 0 >>= _) _ _ s
  refine wpAny_bind (wpAny_field ho hd (x := .ref l) rfl ?_)
  show wpAny _ _ (if (Value.ref l == Value.none) = true then _ else _) _ _ s
  rw [if_neg (show ¬ ((Value.ref l == Value.none) = true) from Bool.false_ne_true)]
  show wpAny _ _ (field (.ref it) 1 >>= _) _ _ s
  refine wpAny_bind (wpAny_field ho hd (x := .int i 0) rfl ?_)
  show wpAny _ _ (seqItems? (.ref l) >>= _) _ _ s
  refine wpAny_bind (wpAny_seqItems hol hdl ?_)
  simp only [Int.toNat_natCast, hx]
  refine wpAny_bind (wpAny_rule (wpAny_bind (wpAny_setField ho hd (by simp) ?_)))
  show wpAny _ _ (newExc (.type "StopIteration") [] >>= _) _ _ _
  refine wpAny_bind ?_
  simp only [newExc, newTuple]
  refine wpAny_bind (wpAny_newObj_type ?_ (by size_fits))
  refine wpAny_bind (m := firstArgMember _ _) (wpAny_of_eq (a := Value.none) (by first | rfl | (simp only [firstArgMember]; rfl)) ?_)
  refine wpAny_newObj_type ?_ (by size_fits)
  simp only [raiseNew]
  refine wpAny_bind (wpAny_handled ?_)
  first | rw [show A.in1.handled = none from hh] | rw [hh]
  refine wpAny_bind (wpAny_pure (wpAny_throw ?_))
  exact hE _ _ (((Heap.SameBut.update ..).extBut.push _).push _) ⟨_, Heap.get?_push_size _ rfl, rfl⟩

theorem tupIter_at {h h' : Heap} {a t i} (x : h.IsTupleIter a t i) (e : ∀ o, h.get? a = some o → h'.get? a = some o) : h'.IsTupleIter a t i := let ⟨o, ho, r⟩ := x; ⟨o, e _ ho, r⟩
theorem tup_at {h h' : Heap} {a its} (x : h.IsTuple a its) (e : ∀ o, h.get? a = some o → h'.get? a = some o) : h'.IsTuple a its := let ⟨o, ho, r⟩ := x; ⟨o, e _ ho, r⟩

theorem draws_tuple (hh : A.handled = none) (it l : Addr) (hne : l ≠ it) (items : Array Value) :
    Draws prog w A it [it, l] items.size (fun i v => items[i]? = some v) (fun i h => h.IsTupleIter it l i ∧ h.IsTuple l items) where
  live := fun _ _ st => let ⟨o, ho, _⟩ := st.1; ⟨o, ho⟩
  frame := fun _ _ _ st hk => ⟨tupIter_at st.1 fun o e => hk it (by simp) o e, tup_at st.2 fun o e => hk l (by simp) o e⟩
  item := fun i s Q E hi st hQ => by
    refine nextOf_tuple_item st.1 st.2 (x := items[i]) (by simp [hi]) fun h' hit' hs' => ?_
    exact hQ _ h' s.toks (by simp [hi]) ⟨hit', st.2.extBut hs'.extBut hne⟩ hs'
  done := fun s Q E st hE => nextOf_tuple_end hh st.1 st.2 (by simp) hE

theorem meets_enumerate_newT (l : Addr) (items : Array Value) (n : Nat) (dct : Option Addr) (sl : Array (Option Value)) :
    Meets (Builtin.«enumerate.__new__» ⟨[.type "enumerate", .ref l], []⟩) (fun _ R s => s.heap.get? l = some { cls := .type "tuple", dict := dct, data := .seq items n, slots := sl } ∧
      R (.ok (.ret (.ref (s.heap.push { cls := .type "tuple_iterator", data := .fields #[.ref l, .int 0 0] }).objs.size)))
        { s with heap := (s.heap.push { cls := .type "tuple_iterator", data := .fields #[.ref l, .int 0 0] }).push { cls := .type "enumerate", data := .fields #[.none, .bool false, .ref s.heap.objs.size, rawInt 0, .none, .none] } }) :=
  .of_wp fun prog w A R s h => by
    obtain ⟨hp, g, d, tk, os⟩ := s; obtain ⟨hl, h⟩ := h
    have hsub := sub_enumerate
    have hL : Heap.IsTuple (Shared.heap ⟨hp, g, d, tk, os⟩) l items := ⟨_, hl, rfl, n, rfl⟩
    wp_walk using wpAny_loadPart' hl
    refine wpAny_stack_any fun st => wpAny_pure ?_
    split
    · rename_i c _ _ _ _ _
      cases (c == Value.type "enumerate")
      · wp_walk using wpAny_loadPart' hl, wpAny_pyIter_tuple hL
        exact ⟨_, rfl, h⟩
      · wp_walk using wpAny_loadPart' hl, wpAny_pyIter_tuple hL
        exact ⟨_, rfl, h⟩
    · wp_walk using wpAny_loadPart' hl, wpAny_pyIter_tuple hL
      exact ⟨_, rfl, h⟩

theorem call_enumerate_tuple {l : Addr} {items : Array Value} {Q : Value → Shared → Prop} (hL : s.heap.IsTuple l items)
    (h : Q (.ref (s.heap.objs.size + 1)) { s with heap := (s.heap.push { cls := .type "tuple_iterator", data := .fields #[.ref l, .int 0 0] }).push { cls := .type "enumerate", data := .fields #[.none, .bool false, .ref s.heap.objs.size, rawInt 0, .none, .none] } }) :
    wpAny (model prog w) A (call (.type "enumerate") [.ref l]) Q E s := by
  obtain ⟨⟨c, dct, dt, sl⟩, hl, hc, n, hd⟩ := hL
  replace hc : c = .type "tuple" := hc
  replace hd : dt = .seq items n := hd
  subst hc hd
  refine callType_new F.called_enumerate (by decide) (F.typeCall_enumerate_1 _) (F.newCall_enumerate_1 _) (fun obj => F.args_object_init_2 obj _) F.entry_enumerate_new
    (meets_enumerate_newT l items n dct sl) ⟨hl, ?_⟩
  have hz : (s.heap.push { cls := .type "tuple_iterator", data := .fields #[.ref l, .int 0 0] }).objs.size = s.heap.objs.size + 1 := Heap.size_push ..
  show _ ∧ _
  rw [hz]
  have he := Heap.get?_push_size (s.heap.push { cls := .type "tuple_iterator", data := .fields #[.ref l, .int 0 0] })
    (o := { cls := .type "enumerate", data := .fields #[.none, .bool false, .ref s.heap.objs.size, rawInt 0, .none, .none] }) rfl
  rw [hz] at he
  exact ⟨⟨_, he, rfl⟩, h⟩

theorem letOwned_tupleiter {elts : List Expr} {x1} {pos : Pos} {I l T : Addr} {i : Nat} {Q : Unit → Shared → Prop} (hit : s.heap.IsTupleIter I l i) (hQ : Q () s) :
    wpAny (model prog w) A (letOwnedTupleGo (.Tuple elts x1 pos) (.ref I) (.ref T)) Q E s := by
  obtain ⟨o, ho, hc, hd⟩ := hit
  unfold letOwnedTupleGo
  refine wpAny_bind (wpAny_load ho ?_)
  rw [hc, hd]
  show wpAny _ A (if (["enumerate", "zip", "dict_itemiterator", "dict_reverseitemiterator", "odict_iterator", "itertools.zip_longest", "itertools.pairwise"].contains "tuple_iterator" &&
      (#[.ref l, .int i 0] : Array Value)[0]? == some (rawInt T)) = true then _ else _) Q E s
  rw [if_neg (by
    intro h
    rw [show (["enumerate", "zip", "dict_itemiterator", "dict_reverseitemiterator", "odict_iterator", "itertools.zip_longest", "itertools.pairwise"].contains "tuple_iterator") = false from by decide, Bool.false_and] at h
    cases h)]
  exact wpAny_pure hQ

theorem walksU_tuple (hh : A.handled = none) (I ax : Addr) (hne : ax ≠ I) (items : Array Value) (Ts : Nat → Addr) (vals : Nat → Array Value)
    (hit : ∀ j, j < items.size → items[j]? = some (.ref (Ts j))) (hTI : ∀ j, j < items.size → Ts j ≠ I) :
    WalksU prog w A I (I :: ax :: (List.range items.size).map Ts) [I] items.size (fun j v => v = vals j)
      (fun j h => h.IsTupleIter I ax j ∧ h.IsTuple ax items ∧ ∀ k, k < items.size → h.IsTuple (Ts k) (vals k))
      (fun j T h => (j < items.size ∧ T = Ts j) ∧ h.IsTupleIter I ax (j + 1) ∧ h.IsTuple ax items ∧ ∀ k, k < items.size → h.IsTuple (Ts k) (vals k)) where
  sub := fun b hb => by simp at hb; simp [hb]
  frame := fun _ _ _ st hk => ⟨tupIter_at st.1 fun o e => hk I (by simp) o e, tup_at st.2.1 fun o e => hk ax (by simp) o e,
    fun k hk' => tup_at (st.2.2 k hk') fun o e => hk (Ts k) (List.mem_cons_of_mem _ (List.mem_cons_of_mem _ (List.mem_map.mpr ⟨k, List.mem_range.mpr hk', rfl⟩))) o e⟩
  item := fun i s Q E hi st hQ => by
    refine wpAny_pyNext_tuple_item st.1 st.2.1 (x := .ref (Ts i)) (hit i hi) fun h' hit' hs' => ?_
    have tup : ∀ k, k < items.size → h'.IsTuple (Ts k) (vals k) := fun k hk' => (st.2.2 k hk').extBut hs'.extBut (hTI k hk')
    exact hQ (Ts i) (vals i) h' s.toks rfl (tup i hi) ⟨⟨hi, rfl⟩, hit', st.2.1.extBut hs'.extBut hne, tup⟩ fun b o hb e => hs'.extBut b o (fun h => hb (by simp [h])) e
  go := fun _ _ _ _ _ s Q _ hm hQ => letOwned_tupleiter hm.2.1 (hQ s.heap hm.2 fun _ _ _ e => e)
  apart := fun j T _ hm hmem => by
    rcases List.mem_cons.mp hmem with e | e
    · exact hTI j hm.1.1 (hm.1.2 ▸ e)
    · cases e
  done := fun s Q E st hQ => wpAny_pyNext_tuple_end hh st.1 st.2.1 (by simp) fun h' he' => hQ h' s.toks fun b o hb e => he' b o (fun h => hb (by simp [h])) e
  self := fun _ _ _ _ st hQ => wpAny_pyIter_tupleiter st.1 hQ
end
end

/-! M13 -/
section
variable {R : Rn} {r : Nat} {env : Env} {ρ : Loc} {σ : Sto}

noncomputable def Walker2 (R : Rn) (A : Around) (L : Addr) (σ₀ σ : Sto) (s₀ s : Shared) (it : Value) (n : Nat) (T : Nat → Array Value → Prop) : Prop :=
  ∃ I fp wr P Stt Mid, it = .ref I ∧ WalksU P0 R.w A I fp wr n P Stt Mid ∧ Stt 0 s.heap ∧ (∀ b ∈ fp, σ b = none ∧ b ≠ L) ∧ (∀ b ∈ wr, R.h₀.get? b = none ∧ ∀ o, s₀.heap.get? b = some o → σ₀ b ≠ none) ∧ (∀ i h, Stt i h → ∀ b ∈ fp, ∃ o, h.get? b = some o) ∧ (∀ i v, i < n → P i v → T i v)

noncomputable def ITR2 (R : Rn) (r : Nat) (env : Env) (iter : Expr) (ρ : Loc) (σ : Sto) (K : List (PV × PV) → Sto → Prop) : Prop :=
  ∀ A, Room R.top r A → ∀ s, St R σ s → LocAt R env.locals ρ s → wpAny R.M A (eval iter env) (fun v s₁ => wpAny R.M A (pyIter v) (fun it s₂ => ∃ items σ₂, St R σ₂ s₂ ∧ Go σ σ₂ s s₂ ∧
    Walker2 R A env.locals σ σ₂ s s₂ it items.length (fun i vals => ∃ a b, vals = #[a, b] ∧ items[i]? = some (pv a, pv b)) ∧ K items σ₂) nope s₁) nope s

noncomputable def forQ2 (R : Rn) (r : Nat) (env : Env) (x y : Str) (body orelse : List Stmt) (Q : FL → Loc → Sto → Prop) : List (PV × PV) → Loc → Sto → Prop
  | [], ρ, σ => EXS R r env orelse ρ σ Q
  | p :: ps, ρ, σ => EXS R r env body ((ρ.put x p.1).put y p.2) σ (loopQ Q fun ρ' σ' => forQ2 R r env x y body orelse Q ps ρ' σ')

theorem EX_For2 {x y : Str} {px py tp pos : Pos} {k : Nat} {iter : Expr} {body orelse : List Stmt} {Q : FL → Loc → Sto → Prop} (he : EnvOk env) (hl : env.kindOf x = some .local) (hl2 : env.kindOf y = some .local) (hs : ∀ x, foldedSetIterable iter env x = pure x)
    (h : ITR2 R r env iter ρ σ fun items σ₁ => forQ2 R r env x y body orelse Q items ρ σ₁) : EX R r env (.For (.Tuple [.Name x px, .Name y py] k tp) iter body orelse pos) ρ σ Q := fun A hA s S F => by
  refine wpAny_For (wpAny_mono (h A hA s S F) (fun v s₁ h₁ => wpAny_mono h₁ (fun it s₂ h₂ => ?_) fun _ _ x => x.elim) fun _ _ x => x.elim) hs
  obtain ⟨items, σ₂, S₂, g₂, ⟨I, fp, wr, P, Stt, Mid, rfl, W, st0, hfp, hwr, hex, hP⟩, hQ⟩ := h₂
  have hwr0 : ∀ b ∈ wr, R.h₀.get? b = none := fun b hb => (hwr b hb).1
  refine codeAny_forLoop_any (fun n s' => ∃ i ρ' σ', i ≤ items.length ∧ n = items.length + 1 - i ∧ St R σ' s' ∧ LocAt R env.locals ρ' s' ∧ GoL env.locals σ σ' s s' ∧ Stt i s'.heap ∧ (∀ b ∈ fp, σ' b = none ∧ b ≠ env.locals) ∧
    forQ2 R r env x y body orelse Q (items.drop i) ρ' σ') (fun n s' hI => ?_) (items.length + 1) ⟨0, ρ, σ₂, Nat.zero_le _, rfl, S₂, F.go S g₂, g₂.l, st0, hfp, hQ⟩
  obtain ⟨i, ρ', σ', hi, rfl, S', F', g', st', hfp', hQ'⟩ := hI
  have hσw : ∀ b ∈ wr, σ' b = none := fun b hb => (hfp' b (W.sub b hb)).1
  have hLw : ∀ b ∈ wr, b ≠ env.locals := fun b hb => (hfp' b (W.sub b hb)).2
  by_cases hlt : i < items.length
  · refine W.item i s' _ _ hlt st' fun T vals h' tk hPv hT hm hk => ?_
    have S₁ : St R σ' { s' with heap := h', toks := tk } := S'.away hσw hwr0 hk
    have F₁ : LocAt R env.locals ρ' { s' with heap := h', toks := tk } := F'.away hLw hk
    obtain ⟨va, vb, rfl, ev⟩ := hP i _ hlt hPv
    have hd : items.drop i = (pv va, pv vb) :: items.drop (i + 1) := by
      obtain ⟨hlt', e⟩ := List.getElem?_eq_some_iff.mp ev
      rw [List.drop_eq_getElem_cons hlt', e]
    rw [hd] at hQ'
    refine W.go _ _ _ i T _ _ _ hm fun h'' st₁ hk2 => ?_
    have S₂ : St R σ' { s' with heap := h'', toks := tk } := S₁.away hσw hwr0 hk2
    have F₂ : LocAt R env.locals ρ' { s' with heap := h'', toks := tk } := F₁.away hLw hk2
    have hT2 : IsTup h'' T #[va, vb] := by
      obtain ⟨o, ho, hc⟩ := hT
      exact ⟨o, hk2 T o (W.apart i T _ hm) ho, hc⟩
    refine assign_Tuple_tuple hA.hd hT2 rfl rfl fun h3 hx => ?_
    obtain ⟨S₃, g₃⟩ := S₂.ext hx
    have F₃ := F₂.go S₂ g₃
    refine assignInOrder_cons (wpAny_assign_Name (wpAny_mono (store he hl S₃ F₃ (Q := fun _ s₃ => St R σ' s₃ ∧ LocAt R env.locals (ρ'.put x (pv va)) s₃ ∧ GoL env.locals σ' σ' { s' with heap := h3, toks := tk } s₃) fun s₃ a b c => ⟨a, b, c⟩) (fun _ s₄ ⟨S₄, F₄, g₄⟩ => ?_) fun _ _ x => x.elim))
    refine assignInOrder_cons (wpAny_assign_Name (wpAny_mono (store he hl2 S₄ F₄ (Q := fun _ s₅ => St R σ' s₅ ∧ LocAt R env.locals ((ρ'.put x (pv va)).put y (pv vb)) s₅ ∧ GoL env.locals σ' σ' s₄ s₅) fun s₃ a b c => ⟨a, b, c⟩) (fun _ s₅ ⟨S₅, F₅, g₅⟩ => ?_) fun _ _ x => x.elim))
    refine assignInOrder_nil ?_
    have g35 : GoL env.locals σ' σ' { s' with heap := h'', toks := tk } s₅ := (g₃.l.trans g₄).trans g₅
    refine wpAny_mono (hQ' A hA s₅ S₅ F₅) (fun f s₆ ⟨ρ₆, σ₆, S₆, F₆, g₆, h₆⟩ => ?_) fun _ _ x => x.elim
    have st₅ : Stt (i + 1) s₅.heap := W.frame _ _ _ st₁ fun b hb o e => (g35 b o (hfp' b hb).2 e (hfp' b hb).1).1
    have st₆ : Stt (i + 1) s₆.heap := W.frame _ _ _ st₅ fun b hb o e => (g₆ b o (hfp' b hb).2 e (hfp' b hb).1).1
    have hfp₆ : ∀ b ∈ fp, σ₆ b = none ∧ b ≠ env.locals := fun b hb => by
      obtain ⟨o, e⟩ := hex _ _ st₅ b hb
      exact ⟨(g₆ b o (hfp' b hb).2 e (hfp' b hb).1).2, (hfp' b hb).2⟩
    have gg : GoL env.locals σ σ₆ s s₆ := fun b o ne e q => by
      obtain ⟨e', q'⟩ := g' b o ne e q
      have hbw : b ∉ wr := fun hb => (hwr b hb).2 o e q
      obtain ⟨e3, q3⟩ := g35 b o ne (hk2 b o hbw (hk b o hbw e')) q'
      exact g₆ b o ne e3 q3
    cases f with
    | next => exact ⟨items.length + 1 - (i + 1), by omega, i + 1, ρ₆, σ₆, hlt, rfl, S₆, F₆, gg, st₆, hfp₆, h₆⟩
    | cont => exact ⟨items.length + 1 - (i + 1), by omega, i + 1, ρ₆, σ₆, hlt, rfl, S₆, F₆, gg, st₆, hfp₆, h₆⟩
    | brk => exact ⟨ρ₆, σ₆, S₆, F₆, gg, h₆⟩
    | ret v => exact ⟨ρ₆, σ₆, S₆, F₆, gg, h₆⟩
  · obtain rfl : i = items.length := by omega
    refine W.done s' _ _ st' fun h' tk hk => ?_
    have S₁ : St R σ' { s' with heap := h', toks := tk } := S'.away hσw hwr0 hk
    have F₁ : LocAt R env.locals ρ' { s' with heap := h', toks := tk } := F'.away hLw hk
    rw [List.drop_length] at hQ'
    refine wpAny_mono (hQ' A hA _ S₁ F₁) (fun f s₄ ⟨ρ₄, σ₄, S₄, F₄, g₄, h₄⟩ => ⟨ρ₄, σ₄, S₄, F₄, fun b o ne e q => ?_, h₄⟩) fun _ _ x => x.elim
    obtain ⟨e', q'⟩ := g' b o ne e q
    have hbw : b ∉ wr := fun hb => (hwr b hb).2 o e q
    exact g₄ b o ne (hk b o hbw e') q'

theorem forQ2_ind {D : Type} {x y : Str} {body orelse : List Stmt} {Q : FL → Loc → Sto → Prop} (loc : D → Loc) (sto : D → Sto) (P : List (PV × PV) → D → Prop)
    (turn : ∀ p ps d, P (p :: ps) d → EXS R r env body (((loc d).put x p.1).put y p.2) (sto d) (loopQ Q fun ρ' σ' => ∃ d', P ps d' ∧ Le (loc d') ρ' ∧ σ' = sto d'))
    (done : ∀ d, P [] d → EXS R r env orelse (loc d) (sto d) Q) :
    ∀ (items : List (PV × PV)) (d : D) {ρ : Loc} {σ : Sto}, P items d → Le (loc d) ρ → σ = sto d → forQ2 R r env x y body orelse Q items ρ σ
  | [], d, ρ, σ, hP, hle, hσ => by subst hσ; exact EXS_le hle (done d hP)
  | p :: ps, d, ρ, σ, hP, hle, hσ => by
    subst hσ
    refine EXS_le ((hle.put x p.1).put y p.2) (EXS.mono (turn p ps d hP) fun f ρ' σ' h' => ?_)
    cases f with
    | next => obtain ⟨d', p', l', e'⟩ := h'; exact forQ2_ind loc sto P turn done ps d' p' l' e'
    | cont => obtain ⟨d', p', l', e'⟩ := h'; exact forQ2_ind loc sto P turn done ps d' p' l' e'
    | brk => exact h'
    | ret v => exact h'

/-! the table of signs -/
noncomputable def PairAt (h : Heap) (a : Addr) (p : Int × Nat) : Prop := ∃ t u, h.IsTuple a #[.int p.1 t, .str (mk [p.2]) u]
noncomputable def RowAt (h : Heap) (a : Addr) (ps : List (Int × Nat)) : Prop := ∃ as : List Addr, h.IsTuple a (as.map Value.ref).toArray ∧ as.length = ps.length ∧ ∀ (i : Nat) b p, as[i]? = some b → ps[i]? = some p → PairAt h b p
noncomputable def TabAt (h : Heap) (a : Addr) (rows : List (List (Int × Nat))) : Prop := ∃ as : List Addr, h.IsTuple a (as.map Value.ref).toArray ∧ as.length = rows.length ∧ ∀ (i : Nat) b p, as[i]? = some b → rows[i]? = some p → RowAt h b p

theorem St.old {s : Shared} (S : St R σ s) {a : Addr} {o : Obj} (h : R.h₀.get? a = some o) : σ a = none := by
  cases e : σ a with
  | none => rfl
  | some l => have := (S.lists a l e).2; rw [h] at this; cases this

theorem ITR2_row {y : Str} {pos : Pos} {a : Addr} {ps : List (Int × Nat)} {K : List (PV × PV) → Sto → Prop} (hk : env.scope.kind = .function) (hl : env.kindOf y = some .local) (hd : (y == ("__debug__" : Str)) = false)
    (hy : ρ y = some (.ref a)) (ha : RowAt R.h₀ a ps) (h : K (ps.map fun p => (PV.int p.1, PV.str (mk [p.2]))) σ) : ITR2 R r env (.Name y pos) ρ σ K := fun A hA s S F => by
  obtain ⟨m, hn, hm⟩ := F.ns
  obtain ⟨v, hv, e⟩ := hm y _ hy
  refine wpAny_Name (wpAny_loadName_local hk hl hn hv ?_) hd
  rw [pv_ref e]
  obtain ⟨as, ht, hlen, hp⟩ := ha
  have ht' : s.heap.IsTuple a (as.map Value.ref).toArray := tup_at ht fun o e => S.keep _ _ e
  refine wpAny_pyIter_tuple ht' ?_
  have hf := fresh_it S S F Go.refl
  obtain ⟨f1, f2, f3⟩ := S.fresh
  have hne : a ≠ s.heap.objs.size := fun z => by obtain ⟨o, ho, _⟩ := ht'; rw [z, f1] at ho; cases ho
  have hsz : (as.map Value.ref).toArray.size = as.length := by simp
  let Ts : Nat → Addr := fun j => as.getD j 0
  have hTs : ∀ j, j < as.length → as[j]? = some (Ts j) := fun j hj => by simp [Ts, hj]
  have hp' : ∀ j, ∃ v : Array Value, j < as.length → ∃ b c t u, ps[j]? = some (b, c) ∧ v = #[.int b t, .str (mk [c]) u] ∧ R.h₀.IsTuple (Ts j) v := fun j => by
    by_cases hj : j < as.length
    · obtain ⟨t, u, q⟩ := hp j _ _ (hTs j hj) (List.getElem?_eq_getElem (by omega))
      exact ⟨_, fun _ => ⟨_, _, t, u, List.getElem?_eq_getElem (by omega), rfl, q⟩⟩
    · exact ⟨#[], fun h => absurd h hj⟩
  obtain ⟨vals, hvals⟩ : ∃ vals : Nat → Array Value, ∀ j, j < as.length → ∃ b c t u, ps[j]? = some (b, c) ∧ vals j = #[.int b t, .str (mk [c]) u] ∧ R.h₀.IsTuple (Ts j) (vals j) := ⟨fun j => (hp' j).choose, fun j => (hp' j).choose_spec⟩
  have hold : ∀ j, j < as.length → ∃ o, R.h₀.get? (Ts j) = some o := fun j hj => by
    obtain ⟨b, c, t, u, _, _, o, ho, _⟩ := hvals j hj
    exact ⟨o, ho⟩
  have W := walksU_tuple (prog := P0) (w := R.w) hA.hd s.heap.objs.size a hne (as.map Value.ref).toArray Ts vals (fun j hj => by
      rw [hsz] at hj
      have := hTs j hj
      simp only [List.getElem?_toArray, List.getElem?_map, this, Option.map_some]) (fun j hj => by
      rw [hsz] at hj
      obtain ⟨o, ho⟩ := hold j hj
      exact fun z => by rw [z, f2] at ho; cases ho)
  rw [hsz, hlen] at W
  have hml : (ps.map fun p => (PV.int p.1, PV.str (mk [p.2]))).length = ps.length := List.length_map _
  rw [← hml] at W
  refine ⟨ps.map fun p => (PV.int p.1, PV.str (mk [p.2])), σ, S.push _ _, Go.push _ _, ⟨s.heap.objs.size, _, _, _, _, _, rfl, W, ?_, ?_, hf.2, ?_, ?_⟩, h⟩
  · refine ⟨⟨_, Heap.get?_push_size _ rfl, rfl, rfl⟩, ht'.push _, fun k hk => ?_⟩
    obtain ⟨b, c, t, u, _, _, q⟩ := hvals k (by rw [hml] at hk; omega)
    exact (tup_at q fun o e => S.keep _ _ e).push _
  · intro b hb
    rcases List.mem_cons.mp hb with rfl | hb
    · exact hf.1 _ (.head _)
    · rcases List.mem_cons.mp hb with rfl | hb
      · obtain ⟨o, ho, _⟩ := ht
        exact ⟨S.old ho, fun z => by rw [z, F.new] at ho; cases ho⟩
      · obtain ⟨j, hj, rfl⟩ := List.mem_map.mp hb
        obtain ⟨o, ho⟩ := hold j (by have := List.mem_range.mp hj; rw [hml] at this; omega)
        exact ⟨S.old ho, fun z => by rw [z, F.new] at ho; cases ho⟩
  · rintro i h ⟨⟨o1, q1, _⟩, ⟨o2, q2, _⟩, q3⟩ b hb
    rcases List.mem_cons.mp hb with rfl | hb
    · exact ⟨_, q1⟩
    · rcases List.mem_cons.mp hb with rfl | hb
      · exact ⟨_, q2⟩
      · obtain ⟨j, hj, rfl⟩ := List.mem_map.mp hb
        obtain ⟨o, ho, _⟩ := q3 j (List.mem_range.mp hj)
        exact ⟨o, ho⟩
  · rintro i v hi rfl
    rw [List.length_map] at hi
    obtain ⟨b, c, t, u, e1, e2, _⟩ := hvals i (by omega)
    refine ⟨_, _, e2, ?_⟩
    rw [List.getElem?_map, e1]
    rfl
end

/-! M14 -/
section
variable {R : Rn} {r : Nat} {env : Env} {ρ : Loc} {σ : Sto}

theorem ITR2_enumTab {x : Str} {p p' pos : Pos} {t : Addr} {as : List Addr} {K : List (PV × PV) → Sto → Prop} (B : Base R) (hk : env.scope.kind = .function) (hx : env.kindOf "enumerate" = some .globalImplicit) (hx' : env.kindOf x = some .globalImplicit) (hg : env.globals = mainGlobals) (hgb : env.builtins = builtinsNs)
    (hd : (x == ("__debug__" : Str)) = false) (hmg : R.mg x = some (.ref t)) (ht : R.h₀.IsTuple t (as.map Value.ref).toArray) (hz : as.length < 1000)
    (h : K (as.mapIdx fun i a => (PV.int i, PV.ref a)) σ) : ITR2 R r env (.Call (.Name "enumerate" p) [.Name x p'] [] pos) ρ σ K := fun A hA s S F => by
  refine Call_ (type_name B S (T := "enumerate") (by decide +kernel) (by decide) (by decide) hk hx hg hgb (by decide) (callWith_type1 (args_cons (rest := []) (Name_function_global hk hx' (loadGlobal_global (mg := R.mg) (by rw [hg]; exact B.g.keeps S.keep) hmg ?_) hd) rfl) rfl rfl)) rfl
  refine args_nil ?_
  have ht' : s.heap.IsTuple t (as.map Value.ref).toArray := tup_at ht fun o e => S.keep _ _ e
  refine call_enumerate_tuple ht' ?_
  have S₁ := S.push { cls := .type "tuple_iterator", data := .fields #[.ref t, .int 0 0] } s.toks
  have S₂ := S₁.push { cls := .type "enumerate", data := .fields #[.none, .bool false, .ref s.heap.objs.size, rawInt 0, .none, .none] } s.toks
  have g₁ : Go σ σ s _ := Go.push { cls := .type "tuple_iterator", data := .fields #[.ref t, .int 0 0] } s.toks
  have g₂ := g₁.trans (Go.push { cls := .type "enumerate", data := .fields #[.none, .bool false, .ref s.heap.objs.size, rawInt 0, .none, .none] } s.toks)
  have hf0 := fresh_it S S F Go.refl
  have hf1 := fresh_it S S₁ F g₁
  have hz1 : (s.heap.push { cls := .type "tuple_iterator", data := .fields #[.ref t, .int 0 0] }).objs.size = s.heap.objs.size + 1 := Heap.size_push ..
  simp only [hz1] at hf1
  obtain ⟨f1, f2, f3⟩ := S.fresh
  have hti : t ≠ s.heap.objs.size := fun z => by obtain ⟨o, ho, _⟩ := ht'; rw [z, f1] at ho; cases ho
  have hte : t ≠ s.heap.objs.size + 1 := fun z => by
    obtain ⟨o, ho, _⟩ := ht'
    have := Heap.lt_size ho
    rw [z] at this
    exact absurd (Nat.lt_of_succ_lt this) (Nat.lt_irrefl _)
  have hen : IsEnum ((s.heap.push { cls := .type "tuple_iterator", data := .fields #[.ref t, .int 0 0] }).push { cls := .type "enumerate", data := .fields #[.none, .bool false, .ref s.heap.objs.size, rawInt 0, .none, .none] }) (s.heap.objs.size + 1) s.heap.objs.size 0 .none := by
    have := Heap.get?_push_size (s.heap.push { cls := .type "tuple_iterator", data := .fields #[.ref t, .int 0 0] })
      (o := { cls := .type "enumerate", data := .fields #[.none, .bool false, .ref s.heap.objs.size, rawInt 0, .none, .none] }) rfl
    rw [hz1] at this; exact this
  refine wpAny_pyIter_enum hen ?_
  have D := draws_tuple (prog := P0) (w := R.w) (A := A.in1) hA.hd s.heap.objs.size t hti (as.map Value.ref).toArray
  have W := (WalksT.enumerateD D (s.heap.objs.size + 1) (Nat.succ_ne_self _) (by simp; exact hte.symm) (by simp)).toU
  have hsz : (as.map Value.ref).toArray.size = (as.mapIdx fun i a => (PV.int i, PV.ref a)).length := by simp
  rw [hsz] at W
  refine ⟨as.mapIdx fun i a => (PV.int i, PV.ref a), σ, S₂, g₂, ⟨s.heap.objs.size + 1, _, _, _, _, _, rfl, W, ⟨⟨.none, hen⟩, ⟨_, Heap.get?_push_of_some _ (Heap.get?_push_size _ rfl), rfl, rfl⟩, (ht'.push _).push _⟩, ?_, ?_, ?_, ?_⟩, h⟩
  · intro b hb
    rcases List.mem_cons.mp hb with rfl | hb
    · exact hf1.1 _ (.head _)
    · rcases List.mem_cons.mp hb with rfl | hb
      · exact hf0.1 _ (.head _)
      · obtain rfl := List.mem_singleton.mp hb
        obtain ⟨o, ho, _⟩ := ht
        exact ⟨S.old ho, fun z => by rw [z, F.new] at ho; cases ho⟩
  · intro b hb
    rcases List.mem_cons.mp hb with rfl | hb
    · exact hf1.2 _ (.head _)
    · obtain rfl := List.mem_singleton.mp hb
      exact hf0.2 _ (.head _)
  · rintro i h ⟨⟨old, he⟩, ⟨o1, q1, _⟩, ⟨o2, q2, _⟩⟩ b hb
    rcases List.mem_cons.mp hb with rfl | hb
    · exact ⟨_, he⟩
    · rcases List.mem_cons.mp hb with rfl | hb
      · exact ⟨_, q1⟩
      · obtain rfl := List.mem_singleton.mp hb
        exact ⟨_, q2⟩
  · rintro i v hi ⟨tk, y, hy, rfl⟩
    refine ⟨_, _, rfl, ?_⟩
    simp only [List.getElem?_toArray, List.getElem?_map] at hy
    cases ha : as[i]? with
    | none => rw [ha] at hy; cases hy
    | some a =>
      rw [ha] at hy; cases hy
      rw [List.getElem?_mapIdx, ha]
      rfl
end

/-! G1 -/
section
open PySem.W PySem.W.X
section
variable {R : Rn} {r : Nat} {env : Env} {ρ : Loc} {σ : Sto}

theorem St.g {G : Array GenState → Prop} {s : Shared} (S : St R σ s) (h : G s.gens) : St { R with G := G } σ s := ⟨S.keep, S.lists, S.os, h⟩
theorem St.ug {G : Array GenState → Prop} {s : Shared} (S : St { R with G := G } σ s) (h : R.G s.gens) : St R σ s := ⟨S.keep, S.lists, S.os, h⟩
theorem LocAt.g {G : Array GenState → Prop} {L : Addr} {s : Shared} (F : LocAt R L ρ s) : LocAt { R with G := G } L ρ s := ⟨F.ns, F.new⟩
theorem LocAt.ug {G : Array GenState → Prop} {L : Addr} {s : Shared} (F : LocAt { R with G := G } L ρ s) : LocAt R L ρ s := ⟨F.ns, F.new⟩

noncomputable def nil0 : Sto := fun _ => none
abbrev Rn.any (R : Rn) : Rn := { R with G := fun _ => True }
theorem St.any {s : Shared} (S : St R σ s) : St R.any nil0 s := ⟨S.keep, fun _ _ e => (nomatch e), S.os, trivial⟩

structure Since (fp : List Addr) (s₀ s : Shared) : Prop where
  heap : ∀ b o, b ∉ fp → s₀.heap.get? b = some o → s.heap.get? b = some o
  gens : s.gens = s₀.gens
  os : s.os = s₀.os

abbrev Item := Int × List Nat
noncomputable def PairOf (h : Heap) (v : Value) (p : Item) : Prop := ∃ T t u, v = .ref T ∧ h.IsTuple T #[.int p.1 t, .str (mk p.2) u]

noncomputable def SG (R : Rn) (A : Around) : List Item → List Addr → Code → Sem Fin → List Frame → Heap → Prop
  | [], fp, c, t, fs, h => ∀ s, (∀ b ∈ fp, ∀ o, h.get? b = some o → s.heap.get? b = some o) → St R.any nil0 s → SegX R.M A c t fs s (fun e s' => e = .ret (.ok (.ret .none)) ∧ Since fp s s')
  | p :: rest, fp, c, t, fs, h => ∀ s, (∀ b ∈ fp, ∀ o, h.get? b = some o → s.heap.get? b = some o) → St R.any nil0 s → SegX R.M A c t fs s (fun e s' =>
      ∃ v l k c' p' fs' fp', e = .susp v false l k c' p' fs' ∧ PairOf s'.heap v p ∧ Since fp s s' ∧ (∀ b ∈ fp', b ∈ fp ∨ s.heap.get? b = none) ∧ (∀ b ∈ fp', ∃ o, s'.heap.get? b = some o) ∧ SG R A rest fp' c' (k (.send .none)) fs' s'.heap)

noncomputable def GSt (gs : GenState) (c : Code) (t : Sem Fin) (fs : List Frame) : Prop :=
  (gs = .fresh c ∧ t = denote table c ∧ fs = []) ∨ (∃ k₀ l₀ p₀ cl, gs = .suspended k₀ l₀ c p₀ fs cl ∧ t = k₀ (.send .none))
noncomputable def Wk (R : Rn) (A : Around) (items : List Item) (fp : List Addr) (gs : GenState) (h : Heap) : Prop := ∃ c t fs, GSt gs c t fs ∧ SG R A items fp c t fs h

theorem resume_any {α : Type} {A : Around} {Q : α → Shared → Prop} {E : Value → Shared → Prop} {s : Shared} {g : Nat} {gs : GenState} {l : List Value} {k : GenResult → Sem α} {c : Code} {t : Sem Fin} {fs : List Frame}
    (hg : s.gens[g]? = some gs) (hgs : GSt gs c t fs) (x : SegX R.M A c t fs (s.setGen g .running) (fun e s₁ => e.quiet = true → wpAny R.M A (k e.result) Q E (s₁.setGen g e.genState))) : wpAny R.M A (.resume g (.send .none) l k) Q E s := by
  refine wake_any α P0 R.w hg (r := .send .none) (c₀ := c) (t₀ := t) (fs₀ := fs) ?_ (fun Γ => Γ.In A) (fun _ h => h) (fun Γ p hc hΓ => ?_)
  · rcases hgs with ⟨a, b, d⟩ | ⟨k₀, l₀, p₀, cl, a, b⟩
    · exact .inl ⟨a, rfl, b, d⟩
    · exact .inr ⟨k₀, l₀, p₀, cl, a, b⟩
  · obtain ⟨e, s', hr, hq, hp⟩ := x Γ p hc hΓ
    exact ⟨e, s', hr, hq, fun Γ p hΓ => hp hq Γ p hΓ⟩

theorem wk_next {A : Around} {s : Shared} {a : Addr} {g : Nat} {gs : GenState} {items : List Item} {fp : List Addr} {Q : Option Value → Shared → Prop} {E : Value → Shared → Prop} (hA : A.handled = none)
    (hl : s.heap.NoLimit) (hroom : A.depth < recursionLimit) (hg : s.heap.IsGen a g) (hgs : s.gens[g]? = some gs) (W : Wk R A.in1 items fp gs s.heap) (S : St R.any nil0 s)
    (hY : ∀ p rest v s₁ gs' fp', items = p :: rest → PairOf s₁.heap v p → Since fp (s.setGen g .running) s₁ → (∀ b ∈ fp', b ∈ fp ∨ s.heap.get? b = none) → (∀ b ∈ fp', ∃ o, s₁.heap.get? b = some o) → gs'.bare = true → Wk R A.in1 rest fp' gs' s₁.heap → Q (some v) (s₁.setGen g gs'))
    (hP : items = [] → ∀ s₁ h', Since fp (s.setGen g .running) s₁ → (∀ b o, s₁.heap.get? b = some o → h'.get? b = some o) → Q none { s₁.setGen g .finished with heap := h' }) :
    wpAny R.M A (pyNext (.ref a)) Q E s := by
  unfold pyNext
  refine wpAny_bind (wpAny_attempt (wpAny_callSpecial?_slot (name := Str.ofString "__next__") hg.typeIs slot_gen_next
    (wpAny_call_entry slot_gen_next hg.typeIs entry_gen_next ?_ (args_gen_next _))))
  show wpAny _ _ (Builtin.Generator.genWake (.ref a) (.send .none)) _ _ s
  unfold Builtin.Generator.genWake
  refine wpAny_bind (wpAny_holding (wpAny_genNumber hg (wpAny_bind (wpAny_genState hgs ?_))))
  obtain ⟨c, t, fs, hGS, x⟩ := W
  have S' : St R.any nil0 (s.setGen g .running) := ⟨S.keep, fun _ _ e => (nomatch e), S.os, trivial⟩
  have gs0 : gs.status = .fresh ∨ gs.status = .suspended := by
    rcases hGS with ⟨rfl, _⟩ | ⟨_, _, _, _, rfl, _⟩
    · exact .inl rfl
    · exact .inr rfl
  obtain ⟨Φ, x', fin⟩ : ∃ Φ : End → Shared → Prop, SegX R.M A.in1 c t fs (s.setGen g .running) Φ ∧ ∀ (e : End) (s₁ : Shared), e.quiet = true → Φ e s₁ →
      (∃ v, e.result = .yielded v ∧ Q (some v) (s₁.setGen g e.genState)) ∨ (e = .ret (.ok (.ret .none)) ∧ ∀ h', (∀ b o, s₁.heap.get? b = some o → h'.get? b = some o) → Q none { s₁.setGen g .finished with heap := h' }) := by
    cases items with
    | nil => exact ⟨_, x _ (fun b _ o e => e) S', fun e s₁ hq he => .inr ⟨he.1, fun h' hk => hP rfl s₁ h' he.2 hk⟩⟩
    | cons p rest =>
      refine ⟨_, x _ (fun b _ o e => e) S', fun e s₁ hq he => ?_⟩
      obtain ⟨v, l, k, c', p', fs', fp', rfl, hp, hs, hf, hex, hsg⟩ := he
      exact .inl ⟨v, rfl, hY p rest v s₁ _ fp' rfl hp hs hf hex (End.bare_of_quiet hq) ⟨c', _, fs', .inr ⟨k, l, p', _, rfl, rfl⟩, hsg⟩⟩
  have last : ∀ (l : List Value) (K : GenResult → Sem Fin) (Q' : Fin → Shared → Prop) (E' : Value → Shared → Prop),
      (∀ v s₂, Q (some v) s₂ → wpAny R.M A.in1 (K (.yielded v)) Q' E' s₂) →
      (∀ s₂ : Shared, (∀ h', (∀ b o, s₂.heap.get? b = some o → h'.get? b = some o) → Q none { s₂ with heap := h' }) → wpAny R.M A.in1 (K (.returned .none)) Q' E' s₂) →
      wpAny R.M A.in1 (.resume g (.send .none) l K) Q' E' s := fun l K Q' E' h1 h2 => by
    refine resume_any hgs hGS (x'.mono fun e s₁ he hq => ?_)
    rcases fin e s₁ hq he with ⟨v, hv, q⟩ | ⟨rfl, q⟩
    · rw [hv]; exact h1 v _ q
    · exact h2 _ fun h' hk => q h' hk
  have fin2 : ∀ (Q' : Fin → Shared → Prop) (E' : Value → Shared → Prop) (s₂ : Shared), (∀ h' e o, (∀ b o, s₂.heap.get? b = some o → h'.get? b = some o) → h'.get? e = some o → o.cls = .type "StopIteration" → E' (.ref e) { s₂ with heap := h' }) →
      ∀ K : Unit → Sem Fin, wpAny R.M A.in1 (newExc (.type "StopIteration") [] >>= fun x => raiseNew x >>= K) Q' E' s₂ := fun Q' E' s₂ h K => by
    refine wpAny_bind ?_
    simp only [newExc, newTuple]
    refine wpAny_bind (wpAny_newObj_type ?_ (by size_fits))
    refine wpAny_bind (m := firstArgMember _ _) (wpAny_of_eq (a := Value.none) (by first | rfl | (simp only [firstArgMember]; rfl)) ?_)
    refine wpAny_newObj_type ?_ (by size_fits)
    simp only [raiseNew]
    refine wpAny_bind (wpAny_bind (wpAny_handled ?_))
    rw [show A.in1.handled = none from hA]
    exact wpAny_throw (h _ _ _ (fun b o hb => Heap.get?_push_of_some _ (Heap.get?_push_of_some _ hb)) (Heap.get?_push_size _ rfl) rfl)
  rcases gs0 with h0 | h0
  all_goals
    simp only [h0]
    refine wpAny_bind (wpAny_roomToWake hl hroom ?_)
    refine last [] _ _ _ (fun v s₂ q => wpAny_pure ⟨v, rfl, wpAny_pure q⟩) fun s₂ q => ?_
    refine fin2 _ _ s₂ (fun h' e o hk he ho => ?_) _
    exact wpAny_bind (wpAny_isInstance (T := "StopIteration") (b := true) ⟨_, he, ho⟩ isSubtype_stop (wpAny_pure (q h' hk)))
end
end

/-! G2 -/
section
open PySem.W PySem.W.X
section
variable {R : Rn} {r : Nat} {env : Env} {ρ : Loc} {σ : Sto}

noncomputable def pvItem (p : Item) : PV × PV := (.int p.1, .str (mk p.2))

noncomputable def forQG (R : Rn) (r : Nat) (env : Env) (x y : Str) (body orelse : List Stmt) (Q : FL → Loc → Sto → Prop) : List Item → Loc → Sto → Prop
  | [], ρ, σ => EXS R r env orelse ρ σ Q
  | p :: ps, ρ, σ => ∀ G, EXS { R with G := G } r env body ((ρ.put x (.int p.1)).put y (.str (mk p.2))) σ (loopQ Q fun ρ' σ' => forQG R r env x y body orelse Q ps ρ' σ')

noncomputable def GenOf (R : Rn) (A : Around) (L : Addr) (σ₀ σ : Sto) (s₀ s : Shared) (it : Value) (items : List Item) : Prop :=
  ∃ a g gs fp, it = .ref a ∧ s.heap.IsGen a g ∧ s.gens[g]? = some gs ∧ Wk R A.in1 items fp gs s.heap ∧ σ a = none ∧ a ≠ L ∧ a ∉ fp ∧
    (∀ b ∈ fp, σ b = none ∧ b ≠ L ∧ (∃ o, s.heap.get? b = some o) ∧ R.h₀.get? b = none ∧ ∀ o, s₀.heap.get? b = some o → σ₀ b ≠ none)

noncomputable def ITRG (R : Rn) (r : Nat) (env : Env) (iter : Expr) (ρ : Loc) (σ : Sto) (K : List Item → Sto → Prop) : Prop :=
  ∀ A, Room R.top r A → ∀ s, St R σ s → LocAt R env.locals ρ s → wpAny R.M A (eval iter env) (fun v s₁ => wpAny R.M A (pyIter v) (fun it s₂ => ∃ items σ₂, St R σ₂ s₂ ∧ Go σ σ₂ s s₂ ∧
    GenOf R A env.locals σ σ₂ s s₂ it items ∧ K items σ₂) nope s₁) nope s

theorem letGo_gen {A : Around} {s : Shared} {a T : Addr} {g k : Nat} {elts : List Expr} {pos : Pos} {Q : Unit → Shared → Prop} {E : Value → Shared → Prop} (hg : s.heap.IsGen a g) (h : Q () s) :
    wpAny R.M A (letOwnedTupleGo (.Tuple elts k pos) (.ref a) (.ref T)) Q E s := by
  obtain ⟨o, nm, qn, ho, hc, hd, _⟩ := hg
  simp only [letOwnedTupleGo]
  refine wpAny_bind (wpAny_load ho ?_)
  simp only [hc, hd]
  exact wpAny_pure h

theorem setGen_other {s : Shared} {g k : Nat} {x : GenState} (h : k ≠ g) : (s.setGen g x).gens[k]? = s.gens[k]? := (GenOnly.setGen s g x).2 k h

theorem allBare_set {s : Shared} {g : Nat} {x : GenState} (h : AllBare s.gens) (hx : x.bare = true) : AllBare (s.setGen g x).gens := by
  intro y hy
  obtain ⟨i, hi, rfl⟩ := Array.mem_iff_getElem.mp hy
  by_cases e : i = g
  · subst e
    have hi' : i < s.gens.size := by have := (GenOnly.setGen s i x).1; omega
    have := setGen_self (s := s) (g := i) (gs := s.gens[i]) (x := x) (by simp [hi'])
    rw [Array.getElem?_eq_getElem hi] at this
    rw [Option.some.inj this]; exact hx
  · have := setGen_other (s := s) (x := x) e
    rw [Array.getElem?_eq_getElem hi] at this
    exact h _ (Array.mem_of_getElem? this.symm)

theorem EX_ForG {x y : Str} {px py tp pos : Pos} {k : Nat} {iter : Expr} {body orelse : List Stmt} {Q : FL → Loc → Sto → Prop} (B : Base R) (hG : R.G = AllBare) (he : EnvOk env) (hl : env.kindOf x = some .local) (hl2 : env.kindOf y = some .local) (hs : ∀ x, foldedSetIterable iter env x = pure x)
    (h : ITRG R r env iter ρ σ fun items σ₁ => forQG R r env x y body orelse Q items ρ σ₁) : EX R r env (.For (.Tuple [.Name x px, .Name y py] k tp) iter body orelse pos) ρ σ Q := fun A hA s S F => by
  refine wpAny_For (wpAny_mono (h A hA s S F) (fun v s₁ h₁ => wpAny_mono h₁ (fun it s₂ h₂ => ?_) fun _ _ x => x.elim) fun _ _ x => x.elim) hs
  obtain ⟨items₀, σ₂, S₂, g₂, ⟨a, g, gs₀, fp₀, rfl, hga, hgs, hW, hσa, haL, hafp, hfp⟩, hQ⟩ := h₂
  refine codeAny_forLoop_any (fun n s' => ∃ items ρ' σ' gs fp, n = items.length + 1 ∧ St R σ' s' ∧ LocAt R env.locals ρ' s' ∧ GoL env.locals σ σ' s s' ∧ s'.heap.IsGen a g ∧ s'.gens[g]? = some gs ∧ Wk R A.in1 items fp gs s'.heap ∧ σ' a = none ∧ a ∉ fp ∧
    (∀ b ∈ fp, σ' b = none ∧ b ≠ env.locals ∧ (∃ o, s'.heap.get? b = some o) ∧ R.h₀.get? b = none ∧ ∀ o, s.heap.get? b = some o → σ b ≠ none) ∧ forQG R r env x y body orelse Q items ρ' σ') (fun n s' hI => ?_) (items₀.length + 1)
    ⟨items₀, ρ, σ₂, gs₀, fp₀, rfl, S₂, F.go S g₂, g₂.l, hga, hgs, hW, hσa, hafp, hfp, hQ⟩
  obtain ⟨items, ρ', σ', gs, fp, rfl, S', F', g', hga', hgs', hW', hσa', hafp', hfp', hQ'⟩ := hI
  have keepS : ∀ (s₁ s₃ : Shared) (x : GenState), Since fp (s'.setGen g .running) s₁ → x.bare = true → s₃.gens = (s₁.setGen g x).gens → s₃.os = s₁.os → (∀ b o, s₁.heap.get? b = some o → s₃.heap.get? b = some o) →
      St R σ' s₃ ∧ LocAt R env.locals ρ' s₃ ∧ GoL env.locals σ σ' s s₃ ∧ (∀ b o, b ∉ fp → s'.heap.get? b = some o → s₃.heap.get? b = some o) := by
    intro s₁ s₃ x hsin hx hg3 ho3 hk3
    have key : ∀ b o, b ∉ fp → s'.heap.get? b = some o → s₃.heap.get? b = some o := fun b o nb e => hk3 b o (hsin.heap b o nb e)
    refine ⟨⟨fun b o e => key b o (fun hb => ?_) (S'.keep b o e), fun c l q => ?_, ?_, ?_⟩, ?_, fun b o ne e q => ?_, key⟩
    · have := (hfp' b hb).2.2.2.1; rw [this] at e; cases e
    · obtain ⟨⟨vs, ⟨n, e⟩, hv⟩, hn⟩ := S'.lists c l q
      exact ⟨⟨vs, ⟨n, key c _ (fun hb => by rw [(hfp' c hb).1] at q; cases q) e⟩, hv⟩, hn⟩
    · rw [ho3, hsin.os]; exact S'.os
    · rw [hG, hg3]
      refine allBare_set ?_ hx
      rw [hsin.gens]
      exact allBare_set (by have := S'.bare; rwa [hG] at this) rfl
    · obtain ⟨m, hn, hm⟩ := F'.ns
      exact ⟨⟨m, hn.at' fun o e => key _ o (fun hb => (hfp' _ hb).2.1 rfl) e, hm⟩, F'.new⟩
    · obtain ⟨e', q'⟩ := g' b o ne e q
      exact ⟨key b o (fun hb => (hfp' b hb).2.2.2.2 o e q) e', q'⟩
  refine wk_next hA.hd (B.lim.keeps S'.keep) (by have := hA.dep; omega) hga' hgs' hW' S'.any ?_ ?_
  · rintro p rest v s₁ gs₁ fp₁ rfl ⟨T, t, u, rfl, hT⟩ hsin hf1 hex hbare hW1
    obtain ⟨S₁, F₁, g₁, key⟩ := keepS s₁ (s₁.setGen g gs₁) gs₁ hsin hbare rfl rfl fun _ _ e => e
    have hga₁ : (s₁.setGen g gs₁).heap.IsGen a g := by
      obtain ⟨o, nm, qn, ho, r⟩ := hga'
      exact ⟨o, nm, qn, key a o hafp' ho, r⟩
    have hgs₁ : (s₁.setGen g gs₁).gens[g]? = some gs₁ := by
      refine setGen_self (gs := .running) ?_
      rw [hsin.gens]; exact setGen_self hgs'
    refine letGo_gen hga₁ ?_
    refine assign_Tuple_tuple hA.hd (show (s₁.setGen g gs₁).heap.IsTuple T _ from hT) rfl rfl fun h3 hx => ?_
    obtain ⟨S₃, g₃⟩ := S₁.ext hx
    have F₃ := F₁.go S₁ g₃
    refine assignInOrder_cons (wpAny_assign_Name (wpAny_mono (store (R := { R with G := fun z => z = (s₁.setGen g gs₁).gens }) he hl (S₃.g (G := fun z => z = (s₁.setGen g gs₁).gens) rfl) F₃.g (Q := fun _ s₃ => St { R with G := fun z => z = (s₁.setGen g gs₁).gens } σ' s₃ ∧ LocAt { R with G := fun z => z = (s₁.setGen g gs₁).gens } env.locals (ρ'.put x (.int p.1)) s₃ ∧ GoL env.locals σ' σ' { s₁.setGen g gs₁ with heap := h3 } s₃) fun s₃ a b c => ⟨a, b, c⟩) (fun _ s₄ ⟨S₄, F₄, g₄⟩ => ?_) fun _ _ x => x.elim))
    refine assignInOrder_cons (wpAny_assign_Name (wpAny_mono (store (R := { R with G := fun z => z = (s₁.setGen g gs₁).gens }) he hl2 S₄ F₄ (Q := fun _ s₅ => St { R with G := fun z => z = (s₁.setGen g gs₁).gens } σ' s₅ ∧ LocAt { R with G := fun z => z = (s₁.setGen g gs₁).gens } env.locals ((ρ'.put x (.int p.1)).put y (.str (mk p.2))) s₅ ∧ GoL env.locals σ' σ' s₄ s₅) fun s₃ a b c => ⟨a, b, c⟩) (fun _ s₅ ⟨S₅, F₅, g₅⟩ => ?_) fun _ _ x => x.elim))
    refine assignInOrder_nil ?_
    have g35 : GoL env.locals σ' σ' (s₁.setGen g gs₁) s₅ := (g₃.l.trans g₄).trans g₅
    refine wpAny_mono (hQ' (fun z => z = (s₁.setGen g gs₁).gens) A hA s₅ S₅ F₅) (fun f s₆ ⟨ρ₆, σ₆, S₆, F₆, g₆, h₆⟩ => ?_) fun _ _ x => x.elim
    have hgens : s₆.gens = (s₁.setGen g gs₁).gens := S₆.bare
    have g16 : GoL env.locals σ' σ₆ (s₁.setGen g gs₁) s₆ := g35.trans g₆
    have gg : GoL env.locals σ σ₆ s s₆ := g₁.trans g16
    have S₆' : St R σ₆ s₆ := S₆.ug (by rw [hgens]; exact S₁.bare)
    have fin : (∃ m, m < (p :: rest).length + 1 ∧ (∃ items ρ' σ' gs fp, m = items.length + 1 ∧ St R σ' s₆ ∧ LocAt R env.locals ρ' s₆ ∧ GoL env.locals σ σ' s s₆ ∧ s₆.heap.IsGen a g ∧ s₆.gens[g]? = some gs ∧ Wk R A.in1 items fp gs s₆.heap ∧ σ' a = none ∧ a ∉ fp ∧
        (∀ b ∈ fp, σ' b = none ∧ b ≠ env.locals ∧ (∃ o, s₆.heap.get? b = some o) ∧ R.h₀.get? b = none ∧ ∀ o, s.heap.get? b = some o → σ b ≠ none) ∧ forQG R r env x y body orelse Q items ρ' σ')) ∨ ¬ forQG R r env x y body orelse Q rest ρ₆ σ₆ := by
      by_cases hf : forQG R r env x y body orelse Q rest ρ₆ σ₆
      · obtain ⟨o, nm, qn, ho, hr⟩ := hga₁
        obtain ⟨eo, qo⟩ := g16 a o haL ho hσa'
        have hb1 : ∀ b ∈ fp₁, σ' b = none ∧ b ≠ env.locals ∧ R.h₀.get? b = none ∧ ∀ o, s.heap.get? b = some o → σ b ≠ none := fun b hb => by
          rcases hf1 b hb with h' | h'
          · obtain ⟨x1, x2, x3, x4, x5⟩ := hfp' b h'
            exact ⟨x1, x2, x4, x5⟩
          · have n0 : R.h₀.get? b = none := by
              cases e : R.h₀.get? b with
              | none => rfl
              | some o => rw [S'.keep b o e] at h'; cases h'
            refine ⟨?_, ?_, n0, fun o e q => ?_⟩
            · cases e : σ' b with
              | none => rfl
              | some l => obtain ⟨⟨vs, ⟨n, e⟩, _⟩, _⟩ := S'.lists b l e; rw [h'] at e; cases e
            · rintro rfl
              obtain ⟨m, ⟨o, es, ep, ho, _⟩, _⟩ := F'.ns
              rw [h'] at ho; cases ho
            · by_cases hbl : b = env.locals
              · subst hbl
                obtain ⟨m, ⟨o, es, ep, ho, _⟩, _⟩ := F'.ns
                rw [h'] at ho; cases ho
              · rw [(g' b o hbl e q).1] at h'; cases h'
        refine .inl ⟨rest.length + 1, by simp, rest, ρ₆, σ₆, gs₁, fp₁, rfl, S₆', F₆.ug, gg, ⟨o, nm, qn, eo, hr⟩, by rw [hgens]; exact hgs₁, ?_, qo, fun hin => ?_, fun b hb => ?_, hf⟩
        · obtain ⟨c, t', fs, hGS, hsg⟩ := hW1
          refine ⟨c, t', fs, hGS, ?_⟩
          have hmono : ∀ b ∈ fp₁, ∀ o, s₁.heap.get? b = some o → s₆.heap.get? b = some o := fun b hb o e => (g16 b o (hb1 b hb).2.1 e (hb1 b hb).1).1
          cases rest with
          | nil => exact fun s'' hs'' => hsg s'' fun b hb o e => hs'' b hb o (hmono b hb o e)
          | cons q rest => exact fun s'' hs'' => hsg s'' fun b hb o e => hs'' b hb o (hmono b hb o e)
        · rcases hf1 a hin with h' | h'
          · exact hafp' h'
          · obtain ⟨o, nm, qn, ho, _⟩ := hga'; rw [h'] at ho; cases ho
        · obtain ⟨o, e⟩ := hex b hb
          obtain ⟨e6, q6⟩ := g16 b o (hb1 b hb).2.1 e (hb1 b hb).1
          exact ⟨q6, (hb1 b hb).2.1, ⟨o, e6⟩, (hb1 b hb).2.2.1, (hb1 b hb).2.2.2⟩
      · exact .inr hf
    cases f with
    | next => exact fin.resolve_right fun z => z h₆
    | cont => exact fin.resolve_right fun z => z h₆
    | brk => exact ⟨ρ₆, σ₆, S₆', F₆.ug, gg, h₆⟩
    | ret v => exact ⟨ρ₆, σ₆, S₆', F₆.ug, gg, h₆⟩
  · rintro rfl s₁ h' hsin hk
    obtain ⟨S₁, F₁, g₁, key⟩ := keepS s₁ { s₁.setGen g .finished with heap := h' } .finished hsin rfl rfl rfl hk
    refine wpAny_mono (hQ' A hA _ S₁ F₁) (fun f s₄ ⟨ρ₄, σ₄, S₄, F₄, g₄, h₄⟩ => ⟨ρ₄, σ₄, S₄, F₄, g₁.trans g₄, h₄⟩) fun _ _ x => x.elim
end
end

/-! G3 -/
section
open PySem.W PySem.W.X
section
variable {R : Rn} {r : Nat} {env : Env} {ρ : Loc} {σ : Sto}
variable {M : Model} {A : Around} {c : Code} {fs : List Frame} {s : Shared} {P : End → Shared → Prop} {K : Flow → Sem Fin} {H : Value → Sem Fin} {gd : Bool → Bool} {lv : List Value → List Value}

theorem x_wrap {α : Type} {m : Sem α} {K : α → Sem Fin} (h : wpAny M (A.over c fs) m (fun a s' => SegX M A c (K a) fs s' P) (fun x s' => SegX M A c (H x) fs s' P) s) : SegX M A c (m.wrap K H gd lv) fs s P := by
  rintro Γ p rfl hΓ
  obtain ⟨e, s', hr, hq⟩ := runs_wrap_of_wp (Φ := fun e s' => e.quiet = true ∧ P e s') K H gd lv m (h (Γ.over fs) p (hΓ.over fs)) (fun a p' s' h' => h' Γ p' rfl hΓ) (fun x p' s' h' => h' Γ p' rfl hΓ)
  exact ⟨e, s', hr, hq⟩
theorem x_bind_wrap {α β : Type} {m : Sem α} {K : α → Sem β} {K' : β → Sem Fin} {H' : Value → Sem Fin}
    (h : wpAny M (A.over c fs) m (fun a s' => SegX M A c ((K a).wrap K' H' gd lv) fs s' P) (fun x s' => SegX M A c (H' x) fs s' P) s) : SegX M A c ((m >>= K).wrap K' H' gd lv) fs s P := by
  rw [Sem.bind_eq_wrap', Sem.wrap_wrap]; exact x_wrap h
theorem x_at {p' : Pos} {k : Unit → Sem Fin} (h : SegX M A c (k ()) fs s P) : SegX M A c (.at p' k) fs s P :=
  x_wrap (m := standAt p') (K := k) (H := .raise) (gd := id) (lv := id) (wpAny_standAt h)
theorem x_point {l : List Value} {k : Unit → Sem Fin} (h : SegX M A c (k ()) fs s P) : SegX M A c (.point l k) fs s P :=
  x_wrap (m := point) (K := k) (H := .raise) (gd := id) (lv := fun _ => l) (wpAny_point h)

theorem x_EX {st : Stmt} {Q : FL → Loc → Sto → Prop} (h : EX R r env st ρ σ Q) (hA : Room R.top r (A.over c fs)) (S : St R σ s) (F : LocAt R env.locals ρ s)
    (hk : ∀ f s' ρ' σ', St R σ' s' → LocAt R env.locals ρ' s' → GoL env.locals σ σ' s s' → Q (fl f) ρ' σ' → SegX R.M A c (K f) fs s' P) : SegX R.M A c ((exec st env).wrap K H gd lv) fs s P :=
  x_wrap (wpAny_mono (h _ hA s S F) (fun f s' ⟨ρ', σ', S', F', g', q'⟩ => hk f s' ρ' σ' S' F' g' q') fun _ _ x => x.elim)

theorem x_execs_cons {st : Stmt} {rest : List Stmt} (h : SegX M A c ((exec st env).wrap (fun f => match f with | .next => (execs rest env).wrap K H gd lv | f => K f) H gd lv) fs s P) :
    SegX M A c ((execs (st :: rest) env).wrap K H gd lv) fs s P := by rw [execs_cons_wrap]; exact h

theorem x_If {test : Expr} {body orelse : List Stmt} {pos : Pos} {b : Bool} (h : TS R r env test ρ σ fun b' σ' => b' = b ∧ σ' = σ) (hA : Room R.top r (A.over c fs)) (S : St R σ s) (F : LocAt R env.locals ρ s)
    (hk : ∀ s', St R σ s' → LocAt R env.locals ρ s' → Go σ σ s s' → SegX R.M A c ((execs (if b = true then body else orelse) env).wrap K H gd lv) fs s' P) : SegX R.M A c ((exec (.If test body orelse pos) env).wrap K H gd lv) fs s P := by
  rw [exec_If]
  refine x_bind_wrap (wpAny_standAt (x_bind_wrap (wpAny_mono (h _ hA s S F) (fun b' s' ⟨σ', S', g', e1, e2⟩ => ?_) fun _ _ x => x.elim)))
  have e1 : b' = b := e1
  subst e1 e2
  cases b' with
  | true => exact hk s' S' (F.go S g') g'
  | false => exact hk s' S' (F.go S g') g'

theorem x_Yield {e : Expr} {ypos pos : Pos} (hfs : splitAtGen fs = none) (hgd : gd false = false) (hfg : fs.any Frame.guarded = false)
    (h : wpAny M (A.over c fs) (eval e env) (fun v s' => ∀ l k p, k (.send .none) = K .next → P (.susp v false l k c p fs) s') nope s) (hco : env.scope.isCoroutine = false := by rfl) (hi : interactive env = false := by rfl) :
    SegX M A c ((exec (.Expr (.Yield (some e) ypos) pos) env).wrap K H gd lv) fs s P := by
  rw [exec_Expr env _ pos hi rfl]
  show SegX M A c (.at pos fun _ => ((eval e env >>= fun v => (standAt ypos >>= fun _ => yieldOut env v)) >>= fun x =>
    dropValue (.Yield (some e) ypos) pos x).wrap K H gd lv) fs s P
  have hy : ∀ v, yieldOut env v = yieldValue v := fun v => by simp only [yieldOut, hco, Bool.false_eq_true, if_false]
  simp only [hy]
  refine x_at ?_
  rw [Sem.bind_eq_wrap', Sem.bind_eq_wrap', Sem.wrap_wrap, Sem.wrap_wrap]
  refine x_wrap (wpAny_mono h (fun v s' h' => ?_) fun _ _ x => x.elim)
  refine x_at ?_
  rintro Γ p rfl _
  refine ⟨.susp v (gd false) _ _ _ _ _, s', Runs.yield' fs hfs, by simp [End.quiet, hfg, hgd], ?_⟩
  rw [hgd]
  exact h' _ _ _ rfl

/-- a pair -/
theorem wp_pair {A : Around} {e₁ e₂ : Expr} {k : Nat} {pos : Pos} {i : Int} {l : List Nat} (h : EV R r env e₁ ρ σ fun p σ₁ => p = .int i ∧ σ₁ = σ ∧ EV R r env e₂ ρ σ fun q σ₂ => q = .str (mk l) ∧ σ₂ = σ)
    (h1 : starEach [e₁, e₂] env = (false, eval e₁ env) :: starEach [e₂] env) (h2 : starEach [e₂] env = [(false, eval e₂ env)])
    (hA : Room R.top r A) (S : St R σ s) (F : LocAt R env.locals ρ s) {Q : Value → Shared → Prop} (hQ : ∀ v s', St R σ s' → Go σ σ s s' → PairOf s'.heap v (i, l) → Q v s') : wpAny R.M A (eval (.Tuple [e₁, e₂] k pos) env) Q nope s := by
  refine wpAny_Tuple (args_cons (rest := [e₂]) (wpAny_mono (h A hA s S F) (fun va s₁ ⟨σ₁, S₁, g₁, q₁⟩ => ?_) fun _ _ x => x) h1)
  obtain ⟨e1, rfl, q₁⟩ := q₁
  refine args_cons (rest := []) (wpAny_mono (q₁ A hA s₁ S₁ (F.go S g₁)) (fun vb s₂ ⟨σ₂, S₂, g₂, q₂⟩ => args_nil ⟨by show 2 ≤ sizeLine; decide, ?_⟩) fun _ _ x => x) h2
  obtain ⟨e2, rfl⟩ := q₂
  obtain ⟨t, rfl⟩ := pv_int e1
  obtain ⟨u, rfl⟩ := pv_str e2
  exact hQ _ _ (S₂.push _ _) ((g₁.trans g₂).trans (Go.push _ _)) ⟨_, t, u, rfl, ⟨_, Heap.get?_push_size _ rfl, rfl, _, rfl⟩⟩
end
end

/-! G4 -/
section
open PySem.W PySem.W.X
section
variable {R : Rn} {r : Nat} {env : Env} {ρ : Loc} {σ : Sto}
variable {A : Around} {c : Code} {fs : List Frame} {s : Shared} {P : End → Shared → Prop} {K : Flow → Sem Fin} {H : Value → Sem Fin} {gd : Bool → Bool} {lv : List Value → List Value}

theorem x_For {target iter : Expr} {body orelse : List Stmt} {pos : Pos} (hs : ∀ x, foldedSetIterable iter env x = pure x)
    (h : wpAny R.M (A.over c fs) (eval iter env) (fun x s₁ => wpAny R.M (A.over c fs) (pyIter x) (fun it s₂ => ∀ p k, (∀ f, k (.ok f) = K f) → SegX R.M A (.forLoop target it body orelse env) (denote table (.forLoop target it body orelse env)) (.ret k none (gd false) (lv []) c p [] :: fs) s₂ P) nope s₁) nope s) :
    SegX R.M A c ((exec (.For target iter body orelse pos) env).wrap K H gd lv) fs s P := by
  rw [exec_For]
  refine x_bind_wrap (wpAny_standAt (x_bind_wrap (wpAny_mono h (fun x s₁ h₁ => ?_) fun _ _ x => x.elim)))
  refine x_bind_wrap (wpAny_of_eq (hs x) (x_bind_wrap (wpAny_standAt (x_bind_wrap (wpAny_holding (wpAny_mono h₁ (fun it s₂ h₂ => ?_) fun _ _ x => x.elim))))))
  exact s_call P0 R.w A c fs P s₂ _ _ _ _ _ (fun p => h₂ p _ fun f => rfl)

theorem x_forLoop {target : Expr} {it : Value} {body orelse : List Stmt}
    (h : wpAny R.M (A.over (.forLoop target it body orelse env) fs) (pyNext it) (fun r s₁ => match r with
      | none => SegX R.M A (.forLoop target it body orelse env) (.pure (.again (.block orelse env))) fs s₁ P
      | some v => wpAny R.M (A.over (.forLoop target it body orelse env) fs) (letOwnedTupleGo target it v) (fun _ s₂ => wpAny R.M (A.over (.forLoop target it body orelse env) fs) (assign target env v) (fun _ s₃ =>
          ∀ H1, SegX R.M A (.forLoop target it body orelse env) ((execs body env).wrap (fun f => match f with
            | .next | .cont => .pure (.again (.forLoop target it body orelse env))
            | .brk => .pure (.done .next)
            | .ret v => .pure (.done (.ret v))) H1 id id) fs s₃ P) nope s₂) nope s₁) nope s) :
    SegX R.M A (.forLoop target it body orelse env) (denote table (.forLoop target it body orelse env)) fs s P := by
  show SegX R.M A _ ((forTurn target it body orelse env).onRaise (fun x => do noteFrame x env; theTreesLotGoes x)) fs s P
  rw [Sem.onRaise_eq_wrap]
  unfold forTurn
  refine x_bind_wrap (wpAny_standAt (x_bind_wrap (wpAny_onRaise (wpAny_mono h (fun r s₁ h₁ => ?_) fun _ _ x => x.elim))))
  cases r with
  | none => exact h₁
  | some v =>
    refine x_bind_wrap (wpAny_mono h₁ (fun _ s₂ h₂ => ?_) fun _ _ x => x.elim)
    refine x_bind_wrap (wpAny_mono h₂ (fun _ s₃ h₃ => ?_) fun _ _ x => x.elim)
    rw [Sem.bind_eq_wrap', Sem.wrap_wrap]
    rw [Sem.wrap_congr (execs body env) _ _ (K' := fun f => match f with
            | .next | .cont => .pure (.again (.forLoop target it body orelse env))
            | .brk => .pure (.done .next)
            | .ret v => .pure (.done (.ret v))) (fun f => by cases f <;> rfl) (fun e => rfl)]
    exact h₃ _

theorem x_over {target : Expr} {it : Value} {body : List Stmt} {k : Result → Sem Fin} {hd : Option Value} {g : Bool} {l : List Value} {c₁ : Code} {p₁ : Pos} {kp}
    (h : SegX R.M A c₁ (k (.ok .next)) fs s P) : SegX R.M A (.forLoop target it body [] env) (.pure (.again (.block [] env))) (.ret k hd g l c₁ p₁ kp :: fs) s P :=
  s_again P0 R.w A _ _ P s _ rfl (s_pop P0 R.w A _ _ P s (.ok .next) _ rfl k hd g l c₁ p₁ kp h)

theorem x_func {body : List Stmt} (h : ∀ H, SegX R.M A (.func body env) ((execs body env).wrap (fun f => .pure (.done (.ret (match f with | .ret v => v | _ => .none)))) H id id) fs s P) :
    SegX R.M A (.func body env) (denote table (.func body env)) fs s P := by
  show SegX R.M A _ (.point [] fun _ => ((execs body env).onRaise (leaving env)) >>= _) fs s P
  refine x_point ?_
  rw [Sem.onRaise_eq_wrap, Sem.bind_eq_wrap', Sem.wrap_wrap]
  rw [Sem.wrap_congr (execs body env) _ _ (K' := fun f => .pure (.done (.ret (match f with | .ret v => v | _ => .none)))) (fun f => by cases f <;> rfl) (fun e => rfl)]
  exact h _

theorem room_func {body : List Stmt} (hA : Room R.top (r + 1) A) : Room R.top r (A.over (.func body env) []) :=
  ⟨hA.hd, by have := hA.dep; show A.depth + 0 + 1 + r < _; omega, by have := hA.un; show A.units + 0 + 3 + 8 * r + 200 < _; omega, by
    obtain ⟨pre, e, hl⟩ := hA.fr
    refine ⟨env :: pre, ?_, by show pre.length + 1 + 302 ≤ A.depth + 0 + 1; omega⟩
    show pushEnvs [env] (pushEnvs [] A.frames) = _
    rw [e]; rfl⟩
theorem room_for {target : Expr} {it : Value} {b body : List Stmt} {k : Result → Sem Fin} {g : Bool} {l : List Value} {p₁ : Pos} (hA : Room R.top (r + 1) A) : Room R.top r (A.over (.forLoop target it b [] env) [.ret k none g l (.func body env) p₁ []]) :=
  ⟨hA.hd, by have := hA.dep; show A.depth + (1 + 0) + 0 + r < _; omega, by have := hA.un; show A.units + (3 + 0) + 0 + 8 * r + 200 < _; omega, by
    obtain ⟨pre, e, hl⟩ := hA.fr
    refine ⟨env :: pre, ?_, by show pre.length + 1 + 302 ≤ A.depth + (1 + 0) + 0; omega⟩
    show pushEnvs [] (pushEnvs [env] A.frames) = _
    rw [e]; rfl⟩

/-- enumerate of a text -/
theorem wp_enumStr {x : Str} {p p' pos : Pos} {l : List Nat} (B : Base R) (hk : env.scope.kind = .function) (hx : env.kindOf "enumerate" = some .globalImplicit) (hx' : env.kindOf x = some .local) (hg : env.globals = mainGlobals) (hgb : env.builtins = builtinsNs)
    (hd : (x == ("__debug__" : Str)) = false) (hl : ρ x = some (.str (mk l))) (ha : ∀ c ∈ l, c < 128) (hA : A.handled = none) (S : St R σ s) (F : LocAt R env.locals ρ s) :
    wpAny R.M A (eval (.Call (.Name "enumerate" p) [.Name x p'] [] pos) env) (fun v s₁ => wpAny R.M A (pyIter v) (fun it s₂ => ∃ I fp Stt Mid, it = .ref I ∧
      (∀ A' : Around, A'.handled = none → WalksU P0 R.w A' I fp fp l.length (fun i vals => ∃ t u c, l[i]? = some c ∧ vals = #[.int i t, .str (mk [c]) u]) Stt Mid) ∧ Stt 0 s₂.heap ∧ (∀ i h, Stt i h → ∀ b ∈ fp, ∃ o, h.get? b = some o) ∧
      (∀ b ∈ fp, s.heap.get? b = none) ∧ St R σ s₂ ∧ Go σ σ s s₂) nope s₁) nope s := by
  obtain ⟨m, hn, hm⟩ := F.ns
  obtain ⟨v, hv, e⟩ := hm x _ hl
  obtain ⟨t, rfl⟩ := pv_str e
  refine Call_ (type_name B S (T := "enumerate") (by decide +kernel) (by decide) (by decide) hk hx hg hgb (by decide) (callWith_type1 (args_cons (rest := []) (wpAny_Name (wpAny_loadName_local hk hx' hn hv ?_) hd) rfl) rfl rfl)) rfl
  refine args_nil ?_
  refine call_enumerate_str fun h' hen hit hsz hkeep => ?_
  refine wpAny_pyIter_enum hen ?_
  have hit' : h'.IsStrIter s.heap.objs.size "str_ascii_iterator" (mk l) t 0 := by
    have hh : strIterType (mk l) = "str_ascii_iterator" := by
      simp only [strIterType, mk]
      simp [ha]
      exact ha
    rw [hh] at hit; exact hit
  have f1 : ∀ b, s.heap.objs.size ≤ b → s.heap.get? b = none := fun b hb => by
    cases h : s.heap.get? b with
    | none => rfl
    | some o => exact absurd (Heap.lt_size h) (Nat.not_lt.mpr hb)
  have hne : s.heap.objs.size + 1 ≠ s.heap.objs.size := Nat.succ_ne_self _
  refine ⟨s.heap.objs.size + 1, [s.heap.objs.size + 1, s.heap.objs.size], fun i h => (∃ old, IsEnum h (s.heap.objs.size + 1) s.heap.objs.size i old) ∧ h.IsStrIter s.heap.objs.size "str_ascii_iterator" (mk l) t i,
    fun i T h => (∃ x, IsEnumOut h (s.heap.objs.size + 1) s.heap.objs.size ((i : Int) + 1) x T) ∧ h.IsStrIter s.heap.objs.size "str_ascii_iterator" (mk l) t (i + 1) ∧ T ≠ s.heap.objs.size + 1 ∧ T ≠ s.heap.objs.size, rfl, fun A' hA' => ?_, ⟨⟨.none, hen⟩, hit'⟩, ?_, ?_, ?_, ?_⟩
  · have W := (WalksT.enumerateD (A := A') (Draws.strAscii (prog := P0) (w := R.w) (A := A'.in1) hA' s.heap.objs.size (mk l) t) (s.heap.objs.size + 1) hne (by simp) (by simp)).toU
    have hc : (mk l).cps.size = l.length := by simp [mk]
    rw [hc] at W
    refine { W with item := fun i s Q E hi hst hQ => W.item i s Q E hi hst fun T vals h'' tk hP => hQ T vals h'' tk ?_ }
    obtain ⟨tk', y, ⟨c, u, hc', rfl⟩, rfl⟩ := hP
    exact ⟨tk', u, c, by simpa [mk] using hc', rfl⟩
  · rintro i h ⟨⟨old, he⟩, ⟨o1, q1, _⟩⟩ b hb
    rcases List.mem_cons.mp hb with rfl | hb
    · exact ⟨_, he⟩
    · obtain rfl := List.mem_singleton.mp hb
      exact ⟨_, q1⟩
  · intro b hb
    rcases List.mem_cons.mp hb with rfl | hb
    · exact f1 _ (Nat.le_succ _)
    · obtain rfl := List.mem_singleton.mp hb
      exact f1 _ (Nat.le_refl _)
  · exact ⟨fun b o e => hkeep _ _ (S.keep b o e), fun a l q => by
      obtain ⟨⟨vs, ⟨n, e⟩, hw⟩, hn⟩ := S.lists a l q
      exact ⟨⟨vs, ⟨n, hkeep _ _ e⟩, hw⟩, hn⟩, S.os, S.bare⟩
  · exact fun b o e q => ⟨hkeep _ _ e, q⟩
end
end

/-! G5 -/
section
open PySem.W PySem.W.X
/-- the signs of a text, an escaped one with its backslash -/
noncomputable def ec : Nat → Bool → List Nat → List Item
  | i, true, [] => [((i : Int) - 1, [92])]
  | _, false, [] => []
  | i, true, c :: cs => ((i : Int), [92, c]) :: ec (i + 1) false cs
  | i, false, c :: cs => if c = 92 then ec (i + 1) true cs else ((i : Int), [c]) :: ec (i + 1) false cs

noncomputable def SGP (R : Rn) (A : Around) : List Item → List Addr → Shared → End → Shared → Prop
  | [], fp, s => fun e s' => e = .ret (.ok (.ret .none)) ∧ Since fp s s'
  | p :: rest, fp, s => fun e s' => ∃ v l k c' p' fs' fp', e = .susp v false l k c' p' fs' ∧ PairOf s'.heap v p ∧ Since fp s s' ∧ (∀ b ∈ fp', b ∈ fp ∨ s.heap.get? b = none) ∧ (∀ b ∈ fp', ∃ o, s'.heap.get? b = some o) ∧ SG R A rest fp' c' (k (.send .none)) fs' s'.heap
theorem SG_iff {R : Rn} {A : Around} {items : List Item} {fp : List Addr} {c : Code} {t : Sem Fin} {fs : List Frame} {h : Heap} :
    SG R A items fp c t fs h ↔ ∀ s, (∀ b ∈ fp, ∀ o, h.get? b = some o → s.heap.get? b = some o) → St R.any nil0 s → SegX R.M A c t fs s (SGP R A items fp s) := by
  cases items <;> exact Iff.rfl

abbrev Rn.pin (R : Rn) (g : Array GenState) : Rn := { R with G := fun z => z = g }
/-- inside the generator, since its last waking at s₀ -/
structure GI (R : Rn) (C : Addr) (fp₀ : List Addr) (s₀ s : Shared) (ρ : Loc) : Prop where
  st : St (R.pin s₀.gens) nil0 s
  loc : LocAt (R.pin s₀.gens) C ρ s
  keep : ∀ b o, b ∉ fp₀ → s₀.heap.get? b = some o → s.heap.get? b = some o
theorem GI.since {R : Rn} {C : Addr} {fp₀ : List Addr} {s₀ s : Shared} {ρ : Loc} (g : GI R C fp₀ s₀ s ρ) (h : s₀.os = R.os₀) : Since fp₀ s₀ s := ⟨g.keep, g.st.bare, g.st.os.trans h.symm⟩

section
variable {R : Rn} {r : Nat} {env : Env} {ρ : Loc}
variable {A : Around} {c : Code} {fs : List Frame} {s₀ s : Shared} {P : End → Shared → Prop} {fp₀ fp : List Addr}

/-- a turn of the generator's own loop -/
theorem ge_turn {I : Addr} {Stt : Nat → Heap → Prop} {Mid : Nat → Addr → Heap → Prop} {l : List Nat} {x y : Str} {px py tp : Pos} {k : Nat} {body : List Stmt} {i d : Nat} (hA : (A.over (.forLoop (.Tuple [.Name x px, .Name y py] k tp) (.ref I) body [] env) fs).handled = none)
    (W : ∀ A' : Around, A'.handled = none → WalksU P0 R.w A' I fp fp l.length (fun i vals => ∃ t u c, l[i]? = some c ∧ vals = #[.int i t, .str (mk [c]) u]) Stt Mid)
    (he : EnvOk env) (hl : env.kindOf x = some .local) (hl2 : env.kindOf y = some .local) (hC : env.locals ∉ fp) (hy : ∀ b ∈ env.locals :: fp, b ∈ fp₀ ∨ s₀.heap.get? b = none) (hn : ∀ b ∈ fp, R.h₀.get? b = none)
    (g : GI R env.locals fp₀ s₀ s ρ) (hst : Stt i s.heap) (hd : l[i]? = some d)
    (h : ∀ s₅ H1, GI R env.locals fp₀ s₀ s₅ ((ρ.put x (.int i)).put y (.str (mk [d]))) → Stt (i + 1) s₅.heap → SegX R.M A (.forLoop (.Tuple [.Name x px, .Name y py] k tp) (.ref I) body [] env) ((execs body env).wrap (fun f => match f with
            | .next | .cont => .pure (.again (.forLoop (.Tuple [.Name x px, .Name y py] k tp) (.ref I) body [] env))
            | .brk => .pure (.done .next)
            | .ret v => .pure (.done (.ret v))) H1 id id) fs s₅ P) :
    SegX R.M A (.forLoop (.Tuple [.Name x px, .Name y py] k tp) (.ref I) body [] env) (denote table (.forLoop (.Tuple [.Name x px, .Name y py] k tp) (.ref I) body [] env)) fs s P := by
  have hi : i < l.length := (List.getElem?_eq_some_iff.mp hd).1
  have hσ : ∀ b ∈ fp, nil0 b = none := fun _ _ => rfl
  have hLw : ∀ b ∈ fp, b ≠ env.locals := fun b hb e => hC (e ▸ hb)
  refine x_forLoop ((W _ hA).item i s _ _ hi hst fun T vals h' tk hP hT hm hk => ?_)
  obtain ⟨t, u, c, hc, rfl⟩ := hP
  rw [hd] at hc; cases hc
  have S₁ : St (R.pin s₀.gens) nil0 { s with heap := h', toks := tk } := g.st.away hσ hn hk
  have F₁ : LocAt (R.pin s₀.gens) env.locals ρ { s with heap := h', toks := tk } := g.loc.away hLw hk
  refine (W _ hA).go _ _ _ i T _ _ _ hm fun h'' st₁ hk2 => ?_
  have S₂ : St (R.pin s₀.gens) nil0 { s with heap := h'', toks := tk } := S₁.away hσ hn hk2
  have F₂ : LocAt (R.pin s₀.gens) env.locals ρ { s with heap := h'', toks := tk } := F₁.away hLw hk2
  have hT2 : IsTup h'' T #[.int i t, .str (mk [d]) u] := by
    obtain ⟨o, ho, hc⟩ := hT
    exact ⟨o, hk2 T o ((W _ hA).apart i T _ hm) ho, hc⟩
  refine assign_Tuple_tuple hA hT2 rfl rfl fun h3 hx => ?_
  obtain ⟨S₃, g₃⟩ := S₂.ext hx
  have F₃ := F₂.go S₂ g₃
  refine assignInOrder_cons (wpAny_assign_Name (wpAny_mono (store (R := R.pin s₀.gens) he hl S₃ F₃ (Q := fun _ s₃ => St (R.pin s₀.gens) nil0 s₃ ∧ LocAt (R.pin s₀.gens) env.locals (ρ.put x (.int i)) s₃ ∧ GoL env.locals nil0 nil0 { s with heap := h3, toks := tk } s₃) fun s₃ a b c => ⟨a, b, c⟩) (fun _ s₄ ⟨S₄, F₄, g₄⟩ => ?_) fun _ _ x => x.elim))
  refine assignInOrder_cons (wpAny_assign_Name (wpAny_mono (store (R := R.pin s₀.gens) he hl2 S₄ F₄ (Q := fun _ s₅ => St (R.pin s₀.gens) nil0 s₅ ∧ LocAt (R.pin s₀.gens) env.locals ((ρ.put x (.int i)).put y (.str (mk [d]))) s₅ ∧ GoL env.locals nil0 nil0 s₄ s₅) fun s₃ a b c => ⟨a, b, c⟩) (fun _ s₅ ⟨S₅, F₅, g₅⟩ => ?_) fun _ _ x => x.elim))
  refine assignInOrder_nil fun H1 => ?_
  have g35 : GoL env.locals nil0 nil0 { s with heap := h'', toks := tk } s₅ := (g₃.l.trans g₄).trans g₅
  refine h s₅ H1 ⟨S₅, F₅, fun b o hb e => ?_⟩ ((W _ hA).frame _ _ _ st₁ fun b hb o e => (g35 b o (hLw b hb) e rfl).1)
  have hbL : b ∉ env.locals :: fp := fun hin => by
    rcases hy b hin with z | z
    · exact hb z
    · rw [z] at e; cases e
  have hbf : b ∉ fp := fun hin => hbL (List.mem_cons_of_mem _ hin)
  exact (g35 b o (fun z => hbL (z ▸ List.mem_cons_self ..)) (hk2 b o hbf (hk b o hbf (g.keep b o hb e))) rfl).1

theorem ge_done {I : Addr} {Stt : Nat → Heap → Prop} {Mid : Nat → Addr → Heap → Prop} {l : List Nat} {tgt : Expr} {body : List Stmt} {i : Nat} (hA : (A.over (.forLoop tgt (.ref I) body [] env) fs).handled = none)
    (W : ∀ A' : Around, A'.handled = none → WalksU P0 R.w A' I fp fp l.length (fun i vals => ∃ t u c, l[i]? = some c ∧ vals = #[.int i t, .str (mk [c]) u]) Stt Mid)
    (hC : env.locals ∉ fp) (hy : ∀ b ∈ env.locals :: fp, b ∈ fp₀ ∨ s₀.heap.get? b = none) (hn : ∀ b ∈ fp, R.h₀.get? b = none)
    (g : GI R env.locals fp₀ s₀ s ρ) (hst : Stt l.length s.heap)
    (h : ∀ s₅, GI R env.locals fp₀ s₀ s₅ ρ → SegX R.M A (.forLoop tgt (.ref I) body [] env) (.pure (.again (.block [] env))) fs s₅ P) :
    SegX R.M A (.forLoop tgt (.ref I) body [] env) (denote table (.forLoop tgt (.ref I) body [] env)) fs s P := by
  refine x_forLoop ((W _ hA).done s _ _ hst fun h' tk hk => h _ ⟨g.st.away (fun _ _ => rfl) hn hk, g.loc.away (fun b hb e => hC (e ▸ hb)) hk, fun b o hb e => hk b o (fun hin => ?_) (g.keep b o hb e)⟩)
  rcases hy b (List.mem_cons_of_mem _ hin) with z | z
  · exact hb z
  · rw [z] at e; cases e

/-- woken again -/
theorem GI.wake {C : Addr} {s' : Shared} (g : GI R C fp₀ s₀ s ρ) (hsame : ∀ b ∈ C :: fp, ∀ o, s.heap.get? b = some o → s'.heap.get? b = some o) (S : St R.any nil0 s') : GI R C (C :: fp) s' s' ρ := by
  obtain ⟨m, hn, hm⟩ := g.loc.ns
  exact ⟨⟨S.keep, fun _ _ e => (nomatch e), S.os, rfl⟩, ⟨⟨m, hn.at' fun o e => hsame _ (List.mem_cons_self ..) o e, hm⟩, g.loc.new⟩, fun _ _ _ e => e⟩
theorem GI.go {C : Addr} {s' : Shared} (g : GI R C fp₀ s₀ s ρ) (S : St (R.pin s₀.gens) nil0 s') (k : Go nil0 nil0 s s') : GI R C fp₀ s₀ s' ρ :=
  ⟨S, g.loc.go g.st k, fun b o hb e => (k b o (g.keep b o hb e) rfl).1⟩
theorem GI.goL {C : Addr} {s' : Shared} {ρ' : Loc} (g : GI R C fp₀ s₀ s ρ) (hC : C ∈ fp₀ ∨ s₀.heap.get? C = none) (S : St (R.pin s₀.gens) nil0 s') (F : LocAt (R.pin s₀.gens) C ρ' s') (k : GoL C nil0 nil0 s s') : GI R C fp₀ s₀ s' ρ' :=
  ⟨S, F, fun b o hb e => (k b o (fun z => by
    subst z
    rcases hC with z | z
    · exact hb z
    · rw [z] at e; cases e) (g.keep b o hb e) rfl).1⟩
theorem GI.le {C : Addr} {ρ' : Loc} (g : GI R C fp₀ s₀ s ρ) (h : Le ρ' ρ) : GI R C fp₀ s₀ s ρ' := ⟨g.st, g.loc.le h, g.keep⟩
end
end

/-! G6 -/
section
open PySem.W PySem.W.X
section
variable {R : Rn} {r : Nat} {env : Env} {ρ : Loc}
variable {A : Around} {c : Code} {fs : List Frame} {s₀ s : Shared} {P : End → Shared → Prop} {fp₀ fp : List Addr}

noncomputable abbrev locG (q : Int) (esc : Bool) : Loc := Loc.of [("pos", .int q), ("escape", .bool esc)]
structure EnvG (env : Env) : Prop where
  kind : env.scope.kind = .function
  co : env.scope.isCoroutine = false
  inter : interactive env = false
  ok : EnvOk env
  pos : env.kindOf "pos" = some .local
  ch : env.kindOf "ch" = some .local
  esc : env.kindOf "escape" = some .local

theorem ts_esc {q : Int} {b : Bool} {p : Pos} (E : EnvG env) (h : ρ "escape" = some (.bool b)) : TS R r env (.Name "escape" p) ρ nil0 fun b' σ' => b' = b ∧ σ' = nil0 :=
  TS_plain (fun _ => rfl) (EV_local E.kind E.esc h (TRU_bool ⟨rfl, rfl⟩) rfl)
theorem ev_pos {q : Int} {p : Pos} {Q : PV → Sto → Prop} {σ : Sto} (E : EnvG env) (h : ρ "pos" = some (.int q)) (hq : Q (.int q) σ) : EV R r env (.Name "pos" p) ρ σ Q := EV_local E.kind E.pos h hq rfl
theorem ev_ch {q : Str} {p : Pos} {Q : PV → Sto → Prop} {σ : Sto} (E : EnvG env) (h : ρ "ch" = some (.str q)) (hq : Q (.str q) σ) : EV R r env (.Name "ch" p) ρ σ Q := EV_local E.kind E.ch h hq rfl

/-- behind the loop -/
theorem ge_tail {fb : List Stmt} {bs : Str} {i : Nat} {q : Int} {esc : Bool} {H : Value → Sem Fin} {p1 p2 p3 p4 p5 p6 p7 : Pos} {k1 k2 : Nat} (E : EnvG env) (hbs : bs = mk [92]) (hA : Room R.top r (A.over (.func fb env) []))
    (hq : esc = true → q = (i : Int) - 1) (hos : s₀.os = R.os₀) (hfp : ∀ b ∈ env.locals :: fp, b ∈ fp₀ ∨ s₀.heap.get? b = none) (hlive : ∀ b ∈ fp, ∃ o, s.heap.get? b = some o) (g : GI R env.locals fp₀ s₀ s (locG q esc)) :
    SegX R.M A (.func fb env) ((execs [.If (.Name "escape" p1) [.Expr (.Yield (some (.Tuple [.Name "pos" p2, .Constant (.str bs) k1 p3] k2 p4)) p5) p6] [] p7] env).wrap
      (fun f => .pure (.done (.ret (match f with | .ret v => v | _ => .none)))) H id id) [] s (SGP R A (ec i esc []) fp₀ s₀) := by
  refine x_execs_cons (x_If (R := R.pin s₀.gens) (ts_esc (q := q) E rfl) hA g.st g.loc fun s' S' F' g' => ?_)
  have g1 : GI R env.locals fp₀ s₀ s' (locG q esc) := g.go S' g'
  cases esc with
  | false => exact s_end P0 R.w A _ _ s' (.ok (.ret .none)) _ rfl ⟨rfl, g1.since hos⟩
  | true =>
    obtain rfl := hq rfl
    refine x_execs_cons (x_Yield rfl rfl rfl ?_ E.co E.inter)
    refine wp_pair (R := R.pin s₀.gens) (i := (i : Int) - 1) (l := [92]) (ev_pos E rfl ⟨rfl, rfl, EV_strL hbs ⟨rfl, rfl⟩⟩) rfl rfl hA S' F' fun v s₂ S₂ k₂ hp l k p hk => ?_
    have g2 := g1.go S₂ k₂
    refine ⟨v, l, k, _, p, [], env.locals :: fp, rfl, hp, g2.since hos, hfp, fun b hb => ?_, SG_iff.mpr fun s'' hsame S'' => ?_⟩
    · rcases List.mem_cons.mp hb with rfl | hb
      · obtain ⟨m, ⟨o, es, ep, ho, _⟩, _⟩ := g2.loc.ns
        exact ⟨o, ho⟩
      · obtain ⟨o, e⟩ := hlive b hb
        exact ⟨o, (k₂ b o (g' b o e rfl).1 rfl).1⟩
    · rw [hk]
      have g3 := g2.wake hsame S''
      exact s_end P0 R.w A _ _ s'' (.ok (.ret .none)) _ rfl ⟨rfl, g3.since S''.os⟩
end
end

/-! G7 -/
section
open PySem.W PySem.W.X
section
variable {R : Rn} {r : Nat} {env : Env} {ρ : Loc}
variable {A : Around} {fp : List Addr}

abbrev loopG (bs : Str) (p1 p2 p3 p4 p5 p6 p7 p8 p9 p10 p11 p12 p13 p14 p15 p16 p17 p18 p19 p20 p21 p22 p23 p24 : Pos) (k1 k2 k3 k4 k5 k6 : Nat) : List Stmt :=
  [.If (.Name "escape" p1)
    [.Expr (.Yield (some (.Tuple [.Name "pos" p2, .BinOp (.Constant (.str bs) k1 p3) .Add (.Name "ch" p4) p5] k2 p6)) p7) p8, .Assign [.Name "escape" p9] (.Constant (.bool false) k3 p10) p11]
    [.If (.Compare (.Name "ch" p12) [.Eq] [.Constant (.str bs) k4 p13] p14) [.Assign [.Name "escape" p15] (.Constant (.bool true) k5 p16) p17]
      [.Expr (.Yield (some (.Tuple [.Name "pos" p18, .Name "ch" p19] k6 p20)) p21) p22] p23] p24]
abbrev tgtG (px py tp : Pos) (k : Nat) : Expr := .Tuple [.Name "pos" px, .Name "ch" py] k tp

theorem drop_cons {l cs : List Nat} {i c : Nat} (h : l.drop i = c :: cs) : l[i]? = some c ∧ l.drop (i + 1) = cs := by
  have hi : i < l.length := by
    rcases Nat.lt_or_ge i l.length with h' | h'
    · exact h'
    · rw [List.drop_eq_nil_of_le h'] at h; cases h
  rw [List.drop_eq_getElem_cons hi] at h
  injection h with h1 h2
  exact ⟨by rw [List.getElem?_eq_getElem hi, h1], h2⟩

theorem ge_loop {I : Addr} {Stt : Nat → Heap → Prop} {Mid : Nat → Addr → Heap → Prop} {l : List Nat} {fb : List Stmt} {bs : Str} {H : Value → Sem Fin} {k : Result → Sem Fin} {pf : Pos}
    {p1 p2 p3 p4 p5 p6 p7 p8 p9 p10 p11 p12 p13 p14 p15 p16 p17 p18 p19 p20 p21 p22 p23 p24 px py tp q1 q2 q3 q4 q5 q6 q7 : Pos} {k1 k2 k3 k4 k5 k6 k7 k8 k9 : Nat} (E : EnvG env) (hbs : bs = mk [92]) (hA : Room R.top (r + 1) A)
    (W : ∀ A' : Around, A'.handled = none → WalksU P0 R.w A' I fp fp l.length (fun i vals => ∃ t u c, l[i]? = some c ∧ vals = #[.int i t, .str (mk [c]) u]) Stt Mid)
    (hC : env.locals ∉ fp) (hn : ∀ b ∈ fp, R.h₀.get? b = none) (hlive : ∀ i h, Stt i h → ∀ b ∈ fp, ∃ o, h.get? b = some o)
    (hk : k (.ok .next) = ((execs [.If (.Name "escape" q1) [.Expr (.Yield (some (.Tuple [.Name "pos" q2, .Constant (.str bs) k7 q3] k8 q4)) q5) q6] [] q7] env).wrap
      (fun f => .pure (.done (.ret (match f with | .ret v => v | _ => .none)))) H id id)) :
    ∀ (cs : List Nat) (i : Nat) (esc : Bool) (q : Int) (s₀ s : Shared) (fp₀ : List Addr), l.drop i = cs → i + cs.length = l.length → (esc = true → q = (i : Int) - 1) → s₀.os = R.os₀ → (∀ b ∈ env.locals :: fp, b ∈ fp₀ ∨ s₀.heap.get? b = none) →
      GI R env.locals fp₀ s₀ s (locG q esc) → Stt i s.heap →
      SegX R.M A (.forLoop (tgtG px py tp k9) (.ref I) (loopG bs p1 p2 p3 p4 p5 p6 p7 p8 p9 p10 p11 p12 p13 p14 p15 p16 p17 p18 p19 p20 p21 p22 p23 p24 k1 k2 k3 k4 k5 k6) [] env)
        (denote table (.forLoop (tgtG px py tp k9) (.ref I) (loopG bs p1 p2 p3 p4 p5 p6 p7 p8 p9 p10 p11 p12 p13 p14 p15 p16 p17 p18 p19 p20 p21 p22 p23 p24 k1 k2 k3 k4 k5 k6) [] env))
        [.ret k none false [] (.func fb env) pf []] s (SGP R A (ec i esc cs) fp₀ s₀) := by
  have hF : Room R.top r (A.over (.forLoop (tgtG px py tp k9) (.ref I) (loopG bs p1 p2 p3 p4 p5 p6 p7 p8 p9 p10 p11 p12 p13 p14 p15 p16 p17 p18 p19 p20 p21 p22 p23 p24 k1 k2 k3 k4 k5 k6) [] env) [.ret k none false [] (.func fb env) pf []]) := room_for hA
  intro cs
  induction cs with
  | nil =>
    intro i esc q s₀ s fp₀ hd hlen hq hos hy g hst
    have hil : i = l.length := by simpa using hlen
    subst hil
    refine ge_done (i := 0) hF.hd W hC hy hn g hst fun s₅ g₅ => x_over ?_
    rw [hk]
    refine ge_tail (fp := []) E hbs (room_func hA) hq hos (fun b hb => hy b ?_) (fun b hb => (nomatch hb)) g₅
    obtain rfl := List.mem_singleton.mp hb
    exact List.mem_cons_self ..
  | cons c cs ih =>
    intro i esc q s₀ s fp₀ hd hlen hq hos hy g hst
    obtain ⟨hc, hd'⟩ := drop_cons hd
    have hlen' : i + 1 + cs.length = l.length := by rw [← hlen, List.length_cons]; omega
    have hCy : env.locals ∈ fp₀ ∨ s₀.heap.get? env.locals = none := hy _ (List.mem_cons_self ..)
    refine ge_turn hF.hd W E.ok E.pos E.ch hC hy hn g hst hc fun s₅ H1 g₅ st₅ => ?_
    refine x_execs_cons (x_If (R := R.pin s₀.gens) (b := esc) (ts_esc (q := q) E rfl) hF g₅.st g₅.loc fun s₆ S₆ F₆ k₆ => ?_)
    have g₆ := g₅.go S₆ k₆
    have st₆ : Stt (i + 1) s₆.heap := (W A hA.hd).frame _ _ _ st₅ fun b _ o e => (k₆ b o e rfl).1
    have alive : ∀ {s' : Shared} {ρ : Loc} {f₀ : List Addr} {t₀ : Shared}, GI R env.locals f₀ t₀ s' ρ → Stt (i + 1) s'.heap → ∀ b ∈ env.locals :: fp, ∃ o, s'.heap.get? b = some o := fun g' st' b hb => by
      rcases List.mem_cons.mp hb with rfl | hb
      · obtain ⟨m, ⟨o, es, ep, ho, _⟩, _⟩ := g'.loc.ns
        exact ⟨o, ho⟩
      · exact hlive _ _ st' b hb
    cases esc with
    | true =>
      refine x_execs_cons (x_Yield rfl rfl rfl ?_ E.co E.inter)
      refine wp_pair (R := R.pin s₀.gens) (i := (i : Int)) (l := [92, c]) (ev_pos E rfl ⟨rfl, rfl, EV_BinOp (EV_strL hbs (ev_ch E rfl (BIN_catL (a := [92]) (b := [c]) (by simp) ⟨rfl, rfl⟩)))⟩) rfl rfl hF S₆ F₆ fun v s₇ S₇ k₇ hp lv kk p hkk => ?_
      have g₇ := g₆.go S₇ k₇
      have st₇ : Stt (i + 1) s₇.heap := (W A hA.hd).frame _ _ _ st₆ fun b _ o e => (k₇ b o e rfl).1
      refine ⟨v, lv, kk, _, p, _, env.locals :: fp, rfl, hp, g₇.since hos, hy, alive g₇ st₇, SG_iff.mpr fun s'' hsame S'' => ?_⟩
      rw [hkk]
      have g₈ := g₇.wake hsame S''
      have st₈ : Stt (i + 1) s''.heap := (W A hA.hd).frame _ _ _ st₇ fun b hb o e => hsame b (List.mem_cons_of_mem _ hb) o e
      refine x_execs_cons (x_EX (R := R.pin s''.gens) (EX_Assign (Q := fun f ρ' σ' => f = .next ∧ ρ' = Loc.put _ "escape" (.bool false) ∧ σ' = nil0) E.ok E.esc rfl (EV_bool ⟨rfl, rfl, rfl⟩)) hF g₈.st g₈.loc fun f s₉ ρ' σ' S₉ F₉ k₉ hq₉ => ?_)
      obtain ⟨hf, rfl, rfl⟩ := hq₉
      have g₉ := g₈.goL (.inl (List.mem_cons_self ..)) S₉ F₉ k₉
      have st₉ : Stt (i + 1) s₉.heap := (W A hA.hd).frame _ _ _ st₈ fun b hb o e => (k₉ b o (fun z => hC (z ▸ hb)) e rfl).1
      cases f with
      | next => exact s_again P0 R.w A _ _ _ s₉ _ rfl (ih (i + 1) false i s'' s₉ (env.locals :: fp) hd' hlen' (fun z => by cases z) S''.os (fun b hb => .inl hb) (g₉.le (by walk_at "le")) st₉)
      | _ => cases hf
    | false =>
      refine x_execs_cons (x_If (R := R.pin s₀.gens) (b := decide (c = 92)) (TS_Compare rfl (ev_ch E rfl (EV_strL hbs (CMP_eqL (boolQ_ ⟨by simp, rfl⟩))))) hF S₆ F₆ fun s₇ S₇ F₇ k₇ => ?_)
      have g₇ := g₆.go S₇ k₇
      have st₇ : Stt (i + 1) s₇.heap := (W A hA.hd).frame _ _ _ st₆ fun b _ o e => (k₇ b o e rfl).1
      by_cases hc92 : c = 92
      · have e : ec i false (c :: cs) = ec (i + 1) true cs := by simp [ec, hc92]
        rw [e]
        simp only [hc92, decide_true, if_true]
        refine x_execs_cons (x_EX (R := R.pin s₀.gens) (EX_Assign (Q := fun f ρ' σ' => f = .next ∧ ρ' = Loc.put _ "escape" (.bool true) ∧ σ' = nil0) E.ok E.esc rfl (EV_bool ⟨rfl, rfl, rfl⟩)) hF S₇ F₇ fun f s₉ ρ' σ' S₉ F₉ k₉ hq₉ => ?_)
        obtain ⟨hf, rfl, rfl⟩ := hq₉
        have g₉ := g₇.goL hCy S₉ F₉ k₉
        have st₉ : Stt (i + 1) s₉.heap := (W A hA.hd).frame _ _ _ st₇ fun b hb o e => (k₉ b o (fun z => hC (z ▸ hb)) e rfl).1
        cases f with
        | next => exact s_again P0 R.w A _ _ _ s₉ _ rfl (ih (i + 1) true i s₀ s₉ fp₀ hd' hlen' (fun z => by omega) hos hy (g₉.le (by walk_at "le")) st₉)
        | _ => cases hf
      · have e : ec i false (c :: cs) = ((i : Int), [c]) :: ec (i + 1) false cs := by simp [ec, hc92]
        rw [e]
        simp only [hc92, decide_false, Bool.false_eq_true, if_false]
        refine x_execs_cons (x_Yield rfl rfl rfl ?_ E.co E.inter)
        refine wp_pair (R := R.pin s₀.gens) (i := (i : Int)) (l := [c]) (ev_pos E rfl ⟨rfl, rfl, ev_ch E rfl ⟨rfl, rfl⟩⟩) rfl rfl hF S₇ F₇ fun v s₈ S₈ k₈ hp lv kk p hkk => ?_
        have g₈ := g₇.go S₈ k₈
        have st₈ : Stt (i + 1) s₈.heap := (W A hA.hd).frame _ _ _ st₇ fun b _ o e => (k₈ b o e rfl).1
        refine ⟨v, lv, kk, _, p, _, env.locals :: fp, rfl, hp, g₈.since hos, hy, alive g₈ st₈, SG_iff.mpr fun s'' hsame S'' => ?_⟩
        rw [hkk]
        have g₉ := g₈.wake hsame S''
        have st₉ : Stt (i + 1) s''.heap := (W A hA.hd).frame _ _ _ st₈ fun b hb o e => hsame b (List.mem_cons_of_mem _ hb) o e
        exact s_again P0 R.w A _ _ _ s'' _ rfl (ih (i + 1) false i s'' s'' (env.locals :: fp) hd' hlen' (fun z => by cases z) S''.os (fun b hb => .inl hb) (g₉.le (by walk_at "le")) st₉)
end
end

/-! G8 -/
section
open PySem.W PySem.W.X
section
variable {R : Rn} {r : Nat} {env : Env} {ρ : Loc} {σ : Sto}

theorem Room.in1 {A : Around} (h : Room R.top (r + 1) A) : Room R.top r A.in1 := ⟨h.hd, by have := h.dep; show A.depth + r < _; omega, by have := h.un; show A.units + 1 + 8 * r + 200 < _; omega, h.fr⟩

theorem ie_def {ps : Arguments} {body : List Stmt} {sc : Scope} (hdef : P0.theDef "_iter_escaped_chars" = some (ps, body, sc)) {T : Arguments → List Stmt → Scope → Prop}
    (h : match P0.theDef "_iter_escaped_chars" with | some (ps, body, sc) => T ps body sc | none => True) : T ps body sc := by
  rw [hdef] at h; exact h

theorem ie_env {C fa : Addr} {cd : Value} {ps : Arguments} {body : List Stmt} {sc : Scope} (hdef : P0.theDef "_iter_escaped_chars" = some (ps, body, sc)) :
    EnvG (envOf "_iter_escaped_chars" sc C fa cd) ∧ (envOf "_iter_escaped_chars" sc C fa cd).kindOf "enumerate" = some .globalImplicit ∧ (envOf "_iter_escaped_chars" sc C fa cd).kindOf "addr" = some .local :=
  ie_def hdef (T := fun ps body sc => EnvG (envOf "_iter_escaped_chars" sc C fa cd) ∧ (envOf "_iter_escaped_chars" sc C fa cd).kindOf "enumerate" = some .globalImplicit ∧ (envOf "_iter_escaped_chars" sc C fa cd).kindOf "addr" = some .local)
    ⟨⟨rfl, rfl, rfl, rfl, rfl, rfl, rfl⟩, rfl, rfl⟩

/-- the shape of its body -/
noncomputable def ShapeG (body : List Stmt) : Prop := ∃ (bs : Str) (p1 p2 p3 p4 p5 p6 p7 p8 p9 p10 p11 p12 p13 p14 p15 p16 p17 p18 p19 p20 p21 p22 p23 p24 px py tp q1 q2 q3 q4 q5 q6 q7 a1 a2 a3 a4 a5 a6 a7 a8 a9 a10 : Pos) (k1 k2 k3 k4 k5 k6 k7 k8 k9 b1 b2 : Nat), bs = mk [92] ∧
  body = [.Assign [.Name "pos" a1] (.Constant (.int 0) b1 a2) a3, .Assign [.Name "escape" a4] (.Constant (.bool false) b2 a5) a6,
    .For (tgtG px py tp k9) (.Call (.Name "enumerate" a7) [.Name "addr" a8] [] a9) (loopG bs p1 p2 p3 p4 p5 p6 p7 p8 p9 p10 p11 p12 p13 p14 p15 p16 p17 p18 p19 p20 p21 p22 p23 p24 k1 k2 k3 k4 k5 k6) [] a10,
    .If (.Name "escape" q1) [.Expr (.Yield (some (.Tuple [.Name "pos" q2, .Constant (.str bs) k7 q3] k8 q4)) q5) q6] [] q7]
theorem ie_shape {ps : Arguments} {body : List Stmt} {sc : Scope} (hdef : P0.theDef "_iter_escaped_chars" = some (ps, body, sc)) : ShapeG body :=
  ie_def hdef (T := fun ps body sc => ShapeG body) ⟨_, _, _, _, _, _, _, _, _, _, _, _, _, _, _, _, _, _, _, _, _, _, _, _, _, _, _, _, _, _, _, _, _, _, _, _, _, _, _, _, _, _, _, _, _, _, _, _, _, _, _, _, _, _, _, _, s_back, rfl⟩

/-- the whole of the generator -/
theorem ge_start {A : Around} {l : List Nat} {C fa : Addr} {cd : Value} {ps : Arguments} {body : List Stmt} {sc : Scope} {h : Heap} (B : Base R) (hdef : P0.theDef "_iter_escaped_chars" = some (ps, body, sc)) (hA : Room R.top (r + 1) A) (ha : ∀ c ∈ l, c < 128)
    (hn : ∃ m, h.Ns C m ∧ ∃ t, m "addr" = some (.str (mk l) t)) (hnew : R.h₀.get? C = none) :
    SG R A (ec 0 false l) [C] (.func body (envOf "_iter_escaped_chars" sc C fa cd)) (denote table (.func body (envOf "_iter_escaped_chars" sc C fa cd))) [] h := by
  obtain ⟨E, hen, had⟩ := ie_env (C := C) (fa := fa) (cd := cd) hdef
  have hsh := ie_shape hdef
  have hg : (envOf "_iter_escaped_chars" sc C fa cd).globals = mainGlobals := rfl
  have hb : (envOf "_iter_escaped_chars" sc C fa cd).builtins = builtinsNs := rfl
  have hL : (envOf "_iter_escaped_chars" sc C fa cd).locals = C := rfl
  generalize envOf "_iter_escaped_chars" sc C fa cd = env at *
  obtain ⟨bs, p1, p2, p3, p4, p5, p6, p7, p8, p9, p10, p11, p12, p13, p14, p15, p16, p17, p18, p19, p20, p21, p22, p23, p24, px, py, tp, q1, q2, q3, q4, q5, q6, q7, a1, a2, a3, a4, a5, a6, a7, a8, a9, a10, k1, k2, k3, k4, k5, k6, k7, k8, k9, b1, b2, hbs, rfl⟩ := hsh
  subst hL
  refine SG_iff.mpr fun s hsame S => x_func fun H => ?_
  obtain ⟨m, hm, t, ht⟩ := hn
  have g0 : GI R env.locals [env.locals] s s (Loc.of [("addr", .str (mk l))]) := by
    refine ⟨⟨S.keep, fun _ _ e => (nomatch e), S.os, rfl⟩, ⟨⟨m, hm.at' fun o e => hsame _ (List.mem_singleton.mpr rfl) o e, fun x p e => ?_⟩, hnew⟩, fun _ _ _ e => e⟩
    have hx : x = "addr" ∧ p = .str (mk l) := by
      unfold Loc.of at e
      rw [List.lookup_cons] at e
      split at e
      · rename_i hxx; cases e; exact ⟨by simpa using hxx, rfl⟩
      · cases e
    obtain ⟨rfl, rfl⟩ := hx
    exact ⟨_, ht, rfl⟩
  have hCy : env.locals ∈ [env.locals] ∨ s.heap.get? env.locals = none := .inl (List.mem_singleton.mpr rfl)
  have one : ∀ (x : Str) (p : PV) (e : Expr) (pa pb : Pos) (s₁ : Shared) (ρ : Loc) (K : Flow → Sem Fin) (rr fb : List Stmt), env.kindOf x = some .local → swapsWith e (some (.Name x pa)) pb.line env = pure false → EV (R.pin s.gens) r env e ρ nil0 (fun p' σ' => p' = p ∧ σ' = nil0) → GI R env.locals [env.locals] s s₁ ρ →
      (∀ s₂, GI R env.locals [env.locals] s s₂ (ρ.put x p) → SegX R.M A (.func fb env) ((execs rr env).wrap K H id id) [] s₂ (SGP R A (ec 0 false l) [env.locals] s)) →
      SegX R.M A (.func fb env) ((execs (.Assign [.Name x pa] e pb :: rr) env).wrap K H id id) [] s₁ (SGP R A (ec 0 false l) [env.locals] s) := by
    intro x p e pa pb s₁ ρ K rr fb hk hsw hev g1 hnext
    refine x_execs_cons (x_EX (R := R.pin s.gens) (EX_Assign (Q := fun f ρ' σ' => f = .next ∧ ρ' = ρ.put x p ∧ σ' = nil0) E.ok hk hsw (EV.mono hev fun b σ' ⟨h1, h2⟩ => ⟨rfl, by rw [h1], h2⟩)) (room_func hA) g1.st g1.loc fun f s₂ ρ' σ' S₂ F₂ k₂ hq => ?_)
    obtain ⟨hf, rfl, rfl⟩ := hq
    cases f with
    | next => exact hnext s₂ (g1.goL hCy S₂ F₂ k₂)
    | _ => cases hf
  refine one "pos" (.int 0) _ _ _ s _ _ _ _ E.pos rfl (EV_int ⟨rfl, rfl⟩) g0 fun s₁ g1 => ?_
  refine one "escape" (.bool false) _ _ _ s₁ _ _ _ _ E.esc rfl (EV_bool ⟨rfl, rfl⟩) g1 fun s₂ g2 => ?_
  have g2' := g2.le (ρ' := Loc.of [("addr", .str (mk l)), ("pos", .int 0), ("escape", .bool false)]) (by walk_at "le")
  have hF := room_func (env := env) (body := [.Assign [.Name "pos" a1] (.Constant (.int 0) b1 a2) a3, .Assign [.Name "escape" a4] (.Constant (.bool false) b2 a5) a6,
    .For (tgtG px py tp k9) (.Call (.Name "enumerate" a7) [.Name "addr" a8] [] a9) (loopG bs p1 p2 p3 p4 p5 p6 p7 p8 p9 p10 p11 p12 p13 p14 p15 p16 p17 p18 p19 p20 p21 p22 p23 p24 k1 k2 k3 k4 k5 k6) [] a10,
    .If (.Name "escape" q1) [.Expr (.Yield (some (.Tuple [.Name "pos" q2, .Constant (.str bs) k7 q3] k8 q4)) q5) q6] [] q7]) hA
  have Bp : Base (R.pin s.gens) := ⟨B.g, B.b, B.lim, B.bi, B.free, B.fn⟩
  refine x_execs_cons (x_For (fun x => rfl) ?_)
  refine wpAny_mono (wp_enumStr (R := R.pin s.gens) (l := l) Bp E.kind hen had hg hb rfl rfl ha hF.hd g2'.st g2'.loc) (fun v s₃ h₃ => wpAny_mono h₃ (fun it s₄ h₄ p k hk => ?_) fun _ _ x => x) fun _ _ x => x
  obtain ⟨I, fp, Stt, Mid, rfl, W, st0, hlive, hfresh, S₄, k₄⟩ := h₄
  have g4 := (g2'.go S₄ k₄).le (ρ' := locG 0 false) (by walk_at "le")
  have hC : env.locals ∉ fp := fun hin => by
    obtain ⟨m', ⟨o, es, ep, ho, _⟩, _⟩ := g2.loc.ns
    rw [hfresh _ hin] at ho; cases ho
  have hn : ∀ b ∈ fp, R.h₀.get? b = none := fun b hb => by
    cases e : R.h₀.get? b with
    | none => rfl
    | some o => have := g2.st.keep b o e; rw [hfresh b hb] at this; cases this
  have hy : ∀ b ∈ env.locals :: fp, b ∈ [env.locals] ∨ s.heap.get? b = none := fun b hb => by
    rcases List.mem_cons.mp hb with rfl | hb
    · exact .inl (List.mem_singleton.mpr rfl)
    · refine .inr ?_
      cases e : s.heap.get? b with
      | none => rfl
      | some o =>
        have := g2.keep b o (fun z => hC (List.mem_singleton.mp z ▸ hb)) e
        rw [hfresh b hb] at this; cases this
  exact ge_loop (R := R) E hbs hA W hC hn hlive (hk .next) l 0 false 0 s s₄ [env.locals] rfl (by simp) (fun z => by cases z) S.os hy g4 st0
end
end

/-! G9 -/
section
open PySem.W PySem.W.X
section
variable {R : Rn} {r : Nat} {env : Env} {ρ : Loc} {σ : Sto}

theorem ITRG_iter {x : Str} {p p' pos : Pos} {l : List Nat} {K : List Item → Sto → Prop} (B : Base R) (hG : R.G = AllBare) (hk : env.scope.kind = .function) (hx : env.kindOf "_iter_escaped_chars" = some .globalImplicit) (hx' : env.kindOf x = some .local) (hg : env.globals = mainGlobals)
    (hd : (x == ("__debug__" : Str)) = false) (hl : ρ x = some (.str (mk l))) (ha : ∀ c ∈ l, c < 128) (h : K (ec 0 false l) σ) : ITRG R (r + 3) env (.Call (.Name "_iter_escaped_chars" p) [.Name x p'] [] pos) ρ σ K := fun A hA s S F => by
  obtain ⟨m, hn, hm⟩ := F.ns
  obtain ⟨v, hv, e⟩ := hm x _ hl
  obtain ⟨t, rfl⟩ := pv_str e
  obtain ⟨⟨ps, body, sc⟩, hdef⟩ : ∃ d, P0.theDef "_iter_escaped_chars" = some d := ⟨_, rfl⟩
  obtain ⟨fa, o, pm, cd, doc, h1, h2, h3, h4⟩ := B.fn _ ps body sc hdef
  refine Call_ (Name_function_global hk hx (loadGlobal_global (mg := R.mg) (by rw [hg]; exact B.g.keeps S.keep) h1 (callWith_def h3 (args_cons (rest := []) (wpAny_Name (wpAny_loadName_local hk hx' hn hv (args_nil ⟨S.keep _ _ h2, ?_⟩)) hd) rfl) rfl)) rfl) rfl
  have facts : ps.args.map (·.arg) = [("addr" : Str)] ∧ sc.names.lookup ("addr" : Str) = some .local ∧ sc.isCoroutine = false ∧ sc.isGenerator = true ∧ sc.kind = .function ∧ (sc.names.all fun x => decide (x.2 ≠ .cell)) = true ∧
      ∀ pm cd doc v, bindArgs (docDef "_iter_escaped_chars" ps body sc pm cd doc) ⟨[v], []⟩ = pure [(("addr" : Str), v)] :=
    ie_def hdef (T := fun ps body sc => ps.args.map (·.arg) = [("addr" : Str)] ∧ sc.names.lookup ("addr" : Str) = some .local ∧ sc.isCoroutine = false ∧ sc.isGenerator = true ∧ sc.kind = .function ∧ (sc.names.all fun x => decide (x.2 ≠ .cell)) = true ∧
      ∀ pm cd doc v, bindArgs (docDef "_iter_escaped_chars" ps body sc pm cd doc) ⟨[v], []⟩ = pure [(("addr" : Str), v)]) ⟨rfl, rfl, rfl, rfl, rfl, rfl, fun _ _ _ _ => rfl⟩
  obtain ⟨f1, f2, f3, f4, f5, f6, f7⟩ := facts
  refine wpAny_call (codeAny_call_generator (by have := hA.dep; omega) (S.keep _ _ h2) h3 f3 f4 rfl (h4.keeps S.keep) ?_)
  rw [f7]
  refine wpAny_pure (wpAny_newFunctionEnv (fun q hq => of_decide_eq_true (List.all_eq_true.mp f6 q hq)) (fun q hq => ?_) (fun h₁ hns hsb => ⟨(B.lim.keeps S.keep).fresh _ hsb, ?_⟩) f5)
  · obtain rfl := List.mem_singleton.mp hq
    exact f2
  have hns' : h₁.Ns s.heap.objs.size (fun y => if y = "addr" then some (.str (mk l) t) else none) := by
    obtain ⟨o, es, ep, a1, a2, a3, a4⟩ := hns
    refine ⟨o, es, ep, a1, a2, a3, fun y => (a4 y).trans ?_⟩
    show [(("addr" : Str), Value.str (mk l) t)].lookup y = _
    rw [List.lookup_cons]
    by_cases hy : y = "addr"
    · simp [hy]
    · have : (y == ("addr" : Str)) = false := by simpa using hy
      simp [this, hy]
  have hkeep : ∀ b o, s.heap.get? b = some o → h₁.get? b = some o := fun b o e => hsb.extBut b o (Nat.ne_of_lt (Heap.lt_size e)) (Heap.get?_push_of_some _ e)
  have hC0 : s.heap.get? s.heap.objs.size = none := S.fresh.1
  have hC1 : R.h₀.get? s.heap.objs.size = none := S.fresh.2.1
  have hC2 : σ s.heap.objs.size = none := S.fresh.2.2
  have hsz : ∀ b, h₁.objs.size ≤ b → h₁.get? b = none := fun b hb => by
    cases h : h₁.get? b with
    | none => rfl
    | some o => exact absurd (Heap.lt_size h) (Nat.not_lt.mpr hb)
  have hlt : s.heap.objs.size < h₁.objs.size := hns'.lt
  have hkeep2 : ∀ (ob : Obj) b o, s.heap.get? b = some o → (h₁.push ob).get? b = some o := fun ob b o e => Heap.get?_push_of_some _ (hkeep b o e)
  have hgen : ∀ nm qn, (h₁.push { cls := .type "generator", data := .fields #[.int s.gens.size 0, nm, qn] }).IsGen h₁.objs.size s.gens.size := fun nm qn => ⟨_, nm, qn, Heap.get?_push_size _ rfl, rfl, rfl, rfl⟩
  show wpAny R.M A (pyIter (.ref h₁.objs.size)) _ _ _
  refine wpAny_pyIter_gen (g := s.gens.size) (hgen _ _) ?_
  have hL : env.locals < s.heap.objs.size := hn.lt
  refine ⟨ec 0 false l, σ, ⟨fun b o e => hkeep2 _ b o (S.keep b o e), fun a l' q => ?_, S.os, ?_⟩, fun b o e q => ⟨hkeep2 _ b o e, q⟩, ?_, h⟩
  · obtain ⟨⟨vs, ⟨n, e⟩, hw⟩, hn⟩ := S.lists a l' q
    exact ⟨⟨vs, ⟨n, hkeep2 _ _ _ e⟩, hw⟩, hn⟩
  · rw [hG]
    exact AllBare.push (by have := S.bare; rwa [hG] at this) rfl
  · have hagen : σ h₁.objs.size = none := by
      cases e : σ h₁.objs.size with
      | none => rfl
      | some l' =>
        obtain ⟨⟨vs, ⟨n, e'⟩, _⟩, _⟩ := S.lists _ l' e
        have := hsz _ (Nat.le_refl _)
        rw [hkeep _ _ e'] at this; cases this
    refine ⟨h₁.objs.size, s.gens.size, _, [s.heap.objs.size], rfl, hgen _ _, Array.getElem?_push_size .., ⟨.func body (envOf "_iter_escaped_chars" sc s.heap.objs.size fa cd), _, [], .inl ⟨rfl, rfl, rfl⟩, ?_⟩, hagen, Nat.ne_of_gt (Nat.lt_trans hL hlt), ?_, ?_⟩
    · exact ge_start (r := r) B hdef (hA.le (by omega : r + 2 ≤ r + 3)).in1 ha ⟨_, hns'.keeps fun b o e => Heap.get?_push_of_some _ e, t, by simp⟩ hC1
    · intro hin
      exact absurd (List.mem_singleton.mp hin) (Nat.ne_of_gt hlt)
    · intro b hb
      obtain rfl := List.mem_singleton.mp hb
      refine ⟨hC2, Nat.ne_of_gt hL, ?_, hC1, fun o e => by rw [hC0] at e; cases e⟩
      obtain ⟨o, es, ep, ho, _⟩ := hns'
      exact ⟨o, Heap.get?_push_of_some _ ho⟩
end
end

/-! T2 -/
noncomputable def pvs (ls : List (List Nat)) : List PV := ls.map fun l => PV.str (mk l)

theorem METH_join {R : Rn} {r : Nat} {σ : Sto} {l : Addr} {ls : List (List Nat)} {Q : PV → Sto → Prop} (hl : σ l = some (pvs ls)) (hz : ls.flatten.length < 1000000) (hz2 : ls.length < 1000000) (h : Q (.str (mk ls.flatten)) σ) :
    METH R r "str.join" (.str (mk [])) [.ref l] σ Q := fun va vals ha hv A hA s S => by
  obtain ⟨t, rfl⟩ := pv_str ha
  obtain ⟨v, rfl, hb⟩ := one_of hv
  rw [pv_ref hb]
  obtain ⟨vs, hp, hvs⟩ := S.list hl
  -- the values are strs
  have key : ∀ (vs : List Value) (ls : List (List Nat)), vs.map pv = pvs ls → ∃ l2 : List (Str × Tok), vs = strValues l2 ∧ l2.map (·.1) = ls.map mk := by
    intro vs
    induction vs with
    | nil => intro ls h; cases ls with
      | nil => exact ⟨[], rfl, rfl⟩
      | cons => cases h
    | cons v vs ih => intro ls h; cases ls with
      | nil => cases h
      | cons x ls =>
        simp only [List.map_cons, pvs, List.cons.injEq] at h
        obtain ⟨u, rfl⟩ := pv_str h.1
        obtain ⟨l2, rfl, e⟩ := ih ls h.2
        exact ⟨(mk x, u) :: l2, rfl, by simp [e]⟩
  obtain ⟨l2, rfl, e⟩ := key vs ls hvs
  have hgl : Builtin.Str.glued (mk []) (l2.map (·.1)) = mk ls.flatten := by
    rw [e]
    have fold : ∀ (ls : List (List Nat)) (acc : List Nat), (ls.map mk).foldl (fun (acc : Array Nat) (p : Str) => acc ++ (mk []).cps ++ p.cps) acc.toArray = (acc ++ ls.flatten).toArray := by
      intro ls
      induction ls with
      | nil => intro acc; simp
      | cons x ls ih =>
        intro acc
        rw [List.map_cons, List.foldl_cons]
        have : (acc.toArray ++ (mk []).cps ++ (mk x).cps) = (acc ++ x).toArray := by simp
        rw [this, ih]
        simp
    unfold Builtin.Str.glued
    cases ls with
    | nil => rfl
    | cons x ls =>
      have := fold ls x
      simp only [List.map_cons, List.drop_succ_cons, List.drop_zero, List.headD_cons, List.flatten_cons]
      rw [this]
  have hsum : ∀ (ls : List (List Nat)) (n : Nat), (ls.map mk).foldl (fun (a : Nat) (p : Str) => a + p.length + (mk []).length) n = n + ls.flatten.length := by
    intro ls
    induction ls with
    | nil => intro n; simp
    | cons x ls ih =>
      intro n
      rw [List.map_cons, List.foldl_cons, ih, mk_len, mk_len]
      simp
      omega
  refine call_meets F.slot_str_join (typeIs_str _ _ _) F.entry_str_join (F.args_str_join_2 _ _) (meets_str_join_list (mk []) t l l2 ?_) ⟨hp.isList, ?_⟩
  · rw [e]
    have := hsum ls 0
    rw [← List.foldl_toArray] at this
    rw [this]
    simp only [Builtin.Str.tooLong, decide_eq_false_iff_not, Nat.not_lt]
    show _ ≤ 2 ^ 24
    omega
  · unfold joinMade
    split
    · rename_i p
      have : p.1 = mk ls.flatten := by
        have q := hgl
        exact Str.ext' (by simpa [Builtin.Str.glued] using q)
      show Post R σ s pv Q (.str p.1 p.2) s
      rw [this]
      exact Post.now S h
    · rw [hgl]
      refine ⟨?_, Post.same S _ h⟩
      rw [mk_len]; show _ ≤ 2 ^ 24; omega

noncomputable def fmtab : List (List (Int × Nat)) := [[(40960, 108), (49152, 115), (32768, 45), (24576, 98), (16384, 100), (8192, 99), (4096, 112)], [(256, 114)], [(128, 119)], [(2112, 115), (2048, 83), (64, 120)],
  [(32, 114)], [(16, 119)], [(1032, 115), (1024, 83), (8, 120)], [(4, 114)], [(2, 119)], [(513, 116), (512, 84), (1, 120)]]
noncomputable def hits (idx : Nat) (mode : Int) (p : Int × Nat) : Bool := if idx = 0 then decide (Builtin.bitAnd mode 61440 = p.1) else decide (Builtin.bitAnd mode p.1 = p.1)
noncomputable def sgn (mode : Int) (idx : Nat) (row : List (Int × Nat)) : Nat := match row.find? (hits idx mode) with
  | some p => p.2
  | none => if idx = 0 then 63 else 45
noncomputable def fm (mode : Int) : List Nat := fmtab.mapIdx (sgn mode)

structure Tab (R : Rn) : Prop where
  tab : ∃ t, R.mg "_filemode_table" = some (.ref t) ∧ TabAt R.h₀ t fmtab

theorem flat1 : ∀ l : List Nat, (l.map fun c => [c]).flatten = l
  | [] => rfl
  | c :: l => by simp [flat1 l]
theorem sifmt_ok {R : Rn} {r : Nat} {σ : Sto} {m : Int} {Q : PV → Sto → Prop} (B : Base R) (h : Q (.int (Builtin.bitAnd m 61440)) σ) : CF R (r + 1) "S_IFMT" [.int m] σ Q := by
  refine CF_of B rfl (fun pm cd doc vals hv => ?_) rfl rfl rfl rfl rfl (fun L a cd => ?_)
  · obtain ⟨_, rfl⟩ := len1 hv
    rfl
  walk_at "walk"
  exact h

theorem filemode_ok {R : Rn} {r : Nat} {σ : Sto} {m : Int} {Q : PV → Sto → Prop} (B : Base R) (T : Tab R)
    (h : ∀ a ps, σ a = none → Q (.str (mk (fm m))) (σ.put a ps)) : CF R (r + 2) "filemode" [.int m] σ Q := by
  refine CF_of B rfl (fun pm cd doc vals hv => ?_) rfl rfl rfl rfl rfl (fun L a cd => ?_)
  · obtain ⟨_, rfl⟩ := len1 hv
    rfl
  obtain ⟨t, ht, as, hta, hlen, hrow⟩ := T.tab
  walk_at "walk"
  refine EV_List ?_
  walk_at "walk"
  refine ⟨by decide, fun b hb => ?_⟩
  walk_at "walk"
  refine EX_For2 rfl rfl rfl (fun _ => rfl) (ITR2_enumTab B rfl rfl rfl rfl rfl rfl ht hta (by rw [hlen]; decide) ?_)
  have hfl : (fm m).length = 10 := by simp [fm, fmtab]
  have fin : ∀ (k : Nat) (row : List (Int × Nat)) (c : Nat), fmtab[k]? = some row → c = sgn m k row → pvs (((fm m).take k).map fun c => [c]) ++ [PV.str (mk [c])] = pvs (((fm m).take (k + 1)).map fun c => [c]) := by
    rintro k row c hk rfl
    have : (fm m)[k]? = some (sgn m k row) := by rw [fm, List.getElem?_mapIdx, hk]; rfl
    rw [List.take_add_one, this]
    simp [pvs]
  refine forQ2_ind (D := Nat) (fun k => Loc.of [("mode", .int m), ("perm", .ref b)]) (fun k => σ.put b (pvs (((fm m).take k).map fun c => [c])))
    (fun rest k => rest = (as.mapIdx fun i a => (PV.int i, PV.ref a)).drop k ∧ k ≤ 10) ?_ ?_ _ 0 ⟨rfl, by decide⟩ (by walk_at "le") rfl
  · rintro p ps k ⟨e, hk⟩
    have hlt : k < as.length := by
      apply Nat.lt_of_not_le
      intro hge
      rw [List.drop_eq_nil_of_le (by simpa using hge)] at e
      cases e
    have hak : as[k]? = some as[k] := List.getElem?_eq_getElem hlt
    obtain ⟨row, hr⟩ : ∃ row, fmtab[k]? = some row := ⟨_, List.getElem?_eq_getElem (by omega)⟩
    have hro := hrow k _ _ hak hr
    rw [List.drop_eq_getElem_cons (by simpa using hlt)] at e
    simp only [List.cons.injEq, List.getElem_mapIdx] at e
    obtain ⟨rfl, rfl⟩ := e
    have hk10 : k < 10 := by rw [hlen] at hlt; exact hlt
    have step : ∀ c, c = sgn m k row → ∀ (ρ' : Loc) , Le (Loc.of [("mode", .int m), ("perm", .ref b)]) ρ' → ∃ d' : Nat, ((as.mapIdx fun i a => (PV.int i, PV.ref a)).drop (k + 1) = (as.mapIdx fun i a => (PV.int i, PV.ref a)).drop d' ∧ d' ≤ 10) ∧ Le (Loc.of [("mode", .int m), ("perm", .ref b)]) ρ' ∧
        (σ.put b (pvs (((fm m).take k).map fun c => [c]))).put b (pvs (((fm m).take k).map fun c => [c]) ++ [PV.str (mk [c])]) = σ.put b (pvs (((fm m).take d').map fun c => [c])) := by
      intro c hc ρ' hle
      exact ⟨k + 1, ⟨rfl, by omega⟩, hle, by rw [Sto.put_put, fin k row c hr hc]⟩
    walk_at "walk"
    refine EX_For2 rfl rfl rfl (fun _ => rfl) (ITR2_row rfl rfl rfl rfl hro ?_)
    refine forQ2_ind (D := List (Int × Nat)) (fun _ => Loc.of [("mode", .int m), ("perm", .ref b), ("index", .int k)]) (fun _ => σ.put b (pvs (((fm m).take k).map fun c => [c])))
      (fun rest qs => rest = qs.map (fun p => (PV.int p.1, PV.str (mk [p.2]))) ∧ row.find? (hits k m) = qs.find? (hits k m)) ?_ ?_ _ row ⟨rfl, rfl⟩ (by walk_at "le") rfl
    · rintro p ps qs ⟨e, hf⟩
      cases qs with
      | nil => cases e
      | cons q qs =>
        simp only [List.map_cons, List.cons.injEq] at e
        obtain ⟨rfl, rfl⟩ := e
        have hit : hits k m q = true → sgn m k row = q.2 := fun hq => by unfold sgn; rw [hf, List.find?_cons_of_pos hq]
        have miss : ¬ hits k m q = true → row.find? (hits k m) = qs.find? (hits k m) := fun hq => by rw [hf, List.find?_cons_of_neg hq]
        walk_at "walk"
        refine dC (fun h0 => ?_) fun h0 => ?_
        · have k0 : k = 0 := by omega
          walk_at "walk"
          refine sifmt_ok B ?_
          walk_at "walk"
          refine dC (fun hc => ?_) fun hc => ?_
          · walk_at "walk"
            refine ⟨b, _, rfl, Sto.put_self .., ?_⟩
            walk_at "walk"
            refine METH_append (Sto.put_self ..) (by simp [pvs]; show _ ≤ 2 ^ 24; omega) ?_
            walk_at "walk"
            exact step q.2 (hit (by simp [hits, k0, hc])).symm _ (by walk_at "le")
          · walk_at "walk"
            exact ⟨qs, ⟨rfl, miss (by simp [hits, k0, hc])⟩, by walk_at "le", rfl⟩
        · have k0 : ¬ k = 0 := by omega
          walk_at "walk"
          refine dC (fun hc => ?_) fun hc => ?_
          · walk_at "walk"
            refine ⟨b, _, rfl, Sto.put_self .., ?_⟩
            walk_at "walk"
            refine METH_append (Sto.put_self ..) (by simp [pvs]; show _ ≤ 2 ^ 24; omega) ?_
            walk_at "walk"
            exact step q.2 (hit (by simp [hits, k0, hc])).symm _ (by walk_at "le")
          · walk_at "walk"
            exact ⟨qs, ⟨rfl, miss (by simp [hits, k0, hc])⟩, by walk_at "le", rfl⟩
    · rintro qs ⟨e, hf⟩
      cases qs with
      | cons => cases e
      | nil =>
        have hs : sgn m k row = if k = 0 then 63 else 45 := by unfold sgn; rw [hf]; rfl
        walk_at "walk"
        refine dC (fun h0 => ?_) fun h0 => ?_
        · have k0 : k = 0 := by omega
          walk_at "walk"
          refine ⟨b, _, rfl, Sto.put_self .., ?_⟩
          walk_at "walk"
          refine METH_append (Sto.put_self ..) (by simp [pvs]; show _ ≤ 2 ^ 24; omega) ?_
          walk_at "walk"
          exact step 63 (by rw [hs, if_pos k0]) _ (by walk_at "le")
        · have k0 : ¬ k = 0 := by omega
          walk_at "walk"
          refine ⟨b, _, rfl, Sto.put_self .., ?_⟩
          walk_at "walk"
          refine METH_append (Sto.put_self ..) (by simp [pvs]; show _ ≤ 2 ^ 24; omega) ?_
          walk_at "walk"
          exact step 45 (by rw [hs, if_neg k0]) _ (by walk_at "le")
  · rintro k ⟨e, hk⟩
    have hk10 : (fm m).take k = fm m := by
      apply List.take_of_length_le
      apply Nat.le_of_not_lt
      intro hlt
      have : k < as.length := by rw [hlen]; rw [hfl] at hlt; exact hlt
      rw [List.drop_eq_getElem_cons (by simpa using this)] at e
      cases e
    walk_at "walk"
    have hj : ((fm m).map fun c => [c]).flatten = fm m := flat1 _
    rw [hk10]
    refine METH_join (Sto.put_self ..) (by rw [hj, hfl]; decide) (by rw [List.length_map, hfl]; decide) ?_
    rw [hj]
    walk_at "walk"
    exact h b _ hb

/-! T3 -/
noncomputable def Sub (σ₁ σ₂ : Sto) : Prop := ∀ a l, σ₁ a = some l → σ₂ a = some l
theorem Sub.refl {σ : Sto} : Sub σ σ := fun _ _ h => h
theorem Sub.fresh {σ : Sto} {a : Addr} {l : List PV} (h : σ a = none) : Sub σ (σ.put a l) := fun b m e => by
  by_cases hb : b = a
  · subst hb; rw [h] at e; cases e
  · rw [Sto.put_ne _ _ hb]; exact e
theorem Sub.trans {σ₁ σ₂ σ₃ : Sto} (h : Sub σ₁ σ₂) (k : Sub σ₂ σ₃) : Sub σ₁ σ₃ := fun a l e => k a l (h a l e)
theorem Sub.put {σ₁ σ₂ : Sto} (h : Sub σ₁ σ₂) (a : Addr) (l : List PV) : Sub (σ₁.put a l) (σ₂.put a l) := fun b m e => by
  by_cases hb : b = a
  · subst hb; rw [Sto.put_self] at e ⊢; exact e
  · rw [Sto.put_ne _ _ hb] at e ⊢; exact h b m e
theorem St.sub {R : Rn} {σ σ' : Sto} {s : Shared} (S : St R σ s) (h : Sub σ' σ) : St R σ' s := ⟨S.keep, fun a l e => S.lists a l (h a l e), S.os, S.bare⟩
theorem Go.sub {σ σ₁ σ₂ : Sto} {s s' : Shared} (g : Go σ σ₁ s s') (h : Sub σ₂ σ₁) : Go σ σ₂ s s' := fun b o e q => ⟨(g b o e q).1, by
  cases hb : σ₂ b with
  | none => rfl
  | some l => have := h b l hb; rw [(g b o e q).2] at this; cases this⟩
theorem CF_weak {R : Rn} {r : Nat} {f : Str} {args : List PV} {σ : Sto} {Q : PV → Sto → Prop} (h : CF R r f args σ fun p σ' => ∃ σ'', Sub σ'' σ' ∧ Q p σ'') : CF R r f args σ Q := fun fa hf vals hv A hA s S =>
  wpAny_mono (h fa hf vals hv A hA s S) (fun _ _ ⟨σ', S', g', σ'', hs, q⟩ => ⟨σ'', S'.sub hs, g'.sub hs, q⟩) fun _ _ x => x

theorem filemode_ok' {R : Rn} {r : Nat} {σ : Sto} {m : Int} {Q : PV → Sto → Prop} (B : Base R) (T : Tab R) (h : Q (.str (mk (fm m))) σ) : CF R (r + 2) "filemode" [.int m] σ Q :=
  CF_weak (filemode_ok B T fun a ps ha => ⟨σ, Sub.fresh ha, h⟩)
theorem lawmode_ok' {R : Rn} {r : Nat} {σ : Sto} {n : Int} {Q : PV → Sto → Prop} (B : Base R) (h : Q (.int (lmode n)) σ) : CF R (r + 1) "_law_mode" [.int n] σ Q :=
  CF_weak (lawmode_ok B fun a ha => ⟨σ, Sub.fresh ha, h⟩)

noncomputable def esc (m : Int) : Nat := [40, 41, 34, 92].getD (m.fmod 4).toNat 0
noncomputable def single (m : Int) : List Nat := [40] ++ fm m ++ [92] ++ [esc m] ++ [41]
theorem fm_len (m : Int) : (fm m).length = 10 := by simp [fm, fmtab]
theorem single_len (m : Int) : (single m).length = 14 := by simp [single, fm_len]

theorem lawsingle_ok {R : Rn} {r : Nat} {σ : Sto} {m : Int} {Q : PV → Sto → Prop} (B : Base R) (T : Tab R) (h : Q (.str (mk (single m))) σ) : CF R (r + 3) "_law_single" [.int m] σ Q := by
  refine CF_of B rfl (fun pm cd doc vals hv => ?_) rfl rfl rfl rfl rfl (fun L a cd => ?_)
  · obtain ⟨_, rfl⟩ := len1 hv
    rfl
  have h4 : 0 ≤ m.fmod 4 ∧ m.fmod 4 < 4 := fmod_range m 4 (by decide)
  walk_at "walk"
  refine filemode_ok' B T ?_
  refine BIN_catL (by simp [fm_len]) ?_
  walk_at "walk"
  refine BIN_catL (by simp [fm_len]) ?_
  walk_at "walk"
  refine SUB_strL h4.1 (by simpa using h4.2) (by simp) (fun _ _ => rfl) ?_
  refine BIN_catL (by simp [fm_len]) ?_
  walk_at "walk"
  refine BIN_catL (by simp [fm_len]) ?_
  walk_at "walk"
  exact h

/-- the text of two texts -/
noncomputable def joined (one other : List Nat) : List Nat :=
  if one = [] ∨ other = [] then one ++ other
  else if rd ((other.drop 1).take 10) < rd ((one.drop 1).take 10) then other.take 13 ++ one ++ other.drop 13 else one.take 13 ++ other ++ one.drop 13

theorem lawjoined_ok {R : Rn} {r : Nat} {σ : Sto} {one other : List Nat} {Q : PV → Sto → Prop} (B : Base R) (h1 : one = [] ∨ 14 ≤ one.length) (h2 : other = [] ∨ 14 ≤ other.length) (hz1 : one.length < 10000) (hz2 : other.length < 10000)
    (h : Q (.str (mk (joined one other))) σ) : CF R (r + 2) "_law_joined" [.str (mk one), .str (mk other)] σ Q := by
  refine CF_of B rfl (fun pm cd doc vals hv => ?_) rfl rfl rfl rfl rfl (fun L a cd => ?_)
  · obtain ⟨_, _, rfl⟩ := len2 hv
    rfl
  walk_at "walk"
  have e2 : ∀ (h : one = [] ∨ other = []), joined one other = one ++ other := fun h => if_pos h
  refine dC (fun c1 => ?_) fun c1 => ?_
  · walk_at "walk"
    refine BIN_catL (by omega) ?_
    walk_at "walk"
    rw [← e2 (.inl c1)]; exact h
  · walk_at "walk"
    refine dC (fun c2 => ?_) fun c2 => ?_
    · walk_at "walk"
      refine BIN_catL (by omega) ?_
      walk_at "walk"
      rw [← e2 (.inr c2)]; exact h
    · have l1 : 14 ≤ one.length := h1.resolve_left c1
      have l2 : 14 ≤ other.length := h2.resolve_left c2
      have ej : joined one other = if rd ((other.drop 1).take 10) < rd ((one.drop 1).take 10) then other.take 13 ++ one ++ other.drop 13 else one.take 13 ++ other ++ one.drop 13 :=
        if_neg (by rintro (q | q); exact c1 q; exact c2 q)
      walk_at "walk"
      refine SLI_ss (by omega) (by decide) (by decide) (by omega) ?_
      walk_at "walk"
      refine lawread_ok B (by simp; omega) ?_
      walk_at "walk"
      refine SLI_ss (by omega) (by decide) (by decide) (by omega) ?_
      walk_at "walk"
      refine lawread_ok B (by simp; omega) ?_
      walk_at "walk"
      refine dC (fun c3 => ?_) fun c3 => ?_
      · have c3' : rd ((other.drop 1).take 10) < rd ((one.drop 1).take 10) := c3
        rw [if_pos c3'] at ej
        walk_at "walk"
        refine SLI_ns (by omega) (by decide) (by omega) ?_
        walk_at "walk"
        refine BIN_catL (by simp; omega) ?_
        walk_at "walk"
        refine SLI_sn (by omega) (by decide) (by omega) ?_
        refine BIN_catL (by simp; omega) ?_
        walk_at "walk"
        rw [ej] at h; exact h
      · have c3' : ¬ rd ((other.drop 1).take 10) < rd ((one.drop 1).take 10) := c3
        rw [if_neg c3'] at ej
        walk_at "walk"
        refine SLI_ns (by omega) (by decide) (by omega) ?_
        walk_at "walk"
        refine BIN_catL (by simp; omega) ?_
        walk_at "walk"
        refine SLI_sn (by omega) (by decide) (by omega) ?_
        refine BIN_catL (by simp; omega) ?_
        walk_at "walk"
        rw [ej] at h; exact h

/-! T4 -/
section
variable {R : Rn} {r : Nat} {env : Env} {ρ : Loc} {σ : Sto}
theorem INP_sub {x y : Int} {Q : PV → Sto → Prop} (h : Q (.int (x - y)) σ) : INP R r .Sub (.int x) (.int y) σ Q := fun va vb ha hb A hA s S => by
  obtain ⟨t, rfl⟩ := pv_int ha; obtain ⟨u, rfl⟩ := pv_int hb; exact PyProof.Rows.isub_int (Post.same S _ h)
theorem CMP_notinL {l : List Nat} {c : Nat} {Q : PV → Sto → Prop} (h : Q (.bool (!decide (c ∈ l))) σ) : CMP R r .NotIn (.str (mk [c])) (.str (mk l)) σ Q := CMP_notin (by rw [contains_mk]; exact h)

theorem forQG_ind {D : Type} {x y : Str} {body orelse : List Stmt} {Q : FL → Loc → Sto → Prop} (loc : D → Loc) (sto : D → Sto) (P : List Item → D → Prop)
    (turn : ∀ p ps d, P (p :: ps) d → ∀ G, EXS { R with G := G } r env body (((loc d).put x (.int p.1)).put y (.str (mk p.2))) (sto d) (loopQ Q fun ρ' σ' => ∃ d', P ps d' ∧ Le (loc d') ρ' ∧ σ' = sto d'))
    (done : ∀ d, P [] d → EXS R r env orelse (loc d) (sto d) Q) :
    ∀ (items : List Item) (d : D) {ρ : Loc} {σ : Sto}, P items d → Le (loc d) ρ → σ = sto d → forQG R r env x y body orelse Q items ρ σ
  | [], d, ρ, σ, hP, hle, hσ => by subst hσ; exact EXS_le hle (done d hP)
  | p :: ps, d, ρ, σ, hP, hle, hσ => by
    subst hσ
    refine fun G => EXS_le ((hle.put x _).put y _) (EXS.mono (turn p ps d hP G) fun f ρ' σ' h' => ?_)
    cases f with
    | next => obtain ⟨d', p', l', e'⟩ := h'; exact forQG_ind loc sto P turn done ps d' p' l' e'
    | cont => obtain ⟨d', p', l', e'⟩ := h'; exact forQG_ind loc sto P turn done ps d' p' l' e'
    | brk => exact h'
    | ret v => exact h'
end

/-- no bare quote -/
noncomputable def NoQ (l : List Nat) : Prop := ∀ p ∈ ec 0 false l, p.2 ≠ [34]

theorem strip_ok {R : Rn} {r : Nat} {σ : Sto} {l : List Nat} {Q : PV → Sto → Prop} (B : Base R) (hG : R.G = AllBare) (ha : ∀ c ∈ l, c < 128) (hq : NoQ l) (hz : l.length < 10000)
    (h : Q (.str (mk l)) σ) : CF R (r + 4) "_strip_quoted_realnames" [.str (mk l)] σ Q := by
  refine CF_weak (CF_of B rfl (fun pm cd doc vals hv => ?_) rfl rfl rfl rfl rfl (fun L a cd => ?_))
  · obtain ⟨_, rfl⟩ := len1 hv
    rfl
  walk_at "walk"
  refine CMP_notinL ?_
  walk_at "walk"
  refine ndC (fun c1 => ?_) fun c1 => ?_
  · walk_at "walk"
    exact ⟨σ, Sub.refl, h⟩
  · walk_at "walk"
    refine EV_List ?_
    walk_at "walk"
    refine ⟨by show 0 ≤ sizeLine; decide, fun b hb => ?_⟩
    walk_at "walk"
    refine EX_ForG B hG rfl rfl rfl (fun _ => rfl) (ITRG_iter B hG rfl rfl rfl rfl rfl rfl ha ?_)
    refine forQG_ind (D := Unit) (fun _ => Loc.of [("addr", .str (mk l)), ("start", .int 0), ("result", .ref b)]) (fun _ => σ.put b []) (fun ps _ => ∀ p ∈ ps, p.2 ≠ [34]) ?_ ?_ _ () hq (by walk_at "le") rfl
    · intro p ps _ hp G
      have hp1 : ¬ p.2 = [34] := hp p (List.mem_cons_self ..)
      walk_at "walk"
      exact ⟨(), fun q hq => hp q (List.mem_cons_of_mem _ hq), by walk_at "le", rfl⟩
    · intro _ _
      walk_at "walk"
      have hl : 0 < (l.length : Int) := by
        cases l with
        | nil => simp at c1
        | cons x xs => simp
      refine CL_lens (by rw [mk_len]; omega) ?_
      rw [mk_len]
      walk_at "walk"
      refine ⟨b, _, rfl, Sto.put_self .., ?_⟩
      walk_at "walk"
      refine SLI_sn (by omega) (by decide) (by omega) ?_
      refine METH_append (Sto.put_self ..) (by show _ ≤ 2 ^ 24; simp) ?_
      rw [Sto.put_put]
      walk_at "walk"
      refine METH_join (ls := [l]) (Sto.put_self ..) (by simp; omega) (by simp) ?_
      walk_at "walk"
      refine ⟨σ, Sub.fresh hb, ?_⟩
      have e : [l].flatten = l := by simp
      rw [e]; exact h

/-- the count of open brackets -/
noncomputable def ck : Int → List Item → Bool
  | o, [] => decide (o = 0)
  | o, p :: ps => if p.2 = [40] then ck (o + 1) ps else if p.2 = [41] then (if o - 1 < 0 then false else ck (o - 1) ps) else ck o ps

theorem checkpar_ok {R : Rn} {r : Nat} {σ : Sto} {l : List Nat} {Q : PV → Sto → Prop} (B : Base R) (hG : R.G = AllBare) (ha : ∀ c ∈ l, c < 128) (hq : NoQ l) (hz : l.length < 10000)
    (h : Q (.bool (ck 0 (ec 0 false l))) σ) : CF R (r + 5) "_check_parenthesis" [.str (mk l)] σ Q := by
  refine CF_of B rfl (fun pm cd doc vals hv => ?_) rfl rfl rfl rfl rfl (fun L a cd => ?_)
  · obtain ⟨_, rfl⟩ := len1 hv
    rfl
  walk_at "walk"
  refine strip_ok B hG ha hq hz ?_
  walk_at "walk"
  refine EX_ForG B hG rfl rfl rfl (fun _ => rfl) (ITRG_iter B hG rfl rfl rfl rfl rfl rfl ha ?_)
  refine forQG_ind (D := Int) (fun o => Loc.of [("addr", .str (mk l)), ("opens", .int o)]) (fun _ => σ) (fun ps o => ck 0 (ec 0 false l) = ck o ps) ?_ ?_ _ 0 rfl (by walk_at "le") rfl
  · intro p ps o hp G
    rw [ck] at hp
    walk_at "walk"
    refine dC (fun c1 => ?_) fun c1 => ?_
    · walk_at "walk"
      rw [if_pos c1] at hp
      exact ⟨o + 1, hp, by walk_at "le", rfl⟩
    · walk_at "walk"
      rw [if_neg c1] at hp
      refine dC (fun c2 => ?_) fun c2 => ?_
      · rw [if_pos c2] at hp
        walk_at "walk"
        refine INP_sub ?_
        walk_at "walk"
        refine dC (fun c3 => ?_) fun c3 => ?_
        · rw [if_pos c3] at hp
          walk_at "walk"
          rw [hp] at h; exact h
        · rw [if_neg c3] at hp
          walk_at "walk"
          exact ⟨o - 1, hp, by walk_at "le", rfl⟩
      · rw [if_neg c2] at hp
        walk_at "walk"
        exact ⟨o, hp, by walk_at "le", rfl⟩
  · intro o ho
    walk_at "walk"
    rw [ho] at h; exact h

/-! L1 -/
/-- forests -/
inductive Fo where
  | nil
  | cons (m : Int) (kids rest : Fo)

noncomputable def hd13 (m : Int) : List Nat := [40] ++ fm m ++ [92] ++ [esc m]
noncomputable def enc : Fo → List Nat
  | .nil => []
  | .cons m k r => hd13 m ++ enc k ++ [41] ++ enc r
noncomputable def tree1 (m : Int) (k : Fo) : List Nat := hd13 m ++ enc k ++ [41]
noncomputable def trees : Fo → List (List Nat)
  | .nil => []
  | .cons m k r => tree1 m k :: trees r
theorem enc_cons (m : Int) (k r : Fo) : enc (.cons m k r) = tree1 m k ++ enc r := rfl
theorem hd13_len (m : Int) : (hd13 m).length = 13 := by simp [hd13, fm_len]

noncomputable def ckr : Int → Bool → List Nat → Bool
  | o, _, [] => decide (o = 0)
  | o, true, _ :: cs => ckr o false cs
  | o, false, c :: cs => if c = 92 then ckr o true cs else if c = 40 then ckr (o + 1) false cs else if c = 41 then (if o - 1 < 0 then false else ckr (o - 1) false cs) else ckr o false cs

theorem ck_ec : ∀ (l : List Nat) (i : Nat) (e : Bool) (o : Int), ck o (ec i e l) = ckr o e l
  | [], i, true, o => by simp [ec, ck, ckr]
  | [], i, false, o => by simp [ec, ck, ckr]
  | c :: cs, i, true, o => by simp [ec, ck, ckr, ck_ec cs]
  | c :: cs, i, false, o => by
    by_cases h : c = 92
    · subst h; simp [ec, ckr, ck_ec cs]
    · simp [ec, ck, ckr, h, ck_ec cs]

/-- plain signs -/
noncomputable def plainS (c : Nat) : Bool := c != 92 && c != 40 && c != 41 && c != 34 && decide (c < 128)

theorem ckr_plain {xs : List Nat} (hx : ∀ c ∈ xs, plainS c = true) (o : Int) (t : List Nat) : ckr o false (xs ++ t) = ckr o false t := by
  induction xs with
  | nil => rfl
  | cons x xs ih =>
    have h1 := hx x (List.mem_cons_self ..)
    simp only [plainS, Bool.and_eq_true, bne_iff_ne, decide_eq_true_eq] at h1
    rw [List.cons_append, ckr, if_neg h1.1.1.1.1, if_neg h1.1.1.1.2, if_neg h1.1.1.2]
    exact ih fun c hc => hx c (List.mem_cons_of_mem _ hc)

theorem ckr_plain_nil {xs : List Nat} (hx : ∀ c ∈ xs, plainS c = true) (o : Int) : ckr o false xs = decide (o = 0) := by
  have := ckr_plain hx o []
  rw [List.append_nil] at this
  rw [this, ckr]

theorem tab_plain : ∀ row ∈ fmtab, ∀ p ∈ row, plainS p.2 = true := by decide
theorem fm_plain (m : Int) : ∀ c ∈ fm m, plainS c = true := by
  intro c hc
  obtain ⟨i, h, rfl⟩ := List.mem_mapIdx.mp hc
  unfold sgn
  split
  · rename_i p hp
    exact tab_plain _ (List.getElem_mem h) p (List.mem_of_find?_eq_some hp)
  · split <;> decide

theorem esc_mem (m : Int) : esc m ∈ [40, 41, 34, 92] := by
  unfold esc
  obtain ⟨h0, h4⟩ : 0 ≤ m.fmod 4 ∧ m.fmod 4 < 4 := fmod_range m 4 (by decide)
  have : (m.fmod 4).toNat < 4 := by omega
  generalize (m.fmod 4).toNat = k at this
  match k, this with
  | 0, _ => decide
  | 1, _ => decide
  | 2, _ => decide
  | 3, _ => decide

/-- a head -/
theorem ckr_hd (m o : Int) (t : List Nat) : ckr o false (hd13 m ++ t) = ckr (o + 1) false t := by
  have e : hd13 m ++ t = 40 :: (fm m ++ (92 :: esc m :: t)) := by simp [hd13]
  rw [e, ckr, if_neg (by decide), if_pos rfl, ckr_plain (fm_plain m), ckr, if_pos rfl, ckr]

theorem take_plain {xs : List Nat} (hx : ∀ c ∈ xs, plainS c = true) (n : Nat) : ∀ c ∈ xs.take n, plainS c = true := fun c hc => hx c (List.mem_of_mem_take hc)

theorem ckr_hd_take (m o : Int) (t : List Nat) (n : Nat) (ho : 0 ≤ o) (h1 : 0 < n) (h : n < 13 ∨ ckr (o + 1) false (t.take (n - 13)) = false) : ckr o false ((hd13 m ++ t).take n) = false := by
  by_cases hn : n < 13
  · have e : hd13 m ++ t = 40 :: (fm m ++ (92 :: esc m :: t)) := by simp [hd13]
    obtain ⟨j, rfl⟩ : ∃ j, n = j + 1 := ⟨n - 1, by omega⟩
    rw [e, List.take_succ_cons, ckr, if_neg (by decide), if_pos rfl, List.take_append, fm_len]
    have h0 : decide (o + 1 = 0) = false := by simp; omega
    rcases (by omega : j ≤ 10 ∨ j = 11) with h' | h'
    · rw [show j - 10 = 0 by omega, List.take_zero, List.append_nil, ckr_plain_nil (take_plain (fm_plain m) j), h0]
    · subst h'
      rw [ckr_plain (take_plain (fm_plain m) _)]
      show ckr (o + 1) false [92] = false
      rw [ckr, if_pos rfl, ckr, h0]
  · rw [List.take_append, hd13_len, List.take_of_length_le (by rw [hd13_len]; omega), ckr_hd]
    exact h.resolve_left hn

theorem ckr_enc : ∀ (F : Fo) (o : Int) (t : List Nat), 0 ≤ o → ckr o false (enc F ++ t) = ckr o false t
  | .nil, o, t, ho => rfl
  | .cons m k r, o, t, ho => by
    rw [enc, List.append_assoc, List.append_assoc, List.append_assoc, ckr_hd, ckr_enc k _ _ (by omega)]
    show ckr (o + 1) false (41 :: (enc r ++ t)) = _
    rw [ckr, if_neg (by decide), if_neg (by decide), if_pos rfl, if_neg (by omega), Int.add_sub_cancel]
    exact ckr_enc r o t ho

theorem ckr_take : ∀ (F : Fo) (o : Int) (n : Nat), 1 ≤ o → ckr o false ((enc F).take n) = false
  | .nil, o, n, ho => by
    show ckr o false ([].take n) = false
    rw [List.take_nil, ckr]; simp; omega
  | .cons m k r, o, n, ho => by
    rcases Nat.eq_zero_or_pos n with h0 | h0
    · subst h0; rw [List.take_zero, ckr]; simp; omega
    rw [enc, List.append_assoc, List.append_assoc]
    refine ckr_hd_take m o _ n (by omega) h0 ?_
    refine .inr ?_
    rw [List.take_append]
    rcases Nat.lt_or_ge (enc k).length (n - 13) with h1 | h1
    · rw [List.take_of_length_le (by omega), ckr_enc k _ _ (by omega)]
      obtain ⟨j, hj⟩ : ∃ j, n - 13 - (enc k).length = j + 1 := ⟨n - 13 - (enc k).length - 1, by omega⟩
      rw [hj]
      show ckr (o + 1) false (41 :: (enc r).take j) = false
      rw [ckr, if_neg (by decide), if_neg (by decide), if_pos rfl, if_neg (by omega), Int.add_sub_cancel]
      exact ckr_take r o j ho
    · rw [show n - 13 - (enc k).length = 0 by omega, List.take_zero, List.append_nil]
      exact ckr_take k (o + 1) _ (by omega)

theorem ckr_tree_take (m : Int) (k : Fo) (n : Nat) (h0 : 0 < n) (hn : n < (tree1 m k).length) : ckr 0 false ((tree1 m k).take n) = false := by
  have hl : (tree1 m k).length = 13 + (enc k).length + 1 := by simp [tree1, hd13_len]; omega
  rw [tree1, List.append_assoc]
  refine ckr_hd_take m 0 _ n (by omega) h0 (.inr ?_)
  rw [List.take_append, show n - 13 - (enc k).length = 0 by omega, List.take_zero, List.append_nil]
  exact ckr_take k 1 _ (by omega)
theorem ckr_tree (m : Int) (k : Fo) : ckr 0 false (tree1 m k) = true := by
  have := ckr_enc (.cons m k .nil) 0 [] (by omega)
  simpa [enc, tree1, ckr] using this
theorem ckr_all (F : Fo) : ckr 0 false (enc F) = true := by
  have := ckr_enc F 0 [] (by omega)
  rw [List.append_nil] at this
  rw [this]; rfl

/-- no bare quote, sign by sign -/
noncomputable def nqr : Bool → List Nat → Bool
  | _, [] => true
  | true, _ :: cs => nqr false cs
  | false, c :: cs => c != 34 && nqr (c == 92) cs
theorem nqr_ec : ∀ (l : List Nat) (i : Nat) (e : Bool), nqr e l = true → ∀ p ∈ ec i e l, p.2 ≠ [34]
  | [], i, true, _, p, hp => by simp [ec] at hp; subst hp; simp
  | [], i, false, _, p, hp => by simp [ec] at hp
  | c :: cs, i, true, h, p, hp => by
    rw [ec] at hp
    rcases List.mem_cons.mp hp with rfl | hp
    · simp
    · exact nqr_ec cs _ _ h p hp
  | c :: cs, i, false, h, p, hp => by
    simp only [nqr, Bool.and_eq_true, bne_iff_ne] at h
    rw [ec] at hp
    by_cases hc : c = 92
    · rw [if_pos hc] at hp
      exact nqr_ec cs _ _ (by simpa [hc] using h.2) p hp
    · rw [if_neg hc] at hp
      rcases List.mem_cons.mp hp with rfl | hp
      · simp; exact h.1
      · exact nqr_ec cs _ _ (by have := h.2; rwa [show (c == 92) = false by simpa using hc] at this) p hp
theorem nqr_take : ∀ (l : List Nat) (e : Bool) (n : Nat), nqr e l = true → nqr e (l.take n) = true
  | [], e, n, _ => by rw [List.take_nil]; cases e <;> rfl
  | c :: cs, e, 0, _ => by rw [List.take_zero]; cases e <;> rfl
  | c :: cs, true, n + 1, h => nqr_take cs false n h
  | c :: cs, false, n + 1, h => by
    rw [List.take_succ_cons]
    simp only [nqr, Bool.and_eq_true] at h ⊢
    exact ⟨h.1, nqr_take cs _ n h.2⟩
theorem nqr_plain {xs : List Nat} (hx : ∀ c ∈ xs, plainS c = true) (t : List Nat) : nqr false (xs ++ t) = nqr false t := by
  induction xs with
  | nil => rfl
  | cons x xs ih =>
    have h1 := hx x (List.mem_cons_self ..)
    simp only [plainS, Bool.and_eq_true, bne_iff_ne, decide_eq_true_eq] at h1
    have h92 : (x == 92) = false := by simpa using h1.1.1.1.1
    have h34 : (x != 34) = true := by simpa using h1.1.2
    rw [List.cons_append, nqr, h92, h34, Bool.true_and]
    exact ih fun c hc => hx c (List.mem_cons_of_mem _ hc)
theorem nqr_hd (m : Int) (t : List Nat) : nqr false (hd13 m ++ t) = nqr false t := by
  have e : hd13 m ++ t = 40 :: (fm m ++ (92 :: esc m :: t)) := by simp [hd13]
  rw [e, nqr]
  show (true && nqr false _) = _
  rw [Bool.true_and, nqr_plain (fm_plain m), nqr]
  rfl
theorem nqr_enc : ∀ (F : Fo) (t : List Nat), nqr false (enc F ++ t) = nqr false t
  | .nil, t => rfl
  | .cons m k r, t => by
    rw [enc, List.append_assoc, List.append_assoc, List.append_assoc, nqr_hd, nqr_enc k]
    show nqr false (41 :: (enc r ++ t)) = _
    rw [nqr]
    show (true && nqr false _) = _
    rw [Bool.true_and, nqr_enc r]
theorem noq_take (F : Fo) (n : Nat) : NoQ ((enc F).take n) := nqr_ec _ _ _ (nqr_take _ _ _ (by have := nqr_enc F []; rw [List.append_nil] at this; rw [this]; rfl))
theorem noq_enc (F : Fo) : NoQ (enc F) := by have := noq_take F (enc F).length; rwa [List.take_length] at this

theorem enc_ascii : ∀ (F : Fo), ∀ c ∈ enc F, c < 128
  | .nil, c, hc => (nomatch hc)
  | .cons m k r, c, hc => by
    simp only [enc, hd13, List.mem_append, List.mem_singleton] at hc
    rcases hc with (((((h | h) | h) | h) | h) | h) | h
    · omega
    · have := fm_plain m c h
      simp only [plainS, Bool.and_eq_true, decide_eq_true_eq] at this
      exact this.2
    · omega
    · have := esc_mem m
      rw [← h] at this
      simp at this
      omega
    · exact enc_ascii k c h
    · omega
    · exact enc_ascii r c h

noncomputable def siz : Fo → Nat
  | .nil => 0
  | .cons _ k r => siz k + siz r + 1
theorem enc_len : ∀ F : Fo, (enc F).length = 14 * siz F
  | .nil => rfl
  | .cons m k r => by simp only [enc, List.length_append, hd13_len, enc_len k, enc_len r, List.length_singleton, siz]; omega

/-! T5 -/
theorem fnd_lt {l : List Nat} {c i j : Nat} (hj : l[j]? = some c) (hij : i ≤ j) : ∃ f : Nat, fnd l c i = f ∧ i ≤ f ∧ f ≤ j := by
  unfold fnd
  cases e : (l.drop i).findIdx? (· == c) with
  | none =>
    have h1 := List.findIdx?_eq_none_iff.mp e c
    have h2 : c ∈ l.drop i := by
      have : (l.drop i)[j - i]? = some c := by rw [List.getElem?_drop, show i + (j - i) = j by omega]; exact hj
      exact List.mem_of_getElem? this
    simpa using h1 h2
  | some k =>
    refine ⟨i + k, rfl, by omega, ?_⟩
    rcases Nat.lt_or_ge j (i + k) with h | h
    · obtain ⟨hk, hp, hn⟩ := List.findIdx?_eq_some_iff_getElem.mp e
      have := hn (j - i) (by omega)
      have h3 : (l.drop i)[j - i]? = some c := by rw [List.getElem?_drop, show i + (j - i) = j by omega]; exact hj
      obtain ⟨h4, h5⟩ := List.getElem?_eq_some_iff.mp h3
      rw [h5] at this
      simp at this
    · exact h

theorem METH_find3L {R : Rn} {r : Nat} {σ : Sto} {l : List Nat} {c : Nat} {i : Int} {Q : PV → Sto → Prop} (h0 : 0 ≤ i) (hi : i ≤ l.length) (h : Q (.int (fnd l c i.toNat)) σ) : METH R r "str.find" (.str (mk l)) [.str (mk [c]), .int i] σ Q := by
  refine METH_find3 ?_
  have := find3_mk l c i.toNat (by omega)
  rw [Int.toNat_of_nonneg h0] at this
  rw [this]; exact h

theorem tree1_last (m : Int) (k : Fo) (t : List Nat) : (tree1 m k ++ t)[(tree1 m k).length - 1]? = some 41 := by
  have hl : (tree1 m k).length = (hd13 m ++ enc k).length + 1 := by simp [tree1]; omega
  rw [hl, List.getElem?_append_left (by rw [hl]; omega)]
  simp [tree1]

theorem lawparted_ok {R : Rn} {r : Nat} {σ : Sto} {F : Fo} {Q : PV → Sto → Prop} (B : Base R) (hG : R.G = AllBare) (hz : siz F < 700)
    (h : ∀ a, σ a = none → Q (.ref a) (σ.put a (pvs (trees F)))) : CF R (r + 6) "_law_parted" [.str (mk (enc F))] σ Q := by
  refine CF_of B rfl (fun pm cd doc vals hv => ?_) rfl rfl rfl rfl rfl (fun L a cd => ?_)
  · obtain ⟨_, rfl⟩ := len1 hv
    rfl
  walk_at "walk"
  refine EV_List ?_
  walk_at "walk"
  refine ⟨by show 0 ≤ sizeLine; decide, fun b hb => ?_⟩
  walk_at "walk"
  refine EX_WhileD (D := List (List Nat) × Fo) (fun d => Loc.of [("parts", .ref b), ("text", .str (mk (enc d.2)))]) (fun d => σ.put b (pvs d.1)) (fun d => siz d.2) (fun d => d.1 ++ trees d.2 = trees F ∧ siz d.2 ≤ siz F ∧ d.1.length + siz d.2 ≤ siz F) ?_ ([], F) ⟨rfl, Nat.le_refl _, by simp⟩ (by walk_at "le") rfl
  rintro ⟨ds, G⟩ ⟨hd, hs, hs2⟩
  walk_at "walk"
  cases G with
  | nil =>
    refine ndF rfl ?_
    walk_at "walk"
    have e : ds = trees F := by simpa [trees] using hd
    subst e
    exact h b hb
  | cons m k rs =>
    have hne : ¬ enc (ds, Fo.cons m k rs).2 = [] := by
      intro z
      have := congrArg List.length z
      rw [enc_len] at this
      simp [siz] at this
    refine ndT hne ?_
    walk_at "walk"
    have htx : enc (ds, Fo.cons m k rs).2 = tree1 m k ++ enc rs := rfl
    dsimp only at hd hs hs2
    have hlen : (enc (ds, Fo.cons m k rs).2).length < 10000 := by
      rw [enc_len]
      show 14 * siz (Fo.cons m k rs) < 10000
      omega
    have hT0 : 0 < (tree1 m k).length := by simp [tree1]; omega
    generalize htt : enc (ds, Fo.cons m k rs).2 = tx at *
    have hTl : (tree1 m k).length ≤ tx.length := by rw [htx]; simp
    obtain ⟨f, hf, _, hf2⟩ := fnd_lt (i := 0) (htx ▸ tree1_last m k (enc rs)) (Nat.zero_le _)
    refine METH_findL rfl ?_
    rw [hf]
    walk_at "walk"
    refine EX_WhileD (D := Nat) (fun d => Loc.of [("parts", .ref b), ("text", .str (mk tx)), ("stop", .int d)]) (fun d => σ.put b (pvs ds)) (fun d => tx.length - d) (fun d => 0 < d ∧ d ≤ (tree1 m k).length) ?_ (f + 1) ⟨by omega, by omega⟩ (by walk_at "le") rfl
    rintro d ⟨hd0, hd1⟩
    walk_at "walk"
    have htk : tx.take d = (tree1 m k).take d := by rw [htx, List.take_append_of_le_length hd1]
    have hnq : NoQ (tx.take d) := by rw [← htt]; exact noq_take _ _
    have has : ∀ c ∈ tx.take d, c < 128 := fun c hc => enc_ascii (Fo.cons m k rs) c (by rw [← htt] at hc; exact List.mem_of_mem_take hc)
    refine TS_plain (fun _ => rfl) ?_
    walk_at "walk"
    refine SLI_ns (by omega) (by omega) (by omega) ?_
    rw [Int.toNat_natCast]
    refine ES_nil ?_
    refine checkpar_ok B hG has hnq (by rw [List.length_take]; omega) ?_
    refine TRU_bool ?_
    rw [ck_ec, htk]
    rcases Nat.lt_or_ge d (tree1 m k).length with hlt | hge
    · rw [ckr_tree_take m k d hd0 hlt]
      simp only [Bool.not_false, if_true]
      walk_at "walk"
      obtain ⟨f', hf', hf1, hf3⟩ := fnd_lt (i := d) (htx ▸ tree1_last m k (enc rs)) (by omega)
      refine METH_find3L (by omega) (by omega) ?_
      rw [Int.toNat_natCast, hf']
      walk_at "walk"
      exact ⟨f' + 1, ⟨by omega, by omega⟩, by omega, by walk_at "le", rfl⟩
    · obtain rfl : d = (tree1 m k).length := by omega
      rw [List.take_length, ckr_tree]
      simp only [Bool.not_true, Bool.false_eq_true, if_false]
      walk_at "walk"
      refine ⟨b, _, rfl, Sto.put_self .., ?_⟩
      walk_at "walk"
      refine SLI_ns (by omega) (by omega) (by omega) ?_
      have hdl : ds.length < 700 := by omega
      refine METH_append (Sto.put_self ..) (by show _ ≤ 2 ^ 24; simp [pvs]; omega) ?_
      rw [Sto.put_put]
      refine ⟨rfl, ?_⟩
      walk_at "walk"
      refine SLI_sn (by omega) (by omega) (by omega) ?_
      walk_at "walk"
      have e1 : tx.take (tree1 m k).length = tree1 m k := by rw [htx]; exact List.take_left
      have e2 : tx.drop (tree1 m k).length = enc rs := by rw [htx]; exact List.drop_left
      rw [Int.toNat_natCast, e1, e2]
      refine ⟨(ds ++ [tree1 m k], rs), ⟨by rw [← hd]; simp [trees], ?_, ?_⟩, ?_, by walk_at "le", ?_⟩
      · show siz rs ≤ siz F
        have : siz (Fo.cons m k rs) = siz k + siz rs + 1 := rfl
        omega
      · show (ds ++ [tree1 m k]).length + siz rs ≤ siz F
        have : siz (Fo.cons m k rs) = siz k + siz rs + 1 := rfl
        rw [List.length_append, List.length_singleton]; omega
      · show siz rs < siz k + siz rs + 1
        omega
      · simp [pvs]

/-! M15 -/
section
variable {R : Rn} {r : Nat} {env : Env} {ρ : Loc} {σ : Sto}

theorem BIN_addlist {a b : Addr} {ps qs : List PV} {Q : PV → Sto → Prop} (ha : σ a = some ps) (hb : σ b = some qs) (hz : ps.length + qs.length < 1000000) (h : ∀ c, σ c = none → Q (.ref c) (σ.put c (ps ++ qs))) :
    BIN R r .Add (.ref a) (.ref b) σ Q := fun va vb ea eb A hA s S => by
  rw [pv_ref ea, pv_ref eb]
  obtain ⟨⟨vs, ⟨n, e1⟩, rfl⟩, _⟩ := S.lists a ps ha
  obtain ⟨⟨ws, ⟨m, e2⟩, rfl⟩, _⟩ := S.lists b qs hb
  simp only [List.length_map] at hz
  have hN := S.newList (vs ++ ws)
  rw [List.map_append] at hN
  have e : (vs ++ ws).toArray = vs.toArray ++ ws.toArray := by simp
  rw [e] at hN
  exact P.add_list e1 e2 ⟨_, hN.1, hN.2.1, h _ hN.2.2⟩ (by simp only [List.size_toArray]; show _ ≤ 2 ^ 24; omega)

/-- list.append, called outright -/
theorem append_raw {A : Around} {a : Addr} {ps : List PV} {v : Value} {s : Shared} {Q : Value → Shared → Prop} {E : Value → Shared → Prop} (ha : σ a = some ps) (hz : ps.length < 1000000) (S : St R σ s)
    (h : ∀ s' x, St R (σ.put a (ps ++ [pv v])) s' → Go σ (σ.put a (ps ++ [pv v])) s s' → Q x s') : wpAny R.M A (call (.builtin "list.append") [.ref a, v]) Q E s := by
  obtain ⟨⟨vs, ⟨n, e1⟩, rfl⟩, _⟩ := S.lists a ps ha
  simp only [List.length_map] at hz
  have hT : s.TypeIs (.ref a) "list" := ⟨_, e1, rfl⟩
  have hz2 : vs.toArray.size ≤ sizeLine := by simp only [List.size_toArray]; show _ ≤ 2 ^ 24; omega
  refine call_meets F.slot_list_append hT F.entry_list_append (F.args_list_append_2 _ _) (list_append a vs.toArray n v hz2) ⟨e1, ?_⟩
  have hU := S.upd ha (h' := s.heap.update a (Obj.mapSeq fun x => x.push v)) (vs := vs ++ [v]) (t := s.toks) ?_ (Heap.SameBut.update ..)
  · rw [List.map_append] at hU
    exact h _ _ hU.1 hU.2
  · refine ⟨(if (vs.toArray.push v).size == vs.toArray.size then n else n + 1), ?_⟩
    have := IsL.update (f := fun x => x.push v) e1
    have e : (vs ++ [v]).toArray = vs.toArray.push v := by simp
    rw [e]
    exact this

/-- a list comprehension: one clause, a name, at most one test -/
noncomputable def compQ (R : Rn) (r : Nat) (cenv : Env) (x : Str) (ifs : List Expr) (elt : Expr) (a : Addr) (K : Sto → Prop) : List PV → Sto → Prop
  | [], σ => K σ
  | p :: ps, σ => match ifs with
    | [] => EV R r cenv elt (Loc.of [(x, p)]) σ fun v σ' => ∃ acc, σ' a = some acc ∧ acc.length < 1000000 ∧ compQ R r cenv x ifs elt a K ps (σ'.put a (acc ++ [v]))
    | t :: _ => TS R r cenv t (Loc.of [(x, p)]) σ fun b σ₁ => if b = true then EV R r cenv elt (Loc.of [(x, p)]) σ₁ fun v σ' => ∃ acc, σ' a = some acc ∧ acc.length < 1000000 ∧ compQ R r cenv x ifs elt a K ps (σ'.put a (acc ++ [v])) else compQ R r cenv x ifs elt a K ps σ₁

theorem comp_core {elt iter : Expr} {x : Str} {px pos : Pos} {ifs : List Expr} {scope : Scope} {cl : List (Str × Addr)} {Q : PV → Sto → Prop} {A : Around} {s : Shared} {RR : Value → Addr → Result → Shared → Prop} (hA : Room R.top r A) (S : St R σ s) (F : LocAt R env.locals ρ s)
    (hkind : scope.kind = .function) (hcell : (scope.names.all fun y => decide (y.2 ≠ .cell)) = true)
    (hnames : ∀ x ∈ scope.names, x.2 = .local → scope.names.lookup x.1 = some .local) (hx : scope.names.lookup x = some .local) (hif : ifs.length ≤ 1)
    (h : ITR R r env iter ρ σ fun items σ₁ => ∀ a C, σ₁ a = none → compQ R r (compEnvC scope cl C env) x ifs elt a (fun σ' => Q (.ref a) σ') items (σ₁.put a [])) :
    (∀ a C s' σ' ρ', St R σ' s' → LocAt R C ρ' s' → Go σ σ' s s' → (∀ b o, s.heap.get? b = some o → σ b = none → b ≠ C) → Q (.ref a) σ' → RR (.ref a) C (.ok .next) s') →
    wpAny R.M A (eval iter env) (fun x₁ s₁ => wpAny R.M A (pyIter x₁) (fun it s₂ => wpAny R.M A (newList []) (fun acc s₃ =>
      wpAny R.M A (newFunctionEnv scope env.globals cl [] env.qual none .none (some env)) (fun cenv s₄ =>
        codeAny R.M A (.compStart (.ListComp elt [⟨.Name x px, iter, ifs, 0⟩] scope pos) 0 it acc { cenv with scope := relabel scope env }) (RR acc cenv.locals) s₄) nope s₃) nope s₂) nope s₁) nope s := fun hRR => by
  refine wpAny_mono (h A hA s S F) (fun v s₁ h₁ => wpAny_mono h₁ (fun it s₂ h₂ => ?_) fun _ _ x => x.elim) fun _ _ x => x.elim
  obtain ⟨items, σ₂, S₂, g₂, ⟨I, fp, wr, P, Stt, rfl, W, st0, hfp, hwr, hex, hP⟩, hQ⟩ := h₂
  have hN := S₂.newList []
  refine wpAny_newList ?_ (by show 0 ≤ sizeLine; decide)
  obtain ⟨S₃, g₃, hfr⟩ := hN
  generalize ha : s₂.heap.objs.size = a at *
  generalize hs3 : ({ s₂ with heap := s₂.heap.push { cls := .type "list", data := .seq ([] : List Value).toArray } } : Shared) = s₃ at *
  refine wpAny_newFunctionEnv (fun q hq => of_decide_eq_true (List.all_eq_true.mp hcell q hq)) (fun q hq => (nomatch hq)) (fun h₄ hns hsb => ?_) hkind
  generalize hC : s₃.heap.objs.size = C at *
  have hC3 : s₃.heap.get? C = none := by rw [← hC]; exact S₃.fresh.1
  have hC0 : R.h₀.get? C = none := by rw [← hC]; exact S₃.fresh.2.1
  have hCs : ∀ b o, s.heap.get? b = some o → σ b = none → b ≠ C := fun b o e q z => by
    subst z
    have := ((g₂.trans g₃) b o e q).1; rw [hC3] at this; cases this
  have hk34 : ∀ b o, s₃.heap.get? b = some o → h₄.get? b = some o := fun b o e => hsb.extBut b o (fun z => by rw [z, hC3] at e; cases e) (Heap.get?_push_of_some _ e)
  have S₄ : St R (σ₂.put a []) { s₃ with heap := h₄ } := ⟨fun b o e => hk34 b o (S₃.keep b o e), fun c l q => by
      obtain ⟨⟨vs, ⟨n, e⟩, hw⟩, hn⟩ := S₃.lists c l q
      exact ⟨⟨vs, ⟨n, hk34 _ _ e⟩, hw⟩, hn⟩, S₃.os, S₃.bare⟩
  have F₄ : LocAt R C (Loc.of []) { s₃ with heap := h₄ } := ⟨⟨_, hns, fun y p hy => by cases hy⟩, hC0⟩
  have h23 : ∀ b o, s₂.heap.get? b = some o → s₃.heap.get? b = some o := fun b o e => by rw [← hs3]; exact Heap.get?_push_of_some _ e
  have st4 : Stt 0 h₄ := W.frame _ _ _ st0 fun b hb o e => hk34 b o (h23 b o e)
  have ha2 : s₂.heap.get? a = none := by rw [← ha]; exact S₂.fresh.1
  have hfp4 : ∀ b ∈ fp, (σ₂.put a []) b = none ∧ b ≠ C := fun b hb => by
    obtain ⟨o, e⟩ := hex 0 _ st0 b hb
    refine ⟨?_, fun z => ?_⟩
    · rw [Sto.put_ne _ _ (fun z => by rw [z, ha2] at e; cases e)]; exact (hfp b hb).1
    · have := h23 b o e
      rw [z, hC3] at this; cases this
  have g₄ : GoL C σ (σ₂.put a []) s { s₃ with heap := h₄ } := fun b o ne e q => by
    obtain ⟨e3, q3⟩ := (g₂.trans g₃) b o e q
    exact ⟨hk34 b o e3, q3⟩
  have he : EnvOk (compEnvC scope cl C env) := by
    show (scope.kind == .class || (scope.kind == .module && C != env.globals)) = false
    rw [hkind]; rfl
  have hl : (compEnvC scope cl C env).kindOf x = some .local := lookup_relabel_local hx
  have key : codeAny R.M A (.compLoop (.ListComp elt [⟨.Name x px, iter, ifs, 0⟩] scope pos) 0 (.ref I) (.ref a) (compEnvC scope cl C env)) (RR (.ref a) C) { s₃ with heap := h₄ } := by
    refine codeAny_compLoop_tests (fun n s' => ∃ i ρ' σ', i ≤ items.length ∧ n = items.length + 1 - i ∧ St R σ' s' ∧ LocAt R C ρ' s' ∧ GoL C σ σ' s s' ∧ Stt i s'.heap ∧ (∀ b ∈ fp, σ' b = none ∧ b ≠ C) ∧
      compQ R r (compEnvC scope cl C env) x ifs elt a (fun σ' => Q (.ref a) σ') (items.drop i) σ') (fun n s' hI => ?_) (items.length + 1) ⟨0, _, _, Nat.zero_le _, rfl, S₄, F₄, g₄, st4, hfp4, hQ a C hfr⟩
    obtain ⟨i, ρ', σ', hi, rfl, S', F', g', st', hfp', hQ'⟩ := hI
    have hσw : ∀ b ∈ wr, σ' b = none := fun b hb => (hfp' b (W.sub b hb)).1
    have hLw : ∀ b ∈ wr, b ≠ C := fun b hb => (hfp' b (W.sub b hb)).2
    have hwr0 : ∀ b ∈ wr, R.h₀.get? b = none := fun b hb => (hwr b hb).1
    by_cases hlt : i < items.length
    · refine W.item i s' _ _ hlt st' fun v h' tk hPv st₁ hk => ?_
      have S₁ : St R σ' { s' with heap := h', toks := tk } := S'.away hσw hwr0 hk
      have F₁ : LocAt R C ρ' { s' with heap := h', toks := tk } := F'.away hLw hk
      have ev := hP i v hlt hPv
      have hd : items.drop i = pv v :: items.drop (i + 1) := by
        obtain ⟨hlt', e⟩ := List.getElem?_eq_some_iff.mp ev
        rw [List.drop_eq_getElem_cons hlt', e]
      rw [hd] at hQ'
      refine wpAny_assign_Name (wpAny_mono (store (env := compEnvC scope cl C env) he hl S₁ F₁ (Q := fun _ s₃ => St R σ' s₃ ∧ LocAt R C (ρ'.put x (pv v)) s₃ ∧ GoL C σ' σ' { s' with heap := h', toks := tk } s₃) fun s₃ a b c => ⟨a, b, c⟩) (fun _ s₅ ⟨S₅, F₅, g₅⟩ => ?_) fun _ _ x => x.elim)
      have F₅' : LocAt R C (Loc.of [(x, pv v)]) s₅ := F₅.le (Le.cons (by simp [Loc.put]) Le.nil)
      have st₅ : Stt (i + 1) s₅.heap := W.frame _ _ _ st₁ fun b hb o e => (g₅ b o (hfp' b hb).2 e (hfp' b hb).1).1
      have gg : GoL C σ σ' s s₅ := fun b o ne e q => by
        obtain ⟨e', q'⟩ := g' b o ne e q
        have hbw : b ∉ wr := fun hb => (hwr b hb).2 o e q
        exact g₅ b o ne (hk b o hbw e') q'
      have next : ∀ s₆ σ₆, St R σ₆ s₆ → Go σ' σ₆ s₅ s₆ → compQ R r (compEnvC scope cl C env) x ifs elt a (fun σ' => Q (.ref a) σ') (items.drop (i + 1)) σ₆ →
          ∃ m, m < items.length + 1 - i ∧ ∃ i ρ' σ', i ≤ items.length ∧ m = items.length + 1 - i ∧ St R σ' s₆ ∧ LocAt R C ρ' s₆ ∧ GoL C σ σ' s s₆ ∧ Stt i s₆.heap ∧ (∀ b ∈ fp, σ' b = none ∧ b ≠ C) ∧
            compQ R r (compEnvC scope cl C env) x ifs elt a (fun σ' => Q (.ref a) σ') (items.drop i) σ' := fun s₆ σ₆ S₆ g₆ h₆ => by
        refine ⟨items.length + 1 - (i + 1), by omega, i + 1, _, σ₆, hlt, rfl, S₆, F₅.go S₅ g₆, gg.trans g₆.l, W.frame _ _ _ st₅ fun b hb o e => (g₆ b o e (hfp' b hb).1).1, fun b hb => ?_, h₆⟩
        obtain ⟨o, e⟩ := hex _ _ st₅ b hb
        exact ⟨(g₆ b o e (hfp' b hb).1).2, (hfp' b hb).2⟩
      have elts : ∀ s₆ σ₆, St R σ₆ s₆ → Go σ' σ₆ s₅ s₆ → EV R r (compEnvC scope cl C env) elt (Loc.of [(x, pv v)]) σ₆ (fun v σ' => ∃ acc, σ' a = some acc ∧ acc.length < 1000000 ∧ compQ R r (compEnvC scope cl C env) x ifs elt a (fun σ' => Q (.ref a) σ') (items.drop (i + 1)) (σ'.put a (acc ++ [v]))) →
          wpAny R.M A (eval elt (compEnvC scope cl C env)) (fun x₁ s₄ => wpAny R.M A (call (.builtin "list.append") [.ref a, x₁]) (fun _ s₅ => ∃ m, m < items.length + 1 - i ∧ ∃ i ρ' σ', i ≤ items.length ∧ m = items.length + 1 - i ∧ St R σ' s₅ ∧ LocAt R C ρ' s₅ ∧ GoL C σ σ' s s₅ ∧ Stt i s₅.heap ∧ (∀ b ∈ fp, σ' b = none ∧ b ≠ C) ∧
            compQ R r (compEnvC scope cl C env) x ifs elt a (fun σ' => Q (.ref a) σ') (items.drop i) σ') nope s₄) nope s₆ := fun s₆ σ₆ S₆ g₆ h₆ => by
        refine wpAny_mono (h₆ A hA s₆ S₆ (F₅'.go S₅ g₆)) (fun y s₇ ⟨σ₇, S₇, g₇, acc, hacc, hz, hq⟩ => ?_) fun _ _ x => x
        exact append_raw hacc hz S₇ fun s₈ _ S₈ g₈ => next s₈ _ S₈ ((g₆.trans g₇).trans g₈) hq
      match ifs, hif with
      | [], _ => exact wpAny_tests_nil (by rw [if_pos rfl]; exact wpAny_mono (elts s₅ σ' S₅ Go.refl hQ') (fun _ _ h => wpAny_mono h (fun _ _ x => x) fun _ _ x => x.elim) fun _ _ x => x.elim)
      | [t], _ =>
        refine wpAny_tests_one (wpAny_mono (hQ' A hA s₅ S₅ F₅') (fun b s₆ ⟨σ₆, S₆, g₆, hb⟩ => ?_) fun _ _ x => x.elim)
        cases b with
        | true =>
          rw [if_pos rfl]
          replace hb := (if_pos (rfl : id true = true)) ▸ hb
          exact wpAny_mono (elts s₆ σ₆ S₆ g₆ hb) (fun _ _ h => wpAny_mono h (fun _ _ x => x) fun _ _ x => x.elim) fun _ _ x => x.elim
        | false =>
          rw [if_neg Bool.false_ne_true]
          exact next s₆ σ₆ S₆ g₆ (by simpa using hb)
    · obtain rfl : i = items.length := by omega
      refine W.done s' _ _ st' fun h' tk hk => ?_
      have S₁ : St R σ' { s' with heap := h', toks := tk } := S'.away hσw hwr0 hk
      have F₁ : LocAt R C ρ' { s' with heap := h', toks := tk } := F'.away hLw hk
      rw [List.drop_length] at hQ'
      refine hRR a C _ σ' _ S₁ F₁ (fun b o e q => ?_) hCs hQ'
      have ne := hCs b o e q
      obtain ⟨e', q'⟩ := g' b o ne e q
      exact ⟨hk b o (fun hb => (hwr b hb).2 o e q) e', q'⟩
  have final : codeAny R.M A (.compStart (.ListComp elt [⟨.Name x px, iter, ifs, 0⟩] scope pos) 0 (.ref I) (.ref a) (compEnvC scope cl C env)) (RR (.ref a) C) { s₃ with heap := h₄ } :=
    codeAny_compStart_list key (W.self 0 _ _ _ st4 key)
  exact final

/-- the clause's names go -/
theorem St.dropC {C : Addr} {s' : Shared} {h' : Heap} {ρ' : Loc} (S : St R σ s') (F : LocAt R C ρ' s') (hs : Heap.SameBut C s'.heap h') : St R σ { s' with heap := h' } := by
  obtain ⟨m, hm, _⟩ := F.ns
  have hCn : σ C = none := S.notNs hm
  refine ⟨fun b o e => hs.extBut b o (fun z => by rw [z, F.new] at e; cases e) (S.keep b o e), fun c l q => ?_, S.os, S.bare⟩
  obtain ⟨⟨vs, ⟨n, e⟩, hw⟩, hn⟩ := S.lists c l q
  exact ⟨⟨vs, ⟨n, hs.extBut c _ (fun z => by rw [z, hCn] at q; cases q) e⟩, hw⟩, hn⟩

theorem EV_ListComp {elt iter : Expr} {x : Str} {px pos : Pos} {ifs : List Expr} {scope : Scope} {cl : List (Str × Addr)} {Q : PV → Sto → Prop}
    (hs : ∀ x, foldedSetIterable iter env x = pure x) (hclos : closureFor scope env = pure cl) (hkind : scope.kind = .function) (hcell : (scope.names.all fun y => decide (y.2 ≠ .cell)) = true)
    (hnames : ∀ x ∈ scope.names, x.2 = .local → scope.names.lookup x.1 = some .local) (hx : scope.names.lookup x = some .local) (hif : ifs.length ≤ 1)
    (h : ITR R r env iter ρ σ fun items σ₁ => ∀ a C, σ₁ a = none → compQ R r (compEnvC scope cl C env) x ifs elt a (fun σ' => Q (.ref a) σ') items (σ₁.put a [])) :
    EV R r env (.ListComp elt [⟨.Name x px, iter, ifs, 0⟩] scope pos) ρ σ Q := fun A hA s S F => by
  rw [eval_ListComp]
  refine wpAny_comprehension_free (use := none) rfl hs hclos hkind hnames (comp_core hA S F hkind hcell hnames hx hif h ?_)
  intro a C s' σ' ρ' S' F' g' hC q
  obtain ⟨m, hm, hmm⟩ := F'.ns
  exact ⟨m, hm, fun h'' hsame => ⟨σ', S'.dropC F' hsame, fun b o e q => ⟨hsame.extBut b o (hC b o e q) (g' b o e q).1, (g' b o e q).2⟩, q⟩⟩

theorem EX_AssignComp {elt iter : Expr} {x y : Str} {px py pos spos : Pos} {ifs : List Expr} {scope : Scope} {cl : List (Str × Addr)} {Q : FL → Loc → Sto → Prop} (he : EnvOk env) (hl : env.kindOf y = some .local)
    (hsw : swapsWith (.ListComp elt [⟨.Name x px, iter, ifs, 0⟩] scope pos) (some (.Name y py)) spos.line env = pure true)
    (hs : ∀ x, foldedSetIterable iter env x = pure x) (hclos : closureFor scope env = pure cl) (hkind : scope.kind = .function) (hcell : (scope.names.all fun y => decide (y.2 ≠ .cell)) = true)
    (hnames : ∀ x ∈ scope.names, x.2 = .local → scope.names.lookup x.1 = some .local) (hx : scope.names.lookup x = some .local) (hif : ifs.length ≤ 1)
    (h : ITR R r env iter ρ σ fun items σ₁ => ∀ a C, σ₁ a = none → compQ R r (compEnvC scope cl C env) x ifs elt a (fun σ' => Q .next (ρ.put y (.ref a)) σ') items (σ₁.put a [])) :
    EX R r env (.Assign [.Name y py] (.ListComp elt [⟨.Name x px, iter, ifs, 0⟩] scope pos) spos) ρ σ Q := fun A hA s S F => by
  rw [exec_Assign_Name_used _ _ _ _ hsw]
  refine wpAny_bind (wpAny_standAt (wpAny_bind ?_))
  show wpAny R.M A (comprehension _ _ _ _ _ _ _ _ >>= fun _ => pure ()) _ _ s
  refine wpAny_bind (wpAny_comprehension_free (use := some _) rfl hs hclos hkind hnames (comp_core (Q := fun p σ' => Q .next (ρ.put y p) σ') hA S F hkind hcell hnames hx hif h ?_))
  intro a C s' σ' ρ' S' F' g' hC q
  have Fe : LocAt R env.locals ρ s' := F.go S g'
  have hLC : env.locals ≠ C := by
    obtain ⟨m, hm, _⟩ := F.ns
    have := S.notNs hm
    obtain ⟨o, es, ep, ho, _⟩ := hm
    exact hC _ o ho this
  refine wpAny_assign_Name (wpAny_mono (store he hl S' Fe (Q := fun _ s₃ => St R σ' s₃ ∧ LocAt R env.locals (ρ.put y (.ref a)) s₃ ∧ GoL env.locals σ' σ' s' s₃) fun s₃ a b c => ⟨a, b, c⟩) (fun _ s₅ ⟨S₅, F₅, g₅⟩ => ?_) fun _ _ x => x.elim)
  obtain ⟨m, hm, hmm⟩ := F'.ns
  have hσC := S'.notNs hm
  have FC : LocAt R C ρ' s₅ := ⟨⟨m, hm.at' fun o e => (g₅ C o hLC.symm e hσC).1, hmm⟩, F'.new⟩
  obtain ⟨m5, hm5, _⟩ := FC.ns
  refine ⟨m5, hm5, fun h'' hsame => wpAny_pure (wpAny_pure ⟨_, σ', S₅.dropC FC hsame, ?_, fun b o ne e q => ?_, q⟩)⟩
  · obtain ⟨mm, hn, hmm'⟩ := F₅.ns
    exact ⟨⟨mm, hn.at' fun o e => hsame.extBut _ o hLC e, hmm'⟩, F₅.new⟩
  · obtain ⟨e1, q1⟩ := g' b o e q
    obtain ⟨e2, q2⟩ := g₅ b o ne e1 q1
    exact ⟨hsame.extBut b o (hC b o e q) e2, q2⟩
end

/-! M16 -/

/-- a heap with one object more -/
noncomputable def addObj (h : Heap) (c : Addr) (o : Obj) : Heap := { h with objs := Array.ofFn (n := max h.objs.size (c + 1)) fun i => if i.val = c then o else (h.get? i.val).getD { cls := .none, data := .freed } }

theorem get_notFreed {h : Heap} {b : Addr} {o : Obj} (e : h.get? b = some o) : o.data ≠ .freed := by
  unfold Heap.get? at e
  split at e
  · cases e
  · rename_i x hx
    rintro hd
    obtain ⟨cls, dict, data, slots⟩ := o
    dsimp only at hd
    subst hd
    exact hx _ _ _ e

theorem get_addObj {h : Heap} {c : Nat} {o : Obj} (ho : o.data ≠ .freed) (b : Nat) : (addObj h c o).get? b = if b = c then some o else h.get? b := by
  have some_of : ∀ (h : Heap) (b : Addr) (o : Obj), h.objs[b]? = some o → o.data ≠ .freed → h.get? b = some o := by
    intro h b o e hd
    unfold Heap.get?
    rw [e]
    obtain ⟨cls, dict, data, slots⟩ := o
    cases data <;> first | rfl | exact absurd rfl hd
  by_cases hb : b < max h.objs.size (c + 1)
  · have e : (addObj h c o).objs[b]? = some (if b = c then o else (h.get? b).getD { cls := .none, data := .freed }) := by
      simp [addObj, hb]
    by_cases hc : b = c
    · rw [if_pos hc] at e ⊢
      exact some_of _ _ _ e ho
    · rw [if_neg hc] at e ⊢
      cases hg : h.get? b with
      | none =>
        rw [hg] at e
        unfold Heap.get?
        rw [e]
        rfl
      | some o' =>
        rw [hg] at e
        exact some_of _ _ _ e (get_notFreed hg)
  · have hc : ¬ b = c := by omega
    rw [if_neg hc]
    have e : (addObj h c o).objs[b]? = none := by simp [addObj]; omega
    have e2 : h.get? b = none := by
      cases hg : h.get? b with
      | none => rfl
      | some o' =>
        have hlt : b < h.objs.size := Heap.lt_size hg
        omega
    rw [e2]
    unfold Heap.get?
    rw [e]

noncomputable abbrev Rn.add (R : Rn) (c : Addr) (o : Obj) : Rn := { R with h₀ := addObj R.h₀ c o }

section
variable {R : Rn} {r : Nat} {env : Env} {ρ : Loc} {σ : Sto} {c : Addr} {o : Obj}

theorem add_keeps (ho : o.data ≠ .freed) (hc : R.h₀.get? c = none) : ∀ b o', R.h₀.get? b = some o' → (R.add c o).h₀.get? b = some o' := fun b o' e => by
  show (addObj R.h₀ c o).get? b = _
  rw [get_addObj ho, if_neg (fun z => by rw [z, hc] at e; cases e)]; exact e

theorem Base.add (B : Base R) (ho : o.data ≠ .freed) (hc : R.h₀.get? c = none) : Base (R.add c o) := by
  have hk := add_keeps (R := R) ho hc
  refine ⟨B.g.keeps hk, B.b.keeps hk, B.lim.keeps hk, B.bi, B.free, fun n ps body sc hd => ?_⟩
  obtain ⟨fa, o', pm, cd, doc, h1, h2, h3, h4⟩ := B.fn n ps body sc hd
  exact ⟨fa, o', pm, cd, doc, h1, hk _ _ h2, h3, h4.keeps hk⟩
theorem St.add {s : Shared} (S : St R σ s) (ho : o.data ≠ .freed) (hs : s.heap.get? c = some o) (hσ : σ c = none) : St (R.add c o) σ s := by
  refine ⟨fun b o' e => ?_, fun a l q => ?_, S.os, S.bare⟩
  · change (addObj R.h₀ c o).get? b = _ at e
    rw [get_addObj ho] at e
    by_cases hb : b = c
    · rw [if_pos hb] at e; cases e; rw [hb]; exact hs
    · rw [if_neg hb] at e; exact S.keep b o' e
  · refine ⟨(S.lists a l q).1, ?_⟩
    show (addObj R.h₀ c o).get? a = none
    rw [get_addObj ho, if_neg (fun z => by rw [z, hσ] at q; cases q)]
    exact (S.lists a l q).2
theorem LocAt.add {L : Addr} {s : Shared} (F : LocAt R L ρ s) (ho : o.data ≠ .freed) (hL : L ≠ c) : LocAt (R.add c o) L ρ s := by
  refine ⟨F.ns, ?_⟩
  show (addObj R.h₀ c o).get? L = none
  rw [get_addObj ho, if_neg hL]; exact F.new
theorem St.unadd {s : Shared} (S : St (R.add c o) σ s) (ho : o.data ≠ .freed) (hc : R.h₀.get? c = none) : St R σ s := by
  have hk := add_keeps (R := R) ho hc
  refine ⟨fun b o' e => S.keep b o' (hk b o' e), fun a l q => ⟨(S.lists a l q).1, ?_⟩, S.os, S.bare⟩
  cases e : R.h₀.get? a with
  | none => rfl
  | some o' => have := (S.lists a l q).2; rw [hk a o' e] at this; cases this

theorem EV_cell {x : Str} {pos : Pos} {v : Value} {Q : PV → Sto → Prop} (hk : env.scope.kind = .function) (hl : env.kindOf x = some .cell) (hc : env.cells.lookup x = some c) (hv : R.h₀.IsCell c (some v)) (hd : (x == ("__debug__" : Str)) = false) (h : Q (pv v) σ) :
    EV R r env (.Name x pos) ρ σ Q := fun A hA s S F => wpAny_Name (wpAny_loadName_cell hk hl hc (hv.keeps S.keep) (Post.now S h)) hd

/-- a function of one name whose first statement fills its one cell -/
theorem CF_cell {f : Str} {ps : Arguments} {st : Stmt} {rest : List Stmt} {sc : Scope} {arg : PV} {Q : PV → Sto → Prop} {y xc : Str} {p1 p2 : Pos} {value : Expr} (B : Base R) (hdef : P0.theDef f = some (ps, st :: rest, sc)) (hst : st = .Assign [.Name xc p1] value p2)
    (hbind : ∀ pm cd doc (v : Value), bindArgs (docDef f ps (st :: rest) sc pm cd doc) ⟨[v], []⟩ = pure [(y, v)]) (hy : sc.names.lookup y = some .local) (hxc : sc.names.lookup xc = some .cell)
    (hcells : ∀ n, cellsFrom n sc.names [] = [(xc, n)]) (hco : sc.isCoroutine = false) (hgen : sc.isGenerator = false) (hk : sc.kind = .function)
    (hs : ∀ L a cd, swapsWith value (some (.Name xc p1)) p2.line (envOfC f sc L a cd) = pure false)
    (h : ∀ L a cd, EV R r (envOfC f sc L a cd) value (Loc.of [(y, arg)]) σ fun p σ₁ => ∀ o v, o.data = .cell (some v) → pv v = p → Base (R.add (L + 1) o) → (R.add (L + 1) o).h₀.IsCell (L + 1) (some v) →
      EXS (R.add (L + 1) o) r (envOfC f sc L a cd) rest (Loc.of [(y, arg)]) σ₁ fun f _ σ' => Q (retv f) σ') : CF R (r + 1) f [arg] σ Q := by
  subst hst
  intro fa hfa vals hv A hA s S
  obtain ⟨v₀, rfl, hv₀⟩ : ∃ v, vals = [v] ∧ pv v = arg := by
    match vals, hv with
    | [v], hv => exact ⟨v, rfl, by simpa using hv⟩
  obtain ⟨fa', o, pm, cd, doc, h1, h2, h3, h4⟩ := B.fn f ps _ sc hdef
  rw [hfa] at h1; cases h1
  obtain ⟨f1, f2, f3⟩ := S.fresh
  have nf : ∀ b, s.heap.objs.size ≤ b → s.heap.get? b = none := fun b hb => by
    cases h : s.heap.get? b with
    | none => rfl
    | some o => exact absurd (Heap.lt_size h) (Nat.not_lt.mpr hb)
  have hc0 : R.h₀.get? (s.heap.objs.size + 1) = none := by
    cases h : R.h₀.get? (s.heap.objs.size + 1) with
    | none => rfl
    | some o => have := S.keep _ _ h; rw [nf _ (Nat.le_succ _)] at this; cases this
  have hkl : (envOfC f sc s.heap.objs.size fa cd).kindOf y = some .local := hy
  have hkc : (envOfC f sc s.heap.objs.size fa cd).kindOf xc = some .cell := hxc
  have hcl : (envOfC f sc s.heap.objs.size fa cd).cells.lookup xc = some (s.heap.objs.size + 1) := by
    show (cellsFrom (s.heap.objs.size + 1) sc.names []).lookup xc = _
    rw [hcells]; simp
  refine wpAny_call (call_cells_ret (by have := hA.dep; omega) (S.keep _ _ h2) h3 (B.lim.keeps S.keep) (h4.keeps S.keep) (hbind pm cd doc v₀) (fun q hq => ?_) (fun h₁ tk F₁ X₁ => ?_) hco hgen hk)
  · obtain rfl := List.mem_singleton.mp hq
    exact .inl hy
  · have hA' : Room R.top r (A.deeper (envOfC f sc s.heap.objs.size fa cd)) := ⟨hA.hd, by have := hA.dep; show A.depth + 1 + r < _; omega, by have := hA.un; show A.units + 3 + 8 * r + 200 < _; omega, by
      obtain ⟨pre, e, hl⟩ := hA.fr
      exact ⟨_ :: pre, Around.frames_deeper e, by show pre.length + 1 + 302 ≤ A.depth + 1; omega⟩⟩
    have S₁ : St R σ { s with heap := h₁, toks := tk } := ⟨fun b o e => F₁.keep _ _ (S.keep b o e), fun a l q => by
        obtain ⟨⟨vs, ⟨n, e⟩, hw⟩, hn⟩ := S.lists a l q
        exact ⟨⟨vs, ⟨n, F₁.keep _ _ e⟩, hw⟩, hn⟩, S.os, S.bare⟩
    have L₁ : LocAt R s.heap.objs.size (Loc.of [(y, arg)]) { s with heap := h₁, toks := tk } := by
      refine ⟨⟨_, F₁.ns, fun z p hz => ?_⟩, f2⟩
      unfold Loc.of at hz
      rw [List.lookup_cons] at hz
      split at hz
      · rename_i hzz
        have hzz : z = y := by simpa using hzz
        subst hzz; cases hz
        exact ⟨v₀, by simp [bindL, hkl], hv₀⟩
      · cases hz
    have hcell₁ := X₁.cell xc (s.heap.objs.size + 1) hcl
    refine wpAny_execs_cons (wpAny_Assign_Name (wpAny_mono (h _ fa cd _ hA' _ S₁ L₁) (fun v s₂ ⟨σ₂, S₂, g₂, q₂⟩ => ?_) fun _ _ x => x) (hs _ _ _))
    obtain ⟨oc, hoc, hdc⟩ := hcell₁
    have hσc : σ (s.heap.objs.size + 1) = none := by
      cases e : σ (s.heap.objs.size + 1) with
      | none => rfl
      | some l =>
        obtain ⟨⟨vs, ⟨n, e'⟩, _⟩, _⟩ := S.lists _ l e
        rw [nf _ (Nat.le_succ _)] at e'; cases e'
    obtain ⟨hoc₂, hσ₂c⟩ := g₂ _ _ hoc hσc
    have F₂ := LocAt.go L₁ S₁ g₂
    refine wpAny_storeName_cell hk hkc hcl ⟨oc, hoc₂, hdc⟩ fun h₃ hv₃ hs₃ => ?_
    obtain ⟨o₃, ho₃, hd₃⟩ := hv₃
    have hnf : o₃.data ≠ .freed := by rw [hd₃]; intro z; cases z
    have S₃ : St R σ₂ { s₂ with heap := h₃ } := ⟨fun b o e => hs₃.extBut b o (fun z => by rw [z, hc0] at e; cases e) (S₂.keep b o e), fun a l q => by
        obtain ⟨⟨vs, ⟨n, e⟩, hw⟩, hn⟩ := S₂.lists a l q
        exact ⟨⟨vs, ⟨n, hs₃.extBut a _ (fun z => by rw [z, hσ₂c] at q; cases q) e⟩, hw⟩, hn⟩, S₂.os, S₂.bare⟩
    have F₃ : LocAt R s.heap.objs.size (Loc.of [(y, arg)]) { s₂ with heap := h₃ } := by
      obtain ⟨m, hn, hm⟩ := F₂.ns
      exact ⟨⟨m, hn.at' fun o e => hs₃.extBut _ o (Nat.ne_of_lt (Nat.lt_succ_self _)) e, hm⟩, F₂.new⟩
    refine wpAny_mono (q₂ o₃ v hd₃ rfl (B.add hnf hc0) ⟨o₃, by rw [get_addObj hnf, if_pos rfl], hd₃⟩ _ hA' _ (S₃.add hnf ho₃ hσ₂c) (F₃.add hnf (Nat.ne_of_lt (Nat.lt_succ_self _)))) (fun f s' ⟨ρ', σ', S', F', g', q'⟩ => ?_) fun _ _ x => x
    have hgo : Go σ σ' s s' := fun b o e q => by
      have hlt := Heap.lt_size e
      obtain ⟨e2, q2⟩ := g₂ b o (F₁.keep _ _ e) q
      exact g' b o (Nat.ne_of_lt hlt) (hs₃.extBut b o (Nat.ne_of_lt (Nat.lt_succ_of_lt hlt)) e2) q2
    cases f with
    | ret v => exact ⟨σ', S'.unadd hnf hc0, hgo, q'⟩
    | next => exact ⟨σ', S'.unadd hnf hc0, hgo, q'⟩
    | brk => exact ⟨σ', S'.unadd hnf hc0, hgo, q'⟩
    | cont => exact ⟨σ', S'.unadd hnf hc0, hgo, q'⟩

/-- range(0, n, 2) -/
noncomputable def rng2 (n : Nat) : List PV := (List.range ((n + 1) / 2)).map fun k => PV.int ((2 * k : Nat) : Int)
theorem ITR_range2 {p pos : Pos} {e1 e2 e3 : Expr} {K : List PV → Sto → Prop} (B : Base R) (hk : env.scope.kind = .function) (hx : env.kindOf "range" = some .globalImplicit) (hg : env.globals = mainGlobals) (hgb : env.builtins = builtinsNs)
    (h1 : starEach [e1, e2, e3] env = (false, eval e1 env) :: starEach [e2, e3] env) (h2 : starEach [e2, e3] env = (false, eval e2 env) :: starEach [e3] env) (h3 : starEach [e3] env = [(false, eval e3 env)])
    (h : EV R r env e1 ρ σ fun a σ₁ => a = .int 0 ∧ EV R r env e2 ρ σ₁ fun b σ₂ => ∃ n : Nat, b = .int n ∧ n < 1000000 ∧ EV R r env e3 ρ σ₂ fun c σ₃ => c = .int 2 ∧ K (rng2 n) σ₃) : ITR R r env (.Call (.Name "range" p) [e1, e2, e3] [] pos) ρ σ K := fun A hA s S F => by
  refine Call_ (type_name B S (T := "range") (by decide +kernel) (by decide) (by decide) hk hx hg hgb (by decide) (callWith_type1 (args_cons (rest := [e2, e3]) (wpAny_mono (h A hA s S F) (fun v1 s₁ ⟨σ₁, S₁, g₁, ev1, h₁⟩ => args_cons (rest := [e3]) (wpAny_mono (h₁ A hA s₁ S₁ (F.go S g₁)) (fun v2 s₂ ⟨σ₂, S₂, g₂, n, ev2, hn, h₂⟩ =>
    args_cons (rest := []) (wpAny_mono (h₂ A hA s₂ S₂ ((F.go S g₁).go S₁ g₂)) (fun v3 s₃ ⟨σ₃, S₃, g₃, ev3, h₃⟩ => args_nil ?_) fun _ _ x => x) h3) fun _ _ x => x) h2) fun _ _ x => x) h1) h1 (by rw [h2, h3]; rfl))) rfl
  obtain ⟨t1, rfl⟩ := pv_int ev1
  obtain ⟨t2, rfl⟩ := pv_int ev2
  obtain ⟨t3, rfl⟩ := pv_int ev3
  have hsz : Builtin.Range.rangeSize 0 n 2 = ((n + 1) / 2 : Nat) := by
    unfold Builtin.Range.rangeSize
    rw [if_pos (by decide)]
    split <;> omega
  have hfl : ∀ z : Int, -100 ≤ z → z < 10000000 → Builtin.Range.rangeFitsLong z = true := fun z h1 h2 => by
    unfold Builtin.Range.rangeFitsLong
    rw [Bool.and_eq_true, decide_eq_true_eq, decide_eq_true_eq]
    omega
  have hsm : Builtin.Range.small 0 n 2 = true := by
    unfold Builtin.Range.small
    rw [hsz]
    rw [hfl 0 (by omega) (by omega), hfl n (by omega) (by omega), hfl 2 (by omega) (by omega)]
    rw [hfl _ (by omega) (by omega), if_pos (by decide), hfl _ (by omega) (by omega), Bool.or_true]
    rfl
  refine call_range_3 (by decide) (wpAny_pyIter_range (IsRange.new ..) hsm ?_) (.inl (PyProof.noPylong_small (by decide)))
  have g123 := (g₁.trans g₂).trans g₃
  have S₄ := S₃.push { cls := .type "range", data := .fields #[.int 0 t1, .int n t2, .int 2 t3] } s₃.toks
  have g₄ := g123.trans (Go.push { cls := .type "range", data := .fields #[.int 0 t1, .int n t2, .int 2 t3] } s₃.toks)
  have hf := fresh_it S S₄ F g₄
  have hlen : (rng2 n).length = (n + 1) / 2 := by simp [rng2]
  refine ⟨rng2 n, σ₃, S₄.push _ _, g₄.trans (Go.push _ _), ⟨_, _, _, _, _, rfl, by rw [hlen]; exact Walks.range hA.hd _ 0 2 ((n + 1) / 2), ?_, hf.1, hf.2, ?_, ?_⟩, h₃⟩
  · show IsRangeIter _ _ _ _ _
    rw [hsz]
    simp only [Int.natCast_zero, Int.zero_mul, Int.add_zero, Int.sub_zero]
    exact Heap.get?_push_size _ rfl
  · intro i h hst b hb
    obtain rfl := List.mem_singleton.mp hb
    exact ⟨_, hst⟩
  · rintro i v hi ⟨t, rfl⟩
    rw [hlen] at hi
    simp only [rng2, List.getElem?_map, List.getElem?_range hi, Option.map_some, pv]
    have : (0 : Int) + (i : Int) * 2 = ((2 * i : Nat) : Int) := by omega
    rw [this]
end

/-! T6 -/
theorem compQ_ind0 {R : Rn} {r : Nat} {cenv : Env} {x : Str} {elt : Expr} {a : Addr} {K : Sto → Prop} {σ1 : Sto} (items outs : List PV) (hlen : items.length = outs.length) (hz : outs.length < 1000000)
    (step : ∀ j p v, items[j]? = some p → outs[j]? = some v → EV R r cenv elt (Loc.of [(x, p)]) (σ1.put a (outs.take j)) fun v' σ' => v' = v ∧ σ' = σ1.put a (outs.take j))
    (done : K (σ1.put a outs)) : compQ R r cenv x [] elt a K items (σ1.put a []) := by
  suffices H : ∀ d j, j + d = outs.length → compQ R r cenv x [] elt a K (items.drop j) (σ1.put a (outs.take j)) by
    exact H outs.length 0 (by omega)
  intro d
  induction d with
  | zero =>
    intro j hj
    rw [List.drop_eq_nil_of_le (by omega), List.take_of_length_le (by omega)]
    exact done
  | succ d ih =>
    intro j hj
    have h1 : j < items.length := by omega
    have h2 : j < outs.length := by omega
    rw [List.drop_eq_getElem_cons h1]
    refine EV.mono (step j _ _ (List.getElem?_eq_getElem h1) (List.getElem?_eq_getElem h2)) fun v σ' ⟨e1, e2⟩ => ?_
    subst e1 e2
    refine ⟨outs.take j, Sto.put_self .., by rw [List.length_take]; omega, ?_⟩
    rw [Sto.put_put]
    have := ih (j + 1) (by omega)
    rwa [List.take_succ_eq_append_getElem h2] at this

theorem joined_len (a b : List Nat) : (joined a b).length = a.length + b.length := by
  unfold joined
  split
  · simp
  · split
    · simp only [List.length_append, List.length_take, List.length_drop]; omega
    · simp only [List.length_append, List.length_take, List.length_drop]; omega
/-- a text as it must be -/
noncomputable def Tx (l : List Nat) : Prop := l = [] ∨ 14 ≤ l.length
theorem Tx.joined {a b : List Nat} (ha : Tx a) (hb : Tx b) : Tx (joined a b) := by
  rcases ha with rfl | ha
  · rcases hb with rfl | hb
    · exact .inl (List.eq_nil_of_length_eq_zero (by rw [joined_len]; rfl))
    · exact .inr (by rw [joined_len]; omega)
  · exact .inr (by rw [joined_len]; omega)
noncomputable def pairUp : List (List Nat) → List (List Nat)
  | [] => []
  | [a] => [joined a []]
  | a :: b :: r => joined a b :: pairUp r
noncomputable def lenS (ls : List (List Nat)) : Nat := (ls.map List.length).sum
theorem pairUp_len : ∀ ls, (pairUp ls).length = (ls.length + 1) / 2
  | [] => rfl
  | [a] => by simp [pairUp]
  | a :: b :: r => by simp only [pairUp, List.length_cons, pairUp_len r]; omega
theorem pairUp_lenS : ∀ ls, lenS (pairUp ls) = lenS ls
  | [] => rfl
  | [a] => by simp [pairUp, lenS, joined_len]
  | a :: b :: r => by
    have := pairUp_lenS r
    simp only [pairUp, lenS, List.map_cons, List.sum_cons, joined_len] at *
    omega
theorem pairUp_Tx : ∀ ls, (∀ l ∈ ls, Tx l) → ∀ l ∈ pairUp ls, Tx l
  | [], _, l, hl => by cases hl
  | [a], h, l, hl => by
    obtain rfl := List.mem_singleton.mp hl
    exact (h a (List.mem_singleton.mpr rfl)).joined (.inl rfl)
  | a :: b :: r, h, l, hl => by
    rcases List.mem_cons.mp hl with rfl | hl
    · exact (h a (by simp)).joined (h b (by simp))
    · exact pairUp_Tx r (fun l hl => h l (by simp [hl])) l hl
theorem pairUp_get : ∀ (ls : List (List Nat)) (j : Nat), j < (ls.length + 1) / 2 → ∃ a b, (ls ++ [[]])[2 * j]? = some a ∧ (ls ++ [[]])[2 * j + 1]? = some b ∧ (pairUp ls)[j]? = some (joined a b) ∧ a ∈ ls ++ [[]] ∧ b ∈ ls ++ [[]]
  | [], j, h => by simp at h
  | [a], 0, _ => ⟨a, [], rfl, rfl, rfl, by simp, by simp⟩
  | [a], j + 1, h => by simp at h
  | a :: b :: r, 0, _ => ⟨a, b, rfl, rfl, rfl, by simp, by simp⟩
  | a :: b :: r, j + 1, h => by
    obtain ⟨x, y, h1, h2, h3, h4, h5⟩ := pairUp_get r j (by simp at h; omega)
    refine ⟨x, y, ?_, ?_, ?_, ?_, ?_⟩
    · rw [show 2 * (j + 1) = 2 * j + 1 + 1 by omega]; simpa using h1
    · rw [show 2 * (j + 1) + 1 = 2 * j + 1 + 1 + 1 by omega]; simpa using h2
    · simpa [pairUp] using h3
    · exact List.mem_cons_of_mem _ (List.mem_cons_of_mem _ h4)
    · exact List.mem_cons_of_mem _ (List.mem_cons_of_mem _ h5)
theorem lenS_mem : ∀ (ls : List (List Nat)) (l : List Nat), l ∈ ls → l.length ≤ lenS ls
  | x :: xs, l, h => by
    simp only [lenS, List.map_cons, List.sum_cons]
    rcases List.mem_cons.mp h with rfl | h
    · omega
    · have := lenS_mem xs l h
      simp only [lenS] at this
      omega

noncomputable def without (k : Fo) : List Nat := (pairUp (trees k)).foldr joined []

theorem lawwithout_ok {R : Rn} {r : Nat} {σ : Sto} {m : Int} {k : Fo} {Q : PV → Sto → Prop} (B : Base R) (hG : R.G = AllBare) (hz : siz k < 500)
    (h : Q (.str (mk (without k))) σ) : CF R (r + 7) "_law_without_least" [.str (mk (tree1 m k))] σ Q := by
  refine CF_weak (CF_cell (y := "text") (xc := "parts") B rfl rfl (fun pm cd doc v => rfl) rfl rfl (fun n => rfl) rfl rfl rfl (fun L a cd => rfl) (fun L a cd => ?_))
  have hl : (tree1 m k).length = (enc k).length + 14 := by simp [tree1, hd13_len]; omega
  have hek := enc_len k
  walk_at "walk"
  refine SLI_neg (by omega) (by decide) (by omega) ?_
  have e1 : ((tree1 m k).drop (13 : Int).toNat).take ((tree1 m k).length - 1 - (13 : Int).toNat) = enc k := by
    have : (13 : Int).toNat = (hd13 m).length := by rw [hd13_len]; rfl
    rw [this, hl, tree1, List.append_assoc, List.drop_left, hd13_len, show (enc k).length + 14 - 1 - 13 = (enc k).length by omega, List.take_left]
  rw [e1]
  refine ES_nil (lawparted_ok B hG (by omega) fun b hb => ?_)
  walk_at "walk"
  refine EV_List ?_
  walk_at "walk"
  refine ⟨by show 1 ≤ sizeLine; decide, fun b2 hb2 => ?_⟩
  have hlt : (trees k).length ≤ siz k := by
    clear hb hb2 h hz hl hek e1
    induction k with
    | nil => exact Nat.le_refl _
    | cons m k r _ ih => simp only [trees, List.length_cons, siz]; omega
  have hb2b : b ≠ b2 := fun z => by rw [← z, Sto.put_self] at hb2; cases hb2
  refine BIN_addlist (ps := pvs (trees k)) (qs := [PV.str (mk [])]) (by rw [Sto.put_ne _ _ hb2b, Sto.put_self]) (Sto.put_self ..) (by simp [pvs]; omega) fun b3 hb3 => ?_
  intro o v hov hv B' hC
  have hpv : v = .ref b3 := pv_ref hv
  subst hpv
  refine EXS_cons (EX_AssignComp (cl := [("parts", L + 1)]) rfl rfl rfl (fun _ => rfl) rfl rfl rfl ?_ rfl (by decide) (ITR_range2 B' rfl rfl rfl rfl rfl rfl rfl ?_))
  · decide
  walk_at "walk"
  refine ⟨rfl, ?_⟩
  walk_at "walk"
  refine EV_cell rfl rfl rfl hC rfl ?_
  refine CL_len (Sto.put_self ..) (by simp [pvs]; omega) ?_
  walk_at "walk"
  refine ⟨(trees k).length, congrArg PV.int (by simp [pvs]), by omega, ?_⟩
  walk_at "walk"
  refine ⟨rfl, fun a2 C ha2 => ?_⟩
  have hTx : ∀ l ∈ trees k ++ [[]], Tx l ∧ l.length < 10000 := by
    intro l hl'
    rcases List.mem_append.mp hl' with h' | h'
    · have : ∀ (k : Fo), siz k < 500 → ∀ l ∈ trees k, Tx l ∧ l.length < 10000 := by
        intro k
        induction k with
        | nil => intro _ l hl; cases hl
        | cons m k r _ ih =>
          intro hz l hl
          simp only [siz] at hz
          rcases List.mem_cons.mp hl with rfl | hl
          · have h1 : (tree1 m k).length = (enc k).length + 14 := by simp [tree1, hd13_len]; omega
            have h2 := enc_len k
            exact ⟨.inr (by omega), by omega⟩
          · exact ih (by omega) l hl
      exact this k hz l h'
    · obtain rfl := List.mem_singleton.mp h'
      exact ⟨.inl rfl, by simp⟩
  have hlS : lenS (trees k) < 10000 := by
    have : ∀ (k : Fo), lenS (trees k) = (enc k).length := by
      intro k
      induction k with
      | nil => rfl
      | cons m k r _ ih => simp only [trees, lenS, List.map_cons, List.sum_cons, enc_cons, List.length_append] at *; omega
    rw [this, hek]; omega
  have hcnt : (rng2 (trees k).length).length = (pairUp (trees k)).length := by rw [pairUp_len]; simp [rng2]
  generalize hσ1 : (((σ.put b (pvs (trees k))).put b2 [PV.str (mk [])]).put b3 (pvs (trees k) ++ [PV.str (mk [])])) = σ1 at *
  have hσ1b : σ1 b3 = some (pvs (trees k) ++ [PV.str (mk [])]) := by rw [← hσ1, Sto.put_self]
  have hsub : Sub σ σ1 := by
    rw [← hσ1]
    refine Sub.trans (Sub.fresh hb) (Sub.trans (Sub.fresh hb2) (Sub.fresh hb3))
  have ha2b : b3 ≠ a2 := fun z => by rw [← z, hσ1b] at ha2; cases ha2
  refine compQ_ind0 _ (pvs (pairUp (trees k))) (by rw [hcnt]; simp [pvs]) (by simp only [pvs, List.length_map, pairUp_len]; omega) ?_ ?_
  · intro j p v hp hv'
    have hj : j < (rng2 (trees k).length).length := (List.getElem?_eq_some_iff.mp hp).1
    have hj2 : j < ((trees k).length + 1) / 2 := by simpa [rng2] using hj
    obtain rfl : p = PV.int ((2 * j : Nat) : Int) := by
      simp only [rng2, List.getElem?_map, List.getElem?_range hj2, Option.map_some, Option.some.injEq] at hp
      exact hp.symm
    obtain ⟨x, y, h1, h2, h3, h4, h5⟩ := pairUp_get (trees k) j hj2
    obtain rfl : v = .str (mk (joined x y)) := by
      rw [pvs, List.getElem?_map, h3] at hv'
      exact (Option.some.inj hv').symm
    have hpe : pvs (trees k) ++ [PV.str (mk [])] = pvs (trees k ++ [[]]) := by simp [pvs]
    have p1 : (pvs (trees k) ++ [PV.str (mk [])])[2 * j]? = some (.str (mk x)) := by rw [hpe, pvs, List.getElem?_map, h1]; rfl
    have p2 : (pvs (trees k) ++ [PV.str (mk [])])[2 * j + 1]? = some (.str (mk y)) := by rw [hpe, pvs, List.getElem?_map, h2]; rfl
    have hσ2 : (σ1.put a2 ((pvs (pairUp (trees k))).take j)) b3 = some (pvs (trees k) ++ [PV.str (mk [])]) := by rw [Sto.put_ne _ _ ha2b]; exact hσ1b
    generalize (σ1.put a2 ((pvs (pairUp (trees k))).take j)) = σ2 at *
    walk_at "walk"
    refine EV_cell rfl rfl rfl hC rfl ?_
    walk_at "walk"
    refine SUB_list (value := .Name "parts" _) hσ2 (by omega) (p := .str (mk x)) (by rw [Int.toNat_natCast]; exact p1) (by omega) (fun _ => rfl) ?_
    walk_at "walk"
    refine EV_cell rfl rfl rfl hC rfl ?_
    walk_at "walk"
    refine SUB_list (value := .Name "parts" _) hσ2 (by omega) (p := .str (mk y)) (by rw [show ((2 * j : Nat) : Int) + 1 = ((2 * j + 1 : Nat) : Int) by omega, Int.toNat_natCast]; exact p2) (by omega) (fun _ => rfl) ?_
    walk_at "walk"
    exact lawjoined_ok B' (hTx x h4).1 (hTx y h5).1 (hTx x h4).2 (hTx y h5).2 ⟨rfl, rfl⟩
  · show seqQ _ _ _ _ _ _ _ _
    walk_at "walk"
    refine ITR_list (EV_sliceRev ?_)
    walk_at "walk"
    refine ⟨a2, rfl, ?_⟩
    walk_at "walk"
    refine ⟨rfl, _, Sto.put_self .., by simp only [pvs, List.length_map, pairUp_len]; show _ ≤ 2 ^ 24; omega, fun a3 ha3 => ⟨a3, _, rfl, Sto.put_self .., ?_⟩⟩
    have hw : (pairUp (trees k)).reverse.foldl (fun left pair => joined pair left) [] = without k := by rw [List.foldl_reverse]; rfl
    have hrev : (pvs (pairUp (trees k))).reverse = pvs (pairUp (trees k)).reverse := by simp [pvs]
    have hpT : ∀ l ∈ (pairUp (trees k)).reverse, Tx l := fun l hl => pairUp_Tx _ (fun l hl => (hTx l (List.mem_append_left _ hl)).1) l (List.mem_reverse.mp hl)
    have hpS : lenS (pairUp (trees k)).reverse < 10000 := by
      have : lenS (pairUp (trees k)).reverse = lenS (pairUp (trees k)) := by simp only [lenS, List.map_reverse, List.sum_reverse]
      rw [this, pairUp_lenS]; exact hlS
    rw [hrev]
    generalize hσ3 : Sto.drop _ a3 = σ3
    refine forQ_ind (D := List (List Nat) × List Nat) (fun d => Loc.of [("left", .str (mk d.2))]) (fun _ => σ3) (fun ps d => ps = pvs d.1 ∧ d.1.foldl (fun left pair => joined pair left) d.2 = without k ∧ (∀ l ∈ d.1, Tx l) ∧ Tx d.2 ∧ lenS d.1 + d.2.length < 10000) ?_ ?_ _ ((pairUp (trees k)).reverse, []) ⟨rfl, hw, hpT, .inl rfl, by simpa using hpS⟩ (by walk_at "le") rfl
    · rintro p ps ⟨ds, left⟩ ⟨e1, e2, e3, e4, e5⟩
      dsimp only at e1 e2 e3 e4 e5
      cases ds with
      | nil => cases e1
      | cons d ds =>
        obtain ⟨rfl, rfl⟩ : p = .str (mk d) ∧ ps = pvs ds := by simpa [pvs] using e1
        have hl5 : d.length + (lenS ds + left.length) < 10000 := by simp only [lenS, List.map_cons, List.sum_cons] at e5 ⊢; omega
        walk_at "walk"
        refine lawjoined_ok B' (e3 d (by simp)) e4 (show d.length < 10000 by omega) (show left.length < 10000 by omega) ?_
        walk_at "walk"
        refine ⟨(ds, joined d left), ⟨rfl, e2, fun l hl => e3 l (by simp [hl]), (e3 d (by simp)).joined e4, ?_⟩, by walk_at "le", rfl⟩
        dsimp only
        rw [joined_len]; omega
    · rintro ⟨ds, left⟩ ⟨e1, e2, e3, e4, e5⟩
      dsimp only at e1 e2
      cases ds with
      | cons d ds => cases e1
      | nil =>
        obtain rfl : left = without k := e2
        walk_at "walk"
        refine ⟨σ, ?_, h⟩
        intro a' l' e'
        have h1 := hsub a' l' e'
        have n2 : a' ≠ a2 := fun z => by rw [z, ha2] at h1; cases h1
        have h2 := (Sto.put_ne σ1 (pvs (pairUp (trees k))) n2).trans h1
        have n3 : a' ≠ a3 := fun z => by rw [z, ha3] at h2; cases h2
        rw [← hσ3, Sto.drop_ne n3, Sto.put_ne _ _ n3]; exact h2

/-! L2 -/
/-- a mode that its signs tell -/
noncomputable def Vm (m : Int) : Prop := rd (fm m) = m
noncomputable def Fv : Fo → Prop
  | .nil => True
  | .cons m k r => Vm m ∧ Fv k ∧ Fv r
noncomputable def Root : Fo → Prop
  | .nil => True
  | .cons _ _ .nil => True
  | _ => False
noncomputable def meld : Fo → Fo → Fo
  | .nil, t => t
  | t, .nil => t
  | .cons a k _, .cons b k' _ => if b < a then .cons b (.cons a k k') .nil else .cons a (.cons b k' k) .nil
noncomputable def sing (m : Int) : Fo := .cons m .nil .nil
noncomputable def treesF : Fo → List Fo
  | .nil => []
  | .cons m k r => .cons m k .nil :: treesF r
noncomputable def pairF : List Fo → List Fo
  | [] => []
  | [a] => [a]
  | a :: b :: r => meld a b :: pairF r
noncomputable def wo (k : Fo) : Fo := (pairF (treesF k)).foldr meld .nil

theorem enc_tree (m : Int) (k : Fo) : enc (.cons m k .nil) = tree1 m k := by simp [enc, tree1]
theorem single_enc (m : Int) : single m = enc (sing m) := by simp [single, sing, enc, hd13]
theorem tree_ne (m : Int) (k : Fo) : tree1 m k ≠ [] := fun z => by
  have := congrArg List.length z
  simp [tree1] at this
theorem tree_rd (m : Int) (k : Fo) : ((tree1 m k).drop 1).take 10 = fm m := by
  have e : tree1 m k = 40 :: (fm m ++ ([92, esc m] ++ enc k ++ [41])) := by simp [tree1, hd13]
  rw [e]
  show (fm m ++ _).take 10 = fm m
  rw [← fm_len m, List.take_left]
theorem tree_hd (m : Int) (k : Fo) : (tree1 m k).take 13 = hd13 m := by
  rw [tree1, List.append_assoc, ← hd13_len m, List.take_left]
theorem tree_tl (m : Int) (k : Fo) : (tree1 m k).drop 13 = enc k ++ [41] := by
  rw [tree1, List.append_assoc, ← hd13_len m, List.drop_left]

theorem joined_enc {s t : Fo} (hs : Root s) (ht : Root t) (vs : Fv s) (vt : Fv t) : joined (enc s) (enc t) = enc (meld s t) := by
  match s, t, hs, ht, vs, vt with
  | .nil, t, _, _, _, _ => simp [joined, enc, meld]
  | .cons a k .nil, .nil, _, _, _, _ => simp [joined, enc, meld]
  | .cons a k .nil, .cons b k' .nil, _, _, va, vb =>
    have ha : rd (fm a) = a := va.1
    have hb : rd (fm b) = b := vb.1
    rw [enc_tree, enc_tree]
    unfold joined
    rw [if_neg (by simp [tree_ne]), tree_rd, tree_rd, ha, hb, tree_hd, tree_hd, tree_tl, tree_tl]
    simp only [meld]
    split
    · simp [enc, tree1]
    · simp [enc, tree1]
theorem meld_root {s t : Fo} (hs : Root s) (ht : Root t) : Root (meld s t) := by
  match s, t, hs, ht with
  | .nil, t, _, ht => simpa [meld] using ht
  | .cons a k .nil, .nil, hs, _ => simpa [meld] using hs
  | .cons a k .nil, .cons b k' .nil, _, _ => simp only [meld]; split <;> trivial
theorem meld_fv {s t : Fo} (vs : Fv s) (vt : Fv t) : Fv (meld s t) := by
  match s, t, vs, vt with
  | .nil, t, _, vt => simpa [meld] using vt
  | .cons a k r, .nil, vs, _ => simpa [meld] using vs
  | .cons a k r, .cons b k' r', va, vb =>
    simp only [meld]
    split
    · exact ⟨vb.1, ⟨va.1, va.2.1, vb.2.1⟩, trivial⟩
    · exact ⟨va.1, ⟨vb.1, vb.2.1, va.2.1⟩, trivial⟩
theorem meld_siz {s t : Fo} (hs : Root s) (ht : Root t) : siz (meld s t) = siz s + siz t := by
  match s, t, hs, ht with
  | .nil, t, _, _ => simp [meld, siz]
  | .cons a k .nil, .nil, _, _ => simp [meld, siz]
  | .cons a k .nil, .cons b k' .nil, _, _ => simp only [meld]; split <;> simp only [siz] <;> omega

theorem trees_enc : ∀ k, trees k = (treesF k).map enc
  | .nil => rfl
  | .cons m k r => by simp only [trees, treesF, List.map_cons, trees_enc r, enc_tree]
theorem treesF_ok : ∀ k, Fv k → ∀ t ∈ treesF k, Root t ∧ Fv t
  | .nil, _, t, h => by cases h
  | .cons m k r, hv, t, h => by
    rcases List.mem_cons.mp h with rfl | h
    · exact ⟨trivial, hv.1, hv.2.1, trivial⟩
    · exact treesF_ok r hv.2.2 t h
theorem pairF_ok : ∀ ts : List Fo, (∀ t ∈ ts, Root t ∧ Fv t) → (∀ t ∈ pairF ts, Root t ∧ Fv t) ∧ pairUp (ts.map enc) = (pairF ts).map enc
  | [], _ => ⟨fun t h => (nomatch h), rfl⟩
  | [a], h => ⟨fun t ht => h t ht, by
      have := joined_enc (t := .nil) (h a (by simp)).1 trivial (h a (by simp)).2 trivial
      have e : meld a .nil = a := by cases a <;> rfl
      rw [e] at this
      show [joined (enc a) (enc .nil)] = [enc a]
      rw [this]⟩
  | a :: b :: r, h => by
    obtain ⟨h1, h2⟩ := pairF_ok r fun t ht => h t (by simp [ht])
    have ha := h a (by simp)
    have hb := h b (by simp)
    refine ⟨fun t ht => ?_, ?_⟩
    · rcases List.mem_cons.mp ht with rfl | ht
      · exact ⟨meld_root ha.1 hb.1, meld_fv ha.2 hb.2⟩
      · exact h1 t ht
    · simp only [List.map_cons, pairUp, pairF, h2, joined_enc ha.1 hb.1 ha.2 hb.2]
theorem fold_ok : ∀ ts : List Fo, (∀ t ∈ ts, Root t ∧ Fv t) → (Root (ts.foldr meld .nil) ∧ Fv (ts.foldr meld .nil)) ∧ (ts.map enc).foldr joined [] = enc (ts.foldr meld .nil)
  | [], _ => ⟨⟨trivial, trivial⟩, rfl⟩
  | a :: r, h => by
    obtain ⟨⟨h1, h2⟩, h3⟩ := fold_ok r fun t ht => h t (by simp [ht])
    have ha := h a (by simp)
    exact ⟨⟨meld_root ha.1 h1, meld_fv ha.2 h2⟩, by simp only [List.map_cons, List.foldr_cons, h3, joined_enc ha.1 h1 ha.2 h2]⟩
theorem without_enc {k : Fo} (hv : Fv k) : without k = enc (wo k) ∧ Root (wo k) ∧ Fv (wo k) := by
  obtain ⟨h1, h2⟩ := pairF_ok _ (treesF_ok k hv)
  obtain ⟨h3, h4⟩ := fold_ok _ h1
  refine ⟨?_, h3⟩
  unfold without wo
  rw [trees_enc, h2, h4]

/-- the modes in a forest -/
noncomputable def bag : Fo → List Int
  | .nil => []
  | .cons m k r => m :: (bag k ++ bag r)
theorem bag_len : ∀ F, (bag F).length = siz F
  | .nil => rfl
  | .cons m k r => by simp only [bag, List.length_cons, List.length_append, bag_len k, bag_len r, siz]
theorem meld_bag {s t : Fo} (hs : Root s) (ht : Root t) : (bag (meld s t)).Perm (bag s ++ bag t) := by
  match s, t, hs, ht with
  | .nil, t, _, _ => simp [meld, bag]
  | .cons a k .nil, .nil, _, _ => simp [meld, bag]
  | .cons a k .nil, .cons b k' .nil, _, _ =>
    simp only [meld]
    split
    · simp only [bag, List.append_nil]
      refine (List.perm_middle (l₁ := a :: bag k)).symm.trans ?_
      exact List.Perm.refl _
    · simp only [bag, List.append_nil]
      show (a :: ((b :: bag k') ++ bag k)).Perm (a :: (bag k ++ b :: bag k'))
      exact List.Perm.cons _ List.perm_append_comm
/-- the least on top, all the way down -/
noncomputable def Hp : Fo → Prop
  | .nil => True
  | .cons m k r => (∀ x ∈ bag k, m ≤ x) ∧ Hp k ∧ Hp r
theorem meld_hp {s t : Fo} (hs : Root s) (ht : Root t) (ps : Hp s) (pt : Hp t) : Hp (meld s t) := by
  match s, t, hs, ht, ps, pt with
  | .nil, t, _, _, _, pt => simpa [meld] using pt
  | .cons a k .nil, .nil, _, _, ps, _ => simpa [meld] using ps
  | .cons a k .nil, .cons b k' .nil, _, _, pa, pb =>
    simp only [meld]
    split
    · rename_i h
      refine ⟨fun x hx => ?_, ⟨pa.1, pa.2.1, pb.2.1⟩, trivial⟩
      simp only [bag, List.mem_cons, List.mem_append] at hx
      rcases hx with rfl | hx | hx
      · omega
      · have := pa.1 x hx; omega
      · exact pb.1 x hx
    · rename_i h
      refine ⟨fun x hx => ?_, ⟨pb.1, pb.2.1, pa.2.1⟩, trivial⟩
      simp only [bag, List.mem_cons, List.mem_append] at hx
      rcases hx with rfl | hx | hx
      · omega
      · have := pb.1 x hx; omega
      · exact pa.1 x hx
noncomputable def bags (ts : List Fo) : List Int := ts.flatMap bag
theorem treesF_bag : ∀ k, bags (treesF k) = bag k
  | .nil => rfl
  | .cons m k r => by
    have := treesF_bag r
    simp only [bags, treesF, List.flatMap_cons, bag, List.append_nil] at *
    rw [this]; simp
theorem treesF_hp : ∀ k, Hp k → ∀ t ∈ treesF k, Root t ∧ Hp t
  | .nil, _, t, h => by cases h
  | .cons m k r, hv, t, h => by
    rcases List.mem_cons.mp h with rfl | h
    · exact ⟨trivial, hv.1, hv.2.1, trivial⟩
    · exact treesF_hp r hv.2.2 t h
theorem pairF_bag : ∀ ts : List Fo, (∀ t ∈ ts, Root t ∧ Hp t) → (∀ t ∈ pairF ts, Root t ∧ Hp t) ∧ (bags (pairF ts)).Perm (bags ts)
  | [], _ => ⟨fun t h => (nomatch h), .refl _⟩
  | [a], h => ⟨fun t ht => h t ht, .refl _⟩
  | a :: b :: r, h => by
    obtain ⟨h1, h2⟩ := pairF_bag r fun t ht => h t (by simp [ht])
    have ha := h a (by simp)
    have hb := h b (by simp)
    refine ⟨fun t ht => ?_, ?_⟩
    · rcases List.mem_cons.mp ht with rfl | ht
      · exact ⟨meld_root ha.1 hb.1, meld_hp ha.1 hb.1 ha.2 hb.2⟩
      · exact h1 t ht
    · simp only [bags, pairF, List.flatMap_cons] at *
      rw [← List.append_assoc]
      exact (meld_bag ha.1 hb.1).append h2
theorem fold_bag : ∀ ts : List Fo, (∀ t ∈ ts, Root t ∧ Hp t) → (Root (ts.foldr meld .nil) ∧ Hp (ts.foldr meld .nil)) ∧ (bag (ts.foldr meld .nil)).Perm (bags ts)
  | [], _ => ⟨⟨trivial, trivial⟩, .refl _⟩
  | a :: r, h => by
    obtain ⟨⟨h1, h2⟩, h3⟩ := fold_bag r fun t ht => h t (by simp [ht])
    have ha := h a (by simp)
    refine ⟨⟨meld_root ha.1 h1, meld_hp ha.1 h1 ha.2 h2⟩, ?_⟩
    simp only [bags, List.flatMap_cons, List.foldr_cons] at *
    exact (meld_bag ha.1 h1).trans (List.Perm.append (.refl _) h3)
theorem wo_bag {k : Fo} (hp : Hp k) : (bag (wo k)).Perm (bag k) ∧ Root (wo k) ∧ Hp (wo k) := by
  obtain ⟨h1, h2⟩ := pairF_bag _ (treesF_hp k hp)
  obtain ⟨h3, h4⟩ := fold_bag _ h1
  exact ⟨(h4.trans h2).trans (by rw [treesF_bag]), h3⟩

/-! T7 -/
noncomputable def topF : Fo → Int
  | .nil => 0
  | .cons m _ _ => m
noncomputable def restF : Fo → Fo
  | .nil => .nil
  | .cons _ k _ => wo k
/-- what goes out and what is left -/
noncomputable def dueF (deed : Nat) (t : Fo) (mode : Int) : PV × Fo :=
  match deed with
  | 0 => (.none, meld t (sing mode))
  | 1 => (.none, meld t (sing mode))
  | 2 => (.int (topF t), meld (restF t) (sing mode))
  | 3 => (.int (topF (meld t (sing mode))), restF (meld t (sing mode)))
  | _ => (.int (topF t), restF t)

theorem pairF_siz : ∀ ts : List Fo, (∀ t ∈ ts, Root t) → (∀ t ∈ pairF ts, Root t) ∧ ((pairF ts).map siz).sum = (ts.map siz).sum
  | [], _ => ⟨fun t h => (nomatch h), rfl⟩
  | [a], h => ⟨h, rfl⟩
  | a :: b :: r, h => by
    obtain ⟨h1, h2⟩ := pairF_siz r fun t ht => h t (by simp [ht])
    refine ⟨fun t ht => ?_, ?_⟩
    · rcases List.mem_cons.mp ht with rfl | ht
      · exact meld_root (h a (by simp)) (h b (by simp))
      · exact h1 t ht
    · simp only [pairF, List.map_cons, List.sum_cons, h2, meld_siz (h a (by simp)) (h b (by simp))]; omega
theorem fold_siz : ∀ ts : List Fo, (∀ t ∈ ts, Root t) → Root (ts.foldr meld .nil) ∧ siz (ts.foldr meld .nil) = (ts.map siz).sum
  | [], _ => ⟨trivial, rfl⟩
  | a :: r, h => by
    obtain ⟨h1, h2⟩ := fold_siz r fun t ht => h t (by simp [ht])
    exact ⟨meld_root (h a (by simp)) h1, by simp only [List.foldr_cons, List.map_cons, List.sum_cons, meld_siz (h a (by simp)) h1, h2]⟩
theorem treesF_siz : ∀ k, (∀ t ∈ treesF k, Root t) ∧ ((treesF k).map siz).sum = siz k
  | .nil => ⟨fun t h => (nomatch h), rfl⟩
  | .cons m k r => by
    obtain ⟨h1, h2⟩ := treesF_siz r
    refine ⟨fun t ht => ?_, ?_⟩
    · rcases List.mem_cons.mp ht with rfl | ht
      · trivial
      · exact h1 t ht
    · simp only [treesF, List.map_cons, List.sum_cons, h2, siz]; omega
theorem wo_siz (k : Fo) : siz (wo k) = siz k := by
  obtain ⟨h1, h2⟩ := treesF_siz k
  obtain ⟨h3, h4⟩ := pairF_siz _ h1
  rw [wo, (fold_siz _ h3).2, h4, h2]

theorem enc_tx (t : Fo) : Tx (enc t) := by
  cases t with
  | nil => exact .inl rfl
  | cons m k r => exact .inr (by rw [enc_len]; simp only [siz]; omega)
theorem root_cases {t : Fo} (h : Root t) (hn : t ≠ .nil) : ∃ m k, t = .cons m k .nil := by
  match t, h, hn with
  | .cons m k .nil, _, _ => exact ⟨m, k, rfl⟩
theorem meld_ne {s t : Fo} (h : t ≠ .nil) : meld s t ≠ .nil := by
  match s, t, h with
  | .nil, t, h => simpa [meld] using h
  | .cons a k r, .cons b k' r', _ => simp only [meld]; split <;> simp

theorem SLI_top {σ : Sto} {m : Int} {k : Fo} {Q : PV → Sto → Prop} (hz : siz k < 500) (h : Q (.str (mk (fm m))) σ) : SLI (.str (mk (enc (.cons m k .nil)))) (some 1) (some 11) σ Q := by
  have hl := enc_len (.cons m k .nil)
  simp only [siz] at hl
  refine SLI_ss (by omega) (by decide) (by decide) (by omega) ?_
  have : ((enc (.cons m k .nil)).drop (1 : Int).toNat).take ((11 : Int).toNat - (1 : Int).toNat) = fm m := by rw [enc_tree]; exact tree_rd m k
  rw [this]; exact h

theorem lawdue_ok {R : Rn} {r : Nat} {σ : Sto} {deed : Nat} {tl : Addr} {ps : List PV} {which : Nat} {t : Fo} {mode : Int} {Q : PV → Sto → Prop} (B : Base R) (T : Tab R) (hG : R.G = AllBare) (hd : deed < 5) (hwb : which < 1000000)
    (hps : σ tl = some ps) (hw : ps[which]? = some (.str (mk (enc t)))) (hr : Root t) (hv : Fv t) (hz : siz t < 100) (hm : Vm mode) (hne : deed = 2 ∨ deed = 4 → t ≠ .nil)
    (h : Q (dueF deed t mode).1 (σ.put tl (ps.set which (.str (mk (enc (dueF deed t mode).2)))))) : CF R (r + 8) "_law_due" [.int deed, .ref tl, .int which, .int mode] σ Q := by
  refine CF_of B rfl (fun pm cd doc vals hv => ?_) rfl rfl rfl rfl rfl (fun L a cd => ?_)
  · obtain ⟨_, _, _, _, rfl⟩ := len4 hv
    rfl
  have hwl : which < ps.length := (List.getElem?_eq_some_iff.mp hw).1
  have hsv : Fv (sing mode) := ⟨hm, trivial, trivial⟩
  have hsr : Root (sing mode) := trivial
  have hlen : ∀ t : Fo, siz t < 200 → (enc t).length < 10000 := fun t h => by rw [enc_len]; omega
  have hs1 : siz (sing mode) = 1 := rfl
  have hidx : (ps)[(which : Int).toNat]? = some (.str (mk (enc t))) := by rw [Int.toNat_natCast]; exact hw
  have hset : ∀ {x : PV} {Q' : Unit → Sto → Prop}, which < 1000000 → Q' () (σ.put tl (ps.set which x)) → SETI R (r + 7) (.ref tl) (.int which) x σ Q' := fun hb hq =>
    SETI_list hps (by omega) (by omega) (by omega) (by rw [Int.toNat_natCast]; exact hq)
  rcases (by omega : deed = 0 ∨ deed = 1 ∨ deed = 2 ∨ deed = 3 ∨ deed = 4) with rfl | rfl | rfl | rfl | rfl
  · walk_at "walk"
    refine SUB_list hps (by omega) hidx (by omega) (fun _ => rfl) ?_
    walk_at "walk"
    refine lawsingle_ok B T ?_
    rw [single_enc]
    walk_at "walk"
    refine lawjoined_ok B (enc_tx t) (enc_tx _) (hlen _ (by omega)) (hlen _ (by omega)) ?_
    rw [joined_enc hr hsr hv hsv]
    walk_at "walk"
    refine hset hwb ?_
    walk_at "walk"
    exact h
  · walk_at "walk"
    refine SUB_list hps (by omega) hidx (by omega) (fun _ => rfl) ?_
    walk_at "walk"
    refine lawsingle_ok B T ?_
    rw [single_enc]
    walk_at "walk"
    refine lawjoined_ok B (enc_tx t) (enc_tx _) (hlen _ (by omega)) (hlen _ (by omega)) ?_
    rw [joined_enc hr hsr hv hsv]
    walk_at "walk"
    refine hset hwb ?_
    walk_at "walk"
    exact h
  · walk_at "walk"
    obtain ⟨m, k, rfl⟩ := root_cases hr (hne (.inl rfl))
    have hvm : rd (fm m) = m := hv.1
    obtain ⟨w1, w2, w3⟩ := without_enc hv.2.1
    have hzk : siz k < 100 := by simp only [siz] at hz; omega
    have hzw : siz (wo k) < 200 := by have := congrArg List.length w1; rw [enc_len] at this; have h2 := wo_siz k; omega
    refine SUB_list hps (by omega) hidx (by omega) (fun _ => rfl) ?_
    walk_at "walk"
    refine SLI_top (by omega) (ES_nil (lawread_ok B (fm_len m) ?_))
    rw [hvm]
    walk_at "walk"
    rw [enc_tree]
    refine lawwithout_ok B hG (by omega) ?_
    rw [w1]
    walk_at "walk"
    refine lawsingle_ok B T ?_
    rw [single_enc]
    walk_at "walk"
    refine lawjoined_ok B (enc_tx _) (enc_tx _) (hlen _ hzw) (hlen _ (by omega)) ?_
    rw [joined_enc w2 hsr w3 hsv]
    walk_at "walk"
    refine hset hwb ?_
    walk_at "walk"
    exact h
  · have hmr := meld_root hr hsr
    have hmv := meld_fv hv hsv
    have hms := meld_siz hr hsr
    have hmn : meld t (sing mode) ≠ .nil := meld_ne (by simp [sing])
    have hj := joined_enc hr hsr hv hsv
    change Q (.int (topF (meld t (sing mode)))) (σ.put tl (ps.set which (.str (mk (enc (restF (meld t (sing mode)))))))) at h
    generalize meld t (sing mode) = t' at *
    obtain ⟨m, k, rfl⟩ := root_cases hmr hmn
    have hvm : rd (fm m) = m := hmv.1
    obtain ⟨w1, w2, w3⟩ := without_enc hmv.2.1
    have hzk : siz k < 200 := by simp only [siz] at hms; omega
    walk_at "walk"
    refine SUB_list hps (by omega) hidx (by omega) (fun _ => rfl) ?_
    walk_at "walk"
    refine lawsingle_ok B T ?_
    rw [single_enc]
    walk_at "walk"
    refine lawjoined_ok B (enc_tx t) (enc_tx _) (hlen _ (by omega)) (hlen _ (by omega)) ?_
    rw [hj]
    walk_at "walk"
    refine SLI_top (by omega) (ES_nil (lawread_ok B (fm_len m) ?_))
    rw [hvm]
    walk_at "walk"
    rw [enc_tree]
    refine lawwithout_ok B hG (by omega) ?_
    rw [w1]
    walk_at "walk"
    refine hset hwb ?_
    walk_at "walk"
    exact h
  · walk_at "walk"
    obtain ⟨m, k, rfl⟩ := root_cases hr (hne (.inr rfl))
    have hvm : rd (fm m) = m := hv.1
    obtain ⟨w1, w2, w3⟩ := without_enc hv.2.1
    have hzk : siz k < 100 := by simp only [siz] at hz; omega
    refine SUB_list hps (by omega) hidx (by omega) (fun _ => rfl) ?_
    walk_at "walk"
    refine SLI_top (by omega) (ES_nil (lawread_ok B (fm_len m) ?_))
    rw [hvm]
    walk_at "walk"
    rw [enc_tree]
    refine lawwithout_ok B hG (by omega) ?_
    rw [w1]
    walk_at "walk"
    refine hset hwb ?_
    walk_at "walk"
    exact h

/-! M17 -/
section
variable {R : Rn} {r : Nat} {env : Env} {ρ : Loc} {σ : Sto}
theorem ints_of : ∀ {vs : List Value} {ns : List Int}, vs.map pv = pvi ns → IntsAre vs ns
  | [], [], _ => .nil
  | [], n :: ns, h => by cases h
  | v :: vs, [], h => by cases h
  | v :: vs, n :: ns, h => by
    simp only [List.map_cons, pvi, List.cons.injEq] at h
    obtain ⟨t, rfl⟩ := pv_int h.1
    exact .cons n t (ints_of h.2)
theorem of_ints : ∀ {vs : List Value} {ns : List Int}, IntsAre vs ns → vs.map pv = pvi ns
  | _, _, .nil => rfl
  | _, _, .cons n t r => by
    have := of_ints r
    simp only [List.map_cons, pvi] at *
    rw [this]; rfl

theorem CL_sorted {l : Addr} {ns : List Int} {Q : PV → Sto → Prop} (hl : σ l = some (pvi ns)) (hz : ns.length < 64) (h : ∀ a ns', σ a = none → ns'.Perm ns → ns'.Pairwise (· ≤ ·) → Q (.ref a) (σ.put a (pvi ns'))) : CL R r (.builtin "sorted") [.ref l] σ Q := fun vals hv A hA s S => by
  obtain ⟨v, rfl, hw⟩ := one_of hv
  rw [pv_ref hw]
  obtain ⟨vs, hp, hv⟩ := S.list hl
  have hI := ints_of hv
  have hlen : vs.length = ns.length := by have := congrArg List.length hv; simpa [pvi] using this
  refine sorted_ints hp.isList hI (by omega) fun out ns' a1 a2 a3 => ?_
  obtain ⟨e, he⟩ := sortedAll_at s.heap vs out
  have hno : ∀ b, s.heap.objs.size ≤ b → s.heap.get? b = none := fun b hb => by
    cases h : s.heap.get? b with
    | none => rfl
    | some o => exact absurd (Heap.lt_size h) (Nat.not_lt.mpr hb)
  have hn1 := hno _ (Nat.le_succ s.heap.objs.size)
  have hσ : σ (s.heap.objs.size + 1) = none := by
    cases q : σ (s.heap.objs.size + 1) with
    | none => rfl
    | some l' => obtain ⟨⟨vs, ⟨n, e⟩, _⟩, _⟩ := S.lists _ l' q; rw [hn1] at e; cases e
  refine ⟨σ.put (s.heap.objs.size + 1) (pvi ns'), ⟨fun b o e => sortedAll_old (S.keep b o e), fun a l' q => ?_, S.os, S.bare⟩, fun b o e q => ⟨sortedAll_old e, ?_⟩, h _ ns' hσ a2 a3⟩
  · by_cases hb : a = s.heap.objs.size + 1
    · subst hb
      rw [Sto.put_self] at q; cases q
      refine ⟨⟨out.toList, ⟨e, by simpa [seqObj] using he⟩, of_ints a1⟩, ?_⟩
      cases q : R.h₀.get? (s.heap.objs.size + 1) with
      | none => rfl
      | some o => rw [S.keep _ _ q] at hn1; cases hn1
    · rw [Sto.put_ne _ _ hb] at q
      obtain ⟨⟨ws, ⟨n, e⟩, hw⟩, hn⟩ := S.lists a l' q
      exact ⟨⟨ws, ⟨n, sortedAll_old e⟩, hw⟩, hn⟩
  · rw [Sto.put_ne _ _ (fun z => by rw [z, hn1] at e; cases e)]; exact q

theorem EV_sorted {p pos : Pos} {e : Expr} {Q : PV → Sto → Prop} (B : Base R) (hk : env.scope.kind = .function) (hx : env.kindOf "sorted" = some .globalImplicit) (hg : env.globals = mainGlobals) (hgb : env.builtins = builtinsNs)
    (he : starEach [e] env = [(false, eval e env)]) (h : EV R r env e ρ σ fun a σ₁ => CL R r (.builtin "sorted") [a] σ₁ Q) : EV R r env (.Call (.Name "sorted" p) [e] [] pos) ρ σ Q :=
  EV_CallB B (by decide +kernel) (by decide) (by decide) hk hx hg hgb (by decide) he rfl rfl (ES_cons he (EV.mono h fun _ _ h => ES_nil h))

theorem CMP_nel {a b : Addr} {ns ms : List Int} {Q : PV → Sto → Prop} (ha : σ a = some (pvi ns)) (hb : σ b = some (pvi ms)) (h : Q (.bool (!decide (ns = ms))) σ) : CMP R r .NotEq (.ref a) (.ref b) σ Q := fun va vb ea eb A hA s S => by
  rw [pv_ref ea, pv_ref eb]
  obtain ⟨vs, hp, hv⟩ := S.list ha
  obtain ⟨ws, hq, hw⟩ := S.list hb
  exact PySem.W.ke_ne_ints hp.isList hq.isList (ints_of hv) (ints_of hw) (by have := hA.un; omega) (Post.now S h)
theorem CMP_eql {a b : Addr} {ns ms : List Int} {Q : PV → Sto → Prop} (ha : σ a = some (pvi ns)) (hb : σ b = some (pvi ms)) (h : Q (.bool (decide (ns = ms))) σ) : CMP R r .Eq (.ref a) (.ref b) σ Q := fun va vb ea eb A hA s S => by
  rw [pv_ref ea, pv_ref eb]
  obtain ⟨vs, hp, hv⟩ := S.list ha
  obtain ⟨ws, hq, hw⟩ := S.list hb
  exact PySem.W.ke_eq_ints hp.isList hq.isList (ints_of hv) (ints_of hw) (by have := hA.un; omega) (Post.now S h)

/-- a slice of a list that the caller gave -/
theorem EV_sliceOld {value upper : Expr} {p pos : Pos} {l : Addr} {vs : List Value} {ns : List Int} {u : Int} {Q : PV → Sto → Prop} (hl : R.h₀.IsList l vs.toArray) (hI : IntsAre vs ns) (hz : vs.length < 1000000)
    (h : EV R r env value ρ σ fun o σ₁ => o = .ref l ∧ EV R r env upper ρ σ₁ fun k σ₂ => k = .int u ∧ ∀ a, σ₂ a = none → Q (.ref a) (σ₂.put a (pvi (pick ns none (some u))))) :
    EV R r env (.Subscript value (.Slice none (some upper) none p) pos) ρ σ Q := fun A hA s S F => by
  refine Subscript_ (wpAny_mono (h A hA s S F) (fun o s₁ ⟨σ₁, S₁, g₁, eo, h₁⟩ => ?_) fun _ _ x => x)
  rw [pv_ref eo]
  refine wpAny_Slice ?_
  rw [evalPart_none]
  refine wpAny_pure ?_
  refine wpAny_mono (EP_some (K := fun k σ₂ => k = some u ∧ ∀ a, σ₂ a = none → Q (.ref a) (σ₂.put a (pvi (pick ns none (some u))))) (EV.mono h₁ fun k σ₂ ⟨e, hq⟩ => ⟨u, e, rfl, hq⟩) A hA s₁ S₁ (F.go S g₁)) (fun vu s₃ ⟨σ₃, hi, S₃, g₃, pu, e, h₃⟩ => ?_) fun _ _ x => x
  subst e
  refine wpAny_pure ?_
  have S₄ := S₃.push { cls := .type "slice", data := .fields #[.none, vu, .none] } s₃.toks
  have g₄ := (g₁.trans g₃).trans (Go.push { cls := .type "slice", data := .fields #[.none, vu, .none] } s₃.toks)
  have hp : (s₃.heap.push { cls := .type "slice", data := .fields #[.none, vu, .none] }).IsList l vs.toArray := by
    obtain ⟨o, ho, r⟩ := hl
    exact ⟨o, S₄.keep l o ho, r⟩
  refine tail_any hp.typeIs slot_list_getitem.lookup (wpAny_getItem_list_slice hp (Heap.IsSliceOf.new ..) .none pu .none (by simp) ?_ (by rw [List.size_toArray]; show _ ≤ 2 ^ 24; omega)) rfl
  rw [W.kms_pick_eq]
  obtain ⟨a, b, c⟩ := S₄.newList (W.kms_pick vs none (some u))
  refine ⟨_, a, g₄.trans b, ?_⟩
  have : (W.kms_pick vs none (some u)).map pv = pvi (pick ns none (some u)) := by
    have e1 : (W.kms_pick vs none (some u)).map pv = pick (vs.map pv) none (some u) := pick_map pv vs none (some u)
    rw [e1, of_ints hI]
    exact (pick_map PV.int ns none (some u)).symm
  rw [this]
  exact h₃ _ c
end
theorem sorted_uniq : ∀ {xs ys : List Int}, xs.Perm ys → xs.Pairwise (· ≤ ·) → ys.Pairwise (· ≤ ·) → xs = ys := fun h h1 h2 =>
  List.Perm.eq_of_pairwise (fun a b _ _ h1 h2 => Int.le_antisymm h1 h2) h1 h2 h

/-! T8 -/
/-- what is left to read -/
noncomputable def sfx : List Fo → List Nat
  | [] => []
  | [F] => enc F
  | F :: G :: r => enc F ++ 41 :: sfx (G :: r)
theorem sfx_cons (m : Int) (k r : Fo) : ∀ st, sfx (.cons m k r :: st) = hd13 m ++ sfx (k :: r :: st)
  | [] => by simp [sfx, enc]
  | G :: st => by simp [sfx, enc]
theorem bags_cons (F : Fo) (st : List Fo) : bags (F :: st) = bag F ++ bags st := by simp [bags]
noncomputable def FvL (st : List Fo) : Prop := ∀ F ∈ st, Fv F

theorem lawheld_ok {R : Rn} {r : Nat} {σ : Sto} {F : Fo} {Q : PV → Sto → Prop} (B : Base R) (hv : Fv F) (hz : siz F < 60)
    (h : ∀ a ns', σ a = none → ns'.Perm (bag F) → ns'.Pairwise (· ≤ ·) → Q (.ref a) (σ.put a (pvi ns'))) : CF R (r + 2) "_law_held" [.str (mk (enc F))] σ Q := by
  refine CF_weak (CF_of B rfl (fun pm cd doc vals hv => ?_) rfl rfl rfl rfl rfl (fun L a cd => ?_))
  · obtain ⟨_, rfl⟩ := len1 hv
    rfl
  walk_at "walk"
  refine EV_List ?_
  walk_at "walk"
  refine ⟨by show 0 ≤ sizeLine; decide, fun b hb => ?_⟩
  walk_at "walk"
  have hlen := enc_len F
  refine EX_WhileD (D := List Int × List Fo × Nat) (fun d => Loc.of [("text", .str (mk (enc F))), ("modes", .ref b), ("k", .int d.2.2)]) (fun d => σ.put b (pvi d.1)) (fun d => (enc F).length + 1 - d.2.2)
    (fun d => d.1 ++ bags d.2.1 = bag F ∧ (enc F).drop d.2.2 = sfx d.2.1 ∧ d.2.2 ≤ (enc F).length ∧ FvL d.2.1 ∧ d.2.1 ≠ []) ?_ ([], [F], 0) ⟨by simp [bags], rfl, Nat.zero_le _, fun G hG => by rw [List.mem_singleton.mp hG]; exact hv, by simp⟩ (by walk_at "le") rfl
  rintro ⟨ds, st, k⟩ ⟨e1, e2, e3, e4, e5⟩
  dsimp only at e1 e2 e3 e4 e5
  have hbl : ds.length ≤ siz F := by have := congrArg List.length e1; rw [bag_len] at this; simp at this; omega
  walk_at "walk"
  refine CL_lens (by rw [mk_len]; omega) ?_
  rw [mk_len]
  walk_at "walk"
  match st, e5 with
  | [.nil], _ =>
    have hk : k = (enc F).length := by
      have := congrArg List.length e2
      simp [sfx, enc] at this; omega
    refine dF (by subst hk; simp) ?_
    walk_at "walk"
    refine EV_sorted B rfl rfl rfl rfl rfl ?_
    walk_at "walk"
    refine CL_sorted (ns := ds) (Sto.put_self ..) (by omega) fun a2 ns' ha2 hp hs => ?_
    walk_at "walk"
    have hds : ds = bag F := by rw [← e1]; simp [bags, bag]
    subst hds
    have hab : a2 ≠ b := fun z => by rw [z, Sto.put_self] at ha2; cases ha2
    rw [Sto.put_ne _ _ hab] at ha2
    exact ⟨σ.put a2 (pvi ns'), Sub.put (Sub.fresh hb) _ _, h a2 ns' ha2 hp hs⟩
  | .nil :: G :: st, _ =>
    have he2 : (enc F).drop k = 41 :: sfx (G :: st) := by rw [e2]; rfl
    have hk : k < (enc F).length := by
      have := congrArg List.length he2
      simp at this; omega
    have hgk : (enc F).getD k 0 = 41 := by
      have : (enc F)[k]? = some 41 := by rw [← Nat.add_zero k, ← List.getElem?_drop, he2]; rfl
      simp [List.getD, this]
    refine dT (by simpa using hk) ?_
    walk_at "walk"
    refine SUB_strL (by omega) (by simpa using hk) (by omega) (fun _ _ => rfl) ?_
    rw [Int.toNat_natCast]
    dsimp only
    rw [hgk]
    walk_at "walk"
    refine dF (by decide) ?_
    walk_at "walk"
    refine ⟨(ds, G :: st, k + 1), ⟨by rw [← e1]; simp [bags, bag], ?_, by dsimp only; omega, fun H hH => e4 H (List.mem_cons_of_mem _ hH), by simp⟩, by dsimp only; omega, by walk_at "le", rfl⟩
    dsimp only
    rw [← List.drop_drop, he2]; rfl
  | .cons m kk rr :: st, _ =>
    have he2 : (enc F).drop k = hd13 m ++ sfx (kk :: rr :: st) := by rw [e2]; exact sfx_cons m kk rr st
    have hvm : rd (fm m) = m := (e4 _ (List.mem_cons_self ..)).1
    have hk : k + 13 ≤ (enc F).length := by
      have := congrArg List.length he2
      simp [hd13_len] at this; omega
    have h40 : hd13 m ++ sfx (kk :: rr :: st) = 40 :: (fm m ++ ([92, esc m] ++ sfx (kk :: rr :: st))) := by simp [hd13]
    have hgk : (enc F).getD k 0 = 40 := by
      have : (enc F)[k]? = some 40 := by rw [← Nat.add_zero k, ← List.getElem?_drop, he2, h40]; rfl
      simp [List.getD, this]
    refine dT (by dsimp only; omega) ?_
    walk_at "walk"
    refine SUB_strL (by omega) (by dsimp only; omega) (by omega) (fun _ _ => rfl) ?_
    rw [Int.toNat_natCast]
    dsimp only
    rw [hgk]
    walk_at "walk"
    refine dT (by decide) ?_
    walk_at "walk"
    refine ⟨b, _, rfl, Sto.put_self .., ?_⟩
    walk_at "walk"
    refine SLI_ss (by omega) (by omega) (by omega) (by omega) ?_
    have hfm : ((enc F).drop ((k : Int) + 1).toNat).take (((k : Int) + 11).toNat - ((k : Int) + 1).toNat) = fm m := by
      rw [show ((k : Int) + 1).toNat = k + 1 by omega, show ((k : Int) + 11).toNat - (k + 1) = 10 by omega, ← List.drop_drop, he2, h40]
      show (fm m ++ _).take 10 = fm m
      rw [← fm_len m, List.take_left]
    rw [hfm]
    refine ES_nil (lawread_ok B (fm_len m) ?_)
    rw [hvm]
    refine METH_append (Sto.put_self ..) (by simp [pvi]; show _ ≤ 2 ^ 24; omega) ?_
    rw [Sto.put_put]
    refine ⟨rfl, ?_⟩
    walk_at "walk"
    refine ⟨(ds ++ [m], kk :: rr :: st, k + 13), ⟨by rw [← e1]; simp [bags, bag], ?_, hk, fun H hH => ?_, by simp⟩, by dsimp only; omega, by walk_at "le", by simp [pvi]⟩
    · dsimp only
      rw [← List.drop_drop, he2, ← hd13_len m, List.drop_left]
    · have hv' := e4 _ (List.mem_cons_self ..)
      rcases List.mem_cons.mp hH with rfl | hH
      · exact hv'.2.1
      · rcases List.mem_cons.mp hH with rfl | hH
        · exact hv'.2.2
        · exact e4 H (List.mem_cons_of_mem _ hH)

/-! the calls of heapq -/
theorem lawcall_ok {R : Rn} {r : Nat} {σ : Sto} {deed : Nat} {l : Addr} {m : Int} {Q : PV → Sto → Prop} (B : Base R) (hd : deed < 5)
    (h0 : deed < 2 → CF R (r + 3) "heappush" [.ref l, .int m] σ Q) (h2 : deed = 2 → CF R (r + 3) "heapreplace" [.ref l, .int m] σ Q)
    (h3 : deed = 3 → CF R (r + 3) "heappushpop" [.ref l, .int m] σ Q) (h4 : deed = 4 → CF R (r + 3) "heappop" [.ref l] σ Q) : CF R (r + 4) "_law_call" [.int deed, .ref l, .int m] σ Q := by
  refine CF_of B rfl (fun pm cd doc vals hv => ?_) rfl rfl rfl rfl rfl (fun L a cd => ?_)
  · obtain ⟨_, _, _, rfl⟩ := len3 hv
    rfl
  rcases (by omega : deed < 2 ∨ deed = 2 ∨ deed = 3 ∨ deed = 4) with h | rfl | rfl | rfl
  · walk_at "walk"
    exact h0 h
  · walk_at "walk"
    exact h2 rfl
  · walk_at "walk"
    exact h3 rfl
  · walk_at "walk"
    exact h4 rfl

/-! L3 -/
theorem bitAnd_nat (a b : Nat) : Builtin.bitAnd (a : Int) (b : Int) = ((a &&& b : Nat) : Int) := by
  unfold Builtin.bitAnd
  simp
theorem and_low (a p : Nat) (hp : p < 4096) : a &&& p = (a % 4096) &&& p := by
  have h1 : a &&& p < 4096 := Nat.lt_of_le_of_lt Nat.and_le_right hp
  have h2 := Nat.and_mod_two_pow (a := a) (b := p) (n := 12)
  rw [show (2 : Nat) ^ 12 = 4096 from rfl, Nat.mod_eq_of_lt h1, Nat.mod_eq_of_lt hp] at h2
  exact h2
theorem top_and : ((List.range 4096).all fun x => [1, 2, 4, 6, 8, 10, 12].all fun K => ((K * 4096 + x) &&& 61440) == K * 4096) = true := by decide +kernel

theorem find_congr {α : Type} {p q : α → Bool} : ∀ {l : List α}, (∀ a ∈ l, p a = q a) → l.find? p = l.find? q
  | [], _ => rfl
  | a :: l, h => by
    rw [List.find?_cons, List.find?_cons, h a (List.mem_cons_self ..), find_congr fun b hb => h b (List.mem_cons_of_mem _ hb)]
theorem sgn_low {N i : Nat} {row : List (Int × Nat)} (hi : i ≠ 0) (hrow : ∀ p ∈ row, 0 ≤ p.1 ∧ p.1 < 4096) : sgn N i row = sgn ((N % 4096 : Nat) : Int) i row := by
  unfold sgn
  rw [find_congr (q := hits i ((N % 4096 : Nat) : Int))]
  intro p hp
  obtain ⟨h0, h1⟩ := hrow p hp
  obtain ⟨n, hn⟩ : ∃ n : Nat, p.1 = n := ⟨p.1.toNat, by omega⟩
  unfold hits
  rw [if_neg hi, if_neg hi, hn, bitAnd_nat, bitAnd_nat, ← and_low N n (by omega)]

theorem rows_low : ∀ row ∈ fmtab.drop 1, ∀ p ∈ row, 0 ≤ p.1 ∧ p.1 < 4096 := by decide
noncomputable def tl9 (x : Nat) : List Nat := (fm x).drop 1
theorem fm_split (N : Nat) : fm N = sgn N 0 (fmtab.getD 0 []) :: tl9 (N % 4096) := by
  have h : ∀ i row, (fmtab.drop 1)[i]? = some row → sgn N (i + 1) row = sgn ((N % 4096 : Nat) : Int) (i + 1) row := fun i row hr => sgn_low (by omega) (rows_low row (List.mem_of_getElem? hr))
  unfold tl9 fm
  simp only [fmtab, List.mapIdx_cons, List.mapIdx_nil, List.drop_succ_cons, List.drop_zero, List.getD_cons_zero]
  rw [h 0 _ rfl, h 1 _ rfl, h 2 _ rfl, h 3 _ rfl, h 4 _ rfl, h 5 _ rfl, h 6 _ rfl, h 7 _ rfl, h 8 _ rfl]
theorem rdstep_add (l : List Nat) (k : Nat) (m : Int) : rdstep l k m = m + rdstep l k 0 := by unfold rdstep; omega
theorem rdstep_tail (a b : Nat) (t : List Nat) (k : Nat) (m : Int) : rdstep (a :: t) k m = rdstep (b :: t) k m := by
  unfold rdstep
  simp only [List.getD_cons_succ]
noncomputable def low (l : List Nat) : Int := rdstep l 0 0 + rdstep l 1 0 + rdstep l 2 0
theorem rd_low (a : Nat) (t : List Nat) : rd (a :: t) = fnd [63, 112, 99, 63, 100, 63, 98, 63, 45, 63, 108, 63, 115] a 0 * 4096 + low (0 :: t) := by
  unfold rd low
  rw [rdstep_add _ 2, rdstep_add _ 1, rdstep_add _ 0, rdstep_tail a 0, rdstep_tail a 0, rdstep_tail a 0]
  simp only [List.getD_cons_zero]
  omega
theorem tl9_get (x j : Nat) (hj : j < 9) : (tl9 x).getD j 0 = sgn x (j + 1) (fmtab.getD (j + 1) []) := by
  unfold tl9 fm
  match j, hj with
  | 0, _ => rfl | 1, _ => rfl | 2, _ => rfl | 3, _ => rfl | 4, _ => rfl | 5, _ => rfl | 6, _ => rfl | 7, _ => rfl | 8, _ => rfl
noncomputable def mask : Nat → Nat
  | 0 => 2496 | 1 => 1080 | _ => 519
theorem sgn_mask {x i M : Nat} {row : List (Int × Nat)} (hi : i ≠ 0) (hrow : ∀ p ∈ row, 0 ≤ p.1 ∧ p.1.toNat &&& M = p.1.toNat) : sgn x i row = sgn ((x &&& M : Nat) : Int) i row := by
  unfold sgn
  rw [find_congr (q := hits i ((x &&& M : Nat) : Int))]
  intro p hp
  obtain ⟨h0, h1⟩ := hrow p hp
  obtain ⟨n, hn⟩ : ∃ n : Nat, p.1 = n := ⟨p.1.toNat, by omega⟩
  rw [hn, Int.toNat_natCast] at h1
  unfold hits
  rw [if_neg hi, if_neg hi, hn, bitAnd_nat, bitAnd_nat, Nat.and_assoc, Nat.and_comm M n, h1]
theorem rows_mask : ∀ k ∈ List.range 3, ∀ j ∈ [3 * k, 3 * k + 1, 3 * k + 2], ∀ p ∈ fmtab.getD (j + 1) [], 0 ≤ p.1 ∧ p.1.toNat &&& mask k = p.1.toNat := by decide +kernel
theorem step_mask (x k : Nat) (hk : k < 3) : rdstep (0 :: tl9 x) k 0 = rdstep (0 :: tl9 (x &&& mask k)) k 0 := by
  have h : ∀ j ∈ [3 * k, 3 * k + 1, 3 * k + 2], (tl9 x).getD j 0 = (tl9 (x &&& mask k)).getD j 0 := fun j hj => by
    have hj9 : j < 9 := by simp at hj; omega
    rw [tl9_get x j hj9, tl9_get _ j hj9]
    exact sgn_mask (by omega) (rows_mask k (List.mem_range.mpr hk) j hj)
  unfold rdstep
  simp only [List.getD_cons_succ]
  rw [h (3 * k) (by simp), h (3 * k + 1) (by simp), h (3 * k + 2) (by simp)]
noncomputable def vals (k : Nat) : List Nat := match k with
  | 0 => [0, 64, 128, 192, 256, 320, 384, 448, 2048, 2112, 2176, 2240, 2304, 2368, 2432, 2496]
  | 1 => [0, 8, 16, 24, 32, 40, 48, 56, 1024, 1032, 1040, 1048, 1056, 1064, 1072, 1080]
  | _ => [0, 1, 2, 3, 4, 5, 6, 7, 512, 513, 514, 515, 516, 517, 518, 519]
theorem vals_in : ((List.range 4096).all fun x => (vals 0).any (Nat.beq (Nat.land x 2496)) && ((vals 1).any (Nat.beq (Nat.land x 1080)) && ((vals 2).any (Nat.beq (Nat.land x 519)) && Nat.beq (Nat.add (Nat.add (Nat.land x 2496) (Nat.land x 1080)) (Nat.land x 519)) x))) = true := by decide +kernel
theorem any_mem {y : Nat} {l : List Nat} (h : l.any (Nat.beq y) = true) : y ∈ l := by
  obtain ⟨z, hz, e⟩ := List.any_eq_true.mp h
  rw [Nat.eq_of_beq_eq_true e]; exact hz
theorem step_vals : ∀ k ∈ List.range 3, ∀ y ∈ vals k, rdstep (0 :: tl9 y) k 0 = (y : Int) := by decide +kernel
theorem low_ok (x : Nat) (hx : x < 4096) : low (0 :: tl9 x) = (x : Int) := by
  have h := List.all_eq_true.mp vals_in x (List.mem_range.mpr hx)
  simp only [Bool.and_eq_true] at h
  obtain ⟨h1, h2, h3, h4⟩ := h
  have h4 : (x &&& 2496) + (x &&& 1080) + (x &&& 519) = x := Nat.eq_of_beq_eq_true h4
  unfold low
  rw [step_mask x 0 (by decide), step_mask x 1 (by decide), step_mask x 2 (by decide)]
  show rdstep (0 :: tl9 (x &&& 2496)) 0 0 + rdstep (0 :: tl9 (x &&& 1080)) 1 0 + rdstep (0 :: tl9 (x &&& 519)) 2 0 = _
  rw [step_vals 0 (by decide) (x &&& 2496) (any_mem h1), step_vals 1 (by decide) (x &&& 1080) (any_mem h2), step_vals 2 (by decide) (x &&& 519) (any_mem h3)]
  omega
theorem kind_ok : ([1, 2, 4, 6, 8, 10, 12] : List Nat).all (fun K => decide (fnd [63, 112, 99, 63, 100, 63, 98, 63, 45, 63, 108, 63, 115] (match (fmtab.getD 0 []).find? (fun p => decide (((K * 4096 : Nat) : Int) = p.1)) with | some p => p.2 | none => 63) 0 = (K : Int))) = true := by decide +kernel

theorem rd_fm (K x : Nat) (hK : K ∈ ([1, 2, 4, 6, 8, 10, 12] : List Nat)) (hx : x < 4096) : rd (fm ((K * 4096 + x : Nat) : Int)) = ((K * 4096 + x : Nat) : Int) := by
  rw [fm_split, rd_low, show (K * 4096 + x) % 4096 = x by omega]
  have h1 : low (0 :: tl9 x) = (x : Int) := low_ok x hx
  have h2 : (K * 4096 + x) &&& 61440 = K * 4096 := by
    have := List.all_eq_true.mp (List.all_eq_true.mp top_and x (List.mem_range.mpr hx)) K hK
    simpa using this
  have h3 := of_decide_eq_true (List.all_eq_true.mp kind_ok K hK)
  have h4 : sgn ((K * 4096 + x : Nat) : Int) 0 (fmtab.getD 0 []) = (match (fmtab.getD 0 []).find? (fun p => decide (((K * 4096 : Nat) : Int) = p.1)) with | some p => p.2 | none => 63) := by
    unfold sgn
    rw [find_congr (q := fun p => decide (((K * 4096 : Nat) : Int) = p.1))]
    · rfl
    · intro p _
      unfold hits
      rw [if_pos rfl, show (61440 : Int) = ((61440 : Nat) : Int) from rfl, bitAnd_nat, h2]
  rw [h4, h3, h1]
  omega

theorem kinds_nat (k : Nat) (hk : k < 7) : ∃ K : Nat, K ∈ ([1, 2, 4, 6, 8, 10, 12] : List Nat) ∧ kinds.getD k 0 = (K : Int) := by
  match k, hk with
  | 0, _ => exact ⟨1, by decide, rfl⟩
  | 1, _ => exact ⟨2, by decide, rfl⟩
  | 2, _ => exact ⟨4, by decide, rfl⟩
  | 3, _ => exact ⟨6, by decide, rfl⟩
  | 4, _ => exact ⟨8, by decide, rfl⟩
  | 5, _ => exact ⟨10, by decide, rfl⟩
  | 6, _ => exact ⟨12, by decide, rfl⟩
theorem rd_lmode (n : Int) : rd (fm (lmode n)) = lmode n := by
  obtain ⟨h0, h7⟩ : 0 ≤ n.fmod 7 ∧ n.fmod 7 < 7 := fmod_range n 7 (by decide)
  obtain ⟨g0, g7⟩ : 0 ≤ (n.fdiv 7).fmod 4096 ∧ (n.fdiv 7).fmod 4096 < 4096 := fmod_range _ 4096 (by decide)
  obtain ⟨K, hK, e⟩ := kinds_nat (n.fmod 7).toNat (by omega)
  have : lmode n = ((K * 4096 + ((n.fdiv 7).fmod 4096).toNat : Nat) : Int) := by
    unfold lmode
    rw [e]; omega
  rw [this]
  exact rd_fm K _ hK (by omega)

/-! L4 -/
/-- a heap of at most four -/
noncomputable def Hq : List Int → Prop
  | [] => True
  | [_] => True
  | [a, b] => a ≤ b
  | [a, b, c] => a ≤ b ∧ a ≤ c
  | [a, b, c, d] => a ≤ b ∧ a ≤ c ∧ b ≤ d
  | _ => False
/-- all but the first in order -/
noncomputable def Hs : List Int → Prop
  | [_, b, _, d] => b ≤ d
  | [] => False
  | [_] => True
  | [_, _] => True
  | [_, _, _] => True
  | _ => False
theorem count_perm {xs ys : List Int} (h : ∀ z, xs.count z = ys.count z) : xs.Perm ys := List.perm_iff_count.mpr h

theorem su_q {xs : List Int} (h : Hs xs) : Hq (su xs 0) ∧ (su xs 0).Perm xs := by
  match xs, h with
  | [x], _ => simp [su, suw, sdw, Hq]
  | [x, b], _ =>
    by_cases h1 : x < b
    · have e : su [x, b] 0 = [x, b] := by simp [su, suw, suc, sdw, h1]
      rw [e]; exact ⟨by show x ≤ b; omega, .refl _⟩
    · have e : su [x, b] 0 = [b, x] := by simp [su, suw, suc, sdw, h1]
      rw [e]; exact ⟨by show b ≤ x; omega, count_perm fun z => by simp [List.count_cons]; omega⟩
  | [x, b, c], _ =>
    by_cases h1 : b < c
    · by_cases h2 : x < b
      · have e : su [x, b, c] 0 = [x, b, c] := by simp [su, suw, suc, sdw, h1, h2]
        rw [e]; exact ⟨⟨by omega, by omega⟩, .refl _⟩
      · have e : su [x, b, c] 0 = [b, x, c] := by simp [su, suw, suc, sdw, h1, h2]
        rw [e]; exact ⟨⟨by omega, by omega⟩, count_perm fun z => by simp [List.count_cons]; omega⟩
    · by_cases h2 : x < c
      · have e : su [x, b, c] 0 = [x, b, c] := by simp [su, suw, suc, sdw, h1, h2]
        rw [e]; exact ⟨⟨by omega, by omega⟩, .refl _⟩
      · have e : su [x, b, c] 0 = [c, b, x] := by simp [su, suw, suc, sdw, h1, h2]
        rw [e]; exact ⟨⟨by omega, by omega⟩, count_perm fun z => by simp [List.count_cons]; omega⟩
  | [x, b, c, d], h =>
    have h : b ≤ d := h
    by_cases h1 : b < c
    · by_cases h2 : x < d
      · by_cases h3 : x < b
        · have e : su [x, b, c, d] 0 = [x, b, c, d] := by simp [su, suw, suc, sdw, h1, h2, h3]
          rw [e]; exact ⟨⟨by omega, by omega, by omega⟩, .refl _⟩
        · have e : su [x, b, c, d] 0 = [b, x, c, d] := by simp [su, suw, suc, sdw, h1, h2, h3]
          rw [e]; exact ⟨⟨by omega, by omega, by omega⟩, count_perm fun z => by simp [List.count_cons]; omega⟩
      · have e : su [x, b, c, d] 0 = [b, d, c, x] := by simp [su, suw, suc, sdw, h1, h2]
        rw [e]; exact ⟨⟨by omega, by omega, by omega⟩, count_perm fun z => by simp [List.count_cons]; omega⟩
    · by_cases h2 : x < c
      · have e : su [x, b, c, d] 0 = [x, b, c, d] := by simp [su, suw, suc, sdw, h1, h2]
        rw [e]; exact ⟨⟨by omega, by omega, by omega⟩, .refl _⟩
      · have e : su [x, b, c, d] 0 = [c, b, x, d] := by simp [su, suw, suc, sdw, h1, h2]
        rw [e]; exact ⟨⟨by omega, by omega, by omega⟩, count_perm fun z => by simp [List.count_cons]; omega⟩

theorem hpush_q {xs : List Int} {x : Int} (h : Hq xs) (hl : xs.length < 4) : Hq (hpush xs x) ∧ (hpush xs x).Perm (x :: xs) := by
  match xs, h, hl with
  | [], _, _ => simp [hpush, sdw, Hq]
  | [a], _, _ =>
    by_cases h1 : x < a
    · have e : hpush [a] x = [x, a] := by simp [hpush, sdw, h1]
      rw [e]; exact ⟨by show x ≤ a; omega, .refl _⟩
    · have e : hpush [a] x = [a, x] := by simp [hpush, sdw, h1]
      rw [e]; exact ⟨by show a ≤ x; omega, count_perm fun z => by simp [List.count_cons]; omega⟩
  | [a, b], h, _ =>
    have h : a ≤ b := h
    by_cases h1 : x < a
    · have e : hpush [a, b] x = [x, b, a] := by simp [hpush, sdw, h1]
      rw [e]; exact ⟨⟨by omega, by omega⟩, count_perm fun z => by simp [List.count_cons]; omega⟩
    · have e : hpush [a, b] x = [a, b, x] := by simp [hpush, sdw, h1]
      rw [e]; exact ⟨⟨by omega, by omega⟩, count_perm fun z => by simp [List.count_cons]; omega⟩
  | [a, b, c], h, _ =>
    have h : a ≤ b ∧ a ≤ c := h
    by_cases h1 : x < b
    · by_cases h2 : x < a
      · have e : hpush [a, b, c] x = [x, a, c, b] := by simp [hpush, sdw, h1, h2]
        rw [e]; exact ⟨⟨by omega, by omega, by omega⟩, count_perm fun z => by simp [List.count_cons]; omega⟩
      · have e : hpush [a, b, c] x = [a, x, c, b] := by simp [hpush, sdw, h1, h2]
        rw [e]; exact ⟨⟨by omega, by omega, by omega⟩, count_perm fun z => by simp [List.count_cons]; omega⟩
    · have e : hpush [a, b, c] x = [a, b, c, x] := by simp [hpush, sdw, h1]
      rw [e]; exact ⟨⟨by omega, by omega, by omega⟩, count_perm fun z => by simp [List.count_cons]; omega⟩

theorem hify_q {xs : List Int} (hl : xs.length ≤ 4) : Hq (hify xs) ∧ (hify xs).Perm xs := by
  match xs, hl with
  | [], _ => simp [hify, Hq]
  | [a], _ => simp [hify, Hq]
  | [a, b], _ =>
    have e : hify [a, b] = su [a, b] 0 := by simp [hify, List.range_succ]
    rw [e]; exact su_q (xs := [a, b]) trivial
  | [a, b, c], _ =>
    have e : hify [a, b, c] = su [a, b, c] 0 := by simp [hify, List.range_succ]
    rw [e]; exact su_q (xs := [a, b, c]) trivial
  | [a, b, c, d], _ =>
    have e : hify [a, b, c, d] = su (su [a, b, c, d] 1) 0 := by simp [hify, List.range_succ]
    rw [e]
    by_cases h1 : b < d
    · have e1 : su [a, b, c, d] 1 = [a, b, c, d] := by simp [su, suw, suc, sdw, h1]
      rw [e1]
      exact su_q (xs := [a, b, c, d]) (by show b ≤ d; omega)
    · have e1 : su [a, b, c, d] 1 = [a, d, c, b] := by simp [su, suw, suc, sdw, h1]
      rw [e1]
      obtain ⟨q1, q2⟩ := su_q (xs := [a, d, c, b]) (by show d ≤ b; omega)
      exact ⟨q1, q2.trans (count_perm fun z => by simp [List.count_cons]; omega)⟩

theorem Hq.len {xs : List Int} (h : Hq xs) : xs.length ≤ 4 := by
  match xs, h with
  | [], _ => simp
  | [_], _ => simp
  | [_, _], _ => simp
  | [_, _, _], _ => simp
  | [_, _, _, _], _ => simp
theorem Hq.least {y : Int} {xs : List Int} (h : Hq (y :: xs)) : ∀ z ∈ xs, y ≤ z := by
  match xs, h with
  | [], _ => intro z hz; cases hz
  | [b], h => have h : y ≤ b := h; intro z hz; simp at hz; omega
  | [b, c], h => have h : y ≤ b ∧ y ≤ c := h; intro z hz; simp at hz; omega
  | [b, c, d], h => have h : y ≤ b ∧ y ≤ c ∧ b ≤ d := h; intro z hz; simp at hz; omega
theorem Hq.sub {y x : Int} {xs : List Int} (h : Hq (y :: xs)) : Hs (x :: xs) := by
  match xs, h with
  | [], _ => trivial
  | [b], _ => trivial
  | [b, c], _ => trivial
  | [b, c, d], h => exact h.2.2
/-- the last one out, to the front -/
theorem Hq.pop {y x : Int} {xs : List Int} (h : Hq (y :: (xs ++ [x]))) : Hs (x :: xs) := by
  match xs, h with
  | [], _ => trivial
  | [b], _ => trivial
  | [b, c], h => trivial
  | [b, c, d], h => exact h.elim

/-! L5 -/
/-- the modes and their text -/
structure Pre (xs : List Int) (t : Fo) : Prop where
  root : Root t
  fv : Fv t
  hp : Hp t
  perm : xs.Perm (bag t)
/-- the heap and its text -/
structure Inv (xs : List Int) (t : Fo) : Prop extends Pre xs t where
  q : Hq xs
theorem Inv.siz {xs : List Int} {t : Fo} (h : Inv xs t) : siz t = xs.length := by rw [← bag_len, h.perm.length_eq]
theorem Inv.nil : Inv [] .nil := ⟨⟨trivial, trivial, trivial, .refl _⟩, trivial⟩
theorem min_uniq {a b : Int} {xs ys : List Int} (h : (a :: xs).Perm (b :: ys)) (ha : ∀ z ∈ xs, a ≤ z) (hb : ∀ z ∈ ys, b ≤ z) : a = b ∧ xs.Perm ys := by
  have e : a = b := by
    have h1 : a ∈ b :: ys := h.subset (List.mem_cons_self ..)
    have h2 : b ∈ a :: xs := h.symm.subset (List.mem_cons_self ..)
    rcases List.mem_cons.mp h1 with h1 | h1
    · exact h1
    · rcases List.mem_cons.mp h2 with h2 | h2
      · exact h2.symm
      · have := ha b h2
        have := hb a h1
        omega
  subst e
  exact ⟨rfl, h.cons_inv⟩
theorem Inv.top {y : Int} {ys : List Int} {t : Fo} (h : Inv (y :: ys) t) : ∃ k, t = .cons y k .nil ∧ ys.Perm (bag k) := by
  have hn : t ≠ .nil := fun z => by have := h.siz; rw [z] at this; simp [Mine.siz] at this
  obtain ⟨m, k, rfl⟩ := root_cases h.root hn
  have hp := h.perm
  simp only [bag, List.append_nil] at hp
  obtain ⟨rfl, h2⟩ := min_uniq hp h.q.least h.hp.1
  exact ⟨k, rfl, h2⟩
theorem Inv.nonempty {xs : List Int} {t : Fo} (h : Inv xs t) (hn : t ≠ .nil) : ∃ y ys, xs = y :: ys := by
  cases xs with
  | nil =>
    have := h.siz
    cases t with
    | nil => exact absurd rfl hn
    | cons m k r => simp [Mine.siz] at this
  | cons y ys => exact ⟨y, ys, rfl⟩
theorem Inv.empty {t : Fo} (h : Inv [] t) : t = .nil := by
  have := h.siz
  cases t with
  | nil => rfl
  | cons m k r => simp [Mine.siz] at this

/-- what the call of heapq does -/
noncomputable def callF (deed : Nat) (xs : List Int) (m : Int) : PV × List Int :=
  match deed with
  | 0 => (.none, hpush xs m)
  | 1 => (.none, hpush xs m)
  | 2 => (.int (xs.getD 0 0), su (xs.set 0 m) 0)
  | 3 => if 0 < xs.length ∧ xs.getD 0 0 < m then (.int (xs.getD 0 0), su (xs.set 0 m) 0) else (.int m, xs)
  | _ => if xs.length ≤ 1 then (.int (xs.getD 0 0), []) else (.int (xs.getD 0 0), su ((xs.dropLast).set 0 (xs.getLast?.getD 0)) 0)

theorem lawcall_ok' {R : Rn} {r : Nat} {σ : Sto} {deed : Nat} {l : Addr} {xs : List Int} {m : Int} {Q : PV → Sto → Prop} (B : Base R) (hd : deed < 5) (hl : σ l = some (pvi xs)) (hz : xs.length < 900)
    (hne : deed = 2 ∨ deed = 4 → xs ≠ []) (h : Q (callF deed xs m).1 (σ.put l (pvi (callF deed xs m).2))) : CF R (r + 4) "_law_call" [.int deed, .ref l, .int m] σ Q := by
  refine lawcall_ok B hd (fun hd => ?_) (fun hd => ?_) (fun hd => ?_) fun hd => ?_
  · refine heappush_ok (r := r + 1) B hl hz ?_
    rcases (by omega : deed = 0 ∨ deed = 1) with rfl | rfl <;> exact h
  · subst hd
    exact heapreplace_ok B hl (List.length_pos_iff.mpr (hne (.inl rfl))) hz h
  · subst hd
    refine heappushpop_ok B hl hz (fun h1 h2 => ?_) fun h1 => ?_
    · simp only [callF, if_pos (And.intro h1 h2)] at h; exact h
    · have hc : ¬ (0 < xs.length ∧ xs.getD 0 0 < m) := fun ⟨a, b⟩ => h1 a b
      simp only [callF, if_neg hc] at h
      rw [Sto.put_same _ hl] at h; exact h
  · subst hd
    have hx := hne (.inr rfl)
    have e : xs = xs.dropLast ++ [xs.getLast hx] := (List.dropLast_concat_getLast hx).symm
    have el : xs.getLast?.getD 0 = xs.getLast hx := by rw [List.getLast?_eq_some_getLast hx]; rfl
    refine heappop_ok (xs := xs.dropLast) (x := xs.getLast hx) B (by rw [← e]; exact hl) (by rw [List.length_dropLast]; omega) (fun h1 => ?_) fun h1 => ?_
    · have h2 : xs.length ≤ 1 := by have := congrArg List.length h1; rw [List.length_dropLast] at this; simp at this; omega
      have h3 : xs.getD 0 0 = xs.getLast hx := by
        match xs, h2, hx with
        | [a], _, _ => rfl
      simp only [callF, if_pos h2] at h
      rw [h3] at h; exact h
    · rw [List.length_dropLast] at h1
      have h2 : ¬ xs.length ≤ 1 := by omega
      have h3 : xs.dropLast.getD 0 0 = xs.getD 0 0 := by
        match xs, h2 with
        | a :: b :: r, _ => rfl
      simp only [callF, if_neg h2, el] at h
      rw [h3]; exact h

theorem pre_of_top {xs : List Int} {x : Int} {t : Fo} (h : Pre (x :: xs) t) (hx : ∀ z ∈ xs, x ≤ z) : topF t = x ∧ Pre xs (restF t) := by
  have hn : t ≠ .nil := fun z => by subst z; have := h.perm.length_eq; simp [bag] at this
  obtain ⟨m, k, rfl⟩ := root_cases h.root hn
  have hp := h.perm
  simp only [bag, List.append_nil] at hp
  obtain ⟨rfl, h2⟩ := min_uniq hp hx h.hp.1
  obtain ⟨w1, w2, w3⟩ := wo_bag h.hp.2.1
  obtain ⟨_, _, w4⟩ := without_enc h.fv.2.1
  exact ⟨rfl, ⟨w2, w4, w3, h2.trans w1.symm⟩⟩

theorem Pre.meld1 {xs : List Int} {t : Fo} {m : Int} (h : Pre xs t) (hm : Vm m) : Pre (m :: xs) (meld t (sing m)) := by
  have hsr : Root (sing m) := trivial
  have hsv : Fv (sing m) := ⟨hm, trivial, trivial⟩
  have hsh : Hp (sing m) := ⟨fun x hx => (nomatch hx), trivial, trivial⟩
  refine ⟨meld_root h.root hsr, meld_fv h.fv hsv, meld_hp h.root hsr h.hp hsh, ?_⟩
  refine List.Perm.trans ?_ (meld_bag h.root hsr).symm
  have : bag (sing m) = [m] := rfl
  rw [this]
  exact (h.perm.cons m).trans (List.perm_append_comm (l₁ := [m]))
theorem Pre.of_perm {xs ys : List Int} {t : Fo} (h : Pre xs t) (hp : ys.Perm xs) : Pre ys t := ⟨h.root, h.fv, h.hp, hp.trans h.perm⟩

theorem step_inv {deed : Nat} {xs : List Int} {t : Fo} {m : Int} (h : Inv xs t) (hm : Vm m) (hd : deed < 5) (h4 : deed < 2 → xs.length < 4) (hne : deed = 2 ∨ deed = 4 → xs ≠ []) :
    (callF deed xs m).1 = (dueF deed t m).1 ∧ Inv (callF deed xs m).2 (dueF deed t m).2 := by
  have push : xs.length < 4 → Inv (hpush xs m) (meld t (sing m)) := fun hl => by
    obtain ⟨q1, q2⟩ := hpush_q (x := m) h.q hl
    exact ⟨(h.toPre.meld1 hm).of_perm q2, q1⟩
  rcases (by omega : deed = 0 ∨ deed = 1 ∨ deed = 2 ∨ deed = 3 ∨ deed = 4) with rfl | rfl | rfl | rfl | rfl
  · exact ⟨rfl, push (h4 (by omega))⟩
  · exact ⟨rfl, push (h4 (by omega))⟩
  · match xs, h, hne (.inl rfl) with
    | y :: ys, h, _ =>
      obtain ⟨e1, p1⟩ := pre_of_top h.toPre h.q.least
      obtain ⟨q1, q2⟩ := su_q (h.q.sub (x := m))
      exact ⟨by show PV.int y = .int (topF t); rw [e1], ⟨(p1.meld1 hm).of_perm q2, q1⟩⟩
  · have p1 := h.toPre.meld1 hm
    by_cases hc : 0 < xs.length ∧ xs.getD 0 0 < m
    · have e : callF 3 xs m = (.int (xs.getD 0 0), su (xs.set 0 m) 0) := if_pos hc
      rw [e]
      match xs, h, hc, p1 with
      | y :: ys, h, hc, p1 =>
        have hy : y < m := hc.2
        have p2 : Pre (y :: m :: ys) (meld t (sing m)) := p1.of_perm (List.Perm.swap ..)
        obtain ⟨e1, p3⟩ := pre_of_top p2 (fun z hz => by
          rcases List.mem_cons.mp hz with rfl | hz
          · omega
          · exact h.q.least z hz)
        obtain ⟨q1, q2⟩ := su_q (h.q.sub (x := m))
        exact ⟨by show PV.int y = .int (topF _); rw [e1], ⟨p3.of_perm q2, q1⟩⟩
    · have e : callF 3 xs m = (.int m, xs) := if_neg hc
      rw [e]
      obtain ⟨e1, p3⟩ := pre_of_top p1 (fun z hz => by
        match xs, h, hc, hz with
        | y :: ys, h, hc, hz =>
          have hy : ¬ y < m := fun z => hc ⟨by simp, z⟩
          rcases List.mem_cons.mp hz with rfl | hz
          · omega
          · have := h.q.least z hz; omega)
      exact ⟨by show PV.int m = .int (topF _); rw [e1], ⟨p3, h.q⟩⟩
  · match xs, h, hne (.inr rfl) with
    | [y], h, _ =>
      obtain ⟨e1, p1⟩ := pre_of_top h.toPre h.q.least
      exact ⟨by show PV.int y = .int (topF t); rw [e1], ⟨p1, trivial⟩⟩
    | y :: z :: zs, h, _ =>
      obtain ⟨e1, p1⟩ := pre_of_top h.toPre h.q.least
      have hx : z :: zs ≠ [] := by simp
      have e : z :: zs = (z :: zs).dropLast ++ [(z :: zs).getLast hx] := (List.dropLast_concat_getLast hx).symm
      have hq := h.q
      rw [e] at hq
      obtain ⟨q1, q2⟩ := su_q hq.pop
      have e2 : callF 4 (y :: z :: zs) m = (.int y, su ((z :: zs).getLast hx :: (z :: zs).dropLast) 0) := by
        have : ¬ (y :: z :: zs).length ≤ 1 := by simp
        simp only [callF, if_neg this]
        rw [List.getLast?_cons_cons, List.getLast?_eq_some_getLast hx]
        rfl
      rw [e2]
      refine ⟨by show PV.int y = .int (topF t); rw [e1], ⟨p1.of_perm (q2.trans ?_), q1⟩⟩
      have : ((z :: zs).dropLast ++ [(z :: zs).getLast hx]).Perm (z :: zs) := by rw [← e]
      exact (List.perm_append_comm (l₁ := [_])).trans this

/-! T9 -/
noncomputable def upd {α : Type} (f : Nat → α) (w : Nat) (v : α) : Nat → α := fun k => if k = w then v else f k
structure LS (σ : Sto) (hl tl : Addr) (a : Nat → Addr) (xs : Nat → List Int) (t : Nat → Fo) : Prop where
  hh : σ hl = some [.ref (a 0), .ref (a 1)]
  ht : σ tl = some [.str (mk (enc (t 0))), .str (mk (enc (t 1)))]
  ha : ∀ w, w < 2 → σ (a w) = some (pvi (xs w))
  inv : ∀ w, w < 2 → Inv (xs w) (t w)
  n1 : hl ≠ tl
  n2 : a 0 ≠ a 1
  n3 : ∀ w, w < 2 → a w ≠ hl ∧ a w ≠ tl

abbrev refStmt (p1 p2 p3 p4 p5 p6 p7 p8 p9 p10 p11 : Pos) (k : Nat) : Stmt :=
  .If (.UnaryOp .Not (.Call (.Name "_law_refused" p1) [.Name "deed" p2, .Subscript (.Name "heaps" p3) (.Name "which" p4) p5, .Name "mode" p6] [] p7) p8) [.Return (some (.Constant (.bool false) k p9)) p10] [] p11
noncomputable def RefOk (R : Rn) (r : Nat) (env : Env) : Prop := ∀ (p1 p2 p3 p4 p5 p6 p7 p8 p9 p10 p11 : Pos) (k : Nat) (ρ : Loc) (σ : Sto) (Q : FL → Loc → Sto → Prop) (dd w : Nat) (m : Int) (hl a : Addr) (hs : List PV), (dd = 2 ∨ dd = 4) → w < 2 →
  ρ "deed" = some (.int dd) → ρ "heaps" = some (.ref hl) → ρ "which" = some (.int w) → ρ "mode" = some (.int m) → σ hl = some hs → hs[w]? = some (.ref a) → σ a = some [] → Q .next ρ σ →
  EX R r env (refStmt p1 p2 p3 p4 p5 p6 p7 p8 p9 p10 p11 k) ρ σ Q

theorem ls_call {σ : Sto} {hl tl : Addr} {a : Nat → Addr} {xs : Nat → List Int} {t : Nat → Fo} (h : LS σ hl tl a xs t) {w : Nat} (hw : w < 2) {ys : List Int} {u : Fo} (hi : Inv ys u) :
    LS ((σ.put (a w) (pvi ys)).put tl ([.str (mk (enc (t 0))), .str (mk (enc (t 1)))].set w (.str (mk (enc u))))) hl tl a (upd xs w ys) (upd t w u) := by
  obtain ⟨c1, c2⟩ := h.n3 w hw
  refine ⟨?_, ?_, fun k hk => ?_, fun k hk => ?_, h.n1, h.n2, h.n3⟩
  · rw [Sto.put_ne _ _ h.n1, Sto.put_ne _ _ c1.symm]; exact h.hh
  · rw [Sto.put_self]
    rcases (by omega : w = 0 ∨ w = 1) with rfl | rfl <;> rfl
  · rw [Sto.put_ne _ _ (h.n3 k hk).2]
    by_cases e : k = w
    · subst e; rw [Sto.put_self]; simp [upd]
    · rw [Sto.put_ne _ _ (fun z => ?_)]
      · simp only [upd, if_neg e]; exact h.ha k hk
      · rcases (by omega : k = 0 ∧ w = 1 ∨ k = 1 ∧ w = 0) with ⟨rfl, rfl⟩ | ⟨rfl, rfl⟩
        · exact h.n2 z
        · exact h.n2 z.symm
  · by_cases e : k = w
    · subst e; simpa [upd] using hi
    · simp only [upd, if_neg e]; exact h.inv k hk

theorem ls_sub {σ σ' : Sto} {hl tl : Addr} {a : Nat → Addr} {xs : Nat → List Int} {t : Nat → Fo} (h : LS σ hl tl a xs t) (hs : Sub σ σ') : LS σ' hl tl a xs t :=
  ⟨hs _ _ h.hh, hs _ _ h.ht, fun w hw => hs _ _ (h.ha w hw), h.inv, h.n1, h.n2, h.n3⟩
theorem Sub.drop {σ : Sto} {a : Addr} {l : List PV} (h : σ a = none) : Sub σ ((σ.put a l).drop a) := fun b m e => by
  have hb : b ≠ a := fun z => by rw [z, h] at e; cases e
  rw [Sto.drop_ne hb, Sto.put_ne _ _ hb]; exact e

theorem CMP_ne_same {R : Rn} {r : Nat} {σ : Sto} {p : PV} {Q : PV → Sto → Prop} (hp : p = .none ∨ ∃ i, p = .int i) (h : Q (.bool false) σ) : CMP R r .NotEq p p σ Q := by
  rcases hp with rfl | ⟨i, rfl⟩
  · exact CMP_nenn h
  · exact CMP_ne (by simpa using h)
theorem dueF_kind (deed : Nat) (t : Fo) (m : Int) : (dueF deed t m).1 = .none ∨ ∃ i, (dueF deed t m).1 = .int i := by
  unfold dueF
  split
  · exact .inl rfl
  · exact .inl rfl
  · exact .inr ⟨_, rfl⟩
  · exact .inr ⟨_, rfl⟩
  · exact .inr ⟨_, rfl⟩
theorem enc_nil {t : Fo} : enc t = [] ↔ t = .nil := by
  constructor
  · intro h
    cases t with
    | nil => rfl
    | cons m k r => have := congrArg List.length h; rw [enc_len] at this; simp [siz] at this
  · rintro rfl; rfl

theorem pick1 {α : Type} (l : List α) : pick l none (some 1) = l.take 1 := by
  cases l with
  | nil => rfl
  | cons a l => simp [pick, W.kms_lo, W.kms_hi]

noncomputable def lawT (R : Rn) (r : Nat) (L fa : Addr) (cd : Value) (l : Addr) : Prop := match P0.theDef "law" with
  | some (_, body, sc) => RefOk R (r + 9) (envOf "law" sc L fa cd) → EXS R (r + 9) (envOf "law" sc L fa cd) body (Loc.of [("script", .ref l)]) nil0 fun f _ _ => f = .ret (.bool true)
  | none => True

theorem law_ok {R : Rn} {r : Nat} {L fa : Addr} {cd : Value} {l : Addr} {vs : List Value} {ns : List Int} (B : Base R) (T : Tab R) (hG : R.G = AllBare) (hl : R.h₀.IsList l vs.toArray) (hI : IntsAre vs ns) (hz : vs.length < 64) : lawT R r L fa cd l := by
  show RefOk R (r + 9) (envOf "law" _ L fa cd) → EXS R (r + 9) (envOf "law" _ L fa cd) _ _ _ _
  intro hRef
  walk_at "walk"
  refine EV_List ?_
  walk_at "walk"
  refine EV_List ?_
  walk_at "walk"
  refine ⟨by show 0 ≤ sizeLine; decide, fun a0 h0 => ?_⟩
  walk_at "walk"
  refine EV_List ?_
  walk_at "walk"
  refine ⟨by show 0 ≤ sizeLine; decide, fun a1 h1 => ?_⟩
  walk_at "walk"
  refine ⟨by show 2 ≤ sizeLine; decide, fun hp h2 => ?_⟩
  walk_at "walk"
  refine EV_List ?_
  walk_at "walk"
  refine ⟨by show 2 ≤ sizeLine; decide, fun tl h3 => ?_⟩
  have n01 : a1 ≠ a0 := fun z => by rw [z, Sto.put_self] at h1; cases h1
  have n1p : hp ≠ a1 := fun z => by rw [z, Sto.put_self] at h2; cases h2
  have n0p : hp ≠ a0 := fun z => by rw [z, Sto.put_ne _ _ n01.symm, Sto.put_self] at h2; cases h2
  have ntp : tl ≠ hp := fun z => by rw [z, Sto.put_self] at h3; cases h3
  have nt1 : tl ≠ a1 := fun z => by rw [z, Sto.put_ne _ _ n1p.symm, Sto.put_self] at h3; cases h3
  have nt0 : tl ≠ a0 := fun z => by rw [z, Sto.put_ne _ _ n0p.symm, Sto.put_ne _ _ n01.symm, Sto.put_self] at h3; cases h3
  have LS0 : LS ((((nil0.put a0 []).put a1 []).put hp [PV.ref a0, PV.ref a1]).put tl [PV.str (mk []), PV.str (mk [])]) hp tl (fun k => if k = 0 then a0 else a1) (fun _ => []) (fun _ => .nil) := by
    refine ⟨?_, Sto.put_self .., fun w hw => ?_, fun _ _ => Inv.nil, ntp.symm, n01.symm, fun w hw => ?_⟩
    · rw [Sto.put_ne _ _ ntp.symm, Sto.put_self]; rfl
    · rcases (by omega : w = 0 ∨ w = 1) with rfl | rfl
      · show _ = some []
        simp only [if_true]
        rw [Sto.put_ne _ _ nt0.symm, Sto.put_ne _ _ n0p.symm, Sto.put_ne _ _ n01.symm, Sto.put_self]
      · show _ = some []
        simp only [Nat.one_ne_zero, if_false]
        rw [Sto.put_ne _ _ nt1.symm, Sto.put_ne _ _ n1p.symm, Sto.put_self]
    · rcases (by omega : w = 0 ∨ w = 1) with rfl | rfl
      · exact ⟨n0p.symm, nt0.symm⟩
      · exact ⟨n1p.symm, nt1.symm⟩
  generalize ((((nil0.put a0 []).put a1 []).put hp [PV.ref a0, PV.ref a1]).put tl [PV.str (mk []), PV.str (mk [])]) = σ1 at LS0
  walk_at "walk"
  refine ITR_list ?_
  walk_at "walk"
  refine EV_List ?_
  walk_at "walk"
  refine ⟨by show 3 ≤ sizeLine; decide, fun b1 hb1 => ?_⟩
  refine EV_sliceOld (u := 6) hl hI (by omega) ?_
  walk_at "walk"
  refine ⟨rfl, ?_⟩
  walk_at "walk"
  refine ⟨rfl, fun b2 hb2 => ?_⟩
  have nb12 : b1 ≠ b2 := fun z => by rw [← z, Sto.put_self] at hb2; cases hb2
  have hpl : (pick ns none (some 6)).length < 1000 := by
    have h1 : vs.length = ns.length := by have := congrArg List.length (of_ints hI); simpa [pvi] using this
    have : (pick ns none (some 6)).length ≤ ns.length := by unfold pick; rw [List.length_take, List.length_drop]; omega
    omega
  refine BIN_addlist (by rw [Sto.put_ne _ _ nb12, Sto.put_self]) (Sto.put_self ..) (by simp [pvi]; omega) fun b3 hb3 => ?_
  refine EV_List ?_
  walk_at "walk"
  refine ⟨by show 2 ≤ sizeLine; decide, fun b4 hb4 => ?_⟩
  have nb34 : b3 ≠ b4 := fun z => by rw [← z, Sto.put_self] at hb4; cases hb4
  refine BIN_addlist (by rw [Sto.put_ne _ _ nb34, Sto.put_self]) (Sto.put_self ..) (by simp [pvi]; omega) fun b5 hb5 => ?_
  refine ⟨b5, _, rfl, Sto.put_self .., ?_⟩
  generalize hitems : [PV.int 0, PV.int 7, PV.int 12] ++ pvi (pick ns none (some 6)) ++ [PV.int 5, PV.int 4] = items
  have hints : ∃ is : List Int, items = pvi is := ⟨[0, 7, 12] ++ pick ns none (some 6) ++ [5, 4], by rw [← hitems]; simp [pvi]⟩
  have hsub : Sub σ1 (((((((σ1.put b1 [PV.int 0, PV.int 7, PV.int 12]).put b2 (pvi (pick ns none (some 6)))).put b3 ([PV.int 0, PV.int 7, PV.int 12] ++ pvi (pick ns none (some 6)))).put b4 [PV.int 5, PV.int 4]).put b5 items)).drop b5) :=
    Sub.trans (Sub.fresh hb1) (Sub.trans (Sub.fresh hb2) (Sub.trans (Sub.fresh hb3) (Sub.trans (Sub.fresh hb4) (Sub.drop hb5))))
  have LS1 := ls_sub LS0 hsub
  obtain ⟨is, rfl⟩ := hints
  refine forQ_ind (D := Sto × (Nat → Addr) × (Nat → List Int) × (Nat → Fo)) (fun d => Loc.of [("heaps", .ref hp), ("texts", .ref tl)]) (fun d => d.1) (fun ps d => (∃ is, ps = pvi is) ∧ LS d.1 hp tl d.2.1 d.2.2.1 d.2.2.2) ?_ ?_ _ (_, _, _, _) ⟨⟨is, rfl⟩, LS1⟩ (by walk_at "le") rfl
  · clear LS1 LS0 hsub hb5 hb4 hb3 hb2 hb1 hitems h3 h2 h1 h0 ntp nt1 nt0 n1p n0p n01
    rintro p ps ⟨σ, a, xs, t⟩ ⟨⟨is', e⟩, hLS⟩
    dsimp only at hLS
    obtain ⟨x, is'', rfl, rfl, rfl⟩ : ∃ x is'', is' = x :: is'' ∧ p = .int x ∧ ps = pvi is'' := by
      cases is' with
      | nil => cases e
      | cons x is'' =>
        simp only [pvi, List.map_cons, List.cons.injEq] at e
        exact ⟨x, is'', rfl, e.1, e.2⟩
    obtain ⟨w, hw, hwe⟩ : ∃ w : Nat, w < 2 ∧ (x.fdiv 6).fmod 2 = w := by
      obtain ⟨g1, g2⟩ : 0 ≤ (x.fdiv 6).fmod 2 ∧ (x.fdiv 6).fmod 2 < 2 := fmod_range _ 2 (by decide)
      exact ⟨((x.fdiv 6).fmod 2).toNat, by omega, by omega⟩
    obtain ⟨dd, hdd, hde⟩ : ∃ dd : Nat, dd < 6 ∧ x.fmod 6 = dd := by
      obtain ⟨g1, g2⟩ : 0 ≤ x.fmod 6 ∧ x.fmod 6 < 6 := fmod_range _ 6 (by decide)
      exact ⟨(x.fmod 6).toNat, by omega, by omega⟩
    have hlen4 : ∀ k, k < 2 → (xs k).length ≤ 4 := fun k hk => (hLS.inv k hk).q.len
    have hget : ∀ k : Nat, k < 2 → ([PV.ref (a 0), PV.ref (a 1)] : List PV)[(k : Int).toNat]? = some (.ref (a k)) := fun k hk => by
      rcases (by omega : k = 0 ∨ k = 1) with rfl | rfl <;> rfl
    have hgett : ∀ k : Nat, k < 2 → ([PV.str (mk (enc (t 0))), PV.str (mk (enc (t 1)))] : List PV)[(k : Int).toNat]? = some (.str (mk (enc (t k)))) := fun k hk => by
      rcases (by omega : k = 0 ∨ k = 1) with rfl | rfl <;> rfl
    refine EXS_cons (EX_Assign rfl rfl rfl (EV.mono (Q := fun p σ' => p = .int w ∧ σ = σ') (by walk_at "walk"; exact ⟨by rw [hwe], rfl⟩) ?_))
    rintro _ _ ⟨rfl, rfl⟩
    refine seqQ_next (EXS_cons (EX_Assign rfl rfl rfl (EV.mono (Q := fun p σ' => p = .int dd ∧ σ = σ') (by walk_at "walk"; exact ⟨by rw [hde], rfl⟩) ?_)))
    rintro _ _ ⟨rfl, rfl⟩
    obtain ⟨d2, hd2⟩ : ∃ d2 : Nat, d2 = if (dd < 2 ∧ (xs w).length = 4) ∨ (dd = 5 ∧ (xs 0).length + (xs 1).length > 4) then 2 else dd := ⟨_, rfl⟩
    refine seqQ_next (EXS_cons (EX.mono (Q := fun f ρ' σ' => f = .next ∧ Le (Loc.of [("heaps", .ref hp), ("texts", .ref tl), ("x", .int x), ("which", .int w), ("deed", .int d2)]) ρ' ∧ σ = σ') ?_ ?_))
    · have lw := hlen4 w hw
      have l0 := hlen4 0 (by omega)
      have l1 := hlen4 1 (by omega)
      have fin2 : d2 = 2 → ∀ {ρ : Loc}, Le (Loc.of [("heaps", .ref hp), ("texts", .ref tl), ("x", .int x), ("which", .int w), ("deed", .int 2)]) ρ → Le (Loc.of [("heaps", .ref hp), ("texts", .ref tl), ("x", .int x), ("which", .int w), ("deed", .int d2)]) ρ := fun z => by rw [z]; exact id
      have plen : ∀ k, (pvi (xs k)).length = (xs k).length := fun k => by simp [pvi]
      have cond2 : (dd < 2 ∧ (xs w).length = 4) ∨ (dd = 5 ∧ (xs 0).length + (xs 1).length > 4) → d2 = 2 := fun c => by rw [hd2, if_pos c]
      have cond1 : ¬ ((dd < 2 ∧ (xs w).length = 4) ∨ (dd = 5 ∧ (xs 0).length + (xs 1).length > 4)) → d2 = dd := fun c => by rw [hd2, if_neg c]
      walk_at "walk"
      refine dC (fun c1 => ?_) fun c1 => ?_
      · walk_at "walk"
        refine SUB_list hLS.hh (by omega) (hget w hw) (by omega) (fun _ => rfl) ?_
        refine CL_len (hLS.ha w hw) (by rw [plen]; omega) ?_
        rw [plen]
        walk_at "walk"
        refine dC (fun c2 => ?_) fun c2 => ?_
        · walk_at "walk"
          have := cond2 (.inl ⟨by omega, by omega⟩)
          subst this
          exact ⟨rfl, by walk_at "le", rfl⟩
        · walk_at "walk"
          have := cond1 (fun c => by omega)
          subst this
          exact ⟨rfl, by walk_at "le", rfl⟩
      · walk_at "walk"
        refine dC (fun c2 => ?_) fun c2 => ?_
        · walk_at "walk"
          refine SUB_list hLS.hh (by decide) (hget 0 (by omega)) (by decide) (fun _ => rfl) ?_
          refine CL_len (hLS.ha 0 (by omega)) (by rw [plen]; omega) ?_
          rw [plen]
          walk_at "walk"
          refine SUB_list hLS.hh (by decide) (hget 1 (by omega)) (by decide) (fun _ => rfl) ?_
          refine CL_len (hLS.ha 1 (by omega)) (by rw [plen]; omega) ?_
          rw [plen]
          walk_at "walk"
          refine dC (fun c3 => ?_) fun c3 => ?_
          · walk_at "walk"
            have := cond2 (.inr ⟨by omega, by omega⟩)
            subst this
            exact ⟨rfl, by walk_at "le", rfl⟩
          · walk_at "walk"
            have := cond1 (fun c => by omega)
            subst this
            exact ⟨rfl, by walk_at "le", rfl⟩
        · walk_at "walk"
          have := cond1 (fun c => by omega)
          subst this
          exact ⟨rfl, by walk_at "le", rfl⟩
    · rintro f ρ' σ' ⟨rfl, hle, rfl⟩
      refine seqQ_next (EXS_le hle ?_)
      have hd6 : d2 < 6 := by rw [hd2]; split <;> omega
      have hp4 : d2 < 2 → (xs w).length < 4 := fun z => by
        have := hlen4 w hw
        rw [hd2] at z
        split at z
        · omega
        · rename_i hc
          exact Nat.lt_of_le_of_ne this fun q => hc (.inl ⟨z, q⟩)
      have hp5 : d2 = 5 → (xs 0).length + (xs 1).length ≤ 4 := fun z => by
        rw [hd2] at z
        split at z
        · omega
        · rename_i hc
          exact Nat.le_of_not_lt fun q => hc (.inr ⟨z, q⟩)
      clear hd2 hle hde hdd
      refine EXS_cons (EX_Assign rfl rfl rfl (EV.mono (Q := fun p σ' => p = .int (lmode (x.fdiv 2 * 2477)) ∧ σ = σ') ?_ ?_))
      · walk_at "walk"
        exact lawmode_ok' B ⟨rfl, rfl⟩
      rintro _ _ ⟨rfl, rfl⟩
      have hVm : Vm (lmode (x.fdiv 2 * 2477)) := rd_lmode _
      generalize lmode (x.fdiv 2 * 2477) = md at hVm
      refine seqQ_next (EXS_cons (EX.mono (Q := fun f ρ' σ' => f = .next ∧ Le (Loc.of [("heaps", .ref hp), ("texts", .ref tl)]) ρ' ∧ ∃ a' xs' t', LS σ' hp tl a' xs' t') ?_ ?_))
      · have hs60 : ∀ k, k < 2 → siz (t k) ≤ 4 := fun k hk => by rw [(hLS.inv k hk).siz]; exact hlen4 k hk
        by_cases c5 : d2 = 5
        · subst c5
          have h45 := hp5 rfl
          have i0 := hLS.inv 0 (by omega)
          have i1 := hLS.inv 1 (by omega)
          have z0 := hs60 0 (by omega)
          have z1 := hs60 1 (by omega)
          obtain ⟨n30, n30'⟩ := hLS.n3 0 (by omega)
          obtain ⟨n31, n31'⟩ := hLS.n3 1 (by omega)
          have hn1 := hLS.n1
          have plen : ∀ k, (pvi (xs k)).length = (xs k).length := fun k => by simp [pvi]
          obtain ⟨q1, q2⟩ := hify_q (xs := xs 0 ++ xs 1) (by rw [List.length_append]; exact h45)
          have hInv5 : Inv (hify (xs 0 ++ xs 1)) (meld (t 0) (t 1)) :=
            ⟨⟨meld_root i0.root i1.root, meld_fv i0.fv i1.fv, meld_hp i0.root i1.root i0.hp i1.hp, (q2.trans (i0.perm.append i1.perm)).trans (meld_bag i0.root i1.root).symm⟩, q1⟩
          have hj5 := joined_enc i0.root i1.root i0.fv i1.fv
          walk_at "walk"
          refine SUB_list hLS.hh (by decide) (hget 0 (by omega)) (by decide) (fun _ => rfl) ?_
          walk_at "walk"
          refine SUB_list hLS.hh (by decide) (hget 1 (by omega)) (by decide) (fun _ => rfl) ?_
          refine BIN_addlist (hLS.ha 0 (by omega)) (hLS.ha 1 (by omega)) (by rw [plen, plen]; omega) fun c1 hc1 => ?_
          rw [pvi_app]
          have e1 : c1 ≠ hp := fun z => by rw [z, hLS.hh] at hc1; cases hc1
          have e2 : c1 ≠ tl := fun z => by rw [z, hLS.ht] at hc1; cases hc1
          walk_at "walk"
          refine SETI_list (by rw [Sto.put_ne _ _ e1.symm]; exact hLS.hh) (by omega) (by simp; omega) (by omega) ?_
          rw [Int.toNat_natCast]
          walk_at "walk"
          refine EV_List ?_
          walk_at "walk"
          refine ⟨by show 0 ≤ sizeLine; decide, fun c2 hc2 => ?_⟩
          have e3 : c2 ≠ hp := fun z => by rw [z, Sto.put_self] at hc2; cases hc2
          have e4 : c2 ≠ c1 := fun z => by rw [z, Sto.put_ne _ _ e1, Sto.put_self] at hc2; cases hc2
          have e5 : c2 ≠ tl := fun z => by rw [z, Sto.put_ne _ _ hn1.symm, Sto.put_ne _ _ e2.symm, hLS.ht] at hc2; cases hc2
          walk_at "walk"
          refine SETI_list (ps := [PV.ref (a 0), PV.ref (a 1)].set w (.ref c1)) (by rw [Sto.put_ne _ _ e3.symm, Sto.put_self]) (by omega) (by simp; omega) (by omega) ?_
          have hset2 : ([PV.ref (a 0), PV.ref (a 1)].set w (.ref c1)).set ((1 : Int) - w).toNat (.ref c2) = [PV.ref (if w = 0 then c1 else c2), PV.ref (if w = 0 then c2 else c1)] := by
            rcases (by omega : w = 0 ∨ w = 1) with rfl | rfl <;> rfl
          rw [hset2]
          generalize hσ2 : Sto.put _ hp [PV.ref (if w = 0 then c1 else c2), PV.ref (if w = 0 then c2 else c1)] = σ2
          have s1 : σ2 hp = some [PV.ref (if w = 0 then c1 else c2), PV.ref (if w = 0 then c2 else c1)] := by rw [← hσ2, Sto.put_self]
          have s2 : σ2 c1 = some (pvi (xs 0 ++ xs 1)) := by rw [← hσ2, Sto.put_ne _ _ e1, Sto.put_ne _ _ e4.symm, Sto.put_ne _ _ e1, Sto.put_self]
          have s3 : σ2 c2 = some [] := by rw [← hσ2, Sto.put_ne _ _ e3, Sto.put_self]
          have s4 : σ2 tl = some [PV.str (mk (enc (t 0))), PV.str (mk (enc (t 1)))] := by rw [← hσ2, Sto.put_ne _ _ hn1.symm, Sto.put_ne _ _ e5.symm, Sto.put_ne _ _ hn1.symm, Sto.put_ne _ _ e2.symm]; exact hLS.ht
          clear hσ2
          walk_at "walk"
          refine SUB_list s1 (by omega) (p := .ref c1) (by rcases (by omega : w = 0 ∨ w = 1) with rfl | rfl <;> rfl) (by omega) (fun _ => rfl) ?_
          walk_at "walk"
          refine heapify_ok B s2 (by rw [List.length_append]; omega) ?_
          walk_at "walk"
          refine SUB_list (by rw [Sto.put_ne _ _ e2.symm]; exact s4) (by decide) (hgett 0 (by omega)) (by decide) (fun _ => rfl) ?_
          walk_at "walk"
          refine SUB_list (by rw [Sto.put_ne _ _ e2.symm]; exact s4) (by decide) (hgett 1 (by omega)) (by decide) (fun _ => rfl) ?_
          walk_at "walk"
          refine lawjoined_ok B (enc_tx _) (enc_tx _) (by rw [enc_len]; omega) (by rw [enc_len]; omega) ?_
          rw [hj5]
          walk_at "walk"
          refine SETI_list (by rw [Sto.put_ne _ _ e2.symm]; exact s4) (by omega) (by simp; omega) (by omega) ?_
          walk_at "walk"
          refine SETI_list (Sto.put_self ..) (by omega) (by simp; omega) (by omega) ?_
          rw [Sto.put_put, Int.toNat_natCast]
          have hset3 : ([PV.str (mk (enc (t 0))), PV.str (mk (enc (t 1)))].set w (.str (mk (enc (meld (t 0) (t 1)))))).set ((1 : Int) - w).toNat (.str (mk [])) = [PV.str (mk (enc (if w = 0 then meld (t 0) (t 1) else .nil))), PV.str (mk (enc (if w = 0 then .nil else meld (t 0) (t 1))))] := by
            rcases (by omega : w = 0 ∨ w = 1) with rfl | rfl <;> rfl
          rw [hset3]
          walk_at "walk"
          refine ⟨rfl, by walk_at "le", (fun k => if k = w then c1 else c2), (fun k => if k = w then hify (xs 0 ++ xs 1) else []), (fun k => if k = w then meld (t 0) (t 1) else .nil), ?_⟩
          refine ⟨?_, ?_, fun k hk => ?_, fun k hk => ?_, hn1, ?_, fun k hk => ?_⟩
          · rw [Sto.put_ne _ _ hn1, Sto.put_ne _ _ e1.symm, s1]
            rcases (by omega : w = 0 ∨ w = 1) with rfl | rfl <;> rfl
          · rw [Sto.put_self]
            rcases (by omega : w = 0 ∨ w = 1) with rfl | rfl <;> rfl
          · by_cases hkw : k = w
            · simp only [if_pos hkw]
              rw [Sto.put_ne _ _ e2, Sto.put_self]
            · simp only [if_neg hkw]
              rw [Sto.put_ne _ _ e5, Sto.put_ne _ _ e4, s3]; rfl
          · by_cases hkw : k = w
            · simp only [if_pos hkw]; exact hInv5
            · simp only [if_neg hkw]; exact Inv.nil
          · rcases (by omega : w = 0 ∨ w = 1) with rfl | rfl
            · exact e4.symm
            · exact e4
          · by_cases hkw : k = w
            · simp only [if_pos hkw]; exact ⟨e1, e2⟩
            · simp only [if_neg hkw]; exact ⟨e3, e5⟩
        · have hInv := hLS.inv w hw
          have hd5 : d2 < 5 := by omega
          by_cases hb : t w = .nil ∧ (d2 = 2 ∨ d2 = 4)
          · have hxn : xs w = [] := List.eq_nil_of_length_eq_zero (by rw [← hInv.siz, hb.1]; rfl)
            walk_at "walk"
            refine SUB_list hLS.ht (by omega) (hgett w hw) (by omega) (fun _ => rfl) ?_
            walk_at "walk"
            refine dT (enc_nil.mpr hb.1) ?_
            have hfin : ∀ {ρ : Loc}, Le (Loc.of [("heaps", .ref hp), ("texts", .ref tl)]) ρ → (FL.next = FL.next ∧ Le (Loc.of [("heaps", .ref hp), ("texts", .ref tl)]) ρ ∧ ∃ a' xs' t', LS σ hp tl a' xs' t') := fun z => ⟨rfl, z, a, xs, t, hLS⟩
            refine TS.mono (Q := fun b σ' => b = true ∧ σ = σ') ?_ ?_
            · rcases hb.2 with rfl | rfl
              · walk_at "walk"
                exact ⟨rfl, rfl⟩
              · walk_at "walk"
                exact ⟨rfl, rfl⟩
            · rintro _ _ ⟨rfl, rfl⟩
              simp only [if_true]
              refine EXS_cons (hRef _ _ _ _ _ _ _ _ _ _ _ _ _ _ _ d2 w md hp (a w) _ hb.2 hw rfl rfl rfl rfl hLS.hh (by have := hget w hw; rwa [Int.toNat_natCast] at this) (by rw [hLS.ha w hw, hxn]; rfl) ?_)
              walk_at "walk"
              exact hfin (by walk_at "le")
          · have hne : d2 = 2 ∨ d2 = 4 → xs w ≠ [] := fun z q => hb ⟨by rw [q] at hInv; exact hInv.empty, z⟩
            have hnt : d2 = 2 ∨ d2 = 4 → t w ≠ .nil := fun z q => hb ⟨q, z⟩
            obtain ⟨st1, st2⟩ := step_inv hInv hVm hd5 hp4 hne
            obtain ⟨c1, c2⟩ := hLS.n3 w hw
            walk_at "walk"
            refine SUB_list hLS.ht (by omega) (hgett w hw) (by omega) (fun _ => rfl) ?_
            walk_at "walk"
            refine dC (fun ce => ?_) fun ce => ?_
            case' _ =>
              have h2 : ¬ d2 = 2 := fun z => hb ⟨enc_nil.mp ce, .inl z⟩
              have h4' : ¬ d2 = 4 := fun z => hb ⟨enc_nil.mp ce, .inr z⟩
            all_goals
              walk_at "walk"
              refine SUB_list hLS.hh (by omega) (hget w hw) (by omega) (fun _ => rfl) ?_
              walk_at "walk"
              refine lawcall_ok' B hd5 (hLS.ha w hw) (by have := hlen4 w hw; omega) hne ?_
              walk_at "walk"
              refine lawdue_ok (t := t w) (mode := md) B T hG hd5 (by omega) (by rw [Sto.put_ne _ _ c2.symm]; exact hLS.ht) (by have := hgett w hw; rwa [Int.toNat_natCast] at this) hInv.root hInv.fv (by have := hs60 w hw; omega) hVm hnt ?_
              rw [st1]
              refine CMP_ne_same (dueF_kind ..) ?_
              walk_at "walk"
              exact ⟨rfl, by walk_at "le", a, _, _, ls_call hLS hw st2⟩
      · rintro f ρ' σ' ⟨rfl, hle, a', xs', t', hLS'⟩
        refine seqQ_next (EXS_le hle ?_)
        clear hLS hp4 hp5 hget hgett hlen4
        have hget : ∀ k : Nat, k < 2 → ([PV.ref (a' 0), PV.ref (a' 1)] : List PV)[(k : Int).toNat]? = some (.ref (a' k)) := fun k hk => by
          rcases (by omega : k = 0 ∨ k = 1) with rfl | rfl <;> rfl
        refine EXS_cons (EX_For rfl rfl (fun _ => rfl) (ITR_range1 B rfl rfl rfl rfl rfl (EV_int ⟨2, rfl, by decide, ?_⟩)))
        refine forQ_ind (D := Sto) (fun d => Loc.of [("heaps", .ref hp), ("texts", .ref tl)]) (fun d => d) (fun ps d => (∀ p ∈ ps, ∃ k : Nat, k < 2 ∧ p = .int k) ∧ LS d hp tl a' xs' t') ?_ ?_ _ σ' ⟨fun p hp => ?_, hLS'⟩ (by walk_at "le") rfl
        · rintro p ps σ3 ⟨hps, hL3⟩
          obtain ⟨k, hk, rfl⟩ := hps p (List.mem_cons_self ..)
          have hI3 := hL3.inv k hk
          have hl3 := hI3.q.len
          walk_at "walk"
          refine SUB_list hL3.hh (by omega) (hget k hk) (by omega) (fun _ => rfl) ?_
          walk_at "walk"
          refine SLI_list (hL3.ha k hk) (by simp [pvi]; omega) fun b1 hb1 => ?_
          rw [pick1]
          have hb1t : b1 ≠ tl := fun z => by rw [z, hL3.ht] at hb1; cases hb1
          refine EV_ListComp (cl := []) (fun _ => rfl) rfl rfl rfl (by decide) rfl (by decide) (ITR_list (EV_slice ?_))
          walk_at "walk"
          refine SLI_list (by rw [Sto.put_ne _ _ hb1t.symm]; exact hL3.ht) (by simp) fun b2 hb2 => ?_
          have hpk : pick [PV.str (mk (enc (t' 0))), PV.str (mk (enc (t' 1)))] (some (k : Int)) (some ((k : Int) + 1)) = [PV.str (mk (enc (t' k)))] := by
            rcases (by omega : k = 0 ∨ k = 1) with rfl | rfl <;> rfl
          rw [hpk]
          refine ⟨b2, _, rfl, Sto.put_self .., fun b3 C hb3 => ?_⟩
          have hsub4 : Sub (σ3.put b1 ((pvi (xs' k)).take 1)) (((σ3.put b1 ((pvi (xs' k)).take 1)).put b2 [PV.str (mk (enc (t' k)))]).drop b2) := Sub.drop hb2
          generalize hσ4 : ((σ3.put b1 ((pvi (xs' k)).take 1)).put b2 [PV.str (mk (enc (t' k)))]).drop b2 = σ4 at *
          have g1 : σ4 b1 = some (pvi ((xs' k).take 1)) := by rw [hsub4 b1 _ (Sto.put_self ..)]; simp [pvi]
          have g2 : Sub σ3 σ4 := (Sub.fresh hb1).trans hsub4
          have g3 : b1 ≠ b3 := fun z => by rw [← z, g1] at hb3; cases hb3
          show TS _ _ _ _ _ _ _
          by_cases hn : t' k = .nil
          · have hxn : xs' k = [] := List.eq_nil_of_length_eq_zero (by rw [← hI3.siz, hn]; rfl)
            walk_at "walk"
            refine ndF (enc_nil.mpr hn) ?_
            show CMP _ _ _ _ _ _ _
            refine CMP_nel (ns := (xs' k).take 1) (ms := []) (by rw [Sto.put_ne _ _ g3]; exact g1) (Sto.put_self ..) ?_
            rw [hxn]
            walk_at "walk"
            refine ndF rfl ?_
            walk_at "walk"
            exact ⟨_, ⟨fun q hq => hps q (List.mem_cons_of_mem _ hq), ls_sub hL3 (g2.trans (Sub.fresh hb3))⟩, by walk_at "le", rfl⟩
          · obtain ⟨y, ys, hxe⟩ := hI3.nonempty hn
            have hI3' := hI3
            rw [hxe] at hI3'
            obtain ⟨kk, hte, _⟩ := hI3'.top
            have hvm : rd (fm y) = y := by have := hI3.fv; rw [hte] at this; exact this.1
            have hzk : siz kk < 500 := by have := hI3.siz; rw [hte] at this; simp only [siz] at this; omega
            walk_at "walk"
            refine ndT (fun z => hn (enc_nil.mp z)) ?_
            walk_at "walk"
            rw [hte]
            refine SLI_top hzk (ES_nil (lawread_ok B (fm_len y) ?_))
            rw [hvm]
            refine ⟨[], Sto.put_self .., by decide, ?_⟩
            rw [Sto.put_put]
            show CMP _ _ _ _ _ _ _
            refine CMP_nel (ns := (xs' k).take 1) (ms := [y]) (by rw [Sto.put_ne _ _ g3]; exact g1) (Sto.put_self ..) ?_
            rw [hxe]
            walk_at "walk"
            refine ndF rfl ?_
            walk_at "walk"
            exact ⟨_, ⟨fun q hq => hps q (List.mem_cons_of_mem _ hq), ls_sub hL3 (g2.trans (Sub.fresh hb3))⟩, by walk_at "le", rfl⟩
        · rintro σ3 ⟨_, hL3⟩
          walk_at "walk"
          exact ⟨(σ3, a', xs', t'), ⟨⟨is'', rfl⟩, hL3⟩, Le.refl, rfl⟩
        · obtain ⟨k, hk, rfl⟩ := List.mem_map.mp hp
          exact ⟨k, List.mem_range.mp hk, rfl⟩
  · clear LS1 LS0 hsub hb5 hb4 hb3 hb2 hb1 hitems h3 h2 h1 h0 ntp nt1 nt0 n1p n0p n01
    rintro ⟨σ, a, xs, t⟩ ⟨_, hLS⟩
    dsimp only at hLS ⊢
    have hget : ∀ k : Nat, k < 2 → ([PV.ref (a 0), PV.ref (a 1)] : List PV)[(k : Int).toNat]? = some (.ref (a k)) := fun k hk => by
      rcases (by omega : k = 0 ∨ k = 1) with rfl | rfl <;> rfl
    have hgett : ∀ k : Nat, k < 2 → ([PV.str (mk (enc (t 0))), PV.str (mk (enc (t 1)))] : List PV)[(k : Int).toNat]? = some (.str (mk (enc (t k)))) := fun k hk => by
      rcases (by omega : k = 0 ∨ k = 1) with rfl | rfl <;> rfl
    refine EXS_nil ?_
    refine seqQ_next ?_
    refine EXS_cons (EX_For rfl rfl (fun _ => rfl) (ITR_range1 B rfl rfl rfl rfl rfl (EV_int ⟨2, rfl, by decide, ?_⟩)))
    refine forQ_ind (D := Sto) (fun d => Loc.of [("heaps", .ref hp), ("texts", .ref tl)]) (fun d => d) (fun ps d => (∀ p ∈ ps, ∃ k : Nat, k < 2 ∧ p = .int k) ∧ LS d hp tl a xs t) ?_ ?_ _ σ ⟨fun p hp => ?_, hLS⟩ (by walk_at "le") rfl
    · rintro p ps σ3 ⟨hps, hL3⟩
      obtain ⟨k, hk, rfl⟩ := hps p (List.mem_cons_self ..)
      have hI3 := hL3.inv k hk
      have hl3 := hI3.q.len
      have hs3 := hI3.siz
      walk_at "walk"
      refine SUB_list hL3.ht (by omega) (hgett k hk) (by omega) (fun _ => rfl) ?_
      walk_at "walk"
      refine lawheld_ok B hI3.fv (by omega) fun b1 n1 hb1 pr1 sr1 => ?_
      have LS2 := ls_sub hL3 (Sub.fresh (l := pvi n1) hb1)
      refine EV_sorted B rfl rfl rfl rfl rfl ?_
      walk_at "walk"
      refine SUB_list LS2.hh (by omega) (hget k hk) (by omega) (fun _ => rfl) ?_
      refine CL_sorted (LS2.ha k hk) (by omega) fun b2 n2 hb2 pr2 sr2 => ?_
      have LS3 := ls_sub LS2 (Sub.fresh (l := pvi n2) hb2)
      have hne : b1 ≠ b2 := fun z => by rw [← z, Sto.put_self] at hb2; cases hb2
      have hnn : n1 = n2 := sorted_uniq (pr1.trans (hI3.perm.symm.trans pr2.symm)) sr1 sr2
      refine CMP_nel (by rw [Sto.put_ne _ _ hne]; exact Sto.put_self ..) (Sto.put_self ..) ?_
      walk_at "walk"
      refine ndF hnn ?_
      walk_at "walk"
      refine SUB_list LS3.ht (by omega) (hgett k hk) (by omega) (fun _ => rfl) ?_
      walk_at "walk"
      refine checkpar_ok B hG (enc_ascii _) (noq_enc _) (by rw [enc_len]; omega) ?_
      rw [ck_ec, ckr_all]
      walk_at "walk"
      simp only [bne_self_eq_false, Bool.false_eq_true, if_false]
      walk_at "walk"
      exact ⟨_, ⟨fun q hq => hps q (List.mem_cons_of_mem _ hq), LS3⟩, by walk_at "le", rfl⟩
    · rintro σ3 ⟨_, hL3⟩
      walk_at "walk"
      exact rfl
    · obtain ⟨k, hk, rfl⟩ := List.mem_map.mp hp
      exact ⟨k, List.mem_range.mp hk, rfl⟩

/-! X1 -/
section
variable {M : Model} {A : Around} {E : Value → Shared → Prop} {s : Shared}
/-- the frame that catches is noted -/
theorem noted_next {base : Heap} {env : Env} {outer : List Env} {L e : Addr} {cls : Value} {Q : Unit → Shared → Prop}
    (hfr : A.frames = some (env :: outer)) (hl : s.heap.FunFrames base (env :: outer)) (hf : env.frame = some L) (ht : s.heap.Traced base e cls) (hkb : base.StaysIn s.heap) (hen : base.get? e = none)
    (h : ∀ h', Heap.Left base (env :: outer) e cls s.heap h' → Q () { s with heap := h' }) : wpAny M A (noteFrame (.ref e) env) (fun _ s' => wpAny M A (setFlight (.ref e) none) Q E s') E s := by
  obtain ⟨oe, vs, T, oT, ts, he, hcls, hd, h1, hnT, hTe, hT, hdT, h3⟩ := ht
  subst hcls
  unfold noteFrame
  simp only [hf]
  refine wpAny_bind (wpAny_field he hd h1 ?_)
  rw [if_pos (show (Value.ref T != Value.none) = true from by simp)]
  refine wpAny_bind (wpAny_field hT hdT h3 ?_)
  rw [if_neg (show ¬ ((Value.none == rawInt L) = true) from by simp [rawInt])]
  refine wpAny_bind (wpAny_setField hT hdT (Array.getElem?_eq_some_iff.mp h3).1 ?_)
  have other : ∀ b, b ≠ T → (s.heap.update T (Obj.mapFields (·.setIfInBounds 3 Value.none))).get? b = s.heap.get? b := fun b hb => Heap.get?_update_other _ _ (Ne.symm hb)
  have noRecord : ∀ b o, s.heap.get? b = some o → (∀ vs, o.data ≠ .fields vs) → b ≠ T := fun b o hb hnf q => by
    rw [q, hT] at hb; injection hb with hb; subst hb; exact hnf ts hdT
  refine wpAny_newEntry hfr (hl.of_keeps fun b o hb hnf => ⟨o, (other b (noRecord b o hb hnf)).trans hb, rfl⟩) hf ((other e (Ne.symm hTe)).trans he)
    (fun b o hbo => (other b fun q => by rw [q, hnT] at hbo; cases hbo).trans (hkb b o hbo)) hen hd (Array.getElem?_eq_some_iff.mp h1).1
    fun h' ⟨x1, x2, x3, x4⟩ => h h' ⟨x1, x2, x3, fun b o hb hnf => x4 b o ((other b (noRecord b o hb hnf)).trans hb) hnf⟩
end
/-- data stand, records apart -/
noncomputable def Keep2 (h h' : Heap) : Prop := ∀ b o, h.get? b = some o → (∀ vs, o.data ≠ .fields vs) → ∃ sl, h'.get? b = some { o with slots := sl }
theorem Keep2.trans {h h' h'' : Heap} (x : Keep2 h h') (y : Keep2 h' h'') : Keep2 h h'' := fun b o e n => by
  obtain ⟨sl, e'⟩ := x b o e n
  obtain ⟨sl', e''⟩ := y b _ e' n
  exact ⟨sl', e''⟩
theorem Keep2.ns {h h' : Heap} {L : Addr} {m : Str → Option Value} (x : Keep2 h h') (hn : h.Ns L m) : h'.Ns L m := by
  obtain ⟨o, es, ep, ho, hd, r⟩ := hn
  obtain ⟨sl, e⟩ := x L o ho (fun vs z => by rw [hd] at z; cases z)
  exact ⟨_, es, ep, e, hd, r⟩
theorem Keep2.of {h h' : Heap} (x : ∀ b o, h.get? b = some o → h'.get? b = some o) : Keep2 h h' := fun b o e _ => ⟨o.slots, by rw [x b o e]⟩
/-- a heap less one object -/
noncomputable def delObj (h : Heap) (c : Addr) : Heap := { h with objs := h.objs.modify c fun o => { o with data := .freed } }

/-! X2 -/
theorem get_delObj {h : Heap} {c : Nat} (b : Nat) : (delObj h c).get? b = if b = c then none else h.get? b := by
  unfold delObj Heap.get?
  simp only [Array.getElem?_modify]
  by_cases e : c = b
  · subst e
    rw [if_pos rfl, if_pos rfl]
    cases h.objs[c]? with
    | none => rfl
    | some o => rfl
  · rw [if_neg e, if_neg (fun z => e z.symm)]

noncomputable def FlyN (s : Shared) (e : Value) (s' : Shared) : Prop := ∃ ea, e = .ref ea ∧ Heap.NewExc s.heap s'.heap ea "IndexError" ∧ s'.gens = s.gens ∧ s'.os = s.os
structure FlyAt (R : Rn) (base : Heap) (l : List Env) (s : Shared) (ea : Addr) (s' : Shared) : Prop where
  stay : base.StaysIn s'.heap
  new : base.get? ea = none
  fr : s'.heap.FunFrames base l
  tr : s'.heap.Traced base ea (.type "IndexError")
  k2 : ∀ L m, s.heap.Ns L m → s'.heap.Ns L m
  gens : R.G s'.gens
  os : s'.os = R.os₀
noncomputable def Fly (R : Rn) (base : Heap) (l : List Env) (s : Shared) (e : Value) (s' : Shared) : Prop := ∃ ea, e = .ref ea ∧ FlyAt R base l s ea s'

theorem leave_any {R : Rn} {σ : Sto} {M : Model} {A : Around} {E : Value → Shared → Prop} {base : Heap} {env : Env} {outer : List Env} {L : Addr} {e : Value} {s s' : Shared} {Q : Unit → Shared → Prop} (hfr : A.frames = some (env :: outer)) (hf : env.frame = some L)
    (hkb : base.StaysIn s.heap) (hl : s.heap.FunFrames base (env :: outer)) (S : St R σ s) (h : FlyN s e s' ∨ Fly R base (env :: outer) s e s') (hQ : ∀ s'', Fly R base outer s e s'' → Q () s'') : wpAny M A (leaving env e) Q E s' := by
  rcases h with ⟨ea, rfl, hx, hg, ho⟩ | ⟨ea, rfl, hF⟩
  · obtain ⟨ob, tp, he, hcls, hd⟩ := hx.there
    have hen : base.get? ea = none := by
      cases hq : base.get? ea with
      | none => rfl
      | some o' => have := hkb ea o' hq; rw [hx.new] at this; cases this
    refine wpAny_leaving_first hfr (hl.of_keeps fun b o hb _ => ⟨o, hx.keeps b o hb, rfl⟩) hf he (fun b o hb => hx.keeps b o (hkb b o hb)) hen hd rfl fun h' hL => ?_
    obtain ⟨k1, ⟨_, _, k2⟩, k3, k4⟩ := hL
    exact hQ _ ⟨ea, rfl, ⟨k1, hen, k2, by rw [← hcls]; exact k3, fun L m hn => (Keep2.trans (Keep2.of hx.keeps) k4).ns hn, by show R.G s'.gens; rw [hg]; exact S.bare, ho.trans S.os⟩⟩
  · refine wpAny_leaving_next hfr hF.fr hf hF.tr hF.stay hF.new fun h' hL => ?_
    obtain ⟨k1, ⟨_, _, k2⟩, k3, k4⟩ := hL
    exact hQ _ ⟨ea, rfl, ⟨k1, hF.new, k2, k3, fun L m hn => Keep2.ns k4 (hF.k2 L m hn), hF.gens, hF.os⟩⟩

/-! X3 -/
abbrev never {α : Type} : α → Shared → Prop := fun _ _ => False

theorem call_raises {R : Rn} {r : Nat} {σ : Sto} {f : Str} {ps : Arguments} {body : List Stmt} {sc : Scope} {vals : List Value} {A : Around} {s : Shared} {base : Heap} {l : List Env} {fa : Addr} (B : Base R) (hdef : P0.theDef f = some (ps, body, sc)) (hfa : R.mg f = some (.ref fa))
    (hbind : ∀ pm cd doc, bindArgs (docDef f ps body sc pm cd doc) ⟨vals, []⟩ = pure ((ps.args.map (·.arg)).zip vals)) (hlen : (ps.args.map (·.arg)).length = vals.length)
    (hloc : ((ps.args.map (·.arg)).all fun n => decide (sc.names.lookup n = some .local)) = true)
    (hco : sc.isCoroutine = false) (hgen : sc.isGenerator = false) (hk : sc.kind = .function) (hcell : (sc.names.all fun x => decide (x.2 ≠ .cell)) = true)
    (hA : Room R.top (r + 1) A) (S : St R σ s) (hfr : A.frames = some l) (hl : s.heap.FunFrames base l) (hkb : base.StaysIn s.heap)
    (h : ∀ cd s₁, St R σ s₁ → LocAt R (envOf f sc s.heap.objs.size fa cd).locals (Loc.of ((ps.args.map (·.arg)).zip (vals.map pv)).reverse) s₁ → base.StaysIn s₁.heap → s₁.heap.FunFrames base (envOf f sc s.heap.objs.size fa cd :: l) → Room R.top r (A.deeper (envOf f sc s.heap.objs.size fa cd)) → (A.deeper (envOf f sc s.heap.objs.size fa cd)).frames = some (envOf f sc s.heap.objs.size fa cd :: l) →
      wpAny R.M (A.deeper (envOf f sc s.heap.objs.size fa cd)) (execs body (envOf f sc s.heap.objs.size fa cd)) never (fun e s' => FlyN s₁ e s' ∨ Fly R base (envOf f sc s.heap.objs.size fa cd :: l) s₁ e s') s₁) :
    wpAny R.M A (call (.ref fa) vals) never (Fly R base l s) s := by
  obtain ⟨fa', o, pm, cd, doc, h1, h2, h3, h4⟩ := B.fn f ps body sc hdef
  rw [hfa] at h1; cases h1
  obtain ⟨f1, f2, f3⟩ := S.fresh
  have hbL : base.get? s.heap.objs.size = none := hkb.fresh
  refine wpAny_call (call_plain (by have := hA.dep; omega) (S.keep _ _ h2) h3 (B.lim.keeps S.keep) (h4.keeps S.keep) (hbind pm cd doc) ?_ (fun h₁ F₁ => ?_) hco hgen hk ?_)
  · intro q hq
    exact of_decide_eq_true (List.all_eq_true.mp hloc q.1 (List.of_mem_zip hq).1)
  · have hfr' : (A.deeper (envOf f sc s.heap.objs.size fa cd)).frames = some (envOf f sc s.heap.objs.size fa cd :: l) := Around.frames_deeper hfr
    have hA' : Room R.top r (A.deeper (envOf f sc s.heap.objs.size fa cd)) := ⟨hA.hd, by have := hA.dep; show A.depth + 1 + r < _; omega, by have := hA.un; show A.units + 3 + 8 * r + 200 < _; omega, by
      obtain ⟨pre, e, hl⟩ := hA.fr
      exact ⟨_ :: pre, Around.frames_deeper e, by show pre.length + 1 + 302 ≤ A.depth + 1; omega⟩⟩
    have S₁ : St R σ { s with heap := h₁, toks := s.toks + ((ps.args.map (·.arg)).zip vals).length } := ⟨fun b o e => F₁.keep _ _ (S.keep b o e), fun a l q => by
        obtain ⟨⟨vs, ⟨n, e⟩, hw⟩, hn⟩ := S.lists a l q
        exact ⟨⟨vs, ⟨n, F₁.keep _ _ e⟩, hw⟩, hn⟩, S.os, S.bare⟩
    have L₁ : LocAt R (envOf f sc s.heap.objs.size fa cd).locals (Loc.of ((ps.args.map (·.arg)).zip (vals.map pv)).reverse) { s with heap := h₁, toks := s.toks + ((ps.args.map (·.arg)).zip vals).length } := by
      refine ⟨⟨_, F₁.ns, fun y p hy => ?_⟩, f2⟩
      have e : ((ps.args.map (·.arg)).zip (vals.map pv)).reverse = (((ps.args.map (·.arg)).zip vals).reverse.map fun q => (q.1, pv q.2)) := by
        rw [List.map_reverse, List.zip_map_right]
        rfl
      unfold Loc.of at hy
      rw [e, lookup_pv] at hy
      cases hl : ((ps.args.map (·.arg)).zip vals).reverse.lookup y with
      | none => rw [hl] at hy; cases hy
      | some v => rw [hl] at hy; cases hy; exact ⟨v, rfl, rfl⟩
    have hst : base.StaysIn h₁ := fun b o e => F₁.keep b o (hkb b o e)
    have hff : h₁.FunFrames base (envOf f sc s.heap.objs.size fa cd :: l) := Heap.FunFrames.cons (by show sc.kind ≠ .module; rw [hk]; decide) rfl F₁.ns hbL (hl.of_keeps fun b o e _ => ⟨o, F₁.keep b o e, rfl⟩)
    refine wpAny_mono (h cd _ S₁ L₁ hst hff hA' hfr') (fun _ _ x => x.elim) fun e s' hx => ?_
    refine leave_any hfr' rfl hst hff S₁ hx fun s'' hF => ?_
    obtain ⟨ea, rfl, hF⟩ := hF
    exact ⟨ea, rfl, ⟨hF.stay, hF.new, hF.fr, hF.tr, fun L m hn => hF.k2 L m (hn.keeps F₁.keep), hF.gens, hF.os⟩⟩
  · intro q hq
    exact of_decide_eq_true (List.all_eq_true.mp hcell q hq)

/-! X4 -/
section
variable {R : Rn} {r : Nat} {env : Env} {ρ : Loc} {σ : Sto} {A : Around} {s : Shared}

theorem pop_raw {l : Addr} (hA : A.handled = none) (hl : R.h₀.PlainList l #[]) (S : St R σ s) : wpAny R.M A (call (.builtin "list.pop") [.ref l]) never (FlyN s) s := by
  obtain ⟨n, hpl⟩ := hl.at fun o e => S.keep l o e
  have hT : s.TypeIs (.ref l) "list" := ⟨_, hpl, rfl⟩
  exact call_meets F.slot_list_pop hT F.entry_list_pop (F.args_list_pop_1 _) (AutoSeq1.list_pop_list_0 l _ n rfl) ⟨hpl, hA, fun h' tk e hx => ⟨e, rfl, hx, rfl, rfl⟩⟩

theorem FlyN.of_keep {s s₁ s' : Shared} {e : Value} (h : FlyN s₁ e s') (hk : ∀ b o, s.heap.get? b = some o → s₁.heap.get? b = some o) (hg : s₁.gens = s.gens) (ho : s₁.os = s.os) : FlyN s e s' := by
  obtain ⟨ea, rfl, hx, a, b⟩ := h
  refine ⟨ea, rfl, ⟨fun b o e => hx.keeps b o (hk b o e), ?_, hx.there⟩, a.trans hg, b.trans ho⟩
  cases q : s.heap.get? ea with
  | none => rfl
  | some o => have := hk ea o q; rw [hx.new] at this; cases this

/-- name = name.pop() on an empty list -/
theorem pop_stmt {x y : Str} {p1 p2 p3 p4 pos : Pos} {rest : List Stmt} {l : Addr} (hk : env.scope.kind = .function) (hy : env.kindOf y = some .local) (hd : (y == ("__debug__" : Str)) = false) (hline : (p3.endLine == p4.line) = true) (hA : A.handled = none)
    (hρ : ρ y = some (.ref l)) (hl : R.h₀.PlainList l #[]) (S : St R σ s) (F : LocAt R env.locals ρ s) :
    wpAny R.M A (execs (.Assign [.Name x p1] (.Call (.Attribute (.Name y p2) "pop" p3) [] [] p4) pos :: rest) env) never (FlyN s) s := by
  obtain ⟨m, hn, hm⟩ := F.ns
  obtain ⟨v, hv, e⟩ := hm y _ hρ
  rw [pv_ref e] at hv
  refine wpAny_execs_cons (wpAny_Assign_Name (wpAny_Call_method rfl rfl hline PySem.F.plainAttrs_list PySem.F.slot_list_pop PySem.F.type_list_pop (wpAny_Name (wpAny_loadName_local hk hy hn hv ?_) hd)) rfl)
  have hp := hl.at fun o e => S.keep l o e
  refine ⟨hp.isList.typeIs, fun a e => ?_, callWith_method0 ?_⟩
  · cases e
    obtain ⟨n, e⟩ := hp
    exact ⟨_, e, rfl⟩
  exact wpAny_mono (pop_raw hA hl S) (fun _ _ x => x.elim) fun _ _ x => x

/-- name = name[0] on an empty list -/
theorem item_stmt {x y : Str} {p1 p2 p3 p4 pos : Pos} {k : Nat} {rest : List Stmt} {l : Addr} (hk : env.scope.kind = .function) (hy : env.kindOf y = some .local) (hd : (y == ("__debug__" : Str)) = false) (hA : A.handled = none)
    (hρ : ρ y = some (.ref l)) (hl : R.h₀.PlainList l #[]) (S : St R σ s) (F : LocAt R env.locals ρ s) :
    wpAny R.M A (execs (.Assign [.Name x p1] (.Subscript (.Name y p2) (.Constant (.int 0) k p3) p4) pos :: rest) env) never (FlyN s) s := by
  obtain ⟨m, hn, hm⟩ := F.ns
  obtain ⟨v, hv, e⟩ := hm y _ hρ
  rw [pv_ref e] at hv
  have hpl := hl.at fun o e => S.keep l o e
  refine wpAny_execs_cons (wpAny_Assign_Name (Subscript_ (wpAny_Name (wpAny_loadName_local hk hy hn hv (wpAny_Constant_int ?_)) hd)) rfl)
  refine tail_any hpl.isList.typeIs slot_list_getitem.lookup (wpAny_getItem_list_out hA hpl.isList (.inr (by simp)) (by decide) (by decide) fun h' tk e hx => ?_) rfl
  exact ⟨e, rfl, ⟨hx.keeps, hx.new, hx.there⟩, rfl, rfl⟩
end

/-! X5 -/
section
variable {R : Rn} {r : Nat} {env : Env} {ρ : Loc} {σ : Sto} {A : Around} {s : Shared}

theorem Fly.go {base : Heap} {l : List Env} {s₁ s' : Shared} {e : Value} (h : Fly R base l s₁ e s') (S : St R σ s) (g : Go σ σ s s₁) : Fly R base l s e s' := by
  obtain ⟨ea, rfl, hF⟩ := h
  exact ⟨ea, rfl, ⟨hF.stay, hF.new, hF.fr, hF.tr, fun L m hn => hF.k2 L m (hn.at' fun o eo => (g L o eo (S.notNs hn)).1), hF.gens, hF.os⟩⟩

/-- a call that raises -/
theorem callExpr_raises {x : Str} {p pos : Pos} {e : Expr} {rest : List Expr} {d : Arguments × List Stmt × Scope} {args : List PV} {base : Heap} {l : List Env} (B : Base R) (hdef : P0.theDef x = some d) (hk : env.scope.kind = .function) (hx : env.kindOf x = some .globalImplicit) (hg : env.globals = mainGlobals)
    (hd : (x == ("__debug__" : Str)) = false) (he : starEach (e :: rest) env = (false, eval e env) :: starEach rest env)
    (hev : eval (.Call (.Name x p) (e :: rest) [] pos) env = (do callWith pos (← eval (.Name x p) env) [] (backTo pos (starEach (e :: rest) env)) (backToKw pos (keywordEach [] env))))
    (hA : Room R.top r A) (S : St R σ s) (F : LocAt R env.locals ρ s)
    (h : ES R r env pos (e :: rest) ρ σ fun ps σ₁ => ps = args ∧ σ = σ₁)
    (hcall : ∀ fa vals s₁, R.mg x = some (.ref fa) → vals.map pv = args → St R σ s₁ → Go σ σ s s₁ → wpAny R.M A (call (.ref fa) vals) never (Fly R base l s₁) s₁) :
    wpAny R.M A (eval (.Call (.Name x p) (e :: rest) [] pos) env) never (Fly R base l s) s := by
  obtain ⟨ps, body, sc⟩ := d
  obtain ⟨fa, o, pm, cd, doc, h1, h2, h3, h4⟩ := B.fn x ps body sc hdef
  refine Call_ (Name_function_global hk hx (loadGlobal_global (mg := R.mg) (by rw [hg]; exact B.g.keeps S.keep) h1 (callWith_def h3 ?_ he)) hd) hev
  refine wpAny_mono (h A hA s S F) (fun vs s₁ ⟨σ₁, S₁, g₁, h₁, h₂⟩ => ⟨S₁.keep _ _ h2, ?_⟩) fun _ _ x => x.elim
  subst h₂
  exact wpAny_mono (hcall fa vs s₁ h1 h₁ S₁ g₁) (fun _ _ x => x) fun _ _ x => Fly.go x S g₁

theorem funFrames_go {base : Heap} {l : List Env} {s₁ : Shared} (S : St R σ s) (hl : s.heap.FunFrames base l) (g : Go σ σ s s₁) (hσ : ∀ e ∈ l, ∀ L, e.frame = some L → σ L = none) : s₁.heap.FunFrames base l := by
  induction l with
  | nil => trivial
  | cons env l ih =>
    obtain ⟨a, ⟨L, o, b1, b2, b3, b4⟩, c⟩ := hl
    exact ⟨a, ⟨L, o, b1, b2, (g L o b3 (hσ env (List.mem_cons_self ..) L b1)).1, b4⟩, ih c fun e he => hσ e (List.mem_cons_of_mem _ he)⟩

theorem if_raises {test : Expr} {body orelse : List Stmt} {pos : Pos} {b : Bool} {Q : Flow → Shared → Prop} {E : Value → Shared → Prop} (h : TS R r env test ρ σ fun b' σ' => b' = b ∧ σ = σ') (hA : Room R.top r A) (S : St R σ s) (F : LocAt R env.locals ρ s)
    (hk : ∀ s', St R σ s' → LocAt R env.locals ρ s' → Go σ σ s s' → wpAny R.M A (execs (if b = true then body else orelse) env) Q E s') : wpAny R.M A (exec (.If test body orelse pos) env) Q E s := by
  refine wpAny_If (wpAny_mono (h A hA s S F) (fun b' s' ⟨σ', S', g', e1, e2⟩ => ?_) fun _ _ x => x.elim)
  have e1 : b' = b := e1
  subst e1 e2
  cases b' with
  | true => exact hk s' S' (F.go S g') g'
  | false => exact hk s' S' (F.go S g') g'

/-- heappop and heapreplace of an empty list -/
theorem heappop_raises {l : Addr} {fa : Addr} {base : Heap} {le : List Env} (B : Base R) (hfa : R.mg "heappop" = some (.ref fa)) (hA : Room R.top (r + 1) A) (S : St R σ s) (hl : R.h₀.PlainList l #[]) (hfr : A.frames = some le) (hle : s.heap.FunFrames base le) (hkb : base.StaysIn s.heap) :
    wpAny R.M A (call (.ref fa) [.ref l]) never (Fly R base le s) s := by
  refine call_raises B rfl hfa (fun pm cd doc => rfl) rfl rfl rfl rfl rfl rfl hA S hfr hle hkb fun cd s₁ S₁ L₁ hst hff hA' hfr' => ?_
  exact wpAny_mono (pop_stmt rfl rfl rfl rfl hA'.hd rfl hl S₁ L₁) (fun _ _ x => x) fun _ _ x => .inl x
theorem heapreplace_raises {l : Addr} {v : Value} {fa : Addr} {base : Heap} {le : List Env} (B : Base R) (hfa : R.mg "heapreplace" = some (.ref fa)) (hA : Room R.top (r + 1) A) (S : St R σ s) (hl : R.h₀.PlainList l #[]) (hfr : A.frames = some le) (hle : s.heap.FunFrames base le) (hkb : base.StaysIn s.heap) :
    wpAny R.M A (call (.ref fa) [.ref l, v]) never (Fly R base le s) s := by
  refine call_raises B rfl hfa (fun pm cd doc => rfl) rfl rfl rfl rfl rfl rfl hA S hfr hle hkb fun cd s₁ S₁ L₁ hst hff hA' hfr' => ?_
  exact wpAny_mono (item_stmt rfl rfl rfl hA'.hd rfl hl S₁ L₁) (fun _ _ x => x) fun _ _ x => .inl x
end

/-! X6 -/
section
variable {R : Rn} {r : Nat} {env : Env} {ρ : Loc} {σ : Sto} {A : Around} {s : Shared}

theorem lawcall_raises {l : Addr} {dv mv : Value} {d : Nat} {mm : Int} {fa : Addr} {le : List Env} (B : Base R) (hfa : R.mg "_law_call" = some (.ref fa)) (hdv : pv dv = .int d) (hmv : pv mv = .int mm) (hd : d = 2 ∨ d = 4) (hA : Room R.top (r + 2) A) (S : St R σ s) (hl : R.h₀.PlainList l #[]) (hfr : A.frames = some le) (hle : s.heap.FunFrames R.h₀ le)
    (hσ : ∀ e ∈ le, ∀ L, e.frame = some L → σ L = none) :
    wpAny R.M A (call (.ref fa) [dv, .ref l, mv]) never (Fly R R.h₀ le s) s := by
  refine call_raises (r := r + 1) B rfl hfa (fun pm cd doc => rfl) rfl rfl rfl rfl rfl rfl hA S hfr hle S.keep fun cd s₁ S₁ L₁ hst hff hA' hfr' => ?_
  have L₁' : LocAt R s.heap.objs.size (Loc.of [("deed", .int d), ("heap", .ref l), ("mode", .int mm)]) s₁ := L₁.le (Le.cons (by rw [← hdv]; rfl) (Le.cons rfl (Le.cons (by rw [← hmv]; rfl) Le.nil)))
  have hσ' : ∀ sc', ∀ e ∈ (envOf "_law_call" sc' s.heap.objs.size fa cd :: le), ∀ L, e.frame = some L → σ L = none := fun sc' e he L hL => by
    rcases List.mem_cons.mp he with rfl | he
    · cases hL
      obtain ⟨m, hn, _⟩ := L₁.ns
      exact S₁.notNs hn
    · exact hσ e he L hL
  rcases hd with rfl | rfl
  · refine wpAny_execs_cons (if_raises (r := r + 1) (b := false) (by walk_at "walk"; exact ⟨rfl, rfl⟩) hA' S₁ L₁' fun s₂ S₂ L₂ g₂ => wpAny_execs_nil ?_)
    refine wpAny_execs_cons (if_raises (r := r + 1) (b := true) (by walk_at "walk"; exact ⟨rfl, rfl⟩) hA' S₂ L₂ fun s₃ S₃ L₃ g₃ => ?_)
    have g13 := g₂.trans g₃
    refine wpAny_execs_cons (wpAny_Return_some (wpAny_mono (callExpr_raises (base := R.h₀) (l := _ :: le) (r := r + 1) (args := [.ref l, .int mm]) B rfl rfl rfl rfl rfl rfl rfl hA' S₃ L₃ (by walk_at "walk"; exact ⟨rfl, rfl⟩) fun fb vals s₄ hfb hv S₄ g₄ => ?_) (fun _ _ x => False.elim x) fun e s' x => .inr (Fly.go x S₁ g13)))
    obtain ⟨v1, v2, rfl, e1, e2⟩ := two_of hv
    rw [pv_ref e1]
    exact heapreplace_raises B hfb hA' S₄ hl hfr' (funFrames_go S₁ hff (g13.trans g₄) (hσ' _)) S₄.keep
  · refine wpAny_execs_cons (if_raises (r := r + 1) (b := false) (by walk_at "walk"; exact ⟨rfl, rfl⟩) hA' S₁ L₁' fun s₂ S₂ L₂ g₂ => wpAny_execs_nil ?_)
    refine wpAny_execs_cons (if_raises (r := r + 1) (b := false) (by walk_at "walk"; exact ⟨rfl, rfl⟩) hA' S₂ L₂ fun s₃ S₃ L₃ g₃ => wpAny_execs_nil ?_)
    refine wpAny_execs_cons (if_raises (r := r + 1) (b := false) (by walk_at "walk"; exact ⟨rfl, rfl⟩) hA' S₃ L₃ fun s₄ S₄ L₄ g₄ => wpAny_execs_nil ?_)
    have g14 := (g₂.trans g₃).trans g₄
    refine wpAny_execs_cons (wpAny_Return_some (wpAny_mono (callExpr_raises (base := R.h₀) (l := _ :: le) (r := r + 1) (args := [.ref l]) B rfl rfl rfl rfl rfl rfl rfl hA' S₄ L₄ (by walk_at "walk"; exact ⟨rfl, rfl⟩) fun fb vals s₅ hfb hv S₅ g₅ => ?_) (fun _ _ x => False.elim x) fun e s' x => .inr (Fly.go x S₁ g14)))
    obtain ⟨v1, rfl, e1⟩ := one_of hv
    rw [pv_ref e1]
    exact heappop_raises B hfb hA' S₅ hl hfr' (funFrames_go S₁ hff (g14.trans g₅) (hσ' _)) S₅.keep
end

/-! X7 -/
theorem call_enter {R : Rn} {r : Nat} {σ : Sto} {f : Str} {ps : Arguments} {body : List Stmt} {sc : Scope} {vals : List Value} {A : Around} {s : Shared} {base : Heap} {l : List Env} {fa : Addr} {Q : Value → Shared → Prop} (B : Base R) (hdef : P0.theDef f = some (ps, body, sc)) (hfa : R.mg f = some (.ref fa))
    (hbind : ∀ pm cd doc, bindArgs (docDef f ps body sc pm cd doc) ⟨vals, []⟩ = pure ((ps.args.map (·.arg)).zip vals)) (hlen : (ps.args.map (·.arg)).length = vals.length)
    (hloc : ((ps.args.map (·.arg)).all fun n => decide (sc.names.lookup n = some .local)) = true)
    (hco : sc.isCoroutine = false) (hgen : sc.isGenerator = false) (hk : sc.kind = .function) (hcell : (sc.names.all fun x => decide (x.2 ≠ .cell)) = true)
    (hA : Room R.top (r + 1) A) (S : St R σ s) (hfr : A.frames = some l) (hl : s.heap.FunFrames base l) (hkb : base.StaysIn s.heap)
    (h : ∀ cd s₁, St R σ s₁ → LocAt R (envOf f sc s.heap.objs.size fa cd).locals (Loc.of ((ps.args.map (·.arg)).zip (vals.map pv)).reverse) s₁ → base.StaysIn s₁.heap → s₁.heap.FunFrames base (envOf f sc s.heap.objs.size fa cd :: l) → Room R.top r (A.deeper (envOf f sc s.heap.objs.size fa cd)) → (A.deeper (envOf f sc s.heap.objs.size fa cd)).frames = some (envOf f sc s.heap.objs.size fa cd :: l) →
      s₁.gens = s.gens → (∀ b o, s.heap.get? b = some o → s₁.heap.get? b = some o) →
      wpAny R.M (A.deeper (envOf f sc s.heap.objs.size fa cd)) (execs body (envOf f sc s.heap.objs.size fa cd)) (fun f s' => Q (match f with | .ret v => v | _ => .none) s') nope s₁) :
    wpAny R.M A (call (.ref fa) vals) Q nope s := by
  obtain ⟨fa', o, pm, cd, doc, h1, h2, h3, h4⟩ := B.fn f ps body sc hdef
  rw [hfa] at h1; cases h1
  obtain ⟨f1, f2, f3⟩ := S.fresh
  have hbL : base.get? s.heap.objs.size = none := hkb.fresh
  refine wpAny_call (call_plain_ret (by have := hA.dep; omega) (S.keep _ _ h2) h3 (B.lim.keeps S.keep) (h4.keeps S.keep) (hbind pm cd doc) ?_ (fun h₁ F₁ => ?_) hco hgen hk ?_)
  · intro q hq
    exact of_decide_eq_true (List.all_eq_true.mp hloc q.1 (List.of_mem_zip hq).1)
  · have hfr' : (A.deeper (envOf f sc s.heap.objs.size fa cd)).frames = some (envOf f sc s.heap.objs.size fa cd :: l) := Around.frames_deeper hfr
    have hA' : Room R.top r (A.deeper (envOf f sc s.heap.objs.size fa cd)) := ⟨hA.hd, by have := hA.dep; show A.depth + 1 + r < _; omega, by have := hA.un; show A.units + 3 + 8 * r + 200 < _; omega, by
      obtain ⟨pre, e, hl⟩ := hA.fr
      exact ⟨_ :: pre, Around.frames_deeper e, by show pre.length + 1 + 302 ≤ A.depth + 1; omega⟩⟩
    have S₁ : St R σ { s with heap := h₁, toks := s.toks + ((ps.args.map (·.arg)).zip vals).length } := ⟨fun b o e => F₁.keep _ _ (S.keep b o e), fun a l q => by
        obtain ⟨⟨vs, ⟨n, e⟩, hw⟩, hn⟩ := S.lists a l q
        exact ⟨⟨vs, ⟨n, F₁.keep _ _ e⟩, hw⟩, hn⟩, S.os, S.bare⟩
    have L₁ : LocAt R (envOf f sc s.heap.objs.size fa cd).locals (Loc.of ((ps.args.map (·.arg)).zip (vals.map pv)).reverse) { s with heap := h₁, toks := s.toks + ((ps.args.map (·.arg)).zip vals).length } := by
      refine ⟨⟨_, F₁.ns, fun y p hy => ?_⟩, f2⟩
      have e : ((ps.args.map (·.arg)).zip (vals.map pv)).reverse = (((ps.args.map (·.arg)).zip vals).reverse.map fun q => (q.1, pv q.2)) := by
        rw [List.map_reverse, List.zip_map_right]
        rfl
      unfold Loc.of at hy
      rw [e, lookup_pv] at hy
      cases hl : ((ps.args.map (·.arg)).zip vals).reverse.lookup y with
      | none => rw [hl] at hy; cases hy
      | some v => rw [hl] at hy; cases hy; exact ⟨v, rfl, rfl⟩
    have hst : base.StaysIn h₁ := fun b o e => F₁.keep b o (hkb b o e)
    have hff : h₁.FunFrames base (envOf f sc s.heap.objs.size fa cd :: l) := Heap.FunFrames.cons (by show sc.kind ≠ .module; rw [hk]; decide) rfl F₁.ns hbL (hl.of_keeps fun b o e _ => ⟨o, F₁.keep b o e, rfl⟩)
    exact h cd _ S₁ L₁ hst hff hA' hfr' rfl F₁.keep
  · intro q hq
    exact of_decide_eq_true (List.all_eq_true.mp hcell q hq)

section
variable {R : Rn} {r : Nat} {env : Env} {ρ : Loc} {σ : Sto} {A : Around} {s : Shared}

/-- what the refused call leaves -/
structure Rest (R : Rn) (s s' : Shared) : Prop where
  stay : R.h₀.StaysIn s'.heap
  ns : ∀ L m, s.heap.Ns L m → s'.heap.Ns L m
  gens : R.G s'.gens
  os : s'.os = R.os₀

theorem refused_raw {l : Addr} {dv mv : Value} {d : Nat} {mm : Int} {fa : Addr} {le : List Env} (B : Base R) (hIE : R.mg "IndexError" = none) (hfa : R.mg "_law_refused" = some (.ref fa)) (hdv : pv dv = .int d) (hmv : pv mv = .int mm) (hd : d = 2 ∨ d = 4) (hA : Room R.top (r + 3) A) (S : St R nil0 s) (hl : R.h₀.PlainList l #[]) (hfr : A.frames = some le) (hle : s.heap.FunFrames R.h₀ le) :
    wpAny R.M A (call (.ref fa) [dv, .ref l, mv]) (fun v s' => v = .bool true ∧ Rest R s s') nope s := by
  refine call_enter (r := r + 2) (base := R.h₀) B rfl hfa (fun pm cd doc => rfl) rfl rfl rfl rfl rfl rfl hA S hfr hle S.keep fun cd s₁ S₁ L₁ hst hff hA' hfr' hge hke => ?_
  have L₁' : LocAt R s.heap.objs.size (Loc.of [("deed", .int d), ("heap", .ref l), ("mode", .int mm)]) s₁ := L₁.le (Le.cons (by rw [← hdv]; rfl) (Le.cons rfl (Le.cons (by rw [← hmv]; rfl) Le.nil)))
  obtain ⟨le', hle'⟩ : ∃ le', le' = _ ∧ (A.deeper _).frames = some le' := ⟨_, rfl, hfr'⟩
  refine wpAny_execs_cons (wpAny_Try_except (wpAny_execs_cons (wpAny_Expr (wpAny_mono (E := Fly R R.h₀ le' s₁) (callExpr_raises (base := R.h₀) (l := le') (r := r + 2) (args := [.int d, .ref l, .int mm]) B rfl rfl rfl rfl rfl rfl rfl hA' S₁ L₁' (by walk_at "walk"; exact ⟨rfl, rfl⟩) fun fb vals s₄ hfb hv S₄ g₄ => ?_) (fun _ _ x => False.elim x) fun e s' x => ?_))))
  · obtain ⟨v1, v2, v3, rfl, e1, e2, e3⟩ : ∃ v1 v2 v3, vals = [v1, v2, v3] ∧ pv v1 = .int d ∧ pv v2 = .ref l ∧ pv v3 = .int mm := by
      rcases vals with _ | ⟨v1, _ | ⟨v2, _ | ⟨v3, _ | ⟨v4, vr⟩⟩⟩⟩
      · simp at hv
      · simp at hv
      · simp at hv
      · exact ⟨v1, v2, v3, rfl, by simpa using hv⟩
      · simp at hv
    rw [pv_ref e2]
    rw [hle'.1]
    exact lawcall_raises (r := r) B hfb e1 e3 hd hA' S₄ hl hfr' (funFrames_go S₁ hff g₄ fun _ _ _ _ => rfl) fun _ _ _ _ => rfl
  · rw [hle'.1] at x
    obtain ⟨ea, rfl, hF⟩ := x
    refine noted_next hfr' hF.fr rfl hF.tr hF.stay hF.new fun h' hL => ?_
    obtain ⟨k1, k2, k3, k4⟩ := hL
    have hns : ∀ L m, s.heap.Ns L m → h'.Ns L m := fun L m hn => Keep2.ns k4 (hF.k2 L m (hn.keeps hke))
    obtain ⟨oe, vs, Tb, oT, ts, he, hcls, hde, h1, hnT, hTe, hT, hdT, h3⟩ := id k3
    refine wpAny_handleBy_builtin (X := "IndexError") (T := "IndexError") (b := true) (isSubtype_of_subB (by decide +kernel)) (isSubtype_of_subB (by decide +kernel)) (isSubtype_of_subB (by decide +kernel)) ?_
    refine Name_function_global rfl rfl (loadGlobal_builtin (mg := R.mg) (mb := R.mb) (B.g.keeps k1) hIE (B.b.keeps k1) ((B.bi "IndexError" (by decide)).trans (by decide +kernel : bootBuiltins "IndexError" = some (.type "IndexError"))) ⟨rfl, ⟨oe, he, hcls⟩, ?_⟩) rfl
    rw [if_pos rfl]
    refine wpAny_setFlight_none he hde h1 hT hdT (Array.getElem?_eq_some_iff.mp h3).1 ?_
    have hup : ∀ b, b ≠ Tb → (h'.update Tb (Obj.mapFields (·.setIfInBounds 3 .none))).get? b = h'.get? b := fun b hb => Heap.get?_update_other _ _ (Ne.symm hb)
    have hnotT : ∀ L m, h'.Ns L m → L ≠ Tb := fun L m hn z => by
      subst z
      obtain ⟨o, es, ep, ho, hdd, _⟩ := hn
      rw [hT] at ho; cases ho; rw [hdT] at hdd; cases hdd
    have stay2 : R.h₀.StaysIn (h'.update Tb (Obj.mapFields (·.setIfInBounds 3 .none))) := fun b o hb => (hup b (fun z => by rw [z, hnT] at hb; cases hb)).trans (k1 b o hb)
    have ns2 : ∀ L m, h'.Ns L m → (h'.update Tb (Obj.mapFields (·.setIfInBounds 3 .none))).Ns L m := fun L m hn => hn.at' fun o e => (hup L (hnotT L m hn)).trans e
    generalize hh2 : h'.update Tb (Obj.mapFields (·.setIfInBounds 3 .none)) = h2 at *
    obtain ⟨m1, hn1, hm1⟩ := L₁'.ns
    have hn2 := ns2 _ _ (Keep2.ns k4 (hF.k2 _ _ hn1))
    obtain ⟨vh, hvh, evh⟩ := hm1 "heap" _ rfl
    rw [pv_ref evh] at hvh
    refine wpAny_execs_cons (wpAny_Return_some (wpAny_Compare1 (wpAny_Name (wpAny_loadName_local rfl rfl hn2 hvh (wpAny_List (args_nil ⟨by decide, ?_⟩))) rfl)))
    have hpl : h2.PlainList l #[] := hl.at fun o e => stay2 l o e
    have hpl2 : (h2.push { cls := .type "list", data := .seq ([] : List Value).toArray }).IsList l ([] : List Value).toArray := by
      obtain ⟨n, e⟩ := hpl
      exact ⟨_, Heap.get?_push_of_some _ e, rfl, n, rfl⟩
    refine PySem.W.ke_eq_ints hpl2 ⟨_, Heap.get?_push_size _ rfl, rfl, _, rfl⟩ .nil .nil (by have := hA.un; show A.units + 3 + 64 < cLine; omega) ?_
    refine ⟨rfl, ⟨fun b o hb => Heap.get?_push_of_some _ (stay2 b o hb), fun L m hn => (ns2 L m (hns L m hn)).keeps fun b o e => Heap.get?_push_of_some _ e, hF.gens, hF.os⟩⟩
end

/-! X8 -/
theorem ref_ok {R : Rn} {r : Nat} {env : Env} (B : Base R) (hIE : R.mg "IndexError" = none) (htop : R.top = [env]) (hf : env.frame = some env.locals) (hk : env.scope.kind = .function) (k1 : env.kindOf "deed" = some .local) (k2 : env.kindOf "heaps" = some .local) (k3 : env.kindOf "which" = some .local) (k4 : env.kindOf "mode" = some .local)
    (k5 : env.kindOf "_law_refused" = some .globalImplicit) (hg : env.globals = mainGlobals) (hr : 697 ≤ r) : RefOk R r env := by
  intro p1 p2 p3 p4 p5 p6 p7 p8 p9 p10 p11 k ρ σ Q dd w m hl a hs hdd hw r1 r2 r3 r4 s1 s2 s3 hQ A hA s S F
  have hfr : A.frames = some [env] := by
    obtain ⟨pre, e, hlen⟩ := hA.fr
    have h1 := hA.dep
    have h2 : recursionLimit = 1000 := rfl
    have : pre = [] := List.eq_nil_of_length_eq_zero (by omega)
    rw [this, htop] at e
    exact e
  have hES : ES R r env p7 [.Name "deed" p2, .Subscript (.Name "heaps" p3) (.Name "which" p4) p5, .Name "mode" p6] ρ σ fun ps σ₁ => ps = [.int dd, .ref a, .int m] ∧ σ = σ₁ :=
    ES_cons rfl (EV_local hk k1 r1 (ES_cons rfl (EV_Subscript (EV_local hk k2 r2 (EV_local hk k3 r3 (SUB_list s1 (by omega) (by rw [Int.toNat_natCast]; exact s2) (by omega) (fun _ => rfl) (ES_cons rfl (EV_local hk k4 r4 (ES_nil ⟨rfl, rfl⟩) rfl))) rfl) rfl))) rfl)
  obtain ⟨⟨ps, body, sc⟩, hdef⟩ : ∃ d, P0.theDef "_law_refused" = some d := ⟨_, rfl⟩
  obtain ⟨fa, o, pm, cd, doc, h1, h2, h3, h4⟩ := B.fn _ ps body sc hdef
  refine wpAny_If (isTrue_not ?_)
  show wpAny R.M A (eval _ env >>= fun v => _) _ _ s
  refine wpAny_bind (Call_ (Name_function_global hk k5 (loadGlobal_global (mg := R.mg) (by rw [hg]; exact B.g.keeps S.keep) h1 (callWith_def h3 ?_ rfl)) rfl) rfl)
  refine wpAny_mono (hES A hA s S F) (fun vs s₁ ⟨σ₁, S₁, g₁, e₁, e₂⟩ => ⟨S₁.keep _ _ h2, ?_⟩) fun _ _ x => x.elim
  subst e₂
  obtain ⟨v1, v2, v3, rfl, e1, e2, e3⟩ : ∃ v1 v2 v3, vs = [v1, v2, v3] ∧ pv v1 = .int dd ∧ pv v2 = .ref a ∧ pv v3 = .int m := by
    rcases vs with _ | ⟨v1, _ | ⟨v2, _ | ⟨v3, _ | ⟨v4, vr⟩⟩⟩⟩
    · simp at e₁
    · simp at e₁
    · simp at e₁
    · exact ⟨v1, v2, v3, rfl, by simpa using e₁⟩
    · simp at e₁
  rw [pv_ref e2]
  have F₁ := F.go S g₁
  obtain ⟨mn, hn, hm⟩ := F₁.ns
  have hσL : σ env.locals = none := S₁.notNs hn
  have hdel : ∀ b o, b ≠ env.locals → s₁.heap.get? b = some o → (delObj s₁.heap env.locals).get? b = some o := fun b o ne e => by rw [get_delObj, if_neg ne]; exact e
  have hold : ∀ b o, R.h₀.get? b = some o → (delObj s₁.heap env.locals).get? b = some o := fun b o e => hdel b o (fun z => by rw [z, F.new] at e; cases e) (S₁.keep b o e)
  have hL0 : (delObj s₁.heap env.locals).get? env.locals = none := by rw [get_delObj, if_pos rfl]
  have hback : ∀ b o, (delObj s₁.heap env.locals).get? b = some o → s₁.heap.get? b = some o := fun b o e => by
    rw [get_delObj] at e
    split at e
    · cases e
    · exact e
  have B' : Base { R with h₀ := delObj s₁.heap env.locals, G := fun z => z = s₁.gens } := by
    refine ⟨B.g.keeps hold, B.b.keeps hold, B.lim.keeps hold, B.bi, B.free, fun n ps body sc hd => ?_⟩
    obtain ⟨fa, o', pm, cd, doc, h1, h2, h3, h4⟩ := B.fn n ps body sc hd
    exact ⟨fa, o', pm, cd, doc, h1, hold _ _ h2, h3, h4.keeps hold⟩
  have S' : St { R with h₀ := delObj s₁.heap env.locals, G := fun z => z = s₁.gens } nil0 s₁ := ⟨hback, fun _ _ e => (nomatch e), S₁.os, rfl⟩
  have hpl : (delObj s₁.heap env.locals).PlainList a #[] := by
    obtain ⟨vs, ⟨n, e⟩, hv⟩ := S₁.list s3
    obtain rfl : vs = [] := by simpa using hv
    exact ⟨n, hdel a _ (fun z => by rw [z, hσL] at s3; cases s3) e⟩
  have hff : s₁.heap.FunFrames (delObj s₁.heap env.locals) [env] := Heap.FunFrames.cons (by rw [hk]; decide) hf hn hL0 trivial
  refine wpAny_mono (refused_raw (R := { R with h₀ := delObj s₁.heap env.locals, G := fun z => z = s₁.gens }) (r := 0) B' hIE h1 e1 e3 hdd (hA.le (by omega)) S' hpl hfr hff) (fun v s' ⟨hv, hR⟩ => ?_) fun _ _ x => x.elim
  subst hv
  refine wpAny_bind (wpAny_standAt (wpAny_holding (wpAny_truthy_bool ?_)))
  have hgen : s'.gens = s₁.gens := hR.gens
  have S₂ : St R σ s' := ⟨fun b o e => hR.stay b o (hold b o e), fun c l q => by
      obtain ⟨⟨vs, ⟨n, e⟩, hw⟩, hn⟩ := S₁.lists c l q
      exact ⟨⟨vs, ⟨n, hR.stay c _ (hdel c _ (fun z => by rw [z, hσL] at q; cases q) e)⟩, hw⟩, hn⟩, hR.os, by rw [hgen]; exact S₁.bare⟩
  have F₂ : LocAt R env.locals ρ s' := ⟨⟨mn, hR.ns _ _ hn, hm⟩, F.new⟩
  exact wpAny_execs_nil ⟨ρ, σ, S₂, F₂, fun b o ne e q => by
    obtain ⟨e1, q1⟩ := g₁ b o e q
    exact ⟨hR.stay b o (hdel b o ne e1), q1⟩, hQ⟩

/-! J1 -/
section
open PySem.W
noncomputable def isFun : Stmt → Bool
  | .FunctionDef .. => true
  | _ => false
noncomputable def named (n : Str) : Stmt → Bool
  | .FunctionDef m .. => m == n
  | _ => false
theorem named_filter (n : Str) (l : List Stmt) : l.filter (fun st => match st with | .FunctionDef m .. => m == n | _ => false) = (l.filter isFun).filter (named n) := by
  rw [List.filter_filter]
  congr 1
  funext st
  cases st <;> simp [isFun, named]
theorem theDef_eq {p q : Program} (h : p.main.body.filter isFun = q.main.body.filter isFun) (n : Str) : p.theDef n = q.theDef n := by
  have key : ∀ p : Program, p.theDef n = (match (p.main.body.filter isFun).filter (named n) with | [.FunctionDef _ args body [] _ [] scope _ _ _] => some (args, body, scope) | _ => none) := fun p => by
    rw [← named_filter]
    rfl
  rw [key p, key q, h]
noncomputable def plainArgs : Stmt → Bool
  | .FunctionDef _ a .. => a.defaults.isEmpty && (match kwLiteralsOf? a.kwonlyargs a.kw_defaults with | some [] => true | _ => false)
  | _ => true
theorem recs_mem {p : Program} (h : p.main.body.all plainArgs = true) {n : Str} {ps : Arguments} {body : List Stmt} {sc : Scope} (hd : p.theDef n = some (ps, body, sc)) : ∃ pos, (⟨n, ps, body, sc, pos⟩ : DefRec) ∈ recsOf p := by
  have hd' := hd
  unfold Program.theDef at hd'
  split at hd'
  · rename_i m a b x1 sc' x2 x3 pos hf
    cases hd'
    have hm := hf ▸ (List.mem_singleton.mpr rfl : _ ∈ [Stmt.FunctionDef m ps body [] x1 [] sc x2 x3 pos])
    obtain ⟨hin, hn⟩ := List.mem_filter.mp hm
    obtain rfl : m = n := beq_iff_eq.mp hn
    have hp := List.all_eq_true.mp h _ hin
    simp only [plainArgs, Bool.and_eq_true, List.isEmpty_iff] at hp
    obtain ⟨h1, h2⟩ := hp
    refine ⟨pos, List.mem_filterMap.mpr ⟨_, hin, ?_⟩⟩
    simp only [hd, h1]
    split at h2
    · rename_i e; rw [e]
    · cases h2
  · cases hd'

theorem refs_of {α : Type} {h : Heap} {P : Addr → α → Prop} {f : α → WData} (hf : ∀ v x as, ReadsLit h v (f x) as → ∃ a, v = .ref a ∧ P a x) :
    ∀ (xs : List α) {vs : List Value} {as : List Addr}, ReadsAllW [] (fun _ => none) h vs (xs.map f) as → ∃ bs : List Addr, vs = bs.map Value.ref ∧ bs.length = xs.length ∧ ∀ (i : Nat) b x, bs[i]? = some b → xs[i]? = some x → P b x
  | [], vs, as, H => by
    cases H
    exact ⟨[], rfl, rfl, fun i b x e => by simp at e⟩
  | x :: xs, vs, as, H => by
    rw [List.map_cons] at H
    cases H with
    | cons h1 h2 =>
      obtain ⟨a, rfl, hp⟩ := hf _ _ _ h1
      obtain ⟨bs, rfl, hl, hq⟩ := refs_of hf xs h2
      refine ⟨a :: bs, rfl, by simp [hl], fun i b y e e' => ?_⟩
      cases i with
      | zero => simp at e e'; subst e; subst e'; exact hp
      | succ i => simp at e e'; exact hq i b y e e'
noncomputable def pairW (p : Int × Nat) : WData := .tuple [.int p.1, .str (mk [p.2])]
noncomputable def rowW (ps : List (Int × Nat)) : WData := .tuple (ps.map pairW)
noncomputable def tabW (rows : List (List (Int × Nat))) : WData := .tuple (rows.map rowW)
theorem pair_at {h : Heap} (v : Value) (p : Int × Nat) (as : List Addr) (H : ReadsLit h v (pairW p) as) : ∃ a, v = .ref a ∧ PairAt h a p := by
  unfold pairW at H
  cases H with
  | tuple h1 h2 h3 h4 =>
    rename_i a o vs n
    refine ⟨a, rfl, ?_⟩
    obtain ⟨vl⟩ := vs
    cases h4 with
    | cons r1 r2 => cases r2 with
      | cons r2 r3 =>
        cases r3
        cases r1
        cases r2
        exact ⟨_, _, o, h1, h2, n, h3⟩
theorem row_at {h : Heap} (v : Value) (ps : List (Int × Nat)) (as : List Addr) (H : ReadsLit h v (rowW ps) as) : ∃ a, v = .ref a ∧ RowAt h a ps := by
  unfold rowW at H
  generalize hx : ps.map pairW = xs at H
  cases H with
  | tuple h1 h2 h3 h4 =>
    rename_i a o vs n
    subst hx
    obtain ⟨bs, e, hl, hq⟩ := refs_of pair_at ps h4
    exact ⟨a, rfl, bs, ⟨o, h1, h2, n, by rw [h3, ← e]⟩, hl, hq⟩
theorem tab_at {h : Heap} (v : Value) (rows : List (List (Int × Nat))) (as : List Addr) (H : ReadsLit h v (tabW rows) as) : ∃ a, v = .ref a ∧ TabAt h a rows := by
  unfold tabW at H
  generalize hx : rows.map rowW = xs at H
  cases H with
  | tuple h1 h2 h3 h4 =>
    rename_i a o vs n
    subst hx
    obtain ⟨bs, e, hl, hq⟩ := refs_of row_at rows h4
    exact ⟨a, rfl, bs, ⟨o, h1, h2, n, by rw [h3, ← e]⟩, hl, hq⟩
end

/-! J2 -/
section
open PySem.W
theorem room_law (e : Env) : Room [e] (688 + 9) (callerA.deeper e) :=
  ⟨rfl, (by show (1 + claimMargin) + 1 + 697 < recursionLimit; decide), (by show 4 + 3 + 8 * 697 + 200 < cLine; decide), [], rfl, (by show 0 + 302 ≤ (1 + claimMargin) + 1; decide)⟩
theorem law_code {w : World} {s : Shared} {mg mb : Str → Option Value} {fa l : Addr} {vs : List Value} {ns : List Int} (hB : ∀ top, Base ⟨w, s.heap, s.os, mg, mb, AllBare, top⟩) (hT : ∀ top, Tab ⟨w, s.heap, s.os, mg, mb, AllBare, top⟩) (hb : AllBare s.gens)
    (hIE : mg "IndexError" = none) (hfa : mg "law" = some (.ref fa)) (hl : s.heap.IsList l vs.toArray) (hI : IntsAre vs ns) (hz : vs.length < 64) :
    codeAny (model P0 w) callerA (.call (.ref fa) ⟨[.ref l], []⟩) (fun res s' => res = .ok (.ret (.bool true)) ∧ (∀ b o, s.heap.get? b = some o → s'.heap.get? b = some o) ∧ s'.os = s.os ∧ AllBare s'.gens) s := by
  obtain ⟨fa', o, pm, cd, doc, h1, h2, h3, h4⟩ := (hB []).fn "law" _ _ _ rfl
  have h1' : mg "law" = some (.ref fa') := h1
  rw [hfa] at h1'
  cases h1'
  have hno : s.heap.get? s.heap.objs.size = none := by
    cases h : s.heap.get? s.heap.objs.size with
    | none => rfl
    | some o => exact absurd (Heap.lt_size h) (Nat.lt_irrefl _)
  refine call_plain_ret (binds := [("script", .ref l)]) (by decide) h2 h3 (hB []).lim h4 rfl ?_ (fun h₁ F₁ => ?_) rfl rfl rfl ?_
  · intro q hq
    cases List.mem_singleton.mp hq
    rfl
  · have hx := law_ok (R := ⟨w, s.heap, s.os, mg, mb, AllBare, [envOf "law" _ s.heap.objs.size fa cd]⟩) (r := 688) (L := s.heap.objs.size) (fa := fa) (cd := cd) (hB _) (hT _) rfl hl hI hz
      (ref_ok (hB _) hIE rfl rfl rfl rfl rfl rfl rfl rfl rfl (by omega))
    refine wpAny_mono (hx _ (room_law _) _ ⟨fun b o e => F₁.keep _ _ e, fun _ _ e => (nomatch e), rfl, hb⟩ ⟨⟨_, F₁.ns, fun y p hy => ?_⟩, hno⟩) (fun f s' ⟨ρ', σ', S', F', g', q'⟩ => ?_) fun _ _ x => x
    · by_cases e : y = "script"
      · subst e
        cases hy
        exact ⟨.ref l, rfl, rfl⟩
      · have : (y == ("script" : Str)) = false := by simpa using e
        simp [Loc.of, List.lookup, this] at hy
    · cases f with
      | ret v =>
        have : pv v = .bool true := FL.ret.inj q'
        rw [pv_bool this]
        exact ⟨rfl, S'.keep, S'.os, S'.bare⟩
      | next => cases q'
      | brk => cases q'
      | cont => cases q'
  · decide
end

/-! J3 -/
section
open PySem.W
theorem funs_same : P0.main.body.filter isFun = view.main.body.filter isFun := rfl
theorem args_plain : view.main.body.all plainArgs = true := rfl
theorem base_of {w : World} {s₁ : Shared} {ls : List Str} {mean : ExcName → Option Value} {mg mb : Str → Option Value} (T : Top view ls mean mg mb s₁.heap) (hf : ∀ x : Str, x ∈ (["len", "sorted", "range", "reversed", "enumerate"] : List Str) → mg x = none) (top : List Env) :
    Base ⟨w, s₁.heap, s₁.os, mg, mb, AllBare, top⟩ := by
  refine ⟨T.g, T.b, T.nolimit, T.builtins, hf, fun n ps body sc hd => ?_⟩
  rw [theDef_eq funs_same n] at hd
  obtain ⟨pos, hm⟩ := recs_mem args_plain hd
  exact T.fn _ hm
theorem names_free {mean : ExcName → Option Value} {mg mb : Str → Option Value} {h : Heap} (T : Top view (looseW view loose) mean mg mb h) (x : Str) (hx : x ∈ (["len", "sorted", "range", "reversed", "enumerate", "IndexError"] : List Str)) : mg x = none := by
  have key : (["len", "sorted", "range", "reversed", "enumerate", "IndexError"] : List Str).all (fun x => !(startupNames.contains x) && !((looseW view loose).contains x) && !(((recsOf view).map (·.name)).contains x) && !(((litsOf view).map (·.1)).contains x) && !(((clssOf view (looseW view loose)).map (·.name)).contains x)) = true := by decide +kernel
  have := List.all_eq_true.mp key x hx
  simp only [Bool.and_eq_true, Bool.not_eq_true'] at this
  obtain ⟨⟨⟨⟨c1, c2⟩, c3⟩, c4⟩, c5⟩ := this
  have nm : ∀ {l : List Str}, l.contains x = false → x ∉ l := fun {l} e h => by rw [List.contains_iff_mem.mpr h] at e; cases e
  exact T.free x (nm c1) (nm c2) (nm c3) (nm c4) (nm c5)
theorem mem_more {x : Str} (h : x ∈ (["len", "sorted", "range", "reversed", "enumerate"] : List Str)) : x ∈ (["len", "sorted", "range", "reversed", "enumerate", "IndexError"] : List Str) := by
  simp only [List.mem_cons, List.not_mem_nil, or_false] at h ⊢
  rcases h with h | h | h | h | h <;> simp [h]
end
end Mine
open PySem PySem.W PySem.Calls PyProof.Rows
set_option maxHeartbeats 8000000 in
theorem PySem.Challenge.cw_om0062_01_holds : PySem.Challenge.rw_om0062_01.Holds := by
  w_on
  o_law
  refine PySem.W.holds_open (r := PySem.Challenge.rw_om0062_01.row) (q := Mine.view) (loose := Mine.loose) (Xt := fun s => xlAt Mine.view Mine.lv s && recOk (RowW.records PySem.Challenge.rw_om0062_01.row.toRowW) s) (XP := XL Mine.view Mine.lv) (Yf := Hook.obs Hook.none) (Ya := Hook.val Hook.none) (YP := Hook.says Hook.none) (N := 2288) Mine.left_ok (Hook.of Hook.none) (Hook.keeps Hook.none) (fun s e => xl_of s (Bool.and_eq_true_iff.mp e).1) XL.keeps (by rfl) (by rfl) (by rfl) (fun s e => recFacts_of (Bool.and_eq_true_iff.mp e).2) (by rfl) (by assumption) (by decide +kernel) ⟨rfl, rfl, rfl, rfl, rfl, by decide +kernel⟩ ?hw ?hc
  case hw => w_witness2
  intro w s₀ s₁ mg mb G Y fa o pm cd doc dV kV ho hd' hcd hD hmg hg args vals as hpre hlay hrd hwl hlo
  have V := (Ground.X G).2
  have T := G.T
  clear Y
  wrow_args hpre hlay hrd hwl hlo
  refine enter_call ?_
  clear hd' hcd hD
  rename IntsAre _ _ => hI
  rename Heap.IsList _ _ _ => hL
  rename ¬ _ < _ => hc
  obtain ⟨tv, ht, hr⟩ := V.val _ (.head _)
  obtain ⟨ta, rfl, htab⟩ := Mine.tab_at tv Mine.fmtab _ hr
  have hfr := Mine.names_free T
  refine codeAny_mono (Mine.law_code (fun top => Mine.base_of T (fun x hx => hfr x ?_) top) (fun top => ⟨ta, ht, htab⟩) (AllBare.of_eq hg) (hfr _ ?_) hmg hL hI ?_) fun res s' ⟨e, hk, hos, hb⟩ => ?_
  · exact Mine.mem_more hx
  · decide
  · have := hI.length
    omega
  · subst e
    refine ⟨.inl ⟨_, .bool true, [], rfl, fun _ => rfl, .bool true, ?_, fun _ => ⟨List.nodup_nil, fun _ h => nomatch h⟩⟩, .of_keep hk, hos, hb⟩
    exact postW_of (r := PySem.Challenge.rw_om0062_01.row.toRowW) (X := true) (by wrow_shape) (by wtm_val) rfl
