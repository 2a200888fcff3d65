import PyProof.Rows.All
import Wide.All
import OpenK.AllK
import Wide.FinOn
import PySem.Challenge.RW_mq0363_02
open PySem PySem.W PySem.Calls PyProof.Rows
set_option Elab.async false
set_option linter.unusedVariables false
set_option linter.unusedSectionVars false
set_option compiler.extract_closed false
set_option maxRecDepth 100000
set_option maxHeartbeats 8000000
namespace Mine
abbrev Loc := Str → Option Value
abbrev Led := List (Addr × Obj)
def ND (l : Led) : Prop := (l.map Prod.fst).Nodup

structure Act where
  A : Around
  h₀ : Heap
  L : Addr
  fs : List Addr
  base : Heap

structure Turned (a : Act) (g : Heap) : Prop where
  turn : KtsTurn a.fs a.h₀ g
  stays : a.base.StaysIn g

structure Tri {α : Type} (prog : Program) (w : World) (a : Act) (m : Loc) (l : Led) (t : Sem α) (Q : α → Loc → Led → Prop) : Prop where
  run : ∀ (E : Value → Shared → Prop) (s : Shared) (R : α → Shared → Prop) (g : Heap), Turned a g → Fr g a.L s.heap m → News g a.L s.heap l → ND l →
    (∀ x m' l' h' tk' g', Turned a g' → Fr g' a.L h' m' → News g' a.L h' l' → ND l' → Q x m' l' → R x { s with heap := h', toks := tk' }) →
    wpAny (model prog w) a.A t R E s

section
variable {prog : Program} {w : World} {a : Act} {m : Loc} {l : Led} {α β : Type}
theorem Tri.pure {x : α} {Q : α → Loc → Led → Prop} (h : Q x m l) : Tri prog w a m l (Pure.pure x) Q :=
  ⟨fun _ s _ gF iF F N D k => wpAny_pure (k x m l s.heap s.toks _ iF F N D h)⟩
theorem Tri.mono {t : Sem α} {Q Q' : α → Loc → Led → Prop} (h : Tri prog w a m l t Q) (hq : ∀ x m' l', Q x m' l' → Q' x m' l') : Tri prog w a m l t Q' :=
  ⟨fun E s R gF iF F N D k => h.run E s R _ iF F N D fun x m' l' h' tk' gF' iF' F' N' D' q => k x m' l' h' tk' _ iF' F' N' D' (hq _ _ _ q)⟩
theorem Tri.less {l' : Led} {t : Sem α} {Q : α → Loc → Led → Prop} (h : Tri prog w a m l' t Q) (hs : ∀ p ∈ l', p ∈ l) (hn : ND l → ND l') : Tri prog w a m l t Q :=
  ⟨fun E s R gF iF F N D k => h.run E s R _ iF F (fun p hp => N p (hs p hp)) (hn D) k⟩
theorem Tri.perm {l' : Led} {t : Sem α} {Q : α → Loc → Led → Prop} (hp : l.Perm l') (h : Tri prog w a m l' t Q) : Tri prog w a m l t Q :=
  h.less (fun _ q => hp.mem_iff.mpr q) fun D => (hp.map Prod.fst).nodup_iff.mp D
end

section
variable {prog : Program} {w : World} {a : Act} {m : Loc} {l : Led} {env : Env}
abbrev FQ := Flow → Loc → Led → Prop
abbrev VQ := Value → Loc → Led → Prop
abbrev BQ := Bool → Loc → Led → Prop
theorem Tri.execs_nil {Q : FQ} (h : Q .next m l) : Tri prog w a m l (execs [] env) Q :=
  ⟨fun _ s _ gF iF F N D k => wpAny_execs_nil (k _ m l s.heap s.toks _ iF F N D h)⟩
theorem Tri.execs_cons {st rest} {Q : FQ} (h : Tri prog w a m l (exec st env) fun f m' l' => match f with | .next => Tri prog w a m' l' (execs rest env) Q | f => Q f m' l') : Tri prog w a m l (execs (st :: rest) env) Q :=
  ⟨fun E s R gF iF F N D k => wpAny_execs_cons (h.run E s _ _ iF F N D fun f m' l' h' tk' gF' iF' F' N' D' q => by
    cases f with
    | next => exact q.run E _ R _ iF' F' N' D' k
    | brk => exact k _ _ _ _ _ _ iF' F' N' D' q
    | cont => exact k _ _ _ _ _ _ iF' F' N' D' q
    | ret v => exact k _ _ _ _ _ _ iF' F' N' D' q)⟩
theorem Tri.Constant_int {i k pos} {Q : VQ} (h : ∀ t, Q (.int i t) m l) : Tri prog w a m l (eval (.Constant (.int i) k pos) env) Q :=
  ⟨fun _ s _ gF iF F N D c => wpAny_Constant_int (c _ m l s.heap (s.toks + 1) _ iF F N D (h _))⟩
theorem Tri.Constant_str {x : Str} {k pos} {Q : VQ} (h : ∀ t, Q (.str x t) m l) : Tri prog w a m l (eval (.Constant (.str x) k pos) env) Q :=
  ⟨fun _ s _ gF iF F N D c => wpAny_Constant_str (c _ m l s.heap (s.toks + 1) _ iF F N D (h _))⟩
theorem Tri.Constant_none {k pos} {Q : VQ} (h : Q .none m l) : Tri prog w a m l (eval (.Constant .none k pos) env) Q :=
  ⟨fun _ s _ gF iF F N D c => wpAny_Constant_none (c _ m l s.heap s.toks _ iF F N D h)⟩
theorem Tri.Constant_bool {b k pos} {Q : VQ} (h : Q (.bool b) m l) : Tri prog w a m l (eval (.Constant (.bool b) k pos) env) Q :=
  ⟨fun _ s _ gF iF F N D c => wpAny_Constant_bool (c _ m l s.heap s.toks _ iF F N D h)⟩
theorem Tri.BinOp {x op y pos} {Q : VQ} (h : Tri prog w a m l (eval x env) fun u m1 l1 => Tri prog w a m1 l1 (eval y env) fun v m2 l2 => Tri prog w a m2 l2 (binaryOp op u v) Q) : Tri prog w a m l (eval (.BinOp x op y pos) env) Q :=
  ⟨fun E s R gF iF F N D k => wpAny_BinOp (h.run E s _ _ iF F N D fun _ _ _ _ _ gF1 iF1 F1 N1 D1 q1 => q1.run E _ _ _ iF1 F1 N1 D1 fun _ _ _ _ _ gF2 iF2 F2 N2 D2 q2 => q2.run E _ R _ iF2 F2 N2 D2 k)⟩
theorem Tri.Compare1 {x op y pos} {Q : VQ} (h : Tri prog w a m l (eval x env) fun u m1 l1 => Tri prog w a m1 l1 (eval y env) fun v m2 l2 => Tri prog w a m2 l2 (compareOp op u v) Q)
    (hm : behindInMarks op y = false := by with_unfolding_all rfl) : Tri prog w a m l (eval (.Compare x [op] [y] pos) env) Q :=
  ⟨fun E s R gF iF F N D k => wpAny_Compare1 (h.run E s _ _ iF F N D fun _ _ _ _ _ gF1 iF1 F1 N1 D1 q1 => q1.run E _ _ _ iF1 F1 N1 D1 fun _ _ _ _ _ gF2 iF2 F2 N2 D2 q2 => q2.run E _ R _ iF2 F2 N2 D2 k) hm⟩
theorem Tri.isTrue_Compare1 {x op y pos whole} {Q : BQ} (h : Tri prog w a m l (eval x env) fun u m1 l1 => Tri prog w a m1 l1 (eval y env) fun v m2 l2 => Tri prog w a m2 l2 (compareOp op u v) fun c m3 l3 => Tri prog w a m3 l3 (truthy c) Q)
    (hm : behindInMarks op y = false := by with_unfolding_all rfl) : Tri prog w a m l (isTrue (.Compare x [op] [y] pos) env whole) Q :=
  ⟨fun E s R gF iF F N D k => wpAny_isTrue_Compare1 (h.run E s _ _ iF F N D fun _ _ _ _ _ gF1 iF1 F1 N1 D1 q1 => q1.run E _ _ _ iF1 F1 N1 D1 fun _ _ _ _ _ gF2 iF2 F2 N2 D2 q2 => q2.run E _ _ _ iF2 F2 N2 D2 fun _ _ _ _ _ gF3 iF3 F3 N3 D3 q3 => q3.run E _ R _ iF3 F3 N3 D3 k) hm⟩
theorem Tri.UnaryOp {op x pos} {Q : VQ} (h : Tri prog w a m l (eval x env) fun u m1 l1 => Tri prog w a m1 l1 (unaryOp op u) Q) : Tri prog w a m l (eval (.UnaryOp op x pos) env) Q :=
  ⟨fun E s R gF iF F N D k => wpAny_UnaryOp (h.run E s _ _ iF F N D fun _ _ _ _ _ gF1 iF1 F1 N1 D1 q1 => q1.run E _ R _ iF1 F1 N1 D1 k)⟩
theorem Tri.isTrue_Not {x pos whole} {Q : BQ} (h : Tri prog w a m l (isTrue x env (eval x env)) fun b m1 l1 => Q (!b) m1 l1) : Tri prog w a m l (isTrue (.UnaryOp .Not x pos) env whole) Q :=
  ⟨fun E s _ gF iF F N D k => wpAny_isTrue_Not (h.run E s _ _ iF F N D fun _ _ _ _ _ gF1 iF1 F1 N1 D1 q1 => k _ _ _ _ _ _ iF1 F1 N1 D1 q1)⟩
theorem Tri.IfExp {t x y pos} {Q : VQ} (h : Tri prog w a m l (isTrue t env (eval t env)) fun b m1 l1 => (b = true → Tri prog w a m1 l1 (eval x env) Q) ∧ (b = false → Tri prog w a m1 l1 (eval y env) Q)) : Tri prog w a m l (eval (.IfExp t x y pos) env) Q :=
  ⟨fun E s R gF iF F N D k => wpAny_IfExp (h.run E s _ _ iF F N D fun b _ _ _ _ gF1 iF1 F1 N1 D1 q1 => by
    cases b with
    | true => exact (q1.1 rfl).run E _ R _ iF1 F1 N1 D1 k
    | false => exact (q1.2 rfl).run E _ R _ iF1 F1 N1 D1 k)⟩
theorem Tri.If {t body orelse pos} {Q : FQ} (h : Tri prog w a m l (isTrue t env (eval t env)) fun b m1 l1 => (b = true → Tri prog w a m1 l1 (execs body env) Q) ∧ (b = false → Tri prog w a m1 l1 (execs orelse env) Q)) : Tri prog w a m l (exec (.If t body orelse pos) env) Q :=
  ⟨fun E s R gF iF F N D k => wpAny_If (h.run E s _ _ iF F N D fun b _ _ _ _ gF1 iF1 F1 N1 D1 q1 => by
    cases b with
    | true => exact (q1.1 rfl).run E _ R _ iF1 F1 N1 D1 k
    | false => exact (q1.2 rfl).run E _ R _ iF1 F1 N1 D1 k)⟩
theorem Tri.Break {pos} {Q : FQ} (h : Q .brk m l) : Tri prog w a m l (exec (.Break pos) env) Q :=
  ⟨fun _ s _ gF iF F N D k => wpAny_Break (k _ m l s.heap s.toks _ iF F N D h)⟩
theorem Tri.Continue {pos} {Q : FQ} (h : Q .cont m l) : Tri prog w a m l (exec (.Continue pos) env) Q :=
  ⟨fun _ s _ gF iF F N D k => wpAny_Continue (k _ m l s.heap s.toks _ iF F N D h)⟩
theorem Tri.Return_some {e pos} {Q : FQ} (h : Tri prog w a m l (eval e env) fun v m1 l1 => Q (.ret v) m1 l1) : Tri prog w a m l (exec (.Return (some e) pos) env) Q :=
  ⟨fun E s _ gF iF F N D k => wpAny_Return_some (h.run E s _ _ iF F N D fun _ _ _ _ _ gF1 iF1 F1 N1 D1 q1 => k _ _ _ _ _ _ iF1 F1 N1 D1 q1)⟩
theorem Tri.Assign_Name {x pos' value pos} {Q : FQ} (h : Tri prog w a m l (eval value env) fun v m1 l1 => Tri prog w a m1 l1 (storeName env x v) fun _ m2 l2 => Q .next m2 l2)
    (hs : swapsWith value (some (.Name x pos')) pos.line env = Pure.pure false := by rfl) : Tri prog w a m l (exec (.Assign [.Name x pos'] value pos) env) Q :=
  ⟨fun E s R gF iF F N D k => wpAny_Assign_Name (h.run E s _ _ iF F N D fun _ _ _ _ _ gF1 iF1 F1 N1 D1 q1 => q1.run E _ _ _ iF1 F1 N1 D1 fun _ _ _ _ _ gF2 iF2 F2 N2 D2 q2 => k _ _ _ _ _ _ iF2 F2 N2 D2 q2) hs⟩
theorem Tri.AugAssign_Name {x pos' op value pos} {Q : FQ} (h : Tri prog w a m l (loadName env x) fun u m1 l1 => Tri prog w a m1 l1 (eval value env) fun v m2 l2 => Tri prog w a m2 l2 (inplaceOp op u v) fun r m3 l3 => Tri prog w a m3 l3 (storeName env x r) fun _ m4 l4 => Q .next m4 l4) :
    Tri prog w a m l (exec (.AugAssign (.Name x pos') op value pos) env) Q :=
  ⟨fun E s R gF iF F N D k => wpAny_AugAssign_Name (h.run E s _ _ iF F N D fun _ _ _ _ _ gF1 iF1 F1 N1 D1 q1 => q1.run E _ _ _ iF1 F1 N1 D1 fun _ _ _ _ _ gF2 iF2 F2 N2 D2 q2 => q2.run E _ _ _ iF2 F2 N2 D2 fun _ _ _ _ _ gF3 iF3 F3 N3 D3 q3 => q3.run E _ _ _ iF3 F3 N3 D3 fun _ _ _ _ _ gF4 iF4 F4 N4 D4 q4 => k _ _ _ _ _ _ iF4 F4 N4 D4 q4)⟩
theorem Tri.isTrue_value {e : Expr} {whole : Sem Value} {Q : BQ} (h : Tri prog w a m l whole fun v m1 l1 => Tri prog w a m1 l1 (truthy v) Q)
    (he : isTrue e env whole = (do let v ← whole; PySem.standAt e.pos; PySem.holding [v] (truthy v)) := by rfl) : Tri prog w a m l (isTrue e env whole) Q :=
  ⟨fun E s R gF iF F N D k => wpAny_isTrue_value (h.run E s _ _ iF F N D fun _ _ _ _ _ gF1 iF1 F1 N1 D1 q1 => q1.run E _ R _ iF1 F1 N1 D1 k) he⟩
theorem Tri.allTrue_And_nil {Q : BQ} (h : Q true m l) : Tri prog w a m l (allTrue .And [] env) Q :=
  ⟨fun _ s _ gF iF F N D k => wpAny_allTrue_And_nil (k _ m l s.heap s.toks _ iF F N D h)⟩
theorem Tri.allTrue_Or_nil {Q : BQ} (h : Q false m l) : Tri prog w a m l (allTrue .Or [] env) Q :=
  ⟨fun _ s _ gF iF F N D k => wpAny_allTrue_Or_nil (k _ m l s.heap s.toks _ iF F N D h)⟩
theorem Tri.isTrue_BoolOp {op values pos whole} {Q : BQ} (h : Tri prog w a m l (allTrue op values env) Q) : Tri prog w a m l (isTrue (.BoolOp op values pos) env whole) Q :=
  ⟨fun E s R gF iF F N D k => wpAny_isTrue_BoolOp (h.run E s R _ iF F N D k)⟩
theorem Tri.allTrue_And_cons {x : Expr} {rest : List Expr} {Q : BQ} (h : Tri prog w a m l (isTrue x env (eval x env)) fun b m1 l1 => (b = true → Tri prog w a m1 l1 (allTrue .And rest env) Q) ∧ (b = false → Q false m1 l1)) : Tri prog w a m l (allTrue .And (x :: rest) env) Q :=
  ⟨fun E s R gF iF F N D k => wpAny_allTrue_And_cons (h.run E s _ _ iF F N D fun b _ _ _ _ gF1 iF1 F1 N1 D1 q1 => by
    cases b with
    | true => exact (q1.1 rfl).run E _ R _ iF1 F1 N1 D1 k
    | false => exact k _ _ _ _ _ _ iF1 F1 N1 D1 (q1.2 rfl))⟩
theorem Tri.allTrue_Or_cons {x : Expr} {rest : List Expr} {Q : BQ} (h : Tri prog w a m l (isTrue x env (eval x env)) fun b m1 l1 => (b = true → Q true m1 l1) ∧ (b = false → Tri prog w a m1 l1 (allTrue .Or rest env) Q)) : Tri prog w a m l (allTrue .Or (x :: rest) env) Q :=
  ⟨fun E s R gF iF F N D k => wpAny_allTrue_Or_cons (h.run E s _ _ iF F N D fun b _ _ _ _ gF1 iF1 F1 N1 D1 q1 => by
    cases b with
    | true => exact k _ _ _ _ _ _ iF1 F1 N1 D1 (q1.1 rfl)
    | false => exact (q1.2 rfl).run E _ R _ iF1 F1 N1 D1 k)⟩
theorem Tri.truthy_bool {b : Bool} {Q : BQ} (h : Q b m l) : Tri prog w a m l (truthy (.bool b)) Q :=
  ⟨fun _ s _ gF iF F N D k => wpAny_truthy_bool (k _ m l s.heap s.toks _ iF F N D h)⟩
theorem Tri.Or2 {x y pos} {Q : VQ} (h : Tri prog w a m l (eval x env) fun v m1 l1 => Tri prog w a m1 l1 (truthy v) fun b m2 l2 => (b = true → Q v m2 l2) ∧ (b = false → Tri prog w a m2 l2 (eval y env) Q)) : Tri prog w a m l (eval (.BoolOp .Or [x, y] pos) env) Q :=
  ⟨fun E s R gF iF F N D k => wpAny_Or2 (h.run E s _ _ iF F N D fun _ _ _ _ _ gF1 iF1 F1 N1 D1 q1 => q1.run E _ _ _ iF1 F1 N1 D1 fun b _ _ _ _ gF2 iF2 F2 N2 D2 q2 => by
    cases b with
    | true => exact k _ _ _ _ _ _ iF2 F2 N2 D2 (q2.1 rfl)
    | false => exact (q2.2 rfl).run E _ R _ iF2 F2 N2 D2 k)⟩
theorem Tri.items_nil {pos} {Q : List Value → Loc → Led → Prop} (h : Q [] m l) : Tri prog w a m l (spliced (backTo pos (starEach [] env))) Q :=
  ⟨fun _ s _ gF iF F N D k => wpAny_items_nil (k _ m l s.heap s.toks _ iF F N D h)⟩
theorem Tri.items_cons {pos e rest} {Q : List Value → Loc → Led → Prop} (h : Tri prog w a m l (eval e env) fun v m1 l1 => Tri prog w a m1 l1 (spliced (backTo pos (starEach rest env))) fun vs m2 l2 => Q (v :: vs) m2 l2)
    (he : starEach (e :: rest) env = (false, eval e env) :: starEach rest env := by rfl) : Tri prog w a m l (spliced (backTo pos (starEach (e :: rest) env))) Q :=
  ⟨fun E s R gF iF F N D k => wpAny_items_cons (h.run E s _ _ iF F N D fun _ _ _ _ _ gF1 iF1 F1 N1 D1 q1 => q1.run E _ _ _ iF1 F1 N1 D1 fun _ _ _ _ _ gF2 iF2 F2 N2 D2 q2 => k _ _ _ _ _ _ iF2 F2 N2 D2 q2) he⟩
end

structure Ok (K : Frag) (p : Program) (loose : List Str) (mean : ExcName → Option Value) (mg mb : Str → Option Value) (a : Act) (env : Env) (n : Nat) : Prop where
  below : ∃ A₀ outer, Below A₀ a.base outer a.h₀ ∧ a.A.frames = some (env :: outer) ∧ a.fs = outer.filterMap (·.frame)
  dicts : KtsDicts a.fs a.h₀
  kin : K.In a.base
  top : Top p loose mean mg mb a.base
  frame : env.frame = some a.L
  kind : env.scope.kind = .function
  handled : a.A.handled = none
  room : a.A.depth + n < recursionLimit
  units : a.A.units + 8 * n + 128 < cLine

theorem Turned.belowAt {a : Act} {g : Heap} (i : Turned a g) {A₀ : Around} {outer : List Env} (B : Below A₀ a.base outer a.h₀) : Below A₀ a.base outer g :=
  ⟨B.stack, i.stays, B.frames.of_keeps fun b o e _ => let ⟨_, hs⟩ := i.turn.up e; ⟨_, hs, rfl⟩⟩

theorem leaveT {a : Act} {g h h' G' : Heap} {A₀ : Around} {outer : List Env} {L' : Addr} {m m' : Loc} {l l' : Led} (i : Turned a g) (B : Below A₀ a.base outer a.h₀) (hfs : a.fs = outer.filterMap (·.frame)) (F : Fr g a.L h m) (N : News g a.L h l)
    (T : KtsTurn (a.L :: a.fs) (hideAll h (l.map (·.1))) G') (F' : Fr G' L' h' m') (N' : News G' L' h' l') : ∃ g', Turned a g' ∧ Fr g' a.L h' m ∧ News g' a.L h' l' := by
  have B' := i.belowAt B
  have nm : ∀ b o, g.get? b = some o → b ∉ l.map (·.1) := fun b o e q => by
    obtain ⟨p, hp, rfl⟩ := List.mem_map.mp q
    rw [(N p hp).2.2] at e; cases e
  have st : g.StaysIn (hideAll h (l.map (·.1))) := fun b o e => hideAll_get _ (F.keep b o e) (nm b o e)
  obtain ⟨oL, es, ep, hL, hLd, hLk, hLf⟩ := F.ns
  have nL : a.L ∉ l.map (·.1) := fun q => by
    obtain ⟨p, hp, e⟩ := List.mem_map.mp q
    exact (N p hp).2.1 e
  have hLg := hideAll_get (l.map (·.1)) hL nL
  obtain ⟨sL, hsL⟩ := T.up hLg
  obtain ⟨T', S⟩ := kts_turn_at (h := h') (fs := a.fs) (g := g)
    (fun b hb => by
      rw [hfs] at hb
      obtain ⟨_, o, ho, _⟩ := B'.frames.mem hb
      exact ⟨o, ho⟩)
    (fun b o e nf => F'.keep b o (T.other b o (st b o e) fun hm => by
      rcases List.mem_cons.mp hm with z | z
      · rw [z, kts_self F] at e; cases e
      · exact nf z))
    (fun b o e _ => by
      obtain ⟨sl, hs⟩ := T.up (st b o e)
      exact ⟨sl, F'.keep _ _ hs⟩)
  refine ⟨_, ⟨i.turn.trans T', fun b o e => T'.other b o (i.stays b o e) fun hm => ?_⟩, ⟨⟨_, es, ep, F'.keep _ _ hsL, hLd, hLk, hLf⟩, S, by rw [T'.size]; exact F.above⟩, fun p hp => ⟨(N' p hp).1, fun q => ?_, ?_⟩⟩
  · rw [hfs] at hm
    rw [(B'.frames.mem hm).1] at e; cases e
  · have := (N' p hp).2.2; rw [q, hsL] at this; cases this
  · refine T'.none_ _ ?_
    cases q : g.get? p.1 with
    | none => rfl
    | some o =>
      obtain ⟨sl, hs⟩ := T.up (st _ _ q)
      have := (N' p hp).2.2; rw [hs] at this; cases this

def Sub (l l' : Led) : Prop := ∃ g, (l ++ g).Perm l'
theorem Sub.refl (l : Led) : Sub l l := ⟨[], by simp⟩
theorem Sub.mem {l l' : Led} (h : Sub l l') : ∀ p ∈ l, p ∈ l' := fun p hp => by
  obtain ⟨g, e⟩ := h
  exact e.mem_iff.mp (List.mem_append.mpr (.inl hp))
theorem Sub.nd {l l' : Led} (h : Sub l l') (D : ND l') : ND l := by
  obtain ⟨g, e⟩ := h
  have := ((e.map Prod.fst).nodup_iff.mpr D)
  rw [List.map_append] at this
  exact (List.nodup_append.mp this).1
theorem Sub.cons {l l' : Led} (p : Addr × Obj) (h : Sub l l') : Sub l (p :: l') := by
  obtain ⟨g, e⟩ := h
  exact ⟨p :: g, (List.perm_middle).trans (e.cons p)⟩
theorem Sub.cons₂ {l l' : Led} (p : Addr × Obj) (h : Sub l l') : Sub (p :: l) (p :: l') := by
  obtain ⟨g, e⟩ := h
  exact ⟨g, e.cons p⟩
theorem Sub.perm {l l' l'' : Led} (h : Sub l l') (e : l'.Perm l'') : Sub l l'' := by
  obtain ⟨g, q⟩ := h
  exact ⟨g, q.trans e⟩
theorem Sub.permL {l l' l'' : Led} (e : l.Perm l') (h : Sub l' l'') : Sub l l'' := by
  obtain ⟨g, q⟩ := h
  exact ⟨g, (e.append_right g).trans q⟩
def lcl (l : List (Str × Value)) : Loc := fun y => l.lookup y
theorem lcl_cons (x : Str) (v : Value) (l : List (Str × Value)) : (fun y => if y = x then some v else lcl l y) = lcl ((x, v) :: l) := by
  funext y
  by_cases h : y = x
  · subst h; simp [lcl]
  · simp [lcl, List.lookup_cons, beq_eq_false_iff_ne.mpr h, h]
abbrev lclx (l ex : List (Str × Value)) : Loc := lcl (l ++ ex)

def Has (cur : List (Str × Value)) : List (Str × Value) → Prop
  | [] => True
  | p :: r => cur.lookup p.1 = some p.2 ∧ Has cur r
theorem Has.get {cur : List (Str × Value)} {y : Str} {v : Value} : ∀ {l : List (Str × Value)}, Has cur l → l.lookup y = some v → cur.lookup y = some v
  | [], _, h => by cases h
  | (x, u) :: r, H, h => by
    rw [List.lookup_cons] at h
    by_cases e : y = x
    · subst e
      simp at h
      subst h
      exact H.1
    · simp [beq_eq_false_iff_ne.mpr e] at h
      exact H.2.get h
theorem lcl_norm {cur l : List (Str × Value)} (H : Has cur l) : lcl cur = lclx l cur := by
  funext y
  simp only [lclx, lcl, List.lookup_append]
  cases e : l.lookup y with
  | none => rfl
  | some v => rw [H.get e]; rfl

section
variable {prog : Program} {w : World} {K : Frag} {p : Program} {loose : List Str} {mean : ExcName → Option Value} {mg mb : Str → Option Value} {a : Act} {env : Env} {n : Nat} {m : Loc} {l : Led}
variable {cn : Str} {cs : Scope} {fa : Addr} {ccd : Value} {cl : List (Str × Addr)} {x : Str} {pos : Pos} {v : Value}
theorem Tri.nameL {Q : VQ} {lv : List (Str × Value)} (hv : lv.lookup x = some v) (h : Q v (lcl lv) l) (hk : cs.kind = .function := by rfl) (hx : (envX cn cs a.L fa ccd cl).kindOf x = some .local := by rfl) (hd : (x == ("__debug__" : Str)) = false := by decide) :
    Tri prog w a (lcl lv) l (eval (.Name x pos) (envX cn cs a.L fa ccd cl)) Q :=
  ⟨fun _ s _ gF iF F N D k => nameX_L F hv (k v _ l s.heap s.toks _ iF F N D h) hk hx hd⟩
theorem Tri.loadL {Q : VQ} {lv : List (Str × Value)} (hv : lv.lookup x = some v) (h : Q v (lcl lv) l) (hk : cs.kind = .function := by rfl) (hx : (envX cn cs a.L fa ccd cl).kindOf x = some .local := by rfl) :
    Tri prog w a (lcl lv) l (loadName (envX cn cs a.L fa ccd cl) x) Q :=
  ⟨fun _ s _ gF iF F N D k => wpAny_loadName_local hk hx F.ns hv (k v _ l s.heap s.toks _ iF F N D h)⟩
theorem Tri.nameK {Q : VQ} (ok : Ok K p loose mean mg mb a env n) (e : nsIn K mainGlobals x = some (some v)) (h : Q v m l) (hk : cs.kind = .function := by rfl) (hx : (envX cn cs a.L fa ccd cl).kindOf x = some .globalImplicit := by rfl) (hd : (x == ("__debug__" : Str)) = false := by decide) :
    Tri prog w a m l (eval (.Name x pos) (envX cn cs a.L fa ccd cl)) Q :=
  ⟨fun _ s _ gF iF F N D k => nameX_K F (ok.kin.keeps iF.stays) (topRead_of (ok.top.keeps iF.stays)) e (k v m l s.heap s.toks _ iF F N D h) hk hx hd⟩
theorem Tri.nameB {Q : VQ} (ok : Ok K p loose mean mg mb a env n) (e : nsIn K mainGlobals x = some none) (hv : bootBuiltins x = some v) (h : Q v m l) (hn : x ≠ "__name__" := by decide) (hk : cs.kind = .function := by rfl) (hx : (envX cn cs a.L fa ccd cl).kindOf x = some .globalImplicit := by rfl) (hd : (x == ("__debug__" : Str)) = false := by decide) :
    Tri prog w a m l (eval (.Name x pos) (envX cn cs a.L fa ccd cl)) Q :=
  ⟨fun _ s _ gF iF F N D k => nameX_B F (ok.kin.keeps iF.stays) (topRead_of (ok.top.keeps iF.stays)) e hv hn (k v m l s.heap s.toks _ iF F N D h) hk hx hd⟩
theorem Tri.storeL {Q : Unit → Loc → Led → Prop} {lv : List (Str × Value)} (h : Q () (lcl ((x, v) :: lv)) l) (hk : cs.kind = .function := by rfl) (hx : (envX cn cs a.L fa ccd cl).kindOf x = some .local := by rfl) :
    Tri prog w a (lcl lv) l (storeName (envX cn cs a.L fa ccd cl) x v) Q :=
  ⟨fun _ s _ gF iF F N D k => storeX_L F N (fun h' F' N' => k () _ l h' (s.toks + 1) _ iF (lcl_cons x v lv ▸ F') N' D h) hk hx⟩

theorem Tri.nameC {Q : VQ} {c : Addr} {o : Obj} (hc : cl.lookup x = some c) (hm : (c, o) ∈ l) (hd : o.data = .cell (some v)) (h : Q v m l) (hk : cs.kind = .function := by rfl) (hx : (envX cn cs a.L fa ccd cl).kindOf x = some .cell := by rfl) (hb : (x == ("__debug__" : Str)) = false := by decide) :
    Tri prog w a m l (eval (.Name x pos) (envX cn cs a.L fa ccd cl)) Q :=
  ⟨fun _ s _ gF iF F N D k => nameX_C N hc hm hd (k v m l s.heap s.toks _ iF F N D h) hk hx hb⟩

theorem enterT {A : Around} {E : Value → Shared → Prop} {R : Result → Shared → Prop} {s : Shared} {g : Heap} {qual : Str} {body : List Stmt} {scope : Scope} {cdv : Value} {f : Addr} {binds : List (Str × Value)}
    (ok : Ok K p loose mean mg mb a env n) (hA : A.frames = a.A.frames) (i : Turned a g) (F : Fr g a.L s.heap m) (N : News g a.L s.heap l) (hloc : ∀ y ∈ binds, scope.names.lookup y.1 = some .local)
    (h : ∀ (b : Act) h₁, b.A = A.deeper (envX qual scope b.L f cdv []) → (∃ A₀ outer, Below A₀ b.base outer b.h₀ ∧ b.A.frames = some (envX qual scope b.L f cdv [] :: outer) ∧ b.fs = outer.filterMap (·.frame)) → KtsDicts b.fs b.h₀ → K.In b.base → Top p loose mean mg mb b.base → Turned b b.h₀ → Fr b.h₀ b.L h₁ (lcl binds.reverse) → News b.h₀ b.L h₁ l →
      (∀ G' h' m' l', Turned b G' → Fr G' b.L h' m' → News G' b.L h' l' → ∃ g', Turned a g' ∧ Fr g' a.L h' m ∧ News g' a.L h' l') →
      wpAny (model prog w) (A.deeper (envX qual scope b.L f cdv [])) (execs body (envX qual scope b.L f cdv [])) (fun fl s' => R (.ok (.ret (match fl with | .ret v => v | _ => .none))) s')
        (fun e s' => wpAny (model prog w) (A.deeper (envX qual scope b.L f cdv [])) (leaving (envX qual scope b.L f cdv []) e) (fun _ s'' => R (.error e) s'') (fun e' s'' => R (.error e') s'') s')
        { s with heap := h₁, toks := s.toks + binds.length })
    (hcell : ∀ x ∈ scope.names, x.2 ≠ .cell) (hk : scope.kind = .function) :
    wpAny (model prog w) A.in1 (newFunctionEnv scope mainGlobals [] binds (qual ++ ".<locals>.") (some f) cdv none builtinsNs) (fun env' s₂ => s₂.heap.NoLimit ∧ codeAny (model prog w) A (.func body env') R s₂) E s := by
  obtain ⟨A₀, outer, B, hfr, hfs⟩ := ok.below
  have B' := i.belowAt B
  obtain ⟨FG, BG, st, _⟩ := groundX (R := R) (A := A) B' F N (hA.trans hfr) ok.frame ok.kind
  have hlim : g.NoLimit := (ok.top.keeps i.stays).nolimit
  refine wpAny_newFunctionEnv hcell hloc (fun h₁ hns hsb => ⟨(hlim.keeps F.keep).fresh _ hsb, codeAny_func ?_⟩) hk
  have hk₁ : ∀ b o, s.heap.get? b = some o → h₁.get? b = some o := fun b o e => hsb.extBut b o (Nat.ne_of_lt (Heap.lt_size e)) (Heap.get?_push_of_some _ e)
  have hff : a.L :: a.fs = (env :: outer).filterMap (·.frame) := by rw [List.filterMap_cons, ok.frame, hfs]
  have hdic : KtsDicts (a.L :: a.fs) (hideAll s.heap (l.map (·.1))) := by
    intro b hb
    rcases List.mem_cons.mp hb with rfl | hb
    · obtain ⟨oL, es, ep, hL, hLd, _, _⟩ := FG.ns
      exact ⟨oL, es, ep, hL, hLd⟩
    · obtain ⟨o, es, n', ho, hd⟩ := ok.dicts.turn i.turn b hb
      exact ⟨o, es, n', st _ _ ho, hd⟩
  refine h ⟨A.deeper (envX qual scope s.heap.objs.size f cdv []), hideAll s.heap (l.map (·.1)), s.heap.objs.size, a.L :: a.fs, a.base⟩ h₁ rfl
    ⟨A, env :: outer, BG, by show Option.map _ A.frames = _; rw [hA, hfr]; rfl, hff⟩ hdic ok.kin ok.top ⟨.refl, BG.stays⟩
    ⟨hns, fun b o e => hk₁ b o (of_hideAll _ e), Nat.le_of_eq (hideAll_size _ _)⟩
    (fun p hp => ⟨hk₁ _ _ (N p hp).1, Nat.ne_of_lt (Heap.lt_size (N p hp).1), hideAll_none _ (List.mem_map_of_mem hp)⟩)
    fun G' h' m' l' t F' N' => leaveT i B hfs F N t.turn F' N'

theorem Tri.callFn {Q : VQ} {name qual : Str} {params : Arguments} {body : List Stmt} {scope : Scope} {dV kV doc pm cdv ct oc : Value} {an od : Option Addr} {osl : Array (Option Value)} {f : Addr} {args : List Value} {kw : List (Str × Value)} {binds : List (Str × Value)}
    (ok : Ok K p loose mean mg mb a env (n + 1)) (ho : K.lookup f = some ⟨oc, od, .func (fnOf name qual params body scope dV kV doc pm an cdv ct), osl⟩) (hcd : codeIn K cdv qual = true)
    (hbind : ∀ s : Shared, K.In s.heap → BindsTo s (fnOf name qual params body scope dV kV doc pm an cdv ct) ⟨args, kw⟩ binds) (hloc : ∀ y ∈ binds, scope.names.lookup y.1 = some .local)
    (h : ∀ b : Act, Ok K p loose mean mg mb b (envX qual scope b.L f cdv []) n → Tri prog w b (lcl binds.reverse) l (execs body (envX qual scope b.L f cdv [])) fun fl _ l' => ∃ l'', Sub l'' l' ∧ Q (match fl with | .ret v => v | _ => .none) m l'')
    (hco : scope.isCoroutine = false) (hgen : scope.isGenerator = false) (hk : scope.kind = .function) (hcell : ∀ x ∈ scope.names, x.2 ≠ .cell) : Tri prog w a m l (call (.ref f) args kw) Q := by
  refine ⟨fun E s R gF iF F N D k => ?_⟩
  have room : a.A.depth < recursionLimit := Nat.lt_of_le_of_lt (Nat.le_add_right _ _) ok.room
  have X : K.In s.heap := (ok.kin.keeps iF.stays).keeps F.keep
  refine wpAny_call (codeAny_call_function (fd := fnOf name qual params body scope dV kV doc pm an cdv ct) (body := body) room (X _ _ ho) rfl hco hgen rfl (codeRec_of X hcd) (hbind s X _ _ _ _ ?_))
  refine enterT ok rfl iF F N hloc (fun b h₁ hbA hbl hdc hki hto tb FL NL lv => ?_) hcell hk
  have ok' : Ok K p loose mean mg mb b (envX qual scope b.L f cdv []) n :=
    ⟨hbl, hdc, hki, hto, rfl, hk, by rw [hbA]; exact ok.handled, by have := ok.room; rw [hbA]; show a.A.depth + 1 + n < _; omega, by have := ok.units; rw [hbA]; show a.A.units + 3 + 8 * n + 128 < _; omega⟩
  rw [← hbA]
  refine (h _ ok').run _ _ _ _ tb FL NL D fun fl m' l' h' tk' gF' iF' F' N' D' q => ?_
  obtain ⟨l'', hs, q⟩ := q
  obtain ⟨g', t', F'', N''⟩ := lv _ _ _ _ iF' F' (fun p hp => N' p (hs.mem p hp))
  exact k _ _ _ _ _ _ t' F'' N'' (hs.nd D') q
end

inductive Put (d : Addr) (o o' : Obj) : Led → Led → Prop
  | head {r : Led} : Put d o o' ((d, o) :: r) ((d, o') :: r)
  | tail {p : Addr × Obj} {r r' : Led} : Put d o o' r r' → Put d o o' (p :: r) (p :: r')
theorem Put.fst {d : Addr} {o o' : Obj} : ∀ {l l' : Led}, Put d o o' l l' → l'.map Prod.fst = l.map Prod.fst
  | _, _, .head => rfl
  | _, _, .tail h => by simp [h.fst]
theorem Put.nd {d : Addr} {o o' : Obj} {l l' : Led} (P : Put d o o' l l') (D : ND l) : ND l' := by unfold ND; rw [P.fst]; exact D
theorem Put.mem {d : Addr} {o o' : Obj} : ∀ {l l' : Led}, Put d o o' l l' → (d, o) ∈ l
  | _, _, .head => .head _
  | _, _, .tail h => .tail _ h.mem
theorem Put.upd {d : Addr} {o o' : Obj} : ∀ {l l' : Led}, Put d o o' l l' → ND l → Upd d o o' l l'
  | _, _, .head, D => .head fun q hq e => by
      have := (List.nodup_cons.mp D).1
      exact this (by have := List.mem_map_of_mem (f := Prod.fst) hq; rw [e] at this; exact this)
  | _, _, .tail (p := q) h, D => .tail (fun e => by
      have := (List.nodup_cons.mp D).1
      exact this (by have := List.mem_map_of_mem (f := Prod.fst) h.mem; rw [e]; exact this)) (h.upd (List.nodup_cons.mp D).2)
theorem Put.left {d : Addr} {o o' : Obj} {l l' : Led} (P : Put d o o' l l') (r : Led) : Put d o o' (l ++ r) (l' ++ r) := by
  induction P with
  | head => exact .head
  | tail _ ih => exact .tail ih
theorem Put.right {d : Addr} {o o' : Obj} {l l' : Led} (P : Put d o o' l l') : ∀ r : Led, Put d o o' (r ++ l) (r ++ l')
  | [] => P
  | _ :: r => .tail (P.right r)
theorem nd_cons {d : Addr} {o : Obj} {l : Led} (D : ND l) (h : ∀ p ∈ l, p.1 < d) : ND ((d, o) :: l) :=
  List.nodup_cons.mpr ⟨fun q => by obtain ⟨p, hp, e⟩ := List.mem_map.mp q; exact absurd (h p hp) (e ▸ Nat.lt_irrefl _), D⟩

section
variable {prog : Program} {w : World} {a : Act} {m : Loc} {l l' : Led} {env : Env} {Q : VQ}

theorem Tri.add_int {x y : Int} {t u : Tok} (h : ∀ t, Q (.int (x + y) t) m l) : Tri prog w a m l (binaryOp .Add (.int x t) (.int y u)) Q :=
  ⟨fun _ s _ gF iF F N D k => PyProof.Rows.add_int (k _ m l s.heap (s.toks + 1) _ iF F N D (h _))⟩
theorem Tri.sub_int {x y : Int} {t u : Tok} (h : ∀ t, Q (.int (x - y) t) m l) : Tri prog w a m l (binaryOp .Sub (.int x t) (.int y u)) Q :=
  ⟨fun _ s _ gF iF F N D k => PyProof.Rows.sub_int (k _ m l s.heap (s.toks + 1) _ iF F N D (h _))⟩
theorem Tri.mul_int {x y : Int} {t u : Tok} (h : ∀ t, Q (.int (x * y) t) m l) (hm : IntMulOk x y) : Tri prog w a m l (binaryOp .Mult (.int x t) (.int y u)) Q :=
  ⟨fun _ s _ gF iF F N D k => PyProof.Rows.mul_int (k _ m l s.heap (s.toks + 1) _ iF F N D (h _)) hm⟩
theorem Tri.iadd_int {x y : Int} {t u : Tok} (h : ∀ t, Q (.int (x + y) t) m l) : Tri prog w a m l (inplaceOp .Add (.int x t) (.int y u)) Q :=
  ⟨fun _ s _ gF iF F N D k => PyProof.Rows.iadd_int (k _ m l s.heap (s.toks + 1) _ iF F N D (h _))⟩
theorem Tri.isub_int {x y : Int} {t u : Tok} (h : ∀ t, Q (.int (x - y) t) m l) : Tri prog w a m l (inplaceOp .Sub (.int x t) (.int y u)) Q :=
  ⟨fun _ s _ gF iF F N D k => PyProof.Rows.isub_int (k _ m l s.heap (s.toks + 1) _ iF F N D (h _))⟩
theorem Tri.lt_int {x y : Int} {t u : Tok} (h : Q (.bool (decide (x < y))) m l) : Tri prog w a m l (compareOp .Lt (.int x t) (.int y u)) Q :=
  ⟨fun _ s _ gF iF F N D k => PyProof.Rows.lt_int (k _ m l s.heap s.toks _ iF F N D h)⟩
theorem Tri.gt_int {x y : Int} {t u : Tok} (h : Q (.bool (decide (y < x))) m l) : Tri prog w a m l (compareOp .Gt (.int x t) (.int y u)) Q :=
  ⟨fun _ s _ gF iF F N D k => PyProof.Rows.gt_int (k _ m l s.heap s.toks _ iF F N D h)⟩
theorem Tri.le_int {x y : Int} {t u : Tok} (h : Q (.bool (decide (x ≤ y))) m l) : Tri prog w a m l (compareOp .LtE (.int x t) (.int y u)) Q :=
  ⟨fun _ s _ gF iF F N D k => PyProof.Rows.le_int (k _ m l s.heap s.toks _ iF F N D h)⟩
theorem Tri.eq_int {x y : Int} {t u : Tok} (h : Q (.bool (x == y)) m l) : Tri prog w a m l (compareOp .Eq (.int x t) (.int y u)) Q :=
  ⟨fun _ s _ gF iF F N D k => PyProof.Rows.eq_int (k _ m l s.heap s.toks _ iF F N D h)⟩
theorem Tri.ne_int {x y : Int} {t u : Tok} (h : Q (.bool (x != y)) m l) : Tri prog w a m l (compareOp .NotEq (.int x t) (.int y u)) Q :=
  ⟨fun _ s _ gF iF F N D k => PyProof.Rows.ne_int (k _ m l s.heap s.toks _ iF F N D h)⟩
theorem Tri.eq_str {x y : Str} {t u : Tok} (h : Q (.bool (x == y)) m l) : Tri prog w a m l (compareOp .Eq (.str x t) (.str y u)) Q :=
  ⟨fun _ s _ gF iF F N D k => PyProof.Rows.eq_str (k _ m l s.heap s.toks _ iF F N D h)⟩
theorem Tri.is_none {v : Value} (h : Q (.bool (v == .none)) m l) : Tri prog w a m l (compareOp .Is v .none) Q :=
  ⟨fun _ s _ gF iF F N D k => PySem.is_none (k _ m l s.heap s.toks _ iF F N D h)⟩
theorem Tri.isNot_none {v : Value} (h : Q (.bool (!(v == .none))) m l) : Tri prog w a m l (compareOp .IsNot v .none) Q :=
  ⟨fun _ s _ gF iF F N D k => PySem.isNot_none (k _ m l s.heap s.toks _ iF F N D h)⟩
theorem Tri.truthy_str {x : Str} {t : Tok} {Q : BQ} (hz : x.length ≤ sizeLine) (h : Q ((x.length : Int) != 0) m l) : Tri prog w a m l (truthy (.str x t)) Q :=
  ⟨fun _ s _ gF iF F N D k => P.truthy_str (by have := sizeLine_eq; omega) (k _ m l s.heap _ _ iF F N D h)⟩
theorem Tri.len_str {x : Str} {t : Tok} (hz : x.length ≤ sizeLine) (h : ∀ t, Q (.int x.length t) m l) : Tri prog w a m l (call (.builtin "len") [.str x t]) Q :=
  ⟨fun _ s _ gF iF F N D k => PyProof.Rows.len_str (by have := sizeLine_eq; omega) (k _ m l s.heap _ _ iF F N D (h _))⟩

theorem subscr_slice (lo hi : Option Expr) (p : Pos) (o i : Value) : subscripted (.Slice lo hi none p) false o i = operate [i, o] (getItem o i) := rfl
theorem subscr_Name (x : Str) (p : Pos) (o i : Value) : subscripted (.Name x p) false o i = operate [o, i] (getItem o i) := rfl
theorem subscr_BinOp (x : Expr) (op : Operator) (y : Expr) (p : Pos) (o i : Value) : subscripted (.BinOp x op y p) false o i = operate [o, i] (getItem o i) := rfl
theorem subscr_UnaryOp (op : UnaryOp) (y : Expr) (p : Pos) (o i : Value) : subscripted (.UnaryOp op y p) false o i = operate [o, i] (getItem o i) := rfl
theorem subscr_Constant (c : Const) (k : Nat) (p : Pos) (o i : Value) : subscripted (.Constant c k p) false o i = operate [o, i] (getItem o i) := rfl
theorem letGo_str (v : Expr) (x : Str) (t : Tok) (r : Value) : letTemporaryGo v (.str x t) r = Pure.pure () := by cases v <;> rfl
theorem Tri.Subscript {value slice pos} (h : Tri prog w a m l (eval value env) fun o m1 l1 => Tri prog w a m1 l1 (eval slice env) fun i m2 l2 => Tri prog w a m2 l2 (subscriptTail value slice o i) Q) : Tri prog w a m l (eval (.Subscript value slice pos) env) Q :=
  ⟨fun E s R gF iF F N D k => Subscript_ (h.run E s _ _ iF F N D fun _ _ _ _ _ gF1 iF1 F1 N1 D1 q1 => q1.run E _ _ _ iF1 F1 N1 D1 fun _ _ _ _ _ gF2 iF2 F2 N2 D2 q2 => q2.run E _ R _ iF2 F2 N2 D2 k)⟩
abbrev sliceObj (vl vu : Value) : Obj := { cls := .type "slice", data := .fields #[vl, vu, .none] }
theorem Tri.Slice {lower upper p} (h : Tri prog w a m l (evalPart lower env) fun vl m1 l1 => Tri prog w a m1 l1 (evalPart upper env) fun vu m2 l2 => ∀ sl, Q (.ref sl) m2 ((sl, sliceObj vl vu) :: l2)) : Tri prog w a m l (eval (.Slice lower upper none p) env) Q :=
  ⟨fun E s R gF iF F N D k => wpAny_Slice (h.run E s _ _ iF F N D fun _ _ _ _ _ gF1 iF1 F1 N1 D1 q1 => q1.run E _ _ _ iF1 F1 N1 D1 fun _ _ _ _ _ gF2 iF2 F2 N2 D2 q2 => wpAny_pure (k _ _ _ _ _ _ iF2 (F2.push _) (N2.push F2 _) (nd_cons D2 fun p hp => Heap.lt_size (N2 p hp).1) (q2 _)))⟩
theorem Tri.part_none (h : Q .none m l) : Tri prog w a m l (evalPart none env) Q := Tri.pure h
theorem Tri.part_some {e : Expr} (h : Tri prog w a m l (eval e env) Q) : Tri prog w a m l (evalPart (some e) env) Q := h
theorem Tri.sub_str_slice {value slice : Expr} {x : Str} {t : Tok} {sl : Addr} (lo hi : Option (Int × Tok)) (hz : x.length ≤ sizeLine) (h : ∀ t', Q (.str (Txt.slice x (lo.map (·.1)) (hi.map (·.1))) t') m l)
    (hs : subscripted slice false (.str x t) (.ref sl) = operate [.ref sl, .str x t] (getItem (.str x t) (.ref sl)) := by first | with_reducible exact subscr_slice .. | with_reducible exact subscr_Name .. | with_reducible exact subscr_BinOp .. | with_reducible exact subscr_Constant .. | with_reducible exact subscr_UnaryOp .. | with_reducible exact subscr_Call ..) :
    Tri prog w a m ((sl, sliceObj (partValue lo) (partValue hi)) :: l) (subscriptTail value slice (.str x t) (.ref sl)) Q := by
  refine ⟨fun E s R gF iF F N D k => ?_⟩
  refine tail_of_ItemOn ⟨"str", _, PySem.F.slot_str_getitem.lookup, typeIs_str _ _ _, wpAny_getItem_str_slice (l := lo) (u := hi) (st := none) ⟨_, (N _ (.head _)).1, rfl, rfl⟩ rfl ?_⟩ hs (letGo_str value x t)
  exact post_val_or_str ⟨Nat.le_trans (Txt.slice_le x _ _) hz, fun t' tk => k _ _ _ _ _ _ iF F (fun p hp => N p (.tail _ hp)) (List.nodup_cons.mp D).2 (h t')⟩
theorem Tri.sub_str_item {value slice : Expr} {x : Str} {i : Int} {t u : Tok} (h1 : -(x.length : Int) ≤ i) (h2 : i < x.length) (hz : x.length ≤ sizeLine) (h : ∀ t', Q (.str (Txt.item x i) t') m l)
    (hs : subscripted slice false (.str x t) (.int i u) = operate [.str x t, .int i u] (getItem (.str x t) (.int i u)) := by first | with_reducible exact subscr_slice .. | with_reducible exact subscr_Name .. | with_reducible exact subscr_BinOp .. | with_reducible exact subscr_Constant .. | with_reducible exact subscr_UnaryOp .. | with_reducible exact subscr_Call ..) :
    Tri prog w a m l (subscriptTail value slice (.str x t) (.int i u)) Q :=
  ⟨fun E s R gF iF F N D k => item_str (by have := sizeLine_eq; unfold fitsSsize; simp; omega) h1 h2 (fun _ => k _ m l s.heap _ _ iF F N D (h _)) hs (letGo_str value x t)⟩
end

section
variable {prog : Program} {w : World} {a : Act} {m : Loc} {l l' : Led} {env : Env}

theorem Tri.sub {α : Type} {t : Sem α} {Q : α → Loc → Led → Prop} (hs : Sub l' l) (h : Tri prog w a m l' t Q) : Tri prog w a m l t Q :=
  h.less hs.mem hs.nd

abbrev Turn (Q : FQ) (next : Loc → Led → Prop) : FQ := fun f m l => match f with
  | .next => next m l
  | .cont => next m l
  | .brk => Q .next m l
  | .ret v => Q (.ret v) m l

theorem Tri.While {test body orelse pos} {Q : FQ} (J : Nat → Loc → Led → Prop) (n : Nat) (hj : J n m l)
    (turn : ∀ n m l, J n m l → Tri prog w a m l (isTrue test env (eval test env)) fun b m1 l1 =>
      (b = true → Tri prog w a m1 l1 (execs body env) (Turn Q fun m2 l2 => ∃ n' l3, n' < n ∧ Sub l3 l2 ∧ J n' m2 l3)) ∧ (b = false → Tri prog w a m1 l1 (execs orelse env) Q)) :
    Tri prog w a m l (exec (.While test body orelse pos) env) Q := by
  refine ⟨fun E s R gF iF F N D k => ?_⟩
  refine wpAny_While (codeAny_whileLoop (fun n s' => ∃ m' l' h' tk' g', s' = { s with heap := h', toks := tk' } ∧ Turned a g' ∧ Fr g' a.L h' m' ∧ News g' a.L h' l' ∧ ND l' ∧ J n m' l') ?_ n ⟨m, l, s.heap, s.toks, _, rfl, iF, F, N, D, hj⟩)
  rintro n s' ⟨m', l', h', tk', g', rfl, i', F', N', D', hj'⟩
  refine (turn n m' l' hj').run _ _ _ _ i' F' N' D' fun b m1 l1 h1 t1 g1 i1 F1 N1 D1 q1 => ?_
  cases b with
  | true =>
    simp only [if_true]
    refine (q1.1 rfl).run _ _ _ _ i1 F1 N1 D1 fun f m2 l2 h2 t2 g2 i2 F2 N2 D2 q2 => ?_
    cases f with
    | next => obtain ⟨n', l3, hn, hs, hj2⟩ := q2; exact ⟨n', hn, m2, l3, h2, t2, _, rfl, i2, F2, fun p hp => N2 p (hs.mem p hp), hs.nd D2, hj2⟩
    | cont => obtain ⟨n', l3, hn, hs, hj2⟩ := q2; exact ⟨n', hn, m2, l3, h2, t2, _, rfl, i2, F2, fun p hp => N2 p (hs.mem p hp), hs.nd D2, hj2⟩
    | brk => exact k _ _ _ _ _ _ i2 F2 N2 D2 q2
    | ret v => exact k _ _ _ _ _ _ i2 F2 N2 D2 q2
  | false =>
    simp only [Bool.false_eq_true, if_false]
    exact (q1.2 rfl).run _ _ _ _ i1 F1 N1 D1 fun f m2 l2 h2 t2 g2 i2 F2 N2 D2 q2 => k _ _ _ _ _ _ i2 F2 N2 D2 q2

structure ForAt (prog : Program) (w : World) (a : Act) (env : Env) (target : Expr) (body orelse : List Stmt) (Q : FQ) (it : Value) (m : Loc) (l : Led) : Prop where
  run : ∀ (R : Result → Shared → Prop) (s : Shared) (g : Heap), Turned a g → Fr g a.L s.heap m → News g a.L s.heap l → ND l →
    (∀ x m' l' h' tk' g', Turned a g' → Fr g' a.L h' m' → News g' a.L h' l' → ND l' → Q x m' l' → R (.ok x) { s with heap := h', toks := tk' }) →
    codeAny (model prog w) a.A (.forLoop target it body orelse env) R s
theorem Tri.For {target iter body orelse pos} {Q : FQ} (h : Tri prog w a m l (eval iter env) fun x m1 l1 => Tri prog w a m1 l1 (pyIter x) fun it m2 l2 => ForAt prog w a env target body orelse Q it m2 l2)
    (hs : ∀ x, foldedSetIterable iter env x = Pure.pure x := by intro _; rfl) : Tri prog w a m l (exec (.For target iter body orelse pos) env) Q :=
  ⟨fun E s R _ i F N D k => wpAny_For (h.run E s _ _ i F N D fun _ _ _ _ _ _ i1 F1 N1 D1 q1 => q1.run E _ _ _ i1 F1 N1 D1 fun _ _ _ _ _ _ i2 F2 N2 D2 q2 => q2.run _ _ _ i2 F2 N2 D2 fun x m' l' h' tk' _ i3 F3 N3 D3 q3 => k _ _ _ _ _ _ i3 F3 N3 D3 q3) hs⟩

theorem forW {target : Expr} {body orelse : List Stmt} {Q : FQ} {I : Addr} {o₀ : Obj} {fs : List Addr} {n : Nat} {P : Nat → Value → Prop} {St : Nat → Heap → Prop} (W : Walks prog w a.A I (I :: fs) [I] n P St)
    (hob : ∀ i h, St i h → ∃ o, h.get? I = some o) (kp : Led) (hfs : ∀ b ∈ fs, (∃ o, (b, o) ∈ kp) ∨ ∃ o, a.base.get? b = some o)
    (hgo : ∀ (s : Shared) (Q : Unit → Shared → Prop) (E : Value → Shared → Prop) i v, P i v → St (i + 1) s.heap → Q () s → wpAny (model prog w) a.A (letOwnedTupleGo target (.ref I) v) Q E s)
    (J : Nat → Loc → Led → Prop) (hkp : ∀ i m l, J i m l → ∀ p ∈ kp, p ∈ l) (hj : J 0 m l)
    (st0 : ∀ g h : Heap, Turned a g → News g a.L h ((I, o₀) :: l) → (∀ b o, a.base.get? b = some o → h.get? b = some o) → St 0 h)
    (turn : ∀ i v o m l, i < n → P i v → J i m l → Tri prog w a m ((I, o) :: l) (assign target env v) fun _ m1 l1 => Tri prog w a m1 l1 (execs body env) (Turn Q fun m2 l2 => ∃ l3, Sub ((I, o) :: l3) l2 ∧ J (i + 1) m2 l3))
    (done : ∀ m l, J n m l → Tri prog w a m l (execs orelse env) Q) : ForAt prog w a env target body orelse Q (.ref I) m ((I, o₀) :: l) := by
  refine ⟨fun R s gF iF F N D k => ?_⟩
  refine codeAny_forLoop_any (fun q s' => ∃ i m' l' o h' tk' g', s' = { s with heap := h', toks := tk' } ∧ Turned a g' ∧ Fr g' a.L h' m' ∧ News g' a.L h' ((I, o) :: l') ∧ ND ((I, o) :: l') ∧ J i m' l' ∧ St i h' ∧ i ≤ n ∧ q = n - i) ?_ n
    ⟨0, m, l, o₀, s.heap, s.toks, gF, rfl, iF, F, N, D, hj, st0 _ _ iF N (fun b o e => F.keep b o (iF.stays b o e)), Nat.zero_le _, rfl⟩
  rintro q s' ⟨i, m', l', o, h', tk', g', rfl, i', F', N', D', hj', hst, hi, rfl⟩
  have hI : g'.get? I = none := (N' _ (.head _)).2.2
  have hIL : I ≠ a.L := (N' _ (.head _)).2.1
  have moved : ∀ h₂ : Heap, (∀ b ob, b ∉ [I] → h'.get? b = some ob → h₂.get? b = some ob) → Fr g' a.L h₂ m' ∧ News g' a.L h₂ l' := by
    intro h₂ hk
    obtain ⟨oL, es, ep, hL, r⟩ := F'.ns
    refine ⟨⟨⟨oL, es, ep, hk _ _ (fun h => hIL (List.mem_singleton.mp h).symm) hL, r⟩, fun b ob e => hk b ob (fun h => by rw [List.mem_singleton.mp h, hI] at e; cases e) (F'.keep b ob e), F'.above⟩, fun p hp => ⟨hk _ _ (fun h => ?_) (N' p (.tail _ hp)).1, (N' p (.tail _ hp)).2⟩⟩
    have := (List.nodup_cons.mp D').1
    exact this (by have := List.mem_map_of_mem (f := Prod.fst) hp; rw [List.mem_singleton.mp h] at this; exact this)
  by_cases hlt : i < n
  · refine W.item i _ _ _ hlt hst fun v h₂ tk₂ hP hst₂ hk => ?_
    obtain ⟨F2, N2⟩ := moved h₂ hk
    obtain ⟨o₂, ho₂⟩ := hob _ _ hst₂
    have N3 : News g' a.L h₂ ((I, o₂) :: l') := fun p hp => by
      rcases List.mem_cons.mp hp with rfl | hp
      · exact ⟨ho₂, hIL, hI⟩
      · exact N2 p hp
    have D3 : ND ((I, o₂) :: l') := D'
    refine hgo _ _ _ i v hP hst₂ ?_
    refine (turn i v o₂ m' l' hlt hP hj').run _ _ _ _ i' F2 N3 D3 fun _ m4 l4 h4 t4 g4 i4 F4 N4 D4 q4 => q4.run _ _ _ _ i4 F4 N4 D4 fun f m5 l5 h5 t5 g5 i5 F5 N5 D5 q5 => ?_
    have nxt : (∃ l3, Sub ((I, o₂) :: l3) l5 ∧ J (i + 1) m5 l3) → ∃ mm, mm < n - i ∧ ∃ i_1 m' l' o h' tk' g', ({ s with heap := h5, toks := t5 } : Shared) = { s with heap := h', toks := tk' } ∧ Turned a g' ∧ Fr g' a.L h' m' ∧ News g' a.L h' ((I, o) :: l') ∧ ND ((I, o) :: l') ∧ J i_1 m' l' ∧ St i_1 h' ∧ i_1 ≤ n ∧ mm = n - i_1 := by
      rintro ⟨l3, hs, hj3⟩
      have N6 : News g5 a.L h5 ((I, o₂) :: l3) := fun p hp => N5 p (hs.mem p hp)
      refine ⟨n - (i + 1), by omega, i + 1, m5, l3, o₂, h5, t5, g5, rfl, i5, F5, N6, hs.nd D5, hj3, W.frame _ _ _ hst₂ ?_, hlt, rfl⟩
      intro b hb ob e
      rcases List.mem_cons.mp hb with rfl | hb
      · rw [ho₂] at e; cases e; exact (N6 _ (.head _)).1
      · rcases hfs b hb with ⟨ob', hm⟩ | ⟨ob', hm⟩
        · have e1 := (N2 _ (hkp _ _ _ hj' _ hm)).1
          have : ob = ob' := Option.some.inj (e.symm.trans e1)
          subst this
          exact (N6 _ (.tail _ (hkp _ _ _ hj3 _ hm))).1
        · have e1 := F2.keep _ _ (i'.stays _ _ hm)
          have : ob = ob' := Option.some.inj (e.symm.trans e1)
          subst this
          exact F5.keep _ _ (i5.stays _ _ hm)
    cases f with
    | next => exact nxt q5
    | cont => exact nxt q5
    | brk => exact k _ _ _ _ _ _ i5 F5 N5 D5 q5
    | ret v => exact k _ _ _ _ _ _ i5 F5 N5 D5 q5
  · have hin : i = n := Nat.le_antisymm hi (Nat.not_lt.mp hlt)
    subst hin
    refine W.done _ _ _ hst fun h₂ tk₂ hk => ?_
    obtain ⟨F2, N2⟩ := moved h₂ hk
    exact (done m' l' hj').run _ _ _ _ i' F2 N2 (List.nodup_cons.mp D').2 fun f m2 l2 h2 t2 g2 i2 F3 N3 D3 q3 => k _ _ _ _ _ _ i2 F3 N3 D3 q3
end

section
variable {prog : Program} {w : World} {a : Act} {m : Loc} {l l' : Led} {env : Env}

theorem Tri.gen {α : Type} {t : Sem α} {Q : α → Loc → Led → Prop} (h : ∀ Q' : α → Loc → Led → Prop, (∀ x m l, Q x m l → Q' x m l) → Tri prog w a m l t Q') : Tri prog w a m l t Q := h Q fun _ _ _ q => q
theorem Tri.gen1 {α β : Type} {t : Sem α} {t2 : Sem β} {Q : β → Loc → Led → Prop} (h : ∀ Q' : β → Loc → Led → Prop, (∀ x m l, Q x m l → Q' x m l) → Tri prog w a m l t fun _ m1 l1 => Tri prog w a m1 l1 t2 Q') :
    Tri prog w a m l t fun _ m1 l1 => Tri prog w a m1 l1 t2 Q := h Q fun _ _ _ q => q
theorem Tri.gen3 {α : Type} {t : Sem Bool} {t2 t3 : Sem α} {Q Q3 : α → Loc → Led → Prop} (h : ∀ Q' Q4 : α → Loc → Led → Prop, (∀ x m l, Q x m l → Q' x m l) → (∀ x m l, Q3 x m l → Q4 x m l) → Tri prog w a m l t fun b m1 l1 => (b = true → Tri prog w a m1 l1 t2 Q') ∧ (b = false → Tri prog w a m1 l1 t3 Q4)) :
    Tri prog w a m l t fun b m1 l1 => (b = true → Tri prog w a m1 l1 t2 Q) ∧ (b = false → Tri prog w a m1 l1 t3 Q3) := h Q Q3 (fun _ _ _ q => q) (fun _ _ _ q => q)
end

section
variable {prog : Program} {w : World} {a : Act} {m : Loc} {l l' : Led} {env : Env} {target : Expr} {body orelse : List Stmt} {Q : FQ}

abbrev lstO (vs : List Value) (n : Nat) : Obj := listOf vs.toArray n
abbrev tupO (vs : List Value) : Obj := { cls := .type "tuple", data := .seq vs.toArray }
abbrev lstIt (D : Addr) (i : Nat) : Obj := { cls := .type "list_iterator", data := .fields #[.ref D, .int i 0] }
abbrev tupIt (D : Addr) (i : Nat) : Obj := { cls := .type "tuple_iterator", data := .fields #[.ref D, .int i 0] }
abbrev rngO (x y c : Int) (t u v : Tok) : Obj := { cls := .type "range", data := .fields #[.int x t, .int y u, .int c v] }
abbrev rngIt (x left step : Int) : Obj := { cls := .type "range_iterator", data := .fields #[rawInt x, rawInt left, rawInt step] }

theorem for_list {D I : Addr} {vs : List Value} {nn : Nat} (hh : a.A.handled = none) (hgo : (∃ x p, target = .Name x p) ∨ (∃ e k p, target = .Tuple e k p) ∧ ∀ v ∈ vs, ∃ T, v = .ref T) (hD : (D, lstO vs nn) ∈ l) (J : Nat → Loc → Led → Prop) (hkp : ∀ i m l, J i m l → (D, lstO vs nn) ∈ l) (hj : J 0 m l)
    (turn : ∀ i v o m l, vs[i]? = some v → J i m l → Tri prog w a m ((I, o) :: l) (assign target env v) fun _ m1 l1 => Tri prog w a m1 l1 (execs body env) (Turn Q fun m2 l2 => ∃ l3, Sub ((I, o) :: l3) l2 ∧ J (i + 1) m2 l3))
    (done : ∀ m l, J vs.length m l → Tri prog w a m l (execs orelse env) Q) : ForAt prog w a env target body orelse Q (.ref I) m ((I, lstIt D 0) :: l) := by
  refine ⟨fun R s gF iF F N D₀ k => ?_⟩
  have hne : D ≠ I := fun e => (List.nodup_cons.mp D₀).1 (by have := List.mem_map_of_mem (f := Prod.fst) hD; rw [e] at this; exact this)
  have W := Walks.list (prog := prog) (w := w) hh I D hne vs.toArray
  have hn : vs.toArray.size = vs.length := by simp
  rw [hn] at W
  refine (forW (fs := [D]) W (fun i h st => ?_) [(D, lstO vs nn)] (fun b hb => .inl (List.mem_singleton.mp hb ▸ ⟨_, .head _⟩)) ?_ J (fun i m l hJ p hp => by rw [List.mem_singleton.mp hp]; exact hkp i m l hJ) hj ?_ ?_ done).run R s _ iF F N D₀ k
  · obtain ⟨⟨o, ho, _⟩, _⟩ := st; exact ⟨o, ho⟩
  · intro s Q E i v hP st hQ
    rcases hgo with ⟨x, p, rfl⟩ | ⟨⟨e, kk, p, rfl⟩, hv⟩
    · exact wpAny_pure hQ
    · have hmem : v ∈ vs := by
        have : vs[i]? = some v := by simpa using hP
        exact List.mem_of_getElem? this
      obtain ⟨T, rfl⟩ := hv v hmem
      exact wpAny_letOwnedTupleGo_listiter st.1 hQ
  · intro g h ig N' keep
    exact ⟨⟨_, (N' _ (.head _)).1, rfl, rfl⟩, ⟨_, (N' _ (.tail _ hD)).1, rfl, nn, rfl⟩⟩
  · intro i v o m l hi hP hJ
    exact turn i v o m l (by simpa using hP) hJ
theorem Tri.iter_list {D : Addr} {vs : List Value} {nn : Nat} {Q : VQ} (hD : (D, lstO vs nn) ∈ l) (h : ∀ I, Q (.ref I) m ((I, lstIt D 0) :: l)) : Tri prog w a m l (pyIter (.ref D)) Q :=
  ⟨fun E s R gF iF F N D₀ k => wpAny_pyIter_list ⟨_, (N _ hD).1, rfl, nn, rfl⟩ (k _ _ _ _ s.toks _ iF (F.push _) (N.push F _) (nd_cons D₀ fun p hp => Heap.lt_size (N p hp).1) (h _))⟩

theorem for_tuple {D I : Addr} {vs : List Value} (hh : a.A.handled = none) (hgo : ∃ x p, target = .Name x p) (hD : (D, tupO vs) ∈ l) (J : Nat → Loc → Led → Prop) (hkp : ∀ i m l, J i m l → (D, tupO vs) ∈ l) (hj : J 0 m l)
    (turn : ∀ i v o m l, vs[i]? = some v → J i m l → Tri prog w a m ((I, o) :: l) (assign target env v) fun _ m1 l1 => Tri prog w a m1 l1 (execs body env) (Turn Q fun m2 l2 => ∃ l3, Sub ((I, o) :: l3) l2 ∧ J (i + 1) m2 l3))
    (done : ∀ m l, J vs.length m l → Tri prog w a m l (execs orelse env) Q) : ForAt prog w a env target body orelse Q (.ref I) m ((I, tupIt D 0) :: l) := by
  refine ⟨fun R s gF iF F N D₀ k => ?_⟩
  have hne : D ≠ I := fun e => (List.nodup_cons.mp D₀).1 (by have := List.mem_map_of_mem (f := Prod.fst) hD; rw [e] at this; exact this)
  have W := Walks.tuple (prog := prog) (w := w) hh I D hne vs.toArray
  have hn : vs.toArray.size = vs.length := by simp
  rw [hn] at W
  refine (forW (fs := [D]) W (fun i h st => ?_) [(D, tupO vs)] (fun b hb => .inl (List.mem_singleton.mp hb ▸ ⟨_, .head _⟩)) ?_ J (fun i m l hJ p hp => by rw [List.mem_singleton.mp hp]; exact hkp i m l hJ) hj ?_ ?_ done).run R s _ iF F N D₀ k
  · obtain ⟨⟨o, ho, _⟩, _⟩ := st; exact ⟨o, ho⟩
  · intro s Q E i v hP st hQ
    obtain ⟨x, p, rfl⟩ := hgo
    exact wpAny_pure hQ
  · intro g h ig N' keep
    exact ⟨⟨_, (N' _ (.head _)).1, rfl, rfl⟩, ⟨_, (N' _ (.tail _ hD)).1, rfl, 0, rfl⟩⟩
  · intro i v o m l hi hP hJ
    exact turn i v o m l (by simpa using hP) hJ
theorem Tri.iter_tuple {D : Addr} {vs : List Value} {Q : VQ} (hD : (D, tupO vs) ∈ l) (h : ∀ I, Q (.ref I) m ((I, tupIt D 0) :: l)) : Tri prog w a m l (pyIter (.ref D)) Q :=
  ⟨fun E s R gF iF F N D₀ k => wpAny_pyIter_tuple ⟨_, (N _ hD).1, rfl, 0, rfl⟩ (k _ _ _ _ s.toks _ iF (F.push _) (N.push F _) (nd_cons D₀ fun p hp => Heap.lt_size (N p hp).1) (h _))⟩

theorem for_range {I : Addr} {x : Int} {n : Nat} (hh : a.A.handled = none) (hgo : ∃ x p, target = .Name x p) (J : Nat → Loc → Led → Prop) (hj : J 0 m l)
    (turn : ∀ i t o m l, i < n → J i m l → Tri prog w a m ((I, o) :: l) (assign target env (.int (x + (i : Int)) t)) fun _ m1 l1 => Tri prog w a m1 l1 (execs body env) (Turn Q fun m2 l2 => ∃ l3, Sub ((I, o) :: l3) l2 ∧ J (i + 1) m2 l3))
    (done : ∀ m l, J n m l → Tri prog w a m l (execs orelse env) Q) : ForAt prog w a env target body orelse Q (.ref I) m ((I, rngIt x n 1) :: l) := by
  refine ⟨fun R s gF iF F N D₀ k => ?_⟩
  have W := Walks.range (prog := prog) (w := w) hh I x 1 n
  refine (forW (fs := []) W (fun i h st => ⟨_, st⟩) [] (fun b hb => nomatch hb) ?_ J (fun i m l hJ p hp => nomatch hp) hj ?_ ?_ done).run R s _ iF F N D₀ k
  · intro s Q E i v hP st hQ
    obtain ⟨x, p, rfl⟩ := hgo
    exact wpAny_pure hQ
  · intro g h ig N' keep
    have e := (N' _ (.head _)).1
    show h.get? I = some _
    rw [e]
    simp
  · rintro i v o m l hi ⟨t, rfl⟩ hJ
    have := turn i t o m l hi hJ
    simpa using this
theorem for_range0 {I : Addr} {n : Nat} (hh : a.A.handled = none) (hgo : ∃ x p, target = .Name x p) (J : Nat → Loc → Led → Prop) (hj : J 0 m l)
    (turn : ∀ i t o m l, i < n → J i m l → Tri prog w a m ((I, o) :: l) (assign target env (.int (i : Int) t)) fun _ m1 l1 => Tri prog w a m1 l1 (execs body env) (Turn Q fun m2 l2 => ∃ l3, Sub ((I, o) :: l3) l2 ∧ J (i + 1) m2 l3))
    (done : ∀ m l, J n m l → Tri prog w a m l (execs orelse env) Q) : ForAt prog w a env target body orelse Q (.ref I) m ((I, rngIt 0 n 1) :: l) :=
  for_range hh hgo J hj (fun i t o m l hi hJ => by rw [Int.zero_add]; exact turn i t o m l hi hJ) done
theorem Tri.iter_rangeH {D : Addr} {x y : Int} {t u v : Tok} {Q : VQ} (n : Nat) (hn : (n : Int) = if x < y then y - x else 0) (hx : -(2 ^ 62) ≤ x) (hx' : x < 2 ^ 62) (hy : -(2 ^ 62) ≤ y) (hy' : y < 2 ^ 62) (h : ∀ I, Q (.ref I) m ((I, rngIt x n 1) :: l)) : Tri prog w a m ((D, rngO x y 1 t u v) :: l) (pyIter (.ref D)) Q :=
  ⟨fun E s R gF iF F N D₀ k => wpAny_pyIter_range (N _ (.head _)).1 (small_one hx hx' hy hy') (by
    rw [rangeSize_one, ← hn]
    have N' : News gF a.L s.heap l := fun p hp => N p (.tail _ hp)
    exact k _ _ _ _ s.toks _ iF (F.push _) (N'.push F _) (nd_cons (List.nodup_cons.mp D₀).2 fun p hp => Heap.lt_size (N' p hp).1) (h _))⟩
theorem Tri.range1 {y : Int} {u : Tok} {Q : VQ} (h : ∀ r t v, Q (.ref r) m ((r, rngO 0 y 1 t u v) :: l)) : Tri prog w a m l (call (.type "range") [.int y u]) Q :=
  ⟨fun E s R gF iF F N D₀ k => call_range_1 (k _ _ _ _ _ _ iF (F.push _) (N.push F _) (nd_cons D₀ fun p hp => Heap.lt_size (N p hp).1) (h _ _ _))⟩
end

section
variable {prog : Program} {w : World} {K : Frag} {p : Program} {loose : List Str} {mean : ExcName → Option Value} {mg mb : Str → Option Value} {a : Act} {env env' : Env} {n : Nat} {m : Loc} {l l' : Led} {Q : VQ} {pos : Pos} {f : Value} {first : List Value}

theorem Tri.Call {func : Expr} {args : List Expr} (h : Tri prog w a m l (eval func env) fun f m1 l1 => Tri prog w a m1 l1 (callWith pos f [] (backTo pos (starEach args env)) []) Q)
    (he : eval (.Call func args [] pos) env = (do callWith pos (← eval func env) [] (backTo pos (starEach args env)) (backToKw pos (keywordEach [] env))) := by rfl) : Tri prog w a m l (eval (.Call func args [] pos) env) Q :=
  ⟨fun E s R gF iF F N D k => Call_ (h.run E s _ _ iF F N D fun _ _ _ _ _ gF1 iF1 F1 N1 D1 q1 => q1.run E _ R _ iF1 F1 N1 D1 k) he⟩
theorem Tri.method {o : Expr} {name : Str} {apos : Pos} {args : List Expr} (h : Tri prog w a m l (eval o env) fun ov m1 l1 => ∀ pl, Tri prog w a m1 l1 (getMethod ov name pl) fun fx m2 l2 => Tri prog w a m2 l2 (callWith pos fx.1 fx.2 (backTo pos (starEach args env)) []) Q)
    (hb : attributeBase o name env (eval o env) = eval o env := by rfl) (hf : methodCallForm (args.length + ([] : List Keyword).length) (backTo pos (starEach args env)) (backToKw pos (keywordEach [] env)) = true := by rfl) (hl : (apos.endLine == pos.line) = true := by rfl) :
    Tri prog w a m l (eval (.Call (.Attribute o name apos) args [] pos) env) Q := by
  refine ⟨fun E s R gF iF F N D k => ?_⟩
  rw [arm_eval_Call, hb]
  refine wpAny_bind (h.run E s _ _ iF F N D fun ov m1 l1 h1 t1 gF1 iF1 F1 N1 D1 q1 => ?_)
  refine wpAny_bind (wpAny_standAt ?_)
  have hpos : methodCallPos true o env apos pos = Pure.pure pos := by unfold methodCallPos; simp [hl]
  unfold methodCall
  rw [hf]
  refine wpAny_bind (wpAny_holding ((q1 _).run E _ _ _ iF1 F1 N1 D1 fun fx m2 l2 h2 t2 gF2 iF2 F2 N2 D2 q2 => ?_))
  exact wpAny_bind (wpAny_of_eq hpos (q2.run E _ R _ iF2 F2 N2 D2 k))
theorem Tri.withK {e : Expr} {rest : List Expr} (ok : Ok K p loose mean mg mb a env' n) (hk : keepIn K f = true) (h : Tri prog w a m l (spliced (backTo pos (starEach (e :: rest) env))) fun vs m1 l1 => Tri prog w a m1 l1 (call f (first ++ vs)) Q)
    (he : starEach (e :: rest) env = (false, eval e env) :: starEach rest env := by rfl) (hplain : (backTo pos (starEach rest env)).any (·.1) = false := by rfl) :
    Tri prog w a m l (callWith pos f first (backTo pos (starEach (e :: rest) env)) []) Q :=
  ⟨fun E s R gF iF F N D k => callWith_K (ok.kin.keeps iF.stays) hk (h.run E s _ _ iF F N D fun _ _ _ _ _ gF1 iF1 F1 N1 D1 q1 => ⟨(ok.kin.keeps iF1.stays).keeps F1.keep, q1.run E _ R _ iF1 F1 N1 D1 k⟩) he hplain⟩
theorem Tri.withK0 (ok : Ok K p loose mean mg mb a env' n) (hk : keepIn K f = true) (h : Tri prog w a m l (call f (first ++ [])) Q) :
    Tri prog w a m l (callWith pos f first (backTo pos (starEach [] env)) []) Q :=
  ⟨fun E s R gF iF F N D k => callWith_K0 ((ok.kin.keeps iF.stays).keeps F.keep) hk (h.run E s R _ iF F N D k)⟩
theorem Tri.withB {id : String} {e : Expr} {rest : List Expr} (h : Tri prog w a m l (spliced (backTo pos (starEach (e :: rest) env))) fun vs m1 l1 => Tri prog w a m1 l1 (call (.builtin id) (first ++ vs)) Q)
    (he : starEach (e :: rest) env = (false, eval e env) :: starEach rest env := by rfl) (hplain : (backTo pos (starEach rest env)).any (·.1) = false := by rfl) :
    Tri prog w a m l (callWith pos (.builtin id) first (backTo pos (starEach (e :: rest) env)) []) Q :=
  ⟨fun E s R gF iF F N D k => by
    rw [he] at h ⊢
    exact callWith_builtin (by show (false || (backTo pos (starEach rest env)).any (·.1)) = false; rw [hplain]; rfl) (evalArgs_plain (h.run E s _ _ iF F N D fun _ _ _ _ _ gF1 iF1 F1 N1 D1 q1 => q1.run E _ R _ iF1 F1 N1 D1 k))⟩
theorem Tri.withB0 {id : String} (h : Tri prog w a m l (call (.builtin id) (first ++ [])) Q) : Tri prog w a m l (callWith pos (.builtin id) first (backTo pos (starEach [] env)) []) Q :=
  ⟨fun E s R gF iF F N D k => callWith_builtin rfl (evalArgs_nil3 (h.run E s R _ iF F N D k))⟩
theorem Tri.withT {T : String} {e : Expr} {rest : List Expr} (h : Tri prog w a m l (spliced (backTo pos (starEach (e :: rest) env))) fun vs m1 l1 => Tri prog w a m1 l1 (call (.type T) vs) Q)
    (he : starEach (e :: rest) env = (false, eval e env) :: starEach rest env := by rfl) (hplain : (backTo pos (starEach rest env)).any (·.1) = false := by rfl) :
    Tri prog w a m l (callWith pos (.type T) [] (backTo pos (starEach (e :: rest) env)) []) Q :=
  ⟨fun E s R gF iF F N D k => PyProof.Rows.callWith_type1 (h.run E s _ _ iF F N D fun _ _ _ _ _ gF1 iF1 F1 N1 D1 q1 => q1.run E _ R _ iF1 F1 N1 D1 k) he hplain⟩
theorem Tri.withT0 {T : String} (h : Tri prog w a m l (call (.type T) []) Q) : Tri prog w a m l (callWith pos (.type T) [] (backTo pos (starEach [] env)) []) Q :=
  ⟨fun E s R gF iF F N D k => PyProof.Rows.callWith_type rfl (evalArgs_nil3 (h.run E s R _ iF F N D k))⟩

theorem Tri.getM_str {name : Str} {id : String} {x : Str} {t : Tok} {pl : Sem Bool} {Q : Value × List Value → Loc → Led → Prop} (slot : Slot "str" name id) (hty : typeOf (.builtin id) = Pure.pure (.type "method_descriptor")) (h : Q (.builtin id, [.str x t]) m l) : Tri prog w a m l (getMethod (.str x t) name pl) Q :=
  ⟨fun E s R gF iF F N D k => getMethod_builtin (typeIs_str _ _ _) PySem.F.plainAttrs_str slot hty (fun _ e => nomatch e) (k _ _ _ s.heap s.toks _ iF F N D h)⟩
theorem Tri.getM_obj {T : String} {name : Str} {id : String} {D : Addr} {o : Obj} {pl : Sem Bool} {Q : Value × List Value → Loc → Led → Prop} (hD : (D, o) ∈ l) (hc : o.cls = .type T) (hd : o.dict = none) (pa : PlainAttrs T) (slot : Slot T name id) (hty : typeOf (.builtin id) = Pure.pure (.type "method_descriptor")) (h : Q (.builtin id, [.ref D]) m l) : Tri prog w a m l (getMethod (.ref D) name pl) Q :=
  ⟨fun E s R gF iF F N D₀ k => getMethod_builtin ⟨o, (N _ hD).1, hc⟩ pa slot hty (fun b e => by cases e; exact ⟨o, (N _ hD).1, hd⟩) (k _ _ _ s.heap s.toks _ iF F N D₀ h)⟩
theorem Tri.lower {x : Str} {t : Tok} (hfit : x.length ≤ 5592405) (h : ∀ t, Q (.str (Txt.lower x) t) m l) : Tri prog w a m l (call (.builtin "str.lower") [.str x t]) Q :=
  ⟨fun E s R gF iF F N D k => SC.lower (fit_lower hfit) (k _ _ _ s.heap _ _ iF F N D (h _))⟩
theorem Tri.upper {x : Str} {t : Tok} (hfit : x.length ≤ 5592405) (h : ∀ t, Q (.str (Txt.upper x) t) m l) : Tri prog w a m l (call (.builtin "str.upper") [.str x t]) Q :=
  ⟨fun E s R gF iF F N D k => SC.upper (fit_upper hfit) (k _ _ _ s.heap _ _ iF F N D (h _))⟩

theorem Tri.min2 {x y : Int} {t u : Tok} (hh : a.A.handled = none) (h : ∀ t, Q (.int (min x y) t) m l) : Tri prog w a m l (call (.builtin "min") [.int x t, .int y u]) Q :=
  ⟨fun E s R gF iF F N D k => min_two_N hh F N fun h' tk F' N' => by
    have e : (if y < x then y else x) = min x y := by
      by_cases c : y < x
      · rw [if_pos c]; omega
      · rw [if_neg c]; omega
    rw [e]
    exact k _ _ _ _ _ _ iF F' N' D (h _)⟩

theorem Tri.newList {vs : List Value} (hz : vs.length ≤ sizeLine) (h : ∀ r, Q (.ref r) m ((r, lstO vs 0) :: l)) : Tri prog w a m l (PySem.newList vs) Q :=
  ⟨fun E s R gF iF F N D k => newList_K F N (fun r h' F' N' lt => k _ _ _ _ s.toks _ iF F' N' (nd_cons D lt) (h r)) hz⟩
theorem Tri.newTuple {vs : List Value} (hz : vs.length ≤ sizeLine) (h : ∀ r, Q (.ref r) m ((r, tupO vs) :: l)) : Tri prog w a m l (PySem.newTuple vs) Q :=
  ⟨fun E s R gF iF F N D k => newTuple_N F N (fun h' F' N' => k _ _ _ _ s.toks _ iF F' N' (nd_cons D fun p hp => Heap.lt_size (N p hp).1) (h _)) hz⟩
theorem Tri.listD {elts : List Expr} (h : Tri prog w a m l (spliced (backTo pos (starEach elts env))) fun vs m1 l1 => Tri prog w a m1 l1 (PySem.newList vs) Q) : Tri prog w a m l (eval (.List elts pos) env) Q :=
  ⟨fun E s R gF iF F N D k => List_ (h.run E s _ _ iF F N D fun _ _ _ _ _ gF1 iF1 F1 N1 D1 q1 => q1.run E _ R _ iF1 F1 N1 D1 k)⟩
theorem Tri.tupD {elts : List Expr} {kk : Nat} (h : Tri prog w a m l (spliced (backTo pos (starEach elts env))) fun vs m1 l1 => Tri prog w a m1 l1 (PySem.newTuple vs) Q) : Tri prog w a m l (eval (.Tuple elts kk pos) env) Q :=
  ⟨fun E s R gF iF F N D k => Tuple_ (h.run E s _ _ iF F N D fun _ _ _ _ _ gF1 iF1 F1 N1 D1 q1 => q1.run E _ R _ iF1 F1 N1 D1 k)⟩
theorem Tri.append {D : Addr} {vs : List Value} {nn : Nat} {x : Value} (U : Put D (lstO vs nn) (lstO (vs ++ [x]) (nn + 1)) l l') (hz : vs.length ≤ sizeLine) (h : Q .none m l') : Tri prog w a m l (call (.builtin "list.append") [.ref D, x]) Q :=
  ⟨fun E s R gF iF F N D₀ k => append_K (n := nn) (its := vs.toArray) F N (by have := U.upd D₀; simpa using this) (fun h' F' N' => k _ _ _ _ s.toks _ iF F' N' (U.nd D₀) h) (by simpa using hz)⟩
theorem Tri.item_list {D : Addr} {vs : List Value} {nn : Nat} {i : Int} {u : Tok} {v : Value} (hD : (D, lstO vs nn) ∈ l) (h0 : 0 ≤ i) (hz : vs.length ≤ sizeLine) (hv : vs[i.toNat]? = some v) (h : Q v m l) : Tri prog w a m l (getItem (.ref D) (.int i u)) Q :=
  ⟨fun E s R gF iF F N D₀ k => wpAny_getItem_list ⟨_, (N _ hD).1, rfl, nn, rfl⟩ h0 (by
    have := (List.getElem?_eq_some_iff.mp hv).1
    have := sizeLine_eq
    omega) (by simpa using hv) (k _ _ _ s.heap s.toks _ iF F N D₀ h)⟩
theorem Tri.sub_list {value slice : Expr} {D : Addr} {vs : List Value} {nn : Nat} {i : Int} {u : Tok} {v : Value} (hD : (D, lstO vs nn) ∈ l) (h0 : 0 ≤ i) (hz : vs.length ≤ sizeLine) (hv : vs[i.toNat]? = some v) (h : Q v m l)
    (hs : subscripted slice false (.ref D) (.int i u) = operate [.ref D, .int i u] (getItem (.ref D) (.int i u)) := by first | with_reducible exact subscr_slice .. | with_reducible exact subscr_Name .. | with_reducible exact subscr_BinOp .. | with_reducible exact subscr_Constant .. | with_reducible exact subscr_UnaryOp .. | with_reducible exact subscr_Call ..) :
    Tri prog w a m l (subscriptTail value slice (.ref D) (.int i u)) Q :=
  ⟨fun E s R gF iF F N D₀ k => tail_any (Heap.IsList.typeIs ⟨_, (N _ hD).1, rfl, nn, rfl⟩) slot_list_getitem.lookup ((Tri.item_list hD h0 hz hv h).run E s R _ iF F N D₀ k) hs⟩
theorem Tri.set_list {D : Addr} {vs : List Value} {nn : Nat} {i : Int} {u : Tok} {v : Value} {Q : Unit → Loc → Led → Prop} (U : Put D (lstO vs nn) (lstO (vs.set i.toNat v) nn) l l') (h0 : 0 ≤ i) (hi : i < vs.length) (hz : vs.length ≤ sizeLine) (h : Q () m l') : Tri prog w a m l (setItem (.ref D) (.int i u) v) Q :=
  ⟨fun E s R gF iF F N D₀ k => by
    obtain ⟨pre, post, rfl, rfl, x, y⟩ := (U.upd D₀).split
    have z := N (D, lstO vs nn) (List.mem_append.mpr (.inr (.head _)))
    have := sizeLine_eq
    refine ki_setAt z.1 h0 (by omega) (by simpa using hi) (k _ _ _ _ s.toks _ iF (F.change (Heap.SameBut.update ..) z.2.1 z.2.2) (ki_turn _ N x y ?_ ?_) (U.nd D₀) h)
    · apply Array.toList_inj.mp
      simp
    · simp⟩
theorem Tri.Assign_Sub {o i pos' value} {Q : FQ} (h : Tri prog w a m l (eval value env) fun v m1 l1 => Tri prog w a m1 l1 (eval o env) fun ov m2 l2 => Tri prog w a m2 l2 (eval i env) fun iv m3 l3 => Tri prog w a m3 l3 (setItem ov iv v) fun _ m4 l4 => Q .next m4 l4)
    (hs : swapsWith value (some (.Subscript o i pos')) pos.line env = Pure.pure false := by rfl) : Tri prog w a m l (exec (.Assign [.Subscript o i pos'] value pos) env) Q :=
  ⟨fun E s R gF iF F N D k => wpAny_Assign_Subscript (h.run E s _ _ iF F N D fun _ _ _ _ _ gF1 iF1 F1 N1 D1 q1 => q1.run E _ _ _ iF1 F1 N1 D1 fun _ _ _ _ _ gF2 iF2 F2 N2 D2 q2 => q2.run E _ _ _ iF2 F2 N2 D2 fun _ _ _ _ _ gF3 iF3 F3 N3 D3 q3 => q3.run E _ _ _ iF3 F3 N3 D3 fun _ _ _ _ _ gF4 iF4 F4 N4 D4 q4 => k _ _ _ _ _ _ iF4 F4 N4 D4 q4) hs⟩
theorem Tri.Assign_two {t₁ t₂ value} {Q : FQ} (h : Tri prog w a m l (eval value env) fun v m1 l1 => Tri prog w a m1 l1 (assign t₁ env v) fun _ m2 l2 => Tri prog w a m2 l2 (assign t₂ env v) fun _ m3 l3 => Q .next m3 l3)
    (he : (assignEach [t₁, t₂] env).map (·.2) = [assign t₁ env, assign t₂ env] := by rfl) (hw : swappedStores [t₁, t₂] value env = Pure.pure none := by rfl) : Tri prog w a m l (exec (.Assign [t₁, t₂] value pos) env) Q :=
  ⟨fun E s R gF iF F N D k => wpAny_Assign_two (h.run E s _ _ iF F N D fun _ _ _ _ _ gF1 iF1 F1 N1 D1 q1 => q1.run E _ _ _ iF1 F1 N1 D1 fun _ _ _ _ _ gF2 iF2 F2 N2 D2 q2 => q2.run E _ _ _ iF2 F2 N2 D2 fun _ _ _ _ _ gF3 iF3 F3 N3 D3 q3 => k _ _ _ _ _ _ iF3 F3 N3 D3 q3) (he := he) (hw := hw)⟩
theorem Tri.assign_Name {x p v} {Q : Unit → Loc → Led → Prop} (h : Tri prog w a m l (storeName env x v) Q) : Tri prog w a m l (assign (.Name x p) env v) Q :=
  ⟨fun E s R gF iF F N D k => wpAny_assign_Name (h.run E s R _ iF F N D k)⟩
theorem Tri.bindName {x v} {Q : Unit → Loc → Led → Prop} (h : Tri prog w a m l (storeName env x v) Q) : Tri prog w a m l (PySem.bindName env x v) Q :=
  ⟨fun E s R gF iF F N D k => wpAny_bindName (h.run E s R _ iF F N D k)⟩
theorem Tri.Assign_Tuple {elts kk tpos value} {Q : FQ} (h : Tri prog w a m l (eval value env) fun v m1 l1 => Tri prog w a m1 l1 (assign (.Tuple elts kk tpos) env v) fun _ m2 l2 => Q .next m2 l2)
    (hs : swapsWithSole [.Tuple elts kk tpos] value pos.line env = Pure.pure false := by rfl) (hw : swappedStores [.Tuple elts kk tpos] value env = Pure.pure none := by rfl) : Tri prog w a m l (exec (.Assign [.Tuple elts kk tpos] value pos) env) Q :=
  ⟨fun E s R gF iF F N D k => PyProof.Rows.Assign_Tuple (h.run E s _ _ iF F N D fun _ _ _ _ _ gF1 iF1 F1 N1 D1 q1 => q1.run E _ _ _ iF1 F1 N1 D1 fun _ _ _ _ _ gF2 iF2 F2 N2 D2 q2 => k _ _ _ _ _ _ iF2 F2 N2 D2 q2) hs hw⟩
theorem Tri.Assign_swap {elts kk tpos value} {names : List Str} {Q : FQ} (h : Tri prog w a m l (eval value env) fun v m1 l1 => Tri prog w a m1 l1 (unpackItems v names.length none) fun items m2 l2 => Tri prog w a m2 l2 (assignInOrder (names.reverse.map fun n => PySem.bindName env n) items.reverse) fun _ m3 l3 => Q .next m3 l3)
    (hs : swapsWithSole [.Tuple elts kk tpos] value pos.line env = Pure.pure false := by rfl) (hw : swappedStores [.Tuple elts kk tpos] value env = Pure.pure (some names) := by rfl) : Tri prog w a m l (exec (.Assign [.Tuple elts kk tpos] value pos) env) Q :=
  ⟨fun E s R gF iF F N D k => PyProof.Rows.Assign_Tuple_swapped (h.run E s _ _ iF F N D fun _ _ _ _ _ gF1 iF1 F1 N1 D1 q1 => q1.run E _ _ _ iF1 F1 N1 D1 fun _ _ _ _ _ gF2 iF2 F2 N2 D2 q2 => q2.run E _ _ _ iF2 F2 N2 D2 fun _ _ _ _ _ gF3 iF3 F3 N3 D3 q3 => k _ _ _ _ _ _ iF3 F3 N3 D3 q3) hs hw⟩
theorem Tri.unpackT {T : Addr} {vs : List Value} {n : Nat} {Q : List Value → Loc → Led → Prop} (hh : a.A.handled = none) (hn : n = vs.length) (h : Q vs m l) : Tri prog w a m ((T, tupO vs) :: l) (unpackItems (.ref T) n none) Q :=
  ⟨fun E s R gF iF F N D k => by
    subst hn
    have e : vs.length = vs.toArray.size := by simp
    rw [e]
    refine wpAny_unpackItems_tuple hh ⟨_, (N _ (.head _)).1, rfl, 0, rfl⟩ fun h' hk => ?_
    have up : ∀ b o, s.heap.get? b = some o → h'.get? b = some o := fun b o q => hk b o (Nat.ne_of_lt (Heap.lt_size q)) q
    have := k vs m l h' s.toks _ iF (F.grownK up) (fun p hp => ⟨up _ _ (N p (.tail _ hp)).1, (N p (.tail _ hp)).2⟩) (List.nodup_cons.mp D).2 h
    simpa using this⟩
theorem Tri.assignT {T : Addr} {vs : List Value} {elts : List Expr} {kk : Nat} {tpos : Pos} {Q : Unit → Loc → Led → Prop} (hh : a.A.handled = none) (hT : (T, tupO vs) ∈ l) (hn : (assignEach elts env).length = vs.length) (hstar : (assignEach elts env).findIdx? (·.1) = none) (h : Tri prog w a m l (assignInOrder ((assignEach elts env).map (·.2)) vs) Q) :
    Tri prog w a m l (assign (.Tuple elts kk tpos) env (.ref T)) Q :=
  ⟨fun E s R gF iF F N D k => by
    refine wpAny_assign_Tuple (items := vs.toArray) hh ⟨_, (N _ hT).1, rfl, 0, rfl⟩ (by simpa using hn) hstar fun h' hk => ?_
    have up : ∀ b o, s.heap.get? b = some o → h'.get? b = some o := fun b o q => hk b o (Nat.ne_of_lt (Heap.lt_size q)) q
    have := h.run E { s with heap := h' } R _ iF (F.grownK up) (fun p hp => ⟨up _ _ (N p hp).1, (N p hp).2⟩) D k
    simpa using this⟩
theorem Tri.inOrder_cons {t : Value → Sem Unit} {ts : List (Value → Sem Unit)} {x : Value} {xs : List Value} {Q : Unit → Loc → Led → Prop} (h : Tri prog w a m l (t x) fun _ m1 l1 => Tri prog w a m1 l1 (assignInOrder ts xs) Q) : Tri prog w a m l (assignInOrder (t :: ts) (x :: xs)) Q :=
  ⟨fun E s R gF iF F N D k => wpAny_assignInOrder_more (h.run E s _ _ iF F N D fun _ _ _ _ _ gF1 iF1 F1 N1 D1 q1 => q1.run E _ R _ iF1 F1 N1 D1 k)⟩
theorem Tri.inOrder_nil {xs : List Value} {Q : Unit → Loc → Led → Prop} (h : Q () m l) : Tri prog w a m l (assignInOrder [] xs) Q := Tri.pure h
end

def S (l : List Nat) : Str := ⟨l.toArray⟩
theorem S_length (l : List Nat) : (S l).length = l.length := by show l.toArray.size = _; simp
theorem S_inj {l l' : List Nat} : S l = S l' ↔ l = l' := by
  constructor
  · intro h
    have := congrArg (fun x => x.cps.toList) h
    simpa [S] using this
  · intro h; rw [h]
theorem S_beq (l l' : List Nat) : (S l == S l') = decide (l = l') := by
  rw [Bool.eq_iff_iff]
  simp [S_inj]
theorem fm_range (l : List Nat) (s : Nat) : ∀ c : Nat, ((List.range c).map fun k => s + k).filterMap (fun i => l[i]?) = (l.drop s).take c
  | 0 => by simp
  | c + 1 => by
    rw [List.range_succ, List.map_append, List.filterMap_append, fm_range l s c, List.take_add_one]
    simp only [List.map_cons, List.map_nil, List.filterMap_cons, List.filterMap_nil, List.getElem?_drop]
    cases l[s + c]? <;> rfl
theorem slice_idx (l : List Nat) (lo hi : Option Int) (s e : Nat) (h : Builtin.Str.strSliceIndices lo hi 1 l.length = sliceRange (s : Int) (e : Int) 1) (hs : s ≤ l.length) (he : e ≤ l.length) :
    Txt.slice (S l) lo hi = S ((l.drop s).take (e - s)) := by
  have hr : sliceRange (s : Int) (e : Int) 1 = (List.range (e - s)).map fun k => s + k := by
    unfold sliceRange
    simp only [show (1 : Int) > 0 by decide, if_true, Int.ediv_one]
    have : (if (s : Int) < e then (e : Int) - s + 1 - 1 else 0).toNat = e - s := by split <;> omega
    rw [this]
    apply List.map_congr_left
    intro k _
    omega
  unfold Txt.slice
  rw [S_length, h, hr]
  split
  · rename_i q
    simp only [beq_self_eq_true, Bool.true_and, List.length_map, List.length_range, beq_iff_eq] at q
    have : s = 0 ∧ e = l.length := by omega
    obtain ⟨rfl, rfl⟩ := this
    simp
  · show (⟨(List.filterMap (fun i => l.toArray[i]?) _).toArray⟩ : Str) = _
    have : (fun i : Nat => l.toArray[i]?) = fun i : Nat => l[i]? := by funext i; simp
    rw [this, fm_range]
    rfl
theorem slice_from (l : List Nat) (k : Nat) : Txt.slice (S l) (some (k : Int)) none = S (l.drop k) := by
  by_cases hk : k ≤ l.length
  · rw [slice_idx l _ _ k l.length _ hk (Nat.le_refl _)]
    · rw [List.take_of_length_le (by simp)]
    · unfold Builtin.Str.strSliceIndices
      simp only [show (1 : Int) > 0 by decide, if_true]
      congr 1
      have : ¬ (k : Int) < 0 := by omega
      simp only [this, if_false]
      omega
  · rw [slice_idx l _ _ l.length l.length _ (Nat.le_refl _) (Nat.le_refl _)]
    · rw [List.drop_eq_nil_of_le (by omega : l.length ≤ k)]; simp
    · unfold Builtin.Str.strSliceIndices
      simp only [show (1 : Int) > 0 by decide, if_true]
      congr 1
      have : ¬ (k : Int) < 0 := by omega
      simp only [this, if_false]
      omega
theorem slice_all (l : List Nat) : Txt.slice (S l) none none = S l := by
  rw [slice_idx l _ _ 0 l.length _ (Nat.zero_le _) (Nat.le_refl _)]
  · simp
  · unfold Builtin.Str.strSliceIndices
    simp
theorem slice_but (l : List Nat) (j : Nat) (h0 : 0 < j) (hj : j ≤ l.length) : Txt.slice (S l) none (some (-(j : Int))) = S (l.take (l.length - j)) := by
  rw [slice_idx l _ _ 0 (l.length - j) _ (Nat.zero_le _) (by omega)]
  · simp
  · unfold Builtin.Str.strSliceIndices
    simp only [show (1 : Int) > 0 by decide, if_true]
    congr 1
    have : (-(j : Int)) < 0 := by omega
    simp only [this, if_true]
    omega
theorem item_at (l : List Nat) (k : Nat) (c : Nat) (h : l[k]? = some c) : Txt.item (S l) (k : Int) = S [c] := by
  have hk := (List.getElem?_eq_some_iff.mp h).1
  unfold Txt.item Txt.charAt seqIndex?
  rw [S_length]
  have h1 : ¬ (k : Int) < 0 := by omega
  simp only [h1, if_false]
  have h2 : (decide (0 ≤ (k : Int)) && decide ((k : Int) < (l.length : Int))) = true := by simp; omega
  rw [if_pos h2]
  show (⟨#[((some ((k : Int).toNat)).bind fun i => l.toArray[i]?).getD 0]⟩ : Str) = _
  simp [h, S]
theorem item_neg (l : List Nat) (j : Nat) (c : Nat) (h0 : 0 < j) (hj : j ≤ l.length) (h : l[l.length - j]? = some c) : Txt.item (S l) (-(j : Int)) = S [c] := by
  unfold Txt.item Txt.charAt seqIndex?
  rw [S_length]
  have h1 : (-(j : Int)) < 0 := by omega
  simp only [h1, if_true]
  have h2 : (decide (0 ≤ -(j : Int) + (l.length : Int)) && decide (-(j : Int) + (l.length : Int) < (l.length : Int))) = true := by simp; omega
  rw [if_pos h2]
  have h3 : (-(j : Int) + (l.length : Int)).toNat = l.length - j := by omega
  show (⟨#[((some ((-(j : Int) + (l.length : Int)).toNat)).bind fun i => l.toArray[i]?).getD 0]⟩ : Str) = _
  rw [h3]
  simp [h, S]
section
variable {prog : Program} {w : World} {a : Act} {m : Loc} {l : Led} {Q : VQ} {value slice : Expr} {x : List Nat} {t u : Tok} {sl : Addr}
theorem Tri.slS_from {i : Int} (k : Nat) (hi : i = (k : Int)) (hz : x.length ≤ sizeLine) (h : ∀ t', Q (.str (S (x.drop k)) t') m l)
    (hs : subscripted slice false (.str (S x) t) (.ref sl) = operate [.ref sl, .str (S x) t] (getItem (.str (S x) t) (.ref sl)) := by first | with_reducible exact subscr_slice .. | with_reducible exact subscr_Name .. | with_reducible exact subscr_BinOp .. | with_reducible exact subscr_Constant .. | with_reducible exact subscr_UnaryOp .. | with_reducible exact subscr_Call ..) :
    Tri prog w a m ((sl, sliceObj (.int i u) .none) :: l) (subscriptTail value slice (.str (S x) t) (.ref sl)) Q := by
  subst hi
  refine Tri.sub_str_slice (some ((k : Int), u)) none (by rw [S_length]; exact hz) (fun t' => ?_) hs
  have := h t'
  rw [← slice_from] at this
  exact this
theorem Tri.slS_all (hz : x.length ≤ sizeLine) (h : ∀ t', Q (.str (S x) t') m l)
    (hs : subscripted slice false (.str (S x) t) (.ref sl) = operate [.ref sl, .str (S x) t] (getItem (.str (S x) t) (.ref sl)) := by first | with_reducible exact subscr_slice .. | with_reducible exact subscr_Name .. | with_reducible exact subscr_BinOp .. | with_reducible exact subscr_Constant .. | with_reducible exact subscr_UnaryOp .. | with_reducible exact subscr_Call ..) :
    Tri prog w a m ((sl, sliceObj .none .none) :: l) (subscriptTail value slice (.str (S x) t) (.ref sl)) Q := by
  refine Tri.sub_str_slice none none (by rw [S_length]; exact hz) (fun t' => ?_) hs
  have := h t'
  rw [← slice_all] at this
  exact this
theorem Tri.slS_but {i : Int} (j : Nat) (hi : i = -(j : Int)) (h0 : 0 < j) (hj : j ≤ x.length) (hz : x.length ≤ sizeLine) (h : ∀ t', Q (.str (S (x.take (x.length - j))) t') m l)
    (hs : subscripted slice false (.str (S x) t) (.ref sl) = operate [.ref sl, .str (S x) t] (getItem (.str (S x) t) (.ref sl)) := by first | with_reducible exact subscr_slice .. | with_reducible exact subscr_Name .. | with_reducible exact subscr_BinOp .. | with_reducible exact subscr_Constant .. | with_reducible exact subscr_UnaryOp .. | with_reducible exact subscr_Call ..) :
    Tri prog w a m ((sl, sliceObj .none (.int i u)) :: l) (subscriptTail value slice (.str (S x) t) (.ref sl)) Q := by
  subst hi
  refine Tri.sub_str_slice none (some (-(j : Int), u)) (by rw [S_length]; exact hz) (fun t' => ?_) hs
  have := h t'
  rw [← slice_but x j h0 hj] at this
  exact this
theorem Tri.itS {i : Int} (k c : Nat) (hi : i = (k : Int)) (hc : x[k]? = some c) (hz : x.length ≤ sizeLine) (h : ∀ t', Q (.str (S [c]) t') m l)
    (hs : subscripted slice false (.str (S x) t) (.int i u) = operate [.str (S x) t, .int i u] (getItem (.str (S x) t) (.int i u)) := by first | with_reducible exact subscr_slice .. | with_reducible exact subscr_Name .. | with_reducible exact subscr_BinOp .. | with_reducible exact subscr_Constant .. | with_reducible exact subscr_UnaryOp .. | with_reducible exact subscr_Call ..) :
    Tri prog w a m l (subscriptTail value slice (.str (S x) t) (.int i u)) Q := by
  subst hi
  have hk := (List.getElem?_eq_some_iff.mp hc).1
  refine Tri.sub_str_item (by rw [S_length]; omega) (by rw [S_length]; omega) (by rw [S_length]; exact hz) (fun t' => ?_) hs
  rw [item_at x k c hc]; exact h t'
theorem Tri.itS_neg {i : Int} (j c : Nat) (hi : i = -(j : Int)) (h0 : 0 < j) (hj : j ≤ x.length) (hc : x[x.length - j]? = some c) (hz : x.length ≤ sizeLine) (h : ∀ t', Q (.str (S [c]) t') m l)
    (hs : subscripted slice false (.str (S x) t) (.int i u) = operate [.str (S x) t, .int i u] (getItem (.str (S x) t) (.int i u)) := by first | with_reducible exact subscr_slice .. | with_reducible exact subscr_Name .. | with_reducible exact subscr_BinOp .. | with_reducible exact subscr_Constant .. | with_reducible exact subscr_UnaryOp .. | with_reducible exact subscr_Call ..) :
    Tri prog w a m l (subscriptTail value slice (.str (S x) t) (.int i u)) Q := by
  subst hi
  refine Tri.sub_str_item (by rw [S_length]; omega) (by rw [S_length]; omega) (by rw [S_length]; exact hz) (fun t' => ?_) hs
  rw [item_neg x j c h0 hj hc]; exact h t'
end

theorem ints_of_carried : ∀ {vs : List Value} {ns : List Int}, CarriedAll vs (ns.map .int) → IntsAre vs ns
  | [], [], _ => .nil
  | [], _ :: _, h => by cases h
  | _ :: _, [], h => by cases h
  | v :: vs, n :: ns, h => by
    cases h with
    | cons hc hr =>
      cases hc
      exact .cons n _ (ints_of_carried hr)

theorem bi_len : bootBuiltins (Str.ofString "len") = some (.builtin "len") := by kernel_rfl
theorem bi_min : bootBuiltins (Str.ofString "min") = some (.builtin "min") := by kernel_rfl
theorem bi_range : bootBuiltins (Str.ofString "range") = some (.type "range") := by kernel_rfl
theorem bi_list : bootBuiltins (Str.ofString "list") = some (.type "list") := by kernel_rfl
theorem bi_set : bootBuiltins (Str.ofString "set") = some (.type "set") := by kernel_rfl
theorem bi_iter : bootBuiltins (Str.ofString "iter") = some (.builtin "iter") := by kernel_rfl
theorem bi_tuple : bootBuiltins (Str.ofString "tuple") = some (.type "tuple") := by kernel_rfl
theorem bi_sorted : bootBuiltins (Str.ofString "sorted") = some (.builtin "sorted") := by kernel_rfl
section
variable {prog : Program} {w : World} {a : Act} {m : Loc} {l l' : Led} {env : Env} {Q : VQ}
theorem Tri.range3 {x y c : Int} {t u v : Tok} (hc : c ≠ 0) (hc2 : c.natAbs < 1073741824) (h : ∀ r, Q (.ref r) m ((r, rngO x y c t u v) :: l)) : Tri prog w a m l (call (.type "range") [.int x t, .int y u, .int c v]) Q :=
  ⟨fun E s R gF iF F N D₀ k => call_range_3 hc (k _ _ _ _ _ _ iF (F.push _) (N.push F _) (nd_cons D₀ fun p hp => Heap.lt_size (N p hp).1) (h _)) (.inl (PyProof.noPylong_small hc2))⟩
theorem Tri.listRange {r : Addr} {x y c : Int} {t u v : Tok} {n : Nat} (hh : a.A.handled = none) (hsmall : Builtin.Range.small x y c = true) (hn : Builtin.Range.rangeSize x y c = (n : Int)) (hlen : n ≤ 2 ^ 24)
    (h : ∀ D ys nn, IntsAre ys (rangeInts x c n) → Q (.ref D) m ((D, lstO ys nn) :: l)) : Tri prog w a m ((r, rngO x y c t u v) :: l) (call (.type "list") [.ref r]) Q :=
  ⟨fun E s R gF iF F N D₀ k => list_rangeD hh F N (N _ (.head _)).1 hsmall hn hlen fun h' tk ys F' N' hk hb hl hp hc => by
    obtain ⟨⟨nn, ho⟩, hne⟩ := hp
    have hL : s.heap.objs.size ≠ a.L := Nat.ne_of_gt F.ns.lt
    refine k _ _ ((s.heap.objs.size, lstO ys nn) :: l) _ _ _ iF F' (fun p hp => ?_) (nd_cons (List.nodup_cons.mp D₀).2 fun p hp => Heap.lt_size (N p (.tail _ hp)).1) (h _ ys nn (ints_of_carried hc))
    rcases List.mem_cons.mp hp with rfl | hp
    · exact ⟨ho, hL, hb⟩
    · exact N' p (.tail _ hp)⟩
theorem Tri.valS {e : Sem Value} {Q : VQ} (s : Str) (h : Tri prog w a m l e fun v m1 l1 => (∃ tk, v = .str s tk) ∧ m1 = m ∧ l1 = l) (k : ∀ tk, Q (.str s tk) m l) : Tri prog w a m l e Q :=
  h.mono fun v m1 l1 ⟨⟨tk, e1⟩, e2, e3⟩ => by subst e1 e2 e3; exact k tk
theorem Tri.truthy_int {x : Int} {t : Tok} {Q : BQ} (h : Q (x != 0) m l) : Tri prog w a m l (truthy (.int x t)) Q :=
  ⟨fun _ s _ gF iF F N D k => PyProof.Rows.truthy_int (k _ m l s.heap s.toks _ iF F N D h)⟩
theorem Tri.truthy_none {Q : BQ} (h : Q false m l) : Tri prog w a m l (truthy .none) Q :=
  ⟨fun _ s _ gF iF F N D k => wpAny_pure (k _ m l s.heap s.toks _ iF F N D h)⟩
end

section
variable {prog : Program} {w : World} {K : Frag} {p : Program} {loose : List Str} {mean : ExcName → Option Value} {mg mb : Str → Option Value} {a : Act} {env env' : Env} {n : Nat} {m : Loc} {l l' : Led} {Q : VQ} {pos : Pos} {f : Value} {first : List Value}

theorem Tri.Attribute {value : Expr} {attr : Str} (h : Tri prog w a m l (eval value env) fun o m1 l1 => Tri prog w a m1 l1 (getAttr o attr true) Q)
    (he : eval (.Attribute value attr pos) env = (do
      let o ← eval value env
      PySem.standAt pos.atName
      let r ← PySem.holding [o] (getAttr o attr true)
      letTemporaryGo value o r
      Pure.pure r) := by with_unfolding_all rfl) : Tri prog w a m l (eval (.Attribute value attr pos) env) Q :=
  ⟨fun E s R gF iF F N D k => Attribute_any_ (h.run E s _ _ iF F N D fun _ _ _ _ _ gF1 iF1 F1 N1 D1 q1 => q1.run E _ R _ iF1 F1 N1 D1 k) he⟩
theorem Tri.Assign_Attr {o : Expr} {attr : Str} {pos' : Pos} {value : Expr} {Q : FQ} (h : Tri prog w a m l (eval value env) fun v m1 l1 => Tri prog w a m1 l1 (eval o env) fun ov m2 l2 => Tri prog w a m2 l2 (setAttr ov attr v) fun _ m3 l3 => Q .next m3 l3)
    (hs : swapsWith value (some (.Attribute o attr pos')) pos.line env = Pure.pure false := by rfl) : Tri prog w a m l (exec (.Assign [.Attribute o attr pos'] value pos) env) Q :=
  ⟨fun E s R gF iF F N D k => plainObj_wpAny_Assign_Attribute (h.run E s _ _ iF F N D fun _ _ _ _ _ gF1 iF1 F1 N1 D1 q1 => q1.run E _ _ _ iF1 F1 N1 D1 fun _ _ _ _ _ gF2 iF2 F2 N2 D2 q2 => q2.run E _ _ _ iF2 F2 N2 D2 fun _ _ _ _ _ gF3 iF3 F3 N3 D3 q3 => k _ _ _ _ _ _ iF3 F3 N3 D3 q3) hs⟩
theorem Tri.AugAssign_Attr {o value : Expr} {attr : Str} {tpos : Pos} {op : Operator} {Q : FQ} (h : Tri prog w a m l (eval o env) fun ov m1 l1 => Tri prog w a m1 l1 (getAttr ov attr true) fun old m2 l2 => Tri prog w a m2 l2 (eval value env) fun v m3 l3 => Tri prog w a m3 l3 (inplaceOp op old v) fun new m4 l4 => Tri prog w a m4 l4 (setAttr ov attr new) fun _ m5 l5 => Q .next m5 l5) :
    Tri prog w a m l (exec (.AugAssign (.Attribute o attr tpos) op value pos) env) Q :=
  ⟨fun E s R gF iF F N D k => wpAny_AugAssign_AttributeAny (h.run E s _ _ iF F N D fun _ _ _ _ _ gF1 iF1 F1 N1 D1 q1 => q1.run E _ _ _ iF1 F1 N1 D1 fun _ _ _ _ _ gF2 iF2 F2 N2 D2 q2 => q2.run E _ _ _ iF2 F2 N2 D2 fun _ _ _ _ _ gF3 iF3 F3 N3 D3 q3 => q3.run E _ _ _ iF3 F3 N3 D3 fun _ _ _ _ _ gF4 iF4 F4 N4 D4 q4 => q4.run E _ _ _ iF4 F4 N4 D4 fun _ _ _ _ _ gF5 iF5 F5 N5 D5 q5 => k _ _ _ _ _ _ iF5 F5 N5 D5 q5)⟩
theorem Tri.NamedExpr {target value : Expr} (h : Tri prog w a m l (eval value env) fun v m1 l1 => Tri prog w a m1 l1 (assign target env v) fun _ m2 l2 => Q v m2 l2) : Tri prog w a m l (eval (.NamedExpr target value pos) env) Q :=
  ⟨fun E s R gF iF F N D k => wpAny_NamedExpr (h.run E s _ _ iF F N D fun _ _ _ _ _ gF1 iF1 F1 N1 D1 q1 => q1.run E _ _ _ iF1 F1 N1 D1 fun _ _ _ _ _ gF2 iF2 F2 N2 D2 q2 => k _ _ _ _ _ _ iF2 F2 N2 D2 q2)⟩

abbrev insO (C dx : Addr) (sl : Array (Option Value)) : Obj := ⟨.ref C, some dx, .plain, sl⟩
theorem Tri.getOwn {x dx C : Addr} {sl : Array (Option Value)} {es : List DictEntry} {nn : Nat} {name : Str} {expr : Bool} {attr : Option Value} {v : Value} (X : K.In a.base) (hx : (x, insO C dx sl) ∈ l) (hd : (dx, dictOf es nn) ∈ l)
    (hg : plainGet K C name = true) (hh : hasDictIn K C = true) (ha : findIn K (.ref C) name = some attr) (hn : noGet K attr = true) (hl : getL name es = some (some v)) (hv : handedIn v = true) (h : Q v m l) : Tri prog w a m l (getAttr (.ref x) name expr) Q :=
  ⟨fun E s R gF iF F N D k => get_own F (X.keeps iF.stays) (InstAt.of_news N hx hd) hg hh ha hn hl hv (k _ _ _ s.heap _ _ iF F N D h)⟩
theorem Tri.setOwn {x dx C : Addr} {sl : Array (Option Value)} {es : List DictEntry} {es' : Tok → List DictEntry} {nn nn' : Nat} {name : Str} {v : Value} {l' : Tok → Led} {Q : Unit → Loc → Led → Prop} (X : K.In a.base) (hx : (x, insO C dx sl) ∈ l)
    (hs : findIn K (.ref C) "__setattr__" = some (some (.builtin "object.__setattr__"))) (hp : plainOver K C = true) (ht : takerIn K C name = some none) (hh : hasDictIn K C = true) (hl : (getL name es).isSome = true)
    (e : ∀ t, (putL name (PyData.keyHash w.params name) (.str name t) v es, putN name es nn) = (es' t, nn')) (U : ∀ t, Put dx (dictOf es nn) (dictOf (es' t) nn') l (l' t)) (hz : ∀ t, (es' t).length ≤ 1000)
    (h : ∀ t, Q () m (l' t)) : Tri prog w a m l (setAttr (.ref x) name v) Q :=
  ⟨fun E s R gF iF F N D k => set_dict F (X.keeps iF.stays) N (InstAt.of_news N hx (U (s.toks + 1)).mem) rfl hs hp ht hh hl (e _) ((U _).upd D) (hz _) fun h' F' N' => k _ _ _ _ _ _ iF F' N' ((U _).nd D) (h _)⟩
theorem Tri.getSlot {x dx C pa : Addr} {sl : Array (Option Value)} {od : Obj} {i : Nat} {name : Str} {expr : Bool} {v : Value} (X : K.In a.base) (hx : (x, insO C dx sl) ∈ l) (hd : (dx, od) ∈ l)
    (hg : plainGet K C name = true) (hc : isClsIn K C = true) (ha : findIn K (.ref C) name = some (some (.ref pa))) (hn : specialIn K (.ref pa) "__get__" = some (some (.builtin "member_descriptor.__get__"))) (ht : takesIn K (.ref pa) = some true) (hp : slotIn K pa C = some i)
    (hv : (sl[i]?).join = some v) (hh : handedIn v = true) (h : Q v m l) : Tri prog w a m l (getAttr (.ref x) name expr) Q :=
  ⟨fun E s R gF iF F N D k => get_slot F (X.keeps iF.stays) (InstAt.of_news N hx hd) hg hc ha hn ht hp hv hh (k _ _ _ s.heap _ _ iF F N D h)⟩
theorem Tri.setSlot {x dx C pa : Addr} {sl sl' : Array (Option Value)} {od : Obj} {i : Nat} {name : Str} {v : Value} {Q : Unit → Loc → Led → Prop} (X : K.In a.base) (hd : (dx, od) ∈ l)
    (hs : findIn K (.ref C) "__setattr__" = some (some (.builtin "object.__setattr__"))) (hp : plainOver K C = true) (ht : takerIn K C name = some (some (.ref pa))) (hT : typeIn K (.ref pa) = some (.type "member_descriptor")) (hi : slotIn K pa C = some i) (hz : i < 1000)
    (e : (sl ++ Array.replicate (i + 1 - sl.size) none).setIfInBounds i (some v) = sl') (U : Put x (insO C dx sl) (insO C dx sl') l l')
    (h : Q () m l') : Tri prog w a m l (setAttr (.ref x) name v) Q :=
  ⟨fun E s R gF iF F N D k => set_slot F (X.keeps iF.stays) N (InstAt.of_news N U.mem hd) hs hp ht hT hi hz (by rw [← e]) rfl (U.upd D) fun h' F' N' => k _ _ _ _ _ _ iF F' N' (U.nd D) h⟩
theorem Tri.getM_inst {x dx C fa : Addr} {sl : Array (Option Value)} {es : List DictEntry} {nn : Nat} {name : Str} {pl : Sem Bool} {Q : Value × List Value → Loc → Led → Prop} (X : K.In a.base) (hx : (x, insO C dx sl) ∈ l) (hd : (dx, dictOf es nn) ∈ l)
    (hg : plainGet K C name = true) (hf : findIn K (.ref C) name = some (some (.ref fa))) (ht : isFn K (.ref fa) = true) (hl : getL name es = some none) (h : Q (.ref fa, [.ref x]) m l) : Tri prog w a m l (getMethod (.ref x) name pl) Q :=
  ⟨fun E s R gF iF F N D k => method_inst F (X.keeps iF.stays) (InstAt.of_news N hx hd) hg hf ht hl (k _ _ _ s.heap _ _ iF F N D h)⟩

theorem Tri.callCls {name qual : Str} {params : Arguments} {body : List Stmt} {scope : Scope} {dV kV doc pm cdv ct oc : Value} {an od : Option Addr} {osl : Array (Option Value)} {C fI : Addr} {args : List Value} {binds : Addr → List (Str × Value)}
    (ok : Ok K p loose mean mg mb a env (n + 2)) (hm : makesIn K C = true) (hi : findIn K (.ref C) "__init__" = some (some (.ref fI))) (hf : isFn K (.ref fI) = true)
    (ho : K.lookup fI = some ⟨oc, od, .func (fnOf name qual params body scope dV kV doc pm an cdv ct), osl⟩) (hcd : codeIn K cdv qual = true)
    (hbind : ∀ (x : Addr) (s : Shared), K.In s.heap → BindsTo s (fnOf name qual params body scope dV kV doc pm an cdv ct) ⟨.ref x :: args, []⟩ (binds x)) (hloc : ∀ x, ∀ y ∈ binds x, scope.names.lookup y.1 = some .local)
    (h : ∀ (b : Act) (x dx : Addr), Ok K p loose mean mg mb b (envX qual scope b.L fI cdv []) n → Tri prog w b (lcl (binds x).reverse) ((x, insO C dx #[]) :: (dx, dictOf [] 0) :: l) (execs body (envX qual scope b.L fI cdv [])) fun fl _ l' => (match fl with | .ret v => v | _ => Value.none) = .none ∧ ∃ l'', Sub l'' l' ∧ Q (.ref x) m l'')
    (hco : scope.isCoroutine = false) (hgen : scope.isGenerator = false) (hk : scope.kind = .function) (hcell : ∀ x ∈ scope.names, x.2 ≠ .cell) : Tri prog w a m l (call (.ref C) args) Q := by
  refine ⟨fun E s R gF iF F N D k => ?_⟩
  refine call_cls F (ok.kin.keeps iF.stays) N hm hi hf fun x dx h' F' N' lt1 lt2 => ?_
  have D' : ND ((x, insO C dx #[]) :: (dx, dictOf [] 0) :: l) := nd_cons (nd_cons D lt1) fun p hp => by
    rcases List.mem_cons.mp hp with rfl | hp
    · exact lt2
    · exact Nat.lt_trans (lt1 p hp) lt2
  have room : (a.A.under (.builtin "type.__call__" ⟨.ref C :: args, []⟩)).depth < recursionLimit := by
    have := ok.room
    show a.A.depth + 1 < _
    omega
  have X : K.In h' := (ok.kin.keeps iF.stays).keeps F'.keep
  refine codeAny_call_function (fd := fnOf name qual params body scope dV kV doc pm an cdv ct) (body := body) room (X _ _ ho) rfl hco hgen rfl (codeRec_of X hcd) (hbind x _ X _ _ _ _ ?_)
  refine enterT (A := a.A.under (.builtin "type.__call__" ⟨.ref C :: args, []⟩)) ok rfl iF F' N' (hloc x) (fun b h₁ hbA hbl hdc hki hto tb FL NL lv => ?_) hcell hk
  have ok' : Ok K p loose mean mg mb b (envX qual scope b.L fI cdv []) n :=
    ⟨hbl, hdc, hki, hto, rfl, hk, by rw [hbA]; exact ok.handled, by have := ok.room; rw [hbA]; show a.A.depth + 1 + 1 + n < _; omega, by have := ok.units; have hc : (Code.builtin "type.__call__" ⟨.ref C :: args, []⟩).cUnits = 1 := (by with_unfolding_all rfl); rw [hbA]; show a.A.units + _ + _ + 8 * n + 128 < _; omega⟩
  rw [← hbA]
  refine (h _ x dx ok').run _ _ _ _ tb FL NL D' fun fl m' l' h' tk' gF' iF' F' N' D' q => ?_
  obtain ⟨hv, l'', hs, q⟩ := q
  obtain ⟨g', t', F'', N''⟩ := lv _ _ _ _ iF' F' (fun p hp => N' p (hs.mem p hp))
  exact ⟨hv, k _ _ _ _ _ _ t' F'' N'' (hs.nd D') q⟩

structure CTri (prog : Program) (w : World) (a : Act) (m : Loc) (l : Led) (f : Value) (args : List Value) (Q : VQ) : Prop where
  run : ∀ (E : Value → Shared → Prop) (s : Shared) (R : Value → Shared → Prop) (g : Heap), Turned a g → Fr g a.L s.heap m → News g a.L s.heap l → ND l →
    (∀ x m' l' h' tk' g', Turned a g' → Fr g' a.L h' m' → News g' a.L h' l' → ND l' → Q x m' l' → R x { s with heap := h', toks := tk' }) →
    codeAny (model prog w) a.A (.call f ⟨args, []⟩) (fun r s' => match r with | .ok (.ret v) => R v s' | .ok _ => False | .error e => E e s') s
theorem CTri.call {args : List Value} (h : CTri prog w a m l f args Q) : Tri prog w a m l (call f args) Q :=
  ⟨fun E s R g iF F N D k => wpAny_call (h.run E s R g iF F N D k)⟩
theorem CTri.perm {l' : Led} {args : List Value} (hp : l.Perm l') (h : CTri prog w a m l' f args Q) : CTri prog w a m l f args Q :=
  ⟨fun E s R gF iF F N D k => h.run E s R _ iF F (fun p q => N p (hp.mem_iff.mpr q)) ((hp.map Prod.fst).nodup_iff.mp D) k⟩

theorem CTri.callRest {name qual : Str} {params : Arguments} {body : List Stmt} {scope : Scope} {dV kV doc pm cdv ct oc : Value} {an od : Option Addr} {osl : Array (Option Value)} {f : Addr} {args vs : List Value} {binds : Value → List (Str × Value)}
    (ok : Ok K p loose mean mg mb a env (n + 1)) (ho : K.lookup f = some ⟨oc, od, .func (fnOf name qual params body scope dV kV doc pm an cdv ct), osl⟩) (hcd : codeIn K cdv qual = true)
    (hbind : bindArgs (fnOf name qual params body scope dV kV doc pm an cdv ct) ⟨args, []⟩ = PySem.newTuple vs >>= fun t => Pure.pure (binds t)) (hz : vs.length ≤ sizeLine) (hloc : ∀ t, ∀ y ∈ binds t, scope.names.lookup y.1 = some .local)
    (h : ∀ (b : Act) (D : Addr), Ok K p loose mean mg mb b (envX qual scope b.L f cdv []) n → Tri prog w b (lcl (binds (.ref D)).reverse) ((D, tupO vs) :: l) (execs body (envX qual scope b.L f cdv [])) fun fl _ l' => ∃ l'', Sub l'' l' ∧ Q (match fl with | .ret v => v | _ => .none) m l'')
    (hco : scope.isCoroutine = false) (hgen : scope.isGenerator = false) (hk : scope.kind = .function) (hcell : ∀ x ∈ scope.names, x.2 ≠ .cell) : CTri prog w a m l (.ref f) args Q := by
  refine ⟨fun E s R gF iF F N D k => ?_⟩
  have room : a.A.depth < recursionLimit := Nat.lt_of_le_of_lt (Nat.le_add_right _ _) ok.room
  have X : K.In s.heap := (ok.kin.keeps iF.stays).keeps F.keep
  refine codeAny_call_function (fd := fnOf name qual params body scope dV kV doc pm an cdv ct) (body := body) room (X _ _ ho) rfl hco hgen rfl (codeRec_of X hcd) ?_
  rw [hbind]
  refine wpAny_bind (newTuple_N F N (fun h' F' N' => wpAny_pure ?_) hz)
  have lt : ∀ p ∈ l, p.1 < s.heap.objs.size := fun p hp => Heap.lt_size (N p hp).1
  refine enterT (s := { s with heap := h' }) ok rfl iF F' N' (hloc _) (fun b h₁ hbA hbl hdc hki hto tb FL NL lv => ?_) hcell hk
  have ok' : Ok K p loose mean mg mb b (envX qual scope b.L f cdv []) n :=
    ⟨hbl, hdc, hki, hto, rfl, hk, by rw [hbA]; exact ok.handled, by have := ok.room; rw [hbA]; show a.A.depth + 1 + n < _; omega, by have := ok.units; rw [hbA]; show a.A.units + 3 + 8 * n + 128 < _; omega⟩
  rw [← hbA]
  refine (h _ _ ok').run _ _ _ _ tb FL NL (nd_cons D lt) fun fl m' l' h' tk' gF' iF' F' N' D' q => ?_
  obtain ⟨l'', hs, q⟩ := q
  obtain ⟨g', t', F'', N''⟩ := lv _ _ _ _ iF' F' (fun p hp => N' p (hs.mem p hp))
  exact k _ _ _ _ _ _ t' F'' N'' (hs.nd D') q

theorem Tri.callBound {q : Addr} {self : Value} {args : List Value} (hq : (q, methodObj f self) ∈ l) (h : CTri prog w a m l f (self :: args) Q) : Tri prog w a m l (call (.ref q) args) Q :=
  ⟨fun E s R g iF F N D k => call_meth N hq (h.run E s R g iF F N D k)⟩
theorem Tri.boundM {x dx C fa : Addr} {sl : Array (Option Value)} {es : List DictEntry} {nn : Nat} {name : Str} {expr : Bool} (X : K.In a.base) (hx : (x, insO C dx sl) ∈ l) (hd : (dx, dictOf es nn) ∈ l)
    (hg : plainGet K C name = true) (hh : hasDictIn K C = true) (hf : findIn K (.ref C) name = some (some (.ref fa))) (ht : isFn K (.ref fa) = true)
    (hgf : specialIn K (.ref fa) "__get__" = some (some (.builtin "function.__get__"))) (htk : takesIn K (.ref fa) = some false) (hc : copiedNames.contains name = false) (hl : getL name es = some none)
    (h : ∀ q, Q (.ref q) m ((q, methodObj (.ref fa) (.ref x)) :: l)) : Tri prog w a m l (getAttr (.ref x) name expr) Q :=
  ⟨fun E s R g iF F N D k => kbm_bound F (X.keeps iF.stays) N (InstAt.of_news N hx hd) hg hh hf ht hgf htk hc hl fun q h' F' N' lt => k _ _ _ _ _ _ iF F' N' (nd_cons D lt) (h q)⟩

theorem Tri.methodS {o : Expr} {nm : Str} {apos : Pos} {args : List Expr} (h : Tri prog w a m l (eval o env) fun ov m1 l1 => Tri prog w a m1 l1 (getAttr ov nm true) fun fv m2 l2 => Tri prog w a m2 l2 (callWith pos fv [] (backTo pos (starEach args env)) []) Q)
    (hb : attributeBase o nm env (eval o env) = eval o env := by rfl) (hf : methodCallForm (args.length + ([] : List Keyword).length) (backTo pos (starEach args env)) (backToKw pos (keywordEach [] env)) = false := by rfl) :
    Tri prog w a m l (eval (.Call (.Attribute o nm apos) args [] pos) env) Q := by
  refine ⟨fun E s R gF iF F N D k => ?_⟩
  rw [arm_eval_Call, hb]
  refine wpAny_bind (h.run E s _ _ iF F N D fun ov m1 l1 h1 t1 gF1 iF1 F1 N1 D1 q1 => ?_)
  refine wpAny_bind (wpAny_standAt ?_)
  have hpos : methodCallPos false o env apos pos = Pure.pure pos := by unfold methodCallPos; simp
  unfold methodCall
  rw [hf]
  refine wpAny_bind (wpAny_holding ?_)
  show wpAny _ _ (PySem.getAttr ov nm true >>= fun f => Pure.pure (f, [])) _ _ _
  refine wpAny_bind (q1.run E _ _ _ iF1 F1 N1 D1 fun fx m2 l2 h2 t2 gF2 iF2 F2 N2 D2 q2 => wpAny_pure ?_)
  exact wpAny_bind (wpAny_of_eq hpos (q2.run E _ R _ iF2 F2 N2 D2 k))
end

theorem news_put {h₀ h h' : Heap} {L d : Addr} {o o' : Obj} {l l' : Led} (N : News h₀ L h l) (D : ND l) (U : Put d o o' l l') (hs : Heap.SameBut d h h') (ho : h'.get? d = some o') : News h₀ L h' l' := by
  obtain ⟨pre, post, rfl, rfl, x, y⟩ := (U.upd D).split
  intro p hp
  rcases List.mem_append.mp hp with hp | hp
  · have := N p (List.mem_append.mpr (.inl hp))
    exact ⟨(hs.2 _ (x p hp)).trans this.1, this.2⟩
  · rcases List.mem_cons.mp hp with rfl | hp
    · have := N (d, o) (List.mem_append.mpr (.inr (.head _)))
      exact ⟨ho, this.2⟩
    · have := N p (List.mem_append.mpr (.inr (.tail _ hp)))
      exact ⟨(hs.2 _ (y p hp)).trans this.1, this.2⟩
theorem fr_put {h₀ h h' : Heap} {L d : Addr} {o o' : Obj} {l l' : Led} {m : Loc} (F : Fr h₀ L h m) (N : News h₀ L h l) (U : Put d o o' l l') (hs : Heap.SameBut d h h') : Fr h₀ L h' m :=
  F.change hs (N _ U.mem).2.1 (N _ U.mem).2.2

section
variable {prog : Program} {w : World} {K : Frag} {p : Program} {loose : List Str} {mean : ExcName → Option Value} {mg mb : Str → Option Value} {a : Act} {env env' : Env} {n : Nat} {m : Loc} {l : Led} {l' : Obj → Led} {Q : VQ} {pos : Pos}
variable {κ : Type} [DecidableEq κ] {knd : KeyKind prog w κ} {d : Addr} {o : Obj} {kvs : List (κ × Value)} {k : κ} {key v : Value}

def IsSetOf (knd : KeyKind prog w κ) (o : Obj) (S : κ → Bool) (n : Nat) : Prop :=
  ∃ es ep t, o.ExactSet ∧ o.data = .set es ep t ∧ ElemsOf knd es.toList ∧ (∀ k, S k = true ↔ ∃ e ∈ es.toList, knd.is k e.2 = true) ∧ es.size < scanBound ∧ t.fits es.size = true ∧ es.size = n
theorem setOf_iff {h : Heap} {S : κ → Bool} {n : Nat} : h.SetOf knd d S n ↔ ∃ o, h.get? d = some o ∧ IsSetOf knd o S n :=
  ⟨fun ⟨o, es, ep, t, ho, r⟩ => ⟨o, ho, es, ep, t, r⟩, fun ⟨o, ho, es, ep, t, r⟩ => ⟨o, es, ep, t, ho, r⟩⟩

theorem Tri.dictD (hlim : a.base.NoLimit) (h : ∀ d o, (d == sysModules) = false → (∀ (κ : Type) [DecidableEq κ] (knd : KeyKind prog w κ), o.IsDictOf knd []) → Q (.ref d) m ((d, o) :: l)) : Tri prog w a m l (eval (.Dict [] [] pos) env) Q :=
  ⟨fun E s R gF iF F N D k => wpAny_Dict_empty (k _ _ _ _ s.toks _ iF (F.push _) (N.push F _) (nd_cons D fun p hp => Heap.lt_size (N p hp).1) (h _ _ (F.notModules (modules_low (hlim.keeps iF.stays))) fun κ _ knd => by
    obtain ⟨o, ho, hd⟩ := Heap.dictOf_iff.mp (Heap.DictOf.new (knd := knd) s.heap)
    rw [Heap.get?_push_size _ rfl] at ho
    exact (Option.some.inj ho) ▸ hd))⟩
theorem Tri.item_dict (hD : (d, o) ∈ l) (ho : o.IsDictOf knd kvs) (hkey : knd.is k key = true) (hv : valueAt kvs k = some v) (h : Q v m l) : Tri prog w a m l (getItem (.ref d) key) Q :=
  ⟨fun E s R gF iF F N D₀ c => wpAny_getItem_of hkey (Heap.dictOf_iff.mpr ⟨o, (N _ hD).1, ho⟩ : s.heap.DictOf knd d kvs).mapOf hv (c _ _ _ s.heap _ _ iF F N D₀ h)⟩
theorem Tri.sub_dict {value slice : Expr} (hD : (d, o) ∈ l) (ho : o.IsDictOf knd kvs) (hkey : knd.is k key = true) (hv : valueAt kvs k = some v) (h : Q v m l)
    (hs : subscripted slice false (.ref d) key = operate [.ref d, key] (getItem (.ref d) key) := by first | with_reducible exact subscr_slice .. | with_reducible exact subscr_Name .. | with_reducible exact subscr_BinOp .. | with_reducible exact subscr_Constant .. | with_reducible exact subscr_UnaryOp .. | with_reducible exact subscr_Call ..) :
    Tri prog w a m l (subscriptTail value slice (.ref d) key) Q :=
  ⟨fun E s R gF iF F N D₀ c => tail_any (Heap.dictOf_iff.mpr ⟨o, (N _ hD).1, ho⟩ : s.heap.DictOf knd d kvs).typeIs slot_dict_getitem.lookup ((Tri.item_dict hD ho hkey hv h).run E s R _ iF F N D₀ c) hs⟩
theorem Tri.set_dict {Q : Unit → Loc → Led → Prop} (ho : o.IsDictOf knd kvs) (U : ∀ o', Put d o o' l (l' o')) (hkey : knd.is k key = true) (hsz : kvs.length ≤ sizeLine) (h : ∀ o', o'.IsDictOf knd (stored kvs k v) → Q () m (l' o')) : Tri prog w a m l (setItem (.ref d) key v) Q :=
  ⟨fun E s R gF iF F N D₀ c => wpAny_setItem_pairs hkey (Heap.dictOf_iff.mpr ⟨o, (N _ (U o).mem).1, ho⟩) (fun h' hd' hs => by
    obtain ⟨o', ho', hdo⟩ := Heap.dictOf_iff.mp hd'
    exact c _ _ _ h' _ _ iF (fr_put F N (U o') hs) (news_put N D₀ (U o') hs ho') ((U o').nd D₀) (h o' hdo)) hsz⟩
theorem Tri.del_dict {Q : Unit → Loc → Led → Prop} (ho : o.IsDictOf knd kvs) (U : ∀ o', Put d o o' l (l' o')) (hkey : knd.is k key = true) (hsz : kvs.length ≤ sizeLine) (hv : (valueAt kvs k).isSome = true) (h : ∀ o', o'.IsDictOf knd (without kvs k) → Q () m (l' o')) : Tri prog w a m l (delItem (.ref d) key) Q :=
  ⟨fun E s R gF iF F N D₀ c => by
    have hd : s.heap.DictOf knd d kvs := Heap.dictOf_iff.mpr ⟨o, (N _ (U o).mem).1, ho⟩
    refine wpAny_delItem_slot hd.typeIs (by decide) PySem.F.slot_dict_delitem (call_meetsIn PySem.F.slot_dict_delitem hd.typeIs PySem.F.entry_dict_delitem (PySem.F.args_dict_delitem_2 _ _) (meets_dict_delitem_pairs knd d hkey) ⟨kvs, hd, hsz, hv, fun h' hd' hs => ?_⟩)
    obtain ⟨o', ho', hdo⟩ := Heap.dictOf_iff.mp hd'
    exact c _ _ _ h' _ _ iF (fr_put F N (U o') hs) (news_put N D₀ (U o') hs ho') ((U o').nd D₀) (h o' hdo)⟩
theorem Tri.in_dict (hn : (d == sysModules) = false) (hD : (d, o) ∈ l) (ho : o.IsDictOf knd kvs) (hkey : knd.is k key = true) (h : Q (.bool (valueAt kvs k).isSome) m l) : Tri prog w a m l (compareOp .In key (.ref d)) Q :=
  ⟨fun E s R gF iF F N D₀ c => wpAny_in_of hkey hn (Heap.dictOf_iff.mpr ⟨o, (N _ hD).1, ho⟩ : s.heap.DictOf knd d kvs).mapOf (c _ _ _ s.heap _ _ iF F N D₀ h)⟩
theorem Tri.getM_dget {pl : Sem Bool} {Q : Value × List Value → Loc → Led → Prop} (hD : (d, o) ∈ l) (ho : o.IsDictOf knd kvs) (h : Q (.builtin "dict.get", [.ref d]) m l) : Tri prog w a m l (getMethod (.ref d) "get" pl) Q :=
  Tri.getM_obj hD ho.choose_spec.choose_spec.1.1 ho.choose_spec.choose_spec.1.2.1 PySem.F.plainAttrs_dict PySem.F.slot_dict_get PySem.F.type_dict_get h
theorem Tri.dget (hn : (d == sysModules) = false) (hD : (d, o) ∈ l) (ho : o.IsDictOf knd kvs) (hkey : knd.is k key = true) (h : Q ((valueAt kvs k).getD .none) m l) : Tri prog w a m l (call (.builtin "dict.get") [.ref d, key]) Q :=
  ⟨fun E s R gF iF F N D₀ c => by
    have hd : s.heap.DictOf knd d kvs := Heap.dictOf_iff.mpr ⟨o, (N _ hD).1, ho⟩
    exact call_meetsIn PySem.F.slot_dict_get hd.typeIs PySem.F.entry_dict_get (PySem.F.args_dict_get_2 _ _) (meets_dict_get knd d hkey hn) ⟨_, hd.mapOf, c _ _ _ s.heap _ _ iF F N D₀ h⟩⟩
theorem Tri.Delete1 {o i : Expr} {pos' : Pos} {Q : FQ} (h : Tri prog w a m l (eval o env) fun ov m1 l1 => Tri prog w a m1 l1 (eval i env) fun iv m2 l2 => Tri prog w a m2 l2 (delItem ov iv) fun _ m3 l3 => Q .next m3 l3) : Tri prog w a m l (exec (.Delete [.Subscript o i pos'] pos) env) Q := by
  refine ⟨fun E s R gF iF F N D c => wpAny_Delete (wpAny_deleteEach_cons ?_)⟩
  rw [arm_delete_Subscript]
  refine wpAny_bind (h.run E s _ _ iF F N D fun ov m1 l1 h1 t1 gF1 iF1 F1 N1 D1 q1 => ?_)
  refine wpAny_bind (wpAny_holding (q1.run E _ _ _ iF1 F1 N1 D1 fun iv m2 l2 h2 t2 gF2 iF2 F2 N2 D2 q2 => ?_))
  refine wpAny_bind (wpAny_standAt (wpAny_bind (wpAny_holding (q2.run E _ _ _ iF2 F2 N2 D2 fun x m3 l3 h3 t3 gF3 iF3 F3 N3 D3 q3 => ?_))))
  exact wpAny_release (wpAny_deleteEach_nil (c _ _ _ _ _ _ iF3 F3 N3 D3 q3))

variable {S : κ → Bool} {sn : Nat}
theorem Tri.newSet (h : ∀ d o, IsSetOf knd o (fun _ => false) 0 → Q (.ref d) m ((d, o) :: l)) : Tri prog w a m l (call (.type "set") []) Q :=
  ⟨fun E s R gF iF F N D k => call_set_0 fun led => k _ _ _ _ s.toks _ iF (F.push _) (N.push F _) (nd_cons D fun p hp => Heap.lt_size (N p hp).1) (h _ _ ⟨#[], 0, _, ⟨rfl, rfl, rfl⟩, rfl, fun e he => by simp at he, fun k => by simp, by decide, by rfl, rfl⟩)⟩
theorem Tri.in_set (hD : (d, o) ∈ l) (ho : IsSetOf knd o S sn) (hkey : knd.is k key = true) (hsc : key.scannable = true) (h : Q (.bool (S k)) m l) : Tri prog w a m l (compareOp .In key (.ref d)) Q :=
  ⟨fun E s R gF iF F N D₀ c => wpAny_inSet_of hkey hsc (setOf_iff.mpr ⟨o, (N _ hD).1, ho⟩) (c _ _ _ s.heap _ _ iF F N D₀ h)⟩
theorem Tri.getM_add {pl : Sem Bool} {Q : Value × List Value → Loc → Led → Prop} (hD : (d, o) ∈ l) (ho : IsSetOf knd o S sn) (h : Q (.builtin "set.add", [.ref d]) m l) : Tri prog w a m l (getMethod (.ref d) "add" pl) Q :=
  ⟨fun E s R gF iF F N D₀ c => getMethod_set_add (knd := knd) (setOf_iff.mpr ⟨o, (N _ hD).1, ho⟩) (c _ _ _ s.heap _ _ iF F N D₀ h)⟩
theorem Tri.set_add (ho : IsSetOf knd o S sn) (U : ∀ o', Put d o o' l (l' o')) (hkey : knd.is k key = true) (hsc : key.scannable = true) (hroom : sn + 1 < scanBound) (h : ∀ o', IsSetOf knd o' (fun k' => S k' || decide (k' = k)) (if S k then sn else sn + 1) → Q .none m (l' o')) : Tri prog w a m l (call (.builtin "set.add") [.ref d, key]) Q :=
  ⟨fun E s R gF iF F N D₀ c => call_set_add hkey hsc (setOf_iff.mpr ⟨o, (N _ (U o).mem).1, ho⟩) hroom fun h' hs hS => by
    obtain ⟨o', ho', hdo⟩ := setOf_iff.mp hS
    exact c _ _ _ h' _ _ iF (fr_put F N (U o') hs) (news_put N D₀ (U o') hs ho') ((U o').nd D₀) (h o' hdo)⟩
end

section
variable {prog : Program} {w : World} {a : Act} {m : Loc} {l : Led} {env : Env} {target : Expr} {body orelse : List Stmt} {Q : FQ}
variable {κ : Type} [DecidableEq κ] {knd : KeyKind prog w κ} {d : Addr} {o : Obj} {kvs : List (κ × Value)}
def DAt (knd : KeyKind prog w κ) (o : Obj) (kvs : List (κ × Value)) (ep : Nat) : Prop :=
  ∃ es, o.ExactDict ∧ o.data = .dict es ep ∧ KeysOf knd es ∧ Pairs knd es.toList kvs ∧ (kvs.map (·.1)).Nodup
abbrev dicIt (d : Addr) (i n ep : Nat) : Obj := { cls := .type "dict_keyiterator", data := .fields #[.ref d, .int i 0, .int n 0, .int ep 0] }
theorem Tri.iter_dict {Q : VQ} (hn : (d == sysModules) = false) (hD : (d, o) ∈ l) (ho : o.IsDictOf knd kvs) (h : ∀ I ep, DAt knd o kvs ep → Q (.ref I) m ((I, dicIt d 0 kvs.length ep) :: l)) : Tri prog w a m l (pyIter (.ref d)) Q :=
  ⟨fun E s R gF iF F N D₀ c => by
    obtain ⟨es, ep, r⟩ := ho
    exact wpAny_pyIter_dict (knd := knd) (ep := ep) hn ⟨o, es, (N _ hD).1, r⟩ (c _ _ _ _ s.toks _ iF (F.push _) (N.push F _) (nd_cons D₀ fun p hp => Heap.lt_size (N p hp).1) (h _ ep ⟨es, r⟩))⟩
theorem for_dict {I : Addr} {ep : Nat} (hh : a.A.handled = none) (hgo : ∃ x p, target = .Name x p) (hat : DAt knd o kvs ep) (hD : (d, o) ∈ l) (J : Nat → Loc → Led → Prop) (hkp : ∀ i m l, J i m l → (d, o) ∈ l) (hj : J 0 m l)
    (turn : ∀ i k x v o' m l, kvs[i]? = some (k, x) → knd.is k v = true → J i m l → Tri prog w a m ((I, o') :: l) (assign target env v) fun _ m1 l1 => Tri prog w a m1 l1 (execs body env) (Turn Q fun m2 l2 => ∃ l3, Sub ((I, o') :: l3) l2 ∧ J (i + 1) m2 l3))
    (done : ∀ m l, J kvs.length m l → Tri prog w a m l (execs orelse env) Q) : ForAt prog w a env target body orelse Q (.ref I) m ((I, dicIt d 0 kvs.length ep) :: l) := by
  refine ⟨fun R s gF iF F N D₀ k => ?_⟩
  have hne : d ≠ I := fun e => (List.nodup_cons.mp D₀).1 (by have := List.mem_map_of_mem (f := Prod.fst) hD; rw [e] at this; exact this)
  have W := Walks.dictKeys (prog := prog) (w := w) (knd := knd) hh I d hne kvs ep
  refine (forW (fs := [d]) W (fun i h st => ?_) [(d, o)] (fun b hb => .inl (List.mem_singleton.mp hb ▸ ⟨_, .head _⟩)) ?_ J (fun i m l hJ p hp => by rw [List.mem_singleton.mp hp]; exact hkp i m l hJ) hj ?_ ?_ done).run R s _ iF F N D₀ k
  · obtain ⟨⟨o, ho, _⟩, _⟩ := st; exact ⟨o, ho⟩
  · intro s Q E i v hP st hQ
    obtain ⟨x, p, rfl⟩ := hgo
    exact wpAny_pure hQ
  · intro g h ig N' keep
    obtain ⟨es, r⟩ := hat
    exact ⟨⟨_, (N' _ (.head _)).1, rfl, rfl⟩, ⟨_, es, (N' _ (.tail _ hD)).1, r⟩⟩
  · rintro i v o' m l hi ⟨k, x, hx, hk⟩ hJ
    exact turn i k x v o' m l hx hk hJ
end

structure OkC (K : Frag) (p : Program) (loose : List Str) (mean : ExcName → Option Value) (mg mb : Str → Option Value) (b : Act) : Prop where
  kin : K.In b.base
  top : Top p loose mean mg mb b.base
  handled : b.A.handled = none
theorem Ok.okC {K : Frag} {p : Program} {loose : List Str} {mean : ExcName → Option Value} {mg mb : Str → Option Value} {a : Act} {env : Env} {n : Nat} (ok : Ok K p loose mean mg mb a env n) : OkC K p loose mean mg mb a := ⟨ok.kin, ok.top, ok.handled⟩

theorem ground {h₀ h : Heap} {L : Addr} {m : Loc} {l : Led} (F : Fr h₀ L h m) (N : News h₀ L h l) :
    h₀.StaysIn (hideAll h (l.map (·.1))) ∧ ∀ h' l', (∀ b o, (hideAll h (l.map (·.1))).get? b = some o → h'.get? b = some o) → (∀ p ∈ l', h'.get? p.1 = some p.2 ∧ (hideAll h (l.map (·.1))).get? p.1 = none) → Fr h₀ L h' m ∧ News h₀ L h' l' := by
  have nm : ∀ b o, h₀.get? b = some o → b ∉ l.map (·.1) := fun b o e q => by
    obtain ⟨p, hp, rfl⟩ := List.mem_map.mp q
    rw [(N p hp).2.2] at e; cases e
  have st : h₀.StaysIn (hideAll h (l.map (·.1))) := fun b o e => hideAll_get _ (F.keep b o e) (nm b o e)
  obtain ⟨oL, es, ep, hL, hLd, hLk, hLf⟩ := F.ns
  have nL : L ∉ l.map (·.1) := fun q => by
    obtain ⟨p, hp, e⟩ := List.mem_map.mp q
    exact (N p hp).2.1 e
  have hLg := hideAll_get (l.map (·.1)) hL nL
  refine ⟨st, fun h' l' hk hn => ⟨⟨⟨oL, es, ep, hk L oL hLg, hLd, hLk, hLf⟩, fun b o e => hk b o (st b o e), F.above⟩, fun p hp => ⟨(hn p hp).1, fun q => ?_, ?_⟩⟩⟩
  · have := (hn p hp).2; rw [q, hLg] at this; cases this
  · cases e : h₀.get? p.1 with
    | none => rfl
    | some o => have := st _ _ e; rw [(hn p hp).2] at this; cases this

section
variable {prog : Program} {w : World} {A : Around} {E : Value → Shared → Prop} {R : Result → Shared → Prop} {s : Shared}
abbrev tests (ifs : List Expr) (env : Env) : Sem Bool := forIn ifs true fun c r => if r = true then do let ok ← isTrue c env (eval c env); Pure.pure (ForInStep.yield ok) else Pure.pure (ForInStep.yield r)
theorem compLoopG {elt target iter : Expr} {ifs : List Expr} {scope : Scope} {pos : Pos} {it acc : Value} {env : Env} (I : Nat → Shared → Prop)
    (turn : ∀ n s, I n s → ∀ E, wpAny (model prog w) A (pyNext it) (fun r s₁ => match r with
      | none => R (.ok .next) s₁
      | some v => wpAny (model prog w) A (letOwnedTupleGo target it v) (fun _ s₁' => wpAny (model prog w) A (assign target env v) (fun _ s₂ =>
          wpAny (model prog w) A (tests ifs env) (fun ok s₃ =>
            if ok = true then wpAny (model prog w) A (eval elt env) (fun x s₄ =>
              wpAny (model prog w) A (call (.builtin "list.append") [acc, x]) (fun _ s₅ => ∃ m, m < n ∧ I m s₅) E s₄) E s₃
            else ∃ m, m < n ∧ I m s₃) E s₂) E s₁') E s₁) E s)
    (n : Nat) (h : I n s) :
    codeAny (model prog w) A (.compLoop (.ListComp elt [⟨target, iter, ifs, 0⟩] scope pos) 0 it acc env) R s := by
  refine codeAny_loop rfl I (fun n s hI => ?_) n h
  show wpAny _ A ((compTurn (.ListComp elt [⟨target, iter, ifs, 0⟩] scope pos) 0 it acc env).onRaise (fun x => do noteFrame x env; theTreesLotGoes x)) _ _ s
  refine wpAny_noted ?_
  rw [compTurn_list]
  refine wpAny_bind (wpAny_standAt (wpAny_bind (wpAny_mono (turn n s hI _) (fun r s₁ h₁ => ?_) fun _ _ h' => h')))
  cases r with
  | none => exact wpAny_pure h₁
  | some v =>
    refine wpAny_bind (wpAny_mono h₁ (fun _ s₁' h₁' => ?_) fun _ _ h' => h')
    refine wpAny_bind (wpAny_mono h₁' (fun _ s₂ h₂ => wpAny_bind (wpAny_mono h₂ (fun ok s₃ h₃ => ?_) fun _ _ h' => h')) fun _ _ h' => h')
    cases ok with
    | false => exact wpAny_pure ⟨rfl, h₃⟩
    | true =>
      exact wpAny_bind (wpAny_bind (wpAny_mono h₃ (fun x s₄ h₄ => wpAny_bind (wpAny_mono h₄ (fun _ s₅ h₅ => wpAny_pure (wpAny_pure ⟨rfl, h₅⟩)) fun _ _ h' => h')) fun _ _ h' => h'))
end

section
variable {prog : Program} {w : World} {K : Frag} {p : Program} {loose : List Str} {mean : ExcName → Option Value} {mg mb : Str → Option Value} {a : Act} {env : Env} {n : Nat} {m : Loc} {l : Led}
theorem Tri.tests_nil {Q : BQ} (h : Q true m l) : Tri prog w a m l (tests [] env) Q := ⟨fun _ s _ gF iF F N D k => wpAny_tests_nil (k _ m l s.heap s.toks _ iF F N D h)⟩
theorem Tri.tests_one {c : Expr} {Q : BQ} (h : Tri prog w a m l (isTrue c env (eval c env)) Q) : Tri prog w a m l (tests [c] env) Q := ⟨fun E s R gF iF F N D k => wpAny_tests_one (h.run E s R _ iF F N D k)⟩

structure CompAt (prog : Program) (w : World) (a : Act) (env : Env) (elt target iter : Expr) (ifs : List Expr) (scope : Scope) (cl : List (Str × Addr)) (pos : Pos) (Q : VQ) (it : Value) (m : Loc) (l : Led) : Prop where
  run : ∀ (E : Value → Shared → Prop) (RR : Value → Addr → Result → Shared → Prop) (s : Shared) (g : Heap), Turned a g → Fr g a.L s.heap m → News g a.L s.heap l → ND l →
    (∀ D C oC l' h' tk' g', Turned a g' → Fr g' a.L h' m → News g' a.L h' ((C, oC) :: l') → ND ((C, oC) :: l') → (∀ h : Heap, h.get? C = some oC → ∃ mc, h.Ns C mc) → Q (.ref D) m l' → RR (.ref D) C (.ok .next) { s with heap := h', toks := tk' }) →
    wpAny (model prog w) a.A (newList []) (fun acc s₃ =>
      wpAny (model prog w) a.A (newFunctionEnv scope env.globals cl [] env.qual none .none (some env)) (fun cenv s₄ =>
        codeAny (model prog w) a.A (.compStart (.ListComp elt [⟨target, iter, ifs, 0⟩] scope pos) 0 it acc { cenv with scope := relabel scope env }) (RR acc cenv.locals) s₄) E s₃) E s

theorem Tri.ListComp {elt target iter : Expr} {ifs : List Expr} {scope : Scope} {cl : List (Str × Addr)} {pos : Pos} {Q : VQ}
    (h : Tri prog w a m l (eval iter env) fun x m1 l1 => Tri prog w a m1 l1 (pyIter x) fun it m2 l2 => CompAt prog w a env elt target iter ifs scope cl pos Q it m2 l2)
    (hclos : closureFor scope env = Pure.pure cl) (hkind : scope.kind = .function) (hnames : ∀ y ∈ scope.names, y.2 = .local → scope.names.lookup y.1 = some .local) (hs : ∀ x, foldedSetIterable iter env x = Pure.pure x := by intro _; rfl) :
    Tri prog w a m l (eval (.ListComp elt [⟨target, iter, ifs, 0⟩] scope pos) env) Q := by
  refine ⟨fun E s R gF iF F N D k => ?_⟩
  rw [eval_ListComp]
  refine wpAny_comprehension_free (use := none) rfl hs hclos hkind hnames (h.run E s _ _ iF F N D fun x m1 l1 h1 t1 gF1 iF1 F1 N1 D1 q1 => q1.run E _ _ _ iF1 F1 N1 D1 fun it m2 l2 h2 t2 gF2 iF2 F2 N2 D2 q2 => ?_)
  refine q2.run E (fun acc C => compPost (model prog w) a.A E none R acc C) _ _ iF2 F2 N2 D2 fun D C oC l' h' tk' gF3 iF3 F3 N3 D3 hns q3 => ?_
  obtain ⟨mc, hmc⟩ := hns h' (N3 _ (.head _)).1
  refine ⟨mc, hmc, fun h'' hs'' => ?_⟩
  have hC := N3 _ (.head _)
  refine k _ _ l' _ _ _ iF3 (F3.change hs'' hC.2.1 hC.2.2) (fun q hq => ?_) (List.nodup_cons.mp D3).2 q3
  have := N3 q (.tail _ hq)
  refine ⟨(hs''.2 _ fun e => ?_).trans this.1, this.2⟩
  exact (List.nodup_cons.mp D3).1 (by have := List.mem_map_of_mem (f := Prod.fst) hq; rw [e] at this; exact this)

theorem compW {elt target iter : Expr} {ifs : List Expr} {scope : Scope} {cl : List (Str × Addr)} {pos : Pos} {Q : VQ} {I : Addr} {o₀ : Obj} {fs : List Addr} {n' : Nat} {P : Nat → Value → Prop} {St : Nat → Heap → Prop} (W : Walks prog w a.A I (I :: fs) [I] n' P St)
    (okc : OkC K p loose mean mg mb a) (hcell : ∀ y ∈ scope.names, y.2 ≠ .cell) (hkind : scope.kind = .function)
    (hob : ∀ i h, St i h → ∃ o, h.get? I = some o) (kp : Led) (hfs : ∀ b ∈ fs, ∃ o, (b, o) ∈ kp)
    (hgo : ∀ (s : Shared) (Q : Unit → Shared → Prop) (E : Value → Shared → Prop) i v, P i v → St (i + 1) s.heap → Q () s → wpAny (model prog w) a.A (letOwnedTupleGo target (.ref I) v) Q E s)
    (J : Nat → List Value → Led → Prop) (hkp : ∀ i ys l, J i ys l → ∀ p ∈ kp, p ∈ l) (hz : ∀ i ys l, J i ys l → ys.length ≤ sizeLine) (hj : J 0 [] l)
    (st0 : ∀ g h : Heap, News g a.L h ((I, o₀) :: l) → St 0 h)
    (turn : ∀ (b : Act) i v o D nn ys ex l, b.A = a.A → OkC K p loose mean mg mb b → i < n' → P i v → J i ys l → Tri prog w b (lcl ex) ((I, o) :: (D, lstO ys nn) :: l) (assign target (compEnvC scope cl b.L env) v) fun _ m1 l1 =>
      Tri prog w b m1 l1 (tests ifs (compEnvC scope cl b.L env)) fun t m2 l2 => (t = true → Tri prog w b m2 l2 (eval elt (compEnvC scope cl b.L env)) fun x m3 l3 => (∃ ex', m3 = lcl ex') ∧ ∃ l4, Sub ((I, o) :: (D, lstO ys nn) :: l4) l3 ∧ J (i + 1) (ys ++ [x]) l4) ∧
        (t = false → (∃ ex', m2 = lcl ex') ∧ ∃ l4, Sub ((I, o) :: (D, lstO ys nn) :: l4) l2 ∧ J (i + 1) ys l4))
    (done : ∀ D ys nn l, J n' ys l → Q (.ref D) m ((D, lstO ys nn) :: l)) : CompAt prog w a env elt target iter ifs scope cl pos Q (.ref I) m ((I, o₀) :: l) := by
  refine ⟨fun E RR s gF iF F N D₀ k => ?_⟩
  refine newList_K F N (fun D hD FD ND' lt => ?_) (by decide)
  have DD : ND ((D, lstO [] 0) :: (I, o₀) :: l) := nd_cons D₀ lt
  obtain ⟨st, back⟩ := ground FD ND'
  generalize hg : hideAll hD (((D, lstO [] 0) :: (I, o₀) :: l).map (·.1)) = g at st back
  refine wpAny_newFunctionEnv hcell (fun _ h => nomatch h) (fun h₁ hns hsb => ?_) hkind
  have hC : ∀ b o, hD.get? b = some o → b ≠ hD.objs.size := fun b o e => Nat.ne_of_lt (Heap.lt_size e)
  have keep₁ : ∀ b o, hD.get? b = some o → h₁.get? b = some o := fun b o e => hsb.extBut b o (hC b o e) (Heap.get?_push_of_some _ e)
  have FC : Fr g hD.objs.size h₁ (lcl []) := ⟨hns, fun b o e => keep₁ b o (of_hideAll _ (hg ▸ e)), by rw [← hg]; exact Nat.le_of_eq (hideAll_size _ _)⟩
  have NC : News g hD.objs.size h₁ ((D, lstO [] 0) :: (I, o₀) :: l) := fun p hp => ⟨keep₁ _ _ (ND' p hp).1, hC _ _ (ND' p hp).1, by rw [← hg]; exact hideAll_none _ (List.mem_map_of_mem hp)⟩
  have hDI : D ≠ I := fun e => (List.nodup_cons.mp DD).1 (by rw [e]; exact List.mem_cons_self ..)
  let b : Act := ⟨a.A, g, hD.objs.size, [], a.base⟩
  have okb : OkC K p loose mean mg mb b := ⟨okc.kin, okc.top, okc.handled⟩
  have tb : Turned b g := ⟨.refl, fun x o e => st x o (iF.stays x o e)⟩
  have hst0 : St 0 h₁ := by
    obtain ⟨_, N1⟩ := back h₁ ((D, lstO [] 0) :: (I, o₀) :: l) FC.keep fun p hp => ⟨(NC p hp).1, (NC p hp).2.2⟩
    exact st0 _ h₁ fun p hp => N1 p (.tail _ hp)
  have sw : ∀ {ys : List Value} {nn : Nat} {oi : Obj} {l' : Led}, Sub ((I, oi) :: (D, lstO ys nn) :: l') ((D, lstO ys nn) :: (I, oi) :: l') := ⟨[], by simp; exact List.Perm.swap ..⟩
  have loop : codeAny (model prog w) a.A (.compLoop (.ListComp elt [⟨target, iter, ifs, 0⟩] scope pos) 0 (.ref I) (.ref D) (compEnvC scope cl hD.objs.size env)) (RR (.ref D) hD.objs.size) { s with heap := h₁, toks := s.toks + ([] : List (Str × Value)).length } := by
    refine compLoopG (fun q s' => ∃ i ys nn ex l' o h' tk' g', s' = { s with heap := h', toks := tk' } ∧ Turned b g' ∧ Fr g' hD.objs.size h' (lcl ex) ∧ News g' hD.objs.size h' ((I, o) :: (D, lstO ys nn) :: l') ∧ ND ((I, o) :: (D, lstO ys nn) :: l') ∧ J i ys l' ∧ St i h' ∧ i ≤ n' ∧ q = n' - i) ?_ n'
      ⟨0, [], 0, [], l, o₀, h₁, _, g, rfl, tb, FC, fun p hp => NC p (sw.mem p hp), sw.nd DD, hj, hst0, Nat.zero_le _, rfl⟩
    rintro q s' ⟨i, ys, nn, ex, l', o, h', tk', g', rfl, i', F', N', D', hj', hst, hi, rfl⟩ E'
    have hI : g'.get? I = none := (N' _ (.head _)).2.2
    have hIL : I ≠ hD.objs.size := (N' _ (.head _)).2.1
    have moved : ∀ h₂ : Heap, (∀ b ob, b ∉ [I] → h'.get? b = some ob → h₂.get? b = some ob) → Fr g' hD.objs.size h₂ (lcl ex) ∧ News g' hD.objs.size h₂ ((D, lstO ys nn) :: l') := by
      intro h₂ hk
      obtain ⟨oL, es, ep, hL, r⟩ := F'.ns
      refine ⟨⟨⟨oL, es, ep, hk _ _ (fun h => hIL (List.mem_singleton.mp h).symm) hL, r⟩, fun b ob e => hk b ob (fun h => by rw [List.mem_singleton.mp h, hI] at e; cases e) (F'.keep b ob e), F'.above⟩, fun p hp => ⟨hk _ _ (fun h => ?_) (N' p (.tail _ hp)).1, (N' p (.tail _ hp)).2⟩⟩
      exact (List.nodup_cons.mp D').1 (by have := List.mem_map_of_mem (f := Prod.fst) hp; rw [List.mem_singleton.mp h] at this; exact this)
    by_cases hlt : i < n'
    · refine W.item i _ _ _ hlt hst fun v h₂ tk₂ hP hst₂ hk => ?_
      obtain ⟨F2, N2⟩ := moved h₂ hk
      obtain ⟨o₂, ho₂⟩ := hob _ _ hst₂
      have N3 : News g' hD.objs.size h₂ ((I, o₂) :: (D, lstO ys nn) :: l') := fun p hp => by
        rcases List.mem_cons.mp hp with rfl | hp
        · exact ⟨ho₂, hIL, hI⟩
        · exact N2 p hp
      have D3 : ND ((I, o₂) :: (D, lstO ys nn) :: l') := D'
      refine hgo _ _ _ i v hP hst₂ ?_
      have nxt : ∀ h5 t5 g5 ys' nn' ex' l3, Turned b g5 → Fr g5 hD.objs.size h5 (lcl ex') → News g5 hD.objs.size h5 ((I, o₂) :: (D, lstO ys' nn') :: l3) → ND ((I, o₂) :: (D, lstO ys' nn') :: l3) → J (i + 1) ys' l3 →
          ∃ mm, mm < n' - i ∧ ∃ i_1 ys nn ex l' o h' tk' g', ({ s with heap := h5, toks := t5 } : Shared) = { s with heap := h', toks := tk' } ∧ Turned b g' ∧ Fr g' hD.objs.size h' (lcl ex) ∧ News g' hD.objs.size h' ((I, o) :: (D, lstO ys nn) :: l') ∧ ND ((I, o) :: (D, lstO ys nn) :: l') ∧ J i_1 ys l' ∧ St i_1 h' ∧ i_1 ≤ n' ∧ mm = n' - i_1 := by
        intro h5 t5 g5 ys' nn' ex' l3 i5 F5 N5 D5 hj3
        refine ⟨n' - (i + 1), by omega, i + 1, ys', nn', ex', l3, o₂, h5, t5, g5, rfl, i5, F5, N5, D5, hj3, W.frame _ _ _ hst₂ ?_, hlt, rfl⟩
        intro b hb ob e
        rcases List.mem_cons.mp hb with rfl | hb
        · rw [ho₂] at e; cases e; exact (N5 _ (.head _)).1
        · obtain ⟨ob', hm⟩ := hfs b hb
          have e1 := (N2 _ (.tail _ (hkp _ _ _ hj' _ hm))).1
          have : ob = ob' := Option.some.inj (e.symm.trans e1)
          subst this
          exact (N5 _ (.tail _ (.tail _ (hkp _ _ _ hj3 _ hm)))).1
      refine (turn b i v o₂ D nn ys ex l' rfl okb hlt hP hj').run _ _ _ _ i' F2 N3 D3 fun _ m4 l4 h4 t4 g4 i4 F4 N4 D4 q4 => q4.run _ _ _ _ i4 F4 N4 D4 fun ok m5 l5 h5 t5 g5 i5 F5 N5 D5 q5 => ?_
      cases ok with
      | false =>
        obtain ⟨⟨ex', rfl⟩, l6, hs, hj6⟩ := q5.2 rfl
        exact nxt _ _ _ _ _ _ _ i5 F5 (fun p hp => N5 p (hs.mem p hp)) (hs.nd D5) hj6
      | true =>
        refine (q5.1 rfl).run _ _ _ _ i5 F5 N5 D5 fun x m6 l6 h6 t6 g6 i6 F6 N6 D6 q6 => ?_
        obtain ⟨⟨ex', rfl⟩, l7, hs, hj7⟩ := q6
        exact (Tri.append (Put.tail Put.head) (hz _ _ _ hj') ⟨rfl, rfl, rfl⟩ : Tri prog w b (lcl ex') ((I, o₂) :: (D, lstO ys nn) :: l7) _ fun v m8 l8 => v = .none ∧ m8 = lcl ex' ∧ l8 = (I, o₂) :: (D, lstO (ys ++ [x]) (nn + 1)) :: l7).run _ _ _ _ i6 F6 (fun p hp => N6 p (hs.mem p hp)) (hs.nd D6) fun v m8 l8 h8 t8 g8 i8 F8 N8 D8 q8 => by
          obtain ⟨rfl, rfl, rfl⟩ := q8
          exact nxt _ _ _ _ _ _ _ i8 F8 N8 D8 hj7
    · have hin : i = n' := Nat.le_antisymm hi (Nat.not_lt.mp hlt)
      subst hin
      refine W.done _ _ _ hst fun h₂ tk₂ hk => ?_
      obtain ⟨F2, N2⟩ := moved h₂ hk
      obtain ⟨oC, es, ep, hoC, r⟩ := F2.ns
      have same : ∀ x o, g.get? x = some o → g'.get? x = some o := fun x o e => i'.turn.other x o e (fun z => nomatch z)
      have hCn : g.get? hD.objs.size = none := by
        cases e : g.get? hD.objs.size with
        | none => rfl
        | some o => exact absurd (Heap.lt_size (of_hideAll _ (hg ▸ e))) (Nat.lt_irrefl _)
      obtain ⟨F3, N3⟩ := back h₂ ((hD.objs.size, oC) :: (D, lstO ys nn) :: l') (fun x o e => F2.keep x o (same x o e)) fun p hp => by
        rcases List.mem_cons.mp hp with rfl | hp
        · exact ⟨hoC, hCn⟩
        · exact ⟨(N2 p hp).1, kts_none same (N2 p hp).2.2⟩
      refine k D hD.objs.size oC ((D, lstO ys nn) :: l') h₂ tk₂ gF iF F3 N3 (List.nodup_cons.mpr ⟨fun q => ?_, (List.nodup_cons.mp D').2⟩) (fun h e => ⟨_, oC, es, ep, e, r⟩) (done D ys nn l' hj')
      obtain ⟨p, hp, e⟩ := List.mem_map.mp q
      exact (N2 p hp).2.1 e
  exact codeAny_compStart_list loop (W.self 0 _ _ _ hst0 loop)
end

section
variable {prog : Program} {w : World} {K : Frag} {p : Program} {loose : List Str} {mean : ExcName → Option Value} {mg mb : Str → Option Value} {a : Act} {env : Env} {n : Nat} {m : Loc} {l : Led} {Q : VQ} {x : Str} {pos : Pos} {v : Value}

theorem Tri.nameLG {lv : List (Str × Value)} (hv : lv.lookup x = some v) (h : Q v (lcl lv) l) (hk : env.scope.kind = .function) (hx : env.kindOf x = some .local) (hl : env.locals = a.L) (hd : (x == ("__debug__" : Str)) = false := by decide) :
    Tri prog w a (lcl lv) l (eval (.Name x pos) env) Q :=
  ⟨fun _ s _ gF iF F N D k => wpAny_Name (wpAny_loadName_local hk hx (hl ▸ F.ns) hv (k v _ l s.heap s.toks _ iF F N D h)) hd⟩
theorem Tri.nameCG {c : Addr} {o : Obj} (hc : env.cells.lookup x = some c) (hm : (c, o) ∈ l) (hd : o.data = .cell (some v)) (h : Q v m l) (hk : env.scope.kind = .function) (hx : env.kindOf x = some .cell) (hb : (x == ("__debug__" : Str)) = false := by decide) :
    Tri prog w a m l (eval (.Name x pos) env) Q :=
  ⟨fun _ s _ gF iF F N D k => wpAny_Name (wpAny_loadName_cell hk hx hc ⟨o, N.get hm, hd⟩ (k v m l s.heap s.toks _ iF F N D h)) hb⟩
theorem Tri.storeLG {Q : Unit → Loc → Led → Prop} {lv : List (Str × Value)} (h : Q () (lcl ((x, v) :: lv)) l) (hk : env.scope.kind = .function) (hx : env.kindOf x = some .local) (hl : env.locals = a.L) :
    Tri prog w a (lcl lv) l (storeName env x v) Q :=
  ⟨fun _ s _ gF iF F N D k => wpAny_storeName_local hx (hl ▸ F.ns) (fun h' hn hs => k () _ l h' (s.toks + 1) _ iF (lcl_cons x v lv ▸ F.set (hl ▸ hn) (hl ▸ hs)) (N.set (hl ▸ hs)) D h) (by rw [hk]; rfl)⟩
end

structure NI (κ : Type) where
  key : κ
  np : Int
  succ : List κ
section
variable {κ : Type} [DecidableEq κ]
def ensure (k : κ) (st : List (NI κ)) : List (NI κ) := if st.any (fun r => r.key = k) then st else st ++ [⟨k, 0, []⟩]
def upd (k : κ) (f : NI κ → NI κ) (st : List (NI κ)) : List (NI κ) := st.map fun r => if r.key = k then f r else r
def addPred (k : κ) (st : List (NI κ)) (p : κ) : List (NI κ) := upd p (fun r => { r with succ := r.succ ++ [k] }) (ensure p st)
def addAbs (k : κ) (ps : List κ) (st : List (NI κ)) : List (NI κ) := ps.foldl (addPred k) (upd k (fun r => { r with np := r.np + ps.length }) (ensure k st))
end

structure Row (κ : Type) extends NI κ where
  nv : Value
  t : Tok
  ia : Addr
  da : Addr
  sa : Addr
  vs : List Value
  cap : Nat
section
variable {prog : Program} {w : World} {κ : Type} [DecidableEq κ] {knd : KeyKind prog w κ}
abbrev nodO (da sa : Addr) (np : Int) (t : Tok) (nv : Value) : Obj := insO 54 da #[some nv, some (.int np t), some (.ref sa)]
def Row.cells (r : Row κ) : Led := [(r.ia, nodO r.da r.sa r.np r.t r.nv), (r.da, dictOf [] 0), (r.sa, lstO r.vs r.cap)]
def cells (rows : List (Row κ)) : Led := rows.flatMap Row.cells
inductive Keys (knd : KeyKind prog w κ) : List Value → List κ → Prop
  | nil : Keys knd [] []
  | cons {v k vs ks} : knd.is k v = true → Keys knd vs ks → Keys knd (v :: vs) (k :: ks)
theorem Keys.length {vs : List Value} {ks : List κ} (h : Keys knd vs ks) : vs.length = ks.length := by
  induction h with
  | nil => rfl
  | cons _ _ ih => simp [ih]
theorem Keys.snoc {vs : List Value} {ks : List κ} {v : Value} {k : κ} (h : Keys knd vs ks) (hk : knd.is k v = true) : Keys knd (vs ++ [v]) (ks ++ [k]) := by
  induction h with
  | nil => exact .cons hk .nil
  | cons h1 _ ih => exact .cons h1 ih
theorem Keys.get {vs : List Value} {ks : List κ} (h : Keys knd vs ks) : ∀ {i : Nat} {v : Value}, vs[i]? = some v → ∃ k, ks[i]? = some k ∧ knd.is k v = true := by
  induction h with
  | nil => intro i v hi; simp at hi
  | @cons v k vs ks h1 _ ih =>
    intro i u hi
    cases i with
    | zero => simp at hi; subst hi; exact ⟨k, rfl, h1⟩
    | succ i => simp at hi ⊢; exact ih hi
def Row.ni (r : Row κ) : NI κ := r.toNI
structure RowOk (knd : KeyKind prog w κ) (r : Row κ) : Prop where
  node : knd.is r.key r.nv = true
  hand : handedIn r.nv = true
  succ : Keys knd r.vs r.succ

def kvs (rows : List (Row κ)) : List (κ × Value) := rows.map fun r => (r.key, .ref r.ia)
def absR (rows : List (Row κ)) : List (NI κ) := rows.map Row.ni

theorem cells_mem {rows : List (Row κ)} {i : Nat} {r : Row κ} (h : rows[i]? = some r) {p : Addr × Obj} (hp : p ∈ r.cells) : p ∈ cells rows :=
  List.mem_flatMap.mpr ⟨r, List.mem_of_getElem? h, hp⟩
theorem cells_put {d : Addr} {o o' : Obj} {r r' : Row κ} (U : Put d o o' r.cells r'.cells) : ∀ {rows : List (Row κ)} {i : Nat}, rows[i]? = some r → Put d o o' (cells rows) (cells (rows.set i r'))
  | [], i, h => by simp at h
  | x :: rows, 0, h => by
    simp at h; subst h
    exact U.left _
  | x :: rows, i + 1, h => by
    simp at h
    exact (cells_put U (rows := rows) (i := i) h).right x.cells
theorem cells_append (rows rows' : List (Row κ)) : cells (rows ++ rows') = cells rows ++ cells rows' := by simp [cells]
theorem kvs_set {rows : List (Row κ)} {i : Nat} {r r' : Row κ} (h : rows[i]? = some r) (hk : r'.key = r.key) (hi : r'.ia = r.ia) : kvs (rows.set i r') = kvs rows := by
  unfold kvs
  rw [List.map_set]
  apply List.ext_getElem?
  intro j
  by_cases e : i = j
  · subst e
    obtain ⟨hl, _⟩ := List.getElem?_eq_some_iff.mp h
    rw [List.getElem?_set_self (by simpa using hl)]
    simp [h, hk, hi]
  · rw [List.getElem?_set_ne e]
theorem kvs_keys (rows : List (Row κ)) : (kvs rows).map (·.1) = (absR rows).map (·.key) := by simp [kvs, absR, Row.ni]

theorem valueAt_kvs {rows : List (Row κ)} {k : κ} : (∃ (i : Nat) (r : Row κ), rows[i]? = some r ∧ r.key = k ∧ valueAt (kvs rows) k = some (.ref r.ia)) ∨ ((∀ r ∈ rows, r.key ≠ k) ∧ valueAt (kvs rows) k = none) := by
  induction rows with
  | nil => exact .inr ⟨fun _ h => (nomatch h), rfl⟩
  | cons x rows ih =>
    by_cases e : x.key = k
    · exact .inl ⟨0, x, rfl, e, by simp [kvs, valueAt, e]⟩
    · rcases ih with ⟨i, r, h1, h2, h3⟩ | ⟨h1, h2⟩
      · refine .inl ⟨i + 1, r, by simpa using h1, h2, ?_⟩
        simp only [kvs, valueAt, List.map_cons, List.find?_cons, decide_eq_false e] at h3 ⊢
        exact h3
      · refine .inr ⟨fun r hr => ?_, ?_⟩
        · rcases List.mem_cons.mp hr with rfl | hr
          · exact e
          · exact h1 r hr
        · simp only [kvs, valueAt, List.map_cons, List.find?_cons, decide_eq_false e] at h2 ⊢
          exact h2
theorem stored_kvs {rows : List (Row κ)} {k : κ} {v : Value} (h : ∀ r ∈ rows, r.key ≠ k) : stored (kvs rows) k v = kvs rows ++ [(k, v)] := by
  unfold stored
  rw [if_neg]
  simp only [kvs, List.any_map, List.any_eq_true, Function.comp, decide_eq_true_eq]
  rintro ⟨r, hr, e⟩
  exact h r hr e
theorem ensure_old {rows : List (Row κ)} {i : Nat} {r : Row κ} {k : κ} (h : rows[i]? = some r) (hk : r.key = k) : ensure k (absR rows) = absR rows := by
  unfold ensure
  rw [if_pos]
  simp only [absR, List.any_map, List.any_eq_true, Function.comp]
  exact ⟨r, List.mem_of_getElem? h, by simp [Row.ni, hk]⟩
theorem ensure_new {rows : List (Row κ)} {k : κ} (h : ∀ r ∈ rows, r.key ≠ k) : ensure k (absR rows) = absR rows ++ [⟨k, 0, []⟩] := by
  unfold ensure
  rw [if_neg]
  simp only [absR, List.any_map, List.any_eq_true, Function.comp]
  rintro ⟨r, hr, e⟩
  exact h r hr (of_decide_eq_true e)
theorem upd_set {rows : List (Row κ)} (nd : ((absR rows).map (·.key)).Nodup) {i : Nat} {r r' : Row κ} {k : κ} (h : rows[i]? = some r) (hk : r.key = k) {f : NI κ → NI κ} (hf : r'.ni = f r.ni) : absR (rows.set i r') = upd k f (absR rows) := by
  induction rows generalizing i with
  | nil => simp at h
  | cons x rows ih =>
    have nd' := List.nodup_cons.mp (by simpa [absR] using nd : (x.ni.key :: (absR rows).map (·.key)).Nodup)
    cases i with
    | zero =>
      simp at h; subst h
      show r'.ni :: absR rows = (if x.ni.key = k then f x.ni else x.ni) :: upd k f (absR rows)
      rw [if_pos (by simpa [Row.ni] using hk), hf]
      congr 1
      unfold upd
      symm
      rw [List.map_congr_left (g := id)]
      · simp
      · intro y hy
        rw [if_neg]
        · rfl
        · intro e
          exact nd'.1 (List.mem_map.mpr ⟨y, hy, by rw [e]; simpa [Row.ni] using hk.symm⟩)
    | succ i =>
      simp at h
      show x.ni :: absR (rows.set i r') = (if x.ni.key = k then f x.ni else x.ni) :: upd k f (absR rows)
      rw [if_neg, ih (by simpa [absR] using nd'.2) h]
      intro e
      exact nd'.1 (List.mem_map.mpr ⟨r.ni, List.mem_map_of_mem (List.mem_of_getElem? h), by rw [e]; simpa [Row.ni] using hk⟩)

structure Srt where
  sA : Addr
  sD : Addr
  dA : Addr
  oD : Obj
  t1 : Tok
  t2 : Tok
  t3 : Tok
  t4 : Tok
  rv : Value
  po : Int
  tp : Tok
  fi : Int
  tf : Tok
abbrev ent (w : World) (name : Str) (t : Tok) (v : Value) : DictEntry := ⟨PyData.keyHash w.params name, .str name t, v⟩
def Srt.es (w : World) (S : Srt) : List DictEntry :=
  [⟨PyData.keyHash w.params "_node2info", .str "_node2info" S.t1, .ref S.dA⟩, ⟨PyData.keyHash w.params "_ready_nodes", .str "_ready_nodes" S.t2, S.rv⟩,
   ⟨PyData.keyHash w.params "_npassedout", .str "_npassedout" S.t3, .int S.po S.tp⟩, ⟨PyData.keyHash w.params "_nfinished", .str "_nfinished" S.t4, .int S.fi S.tf⟩]
abbrev sled (w : World) (S : Srt) (l : Led) : Led := (S.sA, insO 151 S.sD #[]) :: (S.sD, dictOf (S.es w) 4) :: (S.dA, S.oD) :: l
structure SOk (knd : KeyKind prog w κ) (S : Srt) (rows : List (Row κ)) (c : Nat) : Prop where
  dic : S.oD.IsDictOf knd (kvs rows)
  sys : (S.dA == sysModules) = false
  rok : ∀ r ∈ rows, RowOk knd r
  len : rows.length ≤ c
  suc : ∀ r ∈ rows, r.succ.length ≤ c
theorem SOk.nd {S : Srt} {rows : List (Row κ)} {c : Nat} (h : SOk knd S rows c) : ((absR rows).map (·.key)).Nodup := by
  obtain ⟨es, ep, _, _, _, _, hn⟩ := h.dic
  rw [← kvs_keys]; exact hn
theorem SOk.set {S : Srt} {rows : List (Row κ)} {c c' : Nat} (h : SOk knd S rows c) {i : Nat} {r r' : Row κ} (hi : rows[i]? = some r) (hk : r'.key = r.key) (hia : r'.ia = r.ia) (ho : RowOk knd r') (hs : r'.succ.length ≤ c') (hc : c ≤ c' := by omega) : SOk knd S (rows.set i r') c' := by
  refine ⟨by rw [kvs_set hi hk hia]; exact h.dic, h.sys, fun x hx => ?_, by simpa using Nat.le_trans h.len hc, fun x hx => ?_⟩
  · rcases List.mem_or_eq_of_mem_set hx with hx | rfl
    · exact h.rok x hx
    · exact ho
  · rcases List.mem_or_eq_of_mem_set hx with hx | rfl
    · exact Nat.le_trans (h.suc x hx) hc
    · exact hs
theorem getL_dA (w : World) (S : Srt) : getL "_node2info" (S.es w) = some (some (.ref S.dA)) := rfl
theorem getL_po (w : World) (S : Srt) : getL "_npassedout" (S.es w) = some (some (.int S.po S.tp)) := rfl
theorem getL_fi (w : World) (S : Srt) : getL "_nfinished" (S.es w) = some (some (.int S.fi S.tf)) := rfl
theorem getL_rv (w : World) {S : Srt} {v : Value} (h : S.rv = v) : getL "_ready_nodes" (S.es w) = some (some v) := by subst h; rfl
end

section
variable {prog : Program} {w : World} {a : Act} {m : Loc} {l l' : Led} {env : Env} {Q : VQ} {D : Addr} {vs : List Value} {nn : Nat}
theorem Tri.assign_Sub {o i : Expr} {pos : Pos} {v : Value} {Q : Unit → Loc → Led → Prop} (h : Tri prog w a m l (eval o env) fun ov m1 l1 => Tri prog w a m1 l1 (eval i env) fun iv m2 l2 => Tri prog w a m2 l2 (setItem ov iv v) Q) : Tri prog w a m l (assign (.Subscript o i pos) env v) Q := by
  refine ⟨fun E s R gF iF F N D c => ?_⟩
  rw [arm_assign_Subscript]
  refine wpAny_bind (wpAny_holding (h.run E s _ _ iF F N D fun ov m1 l1 h1 t1 gF1 iF1 F1 N1 D1 q1 => ?_))
  refine wpAny_bind (wpAny_holding (q1.run E _ _ _ iF1 F1 N1 D1 fun iv m2 l2 h2 t2 gF2 iF2 F2 N2 D2 q2 => ?_))
  refine wpAny_bind (wpAny_standAt (wpAny_bind (wpAny_holding (q2.run E _ _ _ iF2 F2 N2 D2 fun x m3 l3 h3 t3 gF3 iF3 F3 N3 D3 q3 => ?_))))
  exact wpAny_release (c _ _ _ _ _ _ iF3 F3 N3 D3 q3)
theorem Tri.ExprS {e : Expr} {pos : Pos} {Q : FQ} (h : Tri prog w a m l (eval e env) fun v m1 l1 => v = .none ∧ Q .next m1 l1) (hi : interactive env = false := by rfl)
    (hs : swapsWith e none pos.line env = Pure.pure false := by rfl) : Tri prog w a m l (exec (.Expr e pos) env) Q :=
  ⟨fun E s R gF iF F N D k => wpAny_Expr (h.run E s _ _ iF F N D fun v m1 l1 h1 t1 gF1 iF1 F1 N1 D1 q1 => by obtain ⟨rfl, q⟩ := q1; exact k _ _ _ _ _ _ iF1 F1 N1 D1 q) hi hs⟩
theorem Tri.len_list (hD : (D, lstO vs nn) ∈ l) (hz : vs.length ≤ sizeLine) (h : ∀ t, Q (.int vs.length t) m l) : Tri prog w a m l (call (.builtin "len") [.ref D]) Q :=
  ⟨fun E s R gF iF F N D₀ k => call_len_list (items := vs.toArray) ⟨_, (N _ hD).1, rfl, nn, rfl⟩ (by have := sizeLine_eq; simp; omega) (by simpa using k _ _ _ s.heap _ _ iF F N D₀ (h _))⟩
theorem Tri.len_tup (hD : (D, tupO vs) ∈ l) (hz : vs.length ≤ sizeLine) (h : ∀ t, Q (.int vs.length t) m l) : Tri prog w a m l (call (.builtin "len") [.ref D]) Q :=
  ⟨fun E s R gF iF F N D₀ k => PyProof.Rows.len_tuple (items := vs.toArray) ⟨_, (N _ hD).1, rfl, 0, rfl⟩ (by have := sizeLine_eq; simp; omega) (by simpa using k _ _ _ s.heap _ _ iF F N D₀ (h _))⟩
theorem Tri.truthy_list {Q : BQ} (hD : (D, lstO vs nn) ∈ l) (hz : vs.length ≤ sizeLine) (h : Q (!vs.isEmpty) m l) : Tri prog w a m l (truthy (.ref D)) Q :=
  ⟨fun E s R gF iF F N D₀ k => wpAny_truthy_list (items := vs.toArray) ⟨_, (N _ hD).1, rfl, nn, rfl⟩ (by have := sizeLine_eq; simp; omega) (by simpa using k _ _ _ s.heap _ _ iF F N D₀ h)⟩
theorem Tri.getM_append {pl : Sem Bool} {Q : Value × List Value → Loc → Led → Prop} (hD : (D, lstO vs nn) ∈ l) (h : Q (.builtin "list.append", [.ref D]) m l) : Tri prog w a m l (getMethod (.ref D) "append" pl) Q :=
  Tri.getM_obj hD rfl rfl PySem.F.plainAttrs_list PySem.F.slot_list_append PySem.F.type_list_append h
theorem Tri.getM_pop {pl : Sem Bool} {Q : Value × List Value → Loc → Led → Prop} (hD : (D, lstO vs nn) ∈ l) (h : Q (.builtin "list.pop", [.ref D]) m l) : Tri prog w a m l (getMethod (.ref D) "pop" pl) Q :=
  Tri.getM_obj hD rfl rfl PySem.F.plainAttrs_list PySem.F.slot_list_pop PySem.F.type_list_pop h
theorem Tri.getM_clear {pl : Sem Bool} {Q : Value × List Value → Loc → Led → Prop} (hD : (D, lstO vs nn) ∈ l) (h : Q (.builtin "list.clear", [.ref D]) m l) : Tri prog w a m l (getMethod (.ref D) "clear" pl) Q :=
  Tri.getM_obj hD rfl rfl PySem.F.plainAttrs_list PySem.F.slot_list_clear PySem.F.type_list_clear h
theorem Tri.lclear {l' : Nat → Led} (U : ∀ nn', Put D (lstO vs nn) (lstO [] nn') l (l' nn')) (hz : vs.length ≤ sizeLine) (h : ∀ nn', Q .none m (l' nn')) : Tri prog w a m l (call (.builtin "list.clear") [.ref D]) Q :=
  ⟨fun E s R gF iF F N D₀ k => by
    have z := (N _ (U 0).mem).1
    refine call_meets PySem.F.slot_list_clear ⟨_, z, rfl⟩ PySem.F.entry_list_clear (PySem.F.args_list_clear_1 _) (AutoSeq1.list_clear_list_0 D vs.toArray nn (by simpa using hz)) ⟨z, ?_⟩
    have e := IsL.update (h := s.heap) (l := D) (items := vs.toArray) (n := nn) z fun _ => #[]
    exact k _ _ _ _ _ _ iF (fr_put F N (U 0) (Heap.SameBut.update ..)) (news_put N D₀ (U _) (Heap.SameBut.update ..) e) ((U _).nd D₀) (h _)⟩
theorem Tri.lpop {v : Value} {l' : Nat → Led} (U : ∀ nn', Put D (lstO (vs ++ [v]) nn) (lstO vs nn') l (l' nn')) (hz : vs.length + 1 ≤ sizeLine) (h : ∀ nn', Q v m (l' nn')) : Tri prog w a m l (call (.builtin "list.pop") [.ref D]) Q :=
  ⟨fun E s R gF iF F N D₀ k => by
    have z := (N _ (U 0).mem).1
    refine call_meets PySem.F.slot_list_pop ⟨_, z, rfl⟩ PySem.F.entry_list_pop (PySem.F.args_list_pop_1 _) (MeetsSeq.list_pop_last D (vs ++ [v]).toArray nn v (by simp) (by simpa using hz)) ⟨z, ?_⟩
    have e := IsL.update (h := s.heap) (l := D) (items := (vs ++ [v]).toArray) (n := nn) z fun xs => xs.eraseIdxIfInBounds ((vs ++ [v]).toArray.size - 1)
    have e2 : (vs ++ [v]).toArray.eraseIdxIfInBounds ((vs ++ [v]).toArray.size - 1) = vs.toArray := by
      apply Array.toList_inj.mp
      simp
      rw [List.eraseIdx_append_of_length_le (Nat.le_refl _)]
      simp
    rw [e2] at e
    exact k _ _ _ _ _ _ iF (fr_put F N (U 0) (Heap.SameBut.update ..)) (news_put N D₀ (U _) (Heap.SameBut.update ..) e) ((U _).nd D₀) (h _)⟩
theorem Tri.tuple_list (hD : (D, lstO vs nn) ∈ l) (hz : vs.length ≤ sizeLine) (h : ∀ T, Q (.ref T) m ((T, tupO vs) :: l)) : Tri prog w a m l (call (.type "tuple") [.ref D]) Q :=
  ⟨fun E s R gF iF F N D₀ k => call_tuple_list (items := vs.toArray) ⟨_, (N _ hD).1, rfl, nn, rfl⟩ (fun h' hk => by
    have F' := F.grownK hk
    have N' : News gF a.L h' l := fun p hp => ⟨hk _ _ (N p hp).1, (N p hp).2⟩
    exact k _ _ _ _ _ _ iF (F'.push _) (N'.push F' _) (nd_cons D₀ fun p hp => Heap.lt_size (N' p hp).1) (h _)) (by simpa using hz)⟩
end

def subCost (a b : Str) : Int := if a = b then 0 else if Txt.lower a = Txt.lower b then 1 else 2
def subC (x y : Nat) : Int := subCost (S [x]) (S [y])
def preStrip : List Nat → List Nat → List Nat × List Nat
  | x :: xs, y :: ys => if x = y then preStrip xs ys else (x :: xs, y :: ys)
  | xs, ys => (xs, ys)
def postStrip (a b : List Nat) : List Nat × List Nat := ((preStrip a.reverse b.reverse).1.reverse, (preStrip a.reverse b.reverse).2.reverse)
def big : Int := 9223372036854775807

def inner (y : Nat) : List Nat → List Int → Int → Int → Int → List Int × Int × Int
  | x :: xs, r :: rs, d, res, mn =>
    let res' := min (min res r + 2) (d + subC y x)
    let q := inner y xs rs r res' (if res' < mn then res' else mn)
    (res' :: q.1, q.2)
  | _, rs, _, res, mn => (rs, res, mn)
def outer (a : List Nat) (mc : Int) : List Nat → Nat → List Int → Int → Int
  | [], _, _, res => res
  | y :: ys, k, row, _ =>
    let q := inner y a row ((k : Int) * 2) ((k : Int) * 2) big
    if mc < q.2.2 then mc + 1 else outer a mc ys (k + 1) q.1 q.2.1
def row0 (n : Nat) : List Int := PyProof.Rows.rangeInts 2 2 n
def levCore (a b : List Nat) (mc : Int) : Int :=
  if mc < ((b.length : Int) - a.length) * 2 then mc + 1 else outer a mc b 0 (row0 a.length) 0
def levPy (a b : List Nat) (mc : Int) : Int :=
  if a = b then 0 else
  let p := preStrip a b
  let q := postStrip p.1 p.2
  if q.1 = [] ∨ q.2 = [] then 2 * ((q.1.length : Int) + q.2.length)
  else if 40 < q.1.length ∨ 40 < q.2.length then mc + 1
  else if q.2.length < q.1.length then levCore q.2 q.1 mc else levCore q.1 q.2 mc
theorem preStrip_take : ∀ (k : Nat) (a b : List Nat), k ≤ a.length → k ≤ b.length → a.take k = b.take k → preStrip a b = preStrip (a.drop k) (b.drop k)
  | 0, _, _, _, _, _ => rfl
  | k + 1, x :: xs, y :: ys, h1, h2, h => by
    simp only [List.take_succ_cons, List.cons.injEq] at h
    rw [preStrip, if_pos h.1]
    exact preStrip_take k xs ys (by simpa using h1) (by simpa using h2) h.2
  | k + 1, [], _, h1, _, _ => by simp at h1
  | k + 1, _ :: _, [], _, h2, _ => by simp at h2
theorem preStrip_ne {x y : Nat} {xs ys : List Nat} (h : x ≠ y) : preStrip (x :: xs) (y :: ys) = (x :: xs, y :: ys) := by rw [preStrip, if_neg h]
theorem preStrip_nil_left (b : List Nat) : preStrip [] b = ([], b) := by cases b <;> rfl
theorem preStrip_nil_right (a : List Nat) : preStrip a [] = (a, []) := by cases a <;> rfl
theorem inner_step {y : Nat} {a : List Nat} {ns : List Int} {i : Nat} {x : Nat} {r : Int} (d res mn : Int) (hx : a[i]? = some x) (hr : ns[i]? = some r) :
    ((ns.take i) ++ (inner y (a.drop i) (ns.drop i) d res mn).1, (inner y (a.drop i) (ns.drop i) d res mn).2) =
    (let res' := min (min res r + 2) (d + subC y x)
     let q := inner y (a.drop (i + 1)) ((ns.set i res').drop (i + 1)) r res' (if res' < mn then res' else mn)
     ((ns.set i res').take (i + 1) ++ q.1, q.2)) := by
  obtain ⟨hx1, hx2⟩ := List.getElem?_eq_some_iff.mp hx
  obtain ⟨hr1, hr2⟩ := List.getElem?_eq_some_iff.mp hr
  rw [List.drop_eq_getElem_cons hx1, List.drop_eq_getElem_cons hr1, hx2, hr2]
  simp only [inner]
  have e1 : ∀ v, (ns.set i v).drop (i + 1) = ns.drop (i + 1) := by
    intro v
    rw [List.drop_set]; simp
  have e2 : ∀ v, (ns.set i v).take (i + 1) = ns.take i ++ [v] := by
    intro v
    rw [List.take_add_one]
    simp [List.take_set, hr1]
    rw [List.set_eq_of_length_le (by simp; omega)]
  rw [e1, e2]
  simp
theorem small_two {n : Nat} (h : n ≤ 1000) : Builtin.Range.small 2 (2 * ((n : Int) + 1)) 2 = true := by
  unfold Builtin.Range.small Builtin.Range.rangeSize Builtin.Range.rangeFitsLong
  simp
  omega
theorem size_two (n : Nat) : Builtin.Range.rangeSize 2 (2 * ((n : Int) + 1)) 2 = (n : Int) := by
  unfold Builtin.Range.rangeSize
  simp
  omega

section
variable {prog : Program} {w : World} {a : Act} {m : Loc} {l : Led} {env : Env} {e e2 : Expr} {p p2 p3 : Pos} {x y : Str} {n n2 : Nat} {es es2 : List Expr} {v v2 : Value} {i i2 : Int} {t t2 : Tok} {cs : Scope} {L fa : Addr} {cl lv : List (Str × Value)} {vs : List Value} {pl : Sem Bool} {bb : Bool}
  {Qf : Flow → Loc → Led → Prop} {Qv : Value → Loc → Led → Prop} {Qb : Bool → Loc → Led → Prop} {Qu : Unit → Loc → Led → Prop} {Qm : Value × List Value → Loc → Led → Prop} {Ql : List Value → Loc → Led → Prop}

abbrev gExecs {ss : List Stmt} : Prop := Tri prog w a m l (execs ss env) Qf
abbrev gExec {s : Stmt} : Prop := Tri prog w a m l (exec s env) Qf
abbrev gAsName : Prop := Tri prog w a m l (exec (.Assign [.Name x p] e p2) env) Qf
abbrev gAsSub {e3 : Expr} : Prop := Tri prog w a m l (exec (.Assign [.Subscript e e2 p] e3 p2) env) Qf
abbrev gAsTwo {e3 : Expr} : Prop := Tri prog w a m l (exec (.Assign [e, e2] e3 p2) env) Qf
abbrev gAsTup {e3 : Expr} : Prop := Tri prog w a m l (exec (.Assign [.Tuple es n p] e3 p2) env) Qf
abbrev gAsAttr {e3 : Expr} : Prop := Tri prog w a m l (exec (.Assign [.Attribute e x p] e3 p2) env) Qf
abbrev gExprS : Prop := Tri prog w a m l (exec (.Expr e p) env) Qf
abbrev gEval : Prop := Tri prog w a m l (eval e env) Qv
abbrev gNameL : Prop := Tri prog w a (lcl lv) l (eval (.Name x p) env) Qv
abbrev gName : Prop := Tri prog w a m l (eval (.Name x p) env) Qv
abbrev gAttr : Prop := Tri prog w a m l (eval (.Attribute e x p) env) Qv
abbrev gDict : Prop := Tri prog w a m l (eval (.Dict [] [] p) env) Qv
abbrev gCmp {o : CmpOp} : Prop := Tri prog w a m l (eval (.Compare e [o] [e2] p) env) Qv
abbrev gMeth {ks : List Keyword} : Prop := Tri prog w a m l (eval (.Call (.Attribute e x p) es ks p2) env) Qv
abbrev gCall {ks : List Keyword} : Prop := Tri prog w a m l (eval (.Call e es ks p2) env) Qv
abbrev gTrue {t : Sem Value} : Prop := Tri prog w a m l (PySem.isTrue e env t) Qb
abbrev gTrueCmp {o : CmpOp} {t : Sem Value} : Prop := Tri prog w a m l (PySem.isTrue (.Compare e [o] [e2] p) env t) Qb
abbrev gMul : Prop := Tri prog w a m l (binaryOp .Mult (.int i t) (.int i2 t2)) Qv
abbrev gTruS : Prop := Tri prog w a m l (truthy (.str x t)) Qb
abbrev gItems : Prop := Tri prog w a m l (spliced (backTo p (starEach (e :: es) env))) Ql
abbrev gStore : Prop := Tri prog w a (lcl lv) l (storeName env x v) Qu
abbrev gLoad : Prop := Tri prog w a (lcl lv) l (loadName env x) Qv
abbrev gList : Prop := Tri prog w a m l (newList vs) Qv
abbrev gTuple : Prop := Tri prog w a m l (newTuple vs) Qv
abbrev gWith {xs : List (Bool × Sem Value)} {ks : List (Option Str × Sem Value)} : Prop := Tri prog w a m l (callWith p v vs xs ks) Qv
abbrev gB {b : String} : Prop := Tri prog w a m l (call (.builtin b) vs) Qv
abbrev gLower : Prop := Tri prog w a m l (getMethod (.str x t) (Str.ofString "lower") pl) Qm
abbrev gMRef : Prop := Tri prog w a m l (getMethod (.ref L) y pl) Qm
abbrev gM {y : String} : Prop := Tri prog w a m l (getMethod v (Str.ofString y) pl) Qm
abbrev gA {y : String} : Prop := Tri prog w a m l (getAttr v (Str.ofString y) bb) Qv
abbrev gARef : Prop := Tri prog w a m l (getAttr (.ref L) y bb) Qv
abbrev gPl : Prop := Tri prog w a m l (getMethod v y pl) Qm
abbrev gSl {o : Value} {α : Type} {t : Sem α} {Q : α → Loc → Led → Prop} : Prop := Tri prog w a m ((L, sliceObj v o) :: l) t Q
abbrev gAny {α : Type} {t : Sem α} {Q : α → Loc → Led → Prop} : Prop := Tri prog w a m l t Q
abbrev gCut {o : BoolOp} : Prop := Tri prog w a m l (eval (.Subscript e (.Slice none (some (.BoolOp o es p)) none p2) p3) env) Qv
end
local macro_rules | `(tactic| walk_at "mem") => `(tactic| first | exact List.Mem.head _ | (refine List.Mem.tail _ ?_; walk_at "mem") | assumption)
local macro_rules | `(tactic| walk_at "put") => `(tactic| first | exact Put.head | (refine Put.tail ?_; walk_at "put"))
local macro_rules | `(tactic| walk_at "size") => `(tactic| first | assumption | (simp only [sizeLine_eq, S_length, List.length_cons, List.length_nil, List.length_append, List.length_set, List.length_drop, List.length_take, List.length_reverse]; omega))
local macro_rules | `(tactic| walk_at "mul") => `(tactic| first | exact IntMulOk.of_left (intBits_le_64 (by decide) (by decide)) | exact IntMulOk.of_right (intBits_le_64 (by decide) (by decide)))
local macro_rules | `(tactic| walk_at "own") => `(tactic| (refine' Tri.getOwn (Ok.kin (by assumption)) ?hx ?hd ?hg ?hh ?ha ?hn ?hl ?hv ?_; (case hx => walk_at "mem"); (case hd => walk_at "mem"); (case hg => k_is); (case hh => k_is); (case ha => k_is); (case hn => k_is); (case hl => first | exact getL_rv _ (by assumption) | exact getL_dA _ _ | exact getL_po _ _ | exact getL_fi _ _ | rfl); (case hv => first | rfl | assumption)))
local macro_rules | `(tactic| walk_at "slot") => `(tactic| (refine' Tri.getSlot (by first | exact Ok.kin (by assumption) | exact OkC.kin (by assumption)) ?hx ?hd ?hg ?hc ?ha ?hn ?ht ?hp ?hv ?hh ?_; (case hx => walk_at "mem"); (case hd => walk_at "mem"); (case hg => k_is); (case hc => k_is); (case ha => k_is); (case hn => k_is); (case ht => k_is); (case hp => k_is); (case hv => rfl); (case hh => first | rfl | assumption)))
local macro_rules | `(tactic| walk_at "bi") => `(tactic| with_reducible first | exact bi_len | exact bi_min | exact bi_range | exact bi_list | exact bi_set | exact bi_iter | exact bi_tuple | exact bi_sorted | exact bi_divmod | exact bi_type | exact bi_int | exact bi_bool)
local macro_rules | `(tactic| walk_at "w1") => `(tactic| first
  | ((with_reducible show gExecs); with_reducible first | refine Tri.execs_cons ?_ | refine Tri.execs_nil ?_)
  | ((with_reducible show gExec); first
    | with_reducible first | refine Tri.If ?_ | refine Tri.Return_some ?_ | refine Tri.Return_none ?_
    | ((with_reducible show gAsName); refine Tri.Assign_Name ?_)
    | ((with_reducible show gAsSub); refine Tri.Assign_Sub ?_)
    | ((with_reducible show gAsTwo); refine Tri.Assign_two ?_)
    | ((with_reducible show gAsTup); first | refine Tri.Assign_Tuple ?_ | refine Tri.Assign_swap ?_)
    | ((with_reducible show gAsAttr); refine Tri.Assign_Attr ?_)
    | ((with_reducible show gExprS); refine Tri.ExprS ?_)
    | with_reducible first | refine Tri.AugAssign_Name ?_ | refine Tri.AugAssign_Attr ?_ | refine Tri.Delete1 ?_ | refine Tri.Pass ?_ | refine Tri.Break ?_ | refine Tri.Continue ?_)
  | ((with_reducible show gEval); first
    | ((with_reducible show gNameL); refine' Tri.nameL ?hv ?_ ?hk ?hx ?hd; (case hx => with_unfolding_all rfl); (case hk => rfl); (case hd => decide); (case hv => rfl))
    | ((with_reducible show gName); first | refine Tri.nameK (by assumption) (by k_is) ?_ | refine Tri.nameB (by assumption) (by k_is) (by walk_at "bi") ?_)
    | ((with_reducible show gAttr); refine Tri.Attribute ?_)
    | ((with_reducible show gDict); refine Tri.dictD (Top.nolimit (Ok.top (by assumption))) fun _ _ _ _ => ?_)
    | ((with_reducible show gCmp); refine Tri.Compare1 ?_)
    | ((with_reducible show gMeth); refine Tri.method ?_)
    | ((with_reducible show gCall); refine Tri.Call ?_)
    | with_reducible first | refine Tri.NamedExpr ?_ | refine Tri.Constant_int fun _ => ?_ | refine Tri.Constant_none ?_ | refine Tri.Constant_bool ?_ | refine Tri.Constant_str fun _ => ?_ | refine Tri.BinOp ?_ | refine Tri.UnaryOp ?_ | refine Tri.IfExp ?_ | refine Tri.Subscript ?_ | refine Tri.Slice ?_ | refine Tri.Or2 ?_ | refine Tri.And2 ?_ | refine Tri.listD ?_ | refine Tri.tupD ?_)
  | ((with_reducible show gTrue); first
    | ((with_reducible show gTrueCmp); refine Tri.isTrue_Compare1 ?_)
    | with_reducible first | refine Tri.isTrue_Not ?_ | refine Tri.isTrue_BoolOp ?_
    | refine Tri.isTrue_value ?_)
  | with_reducible first | refine Tri.truthy_bool ?_ | refine Tri.allTrue_And_nil ?_ | refine Tri.allTrue_And_cons ?_ | refine Tri.allTrue_Or_nil ?_ | refine Tri.allTrue_Or_cons ?_ | refine Tri.eq_int ?_ | refine Tri.ne_int ?_ | refine Tri.lt_int ?_ | refine Tri.gt_int ?_ | refine Tri.le_int ?_ | refine Tri.ge_int ?_ | refine Tri.eq_str ?_ | refine Tri.add_int fun _ => ?_ | refine Tri.sub_int fun _ => ?_ | refine Tri.iadd_int fun _ => ?_ | refine Tri.isub_int fun _ => ?_ | refine Tri.is_none ?_ | refine Tri.isNot_none ?_ | refine Tri.truthy_int ?_ | refine Tri.truthy_none ?_ | refine Tri.part_none ?_ | refine Tri.part_some ?_ | refine Tri.items_nil ?_ | refine Tri.assign_Name ?_ | refine Tri.assign_Sub ?_ | refine Tri.bindName ?_ | refine Tri.inOrder_nil ?_ | refine Tri.inOrder_cons ?_
  | ((with_reducible show gMul); refine Tri.mul_int (fun _ => ?_) (by walk_at "mul"))
  | ((with_reducible show gTruS); refine Tri.truthy_str (by walk_at "size") ?_)
  | ((with_reducible show gItems); refine Tri.items_cons ?_)
  | ((with_reducible show gStore); refine Tri.storeL ?_)
  | ((with_reducible show gLoad); refine Tri.loadL (by rfl) ?_)
  | ((with_reducible show gList); refine Tri.newList (by walk_at "size") fun _ => ?_)
  | ((with_reducible show gTuple); refine Tri.newTuple (by walk_at "size") fun _ => ?_)
  | ((with_reducible show gWith); first
     | refine Tri.withB0 ?_ | refine Tri.withB ?_ | refine Tri.withT0 ?_ | refine Tri.withT ?_
     | refine Tri.withK (by assumption) (by k_is) ?_ | refine Tri.withK0 (by assumption) (by k_is) ?_)
  | ((with_reducible show gB (b := "len")); first | refine Tri.len_str (by walk_at "size") fun _ => ?_ | refine Tri.len_list (by walk_at "mem") (by walk_at "size") fun _ => ?_ | refine Tri.len_tup (by walk_at "mem") (by walk_at "size") fun _ => ?_)
  | ((with_reducible show gB (b := "min")); refine Tri.min2 (Ok.handled (by assumption)) fun _ => ?_)
  | ((with_reducible show gB (b := "str.lower")); refine Tri.lower (by first | omega | (simp only [S_length]; omega)) fun _ => ?_)
  | ((with_reducible show gLower); refine Tri.getM_str PySem.F.slot_str_lower PySem.F.type_str_lower ?_)
  | ((with_reducible show gMRef); first
     | ((with_reducible show gM (y := "append")); refine Tri.getM_append (by walk_at "mem") ?_)
     | ((with_reducible show gM (y := "pop")); refine Tri.getM_pop (by walk_at "mem") ?_)
     | ((with_reducible show gM (y := "clear")); refine Tri.getM_clear (by walk_at "mem") ?_)
     | (refine' Tri.getM_inst (Ok.kin (by assumption)) ?hx ?hd ?hg ?hf ?ht ?hl ?_; (case hx => walk_at "mem"); (case hd => walk_at "mem"); (case hg => k_is); (case hf => k_is); (case ht => k_is); (case hl => rfl)))
  | ((with_reducible show gARef); first
     | ((with_reducible first | show gA (y := "_node2info") | show gA (y := "_ready_nodes") | show gA (y := "_npassedout") | show gA (y := "_nfinished")); walk_at "own")
     | walk_at "slot")
  | (intro sl; with_reducible show gSl (L := sl))
  | (intro pl; with_reducible show gPl (pl := pl))
  | ((with_reducible refine ⟨fun hb => ?_, fun hb => ?_⟩) <;> (try (first | exact (Bool.false_ne_true hb).elim | exact (Bool.false_ne_true hb.symm).elim)))
  | ((fail_if_success (with_reducible show gAny)); dsimp only))
local macro_rules | `(tactic| walk_at "w-stop") => `(tactic| ((fail_if_success (with_reducible show gCut)); walk_at "w1"))

noncomputable def hdView : Program := view PySem.Challenge.rw_mq0363_02.prog [0, 2, 3, 4, 5, 6, 8, 9, 10, 11, 12, 14, 15, 16, 17, 18, 19]
local macro_rules | `(tactic| o_law) => `(tactic| refine holds_law (by kernel_rfl) fun said => ?_)
local macro_rules | `(tactic| o_head $H) => `(tactic| (refine holds_open (q := hdView) (loose := ["_NodeInfo"]) (Xt := fun s => xlAt hdView [] s && recOk (RowW.records (OpenRow.toRowW (OpenLaw.row PySem.Challenge.rw_mq0363_02))) s) (XP := XL hdView []) (Yf := Hook.obs $H) (Ya := Hook.val $H) (YP := Hook.says $H) (N := 2836) ?hl (Hook.of $H) (Hook.keeps $H) (fun s e => xl_of s (Bool.and_eq_true_iff.mp e).1) XL.keeps (by rfl) (by rfl) (by rfl) (fun s e => recFacts_of (Bool.and_eq_true_iff.mp e).2) (by rfl) (by first | assumption | decide +kernel) (by kernel_rfl) ⟨rfl, rfl, rfl, rfl, rfl, by decide +kernel⟩ ?hw ?hc; (case hl => exact fun w => by kernel_rfl)))
open_top hd for PySem.Challenge.rw_mq0363_02

section
variable {w : World} {mean : ExcName → Option Value} {mg mb : Str → Option Value} {a : Act} {env : Env} {n : Nat} {m : Loc} {l : Led} {Q : VQ}
abbrev OkP (w : World) (mean : ExcName → Option Value) (mg mb : Str → Option Value) := Ok (hd.heap_1 w.params) hdView (looseW hdView [Str.ofString "_NodeInfo"]) mean mg mb
theorem sub_cost {x y : Str} {tx ty : Tok} (hx : x.length ≤ 1000) (hy : y.length ≤ 1000)
    (ok : Ok (hd.heap_1 w.params) hdView (looseW hdView [Str.ofString "_NodeInfo"]) mean mg mb a env (n + 1)) (h : ∀ t, Q (.int (subCost x y) t) m l) :
    Tri Challenge.rw_mq0363_02.row.prog w a m l (call (.ref 28) [.str x tx, .str y ty]) Q := by
  revert ok; k_fill; intro ok
  refine Tri.callFn (binds := [("ch_a", .str x tx), ("ch_b", .str y ty)]) ok (by k_is) (by k_is) (fun s _ => BindsTo.of_eq rfl) (locs rfl) (fun b okb => ?_) rfl rfl rfl (by decide)
  show Tri _ _ _ (lcl [("ch_b", .str y ty), ("ch_a", .str x tx)]) _ _ _
  repeat' walk_at "w1"
  · rename (x == y) = true => h1
    have e : subCost x y = 0 := by unfold subCost; rw [if_pos (by simpa using h1)]
    rw [← e]; exact ⟨_, Sub.refl _, h _⟩
  · rename (x == y) = false => h1
    rename (Txt.lower x == Txt.lower y) = true => h2
    have e : subCost x y = 1 := by unfold subCost; rw [if_neg (by simpa using h1), if_pos (by simpa using h2)]
    rw [← e]; exact ⟨_, Sub.refl _, h _⟩
  · rename (x == y) = false => h1
    rename (Txt.lower x == Txt.lower y) = false => h2
    have e : subCost x y = 2 := by unfold subCost; rw [if_neg (by simpa using h1), if_neg (by simpa using h2)]
    rw [← e]; exact ⟨_, Sub.refl _, h _⟩
theorem lev {x y : List Nat} {c : Int} {tx ty tc : Tok} (hx : x.length ≤ 100) (hy : y.length ≤ 100)
    (ok : Ok (hd.heap_1 w.params) hdView (looseW hdView [Str.ofString "_NodeInfo"]) mean mg mb a env (n + 2)) (h : ∀ t, Q (.int (levPy x y c) t) m l) :
    Tri Challenge.rw_mq0363_02.row.prog w a m l (call (.ref 35) [.str (S x) tx, .str (S y) ty, .int c tc]) Q := by
  revert ok; k_fill; intro ok
  refine Tri.callFn (binds := [("a", .str (S x) tx), ("b", .str (S y) ty), ("max_cost", .int c tc)]) ok (by k_is) (by k_is) (fun s _ => BindsTo.of_eq rfl) (locs rfl) (fun b okb => ?_) rfl rfl rfl (by decide)
  show Tri _ _ _ (lcl [("max_cost", .int c tc), ("b", .str (S y) ty), ("a", .str (S x) tx)]) _ _ _
  repeat' walk_at "w1"
  · rename (S x == S y) = true => hb
    rw [S_beq] at hb
    have e : levPy x y c = 0 := by unfold levPy; rw [if_pos (by simpa using hb)]
    rw [← e]; exact ⟨_, Sub.refl _, h _⟩
  rename (S x == S y) = false => hb
  rw [S_beq] at hb
  have hxy : x ≠ y := by simpa using hb
  rename_i t0
  refine Tri.mono (Q := fun f m' l' => f = .next ∧ ∃ (k : Nat) (t : Tok) (ex : List (Str × Value)), m' = lclx [("max_cost", .int c tc), ("b", .str (S y) ty), ("a", .str (S x) tx), ("pre", .int k t)] ex ∧ l' = l ∧ preStrip x y = (x.drop k, y.drop k)) ?loop1 ?cont1
  case loop1 =>
    refine Tri.While (fun q m' l' => ∃ (k : Nat) (t : Tok) (ex : List (Str × Value)), m' = lclx [("max_cost", .int c tc), ("b", .str (S y) ty), ("a", .str (S x) tx), ("pre", .int k t)] ex ∧ l' = l ∧ k ≤ x.length ∧ k ≤ y.length ∧ x.take k = y.take k ∧ q = x.length - k) x.length ⟨0, t0, _, lcl_norm ⟨rfl, rfl, rfl, rfl, trivial⟩, rfl, Nat.zero_le _, Nat.zero_le _, rfl, rfl⟩ ?_
    rintro q m' l' ⟨k, t, ex, rfl, rfl, hkx, hky, htk, rfl⟩
    have hps := preStrip_take k x y hkx hky htk
    refine Tri.gen3 fun Q1 Q2 hQ1 hQ2 => ?_
    repeat' walk_at "w1"
    refine Tri.slS_from k rfl (by walk_at "size") fun t1 => ?_
    repeat' walk_at "w1"
    · refine Tri.slS_from k rfl (by walk_at "size") fun t2 => ?_
      repeat' walk_at "w1"
      · rename (((S (x.drop k)).length : Int) != 0) = true => h1
        rename (((S (y.drop k)).length : Int) != 0) = true => h2
        rw [S_length] at h1 h2
        have h1' : k < x.length := by simp at h1; omega
        have h2' : k < y.length := by simp at h2; omega
        refine Tri.itS k x[k] rfl (by simp [h1']) (by walk_at "size") fun t3 => ?_
        repeat' walk_at "w1"
        refine Tri.itS k y[k] rfl (by simp [h2']) (by walk_at "size") fun t4 => ?_
        repeat' walk_at "w1"
        · rename (S [x[k]] == S [y[k]]) = true => h3
          rw [S_beq] at h3
          refine hQ1 _ _ _ ?_
          refine ⟨x.length - (k + 1), _, by omega, Sub.refl _, k + 1, _, _, lcl_norm ⟨rfl, rfl, rfl, rfl, trivial⟩, rfl, h1', h2', ?_, rfl⟩
          have h3' : x[k] = y[k] := by simpa using h3
          rw [List.take_add_one, List.take_add_one, htk, List.getElem?_eq_getElem h1', List.getElem?_eq_getElem h2', h3']
        · rename (S [x[k]] == S [y[k]]) = false => h3
          rw [S_beq] at h3
          refine hQ2 _ _ _ ?_
          refine ⟨rfl, k, t, ex, rfl, rfl, ?_⟩
          rw [hps, List.drop_eq_getElem_cons h1', List.drop_eq_getElem_cons h2']
          exact preStrip_ne (by simpa using h3)
      · rename (((S (y.drop k)).length : Int) != 0) = false => h2
        rw [S_length] at h2
        refine hQ2 _ _ _ ?_
        refine ⟨rfl, k, t, ex, rfl, rfl, ?_⟩
        have : y.drop k = [] := by rw [List.drop_eq_nil_iff]; simp at h2; omega
        rw [hps, this, preStrip_nil_right]
    · rename (((S (x.drop k)).length : Int) != 0) = false => h1
      rw [S_length] at h1
      refine hQ2 _ _ _ ?_
      refine ⟨rfl, k, t, ex, rfl, rfl, ?_⟩
      have : x.drop k = [] := by rw [List.drop_eq_nil_iff]; simp at h1; omega
      rw [hps, this, preStrip_nil_left]
  rintro f m' l' ⟨rfl, k, t, ex, rfl, rfl, hps⟩
  dsimp only
  repeat' walk_at "w1"
  refine Tri.slS_from k rfl (by walk_at "size") fun t1 => ?_
  repeat' walk_at "w1"
  refine Tri.slS_from k rfl (by walk_at "size") fun t2 => ?_
  have hx1 : (x.drop k).length ≤ 100 := by simp; omega
  have hy1 : (y.drop k).length ≤ 100 := by simp; omega
  generalize hX : x.drop k = x1 at *
  generalize hY : y.drop k = y1 at *
  repeat' walk_at "w1"
  rename_i t3
  refine Tri.mono (Q := fun f m' l'' => f = .next ∧ ∃ (j : Nat) (u : Tok) (ex : List (Str × Value)), m' = lclx [("max_cost", .int c tc), ("b", .str (S y1) t2), ("a", .str (S x1) t1), ("post", .int (-(j : Int)) u)] ex ∧ l'' = l' ∧ j ≤ x1.length ∧ j ≤ y1.length ∧ preStrip x1.reverse y1.reverse = (x1.reverse.drop j, y1.reverse.drop j)) ?loop2 ?cont2
  case loop2 =>
    refine Tri.While (fun q m' l'' => ∃ (j : Nat) (u : Tok) (ex : List (Str × Value)), m' = lclx [("max_cost", .int c tc), ("b", .str (S y1) t2), ("a", .str (S x1) t1), ("post", .int (-(j : Int)) u)] ex ∧ l'' = l' ∧ j ≤ x1.length ∧ j ≤ y1.length ∧ x1.reverse.take j = y1.reverse.take j ∧ q = x1.length - j) x1.length ⟨0, t3, _, lcl_norm ⟨rfl, rfl, rfl, rfl, trivial⟩, rfl, Nat.zero_le _, Nat.zero_le _, rfl, rfl⟩ ?_
    rintro q m' l'' ⟨j, u, ex2, rfl, rfl, hkx, hky, htk, rfl⟩
    have hps2 := preStrip_take j x1.reverse y1.reverse (by simpa using hkx) (by simpa using hky) htk
    refine Tri.gen3 fun Q1 Q2 hQ1 hQ2 => ?_
    repeat' walk_at "w-stop"
    refine Tri.valS (S (x1.take (x1.length - j))) ?_ fun t4 => ?_
    · repeat' walk_at "w1"
      · rename (-(j : Int) != 0) = true => hj
        refine Tri.slS_but j rfl (by simp at hj; omega) hkx (by walk_at "size") fun t5 => ⟨⟨_, rfl⟩, rfl, rfl⟩
      · rename (-(j : Int) != 0) = false => hj
        have : j = 0 := by simp at hj; omega
        subst this
        refine Tri.slS_all (by walk_at "size") fun t5 => ⟨⟨t5, by simp⟩, rfl, rfl⟩
    repeat' walk_at "w-stop"
    · refine Tri.valS (S (y1.take (y1.length - j))) ?_ fun t4 => ?_
      · repeat' walk_at "w1"
        · rename (-(j : Int) != 0) = true => hj
          refine Tri.slS_but j rfl (by simp at hj; omega) hky (by walk_at "size") fun t5 => ⟨⟨_, rfl⟩, rfl, rfl⟩
        · rename (-(j : Int) != 0) = false => hj
          have : j = 0 := by simp at hj; omega
          subst this
          refine Tri.slS_all (by walk_at "size") fun t5 => ⟨⟨t5, by simp⟩, rfl, rfl⟩
      repeat' walk_at "w-stop"
      · rename (((S (x1.take (x1.length - j))).length : Int) != 0) = true => h1
        rename (((S (y1.take (y1.length - j))).length : Int) != 0) = true => h2
        rw [S_length] at h1 h2
        have h1' : j < x1.length := by simp at h1; omega
        have h2' : j < y1.length := by simp at h2; omega
        have g1 : x1.length - (j + 1) < x1.length := by omega
        have g2 : y1.length - (j + 1) < y1.length := by omega
        refine Tri.itS_neg (j + 1) x1[x1.length - (j + 1)] (by omega) (by omega) h1' (by simp [g1]) (by walk_at "size") fun t3 => ?_
        repeat' walk_at "w1"
        refine Tri.itS_neg (j + 1) y1[y1.length - (j + 1)] (by omega) (by omega) h2' (by simp [g2]) (by walk_at "size") fun t4 => ?_
        have e1 : x1.reverse[j]? = some x1[x1.length - (j + 1)] := by
          rw [List.getElem?_reverse h1']
          simp only [show x1.length - 1 - j = x1.length - (j + 1) by omega]
          simp [g1]
        have e2 : y1.reverse[j]? = some y1[y1.length - (j + 1)] := by
          rw [List.getElem?_reverse h2']
          simp only [show y1.length - 1 - j = y1.length - (j + 1) by omega]
          simp [g2]
        repeat' walk_at "w1"
        · rename (S [x1[x1.length - (j + 1)]] == S [y1[y1.length - (j + 1)]]) = true => h3
          rw [S_beq] at h3
          have h3' : x1[x1.length - (j + 1)] = y1[y1.length - (j + 1)] := by simpa using h3
          rename_i u2
          refine hQ1 _ _ _ ?_
          refine ⟨x1.length - (j + 1), _, by omega, Sub.refl _, j + 1, u2, _, lcl_norm ⟨rfl, rfl, rfl, ?_, trivial⟩, rfl, h1', h2', ?_, rfl⟩
          · have : (-(j : Int) - 1) = -((j + 1 : Nat) : Int) := by omega
            rw [← this]; rfl
          rw [List.take_add_one, List.take_add_one, htk, e1, e2, h3']
        · rename (S [x1[x1.length - (j + 1)]] == S [y1[y1.length - (j + 1)]]) = false => h3
          rw [S_beq] at h3
          refine hQ2 _ _ _ ?_
          refine ⟨rfl, j, u, ex2, rfl, rfl, hkx, hky, ?_⟩
          have d1 : x1.reverse.drop j = x1[x1.length - (j + 1)] :: x1.reverse.drop (j + 1) := by
            have hl : j < x1.reverse.length := by simpa using h1'
            rw [List.drop_eq_getElem_cons hl]
            have := e1; rw [List.getElem?_eq_getElem hl] at this
            rw [Option.some.inj this]
          have d2 : y1.reverse.drop j = y1[y1.length - (j + 1)] :: y1.reverse.drop (j + 1) := by
            have hl : j < y1.reverse.length := by simpa using h2'
            rw [List.drop_eq_getElem_cons hl]
            have := e2; rw [List.getElem?_eq_getElem hl] at this
            rw [Option.some.inj this]
          rw [hps2, d1, d2]
          exact preStrip_ne (by simpa using h3)
      · rename (((S (y1.take (y1.length - j))).length : Int) != 0) = false => h2
        rw [S_length] at h2
        refine hQ2 _ _ _ ?_
        refine ⟨rfl, j, u, ex2, rfl, rfl, hkx, hky, ?_⟩
        have : y1.reverse.drop j = [] := by rw [List.drop_eq_nil_iff]; simp at h2 ⊢; omega
        rw [hps2, this, preStrip_nil_right]
    · rename (((S (x1.take (x1.length - j))).length : Int) != 0) = false => h1
      rw [S_length] at h1
      refine hQ2 _ _ _ ?_
      refine ⟨rfl, j, u, ex2, rfl, rfl, hkx, hky, ?_⟩
      have : x1.reverse.drop j = [] := by rw [List.drop_eq_nil_iff]; simp at h1 ⊢; omega
      rw [hps2, this, preStrip_nil_left]
  rintro f m' l'' ⟨rfl, j, u, ex2, rfl, rfl, hkx, hky, hps2⟩
  dsimp only
  repeat' walk_at "w-stop"
  refine Tri.valS (S (x1.take (x1.length - j))) ?_ fun t4 => ?_
  · repeat' walk_at "w1"
    · rename (-(j : Int) != 0) = true => hj
      refine Tri.slS_but j rfl (by simp at hj; omega) hkx (by walk_at "size") fun t5 => ⟨⟨_, rfl⟩, rfl, rfl⟩
    · rename (-(j : Int) != 0) = false => hj
      have : j = 0 := by simp at hj; omega
      subst this
      refine Tri.slS_all (by walk_at "size") fun t5 => ⟨⟨t5, by simp⟩, rfl, rfl⟩
  repeat' walk_at "w-stop"
  refine Tri.valS (S (y1.take (y1.length - j))) ?_ fun t5 => ?_
  · repeat' walk_at "w1"
    · rename (-(j : Int) != 0) = true => hj
      refine Tri.slS_but j rfl (by simp at hj; omega) hky (by walk_at "size") fun t5 => ⟨⟨_, rfl⟩, rfl, rfl⟩
    · rename (-(j : Int) != 0) = false => hj
      have : j = 0 := by simp at hj; omega
      subst this
      refine Tri.slS_all (by walk_at "size") fun t5 => ⟨⟨t5, by simp⟩, rfl, rfl⟩
  have hq : postStrip x1 y1 = (x1.take (x1.length - j), y1.take (y1.length - j)) := by
    unfold postStrip
    rw [hps2]
    simp [List.drop_reverse]
  have hx2 : (x1.take (x1.length - j)).length ≤ 100 := by simp; omega
  have hy2 : (y1.take (y1.length - j)).length ≤ 100 := by simp; omega
  generalize x1.take (x1.length - j) = x2 at *
  generalize y1.take (y1.length - j) = y2 at *
  have hlev : levPy x y c = (if x2 = [] ∨ y2 = [] then 2 * ((x2.length : Int) + y2.length)
    else if 40 < x2.length ∨ 40 < y2.length then c + 1
    else if y2.length < x2.length then levCore y2 x2 c else levCore x2 y2 c) := by
    unfold levPy
    rw [if_neg hxy, hps]
    dsimp only
    rw [hq]
  clear hq hps2 hps hX hY
  repeat' ((fail_if_success (with_reducible show Tri _ _ _ _ _ (PySem.exec (Stmt.If _ [Stmt.Assign [Expr.Tuple _ _ _] _ _] _ _) _) _)); walk_at "w1")
  · rename (!((S x2).length : Int) != 0) = true => h1
    have : x2 = [] := by rw [S_length] at h1; simpa using h1
    subst this
    rw [S_length, S_length]
    have := h
    rw [hlev, if_pos (.inl rfl)] at this
    exact ⟨_, Sub.refl _, this _⟩
  · rename (!((S y2).length : Int) != 0) = true => h1
    have : y2 = [] := by rw [S_length] at h1; simpa using h1
    subst this
    rw [S_length, S_length]
    have := h
    rw [hlev, if_pos (.inr rfl)] at this
    exact ⟨_, Sub.refl _, this _⟩
  all_goals
    have h1 : ¬ (x2 = [] ∨ y2 = []) := by
      rename (!((S x2).length : Int) != 0) = false => g1
      rename (!((S y2).length : Int) != 0) = false => g2
      rw [S_length] at g1 g2
      rintro (rfl | rfl) <;> simp at g1 g2
    rw [if_neg h1] at hlev
  · rename decide ((40 : Int) < ((S x2).length : Int)) = true => h2
    rw [S_length] at h2
    rw [if_pos (.inl (by simp at h2; omega))] at hlev
    rw [← hlev]; exact ⟨_, Sub.refl _, h _⟩
  · rename decide ((40 : Int) < ((S y2).length : Int)) = true => h2
    rw [S_length] at h2
    rw [if_pos (.inr (by simp at h2; omega))] at hlev
    rw [← hlev]; exact ⟨_, Sub.refl _, h _⟩
  have h2 : ¬ (40 < x2.length ∨ 40 < y2.length) := by
    rename decide ((40 : Int) < ((S x2).length : Int)) = false => g1
    rename decide ((40 : Int) < ((S y2).length : Int)) = false => g2
    rw [S_length] at g1 g2
    simp at g1 g2
    omega
  rw [if_neg h2] at hlev
  refine Tri.mono (Q := fun f m' l3 => f = .next ∧ ∃ (x3 y3 : List Nat) (ta tb : Tok) (ex : List (Str × Value)), m' = lclx [("max_cost", .int c tc), ("b", .str (S y3) tb), ("a", .str (S x3) ta)] ex ∧ l3 = l'' ∧ x3.length ≤ 40 ∧ y3.length ≤ 40 ∧ levPy x y c = levCore x3 y3 c) ?swap ?cont3
  case swap =>
    repeat' walk_at "w1"
    · refine Tri.unpackT (Ok.handled (by assumption)) rfl ?_
      rename decide (((S y2).length : Int) < ((S x2).length : Int)) = true => g1
      rw [S_length, S_length] at g1
      show Tri _ _ _ _ _ (assignInOrder [PySem.bindName _ _, PySem.bindName _ _] [_, _]) _
      repeat' walk_at "w1"
      refine ⟨rfl, y2, x2, _, _, _, lcl_norm ⟨rfl, rfl, rfl, trivial⟩, rfl, by omega, by omega, ?_⟩
      rw [hlev, if_pos (by simp at g1; omega)]
    · rename decide (((S y2).length : Int) < ((S x2).length : Int)) = false => g1
      rw [S_length, S_length] at g1
      refine ⟨rfl, x2, y2, _, _, _, lcl_norm ⟨rfl, rfl, rfl, trivial⟩, rfl, by omega, by omega, ?_⟩
      rw [hlev, if_neg (by simp at g1; omega)]
  rintro f m' l3 ⟨rfl, x3, y3, ta, tb, ex3, rfl, rfl, hx3, hy3, hl3⟩
  clear hlev h1 h2
  repeat' walk_at "w1"
  · rename decide (c < (((S y3).length : Int) - ((S x3).length : Int)) * 2) = true => g1
    rw [S_length, S_length] at g1
    have e : levPy x y c = c + 1 := by rw [hl3]; unfold levCore; rw [if_pos (by simpa using g1)]
    rw [← e]; exact ⟨_, Sub.refl _, h _⟩
  have hcore : levPy x y c = outer x3 c y3 0 (row0 x3.length) 0 := by
    rename decide (c < (((S y3).length : Int) - ((S x3).length : Int)) * 2) = false => g1
    rw [S_length, S_length] at g1
    rw [hl3]; unfold levCore; rw [if_neg (by simpa using g1)]
  refine Tri.range3 (by decide) (by decide) fun r => ?_
  repeat' walk_at "w1"
  refine Tri.listRange (n := x3.length) (Ok.handled (by assumption)) (by rw [S_length]; exact small_two (by omega)) (by rw [S_length]; exact size_two _) (by omega) fun D ys nn hys => ?_
  repeat' walk_at "w1"
  refine Tri.For ?_
  repeat' walk_at "w1"
  refine Tri.range1 fun r2 t6 t7 => ?_
  refine Tri.iter_rangeH y3.length (by rw [S_length]; split <;> omega) (by decide) (by decide) (by rw [S_length]; omega) (by rw [S_length]; omega) fun I => ?_
  refine for_range0 (Ok.handled (by assumption)) ⟨_, _, rfl⟩ (fun i m' l4 => ∃ (vs : List Value) (ns : List Int) (res : Int) (tr : Tok) (ex : List (Str × Value)), m' = lclx [("max_cost", .int c tc), ("b", .str (S y3) tb), ("a", .str (S x3) ta), ("row", .ref D), ("result", .int res tr)] ex ∧ l4 = (D, lstO vs nn) :: l3 ∧ IntsAre vs ns ∧ ns.length = x3.length ∧ outer x3 c y3 0 (row0 x3.length) 0 = outer x3 c (y3.drop i) i ns res) ?_ ?_ ?_
  · exact ⟨ys, row0 x3.length, 0, _, _, lcl_norm ⟨rfl, rfl, rfl, rfl, rfl, trivial⟩, rfl, hys, by simp [row0, rangeInts], rfl⟩
  · rintro i t8 o m' l4 hi ⟨vs, ns, res, tr, ex4, rfl, rfl, hvs, hns, hout⟩
    have hvl : vs.length = x3.length := by rw [hvs.length, hns]
    refine Tri.gen1 fun Q1 hQ1 => ?_
    repeat' walk_at "w1"
    refine Tri.itS i y3[i] (by omega) (by simp [hi]) (by walk_at "size") fun t9 => ?_
    repeat' walk_at "w1"
    refine Tri.mono (Q := fun f m' l5 => f = .next ∧ ∃ (vs' : List Value) (ns' : List Int) (res' mn' : Int) (tr' tm' : Tok) (ex : List (Str × Value)), m' = lclx [("max_cost", .int c tc), ("b", .str (S y3) tb), ("a", .str (S x3) ta), ("row", .ref D), ("result", .int res' tr'), ("minimum", .int mn' tm')] ex ∧ l5 = (I, o) :: (D, lstO vs' nn) :: l3 ∧ IntsAre vs' ns' ∧ ns'.length = x3.length ∧ inner y3[i] x3 ns ((i : Int) * 2) ((i : Int) * 2) big = (ns', res', mn')) ?in1 ?cont4
    case in1 =>
      refine Tri.For ?_
      repeat' walk_at "w1"
      refine Tri.range1 fun r3 t6 t7 => ?_
      refine Tri.iter_rangeH x3.length (by rw [S_length]; split <;> omega) (by decide) (by decide) (by rw [S_length]; omega) (by rw [S_length]; omega) fun I2 => ?_
      refine for_range0 (Ok.handled (by assumption)) ⟨_, _, rfl⟩ (fun j m' l5 => ∃ (vs' : List Value) (ns' : List Int) (d res' mn' : Int) (td tr' tm' : Tok) (ex : List (Str × Value)), m' = lclx [("max_cost", .int c tc), ("b", .str (S y3) tb), ("a", .str (S x3) ta), ("row", .ref D), ("bchar", .str (S [y3[i]]) t9), ("distance", .int d td), ("result", .int res' tr'), ("minimum", .int mn' tm')] ex ∧ l5 = (I, o) :: (D, lstO vs' nn) :: l3 ∧ IntsAre vs' ns' ∧ ns'.length = x3.length ∧ inner y3[i] x3 ns ((i : Int) * 2) ((i : Int) * 2) big = ((ns'.take j) ++ (inner y3[i] (x3.drop j) (ns'.drop j) d res' mn').1, (inner y3[i] (x3.drop j) (ns'.drop j) d res' mn').2)) ?_ ?_ ?_
      · exact ⟨vs, ns, (i : Int) * 2, (i : Int) * 2, big, _, _, _, _, lcl_norm ⟨rfl, rfl, rfl, rfl, rfl, rfl, rfl, rfl, trivial⟩, rfl, hvs, hns, by simp⟩
      · rintro j t10 o2 m' l5 hj ⟨vs', ns', d, res', mn', td, tr', tm', ex5, rfl, rfl, hvs', hns', hin⟩
        have hvl' : vs'.length = x3.length := by rw [hvs'.length, hns']
        have hj' : j < ns'.length := by omega
        obtain ⟨tv, hv⟩ := hvs'.get j ns'[j] (by simp [hj'])
        refine Tri.gen1 fun Q2 hQ2 => ?_
        repeat' walk_at "w1"
        refine Tri.itS j x3[j] rfl (by simp [hj]) (by walk_at "size") fun t11 => ?_
        repeat' walk_at "w1"
        refine sub_cost (by simp [S_length]) (by simp [S_length]) okb fun t12 => ?_
        repeat' walk_at "w1"
        refine Tri.sub_list (by walk_at "mem") (by omega) (by walk_at "size") (by simpa using hv) ?_
        repeat' walk_at "w1"
        refine' Tri.set_list (Put.tail (Put.tail Put.head)) ?_ ?_ ?_ ?_
        · omega
        · omega
        · walk_at "size"
        have hstep := inner_step (y := y3[i]) d res' mn' (show x3[j]? = some x3[j] by simp [hj]) (show ns'[j]? = some ns'[j] by simp [hj'])
        rw [hstep] at hin
        repeat' walk_at "w1"
        · rename decide (min (min res' ns'[j] + 2) (d + subCost (S [y3[i]]) (S [x3[j]])) < mn') = true => g1
          have g1' : min (min res' ns'[j] + 2) (d + subC y3[i] x3[j]) < mn' := by simpa [subC] using g1
          dsimp only at hin
          rw [if_pos g1'] at hin
          refine hQ2 _ _ _ ?_
          refine ⟨_, Sub.refl _, _, ns'.set j (min (min res' ns'[j] + 2) (d + subC y3[i] x3[j])), ns'[j], _, _, _, _, _, _, lcl_norm ⟨rfl, rfl, rfl, rfl, rfl, rfl, rfl, rfl, trivial⟩, rfl, ?_, by simpa using hns', hin⟩
          simpa [subC] using ints_set hvs' j
        · rename decide (min (min res' ns'[j] + 2) (d + subCost (S [y3[i]]) (S [x3[j]])) < mn') = false => g1
          have g1' : ¬ min (min res' ns'[j] + 2) (d + subC y3[i] x3[j]) < mn' := by simpa [subC] using g1
          dsimp only at hin
          rw [if_neg g1'] at hin
          refine hQ2 _ _ _ ?_
          refine ⟨_, Sub.refl _, _, ns'.set j (min (min res' ns'[j] + 2) (d + subC y3[i] x3[j])), ns'[j], _, _, _, _, _, _, lcl_norm ⟨rfl, rfl, rfl, rfl, rfl, rfl, rfl, rfl, trivial⟩, rfl, ?_, by simpa using hns', hin⟩
          simpa [subC] using ints_set hvs' j
      · rintro m' l5 ⟨vs', ns', d, res', mn', td, tr', tm', ex5, rfl, rfl, hvs', hns', hin⟩
        repeat' walk_at "w1"
        refine ⟨rfl, vs', ns', res', mn', tr', tm', _, lcl_norm ⟨rfl, rfl, rfl, rfl, rfl, rfl, trivial⟩, rfl, hvs', hns', ?_⟩
        rw [hin, List.drop_length, ← hns', List.drop_length, List.take_length]
        simp [inner]
    rintro f m' l5 ⟨rfl, vs', ns', res', mn', tr', tm', ex5, rfl, rfl, hvs', hns', hin⟩
    have hstep : outer x3 c (y3.drop i) i ns res = if c < mn' then c + 1 else outer x3 c (y3.drop (i + 1)) (i + 1) ns' res' := by
      rw [List.drop_eq_getElem_cons hi]
      simp only [outer]
      rw [hin]
    rw [hstep] at hout
    repeat' walk_at "w1"
    · rename decide (c < mn') = true => g1
      rw [if_pos (by simpa using g1)] at hout
      have e : levPy x y c = c + 1 := by rw [hcore, hout]
      rw [← e]
      exact hQ1 _ _ _ ⟨l3, Sub.cons _ (Sub.cons _ (Sub.refl _)), h _⟩
    · rename decide (c < mn') = false => g1
      rw [if_neg (by simpa using g1)] at hout
      exact hQ1 _ _ _ ⟨_, Sub.refl _, vs', ns', res', _, _, lcl_norm ⟨rfl, rfl, rfl, rfl, rfl, trivial⟩, rfl, hvs', hns', hout⟩
  · rintro m' l4 ⟨vs, ns, res, tr, ex4, rfl, rfl, hvs, hns, hout⟩
    repeat' walk_at "w1"
    have e : levPy x y c = res := by rw [hcore, hout, List.drop_length]; rfl
    rw [← e]
    exact ⟨l3, Sub.cons _ (Sub.refl _), h _⟩
end

section
variable {w : World} {mean : ExcName → Option Value} {mg mb : Str → Option Value} {a : Act} {env : Env} {n : Nat} {m : Loc} {l : Led} {Q : VQ}
abbrev OkS (w : World) (mean : ExcName → Option Value) (mg mb : Str → Option Value) := Ok (hd.heap_1 w.params) hdView (looseW hdView [Str.ofString "_NodeInfo"]) mean mg mb
theorem mk_node {nv : Value} (ok : OkS w mean mg mb a env (n + 2)) (h : ∀ ia da sa t, Q (.ref ia) m ((ia, nodO da sa 0 t nv) :: (da, dictOf [] 0) :: (sa, lstO [] 0) :: l)) :
    Tri Challenge.rw_mq0363_02.row.prog w a m l (call (.ref 54) [nv]) Q := by
  unfold OkS at ok; revert ok; k_fill; intro ok
  refine Tri.callCls (binds := fun x => [("self", .ref x), ("node", nv)]) ok (by k_is) (by k_is) (by k_is) (by k_is) (by k_is) (fun x s _ => BindsTo.of_eq rfl) (fun x => locs rfl) (fun b x dx okb => ?_) rfl rfl rfl (by decide)
  show Tri _ _ _ (lcl [("node", nv), ("self", .ref x)]) _ _ _
  repeat' walk_at "w1"
  refine Tri.setSlot (sl' := #[some nv]) okb.kin (.tail _ (.head _)) (by k_is) (by k_is) (by k_is) (by k_is) (by k_is) (by decide) rfl Put.head ?_
  repeat' walk_at "w1"
  rename_i t
  refine Tri.setSlot (sl' := #[some nv, some (.int 0 t)]) okb.kin (.tail _ (.head _)) (by k_is) (by k_is) (by k_is) (by k_is) (by k_is) (by decide) rfl Put.head ?_
  repeat' walk_at "w1"
  rename_i sa
  refine Tri.setSlot (sl' := #[some nv, some (.int 0 t), some (.ref sa)]) okb.kin (.tail _ (.tail _ (.head _))) (by k_is) (by k_is) (by k_is) (by k_is) (by k_is) (by decide) rfl (Put.tail Put.head) ?_
  repeat' walk_at "w1"
  refine ⟨rfl, _, ?_, h x dx sa t⟩
  exact ⟨[], by simp; exact ((List.Perm.swap ..).cons _).trans (List.Perm.swap ..)⟩
theorem mk_sorter (ok : OkS w mean mg mb a env (n + 2)) (h : ∀ S : Srt, (S.dA == sysModules) = false → (∀ (κ : Type) [DecidableEq κ] (knd : KeyKind Challenge.rw_mq0363_02.row.prog w κ), S.oD.IsDictOf knd []) → S.rv = .none → S.po = 0 → S.fi = 0 → Q (.ref S.sA) m (sled w S l)) :
    Tri Challenge.rw_mq0363_02.row.prog w a m l (call (.ref 151) []) Q := by
  unfold OkS at ok; revert ok; k_fill; intro ok
  refine Tri.callCls (binds := fun x => [("self", .ref x), ("graph", .none)]) ok (by k_is) (by k_is) (by k_is) (by k_is) (by k_is) (fun x s X => binds_K X rfl (by k_is) rfl rfl rfl) (fun x => locs rfl) (fun b x dx okb => ?_) rfl rfl rfl (by decide)
  show Tri _ _ _ (lcl [("graph", .none), ("self", .ref x)]) _ _ _
  repeat' walk_at "w1"
  rename_i d oD hd1 hd2
  refine Tri.setOwn (es := []) (es' := fun t => [ent w "_node2info" t (.ref d)]) (nn' := 1) okb.kin (.tail _ (.head _)) (by k_is) (by k_is) (by k_is) (by k_is) rfl (fun t => rfl) (fun t => Put.tail (Put.tail Put.head)) (fun t => by simp) fun t1 => ?_
  repeat' walk_at "w1"
  refine Tri.setOwn (es := [ent w "_node2info" t1 (.ref d)]) (es' := fun t => [ent w "_node2info" t1 (.ref d), ent w "_ready_nodes" t .none]) (nn' := 2) okb.kin (.tail _ (.head _)) (by k_is) (by k_is) (by k_is) (by k_is) rfl (fun t => rfl) (fun t => Put.tail (Put.tail Put.head)) (fun t => by simp) fun t2 => ?_
  repeat' walk_at "w1"
  rename_i tp
  refine Tri.setOwn (es := [ent w "_node2info" t1 (.ref d), ent w "_ready_nodes" t2 .none]) (es' := fun t => [ent w "_node2info" t1 (.ref d), ent w "_ready_nodes" t2 .none, ent w "_npassedout" t (.int 0 tp)]) (nn' := 3) okb.kin (.tail _ (.head _)) (by k_is) (by k_is) (by k_is) (by k_is) rfl (fun t => rfl) (fun t => Put.tail (Put.tail Put.head)) (fun t => by simp) fun t3 => ?_
  repeat' walk_at "w1"
  rename_i tf
  refine Tri.setOwn (es := [ent w "_node2info" t1 (.ref d), ent w "_ready_nodes" t2 .none, ent w "_npassedout" t3 (.int 0 tp)]) (es' := fun t => [ent w "_node2info" t1 (.ref d), ent w "_ready_nodes" t2 .none, ent w "_npassedout" t3 (.int 0 tp), ent w "_nfinished" t (.int 0 tf)]) (nn' := 4) okb.kin (.tail _ (.head _)) (by k_is) (by k_is) (by k_is) (by k_is) rfl (fun t => rfl) (fun t => Put.tail (Put.tail Put.head)) (fun t => by simp) fun t4 => ?_
  repeat' walk_at "w1"
  refine ⟨rfl, _, ?_, h ⟨x, dx, d, oD, t1, t2, t3, t4, .none, 0, tp, 0, tf⟩ hd1 hd2 rfl rfl rfl⟩
  exact ⟨[], by simp only [List.append_nil]; exact ((List.Perm.swap ..).cons _).trans (List.Perm.swap ..)⟩
end

structure Good {prog : Program} {w : World} {κ : Type} [DecidableEq κ] (knd : KeyKind prog w κ) : Prop where
  hand : ∀ k v, knd.is k v = true → handedIn v = true
  scan : ∀ k v, knd.is k v = true → v.scannable = true
section
variable {w : World} {mean : ExcName → Option Value} {mg mb : Str → Option Value} {a : Act} {env : Env} {n : Nat} {m : Loc} {l : Led} {Q : VQ}
variable {κ : Type} [DecidableEq κ] {knd : KeyKind Challenge.rw_mq0363_02.row.prog w κ}
theorem get_info {S : Srt} {rows : List (Row κ)} {c : Nat} {k : κ} {kv : Value} (gd : Good knd) (so : SOk knd S rows c) (hc : c ≤ 3000) (hk : knd.is k kv = true) (ok : OkS w mean mg mb a env (n + 3))
    (h : ∀ (oD' : Obj) (rows' : List (Row κ)) (i : Nat) (r : Row κ), SOk knd { S with oD := oD' } rows' (c + 1) → rows'[i]? = some r → r.key = k → absR rows' = ensure k (absR rows) → Q (.ref r.ia) m (sled w { S with oD := oD' } (cells rows' ++ l))) :
    Tri Challenge.rw_mq0363_02.row.prog w a m (sled w S (cells rows ++ l)) (call (.ref 94) [.ref S.sA, kv]) Q := by
  unfold OkS at ok; revert ok; k_fill; intro ok
  refine Tri.callFn (binds := [("self", .ref S.sA), ("node", kv)]) ok (by k_is) (by k_is) (fun s _ => BindsTo.of_eq rfl) (locs rfl) (fun b okb => ?_) rfl rfl rfl (by decide)
  show Tri _ _ _ (lcl [("node", kv), ("self", .ref S.sA)]) _ _ _
  repeat' walk_at "w1"
  refine Tri.getM_dget (knd := knd) (by walk_at "mem") so.dic ?_
  repeat' walk_at "w1"
  refine Tri.dget (knd := knd) so.sys (by walk_at "mem") so.dic hk ?_
  rcases valueAt_kvs (rows := rows) (k := k) with ⟨i, r, hi, hr, hv⟩ | ⟨hn, hv⟩
  · rw [hv]
    repeat' walk_at "w1"
    exact ⟨_, Sub.refl _, h S.oD rows i r ⟨so.dic, so.sys, so.rok, Nat.le_succ_of_le so.len, fun r hr => Nat.le_succ_of_le (so.suc r hr)⟩ hi hr (ensure_old hi hr).symm⟩
  · rw [hv]
    repeat' walk_at "w1"
    refine mk_node okb fun ia da sa t => ?_
    refine Tri.assign_Sub ?_
    repeat' walk_at "w1"
    refine Tri.set_dict (knd := knd) so.dic (fun o' => Put.tail (Put.tail (Put.tail (Put.tail (Put.tail Put.head))))) hk (by have := so.len; simp only [kvs, List.length_map, sizeLine_eq]; omega) fun oD' hoD => ?_
    repeat' walk_at "w1"
    rw [stored_kvs hn] at hoD
    refine ⟨_, ?_, h oD' (rows ++ [⟨⟨k, 0, []⟩, kv, t, ia, da, sa, [], 0⟩]) rows.length ⟨⟨k, 0, []⟩, kv, t, ia, da, sa, [], 0⟩ ⟨?_, so.sys, ?_, ?_, ?_⟩ (by simp) rfl ?_⟩
    · refine ⟨[], ?_⟩
      rw [cells_append, List.append_nil, List.append_assoc]
      exact List.perm_append_comm_assoc ([(S.sA, insO 151 S.sD #[]), (S.sD, dictOf (S.es w) 4), (S.dA, oD')] ++ cells rows) (Row.cells ⟨⟨k, 0, []⟩, kv, t, ia, da, sa, [], 0⟩) l
    · simpa [kvs] using hoD
    · intro r hr
      rcases List.mem_append.mp hr with hr | hr
      · exact so.rok r hr
      · rw [List.mem_singleton.mp hr]
        exact ⟨hk, gd.hand _ _ hk, .nil⟩
    · simpa using so.len
    · intro r hr
      rcases List.mem_append.mp hr with hr | hr
      · exact Nat.le_succ_of_le (so.suc r hr)
      · rw [List.mem_singleton.mp hr]
        simp
    · rw [ensure_new hn]
      simp [absR, Row.ni]
end

theorem sled_in (w : World) (S : Srt) (C l : Led) (x : Addr × Obj) : (x :: sled w S (C ++ l)).Perm (sled w S (C ++ x :: l)) :=
  (List.perm_middle (a := x) (l₁ := [(S.sA, insO 151 S.sD #[]), (S.sD, dictOf (S.es w) 4), (S.dA, S.oD)] ++ C) (l₂ := l)).symm
section
variable {w : World} {mean : ExcName → Option Value} {mg mb : Str → Option Value} {a : Act} {env : Env} {n : Nat} {m : Loc} {l : Led} {Q : VQ}
variable {κ : Type} [DecidableEq κ] {knd : KeyKind Challenge.rw_mq0363_02.row.prog w κ}
theorem set_np {da sa ia : Addr} {np v : Int} {t u : Tok} {nv : Value} {l' : Led} {Q : Unit → Loc → Led → Prop} (ok : OkS w mean mg mb a env n) (U : Put ia (nodO da sa np t nv) (nodO da sa v u nv) l l') (hd : (da, dictOf [] 0) ∈ l) (h : Q () m l') :
    Tri Challenge.rw_mq0363_02.row.prog w a m l (setAttr (.ref ia) "npredecessors" (.int v u)) Q := by
  unfold OkS at ok; revert ok; k_fill; intro ok
  exact Tri.setSlot (C := 54) (dx := da) (sl := #[some nv, some (.int np t), some (.ref sa)]) (sl' := #[some nv, some (.int v u), some (.ref sa)]) ok.kin hd (by k_is) (by k_is) (by k_is) (by k_is) (by k_is) (by decide) rfl U h
theorem s_add {S : Srt} {rows : List (Row κ)} {c : Nat} {k : κ} {ps : List κ} {kv : Value} {pvs : List Value} (gd : Good knd) (so : SOk knd S rows c) (hrv : S.rv = .none) (hc : c + 1 + 2 * ps.length ≤ 3000) (hk : knd.is k kv = true) (hp : Keys knd pvs ps) (ok : OkS w mean mg mb a env (n + 4))
    (h : ∀ (oD' : Obj) (rows' : List (Row κ)), SOk knd { S with oD := oD' } rows' (c + 1 + 2 * ps.length) → absR rows' = addAbs k ps (absR rows) → Q .none m (sled w { S with oD := oD' } (cells rows' ++ l))) :
    CTri Challenge.rw_mq0363_02.row.prog w a m (sled w S (cells rows ++ l)) (.ref 101) (.ref S.sA :: kv :: pvs) Q := by
  unfold OkS at ok; revert ok; k_fill; intro ok
  have hpl := hp.length
  refine CTri.callRest (vs := pvs) (binds := fun t => [("self", .ref S.sA), ("node", kv), ("predecessors", t)]) ok (by k_is) (by k_is) (by cases pvs <;> rfl) (by rw [sizeLine_eq]; omega) (fun t => locs rfl) (fun b D okb => ?_) rfl rfl rfl (by decide)
  show Tri _ _ _ (lcl [("predecessors", .ref D), ("node", kv), ("self", .ref S.sA)]) _ _ _
  refine Tri.perm (sled_in w S (cells rows) l _) ?_
  repeat' walk_at "w1"
  refine get_info gd so (by omega) hk okb fun oD1 rows1 i r so1 hi hr habs => ?_
  generalize hS1 : ({ S with oD := oD1 } : Srt) = S1 at so1 ⊢
  have e1 : S1.sA = S.sA := by rw [← hS1]
  have e2 : S1.rv = S.rv := by rw [← hS1]
  have m1 : (r.ia, nodO r.da r.sa r.np r.t r.nv) ∈ cells rows1 ++ (D, tupO pvs) :: l := List.mem_append.mpr (.inl (cells_mem hi (.head _)))
  have m2 : (r.da, dictOf [] 0) ∈ cells rows1 ++ (D, tupO pvs) :: l := List.mem_append.mpr (.inl (cells_mem hi (.tail _ (.head _))))
  have m3 : (D, tupO pvs) ∈ cells rows1 ++ (D, tupO pvs) :: l := List.mem_append.mpr (.inr (.head _))
  have hz : pvs.length ≤ sizeLine := by rw [sizeLine_eq]; omega
  repeat' walk_at "w1"
  rename_i t1 t2
  refine set_np (v := r.np + pvs.length) (u := t2) okb (Put.tail (Put.tail (Put.tail ((cells_put (r := r) (r' := { r with np := r.np + pvs.length, t := t2 }) (by exact Put.head) hi).left _)))) (.tail _ (.tail _ (.tail _ m2))) ?_
  repeat' walk_at "w1"
  have so2 : SOk knd S1 (rows1.set i { r with np := r.np + pvs.length, t := t2 }) (c + 1) := so1.set hi rfl rfl ⟨(so1.rok r (List.mem_of_getElem? hi)).node, (so1.rok r (List.mem_of_getElem? hi)).hand, (so1.rok r (List.mem_of_getElem? hi)).succ⟩ (so1.suc r (List.mem_of_getElem? hi))
  have habs2 : absR (rows1.set i { r with np := r.np + pvs.length, t := t2 }) = upd k (fun r => { r with np := r.np + ps.length }) (ensure k (absR rows)) := by
    rw [← habs]
    refine upd_set so1.nd hi hr ?_
    show NI.mk _ _ _ = NI.mk _ _ _
    rw [hpl]; rfl
  generalize rows1.set i { r with np := r.np + pvs.length, t := t2 } = rows2 at so2 habs2 ⊢
  refine Tri.For ?_
  repeat' walk_at "w1"
  have m3 : (D, tupO pvs) ∈ cells rows2 ++ (D, tupO pvs) :: l := List.mem_append.mpr (.inr (.head _))
  refine Tri.iter_tuple (vs := pvs) (by walk_at "mem") fun I => ?_
  refine for_tuple (vs := pvs) (Ok.handled (by assumption)) ⟨_, _, rfl⟩ (by walk_at "mem") (fun j m' l' => ∃ (oD2 : Obj) (rows3 : List (Row κ)) (ex : List (Str × Value)), m' = lclx [("node", kv), ("self", .ref S.sA)] ex ∧ SOk knd { S with oD := oD2 } rows3 (c + 1 + 2 * j) ∧ absR rows3 = (ps.take j).foldl (addPred k) (upd k (fun r => { r with np := r.np + ps.length }) (ensure k (absR rows))) ∧ l' = sled w { S with oD := oD2 } (cells rows3 ++ (D, tupO pvs) :: l)) ?_ ?_ ?_ ?_
  · rintro j m' l' ⟨oD2, rows3, ex, rfl, so3, habs3, rfl⟩
    exact .tail _ (.tail _ (.tail _ (List.mem_append.mpr (.inr (.head _)))))
  · exact ⟨oD1, rows2, _, lcl_norm ⟨rfl, rfl, trivial⟩, by rw [hS1]; exact so2, habs2, by rw [hS1]⟩
  · rintro j v o m' l' hv ⟨oD2, rows3, ex, rfl, so3, habs3, rfl⟩
    obtain ⟨q, hq, hqv⟩ := hp.get hv
    have hj : j < ps.length := (List.getElem?_eq_some_iff.mp hq).1
    refine Tri.perm (sled_in w _ (cells rows3) _ _) ?_
    repeat' walk_at "w1"
    refine get_info gd so3 (by omega) hqv okb fun oD4 rows4 i4 r4 so4 hi4 hr4 habs4 => ?_
    generalize hS4 : ({ S with oD := oD4 } : Srt) = S4 at so4 ⊢
    have n1 : (r4.ia, nodO r4.da r4.sa r4.np r4.t r4.nv) ∈ cells rows4 ++ (I, o) :: (D, tupO pvs) :: l := List.mem_append.mpr (.inl (cells_mem hi4 (.head _)))
    have n2 : (r4.da, dictOf [] 0) ∈ cells rows4 ++ (I, o) :: (D, tupO pvs) :: l := List.mem_append.mpr (.inl (cells_mem hi4 (.tail _ (.head _))))
    have n3 : (r4.sa, lstO r4.vs r4.cap) ∈ cells rows4 ++ (I, o) :: (D, tupO pvs) :: l := List.mem_append.mpr (.inl (cells_mem hi4 (.tail _ (.tail _ (.head _)))))
    repeat' walk_at "w1"
    have hr4s := so4.suc r4 (List.mem_of_getElem? hi4)
    have hr4k := so4.rok r4 (List.mem_of_getElem? hi4)
    have hvl : r4.vs.length = r4.succ.length := hr4k.succ.length
    refine Tri.append (vs := r4.vs) (nn := r4.cap) (Put.tail (Put.tail (Put.tail ((cells_put (r := r4) (r' := { r4 with succ := r4.succ ++ [k], vs := r4.vs ++ [kv], cap := r4.cap + 1 }) (by exact Put.tail (Put.tail Put.head)) hi4).left _)))) (by rw [sizeLine_eq]; omega) ⟨rfl, ?_⟩
    repeat' walk_at "w1"
    refine ⟨_, ?_, oD4, rows4.set i4 { r4 with succ := r4.succ ++ [k], vs := r4.vs ++ [kv], cap := r4.cap + 1 }, _, lcl_norm ⟨rfl, rfl, trivial⟩, ?_, ?_, rfl⟩
    · rw [hS4]
      exact ⟨[], by rw [List.append_nil]; exact sled_in w S4 _ _ _⟩
    · rw [hS4]
      exact so4.set hi4 rfl rfl ⟨hr4k.node, hr4k.hand, hr4k.succ.snoc hk⟩ (by simp; omega)
    · rw [List.take_add_one, hq, List.foldl_append, ← habs3]
      show _ = addPred k (absR rows3) q
      unfold addPred
      rw [← habs4]
      exact upd_set so4.nd hi4 hr4 rfl
  · rintro m' l' ⟨oD2, rows3, ex, rfl, so3, habs3, rfl⟩
    repeat' walk_at "w1"
    refine ⟨_, ?_, h oD2 rows3 ?_ ?_⟩
    · refine ⟨[(D, tupO pvs)], ?_⟩
      exact (List.perm_append_comm (l₁ := sled w { S with oD := oD2 } (cells rows3 ++ l)) (l₂ := [(D, tupO pvs)])).trans (sled_in w _ _ _ _)
    · rw [hpl] at so3; exact so3
    · rw [habs3, hpl, List.take_length]; rfl
end

section
variable {prog : Program} {w : World} {a : Act} {m : Loc} {l l' : Led} {env : Env} {Q : VQ} {D : Addr} {vs : List Value} {nn : Nat}
end

section
variable {κ : Type} [DecidableEq κ]
theorem keys_upd (k : κ) (f : NI κ → NI κ) (hf : ∀ r, (f r).key = r.key) (st : List (NI κ)) : (upd k f st).map (·.key) = st.map (·.key) := by
  unfold upd
  rw [List.map_map]
  apply List.map_congr_left
  intro r _
  simp only [Function.comp]
  split
  · exact hf r
  · rfl
def setNp (v : Int) (st : List (NI κ)) (k : κ) : List (NI κ) := upd k (fun r => { r with np := v }) st
end
section
variable {κ : Type} [DecidableEq κ]
theorem keys_setNp (v : Int) (st : List (NI κ)) (k : κ) : (setNp v st k).map (·.key) = st.map (·.key) := keys_upd k (fun r => { r with np := v }) (fun _ => rfl) st
theorem keys_setNps (v : Int) : ∀ (ks : List κ) (st : List (NI κ)), (ks.foldl (setNp v) st).map (·.key) = st.map (·.key)
  | [], st => rfl
  | k :: ks, st => (keys_setNps v ks _).trans (keys_setNp v st k)
theorem row_of_key {rows : List (Row κ)} {k : κ} (h : k ∈ (absR rows).map (·.key)) : ∃ (i : Nat) (r : Row κ), rows[i]? = some r ∧ r.key = k ∧ valueAt (kvs rows) k = some (.ref r.ia) := by
  rcases valueAt_kvs (rows := rows) (k := k) with h1 | ⟨h1, _⟩
  · exact h1
  · obtain ⟨x, hx, e⟩ := List.mem_map.mp h
    obtain ⟨r, hr, rfl⟩ := List.mem_map.mp hx
    exact absurd e (h1 r hr)
end
section
variable {w : World} {mean : ExcName → Option Value} {mg mb : Str → Option Value} {a : Act} {env : Env} {n : Nat} {m : Loc} {l : Led} {Q : VQ}
variable {κ : Type} [DecidableEq κ] {knd : KeyKind Challenge.rw_mq0363_02.row.prog w κ}
theorem set_po {S : Srt} {v : Int} {u : Tok} {Q : Unit → Loc → Led → Prop} {l' : Led} (ok : OkS w mean mg mb a env n) (hx : (S.sA, insO 151 S.sD #[]) ∈ l) (U : Put S.sD (dictOf (S.es w) 4) (dictOf (Srt.es w { S with po := v, tp := u }) 4) l l') (h : Q () m l') :
    Tri Challenge.rw_mq0363_02.row.prog w a m l (setAttr (.ref S.sA) "_npassedout" (.int v u)) Q := by
  unfold OkS at ok; revert ok; k_fill; intro ok
  exact Tri.setOwn (C := 151) (dx := S.sD) (sl := #[]) (es := S.es w) (es' := fun _ => Srt.es w { S with po := v, tp := u }) (nn' := 4) ok.kin hx (by k_is) (by k_is) (by k_is) (by k_is) rfl (fun t => rfl) (fun t => U) (fun t => by simp [Srt.es]) fun _ => h
theorem set_fi {S : Srt} {v : Int} {u : Tok} {Q : Unit → Loc → Led → Prop} {l' : Led} (ok : OkS w mean mg mb a env n) (hx : (S.sA, insO 151 S.sD #[]) ∈ l) (U : Put S.sD (dictOf (S.es w) 4) (dictOf (Srt.es w { S with fi := v, tf := u }) 4) l l') (h : Q () m l') :
    Tri Challenge.rw_mq0363_02.row.prog w a m l (setAttr (.ref S.sA) "_nfinished" (.int v u)) Q := by
  unfold OkS at ok; revert ok; k_fill; intro ok
  exact Tri.setOwn (C := 151) (dx := S.sD) (sl := #[]) (es := S.es w) (es' := fun _ => Srt.es w { S with fi := v, tf := u }) (nn' := 4) ok.kin hx (by k_is) (by k_is) (by k_is) (by k_is) rfl (fun t => rfl) (fun t => U) (fun t => by simp [Srt.es]) fun _ => h
theorem set_rv {S : Srt} {v : Value} {Q : Unit → Loc → Led → Prop} {l' : Led} (ok : OkS w mean mg mb a env n) (hx : (S.sA, insO 151 S.sD #[]) ∈ l) (U : Put S.sD (dictOf (S.es w) 4) (dictOf (Srt.es w { S with rv := v }) 4) l l') (h : Q () m l') :
    Tri Challenge.rw_mq0363_02.row.prog w a m l (setAttr (.ref S.sA) "_ready_nodes" v) Q := by
  unfold OkS at ok; revert ok; k_fill; intro ok
  exact Tri.setOwn (C := 151) (dx := S.sD) (sl := #[]) (es := S.es w) (es' := fun _ => Srt.es w { S with rv := v }) (nn' := 4) ok.kin hx (by k_is) (by k_is) (by k_is) (by k_is) rfl (fun t => rfl) (fun t => U) (fun t => by simp [Srt.es]) fun _ => h
theorem s_ready {S : Srt} {rA : Addr} {rows : List (Row κ)} {c cap : Nat} {rks : List κ} {rvs : List Value} (gd : Good knd) (so : SOk knd S rows c) (hrv : S.rv = .ref rA) (hc : c ≤ 3000) (hk : Keys knd rvs rks) (hin : ∀ k ∈ rks, k ∈ (absR rows).map (·.key)) (hl : rks.length ≤ 3000) (ok : OkS w mean mg mb a env (n + 2))
    (h : ∀ (T : Addr) (rows' : List (Row κ)) (nn' : Nat) (tp' : Tok), SOk knd S rows' c → absR rows' = rks.foldl (setNp (-1)) (absR rows) → Q (.ref T) m ((T, tupO rvs) :: sled w { S with po := S.po + rks.length, tp := tp' } ((rA, lstO [] nn') :: (cells rows' ++ l)))) :
    Tri Challenge.rw_mq0363_02.row.prog w a m (sled w S ((rA, lstO rvs cap) :: (cells rows ++ l))) (call (.ref 113) [.ref S.sA]) Q := by
  unfold OkS at ok; revert ok; k_fill; intro ok
  have hpl := hk.length
  have hz : rvs.length ≤ sizeLine := by rw [sizeLine_eq]; omega
  refine Tri.callFn (binds := [("self", .ref S.sA)]) ok (by k_is) (by k_is) (fun s _ => BindsTo.of_eq rfl) (locs rfl) (fun b okb => ?_) rfl rfl rfl (by decide)
  show Tri _ _ _ (lcl [("self", .ref S.sA)]) _ _ _
  repeat' walk_at "w1"
  refine Tri.tuple_list (vs := rvs) (by walk_at "mem") hz fun T => ?_
  repeat' walk_at "w1"
  refine Tri.mono (Q := fun f m' l' => f = .next ∧ ∃ (rows' : List (Row κ)) (ex : List (Str × Value)), m' = lclx [("self", .ref S.sA), ("result", .ref T), ("n2i", .ref S.dA)] ex ∧ SOk knd S rows' c ∧ absR rows' = rks.foldl (setNp (-1)) (absR rows) ∧ l' = (T, tupO rvs) :: sled w S ((rA, lstO rvs cap) :: (cells rows' ++ l))) ?loop ?cont
  case loop =>
    refine Tri.For ?_
    repeat' walk_at "w1"
    refine Tri.iter_tuple (vs := rvs) (.head _) fun I => ?_
    refine for_tuple (vs := rvs) (Ok.handled (by assumption)) ⟨_, _, rfl⟩ (.head _) (fun j m' l' => ∃ (rows' : List (Row κ)) (ex : List (Str × Value)), m' = lclx [("self", .ref S.sA), ("result", .ref T), ("n2i", .ref S.dA)] ex ∧ SOk knd S rows' c ∧ absR rows' = (rks.take j).foldl (setNp (-1)) (absR rows) ∧ l' = (T, tupO rvs) :: sled w S ((rA, lstO rvs cap) :: (cells rows' ++ l))) ?_ ?_ ?_ ?_
    · rintro j m' l' ⟨rows', ex, rfl, so', habs', rfl⟩
      exact .head _
    · exact ⟨rows, _, lcl_norm ⟨rfl, rfl, rfl, trivial⟩, so, rfl, rfl⟩
    · rintro j v o m' l' hv ⟨rows', ex, rfl, so', habs', rfl⟩
      obtain ⟨q, hq, hqv⟩ := hk.get hv
      have hqk : q ∈ (absR rows').map (·.key) := by
        rw [habs', keys_setNps]
        exact hin q (List.mem_of_getElem? hq)
      obtain ⟨i, r, hi, hr, hvr⟩ := row_of_key hqk
      have n2 : (r.da, dictOf [] 0) ∈ cells rows' ++ l := List.mem_append.mpr (.inl (cells_mem hi (.tail _ (.head _))))
      repeat' walk_at "w1"
      refine Tri.sub_dict (knd := knd) (by walk_at "mem") so'.dic hqv hvr ?_
      repeat' walk_at "w1"
      refine set_np okb (Put.tail (Put.tail (Put.tail (Put.tail (Put.tail (Put.tail ((cells_put (r := r) (r' := { r with np := -1, t := _ }) (by exact Put.head) hi).left _))))))) (by walk_at "mem") ?_
      repeat' walk_at "w1"
      have hrk := so'.rok r (List.mem_of_getElem? hi)
      refine ⟨_, Sub.refl _, rows'.set i { r with np := -1, t := _ }, _, lcl_norm ⟨rfl, rfl, rfl, trivial⟩, so'.set hi rfl rfl ⟨hrk.node, hrk.hand, hrk.succ⟩ (so'.suc r (List.mem_of_getElem? hi)), ?_, rfl⟩
      rw [List.take_add_one, hq, List.foldl_append, ← habs']
      exact upd_set so'.nd hi hr rfl
    · rintro m' l' ⟨rows', ex, rfl, so', habs', rfl⟩
      repeat' walk_at "w1"
      refine ⟨rfl, rows', ex, rfl, so', ?_, rfl⟩
      rw [habs', hpl, List.take_length]
  rintro f m' l' ⟨rfl, rows', ex, rfl, so', habs', rfl⟩
  repeat' walk_at "w1"
  refine Tri.lclear (fun nn' => Put.tail (Put.tail (Put.tail (Put.tail Put.head)))) hz fun nn' => ⟨rfl, ?_⟩
  repeat' walk_at "w1"
  rename_i t1 t2
  refine set_po okb (by walk_at "mem") (Put.tail (Put.tail Put.head)) ?_
  repeat' walk_at "w1"
  refine ⟨_, Sub.refl _, ?_⟩
  have := h T rows' nn' t2 so' habs'
  rw [hpl]
  exact this
end

section
variable {κ : Type} [DecidableEq κ]
def npOf (st : List (NI κ)) (k : κ) : Int := ((st.find? fun r => r.key = k).map (·.np)).getD 0
def succOf (st : List (NI κ)) (k : κ) : List κ := ((st.find? fun r => r.key = k).map (·.succ)).getD []
def decr (x : List (NI κ) × List κ) (s : κ) : List (NI κ) × List κ :=
  (upd s (fun r => { r with np := r.np - 1 }) x.1, if npOf x.1 s = 1 then x.2 ++ [s] else x.2)
def done1 (x : List (NI κ) × List κ) (k : κ) : List (NI κ) × List κ := (succOf x.1 k).foldl decr (setNp (-2) x.1 k, x.2)
def DoneOk : List (NI κ) × List κ → List κ → Prop
  | _, [] => True
  | x, k :: ks => k ∈ x.1.map (·.key) ∧ npOf x.1 k = -1 ∧ (∀ s ∈ succOf x.1 k, s ∈ x.1.map (·.key)) ∧ DoneOk (done1 x k) ks
theorem find_row {rows : List (Row κ)} (nd : ((absR rows).map (·.key)).Nodup) {i : Nat} {r : Row κ} {k : κ} (h : rows[i]? = some r) (hk : r.key = k) : (absR rows).find? (fun r => r.key = k) = some r.ni := by
  induction rows generalizing i with
  | nil => simp at h
  | cons x rows ih =>
    have nd' := List.nodup_cons.mp (by simpa [absR] using nd : (x.ni.key :: (absR rows).map (·.key)).Nodup)
    show List.find? _ (x.ni :: absR rows) = _
    cases i with
    | zero =>
      simp at h; subst h
      exact List.find?_cons_of_pos (p := fun r : NI κ => decide (r.key = k)) (a := x.ni) (decide_eq_true hk)
    | succ i =>
      simp at h
      rw [List.find?_cons_of_neg, ih nd'.2 h]
      intro e
      have e' : x.ni.key = k := by simpa using e
      exact nd'.1 (List.mem_map.mpr ⟨r.ni, List.mem_map_of_mem (List.mem_of_getElem? h), by rw [e']; exact hk⟩)
theorem npOf_row {rows : List (Row κ)} (nd : ((absR rows).map (·.key)).Nodup) {i : Nat} {r : Row κ} {k : κ} (h : rows[i]? = some r) (hk : r.key = k) : npOf (absR rows) k = r.np := by
  unfold npOf; rw [find_row nd h hk]; rfl
theorem succOf_row {rows : List (Row κ)} (nd : ((absR rows).map (·.key)).Nodup) {i : Nat} {r : Row κ} {k : κ} (h : rows[i]? = some r) (hk : r.key = k) : succOf (absR rows) k = r.succ := by
  unfold succOf; rw [find_row nd h hk]; rfl
theorem keys_decr (x : List (NI κ) × List κ) (s : κ) : (decr x s).1.map (·.key) = x.1.map (·.key) := keys_upd s (fun r => { r with np := r.np - 1 }) (fun _ => rfl) x.1
theorem keys_decrs : ∀ (ss : List κ) (x : List (NI κ) × List κ), (ss.foldl decr x).1.map (·.key) = x.1.map (·.key)
  | [], x => rfl
  | s :: ss, x => (keys_decrs ss _).trans (keys_decr x s)
end
section
variable {w : World} {mean : ExcName → Option Value} {mg mb : Str → Option Value} {a : Act} {env : Env} {n : Nat} {m : Loc} {l : Led} {Q : VQ}
variable {κ : Type} [DecidableEq κ] {knd : KeyKind Challenge.rw_mq0363_02.row.prog w κ}
theorem s_done {S : Srt} {rA : Addr} {rows : List (Row κ)} {c cap : Nat} {rks dks : List κ} {rvs dvs : List Value} (gd : Good knd) (so : SOk knd S rows c) (hrv : S.rv = .ref rA) (hc : c ≤ 3000) (hk : Keys knd rvs rks) (hd : Keys knd dvs dks) (hl : rks.length ≤ 3000) (hdl : dks.length ≤ 3000) (hok : DoneOk (absR rows, rks) dks) (ok : OkS w mean mg mb a env (n + 2))
    (h : ∀ (rows' : List (Row κ)) (rvs' : List Value) (rks' : List κ) (cap' : Nat) (tf' : Tok), SOk knd S rows' c → Keys knd rvs' rks' → (absR rows', rks') = dks.foldl done1 (absR rows, rks) → Q .none m (sled w { S with fi := S.fi + dks.length, tf := tf' } ((rA, lstO rvs' cap') :: (cells rows' ++ l)))) :
    CTri Challenge.rw_mq0363_02.row.prog w a m (sled w S ((rA, lstO rvs cap) :: (cells rows ++ l))) (.ref 134) (.ref S.sA :: dvs) Q := by
  unfold OkS at ok; revert ok; k_fill; intro ok
  have hpl := hd.length
  refine CTri.callRest (vs := dvs) (binds := fun t => [("self", .ref S.sA), ("nodes", t)]) ok (by k_is) (by k_is) (by cases dvs <;> rfl) (by rw [sizeLine_eq]; omega) (fun t => locs rfl) (fun b D okb => ?_) rfl rfl rfl (by decide)
  show Tri _ _ _ (lcl [("nodes", .ref D), ("self", .ref S.sA)]) _ _ _
  repeat' walk_at "w1"
  refine Tri.For ?_
  repeat' walk_at "w1"
  refine Tri.iter_tuple (vs := dvs) (.head _) fun I => ?_
  refine for_tuple (vs := dvs) (Ok.handled (by assumption)) ⟨_, _, rfl⟩ (.head _) (fun j m' l' => ∃ (rows' : List (Row κ)) (rvs' : List Value) (rks' : List κ) (cap' : Nat) (tf' : Tok) (ex : List (Str × Value)), m' = lclx [("self", .ref S.sA), ("n2i", .ref S.dA)] ex ∧ SOk knd S rows' c ∧ Keys knd rvs' rks' ∧ (absR rows', rks') = (dks.take j).foldl done1 (absR rows, rks) ∧ rks'.length ≤ 3000 + 3000 * j ∧ DoneOk (absR rows', rks') (dks.drop j) ∧ l' = (D, tupO dvs) :: sled w { S with fi := S.fi + j, tf := tf' } ((rA, lstO rvs' cap') :: (cells rows' ++ l))) ?_ ?_ ?_ ?_
  · rintro j m' l' ⟨rows', rvs', rks', cap', tf', ex, rfl, so', hk', habs', hlen', hok', rfl⟩
    exact .head _
  · refine ⟨rows, rvs, rks, cap, S.tf, _, lcl_norm ⟨rfl, rfl, trivial⟩, so, hk, rfl, by omega, hok, ?_⟩
    simp
  · rintro j v o m' l' hv ⟨rows', rvs', rks', cap', tf', ex, rfl, so', hk', habs', hlen', hok', rfl⟩
    obtain ⟨q, hq, hqv⟩ := hd.get hv
    have hj : j < dks.length := (List.getElem?_eq_some_iff.mp hq).1
    have hdrop : dks.drop j = q :: dks.drop (j + 1) := by
      rw [List.drop_eq_getElem_cons hj]
      have := (List.getElem?_eq_some_iff.mp hq).2
      rw [this]
    rw [hdrop] at hok'
    obtain ⟨hqk, hqn, hqs, hok''⟩ := hok'
    obtain ⟨i, r, hi, hr, hvr⟩ := row_of_key hqk
    rw [npOf_row so'.nd hi hr] at hqn
    rw [succOf_row so'.nd hi hr] at hqs
    have hrk := so'.rok r (List.mem_of_getElem? hi)
    have hrs := so'.suc r (List.mem_of_getElem? hi)
    have n1 : (r.ia, nodO r.da r.sa (-1) r.t r.nv) ∈ cells rows' ++ l := by rw [← hqn]; exact List.mem_append.mpr (.inl (cells_mem hi (.head _)))
    have n2 : (r.da, dictOf [] 0) ∈ cells rows' ++ l := List.mem_append.mpr (.inl (cells_mem hi (.tail _ (.head _))))
    refine Tri.gen1 fun Q1 hQ1 => ?_
    repeat' walk_at "w1"
    refine Tri.getM_dget (knd := knd) (by walk_at "mem") so'.dic ?_
    repeat' walk_at "w1"
    refine Tri.dget (knd := knd) so'.sys (by walk_at "mem") so'.dic hqv ?_
    rw [hvr, Option.getD_some]
    repeat' walk_at "w1"
    refine set_np okb (Put.tail (Put.tail (Put.tail (Put.tail (Put.tail (Put.tail ((cells_put (r := r) (r' := { r with np := -2, t := _ }) (by rw [Row.cells, hqn]; exact Put.head) hi).left _))))))) (by walk_at "mem") ?_
    have so1 : SOk knd S (rows'.set i { r with np := -2, t := 236 }) c := so'.set hi rfl rfl ⟨hrk.node, hrk.hand, hrk.succ⟩ hrs
    have habs1 : absR (rows'.set i { r with np := -2, t := 236 }) = setNp (-2) (absR rows') q := upd_set so'.nd hi hr rfl
    have hi1 : (rows'.set i { r with np := -2, t := 236 })[i]? = some { r with np := -2, t := 236 } := by
      rw [List.getElem?_set_self (List.getElem?_eq_some_iff.mp hi).1]
    generalize rows'.set i { r with np := -2, t := 236 } = rows1 at so1 habs1 hi1 ⊢
    have k1 : (r.ia, nodO r.da r.sa (-2) 236 r.nv) ∈ cells rows1 ++ l := List.mem_append.mpr (.inl (cells_mem hi1 (.head _)))
    have k2 : (r.da, dictOf [] 0) ∈ cells rows1 ++ l := List.mem_append.mpr (.inl (cells_mem hi1 (.tail _ (.head _))))
    have k3 : (r.sa, lstO r.vs r.cap) ∈ cells rows1 ++ l := List.mem_append.mpr (.inl (cells_mem hi1 (.tail _ (.tail _ (.head _)))))
    repeat' walk_at "w1"
    refine Tri.mono (Q := fun f m' l' => f = .next ∧ ∃ (rows2 : List (Row κ)) (rvs2 : List Value) (rks2 : List κ) (cap2 : Nat) (ex : List (Str × Value)), m' = lclx [("self", .ref S.sA), ("n2i", .ref S.dA)] ex ∧ SOk knd S rows2 c ∧ Keys knd rvs2 rks2 ∧ (absR rows2, rks2) = r.succ.foldl decr (setNp (-2) (absR rows') q, rks') ∧ rks2.length ≤ rks'.length + r.succ.length ∧ l' = (I, o) :: (D, tupO dvs) :: sled w { S with fi := S.fi + j, tf := tf' } ((rA, lstO rvs2 cap2) :: (cells rows2 ++ l))) ?loop ?cont
    case loop =>
      refine Tri.For ?_
      repeat' walk_at "w1"
      refine Tri.iter_list (vs := r.vs) (nn := r.cap) (by walk_at "mem") fun I2 => ?_
      refine for_list (vs := r.vs) (nn := r.cap) (Ok.handled (by assumption)) (.inl ⟨_, _, rfl⟩) (by walk_at "mem") (fun j2 m' l' => ∃ (rows2 : List (Row κ)) (rvs2 : List Value) (rks2 : List κ) (cap2 : Nat) (ex : List (Str × Value)), m' = lclx [("self", .ref S.sA), ("n2i", .ref S.dA)] ex ∧ SOk knd S rows2 c ∧ Keys knd rvs2 rks2 ∧ (absR rows2, rks2) = (r.succ.take j2).foldl decr (setNp (-2) (absR rows') q, rks') ∧ rks2.length ≤ rks'.length + j2 ∧ (∃ r2 : Row κ, rows2[i]? = some r2 ∧ r2.sa = r.sa ∧ r2.vs = r.vs ∧ r2.cap = r.cap) ∧ l' = (I, o) :: (D, tupO dvs) :: sled w { S with fi := S.fi + j, tf := tf' } ((rA, lstO rvs2 cap2) :: (cells rows2 ++ l))) ?_ ?_ ?_ ?_
      · rintro j2 m' l' ⟨rows2, rvs2, rks2, cap2, ex2, rfl, so2, hk2, habs2, hlen2, ⟨r2, hi2, e1, e2, e3⟩, rfl⟩
        have : (r2.sa, lstO r2.vs r2.cap) ∈ cells rows2 ++ l := List.mem_append.mpr (.inl (cells_mem hi2 (.tail _ (.tail _ (.head _)))))
        rw [e1, e2, e3] at this
        walk_at "mem"
      · exact ⟨rows1, rvs', rks', cap', _, lcl_norm ⟨rfl, rfl, trivial⟩, so1, hk', by rw [habs1]; rfl, by omega, ⟨_, hi1, rfl, rfl, rfl⟩, rfl⟩
      · rintro j2 u o2 m' l' hu ⟨rows2, rvs2, rks2, cap2, ex2, rfl, so2, hk2, habs2, hlen2, ⟨r2, hi2, e1, e2, e3⟩, rfl⟩
        obtain ⟨z, hz, hzu⟩ := hrk.succ.get hu
        have hzk : z ∈ (absR rows2).map (·.key) := by
          have : (absR rows2) = ((r.succ.take j2).foldl decr (setNp (-2) (absR rows') q, rks')).1 := by rw [← habs2]
          rw [this, keys_decrs, keys_setNp]
          exact hqs z (List.mem_of_getElem? hz)
        obtain ⟨i3, r3, hi3, hr3, hv3⟩ := row_of_key hzk
        have hr3k := so2.rok r3 (List.mem_of_getElem? hi3)
        have hr3s := so2.suc r3 (List.mem_of_getElem? hi3)
        have q1 : (r3.ia, nodO r3.da r3.sa r3.np r3.t r3.nv) ∈ cells rows2 ++ l := List.mem_append.mpr (.inl (cells_mem hi3 (.head _)))
        have q2 : (r3.da, dictOf [] 0) ∈ cells rows2 ++ l := List.mem_append.mpr (.inl (cells_mem hi3 (.tail _ (.head _))))
        refine Tri.gen1 fun Q2 hQ2 => ?_
        repeat' walk_at "w1"
        refine Tri.sub_dict (knd := knd) (by walk_at "mem") so2.dic hzu hv3 ?_
        repeat' walk_at "w1"
        rename_i t3 t4
        refine set_np okb (Put.tail (Put.tail (Put.tail (Put.tail (Put.tail (Put.tail (Put.tail ((cells_put (r := r3) (r' := { r3 with np := r3.np - 1, t := t4 }) (by exact Put.head) hi3).left _)))))))) (by walk_at "mem") ?_
        have so4 : SOk knd S (rows2.set i3 { r3 with np := r3.np - 1, t := t4 }) c := so2.set hi3 rfl rfl ⟨hr3k.node, hr3k.hand, hr3k.succ⟩ hr3s
        have habs4 : absR (rows2.set i3 { r3 with np := r3.np - 1, t := t4 }) = upd z (fun r => { r with np := r.np - 1 }) (absR rows2) := upd_set so2.nd hi3 hr3 rfl
        have hi4 : (rows2.set i3 { r3 with np := r3.np - 1, t := t4 })[i3]? = some { r3 with np := r3.np - 1, t := t4 } := by
          rw [List.getElem?_set_self (List.getElem?_eq_some_iff.mp hi3).1]
        have hi5 : ∃ r2 : Row κ, (rows2.set i3 { r3 with np := r3.np - 1, t := t4 })[i]? = some r2 ∧ r2.sa = r.sa ∧ r2.vs = r.vs ∧ r2.cap = r.cap := by
          by_cases e : i3 = i
          · subst e
            have : r2 = r3 := Option.some.inj (hi2.symm.trans hi3)
            subst this
            exact ⟨_, hi4, e1, e2, e3⟩
          · exact ⟨r2, by rw [List.getElem?_set_ne e]; exact hi2, e1, e2, e3⟩
        have hnp := npOf_row so2.nd hi3 hr3
        have hstep : (r.succ.take (j2 + 1)).foldl decr (setNp (-2) (absR rows') q, rks') = decr (absR rows2, rks2) z := by
          rw [List.take_add_one, hz, List.foldl_append, ← habs2]
          rfl
        generalize rows2.set i3 { r3 with np := r3.np - 1, t := t4 } = rows4 at so4 habs4 hi4 hi5 ⊢
        have p1 : (r3.ia, nodO r3.da r3.sa (r3.np - 1) t4 r3.nv) ∈ cells rows4 ++ l := List.mem_append.mpr (.inl (cells_mem hi4 (.head _)))
        have p2 : (r3.da, dictOf [] 0) ∈ cells rows4 ++ l := List.mem_append.mpr (.inl (cells_mem hi4 (.tail _ (.head _))))
        clear q1 q2
        have hj2 : j2 < r.vs.length := (List.getElem?_eq_some_iff.mp hu).1
        have hvl2 := hk2.length
        have hvl3 : r.vs.length = r.succ.length := hrk.succ.length
        repeat' walk_at "w1"
        · rename (r3.np - 1 == 0) = true => hb
          refine Tri.append (vs := rvs2) (nn := cap2) (Put.tail (Put.tail (Put.tail (Put.tail (Put.tail (Put.tail Put.head)))))) (by rw [sizeLine_eq]; omega) ⟨rfl, ?_⟩
          repeat' walk_at "w1"
          refine hQ2 _ _ _ ?_
          refine ⟨_, Sub.refl _, rows4, rvs2 ++ [u], rks2 ++ [z], cap2 + 1, _, lcl_norm ⟨rfl, rfl, trivial⟩, so4, hk2.snoc hzu, ?_, by simp; omega, hi5, rfl⟩
          rw [hstep, habs4]
          unfold decr
          have : r3.np - 1 = 0 := by simpa using hb
          rw [if_pos (by show npOf (absR rows2) z = 1; rw [hnp]; omega)]
        · rename (r3.np - 1 == 0) = false => hb
          refine hQ2 _ _ _ ?_
          refine ⟨_, Sub.refl _, rows4, rvs2, rks2, cap2, _, lcl_norm ⟨rfl, rfl, trivial⟩, so4, hk2, ?_, by omega, hi5, rfl⟩
          rw [hstep, habs4]
          unfold decr
          have : r3.np - 1 ≠ 0 := by simpa using hb
          rw [if_neg (by show ¬ npOf (absR rows2) z = 1; rw [hnp]; omega)]
      · rintro m' l' ⟨rows2, rvs2, rks2, cap2, ex2, rfl, so2, hk2, habs2, hlen2, _, rfl⟩
        repeat' walk_at "w1"
        have e : r.vs.length = r.succ.length := hrk.succ.length
        rw [e, List.take_length] at habs2
        rw [e] at hlen2
        exact ⟨rfl, rows2, rvs2, rks2, cap2, ex2, rfl, so2, hk2, habs2, hlen2, rfl⟩
    rintro f m' l' ⟨rfl, rows2, rvs2, rks2, cap2, ex2, rfl, so2, hk2, habs2, hlen2, rfl⟩
    repeat' walk_at "w1"
    rename_i t7
    refine set_fi (S := { S with fi := S.fi + j, tf := tf' }) okb (by walk_at "mem") (Put.tail (Put.tail (Put.tail Put.head))) ?_
    repeat' walk_at "w1"
    have hsuc : done1 (absR rows', rks') q = (absR rows2, rks2) := by
      unfold done1
      rw [succOf_row so'.nd hi hr]
      exact habs2.symm
    have hfi : S.fi + (j : Int) + 1 = S.fi + ((j + 1 : Nat) : Int) := by omega
    refine hQ1 _ _ _ ?_
    refine ⟨_, Sub.refl _, rows2, rvs2, rks2, cap2, t7, _, lcl_norm ⟨rfl, rfl, trivial⟩, so2, hk2, ?_, by omega, by rw [← hsuc]; exact hok'', ?_⟩
    · rw [List.take_add_one, hq, List.foldl_append, ← habs', ← hsuc]
      rfl
    · rw [← hfi]
  · rintro m' l' ⟨rows', rvs', rks', cap', tf', ex, rfl, so', hk', habs', hlen', hok', rfl⟩
    repeat' walk_at "w1"
    refine ⟨_, Sub.cons _ (Sub.refl _), ?_⟩
    rw [hpl]
    rw [hpl, List.take_length] at habs'
    exact h rows' rvs' rks' cap' tf' so' hk' habs'
end

theorem slot_wd_get : Slot "wrapper_descriptor" "__get__" "wrapper_descriptor.__get__" :=
  .of (owner := "wrapper_descriptor") (n := "__get__") (by rw [typeLookup_type, builtinLookup_eq_fast]; kernel_rfl) (by decide +kernel) (by decide +kernel) (by decide +kernel)
    (by first | exact .inl (by decide +kernel) | exact .inr (by decide +kernel)) (by rw [isSubtype_type]; kernel_rfl)
theorem entry_wd_get : entryFor table "wrapper_descriptor.__get__" = some Builtin.«wrapper_descriptor.__get__» := entryFor_of_tree (by kernel_rfl)
theorem args_wd_get (a b c : Value) : argsOk "wrapper_descriptor.__get__" ⟨[a, b, c], []⟩ := by unfold argsOk; kernel_rfl
theorem noset_wd : typeLookup (.type "wrapper_descriptor") "__set__" = pure none := by rw [typeLookup_type, builtinLookup_eq_fast]; kernel_rfl
theorem nodel_wd : typeLookup (.type "wrapper_descriptor") "__delete__" = pure none := by rw [typeLookup_type, builtinLookup_eq_fast]; kernel_rfl
theorem ty_next : typeOf (.builtin "list_iterator.__next__") = pure (.type "wrapper_descriptor") := by show builtinType _ = _; rw [builtinType_eq_fast]; kernel_rfl
theorem slot_li_ga : Slot "list_iterator" "__getattribute__" "object.__getattribute__" :=
  .of (owner := "object") (n := "__getattribute__") (by rw [typeLookup_type, builtinLookup_eq_fast]; kernel_rfl) (by decide +kernel) (by decide +kernel) (by decide +kernel)
    (by first | exact .inl (by decide +kernel) | exact .inr (by decide +kernel)) (by rw [isSubtype_type]; kernel_rfl)
theorem entry_o_ga : entryFor table "object.__getattribute__" = some Builtin.«object.__getattribute__» := entryFor_of_tree (by kernel_rfl)
theorem args_o_ga (a b : Value) : argsOk "object.__getattribute__" ⟨[a, b], []⟩ := by unfold argsOk; kernel_rfl
theorem owner_next : (".".intercalate ("list_iterator.__next__".cutAt '.').dropLast) = "list_iterator" := by decide +kernel
theorem sub_li : isSubtype (.type "list_iterator") (.type (".".intercalate ("list_iterator.__next__".cutAt '.').dropLast)) = pure true := by rw [owner_next, isSubtype_type]; kernel_rfl
abbrev wrapO (I : Addr) : Obj := { cls := .type "method-wrapper", data := .fields #[.builtin "list_iterator.__next__", .ref I] }
section
variable {prog : Program} {w : World} {A : Around} {E : Value → Shared → Prop} {h : Heap} {g : Array GenState} {d : Drawn} {t : Nat} {os : OsState} {I : Addr} {o : Obj}
theorem next_get {R : Result → Shared → Prop} (hx : h.get? I = some o) (hc : o.cls = .type "list_iterator") (hq : R (.ok (.ret (.ref h.objs.size))) ⟨h.push (wrapO I), g, d, t, os⟩) :
    codeAny (model prog w) A (.call (.builtin "wrapper_descriptor.__get__") ⟨[.builtin "list_iterator.__next__", .ref I, .type "list_iterator"], []⟩) R ⟨h, g, d, t, os⟩ := by
  have hT : (⟨h, g, d, t, os⟩ : Shared).TypeIs (.ref I) "list_iterator" := ⟨_, hx, hc⟩
  have hT5 : (⟨h, g, d, t, os⟩ : Shared).TypeIs (.builtin "list_iterator.__next__") "wrapper_descriptor" := ty_next
  have f8 := sub_li
  refine codeAny_call_builtin slot_wd_get.plain entry_wd_get (slot_wd_get.check _ _ _ _ _ _ _ _ hT5 (args_wd_get _ _ _) ?_)
  repeat (any_goals (first | assumption | wp_step))
theorem next_entry {D : Addr} {i : Nat} {tk : Tok} {Q : Fin → Shared → Prop} (hx : h.get? I = some (lstIt D i)) (hq : Q (.done (.ret (.ref h.objs.size))) ⟨h.push (wrapO I), g, d, t, os⟩) :
    wpAny (model prog w) A (Builtin.«object.__getattribute__» ⟨[.ref I, .str "__next__" tk], []⟩) Q E ⟨h, g, d, t, os⟩ := by
  have hT : (⟨h, g, d, t, os⟩ : Shared).TypeIs (.ref I) "list_iterator" := ⟨_, hx, rfl⟩
  have hT5 : (⟨h, g, d, t, os⟩ : Shared).TypeIs (.builtin "list_iterator.__next__") "wrapper_descriptor" := ty_next
  have f4 := slot_listiter_next.lookup
  have f5 := ty_next
  have f6 := slot_wd_get.lookup
  have f7 := noset_wd
  have f8 := nodel_wd
  repeat (any_goals (first | assumption | wp_step))
  refine next_get hx rfl ?_
  repeat (any_goals (first | assumption | wp_step))
theorem next_call {D : Addr} {i : Nat} {tk : Tok} {R : Result → Shared → Prop} (hx : h.get? I = some (lstIt D i)) (hq : R (.ok (.ret (.ref h.objs.size))) ⟨h.push (wrapO I), g, d, t, os⟩) :
    codeAny (model prog w) A (.call (.builtin "object.__getattribute__") ⟨[.ref I, .str "__next__" tk], []⟩) R ⟨h, g, d, t, os⟩ :=
  codeAny_call_builtin slot_li_ga.plain entry_o_ga (slot_li_ga.check _ _ _ _ _ _ _ _ (show (⟨h, g, d, t, os⟩ : Shared).TypeIs (.ref I) "list_iterator" from ⟨_, hx, rfl⟩) (args_o_ga _ _) (next_entry hx hq))
theorem next_attr {D : Addr} {i : Nat} {Q : Value → Shared → Prop} (hx : h.get? I = some (lstIt D i)) (hq : Q (.ref h.objs.size) ⟨h.push (wrapO I), g, d, t + 1, os⟩) :
    wpAny (model prog w) A (getAttr (.ref I) "__next__" true) Q E ⟨h, g, d, t, os⟩ := by
  have hT : (⟨h, g, d, t + 1, os⟩ : Shared).TypeIs (.ref I) "list_iterator" := ⟨_, hx, rfl⟩
  have f2 := slot_li_ga.lookup
  have f3 := slot_li_ga.bind (.ref I)
  unfold getAttr
  repeat (any_goals (first | assumption | wp_step))
  refine next_call hx ?_
  exact handed_on rfl hq
end
section
variable {prog : Program} {w : World} {a : Act} {m : Loc} {l l' : Led} {env : Env} {Q : VQ} {D I : Addr}
theorem Tri.next_attr {i : Nat} (hI : (I, lstIt D i) ∈ l) (h : ∀ W, Q (.ref W) m ((W, wrapO I) :: l)) : Tri prog w a m l (getAttr (.ref I) "__next__" true) Q :=
  ⟨fun E s R gF iF F N D₀ k => Mine.next_attr (N _ hI).1 (k _ _ _ _ _ _ iF (F.push _) (N.push F _) (nd_cons D₀ fun p hp => Heap.lt_size (N p hp).1) (h _))⟩
end

section
variable {prog : Program} {w : World} {A : Around} {E : Value → Shared → Prop} {s : Shared} {I W D : Addr} {i : Nat}
theorem wrap_call {Q : Value → Shared → Prop} (hW : s.heap.get? W = some (wrapO I))
    (hq : codeAny (model prog w) A (.builtin "list_iterator.__next__" ⟨[.ref I], []⟩) (fun r s' => match r with | .ok (.ret v) => Q v s' | .ok _ => False | .error e => E e s') s) :
    wpAny (model prog w) A (call (.ref W) []) Q E s := by
  refine wpAny_call (codeAny_of_tree ?_)
  show wpAny _ _ (callAny (.ref W) _) _ _ _
  unfold callAny
  refine wpAny_bind (wpAny_load hW ?_)
  repeat (any_goals (first | assumption | wp_step))
  exact ⟨Code.quiet_builtin _ (by decide +kernel), hq⟩
theorem wrap_item {vs : List Value} {nn : Nat} {x : Value} {Q : Value → Shared → Prop} (hW : s.heap.get? W = some (wrapO I)) (hI : s.heap.get? I = some (lstIt D i)) (hD : s.heap.get? D = some (lstO vs nn)) (hx : vs[i]? = some x)
    (hQ : ∀ h', h'.get? I = some (lstIt D (i + 1)) → Heap.SameBut I s.heap h' → Q x { s with heap := h' }) : wpAny (model prog w) A (call (.ref W) []) Q E s := by
  refine wrap_call hW (codeAny_builtin entry_listiter_next ?_)
  show wpAny _ _ (field (.ref I) 0 >>= _) _ _ s
  refine wpAny_bind (wpAny_field hI rfl (x := .ref D) rfl ?_)
  show wpAny _ _ (if (Value.ref D == Value.none) = true then _ else _) _ _ s
  rw [if_neg (show ¬ ((Value.ref D == Value.none) = true) from Bool.false_ne_true)]
  show wpAny _ _ (field (.ref I) 1 >>= _) _ _ s
  refine wpAny_bind (wpAny_field hI rfl (x := .int i 0) rfl ?_)
  show wpAny _ _ (seqItems? (.ref D) >>= _) _ _ s
  refine wpAny_bind (wpAny_seqItems hD rfl ?_)
  have hx' : vs.toArray[i]? = some x := by simpa using hx
  simp only [Int.toNat_natCast, hx']
  refine wpAny_bind (wpAny_setField hI rfl (by simp) (wpAny_pure ?_))
  refine hQ _ ?_ (Heap.SameBut.update ..)
  exact Heap.get?_update_self _ hI rfl
end

structure NewX (h h' : Heap) (e : Addr) (cls : String) : Prop where
  keeps : ∀ b o, h.get? b = some o → h'.get? b = some o
  new : h.get? e = none
  there : ∃ ob vs a0, h'.get? e = some ob ∧ ob.cls = .type cls ∧ ob.data = .fields vs ∧ vs[1]? = some .none ∧ vs[0]? = some a0

section
variable {prog : Program} {w : World} {K : Frag} {p : Program} {loose : List Str} {mean : ExcName → Option Value} {mg mb : Str → Option Value} {a : Act} {n : Nat} {m : Loc} {l : Led}
variable {name : Str} {scope : Scope} {fa : Addr} {cd : Value}
theorem caughtX {E : Value → Shared → Prop} {s' : Shared} {g h : Heap} {e : Addr} {X T' : String} {x : Str} {np pos : Pos} {b₀ : Stmt} {suite : List Stmt} {Q : Flow → Shared → Prop}
    (ok : Ok K p loose mean mg mb a (envX name scope a.L fa cd []) n) (i : Turned a g) (F : Fr g a.L h m) (N : News g a.L h l) (hx : NewX h s'.heap e X)
    (ex : nsIn K mainGlobals x = some none) (hv : bootBuiltins x = some (.type T')) (hn' : x ≠ "__name__")
    (hexc : isSubtype (.type T') (.type "BaseException") = pure true) (hnt : isSubtype (.type ((Manifest.find? T').elim "type" fun y => y.metatype)) (.type "tuple") = pure false) (hsub : isSubtype (.type X) (.type T') = pure true)
    (k : ∀ h' g' E', Turned a g' → Fr g' a.L h' m → News g' a.L h' l → wpAny (model prog w) (a.A.mark (some (.ref e))) (execs (b₀ :: suite) (envX name scope a.L fa cd [])) Q E' { s' with heap := h' })
    (hk : scope.kind = .function := by rfl) (hxk : (envX name scope a.L fa cd []).kindOf x = some .globalImplicit := by rfl) (hd : (x == ("__debug__" : Str)) = false := by decide) :
    wpAny (model prog w) a.A (noteFrame (.ref e) (envX name scope a.L fa cd []))
      (fun _ s₂ => wpAny (model prog w) a.A (setFlight (.ref e) none) (fun _ s₃ =>
        wpAny (model prog w) a.A (handleBy (.ref e) (envX name scope a.L fa cd []) [.ExceptHandler (some (.Name x np)) none (b₀ :: suite) pos]) Q E s₃) E s₂) E s' := by
  obtain ⟨A₀, outer, B₀, hfr, hfs⟩ := ok.below
  have B := i.belowAt B₀
  have K' := pushX (env := envX name scope a.L fa cd []) B F rfl hk
  have hin : ∀ env ∈ (envX name scope a.L fa cd [] :: outer), ∀ b, env.frame = some b → b ∈ (envX name scope a.L fa cd [] :: outer).filterMap (·.frame) := fun env he b hb => List.mem_filterMap.mpr ⟨env, he, hb⟩
  have hmemL : ∀ b, b ∈ (envX name scope a.L fa cd [] :: outer).filterMap (·.frame) → b = a.L ∨ b ∈ outer.filterMap (·.frame) := fun b hb => by
    rw [List.filterMap_cons] at hb
    exact List.mem_cons.mp hb
  obtain ⟨ob, vs, a0, he, hcls, hd', h1, h0⟩ := hx.there
  have hen : (hideAll h ((envX name scope a.L fa cd [] :: outer).filterMap (·.frame))).get? e = none := by
    cases q : (hideAll h ((envX name scope a.L fa cd [] :: outer).filterMap (·.frame))).get? e with
    | none => rfl
    | some o => have := of_hideAll _ q; rw [hx.new] at this; cases this
  have hl₁ : s'.heap.FunFrames (hideAll h ((envX name scope a.L fa cd [] :: outer).filterMap (·.frame))) (envX name scope a.L fa cd [] :: outer) :=
    (funFrames_hide K'.frames hin).of_keeps fun b o hb _ => ⟨o, hx.keeps b o hb, rfl⟩
  have hkb : (hideAll h ((envX name scope a.L fa cd [] :: outer).filterMap (·.frame))).StaysIn s'.heap := fun b o hb => hx.keeps b o (of_hideAll _ hb)
  have hBG : ∀ b o, h.get? b = some o → b ∉ (envX name scope a.L fa cd [] :: outer).filterMap (·.frame) → (hideAll h ((envX name scope a.L fa cd [] :: outer).filterMap (·.frame))).get? b = some o := fun b o q nm => hideAll_get _ q nm
  have hup : h.UpToSlots s'.heap := Heap.UpToSlots.of_keeps hx.keeps
  -- where the frame stands behind
  have gr : ∀ h₅ : Heap, (hideAll h ((envX name scope a.L fa cd [] :: outer).filterMap (·.frame))).StaysIn h₅ → h.UpToSlots h₅ → ∃ g', Turned a g' ∧ Fr g' a.L h₅ m ∧ News g' a.L h₅ l := by
    intro h₅ hB hsm
    obtain ⟨g', T, F', B'⟩ := kts_ground (name := name) (scope := scope) (a := fa) (cd := cd) B F hBG hB hsm
    rw [← hfs] at T
    refine ⟨g', ⟨i.turn.trans T, B'.stays⟩, F', fun q hq => ⟨hB _ _ (hideAll_get _ (N q hq).1 fun hm => ?_), (N q hq).2.1, T.none_ _ (N q hq).2.2⟩⟩
    rcases hmemL _ hm with z | z
    · exact (N q hq).2.1 z
    · obtain ⟨_, o, ho, _⟩ := B.frames.mem z
      rw [(N q hq).2.2] at ho; cases ho
  -- the note
  unfold noteFrame
  simp only
  refine wpAny_bind (wpAny_field he hd' h1 ?_)
  rw [if_neg (by decide)]
  refine wpAny_entryW hfr hl₁ rfl he hkb hen hd' (Array.getElem?_eq_some_iff.mp h1).1 h0 fun h₄ hN => ?_
  obtain ⟨n1, n2, n3, n4⟩ := hN
  have hsm₄ : s'.heap.UpToSlots h₄ := n4
  refine wpAny_landsW (L := a.L) (e := e) ⟨n1, hen, n2, n3⟩ fun h₅ hfl₅ hsm₅ => ?_
  obtain ⟨g₅, i₅, F₅, N₅⟩ := gr h₅ hfl₅.1 ((hup.trans hsm₄).trans hsm₅)
  obtain ⟨ob₅, hob₅, hobc₅⟩ := hfl₅.there
  refine wpAny_handleBy_builtin (X := X) (T := T') (b := true) hexc hnt hsub (nameX_B F₅ (ok.kin.keeps i₅.stays) (topRead_of (ok.top.keeps i₅.stays)) ex hv hn' ⟨rfl, ⟨ob₅, hob₅, hobc₅.trans hcls⟩, ?_⟩ hk hxk hd)
  rw [if_pos rfl]
  refine lands_againW hfl₅ fun h₆ hfl₆ hsm₆ => ?_
  obtain ⟨g₆, i₆, F₆, N₆⟩ := gr h₆ hfl₆.1 (((hup.trans hsm₄).trans hsm₅).trans hsm₆)
  exact k h₆ g₆ _ i₆ F₆ N₆

theorem Tri.TryX {X T' : String} {x : Str} {np pos hpos : Pos} {body : List Stmt} {b₀ : Stmt} {suite : List Stmt} {Q : FQ} (P : Loc → Led → Prop)
    (ok : Ok K p loose mean mg mb a (envX name scope a.L fa cd []) n)
    (ex : nsIn K mainGlobals x = some none) (hv : bootBuiltins x = some (.type T')) (hn' : x ≠ "__name__")
    (hexc : isSubtype (.type T') (.type "BaseException") = Pure.pure true) (hnt : isSubtype (.type ((Manifest.find? T').elim "type" fun y => y.metatype)) (.type "tuple") = Pure.pure false) (hsub : isSubtype (.type X) (.type T') = Pure.pure true)
    (hb : ∀ (E : Value → Shared → Prop) (s : Shared) (R : Flow → Shared → Prop) (g : Heap), Turned a g → Fr g a.L s.heap m → News g a.L s.heap l → ND l →
      (∀ f m' l' h' tk' g', Turned a g' → Fr g' a.L h' m' → News g' a.L h' l' → ND l' → (match f with | .next => Q .next m' l' | f => Q f m' l') → R f { s with heap := h', toks := tk' }) →
      (∀ e m' l' h h' tk' g', Turned a g' → Fr g' a.L h m' → News g' a.L h l' → ND l' → P m' l' → NewX h h' e X → E (.ref e) { s with heap := h', toks := tk' }) →
      wpAny (model prog w) a.A (execs body (envX name scope a.L fa cd [])) R E s)
    (hh : ∀ (b : Act) m l, b.L = a.L → P m l → Tri prog w b m l (execs (b₀ :: suite) (envX name scope b.L fa cd [])) Q)
    (hk : scope.kind = .function := by rfl) (hxk : ∀ L, (envX name scope L fa cd []).kindOf x = some .globalImplicit := by intro _; rfl) (hd : (x == ("__debug__" : Str)) = false := by decide) :
    Tri prog w a m l (exec (.Try body [.ExceptHandler (some (.Name x np)) none (b₀ :: suite) hpos] [] [] pos) (envX name scope a.L fa cd [])) Q := by
  refine ⟨fun E s R gF iF F N D c => wpAny_Try_except ?_⟩
  refine hb _ s _ gF iF F N D (fun f m' l' h' tk' g' i' F' N' D' q => ?_) (fun e m' l' h h' tk' g' i' F' N' D' q hx => ?_)
  · cases f with
    | next => exact wpAny_execs_nil (c _ _ _ _ _ _ i' F' N' D' q)
    | brk => exact c _ _ _ _ _ _ i' F' N' D' q
    | cont => exact c _ _ _ _ _ _ i' F' N' D' q
    | ret v => exact c _ _ _ _ _ _ i' F' N' D' q
  · refine caughtX ok i' F' N' hx ex hv hn' hexc hnt hsub (fun h₆ g₆ E' i₆ F₆ N₆ => ?_) hk (hxk _) hd
    exact (hh ⟨a.A.mark (some (.ref e)), a.h₀, a.L, a.fs, a.base⟩ m' l' rfl q).run E' _ R g₆ ⟨i₆.turn, i₆.stays⟩ F₆ N₆ D' fun f m2 l2 h2 t2 g2 i2 F2 N2 D2 q2 => c _ _ _ _ _ _ ⟨i2.turn, i2.stays⟩ F2 N2 D2 q2
end

section
variable {prog : Program} {w : World} {A : Around} {E : Value → Shared → Prop} {s : Shared} {I W D : Addr} {i : Nat}
theorem looks_wrap {M : Model} {h : Heap} (hW : h.get? W = some (wrapO I)) : Looks M h (keeperOf (.ref W)) .machine :=
  (Looks.ld (part := none) hW).andThen .now
theorem wrap_end {vs : List Value} {nn : Nat} {Q : Value → Shared → Prop} (hh : A.handled = none) (hW : s.heap.get? W = some (wrapO I)) (hI : s.heap.get? I = some (lstIt D i)) (hD : s.heap.get? D = some (lstO vs nn)) (hx : vs[i]? = none)
    (hE : ∀ h₁ h' e, Heap.SameBut I s.heap h₁ → NewX h₁ h' e "StopIteration" → E (.ref e) { s with heap := h' }) : wpAny (model prog w) A (call (.ref W) []) Q E s := by
  refine wrap_call hW (codeAny_builtin entry_listiter_next ?_)
  show wpAny _ _ (field (.ref I) 0 >>= _) _ _ s
  refine wpAny_bind (wpAny_field hI rfl (x := .ref D) rfl ?_)
  show wpAny _ _ (if (Value.ref D == Value.none) = true then _ else _) _ _ s
  rw [if_neg (show ¬ ((Value.ref D == Value.none) = true) from Bool.false_ne_true)]
  show wpAny _ _ (field (.ref I) 1 >>= _) _ _ s
  refine wpAny_bind (wpAny_field hI rfl (x := .int i 0) rfl ?_)
  show wpAny _ _ (seqItems? (.ref D) >>= _) _ _ s
  refine wpAny_bind (wpAny_seqItems hD rfl ?_)
  have hx' : vs.toArray[i]? = none := by simpa using hx
  simp only [Int.toNat_natCast, hx']
  refine wpAny_bind (wpAny_rule (wpAny_bind (wpAny_setField hI rfl (by simp) ?_)))
  show wpAny _ _ (newExc (.type "StopIteration") [] >>= _) _ _ _
  refine wpAny_bind ?_
  simp only [newExc, newTuple]
  refine wpAny_bind (wpAny_newObj_type ?_ (by size_fits))
  refine wpAny_bind (m := firstArgMember _ _) (wpAny_of_eq (a := Value.none) (by first | rfl | (simp only [firstArgMember]; rfl)) ?_)
  refine wpAny_newObj_type ?_ (by size_fits)
  simp only [raiseNew]
  refine wpAny_bind (wpAny_handled ?_)
  rw [show (A.under (Code.builtin "list_iterator.__next__" { pos := [Value.ref I] })).handled = none from hh]
  refine wpAny_throw ?_
  refine hE _ _ _ (Heap.SameBut.update ..) ⟨fun b o hb => Heap.get?_push_of_some _ (Heap.get?_push_of_some _ hb), Heap.get?_none_of_le (by simp), _, _, _, Heap.get?_push_size _ rfl, rfl, rfl, rfl, rfl⟩
end
section
variable {prog : Program} {w : World} {a : Act} {m : Loc} {l l' : Led} {env : Env} {Q : VQ} {D I W : Addr} {i nn : Nat} {vs : List Value} {v : Value} {pos : Pos}
theorem Tri.withW (hW : (W, wrapO I) ∈ l) (h : Tri prog w a m l (call (.ref W) []) Q) : Tri prog w a m l (callWith pos (.ref W) [] (backTo pos (starEach [] env)) []) Q :=
  ⟨fun E s R gF iF F N D k => callWith_of (P := fun h => h.get? W = some (wrapO I)) rfl (fun h hw => ⟨.machine, .inr (.inl rfl), looks_wrap hw⟩) (evalArgs_nil3 ⟨(N _ hW).1, h.run E s R _ iF F N D k⟩)⟩
theorem Tri.wrapItem (hW : (W, wrapO I) ∈ l) (U : Put I (lstIt D i) (lstIt D (i + 1)) l l') (hD : (D, lstO vs nn) ∈ l) (hx : vs[i]? = some v) (h : Q v m l') : Tri prog w a m l (call (.ref W) []) Q :=
  ⟨fun E s R gF iF F N D₀ k => wrap_item (N _ hW).1 (N _ U.mem).1 (N _ hD).1 hx fun h' hI hs => k _ _ _ h' s.toks _ iF (fr_put F N U hs) (news_put N D₀ U hs hI) (U.nd D₀) h⟩

theorem end_body {fe : Expr} {x : Str} {px cpos spos : Pos} {rest : List Stmt} {lx : Led} (hh : a.A.handled = none)
    (hT : Tri prog w a m l (eval fe env) fun v m1 l1 => v = .ref W ∧ m1 = m ∧ l1 = l) (hW : (W, wrapO I) ∈ l) (hI : (I, lstIt D i) ∈ l) (hD : (D, lstO vs nn) ∈ l) (hx : vs[i]? = none)
    (hsub : Sub ((I, lstIt D i) :: lx) l)
    (he : eval (.Call fe [] [] cpos) env = (do callWith cpos (← eval fe env) [] (backTo cpos (starEach [] env)) (backToKw cpos (keywordEach [] env))) := by rfl)
    (hs : swapsWith (.Call fe [] [] cpos) (some (.Name x px)) spos.line env = Pure.pure false := by rfl)
    (E : Value → Shared → Prop) (s : Shared) (R : Flow → Shared → Prop) (g : Heap) (iF : Turned a g) (F : Fr g a.L s.heap m) (N : News g a.L s.heap l) (DD : ND l)
    (k : ∀ e m' l' h h' tk' g', Turned a g' → Fr g' a.L h m' → News g' a.L h l' → ND l' → (m' = m ∧ l' = lx) → NewX h h' e "StopIteration" → E (.ref e) { s with heap := h', toks := tk' }) :
    wpAny (model prog w) a.A (execs (.Assign [.Name x px] (.Call fe [] [] cpos) spos :: rest) env) R E s := by
  refine wpAny_execs_cons (wpAny_Assign_Name (Call_ (hT.run E s _ g iF F N DD fun v m1 l1 h1 t1 g1 i1 F1 N1 D1 q1 => ?_) he) hs)
  obtain ⟨rfl, rfl, rfl⟩ := q1
  refine callWith_of (P := fun h => h.get? W = some (wrapO I)) rfl (fun h hw => ⟨.machine, .inr (.inl rfl), looks_wrap hw⟩) (evalArgs_nil3 ⟨(N1 _ hW).1, ?_⟩)
  refine wrap_end hh (N1 _ hW).1 (N1 _ hI).1 (N1 _ hD).1 hx fun h₂ h' e hs₂ hnx => ?_
  have Dx := hsub.nd D1
  have hIn := N1 _ hI
  refine k e _ _ h₂ h' t1 g1 i1 (F1.change hs₂ hIn.2.1 hIn.2.2) (fun p hp => ?_) (List.nodup_cons.mp Dx).2 ⟨rfl, rfl⟩ hnx
  have := N1 p (hsub.mem p (.tail _ hp))
  refine ⟨(hs₂.2 _ fun e => ?_).trans this.1, this.2⟩
  exact (List.nodup_cons.mp Dx).1 (by have := List.mem_map_of_mem (f := Prod.fst) hp; rw [e] at this; exact this)
end

section
variable {prog : Program} {w : World} {a : Act} {m : Loc} {l l' : Led} {env : Env} {Q : VQ} {D D' sl : Addr} {vs ws : List Value} {nn n2 : Nat} {v : Value} {u : Tok}
theorem Tri.sub_last {value slice : Expr} (hD : (D, lstO (vs ++ [v]) nn) ∈ l) (hz : vs.length + 1 ≤ sizeLine) (h : Q v m l)
    (hs : subscripted slice false (.ref D) (.int (-1) u) = operate [.ref D, .int (-1) u] (getItem (.ref D) (.int (-1) u)) := by first | with_reducible exact subscr_slice .. | with_reducible exact subscr_Name .. | with_reducible exact subscr_BinOp .. | with_reducible exact subscr_Constant .. | with_reducible exact subscr_UnaryOp .. | with_reducible exact subscr_Call ..) :
    Tri prog w a m l (subscriptTail value slice (.ref D) (.int (-1) u)) Q :=
  ⟨fun E s R gF iF F N D₀ k => by
    have hl : s.heap.IsList D (vs ++ [v]).toArray := ⟨_, (N _ hD).1, rfl, nn, rfl⟩
    refine tail_any hl.typeIs slot_list_getitem.lookup (wpAny_getItem_list_neg hl (by decide) ?_ (by decide) (x := v) ?_ (k _ _ _ s.heap s.toks _ iF F N D₀ h)) hs
    · simp; omega
    · simp only [List.size_toArray, List.length_append, List.length_cons, List.length_nil]
      have : ((-1 : Int) + ((vs.length + (0 + 1) : Nat) : Int)).toNat = vs.length := by omega
      rw [this]
      simp⟩
theorem letGo_Name (x : Str) (p : Pos) (o r : Value) : letTemporaryGo (.Name x p) o r = Pure.pure () := rfl
theorem Tri.sliceL {x : Str} {p : Pos} {lo hi : Option Expr} {sp : Pos} {vl vu : Value} {li hi' : Option Int} (hD : (D, lstO vs nn) ∈ l) (hz : vs.length ≤ sizeLine) (pl : IsPart vl li) (pu : IsPart vu hi')
    (h : ∀ R, Q (.ref R) m ((R, lstO (slicePick vs.toArray li hi' none).toList 0) :: l)) :
    Tri prog w a m ((sl, sliceObj vl vu) :: l) (subscriptTail (.Name x p) (.Slice lo hi none sp) (.ref D) (.ref sl)) Q :=
  ⟨fun E s R gF iF F N D₀ k => by
    have hl : s.heap.IsList D vs.toArray := ⟨_, (N _ (.tail _ hD)).1, rfl, nn, rfl⟩
    refine subscriptTail_ops hl.typeIs list_getitem_lookup (wpAny_getItem_list_slice hl ⟨_, (N _ (.head _)).1, rfl, rfl⟩ pl pu .none (by simp) ?_ (by simpa using hz)) (subscr_slice ..) (letGo_Name x p _)
    have N' : News gF a.L s.heap l := fun p hp => N p (.tail _ hp)
    have e : ({ cls := .type "list", data := .seq (slicePick vs.toArray li hi' none) } : Obj) = lstO (slicePick vs.toArray li hi' none).toList 0 := by simp [lstO]
    rw [e]
    exact k _ _ _ _ _ _ iF (F.push _) (N'.push F _) (nd_cons (List.nodup_cons.mp D₀).2 fun p hp => Heap.lt_size (N' p hp).1) (h _)⟩

theorem Tri.sliceB {x : Str} {p : Pos} {lo hi : Option Expr} {sp : Pos} {vl vu : Value} {li hi' : Option Int} (hD : a.base.IsList D vs.toArray) (hz : vs.length ≤ sizeLine) (pl : IsPart vl li) (pu : IsPart vu hi')
    (h : ∀ R, Q (.ref R) m ((R, lstO (slicePick vs.toArray li hi' none).toList 0) :: l)) :
    Tri prog w a m ((sl, sliceObj vl vu) :: l) (subscriptTail (.Name x p) (.Slice lo hi none sp) (.ref D) (.ref sl)) Q :=
  ⟨fun E s R gF iF F N D₀ k => by
    have hl : s.heap.IsList D vs.toArray := by
      obtain ⟨o, ho, r⟩ := hD
      exact ⟨o, F.keep _ _ (iF.stays _ _ ho), r⟩
    refine subscriptTail_ops hl.typeIs list_getitem_lookup (wpAny_getItem_list_slice hl ⟨_, (N _ (.head _)).1, rfl, rfl⟩ pl pu .none (by simp) ?_ (by simpa using hz)) (subscr_slice ..) (letGo_Name x p _)
    have N' : News gF a.L s.heap l := fun p hp => N p (.tail _ hp)
    have e : ({ cls := .type "list", data := .seq (slicePick vs.toArray li hi' none) } : Obj) = lstO (slicePick vs.toArray li hi' none).toList 0 := by simp [lstO]
    rw [e]
    exact k _ _ _ _ _ _ iF (F.push _) (N'.push F _) (nd_cons (List.nodup_cons.mp D₀).2 fun p hp => Heap.lt_size (N' p hp).1) (h _)⟩
theorem Tri.add_list (hD : (D, lstO vs nn) ∈ l) (hD' : (D', lstO ws n2) ∈ l) (hz : vs.length + ws.length ≤ sizeLine) (h : ∀ R, Q (.ref R) m ((R, lstO (vs ++ ws) 0) :: l)) :
    Tri prog w a m l (binaryOp .Add (.ref D) (.ref D')) Q :=
  ⟨fun E s R gF iF F N D₀ k => add_lists (vs := vs) (ws := ws) F N ⟨_, (N _ hD).1, rfl, nn, rfl⟩ ⟨_, (N _ hD').1, rfl, n2, rfl⟩ (fun h' F' N' => k _ _ _ _ _ _ iF F' N' (nd_cons D₀ fun p hp => Heap.lt_size (N p hp).1) (h _)) hz⟩
theorem Tri.iterL (hD : (D, lstO vs nn) ∈ l) (h : ∀ I, Q (.ref I) m ((I, lstIt D 0) :: l)) : Tri prog w a m l (call (.builtin "iter") [.ref D]) Q :=
  ⟨fun E s R gF iF F N D₀ k => by
    refine call_function_entry (by decide +kernel) (by decide +kernel) kdk_entry_iter (kdk_args_iter _) ?_
    unfold Builtin.«iter»
    refine wpAny_bind (m := someArgs "iter" 1 2 _) (wpAny_of_eq (a := [Value.ref D]) (by first | rfl | kernel_rfl!) ?_)
    show wpAny _ _ (pyIter (.ref D) >>= _) _ _ _
    refine wpAny_bind (wpAny_pyIter_list (items := vs.toArray) ⟨_, (N _ hD).1, rfl, nn, rfl⟩ ?_)
    exact wpAny_pure ⟨_, rfl, k _ _ _ _ _ _ iF (F.push _) (N.push F _) (nd_cons D₀ fun p hp => Heap.lt_size (N p hp).1) (h _)⟩⟩
theorem Tri.uneg {i : Int} {t : Tok} (h : ∀ t, Q (.int (-i) t) m l) : Tri prog w a m l (unaryOp .USub (.int i t)) Q :=
  ⟨fun E s R gF iF F N D₀ k => PyProof.Rows.neg_int (k _ _ _ s.heap _ _ iF F N D₀ (h _))⟩
theorem Tri.ExprA {e : Expr} {pos : Pos} {Q : FQ} (h : Tri prog w a m l (eval e env) fun _ m1 l1 => Q .next m1 l1) (hi : interactive env = false := by rfl)
    (hs : swapsWith e none pos.line env = Pure.pure false := by rfl) : Tri prog w a m l (exec (.Expr e pos) env) Q :=
  ⟨fun E s R gF iF F N D k => wpAny_Expr_any (h.run E s _ _ iF F N D fun v m1 l1 h1 t1 gF1 iF1 F1 N1 D1 q1 => k _ _ _ _ _ _ iF1 F1 N1 D1 q1) hi hs⟩
end

structure Fm (κ : Type) where
  key : κ
  val : Value
  W : Addr
  I : Addr
  D : Addr
  p : Nat
  t : Tok
section
variable {κ : Type} [DecidableEq κ]
def fcells (fr : List (Fm κ)) : Led := fr.flatMap fun f => [(f.W, wrapO f.I), (f.I, lstIt f.D f.p)]
def kv2 : List (Fm κ) → List (κ × Value)
  | [] => []
  | f :: r => kv2 r ++ [(f.key, .int r.length f.t)]
theorem kv2_keys : ∀ fr : List (Fm κ), (kv2 fr).map (·.1) = (fr.map (·.key)).reverse
  | [] => rfl
  | f :: r => by simp [kv2, kv2_keys r]
theorem kv2_length (fr : List (Fm κ)) : (kv2 fr).length = fr.length := by
  have := congrArg List.length (kv2_keys fr)
  simpa using this

def Topo (succ : κ → List κ) : List κ → Prop
  | [] => True
  | k :: r => (∀ u ∈ succ k, u ∈ r) ∧ k ∉ r ∧ Topo succ r
def Steps (succ : κ → List κ) (F : List κ) : Option κ → List (Fm κ) → Prop
  | _, [] => True
  | pend, f :: r => (∀ u ∈ (succ f.key).take f.p, u ∈ F ∨ pend = some u) ∧ f.p ≤ (succ f.key).length ∧ (∀ v, pend = some v → v ∈ succ f.key) ∧ Steps succ F (some f.key) r
theorem Steps.mono {succ : κ → List κ} {F F' : List κ} (hF : ∀ u ∈ F, u ∈ F') : ∀ {fr : List (Fm κ)} {pend : Option κ}, Steps succ F pend fr → Steps succ F' pend fr
  | [], _, _ => trivial
  | f :: r, pend, ⟨h1, h2, h3, h4⟩ => ⟨fun u hu => (h1 u hu).imp_left (hF u), h2, h3, h4.mono hF⟩

theorem Steps.settle {succ : κ → List κ} {F : List κ} {v : κ} (hv : v ∈ F) : ∀ {fr : List (Fm κ)}, Steps succ F (some v) fr → Steps succ F none fr
  | [], _ => trivial
  | f :: r, ⟨h1, h2, h3, h4⟩ => ⟨fun u hu => (h1 u hu).elim .inl fun e => .inl (Option.some.inj e ▸ hv), h2, (fun v e => by cases e), h4⟩
theorem Steps.take {succ : κ → List κ} {F : List κ} {f : Fm κ} {r : List (Fm κ)} {v : κ} (h : Steps succ F none (f :: r)) (hv : (succ f.key)[f.p]? = some v) : Steps succ F (some v) ({ f with p := f.p + 1 } :: r) := by
  obtain ⟨h1, h2, h3, h4⟩ := h
  refine ⟨fun u hu => ?_, (List.getElem?_eq_some_iff.mp hv).1, fun u e => Option.some.inj e ▸ List.mem_of_getElem? hv, h4⟩
  rw [List.take_add_one, hv] at hu
  rcases List.mem_append.mp hu with hu | hu
  · exact (h1 u hu).elim .inl fun e => nomatch e
  · exact .inr (by simp at hu; rw [hu])
theorem Steps.pop {succ : κ → List κ} {F : List κ} {f : Fm κ} {r : List (Fm κ)} (h : Steps succ F none (f :: r)) (hv : (succ f.key)[f.p]? = none) : (∀ u ∈ succ f.key, u ∈ F) ∧ Steps succ (f.key :: F) none r := by
  obtain ⟨h1, h2, h3, h4⟩ := h
  refine ⟨fun u hu => ?_, (h4.mono fun u hu => .tail _ hu).settle (.head _)⟩
  have hp : f.p = (succ f.key).length := Nat.le_antisymm h2 (by simpa using hv)
  rw [hp, List.take_length] at h1
  exact (h1 u hu).elim id fun e => nomatch e
theorem Steps.ring {succ : κ → List κ} {F : List κ} {f0 : Fm κ} {B : List (Fm κ)} : ∀ {A : List (Fm κ)} {v : κ}, Steps succ F (some v) (A ++ f0 :: B) → ∀ k ∈ v :: A.map (·.key), ∃ u ∈ (A ++ [f0]).map (·.key), k ∈ succ u
  | [], v, ⟨_, _, h3, _⟩, k, hk => by
    simp at hk; subst hk
    exact ⟨f0.key, by simp, h3 _ rfl⟩
  | a :: A, v, ⟨_, _, h3, h4⟩, k, hk => by
    rcases List.mem_cons.mp hk with rfl | hk
    · exact ⟨a.key, by simp, h3 _ rfl⟩
    · obtain ⟨u, hu, hs⟩ := Steps.ring h4 k hk
      exact ⟨u, by simpa using .inr (by simpa using hu), hs⟩

def Ring (succ : κ → List κ) (C : List κ) : Prop := C ≠ [] ∧ ∀ k ∈ C, ∃ u ∈ C, k ∈ succ u
theorem Steps.isRing {succ : κ → List κ} {F : List κ} {fr : List (Fm κ)} {v : κ} (h : Steps succ F (some v) fr) (hv : v ∈ fr.map (·.key)) : ∃ C, Ring succ C ∧ ∀ k ∈ C, k ∈ fr.map (·.key) := by
  obtain ⟨f0, hf, rfl⟩ := List.mem_map.mp hv
  obtain ⟨A, B, rfl⟩ := List.append_of_mem hf
  refine ⟨(A ++ [f0]).map (·.key), ⟨by simp, fun k hk => ?_⟩, fun k hk => ?_⟩
  · refine h.ring k ?_
    simp at hk ⊢
    rcases hk with hk | hk
    · exact .inr hk
    · exact .inl hk
  · simp at hk ⊢
    rcases hk with ⟨x, hx, rfl⟩ | rfl
    · exact .inl ⟨x, hx, rfl⟩
    · exact .inr (.inl rfl)

def wsum (wt : NI κ → Nat) (Sn : κ → Bool) (st : List (NI κ)) : Nat := (st.map fun r => if Sn r.key then 0 else wt r).sum
theorem wsum_mono (wt : NI κ → Nat) {Sn Sn' : κ → Bool} (h : ∀ k, Sn k = true → Sn' k = true) : ∀ st : List (NI κ), wsum wt Sn' st ≤ wsum wt Sn st
  | [] => Nat.le_refl _
  | x :: st => by
    have ih := wsum_mono wt h st
    unfold wsum at ih ⊢
    simp only [List.map_cons, List.sum_cons]
    by_cases e : Sn x.key = true
    · rw [if_pos e, if_pos (h _ e)]; omega
    · rw [if_neg e]; split <;> omega
theorem wsum_enter (wt : NI κ → Nat) {Sn : κ → Bool} {v : κ} (hv : Sn v = false) : ∀ {st : List (NI κ)} {r : NI κ}, r ∈ st → r.key = v → wsum wt (fun k => Sn k || decide (k = v)) st + wt r ≤ wsum wt Sn st
  | [], r, h, _ => nomatch h
  | x :: st, r, h, hk => by
    have mono := wsum_mono wt (Sn := Sn) (Sn' := fun k => Sn k || decide (k = v)) (fun k e => by simp [e]) st
    rcases List.mem_cons.mp h with rfl | h
    · unfold wsum at mono ⊢
      simp only [List.map_cons, List.sum_cons, hk, hv]
      simp at mono ⊢
      omega
    · have ih := wsum_enter wt hv h hk
      have c1 : ∀ T : κ → Bool, wsum wt T (x :: st) = (if T x.key then 0 else wt x) + wsum wt T st := fun T => by unfold wsum; simp
      rw [c1, c1]
      by_cases e : Sn x.key = true
      · simp only [e, Bool.true_or, if_true]; omega
      · simp only [Bool.not_eq_true] at e
        simp only [e, Bool.false_or, Bool.false_eq_true, if_false]
        split <;> omega
def rest (succ : κ → List κ) (fr : List (Fm κ)) : Nat := (fr.map fun f => (succ f.key).length - f.p).sum
def phi (st : List (NI κ)) (Sn : κ → Bool) (fr : List (Fm κ)) : Nat := wsum (fun r => r.succ.length + 1) Sn st + rest (succOf st) fr
theorem succOf_mem {st : List (NI κ)} (nd : (st.map (·.key)).Nodup) : ∀ {r : NI κ}, r ∈ st → succOf st r.key = r.succ := by
  induction st with
  | nil => intro r h; nomatch h
  | cons x st ih =>
    intro r h
    have nd' := List.nodup_cons.mp nd
    unfold succOf
    rcases List.mem_cons.mp h with rfl | h
    · simp
    · rw [List.find?_cons_of_neg]
      · exact ih nd'.2 h
      · intro e
        have e' : x.key = r.key := by simpa using e
        exact nd'.1 (List.mem_map.mpr ⟨r, h, e'.symm⟩)
theorem phi_enter {st : List (NI κ)} (nd : (st.map (·.key)).Nodup) {Sn : κ → Bool} {fr : List (Fm κ)} {f : Fm κ} (hv : Sn f.key = false) (hm : f.key ∈ st.map (·.key)) (hp : f.p = 0) : phi st (fun k => Sn k || decide (k = f.key)) (f :: fr) < phi st Sn fr := by
  obtain ⟨r, hr, hk⟩ := List.mem_map.mp hm
  have := wsum_enter (fun r => r.succ.length + 1) hv hr hk
  have e : succOf st f.key = r.succ := by rw [← hk]; exact succOf_mem nd hr
  unfold phi rest
  simp only [List.map_cons, List.sum_cons, hp, e]
  omega
theorem phi_take {st : List (NI κ)} {Sn : κ → Bool} {f : Fm κ} {r : List (Fm κ)} {v : κ} (hv : (succOf st f.key)[f.p]? = some v) : phi st Sn ({ f with p := f.p + 1 } :: r) < phi st Sn (f :: r) := by
  have := (List.getElem?_eq_some_iff.mp hv).1
  unfold phi rest
  simp only [List.map_cons, List.sum_cons]
  omega
theorem phi_pop {st : List (NI κ)} {Sn : κ → Bool} {f : Fm κ} {r : List (Fm κ)} : phi st Sn r ≤ phi st Sn (f :: r) := by
  unfold phi rest
  simp only [List.map_cons, List.sum_cons]
  omega
end

section
variable {prog : Program} {w : World} {κ : Type} [DecidableEq κ] {knd : KeyKind prog w κ}
def Sn (fr : List (Fm κ)) (F : List κ) : κ → Bool := fun k => decide (k ∈ fr.map (·.key) ∨ k ∈ F)
abbrev DSt (w : World) (S : Srt) (rows : List (Row κ)) (l : Led) (n2A seA itA stA : Addr) (oN oS : Obj) (ic sc : Nat) (fr : List (Fm κ)) : Led :=
  (n2A, oN) :: (seA, oS) :: (itA, lstO ((fr.map fun f => Value.ref f.W).reverse) ic) :: (stA, lstO ((fr.map (·.val)).reverse) sc) :: sled w S (cells rows ++ (fcells fr ++ l))
structure DInv (knd : KeyKind prog w κ) (rows : List (Row κ)) (fr : List (Fm κ)) (F : List κ) (oN oS : Obj) (sn : Nat) (pend : Option κ) : Prop where
  dn : oN.IsDictOf knd (kv2 fr)
  ds : IsSetOf knd oS (Sn fr F) sn
  topo : Topo (succOf (absR rows)) F
  nd : (fr.map (·.key)).Nodup
  dj : ∀ f ∈ fr, f.key ∉ F
  steps : Steps (succOf (absR rows)) F pend fr
  fk : ∀ f ∈ fr, knd.is f.key f.val = true
  fd : ∀ f ∈ fr, ∃ (i : Nat) (r : Row κ), rows[i]? = some r ∧ r.key = f.key ∧ r.sa = f.D
  cnt : sn + wsum (fun _ => 1) (Sn fr F) (absR rows) ≤ rows.length
  fl : fr.length ≤ sn
theorem key_of_row {rows : List (Row κ)} {i : Nat} {r : Row κ} (h : rows[i]? = some r) : r.key ∈ (absR rows).map (·.key) :=
  List.mem_map.mpr ⟨r.ni, List.mem_map_of_mem (List.mem_of_getElem? h), rfl⟩
theorem valueAt_none_of {kvs : List (κ × Value)} {k : κ} (h : k ∉ kvs.map (·.1)) : valueAt kvs k = none := by
  unfold valueAt
  rw [List.find?_eq_none.mpr]
  · rfl
  · intro p hp e
    exact h (List.mem_map.mpr ⟨p, hp, by simpa using e⟩)
theorem valueAt_kv2 {fr : List (Fm κ)} {k : κ} : (valueAt (kv2 fr) k).isSome = decide (k ∈ fr.map (·.key)) := by
  rw [Bool.eq_iff_iff, decide_eq_true_iff]
  have e : k ∈ fr.map (·.key) ↔ k ∈ (kv2 fr).map (·.1) := by rw [kv2_keys]; simp
  rw [e]
  constructor
  · intro h
    by_cases q : k ∈ (kv2 fr).map (·.1)
    · exact q
    · rw [valueAt_none_of q] at h; cases h
  · intro h
    obtain ⟨p, hp, e⟩ := List.mem_map.mp h
    unfold valueAt
    rw [Option.isSome_map, List.find?_isSome]
    exact ⟨p, hp, by simpa using e⟩
theorem kv2_mem : ∀ {fr : List (Fm κ)} {p : κ × Value}, p ∈ kv2 fr → ∃ (i : Nat) (t : Tok), p.2 = .int i t ∧ i < fr.length
  | [], _, hp => nomatch hp
  | f :: r, p, hp => by
    rcases List.mem_append.mp hp with hp | hp
    · obtain ⟨i, t, e, hi⟩ := kv2_mem hp
      exact ⟨i, t, e, by simp; omega⟩
    · rw [List.mem_singleton.mp hp]
      exact ⟨r.length, f.t, rfl, by simp⟩
theorem kv2_int {fr : List (Fm κ)} {k : κ} {v : Value} (h : valueAt (kv2 fr) k = some v) : ∃ (i : Nat) (t : Tok), v = .int i t ∧ i < fr.length := by
  unfold valueAt at h
  obtain ⟨p, hp, rfl⟩ := Option.map_eq_some_iff.mp h
  exact kv2_mem (List.mem_of_find?_eq_some hp)
theorem Sn_enter (fr : List (Fm κ)) (F : List κ) (f : Fm κ) : (fun k => Sn fr F k || decide (k = f.key)) = Sn (f :: fr) F := by
  funext k
  unfold Sn
  rw [Bool.eq_iff_iff]
  simp only [Bool.or_eq_true, decide_eq_true_eq, List.map_cons, List.mem_cons]
  constructor
  · rintro ((h | h) | h)
    · exact .inl (.inr h)
    · exact .inr h
    · exact .inl (.inl h)
  · rintro ((h | h) | h)
    · exact .inr h
    · exact .inl (.inl h)
    · exact .inl (.inr h)
theorem Sn_pop (fr : List (Fm κ)) (F : List κ) (f : Fm κ) : Sn (f :: fr) F = Sn fr (f.key :: F) := by
  funext k
  unfold Sn
  rw [Bool.eq_iff_iff]
  simp only [decide_eq_true_eq, List.map_cons, List.mem_cons]
  constructor
  · rintro ((h | h) | h)
    · exact .inr (.inl h)
    · exact .inl h
    · exact .inr (.inr h)
  · rintro (h | (h | h))
    · exact .inl (.inr h)
    · exact .inl (.inl h)
    · exact .inr h
theorem DInv.enter {rows : List (Row κ)} {fr : List (Fm κ)} {F : List κ} {oN oS oN' oS' : Obj} {sn : Nat} {f : Fm κ} (d : DInv knd rows fr F oN oS sn (some f.key)) (hp : f.p = 0) (hs : Sn fr F f.key = false)
    (hk : knd.is f.key f.val = true) (hr : ∃ (i : Nat) (r : Row κ), rows[i]? = some r ∧ r.key = f.key ∧ r.sa = f.D) (hN : oN'.IsDictOf knd (stored (kv2 fr) f.key (.int fr.length f.t)))
    (hS : IsSetOf knd oS' (fun k' => Sn fr F k' || decide (k' = f.key)) (if Sn fr F f.key then sn else sn + 1)) : DInv knd rows (f :: fr) F oN' oS' (sn + 1) none := by
  have hns : ¬ (f.key ∈ fr.map (·.key) ∨ f.key ∈ F) := by simpa [Sn] using hs
  have hn1 : f.key ∉ fr.map (·.key) := fun q => hns (.inl q)
  have e1 : stored (kv2 fr) f.key (.int fr.length f.t) = kv2 (f :: fr) := by
    unfold stored
    rw [if_neg]
    · rfl
    · simp only [List.any_eq_true, decide_eq_true_eq]
      rintro ⟨q, hq, e⟩
      have : f.key ∈ (kv2 fr).map (·.1) := List.mem_map.mpr ⟨q, hq, e⟩
      rw [kv2_keys] at this
      exact hn1 (by simpa using this)
  rw [e1] at hN
  rw [hs, Sn_enter] at hS
  obtain ⟨i, r, hi, hrk, hrs⟩ := hr
  have hc := wsum_enter (fun _ => 1) hs (List.mem_map_of_mem (f := Row.ni) (List.mem_of_getElem? hi)) hrk
  rw [Sn_enter] at hc
  have h0 := d.cnt
  refine ⟨hN, by simpa using hS, d.topo, List.nodup_cons.mpr ⟨hn1, d.nd⟩, fun x hx => ?_, ⟨by rw [hp]; simp, by rw [hp]; simp, (fun v e => by cases e), d.steps⟩, fun x hx => ?_, fun x hx => ?_, ?_, ?_⟩
  · rcases List.mem_cons.mp hx with rfl | hx
    · exact fun q => hns (.inr q)
    · exact d.dj x hx
  · rcases List.mem_cons.mp hx with rfl | hx
    · exact hk
    · exact d.fk x hx
  · rcases List.mem_cons.mp hx with rfl | hx
    · exact ⟨i, r, hi, hrk, hrs⟩
    · exact d.fd x hx
  · show sn + 1 + wsum (fun _ => 1) (Sn (f :: fr) F) (absR rows) ≤ rows.length
    have hc' : wsum (fun _ => 1) (Sn (f :: fr) F) (absR rows) + 1 ≤ wsum (fun _ => 1) (Sn fr F) (absR rows) := hc
    omega
  · have := d.fl
    simp; omega
theorem DInv.settle {rows : List (Row κ)} {fr : List (Fm κ)} {F : List κ} {oN oS : Obj} {sn : Nat} {v : κ} (d : DInv knd rows fr F oN oS sn (some v)) (hv : v ∈ F) : DInv knd rows fr F oN oS sn none :=
  ⟨d.dn, d.ds, d.topo, d.nd, d.dj, d.steps.settle hv, d.fk, d.fd, d.cnt, d.fl⟩
theorem DInv.take {rows : List (Row κ)} {f : Fm κ} {r : List (Fm κ)} {F : List κ} {oN oS : Obj} {sn : Nat} {v : κ} (d : DInv knd rows (f :: r) F oN oS sn none) (hv : (succOf (absR rows) f.key)[f.p]? = some v) : DInv knd rows ({ f with p := f.p + 1 } :: r) F oN oS sn (some v) :=
  ⟨d.dn, d.ds, d.topo, d.nd, fun x hx => by
    rcases List.mem_cons.mp hx with rfl | hx
    · exact d.dj f (.head _)
    · exact d.dj x (.tail _ hx), d.steps.take hv, fun x hx => by
    rcases List.mem_cons.mp hx with rfl | hx
    · exact d.fk f (.head _)
    · exact d.fk x (.tail _ hx), fun x hx => by
    rcases List.mem_cons.mp hx with rfl | hx
    · exact d.fd f (.head _)
    · exact d.fd x (.tail _ hx), d.cnt, d.fl⟩
theorem DInv.pop {rows : List (Row κ)} {f : Fm κ} {r : List (Fm κ)} {F : List κ} {oN oS oN' : Obj} {sn : Nat} (d : DInv knd rows (f :: r) F oN oS sn none) (hv : (succOf (absR rows) f.key)[f.p]? = none) (hN : oN'.IsDictOf knd (without (kv2 (f :: r)) f.key)) : DInv knd rows r (f.key :: F) oN' oS sn none := by
  obtain ⟨h1, h2⟩ := d.steps.pop hv
  have hnd := List.nodup_cons.mp d.nd
  have e1 : without (kv2 (f :: r)) f.key = kv2 r := by
    unfold without
    show (kv2 r ++ [(f.key, _)]).filter _ = _
    rw [List.filter_append, List.filter_eq_self.mpr]
    · simp
    · intro q hq
      have : q.1 ≠ f.key := fun e => hnd.1 (by
        have : f.key ∈ (kv2 r).map (·.1) := List.mem_map.mpr ⟨q, hq, e⟩
        rw [kv2_keys] at this
        simpa using this)
      simpa using this
  rw [e1] at hN
  refine ⟨hN, ?_, ⟨h1, d.dj f (.head _), d.topo⟩, hnd.2, fun x hx q => ?_, h2, fun x hx => d.fk x (.tail _ hx), fun x hx => d.fd x (.tail _ hx), ?_, ?_⟩
  · rw [← Sn_pop]; exact d.ds
  · rcases List.mem_cons.mp q with q | q
    · exact hnd.1 (List.mem_map.mpr ⟨x, hx, q⟩)
    · exact d.dj x (.tail _ hx) q
  · rw [← Sn_pop]; exact d.cnt
  · have := d.fl; simp at this; omega
theorem fcells_in (w : World) (S : Srt) (rows : List (Row κ)) (l : Led) (n2A seA itA stA : Addr) (oN oS : Obj) (a b : List Value) (ic sc : Nat) (fr : List (Fm κ)) (f : Fm κ) (I0 : Addr) (o0 : Obj) :
    ((f.W, wrapO f.I) :: (f.I, lstIt f.D f.p) :: (I0, o0) :: (n2A, oN) :: (seA, oS) :: (itA, lstO a ic) :: (stA, lstO b sc) :: sled w S (cells rows ++ (fcells fr ++ l))).Perm
    ((I0, o0) :: (n2A, oN) :: (seA, oS) :: (itA, lstO a ic) :: (stA, lstO b sc) :: sled w S (cells rows ++ (fcells (f :: fr) ++ l))) :=
  (List.perm_append_comm_assoc [(f.W, wrapO f.I), (f.I, lstIt f.D f.p)] ([(I0, o0), (n2A, oN), (seA, oS), (itA, lstO a ic), (stA, lstO b sc), (S.sA, insO 151 S.sD #[]), (S.sD, dictOf (S.es w) 4), (S.dA, S.oD)] ++ cells rows) (fcells fr ++ l)).trans
    (by rw [show fcells (f :: fr) = [(f.W, wrapO f.I), (f.I, lstIt f.D f.p)] ++ fcells fr from rfl]; simp)
theorem fc_sub (w : World) (S : Srt) (rows : List (Row κ)) (l : Led) (fr : List (Fm κ)) : Sub (sled w S (cells rows ++ l)) (sled w S (cells rows ++ (fcells fr ++ l))) := by
  refine ⟨fcells fr, ?_⟩
  show (([(S.sA, insO 151 S.sD #[]), (S.sD, dictOf (S.es w) 4), (S.dA, S.oD)] ++ (cells rows ++ l)) ++ fcells fr).Perm ([(S.sA, insO 151 S.sD #[]), (S.sD, dictOf (S.es w) 4), (S.dA, S.oD)] ++ (cells rows ++ (fcells fr ++ l)))
  rw [List.append_assoc, List.append_assoc]
  exact ((List.perm_append_comm (l₁ := l) (l₂ := fcells fr)).append_left _).append_left _
end

theorem bi_stop : bootBuiltins (Str.ofString "StopIteration") = some (.type "StopIteration") := by kernel_rfl
theorem stop_exc : isSubtype (.type "StopIteration") (.type "BaseException") = pure true := by rw [isSubtype_type]; kernel_rfl
theorem stop_nt : isSubtype (.type ((Manifest.find? "StopIteration").elim "type" fun y => y.metatype)) (.type "tuple") = pure false := by
  have e : ((Manifest.find? "StopIteration").elim "type" fun y => y.metatype) = "type" := by decide +kernel
  rw [e, isSubtype_type]; kernel_rfl
theorem stop_self : isSubtype (.type "StopIteration") (.type "StopIteration") = pure true := by rw [isSubtype_type]; kernel_rfl
section
variable {w : World} {mean : ExcName → Option Value} {mg mb : Str → Option Value} {a : Act} {env : Env} {n : Nat} {m : Loc} {l : Led} {Q : VQ}
variable {κ : Type} [DecidableEq κ] {knd : KeyKind Challenge.rw_mq0363_02.row.prog w κ}
theorem s_find {S : Srt} {rows : List (Row κ)} {c : Nat} (gd : Good knd) (so : SOk knd S rows c) (hc : c ≤ 3000) (hin : ∀ r ∈ absR rows, ∀ u ∈ r.succ, u ∈ (absR rows).map (·.key)) (ok : OkS w mean mg mb a env (n + 2))
    (h1 : ∀ F, Topo (succOf (absR rows)) F → (∀ k ∈ (absR rows).map (·.key), k ∈ F) → Q .none m (sled w S (cells rows ++ l)))
    (h2 : ∀ C R vs, Ring (succOf (absR rows)) C → (∀ k ∈ C, k ∈ (absR rows).map (·.key)) → vs ≠ [] → vs.length ≤ sizeLine → Q (.ref R) m ((R, lstO vs 0) :: sled w S (cells rows ++ l))) :
    Tri Challenge.rw_mq0363_02.row.prog w a m (sled w S (cells rows ++ l)) (call (.ref 141) [.ref S.sA]) Q := by
  unfold OkS at ok; revert ok; k_fill; intro ok
  refine Tri.callFn (binds := [("self", .ref S.sA)]) ok (by k_is) (by k_is) (fun s _ => BindsTo.of_eq rfl) (locs rfl) (fun b okb => ?_) rfl rfl rfl (by decide)
  show Tri _ _ _ (lcl [("self", .ref S.sA)]) _ _ _
  have hrl : rows.length ≤ 3000 := Nat.le_trans so.len hc
  repeat' walk_at "w1"
  rename_i stA itA
  refine Tri.newSet (knd := knd) fun seA oS0 hS0 => ?_
  repeat' walk_at "w1"
  rename_i n2A oN0 hn2s hN0
  refine Tri.For ?_
  repeat' walk_at "w1"
  refine Tri.iter_dict (knd := knd) so.sys (by walk_at "mem") so.dic fun I0 ep hat => ?_
  refine for_dict (knd := knd) (Ok.handled (by assumption)) ⟨_, _, rfl⟩ hat (by walk_at "mem")
    (fun i m' l' => ∃ (F : List κ) (oN oS : Obj) (ic sc sn : Nat) (ex : List (Str × Value)), m' = lclx [("self", .ref S.sA), ("n2i", .ref S.dA), ("stack", .ref stA), ("itstack", .ref itA), ("seen", .ref seA), ("node2stacki", .ref n2A)] ex ∧ l' = DSt w S rows l n2A seA itA stA oN oS ic sc [] ∧ DInv knd rows [] F oN oS sn none ∧ ∀ j, j < i → ∀ p, (kvs rows)[j]? = some p → p.1 ∈ F) ?_ ?_ ?_ ?_
  · rintro i m' l' ⟨F, oN, oS, ic, sc, sn, ex, rfl, rfl, d, hF⟩
    exact .tail _ (.tail _ (.tail _ (.tail _ (.tail _ (.tail _ (.head _))))))
  · refine ⟨[], oN0, oS0, 0, 0, 0, _, lcl_norm ⟨rfl, rfl, rfl, rfl, rfl, rfl, trivial⟩, ?_, ⟨hN0 _ knd, ?_, trivial, List.nodup_nil, (fun _ h => nomatch h), trivial, (fun _ h => nomatch h), (fun _ h => nomatch h), ?_, Nat.le_refl _⟩, fun j hj => absurd hj (Nat.not_lt_zero _)⟩
    · rfl
    · have e : Sn ([] : List (Fm κ)) [] = fun _ => false := by funext k; simp [Sn]
      rw [e]; exact hS0
    · have e : ∀ st : List (NI κ), wsum (fun _ => 1) (Sn ([] : List (Fm κ)) []) st = st.length := by
        intro st
        induction st with
        | nil => rfl
        | cons x st ih =>
          unfold wsum at ih ⊢
          rw [List.map_cons, List.sum_cons, ih]
          simp [Sn]; omega
      rw [e]; simp [absR]
  · rintro i k x v o' m' l' hkv hkk ⟨F, oN, oS, ic, sc, sn, ex, rfl, rfl, d, hF⟩
    have hkm : k ∈ (absR rows).map (·.key) := by
      rw [← kvs_keys]; exact List.mem_map.mpr ⟨_, List.mem_of_getElem? hkv, rfl⟩
    refine Tri.gen1 fun Q1 hQ1 => ?_
    repeat' walk_at "w1"
    refine Tri.in_set (knd := knd) (by walk_at "mem") d.ds hkk (gd.scan _ _ hkk) ?_
    repeat' walk_at "w1"
    · rename Sn [] F k = true => hs
      refine hQ1 _ _ _ ⟨_, Sub.refl _, F, oN, oS, ic, sc, sn, _, lcl_norm ⟨rfl, rfl, rfl, rfl, rfl, rfl, trivial⟩, rfl, d, fun j hj q hq => ?_⟩
      by_cases e : j = i
      · subst e
        rw [hkv] at hq; cases hq
        simpa [Sn] using hs
      · exact hF j (by omega) q hq
    rename Sn [] F k = false => hs
    refine Tri.mono (Q := fun f m' l' => (f = .next ∧ ∃ (F' : List κ) (oN oS : Obj) (ic sc sn : Nat) (ex : List (Str × Value)), m' = lclx [("self", .ref S.sA), ("n2i", .ref S.dA), ("stack", .ref stA), ("itstack", .ref itA), ("seen", .ref seA), ("node2stacki", .ref n2A)] ex ∧ l' = (I0, o') :: DSt w S rows l n2A seA itA stA oN oS ic sc [] ∧ DInv knd rows [] F' oN oS sn none ∧ k ∈ F' ∧ ∀ u ∈ F, u ∈ F')
      ∨ (∃ (R : Addr) (vs : List Value) (C : List κ), f = .ret (.ref R) ∧ Ring (succOf (absR rows)) C ∧ (∀ k ∈ C, k ∈ (absR rows).map (·.key)) ∧ vs ≠ [] ∧ vs.length ≤ sizeLine ∧ Sub ((R, lstO vs 0) :: sled w S (cells rows ++ l)) l')) ?loop ?cont
    case cont =>
      rintro f m' l' (⟨rfl, F', oN, oS, ic, sc, sn, ex, rfl, rfl, d', hk', hF'⟩ | ⟨R, vs, C, rfl, hr, hck, hv0, hvl, hsub⟩)
      · dsimp only
        repeat' walk_at "w1"
        refine hQ1 _ _ _ ⟨_, Sub.refl _, F', oN, oS, ic, sc, sn, ex, rfl, rfl, d', fun j hj q hq => ?_⟩
        by_cases e : j = i
        · subst e
          rw [hkv] at hq; cases hq
          exact hk'
        · exact hF' _ (hF j (by omega) q hq)
      · exact hQ1 _ _ _ ⟨_, hsub, h2 C R vs hr hck hv0 hvl⟩
    case loop =>
      refine Tri.While (fun q m' l' => ∃ (fr : List (Fm κ)) (F' : List κ) (oN oS : Obj) (ic sc sn : Nat) (v : κ) (nv : Value) (ex : List (Str × Value)), q = phi (absR rows) (Sn fr F') fr ∧ m' = lclx [("self", .ref S.sA), ("n2i", .ref S.dA), ("stack", .ref stA), ("itstack", .ref itA), ("seen", .ref seA), ("node2stacki", .ref n2A), ("node", nv)] ex ∧ l' = (I0, o') :: DSt w S rows l n2A seA itA stA oN oS ic sc fr ∧ knd.is v nv = true ∧ v ∈ (absR rows).map (·.key) ∧ DInv knd rows fr F' oN oS sn (some v) ∧ (k ∈ fr.map (·.key) ∨ k ∈ F' ∨ v = k) ∧ ∀ u ∈ F, u ∈ F') (phi (absR rows) (Sn [] F) [])
        ⟨[], F, oN, oS, ic, sc, sn, k, v, _, rfl, lcl_norm ⟨rfl, rfl, rfl, rfl, rfl, rfl, rfl, trivial⟩, rfl, hkk, hkm, ⟨d.dn, d.ds, d.topo, d.nd, d.dj, trivial, d.fk, d.fd, d.cnt, d.fl⟩, .inr (.inr rfl), fun u hu => hu⟩ ?_
      clear hs d hF hkk
      rintro q m' l' ⟨fr, F', oN, oS, ic, sc, sn, v, nv, ex, rfl, rfl, rfl, hvv, hvm, d, hk0, hFF⟩
      have hfl : fr.length ≤ 3000 := by have := d.fl; have := d.cnt; omega
      have hst : ((fr.map (·.val)).reverse).length ≤ sizeLine := by simp [sizeLine_eq]; omega
      refine Tri.gen3 fun Q2 Q3 hQ2 hQ3 => ?_
      repeat' ((fail_if_success (with_reducible show Tri _ _ _ _ _ (PySem.exec (Stmt.If _ _ _ _) _) _)); walk_at "w1")
      refine Tri.mono (Q := fun f m' l' => (f = .next ∧ ∃ (fr' : List (Fm κ)) (oN oS : Obj) (ic sc sn : Nat) (ex : List (Str × Value)), phi (absR rows) (Sn fr' F') fr' ≤ phi (absR rows) (Sn fr F') fr ∧ m' = lclx [("self", .ref S.sA), ("n2i", .ref S.dA), ("stack", .ref stA), ("itstack", .ref itA), ("seen", .ref seA), ("node2stacki", .ref n2A)] ex ∧ l' = (I0, o') :: DSt w S rows l n2A seA itA stA oN oS ic sc fr' ∧ DInv knd rows fr' F' oN oS sn none ∧ (k ∈ fr'.map (·.key) ∨ k ∈ F')) ∨ (∃ (R : Addr) (vs : List Value) (C : List κ), f = .ret (.ref R) ∧ Ring (succOf (absR rows)) C ∧ (∀ k ∈ C, k ∈ (absR rows).map (·.key)) ∧ vs ≠ [] ∧ vs.length ≤ sizeLine ∧ Sub ((R, lstO vs 0) :: sled w S (cells rows ++ l)) l')) ?iff ?rest
      case iff =>
        refine Tri.gen fun Q4 hQ4 => ?_
        repeat' walk_at "w1"
        refine Tri.in_set (knd := knd) (by walk_at "mem") d.ds hvv (gd.scan _ _ hvv) ?_
        repeat' walk_at "w1"
        · rename Sn fr F' v = true => hs
          refine Tri.in_dict (knd := knd) hn2s (by walk_at "mem") d.dn hvv ?_
          rw [valueAt_kv2]
          repeat' walk_at "w1"
          · rename decide (v ∈ fr.map (·.key)) = true => hb
            obtain ⟨C, hC, hCk⟩ := d.steps.isRing (by simpa using hb)
            have hsome : (valueAt (kv2 fr) v).isSome = true := by rw [valueAt_kv2]; exact hb
            obtain ⟨val, hval⟩ := Option.isSome_iff_exists.mp hsome
            obtain ⟨ix, tx, rfl, hix⟩ := kv2_int hval
            refine Tri.sub_dict (knd := knd) (by walk_at "mem") d.dn hvv hval ?_
            repeat' walk_at "w1"
            refine Tri.sliceL (by walk_at "mem") (by simp [sizeLine_eq]; omega) (.int _ _) .none fun R1 => ?_
            have hsz := slicePick_size_le ((fr.map (·.val)).reverse).toArray (some (ix : Int)) none none
            repeat' walk_at "w1"
            refine Tri.add_list (by walk_at "mem") (by walk_at "mem") (by simp [sizeLine_eq] at hsz ⊢; omega) fun R2 => ?_
            refine hQ4 _ _ _ ?_
            refine .inr ⟨R2, (slicePick ((fr.map (·.val)).reverse).toArray (some (ix : Int)) none none).toList ++ [nv], C, rfl, hC, fun k hk => ?_, by simp, by simp [sizeLine_eq] at hsz ⊢; omega, ?_⟩
            · obtain ⟨f, hf, rfl⟩ := List.mem_map.mp (hCk k hk)
              obtain ⟨ri, r, hri, hrk, _⟩ := d.fd f hf
              rw [← hrk]; exact key_of_row hri
            · exact Sub.cons₂ _ (((((((fc_sub w S rows l fr).cons _).cons _).cons _).cons _).cons _).cons _ |>.cons _)
          · rename decide (v ∈ fr.map (·.key)) = false => hb
            have hvF : v ∈ F' := by
              have h1 : v ∈ fr.map (·.key) ∨ v ∈ F' := by simpa [Sn] using hs
              have h2 : ¬ v ∈ fr.map (·.key) := by simpa using hb
              exact h1.resolve_left h2
            refine hQ4 _ _ _ ?_
            refine .inl ⟨rfl, fr, oN, oS, ic, sc, sn, _, Nat.le_refl _, lcl_norm ⟨rfl, rfl, rfl, rfl, rfl, rfl, trivial⟩, rfl, d.settle hvF, ?_⟩
            rcases hk0 with h | h | h
            · exact .inl h
            · exact .inr h
            · exact .inr (h ▸ hvF)
        · rename Sn fr F' v = false => hs
          obtain ⟨ri, r, hri, hrk, hvr⟩ := row_of_key hvm
          have n1 : (r.ia, nodO r.da r.sa r.np r.t r.nv) ∈ cells rows ++ (fcells fr ++ l) := List.mem_append.mpr (.inl (cells_mem hri (.head _)))
          have n2 : (r.da, dictOf [] 0) ∈ cells rows ++ (fcells fr ++ l) := List.mem_append.mpr (.inl (cells_mem hri (.tail _ (.head _))))
          have n3 : (r.sa, lstO r.vs r.cap) ∈ cells rows ++ (fcells fr ++ l) := List.mem_append.mpr (.inl (cells_mem hri (.tail _ (.tail _ (.head _)))))
          repeat' walk_at "w1"
          refine Tri.getM_add (knd := knd) (by walk_at "mem") d.ds ?_
          repeat' walk_at "w1"
          refine Tri.set_add (knd := knd) d.ds (fun o => Put.tail (Put.tail Put.head)) hvv (gd.scan _ _ hvv) (by have := d.cnt; show sn + 1 < 4096; omega) fun oS' hS' => ⟨rfl, ?_⟩
          repeat' walk_at "w1"
          refine Tri.sub_dict (knd := knd) (by walk_at "mem") so.dic hvv hvr ?_
          repeat' walk_at "w1"
          refine Tri.iterL (vs := r.vs) (nn := r.cap) (by walk_at "mem") fun I => ?_
          repeat' walk_at "w1"
          refine Tri.next_attr (D := r.sa) (i := 0) (by walk_at "mem") fun W => ?_
          repeat' walk_at "w1"
          refine Tri.perm (fcells_in w S rows l n2A seA itA stA oN oS' _ _ ic sc fr ⟨v, nv, W, I, r.sa, 0, 0⟩ I0 o') ?_
          refine Tri.append (Put.tail (Put.tail (Put.tail Put.head))) (by simp [sizeLine_eq]; omega) ⟨rfl, ?_⟩
          repeat' walk_at "w1"
          rename_i tl
          refine Tri.set_dict (knd := knd) d.dn (fun o => Put.tail Put.head) hvv (by rw [kv2_length, sizeLine_eq]; omega) fun oN' hN' => ?_
          repeat' walk_at "w1"
          refine Tri.append (Put.tail (Put.tail (Put.tail (Put.tail Put.head)))) (by simp [sizeLine_eq]; omega) ⟨rfl, ?_⟩
          repeat' walk_at "w1"
          refine hQ4 _ _ _ ?_
          refine .inl ⟨rfl, ⟨v, nv, W, I, r.sa, 0, tl⟩ :: fr, oN', oS', ic + 1, sc + 1, sn + 1, _, ?_, lcl_norm ⟨rfl, rfl, rfl, rfl, rfl, rfl, trivial⟩, ?_, d.enter (f := ⟨v, nv, W, I, r.sa, 0, tl⟩) rfl hs hvv ⟨ri, r, hri, hrk, rfl⟩ ?_ hS', ?_⟩
          · have := phi_enter (fr := fr) (f := ⟨v, nv, W, I, r.sa, 0, tl⟩) so.nd hs hvm rfl
            rw [Sn_enter] at this
            exact Nat.le_of_lt this
          · simp only [DSt, List.map_cons, List.reverse_cons]; rfl
          · simpa using hN'
          · rcases hk0 with h | h | h
            · exact .inl (by simp at h ⊢; exact .inr h)
            · exact .inr h
            · exact .inl (by simp [h])
      case rest =>
        rintro f m' l' (⟨rfl, fr', oN, oS, ic, sc, sn, ex, hphi, rfl, rfl, d', hk'⟩ | ⟨R, vs, C, rfl, hr, hck, hv0, hvl, hsub⟩)
        · dsimp only
          refine Tri.execs_cons ?_
          refine Tri.While (fun q m' l' => ∃ (fr2 : List (Fm κ)) (F2 : List κ) (oN oS : Obj) (ic sc sn : Nat) (ex : List (Str × Value)), q = fr2.length ∧ phi (absR rows) (Sn fr2 F2) fr2 ≤ phi (absR rows) (Sn fr F') fr ∧ m' = lclx [("self", .ref S.sA), ("n2i", .ref S.dA), ("stack", .ref stA), ("itstack", .ref itA), ("seen", .ref seA), ("node2stacki", .ref n2A)] ex ∧ l' = (I0, o') :: DSt w S rows l n2A seA itA stA oN oS ic sc fr2 ∧ DInv knd rows fr2 F2 oN oS sn none ∧ (k ∈ fr2.map (·.key) ∨ k ∈ F2) ∧ ∀ u ∈ F, u ∈ F2) fr'.length
            ⟨fr', F', oN, oS, ic, sc, sn, ex, rfl, hphi, rfl, rfl, d', hk', hFF⟩ ?_
          clear hphi d' hk' hk0 hvv hvm hst hfl
          rintro q m' l' ⟨fr2, F2, oN, oS, ic, sc, sn, ex, rfl, hphi, rfl, rfl, d, hk', hFF⟩
          have hfl : fr2.length ≤ 3000 := by have := d.fl; have := d.cnt; omega
          have hst : ((fr2.map (·.val)).reverse).length ≤ sizeLine := by simp [sizeLine_eq]; omega
          refine Tri.gen3 fun Q5 Q6 hQ5 hQ6 => ?_
          repeat' walk_at "w1"
          refine Tri.truthy_list (by walk_at "mem") hst ?_
          repeat' walk_at "w1"
          · rename (!((fr2.map (·.val)).reverse).isEmpty) = true => hb
            cases fr2 with
            | nil => simp at hb
            | cons f r =>
              obtain ⟨ri, r0, hri, hrk, hrd⟩ := d.fd f (.head _)
              have hsu : succOf (absR rows) f.key = r0.succ := by rw [← hrk]; exact succOf_row so.nd hri rfl
              have hks := (so.rok r0 (List.mem_of_getElem? hri)).succ
              have hW : (f.W, wrapO f.I) ∈ cells rows ++ (fcells (f :: r) ++ l) := List.mem_append.mpr (.inr (.head _))
              have hI : (f.I, lstIt f.D f.p) ∈ cells rows ++ (fcells (f :: r) ++ l) := List.mem_append.mpr (.inr (.tail _ (.head _)))
              have hD : (f.D, lstO r0.vs r0.cap) ∈ cells rows ++ (fcells (f :: r) ++ l) := by rw [← hrd]; exact List.mem_append.mpr (.inl (cells_mem hri (.tail _ (.tail _ (.head _)))))
              have hit : ((r.map fun f => Value.ref f.W).reverse).length + 1 ≤ sizeLine := by simp at hfl; simp [sizeLine_eq]; omega
              have hitm : (itA, lstO (((r.map fun f => Value.ref f.W).reverse) ++ [Value.ref f.W]) ic) ∈ (I0, o') :: DSt w S rows l n2A seA itA stA oN oS ic sc (f :: r) := by
                simp only [DSt, List.map_cons, List.reverse_cons]
                walk_at "mem"
              cases hx : r0.vs[f.p]? with
              | some u =>
                obtain ⟨z, hz, hzu⟩ := hks.get hx
                refine Tri.TryX (X := "StopIteration") (T' := "StopIteration") (fun _ _ => False) okb (by k_is) bi_stop (by decide) stop_exc stop_nt stop_self (fun E s R g i F N D kn kx => Tri.run (Q := fun f m' l' => _) ?tri E s R g i F N D kn) (fun b m l _ h => h.elim)
                repeat' walk_at "w1"
                refine Tri.uneg fun t1 => ?_
                refine Tri.sub_last hitm hit ?_
                refine Tri.withW (I := f.I) (by walk_at "mem") ?_
                refine Tri.wrapItem (by walk_at "mem") (Put.tail (Put.tail (Put.tail (Put.tail (Put.tail (Put.tail (Put.tail (Put.tail ((Put.tail Put.head : Put f.I (lstIt f.D f.p) (lstIt f.D (f.p + 1)) (fcells (f :: r) ++ l) (fcells (⟨f.key, f.val, f.W, f.I, f.D, f.p + 1, f.t⟩ :: r) ++ l)).right (cells rows)))))))))) (by walk_at "mem") hx ?_
                repeat' walk_at "w1"
                have hz' : (succOf (absR rows) f.key)[f.p]? = some z := by rw [hsu]; exact hz
                have hphi' := phi_take (Sn := Sn (f :: r) F2) (r := r) hz'
                refine hQ5 _ _ _ ?_
                repeat' walk_at "w1"
                refine hQ2 _ _ _ ?_
                refine ⟨_, _, Nat.lt_of_lt_of_le hphi' hphi, Sub.refl _, ⟨f.key, f.val, f.W, f.I, f.D, f.p + 1, f.t⟩ :: r, F2, oN, oS, ic, sc, sn, z, u, _, rfl, lcl_norm ⟨rfl, rfl, rfl, rfl, rfl, rfl, rfl, trivial⟩, rfl, hzu, ?_, d.take hz', ?_, hFF⟩
                · exact hin r0.ni (List.mem_map_of_mem (List.mem_of_getElem? hri)) z (List.mem_of_getElem? hz)
                · rcases hk' with h | h
                  · exact .inl h
                  · exact .inr (.inl h)
              | none =>
                have hz' : (succOf (absR rows) f.key)[f.p]? = none := by
                  rw [hsu]
                  have e := hks.length
                  rw [List.getElem?_eq_none_iff] at hx ⊢
                  omega
                refine Tri.TryX (X := "StopIteration") (T' := "StopIteration") (fun m' l' => m' = lclx [("self", .ref S.sA), ("n2i", .ref S.dA), ("stack", .ref stA), ("itstack", .ref itA), ("seen", .ref seA), ("node2stacki", .ref n2A)] ex ∧ l' = (I0, o') :: (n2A, oN) :: (seA, oS) :: (itA, lstO ((r.map fun f => Value.ref f.W).reverse ++ [Value.ref f.W]) ic) :: (stA, lstO ((r.map (·.val)).reverse ++ [f.val]) sc) :: sled w S (cells rows ++ (fcells r ++ l))) okb (by k_is) bi_stop (by decide) stop_exc stop_nt stop_self (fun E s R g i F N D kn kx => ?_) ?_
                · refine end_body (W := f.W) (I := f.I) (D := f.D) (i := f.p) (vs := r0.vs) (nn := r0.cap) (Ok.handled okb) ?_ (by walk_at "mem") (by walk_at "mem") (by walk_at "mem") hx ?_ (E := E) (s := s) (R := R) (g := g) (iF := i) (F := F) (N := N) (DD := D) (k := kx)
                  · repeat' walk_at "w1"
                    refine Tri.uneg fun t1 => ?_
                    refine Tri.sub_last hitm hit ?_
                    exact ⟨rfl, rfl, rfl⟩
                  · refine ⟨[(f.W, wrapO f.I)], ?_⟩
                    simp only [DSt, List.map_cons, List.reverse_cons]
                    refine (List.perm_append_comm (l₂ := [(f.W, wrapO f.I)])).trans ?_
                    exact (List.perm_append_comm_assoc [(f.W, wrapO f.I), (f.I, lstIt f.D f.p)] ([(I0, o'), (n2A, oN), (seA, oS), (itA, lstO ((r.map fun f => Value.ref f.W).reverse ++ [Value.ref f.W]) ic), (stA, lstO ((r.map (·.val)).reverse ++ [f.val]) sc), (S.sA, insO 151 S.sD #[]), (S.sD, dictOf (S.es w) 4), (S.dA, S.oD)] ++ cells rows) (fcells r ++ l)).trans
                      (by rw [show fcells (f :: r) = [(f.W, wrapO f.I), (f.I, lstIt f.D f.p)] ++ fcells r from rfl]; simp)
                · rintro b' m' l' hbL ⟨rfl, rfl⟩
                  repeat' walk_at "w1"
                  have hst2 : ((r.map (·.val)).reverse).length + 1 ≤ sizeLine := by simp at hfl; simp [sizeLine_eq]; omega
                  refine Tri.lpop (fun nn' => Put.tail (Put.tail (Put.tail (Put.tail Put.head)))) hst2 fun sc' => ?_
                  refine Tri.del_dict (knd := knd) d.dn (fun o => Put.tail Put.head) (d.fk f (.head _)) (by rw [kv2_length, sizeLine_eq]; omega) (by rw [valueAt_kv2]; simp) fun oN' hN' => ?_
                  repeat' (first | ((with_reducible show Tri _ _ _ _ _ (PySem.exec (Stmt.Expr _ _) _) _); refine Tri.ExprA ?_) | walk_at "w1")
                  refine Tri.lpop (fun nn' => Put.tail (Put.tail (Put.tail Put.head))) hit fun ic' => ?_
                  repeat' walk_at "w1"
                  refine hQ5 _ _ _ ?_
                  refine ⟨_, _, Nat.lt_succ_self _, Sub.refl _, r, f.key :: F2, oN', oS, ic', sc', sn, _, rfl, ?_, lcl_norm ⟨rfl, rfl, rfl, rfl, rfl, rfl, trivial⟩, rfl, d.pop hz' hN', ?_, fun u hu => .tail _ (hFF u hu)⟩
                  · rw [← Sn_pop]
                    exact Nat.le_trans phi_pop hphi
                  · rcases hk' with h | h
                    · rcases List.mem_cons.mp h with h | h
                      · exact .inr (h ▸ .head _)
                      · exact .inl h
                    · exact .inr (.tail _ h)
          · rename (!((fr2.map (·.val)).reverse).isEmpty) = false => hb
            have hb' : fr2 = [] := by
              cases fr2 with
              | nil => rfl
              | cons f r => simp at hb
            subst hb'
            refine hQ6 _ _ _ ?_
            dsimp only
            refine hQ2 _ _ _ ?_
            refine .inl ⟨rfl, F2, oN, oS, ic, sc, sn, ex, rfl, rfl, d, ?_, hFF⟩
            rcases hk' with h | h
            · simp at h
            · exact h
        · exact hQ2 _ _ _ (.inr ⟨R, vs, C, rfl, hr, hck, hv0, hvl, hsub⟩)
  · rintro m' l' ⟨F, oN, oS, ic, sc, sn, ex, rfl, rfl, d, hF⟩
    repeat' walk_at "w1"
    refine ⟨_, ?_, h1 F d.topo fun k hk => ?_⟩
    · exact (Sub.refl _).cons _ |>.cons _ |>.cons _ |>.cons _
    · rw [← kvs_keys] at hk
      obtain ⟨p, hp, rfl⟩ := List.mem_map.mp hk
      obtain ⟨j, hj, e⟩ := List.getElem_of_mem hp
      exact hF j (by simpa using hj) p (by simp [hj, e])
end

section
variable {prog : Program} {w : World} {K : Frag} {p : Program} {loose : List Str} {mean : ExcName → Option Value} {mg mb : Str → Option Value} {a : Act} {env : Env} {n : Nat} {m : Loc} {l : Led}
variable {elt target iter : Expr} {ifs : List Expr} {scope : Scope} {cl : List (Str × Addr)} {pos : Pos} {Q : VQ} {I D' : Addr}
theorem comp_list {vs : List Value} {cap : Nat} (okc : OkC K p loose mean mg mb a) (hcell : ∀ y ∈ scope.names, y.2 ≠ .cell) (hkind : scope.kind = .function)
    (hgo : (∃ x p, target = .Name x p) ∨ (∃ e k p, target = .Tuple e k p) ∧ ∀ v ∈ vs, ∃ T, v = .ref T) (hD : (D', lstO vs cap) ∈ l)
    (J : Nat → List Value → Led → Prop) (hkp : ∀ i ys l, J i ys l → (D', lstO vs cap) ∈ l) (hz : ∀ i ys l, J i ys l → ys.length ≤ sizeLine) (hj : J 0 [] l)
    (turn : ∀ (b : Act) i v o D nn ys ex l, b.A = a.A → OkC K p loose mean mg mb b → vs[i]? = some v → J i ys l → Tri prog w b (lcl ex) ((I, o) :: (D, lstO ys nn) :: l) (assign target (compEnvC scope cl b.L env) v) fun _ m1 l1 =>
      Tri prog w b m1 l1 (tests ifs (compEnvC scope cl b.L env)) fun t m2 l2 => (t = true → Tri prog w b m2 l2 (eval elt (compEnvC scope cl b.L env)) fun x m3 l3 => (∃ ex', m3 = lcl ex') ∧ ∃ l4, Sub ((I, o) :: (D, lstO ys nn) :: l4) l3 ∧ J (i + 1) (ys ++ [x]) l4) ∧
        (t = false → (∃ ex', m2 = lcl ex') ∧ ∃ l4, Sub ((I, o) :: (D, lstO ys nn) :: l4) l2 ∧ J (i + 1) ys l4))
    (done : ∀ D ys nn l, J vs.length ys l → Q (.ref D) m ((D, lstO ys nn) :: l)) : CompAt prog w a env elt target iter ifs scope cl pos Q (.ref I) m ((I, lstIt D' 0) :: l) := by
  refine ⟨fun E RR s gF iF F N D₀ k => ?_⟩
  have hne : D' ≠ I := fun e => (List.nodup_cons.mp D₀).1 (by have := List.mem_map_of_mem (f := Prod.fst) hD; rw [e] at this; exact this)
  have W := Walks.list (prog := prog) (w := w) okc.handled I D' hne vs.toArray
  have hn : vs.toArray.size = vs.length := by simp
  rw [hn] at W
  refine (compW (fs := [D']) W okc hcell hkind (fun i h st => ?_) [(D', lstO vs cap)] (fun b hb => List.mem_singleton.mp hb ▸ ⟨_, .head _⟩) ?_ J (fun i ys l hJ p hp => by rw [List.mem_singleton.mp hp]; exact hkp i ys l hJ) hz hj ?_ ?_ done).run E RR s _ iF F N D₀ k
  · obtain ⟨⟨o, ho, _⟩, _⟩ := st; exact ⟨o, ho⟩
  · intro s Q E i v hP st hQ
    rcases hgo with ⟨x, p, rfl⟩ | ⟨⟨e, kk, p, rfl⟩, hv⟩
    · exact wpAny_pure hQ
    · have hmem : v ∈ vs := by
        have : vs[i]? = some v := by simpa using hP
        exact List.mem_of_getElem? this
      obtain ⟨T, rfl⟩ := hv v hmem
      exact wpAny_letOwnedTupleGo_listiter st.1 hQ
  · intro g h N'
    exact ⟨⟨_, (N' _ (.head _)).1, rfl, rfl⟩, ⟨_, (N' _ (.tail _ hD)).1, rfl, cap, rfl⟩⟩
  · intro b i v o D nn ys ex l hb okb hi hP hJ
    exact turn b i v o D nn ys ex l hb okb (by simpa using hP) hJ
variable {κ : Type} [DecidableEq κ] {knd : KeyKind prog w κ} {d : Addr} {o : Obj} {kvs : List (κ × Value)}
abbrev valsO (d : Addr) : Obj := { cls := .type "dict_values", data := .fields #[.ref d] }
abbrev valIt (d : Addr) (i n ep : Nat) : Obj := { cls := .type "dict_valueiterator", data := .fields #[.ref d, .int i 0, .int n 0, .int ep 0] }
theorem Tri.getM_dvalues {pl : Sem Bool} {Q : Value × List Value → Loc → Led → Prop} (hD : (d, o) ∈ l) (ho : o.IsDictOf knd kvs) (h : Q (.builtin "dict.values", [.ref d]) m l) : Tri prog w a m l (getMethod (.ref d) "values" pl) Q :=
  Tri.getM_obj hD ho.choose_spec.choose_spec.1.1 ho.choose_spec.choose_spec.1.2.1 PySem.F.plainAttrs_dict PySem.F.slot_dict_values PySem.F.type_dict_values h
theorem Tri.dvalues (hn : (d == sysModules) = false) (hD : (d, o) ∈ l) (ho : o.IsDictOf knd kvs) (h : ∀ V, Q (.ref V) m ((V, valsO d) :: l)) : Tri prog w a m l (call (.builtin "dict.values") [.ref d]) Q :=
  ⟨fun E s R gF iF F N D₀ c => by
    have hd : s.heap.DictOf knd d kvs := Heap.dictOf_iff.mpr ⟨o, (N _ hD).1, ho⟩
    exact call_meetsIn PySem.F.slot_dict_values hd.typeIs PySem.F.entry_dict_values (PySem.F.args_dict_values_1 _) (meets_dict_values knd d hn) ⟨⟨_, hd⟩, c _ _ _ _ _ _ iF (F.push _) (N.push F _) (nd_cons D₀ fun p hp => Heap.lt_size (N p hp).1) (h _)⟩⟩
theorem Tri.iter_values {V : Addr} (hD : (d, o) ∈ l) (ho : o.IsDictOf knd kvs) (h : ∀ I ep, DAt knd o kvs ep → Q (.ref I) m ((I, valIt d 0 kvs.length ep) :: l)) : Tri prog w a m ((V, valsO d) :: l) (pyIter (.ref V)) Q :=
  ⟨fun E s R gF iF F N D₀ c => by
    obtain ⟨es, ep, r⟩ := ho
    have N' : News gF a.L s.heap l := fun p hp => N p (.tail _ hp)
    exact wpAny_pyIter_values (knd := knd) (ep := ep) ⟨_, (N _ (.head _)).1, rfl, rfl⟩ ⟨o, es, (N' _ hD).1, r⟩ (c _ _ _ _ s.toks _ iF (F.push _) (N'.push F _) (nd_cons (List.nodup_cons.mp D₀).2 fun p hp => Heap.lt_size (N' p hp).1) (h _ ep ⟨es, r⟩))⟩
theorem comp_values {ep : Nat} (okc : OkC K p loose mean mg mb a) (hcell : ∀ y ∈ scope.names, y.2 ≠ .cell) (hkind : scope.kind = .function)
    (hgo : ∃ x p, target = .Name x p) (hat : DAt knd o kvs ep) (hD : (d, o) ∈ l)
    (J : Nat → List Value → Led → Prop) (hkp : ∀ i ys l, J i ys l → (d, o) ∈ l) (hz : ∀ i ys l, J i ys l → ys.length ≤ sizeLine) (hj : J 0 [] l)
    (turn : ∀ (b : Act) i k v o' D nn ys ex l, b.A = a.A → OkC K p loose mean mg mb b → kvs[i]? = some (k, v) → J i ys l → Tri prog w b (lcl ex) ((I, o') :: (D, lstO ys nn) :: l) (assign target (compEnvC scope cl b.L env) v) fun _ m1 l1 =>
      Tri prog w b m1 l1 (tests ifs (compEnvC scope cl b.L env)) fun t m2 l2 => (t = true → Tri prog w b m2 l2 (eval elt (compEnvC scope cl b.L env)) fun x m3 l3 => (∃ ex', m3 = lcl ex') ∧ ∃ l4, Sub ((I, o') :: (D, lstO ys nn) :: l4) l3 ∧ J (i + 1) (ys ++ [x]) l4) ∧
        (t = false → (∃ ex', m2 = lcl ex') ∧ ∃ l4, Sub ((I, o') :: (D, lstO ys nn) :: l4) l2 ∧ J (i + 1) ys l4))
    (done : ∀ D ys nn l, J kvs.length ys l → Q (.ref D) m ((D, lstO ys nn) :: l)) : CompAt prog w a env elt target iter ifs scope cl pos Q (.ref I) m ((I, valIt d 0 kvs.length ep) :: l) := by
  refine ⟨fun E RR s gF iF F N D₀ k => ?_⟩
  have hne : d ≠ I := fun e => (List.nodup_cons.mp D₀).1 (by have := List.mem_map_of_mem (f := Prod.fst) hD; rw [e] at this; exact this)
  have W := Walks.dictValues (prog := prog) (w := w) (knd := knd) okc.handled I d hne kvs ep
  refine (compW (fs := [d]) W okc hcell hkind (fun i h st => ?_) [(d, o)] (fun b hb => List.mem_singleton.mp hb ▸ ⟨_, .head _⟩) ?_ J (fun i ys l hJ p hp => by rw [List.mem_singleton.mp hp]; exact hkp i ys l hJ) hz hj ?_ ?_ done).run E RR s _ iF F N D₀ k
  · obtain ⟨⟨o, ho, _⟩, _⟩ := st; exact ⟨o, ho⟩
  · intro s Q E i v hP st hQ
    obtain ⟨x, p, rfl⟩ := hgo
    exact wpAny_pure hQ
  · intro g h N'
    obtain ⟨es, r⟩ := hat
    exact ⟨⟨_, (N' _ (.head _)).1, rfl, rfl⟩, ⟨_, es, (N' _ (.tail _ hD)).1, r⟩⟩
  · rintro b i v o' D nn ys ex l hb okb hi ⟨k, hx⟩ hJ
    exact turn b i k v o' D nn ys ex l hb okb hx hJ
end

local macro_rules | `(tactic| walk_at "wc") => `(tactic| first
  | ((with_reducible show gName); first
    | (refine' Tri.nameLG ?hv ?_ ?hk ?hx ?hl; (case hx => with_unfolding_all rfl); (case hk => rfl); (case hl => rfl); (case hv => rfl))
    | (refine' Tri.nameCG (o := _) ?hc ?hm ?hd ?_ ?hk ?hx; (case hx => with_unfolding_all rfl); (case hk => rfl); (case hc => with_unfolding_all rfl); (case hm => walk_at "mem"); (case hd => rfl))
    | (refine' Tri.nameKG (OkC.kin (by assumption)) (OkC.top (by assumption)) (by k_is) ?_ ?hg ?hk ?hx; (case hx => with_unfolding_all rfl); (case hk => rfl); (case hg => rfl))
    | (refine' Tri.nameBG (OkC.kin (by assumption)) (OkC.top (by assumption)) (by k_is) (by walk_at "bi") ?_ ?hg ?hb ?hk ?hx; (case hx => with_unfolding_all rfl); (case hk => rfl); (case hg => rfl); (case hb => rfl)))
  | ((with_reducible show gStore); refine' Tri.storeLG ?_ ?hk ?hx ?hl; (case hx => with_unfolding_all rfl); (case hk => rfl); (case hl => rfl))
  | with_reducible first | refine Tri.tests_nil ?_ | refine Tri.tests_one ?_
  | walk_at "w1")

section
variable {prog : Program} {w : World} {A : Around} {E : Value → Shared → Prop} {s : Shared}
def SortsTo (prog : Program) (w : World) (vs : List Value) (G : List Value → Prop) : Prop :=
  ∀ (A : Around) (E : Value → Shared → Prop) (s : Shared) (a : Addr) (P : Fin → Shared → Prop), s.heap.get? a = some (seqObj "list" vs.toArray 0) →
    (∀ out : Array Value, G out.toList → P (.done (.ret .none)) { s with heap := sortedHeap s.heap a vs out }) → wpAny (model prog w) A (Builtin.«list.sort» ⟨[.ref a], []⟩) P E s
theorem sortsTo_strs {vs : List Value} {ss : List Str} (hS : StrsAre vs ss) (h64 : vs.length < 64) : SortsTo prog w vs fun out => ∃ ss', StrsAre out ss' ∧ ss'.Perm ss ∧ sortedS ss' = true :=
  fun A E s a P ho h => list_sort_treeK strKind_oneLt ho hS.keysOf (fun v₁ v₂ rest e => keyKind_strs (by rw [← e]; exact hS)) h64 fun st' hp hs => by
    obtain ⟨ss', h1, h2, h3⟩ := sorted_out_str hS hp hs
    exact h _ ⟨ss', h1, h2, h3⟩
theorem sorted_seq {l : Addr} {T : String} {o : Obj} {vs : List Value} {n : Nat} {G : List Value → Prop} {Q : Value → Shared → Prop} (hT : T = "list" ∨ T = "tuple") (ho : s.heap.get? l = some o) (hc : o.cls = .type T) (hd : o.data = .seq vs.toArray n) (hz : vs.length ≤ sizeLine)
    (hs : SortsTo prog w vs G)
    (h : ∀ (h' : Heap) (a : Addr) (out : List Value) (e : Nat), (∀ b o, s.heap.get? b = some o → b < a ∧ h'.get? b = some o) → h'.get? a = some (seqObj "list" out.toArray e) → G out → Q (.ref a) { s with heap := h' }) :
    wpAny (model prog w) A (call (.builtin "sorted") [.ref l]) Q E s := by
  refine Calls.call_function_entry kind_sorted plain_sorted entry_sorted (args_sorted1 _) ?_
  unfold Builtin.«sorted»
  refine wpAny_bind (m := checkCount "sorted" 1 1 _) (wpAny_pure ?_)
  refine wpAny_bind (wpAny_collect_seq l hT ho hc hd (fun h₁ hk => ?_) (by simpa using hz))
  refine wpAny_bind (wpAny_newList ?_ (by simpa using hz))
  have hoL : (h₁.push (seqObj "list" vs.toArray 0)).get? h₁.objs.size = some (seqObj "list" vs.toArray 0) := Heap.get?_push_size _ rfl
  have keep : ∀ b o, s.heap.get? b = some o → b < h₁.objs.size ∧ ∀ out, (sortedHeap (h₁.push (seqObj "list" vs.toArray 0)) h₁.objs.size vs out).get? b = some o := fun b o e => by
    have hlt : b < h₁.objs.size := Heap.lt_size (hk b o e)
    refine ⟨hlt, fun out => ?_⟩
    rw [sortedHeap_old (Nat.ne_of_lt hlt) (by rw [size_push']; exact Nat.lt_succ_of_lt hlt), Heap.get?_push_ne _ _ _ (Nat.ne_of_lt hlt)]
    exact hk b o e
  refine wpAny_bind (wpAny_holding (wpAny_call_entry slot_list_sort ⟨_, hoL, rfl⟩ entry_list_sort (hs _ _ _ _ _ hoL fun out hG => ⟨_, rfl, ?_⟩) (args_list_sort _)))
  obtain ⟨e, he⟩ := sortedHeap_at (out := out) hoL
  exact wpAny_pure ⟨_, rfl, h _ _ out.toList e (fun b o q => ⟨(keep b o q).1, (keep b o q).2 out⟩) (by simpa using he) hG⟩
end
section
variable {prog : Program} {w : World} {a : Act} {m : Loc} {l l' : Led} {env : Env} {Q : VQ} {D : Addr} {vs : List Value} {nn : Nat}
theorem Tri.sorted_g {T : String} {o : Obj} {G : List Value → Prop} (hT : T = "list" ∨ T = "tuple") (hD : (D, o) ∈ l) (hc : o.cls = .type T) (hd : o.data = .seq vs.toArray nn) (hz : vs.length ≤ sizeLine) (hs : SortsTo prog w vs G)
    (h : ∀ R out e, G out → Q (.ref R) m ((R, lstO out e) :: l)) : Tri prog w a m l (call (.builtin "sorted") [.ref D]) Q :=
  ⟨fun E s R gF iF F N D₀ k => sorted_seq hT (N _ hD).1 hc hd hz hs fun h' b out e hk hb hG => by
    have F' := F.grownK fun b o q => (hk b o q).2
    refine k _ _ ((b, lstO out e) :: l) h' s.toks _ iF F' (fun p hp => ?_) (nd_cons D₀ fun p hp => (hk _ _ (N p hp).1).1) (h b out e hG)
    rcases List.mem_cons.mp hp with rfl | hp
    · refine ⟨hb, ?_, ?_⟩
      · obtain ⟨oL, _, _, hL, _⟩ := F.ns
        exact Nat.ne_of_gt (hk _ _ hL).1
      · cases q : gF.get? b with
        | none => rfl
        | some x => exact absurd (hk _ _ (F.keep _ _ q)).1 (Nat.lt_irrefl _)
    · exact ⟨(hk _ _ (N p hp).1).2, (N p hp).2⟩⟩
theorem Tri.sorted_tup_strs {ss : List Str} (hD : (D, tupO vs) ∈ l) (hI : StrsAre vs ss) (hl : vs.length < 64)
    (h : ∀ R out e ss', StrsAre out ss' → ss'.Perm ss → sortedS ss' = true → Q (.ref R) m ((R, lstO out e) :: l)) : Tri prog w a m l (call (.builtin "sorted") [.ref D]) Q :=
  Tri.sorted_g (nn := 0) (.inr rfl) hD rfl rfl (by rw [sizeLine_eq]; omega) (sortsTo_strs hI hl) fun R out e ⟨ns', h1, h2, h3⟩ => h R out e ns' h1 h2 h3
theorem Tri.sorted_lst_strs {ss : List Str} (hD : (D, lstO vs nn) ∈ l) (hI : StrsAre vs ss) (hl : vs.length < 64)
    (h : ∀ R out e ss', StrsAre out ss' → ss'.Perm ss → sortedS ss' = true → Q (.ref R) m ((R, lstO out e) :: l)) : Tri prog w a m l (call (.builtin "sorted") [.ref D]) Q :=
  Tri.sorted_g (.inl rfl) hD rfl rfl (by rw [sizeLine_eq]; omega) (sortsTo_strs hI hl) fun R out e ⟨ns', h1, h2, h3⟩ => h R out e ns' h1 h2 h3

mutual
inductive LReads (l : Led) : Value → PyData → Prop
  | none : LReads l .none .none
  | bool (b) : LReads l (.bool b) (.bool b)
  | int (i t) : LReads l (.int i t) (.int i)
  | str (x t) : LReads l (.str x t) (.str x)
  | list {D vs n ds} : (D, lstO vs n) ∈ l → LReadsAll l vs ds → LReads l (.ref D) (.list ds)
  | tuple {D vs ds} : (D, tupO vs) ∈ l → LReadsAll l vs ds → LReads l (.ref D) (.tuple ds)
inductive LReadsAll (l : Led) : List Value → List PyData → Prop
  | nil : LReadsAll l [] []
  | cons {v vs d ds} : LReads l v d → LReadsAll l vs ds → LReadsAll l (v :: vs) (d :: ds)
end
mutual
theorem LReads.mono {l l' : Led} (hl : ∀ p ∈ l, p ∈ l') : ∀ {v : Value} {d : PyData}, LReads l v d → LReads l' v d
  | _, _, .none => .none
  | _, _, .bool b => .bool b
  | _, _, .int i t => .int i t
  | _, _, .str x t => .str x t
  | _, _, .list h1 h2 => .list (hl _ h1) (LReadsAll.mono hl h2)
  | _, _, .tuple h1 h2 => .tuple (hl _ h1) (LReadsAll.mono hl h2)
theorem LReadsAll.mono {l l' : Led} (hl : ∀ p ∈ l, p ∈ l') : ∀ {vs : List Value} {ds : List PyData}, LReadsAll l vs ds → LReadsAll l' vs ds
  | _, _, .nil => .nil
  | _, _, .cons h1 h2 => .cons (LReads.mono hl h1) (LReadsAll.mono hl h2)
end
mutual
theorem LReads.reads {h : Heap} {l : Led} (N : ∀ p ∈ l, h.get? p.1 = some p.2) : ∀ {v : Value} {d : PyData}, LReads l v d → ∃ as, Reads h v d as
  | _, _, .none => ⟨_, .none⟩
  | _, _, .bool b => ⟨_, .bool b⟩
  | _, _, .int i t => ⟨_, .int i t⟩
  | _, _, .str x t => ⟨_, .str x t⟩
  | _, _, .list h1 h2 => let ⟨_, r⟩ := LReadsAll.reads N h2; ⟨_, .list (N _ h1) rfl rfl (by simpa using r)⟩
  | _, _, .tuple h1 h2 => let ⟨_, r⟩ := LReadsAll.reads N h2; ⟨_, .tuple (N _ h1) rfl rfl (by simpa using r)⟩
theorem LReadsAll.reads {h : Heap} {l : Led} (N : ∀ p ∈ l, h.get? p.1 = some p.2) : ∀ {vs : List Value} {ds : List PyData}, LReadsAll l vs ds → ∃ as, ReadsAll h vs ds as
  | _, _, .nil => ⟨_, .nil⟩
  | _, _, .cons h1 h2 => let ⟨_, r1⟩ := LReads.reads N h1; let ⟨_, r2⟩ := LReadsAll.reads N h2; ⟨_, .cons r1 r2⟩
end
theorem LReadsAll.ints {l : Led} : ∀ {vs : List Value} {ns : List Int}, IntsAre vs ns → LReadsAll l vs (ns.map .int)
  | _, _, .nil => .nil
  | _, _, .cons n t r => .cons (.int n t) (LReadsAll.ints r)
theorem LReadsAll.strs {l : Led} : ∀ {vs : List Value} {ss : List Str}, StrsAre vs ss → LReadsAll l vs (ss.map .str)
  | _, _, .nil => .nil
  | _, _, .cons n t r => .cons (.str n t) (LReadsAll.strs r)
theorem LReadsAll.snoc {l : Led} {v : Value} {d : PyData} (hv : LReads l v d) : ∀ {vs : List Value} {ds : List PyData}, LReadsAll l vs ds → LReadsAll l (vs ++ [v]) (ds ++ [d])
  | _, _, .nil => .cons hv .nil
  | _, _, .cons h1 h2 => .cons h1 (LReadsAll.snoc hv h2)
theorem Tri.eq_data {x y : Value} {dx dy : PyData} (hx : LReads l x dx) (hy : LReads l y dy) (sx : SeqAt.shaped dx = true) (sy : SeqAt.shaped dy = true) (hu : a.A.units + 64 < cLine) (h : Q (.bool (PyData.eqv dx dy)) m l) :
    Tri prog w a m l (compareOp .Eq x y) Q :=
  ⟨fun E s R gF iF F N D₀ k => by
    obtain ⟨_, rx⟩ := hx.reads fun p hp => (N p hp).1
    obtain ⟨_, ry⟩ := hy.reads fun p hp => (N p hp).1
    exact SeqAt.compareEq_shaped rx ry sx sy hu (k _ _ _ s.heap s.toks _ iF F N D₀ h)⟩
theorem Tri.ne_data {x y : Value} {dx dy : PyData} (hx : LReads l x dx) (hy : LReads l y dy) (sx : SeqAt.shaped dx = true) (sy : SeqAt.shaped dy = true) (hu : a.A.units + 64 < cLine) (h : Q (.bool (!PyData.eqv dx dy)) m l) :
    Tri prog w a m l (compareOp .NotEq x y) Q :=
  ⟨fun E s R gF iF F N D₀ k => by
    obtain ⟨_, rx⟩ := hx.reads fun p hp => (N p hp).1
    obtain ⟨_, ry⟩ := hy.reads fun p hp => (N p hp).1
    exact SeqAt.compareNe_shaped rx ry sx sy hu (k _ _ _ s.heap s.toks _ iF F N D₀ h)⟩

def isS (x : Str) : Value → Bool
  | .str y _ => y == x
  | _ => false
def isI (x : Int) : Value → Bool
  | .int y _ => y == x
  | _ => false
theorem any_ints {x : Int} {vs : List Value} {ss : List Int} (hS : IntsAre vs ss) : vs.toArray.any (isI x) = ss.contains x := by
  simp only [List.any_toArray]
  induction hS with
  | nil => rfl
  | cons y u r ih =>
    rw [List.any_cons, ih, List.contains_cons]
    congr 1
    show (y == x) = (x == y)
    rw [Bool.eq_iff_iff, beq_iff_eq, beq_iff_eq]
    exact eq_comm
theorem ints_all {vs : List Value} {ns : List Int} (h : IntsAre vs ns) : ∀ v ∈ vs, ∃ y u, v = .int y u := by
  induction h with
  | nil => intro v hv; nomatch hv
  | cons n t r ih =>
    intro v hv
    rcases List.mem_cons.mp hv with rfl | hv
    · exact ⟨n, t, rfl⟩
    · exact ih v hv
theorem Tri.in_ints {x : Int} {t : Tok} {ss : List Int} (hD : (D, lstO vs nn) ∈ l) (hS : IntsAre vs ss) (h : Q (.bool (ss.contains x)) m l) : Tri prog w a m l (compareOp .In (.int x t) (.ref D)) Q :=
  ⟨fun E s R gF iF F N D₀ k => by
    have hl : s.heap.IsList D vs.toArray := ⟨_, (N _ hD).1, rfl, nn, rfl⟩
    refine SeqAt.in_listAt (isI x) hl (fun v hv => ?_) (by rw [any_ints hS]; exact k _ _ _ s.heap s.toks _ iF F N D₀ h)
    obtain ⟨y, u, rfl⟩ := ints_all hS v (by simpa using hv)
    exact SeqAt.EqAt.int_int y u x t⟩
theorem Tri.notIn_ints {x : Int} {t : Tok} {ss : List Int} (hD : (D, lstO vs nn) ∈ l) (hS : IntsAre vs ss) (h : Q (.bool (!ss.contains x)) m l) : Tri prog w a m l (compareOp .NotIn (.int x t) (.ref D)) Q :=
  ⟨fun E s R gF iF F N D₀ k => by
    have hl : s.heap.IsList D vs.toArray := ⟨_, (N _ hD).1, rfl, nn, rfl⟩
    refine SeqAt.notIn_listAt (isI x) hl (fun v hv => ?_) (by rw [any_ints hS]; exact k _ _ _ s.heap s.toks _ iF F N D₀ h)
    obtain ⟨y, u, rfl⟩ := ints_all hS v (by simpa using hv)
    exact SeqAt.EqAt.int_int y u x t⟩

theorem Tri.mod_pos {x y : Int} {t u : Tok} (hy : 0 < y) (h : ∀ t, Q (.int (x % y) t) m l) : Tri prog w a m l (binaryOp .Mod (.int x t) (.int y u)) Q :=
  ⟨fun E s R gF iF F N D k => mod_int' (Int.ne_of_gt hy) (by rw [Int.fmod_eq_emod_of_nonneg x (Int.le_of_lt hy)]; exact k _ m l s.heap (s.toks + 1) _ iF F N D (h _))⟩
theorem Tri.fdiv_pos {x y : Int} {t u : Tok} (hy : 0 < y) (hy2 : y.natAbs < 1073741824) (h : ∀ t, Q (.int (x / y) t) m l) : Tri prog w a m l (binaryOp .FloorDiv (.int x t) (.int y u)) Q :=
  ⟨fun E s R gF iF F N D k => floordiv_int (Int.ne_of_gt hy) (by rw [Int.fdiv_eq_ediv_of_nonneg x (Int.le_of_lt hy)]; exact k _ m l s.heap (s.toks + 1) _ iF F N D (h _)) (.inl (PyProof.noPylong_small hy2))⟩
theorem Tri.pow_small {x y : Int} {t u : Tok} (hn : 0 ≤ y) (hn2 : y ≤ 1000000) (ha : x.natAbs < 2 ^ 64) (h : ∀ t, Q (.int (x ^ y.toNat) t) m l) : Tri prog w a m l (binaryOp .Pow (.int x t) (.int y u)) Q :=
  ⟨fun E s R gF iF F N D k => pow_int_small hn hn2 ha (k _ m l s.heap (s.toks + 1) _ iF F N D (h _))⟩
theorem Tri.add_S {x y : List Nat} {t u : Tok} (hz : x.length + y.length ≤ sizeLine) (h : ∀ t, Q (.str (S (x ++ y)) t) m l) : Tri prog w a m l (binaryOp .Add (.str (S x) t) (.str (S y) u)) Q :=
  ⟨fun E s R gF iF F N D k => PyProof.Rows.add_str (fun t' tk => by
    have e : S x ++ S y = S (x ++ y) := by show Str.append _ _ = _; simp [Str.append, S]
    rw [e]; exact k _ m l s.heap tk _ iF F N D (h _)) (by rw [S_length, S_length]; exact hz)⟩
section
variable {K : Frag} {p : Program} {loose : List Str} {mean : ExcName → Option Value} {mg mb : Str → Option Value} {env' : Env} {n : Nat} {pos : Pos} {f : Value} {first : List Value}
theorem Tri.withSM {e : Expr} {p2 : Pos} {T : String} {o : Obj} {q fa : Addr} {self : Value} (hT : T = "list" ∨ T = "tuple") (ok : Ok K p loose mean mg mb a env' n) (hf : fnIn K fa = true)
    (h : Tri prog w a m l (eval e env) fun v m1 l1 => v = .ref D ∧ (D, o) ∈ l1 ∧ (q, methodObj (.ref fa) self) ∈ l1 ∧ Tri prog w a m1 l1 (call (.ref q) (first ++ vs)) Q) (hc : o.cls = .type T) (hd : o.data = .seq vs.toArray nn) (hz : vs.length ≤ sizeLine)
    (he : starEach [.Starred e p2] env = [(true, eval e env)] := by rfl) :
    Tri prog w a m l (callWith pos (.ref q) first (backTo pos (starEach [.Starred e p2] env)) []) Q :=
  ⟨fun E s R gF iF F N D₀ k => by
    rw [he]
    refine ks_call (P := MethP K q fa self) rfl (keeps_M hf) (ks_lone (h.run E s _ _ iF F N D₀ fun v m1 l1 h1 t1 g1 i1 F1 N1 D1 q1 => ?_))
    obtain ⟨rfl, hm, hq, q⟩ := q1
    exact star_seq F1 N1 hm hc hd hT (by simp) (by simpa using hz) fun h' F' N' => ⟨methP N' hq ((ok.kin.keeps i1.stays).keeps F'.keep), q.run E _ R _ i1 F' N' D1 k⟩⟩
end

end

local macro_rules | `(tactic| walk_at "w2") => `(tactic| first
  | ((with_reducible show Tri _ _ _ _ _ (PySem.binaryOp _ (Value.int _ _) (Value.int _ _)) _); first
    | with_reducible first | refine Tri.mod_pos (by decide) fun _ => ?_ | refine Tri.fdiv_pos (by decide) (by decide) fun _ => ?_ | refine Tri.pow_small (by decide) (by decide) (by decide) fun _ => ?_
    | walk_at "w1")
  | ((with_reducible show Tri _ _ _ _ _ (PySem.binaryOp Operator.Add (Value.str (S _) _) (Value.str (S _) _)) _); refine Tri.add_S (by walk_at "size") fun _ => ?_)
  | ((with_reducible show Tri _ _ _ _ _ (PySem.isTrue (Expr.Compare _ [_, _] [_, _] _) _ _) _); refine Tri.isTrue_chain ?_)
  | ((with_reducible show gMeth); first | refine Tri.method ?_ | refine Tri.methodS ?_)
  | ((with_reducible show gARef); (with_reducible first | show gA (y := "add") | show gA (y := "done"));
     (refine' Tri.boundM (Ok.kin (by assumption)) ?hx ?hd ?hg ?hh ?hf ?ht ?hgf ?htk ?hc ?hl ?_; (case hx => walk_at "mem"); (case hd => walk_at "mem"); (case hg => k_is); (case hh => k_is); (case hf => k_is); (case ht => k_is); (case hgf => k_is); (case htk => k_is); (case hc => decide); (case hl => rfl)); intro q)
  | ((with_reducible refine ⟨fun hb => ?_, fun hb => ?_⟩) <;> (try (first | exact absurd hb Bool.false_ne_true | exact absurd hb.symm Bool.false_ne_true | exact no_two hb (by assumption) | exact no_two (by assumption) hb)))
  | walk_at "wc")

section
variable {prog : Program} {w : World} {K : Frag} {p : Program} {loose : List Str} {mean : ExcName → Option Value} {mg mb : Str → Option Value} {a : Act} {env : Env} {n : Nat} {m : Loc} {l : Led}
variable {elt target iter : Expr} {ifs : List Expr} {scope : Scope} {cl : List (Str × Addr)} {pos : Pos} {Q : VQ} {I D' : Addr}

theorem comp_listF {vs : List Value} {cap : Nat} (okc : OkC K p loose mean mg mb a) (hcell : ∀ y ∈ scope.names, y.2 ≠ .cell) (hkind : scope.kind = .function)
    (hgo : (∃ x p, target = .Name x p) ∨ (∃ e k p, target = .Tuple e k p) ∧ ∀ v ∈ vs, ∃ T, v = .ref T) (hD : (D', lstO vs cap) ∈ l)
    (J : Nat → List Value → Prop) (hz : ∀ i ys, J i ys → ys.length ≤ sizeLine) (hj : J 0 [])
    (turn : ∀ (b : Act) i v o D nn ys ex, b.A = a.A → OkC K p loose mean mg mb b → vs[i]? = some v → J i ys → Tri prog w b (lcl ex) ((I, o) :: (D, lstO ys nn) :: l) (assign target (compEnvC scope cl b.L env) v) fun _ m1 l1 =>
      Tri prog w b m1 l1 (tests ifs (compEnvC scope cl b.L env)) fun t m2 l2 => (t = true → Tri prog w b m2 l2 (eval elt (compEnvC scope cl b.L env)) fun x m3 l3 => (∃ ex', m3 = lcl ex') ∧ Sub ((I, o) :: (D, lstO ys nn) :: l) l3 ∧ J (i + 1) (ys ++ [x])) ∧
        (t = false → (∃ ex', m2 = lcl ex') ∧ Sub ((I, o) :: (D, lstO ys nn) :: l) l2 ∧ J (i + 1) ys))
    (done : ∀ D ys nn, J vs.length ys → Q (.ref D) m ((D, lstO ys nn) :: l)) : CompAt prog w a env elt target iter ifs scope cl pos Q (.ref I) m ((I, lstIt D' 0) :: l) := by
  refine comp_list okc hcell hkind hgo hD (fun i ys l' => l' = l ∧ J i ys) (fun i ys l' ⟨e, _⟩ => e ▸ hD) (fun i ys l' ⟨_, h⟩ => hz i ys h) ⟨rfl, hj⟩ ?_ (fun D ys nn l' ⟨e, h⟩ => e ▸ done D ys nn h)
  rintro b i v o D nn ys ex l' hb okb hv ⟨rfl, h⟩
  refine (turn b i v o D nn ys ex hb okb hv h).mono fun _ m1 l1 q => q.mono fun t m2 l2 q => ⟨fun ht => (q.1 ht).mono fun x m3 l3 ⟨q1, q2, q3⟩ => ⟨q1, _, q2, rfl, q3⟩, fun ht => ?_⟩
  obtain ⟨q1, q2, q3⟩ := q.2 ht
  exact ⟨q1, _, q2, rfl, q3⟩
abbrev isInt (x : Int) (v : Value) : Prop := ∃ t, v = .int x t
abbrev isStr (x : Str) (v : Value) : Prop := ∃ t, v = .str x t
inductive PairsIn {α β : Type} (R1 : α → Value → Prop) (R2 : β → Value → Prop) (l : Led) : List Value → List (α × β) → Prop
  | nil : PairsIn R1 R2 l [] []
  | cons {T u v x y vs ps} : (T, tupO [u, v]) ∈ l → R1 x u → R2 y v → PairsIn R1 R2 l vs ps → PairsIn R1 R2 l (.ref T :: vs) ((x, y) :: ps)
section
variable {α β : Type} {R1 : α → Value → Prop} {R2 : β → Value → Prop}
theorem PairsIn.mono {l l' : Led} (hl : ∀ p ∈ l, p ∈ l') {vs : List Value} {ps : List (α × β)} (h : PairsIn R1 R2 l vs ps) : PairsIn R1 R2 l' vs ps := by
  induction h with
  | nil => exact .nil
  | cons h1 h2 h3 _ ih => exact .cons (hl _ h1) h2 h3 ih
theorem PairsIn.length {l : Led} {vs : List Value} {ps : List (α × β)} (h : PairsIn R1 R2 l vs ps) : vs.length = ps.length := by
  induction h with
  | nil => rfl
  | cons _ _ _ _ ih => simp [ih]
theorem PairsIn.snoc {l : Led} {vs : List Value} {ps : List (α × β)} (h : PairsIn R1 R2 l vs ps) {T : Addr} {u v : Value} {x : α} {y : β} (hT : (T, tupO [u, v]) ∈ l) (hx : R1 x u) (hy : R2 y v) : PairsIn R1 R2 l (vs ++ [.ref T]) (ps ++ [(x, y)]) := by
  induction h with
  | nil => exact .cons hT hx hy .nil
  | cons h1 h2 h3 _ ih => exact .cons h1 h2 h3 ih
theorem PairsIn.get {l : Led} {vs : List Value} {ps : List (α × β)} (h : PairsIn R1 R2 l vs ps) : ∀ {q : Nat} {v : Value}, vs[q]? = some v → ∃ T u1 u2 x y, v = .ref T ∧ (T, tupO [u1, u2]) ∈ l ∧ R1 x u1 ∧ R2 y u2 ∧ ps[q]? = some (x, y) := by
  induction h with
  | nil => intro q v hv; simp at hv
  | @cons T u v x y vs ps h1 h2 h3 _ ih =>
    intro q u' hv
    cases q with
    | zero => simp at hv; subst hv; exact ⟨T, u, v, x, y, rfl, h1, h2, h3, rfl⟩
    | succ q => exact ih (by simpa using hv)
theorem PairsIn.refs {l : Led} {vs : List Value} {ps : List (α × β)} (h : PairsIn R1 R2 l vs ps) : ∀ v ∈ vs, ∃ T, v = .ref T := by
  induction h with
  | nil => intro v hv; nomatch hv
  | @cons T u v x y vs ps h1 h2 h3 _ ih =>
    intro u' hv
    rcases List.mem_cons.mp hv with rfl | hv
    · exact ⟨T, rfl⟩
    · exact ih u' hv
theorem comp_pairs {vs : List Value} {cap : Nat} {ps : List (α × β)} {elts : List Expr} {kk : Nat} {tp : Pos} (okc : OkC K p loose mean mg mb a) (hcell : ∀ y ∈ scope.names, y.2 ≠ .cell) (hkind : scope.kind = .function)
    (hD : (D', lstO vs cap) ∈ l) (hp : PairsIn R1 R2 l vs ps) (hn : ∀ e, (assignEach elts e).length = 2) (hst : ∀ e, (assignEach elts e).findIdx? (·.1) = none)
    (J : Nat → List Value → Prop) (hz : ∀ i ys, J i ys → ys.length ≤ sizeLine) (hj : J 0 [])
    (turn : ∀ (b : Act) i x y u1 u2 o D nn ys ex, b.A = a.A → OkC K p loose mean mg mb b → R1 x u1 → R2 y u2 → ps[i]? = some (x, y) → J i ys → Tri prog w b (lcl ex) ((I, o) :: (D, lstO ys nn) :: l) (assignInOrder ((assignEach elts (compEnvC scope cl b.L env)).map (·.2)) [u1, u2]) fun _ m1 l1 =>
      Tri prog w b m1 l1 (tests ifs (compEnvC scope cl b.L env)) fun t m2 l2 => (t = true → Tri prog w b m2 l2 (eval elt (compEnvC scope cl b.L env)) fun x m3 l3 => (∃ ex', m3 = lcl ex') ∧ Sub ((I, o) :: (D, lstO ys nn) :: l) l3 ∧ J (i + 1) (ys ++ [x])) ∧
        (t = false → (∃ ex', m2 = lcl ex') ∧ Sub ((I, o) :: (D, lstO ys nn) :: l) l2 ∧ J (i + 1) ys))
    (done : ∀ D ys nn, J ps.length ys → Q (.ref D) m ((D, lstO ys nn) :: l)) : CompAt prog w a env elt (.Tuple elts kk tp) iter ifs scope cl pos Q (.ref I) m ((I, lstIt D' 0) :: l) := by
  refine comp_listF okc hcell hkind (.inr ⟨⟨_, _, _, rfl⟩, hp.refs⟩) hD J hz hj (fun b i v o D nn ys ex hb okb hv hJ => ?_) (fun D ys nn h => done D ys nn (hp.length ▸ h))
  obtain ⟨T, u1, u2, x, y, rfl, hT, h1, h2, hq⟩ := hp.get hv
  exact Tri.assignT okb.handled (.tail _ (.tail _ hT)) (hn _) (hst _) (turn b i x y u1 u2 o D nn ys ex hb okb h1 h2 hq hJ)
end
end

section
variable {w : World} {mean : ExcName → Option Value} {mg mb : Str → Option Value} {a : Act} {env : Env} {n : Nat} {m : Loc} {l : Led} {Q : VQ}
variable {κ : Type} [DecidableEq κ] {knd : KeyKind Challenge.rw_mq0363_02.row.prog w κ}
def ready0 (st : List (NI κ)) : List κ := (st.filter fun r => r.np == 0).map (·.key)

end

section
variable {κ : Type} [DecidableEq κ]
theorem find_upd {k : κ} {f : NI κ → NI κ} (hf : ∀ r, (f r).key = r.key) (k' : κ) : ∀ st : List (NI κ), (upd k f st).find? (fun r => r.key = k') = (st.find? fun r => r.key = k').map fun r => if r.key = k then f r else r
  | [] => rfl
  | x :: st => by
    have ih := find_upd (k := k) hf k' st
    unfold upd at ih ⊢
    rw [List.map_cons, List.find?_cons, List.find?_cons]
    have e : decide ((if x.key = k then f x else x).key = k') = decide (x.key = k') := by
      split
      · rw [hf]
      · rfl
    rw [e]
    by_cases h : x.key = k'
    · simp [h]
    · simp only [decide_eq_false h]; exact ih
theorem find_some {k : κ} {st : List (NI κ)} (h : k ∈ st.map (·.key)) : ∃ r, st.find? (fun r => r.key = k) = some r ∧ r ∈ st ∧ r.key = k := by
  cases e : st.find? (fun r => r.key = k) with
  | none =>
    obtain ⟨x, hx, q⟩ := List.mem_map.mp h
    exact absurd (by simpa using q) (List.find?_eq_none.mp e x hx)
  | some r => exact ⟨r, rfl, List.mem_of_find?_eq_some e, by simpa using List.find?_some e⟩
theorem npOf_upd {k : κ} {g : Int → Int} {f : NI κ → NI κ} (hf : ∀ r, (f r).key = r.key) (hg : ∀ r, (f r).np = g r.np) {st : List (NI κ)} (k' : κ) (hk : k' = k → k ∈ st.map (·.key)) : npOf (upd k f st) k' = if k' = k then g (npOf st k) else npOf st k' := by
  unfold npOf
  rw [find_upd hf]
  by_cases h : k' = k
  · subst h
    obtain ⟨r, e, _, hr⟩ := find_some (hk rfl)
    rw [e, if_pos rfl]
    simp [hr, hg]
  · rw [if_neg h]
    cases e : st.find? (fun r => r.key = k') with
    | none => rfl
    | some r =>
      have hr : r.key = k' := by simpa using List.find?_some e
      have : ¬ r.key = k := fun q => h (hr.symm.trans q)
      simp [this]
theorem succOf_upd {k : κ} {g : List κ → List κ} {f : NI κ → NI κ} (hf : ∀ r, (f r).key = r.key) (hg : ∀ r, (f r).succ = g r.succ) {st : List (NI κ)} (k' : κ) (hk : k' = k → k ∈ st.map (·.key)) : succOf (upd k f st) k' = if k' = k then g (succOf st k) else succOf st k' := by
  unfold succOf
  rw [find_upd hf]
  by_cases h : k' = k
  · subst h
    obtain ⟨r, e, _, hr⟩ := find_some (hk rfl)
    rw [e, if_pos rfl]
    simp [hr, hg]
  · rw [if_neg h]
    cases e : st.find? (fun r => r.key = k') with
    | none => rfl
    | some r =>
      have hr : r.key = k' := by simpa using List.find?_some e
      have : ¬ r.key = k := fun q => h (hr.symm.trans q)
      simp [this]
theorem keys_ensure (k : κ) (st : List (NI κ)) : (ensure k st).map (·.key) = if k ∈ st.map (·.key) then st.map (·.key) else st.map (·.key) ++ [k] := by
  unfold ensure
  have e : st.any (fun r => decide (r.key = k)) = decide (k ∈ st.map (·.key)) := by
    rw [Bool.eq_iff_iff]; simp
  rw [e]
  by_cases h : k ∈ st.map (·.key)
  · rw [if_pos h, if_pos (by simpa using h)]
  · rw [if_neg h, if_neg (by simpa using h)]; simp
theorem find_ensure (k k' : κ) (st : List (NI κ)) : (ensure k st).find? (fun r => r.key = k') = match st.find? (fun r => r.key = k') with | some r => some r | none => if k = k' ∧ k ∉ st.map (·.key) then some ⟨k, 0, []⟩ else none := by
  unfold ensure
  have e : st.any (fun r => decide (r.key = k)) = decide (k ∈ st.map (·.key)) := by
    rw [Bool.eq_iff_iff]; simp
  rw [e]
  by_cases h : k ∈ st.map (·.key)
  · rw [if_pos (by simpa using h)]
    cases q : st.find? (fun r => r.key = k') with
    | none => simp [h]
    | some r => rfl
  · rw [if_neg (by simpa using h), List.find?_append]
    cases q : st.find? (fun r => r.key = k') with
    | some r => rfl
    | none =>
      simp only [Option.none_or]
      by_cases h2 : k = k'
      · simp [h2]; intro x hx; exact fun e => h (List.mem_map.mpr ⟨x, hx, by rw [h2]; exact e⟩)
      · simp [h2]
theorem npOf_ensure (k k' : κ) (st : List (NI κ)) : npOf (ensure k st) k' = npOf st k' := by
  unfold npOf
  rw [find_ensure]
  cases q : st.find? (fun r => r.key = k') with
  | some r => rfl
  | none => dsimp only; by_cases h : k = k' ∧ k ∉ st.map (·.key) <;> first | (rw [if_pos h]; rfl) | (rw [if_neg h])
theorem succOf_ensure (k k' : κ) (st : List (NI κ)) : succOf (ensure k st) k' = succOf st k' := by
  unfold succOf
  rw [find_ensure]
  cases q : st.find? (fun r => r.key = k') with
  | some r => rfl
  | none => dsimp only; by_cases h : k = k' ∧ k ∉ st.map (·.key) <;> first | (rw [if_pos h]; rfl) | (rw [if_neg h])
theorem mem_ensure {k k' : κ} {st : List (NI κ)} : k' ∈ (ensure k st).map (·.key) ↔ k' ∈ st.map (·.key) ∨ k' = k := by
  rw [keys_ensure]
  by_cases h : k ∈ st.map (·.key)
  · rw [if_pos h]
    exact ⟨.inl, fun q => q.elim id fun e => e ▸ h⟩
  · rw [if_neg h]; simp [or_comm]
theorem nodup_ensure {k : κ} {st : List (NI κ)} (h : (st.map (·.key)).Nodup) : ((ensure k st).map (·.key)).Nodup := by
  rw [keys_ensure]
  split
  · exact h
  · rename_i q
    rw [List.nodup_append]
    refine ⟨h, by simp, fun a ha b hb => ?_⟩
    rw [List.mem_singleton.mp hb]
    exact fun e => q (e ▸ ha)

structure Built (st : List (NI κ)) (P : List (κ × κ)) : Prop where
  nd : (st.map (·.key)).Nodup
  np : ∀ k, npOf st k = (P.countP (fun e => e.1 = k) : Nat)
  su : ∀ p, succOf st p = (P.filter (fun e => e.2 = p)).map (·.1)
  inn : ∀ e ∈ P, e.1 ∈ st.map (·.key) ∧ e.2 ∈ st.map (·.key)
theorem Built.nil : Built ([] : List (NI κ)) [] := ⟨List.nodup_nil, fun _ => rfl, fun _ => rfl, fun _ h => nomatch h⟩
theorem built_preds {k : κ} : ∀ {ps : List κ} {st : List (NI κ)} {P : List (κ × κ)}, (st.map (·.key)).Nodup → (∀ p, succOf st p = (P.filter (fun e => e.2 = p)).map (·.1)) → (∀ e ∈ P, e.1 ∈ st.map (·.key) ∧ e.2 ∈ st.map (·.key)) → k ∈ st.map (·.key) →
    ((ps.foldl (addPred k) st).map (·.key)).Nodup ∧ (∀ k', npOf (ps.foldl (addPred k) st) k' = npOf st k') ∧ (∀ p, succOf (ps.foldl (addPred k) st) p = ((P ++ ps.map (k, ·)).filter (fun e => e.2 = p)).map (·.1)) ∧
    (∀ e ∈ P ++ ps.map (k, ·), e.1 ∈ (ps.foldl (addPred k) st).map (·.key) ∧ e.2 ∈ (ps.foldl (addPred k) st).map (·.key)) ∧ ∀ k', k' ∈ (ps.foldl (addPred k) st).map (·.key) ↔ k' ∈ st.map (·.key) ∨ k' ∈ ps
  | [], st, P, nd, su, inn, hk => ⟨nd, fun _ => rfl, by simpa using su, by simpa using inn, by simp⟩
  | p :: ps, st, P, nd, su, inn, hk => by
    have hkeys : (addPred k st p).map (·.key) = (ensure p st).map (·.key) := keys_upd p (fun r => { r with succ := r.succ ++ [k] }) (fun _ => rfl) _
    have hp : p ∈ (ensure p st).map (·.key) := mem_ensure.mpr (.inr rfl)
    have hsu : ∀ q, succOf (addPred k st p) q = if q = p then succOf st p ++ [k] else succOf st q := fun q => by
      unfold addPred
      rw [succOf_upd (f := fun r => { r with succ := r.succ ++ [k] }) (g := fun l => l ++ [k]) (fun _ => rfl) (fun _ => rfl) q (fun _ => hp), succOf_ensure, succOf_ensure]
    have hnp : ∀ q, npOf (addPred k st p) q = npOf st q := fun q => by
      unfold addPred
      rw [npOf_upd (f := fun r => { r with succ := r.succ ++ [k] }) (g := id) (fun _ => rfl) (fun _ => rfl) q (fun _ => hp), npOf_ensure, npOf_ensure]
      split
      · rename_i e; rw [e]; rfl
      · rfl
    obtain ⟨a1, a2, a3, a4, a5⟩ := built_preds (k := k) (ps := ps) (st := addPred k st p) (P := P ++ [(k, p)]) (by rw [hkeys]; exact nodup_ensure nd)
      (fun q => by
        rw [hsu, su, su, List.filter_append, List.map_append]
        by_cases e : q = p
        · subst e; simp
        · rw [if_neg e]
          have : ¬ p = q := fun h => e h.symm
          simp [this])
      (fun e he => by
        rw [hkeys]
        rcases List.mem_append.mp he with he | he
        · exact ⟨mem_ensure.mpr (.inl (inn e he).1), mem_ensure.mpr (.inl (inn e he).2)⟩
        · rw [List.mem_singleton.mp he]
          exact ⟨mem_ensure.mpr (.inl hk), hp⟩)
      (by rw [hkeys]; exact mem_ensure.mpr (.inl hk))
    refine ⟨a1, fun q => (a2 q).trans (hnp q), fun q => ?_, fun e he => a4 e (by simpa using he), fun q => ?_⟩
    · rw [List.foldl_cons, a3]; simp
    · rw [List.foldl_cons, a5, hkeys, mem_ensure]; simp [or_assoc]
theorem Built.add {st : List (NI κ)} {P : List (κ × κ)} (B : Built st P) (k : κ) (ps : List κ) : Built (addAbs k ps st) (P ++ ps.map (k, ·)) ∧ ∀ k', k' ∈ (addAbs k ps st).map (·.key) ↔ k' ∈ st.map (·.key) ∨ k' = k ∨ k' ∈ ps := by
  have hkeys : (upd k (fun r => { r with np := r.np + ps.length }) (ensure k st)).map (·.key) = (ensure k st).map (·.key) := keys_upd k (fun r => { r with np := r.np + ps.length }) (fun _ => rfl) _
  have hk : k ∈ (ensure k st).map (·.key) := mem_ensure.mpr (.inr rfl)
  obtain ⟨a1, a2, a3, a4, a5⟩ := built_preds (k := k) (ps := ps) (st := upd k (fun r => { r with np := r.np + ps.length }) (ensure k st)) (P := P) (by rw [hkeys]; exact nodup_ensure B.nd)
    (fun q => by
      rw [succOf_upd (f := fun r => { r with np := r.np + ps.length }) (g := id) (fun _ => rfl) (fun _ => rfl) q (fun _ => hk), succOf_ensure, succOf_ensure, B.su, B.su]
      split
      · rename_i e; rw [e]; rfl
      · rfl)
    (fun e he => by rw [hkeys]; exact ⟨mem_ensure.mpr (.inl (B.inn e he).1), mem_ensure.mpr (.inl (B.inn e he).2)⟩)
    (by rw [hkeys]; exact hk)
  refine ⟨⟨a1, fun q => ?_, a3, a4⟩, fun q => ?_⟩
  · unfold addAbs
    rw [a2, npOf_upd (f := fun r => { r with np := r.np + ps.length }) (g := fun x => x + ps.length) (fun _ => rfl) (fun _ => rfl) q (fun _ => hk), npOf_ensure, npOf_ensure, B.np, B.np, List.countP_append]
    by_cases e : q = k
    · subst e
      rw [if_pos rfl]
      have : (ps.map (q, ·)).countP (fun e => decide (e.1 = q)) = ps.length := by
        rw [List.countP_eq_length.mpr]
        · simp
        · intro x hx
          obtain ⟨y, _, rfl⟩ := List.mem_map.mp hx
          simp
      rw [this]; omega
    · rw [if_neg e]
      have : (ps.map (k, ·)).countP (fun e => decide (e.1 = q)) = 0 := by
        rw [List.countP_eq_zero]
        intro x hx
        obtain ⟨y, _, rfl⟩ := List.mem_map.mp hx
        simpa using fun h => e h.symm
      rw [this]; omega
  · unfold addAbs
    rw [a5, hkeys, mem_ensure, or_assoc]
end

section
variable {κ : Type} [DecidableEq κ]
theorem npOf_setNp {v : Int} {st : List (NI κ)} {k : κ} (k' : κ) (hk : k ∈ st.map (·.key)) : npOf (setNp v st k) k' = if k' = k then v else npOf st k' :=
  npOf_upd (f := fun r => { r with np := v }) (g := fun _ => v) (fun _ => rfl) (fun _ => rfl) k' fun _ => hk
theorem succOf_setNp {v : Int} {st : List (NI κ)} {k : κ} (k' : κ) (hk : k ∈ st.map (·.key)) : succOf (setNp v st k) k' = succOf st k' := by
  unfold setNp
  rw [succOf_upd (f := fun r => { r with np := v }) (g := id) (fun _ => rfl) (fun _ => rfl) k' fun _ => hk]
  split
  · rename_i e; rw [e]; rfl
  · rfl
theorem setNps {v : Int} : ∀ {ks : List κ} {st : List (NI κ)}, (∀ k ∈ ks, k ∈ st.map (·.key)) → (∀ k', npOf (ks.foldl (setNp v) st) k' = if k' ∈ ks then v else npOf st k') ∧ ∀ k', succOf (ks.foldl (setNp v) st) k' = succOf st k'
  | [], st, _ => ⟨fun _ => by simp, fun _ => rfl⟩
  | k :: ks, st, h => by
    have hk := h k (.head _)
    obtain ⟨a1, a2⟩ := setNps (v := v) (ks := ks) (st := setNp v st k) fun x hx => by rw [keys_setNp]; exact h x (.tail _ hx)
    refine ⟨fun k' => ?_, fun k' => (a2 k').trans (succOf_setNp k' hk)⟩
    rw [List.foldl_cons, a1, npOf_setNp k' hk]
    by_cases e1 : k' ∈ ks
    · rw [if_pos e1, if_pos (.tail _ e1)]
    · rw [if_neg e1]
      by_cases e2 : k' = k
      · rw [if_pos e2, if_pos (by rw [e2]; exact .head _)]
      · rw [if_neg e2, if_neg (by simp [e1, e2])]
theorem npOf_decr {st : List (NI κ)} {Q : List κ} {s : κ} (k : κ) (hs : s ∈ st.map (·.key)) : npOf (decr (st, Q) s).1 k = if k = s then npOf st s - 1 else npOf st k :=
  npOf_upd (f := fun r => { r with np := r.np - 1 }) (g := fun x => x - 1) (fun _ => rfl) (fun _ => rfl) k fun _ => hs
theorem succOf_decr {st : List (NI κ)} {Q : List κ} {s : κ} (k : κ) (hs : s ∈ st.map (·.key)) : succOf (decr (st, Q) s).1 k = succOf st k := by
  show succOf (upd s _ st) k = _
  rw [succOf_upd (f := fun r => { r with np := r.np - 1 }) (g := id) (fun _ => rfl) (fun _ => rfl) k fun _ => hs]
  split
  · rename_i e; rw [e]; rfl
  · rfl
theorem decrs : ∀ {L : List κ} {st : List (NI κ)} {Q : List κ}, (∀ k ∈ L, k ∈ st.map (·.key)) → (∀ k ∈ L, (L.count k : Int) ≤ npOf st k) → (∀ k ∈ L, k ∉ Q) → Q.Nodup →
    (∀ k, npOf (L.foldl decr (st, Q)).1 k = npOf st k - L.count k) ∧ (∀ k, succOf (L.foldl decr (st, Q)).1 k = succOf st k) ∧ (L.foldl decr (st, Q)).2.Nodup ∧ ∀ k, k ∈ (L.foldl decr (st, Q)).2 ↔ k ∈ Q ∨ (k ∈ L ∧ npOf st k = L.count k)
  | [], st, Q, _, _, _, nd => ⟨fun _ => by simp, fun _ => rfl, nd, fun _ => by simp⟩
  | s :: L, st, Q, hk, hc, hq, nd => by
    have hs := hk s (.head _)
    have hcs := hc s (.head _)
    rw [List.count_cons_self] at hcs
    have hcnt : ∀ k, ((s :: L).count k : Int) = L.count k + if k = s then 1 else 0 := fun k => by
      rw [List.count_cons]
      by_cases e : k = s
      · subst e; simp
      · have : ¬ s = k := fun h => e h.symm
        simp [e, this]
    have e2 : (decr (st, Q) s).2 = if npOf st s = 1 then Q ++ [s] else Q := rfl
    obtain ⟨a1, a2, a3, a4⟩ := decrs (L := L) (st := (decr (st, Q) s).1) (Q := (decr (st, Q) s).2) (fun k h => by rw [keys_decr]; exact hk k (.tail _ h))
      (fun k h => by
        rw [npOf_decr k hs]
        have := hc k (.tail _ h)
        rw [hcnt] at this
        split
        · rename_i e; subst e; simp at this; omega
        · rename_i e; rw [if_neg e] at this; omega)
      (fun k h => by
        rw [e2]
        split
        · rename_i e
          intro q
          rcases List.mem_append.mp q with q | q
          · exact hq k (.tail _ h) q
          · rw [List.mem_singleton.mp q] at h
            have := List.count_pos_iff.mpr h
            omega
        · exact hq k (.tail _ h))
      (by
        rw [e2]
        split
        · rw [List.nodup_append]
          refine ⟨nd, by simp, fun x hx y hy => ?_⟩
          rw [List.mem_singleton.mp hy]
          exact fun e => hq s (.head _) (e ▸ hx)
        · exact nd)
    show (∀ k, npOf (L.foldl decr (decr (st, Q) s)).1 k = _) ∧ (∀ k, succOf (L.foldl decr (decr (st, Q) s)).1 k = _) ∧ (L.foldl decr (decr (st, Q) s)).2.Nodup ∧ ∀ k, k ∈ (L.foldl decr (decr (st, Q) s)).2 ↔ _
    refine ⟨fun k => ?_, fun k => (a2 k).trans (succOf_decr k hs), a3, fun k => ?_⟩
    · rw [a1, npOf_decr k hs, hcnt]
      split
      · rename_i e; subst e; omega
      · omega
    · rw [a4, e2, npOf_decr k hs]
      have hck := hcnt k
      have hmem : k ∈ s :: L ↔ k = s ∨ k ∈ L := by simp
      by_cases e : k = s
      · subst e
        rw [if_pos rfl] at hck ⊢
        have hz : L.count k = 0 ↔ k ∉ L := by rw [List.count_eq_zero]
        have hzz : ¬ k ∈ Q := hq k (.head _)
        by_cases e1 : npOf st k = 1
        · rw [if_pos e1]
          have : k ∉ L := hz.mp (by omega)
          have c0 : L.count k = 0 := hz.mpr this
          constructor
          · intro _
            exact .inr ⟨.head _, by omega⟩
          · intro _
            exact .inl (by simp)
        · rw [if_neg e1]
          constructor
          · rintro (h | ⟨h, h'⟩)
            · exact .inl h
            · exact .inr ⟨.head _, by omega⟩
          · rintro (h | ⟨h, h'⟩)
            · exact .inl h
            · refine .inr ⟨?_, by omega⟩
              by_cases q : k ∈ L
              · exact q
              · have := hz.mpr q; omega
      · rw [if_neg e] at hck ⊢
        have hQ : k ∈ (if npOf st s = 1 then Q ++ [s] else Q) ↔ k ∈ Q := by
          split
          · simp [e]
          · rfl
        rw [hQ, hmem]
        constructor
        · rintro (h | ⟨h, h'⟩)
          · exact .inl h
          · exact .inr ⟨.inr h, by omega⟩
        · rintro (h | ⟨h, h'⟩)
          · exact .inl h
          · exact .inr ⟨h.resolve_left e, by omega⟩

structure Run (P : List (κ × κ)) (K : List κ) (st : List (NI κ)) (H R : List κ) : Prop where
  keys : st.map (·.key) = K
  nd : K.Nodup
  su : ∀ p, succOf st p = (P.filter (fun e => e.2 = p)).map (·.1)
  inn : ∀ e ∈ P, e.1 ∈ K ∧ e.2 ∈ K
  np : ∀ k ∈ K, k ∉ H → npOf st k = (P.countP (fun e => e.1 = k ∧ e.2 ∉ H) : Nat)
  rn : R.Nodup
  rm : ∀ k, k ∈ R ↔ k ∈ K ∧ k ∉ H ∧ ∀ e ∈ P, e.1 = k → e.2 ∈ H
  closed : ∀ e ∈ P, e.1 ∈ H → e.2 ∈ H
theorem Built.run {st : List (NI κ)} {P : List (κ × κ)} (B : Built st P) : Run P (st.map (·.key)) st [] (ready0 st) := by
  refine ⟨rfl, B.nd, B.su, B.inn, fun k _ _ => ?_, ?_, fun k => ?_, fun e _ h => nomatch h⟩
  · rw [B.np]; simp
  · unfold ready0
    exact List.Nodup.sublist (List.Sublist.map _ List.filter_sublist) B.nd
  · have h0 : npOf st k = 0 ↔ ∀ e ∈ P, ¬ e.1 = k := by
      rw [B.np]
      have : P.countP (fun e => decide (e.1 = k)) = 0 ↔ ∀ e ∈ P, ¬ e.1 = k := by rw [List.countP_eq_zero]; simp
      exact Int.natCast_eq_zero.trans this
    have h1 : k ∈ ready0 st ↔ k ∈ st.map (·.key) ∧ npOf st k = 0 := by
      unfold ready0
      rw [List.mem_map]
      constructor
      · rintro ⟨r, hr, rfl⟩
        obtain ⟨hr1, hr2⟩ := List.mem_filter.mp hr
        refine ⟨List.mem_map_of_mem hr1, ?_⟩
        have e : st.find? (fun x => x.key = r.key) = some r := by
          have nd := B.nd
          clear B hr h0
          induction st with
          | nil => nomatch hr1
          | cons x st ih =>
            have nd' := List.nodup_cons.mp nd
            rcases List.mem_cons.mp hr1 with rfl | hr1
            · simp
            · rw [List.find?_cons_of_neg]
              · exact ih hr1 nd'.2
              · intro q
                exact nd'.1 (List.mem_map.mpr ⟨r, hr1, (by simpa using q : x.key = r.key).symm⟩)
        unfold npOf
        rw [e]
        simpa using hr2
      · rintro ⟨hk, hn⟩
        obtain ⟨r, e, hr, hrk⟩ := find_some hk
        refine ⟨r, List.mem_filter.mpr ⟨hr, ?_⟩, hrk⟩
        unfold npOf at hn
        rw [e] at hn
        simpa using hn
    rw [h1, h0]
    constructor
    · rintro ⟨h2, h3⟩
      exact ⟨h2, by simp, fun e he q => absurd q (h3 e he)⟩
    · rintro ⟨h2, _, h3⟩
      exact ⟨h2, fun e he q => nomatch h3 e he q⟩
theorem countP_split (P : List (κ × κ)) (k r : κ) (X : κ → Prop) [DecidablePred X] (hr : X r) : P.countP (fun e => decide (e.1 = k ∧ X e.2)) = P.countP (fun e => decide (e.1 = k ∧ e.2 = r)) + P.countP (fun e => decide (e.1 = k ∧ X e.2 ∧ e.2 ≠ r)) := by
  induction P with
  | nil => rfl
  | cons e P ih =>
    simp only [List.countP_cons, ih]
    by_cases h1 : e.1 = k
    · by_cases h2 : e.2 = r
      · simp [h1, h2, hr]; omega
      · simp [h1, h2]; omega
    · simp [h1]
theorem count_succ (P : List (κ × κ)) (k r : κ) : ((P.filter (fun e => e.2 = r)).map (·.1)).count k = P.countP (fun e => decide (e.1 = k ∧ e.2 = r)) := by
  rw [List.count, List.countP_map, List.countP_filter]
  apply List.countP_congr
  intro e _
  simp [beq_iff_eq]

theorem Run.mid {P : List (κ × κ)} {K H : List κ} {R : List κ} (inn : ∀ e ∈ P, e.1 ∈ K ∧ e.2 ∈ K) (closed : ∀ e ∈ P, e.1 ∈ H → e.2 ∈ H) :
    ∀ {R2 R1 : List κ} {st : List (NI κ)} {Q : List κ}, st.map (·.key) = K → (∀ p, succOf st p = (P.filter (fun e => e.2 = p)).map (·.1)) →
    (R1 ++ R2).Nodup → (∀ k ∈ R1 ++ R2, k ∈ K ∧ k ∉ H ∧ ∀ e ∈ P, e.1 = k → e.2 ∈ H) →
    (∀ k ∈ K, k ∉ H → k ∉ R1 ++ R2 → npOf st k = (P.countP (fun e => e.1 = k ∧ e.2 ∉ H ∧ e.2 ∉ R1) : Nat)) → (∀ k ∈ R2, npOf st k = -1) → Q.Nodup →
    (∀ k, k ∈ Q ↔ k ∈ K ∧ k ∉ H ∧ k ∉ R1 ++ R2 ∧ ((∀ e ∈ P, e.1 = k → e.2 ∈ H ∨ e.2 ∈ R1) ∧ ∃ e ∈ P, e.1 = k ∧ e.2 ∈ R1)) →
    DoneOk (st, Q) R2 ∧ (R2.foldl done1 (st, Q)).1.map (·.key) = K ∧ (∀ p, succOf (R2.foldl done1 (st, Q)).1 p = (P.filter (fun e => e.2 = p)).map (·.1)) ∧
      (∀ k ∈ K, k ∉ H → k ∉ R1 ++ R2 → npOf (R2.foldl done1 (st, Q)).1 k = (P.countP (fun e => e.1 = k ∧ e.2 ∉ H ∧ e.2 ∉ R1 ++ R2) : Nat)) ∧ (R2.foldl done1 (st, Q)).2.Nodup ∧
      (∀ k, k ∈ (R2.foldl done1 (st, Q)).2 ↔ k ∈ K ∧ k ∉ H ∧ k ∉ R1 ++ R2 ∧ ((∀ e ∈ P, e.1 = k → e.2 ∈ H ∨ e.2 ∈ R1 ++ R2) ∧ ∃ e ∈ P, e.1 = k ∧ e.2 ∈ R1 ++ R2))
  | [], R1, st, Q, hk, su, nd, hR, np, nr, qn, qm => by
    rw [List.append_nil] at *
    exact ⟨trivial, hk, su, np, qn, qm⟩
  | r :: R2, R1, st, Q, hk, su, nd, hR, np, nr, qn, qm => by
    obtain ⟨rK, rH, rN⟩ := hR r (by simp)
    have rst : r ∈ st.map (·.key) := by rw [hk]; exact rK
    have nd1 := List.nodup_append.mp nd
    have rR1 : r ∉ R1 := fun q => nd1.2.2 r q r (.head _) rfl
    have nd2 := List.nodup_cons.mp nd1.2.1
    -- who waits for r
    have tgt : ∀ s ∈ (P.filter (fun e => e.2 = r)).map (·.1), s ∈ K ∧ s ∉ H ∧ s ∉ R1 ++ r :: R2 := fun s hs => by
      obtain ⟨e, he, rfl⟩ := List.mem_map.mp hs
      obtain ⟨heP, hr⟩ := List.mem_filter.mp he
      have hr : e.2 = r := by simpa using hr
      refine ⟨(inn e heP).1, fun q => rH (hr ▸ closed e heP q), fun q => ?_⟩
      exact rH (hr ▸ (hR _ q).2.2 e heP rfl)
    have hsplit : ∀ k, (P.countP (fun e => e.1 = k ∧ e.2 ∉ H ∧ e.2 ∉ R1)) = ((P.filter (fun e => e.2 = r)).map (·.1)).count k + P.countP (fun e => e.1 = k ∧ e.2 ∉ H ∧ e.2 ∉ R1 ++ [r]) := fun k => by
      rw [count_succ, countP_split P k r (fun x => x ∉ H ∧ x ∉ R1) ⟨rH, rR1⟩]
      congr 1
      apply List.countP_congr
      intro e _
      simp [and_assoc]
    have su1 : ∀ p, succOf (setNp (-2) st r) p = (P.filter (fun e => e.2 = p)).map (·.1) := fun p => (succOf_setNp p rst).trans (su p)
    have hcnt : ∀ k ∈ (P.filter (fun e => e.2 = r)).map (·.1), npOf (setNp (-2) st r) k = npOf st k ∧ npOf st k = (P.countP (fun e => e.1 = k ∧ e.2 ∉ H ∧ e.2 ∉ R1) : Nat) := fun k hk' => by
      obtain ⟨t1, t2, t3⟩ := tgt k hk'
      have hne : ¬ k = r := fun q => t3 (by rw [q]; simp)
      exact ⟨by rw [npOf_setNp k rst, if_neg hne], np k t1 t2 t3⟩
    obtain ⟨a1, a2, a3, a4⟩ := decrs (L := (P.filter (fun e => e.2 = r)).map (·.1)) (st := setNp (-2) st r) (Q := Q) (fun k h => by rw [keys_setNp, hk]; exact (tgt k h).1)
      (fun k h => by
        rw [(hcnt k h).1, (hcnt k h).2, hsplit k]; omega)
      (fun k h q => by
        obtain ⟨_, _, _, q1, _⟩ := (qm k).mp q
        obtain ⟨e, he, rfl⟩ := List.mem_map.mp h
        obtain ⟨heP, hr⟩ := List.mem_filter.mp he
        have hr : e.2 = r := by simpa using hr
        rcases q1 e heP rfl with h' | h'
        · exact rH (hr ▸ h')
        · exact rR1 (hr ▸ h')) qn
    have hd1 : done1 (st, Q) r = ((P.filter (fun e => e.2 = r)).map (·.1)).foldl decr (setNp (-2) st r, Q) := by
      show (succOf st r).foldl decr _ = _
      rw [su]
    have hk1 : (done1 (st, Q) r).1.map (·.key) = K := by rw [hd1, keys_decrs, keys_setNp, hk]
    have app : R1 ++ r :: R2 = (R1 ++ [r]) ++ R2 := by simp
    have ih := Run.mid inn closed (R := R) (R2 := R2) (R1 := R1 ++ [r]) (st := (done1 (st, Q) r).1) (Q := (done1 (st, Q) r).2) hk1 (fun p => by rw [hd1, a2, su1]) (by rw [← app]; exact nd) (by rw [← app]; exact hR)
      (fun k kK kH kR => by
        rw [← app] at kR
        have hne : ¬ k = r := fun q => kR (by rw [q]; simp)
        rw [hd1, a1, npOf_setNp k rst, if_neg hne, np k kK kH kR, hsplit k]
        omega)
      (fun k hk2 => by
        have hkR : k ∈ R1 ++ r :: R2 := by simp [hk2]
        have h0 : ((P.filter (fun e => e.2 = r)).map (·.1)).count k = 0 := List.count_eq_zero.mpr fun q => (tgt k q).2.2 hkR
        have hne : ¬ k = r := fun q => nd2.1 (q ▸ hk2)
        rw [hd1, a1, npOf_setNp k rst, if_neg hne, h0, nr k (.tail _ hk2)]; rfl)
      (by rw [hd1]; exact a3)
      (fun k => by
        rw [hd1, a4, ← app, qm k]
        constructor
        · rintro (⟨q1, q2, q3, q4, q5⟩ | ⟨q1, q2⟩)
          · refine ⟨q1, q2, q3, fun e he q => (q4 e he q).imp_right fun h => List.mem_append_left _ h, ?_⟩
            obtain ⟨e, he, q, h⟩ := q5
            exact ⟨e, he, q, List.mem_append_left _ h⟩
          · obtain ⟨t1, t2, t3⟩ := tgt k q1
            refine ⟨t1, t2, t3, fun e he q => ?_, ?_⟩
            · rw [(hcnt k q1).1, (hcnt k q1).2, hsplit k] at q2
              have h0 : P.countP (fun e => decide (e.1 = k ∧ e.2 ∉ H ∧ e.2 ∉ R1 ++ [r])) = 0 := by omega
              have := List.countP_eq_zero.mp h0 e he
              simp only [decide_eq_true_eq, not_and, q, true_implies] at this
              by_cases h1 : e.2 ∈ H
              · exact .inl h1
              · exact .inr (Decidable.not_not.mp (this h1))
            · obtain ⟨e, he, q⟩ := List.mem_map.mp q1
              obtain ⟨heP, hr⟩ := List.mem_filter.mp he
              exact ⟨e, heP, q, by simp [(by simpa using hr : e.2 = r)]⟩
        · rintro ⟨q1, q2, q3, q4, q5⟩
          by_cases hx : k ∈ (P.filter (fun e => e.2 = r)).map (·.1)
          · refine .inr ⟨hx, ?_⟩
            rw [(hcnt k hx).1, (hcnt k hx).2, hsplit k]
            have h0 : P.countP (fun e => decide (e.1 = k ∧ e.2 ∉ H ∧ e.2 ∉ R1 ++ [r])) = 0 := by
              rw [List.countP_eq_zero]
              intro e he q
              have q' : e.1 = k ∧ e.2 ∉ H ∧ e.2 ∉ R1 ++ [r] := by simpa using q
              rcases q4 e he q'.1 with h | h
              · exact q'.2.1 h
              · exact q'.2.2 h
            omega
          · have hno : ∀ e ∈ P, e.1 = k → e.2 ≠ r := fun e he q h => hx (List.mem_map.mpr ⟨e, List.mem_filter.mpr ⟨he, by simpa using h⟩, q⟩)
            refine .inl ⟨q1, q2, q3, fun e he q => ?_, ?_⟩
            · rcases q4 e he q with h | h
              · exact .inl h
              · rcases List.mem_append.mp h with h | h
                · exact .inr h
                · exact absurd (List.mem_singleton.mp h) (hno e he q)
            · obtain ⟨e, he, q, h⟩ := q5
              rcases List.mem_append.mp h with h | h
              · exact ⟨e, he, q, h⟩
              · exact absurd (List.mem_singleton.mp h) (hno e he q))
    rw [← app] at ih
    obtain ⟨b1, b2, b3, b4, b5, b6⟩ := ih
    have hstep : (r :: R2).foldl done1 (st, Q) = R2.foldl done1 ((done1 (st, Q) r).1, (done1 (st, Q) r).2) := rfl
    rw [hstep]
    refine ⟨⟨rst, nr r (.head _), fun s hs => ?_, b1⟩, b2, b3, b4, b5, b6⟩
    show s ∈ st.map (·.key)
    rw [hk]
    rw [show succOf (st, Q).1 r = _ from su r] at hs
    exact (tgt s hs).1
theorem Run.step {P : List (κ × κ)} {K H R : List κ} {st : List (NI κ)} (x : Run P K st H R) :
    DoneOk (R.foldl (setNp (-1)) st, []) R ∧ Run P K (R.foldl done1 (R.foldl (setNp (-1)) st, [])).1 (H ++ R) (R.foldl done1 (R.foldl (setNp (-1)) st, [])).2 := by
  have hRK : ∀ k ∈ R, k ∈ st.map (·.key) := fun k hk => by rw [x.keys]; exact ((x.rm k).mp hk).1
  obtain ⟨s1, s2⟩ := setNps (v := -1) hRK
  obtain ⟨b1, b2, b3, b4, b5, b6⟩ := Run.mid (R := R) x.inn x.closed (R2 := R) (R1 := []) (st := R.foldl (setNp (-1)) st) (Q := []) (by rw [keys_setNps, x.keys]) (fun p => (s2 p).trans (x.su p)) (by simpa using x.rn)
    (fun k hk => (x.rm k).mp (by simpa using hk))
    (fun k kK kH kR => by
      rw [List.nil_append] at kR
      rw [s1, if_neg kR, x.np k kK kH]
      congr 1
      apply List.countP_congr
      intro e _
      simp)
    (fun k hk => by rw [s1, if_pos hk]) List.nodup_nil
    (fun k => by simp)
  simp only [List.nil_append] at b4 b6
  refine ⟨b1, b2, x.nd, b3, x.inn, fun k kK kH => ?_, b5, fun k => ?_, fun e he h => ?_⟩
  · have h1 : k ∉ H := fun q => kH (List.mem_append_left _ q)
    have h2 : k ∉ R := fun q => kH (List.mem_append_right _ q)
    rw [b4 k kK h1 h2]
    congr 1
    apply List.countP_congr
    intro e _
    simp
  · rw [b6]
    simp only [List.mem_append, not_or]
    constructor
    · rintro ⟨q1, q2, q3, q4, _⟩
      exact ⟨q1, ⟨q2, q3⟩, q4⟩
    · rintro ⟨q1, ⟨q2, q3⟩, q4⟩
      refine ⟨q1, q2, q3, q4, ?_⟩
      -- not ready before: some need is not in H
      have : ¬ ∀ e ∈ P, e.1 = k → e.2 ∈ H := fun q => q3 ((x.rm k).mpr ⟨q1, q2, q⟩)
      obtain ⟨e, he⟩ := Classical.not_forall.mp this
      obtain ⟨heP, he⟩ := Classical.not_forall.mp he
      obtain ⟨hek, heH⟩ := Classical.not_forall.mp he
      exact ⟨e, heP, hek, (q4 e heP hek).resolve_left heH⟩
  · rcases List.mem_append.mp h with h | h
    · exact List.mem_append_left _ (x.closed e he h)
    · exact List.mem_append_left _ (((x.rm _).mp h).2.2 e he rfl)

end

def ed : List Nat → List Nat → Int
  | [], ys => 2 * ys.length
  | x :: xs, [] => 2 * (xs.length + 1)
  | x :: xs, y :: ys => min (min (ed xs (y :: ys) + 2) (ed (x :: xs) ys + 2)) (ed xs ys + subC x y)
termination_by xs ys => xs.length + ys.length
def rowOf (b : List Nat) : List Nat → List Nat → List Int
  | _, [] => []
  | apre, x :: xs => ed (apre ++ [x]) b :: rowOf b (apre ++ [x]) xs
theorem SOk.mono {prog : Program} {w : World} {κ : Type} [DecidableEq κ] {knd : KeyKind prog w κ} {S : Srt} {rows : List (Row κ)} {c c' : Nat} (h : SOk knd S rows c) (hc : c ≤ c') : SOk knd S rows c' :=
  ⟨h.dic, h.sys, h.rok, Nat.le_trans h.len hc, fun r hr => Nat.le_trans (h.suc r hr) hc⟩
theorem Sub.append_left {l l' : Led} (h : Sub l l') (X : Led) : Sub l (X ++ l') := by
  obtain ⟨g, e⟩ := h
  refine ⟨X ++ g, ?_⟩
  exact (List.perm_append_comm_assoc l X g).trans (e.append_left X)
theorem sled_sub (w : World) (S : Srt) (C : Led) {X X' : Led} (h : Sub X X') : Sub (sled w S (C ++ X)) (sled w S (C ++ X')) := by
  obtain ⟨g, e⟩ := h
  refine ⟨g, ?_⟩
  have := e.append_left ([(S.sA, insO 151 S.sD #[]), (S.sD, dictOf (S.es w) 4), (S.dA, S.oD)] ++ C)
  simpa using this
theorem sled_ins (w : World) (S : Srt) (C l X : Led) : (X ++ sled w S (C ++ l)).Perm (sled w S (C ++ (X ++ l))) :=
  (List.perm_append_comm_assoc X ([(S.sA, insO 151 S.sD #[]), (S.sD, dictOf (S.es w) 4), (S.dA, S.oD)] ++ C) l).trans (by simp)
theorem Built.hin {κ : Type} [DecidableEq κ] {st : List (NI κ)} {P : List (κ × κ)} (B : Built st P) : ∀ r ∈ st, ∀ u ∈ r.succ, u ∈ st.map (·.key) := fun r hr u hu => by
  rw [← succOf_mem B.nd hr, B.su] at hu
  obtain ⟨e, he, rfl⟩ := List.mem_map.mp hu
  exact (B.inn e (List.mem_filter.mp he).1).1

section
variable {prog : Program} {w : World} {a : Act} {m : Loc} {l : Led} {env : Env} {Q : VQ}
theorem Tri.storeC {cn : Str} {cs : Scope} {fa : Addr} {ccd : Value} {cl : List (Str × Addr)} {x : Str} {v : Value} {c : Addr} {o : Obj} {v₀ : Option Value} {l' : Obj → Led} {Q : Unit → Loc → Led → Prop} (hc : cl.lookup x = some c) (U : ∀ o', Put c o o' l (l' o')) (hd : o.data = .cell v₀)
    (h : ∀ o', o'.data = .cell (some v) → Q () m (l' o')) (hk : cs.kind = .function := by rfl) (hx : (envX cn cs a.L fa ccd cl).kindOf x = some .cell := by rfl) :
    Tri prog w a m l (storeName (envX cn cs a.L fa ccd cl) x v) Q :=
  ⟨fun E s R gF iF F N D k => wpAny_storeName_cell hk hx hc ⟨o, (N _ (U o).mem).1, hd⟩ fun h' hv hs => by
    obtain ⟨o', ho', hd'⟩ := hv
    exact k _ _ _ h' _ _ iF (fr_put F N (U o') hs) (news_put N D (U o') hs ho') ((U o').nd D) (h o' hd')⟩
end

theorem cells_fst {cm : Str → Option Value} {cs : List (Str × Addr)} {cells : Led} (h : CellsAre cm cs cells) : cells.map Prod.fst = cs.map (·.2) := by
  induction h with
  | nil => rfl
  | cons _ _ ih => simp [ih]
section
variable {prog : Program} {w : World} {K : Frag} {p : Program} {loose : List Str} {mean : ExcName → Option Value} {mg mb : Str → Option Value} {a : Act} {env : Env} {n : Nat} {m : Loc} {l : Led}

theorem Tri.callFnC {Q : VQ} {name qual : Str} {params : Arguments} {body : List Stmt} {scope : Scope} {dV kV doc pm cdv ct oc : Value} {an od : Option Addr} {osl : Array (Option Value)} {f : Addr} {args : List Value} {binds : List (Str × Value)}
    (ok : Ok K p loose mean mg mb a env (n + 1)) (ho : K.lookup f = some ⟨oc, od, .func (fnOf name qual params body scope dV kV doc pm an cdv ct), osl⟩) (hcd : codeIn K cdv qual = true)
    (hbind : ∀ s : Shared, K.In s.heap → BindsTo s (fnOf name qual params body scope dV kV doc pm an cdv ct) ⟨args, []⟩ binds)
    (hkind : ∀ n, ∀ x ∈ binds, scope.names.lookup x.1 = some .local ∨ (scope.names.lookup x.1 = some .cell ∧ ((cellsFrom n scope.names []).lookup x.1).isSome = true))
    (hnd : ((cellsFrom 0 scope.names []).map (·.1)).Nodup)
    (h : ∀ (b : Act) (cells : Led), b.base = a.base → Ok K p loose mean mg mb b (envX qual scope b.L f cdv (cellsFrom (b.L + 1) scope.names [])) n →
      CellsAre (bindC (envX qual scope b.L f cdv (cellsFrom (b.L + 1) scope.names [])).kindOf binds fun _ => none) (cellsFrom (b.L + 1) scope.names []) cells →
      Tri prog w b (bindL (envX qual scope b.L f cdv (cellsFrom (b.L + 1) scope.names [])).kindOf binds fun _ => none) (cells ++ l) (execs body (envX qual scope b.L f cdv (cellsFrom (b.L + 1) scope.names []))) fun fl _ l' => ∃ l'', Sub l'' l' ∧ Q (match fl with | .ret v => v | _ => .none) m l'')
    (hco : scope.isCoroutine = false) (hgen : scope.isGenerator = false) (hk : scope.kind = .function) : Tri prog w a m l (call (.ref f) args) Q := by
  refine ⟨fun E s R gF iF F N D k => ?_⟩
  have room : a.A.depth < recursionLimit := Nat.lt_of_le_of_lt (Nat.le_add_right _ _) ok.room
  have X : K.In s.heap := (ok.kin.keeps iF.stays).keeps F.keep
  refine wpAny_call (codeAny_call_function (fd := fnOf name qual params body scope dV kV doc pm an cdv ct) (body := body) room (X _ _ ho) rfl hco hgen rfl (codeRec_of X hcd) (hbind s X _ _ _ _ ?_))
  obtain ⟨A₀, outer, B, hfr, hfs⟩ := ok.below
  have B' := iF.belowAt B
  obtain ⟨FG, BG, st, _⟩ := groundX (R := fun _ _ => True) (A := a.A) B' F N hfr ok.frame ok.kind
  have hlim : gF.NoLimit := (ok.top.keeps iF.stays).nolimit
  refine wpAny_newFunctionEnv_cells hk (hkind _) fun env' he s' x => ?_
  subst he
  refine ⟨(hlim.keeps F.keep).keeps x.toInCall.keep, codeAny_func ?_⟩
  obtain ⟨h₁, tk, rfl, _⟩ := x.done
  have hk₁ : ∀ b o, s.heap.get? b = some o → h₁.get? b = some o := x.toInCall.keep
  have habove := x.above
  have hapart := x.apart
  obtain ⟨cells, NC, Y⟩ := Cl.news (h₀ := s.heap) (h := h₁) (L := s.heap.objs.size) (cm := bindC (envX qual scope s.heap.objs.size f cdv (cellsFrom (s.heap.objs.size + 1) scope.names [])).kindOf binds fun _ => none) (Nat.le_refl _) (cs := cellsFrom (s.heap.objs.size + 1) scope.names []) fun n c hm =>
    ⟨x.cell n c (lookup_of_mem_nodup (cellsFrom_names scope.names 0 (s.heap.objs.size + 1) [] [] rfl ▸ hnd) hm), x.above n c hm⟩
  have hff : a.L :: a.fs = (env :: outer).filterMap (·.frame) := by rw [List.filterMap_cons, ok.frame, hfs]
  have hdic : KtsDicts (a.L :: a.fs) (hideAll s.heap (l.map (·.1))) := by
    intro b hb
    rcases List.mem_cons.mp hb with rfl | hb
    · obtain ⟨oL, es, ep, hL, hLd, _, _⟩ := FG.ns
      exact ⟨oL, es, ep, hL, hLd⟩
    · obtain ⟨o, es, n', ho, hd⟩ := ok.dicts.turn iF.turn b hb
      exact ⟨o, es, n', st _ _ ho, hd⟩
  have FL : Fr (hideAll s.heap (l.map (·.1))) s.heap.objs.size h₁ (bindL (envX qual scope s.heap.objs.size f cdv (cellsFrom (s.heap.objs.size + 1) scope.names [])).kindOf binds fun _ => none) :=
    ⟨x.toInCall.ns, fun b o e => hk₁ b o (of_hideAll _ e), Nat.le_of_eq (hideAll_size _ _)⟩
  have NL : News (hideAll s.heap (l.map (·.1))) s.heap.objs.size h₁ (cells ++ l) := fun p hp => by
    rcases List.mem_append.mp hp with hp | hp
    · refine ⟨(NC p hp).1, (NC p hp).2.1, ?_⟩
      cases q : (hideAll s.heap (l.map (·.1))).get? p.1 with
      | none => rfl
      | some o => have := of_hideAll _ q; rw [(NC p hp).2.2] at this; cases this
    · exact ⟨hk₁ _ _ (N p hp).1, Nat.ne_of_lt (Heap.lt_size (N p hp).1), hideAll_none _ (List.mem_map_of_mem hp)⟩
  have DL : ND (cells ++ l) := by
    unfold ND
    rw [List.map_append, cells_fst Y, List.nodup_append]
    refine ⟨?_, D, fun x hx y hy e => ?_⟩
    · show List.Pairwise _ _
      rw [List.pairwise_map]
      exact hapart
    · obtain ⟨q, hq, rfl⟩ := List.mem_map.mp hx
      obtain ⟨r, hr, rfl⟩ := List.mem_map.mp hy
      have h1 := habove q.1 q.2 hq
      have h2 := Heap.lt_size (N r hr).1
      have h3 : s.heap.objs.size < q.2 := h1
      rw [e] at h3
      exact absurd h3 (Nat.not_lt.mpr (Nat.le_of_lt h2))
  have ok' : Ok K p loose mean mg mb (⟨a.A.deeper (envX qual scope s.heap.objs.size f cdv (cellsFrom (s.heap.objs.size + 1) scope.names [])), hideAll s.heap (l.map (·.1)), s.heap.objs.size, a.L :: a.fs, a.base⟩ : Act) (envX qual scope s.heap.objs.size f cdv (cellsFrom (s.heap.objs.size + 1) scope.names [])) n :=
    ⟨⟨a.A, env :: outer, BG, by show Option.map _ a.A.frames = _; rw [hfr]; rfl, hff⟩, hdic, ok.kin, ok.top, rfl, hk, ok.handled, by have := ok.room; show a.A.depth + 1 + n < _; omega, by have := ok.units; show a.A.units + 3 + 8 * n + 128 < _; omega⟩
  refine (h (⟨a.A.deeper (envX qual scope s.heap.objs.size f cdv (cellsFrom (s.heap.objs.size + 1) scope.names [])), hideAll s.heap (l.map (·.1)), s.heap.objs.size, a.L :: a.fs, a.base⟩ : Act) cells rfl ok' Y).run _ _ _ _ (⟨.refl, BG.stays⟩) FL NL DL fun fl m' l' h' tk' gF' iF' F' N' D' q => ?_
  obtain ⟨l'', hs, q⟩ := q
  obtain ⟨g', t', F'', N''⟩ := leaveT iF B hfs F N iF'.turn F' (fun p hp => N' p (hs.mem p hp))
  exact k _ _ _ _ _ _ t' F'' N'' (hs.nd D') q
end

local macro_rules | `(tactic| walk_at "w4") => `(tactic| first
  | ((with_reducible show Tri _ _ _ _ _ (PySem.eval (Expr.Name _ _) (envX _ _ _ _ _ _)) _); (refine' Tri.nameC ?hc ?hm ?hd ?_ ?hk ?hx ?hb; (case hx => with_unfolding_all rfl); (case hk => rfl); (case hb => decide); (case hc => with_unfolding_all rfl); (case hm => walk_at "mem"); (case hd => assumption)))
  | ((with_reducible show gName); (refine' Tri.nameCG ?hc ?hm ?hd ?_ ?hk ?hx; (case hx => with_unfolding_all rfl); (case hk => rfl); (case hc => with_unfolding_all rfl); (case hm => walk_at "mem"); (case hd => assumption)))
  | ((with_reducible show Tri _ _ _ _ _ (PySem.call (Value.type "type") [Value.int _ _]) _); refine Tri.type_int ?_)
  | with_reducible refine Tri.isNot_same ?_
  | walk_at "w2")

theorem top_run {prog : Program} {w : World} {K : Frag} {p : Program} {loose : List Str} {mean : ExcName → Option Value} {mg mb : Str → Option Value} {env : Env} {L : Addr} {s₁ : Shared} {h1 : Heap} {tk1 : Nat} {m : Loc} {l : Led} {t : Sem Flow} {R : Flow → Shared → Prop} {E : Value → Shared → Prop}
    (KX : K.In s₁.heap) (TT : Top p loose mean mg mb s₁.heap) (K0 : Below callerA s₁.heap [] s₁.heap) (henv : env.frame = some L) (hk : env.scope.kind = .function) (F0 : Fr s₁.heap L h1 m) (N0 : News s₁.heap L h1 l) (D : ND l)
    (tri : ∀ b : Act, b.L = L → b.base = s₁.heap → Ok K p loose mean mg mb b env 20 → Tri prog w b m l t fun f _ _ => f = .ret (.bool true))
    (hR : ∀ h' tk' m', Fr s₁.heap L h' m' → R (.ret (.bool true)) { s₁ with heap := h', toks := tk' }) :
    wpAny (model prog w) (callerA.deeper env) t R E { s₁ with heap := h1, toks := tk1 } := by
  have T0 : Turned ⟨callerA.deeper env, s₁.heap, L, [], s₁.heap⟩ s₁.heap := ⟨.refl, fun _ _ e => e⟩
  refine (tri ⟨callerA.deeper env, s₁.heap, L, [], s₁.heap⟩ rfl rfl ⟨⟨callerA, [], K0, Around.frames_deeper K0.stack, rfl⟩, (fun b hb => nomatch hb), KX, TT, henv, hk, rfl, (show callerA.depth + 1 + 20 < recursionLimit by decide), (show callerA.units + 3 + 8 * 20 + 128 < cLine by decide)⟩).run E _ R s₁.heap T0 F0 N0 D fun f m' l' h' tk' g' i' F' N' D' q => ?_
  subst q
  refine hR h' tk' m' ⟨F'.ns, fun b o e => F'.keep b o (i'.turn.other b o e (fun z => nomatch z)), ?_⟩
  have := F'.above
  rw [i'.turn.size] at this
  exact this
theorem Tri.loc {prog : Program} {w : World} {a : Act} {m m' : Loc} {l : Led} {α : Type} {t : Sem α} {Q : α → Loc → Led → Prop} (e : m = m') (h : Tri prog w a m' l t Q) : Tri prog w a m l t Q := e ▸ h

theorem canLay_map {α : Type} (g : α → PyData) (h : ∀ q, (g q).canLay0 = true) : ∀ l : List α, PyData.canLayAll0 (l.map g) = true
  | [] => rfl
  | x :: l => by simp only [List.map_cons, PyData.canLayAll0, h x, canLay_map g h l, Bool.and_self]
theorem depth_map {α : Type} (g : α → PyData) (n : Nat) (h : ∀ q, (g q).depth ≤ n) : ∀ l : List α, PyData.depthAll (l.map g) ≤ n
  | [] => by simp [PyData.depthAll]
  | x :: l => by
    have h1 := h x
    have h2 := depth_map g n h l
    simp only [List.map_cons, PyData.depthAll]; omega
theorem shaped_of {d : PyData} (h : d.canLay0 = true) (h2 : d.depth ≤ 64) : SeqAt.shaped d = true := by
  unfold SeqAt.shaped
  rw [h]; simpa using h2
theorem canLay_list {α : Type} (g : α → PyData) (h : ∀ q, (g q).canLay0 = true) (l : List α) : (PyData.list (l.map g)).canLay0 = true := by
  simp only [PyData.canLay0]; exact canLay_map g h l
theorem depth_list {α : Type} (g : α → PyData) (n : Nat) (h : ∀ q, (g q).depth ≤ n) (l : List α) : (PyData.list (l.map g)).depth ≤ n + 1 := by
  have := depth_map g n h l
  simp only [PyData.depth]; omega
open Spec (ltCps)
theorem ltCps_eq : ∀ x y : List Nat, ltCps x y = false → ltCps y x = false → x = y
  | [], [], _, _ => rfl
  | [], _ :: _, h, _ => nomatch h
  | _ :: _, [], _, h => nomatch h
  | a :: x, b :: y, h1, h2 => by
    simp only [ltCps, Bool.or_eq_false_iff, Bool.and_eq_false_iff, decide_eq_false_iff_not, beq_eq_false_iff_ne] at h1 h2
    have e : a = b := by omega
    subst e
    rw [ltCps_eq x y (h1.2.resolve_left fun q => q rfl) (h2.2.resolve_left fun q => q rfl)]
theorem ltCps_trans : ∀ x y z : List Nat, ltCps y x = false → ltCps z y = false → ltCps z x = false
  | [], y, [], _, _ => rfl
  | [], y, _ :: _, _, _ => rfl
  | _ :: _, [], [], h, _ => nomatch h
  | _ :: _, _ :: _, [], _, h => nomatch h
  | _ :: _, [], _ :: _, h, _ => nomatch h
  | a :: x, b :: y, c :: z, h1, h2 => by
    simp only [ltCps, Bool.or_eq_false_iff, Bool.and_eq_false_iff, decide_eq_false_iff_not, beq_eq_false_iff_ne] at h1 h2 ⊢
    refine ⟨by omega, ?_⟩
    by_cases e : c = a
    · right
      have e1 : b = a := by omega
      exact ltCps_trans x y z (h1.2.resolve_left fun q => q e1) (h2.2.resolve_left fun q => q (by omega))
    · exact .inl e
abbrev leS (a b : Str) : Prop := ltCps b.cps.toList a.cps.toList = false
theorem rising_pw : ∀ (ss : List Str) (p : Str), risingS p ss = true → (p :: ss).Pairwise leS
  | [], p, _ => by simp
  | x :: r, p, h => by
    simp only [risingS, Bool.and_eq_true, Bool.not_eq_true'] at h
    have ih := rising_pw r x h.2
    refine List.pairwise_cons.mpr ⟨fun y hy => ?_, ih⟩
    rcases List.mem_cons.mp hy with rfl | hy
    · exact h.1
    · exact ltCps_trans _ _ _ h.1 ((List.pairwise_cons.mp ih).1 y hy)
theorem sortedS_pw : ∀ {ss : List Str}, sortedS ss = true → ss.Pairwise leS
  | [], _ => .nil
  | x :: r, h => rising_pw r x h
theorem sortedS_unique {a b : List Str} (hp : a.Perm b) (ha : sortedS a = true) (hb : sortedS b = true) : a = b :=
  List.Perm.eq_of_pairwise (fun x y _ _ h1 h2 => by
    have := ltCps_eq _ _ h2 h1
    cases x; cases y
    simp only [Str.mk.injEq]
    exact Array.toList_inj.mp this) (sortedS_pw ha) (sortedS_pw hb) hp

section
variable {κ : Type} [DecidableEq κ]
def later (P : List (κ × κ)) (now : List κ) : List κ := (P.filter fun e => e.1 ∈ now).map (·.2)
theorem mem_later {P : List (κ × κ)} {now : List κ} {k : κ} : k ∈ later P now ↔ ∃ e ∈ P, e.1 ∈ now ∧ e.2 = k := by
  unfold later
  simp only [List.mem_map, List.mem_filter, decide_eq_true_eq, and_assoc]
def fresh (P : List (κ × κ)) (now : List κ) : List κ := now.filter fun k => !(later P now).contains k
def after (P : List (κ × κ)) (now : List κ) : List κ := now.filter fun k => (later P now).contains k
theorem fresh_perm {P : List (κ × κ)} {a b : List κ} (h : a.Perm b) : (fresh P a).Perm (fresh P b) := by
  unfold fresh
  have : (fun k => !(later P a).contains k) = fun k => !(later P b).contains k := by
    funext k
    congr 1
    rw [Bool.eq_iff_iff, List.contains_iff_mem, List.contains_iff_mem, mem_later, mem_later]
    simp only [h.mem_iff]
  rw [this]; exact h.filter _
theorem after_perm {P : List (κ × κ)} {a b : List κ} (h : a.Perm b) : (after P a).Perm (after P b) := by
  unfold after
  have : (fun k => (later P a).contains k) = fun k => (later P b).contains k := by
    funext k
    rw [Bool.eq_iff_iff, List.contains_iff_mem, List.contains_iff_mem, mem_later, mem_later]
    simp only [h.mem_iff]
  rw [this]; exact h.filter _

theorem fresh_ne {P : List (κ × κ)} (rho : κ → Nat) (hr : ∀ e ∈ P, rho e.1 < rho e.2) {now : List κ} (hn : now ≠ []) : fresh P now ≠ [] := by
  have key : ∀ N, ∀ k ∈ now, rho k < N → ∃ k' ∈ now, k' ∉ later P now := by
    intro N
    induction N with
    | zero => intro k _ h; exact absurd h (Nat.not_lt_zero _)
    | succ N ih =>
      intro k hk h
      by_cases c : k ∈ later P now
      · obtain ⟨e, he, h1, rfl⟩ := mem_later.mp c
        exact ih _ h1 (by have := hr e he; omega)
      · exact ⟨k, hk, c⟩
  obtain ⟨k, hk⟩ := List.exists_mem_of_ne_nil _ hn
  obtain ⟨k', h1, h2⟩ := key _ k hk (Nat.lt_succ_self _)
  exact List.ne_nil_of_mem (List.mem_filter.mpr ⟨h1, by simpa using h2⟩)
end
inductive Lv (P : List (Str × Str)) : List Str → List (List Str) → Prop
  | nil : Lv P [] []
  | step {now fr : List Str} {rs : List (List Str)} : now ≠ [] → fr.Perm (fresh P now) → sortedS fr = true → Lv P (after P now) rs → Lv P now (fr :: rs)
theorem Run.left {κ : Type} [DecidableEq κ] {P : List (κ × κ)} {K H R now : List κ} {st : List (NI κ)} (x : Run (P.map fun e => (e.2, e.1)) K st H R) (hn : now.Nodup) (hm : ∀ k, k ∈ now ↔ k ∈ K ∧ k ∉ H) :
    R.Perm (fresh P now) ∧ (∀ k, k ∈ after P now ↔ k ∈ K ∧ k ∉ H ++ R) ∧ (after P now).Nodup := by
  have key : ∀ k, k ∈ R ↔ k ∈ now ∧ k ∉ later P now := by
    intro k
    rw [x.rm, hm]
    constructor
    · rintro ⟨h1, h2, h3⟩
      refine ⟨⟨h1, h2⟩, fun q => ?_⟩
      obtain ⟨e, he, he1, rfl⟩ := mem_later.mp q
      exact ((hm _).mp he1).2 (h3 (e.2, e.1) (List.mem_map.mpr ⟨e, he, rfl⟩) rfl)
    · rintro ⟨⟨h1, h2⟩, h3⟩
      refine ⟨h1, h2, fun e he he1 => ?_⟩
      obtain ⟨e', he', rfl⟩ := List.mem_map.mp he
      refine Classical.byContradiction fun q => h3 (mem_later.mpr ⟨e', he', (hm _).mpr ⟨(x.inn _ he).2, q⟩, he1⟩)
  refine ⟨?_, fun k => ?_, hn.filter _⟩
  · refine (List.perm_ext_iff_of_nodup x.rn (hn.filter _)).mpr fun k => ?_
    rw [key, List.mem_filter]
    simp
  · unfold after
    rw [List.mem_filter, List.contains_iff_mem, List.mem_append, key, hm]
    constructor
    · rintro ⟨⟨h1, h2⟩, h3⟩
      exact ⟨h1, fun q => q.elim h2 fun q => q.2 h3⟩
    · rintro ⟨h1, h2⟩
      have h3 : k ∉ H := fun q => h2 (.inl q)
      exact ⟨⟨h1, h3⟩, Classical.byContradiction fun q => h2 (.inr ⟨⟨h1, h3⟩, q⟩)⟩

inductive Lw (P : List (Str × Str)) : List Str → List (List Str) → List Str → Prop
  | stop {left : List Str} : fresh P left = [] → Lw P left [] left
  | step {left fr : List Str} {rs : List (List Str)} {rest : List Str} : fresh P left ≠ [] → fr.Perm (fresh P left) → sortedS fr = true → Lw P (after P left) rs rest → Lw P left (fr :: rs) rest
theorem Lw.unique {P : List (Str × Str)} {a : List Str} {r1 : List (List Str)} {e1 : List Str} (h : Lw P a r1 e1) : ∀ {b : List Str} {r2 : List (List Str)} {e2 : List Str}, a.Perm b → Lw P b r2 e2 → r1 = r2 ∧ e1.Perm e2 := by
  induction h with
  | stop hf =>
    intro b r2 e2 hp h2
    cases h2 with
    | stop _ => exact ⟨rfl, hp⟩
    | step hn => exact absurd (by have := fresh_perm (P := P) hp; rw [hf] at this; exact List.nil_perm.mp this) hn
  | step hn hp hs _ ih =>
    intro b r2 e2 hab h2
    cases h2 with
    | stop hf => exact absurd (by have := fresh_perm (P := P) hab; rw [hf] at this; exact this.eq_nil) hn
    | step hn2 hp2 hs2 h2 =>
      obtain ⟨h3, h4⟩ := ih (after_perm hab) h2
      exact ⟨by rw [sortedS_unique ((hp.trans (fresh_perm hab)).trans hp2.symm) hs hs2, h3], h4⟩
theorem Lw.ring {P : List (Str × Str)} {a : List Str} {rs : List (List Str)} {e C : List Str} (h : Lw P a rs e) (hC : ∀ k ∈ C, ∃ u ∈ C, (u, k) ∈ P) : (∀ k ∈ C, k ∈ a) → ∀ k ∈ C, k ∈ e := by
  induction h with
  | stop _ => exact fun h => h
  | step hn hp hs _ ih =>
    intro hs
    refine ih fun k hk => ?_
    obtain ⟨u, hu, hP⟩ := hC k hk
    refine List.mem_filter.mpr ⟨hs k hk, ?_⟩
    rw [List.contains_iff_mem, mem_later]
    exact ⟨(u, k), hP, hs u hu, rfl⟩
theorem Lw.none {P : List (Str × Str)} {a : List Str} {rs : List (List Str)} {e : List Str} (rho : Str → Nat) (hr : ∀ e ∈ P, rho e.1 < rho e.2) (h : Lw P a rs e) : e = [] := by
  induction h with
  | stop hf => exact Classical.byContradiction fun q => fresh_ne rho hr q hf
  | step _ _ _ _ ih => exact ih
theorem Lw.sub {P : List (Str × Str)} {a : List Str} {rs : List (List Str)} {e : List Str} (h : Lw P a rs e) : (∀ k ∈ e, k ∈ a) ∧ ∀ r ∈ rs, ∀ k ∈ r, k ∈ a := by
  induction h with
  | stop _ => exact ⟨fun _ h => h, fun _ h => nomatch h⟩
  | step hn hp hs _ ih =>
    refine ⟨fun k hk => (List.mem_filter.mp (ih.1 k hk)).1, fun r hr k hk => ?_⟩
    rcases List.mem_cons.mp hr with rfl | hr
    · exact (List.mem_filter.mp (hp.mem_iff.mp hk)).1
    · exact (List.mem_filter.mp (ih.2 r hr k hk)).1
theorem topo_closed {κ : Type} [DecidableEq κ] {succ : κ → List κ} : ∀ {F : List κ}, Topo succ F → ∀ {k u : κ}, k ∈ F → u ∈ succ k → u ∈ F
  | [], _, _, _, h, _ => nomatch h
  | x :: r, ⟨h1, h2, h3⟩, k, u, hk, hu => by
    rcases List.mem_cons.mp hk with rfl | hk
    · exact .tail _ (h1 u hu)
    · exact .tail _ (topo_closed h3 hk hu)

theorem Topo.rank {κ : Type} [DecidableEq κ] {succ : κ → List κ} : ∀ {F : List κ}, Topo succ F → ∃ rho : κ → Nat, (∀ k ∈ F, rho k ≤ F.length) ∧ ∀ k ∈ F, ∀ u ∈ succ k, rho k < rho u
  | [], _ => ⟨fun _ => 0, (fun _ h => nomatch h), (fun _ h => nomatch h)⟩
  | k :: r, ⟨h1, h2, h3⟩ => by
    obtain ⟨rho, g1, g2⟩ := Topo.rank h3
    refine ⟨fun x => if x = k then 0 else rho x + 1, fun x hx => ?_, fun x hx u hu => ?_⟩
    · dsimp only
      by_cases e : x = k
      · simp [e]
      · rw [if_neg e]
        have := g1 x ((List.mem_cons.mp hx).resolve_left e)
        simp; omega
    · dsimp only
      by_cases e : x = k
      · subst e
        have hne : u ≠ x := fun q => h2 (q ▸ h1 u hu)
        rw [if_pos rfl, if_neg hne]; omega
      · rw [if_neg e]
        have hxr := (List.mem_cons.mp hx).resolve_left e
        have := g2 x hxr u hu
        by_cases e2 : u = k
        · exact absurd e2 (fun q => by
            have := topo_closed h3 hxr hu
            exact h2 (q ▸ this))
        · rw [if_neg e2]; omega

def nmL : List (List Nat) := [[112, 105, 99, 107], [108, 111, 97, 100], [110, 101, 115, 116], [98, 117, 114, 103]]
def letter2 (c pl deed cap k : Nat) : List Nat :=
  if k = pl ∧ 0 < deed then (if deed = 1 then [] else if deed = 2 then 95 :: (if cap = 1 ∧ k = (pl + 1) % 4 then [c - 32] else [c]) else [95])
  else if cap = 1 ∧ k = (pl + 1) % 4 then [c - 32] else [c]
def misspelt (nm : List Nat) (pl deed cap : Nat) : List Nat := (List.range 4).flatMap fun k => letter2 (nm.getD k 0) pl deed cap k
def price2 (deed cap : Nat) : Int := cap + (if 0 < deed then 2 else 0)
theorem near_all : (List.range 4).all (fun x => (List.range 4).all fun pl => (List.range 4).all fun deed => (List.range 2).all fun cap => (List.range 4).all fun y =>
    if y = x then levPy (misspelt (nmL.getD x []) pl deed cap) (nmL.getD y []) 3 == price2 deed cap else decide (3 < levPy (misspelt (nmL.getD x []) pl deed cap) (nmL.getD y []) 3)) = true := by decide +kernel

structure TriE {α : Type} (prog : Program) (w : World) (a : Act) (m : Loc) (l : Led) (t : Sem α) (Q : α → Loc → Led → Prop) (C : Addr) (X : Loc → Led → Prop) : Prop where
  run : ∀ (E : Value → Shared → Prop) (s : Shared) (R : α → Shared → Prop) (g : Heap), Turned a g → Fr g a.L s.heap m → News g a.L s.heap l → ND l →
    (∀ x m' l' h' tk' g', Turned a g' → Fr g' a.L h' m' → News g' a.L h' l' → ND l' → Q x m' l' → R x { s with heap := h', toks := tk' }) →
    (∀ e vs m' l' h h' tk' g', Turned a g' → Fr g' a.L h m' → News g' a.L h l' → ND l' → X m' l' → Heap.MadeExcOf h h' e (.ref C) vs → E (.ref e) { s with heap := h', toks := tk' }) →
    wpAny (model prog w) a.A t R E s
section
variable {prog : Program} {w : World} {K : Frag} {p : Program} {loose : List Str} {mean : ExcName → Option Value} {mg mb : Str → Option Value} {a : Act} {m : Loc} {l : Led} {env : Env} {n : Nat} {C : Addr} {X : Loc → Led → Prop}
theorem Tri.toE {α : Type} {t : Sem α} {Q : α → Loc → Led → Prop} (h : Tri prog w a m l t Q) : TriE prog w a m l t Q C X :=
  ⟨fun E s R g i F N D k _ => h.run E s R g i F N D k⟩
theorem TriE.cons {st : Stmt} {rest : List Stmt} {Q : FQ} (h : Tri prog w a m l (exec st env) fun f m' l' => match f with | .next => TriE prog w a m' l' (execs rest env) Q C X | f => Q f m' l') : TriE prog w a m l (execs (st :: rest) env) Q C X :=
  ⟨fun E s R gF iF F N D k kx => wpAny_execs_cons (h.run E s _ _ iF F N D fun f m' l' h' tk' gF' iF' F' N' D' q => by
    cases f with
    | next => exact q.run E _ R _ iF' F' N' D' k kx
    | brk => exact k _ _ _ _ _ _ iF' F' N' D' q
    | cont => exact k _ _ _ _ _ _ iF' F' N' D' q
    | ret v => exact k _ _ _ _ _ _ iF' F' N' D' q)⟩
theorem TriE.head {st : Stmt} {rest : List Stmt} {Q : FQ} (h : TriE prog w a m l (exec st env) (fun f m' l' => match f with | .next => TriE prog w a m' l' (execs rest env) Q C X | f => Q f m' l') C X) : TriE prog w a m l (execs (st :: rest) env) Q C X :=
  ⟨fun E s R gF iF F N D k kx => wpAny_execs_cons (h.run E s _ _ iF F N D (fun f m' l' h' tk' gF' iF' F' N' D' q => by
    cases f with
    | next => exact q.run E _ R _ iF' F' N' D' k kx
    | brk => exact k _ _ _ _ _ _ iF' F' N' D' q
    | cont => exact k _ _ _ _ _ _ iF' F' N' D' q
    | ret v => exact k _ _ _ _ _ _ iF' F' N' D' q) kx)⟩
theorem TriE.nil {Q : FQ} (h : Q .next m l) : TriE prog w a m l (execs [] env) Q C X := Tri.toE (Tri.execs_nil h)
theorem TriE.If {t body orelse pos} {Q : FQ} (h : Tri prog w a m l (isTrue t env (eval t env)) fun b m1 l1 => (b = true → TriE prog w a m1 l1 (execs body env) Q C X) ∧ (b = false → TriE prog w a m1 l1 (execs orelse env) Q C X)) : TriE prog w a m l (exec (.If t body orelse pos) env) Q C X :=
  ⟨fun E s R gF iF F N D k kx => wpAny_If (h.run E s _ _ iF F N D fun b _ _ _ _ gF1 iF1 F1 N1 D1 q1 => by
    cases b with
    | true => exact (q1.1 rfl).run E _ R _ iF1 F1 N1 D1 k kx
    | false => exact (q1.2 rfl).run E _ R _ iF1 F1 N1 D1 k kx)⟩
end

section
variable {prog : Program} {w : World} {K : Frag} {p : Program} {loose : List Str} {mean : ExcName → Option Value} {mg mb : Str → Option Value} {a : Act} {m : Loc} {l : Led} {n : Nat} {C : Addr} {X : Loc → Led → Prop}
variable {name : Str} {scope : Scope} {fa : Addr} {cd : Value}
theorem TriE.Raise {x : Str} {np cpos pos : Pos} {e₀ : Expr} {rest : List Expr} {Q : FQ} {bm : List Value} {newId initId B : String} (ok : Ok K p loose mean mg mb a (envX name scope a.L fa cd []) n)
    (e : nsIn K mainGlobals x = some (some (.ref C))) (q : excIn K C bm newId = true) (FB : ExcBaseFacts B newId initId bm)
    (h : Tri prog w a m l (spliced (backTo cpos (starEach (e₀ :: rest) (envX name scope a.L fa cd [])))) fun vs m1 l1 => vs.length ≤ sizeLine ∧ X m1 l1)
    (he : starEach (e₀ :: rest) (envX name scope a.L fa cd []) = (false, eval e₀ (envX name scope a.L fa cd [])) :: starEach rest (envX name scope a.L fa cd []) := by rfl)
    (hplain : (backTo cpos (starEach rest (envX name scope a.L fa cd []))).any (·.1) = false := by rfl)
    (hk : scope.kind = .function := by rfl) (hx : (envX name scope a.L fa cd []).kindOf x = some .globalImplicit := by rfl) (hd : (x == ("__debug__" : Str)) = false := by decide) :
    TriE prog w a m l (exec (.Raise (some (.Call (.Name x np) (e₀ :: rest) [] cpos)) none pos) (envX name scope a.L fa cd [])) Q C X := by
  refine ⟨fun E s R g iF F N D k kx => ?_⟩
  have O := own_of_in ok.kin (topRead_of ok.top) e q
  obtain ⟨tl, N', nm, q', bs, hdct, sn, sub, ab, col, dd, k0, k1, k2, k3, k5, mN, hC, hN, hni, T⟩ := O.obj
  refine wpAny_Raise_call_subT (C := C) (nm := nm) (q := q') (N := N') (bs := bs) (bm := tl) (hdct := hdct) (sn := sn) (sub := sub) (ab := ab) (col := col) (dd := dd) (k0 := k0) (k1 := k1) (k2 := k2) (k3 := k3) (k5 := k5)
    FB (mN := mN) (T.hasType FB.hasBase) ok.handled (by rw [he]; show (false || (backTo cpos (starEach rest _)).any (·.1)) = false; rw [hplain]; rfl) hni (nameX_K F (ok.kin.keeps iF.stays) (topRead_of (ok.top.keeps iF.stays)) e ⟨rfl, ?_⟩ hk hx hd)
  have h' := h.run E s (fun vs s₂ => vs.length ≤ sizeLine ∧ (∀ b o, a.base.get? b = some o → s₂.heap.get? b = some o) ∧ ∀ h' e, Heap.MadeExcOf s₂.heap h' e (.ref C) vs → E (.ref e) { s₂ with heap := h' }) g iF F N D
    fun vs m1 l1 h1 tk1 g1 i1 F1 N1 D1 ⟨hz, hX⟩ => ⟨hz, fun b o z => F1.keep b o (i1.stays b o z), fun h' e hm => kx e vs m1 l1 h1 h' tk1 g1 i1 F1 N1 D1 hX hm⟩
  rw [he] at h' ⊢
  exact Calls.evalArgs_plain (wpAny_mono h' (fun vs s₂ h₂ => ⟨rfl, h₂.1, h₂.2.1 _ _ hC, hN.keeps h₂.2.1, T.keeps h₂.2.1, h₂.2.2⟩) fun _ _ y => y)
end

structure FlyX (a : Act) (env : Env) (m : Loc) (l : Led) (e C : Addr) (h : Heap) : Prop where
  ex : ∃ B t outer, a.A.frames = some (env :: outer) ∧ Heap.FlyingW B (env :: outer) e (.ref C) t h ∧
    ∀ h₅ : Heap, B.StaysIn h₅ → h.UpToSlots h₅ → ∃ g', Turned a g' ∧ Fr g' a.L h₅ m ∧ News g' a.L h₅ l

structure TriF {α : Type} (prog : Program) (w : World) (a : Act) (env : Env) (m : Loc) (l : Led) (t : Sem α) (Q : α → Loc → Led → Prop) (C : Addr) (X : Loc → Led → Prop) : Prop where
  run : ∀ (E : Value → Shared → Prop) (s : Shared) (R : α → Shared → Prop) (g : Heap), Turned a g → Fr g a.L s.heap m → News g a.L s.heap l → ND l →
    (∀ x m' l' h' tk' g', Turned a g' → Fr g' a.L h' m' → News g' a.L h' l' → ND l' → Q x m' l' → R x { s with heap := h', toks := tk' }) →
    (∀ e m' l' h' tk', FlyX a env m' l' e C h' → ND l' → X m' l' → E (.ref e) { s with heap := h', toks := tk' }) →
    wpAny (model prog w) a.A t R E s
section
variable {prog : Program} {w : World} {K : Frag} {p : Program} {loose : List Str} {mean : ExcName → Option Value} {mg mb : Str → Option Value} {a b : Act} {m m' : Loc} {l l' : Led} {env : Env} {n n' : Nat} {C : Addr} {X : Loc → Led → Prop}
theorem flyOut {E : Value → Shared → Prop} {s' : Shared} {Q : Unit → Shared → Prop} {qual : Str} {scope : Scope} {f e : Addr} {cdv : Value} {G' g'' h : Heap} {vs : List Value}
    (ok : Ok K p loose mean mg mb a env n) (ok' : Ok K p loose mean mg mb b (envX qual scope b.L f cdv []) n') (hbA : b.A.frames = (a.A.deeper (envX qual scope b.L f cdv [])).frames)
    (i' : Turned b G') (F' : Fr G' b.L h m') (N' : News G' b.L h l') (i'' : Turned a g'') (F'' : Fr g'' a.L h m) (N'' : News g'' a.L h l')
    (hx : Heap.MadeExcOf h s'.heap e (.ref C) vs) (hk : scope.kind = .function)
    (k : ∀ h'', FlyX a env m l' e C h'' → Q () { s' with heap := h'' }) :
    wpAny (model prog w) (a.A.deeper (envX qual scope b.L f cdv [])) (leaving (envX qual scope b.L f cdv []) (.ref e)) Q E s' := by
  obtain ⟨A₀, outer', Bb₀, hfr', hfs'⟩ := ok'.below
  obtain ⟨A₁, outer, Ba₀, hfr, hfs⟩ := ok.below
  have hd : (a.A.deeper (envX qual scope b.L f cdv [])).frames = some (envX qual scope b.L f cdv [] :: env :: outer) := Around.frames_deeper hfr
  have e1 := hfr'.symm.trans (hbA.trans hd)
  injection e1 with e1
  injection e1 with _ e1
  subst e1
  have Bb := i'.belowAt Bb₀
  have Ba := i''.belowAt Ba₀
  have K' := Bb.push (name := qual) (a := f) (cd := cdv) F' hk
  have hin : ∀ env' ∈ (envX qual scope b.L f cdv [] :: env :: outer), ∀ c, env'.frame = some c → c ∈ (envX qual scope b.L f cdv [] :: env :: outer).filterMap (·.frame) := fun env' he c hc => List.mem_filterMap.mpr ⟨env', he, hc⟩
  have hmem : ∀ c, c ∈ (envX qual scope b.L f cdv [] :: env :: outer).filterMap (·.frame) → c = b.L ∨ c = a.L ∨ c ∈ outer.filterMap (·.frame) := fun c hc => by
    rw [List.filterMap_cons, List.filterMap_cons, ok.frame] at hc
    rcases List.mem_cons.mp hc with z | hc
    · exact .inl z
    · exact .inr (List.mem_cons.mp hc)
  have haL : a.L ∈ b.fs := by rw [hfs', List.filterMap_cons, ok.frame]; exact .head _
  have hlt : g''.objs.size ≤ a.L ∧ a.L < b.L := by
    refine ⟨F''.above, ?_⟩
    obtain ⟨o, _, _, ho, _⟩ := ok'.dicts a.L haL
    refine Nat.lt_of_lt_of_le (Heap.lt_size ho) ?_
    rw [← i'.turn.size]; exact F'.above
  have hB : ∀ c o, h.get? c = some o → c ∉ (envX qual scope b.L f cdv [] :: env :: outer).filterMap (·.frame) → (hideAll h ((envX qual scope b.L f cdv [] :: env :: outer).filterMap (·.frame))).get? c = some o := fun c o q nm => hideAll_get _ q nm
  refine wpAny_leaves_madeW hd rfl (fun c o q => of_hideAll _ q) (funFrames_hide K'.frames hin) hx fun h' t x1 x2 x3 x4 => k h' ⟨_, .ref t, outer, hfr, x1, fun h₅ s5 u5 => ?_⟩
  have hsm : h.UpToSlots h₅ := (Heap.UpToSlots.of_keeps hx.keeps).trans (x4.trans u5)
  have hself : ∀ o, g''.get? a.L = some o → False := fun o q => absurd (Heap.lt_size q) (Nat.not_lt.mpr F''.above)
  obtain ⟨T, S⟩ := kts_turn_at (h := h₅) (fs := a.fs) (g := g'')
    (fun c hc => by
      rw [hfs] at hc
      obtain ⟨_, o, ho, _⟩ := Ba.frames.mem hc
      exact ⟨o, ho⟩)
    (fun c o e nm => s5 c o (hB c o (F''.keep c o e) fun hm => by
      rcases hmem c hm with z | z | z
      · exact absurd (Heap.lt_size e) (by rw [z]; exact Nat.not_lt.mpr (Nat.le_trans hlt.1 (Nat.le_of_lt hlt.2)))
      · rw [z] at e; exact hself _ e
      · rw [hfs] at nm; exact nm z))
    (fun c o e hm => by
      rw [hfs] at hm
      obtain ⟨_, o', ho', hd'⟩ := Ba.frames.mem hm
      rw [e] at ho'
      cases ho'
      exact hsm c o (F''.keep c o e) hd')
  refine ⟨_, ⟨i''.turn.trans T, fun c o e => T.other c o (i''.stays c o e) fun hm => ?_⟩, ⟨hsm.ns F''.ns, S, by rw [T.size]; exact F''.above⟩, fun q hq => ⟨s5 _ _ (hB _ _ (N'' q hq).1 fun hm => ?_), (N'' q hq).2.1, T.none_ _ (N'' q hq).2.2⟩⟩
  · rw [hfs] at hm
    rw [(Ba.frames.mem hm).1] at e; cases e
  · rcases hmem _ hm with z | z | z
    · exact (N' q hq).2.1 z
    · exact (N'' q hq).2.1 z
    · obtain ⟨_, o, ho, _⟩ := Ba.frames.mem z
      rw [(N'' q hq).2.2] at ho; cases ho

theorem TriF.callFn {Q : VQ} {name qual : Str} {params : Arguments} {body : List Stmt} {scope : Scope} {dV kV doc pm cdv ct oc : Value} {an od : Option Addr} {osl : Array (Option Value)} {f : Addr} {args : List Value} {kw : List (Str × Value)} {binds : List (Str × Value)}
    (ok : Ok K p loose mean mg mb a env (n + 1)) (ho : K.lookup f = some ⟨oc, od, .func (fnOf name qual params body scope dV kV doc pm an cdv ct), osl⟩) (hcd : codeIn K cdv qual = true)
    (hbind : ∀ s : Shared, K.In s.heap → BindsTo s (fnOf name qual params body scope dV kV doc pm an cdv ct) ⟨args, kw⟩ binds) (hloc : ∀ y ∈ binds, scope.names.lookup y.1 = some .local)
    (h : ∀ b : Act, Ok K p loose mean mg mb b (envX qual scope b.L f cdv []) n → TriE prog w b (lcl binds.reverse) l (execs body (envX qual scope b.L f cdv [])) (fun fl _ l' => ∃ l'', Sub l'' l' ∧ Q (match fl with | .ret v => v | _ => .none) m l'') C fun _ l' => ∃ l'', Sub l'' l' ∧ X m l'')
    (hco : scope.isCoroutine = false) (hgen : scope.isGenerator = false) (hk : scope.kind = .function) (hcell : ∀ x ∈ scope.names, x.2 ≠ .cell) : TriF prog w a env m l (call (.ref f) args kw) Q C X := by
  refine ⟨fun E s R gF iF F N D k kx => ?_⟩
  have room : a.A.depth < recursionLimit := Nat.lt_of_le_of_lt (Nat.le_add_right _ _) ok.room
  have X : K.In s.heap := (ok.kin.keeps iF.stays).keeps F.keep
  refine wpAny_call (codeAny_call_function (fd := fnOf name qual params body scope dV kV doc pm an cdv ct) (body := body) room (X _ _ ho) rfl hco hgen rfl (codeRec_of X hcd) (hbind s X _ _ _ _ ?_))
  refine enterT ok rfl iF F N hloc (fun b h₁ hbA hbl hdc hki hto tb FL NL lv => ?_) hcell hk
  have ok' : Ok K p loose mean mg mb b (envX qual scope b.L f cdv []) n :=
    ⟨hbl, hdc, hki, hto, rfl, hk, by rw [hbA]; exact ok.handled, by have := ok.room; rw [hbA]; show a.A.depth + 1 + n < _; omega, by have := ok.units; rw [hbA]; show a.A.units + 3 + 8 * n + 128 < _; omega⟩
  rw [← hbA]
  refine (h _ ok').run _ _ _ _ tb FL NL D (fun fl m' l' h' tk' gF' iF' F' N' D' q => ?_) (fun e vs m' l' h h' tk' gF' iF' F' N' D' q hx => ?_)
  · obtain ⟨l'', hs, q⟩ := q
    obtain ⟨g', t', F'', N''⟩ := lv _ _ _ _ iF' F' (fun p hp => N' p (hs.mem p hp))
    exact k _ _ _ _ _ _ t' F'' N'' (hs.nd D') q
  · obtain ⟨l'', hs, q⟩ := q
    obtain ⟨g', t', F'', N''⟩ := lv _ _ _ _ iF' F' (fun p hp => N' p (hs.mem p hp))
    have hbA' : b.A = a.A.deeper (envX qual scope b.L f cdv []) := hbA
    rw [hbA']
    exact flyOut ok ok' (by rw [hbA']) iF' F' (fun p hp => N' p (hs.mem p hp)) t' F'' N'' hx hk fun h'' hf => kx _ _ _ _ _ hf (hs.nd D') q
theorem TriF.sole {st : Stmt} {Q : FQ} (h : TriF prog w a env m l (exec st env) Q C X) : TriF prog w a env m l (execs [st] env) Q C X :=
  ⟨fun E s R gF iF F N D k kx => wpAny_execs_cons (h.run E s _ _ iF F N D (fun f m' l' h' tk' gF' iF' F' N' D' q => by
    cases f with
    | next => exact wpAny_execs_nil (k _ _ _ _ _ _ iF' F' N' D' q)
    | brk => exact k _ _ _ _ _ _ iF' F' N' D' q
    | cont => exact k _ _ _ _ _ _ iF' F' N' D' q
    | ret v => exact k _ _ _ _ _ _ iF' F' N' D' q) kx)⟩
theorem TriF.ExprS {e : Expr} {pos : Pos} {Q : FQ} (h : TriF prog w a env m l (eval e env) (fun v m1 l1 => v = .none ∧ Q .next m1 l1) C X) (hi : interactive env = false := by rfl)
    (hs : swapsWith e none pos.line env = Pure.pure false := by rfl) : TriF prog w a env m l (exec (.Expr e pos) env) Q C X :=
  ⟨fun E s R gF iF F N D k kx => wpAny_Expr (h.run E s _ _ iF F N D (fun v m1 l1 h1 t1 gF1 iF1 F1 N1 D1 q1 => by obtain ⟨rfl, q⟩ := q1; exact k _ _ _ _ _ _ iF1 F1 N1 D1 q) kx) hi hs⟩
theorem TriF.method {o : Expr} {name : Str} {apos pos : Pos} {args : List Expr} {Q : VQ} (h : Tri prog w a m l (eval o env) fun ov m1 l1 => ∀ pl, Tri prog w a m1 l1 (getMethod ov name pl) fun fx m2 l2 => TriF prog w a env m2 l2 (callWith pos fx.1 fx.2 (backTo pos (starEach args env)) []) Q C X)
    (hb : attributeBase o name env (eval o env) = eval o env := by rfl) (hf : methodCallForm (args.length + ([] : List Keyword).length) (backTo pos (starEach args env)) (backToKw pos (keywordEach [] env)) = true := by rfl) (hl : (apos.endLine == pos.line) = true := by rfl) :
    TriF prog w a env m l (eval (.Call (.Attribute o name apos) args [] pos) env) Q C X := by
  refine ⟨fun E s R gF iF F N D k kx => ?_⟩
  rw [arm_eval_Call, hb]
  refine wpAny_bind (h.run E s _ _ iF F N D fun ov m1 l1 h1 t1 gF1 iF1 F1 N1 D1 q1 => ?_)
  refine wpAny_bind (wpAny_standAt ?_)
  have hpos : methodCallPos true o env apos pos = Pure.pure pos := by unfold methodCallPos; simp [hl]
  unfold methodCall
  rw [hf]
  refine wpAny_bind (wpAny_holding ((q1 _).run E _ _ _ iF1 F1 N1 D1 fun fx m2 l2 h2 t2 gF2 iF2 F2 N2 D2 q2 => ?_))
  exact wpAny_bind (wpAny_of_eq hpos (q2.run E _ R _ iF2 F2 N2 D2 k kx))
theorem TriF.withK0 {env' env₂ : Env} {pos : Pos} {f : Value} {first : List Value} {Q : VQ} (ok : Ok K p loose mean mg mb a env' n) (hk : keepIn K f = true) (h : TriF prog w a env₂ m l (call f (first ++ [])) Q C X) :
    TriF prog w a env₂ m l (callWith pos f first (backTo pos (starEach [] env)) []) Q C X :=
  ⟨fun E s R gF iF F N D k kx => callWith_K0 ((ok.kin.keeps iF.stays).keeps F.keep) hk (h.run E s R _ iF F N D k kx)⟩
end
section
variable {prog : Program} {w : World} {K : Frag} {p : Program} {loose : List Str} {mean : ExcName → Option Value} {mg mb : Str → Option Value} {a : Act} {n : Nat} {m : Loc} {l : Led}
variable {name : Str} {scope : Scope} {fa : Addr} {cd : Value}
theorem caughtF {E : Value → Shared → Prop} {s' : Shared} {e C : Addr} {x : Str} {np pos : Pos} {b₀ : Stmt} {suite : List Stmt} {Q : Flow → Shared → Prop} {bmB : List Value} {newId : String}
    (ok : Ok K p loose mean mg mb a (envX name scope a.L fa cd []) n) (hf : FlyX a (envX name scope a.L fa cd []) m l e C s'.heap)
    (ex : nsIn K mainGlobals x = some (some (.ref C))) (q : excIn K C bmB newId = true) (hbase : bmB.contains (.type "BaseException") = true)
    (k : ∀ h' g' E', Turned a g' → Fr g' a.L h' m → News g' a.L h' l → wpAny (model prog w) (a.A.mark (some (.ref e))) (execs (b₀ :: suite) (envX name scope a.L fa cd [])) Q E' { s' with heap := h' })
    (hk : scope.kind = .function := by rfl) (hxk : (envX name scope a.L fa cd []).kindOf x = some .globalImplicit := by rfl) (hd : (x == ("__debug__" : Str)) = false := by decide) :
    wpAny (model prog w) a.A (noteFrame (.ref e) (envX name scope a.L fa cd []))
      (fun _ s₂ => wpAny (model prog w) a.A (setFlight (.ref e) none) (fun _ s₃ =>
        wpAny (model prog w) a.A (handleBy (.ref e) (envX name scope a.L fa cd []) [.ExceptHandler (some (.Name x np)) none (b₀ :: suite) pos]) Q E s₃) E s₂) E s' := by
  obtain ⟨B, t, outer, hfr, hfl, gr⟩ := hf.ex
  refine wpAny_looks_onW hfr rfl hfl fun h₄ hheld₄ hsm₄ => ?_
  refine wpAny_landsW hheld₄ fun h₅ hheld hsm₅' => ?_
  have hsm₅ := hsm₄.trans hsm₅'
  obtain ⟨g₅, i₅, F₅, N₅⟩ := gr h₅ hheld.1 hsm₅
  obtain ⟨ob, hob, hobc⟩ := hheld.there
  refine wpAny_handleBy_cons (codeAny_handlers_test (nameX_K F₅ (ok.kin.keeps i₅.stays) (topRead_of (ok.top.keeps i₅.stays)) ex ?_ hk hxk hd)) (by intro q; cases q)
  obtain ⟨bm, N, nm, qn, bs, hdct, sn, sub, ab, col, dd, k0, k1, k2, k3, k5, mN, hC, hN, hni, TL⟩ := ((own_of_in (ok.kin.keeps i₅.stays) (topRead_of (ok.top.keeps i₅.stays)) ex q).keeps F₅.keep).obj
  refine wpAny_excMatches_sub_self hC hob hobc (TL.hasType hbase) (codeAny_handlers_suite ?_)
  refine lands_againW hheld fun h₆ hfl₆ hsm₆ => ?_
  obtain ⟨g₆, i₆, F₆, N₆⟩ := gr h₆ hfl₆.1 (hsm₅.trans hsm₆)
  exact k h₆ g₆ _ i₆ F₆ N₆

theorem Tri.TryF {C : Addr} {x : Str} {np pos hpos : Pos} {body : List Stmt} {b₀ : Stmt} {suite : List Stmt} {Q : FQ} {bmB : List Value} {newId : String} (P : Loc → Led → Prop)
    (ok : Ok K p loose mean mg mb a (envX name scope a.L fa cd []) n)
    (ex : nsIn K mainGlobals x = some (some (.ref C))) (q : excIn K C bmB newId = true) (hbase : bmB.contains (.type "BaseException") = true)
    (hb : TriF prog w a (envX name scope a.L fa cd []) m l (execs body (envX name scope a.L fa cd [])) Q C P)
    (hh : ∀ (b : Act) m l, b.L = a.L → P m l → Tri prog w b m l (execs (b₀ :: suite) (envX name scope b.L fa cd [])) Q)
    (hk : scope.kind = .function := by rfl) (hxk : ∀ L, (envX name scope L fa cd []).kindOf x = some .globalImplicit := by intro _; rfl) (hd : (x == ("__debug__" : Str)) = false := by decide) :
    Tri prog w a m l (exec (.Try body [.ExceptHandler (some (.Name x np)) none (b₀ :: suite) hpos] [] [] pos) (envX name scope a.L fa cd [])) Q := by
  refine ⟨fun E s R gF iF F N D c => wpAny_Try_except ?_⟩
  refine hb.run _ s _ gF iF F N D (fun f m' l' h' tk' g' i' F' N' D' q => ?_) (fun e m' l' h' tk' hf D' q' => ?_)
  · cases f with
    | next => exact wpAny_execs_nil (c _ _ _ _ _ _ i' F' N' D' q)
    | brk => exact c _ _ _ _ _ _ i' F' N' D' q
    | cont => exact c _ _ _ _ _ _ i' F' N' D' q
    | ret v => exact c _ _ _ _ _ _ i' F' N' D' q
  · refine caughtF ok hf ex q hbase (fun h₆ g₆ E' i₆ F₆ N₆ => ?_) hk (hxk _) hd
    exact (hh ⟨a.A.mark (some (.ref e)), a.h₀, a.L, a.fs, a.base⟩ m' l' rfl q').run E' _ R g₆ ⟨i₆.turn, i₆.stays⟩ F₆ N₆ D' fun f m2 l2 h2 t2 g2 i2 F2 N2 D2 q2 => c _ _ _ _ _ _ ⟨i2.turn, i2.stays⟩ F2 N2 D2 q2
end

section
variable {prog : Program} {w : World} {a : Act} {m : Loc} {l : Led} {env : Env} {Q : VQ} {v : Expr} {pos : Pos}
theorem Tri.JoinedStr_one (h : Tri prog w a m l (eval v env) Q) : Tri prog w a m l (eval (.JoinedStr [v] pos) env) Q :=
  ⟨fun E s R gF iF F N D k => wpAny_JoinedStr_one (h.run E s R _ iF F N D k)⟩
end
section
variable {w : World} {mean : ExcName → Option Value} {mg mb : Str → Option Value} {a : Act} {env : Env} {n : Nat} {m : Loc} {l : Led} {Q : VQ} {X : Loc → Led → Prop}
variable {κ : Type} [DecidableEq κ] {knd : KeyKind Challenge.rw_mq0363_02.row.prog w κ}

theorem s_prep2 {S : Srt} {rows : List (Row κ)} {c : Nat} (gd : Good knd) (so : SOk knd S rows c) (hrv : S.rv = .none) (hc : c ≤ 3000) (hin : ∀ r ∈ absR rows, ∀ u ∈ r.succ, u ∈ (absR rows).map (·.key))
    (ok : OkS w mean mg mb a env (n + 3))
    (h : ∀ (F : List κ) (rA : Addr) (rvs : List Value) (cap : Nat), Topo (succOf (absR rows)) F → (∀ k ∈ (absR rows).map (·.key), k ∈ F) → Keys knd rvs (ready0 (absR rows)) → SOk knd { S with rv := .ref rA } rows c → Q .none m (sled w { S with rv := .ref rA } ((rA, lstO rvs cap) :: (cells rows ++ l))))
    (hX : ∀ (C : List κ) (rA : Addr) (rvs : List Value) (cap : Nat), Ring (succOf (absR rows)) C → (∀ k ∈ C, k ∈ (absR rows).map (·.key)) → Keys knd rvs (ready0 (absR rows)) → SOk knd { S with rv := .ref rA } rows c → X m (sled w { S with rv := .ref rA } ((rA, lstO rvs cap) :: (cells rows ++ l)))) :
    TriF Challenge.rw_mq0363_02.row.prog w a env m (sled w S (cells rows ++ l)) (call (.ref 106) [.ref S.sA]) Q 69 X := by
  unfold OkS at ok; revert ok; k_fill; intro ok
  refine TriF.callFn (binds := [("self", .ref S.sA)]) ok (by k_is) (by k_is) (fun s _ => BindsTo.of_eq rfl) (locs rfl) (fun b okb => ?_) rfl rfl rfl (by decide)
  show TriE _ _ _ (lcl [("self", .ref S.sA)]) _ _ _ _ _
  refine TriE.cons ?_
  repeat' walk_at "w1"
  refine TriE.cons ?_
  repeat' walk_at "w1"
  refine Tri.ListComp (cl := []) ?_ (by rfl) rfl (by decide)
  repeat' walk_at "w1"
  refine Tri.getM_dvalues (knd := knd) (by walk_at "mem") so.dic ?_
  repeat' walk_at "w1"
  refine Tri.dvalues (knd := knd) so.sys (by walk_at "mem") so.dic fun V => ?_
  refine Tri.iter_values (knd := knd) (by walk_at "mem") so.dic fun I ep hat => ?_
  have hkl : (kvs rows).length = rows.length := by simp [kvs]
  refine comp_values (knd := knd) okb.okC (by decide) rfl ⟨_, _, rfl⟩ hat (by walk_at "mem") (fun i ys l' => l' = sled w S (cells rows ++ l) ∧ Keys knd ys (ready0 (absR (rows.take i)))) ?_ ?_ ⟨rfl, .nil⟩ ?_ ?_
  · rintro i ys l' ⟨rfl, hys⟩
    walk_at "mem"
  · rintro i ys l' ⟨rfl, hys⟩
    have h1 := hys.length
    have h2 : (ready0 (absR (rows.take i))).length ≤ rows.length := by
      unfold ready0
      rw [List.length_map]
      refine Nat.le_trans (List.length_filter_le ..) ?_
      simp [absR]; omega
    have := so.len
    rw [sizeLine_eq]; omega
  · rintro b2 i k v o' D nn ys ex l' hbA okc hkv ⟨rfl, hys⟩
    have hi : ∃ r : Row κ, rows[i]? = some r ∧ k = r.key ∧ v = .ref r.ia := by
      unfold kvs at hkv
      rw [List.getElem?_map] at hkv
      obtain ⟨r, hr, e⟩ := Option.map_eq_some_iff.mp hkv
      cases e
      exact ⟨r, hr, rfl, rfl⟩
    obtain ⟨r, hr, rfl, rfl⟩ := hi
    have hrk := so.rok r (List.mem_of_getElem? hr)
    have htk : rows.take (i + 1) = rows.take i ++ [r] := by rw [List.take_add_one, hr]; rfl
    have n1 : (r.ia, nodO r.da r.sa r.np r.t r.nv) ∈ cells rows ++ l := List.mem_append.mpr (.inl (cells_mem hr (.head _)))
    have n2 : (r.da, dictOf [] 0) ∈ cells rows ++ l := List.mem_append.mpr (.inl (cells_mem hr (.tail _ (.head _))))
    have hnv := hrk.hand
    repeat' walk_at "wc"
    · rename (r.np == 0) = true => hb
      refine ⟨⟨_, rfl⟩, _, Sub.refl _, rfl, ?_⟩
      rw [htk]
      have : ready0 (absR (rows.take i ++ [r])) = ready0 (absR (rows.take i)) ++ [r.key] := by
        unfold ready0 absR
        rw [List.map_append, List.filter_append, List.map_append]
        simp [Row.ni, hb]
      rw [this]
      exact hys.snoc hrk.node
    · rename (r.np == 0) = false => hb
      refine ⟨⟨_, rfl⟩, _, Sub.refl _, rfl, ?_⟩
      rw [htk]
      have : ready0 (absR (rows.take i ++ [r])) = ready0 (absR (rows.take i)) := by
        unfold ready0 absR
        rw [List.map_append, List.filter_append, List.map_append]
        simp [Row.ni, hb]
      rw [this]
      exact hys
  rintro rA rvs cap l' ⟨rfl, hys⟩
  rw [hkl, List.take_length] at hys
  repeat' walk_at "w1"
  refine set_rv (S := S) (v := .ref rA) okb (by walk_at "mem") (Put.tail (Put.tail Put.head)) ?_
  have so' : SOk knd { S with rv := .ref rA } rows c := ⟨so.dic, so.sys, so.rok, so.len, so.suc⟩
  dsimp only
  refine TriE.cons ?_
  repeat' walk_at "w1"
  refine Tri.perm (sled_in w { S with rv := .ref rA } (cells rows) l _) ?_
  refine s_find (n := n) gd so' hc hin okb (fun F hF hall => ?_) (fun C R vs hr hck hv0 hvl => ?_)
  · repeat' walk_at "w1"
    refine TriE.head (TriE.If ?_)
    repeat' walk_at "w1"
    refine TriE.nil ?_
    dsimp only
    refine TriE.nil ?_
    refine ⟨_, ⟨[], ?_⟩, h F rA rvs cap hF hall hys so'⟩
    rw [List.append_nil]
    exact (((List.perm_middle (a := (rA, lstO rvs cap)) (l₁ := cells rows) (l₂ := l)).symm.cons _).cons _).cons _
  · repeat' walk_at "w1"
    refine TriE.head (TriE.If ?_)
    repeat' walk_at "w1"
    refine Tri.truthy_list (by walk_at "mem") hvl ?_
    have hne : (!vs.isEmpty) = true := by cases vs with | nil => exact (hv0 rfl).elim | cons => rfl
    rw [hne]
    refine ⟨fun _ => ?_, fun q => Bool.noConfusion q⟩
    refine TriE.head (TriE.Raise okb (by k_is) (by k_exc) PySem.F.excBase_ValueError ?_)
    refine Tri.items_cons (Tri.JoinedStr_one ?_)
    repeat' walk_at "w1"
    refine ⟨by rw [sizeLine_eq]; show 2 ≤ 16777216; decide, _, Sub.cons _ ⟨[], ?_⟩, hX C rA rvs cap hr hck hys so'⟩
    rw [List.append_nil]
    exact (((List.perm_middle (a := (rA, lstO rvs cap)) (l₁ := cells rows) (l₂ := l)).symm.cons _).cons _).cons _
end

def jobN (q : Nat) : Nat × Nat := if q % 4 = 0 then (q / 4 % 4, q / 16 % 4) else [(1, 0), (2, 0), (3, 0), (2, 1), (3, 1), (3, 2)].getD (q / 4 % 6) (0, 0)
theorem jobN_lt (q : Nat) : (jobN q).1 < 4 ∧ (jobN q).2 < 4 := by
  unfold jobN
  split
  · exact ⟨Nat.mod_lt _ (by decide), Nat.mod_lt _ (by decide)⟩
  · have h : q / 4 % 6 < 6 := Nat.mod_lt _ (by decide)
    generalize q / 4 % 6 = k at h
    have : k = 0 ∨ k = 1 ∨ k = 2 ∨ k = 3 ∨ k = 4 ∨ k = 5 := by omega
    rcases this with rfl | rfl | rfl | rfl | rfl | rfl <;> decide
section
variable {w : World} {mean : ExcName → Option Value} {mg mb : Str → Option Value} {a : Act} {env : Env} {n : Nat} {m : Loc} {l : Led} {Q : VQ}
theorem law_need {q : Nat} {tq : Tok} (ok : OkS w mean mg mb a env (n + 1)) (h : ∀ T t1 t2, Q (.ref T) m ((T, tupO [.int ((jobN q).1 : Nat) t1, .int ((jobN q).2 : Nat) t2]) :: l)) :
    Tri Challenge.rw_mq0363_02.row.prog w a m l (call (.ref 162) [.int q tq]) Q := by
  unfold OkS at ok; revert ok; k_fill; intro ok
  refine Tri.callFn (binds := [("few", .int q tq)]) ok (by k_is) (by k_is) (fun s _ => BindsTo.of_eq rfl) (locs rfl) (fun b okb => ?_) rfl rfl rfl (by decide)
  show Tri _ _ _ (lcl [("few", .int q tq)]) _ _ _
  repeat' walk_at "w2"
  · rename ((q : Int) % 4 == 0) = true => c
    have c' : q % 4 = 0 := by simp at c; omega
    have e : jobN q = (q / 4 % 4, q / 16 % 4) := if_pos c'
    have e1 : (q : Int) / 4 % 4 = ((jobN q).1 : Nat) := by rw [e]; simp
    have e2 : (q : Int) / 16 % 4 = ((jobN q).2 : Nat) := by rw [e]; simp
    rw [e1, e2]
    exact ⟨_, Sub.refl _, h _ _ _⟩
  · rename ((q : Int) % 4 == 0) = false => c
    have c' : ¬ q % 4 = 0 := by simp at c; omega
    have e : jobN q = [(1, 0), (2, 0), (3, 0), (2, 1), (3, 1), (3, 2)].getD (q / 4 % 6) (0, 0) := if_neg c'
    have hk : q / 4 % 6 < 6 := Nat.mod_lt _ (by decide)
    rw [e] at h
    rw [show (q : Int) / 4 % 6 = ((q / 4 % 6 : Nat) : Int) by simp]
    generalize q / 4 % 6 = k at h hk
    have : k = 0 ∨ k = 1 ∨ k = 2 ∨ k = 3 ∨ k = 4 ∨ k = 5 := by omega
    rcases this with rfl | rfl | rfl | rfl | rfl | rfl <;>
    · refine Tri.sub_list (.head _) (by decide) (by rw [sizeLine_eq]; show 6 ≤ 16777216; decide) (by rfl) ?_
      repeat' walk_at "w2"
      refine' ⟨_, ?sub, h _ _ _⟩
      case sub =>
        repeat (first | (refine Sub.cons₂ _ ?_; repeat (first | (refine Sub.refl _; done) | refine Sub.cons _ ?_)) | refine Sub.cons _ ?_)
        try exact Sub.refl _
end

theorem str_us : Str.ofString "_" = S [95] := by decide +kernel
theorem str_none : Str.ofString "" = S [] := by decide +kernel
def up2 (c pl cap k : Nat) : List Nat := if cap = 1 ∧ k = (pl + 1) % 4 then [c - 32] else [c]
theorem letter2_eq (c pl deed cap k : Nat) : letter2 c pl deed cap k = if k = pl ∧ 0 < deed then (if deed = 1 then [] else if deed = 2 then 95 :: up2 c pl cap k else [95]) else up2 c pl cap k := rfl
theorem up2_len (c pl cap k : Nat) : (up2 c pl cap k).length = 1 := by unfold up2; split <;> rfl
theorem letter2_len (c pl deed cap k : Nat) : (letter2 c pl deed cap k).length ≤ 2 := by
  rw [letter2_eq]
  have := up2_len c pl cap k
  split
  · split
    · simp
    · split
      · simp [this]
      · simp
  · omega
def missTo (x : List Nat) (pl deed cap k : Nat) : List Nat := (List.range k).flatMap fun k => letter2 (x.getD k 0) pl deed cap k
theorem missTo_succ (x : List Nat) (pl deed cap k : Nat) : missTo x pl deed cap (k + 1) = missTo x pl deed cap k ++ letter2 (x.getD k 0) pl deed cap k := by
  unfold missTo
  rw [List.range_succ, List.flatMap_append]; simp
theorem missTo_len (x : List Nat) (pl deed cap : Nat) : ∀ k, (missTo x pl deed cap k).length ≤ 2 * k
  | 0 => by simp [missTo]
  | k + 1 => by
    rw [missTo_succ, List.length_append]
    have := missTo_len x pl deed cap k
    have := letter2_len (x.getD k 0) pl deed cap k
    omega
section
variable {w : World} {mean : ExcName → Option Value} {mg mb : Str → Option Value} {a : Act} {env : Env} {n : Nat} {m : Loc} {l : Led} {Q : VQ}
theorem law_misspelt {x : List Nat} {tx tq : Tok} {q : Nat} (hx : x.length = 4) (hup : ∀ c ∈ x, Txt.upper (S [c]) = S [c - 32]) (ok : OkS w mean mg mb a env (n + 1))
    (h : ∀ T t1 t2, Q (.ref T) m ((T, tupO [.str (S (misspelt x (q % 4) (q / 4 % 4) (q / 16 % 2))) t1, .int (price2 (q / 4 % 4) (q / 16 % 2)) t2]) :: l)) :
    Tri Challenge.rw_mq0363_02.row.prog w a m l (call (.ref 169) [.str (S x) tx, .int q tq]) Q := by
  unfold OkS at ok; revert ok; k_fill; intro ok
  refine Tri.callFn (binds := [("name", .str (S x) tx), ("number", .int q tq)]) ok (by k_is) (by k_is) (fun s _ => BindsTo.of_eq rfl) (locs rfl) (fun b okb => ?_) rfl rfl rfl (by decide)
  show Tri _ _ _ (lcl [("number", .int q tq), ("name", .str (S x) tx)]) _ _ _
  repeat' walk_at "w2"
  rw [str_none]
  rw [show (q : Int) % 4 = ((q % 4 : Nat) : Int) by simp, show (q : Int) / 4 % 4 = ((q / 4 % 4 : Nat) : Int) by simp, show (q : Int) / 16 % 2 = ((q / 16 % 2 : Nat) : Int) by simp]
  have hd4 : q / 4 % 4 < 4 := Nat.mod_lt _ (by decide)
  have hc2 : q / 16 % 2 < 2 := Nat.mod_lt _ (by decide)
  generalize q % 4 = pl at h ⊢
  generalize q / 4 % 4 = deed at h hd4 ⊢
  generalize q / 16 % 2 = cap at h hc2 ⊢
  refine Tri.For ?_
  repeat' walk_at "w2"
  refine Tri.range1 fun r _ _ => ?_
  refine Tri.iter_rangeH 4 (by decide) (by decide) (by decide) (by decide) (by decide) fun I => ?_
  refine for_range0 (Ok.handled (by assumption)) ⟨_, _, rfl⟩ (fun k m' l' => ∃ (t1 t2 t3 t4 : Tok) (ex : List (Str × Value)), m' = lclx [("name", .str (S x) tx), ("place", .int pl t1), ("deed", .int deed t2), ("capital", .int cap t3), ("word", .str (S (missTo x pl deed cap k)) t4)] ex ∧ l = l') ?_ ?_ ?_
  · exact ⟨_, _, _, _, _, lcl_norm ⟨rfl, rfl, rfl, rfl, rfl, trivial⟩, rfl⟩
  · rintro k tk o m' l' hk ⟨t1, t2, t3, t4, ex, rfl, rfl⟩
    refine Tri.gen1 fun Q1 hQ1 => ?_
    have hkx : k < x.length := by omega
    have hml := missTo_len x pl deed cap k
    have hstep := missTo_succ x pl deed cap k
    generalize missTo x pl deed cap (k + 1) = wl' at hstep hQ1
    generalize missTo x pl deed cap k = wl at hml hstep ⊢
    rw [show x.getD k 0 = x[k] by simp [hkx]] at hstep
    repeat' walk_at "w2"
    refine Tri.itS k x[k] rfl (by simp [hkx]) (by walk_at "size") fun t9 => ?_
    have hupk := hup x[k] (List.getElem_mem _)
    generalize x[k] = c at hstep hupk ⊢
    repeat' ((fail_if_success (with_reducible show Tri _ _ _ _ _ (PySem.exec (Stmt.If _ _ _ _) _) _)); walk_at "w2")
    refine Tri.mono (Q := fun f m' l' => f = .next ∧ ∃ (t5 : Tok) (ex' : List (Str × Value)), m' = lclx [("name", .str (S x) tx), ("place", .int pl t1), ("deed", .int deed t2), ("capital", .int cap t3), ("word", .str (S wl) t4), ("k", .int k tk), ("letter", .str (S (up2 c pl cap k)) t5)] ex' ∧ l' = (I, o) :: l) ?iff ?rest
    case iff =>
      repeat' walk_at "w2"
      · rename ((cap : Int) == 1) = true => c1
        rename ((k : Int) == ((pl : Int) + 1) % 4) = true => c2
        refine Tri.getM_str PySem.F.slot_str_upper PySem.F.type_str_upper ?_
        repeat' walk_at "w2"
        refine Tri.upper (by rw [S_length]; show 1 ≤ 5592405; decide) fun t8 => ?_
        rw [hupk]
        repeat' walk_at "w2"
        refine ⟨rfl, t8, _, lcl_norm ⟨rfl, rfl, rfl, rfl, rfl, rfl, ?_, trivial⟩, rfl⟩
        unfold up2
        rw [if_pos ⟨by simp at c1; omega, by simp at c2; omega⟩]; rfl
      · rename ((cap : Int) == 1) = true => c1
        rename ((k : Int) == ((pl : Int) + 1) % 4) = false => c2
        refine ⟨rfl, t9, _, lcl_norm ⟨rfl, rfl, rfl, rfl, rfl, rfl, ?_, trivial⟩, rfl⟩
        unfold up2
        rw [if_neg (fun ⟨_, q⟩ => by simp at c2; omega)]; rfl
      · rename ((cap : Int) == 1) = false => c1
        refine ⟨rfl, t9, _, lcl_norm ⟨rfl, rfl, rfl, rfl, rfl, rfl, ?_, trivial⟩, rfl⟩
        unfold up2
        rw [if_neg (fun ⟨q, _⟩ => by simp at c1; omega)]; rfl
    case rest =>
      rintro f m' l' ⟨rfl, t5, ex', rfl, rfl⟩
      dsimp only
      repeat' ((fail_if_success (with_reducible show Tri _ _ _ _ _ (PySem.exec (Stmt.If _ _ _ _) _) _)); walk_at "w2")
      have hul := up2_len c pl cap k
      have hl2 := letter2_len c pl deed cap k
      have hle := letter2_eq c pl deed cap k
      generalize letter2 c pl deed cap k = ll at hl2 hle hstep
      generalize up2 c pl cap k = ul at hul hle ⊢
      refine Tri.mono (Q := fun f m' l' => f = .next ∧ ∃ (t5 : Tok) (ex' : List (Str × Value)) (l4 : Led), m' = lclx [("name", .str (S x) tx), ("place", .int pl t1), ("deed", .int deed t2), ("capital", .int cap t3), ("word", .str (S wl) t4), ("k", .int k tk), ("letter", .str (S ll) t5)] ex' ∧ l' = l4 ++ (I, o) :: l) ?iff2 ?rest2
      case iff2 =>
        repeat' walk_at "w2"
        · rename ((k : Int) == (pl : Int)) = true => c1
          rename decide (0 < (deed : Int)) = true => c2
          rw [str_us]
          repeat' walk_at "w2"
          rw [if_pos ⟨by simp at c1; omega, by simp at c2; omega⟩] at hle
          have hd : deed = 1 ∨ deed = 2 ∨ deed = 3 := by simp at c2; omega
          rcases hd with rfl | rfl | rfl
          · refine Tri.sub_list (.head _) (by decide) (by rw [sizeLine_eq]; show 3 ≤ 16777216; decide) (by rfl) ?_
            repeat' walk_at "w2"
            rw [if_pos rfl] at hle; subst hle
            exact ⟨rfl, _, _, [_], lcl_norm ⟨rfl, rfl, rfl, rfl, rfl, rfl, rfl, trivial⟩, rfl⟩
          · refine Tri.sub_list (.head _) (by decide) (by rw [sizeLine_eq]; show 3 ≤ 16777216; decide) (by rfl) ?_
            repeat' walk_at "w2"
            rw [if_neg (by decide), if_pos rfl] at hle; subst hle
            exact ⟨rfl, _, _, [_], lcl_norm ⟨rfl, rfl, rfl, rfl, rfl, rfl, rfl, trivial⟩, rfl⟩
          · refine Tri.sub_list (.head _) (by decide) (by rw [sizeLine_eq]; show 3 ≤ 16777216; decide) (by rfl) ?_
            repeat' walk_at "w2"
            rw [if_neg (by decide), if_neg (by decide)] at hle; subst hle
            exact ⟨rfl, _, _, [_], lcl_norm ⟨rfl, rfl, rfl, rfl, rfl, rfl, rfl, trivial⟩, rfl⟩
        · rename ((k : Int) == (pl : Int)) = true => c1
          rename decide (0 < (deed : Int)) = false => c2
          rw [if_neg (fun ⟨_, q⟩ => by simp at c2; omega)] at hle; subst hle
          exact ⟨rfl, _, _, [], lcl_norm ⟨rfl, rfl, rfl, rfl, rfl, rfl, rfl, trivial⟩, rfl⟩
        · rename ((k : Int) == (pl : Int)) = false => c1
          rw [if_neg (fun ⟨q, _⟩ => by simp at c1; omega)] at hle; subst hle
          exact ⟨rfl, _, _, [], lcl_norm ⟨rfl, rfl, rfl, rfl, rfl, rfl, rfl, trivial⟩, rfl⟩
      case rest2 =>
        rintro f m' l' ⟨rfl, t6, ex', l4, rfl, rfl⟩
        subst hstep
        dsimp only
        repeat' walk_at "w2"
        refine hQ1 _ _ _ ⟨_, (Sub.refl _).append_left l4, t1, t2, t3, _, _, lcl_norm ⟨rfl, rfl, rfl, rfl, rfl, trivial⟩, rfl⟩
  · rintro m' l' ⟨t1, t2, t3, t4, ex, rfl, rfl⟩
    repeat' walk_at "w2"
    · rename decide (0 < (deed : Int)) = true => c1
      have e : price2 deed cap = (cap : Int) + 2 := by unfold price2; rw [if_pos (by simp at c1; omega)]
      rw [← e]; exact ⟨_, Sub.refl _, h _ _ _⟩
    · rename decide (0 < (deed : Int)) = false => c1
      have e : price2 deed cap = (cap : Int) + 0 := by unfold price2; rw [if_neg (by simp at c1; omega)]
      rw [← e]; exact ⟨_, Sub.refl _, h _ _ _⟩
end

abbrev OkS3 (ss : List Str) : Prop := ∀ s ∈ ss, PyData.strOk s = true
theorem canLay_strs : ∀ {ss : List Str}, OkS3 ss → PyData.canLayAll0 (ss.map .str) = true
  | [], _ => rfl
  | s :: ss, h => by
    rw [List.map_cons]
    simp only [PyData.canLayAll0, PyData.canLay0, h s (.head _), canLay_strs fun x hx => h x (.tail _ hx), Bool.and_self]
theorem depth_strs : ∀ ss : List Str, PyData.depthAll (ss.map .str) = 0
  | [] => by simp [PyData.depthAll]
  | s :: ss => by simp [PyData.depthAll, PyData.depth, depth_strs ss]
abbrev rdata (rs : List (List Str)) : List PyData := rs.map fun r => PyData.list (r.map .str)
theorem canLay_rounds : ∀ {rs : List (List Str)}, (∀ r ∈ rs, OkS3 r) → PyData.canLayAll0 (rdata rs) = true
  | [], _ => rfl
  | r :: rs, h => by
    show PyData.canLayAll0 (PyData.list (r.map .str) :: rdata rs) = true
    simp only [PyData.canLayAll0, PyData.canLay0, canLay_strs (h r (.head _)), canLay_rounds fun x hx => h x (.tail _ hx), Bool.and_self]
theorem depth_rounds : ∀ rs : List (List Str), PyData.depthAll (rdata rs) ≤ 1
  | [] => by simp [PyData.depthAll]
  | r :: rs => by
    have := depth_rounds rs
    show PyData.depthAll (PyData.list (r.map .str) :: rdata rs) ≤ 1
    simp only [PyData.depthAll, PyData.depth, depth_strs]; omega
theorem strs_at {vs : List Value} {ss : List Str} (h : StrsAre vs ss) : ∀ {i : Nat} {v : Value}, vs[i]? = some v → ∃ x t, v = .str x t ∧ ss[i]? = some x := by
  induction h with
  | nil => intro i v hv; cases hv
  | cons x t r ih =>
    intro i v hv
    cases i with
    | zero => cases hv; exact ⟨x, t, rfl, rfl⟩
    | succ i => exact ih (by simpa using hv)
theorem strs_append : ∀ {xs ys : List Value} {as bs : List Str}, StrsAre xs as → StrsAre ys bs → StrsAre (xs ++ ys) (as ++ bs)
  | _, _, _, _, .nil, h => h
  | _, _, _, _, .cons x t r, h => .cons x t (strs_append r h)
theorem strOk_S {x : List Nat} (h : ∀ z ∈ x, z < 128) : PyData.strOk (S x) = true := by
  unfold PyData.strOk S
  simp
  intro z hz
  have := h z hz
  omega
section
variable {w : World}
abbrev sK (w : World) := strKind Challenge.rw_mq0363_02.row.prog w
theorem sK_is (k : Str) (t : Tok) : (sK w).is k (.str k t) = true := strKind_is _ _ _ _
theorem sK_good : Good (sK w) := by
  refine ⟨fun k v h => ?_, fun k v h => ?_⟩ <;>
  · obtain ⟨t, rfl⟩ := Value.isStrOf_shape (h : Value.isStrOf k v = true)
    rfl
theorem strs_of_keys {vs : List Value} {ss : List Str} (h : Keys (sK w) vs ss) : StrsAre vs ss := by
  induction h with
  | nil => exact .nil
  | @cons v k vs ks h1 _ ih =>
    obtain ⟨t, rfl⟩ := Value.isStrOf_shape (h1 : Value.isStrOf k v = true)
    exact .cons _ _ ih
end

theorem near_at {x y pl deed cap : Nat} (hx : x < 4) (hy : y < 4) (hp : pl < 4) (hd : deed < 4) (hc : cap < 2) :
    if y = x then levPy (misspelt (nmL.getD x []) pl deed cap) (nmL.getD y []) 3 = price2 deed cap else 3 < levPy (misspelt (nmL.getD x []) pl deed cap) (nmL.getD y []) 3 := by
  have h := near_all
  have h1 := List.all_eq_true.mp h x (List.mem_range.mpr hx)
  have h2 := List.all_eq_true.mp h1 pl (List.mem_range.mpr hp)
  have h3 := List.all_eq_true.mp h2 deed (List.mem_range.mpr hd)
  have h4 := List.all_eq_true.mp h3 cap (List.mem_range.mpr hc)
  have h5 := List.all_eq_true.mp h4 y (List.mem_range.mpr hy)
  by_cases e : y = x
  · rw [if_pos e] at h5 ⊢
    exact beq_iff_eq.mp h5
  · rw [if_neg e] at h5 ⊢
    exact of_decide_eq_true h5
theorem price2_le {deed cap : Nat} (hc : cap < 2) : price2 deed cap ≤ 3 := by
  unfold price2
  split <;> omega
section
variable {w : World} {mean : ExcName → Option Value} {mg mb : Str → Option Value} {a : Act} {env : Env} {n : Nat} {m : Loc} {l : Led} {Q : VQ}
theorem law_near {ND : Addr} {nrefs : List Value} {ncap : Nat} {tw : Tok} {x pl deed cap : Nat} (hx : x < 4) (hp : pl < 4) (hd : deed < 4) (hc : cap < 2) (hN : (ND, lstO nrefs ncap) ∈ l) (hS : StrsAre nrefs (nmL.map S)) (ok : OkS w mean mg mb a env (n + 3))
    (h : ∀ D T cap' t1 t2, Q (.ref D) m ((D, lstO [.ref T] cap') :: (T, tupO [.int (price2 deed cap) t1, .str (S (nmL.getD x [])) t2]) :: l)) :
    Tri Challenge.rw_mq0363_02.row.prog w a m l (call (.ref 176) [.str (S (misspelt (nmL.getD x []) pl deed cap)) tw, .ref ND]) Q := by
  unfold OkS at ok; revert ok; k_fill; intro ok
  have hlen : (misspelt (nmL.getD x []) pl deed cap).length ≤ 8 := missTo_len _ _ _ _ 4
  have hat := fun y (hy : y < 4) => near_at (x := x) (y := y) hx hy hp hd hc
  have hpr := price2_le (deed := deed) hc
  generalize price2 deed cap = pr at h hat hpr
  generalize misspelt (nmL.getD x []) pl deed cap = wd at hlen hat ⊢
  refine Tri.callFn (binds := [("word", .str (S wd) tw), ("names", .ref ND)]) ok (by k_is) (by k_is) (fun s _ => BindsTo.of_eq rfl) (locs rfl) (fun b okb => ?_) rfl rfl rfl (by decide)
  show Tri _ _ _ (lcl [("names", .ref ND), ("word", .str (S wd) tw)]) _ _ _
  repeat' walk_at "w2"
  rename_i ND2
  refine Tri.For ?_
  repeat' walk_at "w2"
  refine Tri.iter_list (vs := nrefs) (nn := ncap) (by walk_at "mem") fun I => ?_
  refine for_list (vs := nrefs) (nn := ncap) (Ok.handled (by assumption)) (.inl ⟨_, _, rfl⟩) (by walk_at "mem") (fun i m' l' => ∃ (refs : List Value) (cap' : Nat) (X : Led) (ex : List (Str × Value)), m' = lclx [("word", .str (S wd) tw), ("names", .ref ND), ("near", .ref ND2)] ex ∧
    l' = (ND2, lstO refs cap') :: (X ++ l) ∧ ((i ≤ x ∧ refs = [] ∧ X = []) ∨ (x < i ∧ ∃ T t1 t2, refs = [.ref T] ∧ X = [(T, tupO [.int pr t1, .str (S (nmL.getD x [])) t2])]))) ?_ ?_ ?_ ?_
  · rintro i m' l' ⟨refs, cap', X, ex, rfl, rfl, _⟩
    exact .tail _ (List.mem_append_right _ hN)
  · exact ⟨[], 0, [], _, lcl_norm ⟨rfl, rfl, rfl, trivial⟩, rfl, .inl ⟨Nat.zero_le _, rfl, rfl⟩⟩
  · rintro i v o m' l' hv ⟨refs, cap', X, ex, rfl, rfl, hX⟩
    obtain ⟨y, ty, rfl, hy⟩ := strs_at hS hv
    rw [List.getElem?_map] at hy
    obtain ⟨y', hy', rfl⟩ := Option.map_eq_some_iff.mp hy
    have hi : i < 4 := (List.getElem?_eq_some_iff.mp hy').1
    have e1 : nmL.getD i [] = y' := by rw [List.getD_eq_getElem?_getD, hy']; rfl
    have hyl : y'.length ≤ 4 := by
      have : ∀ z ∈ nmL, z.length ≤ 4 := by decide
      exact this _ (List.mem_of_getElem? hy')
    have hati := hat i hi
    rw [e1] at hati
    have hrl : refs.length ≤ 1 := by
      rcases hX with ⟨_, rfl, _⟩ | ⟨_, T, t1, t2, rfl, _⟩ <;> simp
    refine Tri.gen1 fun Q1 hQ1 => ?_
    repeat' ((fail_if_success (with_reducible show Tri _ _ _ _ _ (PySem.call _ _) _)); walk_at "w2")
    refine lev (n := n) (by omega) (by omega) okb fun t9 => ?_
    repeat' walk_at "w2"
    · rename decide (levPy wd y' 3 ≤ 3) = true => c1
      have c1' : levPy wd y' 3 ≤ 3 := by simpa using c1
      have hix : i = x := by
        by_cases e : i = x
        · exact e
        · rw [if_neg e] at hati; omega
      rw [if_pos hix] at hati
      have hX' : refs = [] ∧ X = [] := by
        rcases hX with ⟨_, h2, h3⟩ | ⟨hxi, _⟩
        · exact ⟨h2, h3⟩
        · omega
      obtain ⟨rfl, rfl⟩ := hX'
      rename_i pl2 T
      refine Tri.append (Put.tail (Put.tail Put.head)) (Nat.zero_le _) ⟨rfl, ?_⟩
      repeat' walk_at "w2"
      refine hQ1 _ _ _ ⟨_, ?_, [.ref T], cap' + 1, [(T, tupO [.int pr t9, .str (S (nmL.getD x [])) ty])], _, lcl_norm ⟨rfl, rfl, rfl, trivial⟩, rfl, .inr ⟨by omega, T, t9, ty, rfl, rfl⟩⟩
      rw [hati, ← e1, hix]
      exact ⟨[], by rw [List.append_nil]; exact ((List.Perm.swap ..).cons _).trans (List.Perm.swap ..)⟩
    · rename decide (levPy wd y' 3 ≤ 3) = false => c1
      have c1' : ¬ levPy wd y' 3 ≤ 3 := by simpa using c1
      have hix : i ≠ x := fun e => by rw [if_pos e] at hati; omega
      refine hQ1 _ _ _ ⟨_, Sub.refl _, refs, cap', X, _, lcl_norm ⟨rfl, rfl, rfl, trivial⟩, rfl, ?_⟩
      rcases hX with ⟨h1, h2⟩ | ⟨h1, h2⟩
      · exact .inl ⟨by omega, h2⟩
      · exact .inr ⟨by omega, h2⟩
  · rintro m' l' ⟨refs, cap', X, ex, rfl, rfl, hX⟩
    have hl := hS.length
    have hl4 : nrefs.length = 4 := hl
    rcases hX with ⟨h1, _⟩ | ⟨_, T, t1, t2, rfl, rfl⟩
    · omega
    repeat' walk_at "w2"
    exact ⟨_, Sub.refl _, h _ _ _ _ _⟩
end

def RingTells (P : List (Str × Str)) (Ws : List Str) (ring : Bool) : Prop := ∀ rs rest, Lw P Ws rs rest → (ring = true ↔ rest ≠ [])
theorem ringTells_true {P : List (Str × Str)} {Ws C : List Str} {succ : Str → List Str} (hsu : ∀ p k, k ∈ succ p → (p, k) ∈ P) (hC : Ring succ C) (hCW : ∀ k ∈ C, k ∈ Ws) : RingTells P Ws true := by
  intro rs rest h
  refine ⟨fun _ e => ?_, fun _ => rfl⟩
  obtain ⟨hne, hC⟩ := hC
  have := h.ring (C := C) (fun k hk => let ⟨u, hu, hku⟩ := hC k hk; ⟨u, hu, hsu _ _ hku⟩) hCW
  cases C with
  | nil => exact hne rfl
  | cons x r => have := this x (.head _); rw [e] at this; cases this
theorem ringTells_false {P : List (Str × Str)} {Ws F : List Str} {succ : Str → List Str} (hsu : ∀ p k, (p, k) ∈ P → k ∈ succ p) (hF : Topo succ F) (hall : ∀ e ∈ P, e.1 ∈ F) : RingTells P Ws false := by
  intro rs rest h
  obtain ⟨rho, _, hr⟩ := hF.rank
  have := h.none rho fun e he => hr e.1 (hall e he) e.2 (hsu _ _ he)
  exact ⟨fun h => Bool.noConfusion h, fun h => (h this).elim⟩
structure RI2 (w : World) (P : List (Str × Str)) (Ws K : List Str) (rA : Addr) (S : Srt) (rows : List (Row Str)) (rvs : List Value) (H R now : List Str) (rrefs : List Value) (Xr : Led) (rs : List (List Str)) : Prop where
  rv : S.rv = .ref rA
  so : SOk (sK w) S rows 400
  ks : Keys (sK w) rvs R
  run : ∃ rows0 : List (Row Str), absR rows = R.foldl (setNp (-1)) (absR rows0) ∧ Run (P.map fun e => (e.2, e.1)) K (absR rows0) H R
  nd : now.Nodup
  mem : ∀ k, k ∈ now ↔ k ∈ K ∧ k ∉ H
  rl : LReadsAll Xr rrefs (rdata rs)
  le : rrefs.length + now.length ≤ 8
  lv : ∀ rs' rest, Lw P now rs' rest → Lw P Ws (rs ++ rs') rest
theorem after_lt2 {P : List (Str × Str)} {now : List Str} (h : fresh P now ≠ []) : (after P now).length < now.length := by
  unfold after
  refine List.length_filter_lt_length_iff_exists.mpr ?_
  cases e : fresh P now with
  | nil => exact (h e).elim
  | cons x r =>
    have : x ∈ fresh P now := by rw [e]; exact .head _
    obtain ⟨h1, h2⟩ := List.mem_filter.mp this
    exact ⟨x, h1, by simpa using h2⟩
theorem shaped_tup {ss : List Str} (h : OkS3 ss) : SeqAt.shaped (.tuple (ss.map .str)) = true :=
  shaped_of (by simp only [PyData.canLay0]; exact canLay_strs h) (by simp only [PyData.depth, depth_strs]; decide)
theorem eqv_nilT (ss : List Str) : PyData.eqv (.tuple (ss.map .str)) (.tuple []) = ss.isEmpty := by
  cases ss with
  | nil => rfl
  | cons s ss => rfl
section
variable {w : World} {mean : ExcName → Option Value} {mg mb : Str → Option Value} {a : Act} {env : Env} {n : Nat} {m : Loc} {l : Led} {Q : VQ}
theorem law_course {S0 : Srt} {rows0 : List (Row Str)} {P : List (Str × Str)} {Ws : List Str} (so : SOk (sK w) S0 rows0 400) (hrv : S0.rv = .none) (B : Built (absR rows0) (P.map fun e => (e.2, e.1))) (hk : ∀ k, k ∈ (absR rows0).map (·.key) ↔ k ∈ Ws)
    (hnd : Ws.Nodup) (hWl : Ws.length ≤ 8) (hWo : OkS3 Ws) (ok : OkS w mean mg mb a env (n + 5))
    (h : ∀ ring T RD rrefs rc Xr rs rest, Lw P Ws rs rest → RingTells P Ws ring → LReadsAll Xr rrefs (rdata rs) → Q (.ref T) m ((T, tupO [.bool ring, .ref RD]) :: (RD, lstO rrefs rc) :: (Xr ++ l))) :
    Tri Challenge.rw_mq0363_02.row.prog w a m (sled w S0 (cells rows0 ++ l)) (call (.ref 183) [.ref S0.sA]) Q := by
  unfold OkS at ok; revert ok; k_fill; intro ok
  refine Tri.callFn (binds := [("sorter", .ref S0.sA)]) ok (by k_is) (by k_is) (fun s _ => BindsTo.of_eq rfl) (locs rfl) (fun b okb => ?_) rfl rfl rfl (by decide)
  show Tri _ _ _ (lcl [("sorter", .ref S0.sA)]) _ _ _
  repeat' walk_at "w2"
  have hsu : ∀ p k, k ∈ succOf (absR rows0) p ↔ (p, k) ∈ P := fun p k => by
    rw [B.su]
    simp only [List.mem_map, List.mem_filter]
    constructor
    · rintro ⟨e, ⟨⟨e', he', rfl⟩, h2⟩, rfl⟩
      have h2 : e'.1 = p := by simpa using h2
      rw [← h2]; exact he'
    · intro hp
      exact ⟨(k, p), ⟨⟨(p, k), hp, rfl⟩, by simp⟩, rfl⟩
  refine Tri.mono (Q := fun f m' l' => f = .next ∧ ∃ (ring : Bool) (rA : Addr) (rvs : List Value) (cap : Nat) (ex : List (Str × Value)), m' = lclx [("sorter", .ref S0.sA), ("ring", .bool ring)] ex ∧ l' = sled w { S0 with rv := .ref rA } ((rA, lstO rvs cap) :: (cells rows0 ++ l)) ∧
    Keys (sK w) rvs (ready0 (absR rows0)) ∧ SOk (sK w) { S0 with rv := .ref rA } rows0 400 ∧ RingTells P Ws ring) ?tri ?cont
  case tri =>
    refine Tri.TryF (bmB := [.type "ValueError", .type "Exception", .type "BaseException", .type "object"]) (newId := "ValueError.__new__")
      (fun m' l' => ∃ (rA : Addr) (rvs : List Value) (cap : Nat) (ex : List (Str × Value)), m' = lclx [("sorter", .ref S0.sA), ("ring", .bool false)] ex ∧ l' = sled w { S0 with rv := .ref rA } ((rA, lstO rvs cap) :: (cells rows0 ++ l)) ∧ Keys (sK w) rvs (ready0 (absR rows0)) ∧ SOk (sK w) { S0 with rv := .ref rA } rows0 400 ∧ RingTells P Ws true)
      okb (by k_is) (by k_exc) (by rfl) ?_ ?_
    · refine TriF.sole (TriF.ExprS (TriF.method ?_))
      repeat' walk_at "w2"
      refine TriF.withK0 okb (by k_is) ?_
      show TriF _ _ _ _ _ _ (call (.ref 106) [.ref S0.sA]) _ _ _
      refine s_prep2 (n := n + 1) sK_good so hrv (by decide) B.hin okb (fun F rA rvs cap hF hall hks so1 => ?_) (fun C rA rvs cap hC hCk hks so1 => ?_)
      · refine ⟨rfl, rfl, false, rA, rvs, cap, _, lcl_norm ⟨rfl, rfl, trivial⟩, rfl, hks, so1, ringTells_false (fun p k hp => (hsu p k).mpr hp) hF fun e he => hall _ ?_⟩
        exact (B.inn (e.2, e.1) (List.mem_map.mpr ⟨e, he, rfl⟩)).2
      · exact ⟨rA, rvs, cap, _, lcl_norm ⟨rfl, rfl, trivial⟩, rfl, hks, so1, ringTells_true (fun p k hp => (hsu p k).mp hp) hC fun k hk' => (hk k).mp (hCk k hk')⟩
    · rintro b2 m' l' hbL ⟨rA, rvs, cap, ex, rfl, rfl, hks, so1, hrt⟩
      repeat' walk_at "w2"
      exact ⟨rfl, true, rA, rvs, cap, _, lcl_norm ⟨rfl, rfl, trivial⟩, rfl, hks, so1, hrt⟩
  case cont =>
    rintro f m' l' ⟨rfl, ring, rA, rvs, cap, ex, rfl, rfl, hks, so1, hrt⟩
    dsimp only
    have hR0 := B.run
    have hm0 : ∀ k, k ∈ Ws ↔ k ∈ (absR rows0).map (·.key) ∧ k ∉ ([] : List Str) := fun k => by rw [hk]; simp
    have hRl : (ready0 (absR rows0)).length ≤ 8 := by
      obtain ⟨hRp, _, _⟩ := hR0.left hnd hm0
      rw [hRp.length_eq]
      exact Nat.le_trans (List.length_filter_le ..) hWl
    repeat' walk_at "w2"
    rename_i RD pl0
    generalize hS1 : ({ S0 with rv := .ref rA } : Srt) = S1 at so1 ⊢
    have hsA : S1.sA = S0.sA := by rw [← hS1]
    have hrv1 : S1.rv = .ref rA := by rw [← hS1]
    rw [← hsA]
    clear hS1
    refine Tri.perm (l' := sled w S1 ((rA, lstO rvs cap) :: (cells rows0 ++ ((RD, lstO [] 0) :: ([] ++ l))))) ?_ ?_
    · exact (sled_ins w S1 ((rA, lstO rvs cap) :: cells rows0) l [(RD, lstO [] 0)])
    refine s_ready (n := n + 2) sK_good so1 hrv1 (by decide) hks (fun c hc => ((hR0.rm c).mp hc).1) (by omega) okb fun T rows1 nn1 tp1 so2 habs => ?_
    generalize hS2 : ({ S1 with po := S1.po + (ready0 (absR rows0)).length, tp := tp1 } : Srt) = S2
    have hsA2 : S2.sA = S1.sA := by rw [← hS2]
    have hrv2 : S2.rv = .ref rA := by rw [← hS2]; exact hrv1
    have so3 : SOk (sK w) S2 rows1 400 := by rw [← hS2]; exact ⟨so2.dic, so2.sys, so2.rok, so2.len, so2.suc⟩
    clear hS2
    repeat' walk_at "w2"
    refine Tri.mono (Q := fun f m' l' => f = .next ∧ ∃ (S : Srt) (rows : List (Row Str)) (nn : Nat) (X0 : Led) (rrefs : List Value) (rc : Nat) (Xr : Led) (rs : List (List Str)) (rest : List Str) (ex : List (Str × Value)), 
        m' = lclx [("sorter", .ref S1.sA), ("ring", .bool ring), ("rounds", .ref RD)] ex ∧
        l' = X0 ++ sled w S ((rA, lstO [] nn) :: (cells rows ++ ((RD, lstO rrefs rc) :: (Xr ++ l)))) ∧ Lw P Ws rs rest ∧ LReadsAll Xr rrefs (rdata rs)) ?loop ?fin
    case fin =>
      rintro f m' l' ⟨rfl, S, rows, nn, X0, rrefs, rc, Xr, rs, rest, ex, rfl, rfl, hlw, hrl⟩
      dsimp only
      repeat' walk_at "w2"
      refine ⟨_, ?_, h ring _ RD rrefs rc Xr rs rest hlw hrt hrl⟩
      refine Sub.cons₂ _ (Sub.append_left ?_ X0)
      refine Sub.perm (Sub.refl _ |>.append_left (sled w S ((rA, lstO [] nn) :: cells rows))) ?_
      show (sled w S ((rA, lstO [] nn) :: cells rows) ++ _).Perm (sled w S ((rA, lstO [] nn) :: cells rows ++ _))
      exact List.Perm.refl _
    case loop =>
      refine Tri.While (fun q m' l' => ∃ (S : Srt) (rows : List (Row Str)) (rvs : List Value) (nn : Nat) (H R now : List Str) (T : Addr) (rrefs : List Value) (rc : Nat) (Xr : Led) (rs : List (List Str)) (ex : List (Str × Value)), q = now.length ∧ S.sA = S1.sA ∧
          m' = lclx [("sorter", .ref S1.sA), ("ring", .bool ring), ("rounds", .ref RD), ("ready", .ref T)] ex ∧
          l' = (T, tupO rvs) :: sled w S ((rA, lstO [] nn) :: (cells rows ++ ((RD, lstO rrefs rc) :: (Xr ++ l)))) ∧ RI2 w P Ws ((absR rows0).map (·.key)) rA S rows rvs H R now rrefs Xr rs) Ws.length ?_ ?_
      · exact ⟨S2, rows1, rvs, nn1, [], _, Ws, T, [], 0, [], [], _, rfl, hsA2, lcl_norm ⟨rfl, rfl, rfl, rfl, trivial⟩, rfl, ⟨hrv2, so3, hks, ⟨rows0, habs, hR0⟩, hnd, hm0, .nil, by simp; omega, fun rs' rest h => h⟩⟩
      · rintro q m' l' ⟨S, rows2, rvs2, nn2, H, R, now, T, rrefs, rc, Xr, rs, ex, rfl, hsA3, rfl, rfl, inv⟩
        rw [← hsA3]
        obtain ⟨rows0', habs0, hrun⟩ := inv.run
        obtain ⟨hRp, hmem', hnd'⟩ := hrun.left inv.nd inv.mem
        have hRlen : R.length ≤ now.length := by rw [hRp.length_eq]; exact List.length_filter_le ..
        have hle := inv.le
        have hvl := inv.ks.length
        have hz : rvs2.length ≤ sizeLine := by rw [sizeLine_eq]; omega
        have hrv2 := inv.rv
        refine Tri.gen3 fun Q3 Q4 hQ3 hQ4 => ?_
        repeat' walk_at "w2"
        have hRW : OkS3 R := fun s hs => hWo s ((hk s).mp ((hrun.rm s).mp hs).1)
        refine Tri.ne_data (dx := .tuple (R.map .str)) (dy := .tuple []) (.tuple (.tail _ (.head _)) (LReadsAll.strs (strs_of_keys inv.ks))) (.tuple (.head _) .nil) (shaped_tup hRW) (by rfl) (by have := okb.units; omega) ?_
        rw [eqv_nilT]
        have hRD : (RD, lstO rrefs rc) ∈ cells rows2 ++ ((RD, lstO rrefs rc) :: (Xr ++ l)) := List.mem_append.mpr (.inr (.head _))
        have hz3 : rrefs.length ≤ sizeLine := by rw [sizeLine_eq]; omega
        repeat' walk_at "w2"
        · rename (!R.isEmpty) = true => hb
          have hne : fresh P now ≠ [] := fun e => by
            rw [e] at hRp
            rw [hRp.eq_nil] at hb; simp at hb
          have hI := strs_of_keys inv.ks
          refine Tri.sorted_tup_strs (.tail _ (.head _)) hI (by omega) fun SR out se fr hout hp' hs' => ?_
          repeat' walk_at "w2"
          refine Tri.append (Put.tail (Put.tail (Put.tail (Put.tail (Put.tail (Put.tail (Put.tail (Put.head.right (cells rows2))))))))) hz3 ⟨rfl, ?_⟩
          repeat' ((fail_if_success (with_reducible show Tri _ _ _ _ _ (PySem.callWith _ _ _ _ _) _)); walk_at "w2")
          rename_i qD
          refine Tri.withSM (vs := rvs2) (nn := 0) (D := T) (o := tupO rvs2) (fa := 134) (self := .ref S.sA) (T := "tuple") (.inr rfl) okb (by k_is) ?_ rfl rfl hz
          repeat' walk_at "w2"
          refine ⟨rfl, by walk_at "mem", .head _, ?_⟩
          refine Tri.callBound (.head _) ?_
          rw [List.nil_append]
          refine CTri.perm (sled_ins w S ((rA, lstO [] nn2) :: cells rows2) ((RD, lstO (rrefs ++ [Value.ref SR]) (rc + 1)) :: (Xr ++ l)) [(qD, methodObj (.ref 134) (.ref S.sA)), (SR, lstO out se), (_, tupO []), (T, tupO rvs2)]) ?_
          obtain ⟨hok, hstep⟩ := hrun.step
          refine s_done (n := n + 2) (rA := rA) (rks := []) (dks := R) (rvs := []) (dvs := rvs2) sK_good inv.so hrv2 (by decide) .nil inv.ks (by decide) (by omega) (by rw [habs0]; exact hok) okb fun rows5 rvs5 rks5 cap5 tf5 so5 hk5 habs5 => ⟨rfl, ?_⟩
          rw [habs0] at habs5
          rw [← habs5] at hstep
          have hltn := after_lt2 hne
          obtain ⟨hRp5, hmem5, hnd5⟩ := hstep.left hnd' hmem'
          have hR5 : rks5.length ≤ (after P now).length := by rw [hRp5.length_eq]; exact List.length_filter_le ..
          generalize hS5 : ({ S with fi := S.fi + R.length, tf := tf5 } : Srt) = S5
          have hsA5 : S5.sA = S.sA := by rw [← hS5]
          have hrv5 : S5.rv = .ref rA := by rw [← hS5]; exact hrv2
          have so6 : SOk (sK w) S5 rows5 400 := by rw [← hS5]; exact ⟨so5.dic, so5.sys, so5.rok, so5.len, so5.suc⟩
          clear hS5 so5
          rw [← hsA5]
          repeat' walk_at "w2"
          refine s_ready (n := n + 2) sK_good so6 hrv5 (by decide) hk5 (fun c hc => by rw [hstep.keys]; exact ((hstep.rm c).mp hc).1) (by omega) okb fun T7 rows7 nn7 tp7 so7 habs7 => ?_
          generalize hS7 : ({ S5 with po := S5.po + rks5.length, tp := tp7 } : Srt) = S7
          have hsA7 : S7.sA = S5.sA := by rw [← hS7]
          have hrv7 : S7.rv = .ref rA := by rw [← hS7]; exact hrv5
          have so8 : SOk (sK w) S7 rows7 400 := by rw [← hS7]; exact ⟨so7.dic, so7.sys, so7.rok, so7.len, so7.suc⟩
          clear hS7 so7
          repeat' walk_at "w2"
          refine hQ3 _ _ _ ⟨(after P now).length, (T7, tupO rvs5) :: sled w S7 ((rA, lstO [] nn7) :: (cells rows7 ++ ((RD, lstO (rrefs ++ [Value.ref SR]) (rc + 1)) :: (((SR, lstO out se) :: Xr) ++ l)))), hltn, ?_, S7, rows7, rvs5, nn7, H ++ R, rks5, after P now, T7, rrefs ++ [Value.ref SR], rc + 1, (SR, lstO out se) :: Xr, rs ++ [fr], _, rfl, hsA7.trans hsA5, lcl_norm ⟨?_, rfl, rfl, rfl, trivial⟩, rfl, ?_⟩
          · refine Sub.cons₂ _ (sled_sub w _ ((rA, lstO [] nn7) :: cells rows7) ?_)
            refine Sub.permL (l' := (SR, lstO out se) :: (RD, lstO (rrefs ++ [Value.ref SR]) (rc + 1)) :: (Xr ++ l)) (List.Perm.swap ..) (Sub.cons _ (Sub.cons₂ _ (Sub.cons _ (Sub.cons _ (Sub.refl _)))))
          · show some (Value.ref S5.sA) = some (Value.ref S.sA)
            rw [hsA5]
          · refine ⟨hrv7, so8, hk5, ⟨rows5, habs7, hstep⟩, hnd', hmem', ?_, ?_, fun rs' rest h' => ?_⟩
            · show LReadsAll _ _ ((rs ++ [fr]).map fun r => PyData.list (r.map .str))
              rw [List.map_append]
              exact LReadsAll.snoc (.list (.head _) (LReadsAll.strs hout)) (inv.rl.mono fun p hp => .tail _ hp)
            · rw [List.length_append, List.length_singleton]; omega
            · rw [List.append_assoc]
              exact inv.lv _ _ (.step hne (hp'.trans hRp) hs' h')
        · rename (!R.isEmpty) = true => hb
          rename decide _ = false => hb2
          have : ¬ ((rrefs.length : Int) < 9) := by simpa using hb2
          omega
        · rename (!R.isEmpty) = false => hb
          have hR0 : R = [] := by cases R with | nil => rfl | cons => simp at hb
          have hfe : fresh P now = [] := by rw [hR0] at hRp; exact List.nil_perm.mp hRp
          have hlw := inv.lv [] now (.stop hfe)
          rw [List.append_nil] at hlw
          refine hQ4 _ _ _ ⟨rfl, S, rows2, nn2, [_, _], rrefs, rc, Xr, rs, now, _, lcl_norm ⟨rfl, rfl, rfl, trivial⟩, rfl, hlw, inv.rl⟩
end

abbrev cellO : Obj := { cls := .type "cell", data := .cell none }
section
variable {M : Model} {A : Around} {E : Value → Shared → Prop} {s : Shared}
theorem newEnv_cell {scope : Scope} {globals : Addr} {closure : List (Str × Addr)} {qual : Str} {env0 : Env} {y : Str} {Q : Env → Shared → Prop}
    (hcf : ∀ n, cellsFrom n scope.names closure = (y, n) :: closure) (hpc : ∀ h, pushCells h scope.names = h.push cellO)
    (hQ : Q (newEnv scope s.heap.objs.size globals ((y, s.heap.objs.size + 1) :: closure) qual none .none (some env0) builtinsNs) { s with heap := (s.heap.push { cls := .type "dict", data := .dict #[] }).push cellO }) :
    wpAny M A (newFunctionEnv scope globals closure [] qual none .none (some env0)) Q E s := by
  simp only [newFunctionEnv, Option.isSome_some, if_true]
  refine wpAny_bind (wpAny_alloc ?_)
  refine wpAny_bind (wpAny_layCells _ (fun name kind cells => by cases hkc : kind == NameKind.cell <;> simp [hkc]) _ _ _ _ ?_)
  rw [hpc, hcf]
  rw [show ({ s with heap := s.heap.push { cls := .type "dict", data := .dict #[] } } : Shared).heap.objs.size = s.heap.objs.size + 1 from Heap.size_push ..]
  refine wpAny_bind ?_
  rw [List.forIn_nil]
  exact wpAny_pure (wpAny_pure hQ)
end
section
variable {prog : Program} {w : World} {K : Frag} {p : Program} {loose : List Str} {mean : ExcName → Option Value} {mg mb : Str → Option Value} {a : Act} {env : Env} {n : Nat} {m : Loc} {l : Led}
theorem compWC {elt target iter : Expr} {ifs : List Expr} {scope : Scope} {cl : List (Str × Addr)} {pos : Pos} {Q : VQ} {I : Addr} {o₀ : Obj} {fs : List Addr} {n' : Nat} {P : Nat → Value → Prop} {St : Nat → Heap → Prop} (W : Walks prog w a.A I (I :: fs) [I] n' P St)
    (okc : OkC K p loose mean mg mb a) {yc : Str} (hcf : ∀ n, cellsFrom n scope.names cl = (yc, n) :: cl) (hpc : ∀ h, pushCells h scope.names = h.push cellO) (hkind : scope.kind = .function)
    (hob : ∀ i h, St i h → ∃ o, h.get? I = some o) (kp : Led) (hfs : ∀ b ∈ fs, ∃ o, (b, o) ∈ kp)
    (hgo : ∀ (s : Shared) (Q : Unit → Shared → Prop) (E : Value → Shared → Prop) i v, P i v → St (i + 1) s.heap → Q () s → wpAny (model prog w) a.A (letOwnedTupleGo target (.ref I) v) Q E s)
    (J : Addr → Nat → List Value → Led → Prop) (hkp : ∀ c i ys l, J c i ys l → ∀ p ∈ kp, p ∈ l) (hz : ∀ c i ys l, J c i ys l → ys.length ≤ sizeLine) (hj : ∀ c, J c 0 [] ((c, cellO) :: l))
    (st0 : ∀ g h : Heap, News g a.L h ((I, o₀) :: l) → St 0 h)
    (turn : ∀ (b : Act) i v o D nn ys ex l, b.A = a.A → OkC K p loose mean mg mb b → i < n' → P i v → J (b.L + 1) i ys l → Tri prog w b (lcl ex) ((I, o) :: (D, lstO ys nn) :: l) (assign target (compEnvC scope ((yc, b.L + 1) :: cl) b.L env) v) fun _ m1 l1 =>
      Tri prog w b m1 l1 (tests ifs (compEnvC scope ((yc, b.L + 1) :: cl) b.L env)) fun t m2 l2 => (t = true → Tri prog w b m2 l2 (eval elt (compEnvC scope ((yc, b.L + 1) :: cl) b.L env)) fun x m3 l3 => (∃ ex', m3 = lcl ex') ∧ ∃ l4, Sub ((I, o) :: (D, lstO ys nn) :: l4) l3 ∧ J (b.L + 1) (i + 1) (ys ++ [x]) l4) ∧
        (t = false → (∃ ex', m2 = lcl ex') ∧ ∃ l4, Sub ((I, o) :: (D, lstO ys nn) :: l4) l2 ∧ J (b.L + 1) (i + 1) ys l4))
    (done : ∀ c D ys nn l, J c n' ys l → Q (.ref D) m ((D, lstO ys nn) :: l)) : CompAt prog w a env elt target iter ifs scope cl pos Q (.ref I) m ((I, o₀) :: l) := by
  refine ⟨fun E RR s gF iF F N D₀ k => ?_⟩
  refine newList_K F N (fun D hD FD ND' lt => ?_) (by decide)
  have DD : ND ((D, lstO [] 0) :: (I, o₀) :: l) := nd_cons D₀ lt
  obtain ⟨st, back⟩ := ground FD ND'
  generalize hg : hideAll hD (((D, lstO [] 0) :: (I, o₀) :: l).map (·.1)) = g at st back
  refine newEnv_cell hcf hpc ?_
  have hC : ∀ b o, hD.get? b = some o → b ≠ hD.objs.size := fun b o e => Nat.ne_of_lt (Heap.lt_size e)
  have keep₁ : ∀ b o, hD.get? b = some o → ((hD.push { cls := .type "dict", data := .dict #[] }).push cellO).get? b = some o := fun b o e => Heap.get?_push_of_some _ (Heap.get?_push_of_some _ e)
  have hns : ((hD.push { cls := .type "dict", data := .dict #[] }).push cellO).Ns hD.objs.size (lcl []) := (Heap.Ns.new hD (.type "dict")).keeps fun b o e => Heap.get?_push_of_some _ e
  have hcO : ((hD.push { cls := .type "dict", data := .dict #[] }).push cellO).get? (hD.objs.size + 1) = some cellO := by
    have := Heap.get?_push_size (o := cellO) (hD.push { cls := .type "dict", data := .dict #[] }) rfl
    rwa [Heap.size_push] at this
  generalize ((hD.push { cls := .type "dict", data := .dict #[] }).push cellO) = h₁ at keep₁ hns hcO ⊢
  have FC : Fr g hD.objs.size h₁ (lcl []) := ⟨hns, fun b o e => keep₁ b o (of_hideAll _ (hg ▸ e)), by rw [← hg]; exact Nat.le_of_eq (hideAll_size _ _)⟩
  have NC : News g hD.objs.size h₁ ((D, lstO [] 0) :: (I, o₀) :: l) := fun p hp => ⟨keep₁ _ _ (ND' p hp).1, hC _ _ (ND' p hp).1, by rw [← hg]; exact hideAll_none _ (List.mem_map_of_mem hp)⟩
  have NC2 : News g hD.objs.size h₁ ((I, o₀) :: (D, lstO [] 0) :: (hD.objs.size + 1, cellO) :: l) := fun p hp => by
    rcases List.mem_cons.mp hp with rfl | hp
    · exact NC _ (.tail _ (.head _))
    rcases List.mem_cons.mp hp with rfl | hp
    · exact NC _ (.head _)
    rcases List.mem_cons.mp hp with rfl | hp
    · refine ⟨hcO, Nat.succ_ne_self _, ?_⟩
      cases e : g.get? (hD.objs.size + 1) with
      | none => rfl
      | some o => exact absurd (Heap.lt_size (of_hideAll _ (hg ▸ e))) (Nat.not_lt.mpr (Nat.le_succ _))
    · exact NC _ (.tail _ (.tail _ hp))
  have ND2 : ND ((I, o₀) :: (D, lstO [] 0) :: (hD.objs.size + 1, cellO) :: l) := by
    have hall : ∀ p ∈ (D, lstO [] 0) :: (I, o₀) :: l, p.1 < hD.objs.size + 1 := fun p hp => Nat.lt_succ_of_lt (Heap.lt_size (ND' p hp).1)
    have h1 := nd_cons (o := cellO) DD hall
    have hp : ((I, o₀) :: (D, lstO [] 0) :: (hD.objs.size + 1, cellO) :: l).Perm ((hD.objs.size + 1, cellO) :: (D, lstO [] 0) :: (I, o₀) :: l) :=
      (List.Perm.swap ..).trans (((List.Perm.swap ..).cons _).trans (List.Perm.swap ..))
    exact (hp.map Prod.fst).nodup_iff.mpr h1
  have hDI : D ≠ I := fun e => (List.nodup_cons.mp DD).1 (by rw [e]; exact List.mem_cons_self ..)
  let b : Act := ⟨a.A, g, hD.objs.size, [], a.base⟩
  have okb : OkC K p loose mean mg mb b := ⟨okc.kin, okc.top, okc.handled⟩
  have tb : Turned b g := ⟨.refl, fun x o e => st x o (iF.stays x o e)⟩
  have hst0 : St 0 h₁ := by
    obtain ⟨_, N1⟩ := back h₁ ((D, lstO [] 0) :: (I, o₀) :: l) FC.keep fun p hp => ⟨(NC p hp).1, (NC p hp).2.2⟩
    exact st0 _ h₁ fun p hp => N1 p (.tail _ hp)
  have sw : ∀ {ys : List Value} {nn : Nat} {oi : Obj} {l' : Led}, Sub ((I, oi) :: (D, lstO ys nn) :: l') ((D, lstO ys nn) :: (I, oi) :: l') := ⟨[], by simp; exact List.Perm.swap ..⟩
  have loop : codeAny (model prog w) a.A (.compLoop (.ListComp elt [⟨target, iter, ifs, 0⟩] scope pos) 0 (.ref I) (.ref D) (compEnvC scope ((yc, hD.objs.size + 1) :: cl) hD.objs.size env)) (RR (.ref D) hD.objs.size) { s with heap := h₁ } := by
    refine compLoopG (fun q s' => ∃ i ys nn ex l' o h' tk' g', s' = { s with heap := h', toks := tk' } ∧ Turned b g' ∧ Fr g' hD.objs.size h' (lcl ex) ∧ News g' hD.objs.size h' ((I, o) :: (D, lstO ys nn) :: l') ∧ ND ((I, o) :: (D, lstO ys nn) :: l') ∧ J (hD.objs.size + 1) i ys l' ∧ St i h' ∧ i ≤ n' ∧ q = n' - i) ?_ n'
      ⟨0, [], 0, [], (hD.objs.size + 1, cellO) :: l, o₀, h₁, _, g, rfl, tb, FC, NC2, ND2, hj _, hst0, Nat.zero_le _, rfl⟩
    rintro q s' ⟨i, ys, nn, ex, l', o, h', tk', g', rfl, i', F', N', D', hj', hst, hi, rfl⟩ E'
    have hI : g'.get? I = none := (N' _ (.head _)).2.2
    have hIL : I ≠ hD.objs.size := (N' _ (.head _)).2.1
    have moved : ∀ h₂ : Heap, (∀ b ob, b ∉ [I] → h'.get? b = some ob → h₂.get? b = some ob) → Fr g' hD.objs.size h₂ (lcl ex) ∧ News g' hD.objs.size h₂ ((D, lstO ys nn) :: l') := by
      intro h₂ hk
      obtain ⟨oL, es, ep, hL, r⟩ := F'.ns
      refine ⟨⟨⟨oL, es, ep, hk _ _ (fun h => hIL (List.mem_singleton.mp h).symm) hL, r⟩, fun b ob e => hk b ob (fun h => by rw [List.mem_singleton.mp h, hI] at e; cases e) (F'.keep b ob e), F'.above⟩, fun p hp => ⟨hk _ _ (fun h => ?_) (N' p (.tail _ hp)).1, (N' p (.tail _ hp)).2⟩⟩
      exact (List.nodup_cons.mp D').1 (by have := List.mem_map_of_mem (f := Prod.fst) hp; rw [List.mem_singleton.mp h] at this; exact this)
    by_cases hlt : i < n'
    · refine W.item i _ _ _ hlt hst fun v h₂ tk₂ hP hst₂ hk => ?_
      obtain ⟨F2, N2⟩ := moved h₂ hk
      obtain ⟨o₂, ho₂⟩ := hob _ _ hst₂
      have N3 : News g' hD.objs.size h₂ ((I, o₂) :: (D, lstO ys nn) :: l') := fun p hp => by
        rcases List.mem_cons.mp hp with rfl | hp
        · exact ⟨ho₂, hIL, hI⟩
        · exact N2 p hp
      have D3 : ND ((I, o₂) :: (D, lstO ys nn) :: l') := D'
      refine hgo _ _ _ i v hP hst₂ ?_
      have nxt : ∀ h5 t5 g5 ys' nn' ex' l3, Turned b g5 → Fr g5 hD.objs.size h5 (lcl ex') → News g5 hD.objs.size h5 ((I, o₂) :: (D, lstO ys' nn') :: l3) → ND ((I, o₂) :: (D, lstO ys' nn') :: l3) → J (hD.objs.size + 1) (i + 1) ys' l3 →
          ∃ mm, mm < n' - i ∧ ∃ i_1 ys nn ex l' o h' tk' g', ({ s with heap := h5, toks := t5 } : Shared) = { s with heap := h', toks := tk' } ∧ Turned b g' ∧ Fr g' hD.objs.size h' (lcl ex) ∧ News g' hD.objs.size h' ((I, o) :: (D, lstO ys nn) :: l') ∧ ND ((I, o) :: (D, lstO ys nn) :: l') ∧ J (hD.objs.size + 1) i_1 ys l' ∧ St i_1 h' ∧ i_1 ≤ n' ∧ mm = n' - i_1 := by
        intro h5 t5 g5 ys' nn' ex' l3 i5 F5 N5 D5 hj3
        refine ⟨n' - (i + 1), by omega, i + 1, ys', nn', ex', l3, o₂, h5, t5, g5, rfl, i5, F5, N5, D5, hj3, W.frame _ _ _ hst₂ ?_, hlt, rfl⟩
        intro b hb ob e
        rcases List.mem_cons.mp hb with rfl | hb
        · rw [ho₂] at e; cases e; exact (N5 _ (.head _)).1
        · obtain ⟨ob', hm⟩ := hfs b hb
          have e1 := (N2 _ (.tail _ (hkp _ _ _ _ hj' _ hm))).1
          have : ob = ob' := Option.some.inj (e.symm.trans e1)
          subst this
          exact (N5 _ (.tail _ (.tail _ (hkp _ _ _ _ hj3 _ hm)))).1
      refine (turn b i v o₂ D nn ys ex l' rfl okb hlt hP hj').run _ _ _ _ i' F2 N3 D3 fun _ m4 l4 h4 t4 g4 i4 F4 N4 D4 q4 => q4.run _ _ _ _ i4 F4 N4 D4 fun ok m5 l5 h5 t5 g5 i5 F5 N5 D5 q5 => ?_
      cases ok with
      | false =>
        obtain ⟨⟨ex', rfl⟩, l6, hs, hj6⟩ := q5.2 rfl
        exact nxt _ _ _ _ _ _ _ i5 F5 (fun p hp => N5 p (hs.mem p hp)) (hs.nd D5) hj6
      | true =>
        refine (q5.1 rfl).run _ _ _ _ i5 F5 N5 D5 fun x m6 l6 h6 t6 g6 i6 F6 N6 D6 q6 => ?_
        obtain ⟨⟨ex', rfl⟩, l7, hs, hj7⟩ := q6
        exact (Tri.append (Put.tail Put.head) (hz _ _ _ _ hj') ⟨rfl, rfl, rfl⟩ : Tri prog w b (lcl ex') ((I, o₂) :: (D, lstO ys nn) :: l7) _ fun v m8 l8 => v = .none ∧ m8 = lcl ex' ∧ l8 = (I, o₂) :: (D, lstO (ys ++ [x]) (nn + 1)) :: l7).run _ _ _ _ i6 F6 (fun p hp => N6 p (hs.mem p hp)) (hs.nd D6) fun v m8 l8 h8 t8 g8 i8 F8 N8 D8 q8 => by
          obtain ⟨rfl, rfl, rfl⟩ := q8
          exact nxt _ _ _ _ _ _ _ i8 F8 N8 D8 hj7
    · have hin : i = n' := Nat.le_antisymm hi (Nat.not_lt.mp hlt)
      subst hin
      refine W.done _ _ _ hst fun h₂ tk₂ hk => ?_
      obtain ⟨F2, N2⟩ := moved h₂ hk
      obtain ⟨oC, es, ep, hoC, r⟩ := F2.ns
      have same : ∀ x o, g.get? x = some o → g'.get? x = some o := fun x o e => i'.turn.other x o e (fun z => nomatch z)
      have hCn : g.get? hD.objs.size = none := by
        cases e : g.get? hD.objs.size with
        | none => rfl
        | some o => exact absurd (Heap.lt_size (of_hideAll _ (hg ▸ e))) (Nat.lt_irrefl _)
      obtain ⟨F3, N3⟩ := back h₂ ((hD.objs.size, oC) :: (D, lstO ys nn) :: l') (fun x o e => F2.keep x o (same x o e)) fun p hp => by
        rcases List.mem_cons.mp hp with rfl | hp
        · exact ⟨hoC, hCn⟩
        · exact ⟨(N2 p hp).1, kts_none same (N2 p hp).2.2⟩
      refine k D hD.objs.size oC ((D, lstO ys nn) :: l') h₂ tk₂ gF iF F3 N3 (List.nodup_cons.mpr ⟨fun q => ?_, (List.nodup_cons.mp D').2⟩) (fun h e => ⟨_, oC, es, ep, e, r⟩) (done _ D ys nn l' hj')
      obtain ⟨p, hp, e⟩ := List.mem_map.mp q
      exact (N2 p hp).2.1 e
  exact codeAny_compStart_list loop (W.self 0 _ _ _ hst0 loop)
end

section
variable {prog : Program} {w : World} {K : Frag} {p : Program} {loose : List Str} {mean : ExcName → Option Value} {mg mb : Str → Option Value} {a : Act} {env : Env} {n : Nat} {m : Loc} {l : Led}
theorem Tri.storeCG {x : Str} {v : Value} {c : Addr} {o : Obj} {v₀ : Option Value} {l' : Obj → Led} {Q : Unit → Loc → Led → Prop} (hc : env.cells.lookup x = some c) (U : ∀ o', Put c o o' l (l' o')) (hd : o.data = .cell v₀)
    (h : ∀ o', o'.data = .cell (some v) → Q () m (l' o')) (hk : env.scope.kind = .function) (hx : env.kindOf x = some .cell) :
    Tri prog w a m l (storeName env x v) Q :=
  ⟨fun E s R gF iF F N D k => wpAny_storeName_cell hk hx hc ⟨o, (N _ (U o).mem).1, hd⟩ fun h' hv hs => by
    obtain ⟨o', ho', hd'⟩ := hv
    exact k _ _ _ h' _ _ iF (fr_put F N (U o') hs) (news_put N D (U o') hs ho') ((U o').nd D) (h o' hd')⟩
variable {elt target iter : Expr} {ifs : List Expr} {scope : Scope} {cl : List (Str × Addr)} {pos : Pos} {Q : VQ} {I D' : Addr}

theorem comp_listC {vs : List Value} {cap : Nat} {yc : Str} (okc : OkC K p loose mean mg mb a) (hcf : ∀ n, cellsFrom n scope.names cl = (yc, n) :: cl) (hpc : ∀ h, pushCells h scope.names = h.push cellO) (hkind : scope.kind = .function)
    (hgo : ∃ x p, target = .Name x p) (hD : (D', lstO vs cap) ∈ l)
    (J : Nat → List Value → Prop) (hz : ∀ i ys, J i ys → ys.length ≤ sizeLine) (hj : J 0 [])
    (turn : ∀ (b : Act) i v o oc v₀ D nn ys ex, b.A = a.A → OkC K p loose mean mg mb b → vs[i]? = some v → J i ys → oc.data = .cell v₀ → Tri prog w b (lcl ex) ((I, o) :: (D, lstO ys nn) :: (b.L + 1, oc) :: l) (assign target (compEnvC scope ((yc, b.L + 1) :: cl) b.L env) v) fun _ m1 l1 =>
      Tri prog w b m1 l1 (tests ifs (compEnvC scope ((yc, b.L + 1) :: cl) b.L env)) fun t m2 l2 => (t = true → Tri prog w b m2 l2 (eval elt (compEnvC scope ((yc, b.L + 1) :: cl) b.L env)) fun x m3 l3 => (∃ ex', m3 = lcl ex') ∧ (∃ oc' v', oc'.data = .cell v' ∧ Sub ((I, o) :: (D, lstO ys nn) :: (b.L + 1, oc') :: l) l3) ∧ J (i + 1) (ys ++ [x])) ∧
        (t = false → (∃ ex', m2 = lcl ex') ∧ (∃ oc' v', oc'.data = .cell v' ∧ Sub ((I, o) :: (D, lstO ys nn) :: (b.L + 1, oc') :: l) l2) ∧ J (i + 1) ys))
    (done : ∀ D ys nn c oc, J vs.length ys → Q (.ref D) m ((D, lstO ys nn) :: (c, oc) :: l)) : CompAt prog w a env elt target iter ifs scope cl pos Q (.ref I) m ((I, lstIt D' 0) :: l) := by
  refine ⟨fun E RR s gF iF F N D₀ k => ?_⟩
  have hne : D' ≠ I := fun e => (List.nodup_cons.mp D₀).1 (by have := List.mem_map_of_mem (f := Prod.fst) hD; rw [e] at this; exact this)
  have W := Walks.list (prog := prog) (w := w) okc.handled I D' hne vs.toArray
  have hn : vs.toArray.size = vs.length := by simp
  rw [hn] at W
  refine (compWC (fs := [D']) W okc hcf hpc hkind (fun i h st => ?_) [(D', lstO vs cap)] (fun b hb => List.mem_singleton.mp hb ▸ ⟨_, .head _⟩) ?_ (fun c i ys l' => ∃ oc v₀, oc.data = .cell v₀ ∧ l' = (c, oc) :: l ∧ J i ys)
    (fun c i ys l' ⟨oc, v₀, _, e, _⟩ p hp => by rw [List.mem_singleton.mp hp, e]; exact .tail _ hD) (fun c i ys l' ⟨_, _, _, _, h⟩ => hz i ys h) (fun c => ⟨cellO, none, rfl, rfl, hj⟩) ?_ ?_ ?_).run E RR s _ iF F N D₀ k
  · obtain ⟨⟨o, ho, _⟩, _⟩ := st; exact ⟨o, ho⟩
  · intro s Q E i v hP st hQ
    obtain ⟨x, p, rfl⟩ := hgo
    exact wpAny_pure hQ
  · intro g h N'
    exact ⟨⟨_, (N' _ (.head _)).1, rfl, rfl⟩, ⟨_, (N' _ (.tail _ hD)).1, rfl, cap, rfl⟩⟩
  · rintro b i v o D nn ys ex l' hb okb hi hP ⟨oc, v₀, hoc, rfl, hJ⟩
    refine (turn b i v o oc v₀ D nn ys ex hb okb (by simpa using hP) hJ hoc).mono fun _ m1 l1 q => q.mono fun t m2 l2 q => ⟨fun ht => (q.1 ht).mono fun x m3 l3 ⟨q1, ⟨oc', v', q2, q4⟩, q3⟩ => ⟨q1, _, q4, oc', v', q2, rfl, q3⟩, fun ht => ?_⟩
    obtain ⟨q1, ⟨oc', v', q2, q4⟩, q3⟩ := q.2 ht
    exact ⟨q1, _, q4, oc', v', q2, rfl, q3⟩
  · rintro c D ys nn l' ⟨oc, v₀, _, rfl, hJ⟩
    exact done D ys nn c oc hJ
end

section
variable {κ μ : Type} [DecidableEq κ] [DecidableEq μ] {f : κ → μ} {P : List (κ × κ)} {left : List κ}
theorem later_map (hinj : ∀ x y, f x = f y → x = y ∨ (x ∉ left ∧ ∀ e ∈ P, e.1 ≠ x ∧ e.2 ≠ x) ∨ (y ∉ left ∧ ∀ e ∈ P, e.1 ≠ y ∧ e.2 ≠ y)) {k : κ} (hk : k ∈ left) :
    (later (P.map fun e => (f e.1, f e.2)) (left.map f)).contains (f k) = (later P left).contains k := by
  rw [Bool.eq_iff_iff, List.contains_iff_mem, List.contains_iff_mem, mem_later, mem_later]
  constructor
  · rintro ⟨e', he', h1, h2⟩
    obtain ⟨e, he, rfl⟩ := List.mem_map.mp he'
    obtain ⟨z, hz, hz2⟩ := List.mem_map.mp h1
    refine ⟨e, he, ?_, ?_⟩
    · rcases hinj _ _ hz2 with h | ⟨h, _⟩ | ⟨_, h⟩
      · rw [← h]; exact hz
      · exact (h hz).elim
      · exact ((h e he).1 rfl).elim
    · rcases hinj _ _ h2 with h | ⟨_, h⟩ | ⟨h, _⟩
      · exact h
      · exact ((h e he).2 rfl).elim
      · exact (h hk).elim
  · rintro ⟨e, he, h1, h2⟩
    exact ⟨(f e.1, f e.2), List.mem_map.mpr ⟨e, he, rfl⟩, List.mem_map_of_mem h1, by rw [← h2]⟩
theorem fresh_map (hinj : ∀ x y, f x = f y → x = y ∨ (x ∉ left ∧ ∀ e ∈ P, e.1 ≠ x ∧ e.2 ≠ x) ∨ (y ∉ left ∧ ∀ e ∈ P, e.1 ≠ y ∧ e.2 ≠ y)) :
    fresh (P.map fun e => (f e.1, f e.2)) (left.map f) = (fresh P left).map f := by
  unfold fresh
  rw [List.filter_map]
  congr 1
  refine List.filter_congr fun k hk => ?_
  show (!(later _ _).contains (f k)) = _
  rw [later_map hinj hk]
theorem after_map (hinj : ∀ x y, f x = f y → x = y ∨ (x ∉ left ∧ ∀ e ∈ P, e.1 ≠ x ∧ e.2 ≠ x) ∨ (y ∉ left ∧ ∀ e ∈ P, e.1 ≠ y ∧ e.2 ≠ y)) :
    after (P.map fun e => (f e.1, f e.2)) (left.map f) = (after P left).map f := by
  unfold after
  rw [List.filter_map]
  congr 1
  refine List.filter_congr fun k hk => ?_
  show ((later _ _).contains (f k)) = _
  rw [later_map hinj hk]
theorem after_fresh : (left.filter fun k => !(fresh P left).contains k) = after P left := by
  unfold after
  refine List.filter_congr fun k hk => ?_
  have : (fresh P left).contains k = !(later P left).contains k := by
    rw [Bool.eq_iff_iff, List.contains_iff_mem]
    unfold fresh
    rw [List.mem_filter]
    exact ⟨fun h => h.2, fun h => ⟨hk, h⟩⟩
  rw [this, Bool.not_not]
theorem after_lt3 (h : fresh P left ≠ []) : (after P left).length < left.length := by
  unfold after
  refine List.length_filter_lt_length_iff_exists.mpr ?_
  cases e : fresh P left with
  | nil => exact (h e).elim
  | cons x r =>
    have : x ∈ fresh P left := by rw [e]; exact .head _
    obtain ⟨h1, h2⟩ := List.mem_filter.mp this
    exact ⟨x, h1, by simpa using h2⟩
end
def nmZ (i : Int) : Str := S (nmL.getD i.toNat [])
theorem nmZ_inj : ∀ x ∈ ([0, 1, 2, 3] : List Int), ∀ y ∈ ([0, 1, 2, 3] : List Int), nmZ x = nmZ y → x = y := by
  intro x hx y hy h
  unfold nmZ at h
  rw [S_inj] at h
  simp only [List.mem_cons, List.not_mem_nil, or_false] at hx hy
  rcases hx with rfl | rfl | rfl | rfl <;> rcases hy with rfl | rfl | rfl | rfl <;> first | rfl | exact absurd h (by decide)
theorem shaped_ints (ns : List Int) : SeqAt.shaped (.list (ns.map .int)) = true :=
  shaped_of (canLay_list (fun i => .int i) (fun _ => rfl) ns) (Nat.le_trans (depth_list (fun i => PyData.int i) 0 (fun _ => Nat.le_refl _) ns) (by decide))
theorem eqv_nilI (ns : List Int) : PyData.eqv (.list (ns.map .int)) (.list []) = ns.isEmpty := by
  cases ns with
  | nil => rfl
  | cons s ss => rfl

abbrev nPz (needs : List (Int × Int)) : List (Int × Int) := needs.map fun e => (e.2, e.1)
abbrev nPn (needs : List (Int × Int)) : List (Str × Str) := needs.map fun e => (nmZ e.2, nmZ e.1)
theorem nPn_eq (needs : List (Int × Int)) : nPn needs = (nPz needs).map fun e => (nmZ e.1, nmZ e.2) := by
  unfold nPn nPz; rw [List.map_map]; rfl
structure RJ (needs : List (Int × Int)) (Ws : List Str) (left : List Int) (refs : List Value) (X : Led) (rs : List (List Str)) : Prop where
  four : ∀ k ∈ left, k ∈ ([0, 1, 2, 3] : List Int)
  rl : LReadsAll X refs (rdata rs)
  le : refs.length + left.length ≤ 8
  lw : ∀ rs' rest, Lw (nPn needs) (left.map nmZ) rs' rest → Lw (nPn needs) Ws (rs ++ rs') rest
theorem nm_fresh {needs : List (Int × Int)} {left : List Int} (hn : ∀ e ∈ needs, e.1 ∈ ([0, 1, 2, 3] : List Int) ∧ e.2 ∈ ([0, 1, 2, 3] : List Int)) (h4 : ∀ k ∈ left, k ∈ ([0, 1, 2, 3] : List Int)) :
    fresh (nPn needs) (left.map nmZ) = (fresh (nPz needs) left).map nmZ ∧ after (nPn needs) (left.map nmZ) = (after (nPz needs) left).map nmZ := by
  have hinj : ∀ x y, nmZ x = nmZ y → x = y ∨ (x ∉ left ∧ ∀ e ∈ nPz needs, e.1 ≠ x ∧ e.2 ≠ x) ∨ (y ∉ left ∧ ∀ e ∈ nPz needs, e.1 ≠ y ∧ e.2 ≠ y) := by
    intro x y h
    have out : ∀ z, z ∉ ([0, 1, 2, 3] : List Int) → z ∉ left ∧ ∀ e ∈ nPz needs, e.1 ≠ z ∧ e.2 ≠ z := fun z hz => by
      refine ⟨fun q => hz (h4 z q), fun e he => ?_⟩
      obtain ⟨e', he', rfl⟩ := List.mem_map.mp he
      exact ⟨fun q => hz (q ▸ (hn e' he').2), fun q => hz (q ▸ (hn e' he').1)⟩
    by_cases hx : x ∈ ([0, 1, 2, 3] : List Int)
    · by_cases hy : y ∈ ([0, 1, 2, 3] : List Int)
      · exact .inl (nmZ_inj x hx y hy h)
      · exact .inr (.inr (out y hy))
    · exact .inr (.inl (out x hx))
  rw [nPn_eq]
  exact ⟨fresh_map hinj, after_map hinj⟩
theorem filter_takeG {α : Type} {l : List α} {f : α → Bool} {q : Nat} {x : α} (hq : l[q]? = some x) : (l.take (q + 1)).filter f = if f x then (l.take q).filter f ++ [x] else (l.take q).filter f := by
  rw [List.take_add_one, hq, List.filter_append]
  by_cases c : f x = true
  · simp [c]
  · simp [c]
theorem strs_get {vs : List Value} {ss : List Str} (h : StrsAre vs ss) : ∀ {i : Nat} {x : Str}, ss[i]? = some x → ∃ t, vs[i]? = some (.str x t) := by
  induction h with
  | nil => intro i v hv; cases hv
  | cons x t r ih =>
    intro i v hv
    cases i with
    | zero => cases hv; exact ⟨t, rfl⟩
    | succ i => exact ih (by simpa using hv)
theorem nm_at {vs : List Value} (h : StrsAre vs (nmL.map S)) {k : Int} (hk : k ∈ ([0, 1, 2, 3] : List Int)) : ∃ t, vs[k.toNat]? = some (.str (nmZ k) t) := by
  refine strs_get h ?_
  simp only [List.mem_cons, List.not_mem_nil, or_false] at hk
  rcases hk with rfl | rfl | rfl | rfl <;> rfl
theorem four_nonneg {k : Int} (hk : k ∈ ([0, 1, 2, 3] : List Int)) : 0 ≤ k := by
  simp only [List.mem_cons, List.not_mem_nil, or_false] at hk
  rcases hk with rfl | rfl | rfl | rfl <;> decide
theorem inner_empty (needs : List (Int × Int)) (left : List Int) (k : Int) : (((needs.filter fun e => e.1 == k && left.contains e.2).map (·.1)).isEmpty) = !(later (nPz needs) left).contains k := by
  have key : (later (nPz needs) left).contains k = true ↔ ∃ e ∈ needs, (e.1 == k && left.contains e.2) = true := by
    rw [List.contains_iff_mem, mem_later]
    constructor
    · rintro ⟨e, he, h1, h2⟩
      obtain ⟨e', he', rfl⟩ := List.mem_map.mp he
      exact ⟨e', he', by simp at h1 h2 ⊢; exact ⟨h2, h1⟩⟩
    · rintro ⟨e, he, h⟩
      simp at h
      exact ⟨(e.2, e.1), List.mem_map.mpr ⟨e, he, rfl⟩, h.2, h.1⟩
  cases e : needs.filter fun e => e.1 == k && left.contains e.2 with
  | nil =>
    have : ¬ (later (nPz needs) left).contains k = true := fun h => by
      obtain ⟨x, hx, hx2⟩ := key.mp h
      have : x ∈ needs.filter fun e => e.1 == k && left.contains e.2 := List.mem_filter.mpr ⟨hx, hx2⟩
      rw [e] at this; cases this
    simp only [Bool.not_eq_true] at this
    rw [this]; rfl
  | cons x r =>
    have : x ∈ needs.filter fun e => e.1 == k && left.contains e.2 := by rw [e]; exact .head _
    obtain ⟨hx, hx2⟩ := List.mem_filter.mp this
    rw [key.mpr ⟨x, hx, hx2⟩]; rfl
section
variable {w : World} {mean : ExcName → Option Value} {mg mb : Str → Option Value} {a : Act} {env : Env} {n : Nat} {m : Loc} {l : Led} {Q : VQ}
theorem law_struck {NM ND : Addr} {nmrefs ndrefs : List Value} {ncap dcap : Nat} {needs : List (Int × Int)} (hNM : (NM, lstO nmrefs ncap) ∈ l) (hND : (ND, lstO ndrefs dcap) ∈ l) (hS : StrsAre nmrefs (nmL.map S)) (hP : PairsIn isInt isInt l ndrefs needs)
    (hn : ∀ e ∈ needs, e.1 ∈ ([0, 1, 2, 3] : List Int) ∧ e.2 ∈ ([0, 1, 2, 3] : List Int)) (hl : needs.length ≤ 100) (ok : OkS w mean mg mb a env (n + 1))
    (h : ∀ T RD rrefs rc X rs rest, Lw (nPn needs) (nmL.map S) rs rest → LReadsAll X rrefs (rdata rs) → Q (.ref T) m ((T, tupO [.bool (!rest.isEmpty), .ref RD]) :: (RD, lstO rrefs rc) :: (X ++ l))) :
    Tri Challenge.rw_mq0363_02.row.prog w a m l (call (.ref 188) [.ref NM, .ref ND]) Q := by
  unfold OkS at ok; revert ok; k_fill; intro ok
  refine Tri.callFnC (binds := [("names", .ref NM), ("needs", .ref ND)]) ok (by k_is) (by k_is) (fun s _ => BindsTo.of_eq rfl) (fun n x hx => ?_) (by decide) (fun b cells hb okb hcl => ?_) rfl rfl rfl
  · rcases List.mem_cons.mp hx with rfl | hx
    · exact .inr ⟨rfl, rfl⟩
    · rw [List.mem_singleton.mp hx]; exact .inr ⟨rfl, rfl⟩
  obtain ⟨o1, o2, o3, o4, rfl, h1, h2, h3, h4⟩ := CellsAre.four (n₁ := "now") (c₁ := b.L + 1 + 1 + 1 + 1) (n₂ := "left") (c₂ := b.L + 1 + 1 + 1) (n₃ := "needs") (c₃ := b.L + 1 + 1) (n₄ := "names") (c₄ := b.L + 1) hcl
  have h1' : o1.data = .cell none := by rw [h1]; with_unfolding_all rfl
  have h2' : o2.data = .cell none := by rw [h2]; with_unfolding_all rfl
  have h3' : o3.data = .cell (some (.ref ND)) := by rw [h3]; with_unfolding_all rfl
  have h4' : o4.data = .cell (some (.ref NM)) := by rw [h4]; with_unfolding_all rfl
  clear h1 h2 h3 h4 hcl
  refine Tri.loc (m' := lcl []) (by with_unfolding_all rfl) ?_
  show Tri _ _ b _ _ (execs _ (envX "_law_struck" _ b.L 188 _ [("now", b.L + 1 + 1 + 1 + 1), ("left", b.L + 1 + 1 + 1), ("needs", b.L + 1 + 1), ("names", b.L + 1)])) _
  have okb' : Ok (hd.heap_1 w.params) hdView (looseW hdView [Str.ofString "_NodeInfo"]) mean mg mb b (envX "_law_struck" _ b.L 188 _ [("now", b.L + 1 + 1 + 1 + 1), ("left", b.L + 1 + 1 + 1), ("needs", b.L + 1 + 1), ("names", b.L + 1)]) n := okb
  clear okb
  repeat' walk_at "w4"
  rename_i tk0 tk1 tk2 tk3 LD0
  refine Tri.storeC (v₀ := none) (by with_unfolding_all rfl) (fun o' => Put.tail (Put.tail Put.head)) h2' (fun ol0 hol0 => ?_) rfl (by with_unfolding_all rfl)
  repeat' walk_at "w4"
  rename_i RD
  refine Tri.sub (l' := (RD, lstO [] 0) :: (b.L + 1 + 1 + 1 + 1, o1) :: (b.L + 1 + 1 + 1, ol0) :: (b.L + 1 + 1, o3) :: (b.L + 1, o4) :: ([(LD0, lstO [.int 0 tk0, .int 1 tk1, .int 2 tk2, .int 3 tk3] 0)] ++ l)) ?_ ?_
  · exact Sub.cons₂ _ (Sub.permL (List.perm_middle (l₁ := [_, _, _, _])) (Sub.refl _))
  refine Tri.While (fun q m' l' => ∃ (ow ol : Obj) (v1 : Option Value) (LD : Addr) (lrefs : List Value) (lcap : Nat) (left : List Int) (refs : List Value) (cap : Nat) (X : Led) (rs : List (List Str)) (ex : List (Str × Value)), q = left.length ∧
    m' = lclx [("rounds", .ref RD)] ex ∧ l' = (RD, lstO refs cap) :: (b.L + 1 + 1 + 1 + 1, ow) :: (b.L + 1 + 1 + 1, ol) :: (b.L + 1 + 1, o3) :: (b.L + 1, o4) :: (X ++ l) ∧ ow.data = .cell v1 ∧ ol.data = .cell (some (.ref LD)) ∧ (LD, lstO lrefs lcap) ∈ X ∧
    IntsAre lrefs left ∧ RJ needs (nmL.map S) left refs X rs) 4 ?_ ?_
  · exact ⟨o1, ol0, none, LD0, _, 0, [0, 1, 2, 3], [], 0, _, [], _, rfl, lcl_norm ⟨rfl, trivial⟩, rfl, h1', hol0, .head _, .cons _ _ (.cons _ _ (.cons _ _ (.cons _ _ .nil))), ⟨fun k h => h, .nil, by decide, fun rs' rest h => h⟩⟩
  · rintro q m' l' ⟨ow, ol, v1, LD, lrefs, lcap, left, refs, cap, X, rs, ex, rfl, rfl, rfl, how, hol, hLD, hL, inv⟩
    have hLl := hL.length
    have hle := inv.le
    have hLD' : (LD, lstO lrefs lcap) ∈ X ++ l := List.mem_append_left _ hLD
    have hND' : (ND, lstO ndrefs dcap) ∈ X ++ l := List.mem_append_right _ hND
    have hNM' : (NM, lstO nmrefs ncap) ∈ X ++ l := List.mem_append_right _ hNM
    refine Tri.gen3 fun Q1 Q2 hQ1 hQ2 => ?_
    repeat' walk_at "w4"
    refine Tri.ListComp (cl := [("needs", b.L + 1 + 1), ("left", b.L + 1 + 1 + 1)]) ?_ (by with_unfolding_all rfl) rfl (by decide)
    repeat' walk_at "w4"
    refine Tri.iter_list (vs := lrefs) (nn := lcap) (by walk_at "mem") fun Ic => ?_
    refine comp_listC (vs := lrefs) (cap := lcap) (yc := "job") okb'.okC (fun n => by rfl) (fun h => by rfl) rfl ⟨_, _, rfl⟩ (by walk_at "mem") (fun i ys => IntsAre ys ((left.take i).filter fun k => !(later (nPz needs) left).contains k) ∧ ys.length ≤ i ∧ i ≤ left.length) (fun i ys h => by rw [sizeLine_eq]; omega) ⟨.nil, Nat.le_refl _, Nat.zero_le _⟩ ?_ ?_
    · rintro b2 i v o oc v₀ D nn ys ex2 hbA okc hv ⟨hys, hyl, hi8⟩ hoc
      obtain ⟨k, tk, rfl, hk⟩ := hL.at i v hv
      have hi : i < left.length := (List.getElem?_eq_some_iff.mp hk).1
      repeat' walk_at "w4"
      refine Tri.storeCG (c := b2.L + 1) (by with_unfolding_all rfl) (fun o' => Put.tail (Put.tail Put.head)) hoc (fun oc2 hoc2 => ?_) rfl (by with_unfolding_all rfl)
      repeat' walk_at "w4"
      refine Tri.ListComp (cl := [("left", b.L + 1 + 1 + 1), ("job", b2.L + 1)]) ?_ (by with_unfolding_all rfl) rfl (by decide)
      repeat' walk_at "w4"
      refine Tri.iter_list (vs := ndrefs) (nn := dcap) (by walk_at "mem") fun Ic2 => ?_
      refine comp_pairs (R1 := isInt) (R2 := isInt) (ps := needs) okc (by decide) rfl (by walk_at "mem") (hP.mono fun p hp => .tail _ (.tail _ (.tail _ (.tail _ (.tail _ (.tail _ (.tail _ (.tail _ (List.mem_append_right _ hp))))))))) (fun _ => rfl) (fun _ => rfl)
        (fun q zs => IntsAre zs (((needs.take q).filter fun e => e.1 == k && left.contains e.2).map (·.1)) ∧ zs.length ≤ q ∧ q ≤ needs.length) (fun q zs h => by rw [sizeLine_eq]; omega) ⟨.nil, Nat.le_refl _, Nat.zero_le _⟩ ?_ ?_
      · rintro b3 q x y _ _ o5 D3 nn3 zs ex3 hbA3 okc3 ⟨t1, rfl⟩ ⟨t2, rfl⟩ hq ⟨hzs, hzl, hqn⟩
        have hqi : q < needs.length := (List.getElem?_eq_some_iff.mp hq).1
        show Tri _ _ _ _ _ (assignInOrder [_, _] [_, _]) _
        repeat' walk_at "w4"
        · rename (x == k) = true => c1
          refine Tri.in_ints (by walk_at "mem") hL ?_
          repeat' walk_at "w4"
          · rename left.contains y = true => c2
            refine ⟨⟨_, rfl⟩, Sub.refl _, ?_, ?_, by omega⟩
            · rw [filter_takeG hq, if_pos (by show (x == k && left.contains y) = true; rw [c1, c2]; rfl), List.map_append]
              exact IntsAre.append hzs (.cons _ _ .nil)
            · rw [List.length_append, List.length_singleton]; omega
          · rename left.contains y = false => c2
            refine ⟨⟨_, rfl⟩, Sub.refl _, ?_, by omega, by omega⟩
            rw [filter_takeG hq, if_neg (by show ¬ (x == k && left.contains y) = true; rw [c1, c2]; decide)]; exact hzs
        · rename (x == k) = false => c1
          refine ⟨⟨_, rfl⟩, Sub.refl _, ?_, by omega, by omega⟩
          rw [filter_takeG hq, if_neg (by show ¬ (x == k && left.contains y) = true; rw [c1, Bool.false_and]; decide)]; exact hzs
      · rintro D4 zs nn4 ⟨hzs, hzl, _⟩
        rw [List.take_length] at hzs
        repeat' walk_at "w4"
        refine Tri.eq_data (.list (.tail _ (.head _)) (LReadsAll.ints hzs)) (.list (.head _) .nil) (shaped_ints _) (by rfl) (by have := okb'.units; rw [hbA]; omega) ?_
        rw [eqv_nilI, inner_empty]
        repeat' walk_at "w4"
        · rename (!(later (nPz needs) left).contains k) = true => c1
          refine ⟨⟨_, rfl⟩, ⟨oc2, _, hoc2, Sub.cons _ (Sub.cons _ (Sub.refl _))⟩, ?_, ?_, by omega⟩
          · rw [filter_takeG hk, if_pos c1]; exact IntsAre.append hys (.cons _ _ .nil)
          · rw [List.length_append, List.length_singleton]; omega
        · rename (!(later (nPz needs) left).contains k) = false => c1
          refine ⟨⟨_, rfl⟩, ⟨oc2, _, hoc2, Sub.cons _ (Sub.cons _ (Sub.refl _))⟩, ?_, by omega, by omega⟩
          rw [filter_takeG hk, if_neg (by rw [c1]; decide)]; exact hys
    · rintro D ys nn c oc ⟨hys, hyl, _⟩
      rw [hLl, List.take_length] at hys
      have hyf : IntsAre ys (fresh (nPz needs) left) := hys
      clear hys
      obtain ⟨nf1, nf2⟩ := nm_fresh hn inv.four
      have hfl := hyf.length
      repeat' walk_at "w4"
      refine Tri.storeC (v₀ := v1) (by with_unfolding_all rfl) (fun o' => Put.tail (Put.tail (Put.tail Put.head))) how (fun ow2 how2 => ?_) rfl (by with_unfolding_all rfl)
      repeat' walk_at "w4"
      refine Tri.eq_data (.list (.tail _ (.head _)) (LReadsAll.ints hyf)) (.list (.head _) .nil) (shaped_ints _) (by rfl) (by have := okb'.units; omega) ?_
      rw [eqv_nilI]
      repeat' walk_at "w4"
      · rename (fresh (nPz needs) left).isEmpty = true => c1
        have hf0 : fresh (nPz needs) left = [] := List.isEmpty_iff.mp c1
        refine Tri.ne_data (.list (by walk_at "mem") (LReadsAll.ints hL)) (.list (.head _) .nil) (shaped_ints _) (by rfl) (by have := okb'.units; omega) ?_
        rw [eqv_nilI]
        repeat' walk_at "w4"
        have hlw := inv.lw [] (left.map nmZ) (.stop (by rw [nf1, hf0]; rfl))
        rw [List.append_nil] at hlw
        have e2 : (!left.isEmpty) = !(left.map nmZ).isEmpty := by cases left <;> rfl
        rw [e2]
        refine hQ1 _ _ _ ?_
        exact ⟨_, Sub.cons₂ _ (Sub.cons _ (Sub.cons _ (Sub.cons _ (Sub.cons _ (Sub.cons₂ _ (Sub.cons _ (Sub.cons _ (Sub.cons _ (Sub.cons _ (Sub.refl _)))))))))), h _ RD refs cap X rs _ hlw inv.rl⟩
      · rename (fresh (nPz needs) left).isEmpty = false => c1
        have hne : fresh (nPz needs) left ≠ [] := fun e => by rw [e] at c1; simp at c1
        have hfle : (fresh (nPz needs) left).length ≤ left.length := List.length_filter_le ..
        refine Tri.ListComp (cl := [("names", b.L + 1)]) ?_ (by with_unfolding_all rfl) rfl (by decide)
        repeat' walk_at "w4"
        refine Tri.iter_list (vs := ys) (nn := nn) (by walk_at "mem") fun Ic3 => ?_
        refine comp_listF (vs := ys) (cap := nn) okb'.okC (by decide) rfl (.inl ⟨_, _, rfl⟩) (by walk_at "mem") (fun i zs => StrsAre zs (((fresh (nPz needs) left).take i).map nmZ) ∧ zs.length ≤ i ∧ i ≤ 8) (fun i zs h => by rw [sizeLine_eq]; omega) ⟨.nil, Nat.le_refl _, by decide⟩ ?_ ?_
        · rintro b2 i v o D2 nn2 zs ex2 hbA okc hv ⟨hzs, hzl, hi8⟩
          obtain ⟨k, tk, rfl, hk⟩ := hyf.at i v hv
          have hi : i < (fresh (nPz needs) left).length := (List.getElem?_eq_some_iff.mp hk).1
          have hk4 := inv.four k (List.mem_filter.mp (List.mem_of_getElem? hk)).1
          obtain ⟨tn, htn⟩ := nm_at hS hk4
          repeat' walk_at "w4"
          refine Tri.sub_list (v := .str (nmZ k) tn) (by walk_at "mem") (four_nonneg hk4) (by rw [hS.length, sizeLine_eq]; decide) htn ?_
          refine ⟨⟨_, rfl⟩, Sub.refl _, ?_, ?_, by omega⟩
          · rw [List.take_add_one, hk, List.map_append]
            exact strs_append hzs (.cons _ _ .nil)
          · rw [List.length_append, List.length_singleton]; omega
        · rintro ZD zs zn ⟨hzs, hzl, _⟩
          rw [hfl, List.take_length, ← nf1] at hzs
          repeat' walk_at "w4"
          refine Tri.sorted_lst_strs (.head _) hzs (by omega) fun SR out e fr hout hp hs => ?_
          repeat' walk_at "w4"
          refine Tri.append (Put.tail (Put.tail (Put.tail (Put.tail (Put.tail Put.head))))) (by rw [sizeLine_eq]; omega) ⟨rfl, ?_⟩
          repeat' walk_at "w4"
          refine Tri.ListComp (cl := [("now", b.L + 1 + 1 + 1 + 1)]) ?_ (by with_unfolding_all rfl) rfl (by decide)
          repeat' walk_at "w4"
          refine Tri.iter_list (vs := lrefs) (nn := lcap) (by walk_at "mem") fun Ic4 => ?_
          refine comp_listF (vs := lrefs) (cap := lcap) okb'.okC (by decide) rfl (.inl ⟨_, _, rfl⟩) (by walk_at "mem") (fun i as => IntsAre as ((left.take i).filter fun k => !(fresh (nPz needs) left).contains k) ∧ as.length ≤ i ∧ i ≤ left.length) (fun i zs h => by rw [sizeLine_eq]; omega) ⟨.nil, Nat.le_refl _, Nat.zero_le _⟩ ?_ ?_
          · rintro b2 i v o D2 nn2 as ex2 hbA okc hv ⟨has, hal, hi8⟩
            obtain ⟨k, tk, rfl, hk⟩ := hL.at i v hv
            have hi : i < left.length := (List.getElem?_eq_some_iff.mp hk).1
            repeat' walk_at "w4"
            refine Tri.notIn_ints (by walk_at "mem") hyf ?_
            repeat' walk_at "w4"
            · rename (!(fresh (nPz needs) left).contains k) = true => c2
              refine ⟨⟨_, rfl⟩, Sub.refl _, ?_, ?_, by omega⟩
              · rw [filter_takeG hk, if_pos c2]; exact IntsAre.append has (.cons _ _ .nil)
              · rw [List.length_append, List.length_singleton]; omega
            · rename (!(fresh (nPz needs) left).contains k) = false => c2
              refine ⟨⟨_, rfl⟩, Sub.refl _, ?_, by omega, by omega⟩
              rw [filter_takeG hk, if_neg (by rw [c2]; decide)]; exact has
          · rintro AD as an ⟨has, hal, _⟩
            rw [hLl, List.take_length, after_fresh] at has
            repeat' walk_at "w4"
            refine Tri.storeC (v₀ := some (.ref LD)) (by with_unfolding_all rfl) (fun o' => Put.tail (Put.tail (Put.tail (Put.tail (Put.tail (Put.tail (Put.tail (Put.tail Put.head)))))))) hol (fun ol2 hol2 => ?_) rfl (by with_unfolding_all rfl)
            repeat' walk_at "w4"
            have hlt := after_lt3 hne
            refine hQ1 _ _ _ ⟨(after (nPz needs) left).length, (RD, lstO (refs ++ [.ref SR]) (cap + 1)) :: (b.L + 1 + 1 + 1 + 1, ow2) :: (b.L + 1 + 1 + 1, ol2) :: (b.L + 1 + 1, o3) :: (b.L + 1, o4) :: (((AD, lstO as an) :: (SR, lstO out e) :: X) ++ l), hlt, ?_, ow2, ol2, some (.ref D), AD, as, an, after (nPz needs) left, refs ++ [.ref SR], cap + 1, (AD, lstO as an) :: (SR, lstO out e) :: X, rs ++ [fr], _, rfl, lcl_norm ⟨rfl, trivial⟩, rfl, how2, hol2, .head _, has, ⟨fun k hk => inv.four k (List.mem_filter.mp hk).1, ?_, ?_, fun rs' rest h' => ?_⟩⟩
            · have hpm : ((RD, lstO (refs ++ [Value.ref SR]) (cap + 1)) :: (b.L + 1 + 1 + 1 + 1, ow2) :: (b.L + 1 + 1 + 1, ol2) :: (b.L + 1 + 1, o3) :: (b.L + 1, o4) :: (((AD, lstO as an) :: (SR, lstO out e) :: X) ++ l)).Perm ((AD, lstO as an) :: (SR, lstO out e) :: (RD, lstO (refs ++ [Value.ref SR]) (cap + 1)) :: (b.L + 1 + 1 + 1 + 1, ow2) :: (b.L + 1 + 1 + 1, ol2) :: (b.L + 1 + 1, o3) :: (b.L + 1, o4) :: (X ++ l)) :=
                List.perm_append_comm_assoc [(RD, lstO (refs ++ [Value.ref SR]) (cap + 1)), (b.L + 1 + 1 + 1 + 1, ow2), (b.L + 1 + 1 + 1, ol2), (b.L + 1 + 1, o3), (b.L + 1, o4)] [(AD, lstO as an), (SR, lstO out e)] (X ++ l)
              exact Sub.permL hpm (Sub.cons₂ _ (Sub.cons₂ _ (Sub.cons _ (Sub.cons _ (Sub.cons _ (Sub.cons _ (Sub.refl _)))))))
            · show LReadsAll _ _ ((rs ++ [fr]).map fun r => PyData.list (r.map .str))
              rw [List.map_append]
              exact LReadsAll.snoc (.list (.tail _ (.head _)) (LReadsAll.strs hout)) (inv.rl.mono fun p hp => .tail _ (.tail _ hp))
            · rw [List.length_append, List.length_singleton]; omega
            · rw [List.append_assoc]
              refine inv.lw _ _ (.step ?_ hp hs ?_)
              · rw [nf1]; exact fun q => hne (List.map_eq_nil_iff.mp q)
              · rw [nf2]; exact h'
end

theorem str_pick : Str.ofString "pick" = S [112, 105, 99, 107] := by decide +kernel
theorem str_load : Str.ofString "load" = S [108, 111, 97, 100] := by decide +kernel
theorem str_nest : Str.ofString "nest" = S [110, 101, 115, 116] := by decide +kernel
theorem str_burg : Str.ofString "burg" = S [98, 117, 114, 103] := by decide +kernel
theorem nm_upper : ∀ x ∈ nmL, ∀ c ∈ x, Txt.upper (S [c]) = S [c - 32] := by decide +kernel
theorem nm_four : ∀ x ∈ nmL, x.length = 4 ∧ ∀ z ∈ x, z < 128 := by decide
theorem nmL_mem {k : Nat} (hk : k < 4) : nmL.getD k [] ∈ nmL := by
  have : k = 0 ∨ k = 1 ∨ k = 2 ∨ k = 3 := by omega
  rcases this with rfl | rfl | rfl | rfl <;> decide
theorem nmL_nodup : (nmL.map S).Nodup := by decide +kernel
theorem nmL_ok : OkS3 (nmL.map S) := fun s hs => by
  obtain ⟨x, hx, rfl⟩ := List.mem_map.mp hs
  exact strOk_S (nm_four x hx).2
theorem four_cast {k : Nat} (hk : k < 4) : ((k : Nat) : Int) ∈ ([0, 1, 2, 3] : List Int) := by
  have : k = 0 ∨ k = 1 ∨ k = 2 ∨ k = 3 := by omega
  rcases this with rfl | rfl | rfl | rfl <;> decide
theorem nmZ_mem {k : Int} (hk : k ∈ ([0, 1, 2, 3] : List Int)) : nmZ k ∈ nmL.map S := by
  simp only [List.mem_cons, List.not_mem_nil, or_false] at hk
  rcases hk with rfl | rfl | rfl | rfl <;> exact List.mem_map.mpr ⟨_, by decide, rfl⟩
theorem nmZ_ok {k : Int} (hk : k ∈ ([0, 1, 2, 3] : List Int)) : PyData.strOk (nmZ k) = true := nmL_ok _ (nmZ_mem hk)
section
variable {prog : Program} {w : World} {a : Act} {m : Loc} {l : Led} {Q : VQ}
theorem Tri.sub_tup {value slice : Expr} {D : Addr} {vs : List Value} {i : Int} {u : Tok} {v : Value} {j : Nat} (hD : (D, tupO vs) ∈ l) (h0 : i = (j : Int)) (hz : vs.length ≤ sizeLine) (hv : vs[j]? = some v) (h : Q v m l)
    (hs : subscripted slice false (.ref D) (.int i u) = operate [.ref D, .int i u] (getItem (.ref D) (.int i u)) := by first | with_reducible exact subscr_slice .. | with_reducible exact subscr_Name .. | with_reducible exact subscr_BinOp .. | with_reducible exact subscr_Constant .. | with_reducible exact subscr_UnaryOp .. | with_reducible exact subscr_Call ..) :
    Tri prog w a m l (subscriptTail value slice (.ref D) (.int i u)) Q :=
  ⟨fun E s R gF iF F N D₀ k => by
    have hj := (List.getElem?_eq_some_iff.mp hv).1
    have := sizeLine_eq
    refine item_tupleT (l := vs) (j := j) (x := v) ⟨_, (N _ hD).1, rfl, 0, rfl⟩ (by omega) (by omega) (by subst h0; unfold seqIndex?; simp; omega) hv (k _ _ _ s.heap s.toks _ iF F N D₀ h) hs⟩
end
theorem canLay_res {b : Bool} {rs : List (List Str)} (h : ∀ r ∈ rs, OkS3 r) : (PyData.tuple [.bool b, .list (rdata rs)]).canLay0 = true := by
  simp only [PyData.canLay0, PyData.canLayAll0, canLay_rounds h, Bool.and_self]
theorem shaped_res {b : Bool} {rs : List (List Str)} (h : ∀ r ∈ rs, OkS3 r) : SeqAt.shaped (.tuple [.bool b, .list (rdata rs)]) = true :=
  shaped_of (canLay_res h) (by have := depth_rounds rs; simp only [PyData.depth, PyData.depthAll]; omega)
theorem Lw.ok {P : List (Str × Str)} {now : List Str} {rs : List (List Str)} {rest : List Str} (h : Lw P now rs rest) (ho : OkS3 now) : ∀ r ∈ rs, OkS3 r := fun r hr s hs => ho s (h.sub.2 r hr s hs)

local macro_rules | `(tactic| k_qdec) => `(tactic| decide +kernel)
theorem law02 : PySem.Challenge.rw_mq0363_02.Holds := Mine.hd (by
  k_go0
  rename_i w s0 s1 mg mb G0 Y0 fa ol pm doc kV ho hg KX XX VV GL TT BB TE TW w9 w8 MM cda w6 hcd ns hs hlay0 hL1 hr1 hl2 w4 w3 la vs w2 hL ra w1 r0 hI hr hlen hcond K0 hD h1 F0 N0
  clear G0 Y0 ho XX VV GL BB TE TW MM hcd hs hlay0 hL1 hr1 hl2 ra w1 r0 hr hcond hD
  refine top_run (env := envX "law" _ s1.heap.objs.size fa (.ref cda) []) (L := s1.heap.objs.size) KX TT K0 ?he ?hk F0 N0 List.nodup_nil (fun b hbL hbb okb => ?_) (fun h' tk' m' F' => ?_)
  case he => rfl
  case hk => rfl
  · have hbase : b.base.IsList la vs.toArray := by rw [hbb]; exact hL
    clear F0 N0 KX TT K0 hL hbb
    generalize hz : s1.heap.objs.size = z at hbL okb ⊢
    subst hbL
    refine Tri.loc (m' := lcl [("script", .ref la)]) (by rfl) ?_
    show Tri _ _ b _ _ (execs _ (envX "law" _ b.L fa (.ref cda) [])) _
    have okb' : Ok (hd.heap_1 w.params) hdView (looseW hdView [Str.ofString "_NodeInfo"]) (ExcName.means s0.heap) mg mb b (envX "law" _ b.L fa (.ref cda) []) 20 := okb
    clear okb
    revert okb'; k_fill; intro okb
    dsimp only at okb ⊢
    have hvl := hI.length
    repeat' walk_at "w4"
    rename_i t1 t2 t3 t4 NM
    rw [str_pick, str_load, str_nest, str_burg]
    have hS : StrsAre [Value.str (S [112, 105, 99, 107]) t1, Value.str (S [108, 111, 97, 100]) t2, Value.str (S [110, 101, 115, 116]) t3, Value.str (S [98, 117, 114, 103]) t4] (nmL.map S) := .cons _ _ (.cons _ _ (.cons _ _ (.cons _ _ .nil)))
    generalize [Value.str (S [112, 105, 99, 107]) t1, Value.str (S [108, 111, 97, 100]) t2, Value.str (S [110, 101, 115, 116]) t3, Value.str (S [98, 117, 114, 103]) t4] = nmrefs at hS ⊢
    have hnl : nmrefs.length = 4 := hS.length
    refine mk_sorter (n := 18) okb fun S0 hs1 hs2 hs3 hs4 hs5 => ?_
    clear hs4 hs5
    repeat' walk_at "w4"
    refine Tri.For ?_
    repeat' walk_at "w4"
    refine Tri.iter_list (vs := nmrefs) (nn := 0) (by walk_at "mem") fun I => ?_
    refine for_list (vs := nmrefs) (nn := 0) (Ok.handled (by assumption)) (.inl ⟨_, _, rfl⟩) (by walk_at "mem") (fun i m' l' => ∃ (oD : Obj) (rows : List (Row Str)) (ex : List (Str × Value)), m' = lclx [("script", .ref la), ("names", .ref NM), ("sorter", .ref S0.sA)] ex ∧
      l' = sled w { S0 with oD := oD } (cells rows ++ [(NM, lstO nmrefs 0)]) ∧ SOk (sK w) { S0 with oD := oD } rows i ∧ Built (absR rows) [] ∧ ∀ k, k ∈ (absR rows).map (·.key) ↔ k ∈ (nmL.map S).take i) ?_ ?_ ?_ ?_
    · rintro i m' l' ⟨oD, rows, ex, rfl, rfl, _⟩
      exact .tail _ (.tail _ (.tail _ (List.mem_append_right _ (.head _))))
    · exact ⟨S0.oD, [], _, lcl_norm ⟨rfl, rfl, rfl, trivial⟩, rfl, ⟨hs2 _ _, hs1, (fun _ h => nomatch h), Nat.zero_le _, (fun _ h => nomatch h)⟩, Built.nil, fun k => by simp [absR]⟩
    · rintro i v o m' l' hv ⟨oD, rows, ex, rfl, rfl, so, B, hk⟩
      obtain ⟨x, tx, rfl, hx⟩ := strs_at hS hv
      have hi : i < nmrefs.length := (List.getElem?_eq_some_iff.mp hv).1
      refine Tri.gen1 fun Q1 hQ1 => ?_
      repeat' walk_at "w4"
      show Tri _ _ _ _ _ (call (.ref 101) [.ref S0.sA, .str x tx]) _
      refine CTri.call (CTri.perm (sled_ins w _ (cells rows) _ [_]) ?_)
      refine s_add (n := 16) (k := x) (ps := []) sK_good so hs3 (by simp; omega) (sK_is _ _) .nil okb fun oD' rows' so' habs => ⟨rfl, ?_⟩
      repeat' walk_at "w4"
      obtain ⟨B', hk'⟩ := B.add x []
      rw [← habs] at B' hk'
      refine hQ1 _ _ _ ⟨_, Sub.perm (Sub.refl _) (sled_ins w _ (cells rows') _ [_]), oD', rows', _, lcl_norm ⟨rfl, rfl, rfl, trivial⟩, rfl, so'.mono (by simp), B', fun k => ?_⟩
      rw [hk', hk, List.take_add_one, hx, List.mem_append]
      simp
    · rintro m' l' ⟨oD, rows, ex, rfl, rfl, so, B, hk⟩
      rw [hnl] at so hk
      have hk : ∀ k, k ∈ (absR rows).map (·.key) ↔ k ∈ nmL.map S := hk
      repeat' walk_at "w4"
      refine Tri.For ?_
      repeat' walk_at "w4"
      rename_i ND tA tB L0 t7 sl
      refine Tri.sliceB hbase (by rw [sizeLine_eq]; omega) .none (.int _ _) fun R1 => ?_
      have e7 : (slicePick vs.toArray none (some 7) none).toList = vs.take 7 := by
        rw [show (some (7 : Int)) = some ((7 : Nat) : Int) from rfl, slicePick_upto']
      rw [e7]
      refine Tri.add_list (by walk_at "mem") (by walk_at "mem") (by rw [sizeLine_eq]; simp; omega) fun R2 => ?_
      have hI2 : IntsAre ([Value.int 1349 tA, Value.int 789 tB] ++ vs.take 7) ([1349, 789] ++ ns.take 7) := .cons _ _ (.cons _ _ (hI.take 7))
      have hnum : ([Value.int 1349 tA, Value.int 789 tB] ++ vs.take 7).length ≤ 9 := by simp; omega
      refine Tri.sub (l' := (ND, lstO [] 0) :: sled w { S0 with oD := oD } (cells rows ++ ([] ++ [(R2, lstO ([Value.int 1349 tA, Value.int 789 tB] ++ vs.take 7) 0), (NM, lstO nmrefs 0)]))) (Sub.permL (((sled_ins w _ (cells rows) [(NM, lstO nmrefs 0)] [(R2, lstO ([Value.int 1349 tA, Value.int 789 tB] ++ vs.take 7) 0)]).symm.cons _).trans (List.Perm.swap ..)) (Sub.cons₂ _ (Sub.cons _ (Sub.cons _ (Sub.refl _))))) ?_
      generalize [Value.int 1349 tA, Value.int 789 tB] ++ vs.take 7 = nums at hI2 hnum ⊢
      generalize ([1349, 789] ++ ns.take 7 : List Int) = zs at hI2 ⊢
      clear e7 hbase hI hlen hvl
      have base : ∀ (oD : Obj) (rows : List (Row Str)) (X : Led), (R2, lstO nums 0) ∈ cells rows ++ (X ++ [(R2, lstO nums 0), (NM, lstO nmrefs 0)]) ∧ (NM, lstO nmrefs 0) ∈ cells rows ++ (X ++ [(R2, lstO nums 0), (NM, lstO nmrefs 0)]) := fun oD rows X =>
        ⟨List.mem_append_right _ (List.mem_append_right _ (.head _)), List.mem_append_right _ (List.mem_append_right _ (.tail _ (.head _)))⟩
      have hR2 := (base oD rows []).1
      refine Tri.iter_list (vs := nums) (nn := 0) (by walk_at "mem") fun I2 => ?_
      refine for_list (vs := nums) (nn := 0) (Ok.handled (by assumption)) (.inl ⟨_, _, rfl⟩) (by walk_at "mem") (fun i m' l' => ∃ (oD : Obj) (rows : List (Row Str)) (needs : List (Int × Int)) (ndrefs : List Value) (dcap : Nat) (X : Led) (ex : List (Str × Value)), m' = lclx [("script", .ref la), ("names", .ref NM), ("sorter", .ref S0.sA), ("needs", .ref ND)] ex ∧
        l' = (ND, lstO ndrefs dcap) :: sled w { S0 with oD := oD } (cells rows ++ (X ++ [(R2, lstO nums 0), (NM, lstO nmrefs 0)])) ∧ SOk (sK w) { S0 with oD := oD } rows (4 + 3 * i) ∧ Built (absR rows) ((nPn needs).map fun e => (e.2, e.1)) ∧ (∀ k, k ∈ (absR rows).map (·.key) ↔ k ∈ nmL.map S) ∧
        PairsIn isInt isInt X ndrefs needs ∧ (∀ e ∈ needs, e.1 ∈ ([0, 1, 2, 3] : List Int) ∧ e.2 ∈ ([0, 1, 2, 3] : List Int)) ∧ ndrefs.length ≤ i ∧ i ≤ 9) ?_ ?_ ?_ ?_
      · rintro i m' l' ⟨oD, rows, needs, ndrefs, dcap, X, ex, rfl, rfl, _⟩
        exact .tail _ (.tail _ (.tail _ (.tail _ (base oD rows X).1)))
      · exact ⟨oD, rows, [], [], 0, [], _, lcl_norm ⟨rfl, rfl, rfl, rfl, trivial⟩, rfl, so, B, hk, .nil, (fun _ h => nomatch h), Nat.le_refl _, Nat.zero_le _⟩
      · clear so B hk hR2
        rintro i v o m' l' hv ⟨oD, rows, needs, ndrefs, dcap, X, ex, rfl, rfl, so, B, hk, hP, h4, hdl, hi9⟩
        obtain ⟨q, tq, rfl, hq⟩ := hI2.at i v hv
        have hi : i < nums.length := (List.getElem?_eq_some_iff.mp hv).1
        obtain ⟨hR2, hNM⟩ := base oD rows X
        refine Tri.gen1 fun Q1 hQ1 => ?_
        repeat' walk_at "w4"
        obtain ⟨fw, hfw⟩ : ∃ fw : Nat, q % 10 ^ Int.toNat 6 = (fw : Int) := ⟨(q % 10 ^ Int.toNat 6).toNat, (Int.toNat_of_nonneg (Int.emod_nonneg _ (by decide))).symm⟩
        rw [hfw]
        refine law_need (n := 19) okb fun T1 t5 t6 => ?_
        have hjn := jobN_lt fw
        generalize jobN fw = jn at hjn ⊢
        obtain ⟨job, need⟩ := jn
        obtain ⟨hj, hn⟩ := hjn
        dsimp only at hj hn ⊢
        repeat' walk_at "w4"
        refine Tri.assignT okb.handled (.head _) rfl rfl ?_
        show Tri _ _ _ _ _ (assignInOrder [_, _] [_, _]) _
        repeat' walk_at "w4"
        have hj4 := four_cast hj
        have hn4 := four_cast hn
        obtain ⟨tn, htn⟩ := nm_at hS hn4
        obtain ⟨tj, htj⟩ := nm_at hS hj4
        refine Tri.sub_list (v := .str (nmZ need) tn) (by walk_at "mem") (four_nonneg hn4) (by rw [hnl, sizeLine_eq]; decide) htn ?_
        repeat' walk_at "w4"
        rename_i t12
        rw [show (fw : Int) / 64 = ((fw / 64 : Nat) : Int) by simp]
        have hxm := nmL_mem hn
        show Tri _ _ _ _ _ (call (.ref 169) [.str (S (nmL.getD need [])) tn, .int ((fw / 64 : Nat) : Int) t12]) _
        refine law_misspelt (n := 19) (x := nmL.getD need []) (nm_four _ hxm).1 (nm_upper _ hxm) okb fun T2 t8 t9 => ?_
        have hd4 : fw / 64 / 4 % 4 < 4 := Nat.mod_lt _ (by decide)
        have hc2 : fw / 64 / 16 % 2 < 2 := Nat.mod_lt _ (by decide)
        have hp4 : fw / 64 % 4 < 4 := Nat.mod_lt _ (by decide)
        generalize fw / 64 / 4 % 4 = deed at hd4 ⊢
        generalize fw / 64 / 16 % 2 = capi at hc2 ⊢
        generalize fw / 64 % 4 = pl at hp4 ⊢
        repeat' walk_at "w4"
        refine Tri.assignT okb.handled (.head _) rfl rfl ?_
        show Tri _ _ _ _ _ (assignInOrder [_, _] [_, _]) _
        repeat' walk_at "w4"
        refine law_near (n := 17) hn hp4 hd4 hc2 (by walk_at "mem") hS okb fun N2 T3 cap' t10 t11 => ?_
        generalize price2 deed capi = pr
        repeat' walk_at "w4"
        refine Tri.sub_list (v := .str (nmZ need) tn) (by walk_at "mem") (four_nonneg hn4) (by rw [hnl, sizeLine_eq]; decide) htn ?_
        repeat' walk_at "w4"
        have hcl : (PyData.list [.tuple [.int pr, .str (nmZ need)]]).canLay0 = true := by
          simp only [PyData.canLay0, PyData.canLayAll0, nmZ_ok hn4, Bool.and_self]
        have hsh : SeqAt.shaped (.list [.tuple [.int pr, .str (nmZ need)]]) = true := shaped_of hcl (by simp only [PyData.depth, PyData.depthAll]; decide)
        refine Tri.ne_data (dx := .list [.tuple [.int pr, .str (nmZ need)]]) (dy := .list [.tuple [.int pr, .str (nmZ need)]]) (.list (by walk_at "mem") (.cons (.tuple (by walk_at "mem") (.cons (.int _ _) (.cons (.str _ _) .nil))) .nil)) (.list (by walk_at "mem") (.cons (.tuple (by walk_at "mem") (.cons (.int _ _) (.cons (.str _ _) .nil))) .nil)) hsh hsh (by have := okb.units; omega) ?_
        rw [SeqAt.eqv_refl _ hcl]
        clear hcl hsh
        repeat' walk_at "w4"
        refine Tri.sub_list (v := .str (nmZ job) tj) (by walk_at "mem") (four_nonneg hj4) (by rw [hnl, sizeLine_eq]; decide) htj ?_
        repeat' walk_at "w4"
        refine Tri.sub_list (v := .ref T3) (by walk_at "mem") (by decide) (by rw [sizeLine_eq]; show 1 ≤ 16777216; decide) (by rfl) ?_
        repeat' walk_at "w4"
        refine Tri.sub_tup (v := .str (nmZ need) t11) (j := 1) (by walk_at "mem") rfl (by rw [sizeLine_eq]; show 2 ≤ 16777216; decide) (by rfl) ?_
        repeat' walk_at "w4"
        show Tri _ _ _ _ _ (call (.ref 101) [.ref S0.sA, .str (nmZ job) tj, .str (nmZ need) t11]) _
        refine CTri.call (CTri.perm (sled_ins w _ (cells rows) (X ++ [(R2, lstO nums 0), (NM, lstO nmrefs 0)]) [_, _, _, _, _, _, _, _]) ?_)
        refine s_add (n := 16) (k := nmZ job) (ps := [nmZ need]) sK_good so hs3 (by simp; omega) (sK_is _ _) (.cons (sK_is _ _) .nil) okb fun oD' rows' so' habs => ⟨rfl, ?_⟩
        refine Tri.perm (sled_ins w _ (cells rows') (X ++ [(R2, lstO nums 0), (NM, lstO nmrefs 0)]) [_, _, _, _, _, _, _, _]).symm ?_
        obtain ⟨B', hk'⟩ := B.add (nmZ job) [nmZ need]
        rw [← habs] at B' hk'
        repeat' walk_at "w4"
        rename_i pl5 T5
        refine Tri.append (Put.tail (Put.tail (Put.tail (Put.tail (Put.tail (Put.tail (Put.tail (Put.tail Put.head)))))))) (by rw [sizeLine_eq]; omega) ⟨rfl, ?_⟩
        repeat' walk_at "w4"
        refine hQ1 _ _ _ ⟨_, Sub.permL (((sled_ins w _ (cells rows') (X ++ [(R2, lstO nums 0), (NM, lstO nmrefs 0)]) [(T5, tupO [.int (job : Int) t5, .int (need : Int) t6])]).symm.cons _ |>.cons _).trans (List.perm_middle (l₁ := [_, _]))) (Sub.cons₂ _ (Sub.cons _ (Sub.cons _ (Sub.cons _ (Sub.cons _ (Sub.cons _ (Sub.cons _ (Sub.refl _)))))))),
          oD', rows', needs ++ [((job : Int), (need : Int))], ndrefs ++ [.ref T5], dcap + 1, (T5, tupO [.int (job : Int) t5, .int (need : Int) t6]) :: X, _, lcl_norm ⟨rfl, rfl, rfl, rfl, trivial⟩, rfl, so'.mono (by simp; omega), ?_, fun k => ?_, (hP.mono fun p hp => .tail _ hp).snoc (.head _) ⟨_, rfl⟩ ⟨_, rfl⟩, fun e he => ?_, ?_, by omega⟩
        · show Built _ (((needs ++ [_]).map _).map _)
          rw [List.map_append, List.map_append]; exact B'
        · rw [hk', hk]
          constructor
          · rintro (h1 | rfl | h1)
            · exact h1
            · exact nmZ_mem hj4
            · rw [List.mem_singleton.mp h1]; exact nmZ_mem hn4
          · exact .inl
        · rcases List.mem_append.mp he with he | he
          · exact h4 e he
          · rw [List.mem_singleton.mp he]; exact ⟨hj4, hn4⟩
        · rw [List.length_append, List.length_singleton]; omega
      · rintro m' l' ⟨oD, rows, needs, ndrefs, dcap, X, ex, rfl, rfl, so, B, hk, hP, h4, hdl, hi9⟩
        obtain ⟨hR2, hNM⟩ := base oD rows X
        have hndl : needs.length ≤ 9 := by rw [← hP.length]; omega
        repeat' walk_at "w4"
        refine Tri.perm (sled_ins w _ (cells rows) (X ++ [(R2, lstO nums 0), (NM, lstO nmrefs 0)]) [(ND, lstO ndrefs dcap)]) ?_
        refine law_course (n := 15) (so.mono (by omega)) hs3 B hk nmL_nodup (by decide) nmL_ok okb fun ring T RD rrefs rc Xr rs rest hlw hrt hrl => ?_
        repeat' walk_at "w4"
        refine law_struck (n := 19) (needs := needs) (ncap := 0) (.tail _ (.tail _ (List.mem_append_right _ (.tail _ (List.mem_append_right X (.tail _ (.head _))))))) (.tail _ (.tail _ (List.mem_append_right _ (.head _)))) hS (hP.mono fun p hp => .tail _ (.tail _ (List.mem_append_right _ (.tail _ (List.mem_append_left _ hp))))) h4 (by omega) okb fun T4 RD4 rrefs4 rc4 X4 rs4 rest4 hlw4 hrl4 => ?_
        obtain ⟨rfl, hpr⟩ := hlw.unique (List.Perm.refl _) hlw4
        have hring : ring = !rest4.isEmpty := by
          have h1 := hrt _ _ hlw
          rw [Bool.eq_iff_iff, h1]
          have : rest = [] ↔ rest4 = [] := ⟨fun e => by rw [e] at hpr; exact hpr.nil_eq.symm, fun e => by rw [e] at hpr; exact hpr.eq_nil⟩
          cases rest4 with
          | nil => simp [this]
          | cons x r => simp [this]
        repeat' walk_at "w4"
        refine Tri.eq_data (dx := .tuple [.bool ring, .list (rdata rs)]) (dy := .tuple [.bool ring, .list (rdata rs)]) ?_ ?_ (shaped_res (hlw.ok nmL_ok)) (shaped_res (hlw.ok nmL_ok)) (by have := okb.units; omega) ?_
        · exact .tuple (.tail _ (.tail _ (List.mem_append_right _ (.head _)))) (.cons (.bool _) (.cons (.list (.tail _ (.tail _ (List.mem_append_right _ (.tail _ (.head _))))) (hrl.mono fun p hp => .tail _ (.tail _ (List.mem_append_right _ (.tail _ (.tail _ (List.mem_append_left _ hp))))))) .nil))
        · rw [hring]
          exact .tuple (.head _) (.cons (.bool _) (.cons (.list (.tail _ (.head _)) (hrl4.mono fun p hp => .tail _ (.tail _ (List.mem_append_left _ hp)))) .nil))
        · rw [SeqAt.eqv_refl _ (canLay_res (hlw.ok nmL_ok))]
  · exact goodW_bool F' hg (raisesW_false (by wrow_none_raised)) (by wrow_post))
end Mine
theorem PySem.Challenge.cw_mq0363_02_holds : PySem.Challenge.rw_mq0363_02.Holds := by
  exact Mine.law02
