import PyProof.Rows.All
import Wide.All
import OpenK.AllK
import Wide.FinOn
import PySem.Challenge.RW_rx0094_01
set_option Elab.async false
set_option maxRecDepth 100000
set_option maxHeartbeats 0
set_option linter.unusedVariables false
set_option linter.unusedSimpArgs false
section
open PySem PySem.W PyProof.Rows
namespace Mine
/-- The text without the four statements that bind a name with no test of the kit's (their names are the loose ones) or bind none. -/
noncomputable def view : Program :=
  (fun (a0 a1 a2 a3 a4 a5 a6 a7 a8 a9 a10 a11 a12 a13 a14 a15 a16 a17 a18 a19 a20 a21 a22 a23 a24 a25 : Stmt) (_ : PySem.Challenge.pw_rx0094_01.main.body = [a0, a1, a2, a3, a4, a5, a6, a7, a8, a9, a10, a11, a12, a13, a14, a15, a16, a17, a18, a19, a20, a21, a22, a23, a24, a25]) =>
    ({ PySem.Challenge.pw_rx0094_01 with main := { PySem.Challenge.pw_rx0094_01.main with body := [a0, a1, a3, a4, a6, a7, a9, a10, a11, a13, a14, a15, a16, a17, a18, a19, a20, a21, a22, a23, a24, a25] } } : Program)) _ _ _ _ _ _ _ _ _ _ _ _ _ _ _ _ _ _ _ _ _ _ _ _ _ _ rfl
noncomputable abbrev loose : List PySem.Str := [PySem.Str.ofString "_twin_re_1", PySem.Str.ofString "_special_chars_map"]
noncomputable abbrev extra : Shared → Bool := fun s => xlAt view [] s && recOk (RowW.records (OpenRow.toRowW PySem.Challenge.rw_rx0094_01.row)) s
/-- The row is well said: a look by the kernel. -/
theorem law_said : OpenLaw.wellSaid PySem.Challenge.rw_rx0094_01 = true := by kernel_rfl
local macro_rules | `(tactic| o_law) => `(tactic| refine holds_law law_said fun said => ?_)
-- The head: the run of the top is left as a premise beside the walk; it is proved below by four looks of the kernel.
set_option hygiene false in
local macro_rules | `(tactic| o_head $H) => `(tactic| (
  refine (fun (hT : LeftO PySem.Challenge.rw_rx0094_01.row.prog view loose extra (Hook.obs $H) (Hook.val $H) 4054 ∧ _) => holds_open (q := view) (loose := loose) (Xt := extra) (XP := XL view []) (Yf := Hook.obs $H) (Ya := Hook.val $H) (YP := Hook.says $H) (N := 4054) hT.1 (Hook.of $H) (Hook.keeps $H) (fun s e => xl_of s (Bool.and_eq_true_iff.mp e).1) XL.keeps (by rfl) (by rfl) (by rfl) (fun s e => recFacts_of (Bool.and_eq_true_iff.mp e).2) (by rfl) (by first | assumption | decide +kernel) (by decide +kernel) ⟨rfl, rfl, rfl, rfl, rfl, by decide +kernel⟩ ?hw hT.2) ?hc))
open_top hd for PySem.Challenge.rw_rx0094_01
noncomputable abbrev addrs : List Addr := [2, 3, 35, 36, 38, 42, 44, 45, 47, 48, 49, 51, 52, 54, 55, 56, 58, 59, 61, 62, 63, 65, 66, 68, 69, 70, 72, 73, 75, 76, 77, 79, 80, 82, 83, 84, 86, 87, 89, 90, 91, 94, 95, 96, 98, 99, 101, 102, 103, 105, 106, 108, 109, 110, 112, 113, 115, 116, 117, 119, 120, 122, 123, 124, 126, 127, 129, 130, 131, 133, 134, 136, 137, 138, 141, 142, 143, 146, 147, 148, 150, 151, 153, 154, 155, 158, 159, 160, 163, 164]
noncomputable abbrev hook : Hook := kmHook hd.heap_1 addrs (fun _ => by kernel_rfl) [50]
/-- One look: the run of the whole top in a world, and what it leaves. -/
noncomputable abbrev LeftAt (w : World) : Prop :=
  (openEnds treeTable PySem.Challenge.rw_rx0094_01.row.prog w 4054).map (fun s => (openSeen view loose (importedModules PySem.Challenge.rw_rx0094_01.row.prog.main.body) extra true s, hook.obs s)) = some (openGood view loose, hook.val w)
theorem left_ff (w : World) : LeftAt ((w.withFollow "special-get-raises" false).withFollow "comprehension-iter-twice" false) := by kernel_rfl
theorem left_tf (w : World) : LeftAt ((w.withFollow "special-get-raises" true).withFollow "comprehension-iter-twice" false) := by kernel_rfl
theorem left_ft (w : World) : LeftAt ((w.withFollow "special-get-raises" false).withFollow "comprehension-iter-twice" true) := by kernel_rfl
theorem left_tt (w : World) : LeftAt ((w.withFollow "special-get-raises" true).withFollow "comprehension-iter-twice" true) := by kernel_rfl
theorem left : LeftO PySem.Challenge.rw_rx0094_01.row.prog view loose extra (Hook.obs hook) (Hook.val hook) 4054 :=
  byRow2 (P := LeftAt) "comprehension-iter-twice" (byRow2 (P := fun w => LeftAt (w.withFollow "comprehension-iter-twice" false)) "special-get-raises" left_ff left_tf)
    (byRow2 (P := fun w => LeftAt (w.withFollow "comprehension-iter-twice" true)) "special-get-raises" left_ft left_tt)
theorem with_left {A B C : Prop} (f : A ∧ B → C) (a : A) (b : B) : C := f ⟨a, b⟩
end Mine
end
section
open PySem PySem.W PyProof.Rows PySem.Calls
namespace Mine
noncomputable abbrev PR : Program := PySem.Challenge.rw_rx0094_01.row.prog
noncomputable abbrev Led := List (Addr × Obj)
noncomputable abbrev Vs := List (Option Value)
noncomputable def lkm : List Str → Vs → Str → Option Value
  | x :: ns, v :: vs, y => if y = x then v else lkm ns vs y
  | _, _, _ => none
inductive Lk : List Str → Vs → Str → Value → Prop
  | here {x : Str} {ns : List Str} {v : Value} {vs : Vs} : Lk (x :: ns) (some v :: vs) x v
  | there {x y : Str} {ns : List Str} {u : Option Value} {vs : Vs} {v : Value} : Lk ns vs x v → Lk (y :: ns) (u :: vs) x v
inductive St : List Str → Vs → Str → Value → Vs → Prop
  | here {x : Str} {ns : List Str} {u : Option Value} {v : Value} {vs : Vs} : St (x :: ns) (u :: vs) x v (some v :: vs)
  | there {x y : Str} {ns : List Str} {u : Option Value} {vs vs' : Vs} {v : Value} : St ns vs x v vs' → St (y :: ns) (u :: vs) x v (u :: vs')
theorem Lk.mem {ns vs x v} (h : Lk ns vs x v) : x ∈ ns := by
  induction h with
  | here => exact .head _
  | there _ ih => exact .tail _ ih
theorem Lk.at {ns vs x v} (h : Lk ns vs x v) (nd : ns.Nodup) : lkm ns vs x = some v := by
  induction h with
  | here => simp [lkm]
  | there h ih =>
    rw [List.nodup_cons] at nd
    rename_i x y ns u vs v
    have : ¬ x = y := fun e => nd.1 (e ▸ h.mem)
    unfold lkm
    rw [if_neg this]
    exact ih nd.2
theorem St.mem {ns vs x v vs'} (h : St ns vs x v vs') : x ∈ ns := by
  induction h with
  | here => exact .head _
  | there _ ih => exact .tail _ ih
theorem St.at {ns vs x v vs'} (h : St ns vs x v vs') (nd : ns.Nodup) : (fun y => if y = x then some v else lkm ns vs y) = lkm ns vs' := by
  induction h with
  | here => funext y; unfold lkm; split <;> rfl
  | @there x y ns u vs vs' v h ih =>
    rw [List.nodup_cons] at nd
    have hne : ¬ x = y := fun e => nd.1 (e ▸ h.mem)
    funext z
    have := congrFun (ih nd.2) z
    unfold lkm
    by_cases hz : z = y
    · rw [if_pos hz, if_pos hz, if_neg (fun e => hne (e.symm.trans hz))]
    · rw [if_neg hz, if_neg hz]; exact this
theorem lkm_binds {ps : List (Str × Value)} {rest : List Str} (nd : (ps.map (·.1) ++ rest).Nodup) : (fun y => ps.reverse.lookup y) = lkm (ps.map (·.1) ++ rest) (ps.map (fun p => some p.2) ++ rest.map fun _ => none) := by
  funext y
  induction ps with
  | nil =>
    simp only [List.map_nil, List.nil_append, List.reverse_nil, List.lookup_nil]
    clear nd
    induction rest with
    | nil => rfl
    | cons x r ih => simp only [List.map_cons, lkm]; split; rfl; exact ih
  | cons p ps ih =>
    simp only [List.map_cons, List.cons_append, List.nodup_cons] at nd
    simp only [List.map_cons, List.cons_append, lkm, List.reverse_cons, List.lookup_append]
    rw [ih nd.2]
    by_cases hy : y = p.1
    · rw [if_pos hy]
      have hn : lkm (List.map (fun x => x.1) ps ++ rest) (List.map (fun p => some p.2) ps ++ List.map (fun _ => none) rest) y = none := by
        rw [← ih nd.2]
        cases q : ps.reverse.lookup y with
        | none => rfl
        | some v =>
          exfalso
          have : (y, v) ∈ ps.reverse := by
            clear ih nd
            generalize ps.reverse = l at q
            induction l with
            | nil => cases q
            | cons a l ih =>
              rw [List.lookup_cons] at q
              by_cases ha : (y == a.1) = true
              · rw [ha] at q; cases q; rw [beq_iff_eq] at ha; subst ha; exact .head _
              · rw [Bool.not_eq_true] at ha; rw [ha] at q; exact .tail _ (ih q)
          apply nd.1
          rw [List.mem_append]
          refine .inl (List.mem_map.mpr ⟨(y, v), List.mem_reverse.mp this, ?_⟩)
          exact hy
      rw [hn, hy]
      obtain ⟨x, v⟩ := p
      simp [List.lookup]
    · rw [if_neg hy]
      have : (y == p.1) = false := beq_eq_false_iff_ne.mpr hy
      obtain ⟨x, v⟩ := p
      simp only [List.lookup, this]
      simp

variable {w : World}
/-- a frame and what is known of it -/
structure Fx (w : World) (lv : Nat) (ev : Env) (ns : List Str) (gs : List (Str × Value)) where
  A : Around
  h₀ : Heap
  s₀ : Shared
  hid : Led
  nd : ns.Nodup
  kind : ev.scope.kind = .function
  loc : ∀ x ∈ ns, ev.kindOf x = some .local ∧ (x == ("__debug__" : Str)) = false
  mg : Str → Option Value
  mb : Str → Option Value
  glb : ∀ q ∈ gs, ev.kindOf q.1 = some .globalImplicit ∧ (q.1 == ("__debug__" : Str)) = false ∧ (mg q.1 = some q.2 ∨ mg q.1 = none ∧ mb q.1 = some q.2)
  p : Program
  loose : List Str
  mean : ExcName → Option Value
  T : Top p loose mean mg mb h₀
  X : (Mine.hd.heap_1 w.params).In h₀
  eg : ev.globals = mainGlobals
  eb : ev.builtins = builtinsNs
  hand : A.handled = none
  A₀ : Around
  base : Heap
  outer : List Env
  bel : Below A₀ base outer h₀
  fra : A.frames = some (ev :: outer)
  fr : ev.frame = some ev.locals
  room : A.depth + lv < recursionLimit
  units : A.units + 20 * lv + 100 < cLine

structure Ok (n hid : Led) : Prop where
  nd : ((n ++ hid).map (·.1)).Nodup
section
variable {lv : Nat} {ev : Env} {ns : List Str} {gs : List (Str × Value)}
noncomputable def Inv (c : Fx w lv ev ns gs) (vs : Vs) (n : Led) (h : Heap) : Prop := Fr c.h₀ ev.locals h (lkm ns vs) ∧ News c.h₀ ev.locals h (n ++ c.hid) ∧ Ok n c.hid
noncomputable def At (c : Fx w lv ev ns gs) (h : Heap) (tk : Nat) : Shared := { c.s₀ with heap := h, toks := tk }
noncomputable def Post {α : Type} (c : Fx w lv ev ns gs) (Q : α → Vs → Led → Prop) (v : α) (s' : Shared) : Prop := ∃ h' tk' vs' n', s' = At c h' tk' ∧ Inv c vs' n' h' ∧ Q v vs' n'
end
structure WP {α : Type} (w : World) (lv : Nat) (ev : Env) (ns : List Str) (gs : List (Str × Value)) (vs : Vs) (n : Led) (t : Sem α) (Q : α → Vs → Led → Prop) : Prop where
  run : ∀ (c : Fx w lv ev ns gs) (E : Value → Shared → Prop) h tk, Inv c vs n h → wpAny (model PR w) c.A t (Post c Q) E (At c h tk)

section
variable {α β : Type} {lv : Nat} {ev : Env} {ns : List Str} {gs : List (Str × Value)} {c : Fx w lv ev ns gs} {vs : Vs} {n : Led} {h : Heap} {tk : Nat} {E : Value → Shared → Prop} {env : Env}
theorem Post.ok {Q : α → Vs → Led → Prop} {v : α} (I : Inv c vs n h) (q : Q v vs n) : Post c Q v (At c h tk) := ⟨h, tk, vs, n, rfl, I, q⟩
theorem WP.to {t : Sem α} {Q : α → Vs → Led → Prop} {R : α → Shared → Prop} (H : WP w lv ev ns gs vs n t Q) (I : Inv c vs n h)
    (k : ∀ a h' tk' vs' n', Inv c vs' n' h' → Q a vs' n' → R a (At c h' tk')) : wpAny (model PR w) c.A t R E (At c h tk) :=
  wpAny_mono (H.run c E h tk I) (fun a _ ⟨h', tk', vs', n', e, I', q⟩ => e ▸ k a h' tk' vs' n' I' q) fun _ _ x => x
theorem WP.mono {t : Sem α} {Q Q' : α → Vs → Led → Prop} (H : WP w lv ev ns gs vs n t Q) (k : ∀ a vs' n', Q a vs' n' → Q' a vs' n') : WP w lv ev ns gs vs n t Q' := WP.mk fun c _ _ _ I => H.to I fun a _ _ _ _ I' q => Post.ok I' (k a _ _ q)
theorem WP.pure_ {a : α} {Q : α → Vs → Led → Prop} (h : Q a vs n) : WP w lv ev ns gs vs n (Pure.pure a) Q := WP.mk fun c _ _ _ I => wpAny_pure (Post.ok I h)
theorem WP.bind_ {m : Sem α} {f : α → Sem β} {Q : β → Vs → Led → Prop} (h : WP w lv ev ns gs vs n m fun a vs n => WP w lv ev ns gs vs n (f a) Q) : WP w lv ev ns gs vs n (m >>= f) Q := WP.mk fun c _ _ _ I => wpAny_bind (h.to I fun _ _ _ _ _ I' H => H.run _ _ _ _ I')

/- statements -/
theorem WP.execs_nil {Q : Flow → Vs → Led → Prop} (h : Q .next vs n) : WP w lv ev ns gs vs n (execs [] ev) Q := WP.mk fun c _ _ _ I => wpAny_execs_nil (Post.ok I h)
noncomputable def Then (k : Vs → Led → Prop) (Q : Flow → Vs → Led → Prop) : Flow → Vs → Led → Prop
  | .next => k
  | f => Q f
theorem Then.next {k : Vs → Led → Prop} {Q : Flow → Vs → Led → Prop} (h : k vs n) : Then k Q .next vs n := h
theorem Then.ret {k : Vs → Led → Prop} {Q : Flow → Vs → Led → Prop} {v : Value} (h : Q (.ret v) vs n) : Then k Q (.ret v) vs n := h
theorem Then.brk {k : Vs → Led → Prop} {Q : Flow → Vs → Led → Prop} (h : Q .brk vs n) : Then k Q .brk vs n := h
/-- what is wanted behind a statement: the rest of its list is walked -/
noncomputable def Seq (w : World) (lv : Nat) (ev : Env) (ns : List Str) (gs : List (Str × Value)) (rest : List Stmt) (Q : Flow → Vs → Led → Prop) : Flow → Vs → Led → Prop := Then (fun vs n => WP w lv ev ns gs vs n (execs rest ev) Q) Q
theorem Seq.next {rest : List Stmt} {Q : Flow → Vs → Led → Prop} (h : WP w lv ev ns gs vs n (execs rest ev) Q) : Seq w lv ev ns gs rest Q .next vs n := h
theorem Seq.ret {rest : List Stmt} {Q : Flow → Vs → Led → Prop} {v : Value} (h : Q (.ret v) vs n) : Seq w lv ev ns gs rest Q (.ret v) vs n := h
theorem Seq.brk {rest : List Stmt} {Q : Flow → Vs → Led → Prop} (h : Q .brk vs n) : Seq w lv ev ns gs rest Q .brk vs n := h
theorem WP.execs_cons {st : Stmt} {rest : List Stmt} {Q : Flow → Vs → Led → Prop}
    (h : WP w lv ev ns gs vs n (exec st ev) (Seq w lv ev ns gs rest Q)) : WP w lv ev ns gs vs n (execs (st :: rest) ev) Q := WP.mk fun c _ _ _ I => wpAny_execs_cons (h.to I fun f _ _ _ _ I' H => by cases f <;> first | exact H.run _ _ _ _ I' | exact Post.ok I' H)
theorem WP.store_ {x : Str} {v : Value} {vs' : Vs} {Q : Unit → Vs → Led → Prop} (s : St ns vs x v vs') (h : Q () vs' n) : WP w lv ev ns gs vs n (storeName ev x v) Q := WP.mk fun c _ hp tk I => wpAny_storeName_local (c.loc x s.mem).1 I.1.ns (fun h' hn hs =>
    ⟨h', tk + 1, vs', n, rfl, ⟨(St.at s c.nd) ▸ I.1.set hn hs, I.2.1.set hs, I.2.2⟩, h⟩) (by rw [c.kind]; rfl)
theorem WP.assign_ {x : Str} {p' : Pos} {value : PySem.Expr} {pos : Pos} {Q : Flow → Vs → Led → Prop}
    (h : WP w lv ev ns gs vs n (eval value ev) fun v vs n => ∃ vs', St ns vs x v vs' ∧ Q .next vs' n)
    (hs : swapsWith value (some (.Name x p')) pos.line ev = Pure.pure false := by with_unfolding_all rfl) : WP w lv ev ns gs vs n (exec (.Assign [.Name x p'] value pos) ev) Q := WP.mk fun c _ _ _ I => wpAny_Assign_Name (h.to I fun _ _ _ _ _ I' ⟨_, s, q⟩ => (WP.store_ (Q := fun _ => Q .next) s q).run _ _ _ _ I') hs
theorem WP.return_ {e : PySem.Expr} {pos : Pos} {Q : Flow → Vs → Led → Prop} (h : WP w lv ev ns gs vs n (eval e ev) fun v => Q (.ret v)) : WP w lv ev ns gs vs n (exec (.Return (some e) pos) ev) Q := WP.mk fun c _ _ _ I => wpAny_Return_some (h.to I fun _ _ _ _ _ I' q => Post.ok I' q)
theorem WP.if_ {test : PySem.Expr} {body orelse : List Stmt} {pos : Pos} {Q : Flow → Vs → Led → Prop}
    (h : WP w lv ev ns gs vs n (isTrue test ev (eval test ev)) fun b vs n => (b = true → WP w lv ev ns gs vs n (execs body ev) Q) ∧ (b = false → WP w lv ev ns gs vs n (execs orelse ev) Q)) :
    WP w lv ev ns gs vs n (exec (.If test body orelse pos) ev) Q := WP.mk fun c _ _ _ I => wpAny_If (h.to I fun b _ _ _ _ I' H => by
    cases b
    · exact (H.2 rfl).run _ _ _ _ I'
    · exact (H.1 rfl).run _ _ _ _ I')
theorem WP.Expr_ {e : PySem.Expr} {pos : Pos} {Q : Flow → Vs → Led → Prop} (h : WP w lv ev ns gs vs n (eval e ev) fun v vs n => (match v with | .ref _ => False | _ => True) ∧ Q .next vs n)
    (hs : swapsWith e none pos.line ev = Pure.pure false := by with_unfolding_all rfl) : WP w lv ev ns gs vs n (exec (.Expr e pos) ev) Q := WP.mk fun c _ _ _ I => wpAny_Expr (h.to I fun v _ _ _ _ I' H => by cases v <;> first | exact H.1 | exact Post.ok I' H.2) (by unfold interactive; rw [c.kind]; rfl) hs
theorem WP.assert_ {test : PySem.Expr} {msg : Option PySem.Expr} {pos : Pos} {Q : Flow → Vs → Led → Prop}
    (h : WP w lv ev ns gs vs n (isTrue test ev (eval test ev)) fun b vs n => b = true ∧ Q .next vs n) : WP w lv ev ns gs vs n (exec (.Assert test msg pos) ev) Q := WP.mk fun c _ _ _ I => wpAny_Assert_holds (h.to I fun _ _ _ _ _ I' H => ⟨H.1, Post.ok I' H.2⟩)
theorem WP.break_ {pos : Pos} {Q : Flow → Vs → Led → Prop} (h : Q .brk vs n) : WP w lv ev ns gs vs n (exec (.Break pos) ev) Q := WP.mk fun c _ _ _ I => wpAny_Break (Post.ok I h)

/- expressions -/
theorem WP.int_ {i : Int} {k : Nat} {pos : Pos} {Q : Value → Vs → Led → Prop} (h : ∀ t, Q (.int i t) vs n) : WP w lv ev ns gs vs n (eval (.Constant (.int i) k pos) env) Q := WP.mk fun c _ _ _ I => wpAny_Constant_int (Post.ok (tk := _) I (h _))
theorem WP.str_ {x : Str} {k : Nat} {pos : Pos} {Q : Value → Vs → Led → Prop} (h : ∀ t, Q (.str x t) vs n) : WP w lv ev ns gs vs n (eval (.Constant (.str x) k pos) env) Q := WP.mk fun c _ _ _ I => wpAny_Constant_str (Post.ok (tk := _) I (h _))
theorem WP.bool_ {b : Bool} {k : Nat} {pos : Pos} {Q : Value → Vs → Led → Prop} (h : Q (.bool b) vs n) : WP w lv ev ns gs vs n (eval (.Constant (.bool b) k pos) env) Q := WP.mk fun c _ _ _ I => wpAny_Constant_bool (Post.ok I h)
theorem WP.local_ {x : Str} {pos : Pos} {v : Value} {Q : Value → Vs → Led → Prop} (l : Lk ns vs x v) (h : Q v vs n) : WP w lv ev ns gs vs n (eval (.Name x pos) ev) Q := WP.mk fun c _ _ _ I => wpAny_Name (wpAny_loadName_local c.kind (c.loc x l.mem).1 I.1.ns (l.at c.nd) (Post.ok I h)) (c.loc x l.mem).2
theorem WP.global_ {x : Str} {pos : Pos} {v : Value} {Q : Value → Vs → Led → Prop} (l : (x, v) ∈ gs) (h : Q v vs n) : WP w lv ev ns gs vs n (eval (.Name x pos) ev) Q := by
  refine ⟨fun c E hp tk I => ?_⟩
  obtain ⟨h1, h2, h3⟩ := c.glb _ l
  refine Calls.Name_function_global c.kind h1 ?_ h2
  have hg : hp.Ns ev.globals c.mg := c.eg ▸ (c.T.g.keeps I.1.keep)
  rcases h3 with h3 | ⟨h3, h4⟩
  · exact Calls.loadGlobal_global hg h3 (Post.ok I h)
  · exact Calls.loadGlobal_builtin hg h3 (c.eb ▸ (c.T.b.keeps I.1.keep)) h4 (Post.ok I h)
theorem WP.binop_ {l r : PySem.Expr} {op : Operator} {pos : Pos} {Q : Value → Vs → Led → Prop}
    (h : WP w lv ev ns gs vs n (eval l env) fun a vs n => WP w lv ev ns gs vs n (eval r env) fun b vs n => WP w lv ev ns gs vs n (binaryOp op a b) Q) : WP w lv ev ns gs vs n (eval (.BinOp l op r pos) env) Q := WP.mk fun c _ _ _ I => wpAny_BinOp (h.to I fun _ _ _ _ _ I' H => H.to I' fun _ _ _ _ _ I'' H => H.run _ _ _ _ I'')
theorem WP.unary_ {x : PySem.Expr} {op : UnaryOp} {pos : Pos} {Q : Value → Vs → Led → Prop} (h : WP w lv ev ns gs vs n (eval x env) fun a vs n => WP w lv ev ns gs vs n (unaryOp op a) Q) : WP w lv ev ns gs vs n (eval (.UnaryOp op x pos) env) Q := WP.mk fun c _ _ _ I => wpAny_UnaryOp (h.to I fun _ _ _ _ _ I' H => H.run _ _ _ _ I')
theorem WP.compare_ {l r : PySem.Expr} {op : CmpOp} {pos : Pos} {Q : Value → Vs → Led → Prop}
    (h : WP w lv ev ns gs vs n (eval l env) fun a vs n => WP w lv ev ns gs vs n (eval r env) fun b vs n => WP w lv ev ns gs vs n (compareOp op a b) Q) (hm : behindInMarks op r = false := by with_unfolding_all rfl) :
    WP w lv ev ns gs vs n (eval (.Compare l [op] [r] pos) env) Q := WP.mk fun c _ _ _ I => wpAny_Compare1 (h.to I fun _ _ _ _ _ I' H => H.to I' fun _ _ _ _ _ I'' H => H.run _ _ _ _ I'') hm
theorem WP.isTrue_Compare {l r : PySem.Expr} {op : CmpOp} {pos : Pos} {whole : Sem Value} {Q : Bool → Vs → Led → Prop}
    (h : WP w lv ev ns gs vs n (eval l env) fun a vs n => WP w lv ev ns gs vs n (eval r env) fun b vs n => WP w lv ev ns gs vs n (compareOp op a b) fun v vs n => ∃ b, v = .bool b ∧ Q b vs n) (hm : behindInMarks op r = false := by with_unfolding_all rfl) :
    WP w lv ev ns gs vs n (isTrue (.Compare l [op] [r] pos) env whole) Q := WP.mk fun c _ _ _ I => wpAny_isTrue_Compare1 (h.to I fun _ _ _ _ _ I' H => H.to I' fun _ _ _ _ _ I'' H => H.to I'' fun _ _ _ _ _ I''' ⟨_, e, q⟩ => by subst e; exact wpAny_truthy_bool (Post.ok I''' q)) hm
theorem WP.isTrue_And {xs : List PySem.Expr} {op : BoolOp} {pos : Pos} {whole : Sem Value} {Q : Bool → Vs → Led → Prop} (h : WP w lv ev ns gs vs n (allTrue op xs env) Q) : WP w lv ev ns gs vs n (isTrue (.BoolOp op xs pos) env whole) Q := WP.mk fun c _ _ _ I => wpAny_isTrue_BoolOp (h.run _ _ _ _ I)
theorem WP.and_nil {Q : Bool → Vs → Led → Prop} (h : Q true vs n) : WP w lv ev ns gs vs n (allTrue .And [] env) Q := WP.mk fun c _ _ _ I => wpAny_allTrue_And_nil (Post.ok I h)
theorem WP.or_nil {Q : Bool → Vs → Led → Prop} (h : Q false vs n) : WP w lv ev ns gs vs n (allTrue .Or [] env) Q := WP.mk fun c _ _ _ I => wpAny_allTrue_Or_nil (Post.ok I h)
theorem WP.and_cons {x : PySem.Expr} {rest : List PySem.Expr} {Q : Bool → Vs → Led → Prop}
    (h : WP w lv ev ns gs vs n (isTrue x env (eval x env)) fun b vs n => (b = true → WP w lv ev ns gs vs n (allTrue .And rest env) Q) ∧ (b = false → Q false vs n)) : WP w lv ev ns gs vs n (allTrue .And (x :: rest) env) Q := WP.mk fun c _ _ _ I => wpAny_allTrue_And_cons (h.to I fun b _ _ _ _ I' H => by
    cases b
    · exact Post.ok I' (H.2 rfl)
    · exact (H.1 rfl).run _ _ _ _ I')
theorem WP.or_cons {x : PySem.Expr} {rest : List PySem.Expr} {Q : Bool → Vs → Led → Prop}
    (h : WP w lv ev ns gs vs n (isTrue x env (eval x env)) fun b vs n => (b = false → WP w lv ev ns gs vs n (allTrue .Or rest env) Q) ∧ (b = true → Q true vs n)) : WP w lv ev ns gs vs n (allTrue .Or (x :: rest) env) Q := WP.mk fun c _ _ _ I => wpAny_allTrue_Or_cons (h.to I fun b _ _ _ _ I' H => by
    cases b
    · exact (H.1 rfl).run _ _ _ _ I'
    · exact Post.ok I' (H.2 rfl))
theorem WP.isTrue_Not {x : PySem.Expr} {pos : Pos} {whole : Sem Value} {Q : Bool → Vs → Led → Prop} (h : WP w lv ev ns gs vs n (isTrue x env (eval x env)) fun b vs n => Q (!b) vs n) :
    WP w lv ev ns gs vs n (isTrue (.UnaryOp .Not x pos) env whole) Q := WP.mk fun c _ _ _ I => wpAny_isTrue_Not (h.to I fun _ _ _ _ _ I' q => Post.ok I' q)
theorem WP.isTrue_value {e : PySem.Expr} {whole : Sem Value} {Q : Bool → Vs → Led → Prop} (h : WP w lv ev ns gs vs n whole fun v vs n => WP w lv ev ns gs vs n (truthy v) Q)
    (he : isTrue e env whole = (do let v ← whole; standAt e.pos; holding [v] (truthy v)) := by with_unfolding_all rfl) : WP w lv ev ns gs vs n (isTrue e env whole) Q := WP.mk fun c _ _ _ I => wpAny_isTrue_value (h.to I fun _ _ _ _ _ I' H => H.run _ _ _ _ I') he
theorem WP.ifexp_ {test body orelse : PySem.Expr} {pos : Pos} {Q : Value → Vs → Led → Prop}
    (h : WP w lv ev ns gs vs n (isTrue test env (eval test env)) fun b vs n => (b = true → WP w lv ev ns gs vs n (eval body env) Q) ∧ (b = false → WP w lv ev ns gs vs n (eval orelse env) Q)) :
    WP w lv ev ns gs vs n (eval (.IfExp test body orelse pos) env) Q := WP.mk fun c _ _ _ I => wpAny_IfExp (h.to I fun b _ _ _ _ I' H => by
    cases b
    · exact (H.2 rfl).run _ _ _ _ I'
    · exact (H.1 rfl).run _ _ _ _ I')
theorem WP.subscript_ {value slice : PySem.Expr} {pos : Pos} {Q : Value → Vs → Led → Prop}
    (h : WP w lv ev ns gs vs n (eval value env) fun o vs n => WP w lv ev ns gs vs n (eval slice env) fun i vs n => WP w lv ev ns gs vs n (subscriptTail value slice o i) Q) : WP w lv ev ns gs vs n (eval (.Subscript value slice pos) env) Q := WP.mk fun c _ _ _ I => Subscript_ (h.to I fun _ _ _ _ _ I' H => H.to I' fun _ _ _ _ _ I'' H => H.run _ _ _ _ I'')
theorem Inv.ok {o : Obj} (I : Inv c vs n h) : Ok ((h.objs.size, o) :: n) c.hid := by
  constructor
  rw [List.cons_append, List.map_cons]
  refine List.nodup_cons.mpr ⟨fun hm => ?_, I.2.2.nd⟩
  obtain ⟨q, hq, e⟩ := List.mem_map.mp hm
  exact absurd (Heap.lt_size (I.2.1 q hq).1) (e ▸ Nat.lt_irrefl _)
theorem Inv.push {o : Obj} (I : Inv c vs n h) (hf : o.isFreed = false) : Inv c vs ((h.objs.size, o) :: n) (h.push o) :=
  ⟨I.1.push _, I.2.1.push I.1 _ hf, I.ok⟩
theorem WP.slice_ {lower upper step : Option PySem.Expr} {pos : Pos} {Q : Value → Vs → Led → Prop}
    (h : WP w lv ev ns gs vs n (evalPart lower env) fun l vs n => WP w lv ev ns gs vs n (evalPart upper env) fun u vs n => WP w lv ev ns gs vs n (evalPart step env) fun st vs n =>
      ∀ a, Q (.ref a) vs ((a, { cls := .type "slice", data := .fields #[l, u, st] }) :: n)) : WP w lv ev ns gs vs n (eval (.Slice lower upper step pos) env) Q := WP.mk fun c _ _ _ I => wpAny_Slice (h.to I fun _ _ _ _ _ I' H => H.to I' fun _ _ _ _ _ I'' H => H.to I'' fun _ _ t3 _ _ I3 H => Post.ok (h := _) (tk := t3) (I3.push rfl) (H _))
theorem WP.part_none {Q : Value → Vs → Led → Prop} (h : Q .none vs n) : WP w lv ev ns gs vs n (evalPart none env) Q := WP.mk fun c _ _ _ I => evalPart_none_step (Post.ok I h)
theorem WP.part_some {e : PySem.Expr} {Q : Value → Vs → Led → Prop} (h : WP w lv ev ns gs vs n (eval e env) Q) : WP w lv ev ns gs vs n (evalPart (some e) env) Q := h
theorem WP.items_nil {pos : Pos} {Q : List Value → Vs → Led → Prop} (h : Q [] vs n) : WP w lv ev ns gs vs n (spliced (backTo pos (starEach [] env))) Q := WP.mk fun c _ _ _ I => wpAny_items_nil (Post.ok I h)
theorem WP.items_cons {pos : Pos} {e : PySem.Expr} {rest : List PySem.Expr} {Q : List Value → Vs → Led → Prop}
    (h : WP w lv ev ns gs vs n (eval e env) fun v vs n => WP w lv ev ns gs vs n (spliced (backTo pos (starEach rest env))) fun us vs n => Q (v :: us) vs n)
    (he : starEach (e :: rest) env = (false, eval e env) :: starEach rest env := by with_unfolding_all rfl) : WP w lv ev ns gs vs n (spliced (backTo pos (starEach (e :: rest) env))) Q := WP.mk fun c _ _ _ I => wpAny_items_cons (h.to I fun _ _ _ _ _ I' H => H.to I' fun _ _ _ _ _ I'' q => Post.ok I'' q) he
theorem WP.tuple_ {elts : List PySem.Expr} {k : Nat} {pos : Pos} {Q : Value → Vs → Led → Prop}
    (h : WP w lv ev ns gs vs n (spliced (backTo pos (starEach elts env))) fun us vs n => us.length ≤ sizeLine ∧ ∀ a, Q (.ref a) vs ((a, { cls := .type "tuple", data := .seq us.toArray }) :: n)) :
    WP w lv ev ns gs vs n (eval (.Tuple elts k pos) env) Q := WP.mk fun c _ _ _ I => wpAny_Tuple (h.to I fun _ _ t1 _ _ I' H => ⟨H.1, Post.ok (tk := t1) (I'.push rfl) (H.2 _)⟩)
theorem WP.list_ {elts : List PySem.Expr} {pos : Pos} {Q : Value → Vs → Led → Prop}
    (h : WP w lv ev ns gs vs n (spliced (backTo pos (starEach elts env))) fun us vs n => us.length ≤ sizeLine ∧ ∀ a, Q (.ref a) vs ((a, { cls := .type "list", data := .seq us.toArray }) :: n)) :
    WP w lv ev ns gs vs n (eval (.List elts pos) env) Q := WP.mk fun c _ _ _ I => wpAny_List (h.to I fun _ _ t1 _ _ I' H => ⟨H.1, Post.ok (tk := t1) (I'.push rfl) (H.2 _)⟩)
theorem WP.call_ {func : PySem.Expr} {args : List PySem.Expr} {pos : Pos} {Q : Value → Vs → Led → Prop}
    (h : WP w lv ev ns gs vs n (eval func env) fun f vs n => WP w lv ev ns gs vs n (callWith pos f [] (backTo pos (starEach args env)) []) Q)
    (he : eval (.Call func args [] pos) env = (do callWith pos (← eval func env) [] (backTo pos (starEach args env)) (backToKw pos (keywordEach [] env))) := by with_unfolding_all rfl) :
    WP w lv ev ns gs vs n (eval (.Call func args [] pos) env) Q := WP.mk fun c _ _ _ I => Call_ (h.to I fun _ _ _ _ _ I' H => H.run _ _ _ _ I') he
end
end Mine
end
section
open PySem PySem.W PyProof.Rows PySem.Calls
namespace Mine
variable {w : World}
noncomputable def Ret (Q : Value → Led → Prop) : Flow → Vs → Led → Prop
  | .ret v, _, n => Q v n
  | _, _, n => Q .none n
theorem Ret.ret {Q : Value → Led → Prop} {v : Value} {vs : Vs} {n : Led} (h : Q v n) : Ret Q (.ret v) vs n := h
section
variable {α β : Type} {lv : Nat} {ev : Env} {ns : List Str} {gs : List (Str × Value)} {c : Fx w lv ev ns gs} {vs : Vs} {n : Led} {h : Heap} {tk : Nat} {E : Value → Shared → Prop} {env : Env}
theorem WP.enter {f : Addr} {us : List Value} {name qual : Str} {params : Arguments} {body : List Stmt} {scope : Scope} {dV kV doc pm cdv ct oc : Value} {an od : Option Addr} {osl : Array (Option Value)}
    {Q : Value → Vs → Led → Prop} (ps : List (Str × Value)) (rest : List Str) (gs' : List (Str × Value)) {ns' : List Str} {vs' : Vs}
    (ho : (Mine.hd.heap_1 w.params).lookup f = some ⟨oc, od, .func (fnOf name qual params body scope dV kV doc pm an cdv ct), osl⟩) (hcd : codeIn (Mine.hd.heap_1 w.params) cdv qual = true)
    (hbind : bindArgs (fnOf name qual params body scope dV kV doc pm an cdv ct) ⟨us, []⟩ = Pure.pure ps) (hloc : (ps.all fun x => decide (scope.names.lookup x.1 = some .local)) = true)
    (hns : ns' = ps.map (·.1) ++ rest) (hvs : vs' = ps.map (fun p => some p.2) ++ rest.map fun _ => none) (nd : ns'.Nodup)
    (loc : ∀ x ∈ ns', scope.names.lookup x = some .local ∧ (x == ("__debug__" : Str)) = false)
    (glb : ∀ q ∈ gs', scope.names.lookup q.1 = some .globalImplicit ∧ (q.1 == ("__debug__" : Str)) = false ∧ (nsIn (Mine.hd.heap_1 w.params) mainGlobals q.1 = some (some q.2) ∨ nsIn (Mine.hd.heap_1 w.params) mainGlobals q.1 = some none ∧ bootBuiltins q.1 = some q.2 ∧ q.1 ≠ "__name__"))
    (hco : scope.isCoroutine = false) (hgen : scope.isGenerator = false) (hk : scope.kind = .function) (hcell : ∀ x ∈ scope.names, x.2 ≠ .cell)
    (H : ∀ L, WP w lv (envOf qual scope L f cdv) ns' gs' vs' n (execs body (envOf qual scope L f cdv)) (Ret fun v n' => Q v vs n')) :
    WP w (lv + 1) ev ns gs vs n (call (.ref f) us) Q := by
  refine ⟨fun c E h tk I => ?_⟩
  refine wpAny_call (code_def c.bel I.1 c.X I.2.1 c.T c.fra c.fr c.kind ho hcd (Nat.lt_of_le_of_lt (Nat.le_add_right _ _) c.room) (BindsTo.of_eq hbind) (locs hloc) ?_ hco hgen hk hcell)
  intro g L' h₁ FG F' N' B' X' T'
  let c' : Fx w lv (envOf qual scope L' f cdv) ns' gs' :=
    { A := c.A.deeper (envOf qual scope L' f cdv), h₀ := g, s₀ := c.s₀, hid := c.hid, nd := nd, kind := hk, loc := loc, mg := c.mg, mb := c.mb,
      glb := fun q hq => ⟨(glb q hq).1, (glb q hq).2.1, (glb q hq).2.2.imp (fun e => mg_of X' T'.g e) fun e => ⟨mg_none_of X' T'.g e.1, (T'.builtins _ e.2.2).trans e.2.1⟩⟩,
      p := c.p, loose := c.loose, mean := c.mean, T := T', X := X', eg := rfl, eb := rfl, hand := c.hand, A₀ := _, base := c.base, outer := ev :: c.outer, bel := B',
      fra := by show c.A.frames.map _ = _; rw [c.fra]; rfl
      fr := rfl, room := by have := c.room; show c.A.depth + 1 + lv < _; omega
      units := by have := c.units; show c.A.units + 3 + 20 * lv + 100 < _; omega }
  have e : (fun y => List.lookup y ps.reverse) = lkm ns' vs' := by
    rw [hns, hvs]; exact lkm_binds (hns ▸ nd)
  rw [e] at F'
  have I' : Inv c' vs' n h₁ := ⟨F', N', I.2.2⟩
  refine (H L').to (tk := tk + ps.length) I' fun fl h' tk' vs'' n' I'' q => ?_
  refine ⟨L', _, n' ++ c.hid, I''.1, I''.2.1, fun F N => ?_⟩
  cases fl <;> exact Post.ok (h := h') (tk := tk') ⟨F, N, I''.2.2⟩ q
theorem WP.callK {pos : Pos} {f : Addr} {e : PySem.Expr} {rest : List PySem.Expr} {Q : Value → Vs → Led → Prop} (hk : keepIn (Mine.hd.heap_1 w.params) (.ref f) = true)
    (h : WP w lv ev ns gs vs n (spliced (backTo pos (starEach (e :: rest) env))) fun us vs n => WP w lv ev ns gs vs n (call (.ref f) us) Q)
    (he : starEach (e :: rest) env = (false, eval e env) :: starEach rest env := by with_unfolding_all rfl) (hplain : (backTo pos (starEach rest env)).any (·.1) = false := by with_unfolding_all rfl) :
    WP w lv ev ns gs vs n (callWith pos (.ref f) [] (backTo pos (starEach (e :: rest) env)) []) Q := WP.mk fun c _ _ _ I => callWith_K c.X hk (h.to I fun us _ _ _ _ I' H => ⟨c.X.keeps I'.1.keep, by rw [List.nil_append]; exact H.run _ _ _ _ I'⟩) he hplain
theorem WP.callB {pos : Pos} {id : String} {first : List Value} {e : PySem.Expr} {rest : List PySem.Expr} {Q : Value → Vs → Led → Prop}
    (h : WP w lv ev ns gs vs n (spliced (backTo pos (starEach (e :: rest) env))) fun us vs n => WP w lv ev ns gs vs n (call (.builtin id) (first ++ us)) Q)
    (he : starEach (e :: rest) env = (false, eval e env) :: starEach rest env := by with_unfolding_all rfl) (hplain : (backTo pos (starEach rest env)).any (·.1) = false := by with_unfolding_all rfl) :
    WP w lv ev ns gs vs n (callWith pos (.builtin id) first (backTo pos (starEach (e :: rest) env)) []) Q := WP.mk fun c _ _ _ I => callWith_method1 (h.to I fun _ _ _ _ _ I' H => H.run _ _ _ _ I') he hplain
theorem WP.callB0 {pos : Pos} {id : String} {first : List Value} {Q : Value → Vs → Led → Prop} (h : WP w lv ev ns gs vs n (call (.builtin id) first) Q) :
    WP w lv ev ns gs vs n (callWith pos (.builtin id) first (backTo pos (starEach [] env)) []) Q := WP.mk fun c _ _ _ I => callWith_method0 (h.run _ _ _ _ I)
theorem WP.callT {pos : Pos} {T : String} {e : PySem.Expr} {rest : List PySem.Expr} {Q : Value → Vs → Led → Prop}
    (h : WP w lv ev ns gs vs n (spliced (backTo pos (starEach (e :: rest) env))) fun us vs n => WP w lv ev ns gs vs n (call (.type T) us) Q)
    (he : starEach (e :: rest) env = (false, eval e env) :: starEach rest env := by with_unfolding_all rfl) (hplain : (backTo pos (starEach rest env)).any (·.1) = false := by with_unfolding_all rfl) :
    WP w lv ev ns gs vs n (callWith pos (.type T) [] (backTo pos (starEach (e :: rest) env)) []) Q := WP.mk fun c _ _ _ I => PyProof.Rows.callWith_type1 (h.to I fun _ _ _ _ _ I' H => H.run _ _ _ _ I') he hplain

/- the ledger -/
theorem Inv.get {a : Addr} {o : Obj} (I : Inv c vs n h) (hm : (a, o) ∈ n) : h.get? a = some o := (I.2.1 _ (List.mem_append_left _ hm)).1
theorem Inv.sub {n' : Led} (I : Inv c vs n h) (hs : n'.Sublist n) : Inv c vs n' h :=
  ⟨I.1, fun p hp => I.2.1 p ((List.mem_append.mp hp).elim (fun q => List.mem_append_left _ (hs.subset q)) (List.mem_append_right _)), ⟨(List.Sublist.map _ (hs.append (List.Sublist.refl _))).nodup I.2.2.nd⟩⟩
theorem WP.sub {t : Sem α} {Q : α → Vs → Led → Prop} {n' : Led} (hs : n'.Sublist n) (H : WP w lv ev ns gs vs n' t Q) : WP w lv ev ns gs vs n t Q := WP.mk fun c _ _ _ I => H.run _ _ _ _ (I.sub hs)
noncomputable abbrev lobj (its : List Value) (k : Nat) : Obj := { cls := .type "list", data := .seq its.toArray k }
noncomputable abbrev tobj (its : List Value) (k : Nat) : Obj := { cls := .type "tuple", data := .seq its.toArray k }
theorem Inv.list {a : Addr} {its : List Value} {k : Nat} (I : Inv c vs n h) (hm : (a, lobj its k) ∈ n) : h.IsList a its.toArray := ⟨_, I.get hm, rfl, _, rfl⟩
theorem Inv.tup {a : Addr} {its : List Value} {k : Nat} (I : Inv c vs n h) (hm : (a, tobj its k) ∈ n) : IsTup h a its.toArray := ⟨_, I.get hm, rfl, _, rfl⟩

/- items -/
section
variable {value slice : PySem.Expr} {l a : Addr} {its : List Value} {k : Nat} {i : Int} {u : Tok} {x : Value} {Q : Value → Vs → Led → Prop}
theorem WP.list_item (hm : (l, lobj its k) ∈ n) (h0 : 0 ≤ i) (h1 : i < 2 ^ 63) (hx : its[i.toNat]? = some x) (hQ : Q x vs n)
    (hs : subscripted slice false (.ref l) (.int i u) = operate [.ref l, .int i u] (getItem (.ref l) (.int i u)) := by with_unfolding_all rfl) : WP w lv ev ns gs vs n (subscriptTail value slice (.ref l) (.int i u)) Q := WP.mk fun c _ _ _ I => tail_any (I.list hm).typeIs slot_list_getitem.lookup (wpAny_getItem_list (I.list hm) h0 h1 (by simpa using hx) (Post.ok I hQ)) hs
theorem WP.list_last (hm : (l, lobj its k) ∈ n) (hi : i = -1) (hx : its[its.length - 1]? = some x) (hQ : Q x vs n)
    (hs : subscripted slice false (.ref l) (.int i u) = operate [.ref l, .int i u] (getItem (.ref l) (.int i u)) := by with_unfolding_all rfl) : WP w lv ev ns gs vs n (subscriptTail value slice (.ref l) (.int i u)) Q := WP.mk fun c _ _ _ I => by
    have hpos : 0 < its.length := by
      cases its with
      | nil => simp at hx
      | cons _ _ => simp
    refine tail_any (I.list hm).typeIs slot_list_getitem.lookup (wpAny_getItem_list_neg (I.list hm) (by omega) ?_ (by subst hi; decide) (x := x) ?_ (Post.ok I hQ)) hs
    · rw [List.size_toArray]; omega
    · rw [List.size_toArray]
      have : (i + (its.length : Int)).toNat = its.length - 1 := by omega
      rw [this]; simpa using hx
theorem WP.tup_item {j : Nat} (hm : (l, tobj its k) ∈ n) (hlo : -(2 ^ 63) ≤ i) (hhi : i < 2 ^ 63) (hj : seqIndex? i its.length = some j) (hx : its[j]? = some x) (hQ : Q x vs n)
    (hs : subscripted slice false (.ref l) (.int i u) = operate [.ref l, .int i u] (getItem (.ref l) (.int i u)) := by with_unfolding_all rfl) : WP w lv ev ns gs vs n (subscriptTail value slice (.ref l) (.int i u)) Q := WP.mk fun c _ _ _ I => tail_any (I.tup hm).typeIs slot_tuple_getitem.lookup (PyProof.Rows.getItem_tuple (I.tup hm) hlo hhi (by rw [List.size_toArray]; exact hj) (by simpa using hx) (Post.ok I hQ)) hs
theorem WP.list_slice {vl vu : Value} {lo hi : Option Int} (hm : (l, lobj its k) ∈ n) (pl : IsPart vl lo) (pu : IsPart vu hi) (hsz : its.length ≤ sizeLine)
    (hQ : ∀ b, Q (.ref b) vs ((b, lobj (slicePick its.toArray lo hi none).toList 0) :: n))
    (hs : subscripted slice false (.ref l) (.ref a) = operate [.ref a, .ref l] (getItem (.ref l) (.ref a)) := by with_unfolding_all rfl) :
    WP w lv ev ns gs vs ((a, { cls := .type "slice", data := .fields #[vl, vu, .none] }) :: n) (subscriptTail value slice (.ref l) (.ref a)) Q := WP.mk fun c _ _ _ I => by
    have I' := I.sub (List.sublist_cons_self _ n)
    refine tail_any (I'.list hm).typeIs slot_list_getitem.lookup (wpAny_getItem_list_slice (I'.list hm) ⟨_, I.get (.head _), rfl, rfl⟩ pl pu .none (by simp) ?_ (by rw [List.size_toArray]; exact hsz)) hs
    exact Post.ok (tk := _) (I'.push (o := { cls := .type "list", data := .seq (slicePick its.toArray lo hi none) }) rfl) (hQ _)
theorem WP.str_item {y : Str} {t : Tok} (hf : fitsSsize i = true) (h1 : -(y.length : Int) ≤ i) (h2 : i < y.length) (hQ : ∀ t', Q (.str (Txt.item y i) t') vs n)
    (hs : subscripted slice false (.str y t) (.int i u) = operate [.str y t, .int i u] (getItem (.str y t) (.int i u)) := by with_unfolding_all rfl) : WP w lv ev ns gs vs n (subscriptTail value slice (.str y t) (.int i u)) Q := WP.mk fun c _ _ _ I => item_str hf h1 h2 (fun _ => Post.ok (tk := _) I (hQ _)) hs (by intro _; cases value <;> rfl)
inductive PartOf : Value → Option (Int × Tok) → Prop
  | none : PartOf .none none
  | int (i : Int) (t : Tok) : PartOf (.int i t) (some (i, t))
theorem PartOf.eq {v : Value} {p : Option (Int × Tok)} (h : PartOf v p) : partValue p = v := by cases h <;> rfl
theorem WP.str_slice {y : Str} {t : Tok} {vl vu : Value} {lo hi : Option (Int × Tok)} (pl : PartOf vl lo) (pu : PartOf vu hi) (hsz : y.length ≤ sizeLine)
    (hQ : ∀ t', Q (.str (Txt.slice y (lo.map (·.1)) (hi.map (·.1))) t') vs n)
    (hs : subscripted slice false (.str y t) (.ref a) = operate [.ref a, .str y t] (getItem (.str y t) (.ref a)) := by with_unfolding_all rfl) :
    WP w lv ev ns gs vs ((a, { cls := .type "slice", data := .fields #[vl, vu, .none] }) :: n) (subscriptTail value slice (.str y t) (.ref a)) Q := WP.mk fun c _ h tk I => by
    have I' := I.sub (List.sublist_cons_self _ n)
    refine tail_any (typeIs_str _ _ _) F.slot_str_getitem.lookup (wpAny_getItem_str_slice (l := lo) (u := hi) (st := none) ⟨_, I.get (.head _), rfl, by rw [pl.eq, pu.eq]; rfl⟩ rfl
      (post_val_or_str ⟨Nat.le_trans (Txt.slice_le y _ _) hsz, fun t' k => Post.ok (h := h) (tk := k) I' (hQ t')⟩)) hs
end
end
end Mine
end
section
open PySem PySem.W PyProof.Rows PySem.Calls PyProof.V
namespace Mine
variable {w : World}
section
variable {α β : Type} {lv : Nat} {ev : Env} {ns : List Str} {gs : List (Str × Value)} {c : Fx w lv ev ns gs} {vs : Vs} {n : Led} {h : Heap} {tk : Nat} {E : Value → Shared → Prop} {env : Env} {Q : Value → Vs → Led → Prop}
theorem Inv.new {o : Obj} {h' : Heap} (I : Inv c vs n h) (F : Fr c.h₀ ev.locals h' (lkm ns vs)) (N : News c.h₀ ev.locals h' ((h.objs.size, o) :: (n ++ c.hid))) : Inv c vs ((h.objs.size, o) :: n) h' :=
  ⟨F, N, I.ok⟩
theorem lift0 {t : Sem α} {v : α} {Q : α → Vs → Led → Prop} (r : ∀ A E (s : Shared) (Q' : α → Shared → Prop), Q' v s → wpAny (model PR w) A t Q' E s) (hQ : Q v vs n) : WP w lv ev ns gs vs n t Q :=
  WP.mk fun c _ _ _ I => r _ _ _ _ (Post.ok I hQ)
theorem lift1 {t : Sem α} {f : Tok → α} {Q : α → Vs → Led → Prop} (r : ∀ A E (s : Shared) (Q' : α → Shared → Prop), Q' (f s.toks) { s with toks := s.toks + 1 } → wpAny (model PR w) A t Q' E s) (hQ : ∀ k, Q (f k) vs n) : WP w lv ev ns gs vs n t Q :=
  WP.mk fun c _ _ _ I => r _ _ _ _ (Post.ok (tk := _) I (hQ _))
theorem lift2 {t : Sem α} {f : Tok → α} {Q : α → Vs → Led → Prop} (r : ∀ A E (s : Shared) (Q' : α → Shared → Prop), Q' (f (s.toks + 1)) { s with toks := s.toks + 1 + 1 } → wpAny (model PR w) A t Q' E s) (hQ : ∀ k, Q (f k) vs n) : WP w lv ev ns gs vs n t Q :=
  WP.mk fun c _ _ _ I => r _ _ _ _ (Post.ok (tk := _) I (hQ _))
theorem liftN {t : Sem α} {f : Tok → α} {Q : α → Vs → Led → Prop} (r : ∀ A E (s : Shared) (Q' : α → Shared → Prop), (∀ t' k, Q' (f t') { s with toks := k }) → wpAny (model PR w) A t Q' E s) (hQ : ∀ k, Q (f k) vs n) : WP w lv ev ns gs vs n t Q :=
  WP.mk fun c _ _ _ I => r _ _ _ _ fun _ _ => Post.ok (tk := _) I (hQ _)
section
variable {a b : Int} {t u : Tok} {x y : Str} {A : Addr}
theorem WP.add_int (hQ : ∀ t, Q (.int (a + b) t) vs n) : WP w lv ev ns gs vs n (binaryOp .Add (.int a t) (.int b u)) Q := lift1 (fun A E s => @P.add_int PR w A E s a b t u) hQ
theorem WP.iadd_int (hQ : ∀ t, Q (.int (a + b) t) vs n) : WP w lv ev ns gs vs n (inplaceOp .Add (.int a t) (.int b u)) Q := lift1 (fun A E s => @P.iadd_int PR w A E s a b t u) hQ
theorem WP.sub_int (hQ : ∀ t, Q (.int (a - b) t) vs n) : WP w lv ev ns gs vs n (binaryOp .Sub (.int a t) (.int b u)) Q := lift1 (fun A E s => @P.sub_int PR w A E s a b t u) hQ
theorem WP.mod_int (hb : b ≠ 0) (hQ : ∀ t, Q (.int (a.fmod b) t) vs n) : WP w lv ev ns gs vs n (binaryOp .Mod (.int a t) (.int b u)) Q := lift1 (fun A E s Q' => @mod_int' PR w A E s a b t u Q' hb) hQ
theorem WP.div_int (hb : b ≠ 0) (hp : Builtin.divisionGoesByPylong a b = false) (hQ : ∀ t, Q (.int (a.fdiv b) t) vs n) : WP w lv ev ns gs vs n (binaryOp .FloorDiv (.int a t) (.int b u)) Q :=
  lift1 (fun A E s Q' h => @PyProof.Rows.floordiv_int PR w A E s a b t u Q' hb h (.inl hp)) hQ
theorem WP.pow_int (h0 : 0 ≤ b) (hsz : (Builtin.Int.intBits a : Int) * b ≤ 2 ^ 27) (hQ : ∀ t, Q (.int (a ^ b.toNat) t) vs n) : WP w lv ev ns gs vs n (binaryOp .Pow (.int a t) (.int b u)) Q :=
  lift1 (fun A E s Q' => @PyProof.Rows.pow_int PR w A E s a b t u Q' h0 hsz) hQ
theorem WP.and_int (hQ : ∀ t, Q (.int (Builtin.bitAnd a b) t) vs n) : WP w lv ev ns gs vs n (binaryOp .BitAnd (.int a t) (.int b u)) Q := lift1 (fun A E s => @PyProof.Rows.and_int PR w A E s a b t u) hQ
theorem WP.eq_int (hQ : Q (.bool (a == b)) vs n) : WP w lv ev ns gs vs n (compareOp .Eq (.int a t) (.int b u)) Q := lift0 (fun A E s => @P.eq_int PR w A E s a b t u) hQ
theorem WP.ne_int (hQ : Q (.bool (a != b)) vs n) : WP w lv ev ns gs vs n (compareOp .NotEq (.int a t) (.int b u)) Q := lift0 (fun A E s => @P.ne_int PR w A E s a b t u) hQ
theorem WP.lt_int (hQ : Q (.bool (decide (a < b))) vs n) : WP w lv ev ns gs vs n (compareOp .Lt (.int a t) (.int b u)) Q := lift0 (fun A E s => @P.lt_int PR w A E s a b t u) hQ
theorem WP.le_int (hQ : Q (.bool (decide (a ≤ b))) vs n) : WP w lv ev ns gs vs n (compareOp .LtE (.int a t) (.int b u)) Q := lift0 (fun A E s => @P.le_int PR w A E s a b t u) hQ
theorem WP.gt_int (hQ : Q (.bool (decide (a > b))) vs n) : WP w lv ev ns gs vs n (compareOp .Gt (.int a t) (.int b u)) Q := lift0 (fun A E s => @P.gt_int PR w A E s a b t u) hQ
theorem WP.ge_int (hQ : Q (.bool (decide (a ≥ b))) vs n) : WP w lv ev ns gs vs n (compareOp .GtE (.int a t) (.int b u)) Q := lift0 (fun A E s => @P.ge_int PR w A E s a b t u) hQ
theorem str_eq_beq {x y : Str} : (x.cps.toList == y.cps.toList) = decide (x = y) := by
  cases x with | mk x => cases y with | mk y =>
  rw [Bool.eq_iff_iff]; simp
theorem WP.eq_str (hQ : Q (.bool (decide (x = y))) vs n) : WP w lv ev ns gs vs n (compareOp .Eq (.str x t) (.str y u)) Q := lift0 (fun A E s => @P.eq_str PR w A E s x y t u) (by rw [str_eq_beq]; exact hQ)
theorem WP.ne_str (hQ : Q (.bool (!decide (x = y))) vs n) : WP w lv ev ns gs vs n (compareOp .NotEq (.str x t) (.str y u)) Q := lift0 (fun A E s => @P.ne_str PR w A E s x y t u) (by rw [bne, str_eq_beq]; exact hQ)
theorem WP.in_str (hQ : Q (.bool (Txt.contains x y)) vs n) : WP w lv ev ns gs vs n (compareOp .In (.str y u) (.str x t)) Q := lift0 (fun A E s => @P.in_str PR w A E s x y t u) hQ
theorem WP.notIn_str (hQ : Q (.bool (!Txt.contains x y)) vs n) : WP w lv ev ns gs vs n (compareOp .NotIn (.str y u) (.str x t)) Q := lift0 (fun A E s => @P.notIn_str PR w A E s x y t u) hQ
theorem WP.isNot_ref_self (hQ : Q (.bool false) vs n) : WP w lv ev ns gs vs n (compareOp .IsNot (.ref A) (.ref A)) Q := lift0 (fun a E s Q' => @wpAny_isNot_ref_self (model PR w) a E s Q' A) hQ
theorem WP.is_ref_self (hQ : Q (.bool true) vs n) : WP w lv ev ns gs vs n (compareOp .Is (.ref A) (.ref A)) Q := lift0 (fun a E s Q' => @wpAny_is_ref_self (model PR w) a E s Q' A) hQ
theorem WP.isNot_str_ref (hQ : Q (.bool true) vs n) : WP w lv ev ns gs vs n (compareOp .IsNot (.str x t) (.ref A)) Q := lift0 (fun a E s Q' => @wpAny_isNot_other (model PR w) a E s (.str x t) (.ref A) Q' rfl (by intro h; cases h)) hQ
theorem WP.is_str_ref (hQ : Q (.bool false) vs n) : WP w lv ev ns gs vs n (compareOp .Is (.str x t) (.ref A)) Q := lift0 (fun a E s Q' => @wpAny_is_other (model PR w) a E s (.str x t) (.ref A) Q' rfl (by intro h; cases h)) hQ
theorem str_nil {x : Str} (h : (x.length == 0) = true) : x = ⟨#[]⟩ := by
  cases x with | mk x =>
  have : x.size = 0 := by simpa [Str.length] using h
  rw [Array.eq_empty_of_size_eq_zero this]
theorem WP.add_str (hsz : (x ++ y).length ≤ sizeLine) (hQ : ∀ t, Q (.str (x ++ y) t) vs n) : WP w lv ev ns gs vs n (binaryOp .Add (.str x t) (.str y u)) Q :=
  WP.mk fun c E hp tk I => @P.add_str PR w c.A E (At c hp tk) x y t u (Post c Q) (by
    by_cases hx : (x.length == 0) = true
    · rw [if_pos hx]
      have e : x ++ y = y := by rw [str_nil hx]; exact Str.empty_append y
      exact Post.ok I (e ▸ hQ u)
    · rw [if_neg hx]
      by_cases hy : (y.length == 0) = true
      · rw [if_pos hy]
        have e : x ++ y = x := by rw [str_nil hy]; exact Str.append_empty x
        exact Post.ok I (e ▸ hQ t)
      · rw [if_neg hy]
        exact ⟨hsz, Post.ok (tk := tk + 1) I (hQ _)⟩)
theorem WP.add_list {l m : Addr} {its is2 : List Value} {k k2 : Nat} (hm : (l, lobj its k) ∈ n) (hm2 : (m, lobj is2 k2) ∈ n) (hsz : its.length + is2.length ≤ sizeLine)
    (hQ : ∀ a, Q (.ref a) vs ((a, lobj (its ++ is2) 0) :: n)) : WP w lv ev ns gs vs n (binaryOp .Add (.ref l) (.ref m)) Q :=
  WP.mk fun c E h tk I => @add_arrays PR w c.A E (At c h tk) c.h₀ ev.locals _ _ l m its.toArray is2.toArray (Post c Q) I.1 I.2.1 (I.list hm) (I.list hm2) (fun _ F N => Post.ok (tk := tk) (I.new F N) (hQ _)) (by rw [List.size_toArray, List.size_toArray]; exact hsz)
/- calls of built-ins -/
theorem WP.len_str (hx : x.length ≤ sizeLine) (hQ : ∀ t, Q (.int x.length t) vs n) : WP w lv ev ns gs vs n (call (.builtin "len") [.str x t]) Q :=
  lift2 (f := fun t => .int x.length t) (fun A E s Q' => @P.len_str PR w A E s x t Q' (by rw [sizeLine_eq] at hx; omega)) hQ
theorem WP.len_list {l : Addr} {its : List Value} {k : Nat} (hm : (l, lobj its k) ∈ n) (hx : its.length ≤ sizeLine) (hQ : ∀ t, Q (.int its.length t) vs n) : WP w lv ev ns gs vs n (call (.builtin "len") [.ref l]) Q :=
  WP.mk fun c E h tk I => @PyProof.Rows.len_list PR w c.A E (At c h tk) l its.toArray (Post c Q) (I.list hm) (by rw [sizeLine_eq] at hx; rw [List.size_toArray]; omega) (by rw [List.size_toArray]; exact Post.ok (tk := _) I (hQ _))
theorem WP.isi_str_str (hQ : Q (.bool true) vs n) : WP w lv ev ns gs vs n (call (.builtin "isinstance") [.str x t, .type "str"]) Q := lift0 (fun A E s Q' => @IsiPair.str_str PR w A E s Q' x t) hQ
theorem WP.isi_int_tuple (hQ : Q (.bool false) vs n) : WP w lv ev ns gs vs n (call (.builtin "isinstance") [.int a t, .type "tuple"]) Q := lift1 (f := fun _ => .bool false) (fun A E s Q' => @IsiPair.int_tuple PR w A E s Q' a t) fun _ => hQ
theorem WP.str_int (ha : a.natAbs.log2 < 1920) (hQ : ∀ t, Q (.str (Str.ofString (toString a)) t) vs n) : WP w lv ev ns gs vs n (call (.type "str") [.int a t]) Q :=
  lift1 (f := fun t => .str (Str.ofString (toString a)) t) (fun A E s Q' => @P.str_of_int PR w A E s a t Q' ha) hQ
theorem WP.int_str {k : Int} (hn : PySem.intText? x = some k) (hl : x.length ≤ 640) (hQ : ∀ t, Q (.int k t) vs n) : WP w lv ev ns gs vs n (call (.type "int") [.str x t]) Q :=
  lift1 (f := fun t => .int k t) (fun A E s Q' => @KIN.call_text PR w A E s Q' x t k hn hl) hQ
theorem WP.range1 (hQ : ∀ r t1 t2, Q (.ref r) vs ((r, { cls := .type "range", data := .fields #[.int 0 t1, .int a t, .int 1 t2] }) :: n)) : WP w lv ev ns gs vs n (call (.type "range") [.int a t]) Q :=
  WP.mk fun c E h tk I => @call_range_1 PR w c.A E (At c h tk) a t (Post c Q) (Post.ok (tk := _) (I.push rfl) (hQ _ _ _))
end
end
end Mine
end
section
open PySem PySem.W PyProof.Rows PySem.Calls PyProof.V
namespace Mine
variable {w : World}
noncomputable abbrev Tab := List (Str × Int)
/-- an object is a dict of texts and ints -/
noncomputable def IsTab (w : World) (d : Addr) (o : Obj) (t : Tab) : Prop := (d == sysModules) = false ∧ ∃ kvs, o.IsDictOf (PySem.strKind PR w) kvs ∧ FlatPairs PyData.str kvs (kdpD t)
/-- an object of the ledger turned -/
inductive UpF (d : Addr) (o : Obj) : Led → (Obj → Led) → Prop
  | here {r : Led} : UpF d o ((d, o) :: r) (fun o' => (d, o') :: r)
  | there {p : Addr × Obj} {r : Led} {g : Obj → Led} : UpF d o r g → UpF d o (p :: r) (fun o' => p :: g o')
  | past {l r : Led} {g : Obj → Led} : UpF d o r g → UpF d o (l ++ r) (fun o' => l ++ g o')
theorem UpF.mem {d : Addr} {o : Obj} {n : Led} {g : Obj → Led} (U : UpF d o n g) : (d, o) ∈ n := by
  induction U with
  | here => exact .head _
  | there _ ih => exact .tail _ ih
  | past _ ih => exact List.mem_append_right _ ih
theorem UpF.split {d : Addr} {o : Obj} {n : Led} {g : Obj → Led} (U : UpF d o n g) : ∃ pre post, n = pre ++ (d, o) :: post ∧ ∀ o', g o' = pre ++ (d, o') :: post := by
  induction U with
  | here => exact ⟨[], _, rfl, fun _ => rfl⟩
  | @there p r g _ ih => obtain ⟨a, b, e, f⟩ := ih; exact ⟨p :: a, b, by rw [e]; rfl, fun o' => by show p :: g o' = _; rw [f o']; rfl⟩
  | @past l r g _ ih => obtain ⟨a, b, e, f⟩ := ih; exact ⟨l ++ a, b, by rw [e, List.append_assoc], fun o' => by show l ++ g o' = _; rw [f o', List.append_assoc]⟩
section
variable {α β : Type} {lv : Nat} {ev : Env} {ns : List Str} {gs : List (Str × Value)} {c : Fx w lv ev ns gs} {vs : Vs} {n : Led} {h : Heap} {tk : Nat} {E : Value → Shared → Prop} {env : Env} {Q : Value → Vs → Led → Prop}
theorem off_of {pre post : Led} {d : Addr} {o : Obj} (nd : ((pre ++ (d, o) :: post).map (·.1)).Nodup) : (∀ p ∈ pre, p.1 ≠ d) ∧ ∀ p ∈ post, p.1 ≠ d := by
  rw [List.map_append, List.map_cons, List.nodup_append] at nd
  obtain ⟨_, h2, h3⟩ := nd
  rw [List.nodup_cons] at h2
  refine ⟨fun p hp e => h3 p.1 (List.mem_map_of_mem hp) d (.head _) e, fun p hp e => h2.1 (List.mem_map.mpr ⟨p, hp, e⟩)⟩
theorem UpF.upd {d : Addr} {o : Obj} {n hid : Led} {g : Obj → Led} (U : UpF d o n g) (k : Ok n hid) : UpdF d o (n ++ hid) fun o' => g o' ++ hid := by
  obtain ⟨nd⟩ := k
  obtain ⟨pre, post, e, f⟩ := U.split
  have eg : (fun o' => g o' ++ hid) = fun o' => pre ++ (d, o') :: (post ++ hid) := by funext o'; rw [f o']; simp
  have en : n ++ hid = pre ++ (d, o) :: (post ++ hid) := by rw [e]; simp
  rw [eg, en]
  rw [en] at nd
  obtain ⟨a, b⟩ := off_of nd
  clear eg en e f nd U
  induction pre with
  | nil => exact .head b
  | cons p pre ih => exact .tail (a p (.head _)) (ih fun q hq => a q (.tail _ hq))
theorem UpF.upd1 {d : Addr} {o o' : Obj} {n hid : Led} {g : Obj → Led} (U : UpF d o n g) (k : Ok n hid) : Upd d o o' (n ++ hid) (g o' ++ hid) := by
  obtain ⟨nd⟩ := k
  obtain ⟨pre, post, e, f⟩ := U.split
  have en : n ++ hid = pre ++ (d, o) :: (post ++ hid) := by rw [e]; simp
  rw [f o', en]
  rw [en] at nd
  obtain ⟨a, b⟩ := off_of nd
  clear en e f nd U
  rw [List.append_assoc, List.cons_append]
  induction pre with
  | nil => exact .head b
  | cons p pre ih => exact .tail (a p (.head _)) (ih fun q hq => a q (.tail _ hq))
theorem UpF.ok {d : Addr} {o o' : Obj} {n hid : Led} {g : Obj → Led} (U : UpF d o n g) (k : Ok n hid) : Ok (g o') hid := by
  obtain ⟨pre, post, rfl, f⟩ := U.split
  rw [f o']
  exact ⟨by have := k.nd; simpa using this⟩
/- dicts -/
section
variable {d : Addr} {o : Obj} {t : Tab} {k : Str} {tk₁ te : Tok} {e : Int} {pl : Sem Bool}
theorem IsTab.cls {d : Addr} {o : Obj} {t : Tab} (ht : IsTab w d o t) : o.cls = .type "dict" := by
  obtain ⟨_, kvs, ⟨es, ep, h1, _⟩, _⟩ := ht
  exact h1.1
theorem Inv.tab (I : Inv c vs n h) (hm : (d, o) ∈ n) (ht : IsTab w d o t) : StrTab PR w h d (kdpD t) := by
  obtain ⟨h0, kvs, h1, h2⟩ := ht
  exact ⟨h0, kvs, Heap.dictOf_iff.mpr ⟨o, I.get hm, h1⟩, h2⟩
theorem WP.dict_set {Q : Unit → Vs → Led → Prop} {g : Obj → Led} (U : UpF d o n g) (ht : IsTab w d o t) (hsz : t.length ≤ 16777216) (hQ : ∀ o', IsTab w d o' (kdpPut t k e) → Q () vs (g o')) :
    WP w lv ev ns gs vs n (setItem (.ref d) (.str k tk₁) (.int e te)) Q := by
  obtain ⟨h0, kvs, h1, h2⟩ := ht
  exact WP.mk fun c E h tk I => @kdp_setItem PR w c.A E (At c h tk) c.h₀ ev.locals d _ _ _ o kvs t k e tk₁ te (Post c Q) I.1 I.2.1 (U.upd I.2.2) h1 h2 hsz
    fun h' o' kvs' F N h3 h4 => Post.ok (tk := tk + 1) ⟨F, N, U.ok I.2.2⟩ (hQ o' ⟨h0, kvs', h3, h4⟩)
theorem WP.dict_get (hm : (d, o) ∈ n) (ht : IsTab w d o t) (hQ : ∀ t', Q (.int (kdpLook t k e) t') vs n) : WP w lv ev ns gs vs n (call (.builtin "dict.get") [.ref d, .str k tk₁, .int e te]) Q :=
  WP.mk fun c E h tk I => @kdp_get2 PR w c.A E (At c h tk) d t k e tk₁ te (Post c Q) (I.tab hm ht) fun t' => Post.ok (tk := tk + 1) I (hQ t')
theorem WP.dict_in (hm : (d, o) ∈ n) (ht : IsTab w d o t) (hQ : Q (.bool (kdpHas t k)) vs n) : WP w lv ev ns gs vs n (compareOp .In (.str k tk₁) (.ref d)) Q :=
  WP.mk fun c E h tk I => @kdp_in PR w c.A E (At c h tk) d t k tk₁ (Post c Q) (I.tab hm ht) (Post.ok (tk := tk + 1) I hQ)
theorem WP.dict_getItem (hm : (d, o) ∈ n) (ht : IsTab w d o t) (hk : kdpHas t k = true) (hQ : ∀ t', Q (.int (kdpLook t k 0) t') vs n) : WP w lv ev ns gs vs n (getItem (.ref d) (.str k tk₁)) Q :=
  WP.mk fun c E h tk I => @kdp_getItem PR w c.A E (At c h tk) d t k tk₁ (Post c Q) (I.tab hm ht) hk fun t' => Post.ok (tk := tk + 1) I (hQ t')
theorem WP.dict_item {value slice : PySem.Expr} (hm : (d, o) ∈ n) (ht : IsTab w d o t) (hk : kdpHas t k = true) (hQ : ∀ t', Q (.int (kdpLook t k 0) t') vs n)
    (hs : subscripted slice false (.ref d) (.str k tk₁) = operate [.ref d, .str k tk₁] (getItem (.ref d) (.str k tk₁)) := by with_unfolding_all rfl) : WP w lv ev ns gs vs n (subscriptTail value slice (.ref d) (.str k tk₁)) Q := by
  have H := WP.dict_getItem (lv := lv) (ev := ev) (ns := ns) (gs := gs) (tk₁ := tk₁) hm ht hk hQ
  obtain ⟨h0, kvs, h1, h2⟩ := ht
  exact WP.mk fun c E h tk I => tail_any (Heap.dictOf_iff.mpr ⟨o, I.get hm, h1⟩ : h.DictOf _ d kvs).typeIs slot_dict_getitem.lookup (H.run c E h tk I) hs
theorem WP.dict_empty {pos : Pos} (hQ : ∀ d o, IsTab w d o [] → Q (.ref d) vs ((d, o) :: n)) : WP w lv ev ns gs vs n (eval (.Dict [] [] pos) env) Q :=
  WP.mk fun c E h tk I => Dict_empty_made2 I.1 I.2.1 (modules_low c.T.nolimit) fun h' o F N lo a b _ _ _ => Post.ok (h := h') (tk := tk) (I.new F N) (hQ _ o ⟨lo, [], a, b⟩)
theorem WP.m_dict_get {Q : Value × List Value → Vs → Led → Prop} (hm : (d, o) ∈ n) (ht : IsTab w d o t) (hQ : Q (.builtin "dict.get", [.ref d]) vs n) : WP w lv ev ns gs vs n (getMethod (.ref d) "get" pl) Q := by
  obtain ⟨h0, kvs, h1, h2⟩ := ht
  exact WP.mk fun c E h tk I => kdg_method I.2.1 (List.mem_append_left _ hm) h1 (Post.ok I hQ)
end
/- lists -/
section
variable {l : Addr} {its : List Value} {k : Nat} {x : Value} {pl : Sem Bool} {i : Int} {u : Tok}
theorem WP.append {g : Obj → Led} (U : UpF l (lobj its k) n g) (hsz : its.length ≤ sizeLine) (hQ : Q .none vs (g (lobj (its ++ [x]) (k + 1)))) : WP w lv ev ns gs vs n (call (.builtin "list.append") [.ref l, x]) Q :=
  WP.mk fun c E h tk I => @append_K PR w c.A E (At c h tk) c.h₀ ev.locals l _ _ _ its.toArray k x (Post c Q) I.1 I.2.1 (U.upd1 I.2.2)
    (fun h' F N => Post.ok (tk := tk) ⟨F, by simpa using N, U.ok I.2.2⟩ (by simpa using hQ)) (by rw [List.size_toArray]; exact hsz)
theorem WP.m_append {Q : Value × List Value → Vs → Led → Prop} (hm : (l, lobj its k) ∈ n) (hQ : Q (.builtin "list.append", [.ref l]) vs n) : WP w lv ev ns gs vs n (getMethod (.ref l) "append" pl) Q :=
  WP.mk fun c E h tk I => Calls.getMethod_list_append (I.get hm) rfl rfl (Post.ok I hQ)
theorem Inv.update {d : Addr} {o o' : Obj} {g : Obj → Led} {h' : Heap} (I : Inv c vs n h) (U : UpF d o n g) (hs : Heap.SameBut d h h') (ho : h'.get? d = some o') : Inv c vs (g o') h' := by
  have z := I.2.1 _ (List.mem_append_left c.hid U.mem)
  have u := U.upd I.2.2
  obtain ⟨pre, post, e, f, a, b⟩ := u.split
  refine ⟨I.1.change hs z.2.1 z.2.2, ?_, U.ok I.2.2⟩
  have := f o'
  rw [this]
  exact news_set (e ▸ I.2.1) a b hs ho
theorem WP.set_last {Q : Unit → Vs → Led → Prop} {g : Obj → Led} (U : UpF l (lobj its k) n g) (hi : i = -1) (hne : its ≠ []) (hQ : Q () vs (g (lobj (its.set (its.length - 1) x) k))) :
    WP w lv ev ns gs vs n (setItem (.ref l) (.int i u) x) Q := by
  refine WP.mk fun c E h tk I => ?_
  have hpos : 0 < its.length := List.length_pos_iff.mpr hne
  refine ki_setBack (n := k) (items := its.toArray) (I.get U.mem) (by omega) (by rw [List.size_toArray]; omega) (by subst hi; decide) ?_
  have e : (i + (its.toArray.size : Int)).toNat = its.length - 1 := by rw [List.size_toArray]; omega
  rw [e]
  have q := PySem.IsL.update (I.get U.mem : h.get? l = some (lobj its k)) (·.setIfInBounds (its.length - 1) x)
  simp only [Array.size_setIfInBounds, beq_self_eq_true, if_true] at q
  have q' : (h.update l (Obj.mapSeq (·.setIfInBounds (its.length - 1) x))).get? l = some (lobj (its.set (its.length - 1) x) k) := by
    have ea : its.toArray.setIfInBounds (its.length - 1) x = (its.set (its.length - 1) x).toArray := by simp
    rw [ea] at q; exact q
  exact Post.ok (tk := tk) (I.update U (Heap.SameBut.update ..) q') hQ
end
end
end Mine
end
section
open PySem PySem.W PyProof.Rows PySem.Calls PyProof.V
namespace Mine
variable {w : World}
section
variable {α β : Type} {lv : Nat} {ev : Env} {ns : List Str} {gs : List (Str × Value)} {c : Fx w lv ev ns gs} {vs : Vs} {n : Led} {h : Heap} {tk : Nat} {E : Value → Shared → Prop} {env : Env}
theorem WP.method {o : PySem.Expr} {name : Str} {apos pos : Pos} {args : List PySem.Expr} {pl : Sem Bool} {Q : Value → Vs → Led → Prop}
    (h : WP w lv ev ns gs vs n (eval o env) fun ov vs n => WP w lv ev ns gs vs n (getMethod ov name pl) fun fx vs n => WP w lv ev ns gs vs n (callWith pos fx.1 fx.2 (backTo pos (starEach args env)) []) Q)
    (he : eval (.Call (.Attribute o name apos) args [] pos) env = (do
      let ov ← eval o env
      standAt apos.atName
      let (f, first) ← holding [ov] (getMethod ov name pl)
      callWith pos f first (backTo pos (starEach args env)) []) := by with_unfolding_all rfl) :
    WP w lv ev ns gs vs n (eval (.Call (.Attribute o name apos) args [] pos) env) Q :=
  WP.mk fun c _ _ _ I => MethodCall_ (h.to I fun _ _ _ _ _ I' H => H.to I' fun _ _ _ _ _ I'' H => H.run _ _ _ _ I'') he
theorem WP.assign_sub {o i : PySem.Expr} {pos' pos : Pos} {value : PySem.Expr} {Q : Flow → Vs → Led → Prop}
    (h : WP w lv ev ns gs vs n (eval value ev) fun v vs n => WP w lv ev ns gs vs n (eval o ev) fun ov vs n => WP w lv ev ns gs vs n (eval i ev) fun iv vs n => WP w lv ev ns gs vs n (setItem ov iv v) fun _ => Q .next)
    (hs : swapsWith value (some (.Subscript o i pos')) pos.line ev = Pure.pure false := by with_unfolding_all rfl) : WP w lv ev ns gs vs n (exec (.Assign [.Subscript o i pos'] value pos) ev) Q :=
  WP.mk fun c _ _ _ I => wpAny_Assign_Subscript (h.to I fun _ _ _ _ _ I' H => H.to I' fun _ _ _ _ _ I' H => H.to I' fun _ _ _ _ _ I' H => H.run _ _ _ _ I') hs
theorem WP.aug_sub {o i : PySem.Expr} {pos' pos : Pos} {op : Operator} {value : PySem.Expr} {Q : Flow → Vs → Led → Prop}
    (h : WP w lv ev ns gs vs n (eval o ev) fun ov vs n => WP w lv ev ns gs vs n (eval i ev) fun iv vs n => WP w lv ev ns gs vs n (getItem ov iv) fun old vs n => WP w lv ev ns gs vs n (eval value ev) fun v vs n =>
      WP w lv ev ns gs vs n (inplaceOp op old v) fun new vs n => WP w lv ev ns gs vs n (setItem ov iv new) fun _ => Q .next)
    (hs : ∀ ov iv new : Value, augStore i ov iv new = (do holding [new, ov, iv] (setItem ov iv new); release [new, ov, iv] []; Pure.pure Flow.next) := by intros; with_unfolding_all rfl) :
    WP w lv ev ns gs vs n (exec (.AugAssign (.Subscript o i pos') op value pos) ev) Q :=
  WP.mk fun c _ _ _ I => wpAny_AugAssign_Subscript_any (h.to I fun _ _ _ _ _ I' H => H.to I' fun _ _ _ _ _ I' H => H.to I' fun _ _ _ _ _ I' H => H.to I' fun _ _ _ _ _ I' H => H.to I' fun _ _ _ _ _ I' H => H.run _ _ _ _ I') hs
theorem WP.aug {x : Str} {pos' pos : Pos} {op : Operator} {value : PySem.Expr} {old : Value} {Q : Flow → Vs → Led → Prop} (l : Lk ns vs x old)
    (h : WP w lv ev ns gs vs n (eval value ev) fun v vs n => WP w lv ev ns gs vs n (inplaceOp op old v) fun r vs n => ∃ vs', St ns vs x r vs' ∧ Q .next vs' n) :
    WP w lv ev ns gs vs n (exec (.AugAssign (.Name x pos') op value pos) ev) Q :=
  WP.mk fun c _ _ _ I => wpAny_AugAssign_Name (wpAny_loadName_local c.kind (c.loc x l.mem).1 I.1.ns (l.at c.nd)
    (h.to I fun _ _ _ _ _ I' H => H.to I' fun _ _ _ _ _ I' ⟨_, s, q⟩ => (WP.store_ (Q := fun _ => Q .next) s q).run _ _ _ _ I'))
/- while -/
noncomputable def LoopQ (J : Vs → Led → Prop) (Q : Flow → Vs → Led → Prop) : Flow → Vs → Led → Prop
  | .ret v => Q (.ret v)
  | .brk => Q .next
  | _ => J
theorem LoopQ.next {J : Vs → Led → Prop} {Q : Flow → Vs → Led → Prop} (h : J vs n) : LoopQ J Q .next vs n := h
theorem LoopQ.cont {J : Vs → Led → Prop} {Q : Flow → Vs → Led → Prop} (h : J vs n) : LoopQ J Q .cont vs n := h
theorem LoopQ.ret {J : Vs → Led → Prop} {Q : Flow → Vs → Led → Prop} {v : Value} (h : Q (.ret v) vs n) : LoopQ J Q (.ret v) vs n := h
theorem LoopQ.brk {J : Vs → Led → Prop} {Q : Flow → Vs → Led → Prop} (h : Q .next vs n) : LoopQ J Q .brk vs n := h
theorem WP.while_ {test : PySem.Expr} {body : List Stmt} {pos : Pos} {Q : Flow → Vs → Led → Prop} (J : Nat → Vs → Led → Prop) (k₀ : Nat) (h0 : J k₀ vs n)
    (turn : ∀ k vs n, J k vs n → WP w lv ev ns gs vs n (isTrue test ev (eval test ev)) fun b vs n =>
      (b = true → WP w lv ev ns gs vs n (execs body ev) (LoopQ (fun vs n => ∃ k', k' < k ∧ J k' vs n) Q)) ∧ (b = false → Q .next vs n)) :
    WP w lv ev ns gs vs n (exec (.While test body [] pos) ev) Q :=
  WP.mk fun c E h tk I => by
    refine wpAny_While (codeAny_whileLoop (fun k s' => ∃ h' tk' vs' n', s' = At c h' tk' ∧ Inv c vs' n' h' ∧ J k vs' n') ?_ k₀ ⟨h, tk, vs, n, rfl, I, h0⟩)
    rintro k s' ⟨h', tk', vs', n', rfl, I', hJ⟩
    refine (turn k vs' n' hJ).to I' fun b h₂ tk₂ vs₂ n₂ I₂ H => ?_
    cases b with
    | false => exact wpAny_execs_nil (Post.ok I₂ (H.2 rfl))
    | true =>
      refine (H.1 rfl).to I₂ fun f h₃ tk₃ vs₃ n₃ I₃ q => ?_
      cases f with
      | next => obtain ⟨k', hk, q⟩ := q; exact ⟨k', hk, h₃, tk₃, vs₃, n₃, rfl, I₃, q⟩
      | cont => obtain ⟨k', hk, q⟩ := q; exact ⟨k', hk, h₃, tk₃, vs₃, n₃, rfl, I₃, q⟩
      | brk => exact Post.ok I₃ q
      | ret v => exact Post.ok I₃ q
/- for -/
theorem WP.for_core {target iter : PySem.Expr} {body : List Stmt} {pos : Pos} {Q : Flow → Vs → Led → Prop}
    (H : WP w lv ev ns gs vs n (eval iter ev) fun xv vs n => ∀ (c : Fx w lv ev ns gs) E h tk, Inv c vs n h →
      wpAny (model PR w) c.A (pyIter xv) (fun it s₂ => TurnsAt PR w c.A c.h₀ ev target body (Post c Q) E it s₂) E (At c h tk))
    (hs : ∀ x, foldedSetIterable iter ev x = Pure.pure x := by intro _; with_unfolding_all rfl) : WP w lv ev ns gs vs n (exec (.For target iter body [] pos) ev) Q := by
  refine WP.mk fun c E h tk I => wpAny_For (H.to I fun xv h₁ tk₁ vs₁ n₁ I₁ H₁ => ?_) hs
  refine wpAny_mono (H₁ c (fun e s => E e s ∧ notedBy (model PR w) c.A ev (fun e s' => cameBackBy (model PR w) c.A ev E e s') e s) h₁ tk₁ I₁) (fun it s₂ h₂ => ?_) fun _ _ x => x.1
  obtain ⟨I, fp, wr, n, P, Md, St, m, news, J, rfl, W, hLf, hwr, hnw, hst, F, N, h0, step, hQ⟩ := h₂
  exact ktu_loop (R := fun r s' => match r with | .ok f => Post c Q f s' | .error e => cameBackBy (model PR w) c.A ev E e s') W hLf hwr hnw hst F N J h0
    (fun i v m₁ news₁ h₁ tk₁ own a b c d e f g st F₁ N₁ => wpAny_mono (step i v m₁ news₁ h₁ tk₁ own a b c d e f g st F₁ N₁) (fun _ _ x => wpAny_mono x (fun _ _ y => y) fun _ _ y => y.2) fun _ _ x => x.2) hQ
theorem allObj_of : ∀ {ws : List (Addr × String)} {k : List (Addr × Obj) → Prop}, (∀ its, Objs ws its → k its) → AllObj ws k
  | [], _, h => h [] trivial
  | w :: r, k, h => fun o ho => allObj_of (ws := r) fun its hi => h ((w.1, o) :: its) ⟨⟨rfl, ho⟩, hi⟩
theorem subL_of {l : Led} : ∀ {k : Led}, (∀ p ∈ k, p ∈ l) → SubL k l
  | [], _ => trivial
  | p :: r, h => ⟨h p (.head _), subL_of fun q hq => h q (.tail _ hq)⟩
noncomputable def Fx.hide (c : Fx w lv ev ns gs) (l : Led) : Fx w lv ev ns gs := { c with hid := l ++ c.hid }
theorem Inv.show {l : Led} (I : Inv (c.hide l) vs n h) : Inv c vs n h :=
  ⟨I.1, fun p hp => I.2.1 p ((List.mem_append.mp hp).elim (List.mem_append_left _) fun q => List.mem_append_right _ (List.mem_append_right _ q)),
    ⟨by have := I.2.2.nd; exact (List.Sublist.map _ ((List.Sublist.refl n).append (List.sublist_append_right l c.hid))).nodup this⟩⟩
theorem rest_of {target : PySem.Expr} {body : List Stmt} {Q : Flow → Vs → Led → Prop} {hs : Heap} {ts : Nat} {ws : List (Addr × String)} {keep : Led} (xs : List Itm) (J : Nat → Vs → Led → Prop)
    (hJ : ∀ i vs n, J i vs n → ∀ p ∈ keep, p ∈ n) (hnd : (ws.map (·.1)).Nodup)
    (turn : ∀ i a v vs n, xs[i]? = some a → J i vs n → ∀ (c' : Fx w lv ev ns gs) h tk, Inv c' vs n h → a.Is v h →
      wpAny (model PR w) c'.A (assign target ev v) (fun _ s₂ => wpAny (model PR w) c'.A (execs body ev) (Post c' (LoopQ (J (i + 1)) Q)) E s₂) E (At c' h tk))
    (done : ∀ vs n, J xs.length vs n → Q .next vs n) :
    ∀ (r : List Itm) (i : Nat) (vs : Vs) (n : Led), (∀ j, r[j]? = xs[i + j]?) → i + r.length = xs.length → J i vs n → Ok n c.hid → (∀ p ∈ n ++ c.hid, p.1 ∉ ws.map (·.1)) →
      ItemsRest PR w c.A E c.h₀ ev target body (Post c Q) (At c hs ts) ws keep r (lkm ns vs) (n ++ c.hid) := by
  intro r
  induction r with
  | nil =>
    intro i vs n _ hl hj ok _ h tk F N
    have e : i = xs.length := by simpa using hl
    exact Post.ok (h := h) (tk := tk) ⟨F, N, ok⟩ (done vs n (e ▸ hj))
  | cons a r ih =>
    intro i vs n hx hl hj ok off v h tk ha F
    refine allObj_of fun its ho N => ?_
    have hw := ho.map
    have I' : Inv (c.hide its) vs n h := by
      refine ⟨F, fun p hp => N p ?_, ⟨?_⟩⟩
      · show p ∈ its ++ (n ++ c.hid)
        have hp' : p ∈ n ++ (its ++ c.hid) := hp
        simp only [List.mem_append] at hp' ⊢
        rcases hp' with h | h | h
        · exact .inr (.inl h)
        · exact .inl h
        · exact .inr (.inr h)
      · show ((n ++ (its ++ c.hid)).map (·.1)).Nodup
        have nd := ok.nd
        simp only [List.map_append] at nd ⊢
        rw [hw]
        simp only [List.map_append, List.mem_append] at off
        rw [List.nodup_append] at nd
        obtain ⟨n1, n2, n3⟩ := nd
        rw [List.nodup_append]
        refine ⟨n1, ?_, ?_⟩
        · rw [List.nodup_append]
          refine ⟨hnd, n2, fun x hx y hy e => ?_⟩
          obtain ⟨q, hq, rfl⟩ := List.mem_map.mp hy
          exact off q (.inr hq) (e ▸ hx)
        · intro x hx y hy e
          rcases List.mem_append.mp hy with hy | hy
          · obtain ⟨q, hq, rfl⟩ := List.mem_map.mp hx
            exact off q (.inl hq) (e ▸ hy)
          · exact n3 x hx y hy e
    have ha0 : xs[i]? = some a := by have := hx 0; simpa using this.symm
    refine wpAny_mono (turn i a v vs n ha0 hj (c.hide its) h tk I' ha) (fun _ s₂ H => wpAny_mono H (fun f s₃ P => ?_) fun _ _ x => x) fun _ _ x => x
    obtain ⟨h', tk', vs', n', rfl, I'', q⟩ := P
    have fin : J (i + 1) vs' n' → UnrEndW c.h₀ ev.locals { (At c hs ts) with heap := h, toks := tk } its (fun m' n' => SubL keep n' ∧ ItemsRest PR w c.A E c.h₀ ev target body (Post c Q) (At c hs ts) ws keep r m' n') (At (c.hide its) h' tk') := by
      intro hj'
      have nd := I''.2.2.nd
      have hh : (c.hide its).hid = its ++ c.hid := rfl
      rw [hh] at nd
      have nd1 : ∀ p ∈ n' ++ c.hid, p.1 ∉ its.map (·.1) := by
        intro p hp hm
        simp only [List.map_append] at nd
        rw [List.nodup_append] at nd
        obtain ⟨_, n2, n3⟩ := nd
        rcases List.mem_append.mp hp with hp | hp
        · exact n3 p.1 (List.mem_map_of_mem hp) p.1 (List.mem_append_left _ hm) rfl
        · rw [List.nodup_append] at n2
          exact n2.2.2 p.1 hm p.1 (List.mem_map_of_mem hp) rfl
      refine ⟨h', tk', lkm ns vs', n' ++ c.hid, rfl, I''.1, fun p hp => I''.2.1 p ?_, fun p hp q hq e => nd1 p hp (e ▸ List.mem_map_of_mem hq), subL_of fun p hp => List.mem_append_left _ (hJ _ _ _ hj' p hp), ?_⟩
      · show p ∈ n' ++ (its ++ c.hid)
        simp only [List.mem_append] at hp ⊢
        rcases hp with h | h | h
        · exact .inr (.inl h)
        · exact .inl h
        · exact .inr (.inr h)
      · refine ih (i + 1) vs' n' (fun j => ?_) (by simp at hl; omega) hj' I''.show.2.2 (fun p hp => hw ▸ nd1 p hp)
        have := hx (j + 1)
        simp only [List.getElem?_cons_succ] at this
        rw [this]; congr 1; omega
    cases f with
    | ret v => exact Post.ok (c := c) (h := h') (tk := tk') I''.show q
    | brk => exact Post.ok (c := c) (h := h') (tk := tk') I''.show q
    | next => exact fin q
    | cont => exact fin q
end
end Mine
end
section
open PySem PySem.W PyProof.Rows PySem.Calls PyProof.V
namespace Mine
variable {w : World}
section
variable {α β : Type} {lv : Nat} {ev : Env} {ns : List Str} {gs : List (Str × Value)} {c : Fx w lv ev ns gs} {vs : Vs} {n : Led} {h : Heap} {tk : Nat} {E : Value → Shared → Prop} {env : Env}
theorem WP.a_name {x : Str} {p : Pos} {v : Value} {vs' : Vs} {Q : Unit → Vs → Led → Prop} (s : St ns vs x v vs') (hQ : Q () vs' n) : WP w lv ev ns gs vs n (assign (.Name x p) ev v) Q :=
  WP.mk fun c E h tk I => wpAny_assign_Name ((WP.store_ s hQ).run c E h tk I)
theorem Inv.ext {h' : Heap} {b : Addr} (I : Inv c vs n h) (hs : Heap.ExtBut b h h') (hb : h.objs.size ≤ b) : Inv c vs n h' :=
  ⟨I.1.extBut hs hb, fun p hp => ⟨hs _ _ (fun e => absurd (Heap.lt_size (I.2.1 p hp).1) (e ▸ Nat.not_lt.mpr hb)) (I.2.1 p hp).1, (I.2.1 p hp).2⟩, I.2.2⟩
theorem order2 {x y : Str} {p q : Pos} {a b : Value} {vs1 vs2 : Vs} {Q : Unit → Shared → Prop} (s1 : St ns vs x a vs1) (s2 : St ns vs1 y b vs2) (I : Inv c vs n h)
    (hQ : ∀ h' tk', Inv c vs2 n h' → Q () (At c h' tk')) : wpAny (model PR w) c.A (assignInOrder ((assignEach [.Name x p, .Name y q] ev).map (·.2)) [a, b]) Q E (At c h tk) := by
  refine wpAny_bind (wpAny_holding ((WP.a_name (Q := fun _ vs n => vs = vs1 ∧ n = _) s1 ⟨rfl, rfl⟩).to I fun _ h1 t1 v1 n1 I1 e => ?_))
  obtain ⟨rfl, rfl⟩ := e
  refine wpAny_bind (wpAny_holding ((WP.a_name (Q := fun _ vs n => vs = vs2 ∧ n = _) s2 ⟨rfl, rfl⟩).to I1 fun _ h2 t2 v2 n2 I2 e => ?_))
  obtain ⟨rfl, rfl⟩ := e
  exact wpAny_pure (hQ _ _ I2)
theorem order3 {x y z : Str} {p q r : Pos} {a b d : Value} {vs1 vs2 vs3 : Vs} {Q : Unit → Shared → Prop} (s1 : St ns vs x a vs1) (s2 : St ns vs1 y b vs2) (s3 : St ns vs2 z d vs3) (I : Inv c vs n h)
    (hQ : ∀ h' tk', Inv c vs3 n h' → Q () (At c h' tk')) : wpAny (model PR w) c.A (assignInOrder ((assignEach [.Name x p, .Name y q, .Name z r] ev).map (·.2)) [a, b, d]) Q E (At c h tk) := by
  refine wpAny_bind (wpAny_holding ((WP.a_name (Q := fun _ vs n => vs = vs1 ∧ n = _) s1 ⟨rfl, rfl⟩).to I fun _ h1 t1 v1 n1 I1 e => ?_))
  obtain ⟨rfl, rfl⟩ := e
  refine wpAny_bind (wpAny_holding ((WP.a_name (Q := fun _ vs n => vs = vs2 ∧ n = _) s2 ⟨rfl, rfl⟩).to I1 fun _ h2 t2 v2 n2 I2 e => ?_))
  obtain ⟨rfl, rfl⟩ := e
  refine wpAny_bind (wpAny_holding ((WP.a_name (Q := fun _ vs n => vs = vs3 ∧ n = _) s3 ⟨rfl, rfl⟩).to I2 fun _ h3 t3 v3 n3 I3 e => ?_))
  obtain ⟨rfl, rfl⟩ := e
  exact wpAny_pure (hQ _ _ I3)
theorem tup2_at {x y : Str} {p q pos : Pos} {k : Nat} {T : Addr} {a b : Value} {vs1 vs2 : Vs} {Q : Unit → Shared → Prop} (ht : IsTup h T #[a, b]) (s1 : St ns vs x a vs1) (s2 : St ns vs1 y b vs2) (I : Inv c vs n h)
    (hQ : ∀ h' tk', Inv c vs2 n h' → Q () (At c h' tk')) : wpAny (model PR w) c.A (assign (.Tuple [.Name x p, .Name y q] k pos) ev (.ref T)) Q E (At c h tk) :=
  assign_Tuple_tuple (s := At c h tk) c.hand ht rfl rfl fun h' he => order2 (h := h') s1 s2 (I.ext he (Nat.le_refl _)) hQ
theorem WP.a_tup2 {x y : Str} {p q pos : Pos} {k j : Nat} {T : Addr} {a b : Value} {vs1 vs2 : Vs} {Q : Unit → Vs → Led → Prop} (hm : (T, tobj [a, b] j) ∈ n) (s1 : St ns vs x a vs1) (s2 : St ns vs1 y b vs2)
    (hQ : Q () vs2 n) : WP w lv ev ns gs vs n (assign (.Tuple [.Name x p, .Name y q] k pos) ev (.ref T)) Q :=
  WP.mk fun c E h tk I => tup2_at (I.tup hm) s1 s2 I fun _ _ I' => Post.ok I' hQ
theorem WP.a_tup3 {x y z : Str} {p q r pos : Pos} {k j : Nat} {T : Addr} {a b d : Value} {vs1 vs2 vs3 : Vs} {Q : Unit → Vs → Led → Prop} (hm : (T, tobj [a, b, d] j) ∈ n) (s1 : St ns vs x a vs1) (s2 : St ns vs1 y b vs2) (s3 : St ns vs2 z d vs3)
    (hQ : Q () vs3 n) : WP w lv ev ns gs vs n (assign (.Tuple [.Name x p, .Name y q, .Name z r] k pos) ev (.ref T)) Q :=
  WP.mk fun c E h tk I => assign_Tuple_tuple (s := At c h tk) c.hand (I.tup hm) rfl rfl fun h' he => order3 (h := h') s1 s2 s3 (I.ext he (Nat.le_refl _)) fun _ _ I' => Post.ok I' hQ
theorem WP.assign_tup {elts : List PySem.Expr} {k : Nat} {tpos pos : Pos} {value : PySem.Expr} {Q : Flow → Vs → Led → Prop}
    (H : WP w lv ev ns gs vs n (eval value ev) fun v vs n => WP w lv ev ns gs vs n (assign (.Tuple elts k tpos) ev v) fun _ => Q .next)
    (hs : swapsWithSole [.Tuple elts k tpos] value pos.line ev = Pure.pure false := by with_unfolding_all rfl) (hw : swappedStores [.Tuple elts k tpos] value ev = Pure.pure none := by with_unfolding_all rfl) :
    WP w lv ev ns gs vs n (exec (.Assign [.Tuple elts k tpos] value pos) ev) Q :=
  WP.mk fun c E h tk I => Assign_Tuple (H.to I fun _ _ _ _ _ I' H => H.run _ _ _ _ I') hs hw
theorem WP.for_list {target iter : PySem.Expr} {body : List Stmt} {pos : Pos} {Q : Flow → Vs → Led → Prop} {l : Addr} {its : List Value} {k : Nat} (J : Nat → Vs → Led → Prop)
    (H : WP w lv ev ns gs vs n (eval iter ev) fun v vs n => v = .ref l ∧ J 0 vs n) (hJ : ∀ i vs n, J i vs n → (l, lobj its k) ∈ n)
    (turn : ∀ i v vs n, its[i]? = some v → J i vs n → WP w lv ev ns gs vs n (assign target ev v) fun _ vs n => WP w lv ev ns gs vs n (execs body ev) (LoopQ (J (i + 1)) Q))
    (done : ∀ vs n, J its.length vs n → Q .next vs n) (hs : ∀ x, foldedSetIterable iter ev x = Pure.pure x := by intro _; with_unfolding_all rfl) :
    WP w lv ev ns gs vs n (exec (.For target iter body [] pos) ev) Q := by
  refine WP.for_core (H.mono fun v vs n hv => ?_) hs
  obtain ⟨rfl, hj⟩ := hv
  intro c E h tk I
  refine iter_listTurns c.hand I.1 I.2.1 (List.mem_append_left _ (hJ _ _ _ hj)) rfl rfl fun J₀ hlt => ?_
  refine rest_of (its.map .val) J (fun i vs n hj p hp => by rw [List.mem_singleton.mp hp]; exact hJ _ _ _ hj) (by simp) (fun i a v vs n ha hj c' h' tk' I' hav => ?_) (fun vs n hj => done vs n (by simpa using hj))
    _ 0 vs n (fun j => by simp) (by simp) hj I.2.2 fun p hp hm => ?_
  · rw [List.getElem?_map] at ha
    cases hv : its[i]? with
    | none => rw [hv] at ha; cases ha
    | some u =>
      rw [hv] at ha
      have ha' : Itm.val u = a := Option.some.inj ha
      subst ha'
      have : v = u := hav
      subst this
      exact (turn i v vs n hv hj).to I' fun _ h2 t2 v2 n2 I2 H2 => H2.run _ _ _ _ I2
  · have : p.1 = J₀ := by simpa using hm
    exact absurd (hlt p hp) (this ▸ Nat.lt_irrefl _)
noncomputable abbrev vobj (cls : String) (d : Addr) : Obj := { cls := .type cls, data := .fields #[.ref d] }
section
variable {d : Addr} {o : Obj} {t : Tab} {pl : Sem Bool} {Q : Value → Vs → Led → Prop}
theorem WP.m_dict {name : Str} {id : String} {Q : Value × List Value → Vs → Led → Prop} (hm : (d, o) ∈ n) (ht : IsTab w d o t) (sl : Slot "dict" name id) (ty : typeOf (.builtin id) = Pure.pure (.type "method_descriptor"))
    (hQ : Q (.builtin id, [.ref d]) vs n) : WP w lv ev ns gs vs n (getMethod (.ref d) name pl) Q := by
  obtain ⟨h0, kvs, h1, h2⟩ := ht
  refine WP.mk fun c E h tk I => ?_
  have hD : h.DictOf (PySem.strKind PR w) d kvs := Heap.dictOf_iff.mpr ⟨o, I.get hm, h1⟩
  exact getMethod_builtin hD.typeIs PySem.F.plainAttrs_dict sl ty hD.mapOf.noDict (Post.ok I hQ)
theorem WP.c_items (hm : (d, o) ∈ n) (ht : IsTab w d o t) (hQ : ∀ a, Q (.ref a) vs ((a, vobj "dict_items" d) :: n)) : WP w lv ev ns gs vs n (call (.builtin "dict.items") [.ref d]) Q := by
  obtain ⟨h0, kvs, h1, h2⟩ := ht
  refine WP.mk fun c E h tk I => ?_
  have hD : h.DictOf (PySem.strKind PR w) d kvs := Heap.dictOf_iff.mpr ⟨o, I.get hm, h1⟩
  exact call_meetsIn PySem.F.slot_dict_items hD.typeIs PySem.F.entry_dict_items (PySem.F.args_dict_items_1 _) (meets_dict_items _ d h0) ⟨⟨kvs, hD⟩, Post.ok (tk := tk) (I.push rfl) (hQ _)⟩
theorem WP.c_values (hm : (d, o) ∈ n) (ht : IsTab w d o t) (hQ : ∀ a, Q (.ref a) vs ((a, vobj "dict_values" d) :: n)) : WP w lv ev ns gs vs n (call (.builtin "dict.values") [.ref d]) Q := by
  obtain ⟨h0, kvs, h1, h2⟩ := ht
  refine WP.mk fun c E h tk I => ?_
  have hD : h.DictOf (PySem.strKind PR w) d kvs := Heap.dictOf_iff.mpr ⟨o, I.get hm, h1⟩
  exact call_meetsIn PySem.F.slot_dict_values hD.typeIs PySem.F.entry_dict_values (PySem.F.args_dict_values_1 _) (meets_dict_values _ d h0) ⟨⟨kvs, hD⟩, Post.ok (tk := tk) (I.push rfl) (hQ _)⟩
end
theorem for_items_core {tx ty : Str} {p q tp : Pos} {kk : Nat} {body : List Stmt} {Q : Flow → Vs → Led → Prop} {d vw : Addr} {od : Obj} {t : Tab} (J : Nat → Vs → Led → Prop)
    (hvw : ∃ ov, h.get? vw = some ov ∧ ov.cls = .type "dict_items" ∧ ov.data = .fields #[.ref d]) (I : Inv c vs n h) (hj : J 0 vs n) (ht : IsTab w d od t) (hJ : ∀ i vs n, J i vs n → (d, od) ∈ n)
    (turn : ∀ i k x vs n tk tx', t[i]? = some (k, x) → J i vs n → ∃ vs1 vs2, St ns vs tx (.str k tk) vs1 ∧ St ns vs1 ty (.int x tx') vs2 ∧ WP w lv ev ns gs vs2 n (execs body ev) (LoopQ (J (i + 1)) Q))
    (done : ∀ vs n, J t.length vs n → Q .next vs n) :
    wpAny (model PR w) c.A (pyIter (.ref vw)) (fun it s₂ => TurnsAt PR w c.A c.h₀ ev (.Tuple [.Name tx p, .Name ty q] kk tp) body (Post c Q) E it s₂) E (At c h tk) := by
  have hm := hJ _ _ _ hj
  refine kti_items (knd := PySem.strKind PR w) (enc := PyData.str) c.hand I.1 I.2.1 hvw (I.tab hm ht) (List.mem_append_left _ hm) (fun k v hk => ?_) rfl fun J₀ hlt => ?_
  · cases v <;> simp [PySem.strKind, Value.isStrOf] at hk
    exact ⟨_, by rw [hk]; rfl⟩
  refine rest_of ((kdpD t).map fun p => Itm.pairF (kyVal p.1) p.2) J (fun i vs n hj p hp => by rw [List.mem_singleton.mp hp]; exact hJ _ _ _ hj) (by simp) (fun i a v vs n ha hj c' h' tk' I' hav => ?_) (fun vs n hj => done vs n (by simpa using hj))
    _ 0 vs n (fun j => by simp) (by simp) hj I.2.2 fun p hp hm => ?_
  · rw [List.getElem?_map, kdpD, List.getElem?_map] at ha
    cases hv : t[i]? with
    | none => rw [hv] at ha; cases ha
    | some u =>
      rw [hv] at ha
      have ha' := Option.some.inj ha
      subst ha'
      obtain ⟨T, tk1, x, rfl, hx, htup⟩ := hav
      obtain ⟨tx', rfl⟩ := Flat.int_inv hx
      obtain ⟨vs1, vs2, s1, s2, H⟩ := turn i u.1 u.2 vs n tk1 tx' hv hj
      exact tup2_at htup s1 s2 I' fun h'' tk'' I'' => H.run _ _ _ _ I''
  · have : p.1 = J₀ := by simpa using hm
    exact absurd (hlt p hp) (this ▸ Nat.lt_irrefl _)
theorem WP.for_items {tx ty : Str} {p q tp pos : Pos} {kk : Nat} {iter : PySem.Expr} {body : List Stmt} {Q : Flow → Vs → Led → Prop} {d : Addr} {od : Obj} {t : Tab} (J : Nat → Vs → Led → Prop)
    (ht : IsTab w d od t) (H : WP w lv ev ns gs vs n (eval iter ev) fun v vs n => ∃ vw n', v = .ref vw ∧ n = (vw, vobj "dict_items" d) :: n' ∧ J 0 vs n') (hJ : ∀ i vs n, J i vs n → (d, od) ∈ n)
    (turn : ∀ i k x vs n tk tx', t[i]? = some (k, x) → J i vs n → ∃ vs1 vs2, St ns vs tx (.str k tk) vs1 ∧ St ns vs1 ty (.int x tx') vs2 ∧ WP w lv ev ns gs vs2 n (execs body ev) (LoopQ (J (i + 1)) Q))
    (done : ∀ vs n, J t.length vs n → Q .next vs n) (hs : ∀ x, foldedSetIterable iter ev x = Pure.pure x := by intro _; with_unfolding_all rfl) :
    WP w lv ev ns gs vs n (exec (.For (.Tuple [.Name tx p, .Name ty q] kk tp) iter body [] pos) ev) Q := by
  refine WP.for_core (H.mono fun v vs n hv => ?_) hs
  obtain ⟨vw, n', rfl, rfl, hj⟩ := hv
  intro c E h tk I
  exact for_items_core J ⟨_, I.get (.head _), rfl, rfl⟩ (I.sub (List.sublist_cons_self _ _)) hj ht hJ turn done
theorem WP.for_values {tx : Str} {p pos : Pos} {iter : PySem.Expr} {body : List Stmt} {Q : Flow → Vs → Led → Prop} {d : Addr} {od : Obj} {t : Tab} (J : Nat → Vs → Led → Prop)
    (ht : IsTab w d od t) (H : WP w lv ev ns gs vs n (eval iter ev) fun v vs n => ∃ vw n', v = .ref vw ∧ n = (vw, vobj "dict_values" d) :: n' ∧ J 0 vs n') (hJ : ∀ i vs n, J i vs n → (d, od) ∈ n)
    (turn : ∀ i k x vs n tx', t[i]? = some (k, x) → J i vs n → ∃ vs1, St ns vs tx (.int x tx') vs1 ∧ WP w lv ev ns gs vs1 n (execs body ev) (LoopQ (J (i + 1)) Q))
    (done : ∀ vs n, J t.length vs n → Q .next vs n) (hs : ∀ x, foldedSetIterable iter ev x = Pure.pure x := by intro _; with_unfolding_all rfl) :
    WP w lv ev ns gs vs n (exec (.For (.Name tx p) iter body [] pos) ev) Q := by
  refine WP.for_core (H.mono fun v vs n hv => ?_) hs
  obtain ⟨vw, n', rfl, rfl, hj⟩ := hv
  intro c E h tk I
  have I₁ := I.sub (List.sublist_cons_self _ n')
  have hm := hJ _ _ _ hj
  refine kti_vals (knd := PySem.strKind PR w) (enc := PyData.str) c.hand I₁.1 I₁.2.1 ⟨_, I.get (.head _), rfl, rfl⟩ (I₁.tab hm ht) (List.mem_append_left _ hm) rfl fun J₀ hlt => ?_
  refine rest_of ((kdpD t).map fun p => Itm.flat p.2) J (fun i vs n hj p hp => by rw [List.mem_singleton.mp hp]; exact hJ _ _ _ hj) (by simp) (fun i a v vs n ha hj c' h' tk' I' hav => ?_) (fun vs n hj => done vs n (by simpa using hj))
    _ 0 vs n' (fun j => by simp) (by simp) hj I₁.2.2 fun p hp hm => ?_
  · rw [List.getElem?_map, kdpD, List.getElem?_map] at ha
    cases hv : t[i]? with
    | none => rw [hv] at ha; cases ha
    | some u =>
      rw [hv] at ha
      have ha' := Option.some.inj ha
      subst ha'
      obtain ⟨tx', rfl⟩ := Flat.int_inv hav
      obtain ⟨vs1, s1, H⟩ := turn i u.1 u.2 vs n tx' hv hj
      exact (WP.a_name (Q := fun _ vs n => vs = vs1 ∧ n = _) s1 ⟨rfl, rfl⟩).to I' fun _ h2 t2 v2 n2 I2 e => by obtain ⟨rfl, rfl⟩ := e; exact H.run _ _ _ _ I2
  · have : p.1 = J₀ := by simpa using hm
    exact absurd (hlt p hp) (this ▸ Nat.lt_irrefl _)
theorem iter_range {target : PySem.Expr} {body : List Stmt} {Q : Flow → Shared → Prop} {r : Addr} {m : Nat} {b : Int} {t₀ u₀ v₀ : Tok} {m₀ : Str → Option Value} {news : Led} {x : Str} {px : Pos} (hx : target = .Name x px)
    (I : Inv c vs n h) (hr : IsRange h r 0 b 1 t₀ u₀ v₀) (hb : b = (m : Int)) (hz : m < 2 ^ 60) (F : Fr c.h₀ ev.locals h m₀) (N : News c.h₀ ev.locals h news)
    (rest₀ : ∀ J : Addr, (∀ p ∈ news, p.1 < J) → ItemsRest PR w c.A E c.h₀ ev target body Q (At c h tk) [(J, "range_iterator")] [] ((List.range m).map fun (i : Nat) => Itm.tok fun t => Value.int (i : Int) t) m₀ news) :
    wpAny (model PR w) c.A (pyIter (.ref r)) (fun it s₂ => TurnsAt PR w c.A c.h₀ ev target body Q E it s₂) E (At c h tk) := by
  subst hx
  have hsm : Builtin.Range.small 0 b 1 = true := small_one (by decide) (by decide) (by omega) (by subst hb; omega)
  have hsz : Builtin.Range.rangeSize 0 b 1 = (m : Int) := by rw [PyProof.Rows.rangeSize_nat]; subst hb; simp
  refine wpAny_pyIter_range (s := At c h tk) hr hsm ?_
  let W0 : Walks PR w c.A h.objs.size [h.objs.size] [h.objs.size] m (fun i v => i < m ∧ ∃ t, v = .int (0 + i * 1) t) (fun i h' => IsRangeIter h' h.objs.size (0 + (i : Nat) * 1) ((m : Int) - (i : Nat)) 1) := (Walks.range c.hand h.objs.size 0 1 m).bound
  refine ktu_core (s := At c h tk) (tk0 := tk) (keep := []) (ws := [(h.objs.size, "range_iterator")]) (KTurns.ofWalks W0 fun i v s Q E st q => wpAny_pure q) (by simp) (fun i v h' hp => ?_) (fun i h' st => ?_) (fun b hb => ?_) (fun b hb => by simpa using hb) (fun b hb => .inl (by simpa using hb)) ?_ (fun p hp hI => ?_) ?_ (F.push _) (fun p hp => ⟨Heap.get?_push_of_some _ (N p hp).1, (N p hp).2⟩) trivial (rest₀ _ fun p hp => Heap.lt_size (N p hp).1)
  · obtain ⟨hi, t, rfl⟩ := hp
    exact ⟨.tok fun t => .int (i : Int) t, by simp [hi], t, by simp⟩
  · exact ⟨[(h.objs.size, _)], ⟨⟨rfl, rfl⟩, trivial⟩, fun p hp => by rw [List.mem_singleton.mp hp]; exact st⟩
  · have hb' : b = h.objs.size := by simpa using hb
    rw [hb']
    exact ⟨List.mem_cons_self .., next_is_new F⟩
  · intro hm
    exact absurd F.ns.lt ((List.mem_singleton.mp hm) ▸ Nat.lt_irrefl _)
  · exact absurd (Heap.lt_size (N p hp).1) ((List.mem_singleton.mp hI) ▸ Nat.lt_irrefl _)
  · show IsRangeIter _ _ _ _ _
    rw [hsz]
    have q := Heap.get?_push_size (o := ({ cls := .type "range_iterator", data := .fields #[rawInt 0, rawInt (m : Int), rawInt 1] } : Obj)) h rfl
    have e1 : (0 : Int) + ((0 : Nat) : Int) * 1 = 0 := by omega
    have e2 : (m : Int) - ((0 : Nat) : Int) = m := by omega
    rw [e1, e2]
    exact q
theorem WP.for_range {tx : Str} {p pos : Pos} {iter : PySem.Expr} {body : List Stmt} {Q : Flow → Vs → Led → Prop} {m : Nat} (hz : m < 2 ^ 60) (J : Nat → Vs → Led → Prop)
    (H : WP w lv ev ns gs vs n (eval iter ev) fun v vs n => ∃ r n' t1 t2 t3, v = .ref r ∧ n = (r, { cls := .type "range", data := .fields #[.int 0 t1, .int (m : Int) t2, .int 1 t3] }) :: n' ∧ J 0 vs n')
    (turn : ∀ i vs n t, i < m → J i vs n → ∃ vs1, St ns vs tx (.int (i : Int) t) vs1 ∧ WP w lv ev ns gs vs1 n (execs body ev) (LoopQ (J (i + 1)) Q))
    (done : ∀ vs n, J m vs n → Q .next vs n) (hs : ∀ x, foldedSetIterable iter ev x = Pure.pure x := by intro _; with_unfolding_all rfl) :
    WP w lv ev ns gs vs n (exec (.For (.Name tx p) iter body [] pos) ev) Q := by
  refine WP.for_core (H.mono fun v vs n hv => ?_) hs
  obtain ⟨r, n', t1, t2, t3, rfl, rfl, hj⟩ := hv
  intro c E h tk I
  have I₁ := I.sub (List.sublist_cons_self _ n')
  refine iter_range rfl I (I.get (.head _)) rfl hz I₁.1 I₁.2.1 fun J₀ hlt => ?_
  refine rest_of ((List.range m).map fun (i : Nat) => Itm.tok fun t => Value.int (i : Int) t) J (fun i vs n hj p hp => by cases hp) (by simp) (fun i a v vs n ha hj c' h' tk' I' hav => ?_) (fun vs n hj => done vs n (by simpa using hj))
    _ 0 vs n' (fun j => by simp) (by simp) hj I₁.2.2 fun p hp hm => ?_
  · rw [List.getElem?_map] at ha
    by_cases hi : i < m
    · rw [List.getElem?_range hi] at ha
      have ha' := Option.some.inj ha
      subst ha'
      obtain ⟨t, rfl⟩ := hav
      obtain ⟨vs1, s1, H⟩ := turn i vs n t hi hj
      exact (WP.a_name (Q := fun _ vs n => vs = vs1 ∧ n = _) s1 ⟨rfl, rfl⟩).to I' fun _ h2 t2 v2 n2 I2 e => by obtain ⟨rfl, rfl⟩ := e; exact H.run _ _ _ _ I2
    · rw [List.getElem?_eq_none (by simpa using hi)] at ha; cases ha
  · have : p.1 = J₀ := by simpa using hm
    exact absurd (hlt p hp) (this ▸ Nat.lt_irrefl _)
theorem exSt {x : Str} {v : Value} {vs' : Vs} {P : Vs → Prop} (s : St ns vs x v vs') (h : P vs') : ∃ vs', St ns vs x v vs' ∧ P vs' := ⟨vs', s, h⟩
theorem exB {P : Bool → Prop} {b : Bool} (h : P b) : ∃ b', Value.bool b = Value.bool b' ∧ P b' := ⟨b, rfl, h⟩
end
end Mine
end
section
open PySem PySem.W PyProof.Rows PySem.Calls PyProof.V
namespace Mine
variable {w : World}
section
variable {α β : Type} {lv : Nat} {ev : Env} {ns : List Str} {gs : List (Str × Value)} {c : Fx w lv ev ns gs} {vs : Vs} {n : Led} {h : Heap} {tk : Nat} {E : Value → Shared → Prop} {env : Env} {Q : Value → Vs → Led → Prop}
section
variable {a b : Int} {t u v : Tok} {x y z : Str} {A : Addr} {pl : Sem Bool}
theorem WP.neg_int (hQ : ∀ t, Q (.int (-a) t) vs n) : WP w lv ev ns gs vs n (unaryOp .USub (.int a t)) Q := lift1 (fun A E s => @P.neg_int PR w A E s a t) hQ
/- methods of texts -/
theorem WP.m_startswith {Q : Value × List Value → Vs → Led → Prop} (hQ : Q (.builtin "str.startswith", [.str x t]) vs n) : WP w lv ev ns gs vs n (getMethod (.str x t) "startswith" pl) Q := lift0 (fun A E s Q' => @GM.startswith (model PR w) A E s x t pl Q') hQ
theorem WP.m_endswith {Q : Value × List Value → Vs → Led → Prop} (hQ : Q (.builtin "str.endswith", [.str x t]) vs n) : WP w lv ev ns gs vs n (getMethod (.str x t) "endswith" pl) Q := lift0 (fun A E s Q' => @GM.endswith (model PR w) A E s x t pl Q') hQ
theorem WP.m_find {Q : Value × List Value → Vs → Led → Prop} (hQ : Q (.builtin "str.find", [.str x t]) vs n) : WP w lv ev ns gs vs n (getMethod (.str x t) "find" pl) Q := lift0 (fun A E s Q' => @GM.find (model PR w) A E s x t pl Q') hQ
theorem WP.m_join {Q : Value × List Value → Vs → Led → Prop} (hQ : Q (.builtin "str.join", [.str x t]) vs n) : WP w lv ev ns gs vs n (getMethod (.str x t) "join" pl) Q := lift0 (fun A E s Q' => @GM.join (model PR w) A E s x t pl Q') hQ
theorem WP.m_replace {Q : Value × List Value → Vs → Led → Prop} (hQ : Q (.builtin "str.replace", [.str x t]) vs n) : WP w lv ev ns gs vs n (getMethod (.str x t) "replace" pl) Q := lift0 (fun A E s Q' => @GM.replace (model PR w) A E s x t pl Q') hQ
theorem WP.startswith (hQ : Q (.bool (Txt.startswith x y)) vs n) : WP w lv ev ns gs vs n (call (.builtin "str.startswith") [.str x t, .str y u]) Q := lift0 (fun A E s Q' => @SC.startswith PR w A E s x t Q' y u) hQ
theorem WP.endswith (hQ : Q (.bool (Txt.endswith x y)) vs n) : WP w lv ev ns gs vs n (call (.builtin "str.endswith") [.str x t, .str y u]) Q := lift0 (fun A E s Q' => @SC.endswith PR w A E s x t Q' y u) hQ
theorem WP.find3 (hQ : ∀ t, Q (.int (Txt.find3 x y a) t) vs n) : WP w lv ev ns gs vs n (call (.builtin "str.find") [.str x t, .str y u, .int a v]) Q :=
  lift1 (f := fun t => .int (Txt.find3 x y a) t) (fun A E s Q' h => SC.find3 h) hQ
theorem WP.join {D : Addr} {its : List Value} {k : Nat} {ys : List Str} (hm : (D, lobj its k) ∈ n) (hi : StrsAre its ys) (hok : (ys.map (·.length)).sum + ys.length * x.length ≤ 16777216)
    (hQ : ∀ t, Q (.str (Txt.join x ys) t) vs n) : WP w lv ev ns gs vs n (call (.builtin "str.join") [.str x t, .ref D]) Q :=
  WP.mk fun c E h tk I => join_list (s := At c h tk) (I.list hm) (by simpa using hi) hok fun t' k => Post.ok (tk := k) I (hQ t')
theorem WP.replace_none (hn : (Builtin.Str.occurrences x y 0 x.length (x.length + 1)).isEmpty = true) (hQ : Q (.str x t) vs n) : WP w lv ev ns gs vs n (call (.builtin "str.replace") [.str x t, .str y u, .str z v]) Q :=
  lift0 (fun A E s Q' h => by
    refine call_gives F.slot_str_replace (typeIs_str _ _ _) F.entry_str_replace (F.args_str_replace_3 _ _ _) (gives_str_replace x y z t u v fun e => ?_) ?_
    · rw [hn] at e; exact absurd e (by simp)
    · rw [hn, Bool.true_or, if_pos rfl]; exact h) hQ
theorem WP.m_count {l : Addr} {its : List Value} {k : Nat} {Q : Value × List Value → Vs → Led → Prop} (hm : (l, lobj its k) ∈ n) (hQ : Q (.builtin "list.count", [.ref l]) vs n) : WP w lv ev ns gs vs n (getMethod (.ref l) "count" pl) Q :=
  WP.mk fun c E h tk I => getMethod_builtin (I.list hm).typeIs PySem.F.plainAttrs_list PySem.F.slot_list_count PySem.F.type_list_count (fun o ho => by cases ho; exact ⟨_, I.get hm, rfl⟩) (Post.ok I hQ)
theorem count_strs {x : Str} : ∀ ys : List Str, PySem.Spec.countIn (.str x) (ys.map PyData.str) = (ys.count x : Nat)
  | [] => rfl
  | y :: r => by
    have e : PySem.Spec.same (.str y) (.str x) = (y == x) := by simp only [PySem.Spec.same]
    rw [List.map_cons, PySem.Spec.countIn, count_strs r, List.count_cons, e]
    generalize (y == x) = q
    cases q <;> simp <;> omega
theorem WP.count {l : Addr} {its : List Value} {k : Nat} {ys : List Str} (hm : (l, lobj its k) ∈ n) (hi : StrsAre its ys) (hQ : ∀ t, Q (.int (ys.count x : Nat) t) vs n) : WP w lv ev ns gs vs n (call (.builtin "list.count") [.ref l, .str x t]) Q :=
  WP.mk fun c E h tk I => count_list_strs (s := At c h tk) (I.list hm) hi (by rw [count_strs]; exact Post.ok (tk := tk + 1) I (hQ _))
/- f-strings -/
theorem WP.joined {v₁ v₂ : PySem.Expr} {rest : List PySem.Expr} {pos : Pos} (H : WP w lv ev ns gs vs n (joinParts Str.empty (evalEach (v₁ :: v₂ :: rest) env)) Q) : WP w lv ev ns gs vs n (eval (.JoinedStr (v₁ :: v₂ :: rest) pos) env) Q :=
  WP.mk fun c E h tk I => by
    rw [arm_eval_JoinedStr]
    exact H.run _ _ _ _ I
theorem WP.jp_nil {acc : Str} (hz : acc.length ≤ sizeLine) (hQ : ∀ t, Q (.str acc t) vs n) : WP w lv ev ns gs vs n (joinParts acc (evalEach [] env)) Q :=
  WP.mk fun c E h tk I => by
    show wpAny (model PR w) c.A (mkStr acc) _ _ _
    exact wpAny_mkStr (Post.ok (tk := tk + 1) I (hQ _)) hz
theorem WP.jp_cons {acc : Str} {e : PySem.Expr} {rest : List PySem.Expr} (H : WP w lv ev ns gs vs n (eval e env) fun v vs n => ∃ y t, v = .str y t ∧ (acc ++ y).length ≤ sizeLine ∧ WP w lv ev ns gs vs n (joinParts (acc ++ y) (evalEach rest env)) Q) :
    WP w lv ev ns gs vs n (joinParts acc (evalEach (e :: rest) env)) Q :=
  WP.mk fun c E h tk I => by
    show wpAny (model PR w) c.A (joinParts acc (eval e env :: evalEach rest env)) _ _ _
    rw [joinParts]
    refine wpAny_bind (H.to I fun v h' tk' vs' n' I' hv => ?_)
    obtain ⟨y, t, rfl, hz, hr⟩ := hv
    have hz' : ¬ (acc.length + y.length > sizeLine) := by rw [← strLen_append]; exact Nat.not_lt.mpr hz
    refine wpAny_bind (wpAny_pure ?_)
    show wpAny (model PR w) c.A (if acc.length + y.length > sizeLine then _ else _) _ _ _
    rw [if_neg hz']
    first
      | exact hr.run _ _ _ _ I'
      | exact wpAny_bind (wpAny_pure (hr.run _ _ _ _ I'))
theorem WP.formatted {e : PySem.Expr} {pos : Pos} (H : WP w lv ev ns gs vs n (eval e env) fun v vs n => ∃ y t, v = .str y t ∧ y.length ≤ sizeLine ∧ ∀ t, Q (.str y t) vs n) : WP w lv ev ns gs vs n (eval (.FormattedValue e (-1) none pos) env) Q :=
  WP.mk fun c E h tk I => wpAny_FormattedValue_plain (H.to I fun v h' tk' vs' n' I' hv => by
    obtain ⟨y, t, rfl, hz, hq⟩ := hv
    exact wpAny_formatField_str (Post.ok I' (hq _)) (Post.ok (tk := tk' + 1) I' (hq _)) hz)
end
/- dicts -/
section
variable {d a b : Addr} {o oa ob : Obj} {ta tb : Tab} {k : Str} {i : Int} {t u : Tok}
theorem WP.dict_one {ke ve : PySem.Expr} {pos : Pos} (H : ∀ d o, IsTab w d o [] → WP w lv ev ns gs vs ((d, o) :: n) (eval ke env) fun kv vs n => WP w lv ev ns gs vs n (eval ve env) fun vv vs n => WP w lv ev ns gs vs n (storeAll d [(kv, vv)]) fun _ => Q (.ref d)) :
    WP w lv ev ns gs vs n (eval (.Dict [some ke] [ve] pos) env) Q := by
  refine WP.mk fun c E h tk I => wpAny_Dict_any rfl rfl (by simp) (by simp) ?_
  have I' : Inv c vs ((h.objs.size, ({ cls := .type "dict", data := .dict #[] } : Obj)) :: n) (h.push { cls := .type "dict", data := .dict #[] }) := I.push rfl
  have ht : IsTab w h.objs.size ({ cls := .type "dict", data := .dict #[] } : Obj) [] := by
    refine ⟨I.1.notModules (modules_low c.T.nolimit), [], ?_, .nil⟩
    obtain ⟨o, ho, hd⟩ := Heap.dictOf_iff.mp (Heap.DictOf.new (knd := PySem.strKind PR w) h)
    rw [Heap.get?_push_size _ rfl] at ho
    exact (Option.some.inj ho) ▸ hd
  refine pairTrees_cons_walk ((H _ _ ht).to I' fun kv h1 tk1 vs1 n1 I1 H1 => H1.to I1 fun vv h2 tk2 vs2 n2 I2 H2 => pairTrees_nil_walk ?_)
  exact H2.to I2 fun _ h3 tk3 vs3 n3 I3 q => Post.ok I3 q
theorem WP.store1 {Q : PUnit → Vs → Led → Prop} {g : Obj → Led} (U : UpF d o n g) (ht : IsTab w d o []) (hQ : ∀ o', IsTab w d o' [(k, i)] → Q ⟨⟩ vs (g o')) : WP w lv ev ns gs vs n (storeAll d [(.str k t, .int i u)]) Q := by
  obtain ⟨h0, kvs, h1, h2⟩ := ht
  cases h2
  refine WP.mk fun c E h tk I => ?_
  have hD : h.DictOf (PySem.strKind PR w) d [] := Heap.dictOf_iff.mpr ⟨o, I.get U.mem, h1⟩
  refine wpAny_storeAll (knd := PySem.strKind PR w) [(.str k t, .int i u)] [(k, .int i u)] [] _ _ ?_ hD (by rw [sizeLine_eq]; show 0 + 1 ≤ _; decide) ?_
  · exact ⟨by simp [PySem.strKind, Value.isStrOf], rfl, trivial⟩
  · intro h' hD' hs
    obtain ⟨o', ho', hd'⟩ := Heap.dictOf_iff.mp hD'
    exact Post.ok (I.update U hs ho') (hQ o' ⟨h0, _, hd', .cons (Flat.int i u) .nil⟩)
theorem tab_shape {t : Tab} : ∀ {kvs : List (Str × Value)}, FlatPairs PyData.str kvs (kdpD t) → kvs.length = t.length := fun h => by
  have := h.length; rw [kdpD, List.length_map] at this; exact this.symm
/-- two tables hold the same: the row test -/
noncomputable def sameTab (ta tb : Tab) : Bool := ta.length == tb.length && ta.all fun p => match tb.find? (fun q => decide (q.1 = p.1)) with | some q => decide (p.2 = q.2) | none => false
theorem rows_of (tb : Tab) : ∀ ta : Tab, KeqRows (kdpD tb) (kdpD ta) (ta.all fun p => match tb.find? (fun q => decide (q.1 = p.1)) with | some q => decide (p.2 = q.2) | none => false) := by
  intro ta
  induction ta with
  | nil => exact .nil
  | cons p r ih =>
    have hl := kdpD_lookup p.1 tb
    cases hf : tb.find? (fun q => decide (q.1 = p.1)) with
    | none =>
      rw [hf] at hl
      have := KeqRows.miss (Db := kdpD tb) (k := PyData.str p.1) (v := PyData.int p.2) (r := kdpD r) hl
      simpa [kdpD, List.all_cons, hf] using this
    | some q =>
      rw [hf] at hl
      have := KeqRows.hit (Db := kdpD tb) (k := PyData.str p.1) (v := PyData.int p.2) (r := kdpD r) hl ih
      have e : PyData.eqv (PyData.int p.2) (PyData.int q.2) = decide (p.2 = q.2) := by
        simp only [PyData.eqv]; rfl
      rw [e] at this
      simpa [kdpD, List.all_cons, hf] using this
theorem WP.dict_ne (ha : (a, oa) ∈ n) (hb : (b, ob) ∈ n) (ta' : IsTab w a oa ta) (tb' : IsTab w b ob tb) (hQ : Q (.bool (!sameTab ta tb)) vs n) : WP w lv ev ns gs vs n (compareOp .NotEq (.ref a) (.ref b)) Q :=
  WP.mk fun c E h tk I => by
    have hu : c.A.units < cLine := by have := c.units; omega
    by_cases e : ta.length = tb.length
    · refine kne_tabs PyProof.V.same_str (I.tab ha ta') (I.tab hb tb') (by simp [kdpD, e]) hu (rows_of tb ta) (Post.ok I ?_)
      rw [sameTab, e, beq_self_eq_true, Bool.true_and] at hQ
      exact hQ
    · refine kne_tabs_len (I.tab ha ta') (I.tab hb tb') (by simp [kdpD, e]) hu (Post.ok I ?_)
      have : sameTab ta tb = false := by rw [sameTab, beq_eq_false_iff_ne.mpr e, Bool.false_and]
      rw [this] at hQ
      exact hQ
end
end
end Mine
end
section
open PySem PySem.W PyProof.Rows PySem.Calls PyProof.V
namespace Mine
variable {w : World}
section
variable {lv : Nat} {ev : Env} {ns : List Str} {gs : List (Str × Value)} {c : Fx w lv ev ns gs} {vs : Vs} {n : Led} {h : Heap} {tk : Nat} {E : Value → Shared → Prop} {env : Env} {Q : Value → Vs → Led → Prop}
theorem WP.fmt3 {f nm : Str} {i : Int} {t t1 t2 t3 : Tok} {b : Addr} {k : Nat} (hm : (b, tobj [.str f t1, .int i t2, .str nm t3] k) ∈ n) (h0 : 0 ≤ i) (h1 : i < 10 ^ 10) (hf : f.length ≤ 1000000) (hn : nm.length ≤ 1000000)
    (hQ : ∀ t, Q (.str (f ++ Str.ofString ":" ++ Str.ofString (toString i) ++ Str.ofString "(" ++ nm ++ Str.ofString ")") t) vs n) : WP w lv ev ns gs vs n (binaryOp .Mod (.str (Str.ofString "%s:%d(%s)") t) (.ref b)) Q := by
  refine WP.mk fun c E h tk I => ?_
  have hl : i.natAbs.log2 < 1920 := shown (N := 2 ^ 1920) (by omega) (by omega) (Int.le_refl _)
  have hN := I.2.1
  have hB : (b, ({ cls := .type "tuple", data := .seq #[.str f t1, .int i t2, .str nm t3] k } : Obj)) ∈ n ++ c.hid := List.mem_append_left _ hm
  have hk : ∀ (t' : Tok) (k : Nat), Post c Q (.str (f ++ Str.ofString ":" ++ Str.ofString (toString i) ++ Str.ofString "(" ++ nm ++ Str.ofString ")") t') { (At c h tk) with toks := k } := fun t' k => Post.ok (tk := k) I (hQ t')
  refine' KPt.mod_tuple (s := At c h tk) ?kptN ?kptb ?kptF ?kptm ?_
  case kptN => exact hN
  case kptb => exact hB
  case kptF => kpt_eq
  case kptm => kpt_run
  exact hk
theorem WP.fmt1 {y : Str} {t u : Tok} (hy : y.length ≤ 1000000) (hQ : ∀ t, Q (.str (Str.ofString "{" ++ y ++ Str.ofString "}") t) vs n) : WP w lv ev ns gs vs n (binaryOp .Mod (.str (Str.ofString "{%s}") t) (.str y u)) Q := by
  refine WP.mk fun c E h tk I => ?_
  have hk : ∀ (t' : Tok) (k : Nat), Post c Q (.str ((fun y => Str.ofString "{" ++ y ++ Str.ofString "}") y) t') { (At c h tk) with toks := k } := fun t' k => Post.ok (tk := k) I (hQ t')
  refine' KPc.mod_str (s := At c h tk) (T := fun y => Str.ofString "{" ++ y ++ Str.ofString "}") ?kpcF hy ?kpcm ?_
  case kpcF => kpc_eq
  case kpcm => kpc_run_s
  exact hk
end
end Mine
end
section
open PySem PySem.W PyProof.Rows PySem.Calls PyProof.V
namespace Mine
variable {w : World}
section
variable {lv : Nat} {ev : Env} {ns : List Str} {gs : List (Str × Value)} {c : Fx w lv ev ns gs} {vs : Vs} {n : Led} {h : Heap} {tk : Nat} {E : Value → Shared → Prop} {env : Env} {Q : Value → Vs → Led → Prop}
theorem WP.callE {pos : Pos} {id : String} {e : PySem.Expr} {rest : List PySem.Expr}
    (h : WP w lv ev ns gs vs n (spliced (backTo pos (starEach (e :: rest) env))) fun us vs n => WP w lv ev ns gs vs n (call (.builtin id) us) Q)
    (he : starEach (e :: rest) env = (false, eval e env) :: starEach rest env := by with_unfolding_all rfl) (hplain : (backTo pos (starEach rest env)).any (·.1) = false := by with_unfolding_all rfl) :
    WP w lv ev ns gs vs n (callWith pos (.builtin id) [] (backTo pos (starEach (e :: rest) env)) []) Q := WP.callB h he hplain
theorem WP.callM {pos : Pos} {id : String} {a : Value} {e : PySem.Expr} {rest : List PySem.Expr}
    (h : WP w lv ev ns gs vs n (spliced (backTo pos (starEach (e :: rest) env))) fun us vs n => WP w lv ev ns gs vs n (call (.builtin id) (a :: us)) Q)
    (he : starEach (e :: rest) env = (false, eval e env) :: starEach rest env := by with_unfolding_all rfl) (hplain : (backTo pos (starEach rest env)).any (·.1) = false := by with_unfolding_all rfl) :
    WP w lv ev ns gs vs n (callWith pos (.builtin id) [a] (backTo pos (starEach (e :: rest) env)) []) Q := WP.callB h he hplain
theorem WP.truthy_bool {b : Bool} {Q : Bool → Vs → Led → Prop} (hQ : Q b vs n) : WP w lv ev ns gs vs n (truthy (.bool b)) Q := WP.mk fun c E h tk I => wpAny_truthy_bool (Post.ok I hQ)
theorem WP.drop {α : Type} {t : Sem α} {Q : α → Vs → Led → Prop} (H : WP w lv ev ns gs vs n t fun v vs n' => ∃ n'', n''.Sublist n' ∧ Q v vs n'') : WP w lv ev ns gs vs n t Q :=
  WP.mk fun c E h tk I => H.to I fun v h' tk' vs' n' I' ⟨n'', hs, q⟩ => Post.ok (I'.sub hs) q
theorem WP.truthy_str {x : Str} {t : Tok} {Q : Bool → Vs → Led → Prop} (hx : x.length ≤ sizeLine) (hQ : Q ((x.length : Int) != 0) vs n) : WP w lv ev ns gs vs n (truthy (.str x t)) Q :=
  lift2 (f := fun _ => ((x.length : Int) != 0)) (fun A E s Q' h => P.truthy_str (by rw [sizeLine_eq] at hx; omega) h) fun _ => hQ
theorem part_of {v : Value} {p : Option Int} (h : IsPart v p) : ∃ q, PartOf v q ∧ q.map (·.1) = p := by
  cases h with
  | none => exact ⟨_, .none, rfl⟩
  | int i t => exact ⟨_, .int i t, rfl⟩
theorem WP.str_cut {value slice : PySem.Expr} {a : Addr} {y : Str} {t : Tok} {vl vu : Value} {lo hi : Option Int} (pl : IsPart vl lo) (pu : IsPart vu hi) (hsz : y.length ≤ sizeLine)
    (hQ : ∀ t', Q (.str (Txt.slice y lo hi) t') vs n)
    (hs : subscripted slice false (.str y t) (.ref a) = operate [.ref a, .str y t] (getItem (.str y t) (.ref a)) := by with_unfolding_all rfl) :
    WP w lv ev ns gs vs ((a, { cls := .type "slice", data := .fields #[vl, vu, .none] }) :: n) (subscriptTail value slice (.str y t) (.ref a)) Q := by
  obtain ⟨p, hp, rfl⟩ := part_of pl
  obtain ⟨q, hq, rfl⟩ := part_of pu
  exact WP.str_slice hp hq hsz hQ hs
/- tuples -/
theorem sliceApplied_upto2 {A : Around} {s : Shared} {sl : Addr} {u : Tok} {Q : Int × Int × Nat → Shared → Prop} (hs : s.heap.IsSliceOf sl .none (.int 2 u) .none) (h : Q ((0 : Int), 1, 2) s) :
    wpAny (model PR w) A (Builtin.Slice.sliceApplied (.ref sl) (pure (3 : Int))) Q E s := by
  obtain ⟨os, hos, hcs, hds⟩ := id hs
  unfold Builtin.Slice.sliceApplied Builtin.Slice.sliceFields
  refine wpAny_bind (wpAny_bind (wpAny_field hos hds (x := .none) rfl (wpAny_bind (wpAny_field hos hds (x := .int 2 u) rfl (wpAny_bind (wpAny_field hos hds (x := .none) rfl (wpAny_pure ?_)))))))
  refine wpAny_bind (slicePart_none ?_)
  show wpAny _ _ (if ((1 : Int) == 0) = true then _ else _) _ _ s
  rw [if_neg (by decide)]
  refine wpAny_bind (slicePart_none (wpAny_bind (slicePart_int (wpAny_bind (wpAny_pure ?_)))))
  exact wpAny_pure h
theorem WP.tup_upto2 {value slice : PySem.Expr} {l a : Addr} {x y z : Value} {k : Nat} {u : Tok} (hm : (l, tobj [x, y, z] k) ∈ n) (hQ : ∀ b, Q (.ref b) vs ((b, tobj [x, y] 0) :: n))
    (hs : subscripted slice false (.ref l) (.ref a) = operate [.ref a, .ref l] (getItem (.ref l) (.ref a)) := by with_unfolding_all rfl) :
    WP w lv ev ns gs vs ((a, { cls := .type "slice", data := .fields #[.none, .int 2 u, .none] }) :: n) (subscriptTail value slice (.ref l) (.ref a)) Q := WP.mk fun c E h tk I => by
  have I' := I.sub (List.sublist_cons_self _ n)
  have ht : IsTup (At c h tk).heap l #[x, y, z] := I'.tup hm
  have hsl : (At c h tk).heap.IsSliceOf a .none (.int 2 u) .none := ⟨_, I.get (.head _), rfl, rfl⟩
  obtain ⟨os, hos, hcs, hds⟩ := id hsl
  have hTs : (At c h tk).TypeIs (.ref a) "slice" := ⟨os, hos, hcs⟩
  refine tail_any ht.typeIs slot_tuple_getitem.lookup ?_ hs
  unfold getItem
  try with_reducible refine wpAny_holding ?_
  first | refine wpAny_bind (wpAny_pure ?_) | skip
  refine wpAny_bind (wpAny_sequenceKey ht.typeIs (by decide) ?_)
  refine wpAny_bind (wpAny_callSpecial?_slot (name := Str.ofString "__getitem__") ht.typeIs slot_tuple_getitem
    (wpAny_call_entry slot_tuple_getitem ht.typeIs entry_tuple_getitem ?_ (args_tuple_getitem _ _)))
  show wpAny _ _ (Builtin.Tuple.tupleItemsOf (.ref l) >>= _) _ _ _
  refine wpAny_bind (tupleItemsOf_ ht ?_)
  refine wpAny_bind (wpAny_typeOf hTs ?_)
  rw [if_pos (by decide)]
  refine wpAny_bind (sliceApplied_upto2 hsl ?_)
  show wpAny _ _ (if ((0 : Int) == 0 && (1 : Int) == 1 && (2 : Nat) == 3) = true then _ else _) _ _ _
  rw [if_neg (by decide)]
  have hd : sizeOk (.seq (#[x, y] : Array Value)) := by show 2 ≤ sizeLine; rw [sizeLine_eq]; decide
  have hP : Post c Q (.ref h.objs.size) { (At c h tk) with heap := h.push { cls := .type "tuple", data := .seq #[x, y] } } := Post.ok (tk := tk) (I'.push (o := { cls := .type "tuple", data := .seq #[x, y] }) rfl) (hQ _)
  first
    | exact wpAny_bind (m := Builtin.Tuple.tupleExact _) (wpAny_newObj_type (wpAny_pure ⟨_, rfl, wpAny_pure hP⟩) hd)
    | exact wpAny_bind (m := Builtin.Tuple.tupleExact _) (wpAny_newObj_type (wpAny_bind (wpAny_pure (wpAny_pure ⟨_, rfl, wpAny_pure hP⟩))) hd)
    | exact wpAny_bind (wpAny_bind (m := Builtin.Tuple.tupleExact _) (wpAny_newObj_type (wpAny_pure (wpAny_pure ⟨_, rfl, wpAny_pure hP⟩)) hd))
    | exact wpAny_bind (wpAny_bind (m := Builtin.Tuple.tupleExact _) (wpAny_newObj_type (wpAny_pure ⟨_, rfl, wpAny_pure hP⟩) hd))
theorem WP.eq_tup {l m : Addr} {x y : Str} {a b : Int} {t t' u u' : Tok} {k k' : Nat} (hm : (l, tobj [.str x t, .int a u] k) ∈ n) (hm' : (m, tobj [.str y t', .int b u'] k') ∈ n)
    (hQ : Q (.bool (decide (x = y) && decide (a = b))) vs n) : WP w lv ev ns gs vs n (compareOp .Eq (.ref l) (.ref m)) Q := WP.mk fun c E h tk I => by
  have hu : c.A.units < cLine := by have := c.units; omega
  refine SeqAt.eq_tupleAt (s := At c h tk) (e := fun j => if j = 0 then decide (x = y) else decide (a = b)) (I.tup hm) (I.tup hm') hu ?_ ?_
  · intro j h1 h2
    match j with
    | 0 =>
      have e : PyData.eqv (PyData.str x) (PyData.str y) = decide (x = y) := by
        simp only [PyData.eqv]
        cases x with | mk x => cases y with | mk y =>
        rw [Bool.eq_iff_iff]; simp
      have := keq_flat (A := c.A.in1) (s := At c h tk) (Flat.str x t) (Flat.str y t')
      rw [e] at this
      exact this
    | 1 =>
      have e : PyData.eqv (PyData.int a) (PyData.int b) = decide (a = b) := by simp only [PyData.eqv]; rfl
      have := keq_flat (A := c.A.in1) (s := At c h tk) (Flat.int a u) (Flat.int b u')
      rw [e] at this
      exact this
    | j + 2 => exact absurd (show j + 2 < 2 from h1) (by omega)
  · have : ((List.range (min (#[Value.str x t, Value.int a u] : Array Value).size (#[Value.str y t', Value.int b u'] : Array Value).size)).all (fun j => if j = 0 then decide (x = y) else decide (a = b)) && (#[Value.str x t, Value.int a u] : Array Value).size == (#[Value.str y t', Value.int b u'] : Array Value).size) = (decide (x = y) && decide (a = b)) := by
      show ((List.range 2).all _ && _) = _
      simp [List.range_succ]
    exact (congrArg (fun b => Post c Q (.bool b) (At c h tk)) this).mpr (Post.ok I hQ)
end
end Mine
end
section
open PySem PySem.W PyProof.Rows PySem.Calls PyProof.V
namespace Mine
variable {w : World}
inductive Each {α : Type} (R : Value → α → Prop) : List Value → List α → Prop
  | nil : Each R [] []
  | cons {v : Value} {a : α} {vs : List Value} {as : List α} : R v a → Each R vs as → Each R (v :: vs) (a :: as)
section
variable {α β : Type} {R R' : Value → α → Prop}
theorem Each.len {vs : List Value} {as : List α} (h : Each R vs as) : vs.length = as.length := by
  induction h with
  | nil => rfl
  | cons _ _ ih => simp [ih]
theorem Each.at {vs : List Value} {as : List α} (h : Each R vs as) : ∀ {i : Nat} {v : Value}, vs[i]? = some v → ∃ a, as[i]? = some a ∧ R v a := by
  induction h with
  | nil => intro i v e; simp at e
  | cons r _ ih =>
    intro i v e
    cases i with
    | zero => simp at e; subst e; exact ⟨_, rfl, r⟩
    | succ i => simpa using ih (by simpa using e)
theorem Each.at' {vs : List Value} {as : List α} (h : Each R vs as) : ∀ {i : Nat} {a : α}, as[i]? = some a → ∃ v, vs[i]? = some v ∧ R v a := by
  induction h with
  | nil => intro i v e; simp at e
  | cons r _ ih =>
    intro i v e
    cases i with
    | zero => simp at e; subst e; exact ⟨_, rfl, r⟩
    | succ i => simpa using ih (by simpa using e)
theorem Each.mono {vs : List Value} {as : List α} (h : Each R vs as) (k : ∀ v a, R v a → R' v a) : Each R' vs as := by
  induction h with
  | nil => exact .nil
  | cons r _ ih => exact .cons (k _ _ r) ih
theorem Each.append {vs us : List Value} {as bs : List α} (h : Each R vs as) (g : Each R us bs) : Each R (vs ++ us) (as ++ bs) := by
  induction h with
  | nil => exact g
  | cons r _ ih => exact .cons r ih
end
theorem strs_append {vs us : List Value} {ys zs : List Str} (h : StrsAre vs ys) (g : StrsAre us zs) : StrsAre (vs ++ us) (ys ++ zs) := by
  induction h with
  | nil => exact g
  | cons y t _ ih => exact .cons y t ih
theorem strs_one (y : Str) (t : Tok) : StrsAre [.str y t] [y] := .cons y t .nil
theorem strs_set_last {vs : List Value} {ys : List Str} (h : StrsAre vs ys) (x : Str) (t : Tok) : StrsAre (vs.set (vs.length - 1) (.str x t)) (ys.set (ys.length - 1) x) := by
  induction h with
  | nil => exact .nil
  | cons y u hr ih =>
    cases hr with
    | nil => exact .cons x t .nil
    | cons y' u' hr' => exact .cons y u ih
noncomputable def RunV (n : Led) (v : Value) (r : Str × Str) : Prop := ∃ a t u k, v = .ref a ∧ (a, tobj [.str r.1 t, .str r.2 u] k) ∈ n
noncomputable def TripV (n : Led) (v : Value) (r : Str × Int × Str) : Prop := ∃ a t u t' k, v = .ref a ∧ (a, tobj [.str r.1 t, .int r.2.1 u, .str r.2.2 t'] k) ∈ n
noncomputable def StrsV (n : Led) (v : Value) (ys : List Str) : Prop := ∃ a its k, v = .ref a ∧ (a, lobj its k) ∈ n ∧ StrsAre its ys
noncomputable def PairV (n : Led) (v : Value) (p : List Str × Int) : Prop := ∃ a l t k, v = .ref a ∧ (a, tobj [l, .int p.2 t] k) ∈ n ∧ StrsV n l p.1
theorem RunV.mono {n n' : Led} (h : ∀ p ∈ n, p ∈ n') {v : Value} {r : Str × Str} : RunV n v r → RunV n' v r := fun ⟨a, t, u, k, e, hm⟩ => ⟨a, t, u, k, e, h _ hm⟩
theorem TripV.mono {n n' : Led} (h : ∀ p ∈ n, p ∈ n') {v : Value} {r : Str × Int × Str} : TripV n v r → TripV n' v r := fun ⟨a, t, u, t', k, e, hm⟩ => ⟨a, t, u, t', k, e, h _ hm⟩
theorem StrsV.mono {n n' : Led} (h : ∀ p ∈ n, p ∈ n') {v : Value} {r : List Str} : StrsV n v r → StrsV n' v r := fun ⟨a, t, u, e, hm, hs⟩ => ⟨a, t, u, e, h _ hm, hs⟩
theorem PairV.mono {n n' : Led} (h : ∀ p ∈ n, p ∈ n') {v : Value} {r : List Str × Int} : PairV n v r → PairV n' v r := fun ⟨a, l, t, k, e, hm, hs⟩ => ⟨a, l, t, k, e, h _ hm, hs.mono h⟩
section
variable {α β : Type} {lv : Nat} {ev : Env} {ns : List Str} {gs : List (Str × Value)} {c : Fx w lv ev ns gs} {vs : Vs} {n : Led} {h : Heap} {tk : Nat} {E : Value → Shared → Prop} {env : Env} {Q : Value → Vs → Led → Prop}
theorem WP.list_str {value slice : PySem.Expr} {l : Addr} {its : List Value} {k : Nat} {i : Int} {u : Tok} {ys : List Str} (hm : (l, lobj its k) ∈ n) (hi : StrsAre its ys) (h0 : 0 ≤ i) (h1 : i.toNat < ys.length) (hz : ys.length ≤ 2 ^ 62) (hQ : ∀ t, Q (.str (ys.getD i.toNat Str.empty) t) vs n)
    (hs : subscripted slice false (.ref l) (.int i u) = operate [.ref l, .int i u] (getItem (.ref l) (.int i u)) := by with_unfolding_all rfl) : WP w lv ev ns gs vs n (subscriptTail value slice (.ref l) (.int i u)) Q := by
  obtain ⟨t, ht⟩ := hi.at (j := i.toNat) (y := ys.getD i.toNat Str.empty) (by rw [List.getD_eq_getElem?_getD, List.getElem?_eq_getElem h1]; rfl)
  exact WP.list_item hm h0 (by omega) ht (hQ t) hs
theorem ints_at : ∀ {vs : List Value} {ys : List Int}, IntsAre vs ys → ∀ {j : Nat} {y : Int}, ys[j]? = some y → ∃ t, vs[j]? = some (.int y t)
  | _, _, .nil, j, y, e => by simp at e
  | _, _, .cons n t h, 0, y, e => ⟨t, by simp at e; subst e; rfl⟩
  | _, _, .cons n t h, j + 1, y, e => by simpa using ints_at h (j := j) (by simpa using e)
theorem ints_len : ∀ {vs : List Value} {ys : List Int}, IntsAre vs ys → vs.length = ys.length
  | _, _, .nil => rfl
  | _, _, .cons n t h => by simp [ints_len h]
theorem WP.list_int {value slice : PySem.Expr} {l : Addr} {its : List Value} {k : Nat} {i : Int} {u : Tok} {ys : List Int} (hm : (l, lobj its k) ∈ n) (hi : IntsAre its ys) (h0 : 0 ≤ i) (h1 : i.toNat < ys.length) (hz : ys.length ≤ 2 ^ 62) (hQ : ∀ t, Q (.int (ys.getD i.toNat 0) t) vs n)
    (hs : subscripted slice false (.ref l) (.int i u) = operate [.ref l, .int i u] (getItem (.ref l) (.int i u)) := by with_unfolding_all rfl) : WP w lv ev ns gs vs n (subscriptTail value slice (.ref l) (.int i u)) Q := by
  obtain ⟨t, ht⟩ := ints_at hi (j := i.toNat) (y := ys.getD i.toNat 0) (by rw [List.getD_eq_getElem?_getD, List.getElem?_eq_getElem h1]; rfl)
  exact WP.list_item hm h0 (by omega) ht (hQ t) hs
theorem WP.meet {t : Sem Flow} {K : Vs → Led → Prop} {Q : Flow → Vs → Led → Prop} (J : Vs → Led → Prop) (H : WP w lv ev ns gs vs n t (Then J Q)) (k : ∀ vs n, J vs n → K vs n) : WP w lv ev ns gs vs n t (Then K Q) :=
  H.mono fun f vs n q => by cases f <;> first | exact k _ _ q | exact q
theorem WP.test {t : Sem Bool} {Q : Bool → Vs → Led → Prop} (P : Prop) (H : WP w lv ev ns gs vs n t fun b vs' n' => vs' = vs ∧ n' = n ∧ (b = true ↔ P)) (h1 : P → Q true vs n) (h2 : ¬ P → Q false vs n) : WP w lv ev ns gs vs n t Q :=
  H.mono fun b vs' n' q => by
    obtain ⟨rfl, rfl, hb⟩ := q
    cases b with
    | true => exact h1 (hb.mp rfl)
    | false => exact h2 fun hp => nomatch hb.mpr hp
theorem fmod_nat (a b : Nat) : ((a : Int).fmod (b : Int)) = ((a % b : Nat) : Int) := by
  rw [Int.fmod_eq_emod_of_nonneg _ (Int.natCast_nonneg _)]; rfl
theorem fdiv_nat (a b : Nat) : ((a : Int).fdiv (b : Int)) = ((a / b : Nat) : Int) := by
  rw [Int.fdiv_eq_ediv_of_nonneg _ (Int.natCast_nonneg _)]; rfl
theorem WP.mod_nat {a b : Nat} {bi : Int} {t u : Tok} (e : bi = (b : Int)) (hb : b ≠ 0) (hQ : ∀ t, Q (.int ((a % b : Nat) : Int) t) vs n) : WP w lv ev ns gs vs n (binaryOp .Mod (.int (a : Int) t) (.int bi u)) Q := by
  subst e
  exact WP.mod_int (by omega) (by rw [fmod_nat]; exact hQ)
theorem WP.div_nat {a b : Nat} {bi : Int} {t u : Tok} (e : bi = (b : Int)) (hb : b ≠ 0) (hz : b < 1073741824) (hQ : ∀ t, Q (.int ((a / b : Nat) : Int) t) vs n) : WP w lv ev ns gs vs n (binaryOp .FloorDiv (.int (a : Int) t) (.int bi u)) Q := by
  subst e
  exact WP.div_int (by omega) (PyProof.noPylong_small (by omega)) (by rw [fdiv_nat]; exact hQ)
/- lists of dict keys, sums, equal lists -/
theorem WP.list_keys {d : Addr} {o : Obj} {t : Tab} (hm : (d, o) ∈ n) (ht : IsTab w d o t) (hz : t.length ≤ 16777216) (hQ : ∀ B its k, StrsAre its (t.map (·.1)) → Q (.ref B) vs ((B, lobj its k) :: n)) : WP w lv ev ns gs vs n (call (.type "list") [.ref d]) Q :=
  WP.mk fun c E h tk I => by
    obtain ⟨lo, kvs, hD, hf⟩ := I.tab hm ht
    obtain ⟨ep, hat⟩ := hD.dictAt
    have hl : kvs.length = t.length := tab_shape hf
    refine kdl_call (s := At c h tk) (kdl_dict (knd := PySem.strKind PR w) (kvs := kvs) (ep := ep) lo) c.hand hat (by rw [sizeLine_eq, hl]; exact hz) fun h' tk' acc' c' hk hD' hacc => ?_
    have hs : StrsAre acc'.toList (t.map (·.1)) := by
      have key : ∀ (us : List Value) (ys : List Str), us.length = ys.length → (∀ (j : Nat) (v : Value), us[j]? = some v → ∃ y tt, ys[j]? = some y ∧ v = .str y tt) → StrsAre us ys := by
        intro us
        induction us with
        | nil => intro ys e _; cases ys with
          | nil => exact .nil
          | cons _ _ => simp at e
        | cons u r ih => intro ys e hv; cases ys with
          | nil => simp at e
          | cons y ys =>
            obtain ⟨y', tt, e1, e2⟩ := hv 0 u rfl
            simp at e1; subst e1; subst e2
            exact .cons y tt (ih ys (by simpa using e) fun j v hj => by simpa using hv (j + 1) v (by simpa using hj))
      refine key _ _ (by rw [Array.length_toList, List.length_map]; exact hacc.1.trans hl) fun j v e => ?_
      obtain ⟨k, x, e1, e2⟩ := hacc.2 j v (by rw [← Array.getElem?_toList]; exact e)
      obtain ⟨tt, rfl⟩ := Value.isStrOf_shape e2
      obtain ⟨dv, hd, _⟩ := hf.at e1
      rw [kdpD, List.getElem?_map] at hd
      cases hq : t[j]? with
      | none => rw [hq] at hd; simp at hd
      | some q =>
        rw [hq] at hd
        simp at hd
        refine ⟨k, tt, ?_, rfl⟩
        rw [List.getElem?_map, hq]
        simp [hd.1]
    have hD2 : h'.get? h.objs.size = some (lobj acc'.toList c') := by
      have e : acc'.toList.toArray = acc' := Array.toArray_toList
      rw [lobj, e]; exact hD'
    exact Post.ok (h := h') (tk := tk') ⟨I.1.keeps hk, news_pushed I.1 I.2.1 hk hD2 rfl, I.ok⟩ (hQ _ _ _ hs)
theorem WP.sum_ints {l : Addr} {its : List Value} {k : Nat} {ys : List Int} (hm : (l, lobj its k) ∈ n) (hi : IntsAre its ys) (hQ : ∀ t, Q (.int ys.sum t) vs n) : WP w lv ev ns gs vs n (call (.builtin "sum") [.ref l]) Q :=
  WP.mk fun c E h tk I => PyProof.Rows.LSm.sum_ints (s := At c h tk) I.1 I.2.1 c.hand (I.list hm) hi fun h' tk' t' F N => Post.ok (h := h') (tk := tk') ⟨F, N, I.2.2⟩ (hQ t')
theorem WP.eq_ints {a b : Addr} {xs ys : List Value} {k j : Nat} {ms ks : List Int} (ha : (a, lobj xs k) ∈ n) (hb : (b, lobj ys j) ∈ n) (hi : IntsAre xs ms) (hj : IntsAre ys ks) (hQ : Q (.bool (decide (ms = ks))) vs n) : WP w lv ev ns gs vs n (compareOp .Eq (.ref a) (.ref b)) Q :=
  WP.mk fun c E h tk I => ke_eq_ints (s := At c h tk) (I.list ha) (I.list hb) hi hj (by have := c.units; omega) (Post.ok I hQ)
end
end Mine
end
section
open PySem PySem.W PyProof.Rows PySem.Calls PyProof.V
namespace Mine
variable {w : World}
section
variable {α β : Type} {lv : Nat} {ev : Env} {ns : List Str} {gs : List (Str × Value)} {c : Fx w lv ev ns gs} {vs : Vs} {n : Led} {h : Heap} {tk : Nat} {E : Value → Shared → Prop} {env : Env} {Q : Value → Vs → Led → Prop}
/-- a ledger taken out of another, in any order -/
noncomputable def Sub2 (a b : Led) : Prop := ∃ l : Led, l.Perm a ∧ l.Sublist b
theorem Sub2.of {a b : Led} (h : a.Sublist b) : Sub2 a b := ⟨a, .refl _, h⟩
theorem Sub2.refl (a : Led) : Sub2 a a := .of (List.Sublist.refl _)
theorem Sub2.mid {x : Addr × Obj} {a a' b b' : Led} (h1 : a'.Sublist a) (h2 : b'.Sublist b) : Sub2 (x :: (a' ++ b')) (a ++ x :: b) := ⟨a' ++ x :: b', List.perm_middle, h1.append (h2.cons_cons _)⟩
theorem Inv.sub2 {n' : Led} (I : Inv c vs n h) (hs : Sub2 n' n) : Inv c vs n' h := by
  obtain ⟨l, hp, hs⟩ := hs
  have I' := I.sub hs
  refine ⟨I'.1, fun p q => I'.2.1 p ?_, ⟨?_⟩⟩
  · rcases List.mem_append.mp q with q | q
    · exact List.mem_append_left _ (hp.mem_iff.mpr q)
    · exact List.mem_append_right _ q
  · exact ((hp.append_right c.hid).map (·.1)).nodup I'.2.2.nd
/- names in a comprehension -/
section
variable {x : Str} {pos : Pos} {v : Value} {C : Addr} {oC : Obj} {m₂ : Str → Option Value} {scope : Scope} {cl : List (Str × Addr)}
theorem WP.cvar (hm : (C, oC) ∈ n) (ho : LCg.NsObj oC m₂) (hv : m₂ x = some v) (hQ : Q v vs n) (hk : scope.kind = .function := by with_unfolding_all rfl) (hx : scope.names.lookup x = some .local := by with_unfolding_all rfl) (hb : (x == ("__debug__" : Str)) = false := by decide) :
    WP w lv ev ns gs vs n (eval (.Name x pos) (compEnvC scope cl C env)) Q :=
  WP.mk fun c E h tk I => wpAny_Name (wpAny_loadName_local (env := compEnvC scope cl C env) hk (lookup_relabel_local hx) (ho.ns (I.get hm)) hv (Post.ok I hQ)) hb
theorem WP.ccell {cc : Addr} {o : Obj} (hc : cl.lookup x = some cc) (hm : (cc, o) ∈ n) (hd : o.data = .cell (some v)) (hQ : Q v vs n)
    (hk : (compEnvC scope cl C env).scope.kind = .function := by with_unfolding_all rfl) (hx : (compEnvC scope cl C env).kindOf x = some .cell := by with_unfolding_all rfl) (hb : (x == ("__debug__" : Str)) = false := by decide) :
    WP w lv ev ns gs vs n (eval (.Name x pos) (compEnvC scope cl C env)) Q := WP.mk fun c E h tk I => lcf_cell I.2.1 hc (List.mem_append_left _ hm) hd (Post.ok I hQ) hk hx hb
theorem WP.cglob (l : (x, v) ∈ gs) (hQ : Q v vs n) (hk : (compEnvC scope cl C ev).scope.kind = .function := by with_unfolding_all rfl) (hx : (compEnvC scope cl C ev).kindOf x = some .globalImplicit := by with_unfolding_all rfl) :
    WP w lv ev ns gs vs n (eval (.Name x pos) (compEnvC scope cl C ev)) Q := by
  refine ⟨fun c E hp tk I => ?_⟩
  obtain ⟨h1, h2, h3⟩ := c.glb _ l
  refine Calls.Name_function_global hk hx ?_ h2
  have hg : hp.Ns (compEnvC scope cl C ev).globals c.mg := by show hp.Ns ev.globals _; exact c.eg ▸ (c.T.g.keeps I.1.keep)
  rcases h3 with h3 | ⟨h3, h4⟩
  · exact Calls.loadGlobal_global hg h3 (Post.ok I hQ)
  · exact Calls.loadGlobal_builtin hg h3 (by show hp.Ns ev.builtins _; exact c.eb ▸ (c.T.b.keeps I.1.keep)) h4 (Post.ok I hQ)
end
/- the loop of a comprehension -/
section
variable {elt iter : PySem.Expr} {x : Str} {px : Pos} {scope : Scope} {cl : List (Str × Addr)} {pos : Pos}
theorem off3_of {I C D : Addr} {l : Led} (h : ∀ p ∈ l, p.1 ≠ I ∧ p.1 ≠ C ∧ p.1 ≠ D) : LCg.Off3 I C D l := LCg.Off3.of h
theorem comp_rest {S : Led → Prop} {P : Nat → Value → Prop} {Fin : List Value → Led → Prop} {s₂ : Shared} {h₂ : Heap} {t₂ : Nat} (hs2 : s₂ = At c h₂ t₂) (J : Nat → List Value → Led → Prop) (N : Nat)
    (hS : ∀ i ys n, J i ys n → S (n ++ c.hid))
    (turn : ∀ i v ys n C oC m₂, i < N → P i v → J i ys n → LCg.NsObj oC m₂ → m₂ x = some v →
      WP w lv ev ns gs vs ((C, oC) :: n) (eval elt (compEnvC scope cl C ev)) fun y vs' n' => vs' = vs ∧ ∃ n'', Sub2 ((C, oC) :: n'') n' ∧ J (i + 1) (ys ++ [y]) n'')
    (fin : ∀ ys n, J N ys n → Ok n c.hid → Fin ys (n ++ c.hid)) :
    ∀ (k i : Nat) (ys : List Value) (n : Led), i + k = N → J i ys n → Ok n c.hid → LCg.CompRest PR w c.A c.h₀ ev.locals (lkm ns vs) ev elt x scope cl s₂ S P Fin k i ys (n ++ c.hid) := by
  intro k
  induction k with
  | zero =>
    intro i ys n e hj ok
    have : i = N := by omega
    subst this
    exact LCg.CompRest.zero (fin ys n hj ok)
  | succ k ih =>
    intro i ys n e hj ok
    refine LCg.CompRest.succ fun v I oI C oC D m₂ h tk E' hv ho hx F N' off hne => ?_
    subst hs2
    let c' := c.hide [(I, oI), (D, LCg.lst ys)]
    have om := off.mem
    have ok' : Ok ((C, oC) :: n) c'.hid := by
      refine ⟨?_⟩
      have nd := ok.nd
      show (((C, oC) :: n ++ ([(I, oI), (D, LCg.lst ys)] ++ c.hid)).map (·.1)).Nodup
      rw [List.map_append] at nd
      rw [List.nodup_append] at nd
      obtain ⟨n1, n2, n3⟩ := nd
      simp only [List.map_append, List.map_cons, List.map_nil, List.cons_append, List.nil_append, List.nodup_cons, List.mem_append, List.mem_cons, List.mem_map]
      refine ⟨?_, ?_⟩
      · rintro (⟨p, hp, e⟩ | e | e | ⟨p, hp, e⟩)
        · exact (om p (List.mem_append_left _ hp)).2.1 e
        · exact hne.1 e.symm
        · exact hne.2.2 e
        · exact (om p (List.mem_append_right _ hp)).2.1 e
      · rw [List.nodup_append]
        refine ⟨n1, ?_, ?_⟩
        · simp only [List.nodup_cons, List.mem_cons, List.mem_map]
          refine ⟨?_, ?_, n2⟩
          · rintro (e | ⟨p, hp, e⟩)
            · exact hne.2.1 e
            · exact (om p (List.mem_append_right _ hp)).1 e
          · rintro ⟨p, hp, e⟩
            exact (om p (List.mem_append_right _ hp)).2.2 e
        · intro a ha b hb e
          obtain ⟨p, hp, rfl⟩ := List.mem_map.mp ha
          simp only [List.mem_cons] at hb
          rcases hb with rfl | rfl | hb
          · exact (om p (List.mem_append_left _ hp)).1 e
          · exact (om p (List.mem_append_left _ hp)).2.2 e
          · exact n3 p.1 (List.mem_map_of_mem hp) b hb e
    have I' : Inv c' vs ((C, oC) :: n) h := by
      refine ⟨F, fun p hp => N' p ?_, ok'⟩
      have hp' : p ∈ (C, oC) :: n ++ ([(I, oI), (D, LCg.lst ys)] ++ c.hid) := hp
      simp only [List.mem_append, List.mem_cons, List.cons_append, List.not_mem_nil, or_false, List.nil_append] at hp' ⊢
      rcases hp' with h | h | h | h | h
      · exact .inr (.inl h)
      · exact .inr (.inr (.inr (.inl h)))
      · exact .inl h
      · exact .inr (.inr (.inl h))
      · exact .inr (.inr (.inr (.inr h)))
    refine (turn i v ys n C oC m₂ (by omega) hv hj ho hx).to (c := c') I' fun y h' tk' vs' n' I'' q => ?_
    obtain ⟨rfl, n'', hsub, hj'⟩ := q
    have I3 := I''.sub2 hsub
    have nd := I3.2.2.nd
    have ok3 : Ok n'' c.hid := ⟨by
      have : (n'' ++ c.hid).Sublist ((C, oC) :: n'' ++ c'.hid) := (List.sublist_cons_self _ _).append (List.sublist_append_right _ _)
      exact (this.map _).nodup nd⟩
    refine LCg.CompEnd.intro (tk := tk') I3.1 I3.2.1 (n'' ++ c.hid) (fun p hp => ?_) (off3_of fun p hp => ?_) (hS _ _ _ hj') (ih (i + 1) (ys ++ [y]) n'' (by omega) hj' ok3)
    · show p ∈ (C, oC) :: n'' ++ ([(I, oI), (D, LCg.lst ys)] ++ c.hid)
      simp only [List.mem_append, List.mem_cons, List.cons_append, List.not_mem_nil, or_false, List.nil_append] at hp ⊢
      rcases hp with h | h | h | h | h
      · exact .inr (.inr (.inl h))
      · exact .inl h
      · exact .inr (.inr (.inr (.inl h)))
      · exact .inr (.inl h)
      · exact .inr (.inr (.inr (.inr h)))
    · have nd' : (((C, oC) :: n'' ++ ([(I, oI), (D, LCg.lst ys)] ++ c.hid)).map (·.1)).Nodup := nd
      simp only [List.map_append, List.map_cons, List.map_nil, List.cons_append, List.nil_append, List.nodup_cons, List.mem_append, List.mem_cons, List.mem_map] at nd'
      obtain ⟨a1, a2⟩ := nd'
      rw [List.nodup_append] at a2
      obtain ⟨b1, b2, b3⟩ := a2
      simp only [List.nodup_cons, List.mem_cons, List.mem_map] at b2
      obtain ⟨d1, d2, d3⟩ := b2
      rcases List.mem_append.mp hp with hp | hp
      · refine ⟨fun e => b3 p.1 (List.mem_map_of_mem hp) I (by simp) e, fun e => a1 (.inl ⟨p, hp, e⟩), fun e => b3 p.1 (List.mem_map_of_mem hp) D (by simp) e⟩
      · refine ⟨fun e => d1 (.inr ⟨p, hp, e⟩), fun e => a1 (.inr (.inr (.inr ⟨p, hp, e⟩))), fun e => d2 ⟨p, hp, e⟩⟩
noncomputable abbrev Turn (w : World) (lv : Nat) (ev : Env) (ns : List Str) (gs : List (Str × Value)) (vs : Vs) (elt : PySem.Expr) (x : Str) (scope : Scope) (cl : List (Str × Addr)) (P : Nat → Value → Prop) (J : Nat → List Value → Led → Prop) : Prop :=
  ∀ i v ys n C oC m₂, P i v → J i ys n → LCg.NsObj oC m₂ → m₂ x = some v →
    WP w lv ev ns gs vs ((C, oC) :: n) (eval elt (compEnvC scope cl C ev)) fun y vs' n' => vs' = vs ∧ ∃ n'', Sub2 ((C, oC) :: n'') n' ∧ J (i + 1) (ys ++ [y]) n''
noncomputable def CompL (w : World) (lv : Nat) (ev : Env) (ns : List Str) (gs : List (Str × Value)) (vs : Vs) (elt : PySem.Expr) (x : Str) (scope : Scope) (cl : List (Str × Addr)) (K : List Value → Led → Prop) (v : Value) (vs' : Vs) (n : Led) : Prop :=
  vs' = vs ∧ ∃ (l : Addr) (its : List Value) (k : Nat) (J : Nat → List Value → Led → Prop), v = .ref l ∧ its.length ≤ sizeLine ∧ J 0 [] n ∧ (∀ i ys n, J i ys n → (l, lobj its k) ∈ n) ∧ Turn w lv ev ns gs vs elt x scope cl (fun i v => its[i]? = some v) J ∧ ∀ ys n, J its.length ys n → K ys n
noncomputable def CompR (w : World) (lv : Nat) (ev : Env) (ns : List Str) (gs : List (Str × Value)) (vs : Vs) (elt : PySem.Expr) (x : Str) (scope : Scope) (cl : List (Str × Addr)) (K : List Value → Led → Prop) (v : Value) (vs' : Vs) (n : Led) : Prop :=
  vs' = vs ∧ ∃ (r : Addr) (m : Nat) (t1 t2 t3 : Tok) (J : Nat → List Value → Led → Prop), v = .ref r ∧ m ≤ sizeLine ∧ (r, ({ cls := .type "range", data := .fields #[.int 0 t1, .int (m : Int) t2, .int 1 t3] } : Obj)) ∈ n ∧ J 0 [] n ∧ Turn w lv ev ns gs vs elt x scope cl (fun i v => i < m ∧ ∃ t, v = .int (i : Int) t) J ∧ ∀ ys n, J m ys n → K ys n
noncomputable def CompD (w : World) (lv : Nat) (ev : Env) (ns : List Str) (gs : List (Str × Value)) (vs : Vs) (elt : PySem.Expr) (x : Str) (scope : Scope) (cl : List (Str × Addr)) (K : List Value → Led → Prop) (v : Value) (vs' : Vs) (n : Led) : Prop :=
  vs' = vs ∧ ∃ (d : Addr) (od : Obj) (t : Tab) (J : Nat → List Value → Led → Prop), v = .ref d ∧ t.length ≤ sizeLine ∧ IsTab w d od t ∧ J 0 [] n ∧ (∀ i ys n, J i ys n → (d, od) ∈ n) ∧ Turn w lv ev ns gs vs elt x scope cl (fun i v => ∃ k y t', t[i]? = some (k, y) ∧ v = .str k t') J ∧ ∀ ys n, J t.length ys n → K ys n
theorem compL_src {K : List Value → Led → Prop} {v : Value} {Fin : Shared → List Value → Led → Prop} (H : CompL w lv ev ns gs vs elt x scope cl K v vs n) (I : Inv c vs n h)
    (fin : ∀ g ys n, K ys n → Ok n c.hid → Fin (At c g tk) ys (n ++ c.hid)) : LCg.CompSrc PR w c.A c.h₀ ev.locals (lkm ns vs) ev elt x scope cl Fin v (At c h tk) := by
  obtain ⟨_, l, its, k, J, rfl, hz, hj, hJ, turn, done⟩ := H
  refine LCg.CompSrc.ledger (s₁ := At c h tk) (k := k) (its := its.toArray) c.hand I.1 I.2.1 (List.mem_append_left _ (hJ _ _ _ hj)) (by simpa using hz) fun g => ?_
  have R := comp_rest (c := c) (S := LCg.SrcAt c.h₀ l its.toArray) (P := fun i v => its.toArray[i]? = some v) (Fin := Fin (At c g tk)) (s₂ := At c g tk) rfl J its.length
    (fun i ys n hj => .inr ⟨_, List.mem_append_left _ (hJ _ _ _ hj), rfl, k, rfl⟩) (fun i v ys n C oC m₂ _ hv => turn i v ys n C oC m₂ (by simpa using hv)) (fun ys n hj ok => fin g ys n (done ys n hj) ok) its.length 0 [] n (by omega) hj I.2.2
  exact R
theorem compR_src {K : List Value → Led → Prop} {v : Value} {Fin : Shared → List Value → Led → Prop} (H : CompR w lv ev ns gs vs elt x scope cl K v vs n) (I : Inv c vs n h)
    (fin : ∀ g ys n, K ys n → Ok n c.hid → Fin (At c g tk) ys (n ++ c.hid)) : LCg.CompSrc PR w c.A c.h₀ ev.locals (lkm ns vs) ev elt x scope cl Fin v (At c h tk) := by
  obtain ⟨_, r, m, t1, t2, t3, J, rfl, hz, hr, hj, turn, done⟩ := H
  have hz' : m ≤ 16777216 := by rw [sizeLine_eq] at hz; exact hz
  refine LCg.CompSrc.range (s₁ := At c h tk) (a := 0) (b := (m : Int)) (t := t1) (u := t2) (v := t3) (n := m) c.hand I.1 I.2.1 (I.get hr) (small_one (by decide) (by decide) (by omega) (by omega)) (by rw [PyProof.Rows.rangeSize_nat]; simp) hz fun g => ?_
  exact comp_rest (c := c) (S := fun _ => True) (P := fun i v => ∃ t, v = .int (0 + (i : Int)) t) (Fin := Fin (At c g tk)) (s₂ := At c g tk) rfl J m
    (fun i ys n hj => trivial) (fun i v ys n C oC m₂ hi hv => turn i v ys n C oC m₂ ⟨hi, by simpa using hv⟩) (fun ys n hj ok => fin g ys n (done ys n hj) ok) m 0 [] n (by omega) hj I.2.2
theorem fin_eval {g : Heap} {ys : List Value} {Q : Value → Vs → Led → Prop} (H : ∀ D, Q (.ref D) vs ((D, lobj ys ys.length) :: n)) (ok : Ok n c.hid) : LCg.FinE c.h₀ ev.locals (lkm ns vs) (At c g tk) (Post c Q) ys (n ++ c.hid) := by
  intro D h' tk' F N off
  refine Post.ok (h := h') (tk := tk') ⟨F, N, ⟨?_⟩⟩ (H D)
  rw [List.cons_append, List.map_cons]
  refine List.nodup_cons.mpr ⟨fun hm => ?_, ok.nd⟩
  obtain ⟨q, hq, e⟩ := List.mem_map.mp hm
  have om : ∀ {l : Led}, LCg.Off1 D l → ∀ p ∈ l, p.1 ≠ D := by
    intro l
    induction l with
    | nil => intro _ p hp; cases hp
    | cons a l ih => intro o p hp; rcases List.mem_cons.mp hp with rfl | hp; exact o.1; exact ih o.2 p hp
  exact om off q hq e
theorem fin_assign {g : Heap} {ys : List Value} {y : Str} {Q : Flow → Vs → Led → Prop} (H : ∀ D, ∃ vs', St ns vs y (.ref D) vs' ∧ Q .next vs' ((D, lobj ys ys.length) :: n)) (ok : Ok n c.hid) : LCg.FinA c.h₀ ev.locals (lkm ns vs) (At c g tk) y (Post c Q) ys (n ++ c.hid) := by
  intro D h' tk' F N off
  obtain ⟨vs', s, q⟩ := H D
  rw [s.at c.nd] at F
  refine Post.ok (h := h') (tk := tk') ⟨F, N, ⟨?_⟩⟩ q
  rw [List.cons_append, List.map_cons]
  refine List.nodup_cons.mpr ⟨fun hm => ?_, ok.nd⟩
  obtain ⟨q, hq, e⟩ := List.mem_map.mp hm
  have om : ∀ {l : Led}, LCg.Off1 D l → ∀ p ∈ l, p.1 ≠ D := by
    intro l
    induction l with
    | nil => intro _ p hp; cases hp
    | cons a l ih => intro o p hp; rcases List.mem_cons.mp hp with rfl | hp; exact o.1; exact ih o.2 p hp
  exact om off q hq e
theorem WP.comp_list (H : WP w lv ev ns gs vs n (eval iter ev) (CompL w lv ev ns gs vs elt x scope cl fun ys n => ∀ D, Q (.ref D) vs ((D, lobj ys ys.length) :: n)))
    (hclos : closureFor scope ev = Pure.pure cl) (hcell : ∀ y ∈ scope.names, y.2 ≠ .cell) (hkind : scope.kind = .function) (hnames : ∀ y ∈ scope.names, y.2 = .local → scope.names.lookup y.1 = some .local) (hx : scope.names.lookup x = some .local)
    (hs : ∀ x, foldedSetIterable iter ev x = Pure.pure x := by intro _; with_unfolding_all rfl) : WP w lv ev ns gs vs n (eval (.ListComp elt [⟨.Name x px, iter, [], 0⟩] scope pos) ev) Q :=
  WP.mk fun c E h tk I => LCg.ListComp_U I.1 hclos hcell hkind hnames hx (H.to I fun v h' tk' vs' n' I' q => by
    have e := q.1; subst e
    exact compL_src q I' fun g ys n k ok => fin_eval k ok) hs
theorem WP.comp_range (H : WP w lv ev ns gs vs n (eval iter ev) (CompR w lv ev ns gs vs elt x scope cl fun ys n => ∀ D, Q (.ref D) vs ((D, lobj ys ys.length) :: n)))
    (hclos : closureFor scope ev = Pure.pure cl) (hcell : ∀ y ∈ scope.names, y.2 ≠ .cell) (hkind : scope.kind = .function) (hnames : ∀ y ∈ scope.names, y.2 = .local → scope.names.lookup y.1 = some .local) (hx : scope.names.lookup x = some .local)
    (hs : ∀ x, foldedSetIterable iter ev x = Pure.pure x := by intro _; with_unfolding_all rfl) : WP w lv ev ns gs vs n (eval (.ListComp elt [⟨.Name x px, iter, [], 0⟩] scope pos) ev) Q :=
  WP.mk fun c E h tk I => LCg.ListComp_U I.1 hclos hcell hkind hnames hx (H.to I fun v h' tk' vs' n' I' q => by
    have e := q.1; subst e
    exact compR_src q I' fun g ys n k ok => fin_eval k ok) hs
theorem WP.assign_comp {y : Str} {py spos : Pos} {Q : Flow → Vs → Led → Prop} (H : WP w lv ev ns gs vs n (eval iter ev) (CompL w lv ev ns gs vs elt x scope cl fun ys n => ∀ D, ∃ vs', St ns vs y (.ref D) vs' ∧ Q .next vs' ((D, lobj ys ys.length) :: n)))
    (hy : y ∈ ns) (hsw : swapsWith (.ListComp elt [⟨.Name x px, iter, [], 0⟩] scope pos) (some (.Name y py)) spos.line ev = Pure.pure true)
    (hclos : closureFor scope ev = Pure.pure cl) (hcell : ∀ y ∈ scope.names, y.2 ≠ .cell) (hkind : scope.kind = .function) (hnames : ∀ y ∈ scope.names, y.2 = .local → scope.names.lookup y.1 = some .local) (hx : scope.names.lookup x = some .local)
    (hs : ∀ x, foldedSetIterable iter ev x = Pure.pure x := by intro _; with_unfolding_all rfl) : WP w lv ev ns gs vs n (exec (.Assign [.Name y py] (.ListComp elt [⟨.Name x px, iter, [], 0⟩] scope pos) spos) ev) Q :=
  WP.mk fun c E h tk I => LCg.Assign_ListComp_U I.1 rfl hsw hclos hcell hkind hnames hx (c.loc y hy).1 (by rw [c.kind]; rfl) (H.to I fun v h' tk' vs' n' I' q => by
    have e := q.1; subst e
    exact compL_src q I' fun g ys n k ok => fin_assign k ok) hs
theorem dictAt_of {knd : KeyKind PR w Str} {h h' : Heap} {d : Addr} {kvs : List (Str × Value)} {ep : Nat} {od : Obj} (hat : h.DictAt knd d kvs ep) (e : h.get? d = some od) (e' : h'.get? d = some od) : h'.DictAt knd d kvs ep := by
  obtain ⟨o, es, ho, r⟩ := hat
  rw [e] at ho; cases ho
  exact ⟨od, es, e', r⟩
theorem WP.comp_dict (H : WP w lv ev ns gs vs n (eval iter ev) (CompD w lv ev ns gs vs elt x scope cl fun ys n => ∀ D, Q (.ref D) vs ((D, lobj ys ys.length) :: n)))
    (hclos : closureFor scope ev = Pure.pure cl) (hcell : ∀ y ∈ scope.names, y.2 ≠ .cell) (hkind : scope.kind = .function) (hnames : ∀ y ∈ scope.names, y.2 = .local → scope.names.lookup y.1 = some .local) (hx : scope.names.lookup x = some .local)
    (hs : ∀ x, foldedSetIterable iter ev x = Pure.pure x := by intro _; with_unfolding_all rfl) : WP w lv ev ns gs vs n (eval (.ListComp elt [⟨.Name x px, iter, [], 0⟩] scope pos) ev) Q := by
  refine WP.mk fun c E h tk I => ?_
  rw [eval_ListComp]
  refine wpAny_comprehension_free (use := none) rfl hs hclos hkind hnames (H.to I fun v h' tk' vs' n' I' q => ?_)
  obtain ⟨rfl, d, od, t, J, rfl, hz, ht, hj, hJ, turn, done⟩ := q
  have hm := hJ _ _ _ hj
  have hget := I'.get hm
  obtain ⟨lo, kvs, hD, hf⟩ := I'.tab hm ht
  obtain ⟨ep, hat⟩ := hD.dictAt
  have hl : kvs.length = t.length := tab_shape hf
  have hlt : d < h'.objs.size := hat.lt_size
  refine wpAny_pyIter_dict (s := At c h' tk') lo hat ?_
  have up : ∀ b o, h'.get? b = some o → (h'.push { cls := .type "dict_keyiterator", data := .fields #[.ref d, .int 0 0, .int kvs.length 0, .int ep 0] }).get? b = some o := fun b o e => Heap.get?_push_of_some _ e
  refine LCg.block_U (m := lkm ns vs') (S := fun nw => (d, od) ∈ nw) (Fin := fun ys news => LCg.FinE c.h₀ ev.locals (lkm ns vs') (At c (h'.push { cls := .type "dict_keyiterator", data := .fields #[.ref d, .int 0 0, .int kvs.length 0, .int ep 0] }) tk') (Post c Q) ys news) (Walks.dictKeys (knd := PySem.strKind PR w) c.hand h'.objs.size d (Nat.ne_of_lt hlt) kvs ep) (by rw [hl]; exact hz) (fun i h st => by obtain ⟨o, e, _⟩ := st.1; exact ⟨o, e⟩) ?_ hcell hkind hx ⟨⟨_, Heap.get?_push_size _ rfl, rfl, rfl⟩, hat.push _⟩ ?_
    (I'.1.keeps up) (I'.2.1.grown up) (Nat.ne_of_lt I'.1.ns.lt) (next_is_new I'.1) (fun p hp => Nat.ne_of_lt (Heap.lt_size (I'.2.1 p hp).1)) (List.mem_append_left _ hm) ?_ ?_
  · intro i h1 h2 o nw st e e' k N hS
    have e2 := (N _ hS).1
    obtain ⟨⟨oi, q, r⟩, q2⟩ := st
    refine ⟨?_, ?_⟩
    · have e0 : h1.get? h'.objs.size = some o := e
      rw [e0] at q; cases q; exact ⟨o, e', r⟩
    · obtain ⟨o1, es, ho, hE, hdat, r⟩ := q2
      obtain ⟨o2, es2, ho2, hE2, hdat2, r2⟩ := hat
      rw [hget] at ho2
      cases ho2
      exact ⟨od, es2, e2, hE2, hdat2, r2⟩
  · intro b hb
    show b < (h'.push _).objs.size
    rw [Heap.size_push]
    rcases List.mem_cons.mp hb with rfl | hb
    · exact Nat.lt_succ_self _
    · rw [List.mem_singleton.mp hb]; exact Nat.lt_succ_of_lt hlt
  · refine comp_rest (c := c) (S := fun nw => (d, od) ∈ nw) (P := fun i v => ∃ k x, kvs[i]? = some (k, x) ∧ (PySem.strKind PR w).is k v = true) (s₂ := At c (h'.push { cls := .type "dict_keyiterator", data := .fields #[.ref d, .int 0 0, .int kvs.length 0, .int ep 0] }) tk') rfl J kvs.length (fun i ys n hj => List.mem_append_left _ (hJ _ _ _ hj)) (fun i v ys n C oC m₂ _ hv => turn i v ys n C oC m₂ ?_) (fun ys n hj ok => fin_eval (done ys n (hl ▸ hj)) ok) kvs.length 0 [] n' (by omega) hj I'.2.2
    obtain ⟨k, x, e1, e2⟩ := hv
    obtain ⟨tt, rfl⟩ := Value.isStrOf_shape e2
    obtain ⟨dv, hd, _⟩ := hf.at e1
    rw [kdpD, List.getElem?_map] at hd
    cases hq : t[i]? with
    | none => rw [hq] at hd; simp at hd
    | some q =>
      rw [hq] at hd
      simp at hd
      exact ⟨k, q.2, tt, by rw [← hd.1], rfl⟩
  · intro D C h1 tk1 m' ys news' F' N' o1 hn hC₀ hD₀ hCL hDL hCD offC fin
    refine ⟨m', hn, fun h'' hs'' => fin D h'' tk1 (F'.change hs'' hCL hC₀) (fun p hp => ?_) o1⟩
    refine ⟨hs''.extBut _ _ ?_ (N' p hp).1, (N' p hp).2⟩
    rcases List.mem_cons.mp hp with rfl | hp
    · exact Ne.symm hCD
    · exact offC p hp
end
end
end Mine
end
section
open PySem PySem.W PyProof.Rows PySem.Calls PyProof.V
namespace Mine
variable {w : World}
theorem cells_fst {cm : Str → Option Value} {cs : List (Str × Addr)} {cells : Led} (h : CellsAre cm cs cells) : cells.map (·.1) = cs.map (·.2) := by
  induction h with
  | nil => rfl
  | cons _ _ ih => simp [ih]
theorem cells_from (lo : Nat) : ∀ (names : List (Str × NameKind)) (k : Nat) (acc : List (Str × Addr)), lo ≤ k → (acc.map (·.2)).Nodup → (∀ p ∈ acc, lo ≤ p.2 ∧ p.2 < k) →
    ((cellsFrom k names acc).map (·.2)).Nodup ∧ ∀ p ∈ cellsFrom k names acc, lo ≤ p.2
  | [], k, acc, _, nd, h => ⟨nd, fun p hp => (h p hp).1⟩
  | (x, kd) :: r, k, acc, hk, nd, h => by
    unfold cellsFrom
    split
    · refine cells_from lo r (k + 1) _ (by omega) ?_ ?_
      · rw [List.map_cons, List.nodup_cons]
        refine ⟨fun hm => ?_, nd⟩
        obtain ⟨p, hp, e⟩ := List.mem_map.mp hm
        have h1 := (h p hp).2
        have e' : p.2 = k := e
        exact absurd h1 (by rw [e']; exact Nat.lt_irrefl _)
      · intro p hp
        rcases List.mem_cons.mp hp with rfl | hp
        · exact ⟨hk, Nat.lt_succ_self _⟩
        · exact ⟨(h p hp).1, Nat.lt_succ_of_lt (h p hp).2⟩
    · exact cells_from lo r k acc hk nd h
section
variable {α β : Type} {lv : Nat} {ev : Env} {ns : List Str} {gs : List (Str × Value)} {c : Fx w lv ev ns gs} {vs : Vs} {n : Led} {h : Heap} {tk : Nat} {E : Value → Shared → Prop} {env : Env} {Q : Value → Vs → Led → Prop}
theorem WP.enterC {f : Addr} {us : List Value} {name qual : Str} {params : Arguments} {body : List Stmt} {scope : Scope} {dV kV doc pm cdv ct oc : Value} {an od : Option Addr} {osl : Array (Option Value)}
    {Q : Value → Vs → Led → Prop} (ps : List (Str × Value)) (gs' : List (Str × Value)) {ns' : List Str} {vs' : Vs}
    (ho : (Mine.hd.heap_1 w.params).lookup f = some ⟨oc, od, .func (fnOf name qual params body scope dV kV doc pm an cdv ct), osl⟩) (hcd : codeIn (Mine.hd.heap_1 w.params) cdv qual = true)
    (hbind : bindArgs (fnOf name qual params body scope dV kV doc pm an cdv ct) ⟨us, []⟩ = Pure.pure ps) (hkind : (ps.all fun y => scope.names.lookup y.1 == some .local || scope.names.lookup y.1 == some .cell) = true)
    (hnd : ((cellsFrom 0 scope.names []).map (·.1)).Nodup) (hm : ∀ L, bindL (envOfC qual scope L f cdv).kindOf ps (fun _ => none) = lkm ns' vs') (nd : ns'.Nodup)
    (loc : ∀ x ∈ ns', scope.names.lookup x = some .local ∧ (x == ("__debug__" : Str)) = false)
    (glb : ∀ q ∈ gs', scope.names.lookup q.1 = some .globalImplicit ∧ (q.1 == ("__debug__" : Str)) = false ∧ (nsIn (Mine.hd.heap_1 w.params) mainGlobals q.1 = some (some q.2) ∨ nsIn (Mine.hd.heap_1 w.params) mainGlobals q.1 = some none ∧ bootBuiltins q.1 = some q.2 ∧ q.1 ≠ "__name__"))
    (hco : scope.isCoroutine = false) (hgen : scope.isGenerator = false) (hk : scope.kind = .function)
    (H : ∀ L cells, CellsAre (bindC (envOfC qual scope L f cdv).kindOf ps fun _ => none) (cellsFrom (L + 1) scope.names []) cells →
      WP w lv (envOfC qual scope L f cdv) ns' gs' vs' (cells ++ n) (execs body (envOfC qual scope L f cdv)) (Ret fun v n' => ∃ n'', n''.Sublist n' ∧ Q v vs n'')) :
    WP w (lv + 1) ev ns gs vs n (call (.ref f) us) Q := by
  refine ⟨fun c E h tk I => ?_⟩
  refine wpAny_call (code_defC c.bel I.1 c.X I.2.1 c.T c.fra c.fr c.kind ho hcd (Nat.lt_of_le_of_lt (Nat.le_add_right _ _) c.room) (BindsTo.of_eq hbind) hkind hnd ?_ hco hgen hk)
  intro g L' h₁ tk₁ cells FG F' N' Y B' X' T' hlt
  let c' : Fx w lv (envOfC qual scope L' f cdv) ns' gs' :=
    { A := c.A.deeper (envOfC qual scope L' f cdv), h₀ := g, s₀ := c.s₀, hid := c.hid, nd := nd, kind := hk, loc := loc, mg := c.mg, mb := c.mb,
      glb := fun q hq => ⟨(glb q hq).1, (glb q hq).2.1, (glb q hq).2.2.imp (fun e => mg_of X' T'.g e) fun e => ⟨mg_none_of X' T'.g e.1, (T'.builtins _ e.2.2).trans e.2.1⟩⟩,
      p := c.p, loose := c.loose, mean := c.mean, T := T', X := X', eg := rfl, eb := rfl, hand := c.hand, A₀ := _, base := c.base, outer := ev :: c.outer, bel := B',
      fra := by show c.A.frames.map _ = _; rw [c.fra]; rfl
      fr := rfl, room := by have := c.room; show c.A.depth + 1 + lv < _; omega
      units := by have := c.units; show c.A.units + 3 + 20 * lv + 100 < cLine; omega }
  rw [hm] at F'
  obtain ⟨k1, k2⟩ := cells_from (L' + 1) scope.names (L' + 1) [] (Nat.le_refl _) (by simp) (by simp)
  have ok : Ok (cells ++ n) c.hid := ⟨by
    rw [List.append_assoc, List.map_append, List.nodup_append]
    refine ⟨by rw [cells_fst Y]; exact k1, I.2.2.nd, fun a ha b hb e => ?_⟩
    rw [cells_fst Y] at ha
    obtain ⟨p, hp, rfl⟩ := List.mem_map.mp ha
    obtain ⟨q, hq, rfl⟩ := List.mem_map.mp hb
    have h1 := k2 p hp
    have h2 := hlt q hq
    exact absurd h1 (by rw [e]; exact Nat.not_le.mpr (Nat.lt_succ_of_lt h2))⟩
  have I' : Inv c' vs' (cells ++ n) h₁ := ⟨F', by rw [List.append_assoc]; exact N', ok⟩
  refine (H L' cells Y).to (tk := tk₁) I' fun fl h' tk' vs'' n' I'' q => ?_
  have fin : ∀ v, (∃ n'', n''.Sublist n' ∧ Q v vs n'') → LeaveK c.h₀ ev.locals (lkm ns vs) g (fun r s' => match r with | .ok (.ret v) => Post c Q v s' | .ok _ => Post c Q .none s' | .error e => E e s') v (At c' h' tk') := by
    rintro v ⟨n'', hs, q⟩
    have I3 := I''.sub hs
    exact ⟨L', _, n'' ++ c.hid, I3.1, I3.2.1, fun F N => Post.ok (h := h') (tk := tk') ⟨F, N, I3.2.2⟩ q⟩
  cases fl <;> exact fin _ q
/- cells -/
section
variable {x : Str} {v : Value} {cc : Addr} {o : Obj} {v₀ : Option Value}
theorem WP.cell_ {pos : Pos} (hm : (cc, o) ∈ n) (hd : o.data = .cell (some v)) (hQ : Q v vs n) (hc : ev.cells.lookup x = some cc) (hx : ev.kindOf x = some .cell) (hb : (x == ("__debug__" : Str)) = false := by decide) :
    WP w lv ev ns gs vs n (eval (.Name x pos) ev) Q := WP.mk fun c E h tk I => wpAny_Name (wpAny_loadName_cell c.kind hx hc ⟨o, I.get hm, hd⟩ (Post.ok I hQ)) hb
theorem WP.store_cell {Q : Unit → Vs → Led → Prop} {g : Obj → Led} (U : UpF cc o n g) (hd : o.data = .cell v₀) (hQ : ∀ o', o'.data = .cell (some v) → Q () vs (g o')) (hc : ev.cells.lookup x = some cc) (hx : ev.kindOf x = some .cell) :
    WP w lv ev ns gs vs n (storeName ev x v) Q :=
  WP.mk fun c E h tk I => wpAny_storeName_cell c.kind hx hc ⟨o, I.get U.mem, hd⟩ fun h' hv hs => by
    obtain ⟨o', ho', hd'⟩ := hv
    exact Post.ok (I.update U hs ho') (hQ o' hd')
theorem WP.assign_cell {p' pos : Pos} {value : PySem.Expr} {Q : Flow → Vs → Led → Prop}
    (h : WP w lv ev ns gs vs n (eval value ev) fun v vs n => ∃ o v₀ g, UpF cc o n g ∧ o.data = .cell v₀ ∧ ∀ o', o'.data = .cell (some v) → Q .next vs (g o')) (hc : ev.cells.lookup x = some cc) (hx : ev.kindOf x = some .cell)
    (hs : swapsWith value (some (.Name x p')) pos.line ev = Pure.pure false := by with_unfolding_all rfl) : WP w lv ev ns gs vs n (exec (.Assign [.Name x p'] value pos) ev) Q :=
  WP.mk fun c _ _ _ I => wpAny_Assign_Name (h.to I fun _ _ _ _ _ I' ⟨_, _, _, U, hd, q⟩ => (WP.store_cell (Q := fun _ => Q .next) U hd q hc hx).run _ _ _ _ I') hs
end
end
end Mine
end
section
open PySem PySem.W PyProof.Rows PySem.Calls PyProof.V Builtin Builtin.ObjectAttr
namespace Mine
noncomputable abbrev bmObj (l : Addr) : Obj := { cls := .type "builtin_function_or_method", data := .fields #[.builtin "list.append", .ref l] }
theorem md_get : typeLookup (.type "method_descriptor") "__get__" = pure (some (.builtin "method_descriptor.__get__")) := by rw [typeLookup_type, builtinLookup_eq_fast]; kernel_rfl
theorem md_set : typeLookup (.type "method_descriptor") "__set__" = pure none := by rw [typeLookup_type, builtinLookup_eq_fast]; kernel_rfl
theorem md_del : typeLookup (.type "method_descriptor") "__delete__" = pure none := by rw [typeLookup_type, builtinLookup_eq_fast]; kernel_rfl
theorem slot_md_get : Slot "method_descriptor" "__get__" "method_descriptor.__get__" :=
  .of (owner := "method_descriptor") (n := "__get__") (by rw [typeLookup_type, builtinLookup_eq_fast]; kernel_rfl) (by decide +kernel) (by decide +kernel) (by decide +kernel)
    (by first | exact .inl (by decide +kernel) | exact .inr (by decide +kernel)) (by rw [isSubtype_type]; kernel_rfl)
theorem entry_md_get : entryFor table "method_descriptor.__get__" = some Builtin.«method_descriptor.__get__» := entryFor_of_tree (by kernel_rfl)
theorem args_md_get (a b c : Value) : argsOk "method_descriptor.__get__" ⟨[a, b, c], []⟩ := by unfold argsOk; kernel_rfl
section
variable {prog : Program} {w : World} {A : Around} {E : Value → Shared → Prop} {h : Heap} {g : Array GenState} {d : Drawn} {t : Nat} {os : OsState} {a : Addr} {o : Obj}
theorem md_told : (Manifest.toldItsClass.contains "list.append") = false := by decide +kernel
theorem sub_ll : isSubtype (.type "list") (.type "list") = pure true := by rw [isSubtype_type]; kernel_rfl
theorem owner_append : (kfb_private% "ownerAndName") "list.append" = ("list", "append") := by first | decide +kernel | kernel_rfl
theorem append_get {its : List Value} {k : Nat} {P : PySem.Fin → Shared → Prop} (hx : h.get? a = some (lobj its k)) (hq : P (.done (.ret (.ref h.objs.size))) ⟨h.push (bmObj a), g, d, t, os⟩) :
    wpAny (model prog w) A (Builtin.«method_descriptor.__get__» ⟨[.builtin "list.append", .ref a, .type "list"], []⟩) P E ⟨h, g, d, t, os⟩ := by
  have hT : (⟨h, g, d, t, os⟩ : Shared).TypeIs (.ref a) "list" := ⟨_, hx, rfl⟩
  unfold Builtin.«method_descriptor.__get__»
  refine wpAny_bind (wpAny_of_eq (a := (.builtin "list.append", some (.ref a), some (.type "list"))) (by first | rfl | kernel_rfl) ?_)
  simp only [md_told, Bool.false_eq_true, if_false]
  refine wpAny_bind ?_
  refine wpAny_bind ?_
  refine wpAny_of_eq (a := ((Str.ofString "append" : Str), (.type "list" : Value))) ?_ ?_
  · show Pure.pure (Str.ofString ((kfb_private% "ownerAndName") "list.append").2, Value.type ((kfb_private% "ownerAndName") "list.append").1) = _
    rw [owner_append]
  refine wpAny_bind (wpAny_isInstance hT sub_ll ?_)
  rw [if_neg (by decide)]
  refine wpAny_pure ?_
  exact wpAny_bind (wpAny_newObj_type (wpAny_pure hq))
theorem append_entry {tk : Tok} {its : List Value} {k : Nat} {Q : PySem.Fin → Shared → Prop} (hx : h.get? a = some (lobj its k)) (hq : Q (.done (.ret (.ref h.objs.size))) ⟨h.push (bmObj a), g, d, t, os⟩) :
    wpAny (model prog w) A (Builtin.«object.__getattribute__» ⟨[.ref a, .str "append" tk], []⟩) Q E ⟨h, g, d, t, os⟩ := by
  have hT : (⟨h, g, d, t, os⟩ : Shared).TypeIs (.ref a) "list" := ⟨_, hx, rfl⟩
  have hT5 : (⟨h, g, d, t, os⟩ : Shared).TypeIs (.builtin "list.append") "method_descriptor" := type_list_append
  have f4 := slot_list_append.lookup
  have f5 := type_list_append
  have f6 := md_get
  have f7 := md_set
  have f8 := md_del
  repeat (any_goals (first | assumption | wp_step))
  refine codeAny_call_builtin slot_md_get.plain entry_md_get (slot_md_get.check _ _ _ _ _ _ _ _ hT5 (args_md_get _ _ _) (append_get hx ?_))
  repeat (any_goals (first | assumption | wp_step))
theorem append_call {tk : Tok} {its : List Value} {k : Nat} {R : Result → Shared → Prop} (hx : h.get? a = some (lobj its k)) (hq : R (.ok (.ret (.ref h.objs.size))) ⟨h.push (bmObj a), g, d, t, os⟩) :
    codeAny (model prog w) A (.call (.builtin "list.__getattribute__") ⟨[.ref a, .str "append" tk], []⟩) R ⟨h, g, d, t, os⟩ :=
  codeAny_call_builtin F.slot_list_getattribute.plain F.entry_list_ga (F.slot_list_getattribute.check _ _ _ _ _ _ _ _ (show (⟨h, g, d, t, os⟩ : Shared).TypeIs (.ref a) "list" from ⟨_, hx, rfl⟩) (F.args_list_getattribute_2 _ _) (append_entry hx hq))
theorem append_attr {its : List Value} {k : Nat} {ex : Bool} {Q : Value → Shared → Prop} (hx : h.get? a = some (lobj its k)) (hq : Q (.ref h.objs.size) ⟨h.push (bmObj a), g, d, t + 1, os⟩) :
    wpAny (model prog w) A (getAttr (.ref a) (Str.ofString "append") ex) Q E ⟨h, g, d, t, os⟩ := by
  have hT : ∀ t, (⟨h, g, d, t, os⟩ : Shared).TypeIs (.ref a) "list" := fun _ => ⟨_, hx, rfl⟩
  have f2 := F.slot_list_getattribute.lookup
  have f3 := F.slot_list_getattribute.bind (.ref a)
  unfold getAttr getAttrBy
  refine wpAny_bind (wpAny_mkText (wpAny_holding (wpAny_bind (wpAny_typeOf (hT _) (wpAny_bind (wpAny_of_eq f2 ?_))))))
  show wpAny _ _ (getAttrByItsOwn (.ref a) (.str (Str.ofString "append") t) (.type "list") (.builtin "list.__getattribute__") true ex) _ _ _
  unfold getAttrByItsOwn hookBefore callGetattribute boundAndCalled
  refine wpAny_bind (wpAny_of_eq (show (if onTheHeap (.type "list") then typeLookup (.type "list") "__getattr__" else pure none) = pure none from rfl) ?_)
  refine wpAny_bind (wpAny_attempt (wpAny_holding ?_))
  rw [if_neg (by cases ex <;> decide)]
  refine wpAny_bind (wpAny_of_eq f3 ?_)
  refine wpAny_call (append_call hx ?_)
  exact wpAny_pure hq
end
end Mine
end
section
open PySem PySem.W PyProof.Rows PySem.Calls PyProof.V Builtin Builtin.ObjectAttr
namespace Mine
theorem sub_lm : isSubtype (.type "list") (.type "module") = pure false := by rw [isSubtype_type]; kernel_rfl
theorem sub_lt : isSubtype (.type "list") (.type "type") = pure false := by rw [isSubtype_type]; kernel_rfl
section
variable {prog : Program} {w : World} {A : Around} {E : Value → Shared → Prop} {s : Shared} {l : Addr} {o : Obj}
theorem vm_append : Manifest.varargsMethods.contains "list.append" = false := by decide +kernel
theorem check_append {its : List Value} {k : Nat} {v : Value} {Q : Unit → Shared → Prop} (hx : s.heap.get? l = some (lobj its k)) (hq : Q () s) : wpAny (model prog w) A (checkBoundCall "list.append" ⟨[.ref l, v], []⟩) Q E s := by
  have hT : s.TypeIs (.ref l) "list" := ⟨_, hx, rfl⟩
  obtain ⟨sig, hsig, hc⟩ : ∃ sig, Manifest.signature? "list.append" = some sig ∧ ∀ v : Value, Bind.checkArgs "list.append" { sig with full := s!"{Bind.lastOf "list"}.{Bind.lastOf "list.append"}" } ⟨[.ref l, v], []⟩ = Pure.pure () := ⟨_, by with_unfolding_all rfl, fun v => by kernel_rfl⟩
  have hk : builtinKind "list.append" = some .method := by decide +kernel
  unfold checkBoundCall
  simp only [hsig, hk]
  rw [if_neg (by decide)]
  refine wpAny_bind (wpAny_isInstance hT sub_lm ?_)
  rw [if_neg (by rw [vm_append]; decide)]
  refine wpAny_bind (wpAny_bind (wpAny_loadPart_at hx (wpAny_pure ?_)))
  refine KFB.if_not rfl ?_
  refine wpAny_bind (wpAny_typeOf hT ?_)
  exact wpAny_of_eq (hc v) hq
theorem quiet_append {as : Args} : (Code.builtin "list.append" as).quiet = true := Code.quiet_builtin _ (by decide +kernel)
theorem call_bound {its : List Value} {k : Nat} {b : Addr} {v : Value} {Q : Value → Shared → Prop} (hb : s.heap.get? b = some (bmObj l)) (hx : s.heap.get? l = some (lobj its k)) (hsz : its.length ≤ sizeLine)
    (h : ∀ h', Heap.SameBut l s.heap h' → h'.get? l = some (lobj (its ++ [v]) (k + 1)) → Q .none { s with heap := h' }) : wpAny (model prog w) A (call (.ref b) [v]) Q E s := by
  refine wpAny_call (codeAny_of_tree ?_)
  show wpAny _ A.in1 (callAny (.ref b) ⟨[v], []⟩) _ _ s
  simp only [callAny]
  refine wpAny_bind (wpAny_load hb ?_)
  simp only [bmObj, show (Value.type "builtin_function_or_method" == Value.type "method" || Value.type "builtin_function_or_method" == Value.type "builtin_function_or_method" || Value.type "builtin_function_or_method" == Value.type "method-wrapper") = true by decide, if_true]
  refine KFB.if_so (by decide) ?_
  refine wpAny_bind (check_append hx ?_)
  refine wpAny_bind (wpAny_pure (wpAny_pure ?_))
  refine ⟨quiet_append, codeAny_builtin entry_list_append ?_⟩
  show wpAny _ _ (updateSeq l (·.push v) >>= fun _ => ret .none) _ _ s
  refine wpAny_bind ?_
  refine wpAny_updateSeq hx rfl (wpAny_pure ?_)
  refine h _ (Heap.SameBut.update ..) ?_
  rw [Heap.get?_update_self _ hx (by rw [mapSeq_push]; rfl), mapSeq_push]
  have e : its.toArray.push v = (its ++ [v]).toArray := by simp
  rw [e]
end
section
variable {w : World} {α β : Type} {lv : Nat} {ev : Env} {ns : List Str} {gs : List (Str × Value)} {c : Fx w lv ev ns gs} {vs : Vs} {n : Led} {h : Heap} {tk : Nat} {E : Value → Shared → Prop} {env : Env} {Q : Value → Vs → Led → Prop}
theorem WP.attr_append {x : Str} {xp pos : Pos} (H : WP w lv ev ns gs vs n (eval (.Name x xp) env) fun v vs n => ∃ l its k, v = .ref l ∧ (l, lobj its k) ∈ n ∧ ∀ b, Q (.ref b) vs ((b, bmObj l) :: n))
    (he : eval (.Attribute (.Name x xp) (Str.ofString "append") pos) env = (do
      let o ← eval (.Name x xp) env
      standAt pos.atName
      let r ← holding [o] (getAttr o (Str.ofString "append") true)
      letTemporaryGo (.Name x xp) o r
      Pure.pure r) := by with_unfolding_all rfl) : WP w lv ev ns gs vs n (eval (.Attribute (.Name x xp) (Str.ofString "append") pos) env) Q :=
  WP.mk fun c E h tk I => Attribute_Name_ (H.to I fun v h' tk' vs' n' I' q => by
    obtain ⟨l, its, k, rfl, hm, hq⟩ := q
    refine append_attr (its := its) (k := k) (I'.get hm) (Post.ok (tk := tk' + 1) (I'.push rfl) (hq _))) he
theorem WP.call_bm {pos : Pos} {b l : Addr} {e : PySem.Expr} {rest : List PySem.Expr} (hm : (b, bmObj l) ∈ n)
    (H : WP w lv ev ns gs vs n (spliced (backTo pos (starEach (e :: rest) env))) fun us vs n => (b, bmObj l) ∈ n ∧ WP w lv ev ns gs vs n (call (.ref b) us) Q)
    (he : starEach (e :: rest) env = (false, eval e env) :: starEach rest env := by with_unfolding_all rfl) (hplain : (backTo pos (starEach rest env)).any (·.1) = false := by with_unfolding_all rfl) :
    WP w lv ev ns gs vs n (callWith pos (.ref b) [] (backTo pos (starEach (e :: rest) env)) []) Q := WP.mk fun c E h tk I => by
  have H' : wpAny (model PR w) c.A (spliced (backTo pos (starEach (e :: rest) env))) (fun us s₁ => s₁.heap.get? b = some (bmObj l) ∧ wpAny (model PR w) c.A (call (.ref b) us) (Post c Q) E s₁) E (At c h tk) := H.to I fun us h' tk' vs' n' I' q => ⟨I'.get q.1, q.2.run _ _ _ _ I'⟩
  rw [he] at H' ⊢
  have hp : ((backTo pos ((false, eval e env) :: starEach rest env)).any (·.1)) = false := by show (false || (backTo pos (starEach rest env)).any (·.1)) = false; rw [hplain]; rfl
  have H2 : wpAny (model PR w) c.A (evalArgs (.ref b) true (backTo pos ((false, eval e env) :: starEach rest env)) []) (fun x s₁ => s₁.heap.get? b = some (bmObj l) ∧ wpAny (model PR w) c.A (call (.ref b) ([] ++ x.pos) x.kw) (Post c Q) E s₁) E (At c h tk) := evalArgs_plain H'
  unfold callWith
  refine wpAny_bind (wpAny_holding (wpAny_mono H2 (fun x s₁ h₁ => wpAny_bind (wpAny_standAt ?_)) fun _ _ x => x))
  obtain ⟨ho, hcall⟩ := h₁
  simp only [hp, List.any_nil, Bool.or_false]
  refine wpAny_bind (m := keeperOf (.ref b)) ?_
  unfold keeperOf
  refine wpAny_bind (wpAny_load ho ?_)
  simp only [bmObj, show (Value.type "builtin_function_or_method" != Value.type "method") = true by decide, show (Value.type "builtin_function_or_method" == Value.type "builtin_function_or_method" || Value.type "builtin_function_or_method" == Value.type "method-wrapper") = true by decide, if_true]
  refine wpAny_pure ?_
  exact wpAny_bind (wpAny_mono hcall (fun r s₂ hr => wpAny_bind (wpAny_holding (wpAny_point (wpAny_pure hr)))) fun _ _ x => x)
theorem WP.bm_append {b l : Addr} {its : List Value} {k : Nat} {x : Value} {g : Obj → Led} (hb : (b, bmObj l) ∈ n) (U : UpF l (lobj its k) n g) (hsz : its.length ≤ sizeLine) (hQ : Q .none vs (g (lobj (its ++ [x]) (k + 1)))) : WP w lv ev ns gs vs n (call (.ref b) [x]) Q :=
  WP.mk fun c E h tk I => call_bound (I.get hb) (I.get U.mem) hsz fun h' hs ho => Post.ok (tk := tk) (I.update U hs ho) hQ
end
end Mine
end
section
open PySem PySem.W PyProof.Rows PySem.Calls PyProof.V
namespace Mine
/-- a text by its signs -/
noncomputable abbrev T (l : List Nat) : Str := ⟨l.toArray⟩
theorem T_eta (x : Str) : ∃ l, x = T l := ⟨x.cps.toList, by cases x; simp⟩
theorem T_len (l : List Nat) : (T l).length = l.length := by simp [Str.length]
theorem T_inj {a b : List Nat} : T a = T b ↔ a = b := by simp
theorem T_add (a b : List Nat) : T a ++ T b = T (a ++ b) := by
  show (⟨a.toArray ++ b.toArray⟩ : Str) = _
  simp
theorem idx_hi (lo : Option Int) (n b : Nat) (h : n ≤ b) : Builtin.Str.strSliceIndices lo (some (b : Int)) 1 n = Builtin.Str.strSliceIndices lo (some (n : Int)) 1 n := by
  have e1 : min (b : Int) (n : Int) = n := by omega
  have e2 : min (n : Int) (n : Int) = n := by omega
  have e3 : ¬ ((b : Int) < 0) := by omega
  have e4 : ¬ ((n : Int) < 0) := by omega
  unfold Builtin.Str.strSliceIndices
  have e5 : (1 : Int) > 0 := by decide
  simp only [e3, e4, e5, if_true, if_false, e1, e2]
theorem idx_neg_hi (lo : Option Int) (n k : Nat) (h : k ≤ n) (hk : 0 < k) : Builtin.Str.strSliceIndices lo (some (-(k : Int))) 1 n = Builtin.Str.strSliceIndices lo (some ((n - k : Nat) : Int)) 1 n := by
  have e3 : (-(k : Int) < 0) := by omega
  have e4 : ¬ (((n - k : Nat) : Int) < 0) := by omega
  have e5 : -(k : Int) + n = ((n - k : Nat) : Int) := by omega
  unfold Builtin.Str.strSliceIndices
  simp only [e3, e4, if_true, if_false, e5]
theorem idx_neg_lo (hi : Option Int) (n k : Nat) (h : k ≤ n) (hk : 0 < k) : Builtin.Str.strSliceIndices (some (-(k : Int))) hi 1 n = Builtin.Str.strSliceIndices (some ((n - k : Nat) : Int)) hi 1 n := by
  have e3 : (-(k : Int) < 0) := by omega
  have e4 : ¬ (((n - k : Nat) : Int) < 0) := by omega
  have e5 : -(k : Int) + n = ((n - k : Nat) : Int) := by omega
  unfold Builtin.Str.strSliceIndices
  simp only [e3, e4, if_true, if_false, e5]
theorem slice_of {x : Str} {lo hi lo' hi' : Option Int} (h : Builtin.Str.strSliceIndices lo hi 1 x.length = Builtin.Str.strSliceIndices lo' hi' 1 x.length) : Txt.slice x lo hi = Txt.slice x lo' hi' := by
  show StrLaws.sliceText x lo hi = StrLaws.sliceText x lo' hi'
  unfold StrLaws.sliceText
  rw [h]
theorem sl (l : List Nat) (a b : Nat) (hab : a ≤ b) (ha : a ≤ l.length) : Txt.slice (T l) (some (a : Int)) (some (b : Int)) = T ((l.drop a).take (b - a)) := by
  by_cases hb : b ≤ l.length
  · have := slice_closes (x := T l) (i := a) (j := b) ⟨by omega, by omega, by simp; omega⟩
    rw [beq_iff_eq] at this
    rw [this]
    simp
  · have e : Txt.slice (T l) (some (a : Int)) (some (b : Int)) = Txt.slice (T l) (some (a : Int)) (some (l.length : Int)) := by
      apply slice_of
      rw [T_len]
      exact idx_hi _ _ _ (by omega)
    have := slice_closes (x := T l) (i := a) (j := l.length) ⟨by omega, by omega, by simp⟩
    rw [beq_iff_eq] at this
    rw [e, this]
    have e2 : (l.drop a).take (b - a) = l.drop a := List.take_of_length_le (by rw [List.length_drop]; omega)
    have e3 : (l.drop a).take (l.length - a) = l.drop a := List.take_of_length_le (by rw [List.length_drop]; omega)
    rw [e2]
    simp
    exact e3
theorem sl_to (l : List Nat) (b : Nat) (hb : b ≤ l.length) : Txt.slice (T l) none (some (b : Int)) = T (l.take b) := by
  have := slice_closes_to (x := T l) (j := b) ⟨by omega, by simp; omega⟩
  rw [beq_iff_eq] at this
  rw [this]
  simp
theorem sl_from (l : List Nat) (a : Nat) (ha : a ≤ l.length) : Txt.slice (T l) (some (a : Int)) none = T (l.drop a) := by
  have := slice_closes_from (x := T l) (i := a) ⟨by omega, by simp; omega⟩
  rw [beq_iff_eq] at this
  rw [this]
  have e2 : (l.drop a).take (l.length - a) = l.drop a := List.take_of_length_le (by rw [List.length_drop]; omega)
  simp
  exact e2
theorem item_at (l : List Nat) (i : Nat) (c : Nat) (h : l[i]? = some c) : Txt.item (T l) (i : Int) = T [c] := by
  obtain ⟨hi, e⟩ := List.getElem?_eq_some_iff.mp h
  unfold Txt.item Txt.charAt
  have : seqIndex? (i : Int) (T l).length = some i := by
    rw [T_len]
    unfold seqIndex?
    have h1 : ¬ ((i : Int) < 0) := by omega
    have h2 : (0 ≤ (i : Int) ∧ (i : Int) < (l.length : Int)) := by omega
    simp [h1, h2]
  rw [this]
  simp [h]
end Mine
end
section
open PySem PySem.W PyProof.Rows PySem.Calls PyProof.V
namespace Mine
variable {w : World}
theorem lkm_none : ∀ (rest : List Str) (y : Str), lkm rest (rest.map fun _ => none) y = none
  | [], y => rfl
  | x :: r, y => by
    show (if y = x then none else lkm r (r.map fun _ => none) y) = none
    rw [lkm_none r y]; split <;> rfl
theorem bind_local {kindOf : Str → Option NameKind} {p : Str} {v : Value} (rest : List Str) (h : kindOf p = some .local) : bindL kindOf [(p, v)] (fun _ => none) = lkm (p :: rest) (some v :: rest.map fun _ => none) := by
  funext y
  show (if kindOf p = some .local then fun y => if y = p then some v else none else fun _ => none) y = _
  rw [if_pos h]
  show (if y = p then some v else none) = (if y = p then some v else lkm rest (rest.map fun _ => none) y)
  rw [lkm_none]
theorem bind_cell {kindOf : Str → Option NameKind} {p : Str} {v : Value} (rest : List Str) (h : kindOf p = some .cell) : bindL kindOf [(p, v)] (fun _ => none) = lkm rest (rest.map fun _ => none) := by
  funext y
  show (if kindOf p = some .local then fun y => if y = p then some v else none else fun _ => none) y = _
  rw [if_neg (by rw [h]; decide), lkm_none]
section
variable {α β : Type} {lv : Nat} {ev : Env} {ns : List Str} {gs : List (Str × Value)} {c : Fx w lv ev ns gs} {vs : Vs} {n : Led} {h : Heap} {tk : Nat} {E : Value → Shared → Prop} {env : Env}
theorem WP.bind_name {x : Str} {v : Value} {vs' : Vs} {Q : Unit → Vs → Led → Prop} (s : St ns vs x v vs') (hQ : Q () vs' n) : WP w lv ev ns gs vs n (bindName ev x v) Q :=
  WP.mk fun c E h tk I => bindName_ ((WP.store_ s hQ).run c E h tk I)
theorem swap_order {x y : Str} {A B : Value} {vs1 vs2 : Vs} {Q : Unit → Shared → Prop} (s1 : St ns vs y B vs1) (s2 : St ns vs1 x A vs2) (I : Inv c vs n h)
    (hQ : ∀ h' tk', Inv c vs2 n h' → Q () (At c h' tk')) : wpAny (model PR w) c.A (assignInOrder [fun v => bindName ev y v, fun v => bindName ev x v] [B, A]) Q E (At c h tk) := by
  refine wpAny_bind (wpAny_holding ((WP.bind_name (Q := fun _ vs n => vs = vs1 ∧ n = _) s1 ⟨rfl, rfl⟩).to I fun _ h1 t1 v1 n1 I1 e => ?_))
  obtain ⟨rfl, rfl⟩ := e
  refine wpAny_bind (wpAny_holding ((WP.bind_name (Q := fun _ vs n => vs = vs2 ∧ n = _) s2 ⟨rfl, rfl⟩).to I1 fun _ h2 t2 v2 n2 I2 e => ?_))
  obtain ⟨rfl, rfl⟩ := e
  exact wpAny_pure (hQ _ _ I2)
theorem swap_at {x y : Str} {T : Addr} {A B : Value} {vs1 vs2 : Vs} {Q : Unit → Shared → Prop} (ht : IsTup h T #[A, B]) (s1 : St ns vs y B vs1) (s2 : St ns vs1 x A vs2) (I : Inv c vs n h)
    (hQ : ∀ h' tk', Inv c vs2 n h' → Q () (At c h' tk')) : wpAny (model PR w) c.A (unpackItems (.ref T) 2 none) (fun items s₂ => wpAny (model PR w) c.A (assignInOrder ([x, y].reverse.map fun n => bindName ev n) items.reverse) Q E s₂) E (At c h tk) := by
  refine unpackItems_tuple (s := At c h tk) (items := #[A, B]) c.hand ht fun h' he => ?_
  exact swap_order (h := h') s1 s2 (I.ext he (Nat.le_refl _)) hQ
theorem WP.assign_swap2 {x y : Str} {p q tpos pos : Pos} {k : Nat} {value : PySem.Expr} {Q : Flow → Vs → Led → Prop}
    (H : WP w lv ev ns gs vs n (eval value ev) fun v vs n => ∃ T A B k vs1 vs2, v = .ref T ∧ (T, tobj [A, B] k) ∈ n ∧ St ns vs y B vs1 ∧ St ns vs1 x A vs2 ∧ Q .next vs2 n)
    (hs : swapsWithSole [.Tuple [.Name x p, .Name y q] k tpos] value pos.line ev = Pure.pure false) (hw : swappedStores [.Tuple [.Name x p, .Name y q] k tpos] value ev = Pure.pure (some [x, y])) :
    WP w lv ev ns gs vs n (exec (.Assign [.Tuple [.Name x p, .Name y q] k tpos] value pos) ev) Q :=
  WP.mk fun c E h tk I => @Assign_Tuple_swapped (model PR w) c.A E (At c h tk) ev [.Name x p, .Name y q] k tpos value pos [x, y] (Post c Q) (H.to I fun v h1 t1 vs0 n1 I1 q => by
    obtain ⟨T, A, B, k, vs1, vs2, rfl, hm, s1, s2, q⟩ := q
    exact swap_at (I1.tup hm) s1 s2 I1 fun h' tk' I' => Post.ok (h := h') (tk := tk') I' q) hs hw
end
end Mine
end
section
open PySem PySem.W PyProof.Rows PySem.Calls PyProof.V Builtin Builtin.Str
namespace Mine
section
variable {prog : Program} {w : World} {A : Around} {E : Value → Shared → Prop} {s : Shared} {d : Addr} {D : List (PyData × PyData)} {c : Nat} {y : Str}
theorem sub_KL : isSubtype (.type "KeyError") (.type "LookupError") = pure true := by rw [isSubtype_type]; kernel_rfl
theorem tl_hit {Q : Mapped → Shared → Prop} (hT : IntTab prog w s.heap d D) (hl : PySem.Spec.lookup (PyData.int c) D = some (.str y)) (h : ∀ k, Q (.text y) { s with toks := k }) :
    wpAny (model prog w) A (tableLookup (.ref d) c) Q E s := by
  unfold tableLookup
  refine wpAny_bind (wpAny_attempt (wpAny_bind (wpAny_mkInt ?_)))
  refine kys_getItem (knd := intKind prog w) (enc := PyData.int) PyProof.V.same_int (intKind_is prog w _ _) (s := { s with toks := s.toks + 1 }) hT ?_
  unfold KysD
  rw [hl]
  refine KysVal.intro fun v hv => ?_
  obtain ⟨t, rfl⟩ := hv.str_inv
  refine wpAny_bind (wpAny_pure ?_)
  refine wpAny_bind (wpAny_pure ?_)
  exact wpAny_pure (h _)
theorem tl_miss {Q : Mapped → Shared → Prop} (hT : IntTab prog w s.heap d D) (hl : PySem.Spec.lookup (PyData.int c) D = none) (hh : A.handled = none)
    (h : ∀ h' k, (∀ b o, s.heap.get? b = some o → h'.get? b = some o) → Q .keep { s with heap := h', toks := k }) :
    wpAny (model prog w) A (tableLookup (.ref d) c) Q E s := by
  unfold tableLookup
  refine wpAny_bind (wpAny_attempt (wpAny_bind (wpAny_mkInt ?_)))
  refine getItem_tab_missing (knd := intKind prog w) (enc := PyData.int) PyProof.V.same_int (intKind_is prog w _ _) (s := { s with toks := s.toks + 1 }) hT hh hl fun h' e hx => ?_
  obtain ⟨ob, t, h1, h2, h3⟩ := hx.there
  refine wpAny_bind (wpAny_isInstance (T := "KeyError") ⟨ob, h1, h2⟩ sub_KL ?_)
  rw [if_pos rfl]
  refine wpAny_bind (wpAny_rule (wpAny_pure ?_))
  exact h _ _ hx.keeps
end
end Mine
end
section
open PySem PySem.W PyProof.Rows PySem.Calls PyProof.V Builtin Builtin.Str
namespace Mine
section
variable {prog : Program} {w : World} {A : Around} {E : Value → Shared → Prop} {s : Shared} {d : Addr} {D : List (PyData × PyData)} {c : Nat} {y : Str} {t : Tok}
theorem tr_hit {Q : PySem.Fin → Shared → Prop} (hc : c < 128) (hy : y.length = 2) (hT : IntTab prog w s.heap d D) (hl : PySem.Spec.lookup (PyData.int c) D = some (.str y)) (h : ∀ t k, Q (.done (.ret (.str y t))) { s with toks := k }) :
    wpAny (model prog w) A (Builtin.«str.translate» ⟨[.str ⟨#[c]⟩ t, .ref d], []⟩) Q E s := by
  unfold Builtin.«str.translate»
  refine wpAny_bind (wpAny_of_eq (a := (Value.str ⟨#[c]⟩ t, (⟨#[c]⟩ : Str), Value.ref d)) (by rfl) ?_)
  dsimp only
  rw [if_neg (by simp [Str.length])]
  have hall : ((⟨#[c]⟩ : Str).cps.all fun x => decide (x < 128)) = true := by simp [hc]
  have hy1 : (y.length == 1 && y.cps.all fun x => decide (x < 128)) = false := by rw [hy]; rfl
  have hy2 : y.length ≤ sizeLine := by rw [hy, sizeLine_eq]; decide
  have ey : (⟨List.foldl (fun acc p => acc ++ p.cps) #[] [y].reverse⟩ : Str) = y := by simp
  simp only [hall]
  rw [← Array.forIn_toList]
  show wpAny _ _ (forIn [c] _ _ >>= _) _ _ _
  rw [List.forIn_cons]
  refine wpAny_bind (wpAny_bind ?_)
  rw [if_neg (by decide), if_pos rfl]
  refine wpAny_bind (tl_hit hT hl fun k1 => ?_)
  simp only [hy1]
  refine wpAny_bind (wpAny_pure ?_)
  refine wpAny_bind (wpAny_rule ?_)
  rw [if_neg (by decide)]
  refine wpAny_bind (tl_hit (s := { s with toks := k1 }) hT hl fun k2 => ?_)
  refine wpAny_pure ?_
  dsimp only
  rw [List.forIn_nil]
  refine wpAny_pure ?_
  rw [if_neg (by rw [hy]; exact (by decide : ¬ tooLong (0 + 2) = true))]
  unfold retStr
  rw [ey]
  exact wpAny_bind (wpAny_mkStr (wpAny_pure (h _ _)) hy2)
theorem tr_miss {Q : PySem.Fin → Shared → Prop} (hc : c < 128) (hT : IntTab prog w s.heap d D) (hl : PySem.Spec.lookup (PyData.int c) D = none) (hh : A.handled = none)
    (h : ∀ t h' k, (∀ b o, s.heap.get? b = some o → h'.get? b = some o) → Q (.done (.ret (.str ⟨#[c]⟩ t))) { s with heap := h', toks := k }) :
    wpAny (model prog w) A (Builtin.«str.translate» ⟨[.str ⟨#[c]⟩ t, .ref d], []⟩) Q E s := by
  unfold Builtin.«str.translate»
  refine wpAny_bind (wpAny_of_eq (a := (Value.str ⟨#[c]⟩ t, (⟨#[c]⟩ : Str), Value.ref d)) (by rfl) ?_)
  dsimp only
  rw [if_neg (by simp [Str.length])]
  have hall : ((⟨#[c]⟩ : Str).cps.all fun x => decide (x < 128)) = true := by simp [hc]
  have hy2 : (⟨#[c]⟩ : Str).length ≤ sizeLine := by rw [sizeLine_eq]; simp [Str.length]
  have ey : (⟨List.foldl (fun acc p => acc ++ p.cps) #[] [(⟨#[c]⟩ : Str)].reverse⟩ : Str) = ⟨#[c]⟩ := by simp
  simp only [hall]
  rw [← Array.forIn_toList]
  show wpAny _ _ (forIn [c] _ _ >>= _) _ _ _
  rw [List.forIn_cons]
  refine wpAny_bind (wpAny_bind ?_)
  rw [if_neg (by decide), if_pos rfl]
  refine wpAny_bind (tl_miss hT hl hh fun h' k1 hk => ?_)
  refine wpAny_bind (wpAny_pure ?_)
  refine wpAny_pure ?_
  dsimp only
  rw [List.forIn_nil]
  refine wpAny_pure ?_
  rw [if_neg (by exact (by decide : ¬ tooLong (0 + 1) = true))]
  unfold retStr
  rw [ey]
  exact wpAny_bind (wpAny_mkStr (wpAny_pure (h _ _ _ hk)) hy2)
end
end Mine
end
section
open PySem PySem.W PyProof.Rows PySem.Calls PyProof.V
namespace Mine
variable {w : World}
noncomputable def specL : List Nat := [40, 41, 91, 93, 123, 125, 63, 42, 43, 45, 124, 94, 36, 92, 46, 38, 126, 35, 32, 9, 10, 13, 11, 12]
noncomputable def escL (c : Nat) : List Nat := if c ∈ specL then [92, c] else [c]
noncomputable def specD : List (Int × PyData) := specL.map fun (c : Nat) => ((c : Int), PyData.str (T [92, c]))
theorem obj_ex {K : Frag} {a : Addr} {o : Obj} {P : Obj → Prop} (h : K.lookup a = some o) (p : P o) : ∃ o, K.lookup a = some o ∧ P o := ⟨o, h, p⟩
theorem spec_obj : ∃ o, (Mine.hd.heap_1 w.params).lookup 38 = some o ∧ (o.cls == .type "dict" && o.dict.isNone && o.slots.isEmpty && (match o.data with | .dict es _ => KTD.numsLook es.toList specD | _ => false)) = true := by
  have kf : PySem.Challenge.rw_rx0094_01 = PySem.Challenge.rw_rx0094_01 ∧ Mine.hd.heap_1 w.params = Mine.hd.heap_1 w.params := ⟨rfl, rfl⟩
  revert kf
  k_fill
  intro kf
  refine' obj_ex ?a ?b
  case a => k_is
  decide +kernel
theorem spec_look : KTD.keyedLook (fun b => (Mine.hd.heap_1 w.params).lookup b) 38 specD = true := by
  obtain ⟨o, h1, h2⟩ := spec_obj (w := w)
  unfold KTD.keyedLook
  simp only [h1]
  rw [Bool.and_eq_true, Bool.and_eq_true]
  exact ⟨⟨by decide, by decide +kernel⟩, h2⟩
noncomputable abbrev specP : List (PyData × PyData) := specD.map fun p => (PyData.int p.1, p.2)
theorem spec_tab {h : Heap} (X : (Mine.hd.heap_1 w.params).In h) : IntTab PR w h 38 specP := kt_keyed_in X spec_look PR w
noncomputable abbrev patObj : Obj := { cls := .type "re.Pattern", data := .fields #[.str (Str.ofString "([&~|])") 283, .int 32 318, .int 1 0, .none, .none, .ref 35, .int 0 0] }
theorem patt_ex : ∃ o, (Mine.hd.heap_1 w.params).lookup 36 = some o ∧ o = patObj := by
  have kf : PySem.Challenge.rw_rx0094_01 = PySem.Challenge.rw_rx0094_01 ∧ Mine.hd.heap_1 w.params = Mine.hd.heap_1 w.params := ⟨rfl, rfl⟩
  revert kf
  k_fill
  intro kf
  refine' obj_ex ?a ?b
  case a => k_is
  rfl
theorem patt_obj : (Mine.hd.heap_1 w.params).lookup 36 = some patObj := by
  obtain ⟨o, h, rfl⟩ := patt_ex (w := w); exact h
noncomputable abbrev codeObj : Obj := { cls := .type "tuple", data := .seq #[.int 14 0, .int 14 0, .int 4 0, .int 1 0, .int 1 0, .int 9 0, .int 0 0, .int 64 0, .int 0 0, .int 1342177280 0, .int 0 0, .int 0 0, .int 0 0, .int 0 0, .int 0 0, .int 17 0, .int 0 0, .int 13 0, .int 11 0, .int 9 0, .int 0 0, .int 64 0, .int 0 0, .int 1342177280 0, .int 0 0, .int 0 0, .int 0 0, .int 0 0, .int 0 0, .int 17 0, .int 1 0, .int 1 0] }
theorem code_ex : ∃ o, (Mine.hd.heap_1 w.params).lookup 35 = some o ∧ o = codeObj := by
  have kf : PySem.Challenge.rw_rx0094_01 = PySem.Challenge.rw_rx0094_01 ∧ Mine.hd.heap_1 w.params = Mine.hd.heap_1 w.params := ⟨rfl, rfl⟩
  revert kf
  k_fill
  intro kf
  refine' obj_ex ?a ?b
  case a => k_is
  rfl
theorem code_obj : (Mine.hd.heap_1 w.params).lookup 35 = some codeObj := by
  obtain ⟨o, h, rfl⟩ := code_ex (w := w); exact h
section
variable {α β : Type} {lv : Nat} {ev : Env} {ns : List Str} {gs : List (Str × Value)} {c : Fx w lv ev ns gs} {vs : Vs} {n : Led} {h : Heap} {tk : Nat} {E : Value → Shared → Prop} {env : Env} {pl : Sem Bool}
theorem Inv.grown {h' : Heap} (I : Inv c vs n h) (k : ∀ b o, h.get? b = some o → h'.get? b = some o) : Inv c vs n h' := ⟨I.1.keeps k, I.2.1.grown k, I.2.2⟩
theorem WP.m_translate {x : Str} {t : Tok} {Q : Value × List Value → Vs → Led → Prop} (hQ : Q (.builtin "str.translate", [.str x t]) vs n) : WP w lv ev ns gs vs n (getMethod (.str x t) "translate" pl) Q :=
  lift0 (fun A E s Q' h => GM.of (.str x t) (typeIs_str _ _ _) PySem.F.slot_str_translate PySem.F.type_str_translate GM.noRef h) hQ
theorem WP.translate {a : Nat} {t : Tok} {Q : Value → Vs → Led → Prop} (ha : a ∈ [58, 40, 41, 123, 125, 93, 33, 45, 46, 94, 92, 124]) (hQ : ∀ t, Q (.str (T (escL a)) t) vs n) :
    WP w lv ev ns gs vs n (call (.builtin "str.translate") [.str (T [a]) t, .ref 38]) Q := by
  refine WP.mk fun c E h tk I => ?_
  have hT : IntTab PR w (At c h tk).heap 38 specP := spec_tab (c.X.keeps I.1.keep)
  refine wpAny_call_entry PySem.F.slot_str_translate (typeIs_str _ _ _) PySem.F.entry_str_translate ?_ (PySem.F.args_str_translate_2 _ _)
  by_cases hs : a ∈ specL
  · have e : escL a = [92, a] := if_pos hs
    refine tr_hit (y := T [92, a]) ?_ rfl hT ?_ fun t k => ⟨_, rfl, Post.ok (h := h) (tk := k) I (e ▸ hQ t)⟩
    · clear hQ hs e hT; revert ha; revert a; decide
    · clear hQ e hT
      simp only [List.mem_cons, List.not_mem_nil, or_false] at ha
      rcases ha with rfl | rfl | rfl | rfl | rfl | rfl | rfl | rfl | rfl | rfl | rfl | rfl
      all_goals first | exact absurd hs (by decide) | kernel_rfl
  · have e : escL a = [a] := if_neg hs
    refine tr_miss ?_ hT ?_ c.hand fun t h' k hk => ⟨_, rfl, Post.ok (h := h') (tk := k) (I.grown hk) (e ▸ hQ t)⟩
    · clear hQ hs e hT; revert ha; revert a; decide
    · clear hQ e hT
      simp only [List.mem_cons, List.not_mem_nil, or_false] at ha
      rcases ha with rfl | rfl | rfl | rfl | rfl | rfl | rfl | rfl | rfl | rfl | rfl | rfl
      all_goals first | exact absurd (by decide) hs | kernel_rfl
end
end Mine
end
section
open PySem PySem.W PyProof.Rows PySem.Calls PyProof.V Builtin Builtin.Re
namespace Mine
theorem plain_pat : PlainAttrs "re.Pattern" :=
  ⟨⟨"object.__getattribute__", by rw [typeLookup_type, builtinLookup_eq_fast]; kernel_rfl, by decide +kernel⟩, by rw [typeLookup_type, builtinLookup_eq_fast]; kernel_rfl⟩
theorem slot_sub : Slot "re.Pattern" "sub" "re.Pattern.sub" :=
  .of (owner := "re.Pattern") (n := "sub") (by rw [typeLookup_type, builtinLookup_eq_fast]; kernel_rfl) (by decide +kernel) (by decide +kernel) (by decide +kernel)
    (by first | exact .inl (by decide +kernel) | exact .inr (by decide +kernel)) (by rw [isSubtype_type]; kernel_rfl)
theorem type_sub : typeOf (.builtin "re.Pattern.sub") = pure (.type "method_descriptor") := by show builtinType _ = _; rw [builtinType_eq_fast]; kernel_rfl
theorem entry_sub : entryFor table "re.Pattern.sub" = some Builtin.«re.Pattern.sub» := entryFor_of_tree (by kernel_rfl)
theorem entry_loop : entryFor table "re.Pattern.sub.loop" = some Builtin.«re.Pattern.sub.loop» := entryFor_of_tree (by kernel_rfl)
theorem args_sub (a b c : Value) : argsOk "re.Pattern.sub" ⟨[a, b, c], []⟩ := by
  unfold argsOk; kernel_rfl
theorem fn_call : typeLookup (.type "function") "__call__" = pure (some (.builtin "function.__call__")) := by rw [typeLookup_type, builtinLookup_eq_fast]; kernel_rfl
theorem sub_str_ba : isSubtype (.type "str") (.type "bytearray") = pure false := by rw [isSubtype_type]; kernel_rfl
noncomputable abbrev codeN : Array Nat := #[14, 14, 4, 1, 1, 9, 0, 64, 0, 1342177280, 0, 0, 0, 0, 0, 17, 0, 13, 11, 9, 0, 64, 0, 1342177280, 0, 0, 0, 0, 0, 17, 1, 1]
noncomputable def srch (a : Nat) : Sre.M := Sre.forSearch codeN #[a] 1 0 1 false
theorem srch_fails {a : Nat} (ha : a ∈ [42, 63, 91]) : ∃ m, (srch a).runFor 4 = m ∧ m.outcome = some .failed := by
  refine ⟨_, rfl, ?_⟩
  simp only [List.mem_cons, List.not_mem_nil, or_false] at ha
  rcases ha with rfl | rfl | rfl
  all_goals kernel_rfl
section
variable {prog : Program} {w : World} {A : Around} {E : Value → Shared → Prop} {s : Shared}
theorem run_none {m : Sre.M} {Q : Option Sre.M → Shared → Prop} (hm : (m.runFor 4).outcome = some .failed) (h : Q none s) : wpAny (model prog w) A (reRunToEnd m) Q E s := by
  unfold reRunToEnd
  refine wpAny_bind (m := reDrive (2 ^ 64) m) ?_
  rw [show (2 ^ 64 : Nat) = 18446744073709551615 + 1 from rfl]
  unfold reDrive
  dsimp only
  rw [show reTurnSteps = 4 from rfl]
  rw [if_pos (by rw [hm]; rfl)]
  refine wpAny_pure ?_
  refine wpAny_bind (wpAny_forIn_list _ (fun _ _ s' => s' = s) _ ?_ ?_ _ _ rfl)
  · rintro x rest b s' rfl
    split
    · exact wpAny_bind (wpAny_rule (wpAny_pure rfl))
    · exact wpAny_pure rfl
  · rintro b s' rfl
    rw [hm]
    exact wpAny_pure h
theorem whole_target {a : Nat} {t : Tok} {Q : ReTarget → Shared → Prop} (hp : s.heap.get? 36 = some patObj) (hc : s.heap.get? 35 = some codeObj)
    (h : Q { pattern := .ref 36, string := .str ⟨#[a]⟩ t, code := codeN, text := #[a], kind := 0, groups := 1, pos := 0, lim := 1 } s) : wpAny (model prog w) A (reWholeTarget (.ref 36) (.str ⟨#[a]⟩ t)) Q E s := by
  unfold reWholeTarget
  refine wpAny_bind (wpAny_fieldsOf hp rfl ?_)
  refine wpAny_bind (wpAny_of_eq (a := (#[a], 0)) (by rfl) ?_)
  dsimp only
  rw [if_neg (by decide)]
  rw [if_neg (by decide)]
  refine wpAny_bind (wpAny_of_eq (a := ()) (by rfl) ?_)
  refine wpAny_bind (m := reRawItems (.ref 35)) (wpAny_bind (wpAny_seqItems hc rfl (wpAny_pure ?_)))
  refine wpAny_pure ?_
  have e : Array.map (fun x => Int.toNat x) (Array.map reRawOf ((some (#[.int 14 0, .int 14 0, .int 4 0, .int 1 0, .int 1 0, .int 9 0, .int 0 0, .int 64 0, .int 0 0, .int 1342177280 0, .int 0 0, .int 0 0, .int 0 0, .int 0 0, .int 0 0, .int 17 0, .int 0 0, .int 13 0, .int 11 0, .int 9 0, .int 0 0, .int 64 0, .int 0 0, .int 1342177280 0, .int 0 0, .int 0 0, .int 0 0, .int 0 0, .int 0 0, .int 17 0, .int 1 0, .int 1 0] : Array Value)).getD #[])) = codeN := by decide +kernel
  rw [e]
  exact h
theorem sub_loop {a : Nat} {t : Tok} {lam l : Addr} {R : Result → Shared → Prop} (ha : a ∈ [42, 63, 91]) (hp : s.heap.get? 36 = some patObj) (hc : s.heap.get? 35 = some codeObj) (hl : s.heap.get? l = some (lobj [] 0))
    (h : ∀ t' h' k, (∀ b o, b ≠ l → s.heap.get? b = some o → h'.get? b = some o) → R (.ok (.ret (.str ⟨#[a]⟩ t'))) { s with heap := h', toks := k }) :
    codeAny (model prog w) A (.builtin "re.Pattern.sub.loop" ⟨[.ref 36, .str ⟨#[a]⟩ t, .ref lam, rawInt 1, rawInt 0, rawInt 0, rawInt 0, rawInt 0, .bool false, .ref l, .bool false], []⟩) R s := by
  refine codeAny_builtin entry_loop ?_
  unfold Builtin.«re.Pattern.sub.loop»
  dsimp only [rawInt]
  refine wpAny_bind (whole_target hp hc ?_)
  dsimp only
  rw [if_neg (by decide), if_neg (by decide)]
  obtain ⟨m, hm1, hm2⟩ := srch_fails ha
  refine wpAny_bind (run_none (m := srch a) (by rw [hm1, hm2]) ?_)
  dsimp only
  rw [if_pos (by decide)]
  have e1 : (⟨(#[a] : Array Nat).extract (Int.toNat 0) 1⟩ : Str) = ⟨#[a]⟩ := by simp
  have e2 : (⟨(#[a] : Array Nat).extract 0 0⟩ : Str) = ⟨#[]⟩ := by simp
  unfold reSlice
  rw [if_pos (by decide), if_pos (by decide), e1, e2]
  have z1 : (⟨#[a]⟩ : Str).length ≤ sizeLine := by rw [sizeLine_eq]; simp [Str.length]
  refine wpAny_bind (wpAny_mkStr ?_ z1)
  refine wpAny_bind (wpAny_updateSeq hl rfl ?_)
  have hu : (s.heap.update l (Obj.mapSeq fun x => x.push (Value.str ⟨#[a]⟩ s.toks))).get? l = some (lobj [.str ⟨#[a]⟩ s.toks] 1) := by
    rw [Heap.get?_update_self _ hl (by rw [mapSeq_push]; rfl), mapSeq_push]
    rfl
  have hsb : Heap.SameBut l s.heap (s.heap.update l (Obj.mapSeq fun x => x.push (Value.str ⟨#[a]⟩ s.toks))) := Heap.SameBut.update ..
  refine wpAny_bind (wpAny_mkStr ?_ (by rw [sizeLine_eq]; decide))
  refine wpAny_bind (wpAny_seqItems hu rfl ?_)
  rw [if_neg (by simp)]
  refine wpAny_bind ?_
  rw [if_pos (by decide)]
  refine join_list (items := #[.str ⟨#[a]⟩ s.toks]) (ys := [⟨#[a]⟩]) ⟨_, hu, rfl, _, rfl⟩ (.cons _ _ .nil) (by simp [Str.length]) fun t' k => ?_
  rw [if_neg (by decide)]
  have ej : Txt.join ⟨#[]⟩ [⟨#[a]⟩] = (⟨#[a]⟩ : Str) := by
    show Builtin.Str.glued _ _ = _
    rw [StrLaws.glued_eq_join]; rfl
  rw [ej]
  exact wpAny_pure (h _ _ _ fun b o hb e => hsb.extBut b o hb e)
theorem quiet_loop {as : Args} : (Code.builtin "re.Pattern.sub.loop" as).quiet = true := Code.quiet_builtin _ (by decide +kernel)
theorem sub_entry {a : Nat} {t : Tok} {lam : Addr} {ol : Obj} {R : Result → Shared → Prop} (ha : a ∈ [42, 63, 91]) (hp : s.heap.get? 36 = some patObj) (hc : s.heap.get? 35 = some codeObj) (hl : s.heap.get? lam = some ol) (hf : ol.cls = .type "function")
    (h : ∀ t' h' k, (∀ b o, s.heap.get? b = some o → h'.get? b = some o) → R (.ok (.ret (.str ⟨#[a]⟩ t'))) { s with heap := h', toks := k }) :
    wpAny (model prog w) A.in1 (Builtin.«re.Pattern.sub» ⟨[.ref 36, .ref lam, .str ⟨#[a]⟩ t], []⟩) (fun fin s' => match fin with | .done f => R (.ok f) s' | .again c' => c'.quiet = true ∧ codeAny (model prog w) A c' R s') (fun e s' => R (.error e) s') s := by
  have hT : s.TypeIs (.ref lam) "function" := ⟨ol, hl, hf⟩
  unfold Builtin.«re.Pattern.sub» reSubstitute
  dsimp only
  refine wpAny_bind (wpAny_of_eq (a := [some (.ref lam), some (.str ⟨#[a]⟩ t), none]) (by rfl) ?_)
  dsimp only
  refine wpAny_bind (wpAny_pure ?_)
  refine wpAny_bind (wpAny_specialOf hT fn_call ?_)
  rw [if_pos (by rfl)]
  refine wpAny_bind (wpAny_pure ?_)
  rw [if_pos (by rfl)]
  refine wpAny_bind (wpAny_pure ?_)
  dsimp only
  refine wpAny_bind (wpAny_holding (whole_target hp hc ?_))
  rw [if_pos (by decide)]
  refine wpAny_bind (m := reNotHeld "re.Pattern.sub" (.str ⟨#[a]⟩ t)) ?_
  unfold reNotHeld
  refine wpAny_bind (wpAny_isInstance (typeIs_str _ _ _) sub_str_ba ?_)
  rw [if_neg (by decide)]
  refine wpAny_pure ?_
  unfold newList
  refine wpAny_bind (wpAny_newObj_type ?_)
  refine wpAny_pure ⟨quiet_loop, ?_⟩
  refine sub_loop (s := { s with heap := s.heap.push { cls := .type "list", data := .seq #[] } }) ha (Heap.get?_push_of_some _ hp) (Heap.get?_push_of_some _ hc) (Heap.get?_push_size _ rfl) fun t' h' k hk => ?_
  exact h t' h' k fun b o e => hk b o (Nat.ne_of_lt (Heap.lt_size e)) (Heap.get?_push_of_some _ e)
end
section
variable {w : World} {α β : Type} {lv : Nat} {ev : Env} {ns : List Str} {gs : List (Str × Value)} {c : Fx w lv ev ns gs} {vs : Vs} {n : Led} {h : Heap} {tk : Nat} {E : Value → Shared → Prop} {env : Env} {pl : Sem Bool}
theorem WP.m_sub {Q : Value × List Value → Vs → Led → Prop} (hQ : Q (.builtin "re.Pattern.sub", [.ref 36]) vs n) : WP w lv ev ns gs vs n (getMethod (.ref 36) "sub" pl) Q :=
  WP.mk fun c E h tk I => by
    have hp : (At c h tk).heap.get? 36 = some patObj := I.1.keep _ _ (c.X _ _ patt_obj)
    exact getMethod_builtin ⟨_, hp, rfl⟩ plain_pat slot_sub type_sub (fun a e => by cases e; exact ⟨_, hp, rfl⟩) (Post.ok I hQ)
theorem WP.sub_ {a : Nat} {t : Tok} {lam : Addr} {ol : Obj} {Q : Value → Vs → Led → Prop} (ha : a ∈ [42, 63, 91]) (hm : (lam, ol) ∈ n) (hf : ol.cls = .type "function") (hQ : ∀ t, Q (.str (T [a]) t) vs n) :
    WP w lv ev ns gs vs n (call (.builtin "re.Pattern.sub") [.ref 36, .ref lam, .str (T [a]) t]) Q :=
  WP.mk fun c E h tk I => by
    have hp : (At c h tk).heap.get? 36 = some patObj := I.1.keep _ _ (c.X _ _ patt_obj)
    have hc : (At c h tk).heap.get? 35 = some codeObj := I.1.keep _ _ (c.X _ _ code_obj)
    refine wpAny_call (codeAny_call_builtin slot_sub.plain entry_sub (slot_sub.check _ _ _ _ _ _ _ _ ⟨_, hp, rfl⟩ (args_sub _ _ _) ?_))
    refine sub_entry (A := c.A) (R := wants (Post c Q) E) ha hp hc (I.get hm) hf fun t' h' k hk => ?_
    exact (Post.ok (h := h') (tk := k) (I.grown hk) (hQ t') : Post c Q _ _)
end
end Mine
end
section
open PySem PySem.W PyProof.Rows PySem.Calls PyProof.V
namespace Mine
noncomputable def TabOk (ps : Array Value) : Prop := ps = #[] ∨ ∃ c', ps = #[rawInt 58, rawInt 39, .ref c']
theorem hd_code {w : World} : codeHdIn (Mine.hd.heap_1 w.params) 54 50 = true := by
  have kf : PySem.Challenge.rw_rx0094_01 = PySem.Challenge.rw_rx0094_01 ∧ Mine.hd.heap_1 w.params = Mine.hd.heap_1 w.params := ⟨rfl, rfl⟩
  revert kf
  k_fill
  intro kf
  have : ∃ o, (Mine.hd.heap_1 w.params).lookup 54 = some o ∧ codeHdIn [(54, o)] 54 50 = true := by
    refine' obj_ex ?a ?b
    case a => k_is
    decide +kernel
  obtain ⟨o, h1, h2⟩ := this
  unfold codeHdIn at h2 ⊢
  rw [h1]
  exact h2
theorem UpF.keys {d : Addr} {o o' : Obj} {n : Led} {g : Obj → Led} (U : UpF d o n g) : (g o').map (·.1) = n.map (·.1) := by
  obtain ⟨a, b, e, f⟩ := U.split
  rw [f o', e]; simp
theorem UpF.same {d : Addr} {o : Obj} {n : Led} {g : Obj → Led} (U : UpF d o n g) : g o = n := by
  obtain ⟨a, b, e, f⟩ := U.split
  rw [f o, e]
section
variable {w : World} {lv : Nat} {ns : List Str} {gs : List (Str × Value)} {vs : Vs} {n : Led} {pl : Sem Bool}
theorem WP.lambda {params : Arguments} {body : PySem.Expr} {scope : Scope} {pos : Pos} {cn : Str} {cs : Scope} {L a : Addr} {g : Obj → Led} {ps0 : Array Value} {Q : Value → Vs → Led → Prop} (U : UpF 50 (tabObj ps0) n g) (hT : TabOk ps0)
    (hpos : pos.line = 58 ∧ pos.col = 39) (hdef : defaultsOf params (envOf cn cs L a (.ref 54)) = ([], [])) (hcl : closureFor scope (envOf cn cs L a (.ref 54)) = Pure.pure [])
    (hQ : ∀ f ol ps', ol.cls = .type "function" → TabOk ps' → Q (.ref f) vs ((f, ol) :: g (tabObj ps'))) :
    WP w lv (envOf cn cs L a (.ref 54)) ns gs vs n (eval (.Lambda params body scope pos) (envOf cn cs L a (.ref 54))) Q := by
  refine WP.mk fun c E h tk I => kla_eval hdef ?_
  have C : CodeHd c.h₀ 54 50 := codeHd_of_K c.X hd_code
  have ok : ∀ f (ol : Obj) o', (∀ q ∈ n ++ c.hid, q.1 < f) → Ok ((f, ol) :: g o') c.hid := fun f ol o' hlt => ⟨by
    rw [List.cons_append, List.map_cons]
    have hk : (g o' ++ c.hid).map (·.1) = (n ++ c.hid).map (·.1) := by rw [List.map_append, List.map_append, U.keys]
    rw [hk]
    refine List.nodup_cons.mpr ⟨fun hm => ?_, I.2.2.nd⟩
    obtain ⟨q, hq, e⟩ := List.mem_map.mp hm
    exact absurd (hlt q hq) (by rw [e]; exact Nat.lt_irrefl _)⟩
  rcases hT with rfl | ⟨c', rfl⟩
  · refine kla_nest (s := At c h tk) I.1 I.2.1 c.T C rfl (U.upd I.2.2) trivial rfl hcl fun f c' oc vs' t ctv h' tk' F N _ _ hlt hlt2 => ?_
    generalize ho : kla_obj _ _ _ _ _ _ _ _ _ = ol at N
    have hc : ol.cls = .type "function" := by rw [← ho]
    rw [hpos.1, hpos.2] at N
    refine Post.ok (h := h') (tk := tk') ⟨F, fun p hp => N p ?_, ok f ol _ fun q hq => Nat.lt_trans (hlt q hq) hlt2⟩ (hQ f ol #[rawInt 58, rawInt 39, .ref c'] hc (.inr ⟨c', rfl⟩))
    rw [List.cons_append] at hp
    rcases List.mem_cons.mp hp with rfl | hp
    · exact .head _
    · exact .tail _ (.tail _ hp)
  · have hf : codeAmong pos (#[rawInt 58, rawInt 39, Value.ref c'] : Array Value).toList = some (.ref c') := by
      show (if (58 : Int) == pos.line && (39 : Int) == pos.col then some (Value.ref c') else codeAmong pos []) = _
      rw [hpos.1, hpos.2]; rfl
    refine kla_hit (s := At c h tk) I.1 I.2.1 c.T C rfl (List.mem_append_left _ U.mem) trivial hf hcl fun f ctv h' tk' F N hlt => ?_
    have es := U.same
    generalize ho : kla_obj _ _ _ _ _ _ _ _ _ = ol at N
    have hc : ol.cls = .type "function" := by rw [← ho]
    refine Post.ok (h := h') (tk := tk') ⟨F, fun p hp => N p ?_, ok f ol _ hlt⟩ (hQ f ol _ hc (.inr ⟨c', rfl⟩))
    rw [List.cons_append, es] at hp
    exact hp
end
end Mine
end
section
open PySem PySem.W PyProof.Rows PySem.Calls PyProof.V
namespace Mine
section
variable {w : World} {lv : Nat} {ev : Env} {ns : List Str} {gs : List (Str × Value)} {vs : Vs} {n : Led} {pl : Sem Bool}
theorem WP.truthy_list {l : Addr} {its : List Value} {k : Nat} {Q : Bool → Vs → Led → Prop} (hm : (l, lobj its k) ∈ n) (hz : its.length ≤ sizeLine) (hQ : Q (!its.isEmpty) vs n) : WP w lv ev ns gs vs n (truthy (.ref l)) Q :=
  WP.mk fun c E h tk I => wpAny_truthy_list (s := At c h tk) (I.list hm) (by rw [List.size_toArray]; rw [sizeLine_eq] at hz; omega) (by rw [List.isEmpty_toArray]; exact Post.ok (tk := _) I hQ)
theorem WP.in_tup {l : Addr} {its : List Value} {k : Nat} {ys : List Str} {x : Str} {u : Tok} {Q : Value → Vs → Led → Prop} (hm : (l, tobj its k) ∈ n) (hi : StrsAre its ys) (hQ : Q (.bool (ys.any (· == x))) vs n) : WP w lv ev ns gs vs n (compareOp .In (.str x u) (.ref l)) Q :=
  WP.mk fun c E h tk I => in_tuple_strs (s := At c h tk) (I.tup hm) (by simpa using hi) (Post.ok I hQ)
theorem WP.str_at {value slice : PySem.Expr} {l : List Nat} {iv : Int} {i a : Nat} {t u : Tok} {Q : Value → Vs → Led → Prop} (hi : iv = (i : Int)) (h : l[i]? = some a) (hz : l.length ≤ 10000000) (hQ : ∀ t, Q (.str (T [a]) t) vs n)
    (hs : subscripted slice false (.str (T l) t) (.int iv u) = operate [.str (T l) t, .int iv u] (getItem (.str (T l) t) (.int iv u)) := by with_unfolding_all rfl) : WP w lv ev ns gs vs n (subscriptTail value slice (.str (T l) t) (.int iv u)) Q := by
  subst hi
  have hl : i < l.length := (List.getElem?_eq_some_iff.mp h).1
  have hf : fitsSsize (i : Int) = true := by
    simp only [fitsSsize, Bool.and_eq_true, Bool.not_eq_true', Bool.or_eq_false_iff, decide_eq_true_eq, decide_eq_false_iff_not]
    omega
  refine WP.str_item hf (by rw [T_len]; omega) (by rw [T_len]; omega) (fun t' => ?_) hs
  rw [item_at l i a h]
  exact hQ t'
theorem UpF.again {d : Addr} {o o' : Obj} {n : Led} {g : Obj → Led} (U : UpF d o n g) : UpF d o' (g o') g := by
  induction U with
  | here => exact .here
  | there _ ih => exact .there ih
  | past _ ih => exact .past ih
theorem WP.lambda' {params : Arguments} {body : PySem.Expr} {scope : Scope} {pos : Pos} {cn : Str} {cs : Scope} {L a : Addr} {g : Obj → Led} {ps0 : Array Value} {Q : Value → Vs → Led → Prop} (hev : envOf cn cs L a (.ref 54) = ev) (U : UpF 50 (tabObj ps0) n g) (hT : TabOk ps0)
    (hpos : pos.line = 58 ∧ pos.col = 39) (hdef : defaultsOf params (envOf cn cs L a (.ref 54)) = ([], [])) (hcl : closureFor scope (envOf cn cs L a (.ref 54)) = Pure.pure [])
    (hQ : ∀ f ol ps', ol.cls = .type "function" → TabOk ps' → Q (.ref f) vs ((f, ol) :: g (tabObj ps'))) : WP w lv ev ns gs vs n (eval (.Lambda params body scope pos) ev) Q := by
  subst hev
  exact WP.lambda U hT hpos hdef hcl hQ
end
theorem sq_facts {a : Nat} (ha : a ∈ [42, 63, 91]) : decide (T [a] = Str.ofString "!") = false ∧ decide (T [a] = Str.ofString "]") = false ∧ Txt.contains (T [a]) (Str.ofString "-") = false ∧ (Builtin.Str.occurrences (T [a]) (Str.ofString "\\") 0 (T [a]).length ((T [a]).length + 1)).isEmpty = true := by
  simp only [List.mem_cons, List.not_mem_nil, or_false] at ha
  rcases ha with rfl | rfl | rfl <;> decide +kernel
theorem lit_facts {a : Nat} (ha : a ∈ [58, 40, 41, 123, 125, 93, 33, 45, 46, 94, 92, 124]) : decide (T [a] = Str.ofString "*") = false ∧ decide (T [a] = Str.ofString "?") = false ∧ decide (T [a] = Str.ofString "[") = false := by
  simp only [List.mem_cons, List.not_mem_nil, or_false] at ha
  rcases ha with rfl | rfl | rfl | rfl | rfl | rfl | rfl | rfl | rfl | rfl | rfl | rfl <;> decide +kernel
end Mine
end
section
open PySem PySem.W PyProof.Rows PySem.Calls PyProof.V
namespace Mine
theorem lookup_relabel {env : Env} : ∀ {names : List (Str × NameKind)} {x : Str} {k : NameKind}, names.lookup x = some k →
    (names.map fun (n, k) => if (k == NameKind.free && env.scope.kind == .function && env.kindOf n == some .cell) then (n, NameKind.cell) else (n, k)).lookup x = some (if (k == NameKind.free && env.scope.kind == .function && env.kindOf x == some .cell) then NameKind.cell else k)
  | [], _, _, h => by simp at h
  | (n, k') :: r, x, k, h => by
    have ih := @lookup_relabel env r x k
    show List.lookup x ((if (k' == NameKind.free && env.scope.kind == .function && env.kindOf n == some .cell) = true then (n, NameKind.cell) else (n, k')) :: _) = _
    cases hx : x == n with
    | true =>
      simp only [List.lookup_cons, hx] at h
      cases h
      have e : x = n := by simpa using hx
      subst e
      split <;> simp [List.lookup_cons]
    | false =>
      simp only [List.lookup_cons, hx] at h
      have := ih h
      split <;> (simp only [List.lookup_cons, hx]; exact this)
section
variable {w : World} {lv : Nat} {ev : Env} {ns : List Str} {gs : List (Str × Value)} {vs : Vs} {n : Led} {pl : Sem Bool}
theorem WP.cglobK {x : Str} {v : Value} {pos : Pos} {scope : Scope} {cl : List (Str × Addr)} {C : Addr} {Q : Value → Vs → Led → Prop} (e : nsIn (Mine.hd.heap_1 w.params) mainGlobals x = some (some v)) (hQ : Q v vs n) (hk : (compEnvC scope cl C ev).scope.kind = .function := by with_unfolding_all rfl) (hl : scope.names.lookup x = some .globalImplicit := by with_unfolding_all rfl)
    (hb : (x == ("__debug__" : Str)) = false := by decide) : WP w lv ev ns gs vs n (eval (.Name x pos) (compEnvC scope cl C ev)) Q := by
  refine ⟨fun c E hp tk I => ?_⟩
  have hx : (compEnvC scope cl C ev).kindOf x = some .globalImplicit := lookup_relabel hl
  refine Calls.Name_function_global hk hx ?_ hb
  have hg : hp.Ns (compEnvC scope cl C ev).globals c.mg := by show hp.Ns ev.globals _; exact c.eg ▸ (c.T.g.keeps I.1.keep)
  exact Calls.loadGlobal_global hg (mg_of c.X c.T.g e) (Post.ok I hQ)
theorem WP.cglobB {x : Str} {v : Value} {pos : Pos} {scope : Scope} {cl : List (Str × Addr)} {C : Addr} {Q : Value → Vs → Led → Prop} (e : nsIn (Mine.hd.heap_1 w.params) mainGlobals x = some none) (hv : bootBuiltins x = some v) (hn : x ≠ "__name__") (hQ : Q v vs n) (hk : (compEnvC scope cl C ev).scope.kind = .function := by with_unfolding_all rfl) (hl : scope.names.lookup x = some .globalImplicit := by with_unfolding_all rfl)
    (hb : (x == ("__debug__" : Str)) = false := by decide) : WP w lv ev ns gs vs n (eval (.Name x pos) (compEnvC scope cl C ev)) Q := by
  refine ⟨fun c E hp tk I => ?_⟩
  have hx : (compEnvC scope cl C ev).kindOf x = some .globalImplicit := lookup_relabel hl
  refine Calls.Name_function_global hk hx ?_ hb
  have hg : hp.Ns (compEnvC scope cl C ev).globals c.mg := by show hp.Ns ev.globals _; exact c.eg ▸ (c.T.g.keeps I.1.keep)
  exact Calls.loadGlobal_builtin hg (mg_none_of c.X c.T.g e) (by show hp.Ns ev.builtins _; exact c.eb ▸ (c.T.b.keeps I.1.keep)) ((c.T.builtins x hn).trans hv) (Post.ok I hQ)
theorem WP.ccellF {x : Str} {v : Value} {pos : Pos} {scope : Scope} {cl : List (Str × Addr)} {C cc : Addr} {o : Obj} {Q : Value → Vs → Led → Prop} (hl : scope.names.lookup x = some .free) (hc : cl.lookup x = some cc) (hx : ev.kindOf x = some .cell) (hm : (cc, o) ∈ n) (hd : o.data = .cell (some v)) (hQ : Q v vs n)
    (hk : (compEnvC scope cl C ev).scope.kind = .function := by with_unfolding_all rfl) (hb : (x == ("__debug__" : Str)) = false := by decide) : WP w lv ev ns gs vs n (eval (.Name x pos) (compEnvC scope cl C ev)) Q :=
  WP.mk fun c E h tk I => lcf_cell I.2.1 hc (List.mem_append_left _ hm) hd (Post.ok I hQ) hk (by
    have := lookup_relabel (env := ev) hl
    rw [show (NameKind.free == NameKind.free && ev.scope.kind == ScopeKind.function && ev.kindOf x == some NameKind.cell) = true by rw [c.kind, hx]; decide, if_pos rfl] at this
    exact this) hb
theorem UpF.stay {d a : Addr} {o o' x : Obj} {n : Led} {g : Obj → Led} (U : UpF d o n g) (hm : (a, x) ∈ n) (hne : x ≠ o) : (a, x) ∈ g o' := by
  obtain ⟨p, q, e, f⟩ := U.split
  rw [e] at hm
  rw [f o']
  rcases List.mem_append.mp hm with h | h
  · exact List.mem_append_left _ h
  · rcases List.mem_cons.mp h with h | h
    · cases h; exact absurd rfl hne
    · exact List.mem_append_right _ (.tail _ h)
theorem IsTab.ne_tab {d : Addr} {o : Obj} {t : Tab} {ps : Array Value} (h : IsTab w d o t) : o ≠ tabObj ps := fun e => by
  have := h.cls
  rw [e] at this
  exact Value.noConfusion this
end
end Mine
end
section
open PySem PySem.W PyProof.Rows PySem.Calls PyProof.V
namespace Mine
local macro_rules | `(tactic| walk_at "M.bindm") => `(tactic| (show _ = lkm _ _ _; simp only [lkm]; rfl))
local macro_rules | `(tactic| walk_at "M.mem") => `(tactic| first | with_reducible assumption | with_reducible apply List.mem_cons_self | (with_reducible apply List.mem_cons_of_mem; walk_at "M.mem") | (with_reducible apply List.mem_append_right; walk_at "M.mem") | (with_reducible apply List.mem_append_left; walk_at "M.mem"))
local macro_rules | `(tactic| walk_at "M.lk") => `(tactic| first | with_reducible apply Lk.here | (with_reducible apply Lk.there; walk_at "M.lk"))
local macro_rules | `(tactic| walk_at "M.st") => `(tactic| first | with_reducible apply St.here | (with_reducible apply St.there; walk_at "M.st"))
local macro_rules | `(tactic| walk_at "M.up") => `(tactic| first | with_reducible apply UpF.here | (with_reducible apply UpF.there; walk_at "M.up") | (with_reducible apply UpF.past; walk_at "M.up"))
local macro_rules | `(tactic| walk_at "M.glob") => `(tactic| first | with_reducible apply List.mem_cons_self | (with_reducible apply List.mem_cons_of_mem; walk_at "M.glob"))
local macro_rules | `(tactic| walk_at "M.sz") => `(tactic| first | with_reducible assumption | (simp only [sizeLine_eq, strLen_append]; omega) | (simp only [sizeLine_eq, strLen_append] at *; omega))
local macro_rules | `(tactic| walk_at "M.part") => `(tactic| first | apply IsPart.none | apply IsPart.int)
local macro_rules | `(tactic| walk_at "M.subl") => `(tactic| first | apply List.Sublist.refl | (apply List.Sublist.cons; walk_at "M.subl") | (apply List.Sublist.cons_cons; walk_at "M.subl"))
local macro_rules | `(tactic| walk_at "M.sublc") => `(tactic| first | apply List.Sublist.refl | (apply List.Sublist.cons_cons; walk_at "M.subl") | (apply List.Sublist.cons; walk_at "M.sublc"))
local macro_rules | `(tactic| walk_at "P") => `(tactic| ((fail_if_success (with_reducible show WP _ _ _ _ _ _ _ (exec (Stmt.Assign [Expr.Name _ _] _ _) _) _)); walk_at "N"))
local macro_rules | `(tactic| walk_at "M.exec") => `(tactic| first | with_reducible refine WP.assign_ ?_ | with_reducible refine WP.if_ ?_ | with_reducible refine WP.return_ ?_ | with_reducible refine WP.aug (by walk_at "M.lk") ?_ | with_reducible refine WP.assign_sub ?_ | with_reducible refine WP.aug_sub ?_ | with_reducible refine WP.assign_tup ?_ | with_reducible refine WP.Expr_ ?_ | with_reducible refine WP.assert_ ?_ | with_reducible refine WP.break_ ?_)
local macro_rules | `(tactic| walk_at "M.eval") => `(tactic| first | with_reducible refine WP.local_ (by walk_at "M.lk") ?_ | (with_reducible refine WP.int_ ?_; intro _) | (with_reducible refine WP.str_ ?_; intro _) | with_reducible refine WP.global_ (by walk_at "M.glob") ?_ | with_reducible refine WP.bool_ ?_ | with_reducible refine WP.method ?_ | with_reducible refine WP.call_ ?_ | with_reducible refine WP.binop_ ?_ | with_reducible refine WP.subscript_ ?_ | with_reducible refine WP.compare_ ?_ | with_reducible refine WP.unary_ ?_ | with_reducible refine WP.slice_ ?_ | with_reducible refine WP.tuple_ ?_ | with_reducible refine WP.list_ ?_ | (with_reducible refine WP.dict_empty ?_; intro _ _ _) | (with_reducible refine WP.dict_one ?_; intro _ _ _) | with_reducible refine WP.joined ?_ | with_reducible refine WP.formatted ?_ | with_reducible refine WP.ifexp_ ?_ | with_reducible refine WP.attr_append ?_ | with_reducible refine WP.cvar (by walk_at "M.mem") (by assumption) (by assumption) ?_ | with_reducible refine WP.ccell (by with_unfolding_all rfl) (by walk_at "M.mem") (by assumption) ?_ | with_reducible refine WP.cglob (by walk_at "M.glob") ?_ | with_reducible refine WP.cell_ (by walk_at "M.mem") (by assumption) ?_ (by with_unfolding_all rfl) (by with_unfolding_all rfl))
local macro_rules | `(tactic| walk_at "M.spliced") => `(tactic| first | with_reducible refine WP.items_nil ?_ | with_reducible refine WP.items_cons ?_)
local macro_rules | `(tactic| walk_at "M.isTrue") => `(tactic| first | with_reducible refine WP.isTrue_Compare ?_ | with_reducible refine WP.isTrue_And ?_ | with_reducible refine WP.isTrue_Not ?_ | with_reducible refine WP.isTrue_value ?_)
local macro_rules | `(tactic| walk_at "M.allTrue") => `(tactic| first | with_reducible refine WP.and_cons ?_ | with_reducible refine WP.and_nil ?_ | with_reducible refine WP.or_cons ?_ | with_reducible refine WP.or_nil ?_)
local macro_rules | `(tactic| walk_at "M.evalPart") => `(tactic| first | with_reducible refine WP.part_none ?_ | with_reducible refine WP.part_some ?_)
local macro_rules | `(tactic| walk_at "M.callWith") => `(tactic| first | with_reducible refine WP.callK (by k_is) ?_ | with_reducible refine WP.callE ?_ | with_reducible refine WP.callM ?_ | with_reducible refine WP.callB0 ?_ | with_reducible refine WP.callT ?_)
local macro_rules | `(tactic| walk_at "M.assign") => `(tactic| first | with_reducible refine WP.a_name (by walk_at "M.st") ?_)
local macro_rules | `(tactic| walk_at "M.truthy") => `(tactic| first | with_reducible refine WP.truthy_bool ?_)
local macro_rules | `(tactic| walk_at "M.inplaceOp") => `(tactic| first | (with_reducible refine WP.iadd_int ?_; intro _))
local macro_rules | `(tactic| walk_at "M.binaryOp") => `(tactic| first | (with_reducible refine WP.add_int ?_; intro _) | (with_reducible refine WP.sub_int ?_; intro _) | (with_reducible refine WP.and_int ?_; intro _))
local macro_rules | `(tactic| walk_at "M.unaryOp") => `(tactic| first | (with_reducible refine WP.neg_int ?_; intro _))
local macro_rules | `(tactic| walk_at "M.getMethod") => `(tactic| first | with_reducible refine WP.m_startswith ?_ | with_reducible refine WP.m_endswith ?_ | with_reducible refine WP.m_find ?_ | with_reducible refine WP.m_join ?_ | with_reducible refine WP.m_replace ?_ | with_reducible refine WP.m_count (by walk_at "M.mem") ?_ | with_reducible refine WP.m_append (by walk_at "M.mem") ?_ | with_reducible refine WP.m_dict_get (by walk_at "M.mem") (by assumption) ?_ | with_reducible refine WP.m_dict (by walk_at "M.mem") (by assumption) PySem.F.slot_dict_items PySem.F.type_dict_items ?_ | with_reducible refine WP.m_dict (by walk_at "M.mem") (by assumption) PySem.F.slot_dict_values PySem.F.type_dict_values ?_)
local macro_rules | `(tactic| walk_at "M.call") => `(tactic| first | with_reducible refine WP.startswith ?_ | with_reducible refine WP.endswith ?_ | (with_reducible refine WP.find3 ?_; intro _) | with_reducible refine WP.isi_int_tuple ?_ | with_reducible refine WP.isi_str_str ?_ | (with_reducible refine WP.range1 ?_; intro _ _ _) | (with_reducible refine WP.dict_get (by walk_at "M.mem") (by assumption) ?_; intro _) | (with_reducible refine WP.c_items (by walk_at "M.mem") (by assumption) ?_; intro _) | (with_reducible refine WP.c_values (by walk_at "M.mem") (by assumption) ?_; intro _))
local macro_rules | `(tactic| walk_at "M.subscriptTail") => `(tactic| first | (with_reducible refine WP.str_cut (by walk_at "M.part") (by walk_at "M.part") (by walk_at "M.sz") ?_; intro _) | with_reducible refine WP.tup_item (by walk_at "M.mem") (by decide) (by decide) rfl rfl ?_ | (with_reducible refine WP.tup_upto2 (by walk_at "M.mem") ?_; intro _))
local macro_rules | `(tactic| walk_at "M.compareOp") => `(tactic| first | with_reducible refine WP.eq_tup (by walk_at "M.mem") (by walk_at "M.mem") ?_ | with_reducible refine WP.eq_str ?_ | with_reducible refine WP.ne_str ?_ | with_reducible refine WP.eq_int ?_ | with_reducible refine WP.ne_int ?_ | with_reducible refine WP.lt_int ?_ | with_reducible refine WP.le_int ?_ | with_reducible refine WP.gt_int ?_ | with_reducible refine WP.ge_int ?_ | with_reducible refine WP.in_str ?_ | with_reducible refine WP.notIn_str ?_ | with_reducible refine WP.isNot_ref_self ?_ | with_reducible refine WP.isNot_str_ref ?_ | with_reducible refine WP.is_ref_self ?_ | with_reducible refine WP.is_str_ref ?_ | with_reducible refine WP.dict_in (by walk_at "M.mem") (by assumption) ?_)
local macro_rules | `(tactic| walk_at "M.storeAll") => `(tactic| first | (with_reducible refine WP.store1 (by walk_at "M.up") (by assumption) ?_; intro _ _))
local macro_rules | `(tactic| walk_at "M.end") => `(tactic| first | with_reducible refine Seq.next ?_ | with_reducible refine Seq.ret ?_ | with_reducible refine Seq.brk ?_ | with_reducible refine Then.next ?_ | with_reducible refine Then.ret ?_ | with_reducible refine Then.brk ?_ | with_reducible refine Ret.ret ?_ | with_reducible refine LoopQ.next ?_ | with_reducible refine LoopQ.ret ?_ | with_reducible refine LoopQ.brk ?_ | (with_reducible refine' exSt ?mst ?_; (case mst => walk_at "M.st")) | with_reducible refine exB ?_ | ((with_reducible show ∀ a : Addr, _); intro _) | ((with_reducible show List.length _ ≤ sizeLine ∧ _); refine' And.intro ?msz ?_; (case msz => (simp only [sizeLine_eq, List.length_cons, List.length_nil]; omega))) | (first
  | with_reducible refine And.intro (fun _ => ?_) (fun h => Bool.noConfusion (h : true = false))
  | with_reducible refine And.intro (fun h => Bool.noConfusion (h : false = true)) (fun _ => ?_)
  | with_reducible refine And.intro (fun _ => ?_) (fun h => Bool.noConfusion (h : false = true))
  | with_reducible refine And.intro (fun h => Bool.noConfusion (h : true = false)) (fun _ => ?_)))
local macro_rules | `(tactic| walk_at "M") => `(tactic| first | ((with_reducible show WP _ _ _ _ _ _ _ (execs _ _) _); (first | with_reducible refine WP.execs_cons ?_ | with_reducible refine WP.execs_nil ?_)) | ((with_reducible show WP _ _ _ _ _ _ _ (exec _ _) _); walk_at "M.exec") | ((with_reducible show WP _ _ _ _ _ _ _ (eval _ _) _); walk_at "M.eval") | ((with_reducible show WP _ _ _ _ _ _ _ _ _); (first | ((with_reducible show WP _ _ _ _ _ _ _ (call _ _) _); walk_at "M.call") | ((with_reducible show WP _ _ _ _ _ _ _ (callWith _ _ _ _ _) _); walk_at "M.callWith") | ((with_reducible show WP _ _ _ _ _ _ _ (compareOp _ _ _) _); walk_at "M.compareOp") | ((with_reducible show WP _ _ _ _ _ _ _ (spliced _) _); walk_at "M.spliced") | ((with_reducible show WP _ _ _ _ _ _ _ (isTrue _ _ _) _); walk_at "M.isTrue") | ((with_reducible show WP _ _ _ _ _ _ _ (subscriptTail _ _ _ _) _); walk_at "M.subscriptTail") | ((with_reducible show WP _ _ _ _ _ _ _ (binaryOp _ _ _) _); walk_at "M.binaryOp") | ((with_reducible show WP _ _ _ _ _ _ _ (evalPart _ _) _); walk_at "M.evalPart") | ((with_reducible show WP _ _ _ _ _ _ _ (getMethod _ _ _) _); walk_at "M.getMethod") | ((with_reducible show WP _ _ _ _ _ _ _ (allTrue _ _ _) _); walk_at "M.allTrue") | ((with_reducible show WP _ _ _ _ _ _ _ (truthy _) _); walk_at "M.truthy") | ((with_reducible show WP _ _ _ _ _ _ _ (inplaceOp _ _ _) _); walk_at "M.inplaceOp") | ((with_reducible show WP _ _ _ _ _ _ _ (assign _ _ _) _); walk_at "M.assign") | ((with_reducible show WP _ _ _ _ _ _ _ (unaryOp _ _) _); walk_at "M.unaryOp") | ((with_reducible show WP _ _ _ _ _ _ _ (storeAll _ _) _); walk_at "M.storeAll"))) | ((fail_if_success (with_reducible show WP _ _ _ _ _ _ _ _ _)); walk_at "M.end"))
local macro_rules | `(tactic| walk_at "N") => `(tactic| ((fail_if_success (with_reducible show WP _ _ _ _ _ _ _ (exec (Stmt.If _ _ _ _) _) _)); walk_at "M"))
local macro_rules | `(tactic| walk_at "P") => `(tactic| ((fail_if_success (with_reducible show WP _ _ _ _ _ _ _ (exec (Stmt.Assign [Expr.Name _ _] _ _) _) _)); walk_at "N"))
section
variable {w : World}
theorem c83 {lv : Nat} {ev : Env} {ns : List Str} {gs : List (Str × Value)} {vs : Vs} {n : Led} {Q : Value → Vs → Led → Prop} {d : Addr} {o : Obj} {t : Tab} (hm : (d, o) ∈ n) (ht : IsTab w d o t) (hQ : ∀ tk, Q (.int (t.map (·.2)).sum tk) vs n) :
    WP w (lv + 1) ev ns gs vs n (call (.ref 83) [.ref d]) Q := by
  have kf : PySem.Challenge.rw_rx0094_01 = PySem.Challenge.rw_rx0094_01 ∧ Mine.hd.heap_1 w.params = Mine.hd.heap_1 w.params := ⟨rfl, rfl⟩
  revert kf
  k_fill
  intro kf
  refine' WP.enter (ns' := [PySem.Str.ofString "callers", PySem.Str.ofString "nc", PySem.Str.ofString "calls"]) (vs' := [some (.ref d), none, none]) [(PySem.Str.ofString "callers", .ref d)] [PySem.Str.ofString "nc", PySem.Str.ofString "calls"] [] ?k1 ?k2 ?k3 ?k4 rfl rfl ?k5 ?k6 ?k7 ?k8 ?k9 ?k10 ?k11 ?_
  case k1 => k_is
  case k2 => k_is
  case k3 => rfl
  case k4 => rfl
  case k5 => decide
  case k6 => decide
  case k7 => exact fun q hq => nomatch hq
  case k8 => rfl
  case k9 => rfl
  case k10 => rfl
  case k11 => decide
  intro L
  clear kf
  generalize hev : envOf _ _ _ _ _ = ev'
  repeat walk_at "M"
  refine WP.for_values (d := d) (J := fun i vs' n' => ∃ tk x, vs' = [some (.ref d), some (.int ((t.take i).map (·.2)).sum tk), x] ∧ n' = n) ht ?_ (fun i vs n h => ?_) (fun i k x vs n tx hi h => ?_) (fun vs n h => ?_)
  · repeat walk_at "M"
    exact ⟨_, _, rfl, rfl, _, _, rfl, rfl⟩
  · obtain ⟨_, _, _, rfl⟩ := h; exact hm
  · obtain ⟨_, _, rfl, rfl⟩ := h
    refine' exSt ?mst ?_; (case mst => walk_at "M.st")
    repeat walk_at "M"
    have e : ((t.take (i + 1)).map (·.2)).sum = ((t.take i).map (·.2)).sum + x := by
      rw [List.take_add_one, hi]; simp [List.sum_append]
    rw [e]
    exact ⟨_, _, rfl, rfl⟩
  · obtain ⟨_, _, rfl, rfl⟩ := h
    repeat walk_at "M"
    rw [List.take_length]
    exact hQ _
end
section
variable {w : World}
/-- add_callers -/
noncomputable def addT (c : Tab) (p : Str × Int) : Tab := kdpPut c p.1 (kdpLook c p.1 0 + p.2)
noncomputable def copyT (t : Tab) : Tab := t.foldl (fun c p => kdpPut c p.1 p.2) []
noncomputable def mergeT (t s : Tab) : Tab := s.foldl addT (copyT t)
theorem foldl_len {f : Tab → Str × Int → Tab} (hf : ∀ c p, (f c p).length ≤ c.length + 1) : ∀ (t c : Tab), (t.foldl f c).length ≤ c.length + t.length
  | [], c => Nat.le_refl _
  | p :: r, c => by
    have h1 := foldl_len hf r (f c p)
    have h2 := hf c p
    simp only [List.foldl_cons, List.length_cons]
    omega
theorem foldl_next {α β : Type} {f : β → α → β} {t : List α} {i : Nat} {a : α} (h : t[i]? = some a) (b : β) : (t.take (i + 1)).foldl f b = f ((t.take i).foldl f b) a := by
  rw [List.take_add_one, h]; simp [List.foldl_append]
theorem look_none {c : Tab} {k : Str} (h : kdpHas c k = false) : kdpLook c k 0 = 0 := by
  unfold kdpLook
  unfold kdpHas at h
  rw [List.any_eq_false] at h
  have : c.find? (fun p => decide (p.1 = k)) = none := by rw [List.find?_eq_none]; exact h
  rw [this]; rfl
theorem c76 {lv : Nat} {ev : Env} {ns : List Str} {gs : List (Str × Value)} {vs : Vs} {n : Led} {Q : Value → Vs → Led → Prop} {d1 d2 : Addr} {o1 o2 : Obj} {t1 t2 : Tab} (hm1 : (d1, o1) ∈ n) (ht1 : IsTab w d1 o1 t1) (hm2 : (d2, o2) ∈ n) (ht2 : IsTab w d2 o2 t2) (hz : t1.length + t2.length ≤ 16000000)
    (hQ : ∀ d o, IsTab w d o (mergeT t1 t2) → Q (.ref d) vs ((d, o) :: n)) :
    WP w (lv + 1) ev ns gs vs n (call (.ref 76) [.ref d1, .ref d2]) Q := by
  have kf : PySem.Challenge.rw_rx0094_01 = PySem.Challenge.rw_rx0094_01 ∧ Mine.hd.heap_1 w.params = Mine.hd.heap_1 w.params := ⟨rfl, rfl⟩
  revert kf
  k_fill
  intro kf
  refine' WP.enter (ns' := [PySem.Str.ofString "target", PySem.Str.ofString "source", PySem.Str.ofString "new_callers", PySem.Str.ofString "func", PySem.Str.ofString "caller"]) (vs' := [some (.ref d1), some (.ref d2), none, none, none]) [(PySem.Str.ofString "target", .ref d1), (PySem.Str.ofString "source", .ref d2)] [PySem.Str.ofString "new_callers", PySem.Str.ofString "func", PySem.Str.ofString "caller"] [(PySem.Str.ofString "isinstance", .builtin "isinstance"), (PySem.Str.ofString "tuple", .type "tuple"), (PySem.Str.ofString "zip", .type "zip")] ?k1 ?k2 ?k3 ?k4 rfl rfl ?k5 ?k6 ?k7 ?k8 ?k9 ?k10 ?k11 ?_
  case k1 => k_is
  case k2 => k_is
  case k3 => rfl
  case k4 => rfl
  case k5 => decide
  case k6 => decide
  case k7 =>
    intro q hq
    simp only [List.mem_cons, List.not_mem_nil, or_false] at hq
    rcases hq with rfl | rfl | rfl
    · exact ⟨by rfl, by decide, .inr ⟨by k_is, by (show bootBuiltins (PySem.Str.ofString "isinstance") = _); boot_fast, by decide⟩⟩
    · exact ⟨by rfl, by decide, .inr ⟨by k_is, by (show bootBuiltins (PySem.Str.ofString "tuple") = _); boot_fast, by decide⟩⟩
    · exact ⟨by rfl, by decide, .inr ⟨by k_is, by (show bootBuiltins (PySem.Str.ofString "zip") = _); boot_fast, by decide⟩⟩
  case k8 => rfl
  case k9 => rfl
  case k10 => rfl
  case k11 => decide
  intro L
  clear kf
  generalize hev : envOf _ _ _ _ _ = ev'
  repeat walk_at "M"
  rename_i dd oo hoo
  refine WP.for_items (d := d1) (J := fun i vs' n' => ∃ x y o', vs' = [some (.ref d1), some (.ref d2), some (.ref dd), x, y] ∧ n' = (dd, o') :: n ∧ IsTab w dd o' ((t1.take i).foldl (fun c p => kdpPut c p.1 p.2) [])) ht1 ?_ (fun i vs n h => ?_) (fun i k x vs n tk tx hi h => ?_) (fun vs n h => ?_)
  · repeat walk_at "M"
    exact ⟨_, _, rfl, rfl, _, _, _, rfl, rfl, hoo⟩
  · obtain ⟨_, _, _, rfl, rfl, _⟩ := h; exact .tail _ hm1
  · obtain ⟨_, _, o', rfl, rfl, ho'⟩ := h
    refine ⟨_, _, by walk_at "M.st", by walk_at "M.st", ?_⟩
    repeat walk_at "M"
    refine WP.dict_set (by walk_at "M.up") ho' ?_ ?_
    · have := foldl_len (f := fun c p => kdpPut c p.1 p.2) (fun c p => kdpPut_len c p.1 p.2) (t1.take i) []
      simp at this; omega
    intro o'' ho''
    repeat walk_at "M"
    exact ⟨_, _, _, rfl, rfl, by rw [foldl_next hi]; exact ho''⟩
  · obtain ⟨_, _, o', rfl, rfl, ho'⟩ := h
    rw [List.take_length] at ho'
    change IsTab w dd o' (copyT t1) at ho'
    repeat walk_at "M"
    refine WP.for_items (d := d2) (J := fun i vs' n' => ∃ x y o', vs' = [some (.ref d1), some (.ref d2), some (.ref dd), x, y] ∧ n' = (dd, o') :: n ∧ IsTab w dd o' ((t2.take i).foldl addT (copyT t1))) ht2 ?_ (fun i vs n h => ?_) (fun i k x vs n tk tx hi h => ?_) (fun vs n h => ?_)
    · repeat walk_at "M"
      exact ⟨_, _, rfl, rfl, _, _, _, rfl, rfl, ho'⟩
    · obtain ⟨_, _, _, rfl, rfl, _⟩ := h; exact .tail _ hm2
    · clear ho'
      obtain ⟨_, _, o', rfl, rfl, ho'⟩ := h
      have hlen : ((t2.take i).foldl addT (copyT t1)).length ≤ 16777216 := by
        have h1 := foldl_len (f := addT) (fun c p => kdpPut_len c p.1 _) (t2.take i) (copyT t1)
        have h2 := foldl_len (f := fun c p => kdpPut c p.1 p.2) (fun c p => kdpPut_len c p.1 p.2) t1 []
        have h3 : (copyT t1).length ≤ t1.length := by simpa [copyT] using h2
        simp at h1; omega
      refine ⟨_, _, by walk_at "M.st", by walk_at "M.st", ?_⟩
      repeat walk_at "M"
      cases hh : kdpHas ((t2.take i).foldl addT (copyT t1)) k with
      | true =>
        repeat walk_at "M"
        refine WP.dict_getItem (by walk_at "M.mem") ho' hh fun _ => ?_
        repeat walk_at "M"
        refine WP.dict_set (by walk_at "M.up") ho' hlen ?_
        intro o'' ho''
        repeat walk_at "M"
        exact ⟨_, _, _, rfl, rfl, by rw [foldl_next hi]; exact ho''⟩
      | false =>
        repeat walk_at "M"
        refine WP.dict_set (by walk_at "M.up") ho' hlen ?_
        intro o'' ho''
        repeat walk_at "M"
        refine ⟨_, _, _, rfl, rfl, ?_⟩
        rw [foldl_next hi, addT, look_none hh, Int.zero_add]
        exact ho''
    · obtain ⟨_, _, o', rfl, rfl, ho'⟩ := h
      rw [List.take_length] at ho'
      repeat walk_at "M"
      exact hQ _ _ ho'
end
section
variable {w : World}
/-- func_std_string -/
noncomputable def stdF (f : Str) (i : Int) (nm : Str) : Str :=
  if (decide (f = Str.ofString "~") && decide (i = 0)) = true then
    (if (Txt.startswith nm (Str.ofString "<") && Txt.endswith nm (Str.ofString ">")) = true then Str.ofString "{" ++ Txt.slice nm (some 1) (some (-1)) ++ Str.ofString "}" else nm)
  else f ++ Str.ofString ":" ++ Str.ofString (toString i) ++ Str.ofString "(" ++ nm ++ Str.ofString ")"
theorem c69 {lv : Nat} {ev : Env} {ns : List Str} {gs : List (Str × Value)} {vs : Vs} {n : Led} {Q : Value → Vs → Led → Prop} {a : Addr} {f nm : Str} {i : Int} {t1 t2 t3 : Tok} {k : Nat} (hm : (a, tobj [.str f t1, .int i t2, .str nm t3] k) ∈ n) (h0 : 0 ≤ i) (h1 : i < 10 ^ 10) (hf : f.length ≤ 100000) (hn : nm.length ≤ 100000)
    (hQ : ∀ t, Q (.str (stdF f i nm) t) vs n) :
    WP w (lv + 1) ev ns gs vs n (call (.ref 69) [.ref a]) Q := by
  refine WP.drop ?_
  have kf : PySem.Challenge.rw_rx0094_01 = PySem.Challenge.rw_rx0094_01 ∧ Mine.hd.heap_1 w.params = Mine.hd.heap_1 w.params := ⟨rfl, rfl⟩
  revert kf
  k_fill
  intro kf
  refine' WP.enter (ns' := [PySem.Str.ofString "func_name", PySem.Str.ofString "name"]) (vs' := [some (.ref a), none]) [(PySem.Str.ofString "func_name", .ref a)] [PySem.Str.ofString "name"] [] ?k1 ?k2 ?k3 ?k4 rfl rfl ?k5 ?k6 ?k7 ?k8 ?k9 ?k10 ?k11 ?_
  case k1 => k_is
  case k2 => k_is
  case k3 => rfl
  case k4 => rfl
  case k5 => decide
  case k6 => decide
  case k7 => exact fun q hq => nomatch hq
  case k8 => rfl
  case k9 => rfl
  case k10 => rfl
  case k11 => decide
  intro L
  clear kf
  generalize hev : envOf _ _ _ _ _ = ev'
  have hnz : nm.length ≤ sizeLine := by rw [sizeLine_eq]; omega
  repeat walk_at "M"
  refine ⟨fun hb => ?_, fun hb => ?_⟩
  · repeat walk_at "M"
    refine ⟨fun hc => ?_, fun hc => ?_⟩
    · repeat walk_at "M"
      refine ⟨fun hd => ?_, fun hd => ?_⟩
      · repeat walk_at "M"
        refine WP.fmt1 (Nat.le_trans (Txt.slice_le ..) (by omega)) fun t => ?_
        repeat walk_at "M"
        refine ⟨n, by walk_at "M.subl", ?_⟩
        have := hQ t
        rw [stdF, if_pos hb, hc, hd, Bool.and_self, if_pos rfl] at this
        exact this
      · repeat walk_at "M"
        refine ⟨n, by walk_at "M.subl", ?_⟩
        have := hQ t3
        rw [stdF, if_pos hb, hc, hd, Bool.and_false, if_neg (by decide)] at this
        exact this
    · repeat walk_at "M"
      refine ⟨n, by walk_at "M.subl", ?_⟩
      have := hQ t3
      rw [stdF, if_pos hb, hc, Bool.false_and, if_neg (by decide)] at this
      exact this
  · repeat walk_at "M"
    refine WP.fmt3 (by walk_at "M.mem") h0 h1 (by omega) (by omega) fun t => ?_
    repeat walk_at "M"
    refine ⟨n, by walk_at "M.subl", ?_⟩
    have := hQ t
    rw [stdF, if_neg (by rw [hb]; decide)] at this
    exact this
end
section
variable {w : World}
/-- _law_triple -/
noncomputable def filesL : List Str := [Str.ofString "a", Str.ofString "ab", Str.ofString "~", Str.ofString "b("]
noncomputable def linesL : List Int := [0, 1, 10]
noncomputable def namesL : List Str := [Str.ofString "a", Str.ofString "<a>", Str.ofString "a)", Str.ofString "[*]:1(b", Str.ofString "<?>"]
noncomputable def tripF (m : Nat) : Str × Int × Str := (filesL.getD (m % 4) Str.empty, linesL.getD (m / 4 % 3) 0, namesL.getD (m / 12 % 5) Str.empty)
theorem c90 {lv : Nat} {ev : Env} {ns : List Str} {gs : List (Str × Value)} {vs : Vs} {n : Led} {Q : Value → Vs → Led → Prop} {m : Nat} {t : Tok}
    (hQ : ∀ a t1 t2 t3 k, Q (.ref a) vs ((a, tobj [.str (tripF m).1 t1, .int (tripF m).2.1 t2, .str (tripF m).2.2 t3] k) :: n)) :
    WP w (lv + 1) ev ns gs vs n (call (.ref 90) [.int (m : Int) t]) Q := by
  refine WP.drop ?_
  have kf : PySem.Challenge.rw_rx0094_01 = PySem.Challenge.rw_rx0094_01 ∧ Mine.hd.heap_1 w.params = Mine.hd.heap_1 w.params := ⟨rfl, rfl⟩
  revert kf
  k_fill
  intro kf
  refine' WP.enter (ns' := [PySem.Str.ofString "x"]) (vs' := [some (.int (m : Int) t)]) [(PySem.Str.ofString "x", .int (m : Int) t)] [] [] ?k1 ?k2 ?k3 ?k4 rfl rfl ?k5 ?k6 ?k7 ?k8 ?k9 ?k10 ?k11 ?_
  case k1 => k_is
  case k2 => k_is
  case k3 => rfl
  case k4 => rfl
  case k5 => decide
  case k6 => decide
  case k7 => exact fun q hq => nomatch hq
  case k8 => rfl
  case k9 => rfl
  case k10 => rfl
  case k11 => decide
  intro L
  clear kf
  generalize hev : envOf _ _ _ _ _ = ev'
  repeat walk_at "M"
  refine WP.mod_nat (b := 4) rfl (by decide) fun _ => ?_
  refine WP.list_str (ys := filesL) (by walk_at "M.mem") (.cons _ _ (.cons _ _ (.cons _ _ (.cons _ _ .nil)))) (by omega) (by simp [filesL]; omega) (by decide) fun t1 => ?_
  repeat walk_at "M"
  refine WP.div_nat (b := 4) rfl (by decide) (by decide) fun _ => ?_
  repeat walk_at "M"
  refine WP.mod_nat (b := 3) rfl (by decide) fun _ => ?_
  refine WP.list_int (ys := linesL) (by walk_at "M.mem") (.cons _ _ (.cons _ _ (.cons _ _ .nil))) (by omega) (by simp [linesL]; omega) (by decide) fun t2 => ?_
  repeat walk_at "M"
  refine WP.div_nat (b := 12) rfl (by decide) (by decide) fun _ => ?_
  repeat walk_at "M"
  refine WP.mod_nat (b := 5) rfl (by decide) fun _ => ?_
  refine WP.list_str (ys := namesL) (by walk_at "M.mem") (.cons _ _ (.cons _ _ (.cons _ _ (.cons _ _ (.cons _ _ .nil))))) (by omega) (by simp [namesL]; omega) (by decide) fun t3 => ?_
  repeat walk_at "M"
  rename_i a
  refine ⟨(a, _) :: n, ?_, hQ a t1 t2 t3 0⟩
  walk_at "M.subl"
end
section
variable {w : World}
/-- _law_laid -/
noncomputable def laidK (fields : List Str) (ch : Nat) (signs : List Str) : Nat → Str
  | 0 => signs.getD 0 Str.empty
  | k + 1 => (if ch / 2 ^ k % 2 = 1 then laidK fields ch signs k ++ fields.getD k Str.empty else laidK fields ch signs k) ++ signs.getD (k + 1) Str.empty
noncomputable def laidF (fields : List Str) (ch : Nat) (signs : List Str) : Str := laidK fields ch signs 3
theorem laidK_len {fields signs : List Str} {ch b : Nat} (hf : ∀ x ∈ fields, x.length ≤ b) (hs : ∀ x ∈ signs, x.length ≤ b) : ∀ k, (laidK fields ch signs k).length ≤ (2 * k + 1) * b := by
  have g : ∀ (l : List Str) (k : Nat), (∀ x ∈ l, x.length ≤ b) → (l.getD k Str.empty).length ≤ b := by
    intro l k hl
    rw [List.getD_eq_getElem?_getD]
    cases e : l[k]? with
    | none => show (0 : Nat) ≤ b; omega
    | some x => exact hl x (List.mem_of_getElem? e)
  intro k
  induction k with
  | zero => have := g signs 0 hs; simpa [laidK] using this
  | succ k ih =>
    have h1 := g signs (k + 1) hs
    have h2 := g fields k hf
    have e : (2 * (k + 1) + 1) * b = (2 * k + 1) * b + b + b := by rw [Nat.mul_add, Nat.add_mul]; rw [Nat.add_mul, Nat.add_mul]; omega
    rw [laidK, strLen_append, e]
    split
    · rw [strLen_append]; omega
    · omega
theorem c116 {lv : Nat} {ev : Env} {ns : List Str} {gs : List (Str × Value)} {vs : Vs} {n : Led} {Q : Value → Vs → Led → Prop} {f s : Addr} {itf its : List Value} {kf ks : Nat} {fields signs : List Str} {ch : Nat} {t : Tok}
    (hf : (f, lobj itf kf) ∈ n) (hs : (s, lobj its ks) ∈ n) (hif : StrsAre itf fields) (his : StrsAre its signs) (lf : fields.length = 3) (ls : signs.length = 4) (bf : ∀ x ∈ fields, x.length ≤ 100000) (bs : ∀ x ∈ signs, x.length ≤ 100000)
    (hQ : ∀ t, Q (.str (laidF fields ch signs) t) vs n) :
    WP w (lv + 1) ev ns gs vs n (call (.ref 116) [.ref f, .int (ch : Int) t, .ref s]) Q := by
  have kf : PySem.Challenge.rw_rx0094_01 = PySem.Challenge.rw_rx0094_01 ∧ Mine.hd.heap_1 w.params = Mine.hd.heap_1 w.params := ⟨rfl, rfl⟩
  revert kf
  k_fill
  intro kf
  refine' WP.enter (ns' := [PySem.Str.ofString "fields", PySem.Str.ofString "choice", PySem.Str.ofString "signs", PySem.Str.ofString "text", PySem.Str.ofString "k"]) (vs' := [some (.ref f), some (.int (ch : Int) t), some (.ref s), none, none]) [(PySem.Str.ofString "fields", .ref f), (PySem.Str.ofString "choice", .int (ch : Int) t), (PySem.Str.ofString "signs", .ref s)] [PySem.Str.ofString "text", PySem.Str.ofString "k"] [(PySem.Str.ofString "range", .type "range")] ?k1 ?k2 ?k3 ?k4 rfl rfl ?k5 ?k6 ?k7 ?k8 ?k9 ?k10 ?k11 ?_
  case k1 => k_is
  case k2 => k_is
  case k3 => rfl
  case k4 => rfl
  case k5 => decide
  case k6 => decide
  case k7 =>
    intro q hq
    simp only [List.mem_cons, List.not_mem_nil, or_false] at hq
    rcases hq with rfl
    · exact ⟨by rfl, by decide, .inr ⟨by k_is, by (show bootBuiltins (PySem.Str.ofString "range") = _); boot_fast, by decide⟩⟩
  case k8 => rfl
  case k9 => rfl
  case k10 => rfl
  case k11 => decide
  intro L
  clear kf
  generalize hev : envOf _ _ _ _ _ = ev'
  repeat walk_at "M"
  refine WP.list_str hs his (by decide) (by rw [ls]; decide) (by omega) fun t1 => ?_
  repeat walk_at "M"
  refine WP.for_range (m := 3) (by decide) (fun i vs' n' => ∃ t1 x, i ≤ 3 ∧ vs' = [some (.ref f), some (.int (ch : Int) t), some (.ref s), some (.str (laidK fields ch signs i) t1), x] ∧ n' = n) ?_ (fun i vs n tt hi h => ?_) (fun vs n h => ?_)
  · repeat walk_at "M"
    exact ⟨_, _, _, _, _, rfl, rfl, _, _, by decide, rfl, rfl⟩
  · obtain ⟨tx, _, _, rfl, rfl⟩ := h
    refine ⟨_, by walk_at "M.st", ?_⟩
    have hl := laidK_len (ch := ch) bf bs i
    have hl' : (laidK fields ch signs i).length ≤ 700000 := Nat.le_trans hl (Nat.le_trans (Nat.mul_le_mul_right 100000 (show 2 * i + 1 ≤ 7 by omega)) (by decide))
    have hg : ∀ (l : List Str) (k : Nat), (∀ x ∈ l, x.length ≤ 100000) → (l.getD k Str.empty).length ≤ 100000 := by
      intro l k hl
      rw [List.getD_eq_getElem?_getD]
      cases e : l[k]? with
      | none => show (0 : Nat) ≤ _; omega
      | some x => exact hl x (List.mem_of_getElem? e)
    have h1 := hg fields i bf
    have h2 := hg signs (i + 1) bs
    repeat walk_at "M"
    refine WP.pow_int (by omega) ?_ fun _ => ?_
    · have : Builtin.Int.intBits 2 ≤ 2 := by decide
      have hb : (Builtin.Int.intBits 2 : Int) * (i : Int) ≤ 2 * 3 := Int.mul_le_mul (by omega) (by omega) (by omega) (by omega)
      exact Int.le_trans hb (by decide)
    have ep : ((2 : Int) ^ (i : Int).toNat) = ((2 ^ i : Nat) : Int) := by rw [Int.toNat_natCast]; norm_cast
    refine WP.div_nat ep (by exact Nat.ne_of_gt (Nat.two_pow_pos i)) (Nat.lt_of_le_of_lt (Nat.pow_le_pow_right (by decide) (show i ≤ 3 by omega)) (by decide)) fun _ => ?_
    repeat walk_at "M"
    refine WP.mod_nat (b := 2) rfl (by decide) fun _ => ?_
    repeat walk_at "M"
    have eb : ((((ch / 2 ^ i % 2 : Nat) : Int) == 1)) = decide (ch / 2 ^ i % 2 = 1) := by
      generalize ch / 2 ^ i % 2 = q
      rw [Bool.eq_iff_iff, beq_iff_eq, decide_eq_true_eq]; omega
    rw [eb]
    refine ⟨fun hb => ?_, fun hb => ?_⟩
    · rw [decide_eq_true_eq] at hb
      repeat walk_at "M"
      refine WP.list_str hf hif (by omega) (by rw [lf]; omega) (by omega) fun t2 => ?_
      rw [Int.toNat_natCast]
      refine WP.add_str (by rw [strLen_append, sizeLine_eq]; omega) fun _ => ?_
      repeat walk_at "M"
      refine WP.list_str hs his (by omega) (by rw [ls]; omega) (by omega) fun t3 => ?_
      rw [show ((i : Int) + 1).toNat = i + 1 by omega]
      refine WP.add_str (by rw [strLen_append, strLen_append, sizeLine_eq]; omega) fun _ => ?_
      repeat walk_at "M"
      exact ⟨_, _, by omega, by rw [laidK, if_pos hb], rfl⟩
    · rw [decide_eq_false_iff_not] at hb
      repeat walk_at "M"
      refine WP.list_str hs his (by omega) (by rw [ls]; omega) (by omega) fun t3 => ?_
      rw [show ((i : Int) + 1).toNat = i + 1 by omega]
      refine WP.add_str (by rw [strLen_append, sizeLine_eq]; omega) fun _ => ?_
      repeat walk_at "M"
      exact ⟨_, _, by omega, by rw [laidK, if_neg hb], rfl⟩
  · obtain ⟨_, _, _, rfl, rfl⟩ := h
    repeat walk_at "M"
    exact hQ _
end
section
variable {w : World}
/-- _law_read -/
noncomputable def readGo (shown : Str) : List (Str × Str) → Int → List Str → List Str
  | [], a, taken => if a = (shown.length : Int) then taken else []
  | (kind, run) :: rest, a, taken =>
    let place : Int := if kind = Str.ofString "hold" then Txt.find3 shown run a else if kind = Str.ofString "rest" then (shown.length : Int) - (run.length : Int) else a
    if kind = Str.ofString "wrong" ∨ place < a ∨ Txt.slice shown (some place) (some (place + run.length)) ≠ run then []
    else readGo shown rest (place + run.length) (if kind = Str.ofString "hold" ∨ kind = Str.ofString "rest" then taken ++ [Txt.slice shown (some a) (some place)] else taken)
noncomputable def readF (rs : List (Str × Str)) (shown : Str) : List Str := readGo shown rs 0 []
theorem drop_next {α : Type} {l : List α} {i : Nat} {a : α} (h : l[i]? = some a) : l.drop i = a :: l.drop (i + 1) := by
  obtain ⟨hi, rfl⟩ := List.getElem?_eq_some_iff.mp h
  exact List.drop_eq_getElem_cons hi
theorem c102 {lv : Nat} {ev : Env} {ns : List Str} {gs : List (Str × Value)} {vs : Vs} {n : Led} {Q : Value → Vs → Led → Prop} {r : Addr} {itr : List Value} {kr : Nat} {rs : List (Str × Str)} {shown : Str} {t : Tok}
    (hr : (r, lobj itr kr) ∈ n) (hir : Each (RunV n) itr rs) (hl : rs.length ≤ 1000) (hz : shown.length ≤ 100000) (hrun : ∀ x ∈ rs, x.2.length ≤ 100000)
    (hQ : ∀ a its k, StrsAre its (readF rs shown) → Q (.ref a) vs ((a, lobj its k) :: n)) :
    WP w (lv + 1) ev ns gs vs n (call (.ref 102) [.ref r, .str shown t]) Q := by
  refine WP.drop ?_
  have kf : PySem.Challenge.rw_rx0094_01 = PySem.Challenge.rw_rx0094_01 ∧ Mine.hd.heap_1 w.params = Mine.hd.heap_1 w.params := ⟨rfl, rfl⟩
  revert kf
  k_fill
  intro kf
  refine' WP.enter (ns' := [PySem.Str.ofString "runs", PySem.Str.ofString "shown", PySem.Str.ofString "at", PySem.Str.ofString "taken", PySem.Str.ofString "kind", PySem.Str.ofString "run", PySem.Str.ofString "place"]) (vs' := [some (.ref r), some (.str shown t), none, none, none, none, none]) [(PySem.Str.ofString "runs", .ref r), (PySem.Str.ofString "shown", .str shown t)] [PySem.Str.ofString "at", PySem.Str.ofString "taken", PySem.Str.ofString "kind", PySem.Str.ofString "run", PySem.Str.ofString "place"] [(PySem.Str.ofString "len", .builtin "len")] ?k1 ?k2 ?k3 ?k4 rfl rfl ?k5 ?k6 ?k7 ?k8 ?k9 ?k10 ?k11 ?_
  case k1 => k_is
  case k2 => k_is
  case k3 => rfl
  case k4 => rfl
  case k5 => decide
  case k6 => decide
  case k7 =>
    intro q hq
    simp only [List.mem_cons, List.not_mem_nil, or_false] at hq
    rcases hq with rfl
    · exact ⟨by rfl, by decide, .inr ⟨by k_is, by (show bootBuiltins (PySem.Str.ofString "len") = _); boot_fast, by decide⟩⟩
  case k8 => rfl
  case k9 => rfl
  case k10 => rfl
  case k11 => decide
  intro L
  clear kf
  generalize hev : envOf _ _ _ _ _ = ev'
  repeat walk_at "M"
  rename_i ta tl
  refine WP.for_list (l := r) (its := itr) (k := kr) (fun i vs' n' => ∃ (a : Int) (t1 : Tok) (itt : List Value) (k : Nat) (taken : List Str) (x y z : Option Value), vs' = [some (.ref r), some (.str shown t), some (.int a t1), some (.ref tl), x, y, z] ∧ n' = (tl, lobj itt k) :: n ∧ StrsAre itt taken ∧ itt.length ≤ i ∧ readGo shown (rs.drop i) a taken = readF rs shown) ?_ (fun i vs n h => ?_) (fun i v vs n hv h => ?_) (fun vs n h => ?_)
  · repeat walk_at "M"
    exact ⟨rfl, _, _, _, _, _, _, _, _, rfl, rfl, .nil, Nat.le_refl _, rfl⟩
  · obtain ⟨_, _, _, _, _, _, _, _, rfl, rfl, _⟩ := h; exact .tail _ hr
  · obtain ⟨a, t1, itt, k, taken, x, y, z, rfl, rfl, hit, hlen, hgo⟩ := h
    obtain ⟨⟨kind, run⟩, hx, A, u1, u2, kk, rfl, hA⟩ := hir.at hv
    have hi : i < rs.length := by rw [List.getElem?_eq_some_iff] at hx; exact hx.1
    have hrl := hrun _ (List.mem_of_getElem? hx)
    simp only [] at hrl hA
    rw [drop_next hx, readGo] at hgo
    have hsz : shown.length ≤ sizeLine := by rw [sizeLine_eq]; omega
    have hrz : run.length ≤ sizeLine := by rw [sizeLine_eq]; omega
    refine WP.a_tup2 (by walk_at "M.mem") (by walk_at "M.st") (by walk_at "M.st") ?_
    repeat walk_at "N"
    refine WP.meet (fun vs' n' => ∃ tp, vs' = [some (.ref r), some (.str shown t), some (.int a t1), some (.ref tl), some (.str kind u1), some (.str run u2), some (.int (if kind = Str.ofString "hold" then Txt.find3 shown run a else if kind = Str.ofString "rest" then (shown.length : Int) - (run.length : Int) else a) tp)] ∧ n' = (tl, lobj itt k) :: n) ?_ ?_
    · walk_at "M"
      repeat walk_at "M"
      refine ⟨fun hb => ?_, fun hb => ?_⟩
      · rw [decide_eq_true_eq] at hb
        repeat walk_at "M"
        exact ⟨_, by rw [if_pos hb], rfl⟩
      · rw [decide_eq_false_iff_not] at hb
        repeat walk_at "M"
        refine ⟨fun hc => ?_, fun hc => ?_⟩
        · rw [decide_eq_true_eq] at hc
          repeat walk_at "M"
          refine WP.len_str hsz fun _ => ?_
          repeat walk_at "M"
          refine WP.len_str hrz fun _ => ?_
          repeat walk_at "M"
          exact ⟨_, by rw [if_neg hb, if_pos hc], rfl⟩
        · rw [decide_eq_false_iff_not] at hc
          repeat walk_at "M"
          exact ⟨_, by rw [if_neg hb, if_neg hc], rfl⟩
    · rintro vs' n' ⟨tp, rfl, rfl⟩
      generalize (if kind = Str.ofString "hold" then Txt.find3 shown run a else if kind = Str.ofString "rest" then (shown.length : Int) - (run.length : Int) else a) = p at hgo ⊢
      have bad : ∀ (P : Prop), (kind = Str.ofString "wrong" ∨ p < a ∨ Txt.slice shown (some p) (some (p + (run.length : Int))) ≠ run) → readF rs shown = [] := fun _ hP => by rw [if_pos hP] at hgo; exact hgo.symm
      repeat walk_at "N"
      refine WP.meet (fun vs' n' => vs' = [some (.ref r), some (.str shown t), some (.int a t1), some (.ref tl), some (.str kind u1), some (.str run u2), some (.int p tp)] ∧ n' = (tl, lobj itt k) :: n ∧ ¬ (kind = Str.ofString "wrong" ∨ p < a ∨ Txt.slice shown (some p) (some (p + (run.length : Int))) ≠ run)) ?_ ?_
      · refine WP.if_ ?_
        refine WP.test (kind = Str.ofString "wrong" ∨ p < a ∨ Txt.slice shown (some p) (some (p + (run.length : Int))) ≠ run) ?_ (fun hP => ⟨fun h => ?_, fun h => nomatch h⟩) (fun hP => ⟨fun h => (nomatch h), fun h => ?_⟩)
        · repeat walk_at "M"
          refine ⟨fun hw => ?_, fun hw => ?_⟩
          · rw [decide_eq_false_iff_not] at hw
            repeat walk_at "M"
            refine ⟨fun hw2 => ?_, fun hw2 => ?_⟩
            · rw [decide_eq_false_iff_not] at hw2
              repeat walk_at "M"
              refine WP.len_str hrz fun _ => ?_
              repeat walk_at "M"
              refine ⟨fun hw3 => ?_, fun hw3 => ?_⟩
              · repeat walk_at "M"
                refine ⟨rfl, rfl, ?_⟩
                simp at hw3
                simp [hw, hw2, hw3]
              · refine ⟨rfl, rfl, ?_⟩
                simp at hw3
                simp [hw3]
            · refine ⟨rfl, rfl, ?_⟩
              rw [decide_eq_true_eq] at hw2
              simp [hw2]
          · refine ⟨rfl, rfl, ?_⟩
            rw [decide_eq_true_eq] at hw
            simp [hw]
        · rw [if_pos hP] at hgo
          repeat walk_at "M"
          refine ⟨_, by walk_at "M.sublc", hQ _ [] 0 (hgo ▸ .nil)⟩
        · repeat walk_at "M"
          exact ⟨rfl, rfl, hP⟩
      · rintro vs' n' ⟨rfl, rfl, hno⟩
        rw [if_neg hno] at hgo
        repeat walk_at "N"
        refine WP.meet (fun vs' n' => vs' = [some (.ref r), some (.str shown t), some (.int a t1), some (.ref tl), some (.str kind u1), some (.str run u2), some (.int p tp)] ∧ ∃ itt' k', n' = (tl, lobj itt' k') :: n ∧ itt'.length ≤ i + 1 ∧ StrsAre itt' (if kind = Str.ofString "hold" ∨ kind = Str.ofString "rest" then taken ++ [Txt.slice shown (some a) (some p)] else taken)) ?_ ?_
        · refine WP.if_ ?_
          refine WP.test (kind = Str.ofString "hold" ∨ kind = Str.ofString "rest") ?_ (fun hP => ⟨fun h => ?_, fun h => nomatch h⟩) (fun hP => ⟨fun h => (nomatch h), fun h => ?_⟩)
          · repeat walk_at "M"
            refine ⟨fun hw => ?_, fun hw => ?_⟩
            · rw [decide_eq_false_iff_not] at hw
              repeat walk_at "M"
              refine ⟨fun hw2 => ?_, fun hw2 => ?_⟩
              · rw [decide_eq_false_iff_not] at hw2
                repeat walk_at "M"
                exact ⟨rfl, rfl, by simp [hw, hw2]⟩
              · rw [decide_eq_true_eq] at hw2
                exact ⟨rfl, rfl, by simp [hw2]⟩
            · rw [decide_eq_true_eq] at hw
              exact ⟨rfl, rfl, by simp [hw]⟩
          · repeat walk_at "M"
            refine WP.append (by walk_at "M.up") (by rw [sizeLine_eq]; omega) ?_
            repeat walk_at "M"
            refine ⟨trivial, ?_⟩
            repeat walk_at "M"
            refine ⟨rfl, _, _, rfl, by simp; omega, ?_⟩
            rw [if_pos hP]
            exact strs_append hit (strs_one _ _)
          · repeat walk_at "M"
            exact ⟨rfl, _, _, rfl, by omega, by rw [if_neg hP]; exact hit⟩
        · rintro vs' n' ⟨rfl, itt', k', rfl, hl', hit'⟩
          repeat walk_at "M"
          refine WP.len_str hrz fun _ => ?_
          repeat walk_at "M"
          exact ⟨_, _, _, _, _, _, _, _, rfl, rfl, hit', hl', hgo⟩
  · obtain ⟨a, t1, itt, k, taken, x, y, z, rfl, rfl, hit, hlen, hgo⟩ := h
    have e0 : rs.drop itr.length = [] := by rw [hir.len]; exact List.drop_length
    rw [e0, readGo] at hgo
    have hsz : shown.length ≤ sizeLine := by rw [sizeLine_eq]; omega
    repeat walk_at "M"
    refine WP.len_str hsz fun _ => ?_
    repeat walk_at "M"
    refine ⟨fun hb => ?_, fun hb => ?_⟩
    · have : ¬ a = (shown.length : Int) := by simpa using hb
      rw [if_neg this] at hgo
      repeat walk_at "M"
      refine ⟨_, by walk_at "M.sublc", hQ _ [] 0 (hgo ▸ .nil)⟩
    · have : a = (shown.length : Int) := by simpa using hb
      rw [if_pos this] at hgo
      repeat walk_at "M"
      exact ⟨_, by walk_at "M.sublc", hQ _ _ _ (hgo ▸ hit)⟩
end
section
variable {w : World}
/-- _law_fields -/
noncomputable def fieldsF (plain held bare : List (Str × Str)) (shown : Str) : List Str :=
  if (readF plain shown).length = 3 then readF plain shown
  else if (readF held shown).length = 1 then [Str.ofString "~", Str.ofString "0", Str.ofString "<" ++ (readF held shown).getD 0 Str.empty ++ Str.ofString ">"]
  else [Str.ofString "~", Str.ofString "0"] ++ readF bare shown
theorem readGo_len (shown : Str) : ∀ (rs : List (Str × Str)) (a : Int) (taken : List Str), (readGo shown rs a taken).length ≤ taken.length + rs.length
  | [], a, taken => by rw [readGo]; split <;> simp
  | (kind, run) :: rest, a, taken => by
    rw [readGo]
    generalize (if kind = Str.ofString "hold" then Txt.find3 shown run a else if kind = Str.ofString "rest" then (shown.length : Int) - (run.length : Int) else a) = p
    split
    · simp
    · refine Nat.le_trans (readGo_len shown rest _ _) ?_
      split <;> simp <;> omega
theorem readGo_sz (shown : Str) : ∀ (rs : List (Str × Str)) (a : Int) (taken : List Str), (∀ x ∈ taken, x.length ≤ shown.length) → ∀ x ∈ readGo shown rs a taken, x.length ≤ shown.length
  | [], a, taken, h => by rw [readGo]; split; exact h; simp
  | (kind, run) :: rest, a, taken, h => by
    rw [readGo]
    generalize (if kind = Str.ofString "hold" then Txt.find3 shown run a else if kind = Str.ofString "rest" then (shown.length : Int) - (run.length : Int) else a) = p
    split
    · simp
    · refine readGo_sz shown rest _ _ ?_
      split
      · intro x hx
        rcases List.mem_append.mp hx with hx | hx
        · exact h x hx
        · rw [List.mem_singleton.mp hx]; exact Txt.slice_le ..
      · exact h
theorem c109 {lv : Nat} {ev : Env} {ns : List Str} {gs : List (Str × Value)} {vs : Vs} {n : Led} {Q : Value → Vs → Led → Prop} {p1 p2 p3 : Addr} {it1 it2 it3 : List Value} {k1 k2 k3 : Nat} {r1 r2 r3 : List (Str × Str)} {shown : Str} {t : Tok}
    (h1 : (p1, lobj it1 k1) ∈ n) (h2 : (p2, lobj it2 k2) ∈ n) (h3 : (p3, lobj it3 k3) ∈ n) (e1 : Each (RunV n) it1 r1) (e2 : Each (RunV n) it2 r2) (e3 : Each (RunV n) it3 r3)
    (l1 : r1.length ≤ 1000) (l2 : r2.length ≤ 1000) (l3 : r3.length ≤ 1000) (hz : shown.length ≤ 10000) (b1 : ∀ x ∈ r1, x.2.length ≤ 100000) (b2 : ∀ x ∈ r2, x.2.length ≤ 100000) (b3 : ∀ x ∈ r3, x.2.length ≤ 100000)
    (hQ : ∀ a its k, StrsAre its (fieldsF r1 r2 r3 shown) → Q (.ref a) vs ((a, lobj its k) :: n)) :
    WP w (lv + 2) ev ns gs vs n (call (.ref 109) [.str shown t, .ref p1, .ref p2, .ref p3]) Q := by
  refine WP.drop ?_
  have kf : PySem.Challenge.rw_rx0094_01 = PySem.Challenge.rw_rx0094_01 ∧ Mine.hd.heap_1 w.params = Mine.hd.heap_1 w.params := ⟨rfl, rfl⟩
  revert kf
  k_fill
  intro kf
  refine' WP.enter (ns' := [PySem.Str.ofString "shown", PySem.Str.ofString "plain", PySem.Str.ofString "held", PySem.Str.ofString "bare", PySem.Str.ofString "taken"]) (vs' := [some (.str shown t), some (.ref p1), some (.ref p2), some (.ref p3), none]) [(PySem.Str.ofString "shown", .str shown t), (PySem.Str.ofString "plain", .ref p1), (PySem.Str.ofString "held", .ref p2), (PySem.Str.ofString "bare", .ref p3)] [PySem.Str.ofString "taken"] [(PySem.Str.ofString "_law_read", .ref 102), (PySem.Str.ofString "len", .builtin "len")] ?k1 ?k2 ?k3 ?k4 rfl rfl ?k5 ?k6 ?k7 ?k8 ?k9 ?k10 ?k11 ?_
  case k1 => k_is
  case k2 => k_is
  case k3 => rfl
  case k4 => rfl
  case k5 => decide
  case k6 => decide
  case k7 =>
    intro q hq
    simp only [List.mem_cons, List.not_mem_nil, or_false] at hq
    rcases hq with rfl | rfl
    · exact ⟨by rfl, by decide, .inl (by k_is)⟩
    · exact ⟨by rfl, by decide, .inr ⟨by k_is, by (show bootBuiltins (PySem.Str.ofString "len") = _); boot_fast, by decide⟩⟩
  case k8 => rfl
  case k9 => rfl
  case k10 => rfl
  case k11 => decide
  intro L
  clear kf
  generalize hev : envOf _ _ _ _ _ = ev'
  repeat walk_at "M"
  refine c102 h1 e1 l1 (by omega) b1 fun a its k hs => ?_
  have hlen : its.length = (readF r1 shown).length := hs.len_eq
  have hln : its.length ≤ 1000 := by rw [hlen]; refine Nat.le_trans (readGo_len shown r1 0 []) ?_; simpa using l1
  repeat walk_at "M"
  refine WP.len_list (by walk_at "M.mem") (by rw [sizeLine_eq]; omega) fun _ => ?_
  repeat walk_at "M"
  refine ⟨fun hb => ?_, fun hb => ?_⟩
  · have e : (readF r1 shown).length = 3 := by rw [← hlen]; have := beq_iff_eq.mp hb; omega
    repeat walk_at "M"
    exact ⟨_, by walk_at "M.sublc", hQ _ _ _ (by rw [fieldsF, if_pos e]; exact hs)⟩
  · have e : ¬ (readF r1 shown).length = 3 := by rw [← hlen]; have := beq_eq_false_iff_ne.mp hb; omega
    have m1 : ∀ {b : Addr} {o : Obj}, ∀ p ∈ n, p ∈ (b, o) :: n := fun p hp => .tail _ hp
    repeat walk_at "M"
    refine c102 (.tail _ h2) (e2.mono fun _ _ => RunV.mono fun p hp => .tail _ hp) l2 (by omega) b2 fun a' its' k' hs' => ?_
    have hlen' : its'.length = (readF r2 shown).length := hs'.len_eq
    have hln' : its'.length ≤ 1000 := by rw [hlen']; refine Nat.le_trans (readGo_len shown r2 0 []) ?_; simpa using l2
    repeat walk_at "M"
    refine WP.len_list (by walk_at "M.mem") (by rw [sizeLine_eq]; omega) fun _ => ?_
    repeat walk_at "M"
    refine ⟨fun hc => ?_, fun hc => ?_⟩
    · have e' : (readF r2 shown).length = 1 := by rw [← hlen']; have := beq_iff_eq.mp hc; omega
      repeat walk_at "M"
      refine WP.list_str (by walk_at "M.mem") hs' (by decide) (by rw [e']; decide) (by omega) fun t1 => ?_
      have hsz : ((readF r2 shown).getD (0 : Int).toNat Str.empty).length ≤ 10000 := by
        have : ∀ x ∈ readF r2 shown, x.length ≤ shown.length := readGo_sz shown r2 0 [] (by simp)
        rw [List.getD_eq_getElem?_getD]
        cases eg : (readF r2 shown)[(0 : Int).toNat]? with
        | none => show (0 : Nat) ≤ _; omega
        | some x => exact Nat.le_trans (this x (List.mem_of_getElem? eg)) hz
      have hlt : (Str.ofString "<").length = 1 := by decide
      have hgt : (Str.ofString ">").length = 1 := by decide
      refine WP.add_str (by rw [strLen_append, sizeLine_eq]; omega) fun _ => ?_
      repeat walk_at "M"
      refine WP.add_str (by rw [strLen_append, strLen_append, sizeLine_eq]; omega) fun _ => ?_
      repeat walk_at "M"
      exact ⟨_, List.Sublist.cons_cons _ (by walk_at "M.subl"), hQ _ _ 0 (by rw [fieldsF, if_neg e, if_pos e']; exact .cons _ _ (.cons _ _ (.cons _ _ .nil)))⟩
    · have e' : ¬ (readF r2 shown).length = 1 := by rw [← hlen']; have := beq_eq_false_iff_ne.mp hc; omega
      repeat walk_at "M"
      refine c102 (.tail _ (.tail _ (.tail _ h3))) (e3.mono fun _ _ => RunV.mono fun p hp => .tail _ (.tail _ (.tail _ hp))) l3 (by omega) b3 fun a3 its3 k3 hs3 => ?_
      have hlen3 : its3.length = (readF r3 shown).length := hs3.len_eq
      have hln3 : its3.length ≤ 1000 := by rw [hlen3]; refine Nat.le_trans (readGo_len shown r3 0 []) ?_; simpa using l3
      refine WP.add_list (by walk_at "M.mem") (by walk_at "M.mem") (by rw [sizeLine_eq]; simp; omega) fun ar => ?_
      repeat walk_at "M"
      exact ⟨_, List.Sublist.cons_cons _ (by walk_at "M.subl"), hQ _ _ 0 (by rw [fieldsF, if_neg e, if_neg e']; exact strs_append (.cons _ _ (.cons _ _ .nil)) hs3)⟩
end
section
variable {w : World}
/-- _law_fold -/
noncomputable def foldGo (ch : Nat) (signs : List Str) : List (List Str × Int) → Tab → Tab
  | [], acc => acc
  | (f, c) :: r, acc => if f.length = 3 then foldGo ch signs r (mergeT acc [(laidF f ch signs, c)]) else []
noncomputable def foldF (ps : List (List Str × Int)) (ch : Nat) (signs : List Str) : Tab := foldGo ch signs ps []
theorem mergeT_len (t s : Tab) : (mergeT t s).length ≤ t.length + s.length := by
  have h1 := foldl_len (f := addT) (fun c p => kdpPut_len c p.1 _) s (copyT t)
  have h2 := foldl_len (f := fun c p => kdpPut c p.1 p.2) (fun c p => kdpPut_len c p.1 p.2) t []
  have h3 : (copyT t).length ≤ t.length := by simpa [copyT] using h2
  have : (mergeT t s).length ≤ (copyT t).length + s.length := h1
  omega
theorem c123 {lv : Nat} {ev : Env} {ns : List Str} {gs : List (Str × Value)} {vs : Vs} {n : Led} {Q : Value → Vs → Led → Prop} {p s : Addr} {itp its : List Value} {kp ks : Nat} {ps : List (List Str × Int)} {signs : List Str} {ch : Nat} {t : Tok}
    (hp : (p, lobj itp kp) ∈ n) (hs : (s, lobj its ks) ∈ n) (hip : Each (PairV n) itp ps) (his : StrsAre its signs) (lp : ps.length ≤ 1000) (ls : signs.length = 4) (bf : ∀ x ∈ ps, ∀ y ∈ x.1, y.length ≤ 100000) (bl : ∀ x ∈ ps, x.1.length ≤ 100000) (bs : ∀ x ∈ signs, x.length ≤ 100000)
    (hQ : ∀ d o, IsTab w d o (foldF ps ch signs) → Q (.ref d) vs ((d, o) :: n)) :
    WP w (lv + 2) ev ns gs vs n (call (.ref 123) [.ref p, .int (ch : Int) t, .ref s]) Q := by
  refine WP.drop ?_
  have kf : PySem.Challenge.rw_rx0094_01 = PySem.Challenge.rw_rx0094_01 ∧ Mine.hd.heap_1 w.params = Mine.hd.heap_1 w.params := ⟨rfl, rfl⟩
  revert kf
  k_fill
  intro kf
  refine' WP.enter (ns' := [PySem.Str.ofString "pairs", PySem.Str.ofString "choice", PySem.Str.ofString "signs", PySem.Str.ofString "folded", PySem.Str.ofString "fields", PySem.Str.ofString "calls"]) (vs' := [some (.ref p), some (.int (ch : Int) t), some (.ref s), none, none, none]) [(PySem.Str.ofString "pairs", .ref p), (PySem.Str.ofString "choice", .int (ch : Int) t), (PySem.Str.ofString "signs", .ref s)] [PySem.Str.ofString "folded", PySem.Str.ofString "fields", PySem.Str.ofString "calls"] [(PySem.Str.ofString "len", .builtin "len"), (PySem.Str.ofString "add_callers", .ref 76), (PySem.Str.ofString "_law_laid", .ref 116)] ?k1 ?k2 ?k3 ?k4 rfl rfl ?k5 ?k6 ?k7 ?k8 ?k9 ?k10 ?k11 ?_
  case k1 => k_is
  case k2 => k_is
  case k3 => rfl
  case k4 => rfl
  case k5 => decide
  case k6 => decide
  case k7 =>
    intro q hq
    simp only [List.mem_cons, List.not_mem_nil, or_false] at hq
    rcases hq with rfl | rfl | rfl
    · exact ⟨by rfl, by decide, .inr ⟨by k_is, by (show bootBuiltins (PySem.Str.ofString "len") = _); boot_fast, by decide⟩⟩
    · exact ⟨by rfl, by decide, .inl (by k_is)⟩
    · exact ⟨by rfl, by decide, .inl (by k_is)⟩
  case k8 => rfl
  case k9 => rfl
  case k10 => rfl
  case k11 => decide
  intro L
  clear kf
  generalize hev : envOf _ _ _ _ _ = ev'
  repeat walk_at "M"
  rename_i d0 o0 h0
  refine WP.for_list (l := p) (its := itp) (k := kp) (fun i vs' n' => ∃ (d : Addr) (o : Obj) (acc : Tab) (x y : Option Value), vs' = [some (.ref p), some (.int (ch : Int) t), some (.ref s), some (.ref d), x, y] ∧ ((d, o) :: n).Sublist n' ∧ IsTab w d o acc ∧ acc.length ≤ i ∧ foldGo ch signs (ps.drop i) acc = foldF ps ch signs) ?_ (fun i vs n h => ?_) (fun i v vs n hv h => ?_) (fun vs n h => ?_)
  · repeat walk_at "M"
    exact ⟨rfl, _, _, _, _, _, rfl, List.Sublist.refl _, h0, Nat.le_refl _, rfl⟩
  · obtain ⟨_, _, _, _, _, rfl, hsub, _⟩ := h; exact hsub.subset (.tail _ hp)
  · obtain ⟨d, o, acc, x, y, rfl, hsub, ho, hlen, hgo⟩ := h
    refine WP.sub hsub ?_
    clear hsub
    obtain ⟨⟨fields, calls⟩, hx, A, l, u, kk, rfl, hA, lf, itf, kf, rfl, hlf, hfs⟩ := hip.at hv
    have hi : i < ps.length := by rw [List.getElem?_eq_some_iff] at hx; exact hx.1
    have hmem := List.mem_of_getElem? hx
    have hb := bf _ hmem
    have hbl := bl _ hmem
    simp only [] at hb hbl hA hfs
    rw [drop_next hx, foldGo] at hgo
    refine WP.a_tup2 (.tail _ hA) (by walk_at "M.st") (by walk_at "M.st") ?_
    have hll := hfs.len_eq
    repeat walk_at "M"
    refine WP.len_list (.tail _ hlf) (by rw [sizeLine_eq]; omega) fun _ => ?_
    repeat walk_at "M"
    refine ⟨fun hc => ?_, fun hc => ?_⟩
    · have e : ¬ fields.length = 3 := by rw [← hll]; intro e; rw [e] at hc; exact absurd hc (by decide)
      rw [if_neg e] at hgo
      repeat walk_at "M"
      rename_i dr or hor
      exact ⟨_, List.Sublist.cons_cons _ (by walk_at "M.subl"), hQ _ _ (hgo ▸ hor)⟩
    · have e : fields.length = 3 := by rw [← hll]; have := hc; simp at this; omega
      rw [if_pos e] at hgo
      repeat walk_at "M"
      refine c116 (.tail _ (.tail _ hlf)) (.tail _ (.tail _ hs)) hfs his e ls hb bs fun tt => ?_
      repeat walk_at "M"
      refine c76 (by walk_at "M.mem") ho (by walk_at "M.mem") (by assumption) (by simp; omega) fun dn on hon => ?_
      repeat walk_at "M"
      exact ⟨_, _, _, _, _, rfl, List.Sublist.cons_cons _ (by walk_at "M.subl"), hon, Nat.le_trans (mergeT_len _ _) (by simp; omega), hgo⟩
  · obtain ⟨d, o, acc, x, y, rfl, hsub, ho, hlen, hgo⟩ := h
    refine WP.sub hsub ?_
    clear hsub
    have e0 : ps.drop itp.length = [] := by rw [hip.len]; exact List.drop_length
    rw [e0, foldGo] at hgo
    repeat walk_at "M"
    exact ⟨_, List.Sublist.refl _, hQ _ _ (hgo ▸ ho)⟩
end
section
variable {w : World}
/-- _law_table -/
noncomputable def tableGo : List ((Str × Int × Str) × Int) → Tab → Tab
  | [], acc => acc
  | ((f, i, nm), c) :: r, acc => tableGo r (mergeT acc [(stdF f i nm, c)])
noncomputable def tableF (ts : List (Str × Int × Str)) (cs : List Int) : Tab := tableGo (ts.zip cs) []
theorem c137 {lv : Nat} {ev : Env} {ns : List Str} {gs : List (Str × Value)} {vs : Vs} {n : Led} {Q : Value → Vs → Led → Prop} {p q : Addr} {itp itq : List Value} {kp kq : Nat} {ts : List (Str × Int × Str)} {cs : List Int}
    (hp : (p, lobj itp kp) ∈ n) (hq : (q, lobj itq kq) ∈ n) (hip : Each (TripV n) itp ts) (hiq : IntsAre itq cs) (lp : ts.length ≤ 1000) (lq : cs.length = ts.length) (bt : ∀ x ∈ ts, x.1.length ≤ 1000 ∧ 0 ≤ x.2.1 ∧ x.2.1 < 1000 ∧ x.2.2.length ≤ 1000)
    (hQ : ∀ d o, IsTab w d o (tableF ts cs) → Q (.ref d) vs ((d, o) :: n)) :
    WP w (lv + 2) ev ns gs vs n (call (.ref 137) [.ref p, .ref q]) Q := by
  refine WP.drop ?_
  have kf : PySem.Challenge.rw_rx0094_01 = PySem.Challenge.rw_rx0094_01 ∧ Mine.hd.heap_1 w.params = Mine.hd.heap_1 w.params := ⟨rfl, rfl⟩
  revert kf
  k_fill
  intro kf
  refine' WP.enter (ns' := [PySem.Str.ofString "triples", PySem.Str.ofString "calls", PySem.Str.ofString "table", PySem.Str.ofString "k"]) (vs' := [some (.ref p), some (.ref q), none, none]) [(PySem.Str.ofString "triples", .ref p), (PySem.Str.ofString "calls", .ref q)] [PySem.Str.ofString "table", PySem.Str.ofString "k"] [(PySem.Str.ofString "range", .type "range"), (PySem.Str.ofString "len", .builtin "len"), (PySem.Str.ofString "add_callers", .ref 76), (PySem.Str.ofString "func_std_string", .ref 69)] ?k1 ?k2 ?k3 ?k4 rfl rfl ?k5 ?k6 ?k7 ?k8 ?k9 ?k10 ?k11 ?_
  case k1 => k_is
  case k2 => k_is
  case k3 => rfl
  case k4 => rfl
  case k5 => decide
  case k6 => decide
  case k7 =>
    intro q hq
    simp only [List.mem_cons, List.not_mem_nil, or_false] at hq
    rcases hq with rfl | rfl | rfl | rfl
    · exact ⟨by rfl, by decide, .inr ⟨by k_is, by (show bootBuiltins (PySem.Str.ofString "range") = _); boot_fast, by decide⟩⟩
    · exact ⟨by rfl, by decide, .inr ⟨by k_is, by (show bootBuiltins (PySem.Str.ofString "len") = _); boot_fast, by decide⟩⟩
    · exact ⟨by rfl, by decide, .inl (by k_is)⟩
    · exact ⟨by rfl, by decide, .inl (by k_is)⟩
  case k8 => rfl
  case k9 => rfl
  case k10 => rfl
  case k11 => decide
  intro L
  clear kf
  generalize hev : envOf _ _ _ _ _ = ev'
  repeat walk_at "M"
  rename_i d0 o0 h0
  have hll := hip.len
  refine WP.for_range (m := itp.length) (by omega) (fun i vs' n' => ∃ (d : Addr) (o : Obj) (acc : Tab) (x : Option Value), vs' = [some (.ref p), some (.ref q), some (.ref d), x] ∧ ((d, o) :: n).Sublist n' ∧ IsTab w d o acc ∧ acc.length ≤ i ∧ tableGo ((ts.zip cs).drop i) acc = tableF ts cs) ?_ (fun i vs n tt hi h => ?_) (fun vs n h => ?_)
  · repeat walk_at "M"
    refine WP.len_list (.tail _ hp) (by rw [sizeLine_eq]; omega) fun _ => ?_
    repeat walk_at "M"
    exact ⟨_, _, _, _, _, rfl, rfl, _, _, _, _, rfl, List.Sublist.refl _, h0, Nat.le_refl _, rfl⟩
  · obtain ⟨d, o, acc, x, rfl, hsub, ho, hlen, hgo⟩ := h
    refine ⟨_, by walk_at "M.st", WP.sub hsub ?_⟩
    clear hsub
    have hi' : i < ts.length := by omega
    have hic : i < cs.length := by omega
    obtain ⟨v, hv, A, u1, u2, u3, kk, rfl, hA⟩ := hip.at' (List.getElem?_eq_getElem hi')
    obtain ⟨tc, hvc⟩ := ints_at hiq (List.getElem?_eq_getElem hic)
    have hx : (ts.zip cs)[i]? = some (ts[i], cs[i]) := by rw [List.getElem?_zip_eq_some]; exact ⟨List.getElem?_eq_getElem hi', List.getElem?_eq_getElem hic⟩
    have hb := bt _ (List.getElem_mem hi')
    revert hgo hA hb
    rw [drop_next hx]
    generalize ts[i] = T
    generalize cs[i] = C at hvc
    obtain ⟨f, ii, nm⟩ := T
    intro hgo hA hb
    simp only [] at hA hb
    rw [tableGo] at hgo
    repeat walk_at "M"
    refine WP.list_item (.tail _ (.tail _ hp)) (by omega) (by omega) (by rw [Int.toNat_natCast]; exact hv) ?_
    repeat walk_at "M"
    refine c69 (.tail _ (.tail _ hA)) hb.2.1 (by omega) (by omega) (by omega) fun tt => ?_
    repeat walk_at "M"
    refine WP.list_item (.tail _ (.tail _ hq)) (by omega) (by omega) (by rw [Int.toNat_natCast]; exact hvc) ?_
    repeat walk_at "M"
    refine c76 (by walk_at "M.mem") ho (by walk_at "M.mem") (by assumption) (by simp; omega) fun dn on hon => ?_
    repeat walk_at "M"
    exact ⟨_, _, _, _, rfl, List.Sublist.cons_cons _ (by walk_at "M.subl"), hon, Nat.le_trans (mergeT_len _ _) (by simp; omega), hgo⟩
  · obtain ⟨d, o, acc, x, rfl, hsub, ho, hlen, hgo⟩ := h
    refine WP.sub hsub ?_
    clear hsub
    have e0 : (ts.zip cs).drop itp.length = [] := by rw [hll]; apply List.drop_eq_nil_of_le; rw [List.length_zip]; omega
    rw [e0, tableGo] at hgo
    repeat walk_at "M"
    exact ⟨_, List.Sublist.refl _, hQ _ _ (hgo ▸ ho)⟩
end
section
variable {w : World}
/-- _law_told -/
noncomputable def toldGo (ch : Nat) (signs : List Str) : List ((Str × Int × Str) × Int) → Tab → Tab
  | [], acc => acc
  | ((f, i, nm), c) :: r, acc => toldGo ch signs r (addT acc (laidF [f, Str.ofString (toString i), nm] ch signs, c))
noncomputable def toldF (ts : List (Str × Int × Str)) (cs : List Int) (ch : Nat) (signs : List Str) : Tab := toldGo ch signs (ts.zip cs) []
theorem c130 {lv : Nat} {ev : Env} {ns : List Str} {gs : List (Str × Value)} {vs : Vs} {n : Led} {Q : Value → Vs → Led → Prop} {p q s : Addr} {itp itq its : List Value} {kp kq ks : Nat} {ts : List (Str × Int × Str)} {cs : List Int} {signs : List Str} {ch : Nat} {t : Tok}
    (hp : (p, lobj itp kp) ∈ n) (hq : (q, lobj itq kq) ∈ n) (hs : (s, lobj its ks) ∈ n) (hip : Each (TripV n) itp ts) (hiq : IntsAre itq cs) (his : StrsAre its signs) (lp : ts.length ≤ 1000) (lq : cs.length = ts.length) (ls : signs.length = 4) (bt : ∀ x ∈ ts, x.1.length ≤ 1000 ∧ 0 ≤ x.2.1 ∧ x.2.1 < 1000 ∧ x.2.2.length ≤ 1000) (bs : ∀ x ∈ signs, x.length ≤ 100000)
    (hQ : ∀ d o, IsTab w d o (toldF ts cs ch signs) → Q (.ref d) vs ((d, o) :: n)) :
    WP w (lv + 2) ev ns gs vs n (call (.ref 130) [.ref p, .ref q, .int (ch : Int) t, .ref s]) Q := by
  refine WP.drop ?_
  have kf : PySem.Challenge.rw_rx0094_01 = PySem.Challenge.rw_rx0094_01 ∧ Mine.hd.heap_1 w.params = Mine.hd.heap_1 w.params := ⟨rfl, rfl⟩
  revert kf
  k_fill
  intro kf
  refine' WP.enter (ns' := [PySem.Str.ofString "triples", PySem.Str.ofString "calls", PySem.Str.ofString "choice", PySem.Str.ofString "signs", PySem.Str.ofString "told", PySem.Str.ofString "k", PySem.Str.ofString "file", PySem.Str.ofString "line", PySem.Str.ofString "name", PySem.Str.ofString "key"]) (vs' := [some (.ref p), some (.ref q), some (.int (ch : Int) t), some (.ref s), none, none, none, none, none, none]) [(PySem.Str.ofString "triples", .ref p), (PySem.Str.ofString "calls", .ref q), (PySem.Str.ofString "choice", .int (ch : Int) t), (PySem.Str.ofString "signs", .ref s)] [PySem.Str.ofString "told", PySem.Str.ofString "k", PySem.Str.ofString "file", PySem.Str.ofString "line", PySem.Str.ofString "name", PySem.Str.ofString "key"] [(PySem.Str.ofString "range", .type "range"), (PySem.Str.ofString "len", .builtin "len"), (PySem.Str.ofString "_law_laid", .ref 116), (PySem.Str.ofString "str", .type "str")] ?k1 ?k2 ?k3 ?k4 rfl rfl ?k5 ?k6 ?k7 ?k8 ?k9 ?k10 ?k11 ?_
  case k1 => k_is
  case k2 => k_is
  case k3 => rfl
  case k4 => rfl
  case k5 => decide
  case k6 => decide
  case k7 =>
    intro q hq
    simp only [List.mem_cons, List.not_mem_nil, or_false] at hq
    rcases hq with rfl | rfl | rfl | rfl
    · exact ⟨by rfl, by decide, .inr ⟨by k_is, by (show bootBuiltins (PySem.Str.ofString "range") = _); boot_fast, by decide⟩⟩
    · exact ⟨by rfl, by decide, .inr ⟨by k_is, by (show bootBuiltins (PySem.Str.ofString "len") = _); boot_fast, by decide⟩⟩
    · exact ⟨by rfl, by decide, .inl (by k_is)⟩
    · exact ⟨by rfl, by decide, .inr ⟨by k_is, by (show bootBuiltins (PySem.Str.ofString "str") = _); boot_fast, by decide⟩⟩
  case k8 => rfl
  case k9 => rfl
  case k10 => rfl
  case k11 => decide
  intro L
  clear kf
  generalize hev : envOf _ _ _ _ _ = ev'
  repeat walk_at "M"
  rename_i d0 o0 h0
  have hll := hip.len
  refine WP.for_range (m := itp.length) (by omega) (fun i vs' n' => ∃ (o : Obj) (acc : Tab) (x y z u v : Option Value), vs' = [some (.ref p), some (.ref q), some (.int (ch : Int) t), some (.ref s), some (.ref d0), x, y, z, u, v] ∧ ((d0, o) :: n).Sublist n' ∧ IsTab w d0 o acc ∧ acc.length ≤ i ∧ toldGo ch signs ((ts.zip cs).drop i) acc = toldF ts cs ch signs) ?_ (fun i vs n tt hi h => ?_) (fun vs n h => ?_)
  · repeat walk_at "M"
    refine WP.len_list (.tail _ hp) (by rw [sizeLine_eq]; omega) fun _ => ?_
    repeat walk_at "M"
    exact ⟨_, _, _, _, _, rfl, rfl, _, _, _, _, _, _, _, rfl, List.Sublist.refl _, h0, Nat.le_refl _, rfl⟩
  · obtain ⟨o, acc, x, y, z, xu, xv, rfl, hsub, ho, hlen, hgo⟩ := h
    refine ⟨_, by walk_at "M.st", WP.sub hsub ?_⟩
    clear hsub
    have hi' : i < ts.length := by omega
    have hic : i < cs.length := by omega
    obtain ⟨v, hv, A, u1, u2, u3, kk, rfl, hA⟩ := hip.at' (List.getElem?_eq_getElem hi')
    obtain ⟨tc, hvc⟩ := ints_at hiq (List.getElem?_eq_getElem hic)
    have hx : (ts.zip cs)[i]? = some (ts[i], cs[i]) := by rw [List.getElem?_zip_eq_some]; exact ⟨List.getElem?_eq_getElem hi', List.getElem?_eq_getElem hic⟩
    have hb := bt _ (List.getElem_mem hi')
    revert hgo hA hb
    rw [drop_next hx]
    generalize ts[i] = T
    generalize cs[i] = C at hvc
    obtain ⟨f, ii, nm⟩ := T
    intro hgo hA hb
    simp only [] at hA hb
    rw [toldGo] at hgo
    have hlog : ii.natAbs.log2 < 1920 := shown (N := 2 ^ 1920) (by omega) (by omega) (Int.le_refl _)
    have hsl : (Str.ofString (toString ii)).length ≤ 10 := toString_length_le (k := 10) (by omega) (by decide) (by omega)
    repeat walk_at "M"
    refine WP.list_item (.tail _ hp) (by omega) (by omega) (by rw [Int.toNat_natCast]; exact hv) ?_
    refine WP.a_tup3 (.tail _ hA) (by walk_at "M.st") (by walk_at "M.st") (by walk_at "M.st") ?_
    repeat walk_at "M"
    refine WP.str_int hlog fun _ => ?_
    repeat walk_at "M"
    refine c116 (by walk_at "M.mem") (.tail _ (.tail _ hs)) (.cons _ _ (.cons _ _ (.cons _ _ .nil))) his rfl ls (by
      intro x hx
      simp only [List.mem_cons, List.not_mem_nil, or_false] at hx
      rcases hx with rfl | rfl | rfl <;> omega) bs fun tt => ?_
    repeat walk_at "M"
    refine WP.list_item (by walk_at "M.mem") (by omega) (by omega) (by rw [Int.toNat_natCast]; exact hvc) ?_
    repeat walk_at "M"
    refine WP.dict_set (by walk_at "M.up") ho (by omega) fun o' ho' => ?_
    repeat walk_at "M"
    exact ⟨_, _, _, _, _, _, _, rfl, List.Sublist.cons _ (List.Sublist.refl _), ho', Nat.le_trans (kdpPut_len _ _ _) (by omega), hgo⟩
  · obtain ⟨o, acc, x, y, z, xu, xv, rfl, hsub, ho, hlen, hgo⟩ := h
    refine WP.sub hsub ?_
    clear hsub
    have e0 : (ts.zip cs).drop itp.length = [] := by rw [hll]; apply List.drop_eq_nil_of_le; rw [List.length_zip]; omega
    rw [e0, toldGo] at hgo
    repeat walk_at "M"
    exact ⟨_, List.Sublist.refl _, hQ _ _ (hgo ▸ ho)⟩
end
section
variable {w : World}
/-- _law_home -/
noncomputable def homeGo : List (List Str × Int) → Tab → Tab
  | [], acc => acc
  | (f, c) :: r, acc => if f.length = 3 then homeGo r (mergeT acc [(stdF (f.getD 0 Str.empty) ((PySem.intText? (f.getD 1 Str.empty)).getD 0) (f.getD 2 Str.empty), c)]) else []
noncomputable def homeF (ps : List (List Str × Int)) : Tab := homeGo ps []
theorem c154 {lv : Nat} {ev : Env} {ns : List Str} {gs : List (Str × Value)} {vs : Vs} {n : Led} {Q : Value → Vs → Led → Prop} {p : Addr} {itp : List Value} {kp : Nat} {ps : List (List Str × Int)}
    (hp : (p, lobj itp kp) ∈ n) (hip : Each (PairV n) itp ps) (lp : ps.length ≤ 1000) (bf : ∀ x ∈ ps, ∀ y ∈ x.1, y.length ≤ 600) (bl : ∀ x ∈ ps, x.1.length ≤ 100000)
    (bi : ∀ x ∈ ps, x.1.length = 3 → ∃ k : Int, PySem.intText? (x.1.getD 1 Str.empty) = some k ∧ 0 ≤ k ∧ k < 1000)
    (hQ : ∀ d o, IsTab w d o (homeF ps) → Q (.ref d) vs ((d, o) :: n)) :
    WP w (lv + 2) ev ns gs vs n (call (.ref 154) [.ref p]) Q := by
  refine WP.drop ?_
  have kf : PySem.Challenge.rw_rx0094_01 = PySem.Challenge.rw_rx0094_01 ∧ Mine.hd.heap_1 w.params = Mine.hd.heap_1 w.params := ⟨rfl, rfl⟩
  revert kf
  k_fill
  intro kf
  refine' WP.enter (ns' := [PySem.Str.ofString "pairs", PySem.Str.ofString "home", PySem.Str.ofString "fields", PySem.Str.ofString "calls"]) (vs' := [some (.ref p), none, none, none]) [(PySem.Str.ofString "pairs", .ref p)] [PySem.Str.ofString "home", PySem.Str.ofString "fields", PySem.Str.ofString "calls"] [(PySem.Str.ofString "len", .builtin "len"), (PySem.Str.ofString "add_callers", .ref 76), (PySem.Str.ofString "func_std_string", .ref 69), (PySem.Str.ofString "int", .type "int")] ?k1 ?k2 ?k3 ?k4 rfl rfl ?k5 ?k6 ?k7 ?k8 ?k9 ?k10 ?k11 ?_
  case k1 => k_is
  case k2 => k_is
  case k3 => rfl
  case k4 => rfl
  case k5 => decide
  case k6 => decide
  case k7 =>
    intro q hq
    simp only [List.mem_cons, List.not_mem_nil, or_false] at hq
    rcases hq with rfl | rfl | rfl | rfl
    · exact ⟨by rfl, by decide, .inr ⟨by k_is, by (show bootBuiltins (PySem.Str.ofString "len") = _); boot_fast, by decide⟩⟩
    · exact ⟨by rfl, by decide, .inl (by k_is)⟩
    · exact ⟨by rfl, by decide, .inl (by k_is)⟩
    · exact ⟨by rfl, by decide, .inr ⟨by k_is, by (show bootBuiltins (PySem.Str.ofString "int") = _); boot_fast, by decide⟩⟩
  case k8 => rfl
  case k9 => rfl
  case k10 => rfl
  case k11 => decide
  intro L
  clear kf
  generalize hev : envOf _ _ _ _ _ = ev'
  repeat walk_at "M"
  rename_i d0 o0 h0
  refine WP.for_list (l := p) (its := itp) (k := kp) (fun i vs' n' => ∃ (d : Addr) (o : Obj) (acc : Tab) (x y : Option Value), vs' = [some (.ref p), some (.ref d), x, y] ∧ ((d, o) :: n).Sublist n' ∧ IsTab w d o acc ∧ acc.length ≤ i ∧ homeGo (ps.drop i) acc = homeF ps) ?_ (fun i vs n h => ?_) (fun i v vs n hv h => ?_) (fun vs n h => ?_)
  · repeat walk_at "M"
    exact ⟨rfl, _, _, _, _, _, rfl, List.Sublist.refl _, h0, Nat.le_refl _, rfl⟩
  · obtain ⟨_, _, _, _, _, rfl, hsub, _⟩ := h; exact hsub.subset (.tail _ hp)
  · obtain ⟨d, o, acc, x, y, rfl, hsub, ho, hlen, hgo⟩ := h
    refine WP.sub hsub ?_
    clear hsub
    obtain ⟨⟨fields, calls⟩, hx, A, l, u, kk, rfl, hA, lf, itf, kf, rfl, hlf, hfs⟩ := hip.at hv
    have hi : i < ps.length := by rw [List.getElem?_eq_some_iff] at hx; exact hx.1
    have hmem := List.mem_of_getElem? hx
    have hb := bf _ hmem
    have hbl := bl _ hmem
    have hbi := bi _ hmem
    simp only [] at hb hbl hbi hA hfs
    rw [drop_next hx, homeGo] at hgo
    refine WP.a_tup2 (.tail _ hA) (by walk_at "M.st") (by walk_at "M.st") ?_
    have hll := hfs.len_eq
    repeat walk_at "M"
    refine WP.len_list (.tail _ hlf) (by rw [sizeLine_eq]; omega) fun _ => ?_
    repeat walk_at "M"
    refine ⟨fun hc => ?_, fun hc => ?_⟩
    · have e : ¬ fields.length = 3 := by rw [← hll]; intro e; rw [e] at hc; exact absurd hc (by decide)
      rw [if_neg e] at hgo
      repeat walk_at "M"
      rename_i dr or hor
      exact ⟨_, List.Sublist.cons_cons _ (by walk_at "M.subl"), hQ _ _ (hgo ▸ hor)⟩
    · have e : fields.length = 3 := by rw [← hll]; have := hc; simp at this; omega
      rw [if_pos e] at hgo
      obtain ⟨kv, hkv, hk0, hk1⟩ := hbi e
      have hgd : ∀ j, (fields.getD j Str.empty).length ≤ 600 := by
        intro j
        rw [List.getD_eq_getElem?_getD]
        cases eg : fields[j]? with
        | none => show (0 : Nat) ≤ _; omega
        | some x => exact hb x (List.mem_of_getElem? eg)
      have g0 := hgd 0
      have g1 := hgd 1
      have g2 := hgd 2
      repeat walk_at "M"
      refine WP.list_str (.tail _ (.tail _ hlf)) hfs (by decide) (by rw [e]; decide) (by omega) fun t0 => ?_
      repeat walk_at "M"
      refine WP.list_str (.tail _ (.tail _ hlf)) hfs (by decide) (by rw [e]; decide) (by omega) fun t1 => ?_
      repeat walk_at "M"
      refine WP.int_str hkv (by show (fields.getD 1 Str.empty).length ≤ _; omega) fun _ => ?_
      repeat walk_at "M"
      refine WP.list_str (.tail _ (.tail _ hlf)) hfs (by decide) (by rw [e]; decide) (by omega) fun t2 => ?_
      repeat walk_at "M"
      refine c69 (by walk_at "M.mem") hk0 (by omega) (by show (fields.getD 0 Str.empty).length ≤ _; omega) (by show (fields.getD 2 Str.empty).length ≤ _; omega) fun tt => ?_
      repeat walk_at "M"
      refine c76 (by walk_at "M.mem") ho (by walk_at "M.mem") (by assumption) (by simp; omega) fun dn on hon => ?_
      repeat walk_at "M"
      refine ⟨_, _, _, _, _, rfl, List.Sublist.cons_cons _ (by walk_at "M.subl"), hon, Nat.le_trans (mergeT_len _ _) (by simp; omega), ?_⟩
      rw [hkv, Option.getD_some] at hgo
      exact hgo
  · obtain ⟨d, o, acc, x, y, rfl, hsub, ho, hlen, hgo⟩ := h
    refine WP.sub hsub ?_
    clear hsub
    have e0 : ps.drop itp.length = [] := by rw [hip.len]; exact List.drop_length
    rw [e0, homeGo] at hgo
    repeat walk_at "M"
    exact ⟨_, List.Sublist.refl _, hQ _ _ (hgo ▸ ho)⟩
end
section
variable {w : World}
/-- _law_pattern -/
noncomputable def brk (s : Str) : Str := if Txt.contains (Str.ofString "*?[") s = true then Str.ofString "[" ++ s ++ Str.ofString "]" else s
noncomputable def patF (signs : List Str) : Str := Txt.join (Str.ofString "*") (signs.map brk)
theorem c147 {lv : Nat} {ev : Env} {ns : List Str} {gs : List (Str × Value)} {vs : Vs} {n : Led} {Q : Value → Vs → Led → Prop} {s : Addr} {its : List Value} {ks : Nat} {signs : List Str}
    (hs : (s, lobj its ks) ∈ n) (his : StrsAre its signs) (ls : signs.length = 4) (bs : ∀ x ∈ signs, x.length ≤ 100)
    (hQ : ∀ t, Q (.str (patF signs) t) vs n) :
    WP w (lv + 1) ev ns gs vs n (call (.ref 147) [.ref s]) Q := by
  refine WP.drop ?_
  have kf : PySem.Challenge.rw_rx0094_01 = PySem.Challenge.rw_rx0094_01 ∧ Mine.hd.heap_1 w.params = Mine.hd.heap_1 w.params := ⟨rfl, rfl⟩
  revert kf
  k_fill
  intro kf
  refine' WP.enter (ns' := [PySem.Str.ofString "signs"]) (vs' := [some (.ref s)]) [(PySem.Str.ofString "signs", .ref s)] [] [] ?k1 ?k2 ?k3 ?k4 rfl rfl ?k5 ?k6 ?k7 ?k8 ?k9 ?k10 ?k11 ?_
  case k1 => k_is
  case k2 => k_is
  case k3 => rfl
  case k4 => rfl
  case k5 => decide
  case k6 => decide
  case k7 => exact fun q hq => nomatch hq
  case k8 => rfl
  case k9 => rfl
  case k10 => rfl
  case k11 => decide
  intro L
  clear kf
  generalize hev : envOf _ _ _ _ _ = ev'
  have hl := his.len_eq
  repeat walk_at "M"
  refine WP.comp_list ?_ (by with_unfolding_all rfl) (by decide) rfl (by decide) rfl
  repeat walk_at "M"
  refine ⟨rfl, s, its, ks, fun i ys n' => n' = n ∧ StrsAre ys ((signs.take i).map brk), rfl, by rw [sizeLine_eq]; omega, ⟨rfl, .nil⟩, fun i ys n h => by obtain ⟨rfl, _⟩ := h; exact hs, ?_, ?_⟩
  · intro i v ys n' C oC m₂ hv hj ho hx
    obtain ⟨rfl, hys⟩ := hj
    obtain ⟨y, t, rfl, hy⟩ := his.item i v hv
    have hyl := bs y (List.mem_of_getElem? hy)
    have e : (signs.take (i + 1)).map brk = (signs.take i).map brk ++ [brk y] := by rw [List.take_add_one, hy]; simp
    repeat walk_at "M"
    have h1 : (Str.ofString "[").length = 1 := by decide
    have h2 : (Str.ofString "]").length = 1 := by decide
    refine ⟨fun hb => ?_, fun hb => ?_⟩
    · repeat walk_at "M"
      refine WP.add_str (by rw [strLen_append, sizeLine_eq]; omega) fun _ => ?_
      repeat walk_at "M"
      refine WP.add_str (by rw [strLen_append, strLen_append, sizeLine_eq]; omega) fun _ => ?_
      refine ⟨rfl, n', Sub2.refl _, rfl, ?_⟩
      rw [e, brk, if_pos hb]
      exact strs_append hys (strs_one _ _)
    · repeat walk_at "M"
      refine ⟨rfl, n', Sub2.refl _, rfl, ?_⟩
      rw [e, brk, if_neg (by rw [hb]; decide)]
      exact strs_append hys (strs_one _ _)
  · intro ys n' hj D
    obtain ⟨rfl, hys⟩ := hj
    rw [hl, List.take_length] at hys
    repeat walk_at "M"
    refine WP.join (by walk_at "M.mem") hys ?_ fun t => ?_
    · have hb : ∀ x ∈ signs, (brk x).length ≤ 102 := by
        intro x hx
        have := bs x hx
        have h1 : (Str.ofString "[").length = 1 := by decide
        have h2 : (Str.ofString "]").length = 1 := by decide
        rw [brk]; split
        · rw [strLen_append, strLen_append]; omega
        · omega
      match signs, ls with
      | [a, b, c, d], _ =>
        have e1 := hb a (by simp)
        have e2 := hb b (by simp)
        have e3 := hb c (by simp)
        have e4 := hb d (by simp)
        have e5 : (Str.ofString "*").length = 1 := by decide
        simp only [List.map_cons, List.map_nil, List.sum_cons, List.sum_nil, List.length_cons, List.length_nil, e5]
        omega
    · repeat walk_at "M"
      exact ⟨n', by walk_at "M.subl", hQ t⟩
end
section
variable {w : World}
/-- _law_numbers -/
noncomputable def numF (script : List Int) : List Nat := (script.take 8).map (fun x => (x.fmod 64).toNat) ++ [45, 14, 31, 41, 2, 20, 14, 53].drop ((script.take 8).map (fun x => (x.fmod 64).toNat)).length
noncomputable abbrev asInts (l : List Nat) : List Int := l.map fun (m : Nat) => (m : Int)
theorem numF_len (s : List Int) : (numF s).length = 8 := by
  have : (s.take 8).length ≤ 8 := by rw [List.length_take]; omega
  simp only [numF, List.length_append, List.length_map, List.length_drop, List.length_cons, List.length_nil]
  omega
theorem numF_lt (s : List Int) : ∀ m ∈ numF s, m < 64 := by
  intro m hm
  rcases List.mem_append.mp hm with h | h
  · obtain ⟨x, hx, rfl⟩ := List.mem_map.mp h
    have := Int.fmod_lt_of_pos x (show (0 : Int) < 64 by decide)
    omega
  · have := List.mem_of_mem_drop h
    simp only [List.mem_cons, List.not_mem_nil, or_false] at this
    rcases this with rfl | rfl | rfl | rfl | rfl | rfl | rfl | rfl <;> decide
theorem enterB {lv : Nat} {ev : Env} {ns : List Str} {gs : List (Str × Value)} {vs : Vs} {n : Led} (B : Heap → Prop) (hB : ∀ h h' : Heap, (∀ b o, h.get? b = some o → h'.get? b = some o) → B h → B h')
    {f : Addr} {us : List Value} {name qual : Str} {params : Arguments} {body : List Stmt} {scope : Scope} {dV kV doc pm cdv ct oc : Value} {an od : Option Addr} {osl : Array (Option Value)}
    {Q : Value → Vs → Led → Prop} (ps : List (Str × Value)) (rest : List Str) (gs' : List (Str × Value)) {ns' : List Str} {vs' : Vs}
    (ho : (Mine.hd.heap_1 w.params).lookup f = some ⟨oc, od, .func (fnOf name qual params body scope dV kV doc pm an cdv ct), osl⟩) (hcd : codeIn (Mine.hd.heap_1 w.params) cdv qual = true)
    (hbind : bindArgs (fnOf name qual params body scope dV kV doc pm an cdv ct) ⟨us, []⟩ = Pure.pure ps) (hloc : (ps.all fun x => decide (scope.names.lookup x.1 = some .local)) = true)
    (hns : ns' = ps.map (·.1) ++ rest) (hvs : vs' = ps.map (fun p => some p.2) ++ rest.map fun _ => none) (nd : ns'.Nodup)
    (loc : ∀ x ∈ ns', scope.names.lookup x = some .local ∧ (x == ("__debug__" : Str)) = false)
    (glb : ∀ q ∈ gs', scope.names.lookup q.1 = some .globalImplicit ∧ (q.1 == ("__debug__" : Str)) = false ∧ (nsIn (Mine.hd.heap_1 w.params) mainGlobals q.1 = some (some q.2) ∨ nsIn (Mine.hd.heap_1 w.params) mainGlobals q.1 = some none ∧ bootBuiltins q.1 = some q.2 ∧ q.1 ≠ "__name__"))
    (hco : scope.isCoroutine = false) (hgen : scope.isGenerator = false) (hk : scope.kind = .function) (hcell : ∀ x ∈ scope.names, x.2 ≠ .cell)
    (H : ∀ L (c : Fx w lv (envOf qual scope L f cdv) ns' gs') (E : Value → Shared → Prop) h tk, B c.h₀ → Inv c vs' n h → wpAny (model PR w) c.A (execs body (envOf qual scope L f cdv)) (Post c (Ret fun v n' => Q v vs n')) E (At c h tk))
    (c : Fx w (lv + 1) ev ns gs) (E : Value → Shared → Prop) (h : Heap) (tk : Nat) (hb : B c.h₀) (I : Inv c vs n h) : wpAny (model PR w) c.A (call (.ref f) us) (Post c Q) E (At c h tk) := by
  refine wpAny_call (code_def c.bel I.1 c.X I.2.1 c.T c.fra c.fr c.kind ho hcd (Nat.lt_of_le_of_lt (Nat.le_add_right _ _) c.room) (BindsTo.of_eq hbind) (locs hloc) ?_ hco hgen hk hcell)
  intro g L' h₁ FG F' N' B' X' T'
  let c' : Fx w lv (envOf qual scope L' f cdv) ns' gs' :=
    { A := c.A.deeper (envOf qual scope L' f cdv), h₀ := g, s₀ := c.s₀, hid := c.hid, nd := nd, kind := hk, loc := loc, mg := c.mg, mb := c.mb,
      glb := fun q hq => ⟨(glb q hq).1, (glb q hq).2.1, (glb q hq).2.2.imp (fun e => mg_of X' T'.g e) fun e => ⟨mg_none_of X' T'.g e.1, (T'.builtins _ e.2.2).trans e.2.1⟩⟩,
      p := c.p, loose := c.loose, mean := c.mean, T := T', X := X', eg := rfl, eb := rfl, hand := c.hand, A₀ := _, base := c.base, outer := ev :: c.outer, bel := B',
      fra := by show c.A.frames.map _ = _; rw [c.fra]; rfl
      fr := rfl, room := by have := c.room; show c.A.depth + 1 + lv < _; omega
      units := by have := c.units; show c.A.units + 3 + 20 * lv + 100 < cLine; omega }
  have e : (fun y => List.lookup y ps.reverse) = lkm ns' vs' := by
    rw [hns, hvs]; exact lkm_binds (hns ▸ nd)
  rw [e] at F'
  have I' : Inv c' vs' n h₁ := ⟨F', N', I.2.2⟩
  refine wpAny_mono (H L' c' _ h₁ (tk + ps.length) (hB _ _ FG.keep hb) I') (fun fl s' q => ?_) fun _ _ x => x
  obtain ⟨h', tk', vs'', n', rfl, I'', q⟩ := q
  refine ⟨L', _, n' ++ c.hid, I''.1, I''.2.1, fun F N => ?_⟩
  cases fl <;> exact Post.ok (h := h') (tk := tk') ⟨F, N, I''.2.2⟩ q
theorem raw_cons {lv : Nat} {ev : Env} {ns : List Str} {gs : List (Str × Value)} {c : Fx w lv ev ns gs} {h : Heap} {tk : Nat} {E : Value → Shared → Prop} {st : Stmt} {rest : List Stmt} {Q : Flow → Vs → Led → Prop}
    (hr : wpAny (model PR w) c.A (exec st ev) (Post c (Then (fun vs n => WP w lv ev ns gs vs n (execs rest ev) Q) Q)) E (At c h tk)) : wpAny (model PR w) c.A (execs (st :: rest) ev) (Post c Q) E (At c h tk) :=
  wpAny_execs_cons (wpAny_mono hr (fun f s' q => by
    obtain ⟨h', tk', vs', n', rfl, I', H⟩ := q
    cases f <;> first | exact H.run _ _ _ _ I' | exact Post.ok I' H) fun _ _ x => x)
theorem ints_item : ∀ {vs : List Value} {ys : List Int}, IntsAre vs ys → ∀ {j : Nat} {v : Value}, vs[j]? = some v → ∃ y t, v = .int y t ∧ ys[j]? = some y
  | _, _, .nil, j, v, e => by simp at e
  | _, _, .cons n t h, 0, v, e => ⟨n, t, by simp at e; exact e.symm, rfl⟩
  | _, _, .cons n t h, j + 1, v, e => by simpa using ints_item h (j := j) (by simpa using e)
theorem ints_append {vs us : List Value} {ys zs : List Int} (h : IntsAre vs ys) (g : IntsAre us zs) : IntsAre (vs ++ us) (ys ++ zs) := IntsAre.append h g
theorem base_list {lv : Nat} {ev : Env} {ns : List Str} {gs : List (Str × Value)} {vs : Vs} {n : Led} {c : Fx w lv ev ns gs} {h : Heap} {a : Addr} {its : List Value} (hb : c.h₀.IsList a its.toArray) (I : Inv c vs n h) : h.IsList a its.toArray := by
  obtain ⟨o, e, r⟩ := hb
  exact ⟨o, I.1.keep _ _ e, r⟩
theorem c159 {lv : Nat} {ev : Env} {ns : List Str} {gs : List (Str × Value)} {vs : Vs} {n : Led} {Q : Value → Vs → Led → Prop} {a : Addr} {its : List Value} {script : List Int} (hi : IntsAre its script) (lz : script.length ≤ 1000)
    (hQ : ∀ b itn k, IntsAre itn (asInts (numF script)) → Q (.ref b) vs ((b, lobj itn k) :: n))
    (c : Fx w (lv + 1) ev ns gs) (E : Value → Shared → Prop) (h : Heap) (tk : Nat) (hb : c.h₀.IsList a its.toArray) (I : Inv c vs n h) : wpAny (model PR w) c.A (call (.ref 159) [.ref a]) (Post c Q) E (At c h tk) := by
  refine wpAny_mono (Q := Post c fun v vs' n' => ∃ n'', n''.Sublist n' ∧ Q v vs' n'') ?_ (fun v s' q => ?_) fun _ _ x => x
  rotate_left
  · obtain ⟨h', tk', vs', n', rfl, I', n'', hs, q⟩ := q
    exact Post.ok (I'.sub hs) q
  revert I hb
  revert c E h tk
  intro c E h tk hb I
  have hll := ints_len hi
  have kf : PySem.Challenge.rw_rx0094_01 = PySem.Challenge.rw_rx0094_01 ∧ Mine.hd.heap_1 w.params = Mine.hd.heap_1 w.params := ⟨rfl, rfl⟩
  revert kf
  k_fill
  intro kf
  refine' enterB (fun h => h.IsList a its.toArray) (fun h h' k ⟨o, e, r⟩ => ⟨o, k _ _ e, r⟩) (ns' := [PySem.Str.ofString "script", PySem.Str.ofString "numbers"]) (vs' := [some (.ref a), none]) [(PySem.Str.ofString "script", .ref a)] [PySem.Str.ofString "numbers"] [(PySem.Str.ofString "len", .builtin "len")] ?k1 ?k2 ?k3 ?k4 rfl rfl ?k5 ?k6 ?k7 ?k8 ?k9 ?k10 ?k11 ?_ c E h tk hb I
  case k1 => k_is
  case k2 => k_is
  case k3 => rfl
  case k4 => rfl
  case k5 => decide
  case k6 => decide
  case k7 =>
    intro q hq
    simp only [List.mem_cons, List.not_mem_nil, or_false] at hq
    rcases hq with rfl
    · exact ⟨by rfl, by decide, .inr ⟨by k_is, by (show bootBuiltins (PySem.Str.ofString "len") = _); boot_fast, by decide⟩⟩
  case k8 => rfl
  case k9 => rfl
  case k10 => rfl
  case k11 => decide
  intro L
  clear kf
  clear hb I tk h E c
  generalize hev : envOf _ _ _ _ _ = ev'
  intro c E h tk hb I
  refine raw_cons ?_
  refine LCg.Assign_ListComp_U (s := At c h tk) I.1 rfl (by rw [← hev]; with_unfolding_all rfl) (by with_unfolding_all rfl) (by decide) rfl (by decide) rfl (c.loc _ (.tail _ (.head _))).1 (by rw [c.kind]; rfl) ?_
  refine Subscript_ ((WP.local_ (Q := fun v vs' n' => v = .ref a ∧ vs' = [some (.ref a), none] ∧ n' = n) (by walk_at "M.lk") ⟨rfl, rfl, rfl⟩).to I fun v1 h1 tk1 vs1 n1 I1 q1 => ?_)
  obtain ⟨rfl, rfl, rfl⟩ := q1
  refine (WP.slice_ (Q := fun v vs' n' => ∃ sl t, v = .ref sl ∧ vs' = [some (.ref a), none] ∧ n' = (sl, { cls := .type "slice", data := .fields #[.none, .int 8 t, .none] }) :: n1) ?_).to I1 fun v2 h2 tk2 vs2 n2 I2 q2 => ?_
  · repeat walk_at "M"
    exact ⟨_, _, rfl, rfl, rfl⟩
  obtain ⟨sl, t8, rfl, rfl, rfl⟩ := q2
  have I3 := I2.sub (List.sublist_cons_self _ n1)
  have hl := base_list hb I3
  refine tail_any hl.typeIs slot_list_getitem.lookup (wpAny_getItem_list_slice (s := At c h2 tk2) hl ⟨_, I2.get (.head _), rfl, rfl⟩ .none (.int 8 _) .none (by simp) ?_ (by rw [List.size_toArray, sizeLine_eq, hll]; omega)) (by with_unfolding_all rfl)
  have hs8 : IntsAre (slicePick its.toArray none (some 8) none).toList (script.take 8) := slice_ints_uptoW hi (y := 8) (by decide)
  obtain ⟨it8, h8⟩ : ∃ l : List Value, slicePick its.toArray none (some 8) none = l.toArray := ⟨(slicePick its.toArray none (some 8) none).toList, by simp⟩
  rw [h8] at hs8 ⊢
  have I4 := I3.push (o := lobj it8 0) rfl
  refine compL_src (tk := tk2) (K := fun ys n => ∀ D, ∃ vs', St [PySem.Str.ofString "script", PySem.Str.ofString "numbers"] [some (.ref a), none] (PySem.Str.ofString "numbers") (.ref D) vs' ∧ _) ?_ I4 fun g ys n k ok => fin_assign (Q := Then _ _) k ok
  have hl8 := ints_len hs8
  have hz8 : (script.take 8).length ≤ 8 := by rw [List.length_take]; omega
  refine ⟨rfl, _, it8, 0, fun i ys n' => ∃ b, n' = (b, lobj it8 0) :: n1 ∧ b = h2.objs.size ∧ IntsAre ys (asInts ((script.take i).map (fun x => (x.fmod 64).toNat))), rfl, by rw [hl8, sizeLine_eq]; omega, ⟨_, rfl, rfl, .nil⟩, fun i ys n' hj => by obtain ⟨b, rfl, rfl, _⟩ := hj; exact .head _, ?_, ?_⟩
  · intro i v ys n' C oC m₂ hv hj ho hx
    obtain ⟨b, rfl, rfl, hys⟩ := hj
    obtain ⟨x, t, rfl, hxi⟩ := ints_item hs8 (by simpa using hv)
    have hxi' : script[i]? = some x := by
      rw [List.getElem?_take] at hxi
      split at hxi
      · exact hxi
      · simp at hxi
    repeat walk_at "M"
    refine WP.mod_int (by decide) fun _ => ?_
    refine ⟨rfl, _, Sub2.refl _, _, rfl, rfl, ?_⟩
    have e : (script.take (i + 1)).map (fun x => (x.fmod 64).toNat) = (script.take i).map (fun x => (x.fmod 64).toNat) ++ [(x.fmod 64).toNat] := by rw [List.take_add_one, hxi']; simp
    rw [e, asInts, List.map_append]
    refine ints_append hys ?_
    have en : (((x.fmod 64).toNat : Nat) : Int) = x.fmod 64 := Int.toNat_of_nonneg (Int.fmod_nonneg_of_pos x (by decide))
    simp only [List.map_cons, List.map_nil, en]
    exact .cons _ _ .nil
  · intro ys n' hj D
    obtain ⟨b, rfl, rfl, hys⟩ := hj
    have hl8' : it8.length = (script.take 8).length := by simpa using hl8
    have etk : script.take it8.length = script.take 8 := by rw [hl8', List.length_take]; exact List.take_eq_take_iff.mpr (by omega)
    rw [etk] at hys
    have hyl := ints_len hys
    have hyl' : ys.length = ((script.take 8).map (fun x => (x.fmod 64).toNat)).length := by rw [hyl, asInts, List.length_map]
    have hy8 : ys.length ≤ 8 := by rw [hyl', List.length_map]; exact hz8
    refine exSt (by walk_at "M.st") ?_
    repeat walk_at "M"
    refine WP.len_list (by walk_at "M.mem") (by rw [sizeLine_eq]; omega) fun _ => ?_
    repeat walk_at "M"
    refine WP.list_slice (by walk_at "M.mem") (.int _ _) .none ?_ fun bs => ?_
    · simp only [sizeLine_eq, List.length_cons, List.length_nil]; omega
    have hpz : ∀ l : List Value, l.length ≤ 8 → (slicePick l.toArray (some (ys.length : Int)) none none).toList.length ≤ 8 := fun l hl => by
      have := slicePick_size_le l.toArray (some (ys.length : Int)) none none
      rw [Array.length_toList]
      exact Nat.le_trans this (by rw [List.size_toArray]; exact hl)
    refine WP.add_list (by walk_at "M.mem") (by walk_at "M.mem") (Nat.le_trans (Nat.add_le_add hy8 (hpz _ (by simp only [List.length_cons, List.length_nil]; omega))) (by rw [sizeLine_eq]; decide)) fun ar => ?_
    repeat walk_at "M"
    refine ⟨_, List.Sublist.cons_cons _ (by walk_at "M.subl"), hQ _ _ 0 ?_⟩
    rw [numF, asInts, List.map_append]
    refine ints_append hys ?_
    rw [← hyl', List.map_drop]
    exact slice_ints_fromW (ns := [45, 14, 31, 41, 2, 20, 14, 53]) (.cons _ _ (.cons _ _ (.cons _ _ (.cons _ _ (.cons _ _ (.cons _ _ (.cons _ _ (.cons _ _ .nil)))))))) (x := (ys.length : Int)) (by omega)
end
section
variable {w : World}
/-- _translate: the pieces of a pattern -/
inductive Pc
  | star
  | lit (c : Nat)
  | sq (c : Nat)
noncomputable def Pc.txt : Pc → List Nat
  | .star => [42]
  | .lit c => [c]
  | .sq c => [91, c, 93]
noncomputable def Pc.res : Pc → Option (List Nat)
  | .star => none
  | .lit c => some (escL c)
  | .sq c => some (if c = 91 then [91, 92, 91, 93] else [91, c, 93])
noncomputable def Pc.ok : Pc → Prop
  | .star => True
  | .lit c => c ∈ [58, 40, 41, 123, 125, 93, 33, 45, 46, 94, 92, 124]
  | .sq c => c ∈ [42, 63, 91]
noncomputable def apart : List Pc → Prop
  | .star :: .star :: _ => False
  | _ :: r => apart r
  | [] => True
end
section
variable {w : World}
/-- escape -/
theorem c48 {lv : Nat} {ev : Env} {ns : List Str} {gs : List (Str × Value)} {vs : Vs} {n : Led} {Q : Value → Vs → Led → Prop} {a : Nat} {t : Tok} (ha : a ∈ [58, 40, 41, 123, 125, 93, 33, 45, 46, 94, 92, 124])
    (hQ : ∀ t, Q (.str (T (escL a)) t) vs n) :
    WP w (lv + 1) ev ns gs vs n (call (.ref 48) [.str (T [a]) t]) Q := by
  have kf : PySem.Challenge.rw_rx0094_01 = PySem.Challenge.rw_rx0094_01 ∧ Mine.hd.heap_1 w.params = Mine.hd.heap_1 w.params := ⟨rfl, rfl⟩
  revert kf
  k_fill
  intro kf
  refine' WP.enter (ns' := [PySem.Str.ofString "pattern"]) (vs' := [some (.str (T [a]) t)]) [(PySem.Str.ofString "pattern", .str (T [a]) t)] [] [(PySem.Str.ofString "isinstance", .builtin "isinstance"), (PySem.Str.ofString "str", .type "str"), (PySem.Str.ofString "_special_chars_map", .ref 38)] ?k1 ?k2 ?k3 ?k4 rfl rfl ?k5 ?k6 ?k7 ?k8 ?k9 ?k10 ?k11 ?_
  case k1 => k_is
  case k2 => k_is
  case k3 => rfl
  case k4 => rfl
  case k5 => decide
  case k6 => decide
  case k7 =>
    intro q hq
    simp only [List.mem_cons, List.not_mem_nil, or_false] at hq
    rcases hq with rfl | rfl | rfl
    · exact ⟨by rfl, by decide, .inr ⟨by k_is, by (show bootBuiltins (PySem.Str.ofString "isinstance") = _); boot_fast, by decide⟩⟩
    · exact ⟨by rfl, by decide, .inr ⟨by k_is, by (show bootBuiltins (PySem.Str.ofString "str") = _); boot_fast, by decide⟩⟩
    · exact ⟨by rfl, by decide, .inl (by k_is)⟩
  case k8 => rfl
  case k9 => rfl
  case k10 => rfl
  case k11 => decide
  intro L
  clear kf
  generalize hev : envOf _ _ _ _ _ = ev'
  repeat walk_at "M"
  refine WP.m_translate ?_
  repeat walk_at "M"
  refine WP.translate ha fun _ => ?_
  repeat walk_at "M"
  exact hQ _
end
section
variable {w : World}
/-- tokens of the joined text -/
inductive Tk
  | hold
  | rest
  | shut
  | brk (c : Nat)
  | brkesc
  | esc (c : Nat)
  | pl (c : Nat)
noncomputable def Tk.txt : Tk → List Nat
  | .hold => [40, 63, 62, 46, 42, 63]
  | .rest => [46, 42]
  | .shut => [41]
  | .brk c => [91, c, 93]
  | .brkesc => [91, 92, 91, 93]
  | .esc c => [92, c]
  | .pl c => [c]
noncomputable def Tk.ok : Tk → Prop
  | .brk c => c = 42 ∨ c = 63
  | .pl c => c = 58 ∨ c = 33
  | _ => True
theorem slT {l : List Nat} {a k : Nat} (h : a ≤ l.length) : Txt.slice (T l) (some (a : Int)) (some ((a : Int) + (k : Int))) = T ((l.drop a).take k) := by
  have := sl l a (a + k) (by omega) h
  rw [show ((a + k : Nat) : Int) = (a : Int) + (k : Int) by omega] at this
  rw [this, Nat.add_sub_cancel_left]
theorem decT {a b : List Nat} : decide (T a = T b) = decide (a = b) := by
  rw [Bool.eq_iff_iff]; simp
theorem take_ne {x : Nat} {r y : List Nat} {k : Nat} {z : Nat} (h : x ≠ z) : decide ((x :: r).take (k + 1) = z :: y) = false := by
  rw [decide_eq_false_iff_not, List.take_succ_cons]
  intro e; injection e with e1 _; exact h e1
noncomputable def Tk.sign : Tk → List Nat
  | .brk c => [c]
  | .brkesc => [91]
  | .esc c => [c]
  | .pl c => [c]
  | _ => []
/-- kinds and texts of _law_runs after one token -/
noncomputable def runStep (p : List Str × List Str) : Tk → List Str × List Str
  | .hold => (p.1 ++ [Str.ofString "hold"], p.2 ++ [Str.ofString ""])
  | .rest => (p.1 ++ [Str.ofString "rest"], p.2 ++ [Str.ofString ""])
  | .shut => (p.1 ++ [Str.ofString "shut"], p.2 ++ [Str.ofString ""])
  | tk => (p.1, p.2.set (p.2.length - 1) (p.2.getD (p.2.length - 1) Str.empty ++ T tk.sign))
noncomputable def runsOf (toks : List Tk) : List Str × List Str := toks.foldl runStep ([Str.ofString "front"], [Str.ofString ""])
theorem runStep_len (p : List Str × List Str) (tk : Tk) (h : p.1.length = p.2.length) (h0 : 0 < p.2.length) : (runStep p tk).1.length = (runStep p tk).2.length ∧ 0 < (runStep p tk).2.length ∧ (runStep p tk).2.length ≤ p.2.length + 1 := by
  cases tk <;> simp [runStep] <;> omega

theorem tst {B tail : List Nat} {a : Nat} (k : Nat) (y : List Nat) {b : Bool} (h : B.drop a = tail) (ha : a ≤ B.length) (hb : decide (tail.take k = y) = b) : decide (Txt.slice (T B) (some (a : Int)) (some ((a : Int) + (k : Int))) = T y) = b := by
  rw [slT ha, h, decT]; exact hb
theorem runStep_sz {p : List Str × List Str} {tk : Tk} {m : Nat} (h : ∀ x ∈ p.2, x.length ≤ m) : ∀ x ∈ (runStep p tk).2, x.length ≤ m + tk.txt.length := by
  have e0 : (Str.ofString "").length = 0 := by decide
  have g : (p.2.getD (p.2.length - 1) Str.empty).length ≤ m := by
    rw [List.getD_eq_getElem?_getD]
    cases e : p.2[p.2.length - 1]? with
    | none => exact Nat.zero_le _
    | some x => exact h x (List.mem_of_getElem? e)
  have one : ∀ tk : Tk, tk.sign.length ≤ tk.txt.length := by intro tk; cases tk <;> simp [Tk.sign, Tk.txt]
  have add : ∀ x ∈ p.2 ++ [Str.ofString ""], x.length ≤ m + tk.txt.length := by
    intro x hx
    rcases List.mem_append.mp hx with hx | hx
    · have := h x hx; omega
    · rw [List.mem_singleton.mp hx]; omega
  have st : ∀ x ∈ p.2.set (p.2.length - 1) (p.2.getD (p.2.length - 1) Str.empty ++ T tk.sign), x.length ≤ m + tk.txt.length := by
    intro x hx
    rcases List.mem_or_eq_of_mem_set hx with hx | rfl
    · have := h x hx; omega
    · rw [strLen_append]; have h1 := one tk; have h2 := T_len tk.sign; omega
  cases tk <;> first | exact add | exact st
theorem runsOf_len : ∀ (toks : List Tk) (p : List Str × List Str), p.1.length = p.2.length → 0 < p.2.length → (toks.foldl runStep p).1.length = (toks.foldl runStep p).2.length ∧ 0 < (toks.foldl runStep p).2.length ∧ (toks.foldl runStep p).2.length ≤ p.2.length + toks.length
  | [], p, h, h0 => ⟨h, h0, by simp⟩
  | tk :: r, p, h, h0 => by
    obtain ⟨a, b, c⟩ := runStep_len p tk h h0
    obtain ⟨a', b', c'⟩ := runsOf_len r (runStep p tk) a b
    exact ⟨a', b', by simp only [List.foldl_cons, List.length_cons]; omega⟩
theorem runsOf_snoc (done : List Tk) (tk : Tk) : runsOf (done ++ [tk]) = runStep (runsOf done) tk := by simp [runsOf]
theorem tok_len : ∀ toks : List Tk, toks.length ≤ (toks.flatMap Tk.txt).length
  | [] => by simp
  | tk :: r => by
    have := tok_len r
    have h : 1 ≤ tk.txt.length := by cases tk <;> simp [Tk.txt]
    simp only [List.flatMap_cons, List.length_append, List.length_cons]
    omega
end
section
variable {w : World}
/-- _join_translated_parts -/
noncomputable def ResV (S : Addr) (v : Value) : Option Str → Prop
  | none => v = .ref S
  | some x => ∃ t, v = .str x t
noncomputable def cat (l : List Str) : Str := Txt.join (Str.ofString "") l
noncomputable def midF : List (List Str) → List Str
  | [] => []
  | [s] => if s = [] then [Str.ofString ".*"] else [Str.ofString ".*", cat s]
  | s :: r => (Str.ofString "(?>.*?" ++ cat s ++ Str.ofString ")") :: midF r
theorem midF_one {s : List Str} (h : s ≠ []) : midF [s] = [Str.ofString ".*", cat s] := by simp [midF, h]
noncomputable def joinF (pre : List Str) (segs : List (List Str)) : Str := Str.ofString "(?s:" ++ cat (pre ++ midF segs) ++ Str.ofString ")\\Z"
noncomputable def parts (pre : List Str) (segs : List (List Str)) : List (Option Str) := pre.map some ++ segs.flatMap fun s => none :: s.map some
noncomputable def flat (segs : List (List Str)) : List (Option Str) := segs.flatMap fun s => none :: s.map some
theorem flat_cons (s : List Str) (r : List (List Str)) : flat (s :: r) = none :: (s.map some ++ flat r) := by simp [flat]
noncomputable def goodS : List (List Str) → Prop
  | [] => True
  | [_] => True
  | s :: r => s ≠ [] ∧ goodS r
theorem goodS.tail {s : List Str} {r : List (List Str)} (h : goodS (s :: r)) : goodS r := by
  cases r with
  | nil => trivial
  | cons _ _ => exact h.2
noncomputable def catR : List Str → Str
  | [] => Str.empty
  | x :: r => x ++ catR r
theorem cat_eq (l : List Str) : cat l = catR l := by
  have e : ∀ l : List Str, Str.join (Str.ofString "") l = catR l := by
    intro l
    induction l with
    | nil => rfl
    | cons x r ih =>
      cases r with
      | nil => show x = x ++ Str.empty; rw [Str.append_empty]
      | cons y r =>
        show x ++ Str.ofString "" ++ Str.join (Str.ofString "") (y :: r) = x ++ catR (y :: r)
        rw [ih]
        show x ++ Str.empty ++ _ = _
        rw [Str.append_empty]
  show Builtin.Str.glued _ _ = _
  rw [StrLaws.glued_eq_join, e]
theorem cat_len (l : List Str) {b : Nat} (h : ∀ x ∈ l, x.length ≤ b) : (cat l).length ≤ l.length * b := by
  rw [cat_eq]
  induction l with
  | nil => show (0 : Nat) ≤ _; omega
  | cons x r ih =>
    have h1 := h x (by simp)
    have h2 := ih fun y hy => h y (by simp [hy])
    show (x ++ catR r).length ≤ _
    rw [strLen_append, List.length_cons, Nat.add_mul]
    omega
theorem sum_len (l : List Str) {b : Nat} (h : ∀ x ∈ l, x.length ≤ b) : (l.map (·.length)).sum ≤ l.length * b := by
  induction l with
  | nil => simp
  | cons x r ih =>
    have h1 := h x (by simp)
    have h2 := ih fun y hy => h y (by simp [hy])
    simp only [List.map_cons, List.sum_cons, List.length_cons, Nat.add_mul]
    omega
theorem at_drop {α : Type} {l : List α} {i : Nat} {a : α} {r : List α} (h : l.drop i = a :: r) : l[i]? = some a ∧ l.drop (i + 1) = r ∧ i < l.length := by
  have hi : i < l.length := by
    rcases Nat.lt_or_ge i l.length with h1 | h1
    · exact h1
    · rw [List.drop_eq_nil_of_le h1] at h; cases h
  rw [List.drop_eq_getElem_cons hi] at h
  injection h with h1 h2
  exact ⟨by rw [List.getElem?_eq_getElem hi, h1], h2, hi⟩
theorem end_drop {α : Type} {l : List α} {i : Nat} (h : l.drop i = []) (hi : i ≤ l.length) : i = l.length := by
  have := congrArg List.length h
  rw [List.length_drop] at this
  simp at this; omega
theorem midF_len : ∀ segs : List (List Str), (midF segs).length ≤ 2 * segs.length
  | [] => by simp [midF]
  | [s] => by by_cases h : s = [] <;> simp [midF, h]
  | s :: t :: r => by
    have := midF_len (t :: r)
    simp only [midF, List.length_cons] at this ⊢
    omega
theorem flat_len : ∀ segs : List (List Str), segs.length ≤ (flat segs).length ∧ ∀ s ∈ segs, s.length ≤ (flat segs).length
  | [] => by simp [flat]
  | s :: r => by
    obtain ⟨h1, h2⟩ := flat_len r
    rw [flat_cons]
    simp only [List.length_cons, List.length_append, List.length_map, List.mem_cons]
    refine ⟨by omega, fun x hx => ?_⟩
    rcases hx with rfl | hx
    · omega
    · have := h2 x hx; omega
theorem midF_bound : ∀ (segs : List (List Str)) (m : Nat), (∀ s ∈ segs, ∀ x ∈ s, x.length ≤ 10) → (∀ s ∈ segs, s.length ≤ m) → ∀ y ∈ midF segs, y.length ≤ m * 10 + 7
  | [], m, _, _, y, hy => by simp [midF] at hy
  | [s], m, h, hm, y, hy => by
    have hc := cat_len s (h s (by simp))
    have hs := hm s (by simp)
    have h10 : s.length * 10 ≤ m * 10 := Nat.mul_le_mul_right _ hs
    have e4 : (Str.ofString ".*").length = 2 := by decide
    by_cases h0 : s = []
    · simp [midF, h0] at hy; subst hy; omega
    · simp [midF, h0] at hy
      rcases hy with rfl | rfl <;> omega
  | s :: t :: r, m, h, hm, y, hy => by
    have hc := cat_len s (h s (by simp))
    have hs := hm s (by simp)
    have h10 : s.length * 10 ≤ m * 10 := Nat.mul_le_mul_right _ hs
    have e1 : (Str.ofString "(?>.*?").length = 6 := by decide
    have e2 : (Str.ofString ")").length = 1 := by decide
    simp only [midF, List.mem_cons] at hy
    rcases hy with rfl | hy
    · rw [strLen_append, strLen_append]; omega
    · exact midF_bound (t :: r) m (fun s hs => h s (by simp at hs ⊢; exact .inr hs)) (fun s hs => hm s (by simp at hs ⊢; exact .inr hs)) y hy
theorem c62 {lv : Nat} {ev : Env} {ns : List Str} {gs : List (Str × Value)} {vs : Vs} {n : Led} {Q : Value → Vs → Led → Prop} {p S : Addr} {itp : List Value} {kp : Nat} {pre : List Str} {segs : List (List Str)}
    (hp : (p, lobj itp kp) ∈ n) (hip : Each (ResV S) itp (parts pre segs)) (hz : (parts pre segs).length ≤ 400) (hsz : ∀ x ∈ pre, x.length ≤ 10) (hsz2 : ∀ s ∈ segs, ∀ x ∈ s, x.length ≤ 10) (hgood : goodS segs)
    (hQ : ∀ t, Q (.str (joinF pre segs) t) vs n) :
    WP w (lv + 1) ev ns gs vs n (call (.ref 62) [.ref p, .ref S]) Q := by
  have hpl0 : (parts pre segs).length = pre.length + (flat segs).length := by simp [parts, flat]
  have hfl := flat_len segs
  have hbound : ∀ y ∈ pre ++ midF segs, y.length ≤ 20000 := by
    intro y hy
    rcases List.mem_append.mp hy with hy | hy
    · have := hsz y hy; omega
    · have := midF_bound segs 400 hsz2 (fun s hs => by have := hfl.2 s hs; omega) y hy; omega
  have hcount : (pre ++ midF segs).length ≤ 810 := by
    have := midF_len segs
    rw [List.length_append]
    omega
  refine WP.drop ?_
  have kf : PySem.Challenge.rw_rx0094_01 = PySem.Challenge.rw_rx0094_01 ∧ Mine.hd.heap_1 w.params = Mine.hd.heap_1 w.params := ⟨rfl, rfl⟩
  revert kf
  k_fill
  intro kf
  refine' WP.enter (ns' := [PySem.Str.ofString "inp", PySem.Str.ofString "STAR", PySem.Str.ofString "res", PySem.Str.ofString "add", PySem.Str.ofString "i", PySem.Str.ofString "n", PySem.Str.ofString "fixed"]) (vs' := [some (.ref p), some (.ref S), none, none, none, none, none]) [(PySem.Str.ofString "inp", .ref p), (PySem.Str.ofString "STAR", .ref S)] [PySem.Str.ofString "res", PySem.Str.ofString "add", PySem.Str.ofString "i", PySem.Str.ofString "n", PySem.Str.ofString "fixed"] [(PySem.Str.ofString "len", .builtin "len")] ?k1 ?k2 ?k3 ?k4 rfl rfl ?k5 ?k6 ?k7 ?k8 ?k9 ?k10 ?k11 ?_
  case k1 => k_is
  case k2 => k_is
  case k3 => rfl
  case k4 => rfl
  case k5 => decide
  case k6 => decide
  case k7 =>
    intro q hq
    simp only [List.mem_cons, List.not_mem_nil, or_false] at hq
    rcases hq with rfl
    · exact ⟨by rfl, by decide, .inr ⟨by k_is, by (show bootBuiltins (PySem.Str.ofString "len") = _); boot_fast, by decide⟩⟩
  case k8 => rfl
  case k9 => rfl
  case k10 => rfl
  case k11 => decide
  intro L
  clear kf
  generalize hev : envOf _ _ _ _ _ = ev'
  have hl := hip.len
  repeat walk_at "M"
  rename_i r
  refine ⟨r, [], 0, rfl, .head _, fun b => ?_⟩
  repeat walk_at "M"
  generalize hN : itp.length = N at *
  refine WP.assign_swap2 ?_ (by rw [← hev]; with_unfolding_all rfl) (by rw [← hev]; with_unfolding_all rfl)
  repeat walk_at "M"
  refine WP.len_list (by walk_at "M.mem") (by rw [sizeLine_eq]; omega) fun tN => ?_
  rw [hN]
  repeat walk_at "M"
  refine ⟨_, _, _, 0, _, _, rfl, .head _, by walk_at "M.st", by walk_at "M.st", ?_⟩
  refine WP.sub (List.sublist_cons_self _ _) ?_
  refine WP.execs_cons ?_
  -- the first while
  refine WP.while_ (fun k vs' n' => ∃ (i : Nat) (t : Tok) (itr : List Value) (kr : Nat), vs' = [some (.ref p), some (.ref S), some (.ref r), some (.ref b), some (.int (i : Int) t), some (.int (N : Int) tN), none] ∧ n' = (b, bmObj r) :: (r, lobj itr kr) :: n ∧ i + k = pre.length ∧ StrsAre itr (pre.take i)) pre.length ⟨0, _, _, _, rfl, rfl, by omega, .nil⟩ ?_
  rintro k vs' n' ⟨i, t, itr, kr, rfl, rfl, hik, hit⟩
  have hpl : (parts pre segs).length = pre.length + (flat segs).length := by simp [parts, flat]
  refine WP.test (i < pre.length) ?_ (fun hP => ⟨fun h => ?_, fun h => nomatch h⟩) (fun hP => ⟨fun h => (nomatch h), fun h => ?_⟩)
  · repeat walk_at "M"
    refine ⟨fun hw => ?_, fun hw => ?_⟩
    · have hw' : i < N := by simpa using hw
      obtain ⟨rr, hrr⟩ : ∃ rr, (parts pre segs)[i]? = some rr := ⟨_, List.getElem?_eq_getElem (by omega)⟩
      obtain ⟨v, hv, hR⟩ := hip.at' hrr
      repeat walk_at "M"
      refine WP.list_item (by walk_at "M.mem") (by omega) (by omega) (by rw [Int.toNat_natCast]; exact hv) ?_
      by_cases hP : i < pre.length
      · have : rr = some pre[i] := by
          rw [parts, List.getElem?_append_left (by simpa using hP), List.getElem?_map, List.getElem?_eq_getElem hP] at hrr
          simpa using hrr.symm
        subst this
        obtain ⟨tt, rfl⟩ := hR
        repeat walk_at "M"
        exact ⟨rfl, rfl, by simp [hP]⟩
      · have : rr = none := by
          have hi : i = pre.length := by omega
          rw [parts, List.getElem?_append_right (by simp; omega)] at hrr
          cases segs with
          | nil => simp at hrr
          | cons s sr =>
            have e0 : i - (List.map some pre).length = 0 := by simp; omega
            rw [e0] at hrr
            simpa using hrr.symm
        subst this
        have hR' : v = .ref S := hR
        subst hR'
        repeat walk_at "M"
        exact ⟨rfl, rfl, by simp [hP]⟩
    · have hw' : ¬ i < N := by simpa using hw
      refine ⟨rfl, rfl, ?_⟩
      simp; omega
  · have hrr : (parts pre segs)[i]? = some (some pre[i]) := by
      rw [parts, List.getElem?_append_left (by simpa using hP), List.getElem?_map, List.getElem?_eq_getElem hP]; rfl
    obtain ⟨v, hv, tt, rfl⟩ := hip.at' hrr
    have hlr := hit.len_eq
    rw [List.length_take] at hlr
    repeat walk_at "M"
    refine WP.call_bm (.head _) ?_
    repeat walk_at "M"
    refine WP.list_item (by walk_at "M.mem") (by omega) (by omega) (by rw [Int.toNat_natCast]; exact hv) ?_
    repeat walk_at "M"
    refine ⟨.head _, ?_⟩
    refine WP.bm_append (.head _) (by walk_at "M.up") (by rw [sizeLine_eq]; omega) ?_
    repeat walk_at "M"
    refine ⟨trivial, ?_⟩
    repeat walk_at "M"
    refine ⟨k - 1, by omega, i + 1, _, _, _, rfl, rfl, by omega, ?_⟩
    rw [List.take_add_one, List.getElem?_eq_getElem hP]
    exact strs_append hit (strs_one _ _)
  · have hi : i = pre.length := by omega
    subst hi
    rw [List.take_length] at hit
    refine WP.execs_cons ?_
    refine WP.meet (fun vs' n' => ∃ (t : Tok) (itr : List Value) (kr : Nat) (x : Option Value), vs' = [some (.ref p), some (.ref S), some (.ref r), some (.ref b), some (.int (N : Int) t), some (.int (N : Int) tN), x] ∧ ((r, lobj itr kr) :: n).Sublist n' ∧ StrsAre itr (pre ++ midF segs)) ?_ ?_
    rotate_left
    · rintro vs' n' ⟨t, itr, kr, x, rfl, hsub, hit⟩
      refine WP.sub hsub ?_
      clear hsub
      have hall : ∀ y ∈ pre ++ midF segs, y.length ≤ 20000 := hbound
      have hnum : (pre ++ midF segs).length ≤ 810 := hcount
      have hsum := sum_len _ hall
      have hcl := cat_len _ hall
      have hm1 : (pre ++ midF segs).length * 20000 ≤ 810 * 20000 := Nat.mul_le_mul_right _ hnum
      have e0 : (Str.ofString "").length = 0 := by decide
      have e1 : (Str.ofString "(?s:").length = 4 := by decide
      have e2 : (Str.ofString ")\\Z").length = 3 := by decide
      have e3 : (Str.empty).length = 0 := by decide
      repeat walk_at "M"
      refine ⟨by simp, ?_⟩
      repeat walk_at "M"
      refine WP.join (by walk_at "M.mem") hit (by rw [e0, Nat.mul_zero]; omega) fun _ => ?_
      repeat walk_at "M"
      refine WP.jp_cons ?_
      repeat walk_at "M"
      refine ⟨_, _, rfl, by rw [strLen_append, sizeLine_eq]; omega, ?_⟩
      refine WP.jp_cons ?_
      repeat walk_at "M"
      refine ⟨_, _, rfl, by rw [sizeLine_eq]; show (cat (pre ++ midF segs)).length ≤ _; omega, fun _ => ⟨_, _, rfl, by rw [strLen_append, strLen_append, sizeLine_eq]; show _ + _ + (cat (pre ++ midF segs)).length ≤ _; omega, ?_⟩⟩
      refine WP.jp_cons ?_
      repeat walk_at "M"
      refine ⟨_, _, rfl, by rw [strLen_append, strLen_append, strLen_append, sizeLine_eq]; show _ + _ + (cat (pre ++ midF segs)).length + _ ≤ _; omega, ?_⟩
      refine WP.jp_nil (by rw [strLen_append, strLen_append, strLen_append, sizeLine_eq]; show _ + _ + (cat (pre ++ midF segs)).length + _ ≤ _; omega) fun t => ?_
      repeat walk_at "M"
      refine ⟨n, by walk_at "M.subl", ?_⟩
      have := hQ t
      rw [joinF] at this
      rw [Str.empty_append]
      exact this
    refine WP.while_ (fun k vs' n' => ∃ (i : Nat) (t : Tok) (itr : List Value) (kr : Nat) (D : List Str) (rest : List (List Str)) (x : Option Value), vs' = [some (.ref p), some (.ref S), some (.ref r), some (.ref b), some (.int (i : Int) t), some (.int (N : Int) tN), x] ∧ ((b, bmObj r) :: (r, lobj itr kr) :: n).Sublist n' ∧ rest.length = k ∧ i ≤ N ∧ (parts pre segs).drop i = flat rest ∧ StrsAre itr (pre ++ D) ∧ midF segs = D ++ midF rest ∧ goodS rest ∧ (∀ s ∈ rest, s ∈ segs) ∧ (∀ y ∈ D, y.length ≤ 20000) ∧ D.length ≤ i - pre.length ∧ pre.length ≤ i) segs.length ⟨pre.length, _, _, _, [], segs, _, rfl, List.Sublist.refl _, rfl, by omega, ?_, by simpa using hit, rfl, hgood, fun s h => h, by simp, by simp, Nat.le_refl _⟩ ?_
    · simp [parts, flat]
    rintro k vs' n' ⟨i, t, itr, kr, D, rest, x, rfl, hsub, hk, hiN, hdrop, hit, hmid, hg, hin, hDz, hDl, hpi⟩
    refine WP.sub hsub ?_
    clear hsub
    repeat walk_at "M"
    refine ⟨fun hw => ?_, fun hw => ?_⟩
    · have hw' : i < N := by simpa using hw
      cases rest with
      | nil =>
        have := end_drop (show (parts pre segs).drop i = [] from hdrop) (by omega)
        omega
      | cons s rest =>
        rw [flat_cons] at hdrop
        obtain ⟨h1, h2, h3⟩ := at_drop hdrop
        obtain ⟨v, hv, hR⟩ := hip.at' h1
        have hR' : v = .ref S := hR
        subst hR'
        have hss := hin s (by simp)
        have hsb := hsz2 s hss
        have hlr := hit.len_eq
        rw [List.length_append] at hlr
        repeat walk_at "M"
        refine WP.list_item (by walk_at "M.mem") (by omega) (by omega) (by rw [Int.toNat_natCast]; exact hv) ?_
        repeat walk_at "M"
        refine ⟨rfl, ?_⟩
        repeat walk_at "M"
        refine ⟨fun he => ?_, fun he => ?_⟩
        · have he' : i + 1 = N := by have := beq_iff_eq.mp he; omega
          have e2 : s.map some ++ flat rest = [] := by rw [← h2]; exact List.drop_eq_nil_of_le (by omega)
          have es : s = [] := by cases s with | nil => rfl | cons _ _ => simp at e2
          have er : rest = [] := by cases rest with | nil => rfl | cons _ _ => rw [flat_cons] at e2; simp at e2
          subst es; subst er
          repeat walk_at "M"
          refine WP.call_bm (.head _) ?_
          repeat walk_at "M"
          refine ⟨.head _, ?_⟩
          refine WP.bm_append (.head _) (by walk_at "M.up") (by rw [sizeLine_eq]; omega) ?_
          repeat walk_at "M"
          refine ⟨trivial, ?_⟩
          repeat walk_at "M"
          refine ⟨_, _, _, _, by rw [show ((i : Int) + 1) = (N : Int) by omega], List.Sublist.cons _ (List.Sublist.refl _), ?_⟩
          rw [hmid, ← List.append_assoc]
          exact strs_append hit (strs_one _ _)
        · have he' : i + 1 ≠ N := by intro e; rw [beq_eq_false_iff_ne] at he; omega
          have hs0 : s ≠ [] := by
            rintro rfl
            cases rest with
            | nil => have := end_drop (show (parts pre segs).drop (i + 1) = [] from h2) (by omega); omega
            | cons _ _ => exact hg.1 rfl
          obtain ⟨y0, s', hsv⟩ : ∃ y0 s', s = y0 :: s' := by cases s with | nil => exact absurd rfl hs0 | cons a b => exact ⟨a, b, rfl⟩
          have h2' : (parts pre segs).drop (i + 1) = some y0 :: (s'.map some ++ flat rest) := by rw [h2, hsv]; rfl
          obtain ⟨v1, hv1, tt1, rfl⟩ := hip.at' (at_drop h2').1
          have hlen2 : (s.map some ++ flat rest).length = N - (i + 1) := by rw [← h2, List.length_drop]; omega
          simp only [List.length_append, List.length_map] at hlen2
          have hs1 : 1 ≤ s.length := by rw [hsv]; simp
          clear hsv h2'
          repeat walk_at "M"
          refine WP.list_item (by walk_at "M.mem") (by omega) (by omega) (by rw [show ((i : Int) + 1).toNat = i + 1 by omega]; exact hv1) ?_
          repeat walk_at "M"
          refine ⟨rfl, ?_⟩
          repeat walk_at "M"
          rename_i fx
          refine WP.meet (fun vs' n' => ∃ (t : Tok) (itf : List Value) (kf : Nat), vs' = [some (.ref p), some (.ref S), some (.ref r), some (.ref b), some (.int ((i + 1 + s.length : Nat) : Int) t), some (.int (N : Int) tN), some (.ref fx)] ∧ n' = (fx, lobj itf kf) :: (b, bmObj r) :: (r, lobj itr kr) :: n ∧ StrsAre itf s) ?_ ?_
          · refine WP.while_ (fun k vs' n' => ∃ (j : Nat) (t : Tok) (itf : List Value) (kf : Nat), vs' = [some (.ref p), some (.ref S), some (.ref r), some (.ref b), some (.int ((i + 1 + j : Nat) : Int) t), some (.int (N : Int) tN), some (.ref fx)] ∧ n' = (fx, lobj itf kf) :: (b, bmObj r) :: (r, lobj itr kr) :: n ∧ j + k = s.length ∧ StrsAre itf (s.take j)) s.length ⟨0, _, [], 0, rfl, rfl, by omega, .nil⟩ ?_
            rintro k' vs' n' ⟨j, t', itf, kf, rfl, rfl, hjk, hif⟩
            have hdj : (parts pre segs).drop (i + 1 + j) = (s.drop j).map some ++ flat rest := by
              rw [← List.drop_drop, h2, List.drop_append_of_le_length (by simp; omega), List.map_drop]
            refine WP.test (j < s.length) ?_ (fun hP => ⟨fun h => ?_, fun h => nomatch h⟩) (fun hP => ⟨fun h => (nomatch h), fun h => ?_⟩)
            · repeat walk_at "M"
              refine ⟨fun hw2 => ?_, fun hw2 => ?_⟩
              · have hw2' : i + 1 + j < N := by have := of_decide_eq_true hw2; omega
                by_cases hP : j < s.length
                · rw [List.drop_eq_getElem_cons hP] at hdj
                  obtain ⟨v2, hv2, tt2, rfl⟩ := hip.at' (at_drop hdj).1
                  repeat walk_at "M"
                  refine WP.list_item (by walk_at "M.mem") (by omega) (by omega) (by rw [Int.toNat_natCast]; exact hv2) ?_
                  repeat walk_at "M"
                  exact ⟨rfl, rfl, by simp [hP]⟩
                · have hd0 : s.drop j = [] := List.drop_eq_nil_of_le (by omega)
                  rw [hd0, List.map_nil, List.nil_append] at hdj
                  cases rest with
                  | nil => have := end_drop (show (parts pre segs).drop (i + 1 + j) = [] from hdj) (by omega); omega
                  | cons s2 r2 =>
                    rw [flat_cons] at hdj
                    obtain ⟨v2, hv2, hR2⟩ := hip.at' (at_drop hdj).1
                    have hR2' : v2 = .ref S := hR2
                    subst hR2'
                    repeat walk_at "M"
                    refine WP.list_item (by walk_at "M.mem") (by omega) (by omega) (by rw [Int.toNat_natCast]; exact hv2) ?_
                    repeat walk_at "M"
                    exact ⟨rfl, rfl, by simp [hP]⟩
              · have hw2' : ¬ i + 1 + j < N := by have := of_decide_eq_false hw2; omega
                refine ⟨rfl, rfl, ?_⟩
                simp; omega
            · rw [List.drop_eq_getElem_cons hP] at hdj
              obtain ⟨v2, hv2, tt2, rfl⟩ := hip.at' (at_drop hdj).1
              have hlf := hif.len_eq
              rw [List.length_take] at hlf
              repeat walk_at "M"
              refine WP.list_item (by walk_at "M.mem") (by omega) (by omega) (by rw [Int.toNat_natCast]; exact hv2) ?_
              repeat walk_at "M"
              refine WP.append (by walk_at "M.up") (by rw [sizeLine_eq]; omega) ?_
              repeat walk_at "M"
              refine ⟨trivial, ?_⟩
              repeat walk_at "M"
              refine ⟨k' - 1, by omega, j + 1, _, _, _, rfl, rfl, by omega, ?_⟩
              rw [List.take_add_one, List.getElem?_eq_getElem hP]
              exact strs_append hif (strs_one _ _)
            · have hj : j = s.length := by omega
              subst hj
              rw [List.take_length] at hif
              exact ⟨_, _, _, rfl, rfl, hif⟩
          · rintro vs' n' ⟨t', itf, kf, rfl, rfl, hif⟩
            have hcs : (cat s).length ≤ s.length * 10 := cat_len s hsb
            have hsm : (s.map (·.length)).sum ≤ s.length * 10 := sum_len s hsb
            have e0 : (Str.ofString "").length = 0 := by decide
            have e1 : (Str.ofString "(?>.*?").length = 6 := by decide
            have e2 : (Str.ofString ")").length = 1 := by decide
            have e3 : (Str.empty).length = 0 := by decide
            repeat walk_at "M"
            refine WP.join (by walk_at "M.mem") hif (by rw [e0, Nat.mul_zero]; omega) fun _ => ?_
            repeat walk_at "M"
            refine ⟨fun hb => ?_, fun hb => ?_⟩
            · have hb' : i + 1 + s.length = N := by have := beq_iff_eq.mp hb; omega
              have er : rest = [] := by
                cases rest with
                | nil => rfl
                | cons s2 r2 => rw [flat_cons] at hlen2; simp at hlen2; omega
              subst er
              repeat walk_at "M"
              refine WP.call_bm (by walk_at "M.mem") ?_
              repeat walk_at "M"
              refine ⟨by walk_at "M.mem", ?_⟩
              refine WP.bm_append (by walk_at "M.mem") (by walk_at "M.up") (by rw [sizeLine_eq]; omega) ?_
              repeat walk_at "M"
              refine ⟨trivial, ?_⟩
              repeat walk_at "M"
              refine WP.call_bm (by walk_at "M.mem") ?_
              repeat walk_at "M"
              refine ⟨by walk_at "M.mem", ?_⟩
              refine WP.bm_append (by walk_at "M.mem") (by walk_at "M.up") (by rw [sizeLine_eq]; simp; omega) ?_
              repeat walk_at "M"
              refine ⟨trivial, ?_⟩
              repeat walk_at "M"
              refine ⟨k - 1, by simp at hk; omega, i + 1 + s.length, _, _, _, D ++ [Str.ofString ".*", cat s], [], _, rfl, List.Sublist.cons _ (List.Sublist.refl _), by simp at hk; simp; omega, by omega, ?_, ?_, ?_, trivial, by simp, ?_, ?_, by omega⟩
              · rw [hb']; exact List.drop_eq_nil_of_le (by omega)
              · rw [show pre ++ (D ++ [Str.ofString ".*", cat s]) = (pre ++ D ++ [Str.ofString ".*"]) ++ [cat s] by simp]
                exact strs_append (strs_append hit (strs_one _ _)) (strs_one _ _)
              · rw [hmid, midF_one hs0]; simp [midF]
              · intro y hy
                rcases List.mem_append.mp hy with hy | hy
                · exact hDz y hy
                · simp at hy
                  have e4 : (Str.ofString ".*").length = 2 := by decide
                  rcases hy with rfl | rfl <;> omega
              · simp; omega
            · have hb' : i + 1 + s.length ≠ N := by have := beq_eq_false_iff_ne.mp hb; omega
              obtain ⟨s2, r2, rfl⟩ : ∃ s2 r2, rest = s2 :: r2 := by
                cases rest with
                | nil => have : (flat ([] : List (List Str))).length = 0 := rfl; omega
                | cons a b => exact ⟨a, b, rfl⟩
              repeat walk_at "M"
              refine WP.call_bm (by walk_at "M.mem") ?_
              repeat walk_at "M"
              refine WP.jp_cons ?_
              repeat walk_at "M"
              refine ⟨_, _, rfl, by rw [strLen_append, sizeLine_eq]; omega, ?_⟩
              refine WP.jp_cons ?_
              repeat walk_at "M"
              refine ⟨_, _, rfl, by rw [sizeLine_eq]; show (cat s).length ≤ _; omega, fun _ => ⟨_, _, rfl, by rw [strLen_append, strLen_append, sizeLine_eq]; show _ + _ + (cat s).length ≤ _; omega, ?_⟩⟩
              refine WP.jp_cons ?_
              repeat walk_at "M"
              refine ⟨_, _, rfl, by rw [strLen_append, strLen_append, strLen_append, sizeLine_eq]; show _ + _ + (cat s).length + _ ≤ _; omega, ?_⟩
              refine WP.jp_nil (by rw [strLen_append, strLen_append, strLen_append, sizeLine_eq]; show _ + _ + (cat s).length + _ ≤ _; omega) fun tf => ?_
              repeat walk_at "M"
              refine ⟨by walk_at "M.mem", ?_⟩
              refine WP.bm_append (by walk_at "M.mem") (by walk_at "M.up") (by rw [sizeLine_eq]; omega) ?_
              repeat walk_at "M"
              refine ⟨trivial, ?_⟩
              repeat walk_at "M"
              refine ⟨k - 1, by simp at hk; omega, i + 1 + s.length, _, _, _, D ++ [Str.ofString "(?>.*?" ++ cat s ++ Str.ofString ")"], s2 :: r2, _, rfl, List.Sublist.cons _ (List.Sublist.refl _), by simp at hk; simp; omega, by omega, ?_, ?_, ?_, hg.tail, fun s h => hin s (List.mem_cons_of_mem _ h), ?_, ?_, by omega⟩
              · rw [← List.drop_drop, h2, List.drop_append_of_le_length (by simp), List.drop_eq_nil_of_le (by simp)]; rfl
              · rw [Str.empty_append, ← List.append_assoc]
                exact strs_append hit (strs_one _ _)
              · rw [hmid]; simp [midF]
              · intro y hy
                rcases List.mem_append.mp hy with hy | hy
                · exact hDz y hy
                · simp at hy
                  subst hy
                  rw [strLen_append, strLen_append]; omega
              · simp; omega
    · have hw' : ¬ i < N := by simpa using hw
      have : rest = [] := by
        cases rest with
        | nil => rfl
        | cons s r => rw [flat_cons] at hdrop; have := (at_drop hdrop).2.2; omega
      subst this
      have hiN' : i = N := by omega
      subst hiN'
      refine ⟨_, _, _, _, rfl, List.Sublist.cons _ (List.Sublist.refl _), ?_⟩
      rw [hmid]
      simpa [midF] using hit
end
section
variable {w : World}
noncomputable def ResL (S : Addr) (v : Value) (r : Option (List Nat)) : Prop := ResV S v (r.map T)
theorem txt_len (p : Pc) : 1 ≤ p.txt.length ∧ p.txt.length ≤ 3 := by cases p <;> simp [Pc.txt]
theorem txts_len : ∀ ps : List Pc, (ps.flatMap Pc.txt).length ≤ 3 * ps.length
  | [] => by simp
  | p :: r => by
    have h1 := txt_len p
    have h2 := txts_len r
    simp only [List.flatMap_cons, List.length_append, List.length_cons]
    omega
theorem apart_tail {p : Pc} {r : List Pc} (h : apart (p :: r)) : apart r := by
  cases p with
  | star => cases r with
    | nil => trivial
    | cons q r => cases q <;> first | exact h.elim | exact h
  | lit _ => exact h
  | sq _ => exact h
theorem apart_drop : ∀ (l r : List Pc), apart (l ++ r) → apart r
  | [], r, h => h
  | p :: l, r, h => apart_drop l r (apart_tail h)
theorem apart_last {done rest : List Pc} {p : Pc} (h : apart (done ++ Pc.star :: rest)) (hl : done[done.length - 1]? = some p) : p ≠ .star := by
  rintro rfl
  have hne : done ≠ [] := by rintro rfl; simp at hl
  have e : done = done.dropLast ++ [Pc.star] := by
    have h1 := List.dropLast_concat_getLast hne
    have h2 : done.getLast hne = Pc.star := by
      have := List.getLast?_eq_getElem? (l := done)
      rw [hl, List.getLast?_eq_some_getLast hne] at this
      exact Option.some.inj this
    rw [h2] at h1
    exact h1.symm
  rw [e, List.append_assoc] at h
  exact apart_drop _ _ h
theorem sq_in {a : Nat} (ha : a ∈ [42, 63, 91]) : ([Str.ofString "^", Str.ofString "["].any (· == T [a])) = decide (a = 91) := by
  simp only [List.mem_cons, List.not_mem_nil, or_false] at ha
  rcases ha with rfl | rfl | rfl <;> decide +kernel
theorem br1 (a : Nat) : Str.empty ++ Str.ofString "[" ++ T [a] ++ Str.ofString "]" = T [91, a, 93] := by
  rw [Str.empty_append]
  show T [91] ++ T [a] ++ T [93] = _
  rw [T_add, T_add]; rfl
theorem br2 : Str.empty ++ Str.ofString "[" ++ (Str.ofString "\\" ++ T [91]) ++ Str.ofString "]" = T [91, 92, 91, 93] := by
  rw [Str.empty_append]
  show T [91] ++ (T [92] ++ T [91]) ++ T [93] = _
  rw [T_add, T_add, T_add]; rfl
theorem c55 {lv : Nat} {ev : Env} {ns : List Str} {gs : List (Str × Value)} {vs : Vs} {n : Led} {Q : Value → Vs → Led → Prop} {S : Addr} {g : Obj → Led} {ps0 : Array Value} {ps : List Pc} {t u : Tok}
    (U : UpF 50 (tabObj ps0) n g) (hT : TabOk ps0) (hp : ∀ p ∈ ps, p.ok) (ha : apart ps) (hz : ps.length ≤ 100)
    (hQ : ∀ ps' b its k, TabOk ps' → Each (ResV S) its (ps.map fun p => p.res.map T) → Q (.ref b) vs ((b, lobj its k) :: g (tabObj ps'))) :
    WP w (lv + 2) ev ns gs vs n (call (.ref 55) [.str (T (ps.flatMap Pc.txt)) t, .ref S, .str (Str.ofString ".") u]) Q := by
  refine WP.drop ?_
  have kf : PySem.Challenge.rw_rx0094_01 = PySem.Challenge.rw_rx0094_01 ∧ Mine.hd.heap_1 w.params = Mine.hd.heap_1 w.params := ⟨rfl, rfl⟩
  revert kf
  k_fill
  intro kf
  refine' WP.enter (ns' := [PySem.Str.ofString "pat", PySem.Str.ofString "STAR", PySem.Str.ofString "QUESTION_MARK", PySem.Str.ofString "res", PySem.Str.ofString "add", PySem.Str.ofString "i", PySem.Str.ofString "n", PySem.Str.ofString "c", PySem.Str.ofString "j", PySem.Str.ofString "stuff", PySem.Str.ofString "chunks", PySem.Str.ofString "k", PySem.Str.ofString "chunk"]) (vs' := [some (.str (T (ps.flatMap Pc.txt)) t), some (.ref S), some (.str (Str.ofString ".") u), none, none, none, none, none, none, none, none, none, none]) [(PySem.Str.ofString "pat", .str (T (ps.flatMap Pc.txt)) t), (PySem.Str.ofString "STAR", .ref S), (PySem.Str.ofString "QUESTION_MARK", .str (Str.ofString ".") u)] [PySem.Str.ofString "res", PySem.Str.ofString "add", PySem.Str.ofString "i", PySem.Str.ofString "n", PySem.Str.ofString "c", PySem.Str.ofString "j", PySem.Str.ofString "stuff", PySem.Str.ofString "chunks", PySem.Str.ofString "k", PySem.Str.ofString "chunk"] [(PySem.Str.ofString "len", .builtin "len"), (PySem.Str.ofString "range", .type "range"), (PySem.Str.ofString "_twin_re_1", .ref 36), (PySem.Str.ofString "escape", .ref 48)] ?k1 ?k2 ?k3 ?k4 rfl rfl ?k5 ?k6 ?k7 ?k8 ?k9 ?k10 ?k11 ?_
  case k1 => k_is
  case k2 => k_is
  case k3 => rfl
  case k4 => rfl
  case k5 => decide
  case k6 => decide
  case k7 =>
    intro q hq
    simp only [List.mem_cons, List.not_mem_nil, or_false] at hq
    rcases hq with rfl | rfl | rfl | rfl
    · exact ⟨by rfl, by decide, .inr ⟨by k_is, by (show bootBuiltins (PySem.Str.ofString "len") = _); boot_fast, by decide⟩⟩
    · exact ⟨by rfl, by decide, .inr ⟨by k_is, by (show bootBuiltins (PySem.Str.ofString "range") = _); boot_fast, by decide⟩⟩
    · exact ⟨by rfl, by decide, .inl (by k_is)⟩
    · exact ⟨by rfl, by decide, .inl (by k_is)⟩
  case k8 => rfl
  case k9 => rfl
  case k10 => rfl
  case k11 => decide
  intro L
  clear kf
  generalize hev : envOf _ _ _ _ _ = ev'
  generalize hX : ps.flatMap Pc.txt = X
  have hXz : X.length ≤ 300 := by rw [← hX]; have := txts_len ps; omega
  have hsz : (T X).length ≤ sizeLine := by rw [T_len, sizeLine_eq]; omega
  repeat walk_at "M"
  rename_i r
  refine ⟨r, [], 0, rfl, .head _, fun b => ?_⟩
  repeat walk_at "M"
  refine WP.assign_swap2 ?_ (by rw [← hev]; with_unfolding_all rfl) (by rw [← hev]; with_unfolding_all rfl)
  repeat walk_at "M"
  refine WP.len_str hsz fun tN => ?_
  rw [T_len]
  repeat walk_at "M"
  refine ⟨_, _, _, 0, _, _, rfl, .head _, by walk_at "M.st", by walk_at "M.st", ?_⟩
  refine WP.sub (List.sublist_cons_self _ _) ?_
  refine WP.execs_cons ?_
  refine WP.meet (fun vs' n' => ∃ (t5 : Tok) (itr : List Value) (kr : Nat) (ps' : Array Value) (y1 y2 y3 y4 y5 y6 : Option Value), vs' = [some (.str (T X) t), some (.ref S), some (.str (Str.ofString ".") u), some (.ref r), some (.ref b), some (.int (X.length : Int) t5), some (.int (X.length : Int) tN), y1, y2, y3, y4, y5, y6] ∧ ((r, lobj itr kr) :: g (tabObj ps')).Sublist n' ∧ TabOk ps' ∧ Each (ResV S) itr (ps.map fun p => p.res.map T)) ?_ ?_
  · refine WP.while_ (fun rem vs' n' => ∃ (done rest : List Pc) (i : Nat) (t5 : Tok) (itr : List Value) (kr : Nat) (ps' : Array Value) (y1 y2 y3 y4 y5 y6 : Option Value), vs' = [some (.str (T X) t), some (.ref S), some (.str (Str.ofString ".") u), some (.ref r), some (.ref b), some (.int (i : Int) t5), some (.int (X.length : Int) tN), y1, y2, y3, y4, y5, y6] ∧ ((b, bmObj r) :: (r, lobj itr kr) :: g (tabObj ps')).Sublist n' ∧ TabOk ps' ∧ ps = done ++ rest ∧ rest.length = rem ∧ i ≤ X.length ∧ X.drop i = rest.flatMap Pc.txt ∧ Each (ResV S) itr (done.map fun p => p.res.map T)) ps.length ⟨[], ps, 0, _, _, _, ps0, _, _, _, _, _, _, rfl, by rw [U.same]; exact List.Sublist.refl _, hT, rfl, rfl, by omega, by simp [hX], .nil⟩ ?_
    rintro rem vs' n' ⟨done, rest, i, t5, itr, kr, ps', y1, y2, y3, y4, y5, y6, rfl, hsub, hT', hps, hrem, hi, hdr, hit⟩
    refine WP.sub hsub ?_
    clear hsub
    repeat walk_at "M"
    refine ⟨fun hw => ?_, fun hw => ?_⟩
    · have hw' : i < X.length := by simpa using hw
      cases rest with
      | nil => exact absurd (end_drop (show X.drop i = [] from hdr) hi) (by omega)
      | cons p rest =>
        have hpo := hp p (by rw [hps]; simp)
        have hrl : rest.length < rem := by rw [← hrem]; simp
        have hps' : ps = (done ++ [p]) ++ rest := by rw [hps]; simp
        have hil := hit.len
        rw [List.length_map] at hil
        have hdl : done.length ≤ 100 := by rw [hps] at hz; simp at hz; omega
        cases p with
        | star =>
          obtain ⟨h1, h2, h3⟩ := at_drop (show X.drop i = 42 :: rest.flatMap Pc.txt from hdr)
          repeat walk_at "N"
          refine WP.str_at rfl h1 (by omega) fun tc => ?_
          repeat walk_at "M"
          rw [show decide (T [42] = Str.ofString "*") = true from by decide]
          repeat walk_at "M"
          refine WP.truthy_list (by walk_at "M.mem") (by rw [sizeLine_eq]; omega) ?_
          cases he : itr.isEmpty with
          | true =>
            simp only [Bool.not_true, Bool.not_false]
            repeat walk_at "M"
            refine WP.call_bm (.head _) ?_
            repeat walk_at "M"
            refine ⟨.head _, ?_⟩
            refine WP.bm_append (.head _) (by walk_at "M.up") (by rw [sizeLine_eq]; omega) ?_
            repeat walk_at "M"
            refine ⟨trivial, ?_⟩
            repeat walk_at "M"
            refine ⟨_, hrl, _, rest, i + 1, _, _, _, ps', _, _, _, _, _, _, rfl, List.Sublist.refl _, hT', hps', rfl, by omega, h2, ?_⟩
            rw [List.map_append]
            exact hit.append (.cons rfl .nil)
          | false =>
            simp only [Bool.not_true, Bool.not_false]
            have hne : done ≠ [] := by rintro rfl; cases itr with | nil => simp at he | cons _ _ => simp at hil
            obtain ⟨q, hq⟩ : ∃ q, done[done.length - 1]? = some q := by
              have : done.length - 1 < done.length := by have := List.length_pos_iff.mpr hne; omega
              exact ⟨_, List.getElem?_eq_getElem this⟩
            have hqs := apart_last (hps ▸ ha) hq
            obtain ⟨v, hv, hR⟩ := hit.at' (i := done.length - 1) (a := q.res.map T) (by rw [List.getElem?_map, hq]; rfl)
            rw [← hil] at hv
            obtain ⟨xx, tt, rfl⟩ : ∃ xx tt, v = .str xx tt := by
              cases q with
              | star => exact absurd rfl hqs
              | lit a => obtain ⟨tt, e⟩ := hR; exact ⟨_, tt, e⟩
              | sq a => obtain ⟨tt, e⟩ := hR; exact ⟨_, tt, e⟩
            repeat walk_at "M"
            refine WP.list_last (by walk_at "M.mem") rfl hv ?_
            repeat walk_at "M"
            refine WP.call_bm (.head _) ?_
            repeat walk_at "M"
            refine ⟨.head _, ?_⟩
            refine WP.bm_append (.head _) (by walk_at "M.up") (by rw [sizeLine_eq]; omega) ?_
            repeat walk_at "M"
            refine ⟨trivial, ?_⟩
            repeat walk_at "M"
            refine ⟨_, hrl, _, rest, i + 1, _, _, _, ps', _, _, _, _, _, _, rfl, List.Sublist.refl _, hT', hps', rfl, by omega, h2, ?_⟩
            rw [List.map_append]
            exact hit.append (.cons rfl .nil)
        | lit a =>
          obtain ⟨h1, h2, h3⟩ := at_drop (show X.drop i = a :: rest.flatMap Pc.txt from hdr)
          obtain ⟨f1, f2, f3⟩ := lit_facts hpo
          repeat walk_at "N"
          refine WP.str_at rfl h1 (by omega) fun tc => ?_
          repeat walk_at "M"
          rw [f1]
          repeat walk_at "M"
          rw [f2]
          repeat walk_at "M"
          rw [f3]
          repeat walk_at "M"
          refine WP.call_bm (.head _) ?_
          repeat walk_at "M"
          refine c48 hpo fun te => ?_
          repeat walk_at "M"
          refine ⟨.head _, ?_⟩
          refine WP.bm_append (.head _) (by walk_at "M.up") (by rw [sizeLine_eq]; omega) ?_
          repeat walk_at "M"
          refine ⟨trivial, ?_⟩
          repeat walk_at "M"
          refine ⟨_, hrl, _, rest, i + 1, _, _, _, ps', _, _, _, _, _, _, rfl, List.Sublist.refl _, hT', hps', rfl, by omega, h2, ?_⟩
          rw [List.map_append]
          exact hit.append (.cons ⟨_, rfl⟩ .nil)
        | sq a =>
          obtain ⟨h1, h2, h3⟩ := at_drop (show X.drop i = 91 :: a :: 93 :: rest.flatMap Pc.txt from hdr)
          obtain ⟨g1, g2, g3⟩ := at_drop h2
          obtain ⟨k1, k2, k3⟩ := at_drop g2
          obtain ⟨f1, f2, f3, f4⟩ := sq_facts hpo
          repeat walk_at "N"
          refine WP.str_at rfl h1 (by omega) fun tc => ?_
          repeat walk_at "M"
          rw [show decide (T [91] = Str.ofString "*") = false from by decide]
          repeat walk_at "M"
          rw [show decide (T [91] = Str.ofString "?") = false from by decide]
          repeat walk_at "M"
          rw [show decide (T [91] = Str.ofString "[") = true from by decide]
          have d1 : decide ((i : Int) + 1 < (X.length : Int)) = true := decide_eq_true (by omega)
          repeat walk_at "M"
          rw [d1]
          repeat walk_at "M"
          refine WP.str_at (i := i + 1) (by omega) g1 (by omega) fun tc => ?_
          repeat walk_at "M"
          rw [f1]
          repeat walk_at "M"
          rw [d1]
          repeat walk_at "M"
          refine WP.str_at (i := i + 1) (by omega) g1 (by omega) fun tc => ?_
          repeat walk_at "M"
          rw [f2]
          repeat walk_at "M"
          refine WP.meet (fun vs' n' => ∃ (tj ti : Tok) (z1 : Tok), vs' = [some (.str (T X) t), some (.ref S), some (.str (Str.ofString ".") u), some (.ref r), some (.ref b), some (.int ((i + 1 : Nat) : Int) ti), some (.int (X.length : Int) tN), some (.str (T [91]) z1), some (.int ((i + 2 : Nat) : Int) tj), y3, y4, y5, y6] ∧ n' = (b, bmObj r) :: (r, lobj itr kr) :: g (tabObj ps')) ?_ ?_
          · refine WP.while_ (fun k vs' n' => k ≤ 1 ∧ ∃ (tj ti : Tok) (z1 : Tok), vs' = [some (.str (T X) t), some (.ref S), some (.str (Str.ofString ".") u), some (.ref r), some (.ref b), some (.int ((i + 1 : Nat) : Int) ti), some (.int (X.length : Int) tN), some (.str (T [91]) z1), some (.int ((i + 2 - k : Nat) : Int) tj), y3, y4, y5, y6] ∧ n' = (b, bmObj r) :: (r, lobj itr kr) :: g (tabObj ps')) 1 ⟨by omega, _, _, _, by rw [show ((i + 1 : Nat) : Int) = (i : Int) + 1 by omega, show ((i + 2 - 1 : Nat) : Int) = (i : Int) + 1 by omega], rfl⟩ ?_
            rintro k vs' n' ⟨hk, tj, ti, z1, rfl, rfl⟩
            have d2 : decide (((i + 2 - k : Nat) : Int) < (X.length : Int)) = true := decide_eq_true (by omega)
            repeat walk_at "M"
            rw [d2]
            repeat walk_at "M"
            have hk2 : k = 0 ∨ k = 1 := by omega
            rcases hk2 with rfl | rfl
            · refine WP.str_at (i := i + 2) (by omega) k1 (by omega) fun tc => ?_
              repeat walk_at "M"
              rw [show (!decide (T [93] = Str.ofString "]")) = false from by decide]
              repeat walk_at "M"
              exact ⟨_, _, _, rfl, rfl⟩
            · refine WP.str_at (i := i + 1) (by omega) g1 (by omega) fun tc => ?_
              repeat walk_at "M"
              rw [f2, Bool.not_false]
              repeat walk_at "M"
              exact ⟨0, by omega, by omega, _, _, _, by rw [show ((i + 2 - 0 : Nat) : Int) = ((i + 2 - 1 : Nat) : Int) + 1 by omega], rfl⟩
          rintro vs' n' ⟨tj, ti, z1, rfl, rfl⟩
          have d3 : decide (((i + 2 : Nat) : Int) ≥ (X.length : Int)) = false := decide_eq_false (by omega)
          repeat walk_at "M"
          rw [d3]
          repeat walk_at "M"
          have hsl : Txt.slice (T X) (some ((i + 1 : Nat) : Int)) (some ((i + 2 : Nat) : Int)) = T [a] := by
            rw [sl X (i + 1) (i + 2) (by omega) (by omega), h2, show i + 2 - (i + 1) = 1 by omega]; rfl
          rw [hsl]
          repeat walk_at "M"
          rw [f3, Bool.not_false]
          repeat walk_at "M"
          refine WP.replace_none f4 ?_
          repeat walk_at "M"
          refine WP.m_sub ?_
          repeat walk_at "M"
          refine WP.lambda' (hev) (UpF.there (UpF.there U.again)) hT' ⟨rfl, rfl⟩ (by with_unfolding_all rfl) (by with_unfolding_all rfl) fun lam ol ps2 hol hT2 => ?_
          repeat walk_at "M"
          refine WP.sub_ hpo (by walk_at "M.mem") hol fun tsub => ?_
          repeat walk_at "M"
          refine WP.truthy_str (by rw [T_len, sizeLine_eq]; simp) ?_
          rw [show ((((T [a]).length : Nat) : Int) != 0) = true from rfl, Bool.not_true]
          repeat walk_at "M"
          rw [f1]
          repeat walk_at "M"
          refine WP.str_at (i := 0) rfl (by rfl) (by simp) fun tc => ?_
          repeat walk_at "M"
          rw [f1]
          repeat walk_at "M"
          refine WP.str_at (i := 0) rfl (by rfl) (by simp) fun tc => ?_
          repeat walk_at "M"
          refine WP.in_tup (by walk_at "M.mem") (.cons _ _ (.cons _ _ .nil)) ?_
          rw [sq_in hpo]
          have z0 : (Str.ofString "\\").length = 1 := by decide
          have z1 : (Str.ofString "[").length = 1 := by decide
          have z2 : (Str.ofString "]").length = 1 := by decide
          have z3 : (T [a]).length = 1 := rfl
          have z4 : (Str.empty).length = 0 := by decide
          by_cases h91 : a = 91
          · rw [decide_eq_true h91]
            repeat walk_at "M"
            refine WP.add_str (by rw [strLen_append, sizeLine_eq]; omega) fun tadd => ?_
            repeat walk_at "M"
            refine WP.call_bm (by walk_at "M.mem") ?_
            repeat walk_at "M"
            refine WP.jp_cons ?_
            repeat walk_at "M"
            refine ⟨_, _, rfl, by rw [strLen_append, sizeLine_eq]; omega, ?_⟩
            refine WP.jp_cons ?_
            repeat walk_at "M"
            refine ⟨_, _, rfl, by rw [strLen_append, sizeLine_eq]; omega, fun _ => ⟨_, _, rfl, by rw [strLen_append, strLen_append, strLen_append, sizeLine_eq]; omega, ?_⟩⟩
            refine WP.jp_cons ?_
            repeat walk_at "M"
            refine ⟨_, _, rfl, by rw [strLen_append, strLen_append, strLen_append, strLen_append, sizeLine_eq]; omega, ?_⟩
            refine WP.jp_nil (by rw [strLen_append, strLen_append, strLen_append, strLen_append, sizeLine_eq]; omega) fun tf => ?_
            repeat walk_at "M"
            refine ⟨by walk_at "M.mem", ?_⟩
            refine WP.bm_append (by walk_at "M.mem") (by walk_at "M.up") (by rw [sizeLine_eq]; omega) ?_
            repeat walk_at "M"
            refine ⟨trivial, ?_⟩
            repeat walk_at "M"
            refine ⟨_, hrl, _, rest, i + 3, _, _, _, ps2, _, _, _, _, _, _, by rw [show (((i + 2 : Nat) : Int) + 1) = ((i + 3 : Nat) : Int) by omega], by walk_at "M.subl", hT2, hps', rfl, by omega, k2, ?_⟩
            rw [List.map_append]
            refine hit.append (.cons ⟨tf, ?_⟩ .nil)
            subst h91
            rw [br2]; rfl
          · rw [decide_eq_false h91]
            repeat walk_at "M"
            refine WP.call_bm (by walk_at "M.mem") ?_
            repeat walk_at "M"
            refine WP.jp_cons ?_
            repeat walk_at "M"
            refine ⟨_, _, rfl, by rw [strLen_append, sizeLine_eq]; omega, ?_⟩
            refine WP.jp_cons ?_
            repeat walk_at "M"
            refine ⟨_, _, rfl, by rw [sizeLine_eq]; omega, fun _ => ⟨_, _, rfl, by rw [strLen_append, strLen_append, sizeLine_eq]; omega, ?_⟩⟩
            refine WP.jp_cons ?_
            repeat walk_at "M"
            refine ⟨_, _, rfl, by rw [strLen_append, strLen_append, strLen_append, sizeLine_eq]; omega, ?_⟩
            refine WP.jp_nil (by rw [strLen_append, strLen_append, strLen_append, sizeLine_eq]; omega) fun tf => ?_
            repeat walk_at "M"
            refine ⟨by walk_at "M.mem", ?_⟩
            refine WP.bm_append (by walk_at "M.mem") (by walk_at "M.up") (by rw [sizeLine_eq]; omega) ?_
            repeat walk_at "M"
            refine ⟨trivial, ?_⟩
            repeat walk_at "M"
            refine ⟨_, hrl, _, rest, i + 3, _, _, _, ps2, _, _, _, _, _, _, by rw [show (((i + 2 : Nat) : Int) + 1) = ((i + 3 : Nat) : Int) by omega], by walk_at "M.subl", hT2, hps', rfl, by omega, k2, ?_⟩
            rw [List.map_append]
            refine hit.append (.cons ⟨tf, ?_⟩ .nil)
            rw [br1]
            show _ = Value.str (T (if a = 91 then _ else _)) tf
            rw [if_neg h91]
    · have hw' : ¬ i < X.length := by simpa using hw
      have hr : rest = [] := by
        cases rest with
        | nil => rfl
        | cons p r =>
          have := txt_len p
          have e := congrArg List.length hdr
          rw [List.length_drop, List.flatMap_cons, List.length_append] at e
          omega
      subst hr
      rw [List.append_nil] at hps
      subst hps
      have hiX : i = X.length := by omega
      subst hiX
      exact ⟨_, _, _, ps', _, _, _, _, _, _, rfl, List.sublist_cons_self _ _, hT', hit⟩
  · rintro vs' n' ⟨t5, itr, kr, ps', y1, y2, y3, y4, y5, y6, rfl, hsub, hT', hit⟩
    refine WP.sub hsub ?_
    clear hsub
    repeat walk_at "M"
    refine ⟨by simp, ?_⟩
    repeat walk_at "M"
    exact ⟨_, List.Sublist.refl _, hQ ps' _ _ _ hT' hit⟩
end
section
variable {w : World}
theorem sl_last (l : List Nat) (k : Nat) (hk : 0 < k) (h : k ≤ l.length) : Txt.slice (T l) (some (-(k : Int))) none = T (l.drop (l.length - k)) := by
  have e := slice_of (x := T l) (lo := some (-(k : Int))) (hi := none) (lo' := some ((l.length - k : Nat) : Int)) (hi' := none) (by rw [T_len]; exact idx_neg_lo none l.length k h hk)
  rw [e, sl_from _ _ (by omega)]
theorem sl_mid (l : List Nat) (a k : Nat) (hk : 0 < k) (h : a + k ≤ l.length) : Txt.slice (T l) (some (a : Int)) (some (-(k : Int))) = T ((l.drop a).take (l.length - k - a)) := by
  have e := slice_of (x := T l) (lo := some (a : Int)) (hi := some (-(k : Int))) (lo' := some (a : Int)) (hi' := some ((l.length - k : Nat) : Int)) (by rw [T_len]; exact idx_neg_hi _ l.length k (by omega) hk)
  rw [e, sl _ _ _ (by omega) (by omega)]
section
variable {lv : Nat} {ev : Env} {ns : List Str} {gs : List (Str × Value)} {vs : Vs} {n : Led}
theorem WP.cellR {x : Str} {pos : Pos} {cc : Addr} {o : Obj} {v : Value} {Q : Value → Vs → Led → Prop} (hc : ev.cells.lookup x = some cc) (hx : ev.kindOf x = some .cell) (hm : (cc, o) ∈ n) (hd : o.data = .cell (some v)) (hQ : Q v vs n) (hb : (x == ("__debug__" : Str)) = false := by decide) :
    WP w lv ev ns gs vs n (eval (.Name x pos) ev) Q := WP.cell_ hm hd hQ hc hx hb
end
theorem strs_last {vs : List Value} {ys : List Str} (h : StrsAre vs ys) (h0 : 0 < ys.length) : ∃ t, vs[vs.length - 1]? = some (.str (ys.getD (ys.length - 1) Str.empty) t) := by
  have e := h.len_eq
  obtain ⟨t, ht⟩ := h.at (j := ys.length - 1) (y := ys.getD (ys.length - 1) Str.empty) (by rw [List.getD_eq_getElem?_getD, List.getElem?_eq_getElem (by omega)]; rfl)
  exact ⟨t, by rw [e]; exact ht⟩
local macro_rules | `(tactic| walk_at "M.eval") => `(tactic| ((with_reducible show WP _ _ _ _ _ _ _ (eval (Expr.Name _ _) _) _); with_reducible refine WP.cellR (by assumption) (by assumption) (by walk_at "M.mem") (by assumption) ?_))
local macro_rules | `(tactic| walk_at "M.eval") => `(tactic| ((with_reducible show WP _ _ _ _ _ _ _ (eval (Expr.Name _ _) (compEnvC _ _ _ _)) _); with_reducible refine WP.ccellF (by with_unfolding_all rfl) (by with_unfolding_all rfl) (by assumption) (by walk_at "M.mem") (by assumption) ?_))
theorem c95 {lv : Nat} {ev : Env} {ns : List Str} {gs : List (Str × Value)} {vs : Vs} {n : Led} {Q : Value → Vs → Led → Prop} {ps : List Pc} {t : Tok} {g : Obj → Led} {ps0 : Array Value} {pre : List Str} {segs : List (List Str)}
    (U : UpF 50 (tabObj ps0) n g) (hT : TabOk ps0) (hp : ∀ p ∈ ps, p.ok) (ha : apart ps) (hz : ps.length ≤ 100) (hparts : (ps.map fun p => p.res.map T) = parts pre segs) (hgood : goodS segs) (hs1 : ∀ x ∈ pre, x.length ≤ 10) (hs2 : ∀ s ∈ segs, ∀ x ∈ s, x.length ≤ 10) (toks : List Tk) (hB : cat (pre ++ midF segs) = T (toks.flatMap Tk.txt)) (hok : ∀ tk ∈ toks, tk.ok) (hbz : (toks.flatMap Tk.txt).length ≤ 10000) (hcnt : (runsOf toks).1.count (Str.ofString "hold") = (runsOf toks).1.count (Str.ofString "shut"))
    (hQ : ∀ ps' D its k tups, TabOk ps' → Each (RunV tups) its ((runsOf toks).1.zip (runsOf toks).2) → Q (.ref D) vs ((D, lobj its k) :: (tups ++ g (tabObj ps')))) :
    WP w (lv + 3) ev ns gs vs n (call (.ref 95) [.str (T (ps.flatMap Pc.txt)) t]) Q := by
  have kf : PySem.Challenge.rw_rx0094_01 = PySem.Challenge.rw_rx0094_01 ∧ Mine.hd.heap_1 w.params = Mine.hd.heap_1 w.params := ⟨rfl, rfl⟩
  revert kf
  k_fill
  intro kf
  refine' WP.enterC (ns' := [PySem.Str.ofString "pattern", PySem.Str.ofString "star", PySem.Str.ofString "text", PySem.Str.ofString "body", PySem.Str.ofString "at"]) (vs' := [some (.str (T (ps.flatMap Pc.txt)) t), none, none, none, none]) [(PySem.Str.ofString "pattern", .str (T (ps.flatMap Pc.txt)) t)] [(PySem.Str.ofString "_join_translated_parts", .ref 62), (PySem.Str.ofString "_translate", .ref 55), (PySem.Str.ofString "len", .builtin "len"), (PySem.Str.ofString "range", .type "range")] ?k1 ?k2 ?k3 ?k4 ?k5 ?k5m ?k6 ?k6l ?k7 ?k8 ?k9 ?k10 ?_
  case k1 => k_is
  case k2 => k_is
  case k3 => rfl
  case k4 => rfl
  case k5 => decide
  case k5m => exact fun L => bind_local [PySem.Str.ofString "star", PySem.Str.ofString "text", PySem.Str.ofString "body", PySem.Str.ofString "at"] rfl
  case k6 => decide
  case k6l => decide
  case k7 =>
    intro q hq
    simp only [List.mem_cons, List.not_mem_nil, or_false] at hq
    rcases hq with rfl | rfl | rfl | rfl
    · exact ⟨by rfl, by decide, .inl (by k_is)⟩
    · exact ⟨by rfl, by decide, .inl (by k_is)⟩
    · exact ⟨by rfl, by decide, .inr ⟨by k_is, by (show bootBuiltins (PySem.Str.ofString "len") = _); boot_fast, by decide⟩⟩
    · exact ⟨by rfl, by decide, .inr ⟨by k_is, by (show bootBuiltins (PySem.Str.ofString "range") = _); boot_fast, by decide⟩⟩
  case k8 => rfl
  case k9 => rfl
  case k10 => rfl
  intro L cells Y
  clear kf
  obtain ⟨o1, o2, rfl, hd1, hd2⟩ := CellsAre.two (n := PySem.Str.ofString "texts") (n' := PySem.Str.ofString "kinds") (c := L + 1 + 1) (c' := L + 1) Y
  clear Y
  generalize hev : envOfC _ _ _ _ _ = ev' at *
  have hk1 : ev'.cells.lookup (Str.ofString "kinds") = some (L + 1) := by rw [← hev]; rfl
  have hk2 : ev'.kindOf (Str.ofString "kinds") = some .cell := by rw [← hev]; rfl
  have ht1 : ev'.cells.lookup (Str.ofString "texts") = some (L + 1 + 1) := by rw [← hev]; rfl
  have ht2 : ev'.kindOf (Str.ofString "texts") = some .cell := by rw [← hev]; rfl
  repeat walk_at "M"
  rename_i S u
  refine c55 (UpF.there (UpF.there (UpF.there U))) hT hp ha hz fun ps' b its k hT' hE => ?_
  rw [hparts] at hE
  have hl := hE.len
  repeat walk_at "M"
  refine c62 (.head _) hE (by rw [← hparts, List.length_map]; omega) hs1 hs2 hgood fun tj => ?_
  repeat walk_at "N"
  have hj : joinF pre segs = T ([40, 63, 115, 58] ++ (toks.flatMap Tk.txt ++ [41, 92, 90])) := by
    rw [joinF, hB]
    show T [40, 63, 115, 58] ++ T (toks.flatMap Tk.txt) ++ T [41, 92, 90] = _
    rw [T_add, T_add, List.append_assoc]
  rw [hj]
  clear hj hB
  have hsl := tok_len toks
  generalize hBd : toks.flatMap Tk.txt = B at hbz hsl ⊢
  have e4 : Txt.slice (T ([40, 63, 115, 58] ++ (B ++ [41, 92, 90]))) none (some 4) = T [40, 63, 115, 58] := by
    have := sl_to ([40, 63, 115, 58] ++ (B ++ [41, 92, 90])) 4 (by simp)
    simpa using this
  have e3 : Txt.slice (T ([40, 63, 115, 58] ++ (B ++ [41, 92, 90]))) (some (-3)) none = T [41, 92, 90] := by
    have := sl_last ([40, 63, 115, 58] ++ (B ++ [41, 92, 90])) 3 (by decide) (by simp)
    simpa using this
  have em : Txt.slice (T ([40, 63, 115, 58] ++ (B ++ [41, 92, 90]))) (some 4) (some (-3)) = T B := by
    have := sl_mid ([40, 63, 115, 58] ++ (B ++ [41, 92, 90])) 4 3 (by decide) (by simp)
    have el : ([40, 63, 115, 58] ++ (B ++ [41, 92, 90])).length - 3 - 4 = B.length := by simp
    rw [el] at this
    simpa using this
  have hz1 : (T ([40, 63, 115, 58] ++ (B ++ [41, 92, 90]))).length ≤ sizeLine := by rw [T_len, sizeLine_eq]; simp; omega
  generalize T ([40, 63, 115, 58] ++ (B ++ [41, 92, 90])) = X at e4 e3 em hz1 ⊢
  repeat walk_at "M"
  rw [e4, show (!decide (T [40, 63, 115, 58] = Str.ofString "(?s:")) = false from by decide]
  repeat walk_at "M"
  rw [show Txt.slice X (some (-3)) none = T [41, 92, 90] from e3, show (!decide (T [41, 92, 90] = Str.ofString ")\\Z")) = false from by decide]
  repeat walk_at "P"
  walk_at "M"
  repeat walk_at "P"
  rename_i tb
  rw [em]
  refine WP.assign_cell ?_ (by rw [← hev]; rfl) (by rw [← hev]; rfl)
  repeat walk_at "M"
  rename_i tk0 ak
  refine ⟨_, _, _, UpF.there (UpF.there (UpF.there (UpF.there UpF.here))), hd2, fun ok hok1 => ?_⟩
  repeat walk_at "P"
  refine WP.assign_cell ?_ (by rw [← hev]; rfl) (by rw [← hev]; rfl)
  repeat walk_at "M"
  rename_i tt0 at0
  refine ⟨_, _, _, UpF.there (UpF.there (UpF.there (UpF.there UpF.here))), hd1, fun ot hot1 => ?_⟩
  repeat walk_at "M"
  generalize hNr : (b, lobj its k) :: (S, ({ cls := .type "list", data := .seq (#[] : Array Value) } : Obj)) :: (L + 1 + 1, ot) :: (L + 1, ok) :: g (tabObj ps') = nr
  have hmk : (L + 1, ok) ∈ nr := by rw [← hNr]; exact .tail _ (.tail _ (.tail _ (.head _)))
  have hmt : (L + 1 + 1, ot) ∈ nr := by rw [← hNr]; exact .tail _ (.tail _ (.head _))
  have hbl : (T B).length ≤ sizeLine := by rw [T_len, sizeLine_eq]; omega
  refine WP.meet (fun vs' n' => ∃ (t5 : Tok) (ik it : List Value) (kk kt : Nat), vs' = [some (.str (T (ps.flatMap Pc.txt)) t), some (.ref S), some (.str X tj), some (.str (T B) tb), some (.int (B.length : Int) t5)] ∧ n' = (at0, lobj it kt) :: (ak, lobj ik kk) :: nr ∧ StrsAre ik (runsOf toks).1 ∧ StrsAre it (runsOf toks).2) ?_ ?_
  · refine WP.while_ (fun rem vs' n' => ∃ (done rest : List Tk) (a : Nat) (t5 : Tok) (ik it : List Value) (kk kt : Nat), vs' = [some (.str (T (ps.flatMap Pc.txt)) t), some (.ref S), some (.str X tj), some (.str (T B) tb), some (.int (a : Int) t5)] ∧ n' = (at0, lobj it kt) :: (ak, lobj ik kk) :: nr ∧ toks = done ++ rest ∧ rest.length = rem ∧ a ≤ B.length ∧ B.drop a = rest.flatMap Tk.txt ∧ StrsAre ik (runsOf done).1 ∧ StrsAre it (runsOf done).2 ∧ ∀ x ∈ (runsOf done).2, x.length ≤ a) toks.length ⟨[], toks, 0, _, _, _, _, _, rfl, rfl, rfl, rfl, by omega, by simp [hBd], .cons _ _ .nil, .cons _ _ .nil, by intro x hx; rw [List.mem_singleton.mp (show x ∈ [Str.ofString ""] from hx)]; decide⟩ ?_
    rintro rem vs' n' ⟨done, rest, a, t5, ik, it, kk, kt, rfl, rfl, htk, hrem, ha, hdr, hik, hit, hsx⟩
    repeat walk_at "M"
    refine WP.len_str hbl fun _ => ?_
    rw [T_len]
    repeat walk_at "M"
    refine ⟨fun hw => ?_, fun hw => ?_⟩
    · have hw' : a < B.length := by simpa using hw
      cases rest with
      | nil => exact absurd (end_drop (show B.drop a = [] from hdr) ha) (by omega)
      | cons tk rest =>
        have hrl : rest.length < rem := by rw [← hrem]; simp
        have htko := hok tk (by rw [htk]; simp)
        obtain ⟨l1, l2, l3⟩ := runsOf_len done ([Str.ofString "front"], [Str.ofString ""]) rfl (by decide)
        change (runsOf done).1.length = (runsOf done).2.length at l1
        change 0 < (runsOf done).2.length at l2
        change (runsOf done).2.length ≤ 1 + done.length at l3
        have hdl : done.length ≤ 10000 := by rw [htk] at hsl; simp at hsl; omega
        have li := hik.len_eq
        have lt := hit.len_eq
        obtain ⟨tlast, hlast⟩ := strs_last hit l2
        have hne : it ≠ [] := by intro e; rw [e] at lt; simp at lt; omega
        have hlz : ((runsOf done).2.getD ((runsOf done).2.length - 1) Str.empty).length ≤ 10000 := by
          have := hsx ((runsOf done).2.getD ((runsOf done).2.length - 1) Str.empty) (by
            rw [List.getD_eq_getElem?_getD, List.getElem?_eq_getElem (by omega)]; exact List.getElem_mem _)
          omega
        cases tk with
        | hold =>
          obtain ⟨hd0, _, _⟩ := at_drop (show B.drop a = 40 :: (Tk.hold.txt.drop 1 ++ rest.flatMap Tk.txt) from hdr)
          have hlen := congrArg List.length hdr
          simp only [List.flatMap_cons, List.length_append, List.length_drop, Tk.txt, List.length_cons, List.length_nil] at hlen
          repeat walk_at "M"
          rw [show decide (Txt.slice (T B) (some (a : Int)) (some ((a : Int) + 6)) = Str.ofString "(?>.*?") = true from tst 6 [40, 63, 62, 46, 42, 63] hdr ha (by rfl)]
          repeat walk_at "M"
          refine WP.append (by walk_at "M.up") (by rw [sizeLine_eq]; omega) ?_
          repeat walk_at "M"
          refine ⟨trivial, ?_⟩
          repeat walk_at "M"
          refine WP.append (by walk_at "M.up") (by rw [sizeLine_eq]; omega) ?_
          repeat walk_at "M"
          refine ⟨trivial, ?_⟩
          repeat walk_at "M"
          refine ⟨_, hrl, done ++ [Tk.hold], rest, a + 6, _, _, _, _, _, by rw [show ((a : Int) + 6) = ((a + 6 : Nat) : Int) by omega], rfl, by rw [htk]; simp, rfl, by omega, by rw [← List.drop_drop, hdr]; rfl, ?_, ?_, ?_⟩
          · rw [runsOf_snoc]; exact strs_append hik (strs_one _ _)
          · rw [runsOf_snoc]; exact strs_append hit (strs_one _ _)
          · rw [runsOf_snoc]; exact runStep_sz hsx
        | rest =>
          obtain ⟨hd0, _, _⟩ := at_drop (show B.drop a = 46 :: (Tk.rest.txt.drop 1 ++ rest.flatMap Tk.txt) from hdr)
          have hlen := congrArg List.length hdr
          simp only [List.flatMap_cons, List.length_append, List.length_drop, Tk.txt, List.length_cons, List.length_nil] at hlen
          repeat walk_at "M"
          rw [show decide (Txt.slice (T B) (some (a : Int)) (some ((a : Int) + 6)) = Str.ofString "(?>.*?") = false from tst 6 [40, 63, 62, 46, 42, 63] hdr ha (by rfl)]
          repeat walk_at "M"
          rw [show decide (Txt.slice (T B) (some (a : Int)) (some ((a : Int) + 2)) = Str.ofString ".*") = true from tst 2 [46, 42] hdr ha (by rfl)]
          repeat walk_at "M"
          refine WP.append (by walk_at "M.up") (by rw [sizeLine_eq]; omega) ?_
          repeat walk_at "M"
          refine ⟨trivial, ?_⟩
          repeat walk_at "M"
          refine WP.append (by walk_at "M.up") (by rw [sizeLine_eq]; omega) ?_
          repeat walk_at "M"
          refine ⟨trivial, ?_⟩
          repeat walk_at "M"
          refine ⟨_, hrl, done ++ [Tk.rest], rest, a + 2, _, _, _, _, _, by rw [show ((a : Int) + 2) = ((a + 2 : Nat) : Int) by omega], rfl, by rw [htk]; simp, rfl, by omega, by rw [← List.drop_drop, hdr]; rfl, ?_, ?_, ?_⟩
          · rw [runsOf_snoc]; exact strs_append hik (strs_one _ _)
          · rw [runsOf_snoc]; exact strs_append hit (strs_one _ _)
          · rw [runsOf_snoc]; exact runStep_sz hsx
        | shut =>
          obtain ⟨hd0, _, _⟩ := at_drop (show B.drop a = 41 :: (Tk.shut.txt.drop 1 ++ rest.flatMap Tk.txt) from hdr)
          have hlen := congrArg List.length hdr
          simp only [List.flatMap_cons, List.length_append, List.length_drop, Tk.txt, List.length_cons, List.length_nil] at hlen
          repeat walk_at "M"
          rw [show decide (Txt.slice (T B) (some (a : Int)) (some ((a : Int) + 6)) = Str.ofString "(?>.*?") = false from tst 6 [40, 63, 62, 46, 42, 63] hdr ha (by rfl)]
          repeat walk_at "M"
          rw [show decide (Txt.slice (T B) (some (a : Int)) (some ((a : Int) + 2)) = Str.ofString ".*") = false from tst 2 [46, 42] hdr ha (by rfl)]
          repeat walk_at "M"
          refine WP.str_at rfl hd0 (by omega) fun _ => ?_
          repeat walk_at "M"
          rw [show decide (T [41] = Str.ofString ")") = true from by decide]
          repeat walk_at "M"
          refine WP.append (by walk_at "M.up") (by rw [sizeLine_eq]; omega) ?_
          repeat walk_at "M"
          refine ⟨trivial, ?_⟩
          repeat walk_at "M"
          refine WP.append (by walk_at "M.up") (by rw [sizeLine_eq]; omega) ?_
          repeat walk_at "M"
          refine ⟨trivial, ?_⟩
          repeat walk_at "M"
          refine ⟨_, hrl, done ++ [Tk.shut], rest, a + 1, _, _, _, _, _, by rw [show ((a : Int) + 1) = ((a + 1 : Nat) : Int) by omega], rfl, by rw [htk]; simp, rfl, by omega, by rw [← List.drop_drop, hdr]; rfl, ?_, ?_, ?_⟩
          · rw [runsOf_snoc]; exact strs_append hik (strs_one _ _)
          · rw [runsOf_snoc]; exact strs_append hit (strs_one _ _)
          · rw [runsOf_snoc]; exact runStep_sz hsx
        | brk c =>
          rcases htko with rfl | rfl
          · obtain ⟨hd0, hdr1, _⟩ := at_drop (show B.drop a = 91 :: 42 :: _ from hdr)
            obtain ⟨hd1, _, _⟩ := at_drop hdr1
            have hlen := congrArg List.length hdr
            simp only [List.flatMap_cons, List.length_append, List.length_drop, Tk.txt, List.length_cons, List.length_nil] at hlen
            repeat walk_at "M"
            rw [show decide (Txt.slice (T B) (some (a : Int)) (some ((a : Int) + 6)) = Str.ofString "(?>.*?") = false from tst 6 [40, 63, 62, 46, 42, 63] hdr ha (by rfl)]
            repeat walk_at "M"
            rw [show decide (Txt.slice (T B) (some (a : Int)) (some ((a : Int) + 2)) = Str.ofString ".*") = false from tst 2 [46, 42] hdr ha (by rfl)]
            repeat walk_at "M"
            refine WP.str_at rfl hd0 (by omega) fun _ => ?_
            repeat walk_at "M"
            rw [show decide (T [91] = Str.ofString ")") = false from by decide]
            repeat walk_at "M"
            rw [show decide (Txt.slice (T B) (some (a : Int)) (some ((a : Int) + 3)) = Str.ofString "[*]") = true from tst 3 [91, 42, 93] hdr ha (by rfl)]
            repeat walk_at "M"
            refine WP.list_last (by walk_at "M.mem") rfl hlast ?_
            repeat walk_at "M"
            refine WP.str_at (i := a + 1) (by omega) hd1 (by omega) fun _ => ?_
            refine WP.add_str (by rw [strLen_append, sizeLine_eq]; have : (T [42]).length = 1 := rfl; omega) fun _ => ?_
            repeat walk_at "M"
            refine WP.set_last (by walk_at "M.up") rfl hne ?_
            repeat walk_at "M"
            refine ⟨_, hrl, done ++ [Tk.brk 42], rest, a + 3, _, _, _, _, _, by rw [show ((a : Int) + 3) = ((a + 3 : Nat) : Int) by omega], rfl, by rw [htk]; simp, rfl, by omega, by rw [← List.drop_drop, hdr]; rfl, ?_, ?_, ?_⟩
            · rw [runsOf_snoc]; exact hik
            · rw [runsOf_snoc]; exact strs_set_last hit _ _
            · rw [runsOf_snoc]; exact runStep_sz hsx
          · obtain ⟨hd0, hdr1, _⟩ := at_drop (show B.drop a = 91 :: 63 :: _ from hdr)
            obtain ⟨hd1, _, _⟩ := at_drop hdr1
            have hlen := congrArg List.length hdr
            simp only [List.flatMap_cons, List.length_append, List.length_drop, Tk.txt, List.length_cons, List.length_nil] at hlen
            repeat walk_at "M"
            rw [show decide (Txt.slice (T B) (some (a : Int)) (some ((a : Int) + 6)) = Str.ofString "(?>.*?") = false from tst 6 [40, 63, 62, 46, 42, 63] hdr ha (by rfl)]
            repeat walk_at "M"
            rw [show decide (Txt.slice (T B) (some (a : Int)) (some ((a : Int) + 2)) = Str.ofString ".*") = false from tst 2 [46, 42] hdr ha (by rfl)]
            repeat walk_at "M"
            refine WP.str_at rfl hd0 (by omega) fun _ => ?_
            repeat walk_at "M"
            rw [show decide (T [91] = Str.ofString ")") = false from by decide]
            repeat walk_at "M"
            rw [show decide (Txt.slice (T B) (some (a : Int)) (some ((a : Int) + 3)) = Str.ofString "[*]") = false from tst 3 [91, 42, 93] hdr ha (by rfl)]
            repeat walk_at "M"
            rw [show decide (Txt.slice (T B) (some (a : Int)) (some ((a : Int) + 3)) = Str.ofString "[?]") = true from tst 3 [91, 63, 93] hdr ha (by rfl)]
            repeat walk_at "M"
            refine WP.list_last (by walk_at "M.mem") rfl hlast ?_
            repeat walk_at "M"
            refine WP.str_at (i := a + 1) (by omega) hd1 (by omega) fun _ => ?_
            refine WP.add_str (by rw [strLen_append, sizeLine_eq]; have : (T [63]).length = 1 := rfl; omega) fun _ => ?_
            repeat walk_at "M"
            refine WP.set_last (by walk_at "M.up") rfl hne ?_
            repeat walk_at "M"
            refine ⟨_, hrl, done ++ [Tk.brk 63], rest, a + 3, _, _, _, _, _, by rw [show ((a : Int) + 3) = ((a + 3 : Nat) : Int) by omega], rfl, by rw [htk]; simp, rfl, by omega, by rw [← List.drop_drop, hdr]; rfl, ?_, ?_, ?_⟩
            · rw [runsOf_snoc]; exact hik
            · rw [runsOf_snoc]; exact strs_set_last hit _ _
            · rw [runsOf_snoc]; exact runStep_sz hsx
        | brkesc =>
          obtain ⟨hd0, hdr1, _⟩ := at_drop (show B.drop a = 91 :: 92 :: _ from hdr)
          obtain ⟨hd1, _, _⟩ := at_drop hdr1
          have hlen := congrArg List.length hdr
          simp only [List.flatMap_cons, List.length_append, List.length_drop, Tk.txt, List.length_cons, List.length_nil] at hlen
          repeat walk_at "M"
          rw [show decide (Txt.slice (T B) (some (a : Int)) (some ((a : Int) + 6)) = Str.ofString "(?>.*?") = false from tst 6 [40, 63, 62, 46, 42, 63] hdr ha (by rfl)]
          repeat walk_at "M"
          rw [show decide (Txt.slice (T B) (some (a : Int)) (some ((a : Int) + 2)) = Str.ofString ".*") = false from tst 2 [46, 42] hdr ha (by rfl)]
          repeat walk_at "M"
          refine WP.str_at rfl hd0 (by omega) fun _ => ?_
          repeat walk_at "M"
          rw [show decide (T [91] = Str.ofString ")") = false from by decide]
          repeat walk_at "M"
          rw [show decide (Txt.slice (T B) (some (a : Int)) (some ((a : Int) + 3)) = Str.ofString "[*]") = false from tst 3 [91, 42, 93] hdr ha (by rfl)]
          repeat walk_at "M"
          rw [show decide (Txt.slice (T B) (some (a : Int)) (some ((a : Int) + 3)) = Str.ofString "[?]") = false from tst 3 [91, 63, 93] hdr ha (by rfl)]
          repeat walk_at "M"
          rw [show decide (Txt.slice (T B) (some (a : Int)) (some ((a : Int) + 4)) = Str.ofString "[\\[]") = true from tst 4 [91, 92, 91, 93] hdr ha (by rfl)]
          repeat walk_at "M"
          refine WP.list_last (by walk_at "M.mem") rfl hlast ?_
          repeat walk_at "M"
          refine WP.add_str (by rw [strLen_append, sizeLine_eq]; have : (Str.ofString "[").length = 1 := (by decide); omega) fun _ => ?_
          repeat walk_at "M"
          refine WP.set_last (by walk_at "M.up") rfl hne ?_
          repeat walk_at "M"
          refine ⟨_, hrl, done ++ [Tk.brkesc], rest, a + 4, _, _, _, _, _, by rw [show ((a : Int) + 4) = ((a + 4 : Nat) : Int) by omega], rfl, by rw [htk]; simp, rfl, by omega, by rw [← List.drop_drop, hdr]; rfl, ?_, ?_, ?_⟩
          · rw [runsOf_snoc]; exact hik
          · rw [runsOf_snoc]; exact strs_set_last hit _ _
          · rw [runsOf_snoc]; exact runStep_sz hsx
        | esc c =>
          obtain ⟨hd0, hdr1, _⟩ := at_drop (show B.drop a = 92 :: c :: _ from hdr)
          obtain ⟨hd1, _, _⟩ := at_drop hdr1
          have hlen := congrArg List.length hdr
          simp only [List.flatMap_cons, List.length_append, List.length_drop, Tk.txt, List.length_cons, List.length_nil] at hlen
          repeat walk_at "M"
          rw [show decide (Txt.slice (T B) (some (a : Int)) (some ((a : Int) + 6)) = Str.ofString "(?>.*?") = false from tst 6 [40, 63, 62, 46, 42, 63] hdr ha (by rfl)]
          repeat walk_at "M"
          rw [show decide (Txt.slice (T B) (some (a : Int)) (some ((a : Int) + 2)) = Str.ofString ".*") = false from tst 2 [46, 42] hdr ha (by rfl)]
          repeat walk_at "M"
          refine WP.str_at rfl hd0 (by omega) fun _ => ?_
          repeat walk_at "M"
          rw [show decide (T [92] = Str.ofString ")") = false from by decide]
          repeat walk_at "M"
          rw [show decide (Txt.slice (T B) (some (a : Int)) (some ((a : Int) + 3)) = Str.ofString "[*]") = false from tst 3 [91, 42, 93] hdr ha (by rfl)]
          repeat walk_at "M"
          rw [show decide (Txt.slice (T B) (some (a : Int)) (some ((a : Int) + 3)) = Str.ofString "[?]") = false from tst 3 [91, 63, 93] hdr ha (by rfl)]
          repeat walk_at "M"
          rw [show decide (Txt.slice (T B) (some (a : Int)) (some ((a : Int) + 4)) = Str.ofString "[\\[]") = false from tst 4 [91, 92, 91, 93] hdr ha (by rfl)]
          repeat walk_at "M"
          refine WP.str_at rfl hd0 (by omega) fun _ => ?_
          repeat walk_at "M"
          rw [show decide (T [92] = Str.ofString "\\") = true from by decide]
          repeat walk_at "M"
          refine WP.list_last (by walk_at "M.mem") rfl hlast ?_
          repeat walk_at "M"
          refine WP.str_at (i := a + 1) (by omega) hd1 (by omega) fun _ => ?_
          refine WP.add_str (by rw [strLen_append, sizeLine_eq]; have : (T [c]).length = 1 := rfl; omega) fun _ => ?_
          repeat walk_at "M"
          refine WP.set_last (by walk_at "M.up") rfl hne ?_
          repeat walk_at "M"
          refine ⟨_, hrl, done ++ [Tk.esc c], rest, a + 2, _, _, _, _, _, by rw [show ((a : Int) + 2) = ((a + 2 : Nat) : Int) by omega], rfl, by rw [htk]; simp, rfl, by omega, by rw [← List.drop_drop, hdr]; rfl, ?_, ?_, ?_⟩
          · rw [runsOf_snoc]; exact hik
          · rw [runsOf_snoc]; exact strs_set_last hit _ _
          · rw [runsOf_snoc]; exact runStep_sz hsx
        | pl c =>
          rcases htko with rfl | rfl
          · obtain ⟨hd0, hdr1, _⟩ := at_drop (show B.drop a = 58 :: _ from hdr)
            have hlen := congrArg List.length hdr
            simp only [List.flatMap_cons, List.length_append, List.length_drop, Tk.txt, List.length_cons, List.length_nil] at hlen
            repeat walk_at "M"
            rw [show decide (Txt.slice (T B) (some (a : Int)) (some ((a : Int) + 6)) = Str.ofString "(?>.*?") = false from tst 6 [40, 63, 62, 46, 42, 63] hdr ha (by rfl)]
            repeat walk_at "M"
            rw [show decide (Txt.slice (T B) (some (a : Int)) (some ((a : Int) + 2)) = Str.ofString ".*") = false from tst 2 [46, 42] hdr ha (by rfl)]
            repeat walk_at "M"
            refine WP.str_at rfl hd0 (by omega) fun _ => ?_
            repeat walk_at "M"
            rw [show decide (T [58] = Str.ofString ")") = false from by decide]
            repeat walk_at "M"
            rw [show decide (Txt.slice (T B) (some (a : Int)) (some ((a : Int) + 3)) = Str.ofString "[*]") = false from tst 3 [91, 42, 93] hdr ha (by rfl)]
            repeat walk_at "M"
            rw [show decide (Txt.slice (T B) (some (a : Int)) (some ((a : Int) + 3)) = Str.ofString "[?]") = false from tst 3 [91, 63, 93] hdr ha (by rfl)]
            repeat walk_at "M"
            rw [show decide (Txt.slice (T B) (some (a : Int)) (some ((a : Int) + 4)) = Str.ofString "[\\[]") = false from tst 4 [91, 92, 91, 93] hdr ha (by rfl)]
            repeat walk_at "M"
            refine WP.str_at rfl hd0 (by omega) fun _ => ?_
            repeat walk_at "M"
            rw [show decide (T [58] = Str.ofString "\\") = false from by decide]
            repeat walk_at "M"
            refine WP.str_at rfl hd0 (by omega) fun _ => ?_
            repeat walk_at "M"
            rw [show Txt.contains (Str.ofString ".^$*+?{|([") (T [58]) = false from by decide +kernel]
            repeat walk_at "M"
            refine WP.list_last (by walk_at "M.mem") rfl hlast ?_
            repeat walk_at "M"
            refine WP.str_at (i := a + 0) rfl hd0 (by omega) fun _ => ?_
            refine WP.add_str (by rw [strLen_append, sizeLine_eq]; have : (T [58]).length = 1 := rfl; omega) fun _ => ?_
            repeat walk_at "M"
            refine WP.set_last (by walk_at "M.up") rfl hne ?_
            repeat walk_at "M"
            refine ⟨_, hrl, done ++ [Tk.pl 58], rest, a + 1, _, _, _, _, _, by rw [show ((a : Int) + 1) = ((a + 1 : Nat) : Int) by omega], rfl, by rw [htk]; simp, rfl, by omega, by rw [← List.drop_drop, hdr]; rfl, ?_, ?_, ?_⟩
            · rw [runsOf_snoc]; exact hik
            · rw [runsOf_snoc]; exact strs_set_last hit _ _
            · rw [runsOf_snoc]; exact runStep_sz hsx
          · obtain ⟨hd0, hdr1, _⟩ := at_drop (show B.drop a = 33 :: _ from hdr)
            have hlen := congrArg List.length hdr
            simp only [List.flatMap_cons, List.length_append, List.length_drop, Tk.txt, List.length_cons, List.length_nil] at hlen
            repeat walk_at "M"
            rw [show decide (Txt.slice (T B) (some (a : Int)) (some ((a : Int) + 6)) = Str.ofString "(?>.*?") = false from tst 6 [40, 63, 62, 46, 42, 63] hdr ha (by rfl)]
            repeat walk_at "M"
            rw [show decide (Txt.slice (T B) (some (a : Int)) (some ((a : Int) + 2)) = Str.ofString ".*") = false from tst 2 [46, 42] hdr ha (by rfl)]
            repeat walk_at "M"
            refine WP.str_at rfl hd0 (by omega) fun _ => ?_
            repeat walk_at "M"
            rw [show decide (T [33] = Str.ofString ")") = false from by decide]
            repeat walk_at "M"
            rw [show decide (Txt.slice (T B) (some (a : Int)) (some ((a : Int) + 3)) = Str.ofString "[*]") = false from tst 3 [91, 42, 93] hdr ha (by rfl)]
            repeat walk_at "M"
            rw [show decide (Txt.slice (T B) (some (a : Int)) (some ((a : Int) + 3)) = Str.ofString "[?]") = false from tst 3 [91, 63, 93] hdr ha (by rfl)]
            repeat walk_at "M"
            rw [show decide (Txt.slice (T B) (some (a : Int)) (some ((a : Int) + 4)) = Str.ofString "[\\[]") = false from tst 4 [91, 92, 91, 93] hdr ha (by rfl)]
            repeat walk_at "M"
            refine WP.str_at rfl hd0 (by omega) fun _ => ?_
            repeat walk_at "M"
            rw [show decide (T [33] = Str.ofString "\\") = false from by decide]
            repeat walk_at "M"
            refine WP.str_at rfl hd0 (by omega) fun _ => ?_
            repeat walk_at "M"
            rw [show Txt.contains (Str.ofString ".^$*+?{|([") (T [33]) = false from by decide +kernel]
            repeat walk_at "M"
            refine WP.list_last (by walk_at "M.mem") rfl hlast ?_
            repeat walk_at "M"
            refine WP.str_at (i := a + 0) rfl hd0 (by omega) fun _ => ?_
            refine WP.add_str (by rw [strLen_append, sizeLine_eq]; have : (T [33]).length = 1 := rfl; omega) fun _ => ?_
            repeat walk_at "M"
            refine WP.set_last (by walk_at "M.up") rfl hne ?_
            repeat walk_at "M"
            refine ⟨_, hrl, done ++ [Tk.pl 33], rest, a + 1, _, _, _, _, _, by rw [show ((a : Int) + 1) = ((a + 1 : Nat) : Int) by omega], rfl, by rw [htk]; simp, rfl, by omega, by rw [← List.drop_drop, hdr]; rfl, ?_, ?_, ?_⟩
            · rw [runsOf_snoc]; exact hik
            · rw [runsOf_snoc]; exact strs_set_last hit _ _
            · rw [runsOf_snoc]; exact runStep_sz hsx
    · have hw' : ¬ a < B.length := by simpa using hw
      have hr : rest = [] := by
        cases rest with
        | nil => rfl
        | cons tk r =>
          have := tok_len (tk :: r)
          rw [← hdr, List.length_drop, List.length_cons] at this
          omega
      subst hr
      rw [List.append_nil] at htk
      subst htk
      have haB : a = B.length := by omega
      subst haB
      exact ⟨_, _, _, _, _, rfl, rfl, hik, hit⟩
  · rintro vs' n' ⟨t5, ik, it, kk, kt, rfl, rfl, hik, hit⟩
    obtain ⟨l1, l2, l3⟩ := runsOf_len toks ([Str.ofString "front"], [Str.ofString ""]) rfl (by decide)
    change (runsOf toks).1.length = (runsOf toks).2.length at l1
    change (runsOf toks).2.length ≤ 1 + toks.length at l3
    have li := hik.len_eq
    have lt := hit.len_eq
    repeat walk_at "M"
    refine WP.count (by walk_at "M.mem") hik fun _ => ?_
    repeat walk_at "M"
    refine WP.count (by walk_at "M.mem") hik fun _ => ?_
    repeat walk_at "M"
    rw [hcnt, show (((((runsOf toks).1.count (Str.ofString "shut") : Nat) : Int)) != (((runsOf toks).1.count (Str.ofString "shut") : Nat) : Int)) = false from bne_self_eq_false _]
    repeat walk_at "M"
    have hnr : (g (tabObj ps')).Sublist nr := by rw [← hNr]; exact List.Sublist.cons _ (List.Sublist.cons _ (List.Sublist.cons _ (List.sublist_cons_self _ _)))
    have htl : toks.length ≤ 10000 := by omega
    refine WP.comp_range ?_ (by rw [← hev]; with_unfolding_all rfl) (by decide) rfl (by decide) rfl
    repeat walk_at "M"
    refine WP.len_list (by walk_at "M.mem") (by rw [sizeLine_eq]; omega) fun tl => ?_
    repeat walk_at "M"
    rename_i rr q1 q2
    refine ⟨rfl, rr, ik.length, q1, tl, q2, fun i ys n' => ∃ tups, n' = tups ++ ((rr, ({ cls := .type "range", data := .fields #[.int 0 q1, .int (ik.length : Int) tl, .int 1 q2] } : Obj)) :: (at0, lobj it kt) :: (ak, lobj ik kk) :: nr) ∧ Each (RunV tups) ys (((runsOf toks).1.zip (runsOf toks).2).take i), rfl, by rw [sizeLine_eq]; omega, .head _, ⟨[], rfl, .nil⟩, ?_, ?_⟩
    · intro i v ys n' C oC m₂ hv hj ho hx
      obtain ⟨hi, t', rfl⟩ := hv
      obtain ⟨tups, rfl, hys⟩ := hj
      repeat walk_at "M"
      refine WP.list_str (by walk_at "M.mem") hik (by omega) (by omega) (by omega) fun u1 => ?_
      repeat walk_at "M"
      refine WP.list_str (by walk_at "M.mem") hit (by omega) (by omega) (by omega) fun u2 => ?_
      repeat walk_at "M"
      rename_i ta
      refine ⟨rfl, _, Sub2.mid (a := [(ta, _)]) (a' := [(ta, _)]) (List.Sublist.refl _) (List.Sublist.refl _), (ta, _) :: tups, rfl, ?_⟩
      have hzi : ((runsOf toks).1.zip (runsOf toks).2)[i]? = some ((runsOf toks).1.getD i Str.empty, (runsOf toks).2.getD i Str.empty) := by
        rw [List.getElem?_zip_eq_some, List.getD_eq_getElem?_getD, List.getD_eq_getElem?_getD, List.getElem?_eq_getElem (by omega), List.getElem?_eq_getElem (by omega)]
        exact ⟨rfl, rfl⟩
      rw [List.take_add_one, hzi]
      exact (hys.mono fun _ _ => RunV.mono fun p hp => .tail _ hp).append (.cons ⟨ta, _, _, _, rfl, .head _⟩ .nil)
    · intro ys n' hj D
      obtain ⟨tups, rfl, hys⟩ := hj
      rw [List.take_of_length_le (by rw [List.length_zip]; omega)] at hys
      repeat walk_at "M"
      exact ⟨_, List.Sublist.cons_cons _ (List.Sublist.append (List.Sublist.refl _) (List.Sublist.cons _ (List.Sublist.cons _ (List.Sublist.cons _ hnr)))), hQ ps' D ys _ tups hT' hys⟩
end
section
/- the table algebra: no program in sight -/
noncomputable def addR : Tab → Str → Int → Tab
  | [], k, v => [(k, v)]
  | (i, x) :: r, k, v => if i = k then (i, x + v) :: r else (i, x) :: addR r k v
noncomputable abbrev keysT (c : Tab) : List Str := c.map (·.1)
noncomputable def grpR (l : Tab) (c : Tab) : Tab := l.foldl (fun c p => addR c p.1 p.2) c
theorem grpR_nil (c : Tab) : grpR [] c = c := rfl
theorem grpR_cons (p : Str × Int) (l c : Tab) : grpR (p :: l) c = grpR l (addR c p.1 p.2) := rfl
theorem grpR_append (a b c : Tab) : grpR (a ++ b) c = grpR b (grpR a c) := by simp [grpR]
theorem keys_addR (c : Tab) (k : Str) (v : Int) : keysT (addR c k v) = if k ∈ keysT c then keysT c else keysT c ++ [k] := by
  induction c with
  | nil => simp [addR, keysT]
  | cons p r ih =>
    obtain ⟨i, x⟩ := p
    by_cases h : i = k
    · subst h; simp [addR, keysT]
    · have h' : ¬ k = i := fun e => h e.symm
      simp only [addR, if_neg h, keysT, List.map_cons, List.mem_cons, h', false_or] at ih ⊢
      rw [ih]
      split <;> simp
theorem nodup_addR {c : Tab} (k : Str) (v : Int) (h : (keysT c).Nodup) : (keysT (addR c k v)).Nodup := by
  rw [keys_addR]
  split
  · exact h
  · rename_i hk
    rw [List.nodup_append]
    refine ⟨h, by simp, fun a ha b hb e => ?_⟩
    rw [List.mem_singleton] at hb
    exact hk (hb ▸ e ▸ ha)
theorem nodup_grpR : ∀ (l c : Tab), (keysT c).Nodup → (keysT (grpR l c)).Nodup
  | [], c, h => h
  | p :: l, c, h => nodup_grpR l _ (nodup_addR p.1 p.2 h)
theorem mem_addR {c : Tab} {k : Str} {v : Int} {j : Str} : j ∈ keysT (addR c k v) ↔ j ∈ keysT c ∨ j = k := by
  rw [keys_addR]
  split
  · rename_i h
    exact ⟨.inl, fun q => q.elim id fun e => e ▸ h⟩
  · rw [List.mem_append, List.mem_singleton]
theorem mem_grpR : ∀ {l c : Tab} {j : Str}, j ∈ keysT (grpR l c) ↔ j ∈ keysT c ∨ j ∈ keysT l
  | [], c, j => by simp [grpR_nil]
  | p :: l, c, j => by
    rw [grpR_cons, mem_grpR, mem_addR]
    simp only [keysT, List.map_cons, List.mem_cons]
    constructor
    · rintro ((h | h) | h)
      · exact .inl h
      · exact .inr (.inl h)
      · exact .inr (.inr h)
    · rintro (h | h | h)
      · exact .inl (.inl h)
      · exact .inl (.inr h)
      · exact .inr h
theorem addR_addR (c : Tab) (k : Str) (x v : Int) : addR (addR c k x) k v = addR c k (x + v) := by
  induction c with
  | nil => simp [addR]
  | cons p r ih =>
    obtain ⟨i, y⟩ := p
    by_cases h : i = k
    · simp [addR, h, Int.add_assoc]
    · simp [addR, h, ih]
theorem addR_comm {c : Tab} {k : Str} (hk : k ∈ keysT c) (v : Int) (j : Str) (w : Int) : addR (addR c k v) j w = addR (addR c j w) k v := by
  induction c with
  | nil => simp [keysT] at hk
  | cons p r ih =>
    obtain ⟨i, y⟩ := p
    by_cases h : i = k
    · subst h
      by_cases hj : i = j
      · subst hj; simp [addR, Int.add_assoc, Int.add_comm v w]
      · simp [addR, hj]
    · have hk' : k ∈ keysT r := by
        simp only [keysT, List.map_cons, List.mem_cons] at hk
        exact hk.resolve_left fun e => h e.symm
      by_cases hj : i = j
      · subst hj; simp [addR, h]
      · simp [addR, h, hj, ih hk']
theorem grpR_addR : ∀ (B c : Tab) {k : Str} (v : Int), k ∈ keysT c → grpR B (addR c k v) = addR (grpR B c) k v
  | [], c, k, v, h => rfl
  | p :: B, c, k, v, h => by
    rw [grpR_cons, grpR_cons, addR_comm h, grpR_addR B _ v (mem_addR.mpr (.inl h))]
theorem grpR_more (A B c : Tab) (j : Str) (x v : Int) : grpR (A ++ (j, x + v) :: B) c = addR (grpR (A ++ (j, x) :: B) c) j v := by
  rw [grpR_append, grpR_append, grpR_cons, grpR_cons, ← addR_addR, grpR_addR B _ v (mem_addR.mpr (.inr rfl))]
theorem addR_cases (c : Tab) (k : Str) (v : Int) : (k ∉ keysT c ∧ addR c k v = c ++ [(k, v)]) ∨ ∃ A x B, c = A ++ (k, x) :: B ∧ addR c k v = A ++ (k, x + v) :: B := by
  induction c with
  | nil => exact .inl ⟨by simp [keysT], rfl⟩
  | cons p r ih =>
    obtain ⟨i, y⟩ := p
    by_cases h : i = k
    · subst h; exact .inr ⟨[], y, r, rfl, by simp [addR]⟩
    · rcases ih with ⟨h1, h2⟩ | ⟨A, x, B, h1, h2⟩
      · refine .inl ⟨?_, by simp [addR, h, h2]⟩
        simp only [keysT, List.map_cons, List.mem_cons, not_or]
        exact ⟨fun e => h e.symm, h1⟩
      · exact .inr ⟨(i, y) :: A, x, B, by rw [h1]; rfl, by simp [addR, h, h2]⟩
noncomputable abbrev onKeys (h : Str → Str) (l : Tab) : Tab := l.map fun p => (h p.1, p.2)
/-- grouping a grouped table anew is grouping the first list -/
theorem regroup (h : Str → Str) (l : Tab) : grpR (onKeys h (grpR l [])) [] = grpR (onKeys h l) [] := by
  have key : ∀ (r : Tab) (l : Tab), l = r.reverse → grpR (onKeys h (grpR l [])) [] = grpR (onKeys h l) [] := by
    intro r
    induction r with
    | nil => rintro l rfl; rfl
    | cons p r ih =>
      rintro l rfl
      have ih' := ih _ rfl
      rw [List.reverse_cons]
      generalize r.reverse = m at ih'
      obtain ⟨k, v⟩ := p
      have e1 : grpR (m ++ [(k, v)]) [] = addR (grpR m []) k v := by rw [grpR_append]; rfl
      have e2 : grpR (onKeys h (m ++ [(k, v)])) [] = addR (grpR (onKeys h m) []) (h k) v := by
        show grpR (List.map _ (m ++ [(k, v)])) [] = _
        rw [List.map_append, grpR_append]; rfl
      rw [e1, e2, ← ih']
      rcases addR_cases (grpR m []) k v with ⟨_, e⟩ | ⟨A, x, B, e3, e4⟩
      · rw [e]
        show grpR (List.map _ (grpR m [] ++ [(k, v)])) [] = _
        rw [List.map_append, grpR_append]; rfl
      · rw [e4, e3]
        show grpR (List.map _ (A ++ (k, x + v) :: B)) [] = addR (grpR (List.map _ (A ++ (k, x) :: B)) []) (h k) v
        rw [List.map_append, List.map_append, List.map_cons, List.map_cons]
        exact grpR_more _ _ _ _ _ _
  exact key l.reverse l (by simp)
theorem sum_addR (c : Tab) (k : Str) (v : Int) : ((addR c k v).map (·.2)).sum = (c.map (·.2)).sum + v := by
  induction c with
  | nil => simp [addR]
  | cons p r ih =>
    obtain ⟨i, y⟩ := p
    by_cases h : i = k
    · simp [addR, h]; omega
    · simp [addR, h, ih]; omega
theorem sum_grpR : ∀ (l c : Tab), ((grpR l c).map (·.2)).sum = (c.map (·.2)).sum + (l.map (·.2)).sum
  | [], c => by simp [grpR_nil]
  | p :: l, c => by rw [grpR_cons, sum_grpR l, sum_addR]; simp; omega
/- the tables of the walk in these words -/
theorem put_ne {i k : Str} (h : i ≠ k) (x w : Int) (r : Tab) : kdpPut ((i, x) :: r) k w = (i, x) :: kdpPut r k w := by
  have hd : decide (i = k) = false := decide_eq_false h
  unfold kdpPut
  simp only [List.any_cons, hd, Bool.false_or, List.map_cons, Bool.false_eq_true, if_false]
  split <;> rfl
theorem put_eq {k : Str} (x w : Int) {r : Tab} (h : k ∉ keysT r) : kdpPut ((k, x) :: r) k w = (k, w) :: r := by
  unfold kdpPut
  simp only [List.any_cons, decide_true, Bool.true_or, if_true, List.map_cons]
  congr 1
  have : ∀ p ∈ r, (if decide (p.1 = k) = true then (p.1, w) else p) = p := by
    intro p hp
    have : ¬ p.1 = k := fun e => h (e ▸ List.mem_map_of_mem hp)
    simp [this]
  rw [List.map_congr_left this, List.map_id']
theorem look_ne {i k : Str} (h : i ≠ k) (x d : Int) (r : Tab) : kdpLook ((i, x) :: r) k d = kdpLook r k d := by
  unfold kdpLook; rw [List.find?_cons, decide_eq_false h]
theorem look_eq (k : Str) (x d : Int) (r : Tab) : kdpLook ((k, x) :: r) k d = x := by
  unfold kdpLook; rw [List.find?_cons, decide_eq_true rfl]; rfl
theorem addT_eq {c : Tab} (hn : (keysT c).Nodup) (p : Str × Int) : addT c p = addR c p.1 p.2 := by
  obtain ⟨k, v⟩ := p
  unfold addT
  show kdpPut c k (kdpLook c k 0 + v) = addR c k v
  induction c with
  | nil => show [(k, (0 : Int) + v)] = [(k, v)]; rw [Int.zero_add]
  | cons q r ih =>
    obtain ⟨i, x⟩ := q
    simp only [keysT, List.map_cons, List.nodup_cons] at hn
    by_cases h : i = k
    · subst h; rw [look_eq, put_eq _ _ hn.1]; simp [addR]
    · rw [look_ne h, put_ne h, ih hn.2]; simp [addR, h]
theorem copyT_eq {t : Tab} (hn : (keysT t).Nodup) : copyT t = t := by
  have key : ∀ (t a : Tab), (keysT (a ++ t)).Nodup → t.foldl (fun c p => kdpPut c p.1 p.2) a = a ++ t := by
    intro t
    induction t with
    | nil => intro a _; simp
    | cons p r ih =>
      intro a h
      have hk : p.1 ∉ keysT a := by
        simp only [keysT, List.map_append, List.map_cons] at h
        rw [List.nodup_append] at h
        intro hm
        exact h.2.2 p.1 hm p.1 (.head _) rfl
      have e : kdpPut a p.1 p.2 = a ++ [p] := by
        unfold kdpPut
        have : (a.any fun q => decide (q.1 = p.1)) = false := by
          rw [List.any_eq_false]
          intro q hq e
          exact hk (of_decide_eq_true e ▸ List.mem_map_of_mem hq)
        rw [this, if_neg (by decide)]
      rw [List.foldl_cons, e, ih (a ++ [p]) (by simpa using h)]
      simp
  have e := key t [] (by simpa using hn)
  rw [List.nil_append] at e
  exact e
theorem mergeT_one {t : Tab} (hn : (keysT t).Nodup) (k : Str) (v : Int) : mergeT t [(k, v)] = addR t k v := by
  unfold mergeT
  rw [copyT_eq hn]
  exact addT_eq hn (k, v)
theorem look_mem {t : Tab} (hn : (keysT t).Nodup) {p : Str × Int} (hp : p ∈ t) : kdpLook t p.1 0 = p.2 := by
  induction t with
  | nil => cases hp
  | cons q r ih =>
    simp only [keysT, List.map_cons, List.nodup_cons] at hn
    rcases List.mem_cons.mp hp with rfl | hp
    · exact look_eq _ _ _ _
    · have : q.1 ≠ p.1 := fun e => hn.1 (e ▸ List.mem_map_of_mem hp)
      rw [show q = (q.1, q.2) from rfl, look_ne this, ih hn.2 hp]
theorem has_mem {t : Tab} {p : Str × Int} (hp : p ∈ t) : kdpHas t p.1 = true := by
  unfold kdpHas
  rw [List.any_eq_true]
  exact ⟨p, hp, by simp⟩
theorem same_self {t : Tab} (hn : (keysT t).Nodup) : sameTab t t = true := by
  unfold sameTab
  rw [beq_self_eq_true, Bool.true_and, List.all_eq_true]
  intro p hp
  have key : ∀ t : Tab, (keysT t).Nodup → p ∈ t → t.find? (fun q => decide (q.1 = p.1)) = some p := by
    intro t
    induction t with
    | nil => intro _ h; cases h
    | cons q r ih =>
      intro hn h
      simp only [keysT, List.map_cons, List.nodup_cons] at hn
      rcases List.mem_cons.mp h with rfl | h
      · rw [List.find?_cons, decide_eq_true rfl]
      · have : q.1 ≠ p.1 := fun e => hn.1 (e ▸ List.mem_map_of_mem h)
        rw [List.find?_cons, decide_eq_false this, ih hn.2 h]
  rw [key t hn hp]
  simp
theorem tableF_eq (ts : List (Str × Int × Str)) (cs : List Int) : tableF ts cs = grpR ((ts.zip cs).map fun x => (stdF x.1.1 x.1.2.1 x.1.2.2, x.2)) [] := by
  have key : ∀ (l : List ((Str × Int × Str) × Int)) (c : Tab), (keysT c).Nodup → tableGo l c = grpR (l.map fun x => (stdF x.1.1 x.1.2.1 x.1.2.2, x.2)) c := by
    intro l
    induction l with
    | nil => intro c _; rfl
    | cons x r ih =>
      intro c hn
      obtain ⟨⟨f, i, nm⟩, v⟩ := x
      show tableGo r (mergeT c [(stdF f i nm, v)]) = grpR (r.map _) (addR c (stdF f i nm) v)
      rw [mergeT_one hn, ih _ (nodup_addR _ _ hn)]
  exact key _ [] (by simp [keysT])
theorem toldF_eq (ts : List (Str × Int × Str)) (cs : List Int) (ch : Nat) (signs : List Str) :
    toldF ts cs ch signs = grpR ((ts.zip cs).map fun x => (laidF [x.1.1, Str.ofString (toString x.1.2.1), x.1.2.2] ch signs, x.2)) [] := by
  have key : ∀ (l : List ((Str × Int × Str) × Int)) (c : Tab), (keysT c).Nodup → toldGo ch signs l c = grpR (l.map fun x => (laidF [x.1.1, Str.ofString (toString x.1.2.1), x.1.2.2] ch signs, x.2)) c := by
    intro l
    induction l with
    | nil => intro c _; rfl
    | cons x r ih =>
      intro c hn
      obtain ⟨⟨f, i, nm⟩, v⟩ := x
      show toldGo ch signs r (addT c (laidF [f, Str.ofString (toString i), nm] ch signs, v)) = grpR (r.map _) (addR c (laidF [f, Str.ofString (toString i), nm] ch signs) v)
      rw [addT_eq hn, ih _ (nodup_addR _ _ hn)]
  exact key _ [] (by simp [keysT])
theorem foldF_eq {ps : List (List Str × Int)} (ch : Nat) (signs : List Str) (h3 : ∀ p ∈ ps, p.1.length = 3) : foldF ps ch signs = grpR (ps.map fun p => (laidF p.1 ch signs, p.2)) [] := by
  have key : ∀ (l : List (List Str × Int)) (c : Tab), (∀ p ∈ l, p.1.length = 3) → (keysT c).Nodup → foldGo ch signs l c = grpR (l.map fun p => (laidF p.1 ch signs, p.2)) c := by
    intro l
    induction l with
    | nil => intro c _ _; rfl
    | cons x r ih =>
      intro c h hn
      obtain ⟨f, v⟩ := x
      have hf : f.length = 3 := h _ (.head _)
      show (if f.length = 3 then foldGo ch signs r (mergeT c [(laidF f ch signs, v)]) else []) = grpR (r.map _) (addR c (laidF f ch signs) v)
      rw [if_pos hf, mergeT_one hn, ih _ (fun p hp => h p (.tail _ hp)) (nodup_addR _ _ hn)]
  exact key _ [] h3 (by simp [keysT])
noncomputable def homeKey (f : List Str) : Str := stdF (f.getD 0 Str.empty) ((PySem.intText? (f.getD 1 Str.empty)).getD 0) (f.getD 2 Str.empty)
theorem homeF_eq {ps : List (List Str × Int)} (h3 : ∀ p ∈ ps, p.1.length = 3) : homeF ps = grpR (ps.map fun p => (homeKey p.1, p.2)) [] := by
  have key : ∀ (l : List (List Str × Int)) (c : Tab), (∀ p ∈ l, p.1.length = 3) → (keysT c).Nodup → homeGo l c = grpR (l.map fun p => (homeKey p.1, p.2)) c := by
    intro l
    induction l with
    | nil => intro c _ _; rfl
    | cons x r ih =>
      intro c h hn
      obtain ⟨f, v⟩ := x
      have hf : f.length = 3 := h _ (.head _)
      show (if f.length = 3 then homeGo r (mergeT c [(homeKey f, v)]) else []) = grpR (r.map _) (addR c (homeKey f) v)
      rw [if_pos hf, mergeT_one hn, ih _ (fun p hp => h p (.tail _ hp)) (nodup_addR _ _ hn)]
  exact key _ [] h3 (by simp [keysT])
end
section
/-- the runs of the three fixed patterns -/
noncomputable def plainR : List (Str × Str) := (runsOf [.hold, .pl 58, .shut, .hold, .esc 40, .shut, .rest, .esc 41]).1.zip (runsOf [.hold, .pl 58, .shut, .hold, .esc 40, .shut, .rest, .esc 41]).2
noncomputable def heldR : List (Str × Str) := (runsOf [.esc 123, .rest, .esc 125]).1.zip (runsOf [.esc 123, .rest, .esc 125]).2
noncomputable def bareR : List (Str × Str) := (runsOf [.rest]).1.zip (runsOf [.rest]).2
noncomputable abbrev Trip := Str × Int × Str
noncomputable def okT (t : Trip) : Prop := t.1 ∈ filesL ∧ t.2.1 ∈ linesL ∧ t.2.2 ∈ namesL
noncomputable def fl (t : Trip) : List Str := [t.1, Str.ofString (toString t.2.1), t.2.2]
noncomputable def sd (t : Trip) : Str := stdF t.1 t.2.1 t.2.2
theorem trip_ok (m : Nat) : okT (tripF m) := by
  have g : ∀ {α : Type} (l : List α) (k : Nat) (d : α), k < l.length → l.getD k d ∈ l := by
    intro α l k d h
    rw [List.getD_eq_getElem?_getD, List.getElem?_eq_getElem h]
    exact List.getElem_mem h
  refine ⟨g _ _ _ ?_, g _ _ _ ?_, g _ _ _ ?_⟩
  · show m % 4 < 4; omega
  · show m / 4 % 3 < 3; omega
  · show m / 12 % 5 < 5; omega
theorem fields_all : ∀ f ∈ filesL, ∀ i ∈ linesL, ∀ nm ∈ namesL, fieldsF plainR heldR bareR (stdF f i nm) = [f, Str.ofString (toString i), nm] := by decide +kernel
theorem fields_sd {t : Trip} (h : okT t) : fieldsF plainR heldR bareR (sd t) = fl t := fields_all _ h.1 _ h.2.1 _ h.2.2
theorem home_all : ∀ f ∈ filesL, ∀ i ∈ linesL, ∀ nm ∈ namesL, homeKey [f, Str.ofString (toString i), nm] = stdF f i nm := by decide +kernel
theorem home_sd {t : Trip} (h : okT t) : homeKey (fl t) = sd t := home_all _ h.1 _ h.2.1 _ h.2.2
theorem sd_len_all : ∀ f ∈ filesL, ∀ i ∈ linesL, ∀ nm ∈ namesL, (stdF f i nm).length ≤ 100 := by decide +kernel
theorem sd_len {t : Trip} (h : okT t) : (sd t).length ≤ 100 := sd_len_all _ h.1 _ h.2.1 _ h.2.2
theorem fl_len_all : (∀ f ∈ filesL, f.length ≤ 20) ∧ (∀ i ∈ linesL, (Str.ofString (toString i)).length ≤ 20 ∧ 0 ≤ i ∧ i < 1000 ∧ PySem.intText? (Str.ofString (toString i)) = some i) ∧ ∀ nm ∈ namesL, nm.length ≤ 20 := by decide +kernel
theorem fl_len {t : Trip} (h : okT t) : ∀ x ∈ fl t, x.length ≤ 20 := by
  intro x hx
  simp only [fl, List.mem_cons, List.not_mem_nil, or_false] at hx
  rcases hx with rfl | rfl | rfl
  · exact fl_len_all.1 _ h.1
  · exact (fl_len_all.2.1 _ h.2.1).1
  · exact fl_len_all.2.2 _ h.2.2
noncomputable def signC : List Nat := [42, 63, 91, 93, 33, 45, 46, 94, 92, 124]
theorem apart_all : (∀ f ∈ filesL, ∀ c ∈ signC, c ∉ f.cps.toList) ∧ ∀ i ∈ linesL, ∀ c ∈ signC, c ∉ (Str.ofString (toString i)).cps.toList := by decide +kernel
end
section
theorem find_at {l x r : List Nat} {a c : Nat} (h : l.drop a = x ++ c :: r) (hc : c ∉ x) : Txt.find3 (T l) (T [c]) (a : Int) = ((a + x.length : Nat) : Int) := by
  have hlen : a + x.length < l.length := by
    have e := congrArg List.length h
    rw [List.length_drop, List.length_append, List.length_cons] at e
    omega
  have hf : PySem.fromIndex (T l).length (a : Int) = a := by
    unfold PySem.fromIndex
    rw [if_neg (by omega)]
    omega
  have hat : ∀ j, l[a + j]? = (x ++ c :: r)[j]? := fun j => by rw [← h, List.getElem?_drop]
  have hgd : ∀ v, (T l).cps.getD v 0 = (l[v]?).getD 0 := fun v => by
    show l.toArray.getD v 0 = _
    rw [Array.getD_eq_getD_getElem?, List.getElem?_toArray]
  have hmid : l[a + x.length]? = some c := by rw [hat, List.getElem?_append_right (Nat.le_refl _)]; simp
  have hbef : ∀ j, j < x.length → (T l).cps.getD (a + j) 0 ≠ c := by
    intro j hj e
    rw [hgd, hat, List.getElem?_append_left hj, List.getElem?_eq_getElem hj] at e
    exact hc (by rw [← show x[j] = c from e]; exact List.getElem_mem hj)
  rcases StrLaws.find3_spec (T l) c (a : Int) with ⟨_, hn⟩ | ⟨k, hk, h1, h2, h3, h4⟩
  · exact absurd (by rw [hgd, hmid]; rfl) (hn (a + x.length) (by rw [hf]; omega) (by rw [T_len]; exact hlen))
  · rw [show (T [c] : Str) = ⟨#[c]⟩ from rfl, hk]
    rw [hf] at h1 h4
    have : k = a + x.length := by
      rcases Nat.lt_trichotomy k (a + x.length) with hlt | heq | hgt
      · have := hbef (k - a) (by omega)
        rw [show a + (k - a) = k by omega] at this
        exact absurd h3 this
      · exact heq
      · exact absurd (by rw [hgd, hmid]; rfl) (h4 (a + x.length) (by omega) hgt)
    rw [this]
/-- the runs of the pattern of four signs -/
noncomputable def laidR (c0 c1 c2 c3 : Nat) : List (Str × Str) :=
  [(Str.ofString "front", T [c0]), (Str.ofString "hold", T [c1]), (Str.ofString "shut", Str.ofString ""), (Str.ofString "hold", T [c2]), (Str.ofString "shut", Str.ofString ""), (Str.ofString "rest", T [c3])]
theorem go_skip {l : List Nat} {kind : Str} {run : List Nat} {rest : List (Str × Str)} {a : Nat} {taken : List Str} (hk : kind = Str.ofString "front" ∨ kind = Str.ofString "shut") (ha : a ≤ l.length) (hs : (l.drop a).take run.length = run) :
    readGo (T l) ((kind, T run) :: rest) (a : Int) taken = readGo (T l) rest ((a + run.length : Nat) : Int) taken := by
  have n1 : kind ≠ Str.ofString "hold" := by rcases hk with rfl | rfl <;> decide
  have n2 : kind ≠ Str.ofString "rest" := by rcases hk with rfl | rfl <;> decide
  have n3 : kind ≠ Str.ofString "wrong" := by rcases hk with rfl | rfl <;> decide
  rw [readGo]
  simp only [n1, n2, n3, false_or, if_false, T_len]
  rw [slT ha, hs]
  simp
theorem go_hold {l x r : List Nat} {c : Nat} {rest : List (Str × Str)} {a : Nat} {taken : List Str} (ha : a ≤ l.length) (h : l.drop a = x ++ c :: r) (hc : c ∉ x) :
    readGo (T l) ((Str.ofString "hold", T [c]) :: rest) (a : Int) taken = readGo (T l) rest ((a + x.length + 1 : Nat) : Int) (taken ++ [T x]) := by
  have hlen : a + x.length < l.length := by
    have e := congrArg List.length h
    rw [List.length_drop, List.length_append, List.length_cons] at e
    omega
  have hd : (l.drop (a + x.length)).take 1 = [c] := by rw [← List.drop_drop, h, List.drop_left]; rfl
  have e1 : Txt.slice (T l) (some (((a + x.length : Nat)) : Int)) (some (((a + x.length : Nat) : Int) + 1)) = T [c] := by
    rw [show ((a + x.length : Nat) : Int) + 1 = ((a + x.length : Nat) : Int) + ((1 : Nat) : Int) from rfl, slT (by omega), hd]
  have e2 : Txt.slice (T l) (some (a : Int)) (some ((a + x.length : Nat) : Int)) = T x := by
    rw [show ((a + x.length : Nat) : Int) = (a : Int) + ((x.length : Nat) : Int) by omega, slT ha, h, List.take_left]
  rw [readGo]
  simp only [if_true, find_at h hc, true_or, T_len, List.length_singleton]
  rw [show (((1 : Nat)) : Int) = 1 from rfl, e1, e2, if_neg (by
    intro q
    rcases q with q | q | q
    · exact absurd q (by decide)
    · omega
    · exact q rfl)]
  rw [show ((a + x.length : Nat) : Int) + 1 = ((a + x.length + 1 : Nat) : Int) by omega]
theorem go_rest {l x : List Nat} {c : Nat} {a : Nat} {taken : List Str} (ha : a ≤ l.length) (h : l.drop a = x ++ [c]) :
    readGo (T l) [(Str.ofString "rest", T [c])] (a : Int) taken = taken ++ [T x] := by
  have hlen : l.length = a + x.length + 1 := by
    have e := congrArg List.length h
    rw [List.length_drop, List.length_append, List.length_singleton] at e
    omega
  have hd : (l.drop (a + x.length)).take 1 = [c] := by rw [← List.drop_drop, h, List.drop_left]; rfl
  have ep : (((T l).length : Nat) : Int) - (((T [c]).length : Nat) : Int) = ((a + x.length : Nat) : Int) := by rw [T_len, T_len, hlen]; simp
  have e1 : Txt.slice (T l) (some (((a + x.length : Nat)) : Int)) (some (((a + x.length : Nat) : Int) + 1)) = T [c] := by
    rw [show ((a + x.length : Nat) : Int) + 1 = ((a + x.length : Nat) : Int) + ((1 : Nat) : Int) from rfl, slT (by omega), hd]
  have e2 : Txt.slice (T l) (some (a : Int)) (some ((a + x.length : Nat) : Int)) = T x := by
    rw [show ((a + x.length : Nat) : Int) = (a : Int) + ((x.length : Nat) : Int) by omega, slT ha, h, List.take_left]
  rw [readGo]
  simp only [if_neg (show Str.ofString "rest" ≠ Str.ofString "hold" by decide), if_true, ep, or_true]
  rw [show ((((T [c]).length : Nat)) : Int) = 1 from rfl, e1, e2, if_neg (by
    intro q
    rcases q with q | q | q
    · exact absurd q (by decide)
    · omega
    · exact q rfl), readGo, if_pos (by rw [T_len, hlen]; omega)]
theorem read_laid {c0 c1 c2 c3 : Nat} {x0 x1 x2 : List Nat} (h1 : c1 ∉ x0) (h2 : c2 ∉ x1) :
    readF (laidR c0 c1 c2 c3) (T (c0 :: (x0 ++ c1 :: (x1 ++ c2 :: (x2 ++ [c3]))))) = [T x0, T x1, T x2] := by
  generalize hl : c0 :: (x0 ++ c1 :: (x1 ++ c2 :: (x2 ++ [c3]))) = l
  have hlen : l.length = 4 + x0.length + x1.length + x2.length := by rw [← hl]; simp; omega
  have d1 : l.drop 1 = x0 ++ c1 :: (x1 ++ c2 :: (x2 ++ [c3])) := by rw [← hl]; rfl
  have d2 : l.drop (1 + x0.length + 1) = x1 ++ c2 :: (x2 ++ [c3]) := by rw [Nat.add_assoc, ← List.drop_drop, d1, ← List.drop_drop, List.drop_left]; rfl
  have d3 : l.drop (1 + x0.length + 1 + x1.length + 1) = x2 ++ [c3] := by rw [Nat.add_assoc _ x1.length 1, ← List.drop_drop, d2, ← List.drop_drop, List.drop_left]; rfl
  have es : (Str.ofString "") = T [] := by decide
  unfold readF laidR
  rw [es]
  have s0 := go_skip (l := l) (kind := Str.ofString "front") (run := [c0]) (rest := [(Str.ofString "hold", T [c1]), (Str.ofString "shut", T []), (Str.ofString "hold", T [c2]), (Str.ofString "shut", T []), (Str.ofString "rest", T [c3])]) (a := 0) (taken := []) (.inl rfl) (by omega) (by rw [← hl]; rfl)
  rw [show ((0 : Nat) : Int) = 0 from rfl] at s0
  rw [s0]
  rw [show ((0 + [c0].length : Nat) : Int) = ((1 : Nat) : Int) from rfl, go_hold (by omega) d1 h1, go_skip (run := []) (.inr rfl) (by omega) (by simp)]
  rw [show 1 + x0.length + 1 + [].length = 1 + x0.length + 1 from rfl, go_hold (by omega) d2 h2, go_skip (run := []) (.inr rfl) (by omega) (by simp)]
  rw [show 1 + x0.length + 1 + x1.length + 1 + [].length = 1 + x0.length + 1 + x1.length + 1 from rfl, go_rest (by omega) d3]
  rfl
/-- what a choice takes of a field -/
noncomputable def bit (ch k : Nat) (l : List Nat) : List Nat := if ch / 2 ^ k % 2 = 1 then l else []
theorem laid_T (l0 l1 l2 : List Nat) (ch : Nat) (c0 c1 c2 c3 : Nat) :
    laidF [T l0, T l1, T l2] ch [T [c0], T [c1], T [c2], T [c3]] = T (c0 :: (bit ch 0 l0 ++ c1 :: (bit ch 1 l1 ++ c2 :: (bit ch 2 l2 ++ [c3])))) := by
  have key : ∀ (k : Nat) (x y : List Nat) (c : Nat), (if ch / 2 ^ k % 2 = 1 then T x ++ T y else T x) ++ T [c] = T (x ++ bit ch k y ++ [c]) := by
    intro k x y c
    unfold bit
    split
    · rw [T_add, T_add]
    · rw [T_add, List.append_nil]
  show (if ch / 2 ^ 2 % 2 = 1 then ((if ch / 2 ^ 1 % 2 = 1 then ((if ch / 2 ^ 0 % 2 = 1 then T [c0] ++ T l0 else T [c0]) ++ T [c1]) ++ T l1 else ((if ch / 2 ^ 0 % 2 = 1 then T [c0] ++ T l0 else T [c0]) ++ T [c1])) ++ T [c2]) ++ T l2 else ((if ch / 2 ^ 1 % 2 = 1 then ((if ch / 2 ^ 0 % 2 = 1 then T [c0] ++ T l0 else T [c0]) ++ T [c1]) ++ T l1 else ((if ch / 2 ^ 0 % 2 = 1 then T [c0] ++ T l0 else T [c0]) ++ T [c1])) ++ T [c2])) ++ T [c3] = _
  rw [key, key, key]
  congr 1
  simp
theorem bit_bit {one two : Nat} (h1 : one < 8) (h2 : two < 8) {k : Nat} (hk : k < 3) (l : List Nat) : bit two k (bit one k l) = bit (one &&& two) k l := by
  have key : ∀ one : Fin 8, ∀ two : Fin 8, ∀ k : Fin 3, ((one.val &&& two.val) / 2 ^ k.val % 2 = 1) ↔ (two.val / 2 ^ k.val % 2 = 1 ∧ one.val / 2 ^ k.val % 2 = 1) := by decide +kernel
  have q := key ⟨one, h1⟩ ⟨two, h2⟩ ⟨k, hk⟩
  simp only at q
  unfold bit
  by_cases a : two / 2 ^ k % 2 = 1
  · by_cases b : one / 2 ^ k % 2 = 1
    · rw [if_pos a, if_pos b, if_pos (q.mpr ⟨a, b⟩)]
    · rw [if_pos a, if_neg b, if_neg (fun e => b (q.mp e).2)]
  · rw [if_neg a, if_neg (fun e => a (q.mp e).1)]
theorem bit_seven {k : Nat} (hk : k < 3) (l : List Nat) : bit 7 k l = l := by
  have : ∀ k : Fin 3, 7 / 2 ^ k.val % 2 = 1 := by decide
  exact if_pos (this ⟨k, hk⟩)
theorem bit_mem {ch k : Nat} {l : List Nat} {c : Nat} (h : c ∉ l) : c ∉ bit ch k l := by
  unfold bit; split
  · exact h
  · simp
end
section
noncomputable abbrev onT (ts : List Trip) (cs : List Int) (f : Trip → Str) : Tab := (ts.zip cs).map fun x => (f x.1, x.2)
noncomputable abbrev pairsOf (F : Str → List Str) (tab : Tab) : List (List Str × Int) := tab.map fun p => (F p.1, kdpLook tab p.1 0)
theorem nodup_onT (ts : List Trip) (cs : List Int) (f : Trip → Str) : (keysT (grpR (onT ts cs f) [])).Nodup := nodup_grpR _ _ (by simp [keysT])
theorem key_onT {ts : List Trip} {cs : List Int} {f : Trip → Str} {p : Str × Int} (hp : p ∈ grpR (onT ts cs f) []) : ∃ t, t ∈ ts ∧ p.1 = f t := by
  have h : p.1 ∈ keysT (grpR (onT ts cs f) []) := List.mem_map_of_mem hp
  rw [mem_grpR] at h
  rcases h with h | h
  · simp [keysT] at h
  · obtain ⟨q, hq, e⟩ := List.mem_map.mp h
    obtain ⟨x, hx, rfl⟩ := List.mem_map.mp hq
    exact ⟨x.1, (List.of_mem_zip hx).1, e.symm⟩
theorem len_addR (c : Tab) (k : Str) (v : Int) : (addR c k v).length ≤ c.length + 1 := by
  induction c with
  | nil => simp [addR]
  | cons p r ih =>
    obtain ⟨i, y⟩ := p
    by_cases h : i = k
    · simp [addR, h]
    · simp [addR, h]; omega
theorem len_grpR : ∀ (l c : Tab), (grpR l c).length ≤ c.length + l.length
  | [], c => by simp [grpR_nil]
  | p :: l, c => by
    have h1 := len_grpR l (addR c p.1 p.2)
    have h2 := len_addR c p.1 p.2
    rw [grpR_cons]; simp only [List.length_cons]; omega
theorem len_onT (ts : List Trip) (cs : List Int) (f : Trip → Str) : (grpR (onT ts cs f) []).length ≤ ts.length := by
  refine Nat.le_trans (len_grpR _ _) ?_
  simp only [List.length_nil, onT, List.length_map, List.length_zip]; omega
theorem step {ts : List Trip} {cs : List Int} {f g : Trip → Str} {F : Str → List Str} {h : List Str → Str} (H : ∀ t ∈ ts, h (F (f t)) = g t) :
    grpR ((pairsOf F (grpR (onT ts cs f) [])).map fun p => (h p.1, p.2)) [] = grpR (onT ts cs g) [] := by
  have e1 : (pairsOf F (grpR (onT ts cs f) [])).map (fun p => (h p.1, p.2)) = onKeys (fun k => h (F k)) (grpR (onT ts cs f) []) := by
    rw [pairsOf, onKeys, List.map_map]
    refine List.map_congr_left fun p hp => ?_
    show (h (F p.1), kdpLook _ p.1 0) = (h (F p.1), p.2)
    rw [look_mem (nodup_onT ts cs f) hp]
  rw [e1, regroup]
  congr 1
  rw [onKeys, onT, List.map_map]
  refine List.map_congr_left fun x hx => ?_
  show (h (F (f x.1)), x.2) = (g x.1, x.2)
  rw [H _ (List.of_mem_zip hx).1]
theorem sum_onT {ts : List Trip} {cs : List Int} (f : Trip → Str) (hl : cs.length = ts.length) : ((grpR (onT ts cs f) []).map (·.2)).sum = cs.sum := by
  rw [sum_grpR]
  have : (onT ts cs f).map (·.2) = cs := by
    rw [onT, List.map_map]
    show (ts.zip cs).map Prod.snd = cs
    rw [List.map_snd_zip (by omega)]
  rw [this]; simp
theorem table_on (ts : List Trip) (cs : List Int) : tableF ts cs = grpR (onT ts cs sd) [] := tableF_eq ts cs
theorem told_on (ts : List Trip) (cs : List Int) (ch : Nat) (S : List Str) : toldF ts cs ch S = grpR (onT ts cs fun t => laidF (fl t) ch S) [] := toldF_eq ts cs ch S
noncomputable abbrev FF : Str → List Str := fieldsF plainR heldR bareR
noncomputable abbrev S4 (c0 c1 c2 c3 : Nat) : List Str := [T [c0], T [c1], T [c2], T [c3]]
section
variable {ts : List Trip} {cs : List Int} {c0 c1 c2 c3 one two : Nat}
theorem fold_pairs {F : Str → List Str} {tab : Tab} {ch : Nat} {S : List Str} (h3 : ∀ p ∈ tab, (F p.1).length = 3) : foldF (pairsOf F tab) ch S = grpR ((pairsOf F tab).map fun p => (laidF p.1 ch S, p.2)) [] :=
  foldF_eq ch S fun p hp => by
    obtain ⟨q, hq, rfl⟩ := List.mem_map.mp hp
    exact h3 q hq
theorem fl_T {t : Trip} (h : okT t) : ∃ l0 l1 l2, fl t = [T l0, T l1, T l2] ∧ (∀ c ∈ signC, c ∉ l0) ∧ ∀ c ∈ signC, c ∉ l1 := by
  refine ⟨t.1.cps.toList, (Str.ofString (toString t.2.1)).cps.toList, t.2.2.cps.toList, ?_, apart_all.1 _ h.1, apart_all.2 _ h.2.1⟩
  have e : ∀ x : Str, T x.cps.toList = x := fun x => by cases x; simp
  rw [e, e, e]; rfl
theorem read_fl {t : Trip} (h : okT t) (h1 : c1 ∈ signC) (h2 : c2 ∈ signC) (ch : Nat) : ∃ l0 l1 l2, fl t = [T l0, T l1, T l2] ∧ readF (laidR c0 c1 c2 c3) (laidF (fl t) ch (S4 c0 c1 c2 c3)) = [T (bit ch 0 l0), T (bit ch 1 l1), T (bit ch 2 l2)] := by
  obtain ⟨l0, l1, l2, e, a0, a1⟩ := fl_T h
  refine ⟨l0, l1, l2, e, ?_⟩
  rw [e, laid_T]
  exact read_laid (bit_mem (a0 _ h1)) (bit_mem (a1 _ h2))
theorem law_first (hts : ∀ t ∈ ts, okT t) (one : Nat) (S : List Str) : foldF (pairsOf FF (tableF ts cs)) one S = toldF ts cs one S := by
  rw [table_on, told_on, fold_pairs (fun p hp => by
    obtain ⟨t, ht, e⟩ := key_onT hp
    rw [e]; show (fieldsF plainR heldR bareR (sd t)).length = 3
    rw [fields_sd (hts t ht)]; rfl)]
  refine step (f := sd) (g := fun t => laidF (fl t) one S) (F := FF) (h := fun x => laidF x one S) fun t ht => ?_
  show laidF (fieldsF plainR heldR bareR (sd t)) one S = _
  rw [fields_sd (hts t ht)]
theorem law_second (hts : ∀ t ∈ ts, okT t) (h1 : c1 ∈ signC) (h2 : c2 ∈ signC) (ho : one < 8) (hw : two < 8) :
    foldF (pairsOf (readF (laidR c0 c1 c2 c3)) (toldF ts cs one (S4 c0 c1 c2 c3))) two (S4 c3 c2 c1 c0) = toldF ts cs (one &&& two) (S4 c3 c2 c1 c0) := by
  rw [told_on, told_on, fold_pairs (fun p hp => by
    obtain ⟨t, ht, e⟩ := key_onT hp
    obtain ⟨l0, l1, l2, _, e2⟩ := read_fl (c0 := c0) (c3 := c3) (hts t ht) h1 h2 one
    rw [e, e2]; rfl)]
  refine step (f := fun t => laidF (fl t) one (S4 c0 c1 c2 c3)) (g := fun t => laidF (fl t) (one &&& two) (S4 c3 c2 c1 c0)) (F := readF (laidR c0 c1 c2 c3)) (h := fun x => laidF x two (S4 c3 c2 c1 c0)) fun t ht => ?_
  obtain ⟨l0, l1, l2, e1, e2⟩ := read_fl (c0 := c0) (c3 := c3) (hts t ht) h1 h2 one
  show laidF (readF (laidR c0 c1 c2 c3) (laidF (fl t) one (S4 c0 c1 c2 c3))) two (S4 c3 c2 c1 c0) = laidF (fl t) (one &&& two) (S4 c3 c2 c1 c0)
  rw [e2, e1, laid_T, laid_T, bit_bit ho hw (by decide), bit_bit ho hw (by decide), bit_bit ho hw (by decide)]
theorem read_seven {t : Trip} (h : okT t) (h1 : c1 ∈ signC) (h2 : c2 ∈ signC) : readF (laidR c0 c1 c2 c3) (laidF (fl t) 7 (S4 c0 c1 c2 c3)) = fl t := by
  obtain ⟨l0, l1, l2, e1, e2⟩ := read_fl (c0 := c0) (c3 := c3) h h1 h2 7
  rw [e2, e1, bit_seven (by decide), bit_seven (by decide), bit_seven (by decide)]
theorem law_home (hts : ∀ t ∈ ts, okT t) (h1 : c1 ∈ signC) (h2 : c2 ∈ signC) : homeF (pairsOf (readF (laidR c0 c1 c2 c3)) (toldF ts cs 7 (S4 c0 c1 c2 c3))) = tableF ts cs := by
  rw [told_on, table_on, homeF_eq (fun p hp => by
    obtain ⟨q, hq, rfl⟩ := List.mem_map.mp hp
    obtain ⟨t, ht, e⟩ := key_onT hq
    show (readF (laidR c0 c1 c2 c3) q.1).length = 3
    rw [e, read_seven (hts t ht) h1 h2]; rfl)]
  refine step (f := fun t => laidF (fl t) 7 (S4 c0 c1 c2 c3)) (g := sd) (F := readF (laidR c0 c1 c2 c3)) (h := homeKey) fun t ht => ?_
  show homeKey (readF (laidR c0 c1 c2 c3) (laidF (fl t) 7 (S4 c0 c1 c2 c3))) = sd t
  rw [read_seven (hts t ht) h1 h2, home_sd (hts t ht)]
/- what the contracts ask of the tables -/
theorem told_key (hts : ∀ t ∈ ts, okT t) (ch : Nat) {S : List Str} (hS : ∀ x ∈ S, x.length ≤ 20) : ∀ p ∈ toldF ts cs ch S, p.1.length ≤ 140 := by
  intro p hp
  rw [told_on] at hp
  obtain ⟨t, ht, e⟩ := key_onT hp
  rw [e]
  exact Nat.le_trans (laidK_len (fl_len (hts t ht)) hS 3) (by decide)
theorem told_nodup (ch : Nat) (S : List Str) : (keysT (toldF ts cs ch S)).Nodup := by rw [told_on]; exact nodup_onT _ _ _
theorem table_nodup : (keysT (tableF ts cs)).Nodup := by rw [table_on]; exact nodup_onT _ _ _
theorem told_length (ch : Nat) (S : List Str) : (toldF ts cs ch S).length ≤ ts.length := by rw [told_on]; exact len_onT _ _ _
theorem table_length : (tableF ts cs).length ≤ ts.length := by rw [table_on]; exact len_onT _ _ _
theorem told_sum (hl : cs.length = ts.length) (ch : Nat) (S : List Str) : ((toldF ts cs ch S).map (·.2)).sum = cs.sum := by rw [told_on]; exact sum_onT _ hl
theorem table_sum (hl : cs.length = ts.length) : ((tableF ts cs).map (·.2)).sum = cs.sum := by rw [table_on]; exact sum_onT _ hl
theorem table_key (hts : ∀ t ∈ ts, okT t) : ∀ p ∈ tableF ts cs, p.1.length ≤ 100 ∧ FF p.1 = FF p.1 ∧ (∀ y ∈ FF p.1, y.length ≤ 20) ∧ (FF p.1).length = 3 := by
  intro p hp
  rw [table_on] at hp
  obtain ⟨t, ht, e⟩ := key_onT hp
  have ef : FF p.1 = fl t := by rw [e]; exact fields_sd (hts t ht)
  refine ⟨by rw [e]; exact sd_len (hts t ht), rfl, ?_, ?_⟩
  · rw [ef]; exact fl_len (hts t ht)
  · rw [ef]; rfl
theorem read_bounds {rs : List (Str × Str)} {x : Str} : (∀ y ∈ readF rs x, y.length ≤ x.length) ∧ (readF rs x).length ≤ rs.length := by
  refine ⟨readGo_sz x rs 0 [] (by simp), ?_⟩
  have := readGo_len x rs 0 []
  rw [List.length_nil, Nat.zero_add] at this
  exact this
theorem seven_int (hts : ∀ t ∈ ts, okT t) (h1 : c1 ∈ signC) (h2 : c2 ∈ signC) : ∀ p ∈ toldF ts cs 7 (S4 c0 c1 c2 c3), ∃ k : Int, PySem.intText? ((readF (laidR c0 c1 c2 c3) p.1).getD 1 Str.empty) = some k ∧ 0 ≤ k ∧ k < 1000 := by
  intro p hp
  rw [told_on] at hp
  obtain ⟨t, ht, e⟩ := key_onT hp
  rw [e, read_seven (hts t ht) h1 h2]
  have := fl_len_all.2.1 _ (hts t ht).2.1
  exact ⟨t.2.1, this.2.2.2, this.2.1, this.2.2.1⟩
end
end
section
variable {w : World}
noncomputable def ShapeOk (ps : List Pc) (toks : List Tk) : Prop := (∀ p ∈ ps, p.ok) ∧ apart ps ∧ ps.length ≤ 100 ∧
  (∃ pre segs, (ps.map fun p => p.res.map T) = parts pre segs ∧ goodS segs ∧ (∀ x ∈ pre, x.length ≤ 10) ∧ (∀ s ∈ segs, ∀ x ∈ s, x.length ≤ 10) ∧ cat (pre ++ midF segs) = T (toks.flatMap Tk.txt)) ∧
  (∀ tk ∈ toks, tk.ok) ∧ (toks.flatMap Tk.txt).length ≤ 10000 ∧ (runsOf toks).1.count (Str.ofString "hold") = (runsOf toks).1.count (Str.ofString "shut")
noncomputable abbrev runsZ (toks : List Tk) : List (Str × Str) := (runsOf toks).1.zip (runsOf toks).2
theorem c95s {lv : Nat} {ev : Env} {ns : List Str} {gs : List (Str × Value)} {vs : Vs} {n : Led} {Q : Value → Vs → Led → Prop} {ps : List Pc} {toks : List Tk} {t : Tok} {g : Obj → Led} {ps0 : Array Value} (hs : ShapeOk ps toks) (U : UpF 50 (tabObj ps0) n g) (hT : TabOk ps0)
    (hQ : ∀ ps' D its k tups, TabOk ps' → Each (RunV tups) its (runsZ toks) → Q (.ref D) vs ((D, lobj its k) :: (tups ++ g (tabObj ps')))) :
    WP w (lv + 3) ev ns gs vs n (call (.ref 95) [.str (T (ps.flatMap Pc.txt)) t]) Q := by
  obtain ⟨h1, h2, h3, ⟨pre, segs, h4, h5, h6, h7, h8⟩, h9, h10, h11⟩ := hs
  exact c95 U hT h1 h2 h3 h4 h5 h6 h7 toks h8 h9 h10 h11 hQ
theorem shape_plain : ShapeOk [.star, .lit 58, .star, .lit 40, .star, .lit 41] [.hold, .pl 58, .shut, .hold, .esc 40, .shut, .rest, .esc 41] := by
  refine ⟨?_, by simp [apart], by decide, ⟨[], [[T [58]], [T [92, 40]], [T [92, 41]]], rfl, ⟨by simp, by simp, trivial⟩, by simp, ?_, ?_⟩, ?_, by decide, by decide +kernel⟩
  · intro p hp
    simp only [List.mem_cons, List.not_mem_nil, or_false] at hp
    rcases hp with rfl | rfl | rfl | rfl | rfl | rfl <;> simp [Pc.ok]
  · intro s hs x hx
    simp only [List.mem_cons, List.not_mem_nil, or_false] at hs
    rcases hs with rfl | rfl | rfl <;> (rw [List.mem_singleton.mp hx]; decide)
  · decide +kernel
  · intro tk hk
    simp only [List.mem_cons, List.not_mem_nil, or_false] at hk
    rcases hk with rfl | rfl | rfl | rfl | rfl | rfl | rfl | rfl <;> simp [Tk.ok]
theorem shape_held : ShapeOk [.lit 123, .star, .lit 125] [.esc 123, .rest, .esc 125] := by
  refine ⟨?_, by simp [apart], by decide, ⟨[T [92, 123]], [[T [92, 125]]], rfl, trivial, ?_, ?_, ?_⟩, ?_, by decide, by decide +kernel⟩
  · intro p hp
    simp only [List.mem_cons, List.not_mem_nil, or_false] at hp
    rcases hp with rfl | rfl | rfl <;> simp [Pc.ok]
  · intro x hx
    rw [List.mem_singleton.mp hx]; decide
  · intro s hs x hx
    simp only [List.mem_cons, List.not_mem_nil, or_false] at hs
    subst hs
    rw [List.mem_singleton.mp hx]; decide
  · decide +kernel
  · intro tk hk
    simp only [List.mem_cons, List.not_mem_nil, or_false] at hk
    rcases hk with rfl | rfl | rfl <;> simp [Tk.ok]
theorem shape_bare : ShapeOk [.star] [.rest] := by
  refine ⟨?_, by simp [apart], by decide, ⟨[], [[]], rfl, trivial, by simp, by simp, by decide +kernel⟩, ?_, by decide, by decide +kernel⟩
  · intro p hp; rw [List.mem_singleton.mp hp]; trivial
  · intro p hp; rw [List.mem_singleton.mp hp]; trivial
/- the pattern of four signs -/
noncomputable def sgnPc (c : Nat) : Pc := if c ∈ [42, 63, 91] then .sq c else .lit c
noncomputable def tkOf (c : Nat) : Tk := if c = 91 then .brkesc else if c ∈ [42, 63] then .brk c else if c ∈ specL then .esc c else .pl c
theorem sign_facts {c : Nat} (h : c ∈ signC) : (sgnPc c).ok ∧ (sgnPc c).res = some (tkOf c).txt ∧ (tkOf c).ok ∧ (tkOf c).sign = [c] ∧ (tkOf c).txt.length ≤ 4 ∧ brk (T [c]) = T (sgnPc c).txt ∧ True ∧ ∀ p, runStep p (tkOf c) = (p.1, p.2.set (p.2.length - 1) (p.2.getD (p.2.length - 1) Str.empty ++ T [c])) := by
  simp only [signC, List.mem_cons, List.not_mem_nil, or_false] at h
  rcases h with rfl | rfl | rfl | rfl | rfl | rfl | rfl | rfl | rfl | rfl
  all_goals exact ⟨by simp [sgnPc, Pc.ok], by rfl, by simp [tkOf, Tk.ok, specL], by rfl, by decide, by decide +kernel, trivial, fun p => rfl⟩
noncomputable abbrev ps4 (c0 c1 c2 c3 : Nat) : List Pc := [sgnPc c0, .star, sgnPc c1, .star, sgnPc c2, .star, sgnPc c3]
noncomputable abbrev tk4 (c0 c1 c2 c3 : Nat) : List Tk := [tkOf c0, .hold, tkOf c1, .shut, .hold, tkOf c2, .shut, .rest, tkOf c3]
section
variable {c0 c1 c2 c3 : Nat} (h0 : c0 ∈ signC) (h1 : c1 ∈ signC) (h2 : c2 ∈ signC) (h3 : c3 ∈ signC)
include h0 h1 h2 h3
theorem pat_text : patF (S4 c0 c1 c2 c3) = T ((ps4 c0 c1 c2 c3).flatMap Pc.txt) := by
  obtain ⟨_, _, _, _, _, b0, _⟩ := sign_facts h0
  obtain ⟨_, _, _, _, _, b1, _⟩ := sign_facts h1
  obtain ⟨_, _, _, _, _, b2, _⟩ := sign_facts h2
  obtain ⟨_, _, _, _, _, b3, _⟩ := sign_facts h3
  unfold patF
  simp only [List.map_cons, List.map_nil, b0, b1, b2, b3]
  show Builtin.Str.glued _ _ = _
  rw [StrLaws.glued_eq_join]
  show T (sgnPc c0).txt ++ T [42] ++ (T (sgnPc c1).txt ++ T [42] ++ (T (sgnPc c2).txt ++ T [42] ++ T (sgnPc c3).txt)) = _
  rw [T_add, T_add, T_add, T_add, T_add, T_add]
  congr 1
  simp [Pc.txt]
theorem runs_laid : runsZ (tk4 c0 c1 c2 c3) = laidR c0 c1 c2 c3 := by
  obtain ⟨_, _, _, _, _, _, _, r0⟩ := sign_facts h0
  obtain ⟨_, _, _, _, _, _, _, r1⟩ := sign_facts h1
  obtain ⟨_, _, _, _, _, _, _, r2⟩ := sign_facts h2
  obtain ⟨_, _, _, _, _, _, _, r3⟩ := sign_facts h3
  unfold runsZ runsOf tk4
  simp only [List.foldl_cons, List.foldl_nil, r0, r1, r2, r3]
  have e : ∀ c, Str.ofString "" ++ T [c] = T [c] := fun c => Str.empty_append _
  show ([_, _, _, _, _, _].zip [Str.ofString "" ++ T [c0], Str.ofString "" ++ T [c1], Str.ofString "", Str.ofString "" ++ T [c2], Str.ofString "", Str.ofString "" ++ T [c3]]) = _
  rw [e, e, e, e]
  rfl
theorem shape_laid : ShapeOk (ps4 c0 c1 c2 c3) (tk4 c0 c1 c2 c3) := by
  obtain ⟨o0, e0, k0, s0, l0, _, n0, r0⟩ := sign_facts h0
  obtain ⟨o1, e1, k1, s1, l1, _, n1, r1⟩ := sign_facts h1
  obtain ⟨o2, e2, k2, s2, l2, _, n2, r2⟩ := sign_facts h2
  obtain ⟨o3, e3, k3, s3, l3, _, n3, r3⟩ := sign_facts h3
  refine ⟨?_, ?_, by simp, ⟨[T (tkOf c0).txt], [[T (tkOf c1).txt], [T (tkOf c2).txt], [T (tkOf c3).txt]], ?_, ⟨by simp, by simp, trivial⟩, ?_, ?_, ?_⟩, ?_, ?_, ?_⟩
  · intro p hp
    simp only [List.mem_cons, List.not_mem_nil, or_false] at hp
    rcases hp with rfl | rfl | rfl | rfl | rfl | rfl | rfl
    · exact o0
    · trivial
    · exact o1
    · trivial
    · exact o2
    · trivial
    · exact o3
  · have q : ∀ (c : Nat), (∃ d, sgnPc c = .sq d) ∨ ∃ d, sgnPc c = .lit d := by intro c; unfold sgnPc; split; exact .inl ⟨_, rfl⟩; exact .inr ⟨_, rfl⟩
    rcases q c0 with ⟨_, q0⟩ | ⟨_, q0⟩ <;> rcases q c1 with ⟨_, q1⟩ | ⟨_, q1⟩ <;> rcases q c2 with ⟨_, q2⟩ | ⟨_, q2⟩ <;> rcases q c3 with ⟨_, q3⟩ | ⟨_, q3⟩ <;> (unfold ps4; rw [q0, q1, q2, q3]; simp [apart])
  · show [(sgnPc c0).res.map T, none, (sgnPc c1).res.map T, none, (sgnPc c2).res.map T, none, (sgnPc c3).res.map T] = _
    rw [e0, e1, e2, e3]
    rfl
  · intro x hx
    rw [List.mem_singleton.mp hx, T_len]; omega
  · intro s hs x hx
    simp only [List.mem_cons, List.not_mem_nil, or_false] at hs
    rcases hs with rfl | rfl | rfl <;> (rw [List.mem_singleton.mp hx, T_len]; omega)
  · have one : ∀ x : Str, cat [x] = x := fun x => by rw [cat_eq]; exact Str.append_empty x
    rw [cat_eq]
    simp only [midF, one, List.cons_append, List.nil_append, reduceCtorEq, if_false, catR]
    show T (tkOf c0).txt ++ (T [40, 63, 62, 46, 42, 63] ++ T (tkOf c1).txt ++ T [41] ++ (T [40, 63, 62, 46, 42, 63] ++ T (tkOf c2).txt ++ T [41] ++ (T [46, 42] ++ (T (tkOf c3).txt ++ T [])))) = _
    simp only [T_add]
    congr 1
    simp [Tk.txt]
  · intro tk hk
    simp only [List.mem_cons, List.not_mem_nil, or_false] at hk
    rcases hk with rfl | rfl | rfl | rfl | rfl | rfl | rfl | rfl | rfl
    · exact k0
    · trivial
    · exact k1
    · trivial
    · trivial
    · exact k2
    · trivial
    · trivial
    · exact k3
  · have t1 : Tk.hold.txt.length = 6 := rfl
    have t2 : Tk.shut.txt.length = 1 := rfl
    have t3 : Tk.rest.txt.length = 2 := rfl
    simp only [List.flatMap_cons, List.flatMap_nil, List.length_append, List.length_nil, t1, t2, t3]
    omega
  · unfold runsOf tk4
    simp only [List.foldl_cons, List.foldl_nil, r0, r1, r2, r3]
    show ([Str.ofString "front", Str.ofString "hold", Str.ofString "shut", Str.ofString "hold", Str.ofString "shut", Str.ofString "rest"] : List Str).count _ = List.count _ [Str.ofString "front", Str.ofString "hold", Str.ofString "shut", Str.ofString "hold", Str.ofString "shut", Str.ofString "rest"]
    decide
end
end
section
variable {w : World}
theorem small_runs {rs : List (Str × Str)} (h : (rs.all fun x => decide (x.2.length ≤ 100)) = true) : ∀ x ∈ rs, x.2.length ≤ 100000 := by
  intro x hx
  have := List.all_eq_true.mp h x hx
  have := of_decide_eq_true this
  omega
local macro_rules | `(tactic| walk_at "M.eval") => `(tactic| ((with_reducible show WP _ _ _ _ _ _ _ (eval (Expr.Name _ _) (compEnvC _ _ _ _)) _); with_reducible refine WP.ccellF (by with_unfolding_all rfl) (by with_unfolding_all rfl) (by assumption) (by walk_at "M.mem") (by assumption) ?_))
theorem c142 {lv : Nat} {ev : Env} {ns : List Str} {gs : List (Str × Value)} {vs : Vs} {n : Led} {Q : Value → Vs → Led → Prop} {d : Addr} {od : Obj} {t : Tab} {g : Obj → Led} {ps0 : Array Value}
    (U : UpF 50 (tabObj ps0) n g) (hT : TabOk ps0) (hm : (d, od) ∈ n) (ht : IsTab w d od t) (hz : t.length ≤ 1000) (hk : ∀ p ∈ t, p.1.length ≤ 10000)
    (hQ : ∀ ps' D its k tups, TabOk ps' → Each (PairV tups) its (t.map fun p => (fieldsF plainR heldR bareR p.1, kdpLook t p.1 0)) → Q (.ref D) vs ((D, lobj its k) :: (tups ++ g (tabObj ps')))) :
    WP w (lv + 4) ev ns gs vs n (call (.ref 142) [.ref d]) Q := by
  have kf : PySem.Challenge.rw_rx0094_01 = PySem.Challenge.rw_rx0094_01 ∧ Mine.hd.heap_1 w.params = Mine.hd.heap_1 w.params := ⟨rfl, rfl⟩
  revert kf
  k_fill
  intro kf
  refine' WP.enterC (ns' := []) (vs' := []) [(PySem.Str.ofString "table", .ref d)] [(PySem.Str.ofString "_law_runs", .ref 95)] ?k1 ?k2 ?k3 ?k4 ?k5 ?k5m ?k6 ?k6l ?k7 ?k8 ?k9 ?k10 ?_
  case k1 => k_is
  case k2 => k_is
  case k3 => rfl
  case k4 => rfl
  case k5 => decide
  case k5m => exact fun L => bind_cell [] rfl
  case k6 => decide
  case k6l => decide
  case k7 =>
    intro q hq
    simp only [List.mem_cons, List.not_mem_nil, or_false] at hq
    rcases hq with rfl
    · exact ⟨by rfl, by decide, .inl (by k_is)⟩
  case k8 => rfl
  case k9 => rfl
  case k10 => rfl
  intro L cells Y
  clear kf
  obtain ⟨o1, o2, o3, o4, rfl, hd1, hd2, hd3, hd4⟩ := CellsAre.four (n₁ := PySem.Str.ofString "bare") (n₂ := PySem.Str.ofString "held") (n₃ := PySem.Str.ofString "plain") (n₄ := PySem.Str.ofString "table") (c₁ := L + 1 + 1 + 1 + 1) (c₂ := L + 1 + 1 + 1) (c₃ := L + 1 + 1) (c₄ := L + 1) Y
  clear Y
  have hd4' : o4.data = .cell (some (.ref d)) := hd4
  clear hd4
  generalize hev : envOfC _ _ _ _ _ = ev' at *
  have hb2 : ev'.kindOf (Str.ofString "bare") = some .cell := by rw [← hev]; rfl
  have hh2 : ev'.kindOf (Str.ofString "held") = some .cell := by rw [← hev]; rfl
  have hp2 : ev'.kindOf (Str.ofString "plain") = some .cell := by rw [← hev]; rfl
  have ht2 : ev'.kindOf (Str.ofString "table") = some .cell := by rw [← hev]; rfl
  have sw : ∀ (A B : Led), A.Sublist (B ++ A) := fun A B => List.sublist_append_right B A
  repeat walk_at "P"
  refine WP.assign_cell ?_ (by rw [← hev]; rfl) (by rw [← hev]; rfl)
  repeat walk_at "M"
  refine c95s shape_plain (UpF.there (UpF.there (UpF.there (UpF.there U)))) hT fun ps1 D1 its1 k1 tups1 hT1 hE1 => ?_
  refine ⟨_, _, _, UpF.there (UpF.past (UpF.there (UpF.there UpF.here))), hd3, fun p3 hp3 => ?_⟩
  try dsimp only
  repeat walk_at "P"
  refine WP.assign_cell ?_ (by rw [← hev]; rfl) (by rw [← hev]; rfl)
  repeat walk_at "M"
  refine c95s shape_held (UpF.there (UpF.past (UpF.there (UpF.there (UpF.there (UpF.there U.again)))))) hT1 fun ps2 D2 its2 k2 tups2 hT2 hE2 => ?_
  refine ⟨_, _, _, UpF.there (UpF.past (UpF.there (UpF.past (UpF.there UpF.here)))), hd2, fun p2 hp2 => ?_⟩
  try dsimp only
  repeat walk_at "P"
  refine WP.assign_cell ?_ (by rw [← hev]; rfl) (by rw [← hev]; rfl)
  repeat walk_at "M"
  refine c95s shape_bare (UpF.there (UpF.past (UpF.there (UpF.past (UpF.there (UpF.there (UpF.there (UpF.there U.again)))))))) hT2 fun ps3 D3 its3 k3 tups3 hT3 hE3 => ?_
  refine ⟨_, _, _, UpF.there (UpF.past (UpF.there (UpF.past (UpF.there (UpF.past UpF.here))))), hd1, fun p1 hp1 => ?_⟩
  try dsimp only
  generalize hN : (D3, lobj its3 k3) :: (tups3 ++ (D2, lobj its2 k2) :: (tups2 ++ (D1, lobj its1 k1) :: (tups1 ++ (L + 1 + 1 + 1 + 1, p1) :: (L + 1 + 1 + 1, p2) :: (L + 1 + 1, p3) :: (L + 1, o4) :: g (tabObj ps3)))) = N
  have m3 : (D3, lobj its3 k3) ∈ N := by rw [← hN]; walk_at "M.mem"
  have m2 : (D2, lobj its2 k2) ∈ N := by rw [← hN]; walk_at "M.mem"
  have m1 : (D1, lobj its1 k1) ∈ N := by rw [← hN]; walk_at "M.mem"
  have mb : (L + 1 + 1 + 1 + 1, p1) ∈ N := by rw [← hN]; walk_at "M.mem"
  have mh : (L + 1 + 1 + 1, p2) ∈ N := by rw [← hN]; walk_at "M.mem"
  have mp : (L + 1 + 1, p3) ∈ N := by rw [← hN]; walk_at "M.mem"
  have mt : (L + 1, o4) ∈ N := by rw [← hN]; walk_at "M.mem"
  have hg : (g (tabObj ps3)).Sublist N := by
    rw [← hN]
    refine List.Sublist.cons _ (List.Sublist.trans ?_ (sw _ _))
    refine List.Sublist.cons _ (List.Sublist.trans ?_ (sw _ _))
    refine List.Sublist.cons _ (List.Sublist.trans ?_ (sw _ _))
    exact List.Sublist.cons _ (List.Sublist.cons _ (List.Sublist.cons _ (List.sublist_cons_self _ _)))
  have md : (d, od) ∈ N := hg.subset (U.stay hm ht.ne_tab)
  have r3 : Each (RunV N) its3 bareR := hE3.mono fun _ _ => RunV.mono fun p hp => by rw [← hN]; exact .tail _ (List.mem_append_left _ hp)
  have r2 : Each (RunV N) its2 heldR := hE2.mono fun _ _ => RunV.mono fun p hp => by rw [← hN]; exact .tail _ (List.mem_append_right _ (.tail _ (List.mem_append_left _ hp)))
  have r1 : Each (RunV N) its1 plainR := hE1.mono fun _ _ => RunV.mono fun p hp => by rw [← hN]; exact .tail _ (List.mem_append_right _ (.tail _ (List.mem_append_right _ (.tail _ (List.mem_append_left _ hp)))))
  clear hN hE1 hE2 hE3
  have b1 : ∀ x ∈ plainR, x.2.length ≤ 100000 := small_runs (by decide +kernel)
  have b2 : ∀ x ∈ heldR, x.2.length ≤ 100000 := small_runs (by decide +kernel)
  have b3 : ∀ x ∈ bareR, x.2.length ≤ 100000 := small_runs (by decide +kernel)
  have l1 : plainR.length ≤ 1000 := by decide +kernel
  have l2 : heldR.length ≤ 1000 := by decide +kernel
  have l3 : bareR.length ≤ 1000 := by decide +kernel
  repeat walk_at "M"
  refine WP.comp_dict ?_ (by rw [← hev]; with_unfolding_all rfl) (by decide) rfl (by decide) rfl
  repeat walk_at "M"
  refine WP.cellR (by rw [← hev]; rfl) ht2 mt hd4' ?_
  refine ⟨rfl, d, od, t, fun i ys n' => ∃ new, n' = new ++ N ∧ Each (PairV new) ys ((t.map fun p => (fieldsF plainR heldR bareR p.1, kdpLook t p.1 0)).take i), rfl, by rw [sizeLine_eq]; omega, ht, ⟨[], rfl, .nil⟩, fun i ys n' hj => by obtain ⟨new, rfl, _⟩ := hj; exact List.mem_append_right _ md, ?_, ?_⟩
  · intro i v ys n' C oC m₂ hv hj ho hx
    obtain ⟨key, y, t', hti, rfl⟩ := hv
    obtain ⟨new, rfl, hys⟩ := hj
    have hkey := hk _ (List.mem_of_getElem? hti)
    repeat walk_at "M"
    refine WP.cglobK (by k_is) ?_
    repeat walk_at "M"
    have up : ∀ p ∈ N, p ∈ (C, oC) :: (new ++ N) := fun p hp => .tail _ (List.mem_append_right _ hp)
    refine c109 (lv := lv + 1) (up _ m1) (up _ m2) (up _ m3) (r1.mono fun _ _ => RunV.mono up) (r2.mono fun _ _ => RunV.mono up) (r3.mono fun _ _ => RunV.mono up) l1 l2 l3 hkey b1 b2 b3 fun fa its k hs => ?_
    repeat walk_at "M"
    refine WP.dict_item (.tail _ (up _ md)) ht (has_mem (List.mem_of_getElem? hti)) fun tt => ?_
    repeat walk_at "M"
    rename_i ta
    refine ⟨rfl, _, Sub2.mid (a := [(ta, _), (fa, _)]) (a' := [(ta, _), (fa, _)]) (List.Sublist.refl _) (List.Sublist.refl _), (ta, _) :: (fa, _) :: new, rfl, ?_⟩
    have hzi : (t.map fun p => (fieldsF plainR heldR bareR p.1, kdpLook t p.1 0))[i]? = some (fieldsF plainR heldR bareR key, kdpLook t key 0) := by rw [List.getElem?_map, hti]; rfl
    rw [List.take_add_one, hzi]
    exact (hys.mono fun _ _ => PairV.mono fun p hp => .tail _ (.tail _ hp)).append (.cons ⟨ta, .ref fa, _, _, rfl, .head _, fa, its, k, rfl, .tail _ (.head _), hs⟩ .nil)
  · intro ys n' hj D
    obtain ⟨new, rfl, hys⟩ := hj
    rw [List.take_of_length_le (by rw [List.length_map]; omega)] at hys
    repeat walk_at "M"
    exact ⟨_, List.Sublist.cons_cons _ (List.Sublist.append (List.Sublist.refl _) hg), hQ ps3 D ys _ new hT3 hys⟩
end
section
variable {w : World}
theorem law_start {w : World} {lv : Nat} {ev : Env} {ns : List Str} {gs : List (Str × Value)} {vsf : Addr → Vs} {la : Addr} {its : List Value} {script : List Int} {n : Led} {A₀ : Around} {base h₀ : Heap} {s : Shared} {body : List Stmt} {p : Program} {loose : List Str} {mean : ExcName → Option Value} {mg mb m : Str → Option Value} {Q : Flow → Shared → Prop} {E : Value → Shared → Prop} {L : Addr}
    (lif : h₀.IsList la its.toArray) (hI : IntsAre its script) (hlen : script.length ≤ 1000) (F : Fr h₀ L s.heap m) (N : News h₀ L s.heap n) (T : Top p loose mean mg mb h₀) (X : (Mine.hd.heap_1 w.params).In h₀) (B : Below A₀ base [] h₀)
    (hL : ev.locals = L) (nd : ns.Nodup) (hk : ev.scope.kind = .function) (loc : ∀ x ∈ ns, ev.kindOf x = some .local ∧ (x == ("__debug__" : Str)) = false)
    (glb : ∀ q ∈ gs, ev.kindOf q.1 = some .globalImplicit ∧ (q.1 == ("__debug__" : Str)) = false ∧ (nsIn (Mine.hd.heap_1 w.params) mainGlobals q.1 = some (some q.2) ∨ nsIn (Mine.hd.heap_1 w.params) mainGlobals q.1 = some none ∧ bootBuiltins q.1 = some q.2 ∧ q.1 ≠ "__name__"))
    (eg : ev.globals = mainGlobals) (eb : ev.builtins = builtinsNs) (hand : A₀.handled = none) (fra : (A₀.deeper ev).frames = some [ev]) (fr : ev.frame = some ev.locals) (room : A₀.depth + 1 + lv < recursionLimit) (units : A₀.units + 3 + 20 * lv + 100 < cLine)
    (hm : m = lkm ns (vsf la)) (ndn : (n.map (·.1)).Nodup)
    (H : ∀ (la : Addr) (its : List Value) (script : List Int) (c : Fx w lv ev ns gs) (E : Value → Shared → Prop) h tk, c.h₀.IsList la its.toArray → IntsAre its script → script.length ≤ 1000 → Inv c (vsf la) n h → wpAny (model PR w) c.A (execs body ev) (Post c (Ret fun v n' => v = .bool true ∧ ∃ ps, (50, tabObj ps) ∈ n')) E (At c h tk))
    (fin : ∀ s', (∀ b o, h₀.get? b = some o → s'.heap.get? b = some o) → s'.os = s.os → s'.gens = s.gens → GrownAt 50 s'.heap → Q (.ret (.bool true)) s') :
    wpAny (model PR w) (A₀.deeper ev) (execs body ev) Q E s := by
  subst hL hm
  let c : Fx w lv ev ns gs :=
    { A := A₀.deeper ev, h₀ := h₀, s₀ := s, hid := [], nd := nd, kind := hk, loc := loc, mg := mg, mb := mb,
      glb := fun q hq => ⟨(glb q hq).1, (glb q hq).2.1, (glb q hq).2.2.imp (fun e => mg_of X T.g e) fun e => ⟨mg_none_of X T.g e.1, (T.builtins _ e.2.2).trans e.2.1⟩⟩,
      p := p, loose := loose, mean := mean, T := T, X := X, eg := eg, eb := eb, hand := hand, A₀ := A₀, base := base, outer := [], bel := B, fra := fra, fr := fr, room := room, units := units }
  have I : Inv c (vsf la) n s.heap := ⟨F, by rw [List.append_nil]; exact N, ⟨by rw [List.append_nil]; exact ndn⟩⟩
  refine wpAny_mono (H la its script c E s.heap s.toks lif hI hlen I) (fun f s' q => ?_) fun _ _ x => x
  obtain ⟨h', tk', vs', n', rfl, I', q⟩ := q
  have : f = .ret (.bool true) ∧ ∃ ps, (50, tabObj ps) ∈ n' := by
    cases f <;> obtain ⟨e, q⟩ := q
    all_goals first | (cases e; exact ⟨rfl, q⟩) | cases e
  obtain ⟨rfl, ps, hps⟩ := this
  exact fin _ I'.1.keep rfl rfl ⟨ps, I'.get hps⟩
section
variable {lv : Nat} {ev : Env} {ns : List Str} {gs : List (Str × Value)} {vs : Vs} {n : Led}
theorem num_stmt {c : Fx w (lv + 1) ev ns gs} {E : Value → Shared → Prop} {h : Heap} {tk : Nat} {a : Addr} {its : List Value} {script : List Int} {xs xn xf : Str} {p1 p2 p3 p4 pos : Pos} {rest : List Stmt} {Q : Flow → Vs → Led → Prop} (I : Inv c vs n h) (hb : c.h₀.IsList a its.toArray) (hi : IntsAre its script) (lz : script.length ≤ 1000)
    (lk : Lk ns vs xs (.ref a)) (gl : (xf, Value.ref 159) ∈ gs) (hkeep : keepIn (Mine.hd.heap_1 w.params) (.ref 159) = true)
    (K : ∀ b itn k, IntsAre itn (asInts (numF script)) → ∃ vs', St ns vs xn (.ref b) vs' ∧ WP w (lv + 1) ev ns gs vs' ((b, lobj itn k) :: n) (execs rest ev) Q) :
    wpAny (model PR w) c.A (execs (.Assign [.Name xn p4] (.Call (.Name xf p1) [.Name xs p2] [] p3) pos :: rest) ev) (Post c Q) E (At c h tk) := by
  refine raw_cons ?_
  refine wpAny_Assign_Name ?_ (by with_unfolding_all rfl)
  refine Call_ ((WP.global_ (Q := fun v vs' n' => v = .ref 159 ∧ vs' = vs ∧ n' = n) gl ⟨rfl, rfl, rfl⟩).to I fun v h1 tk1 vs1 n1 I1 q => ?_) (by with_unfolding_all rfl)
  obtain ⟨rfl, rfl, rfl⟩ := q
  refine callWith_K c.X hkeep ((WP.items_cons (Q := fun us vs' n' => us = [.ref a] ∧ vs' = vs1 ∧ n' = n1) (WP.local_ lk (WP.items_nil ⟨rfl, rfl, rfl⟩))).to I1 fun us h2 tk2 vs2 n2 I2 q => ?_) (by with_unfolding_all rfl) (by with_unfolding_all rfl)
  obtain ⟨rfl, rfl, rfl⟩ := q
  refine ⟨c.X.keeps I2.1.keep, ?_⟩
  rw [List.nil_append]
  refine wpAny_mono (c159 (Q := fun v vs' n' => ∃ vs'', St ns vs' xn v vs'' ∧ WP w (lv + 1) ev ns gs vs'' n' (execs rest ev) Q) hi lz (fun b itn k hn => K b itn k hn) c E h2 tk2 hb I2) (fun v s' q => ?_) fun _ _ x => x
  obtain ⟨h3, tk3, vs3, n3, rfl, I3, vs4, st, q⟩ := q
  exact (WP.store_ (Q := fun _ => Then (fun vs n => WP w (lv + 1) ev ns gs vs n (execs rest ev) Q) Q .next) st q).run _ _ _ _ I3
end
theorem ks_canLayAll0 : ∀ ns : List Str, (∀ x ∈ ns, PyData.strOk x = true) → PyData.canLayAll0 (ns.map PyData.str) = true
  | [], _ => rfl
  | a :: r, h => by simp [PyData.canLayAll0, PyData.canLay0, h a, ks_canLayAll0 r fun x hx => h x (.tail _ hx)]
theorem ks_depthAll : ∀ ns : List Str, PyData.depthAll (ns.map PyData.str) = 0
  | [] => rfl
  | _ :: r => by simp [PyData.depthAll, PyData.depth, ks_depthAll r]
theorem ks_shaped {ns : List Str} (h : ∀ x ∈ ns, PyData.strOk x = true) : SeqAt.shaped (.list (ns.map PyData.str)) = true := by
  simp [SeqAt.shaped, PyData.canLay0, PyData.depth, ks_canLayAll0 ns h, ks_depthAll]
theorem ks_sameAll : ∀ ns : List Str, PySem.Spec.sameAll (ns.map PyData.str) (ns.map PyData.str) = true
  | [] => by simp [PySem.Spec.sameAll]
  | a :: r => by simp [PySem.Spec.sameAll, PySem.Spec.same, ks_sameAll r]
theorem ks_same (ns : List Str) : PySem.Spec.same (.list (ns.map PyData.str)) (.list (ns.map PyData.str)) = true := by
  simp only [PySem.Spec.same]; exact ks_sameAll ns
theorem ks_carried : ∀ {vs : List Value} {ns : List Str}, StrsAre vs ns → CarriedAll vs (ns.map PyData.str)
  | _, _, .nil => .nil
  | _, _, .cons _ t r => .cons (.str _ t) (ks_carried r)
section
variable {lv : Nat} {ev : Env} {ns : List Str} {gs : List (Str × Value)} {vs : Vs} {n : Led}
theorem WP.ne_strs {a b : Addr} {xs ys : List Value} {k j : Nat} {ms : List Str} {Q : Value → Vs → Led → Prop} (ha : (a, lobj xs k) ∈ n) (hb : (b, lobj ys j) ∈ n) (hi : StrsAre xs ms) (hj : StrsAre ys ms) (hk : ∀ x ∈ ms, PyData.strOk x = true) (hQ : Q (.bool false) vs n) : WP w lv ev ns gs vs n (compareOp .NotEq (.ref a) (.ref b)) Q :=
  WP.mk fun c E h tk I => ne_dataH_same (reads_newData (I.list ha) (ks_carried hi)) (reads_newData (I.list hb) (ks_carried hj)) (ks_shaped hk) (ks_shaped hk) (by have := c.units; omega) (SeqAt.noMix_of_shape (.list .str) rfl _ _ (list_map_has fun _ => rfl) (list_map_has fun _ => rfl)) (by rw [ks_same]; exact Post.ok I hQ)
end
theorem sd_strOk_all : ∀ f ∈ filesL, ∀ i ∈ linesL, ∀ nm ∈ namesL, PyData.strOk (stdF f i nm) = true := by decide +kernel
theorem table_strOk {ts : List Trip} {cs : List Int} (hts : ∀ t ∈ ts, okT t) : ∀ x ∈ (tableF ts cs).map (·.1), PyData.strOk x = true := by
  intro x hx
  obtain ⟨p, hp, rfl⟩ := List.mem_map.mp hx
  rw [table_on] at hp
  obtain ⟨t, ht, e⟩ := key_onT hp
  have ok := hts t ht
  rw [e]; exact sd_strOk_all _ ok.1 _ ok.2.1 _ ok.2.2
theorem trip_bounds {ts : List Trip} (hts : ∀ t ∈ ts, okT t) : ∀ x ∈ ts, x.1.length ≤ 1000 ∧ 0 ≤ x.2.1 ∧ x.2.1 < 1000 ∧ x.2.2.length ≤ 1000 := by
  intro x hx
  have h := hts x hx
  have a := fl_len_all.1 _ h.1
  have b := fl_len_all.2.1 _ h.2.1
  have c := fl_len_all.2.2 _ h.2.2
  exact ⟨by omega, b.2.1, b.2.2.1, by omega⟩
theorem bitand8 {a b : Nat} (ha : a < 8) (hb : b < 8) : Builtin.bitAnd (a : Int) (b : Int) = ((a &&& b : Nat) : Int) := by
  have key : ∀ x y : Fin 8, Builtin.bitAnd (x.val : Int) (y.val : Int) = ((x.val &&& y.val : Nat) : Int) := by decide +kernel
  exact key ⟨a, ha⟩ ⟨b, hb⟩
theorem S4_len {c0 c1 c2 c3 : Nat} : ∀ x ∈ S4 c0 c1 c2 c3, x.length ≤ 20 := by
  intro x hx
  simp only [List.mem_cons, List.not_mem_nil, or_false] at hx
  rcases hx with rfl | rfl | rfl | rfl <;> (rw [T_len]; simp)
theorem laid_run_len {c0 c1 c2 c3 : Nat} : ∀ x ∈ laidR c0 c1 c2 c3, x.2.length ≤ 100000 := by
  intro x hx
  simp only [laidR, List.mem_cons, List.not_mem_nil, or_false] at hx
  have e : (Str.ofString "").length ≤ 100000 := by decide
  have f : ∀ c, (T [c]).length ≤ 100000 := fun c => by rw [T_len]; simp
  rcases hx with rfl | rfl | rfl | rfl | rfl | rfl <;> first | exact f _ | exact e
end
section
variable {w : World}
local macro_rules | `(tactic| walk_at "M.eval") => `(tactic| ((with_reducible show WP _ _ _ _ _ _ _ (eval (Expr.Name _ _) _) _); with_reducible refine WP.cellR (by assumption) (by assumption) (by walk_at "M.mem") (by assumption) ?_))
local macro_rules | `(tactic| walk_at "M.eval") => `(tactic| ((with_reducible show WP _ _ _ _ _ _ _ (eval (Expr.Name _ _) (compEnvC _ _ _ _)) _); with_reducible refine WP.ccellF (by with_unfolding_all rfl) (by with_unfolding_all rfl) (by assumption) (by walk_at "M.mem") (by assumption) ?_))
local macro_rules | `(tactic| k_qdec) => `(tactic| decide +kernel)
theorem law_holds : PySem.Challenge.rw_rx0094_01.Holds := Mine.with_left Mine.hd Mine.left (by
  k_go0
  with_reducible rename Fr _ _ _ _ => F
  with_reducible rename News _ _ _ _ => N
  with_reducible rename Top _ _ _ _ _ (ghostOf _ _) => TT
  with_reducible rename Frag.In _ (ghostOf _ _) => X
  with_reducible rename Below _ _ _ _ => B
  with_reducible rename IntsAre _ _ => hI
  with_reducible rename Heap.IsList (ghostOf _ _) _ _ => lif
  with_reducible rename Not (LT.lt _ _) => hlen
  with_reducible rename CellsAre _ _ _ => Y
  with_reducible rename (_ : Nat) < _ => hlt50
  refine law_start (lv := 4) (ns := [PySem.Str.ofString "script", PySem.Str.ofString "numbers", PySem.Str.ofString "triples", PySem.Str.ofString "signs", PySem.Str.ofString "turned", PySem.Str.ofString "one", PySem.Str.ofString "two", PySem.Str.ofString "table", PySem.Str.ofString "pairs", PySem.Str.ofString "second", PySem.Str.ofString "home"]) (vsf := fun a => [some (.ref a), none, none, none, none, none, none, none, none, none, none]) (gs := [(PySem.Str.ofString "_law_numbers", .ref 159), (PySem.Str.ofString "_law_table", .ref 137), (PySem.Str.ofString "_law_shown_pairs", .ref 142), (PySem.Str.ofString "_law_runs", .ref 95), (PySem.Str.ofString "_law_pattern", .ref 147), (PySem.Str.ofString "_law_fold", .ref 123), (PySem.Str.ofString "_law_home", .ref 154), (PySem.Str.ofString "_law_told", .ref 130), (PySem.Str.ofString "list", .type "list"), (PySem.Str.ofString "range", .type "range")]) lif hI (by omega) F N TT X B rfl ?nd rfl ?loc ?glb rfl rfl rfl rfl rfl ?room ?units ?hm ?ndn ?H ?fin
  case nd => decide
  case loc =>
    intro x hx
    simp only [List.mem_cons, List.not_mem_nil, or_false] at hx
    rcases hx with rfl | rfl | rfl | rfl | rfl | rfl | rfl | rfl | rfl | rfl | rfl <;> exact ⟨by rfl, by decide⟩
  case glb =>
    intro q hq
    simp only [List.mem_cons, List.not_mem_nil, or_false] at hq
    rcases hq with rfl | rfl | rfl | rfl | rfl | rfl | rfl | rfl | rfl | rfl
    · exact ⟨by rfl, by decide, .inl (by k_is)⟩
    · exact ⟨by rfl, by decide, .inl (by k_is)⟩
    · exact ⟨by rfl, by decide, .inl (by k_is)⟩
    · exact ⟨by rfl, by decide, .inl (by k_is)⟩
    · exact ⟨by rfl, by decide, .inl (by k_is)⟩
    · exact ⟨by rfl, by decide, .inl (by k_is)⟩
    · exact ⟨by rfl, by decide, .inl (by k_is)⟩
    · exact ⟨by rfl, by decide, .inl (by k_is)⟩
    · exact ⟨by rfl, by decide, .inr ⟨by k_is, by (show bootBuiltins (PySem.Str.ofString "list") = _); boot_fast, by decide⟩⟩
    · exact ⟨by rfl, by decide, .inr ⟨by k_is, by (show bootBuiltins (PySem.Str.ofString "range") = _); boot_fast, by decide⟩⟩
  case room => decide
  case units => decide
  case hm => exact bind_local [PySem.Str.ofString "numbers", PySem.Str.ofString "triples", PySem.Str.ofString "signs", PySem.Str.ofString "turned", PySem.Str.ofString "one", PySem.Str.ofString "two", PySem.Str.ofString "table", PySem.Str.ofString "pairs", PySem.Str.ofString "second", PySem.Str.ofString "home"] rfl
  case ndn => simp; omega
  case fin =>
    intro s' hkeep hos hgens hgr
    refine ⟨⟨.inl ⟨.bool true, .bool true, [], rfl, fun _ => rfl, .bool true, ?post, ?un⟩, hkeep, hos, ?g⟩, hgr, trivial⟩
    case g => rw [hgens]; assumption
    case post =>
      refine' postW_of ?zs ?zv ?ze
      case zs => o_shape
      case zv => wtm_val
      case ze => rfl
    case un => exact fun _ => ⟨List.nodup_nil, fun a ha => nomatch ha⟩
  case H =>
  generalize hev : envOfC _ _ _ _ _ = ev'
  clear Y F N TT X B
  rename_i W s0 s1 mg mb G Y0 fa o pm cd doc ho hcd hg X0 V T0 B0 TE TW w9 hs hlay0 hL1 hr1 hl2 w8 w7 w6 w5 w4 hL ra w1 r0 hr hcond hD h1 tk1 c4 c3 c2 c1 d4 d3 d2 d1
  have e4 : ∃ v, c4.data = .cell v := ⟨_, d4⟩
  have e3 : ∃ v, c3.data = .cell v := ⟨_, d3⟩
  have e2 : ∃ v, c2.data = .cell v := ⟨_, d2⟩
  have e1 : ∃ v, c1.data = .cell v := ⟨_, d1⟩
  clear d1 d2 d3 d4 lif codeHd
  clear tk1 h1 hD hcond hlen hr hI
  clear r0 w1 ra hL w4
  clear hl2 hr1 hL1 hlay0 hs hT9 TW TE B0 T0 V X0 hT8 hg hcd ho
  clear Y0 G
  intro la its script c E h tk lif hI hlen I
  generalize s1.heap.objs.size = L0 at *
  obtain ⟨v4, e4⟩ := e4
  obtain ⟨v3, e3⟩ := e3
  obtain ⟨v2, e2⟩ := e2
  obtain ⟨v1, e1⟩ := e1
  have kc1 : ev'.cells.lookup (Str.ofString "calls") = some (L0 + 1) := by rw [← hev]; rfl
  have kc2 : ev'.kindOf (Str.ofString "calls") = some .cell := by rw [← hev]; rfl
  have kl1 : ev'.cells.lookup (Str.ofString "laid") = some (L0 + 1 + 1) := by rw [← hev]; rfl
  have kl2 : ev'.kindOf (Str.ofString "laid") = some .cell := by rw [← hev]; rfl
  have kf1 : ev'.cells.lookup (Str.ofString "first") = some (L0 + 1 + 1 + 1) := by rw [← hev]; rfl
  have kf2 : ev'.kindOf (Str.ofString "first") = some .cell := by rw [← hev]; rfl
  have kw1 : ev'.cells.lookup (Str.ofString "whole") = some (L0 + 1 + 1 + 1 + 1) := by rw [← hev]; rfl
  have kw2 : ev'.kindOf (Str.ofString "whole") = some .cell := by rw [← hev]; rfl
  refine num_stmt I lif hI hlen (by walk_at "M.lk") (by walk_at "M.glob") (by k_is) fun nb itn nk hn => ⟨_, by walk_at "M.st", ?_⟩
  clear I lif hI tk h E c
  have hnl := numF_len script
  have hnlt := numF_lt script
  generalize numF script = nums at hn hnl hnlt
  have hitn : itn.length = 8 := by rw [ints_len hn, asInts, List.length_map, hnl]
  have hs5 : IntsAre (slicePick itn.toArray none (some 5) none).toList (asInts (nums.take 5)) := by
    have := slice_ints_uptoW hn (y := 5) (by decide)
    rw [asInts, List.map_take]; exact this
  generalize hp5 : (slicePick itn.toArray none (some 5) none).toList = it5 at hs5
  have hl5 : it5.length = 5 := by rw [ints_len hs5, asInts, List.length_map, List.length_take, hnl]; rfl
  have h5l : (nums.take 5).length = 5 := by rw [List.length_take, hnl]; rfl
  generalize hn5 : nums.take 5 = ns5 at hs5 h5l
  have item5 : ∀ {i : Nat} {v : Value}, it5[i]? = some v → ∃ m t, v = .int ((m : Nat) : Int) t ∧ ns5[i]? = some m := by
    intro i v hv
    obtain ⟨x, t, rfl, hxi⟩ := ints_item hs5 hv
    rw [List.getElem?_map] at hxi
    cases hq : ns5[i]? with
    | none => rw [hq] at hxi; cases hxi
    | some m => rw [hq] at hxi; cases hxi; exact ⟨m, t, rfl, rfl⟩
  -- triples
  refine WP.execs_cons ?_
  refine WP.assign_comp ?_ (.tail _ (.tail _ (.head _))) (by rw [← hev]; with_unfolding_all rfl) (by with_unfolding_all rfl) (by decide) rfl (by decide) rfl
  repeat walk_at "M"
  refine WP.list_slice (by walk_at "M.mem") .none (.int _ _) (by rw [sizeLine_eq]; omega) fun b5 => ?_
  rw [hp5]
  generalize hbase : List.cons (b5, lobj it5 0) _ = base
  have mb5 : (b5, lobj it5 0) ∈ base := hbase ▸ .head _
  refine ⟨rfl, b5, it5, 0, fun i ys n' => ∃ new, n' = new ++ base ∧ Each (TripV new) ys ((ns5.map tripF).take i), rfl, by rw [sizeLine_eq]; omega, ⟨[], rfl, .nil⟩, fun i ys n' hj => by obtain ⟨new, rfl, _⟩ := hj; exact List.mem_append_right _ mb5, ?_, ?_⟩
  · intro i v ys n' C oC m₂ hv hj ho hx
    obtain ⟨new, rfl, hys⟩ := hj
    obtain ⟨m, t, rfl, hm⟩ := item5 hv
    repeat walk_at "M"
    refine WP.cglobK (by k_is) ?_
    repeat walk_at "M"
    refine c90 (lv := 3) fun ta t1 t2 t3 kk => ?_
    refine ⟨rfl, _, Sub2.mid (a := [(ta, _)]) (a' := [(ta, _)]) (List.Sublist.refl _) (List.Sublist.refl _), (ta, _) :: new, rfl, ?_⟩
    rw [List.take_add_one, List.getElem?_map, hm]
    exact (hys.mono fun _ _ => TripV.mono fun p hp => .tail _ hp).append (.cons ⟨ta, t1, t2, t3, kk, rfl, .head _⟩ .nil)
  intro itt n' hj tD
  obtain ⟨tups, rfl, hitt⟩ := hj
  rw [List.take_of_length_le (by rw [List.length_map]; omega)] at hitt
  subst hbase
  refine exSt (by walk_at "M.st") ?_
  refine Seq.next ?_
  refine WP.sub (List.Sublist.cons_cons _ (List.Sublist.append (List.Sublist.refl _) (List.sublist_cons_self _ _))) ?_
  -- calls
  refine WP.execs_cons ?_
  refine WP.assign_cell ?_ (by rw [← hev]; rfl) (by rw [← hev]; rfl) (by rw [← hev]; with_unfolding_all rfl)
  refine WP.comp_list ?_ (by with_unfolding_all rfl) (by decide) rfl (by decide) rfl
  repeat walk_at "M"
  refine WP.list_slice (by walk_at "M.mem") .none (.int _ _) (by rw [sizeLine_eq]; omega) fun b6 => ?_
  rw [hp5]
  generalize hbase : List.cons (b6, lobj it5 0) _ = base
  have mb6 : (b6, lobj it5 0) ∈ base := hbase ▸ .head _
  refine ⟨rfl, b6, it5, 0, fun i ys n' => n' = base ∧ IntsAre ys ((ns5.map fun m => 1 + ((m % 5 : Nat) : Int)).take i), rfl, by rw [sizeLine_eq]; omega, ⟨rfl, .nil⟩, fun i ys n' hj => by obtain ⟨rfl, _⟩ := hj; exact mb6, ?_, ?_⟩
  · intro i v ys n' C oC m₂ hv hj ho hx
    obtain ⟨rfl, hys⟩ := hj
    obtain ⟨m, t, rfl, hm⟩ := item5 hv
    repeat walk_at "M"
    refine WP.mod_nat (b := 5) rfl (by decide) fun _ => ?_
    repeat walk_at "M"
    refine ⟨rfl, _, Sub2.refl _, rfl, ?_⟩
    rw [List.take_add_one, List.getElem?_map, hm]
    exact ints_append hys (.cons _ _ .nil)
  intro itc n' hj cD
  obtain ⟨rfl, hitc⟩ := hj
  rw [List.take_of_length_le (by rw [List.length_map]; omega)] at hitc
  subst hbase
  refine ⟨_, _, _, by walk_at "M.up", e1, fun o1 h1 => ?_⟩
  refine Seq.next ?_
  refine WP.sub (List.Sublist.cons_cons _ (List.sublist_cons_self _ _)) ?_
  -- signs
  have gd : ∀ k, (asInts nums).getD k 0 = ((nums.getD k 0 : Nat) : Int) := by
    intro k
    rw [List.getD_eq_getElem?_getD, List.getElem?_map, List.getD_eq_getElem?_getD]
    cases nums[k]? <;> rfl
  have gl : ∀ k, nums.getD k 0 < 64 := by
    intro k
    rw [List.getD_eq_getElem?_getD]
    cases hq : nums[k]? with
    | none => show 0 < 64; omega
    | some m => exact hnlt m (List.mem_of_getElem? hq)
  have hnz : (asInts nums).length = 8 := by rw [asInts, List.length_map, hnl]
  have g5 := gd 5
  have g6 := gd 6
  have g7 := gd 7
  have l5 := gl 5
  have l6 := gl 6
  have l7 := gl 7
  generalize nums.getD 5 0 = a5 at g5 l5
  generalize nums.getD 6 0 = a6 at g6 l6
  generalize nums.getD 7 0 = a7 at g7 l7
  refine WP.execs_cons ?_
  refine WP.assign_comp ?_ (.tail _ (.tail _ (.tail _ (.head _)))) (by rw [← hev]; with_unfolding_all rfl) (by with_unfolding_all rfl) (by decide) rfl (by decide) rfl
  repeat walk_at "M"
  refine WP.list_int (by walk_at "M.mem") hn (by decide) (by rw [hnz]; decide) (by omega) fun _ => ?_
  rw [show (asInts nums).getD (5 : Int).toNat 0 = (a5 : Int) from g5]
  repeat walk_at "M"
  refine WP.mod_nat (b := 10) rfl (by decide) fun z1 => ?_
  repeat walk_at "M"
  refine WP.list_int (by walk_at "M.mem") hn (by decide) (by rw [hnz]; decide) (by omega) fun _ => ?_
  rw [show (asInts nums).getD (5 : Int).toNat 0 = (a5 : Int) from g5]
  repeat walk_at "M"
  refine WP.div_nat (b := 10) rfl (by decide) (by decide) fun z2 => ?_
  repeat walk_at "M"
  refine WP.list_int (by walk_at "M.mem") hn (by decide) (by rw [hnz]; decide) (by omega) fun _ => ?_
  rw [show (asInts nums).getD (6 : Int).toNat 0 = (a6 : Int) from g6]
  repeat walk_at "M"
  refine WP.mod_nat (b := 10) rfl (by decide) fun z3 => ?_
  repeat walk_at "M"
  refine WP.list_int (by walk_at "M.mem") hn (by decide) (by rw [hnz]; decide) (by omega) fun _ => ?_
  rw [show (asInts nums).getD (6 : Int).toNat 0 = (a6 : Int) from g6]
  repeat walk_at "M"
  refine WP.div_nat (b := 10) rfl (by decide) (by decide) fun z4 => ?_
  repeat walk_at "M"
  rename_i zb
  have hzs : IntsAre [Value.int ((a5 % 10 : Nat) : Int) z1, .int ((a5 / 10 : Nat) : Int) z2, .int ((a6 % 10 : Nat) : Int) z3, .int ((a6 / 10 : Nat) : Int) z4] (asInts [a5 % 10, a5 / 10, a6 % 10, a6 / 10]) := .cons _ _ (.cons _ _ (.cons _ _ (.cons _ _ .nil)))
  have hzl : ∀ z ∈ [a5 % 10, a5 / 10, a6 % 10, a6 / 10], z < 10 := by
    intro z hz
    simp only [List.mem_cons, List.not_mem_nil, or_false] at hz
    rcases hz with rfl | rfl | rfl | rfl <;> omega
  generalize hbase : List.cons (zb, _) _ = base
  have mzb : (zb, lobj [Value.int ((a5 % 10 : Nat) : Int) z1, .int ((a5 / 10 : Nat) : Int) z2, .int ((a6 % 10 : Nat) : Int) z3, .int ((a6 / 10 : Nat) : Int) z4] 0) ∈ base := hbase ▸ .head _
  refine ⟨rfl, zb, [Value.int ((a5 % 10 : Nat) : Int) z1, .int ((a5 / 10 : Nat) : Int) z2, .int ((a6 % 10 : Nat) : Int) z3, .int ((a6 / 10 : Nat) : Int) z4], 0, fun i ys n' => n' = base ∧ StrsAre ys (([a5 % 10, a5 / 10, a6 % 10, a6 / 10].map fun z => T [signC.getD z 0]).take i), rfl, by rw [sizeLine_eq]; show 4 ≤ 16777216; decide, ⟨rfl, .nil⟩, fun i ys n' hj => by obtain ⟨rfl, _⟩ := hj; exact mzb, ?_, ?_⟩
  · intro i v ys n' C oC m₂ hv hj ho hx
    obtain ⟨rfl, hys⟩ := hj
    obtain ⟨x, t, rfl, hxi⟩ := ints_item hzs hv
    rw [List.getElem?_map] at hxi
    obtain ⟨z, hz, rfl⟩ : ∃ z, [a5 % 10, a5 / 10, a6 % 10, a6 / 10][i]? = some z ∧ x = ((z : Nat) : Int) := by
      cases hq : [a5 % 10, a5 / 10, a6 % 10, a6 / 10][i]? with
      | none => rw [hq] at hxi; cases hxi
      | some m => rw [hq] at hxi; cases hxi; exact ⟨m, rfl, rfl⟩
    have hz10 := hzl z (List.mem_of_getElem? hz)
    rw [show Str.ofString "*?[]!-.^\\|" = T signC from by decide]
    repeat walk_at "M"
    refine WP.str_at (i := z) (a := signC.getD z 0) rfl (by rw [List.getD_eq_getElem?_getD, List.getElem?_eq_getElem (show z < signC.length from hz10)]; rfl) (by decide) fun _ => ?_
    refine ⟨rfl, _, Sub2.refl _, rfl, ?_⟩
    rw [List.take_add_one, List.getElem?_map, hz]
    exact strs_append hys (strs_one _ _)
  intro itsg n' hj sD
  obtain ⟨rfl, hitsg⟩ := hj
  subst hbase
  have mem_sign : ∀ z, z < 10 → signC.getD z 0 ∈ signC := by
    intro z hz
    rw [List.getD_eq_getElem?_getD, List.getElem?_eq_getElem (show z < signC.length from hz)]
    exact List.getElem_mem _
  have hc0 := mem_sign (a5 % 10) (by omega)
  have hc1 := mem_sign (a5 / 10) (by omega)
  have hc2 := mem_sign (a6 % 10) (by omega)
  have hc3 := mem_sign (a6 / 10) (by omega)
  have hsg : StrsAre itsg (S4 (signC.getD (a5 % 10) 0) (signC.getD (a5 / 10) 0) (signC.getD (a6 % 10) 0) (signC.getD (a6 / 10) 0)) := hitsg
  clear hitsg
  generalize signC.getD (a5 % 10) 0 = c0' at hc0 hsg
  generalize signC.getD (a5 / 10) 0 = c1' at hc1 hsg
  generalize signC.getD (a6 % 10) 0 = c2' at hc2 hsg
  generalize signC.getD (a6 / 10) 0 = c3' at hc3 hsg
  refine exSt (by walk_at "M.st") ?_
  refine Seq.next ?_
  refine WP.sub (List.Sublist.cons_cons _ (List.sublist_cons_self _ _)) ?_
  -- turned
  have hS4 : (S4 c0' c1' c2' c3').length = 4 := rfl
  have hS4' : (S4 c3' c2' c1' c0').length = 4 := rfl
  have hsz4 : (S4 c0' c1' c2' c3').length ≤ 2 ^ 62 := by rw [hS4]; decide
  refine WP.execs_cons ?_
  repeat walk_at "M"
  refine WP.list_str (by walk_at "M.mem") hsg (by decide) (by rw [hS4]; decide) hsz4 fun u1 => ?_
  repeat walk_at "M"
  refine WP.list_str (by walk_at "M.mem") hsg (by decide) (by rw [hS4]; decide) hsz4 fun u2 => ?_
  repeat walk_at "M"
  refine WP.list_str (by walk_at "M.mem") hsg (by decide) (by rw [hS4]; decide) hsz4 fun u3 => ?_
  repeat walk_at "M"
  refine WP.list_str (by walk_at "M.mem") hsg (by decide) (by rw [hS4]; decide) hsz4 fun u4 => ?_
  repeat walk_at "M"
  rename_i uD t7
  have htu : StrsAre [Value.str ((S4 c0' c1' c2' c3').getD (Int.toNat 3) Str.empty) u1, .str ((S4 c0' c1' c2' c3').getD (Int.toNat 2) Str.empty) u2, .str ((S4 c0' c1' c2' c3').getD (Int.toNat 1) Str.empty) u3, .str ((S4 c0' c1' c2' c3').getD (Int.toNat 0) Str.empty) u4] (S4 c3' c2' c1' c0') := .cons _ _ (.cons _ _ (.cons _ _ (.cons _ _ .nil)))
  generalize [Value.str ((S4 c0' c1' c2' c3').getD (Int.toNat 3) Str.empty) u1, .str ((S4 c0' c1' c2' c3').getD (Int.toNat 2) Str.empty) u2, .str ((S4 c0' c1' c2' c3').getD (Int.toNat 1) Str.empty) u3, .str ((S4 c0' c1' c2' c3').getD (Int.toNat 0) Str.empty) u4] = itu at htu ⊢
  -- one, two
  refine WP.list_int (by walk_at "M.mem") hn (by decide) (by rw [hnz]; decide) (by omega) fun _ => ?_
  rw [show (asInts nums).getD (7 : Int).toNat 0 = (a7 : Int) from g7]
  repeat walk_at "M"
  refine WP.mod_nat (b := 8) rfl (by decide) fun to1 => ?_
  repeat walk_at "M"
  refine WP.list_int (by walk_at "M.mem") hn (by decide) (by rw [hnz]; decide) (by omega) fun _ => ?_
  rw [show (asInts nums).getD (7 : Int).toNat 0 = (a7 : Int) from g7]
  repeat walk_at "M"
  refine WP.div_nat (b := 8) rfl (by decide) (by decide) fun to2 => ?_
  have hone : a7 % 8 < 8 := by omega
  have htwo : a7 / 8 < 8 := by omega
  generalize a7 % 8 = one at hone ⊢
  generalize a7 / 8 = two at htwo ⊢
  have hts : ∀ t ∈ ns5.map tripF, okT t := by intro t ht; obtain ⟨m, _, rfl⟩ := List.mem_map.mp ht; exact trip_ok m
  have hlt : (ns5.map tripF).length = 5 := by rw [List.length_map, h5l]
  have hlc : (ns5.map fun m => 1 + ((m % 5 : Nat) : Int)).length = (ns5.map tripF).length := by rw [List.length_map, List.length_map]
  generalize ns5.map tripF = ts at hitt hts hlt hlc
  generalize (ns5.map fun m => 1 + ((m % 5 : Nat) : Int)) = cs at hitc hlc
  -- table
  repeat walk_at "M"
  refine c137 (lv := 2) (by walk_at "M.mem") (by walk_at "M.mem") (hitt.mono fun _ _ => TripV.mono fun p hp => by walk_at "M.mem") hitc (by omega) hlc (trip_bounds hts) fun td to hto => ?_
  -- pairs
  repeat walk_at "M"
  refine c142 (lv := 0) (by walk_at "M.up") (.inl rfl) (by walk_at "M.mem") hto (Nat.le_trans table_length (by omega)) (fun p hp => Nat.le_trans (table_key hts p hp).1 (by decide)) fun ps1 pD itp pk ptups hT1 hitp => ?_
  -- laid
  repeat walk_at "P"
  refine WP.assign_cell ?_ (by rw [← hev]; rfl) (by rw [← hev]; rfl)
  repeat walk_at "M"
  refine c147 (lv := 3) (by walk_at "M.mem") hsg rfl (fun x hx => Nat.le_trans (S4_len x hx) (by decide)) fun tp => ?_
  rw [pat_text hc0 hc1 hc2 hc3]
  repeat walk_at "M"
  refine c95s (lv := 1) (shape_laid hc0 hc1 hc2 hc3) (by walk_at "M.up") hT1 fun ps2 lD itl lk ltups hT2 hitl => ?_
  rw [runs_laid hc0 hc1 hc2 hc3] at hitl
  refine ⟨_, _, _, by walk_at "M.up", e2, fun o2 h2 => ?_⟩
  -- first
  have hbf : ∀ x ∈ pairsOf FF (tableF ts cs), ∀ y ∈ x.1, y.length ≤ 100000 := by
    intro x hx y hy
    obtain ⟨p, hp, rfl⟩ := List.mem_map.mp hx
    exact Nat.le_trans ((table_key hts p hp).2.2.1 y hy) (by decide)
  have hbl : ∀ x ∈ pairsOf FF (tableF ts cs), x.1.length ≤ 100000 := by
    intro x hx
    obtain ⟨p, hp, rfl⟩ := List.mem_map.mp hx
    show (FF p.1).length ≤ _
    rw [(table_key hts p hp).2.2.2]; decide
  have hpl : (pairsOf FF (tableF ts cs)).length ≤ 1000 := by rw [List.length_map]; exact Nat.le_trans table_length (by omega)
  have hbs : ∀ x ∈ S4 c0' c1' c2' c3', x.length ≤ 100000 := fun x hx => Nat.le_trans (S4_len x hx) (by decide)
  have hbs' : ∀ x ∈ S4 c3' c2' c1' c0', x.length ≤ 100000 := fun x hx => Nat.le_trans (S4_len x hx) (by decide)
  have hrf : ∀ ch, ∀ x ∈ pairsOf (readF (laidR c0' c1' c2' c3')) (toldF ts cs ch (S4 c0' c1' c2' c3')), ∀ y ∈ x.1, y.length ≤ 600 := by
    intro ch x hx y hy
    obtain ⟨p, hp, rfl⟩ := List.mem_map.mp hx
    have h1 := read_bounds.1 y hy
    have h2 := told_key hts ch S4_len p hp
    omega
  have hrl : ∀ ch, ∀ x ∈ pairsOf (readF (laidR c0' c1' c2' c3')) (toldF ts cs ch (S4 c0' c1' c2' c3')), x.1.length ≤ 100000 := by
    intro ch x hx
    obtain ⟨p, hp, rfl⟩ := List.mem_map.mp hx
    exact Nat.le_trans (read_bounds (rs := laidR c0' c1' c2' c3')).2 (by show 6 ≤ 100000; decide)
  have hrp : ∀ ch, (pairsOf (readF (laidR c0' c1' c2' c3')) (toldF ts cs ch (S4 c0' c1' c2' c3'))).length ≤ 1000 := by
    intro ch
    rw [List.length_map]; exact Nat.le_trans (told_length _ _) (by omega)
  repeat walk_at "P"
  refine WP.assign_cell ?_ (by rw [← hev]; rfl) (by rw [← hev]; rfl)
  repeat walk_at "M"
  refine c123 (lv := 2) (by walk_at "M.mem") (by walk_at "M.mem") (hitp.mono fun _ _ => PairV.mono fun p hp => by walk_at "M.mem") hsg hpl rfl hbf hbl hbs fun fd fo hfo => ?_
  rw [law_first hts] at hfo
  refine ⟨_, _, _, by walk_at "M.up", e3, fun o3 h3 => ?_⟩
  -- second
  repeat walk_at "M"
  refine WP.comp_dict ?_ (by rw [← hev]; with_unfolding_all rfl) (by decide) rfl (by decide) rfl
  repeat walk_at "M"
  generalize hbase : List.cons (fd, fo) _ = base
  have mD : (fd, fo) ∈ base := by rw [← hbase]; walk_at "M.mem"
  have mL : (lD, lobj itl lk) ∈ base := by rw [← hbase]; walk_at "M.mem"
  have mc2 : (L0 + 1 + 1, o2) ∈ base := by rw [← hbase]; walk_at "M.mem"
  have mcx : (L0 + 1 + 1 + 1, o3) ∈ base := by rw [← hbase]; walk_at "M.mem"
  have hrun : Each (RunV base) itl (laidR c0' c1' c2' c3') := hitl.mono fun _ _ => RunV.mono fun p hp => by rw [← hbase]; walk_at "M.mem"
  refine ⟨rfl, fd, fo, _, fun i ys n' => ∃ new, n' = new ++ base ∧ Each (PairV new) ys ((pairsOf (readF (laidR c0' c1' c2' c3')) (toldF ts cs one (S4 c0' c1' c2' c3'))).take i), rfl, by rw [sizeLine_eq]; exact Nat.le_trans (told_length _ _) (by omega), hfo, ⟨[], rfl, .nil⟩, fun i ys n' hj => by obtain ⟨new, rfl, _⟩ := hj; exact List.mem_append_right _ mD, ?_, ?_⟩
  · intro i v ys n' C oC m₂ hv hj ho hx
    obtain ⟨key, y, t', hti, rfl⟩ := hv
    obtain ⟨new, rfl, hys⟩ := hj
    have hkl := told_key hts one S4_len _ (List.mem_of_getElem? hti)
    simp only at hkl
    have up : ∀ p ∈ base, p ∈ (C, oC) :: (new ++ base) := fun p hp => .tail _ (List.mem_append_right _ hp)
    repeat walk_at "M"
    refine WP.cglobK (by k_is) ?_
    repeat walk_at "M"
    refine c102 (lv := 3) (up _ mL) (hrun.mono fun _ _ => RunV.mono up) (by show 6 ≤ 1000; decide) (by omega) laid_run_len fun ra itr kr hr => ?_
    repeat walk_at "M"
    refine WP.dict_item (.tail _ (up _ mD)) hfo (has_mem (List.mem_of_getElem? hti)) fun tt => ?_
    repeat walk_at "M"
    rename_i ta
    refine ⟨rfl, _, Sub2.mid (a := [(ta, _), (ra, _)]) (a' := [(ta, _), (ra, _)]) (List.Sublist.refl _) (List.Sublist.refl _), (ta, _) :: (ra, _) :: new, rfl, ?_⟩
    rw [List.take_add_one, List.getElem?_map, hti]
    exact (hys.mono fun _ _ => PairV.mono fun p hp => .tail _ (.tail _ hp)).append (.cons ⟨ta, .ref ra, _, _, rfl, .head _, ra, itr, kr, rfl, .tail _ (.head _), hr⟩ .nil)
  intro ys n' hj D
  obtain ⟨new, rfl, hys⟩ := hj
  rw [List.take_of_length_le (by rw [List.length_map]; exact Nat.le_refl _)] at hys
  subst hbase
  repeat walk_at "M"
  refine c123 (lv := 2) (.head _) (by walk_at "M.mem") (hys.mono fun _ _ => PairV.mono fun p hp => by walk_at "M.mem") htu (hrp one) rfl (fun x hx y hy => Nat.le_trans (hrf one x hx y hy) (by decide)) (hrl one) hbs' fun sd so hso => ?_
  rw [law_second hts hc1 hc2 hone htwo] at hso
  clear hys
  repeat walk_at "P"
  refine WP.sub (List.Sublist.cons_cons _ (List.Sublist.cons _ (List.sublist_append_right new _))) ?_
  -- whole
  refine WP.assign_cell ?_ (by rw [← hev]; rfl) (by rw [← hev]; rfl)
  repeat walk_at "M"
  refine c123 (lv := 2) (ch := 7) (by walk_at "M.mem") (by walk_at "M.mem") (hitp.mono fun _ _ => PairV.mono fun p hp => by walk_at "M.mem") hsg hpl rfl hbf hbl hbs fun wd wo hwo => ?_
  rw [law_first hts] at hwo
  refine ⟨_, _, _, by walk_at "M.up", e4, fun o4 h4 => ?_⟩
  -- home
  repeat walk_at "M"
  refine WP.comp_dict ?_ (by rw [← hev]; with_unfolding_all rfl) (by decide) rfl (by decide) rfl
  repeat walk_at "M"
  generalize hbase : List.cons (wd, wo) _ = base
  have mD : (wd, wo) ∈ base := by rw [← hbase]; walk_at "M.mem"
  have mL : (lD, lobj itl lk) ∈ base := by rw [← hbase]; walk_at "M.mem"
  have mc2 : (L0 + 1 + 1, o2) ∈ base := by rw [← hbase]; walk_at "M.mem"
  have mcx : (L0 + 1 + 1 + 1 + 1, o4) ∈ base := by rw [← hbase]; walk_at "M.mem"
  have hrun : Each (RunV base) itl (laidR c0' c1' c2' c3') := hitl.mono fun _ _ => RunV.mono fun p hp => by rw [← hbase]; walk_at "M.mem"
  refine ⟨rfl, wd, wo, _, fun i ys n' => ∃ new, n' = new ++ base ∧ Each (PairV new) ys ((pairsOf (readF (laidR c0' c1' c2' c3')) (toldF ts cs 7 (S4 c0' c1' c2' c3'))).take i), rfl, by rw [sizeLine_eq]; exact Nat.le_trans (told_length _ _) (by omega), hwo, ⟨[], rfl, .nil⟩, fun i ys n' hj => by obtain ⟨new, rfl, _⟩ := hj; exact List.mem_append_right _ mD, ?_, ?_⟩
  · intro i v ys n' C oC m₂ hv hj ho hx
    obtain ⟨key, y, t', hti, rfl⟩ := hv
    obtain ⟨new, rfl, hys⟩ := hj
    have hkl := told_key hts 7 S4_len _ (List.mem_of_getElem? hti)
    simp only at hkl
    have up : ∀ p ∈ base, p ∈ (C, oC) :: (new ++ base) := fun p hp => .tail _ (List.mem_append_right _ hp)
    repeat walk_at "M"
    refine WP.cglobK (by k_is) ?_
    repeat walk_at "M"
    refine c102 (lv := 3) (up _ mL) (hrun.mono fun _ _ => RunV.mono up) (by show 6 ≤ 1000; decide) (by omega) laid_run_len fun ra itr kr hr => ?_
    repeat walk_at "M"
    refine WP.dict_item (.tail _ (up _ mD)) hwo (has_mem (List.mem_of_getElem? hti)) fun tt => ?_
    repeat walk_at "M"
    rename_i ta
    refine ⟨rfl, _, Sub2.mid (a := [(ta, _), (ra, _)]) (a' := [(ta, _), (ra, _)]) (List.Sublist.refl _) (List.Sublist.refl _), (ta, _) :: (ra, _) :: new, rfl, ?_⟩
    rw [List.take_add_one, List.getElem?_map, hti]
    exact (hys.mono fun _ _ => PairV.mono fun p hp => .tail _ (.tail _ hp)).append (.cons ⟨ta, .ref ra, _, _, rfl, .head _, ra, itr, kr, rfl, .tail _ (.head _), hr⟩ .nil)
  intro ys n' hj D
  obtain ⟨new, rfl, hys⟩ := hj
  rw [List.take_of_length_le (by rw [List.length_map]; exact Nat.le_refl _)] at hys
  subst hbase
  repeat walk_at "M"
  refine c154 (lv := 2) (.head _) (hys.mono fun _ _ => PairV.mono fun p hp => by walk_at "M.mem") (hrp 7) (hrf 7) (hrl 7) ?_ fun md mo hmo => ?_
  · intro x hx _
    obtain ⟨p, hp, rfl⟩ := List.mem_map.mp hx
    exact seven_int hts hc1 hc2 p hp
  rw [law_home hts hc1 hc2] at hmo
  clear hys
  repeat walk_at "N"
  refine WP.sub (List.Sublist.cons_cons _ (List.Sublist.cons _ (List.sublist_append_right new _))) ?_
  -- the four tests
  repeat walk_at "M"
  refine c130 (lv := 2) (by walk_at "M.mem") (by walk_at "M.mem") (by walk_at "M.mem") (hitt.mono fun _ _ => TripV.mono fun p hp => by walk_at "M.mem") hitc hsg (by omega) hlc rfl (trip_bounds hts) hbs fun da oa hda => ?_
  repeat walk_at "M"
  refine WP.dict_ne (by walk_at "M.mem") (by walk_at "M.mem") hfo hda ?_
  rw [same_self (told_nodup _ _), Bool.not_true]
  repeat walk_at "M"
  rw [bitand8 hone htwo]
  refine c130 (lv := 2) (by walk_at "M.mem") (by walk_at "M.mem") (by walk_at "M.mem") (hitt.mono fun _ _ => TripV.mono fun p hp => by walk_at "M.mem") hitc htu (by omega) hlc rfl (trip_bounds hts) hbs' fun db ob hdb => ?_
  repeat walk_at "M"
  refine WP.dict_ne (by walk_at "M.mem") (by walk_at "M.mem") hso hdb ?_
  rw [same_self (told_nodup _ _), Bool.not_true]
  repeat walk_at "M"
  refine c130 (lv := 2) (ch := 7) (by walk_at "M.mem") (by walk_at "M.mem") (by walk_at "M.mem") (hitt.mono fun _ _ => TripV.mono fun p hp => by walk_at "M.mem") hitc hsg (by omega) hlc rfl (trip_bounds hts) hbs fun dc oc hdc => ?_
  repeat walk_at "M"
  refine WP.dict_ne (by walk_at "M.mem") (by walk_at "M.mem") hwo hdc ?_
  rw [same_self (told_nodup _ _), Bool.not_true]
  repeat walk_at "M"
  refine WP.dict_ne (by walk_at "M.mem") (by walk_at "M.mem") hmo hto ?_
  rw [same_self table_nodup, Bool.not_true]
  repeat walk_at "M"
  refine WP.list_keys (by walk_at "M.mem") hmo (Nat.le_trans table_length (by omega)) fun kA itA jA hkA => ?_
  repeat walk_at "M"
  refine WP.list_keys (by walk_at "M.mem") hto (Nat.le_trans table_length (by omega)) fun kB itB jB hkB => ?_
  repeat walk_at "M"
  refine WP.ne_strs (by walk_at "M.mem") (by walk_at "M.mem") hkA hkB (table_strOk hts) ?_
  -- the counts
  repeat walk_at "M"
  refine WP.comp_list ?_ (by with_unfolding_all rfl) (by decide) rfl (by decide) rfl
  repeat walk_at "M"
  rename_i eD
  generalize hbase : List.cons (eD, _) _ = base
  have mE : (eD, lobj [Value.ref td, .ref fd, .ref sd, .ref wd] 0) ∈ base := by rw [← hbase]; exact .head _
  have hE : ∀ (i : Nat) (v : Value), [Value.ref td, .ref fd, .ref sd, .ref wd][i]? = some v → ∃ d o t, v = .ref d ∧ (d, o) ∈ base ∧ IsTab W d o t ∧ (t.map (·.2)).sum = cs.sum ∧ i < 4 := by
    intro i v hv
    rcases i with _ | _ | _ | _ | i
    · cases hv; exact ⟨td, to, _, rfl, by rw [← hbase]; walk_at "M.mem", hto, table_sum hlc, by decide⟩
    · cases hv; exact ⟨fd, fo, _, rfl, by rw [← hbase]; walk_at "M.mem", hfo, told_sum hlc _ _, by decide⟩
    · cases hv; exact ⟨sd, so, _, rfl, by rw [← hbase]; walk_at "M.mem", hso, told_sum hlc _ _, by decide⟩
    · cases hv; exact ⟨wd, wo, _, rfl, by rw [← hbase]; walk_at "M.mem", hwo, told_sum hlc _ _, by decide⟩
    · simp at hv
  refine ⟨rfl, eD, [Value.ref td, .ref fd, .ref sd, .ref wd], 0, fun i ys n' => n' = base ∧ IntsAre ys ([cs.sum, cs.sum, cs.sum, cs.sum].take i), rfl, by rw [sizeLine_eq]; show 4 ≤ 16777216; decide, ⟨rfl, .nil⟩, fun i ys n' hj => by obtain ⟨rfl, _⟩ := hj; exact mE, ?_, ?_⟩
  · intro i v ys n' C oC m₂ hv hj ho hx
    obtain ⟨rfl, hys⟩ := hj
    obtain ⟨d, o, t, rfl, hm, ht, hsum, hi4⟩ := hE i v hv
    repeat walk_at "M"
    refine WP.cglobK (by k_is) ?_
    repeat walk_at "M"
    refine c83 (lv := 3) (.tail _ hm) ht fun ts => ?_
    refine ⟨rfl, _, Sub2.refl _, rfl, ?_⟩
    have e : [cs.sum, cs.sum, cs.sum, cs.sum].take (i + 1) = [cs.sum, cs.sum, cs.sum, cs.sum].take i ++ [cs.sum] := by
      rcases i with _ | _ | _ | _ | i
      · rfl
      · rfl
      · rfl
      · rfl
      · omega
    rw [e, hsum]
    exact ints_append hys (.cons _ _ .nil)
  intro ys n' hj lA
  obtain ⟨rfl, hys⟩ := hj
  subst hbase
  refine WP.comp_range ?_ (by rw [← hev]; with_unfolding_all rfl) (by decide) rfl (by decide) rfl
  repeat walk_at "M"
  rename_i rr q1 q2
  generalize hbase : List.cons (rr, _) _ = base
  have mR : (cD, lobj itc itc.length) ∈ base := by rw [← hbase]; walk_at "M.mem"
  have mC : (L0 + 1, o1) ∈ base := by rw [← hbase]; walk_at "M.mem"
  refine ⟨rfl, rr, 4, q1, _, q2, fun i ys n' => n' = base ∧ IntsAre ys ([cs.sum, cs.sum, cs.sum, cs.sum].take i), rfl, by rw [sizeLine_eq]; decide, by rw [← hbase]; exact .head _, ⟨rfl, .nil⟩, ?_, ?_⟩
  · intro i v ys n' C oC m₂ hv hj ho hx
    obtain ⟨rfl, hys2⟩ := hj
    obtain ⟨hi4, t', rfl⟩ := hv
    repeat walk_at "M"
    refine WP.cglobB (by k_is) (by (show bootBuiltins (PySem.Str.ofString "sum") = _); boot_fast) (by decide) ?_
    repeat walk_at "M"
    refine WP.sum_ints (.tail _ mR) hitc fun ts => ?_
    refine ⟨rfl, _, Sub2.refl _, rfl, ?_⟩
    have e : [cs.sum, cs.sum, cs.sum, cs.sum].take (i + 1) = [cs.sum, cs.sum, cs.sum, cs.sum].take i ++ [cs.sum] := by
      rcases i with _ | _ | _ | _ | i
      · rfl
      · rfl
      · rfl
      · rfl
      · omega
    rw [e]
    exact ints_append hys2 (.cons _ _ .nil)
  intro ys2 n' hj lB
  obtain ⟨rfl, hys2⟩ := hj
  subst hbase
  change IntsAre ys [cs.sum, cs.sum, cs.sum, cs.sum] at hys
  change IntsAre ys2 [cs.sum, cs.sum, cs.sum, cs.sum] at hys2
  refine WP.eq_ints (by walk_at "M.mem") (by walk_at "M.mem") hys hys2 ?_
  rw [decide_eq_true rfl]
  repeat walk_at "M"
  exact ⟨rfl, ps2, by walk_at "M.mem"⟩)
end
end Mine
end
theorem PySem.Challenge.cw_rx0094_01_holds : PySem.Challenge.rw_rx0094_01.Holds :=
  Mine.law_holds
