import PyProof.Rows.All
import Wide.All
import OpenK.AllK
import Wide.FinOn
import OpenK.XRun
import OpenK.XGo
import Lean
import PySem.Challenge.RW_wn0028_02
open PySem PySem.W PyProof.Rows PySem.Calls LCg
set_option Elab.async false
set_option rowWalk.seconds 0
set_option genSizeOf false
set_option genInjectivity false
set_option linter.all false
set_option compiler.extract_closed false
namespace Mine
local macro_rules | `(tactic| o_law) => `(tactic| refine holds_law (by (delta OpenLaw.wellSaid); (repeat' with_reducible refine look_both ?_ ?_); (delta OpenRow.wellSaid); (repeat' with_reducible refine look_both ?_ ?_); (delta OpenRow.partSaid); (repeat' with_reducible refine look_both ?_ ?_); (delta looksOpen); (repeat' with_reducible refine look_both ?_ ?_); (all_goals decide +kernel)) fun said => ?_)
local macro_rules | `(tactic| refine $f:ident (q := $q) (loose := $l) (Xt := $x) (XP := $xp) (Yf := $yf) (Ya := $ya) (YP := $yp) (N := $n) ?hl $r*) => `(tactic| (refine $f:ident (q := $q) (loose := $l) (Xt := $x) (XP := $xp) (Yf := $yf) (Ya := $ya) (YP := $yp) (N := $n) ?hl9 $r*; (case hl9 => (intro w9; kernel_rfl))))
set_option maxRecDepth 100000 in
set_option maxHeartbeats 8000000 in
open_top hd for PySem.Challenge.rw_wn0028_02
end Mine
theorem Mine.fill_all : (Mine.hd.heap_39, PySem.Challenge.rw_wn0028_02) = (Mine.hd.heap_39, PySem.Challenge.rw_wn0028_02) := by
  k_fill
  rfl
namespace Mine
noncomputable def World9 : World := ⟨fun _ _ => 0, { strHash := fun _ => 0, shareClass := fun _ => 0, mergeTok := id, idOf := fun _ => 0, idOfShared := fun _ _ => 0, followText := fun _ => true, idOfImm := fun _ => 0 }⟩
theorem hen_ne {D : Type} (ne : Nonempty D) (G : D → Prop) : Nonempty {c : D // G c → ∀ d, G d} := by
  by_cases h : ∀ d, G d
  · exact ⟨⟨Classical.choice ne, fun _ => h⟩⟩
  · obtain ⟨d, hd⟩ := Classical.not_forall.mp h
    exact ⟨⟨d, fun g => absurd g hd⟩⟩
/-- a constant that stands for all: what holds of it holds of every datum -/
noncomputable def hen {D : Type} (e : D) (G : D → Prop) : D := (Classical.choice (hen_ne ⟨e⟩ G)).1
theorem hen_all {D : Type} {e : D} {G : D → Prop} (m : G (hen e G)) : ∀ d, G d := (Classical.choice (hen_ne ⟨e⟩ G)).2 m
structure Hid (P : Prop) : Prop where
  out : P
noncomputable def segOf {α : Type} {C : α → Prop} {p : α} (h : C p) : {p : α // C p} := ⟨p, h⟩

end Mine
namespace Mine
noncomputable def Stop (P : Prop) : Prop := P
theorem stop_in {P : Prop} (h : Stop P) : P := h
theorem stop_out {P : Prop} (h : P) : Stop P := h

/-- a frame's map, its first names written out -/
noncomputable def mB : List (Str × Value) → (Str → Option Value) → Str → Option Value
  | [], r => r
  | p :: ps, r => fun y => if y = p.1 then some p.2 else mB ps r y
noncomputable def HasB (m : Str → Option Value) : List (Str × Value) → Prop
  | [] => True
  | p :: ps => m p.1 = some p.2 ∧ HasB m ps
theorem mB_eq {m : Str → Option Value} : ∀ {ps : List (Str × Value)}, HasB m ps → mB ps m = m
  | [], _ => rfl
  | p :: ps, h => by
    funext y
    show (if y = p.1 then some p.2 else mB ps m y) = m y
    rw [mB_eq h.2]
    by_cases e : y = p.1
    · rw [if_pos e, e, h.1]
    · rw [if_neg e]
theorem fr_mB {h₀ h : Heap} {L : Addr} {m : Str → Option Value} {ps : List (Str × Value)} (F : Fr h₀ L h m) (hp : HasB m ps) : Fr h₀ L h (mB ps m) := by rw [mB_eq hp]; exact F

/-- what stands between the turns of a loop -/
noncomputable def LoopSt (h₀ : Heap) (L : Addr) (s : Shared) (vars : List (Str × Value)) (led : List (Addr × Obj)) (s₃ : Shared) : Prop :=
  ∃ h' tk m', s₃ = { s with heap := h', toks := tk } ∧ Fr h₀ L h' m' ∧ HasB m' vars ∧ News h₀ L h' led
theorem LoopSt.mk {h₀ h' : Heap} {L : Addr} {s : Shared} {vars : List (Str × Value)} {led : List (Addr × Obj)} {tk : Nat} {m' : Str → Option Value}
    (F : Fr h₀ L h' m') (N : News h₀ L h' led) (hb : HasB m' vars) : LoopSt h₀ L s vars led { s with heap := h', toks := tk } := ⟨h', tk, m', rfl, F, hb, N⟩
/-- a turn's end: the state is as good as before, and less is left -/
noncomputable def TurnEnd {σ : Type} (h₀ : Heap) (L : Addr) (s : Shared) (vars : σ → List (Str × Value)) (led : σ → List (Addr × Obj)) (ok : Nat → σ → Prop) (n : Nat) (s₃ : Shared) : Prop :=
  ∃ k y, k < n ∧ ok k y ∧ LoopSt h₀ L s (vars y) (led y) s₃
theorem TurnEnd.mk {σ : Type} {h₀ h' : Heap} {L : Addr} {s : Shared} {vars : σ → List (Str × Value)} {led : σ → List (Addr × Obj)} {ok : Nat → σ → Prop} {n : Nat} {tk : Nat} {m' : Str → Option Value} {led' : List (Addr × Obj)}
    (k : Nat) (y : σ) (hk : k < n) (F : Fr h₀ L h' m') (N : News h₀ L h' led') (hb : HasB m' (vars y)) (hl : ∀ p ∈ led y, p ∈ led') (h : ok k y) : TurnEnd h₀ L s vars led ok n { s with heap := h', toks := tk } :=
  ⟨k, y, hk, h, h', tk, m', rfl, F, hb, fun p hp => N p (hl p hp)⟩
theorem news_of {h₀ h : Heap} {L : Addr} {l l' : List (Addr × Obj)} (N : News h₀ L h l) (hs : ∀ p ∈ l', p ∈ l) : News h₀ L h l' := fun p hp => N p (hs p hp)

section
variable {prog : Program} {w : World} {A : Around} {E : Value → Shared → Prop} {env : Env} {h₀ : Heap} {σ : Type}
theorem while_st {test : Expr} {body : List Stmt} {pos : Pos} {Q : Flow → Shared → Prop} {s : Shared} {m₀ : Str → Option Value} {led₀ : List (Addr × Obj)}
    (vars : σ → List (Str × Value)) (led : σ → List (Addr × Obj)) (ok : Nat → σ → Prop) (n : Nat) (x : σ)
    (F : Fr h₀ env.locals s.heap m₀) (N : News h₀ env.locals s.heap led₀) (hb : HasB m₀ (vars x)) (hl : ∀ p ∈ led x, p ∈ led₀) (h : ok n x)
    (turn : ∀ n x h tk m₁, ok n x → Fr h₀ env.locals h (mB (vars x) m₁) → News h₀ env.locals h (led x) →
      wpAny (model prog w) A (isTrue test env (eval test env)) (fun b s₂ =>
        if b then wpAny (model prog w) A (execs body env) (fun f s₃ => match f with
            | .next | .cont => TurnEnd h₀ env.locals s vars led ok n s₃
            | .brk => Q .next s₃
            | .ret v => Q (.ret v) s₃) (fun _ _ => False) s₂
        else Q .next s₂) (fun _ _ => False) { s with heap := h, toks := tk }) :
    wpAny (model prog w) A (exec (.While test body [] pos) env) Q E s := by
  refine wpAny_While (codeAny_whileLoop (fun n s₁ => ∃ x, ok n x ∧ LoopSt h₀ env.locals s (vars x) (led x) s₁) ?_ n ⟨x, h, s.heap, s.toks, m₀, rfl, F, hb, news_of N hl⟩)
  rintro n s₁ ⟨x, hx, h', tk, m', rfl, F', hb', N'⟩
  refine wpAny_mono (turn n x h' tk m' hx (fr_mB F' hb') N') (fun b s₂ p => ?_) fun _ _ e => e.elim
  cases b with
  | false => exact wpAny_execs_nil p
  | true =>
    refine wpAny_mono p (fun f s₃ q => ?_) fun _ _ e => e.elim
    cases f with
    | next => obtain ⟨k, y, a, b, c⟩ := q; exact ⟨k, a, y, b, c⟩
    | cont => obtain ⟨k, y, a, b, c⟩ := q; exact ⟨k, a, y, b, c⟩
    | brk => exact q
    | ret v => exact q
end

section
variable {prog : Program} {w : World} {A : Around} {env : Env} {h₀ : Heap} {σ : Type}
theorem for_code {x : Str} {px : Pos} {it : Value} {body : List Stmt} {R : Result → Shared → Prop} {s : Shared} {m₀ : Str → Option Value} {led₀ : List (Addr × Obj)}
    (vars : σ → List (Str × Value)) (led : σ → List (Addr × Obj)) (ok : Nat → σ → Prop) (n : Nat) (y : σ)
    (F : Fr h₀ env.locals s.heap m₀) (N : News h₀ env.locals s.heap led₀) (hb : HasB m₀ (vars y)) (hl : ∀ p ∈ led y, p ∈ led₀) (h : ok n y)
    (turn : ∀ n y h tk m₁, ok n y → Fr h₀ env.locals h (mB (vars y) m₁) → News h₀ env.locals h (led y) →
      wpAny (model prog w) A (pyNext it) (fun r s₁ => match r with
        | none => R (.ok .next) s₁
        | some v => wpAny (model prog w) A (assign (.Name x px) env v) (fun _ s₂ => wpAny (model prog w) A (execs body env) (fun f s₃ => match f with
            | .next | .cont => TurnEnd h₀ env.locals s vars led ok n s₃
            | .brk => R (.ok .next) s₃
            | .ret v => R (.ok (.ret v)) s₃) (fun _ _ => False) s₂) (fun _ _ => False) s₁) (fun _ _ => False) { s with heap := h, toks := tk }) :
    codeAny (model prog w) A (.forLoop (.Name x px) it body [] env) R s := by
  refine codeAny_forLoop_any (fun n s₁ => ∃ y, ok n y ∧ LoopSt h₀ env.locals s (vars y) (led y) s₁) ?_ n ⟨y, h, s.heap, s.toks, m₀, rfl, F, hb, news_of N hl⟩
  rintro n s₁ ⟨y, hy, h', tk, m', rfl, F', hb', N'⟩
  refine wpAny_mono (turn n y h' tk m' hy (fr_mB F' hb') N') (fun r s₂ p => ?_) fun _ _ e => e.elim
  cases r with
  | none => exact wpAny_execs_nil p
  | some v =>
    refine wpAny_pure ?_
    refine wpAny_mono p (fun _ s₃ p₂ => ?_) fun _ _ e => e.elim
    refine wpAny_mono p₂ (fun f s₃ q => ?_) fun _ _ e => e.elim
    cases f with
    | next => obtain ⟨k, y, a, b, c⟩ := q; exact ⟨k, a, y, b, c⟩
    | cont => obtain ⟨k, y, a, b, c⟩ := q; exact ⟨k, a, y, b, c⟩
    | brk => exact q
    | ret v => exact q
end

/-- a def that changes nothing of its caller's -/
noncomputable def CtrR (prog : Program) (w : World) (K : Frag) (p : Program) (D U : Nat) (f : Addr) (vs : List Value) (led : List (Addr × Obj)) (Post : Value → List (Addr × Obj) → Prop) : Prop :=
  ∀ (loose : List Str) (mean : ExcName → Option Value) (mg mb : Str → Option Value) (rest : List (Addr × Obj)) (dp un : Nat) (gd : Option (List Code)) (cn : Str) (cs : Scope) (a : Addr) (ccd : Value) (cl : List (Str × Addr)) (outer : List Env) (A₀ : Around) (base h₀ : Heap) (L : Addr) (m : Str → Option Value) (s : Shared) (R : Result → Shared → Prop),
    (∀ q ∈ led, q ∈ rest) → Below A₀ base outer h₀ → Fr h₀ L s.heap m → K.In h₀ → News h₀ L s.heap rest → Top p loose mean mg mb h₀ → cs.kind = .function → dp + D < recursionLimit → un + U < cLine →
    (∀ v tl h' tk', Post v tl → (∀ q ∈ rest, ∀ p ∈ tl, q.1 < p.1) → Fr h₀ L h' m → News h₀ L h' (tl ++ rest) → R (.ok (.ret v)) { s with heap := h', toks := tk' }) →
    codeAny (model prog w) (ktrTop dp un gd cn cs L a ccd cl outer) (.call (.ref f) ⟨vs, []⟩) R s

/-- a def that changes the objects led of its caller's ledger, and no other -/
noncomputable def Ctr (Pre : Heap → Prop) (prog : Program) (w : World) (K : Frag) (p : Program) (D U : Nat) (f : Addr) (vs : List Value) (led : List (Addr × Obj)) (Post : Value → List (Addr × Obj) → List (Addr × Obj) → Prop) : Prop :=
  ∀ (loose : List Str) (mean : ExcName → Option Value) (mg mb : Str → Option Value) (rest : List (Addr × Obj)) (dp un : Nat) (gd : Option (List Code)) (cn : Str) (cs : Scope) (a : Addr) (ccd : Value) (cl : List (Str × Addr)) (outer : List Env) (A₀ : Around) (base h₀ : Heap) (L : Addr) (m : Str → Option Value) (s : Shared) (R : Result → Shared → Prop),
    Pre h₀ → (∀ p ∈ led, ∀ q ∈ rest, q.1 ≠ p.1) → Below A₀ base outer h₀ → Fr h₀ L s.heap m → K.In h₀ → News h₀ L s.heap (led ++ rest) → Top p loose mean mg mb h₀ → cs.kind = .function → dp + D < recursionLimit → un + U < cLine →
    (∀ v led' tl h' tk', Post v led' tl → (∀ q ∈ led ++ rest, ∀ p ∈ tl, q.1 < p.1) → Fr h₀ L h' m → News h₀ L h' (tl ++ (led' ++ rest)) → R (.ok (.ret v)) { s with heap := h', toks := tk' }) →
    codeAny (model prog w) (ktrTop dp un gd cn cs L a ccd cl outer) (.call (.ref f) ⟨vs, []⟩) R s

section
variable {prog : Program} {w : World} {K : Frag} {p : Program} {D U : Nat} {f : Addr} {vs : List Value} {led : List (Addr × Obj)}
  {loose : List Str} {mean : ExcName → Option Value} {mg mb : Str → Option Value} {rest all : List (Addr × Obj)} {dp un : Nat} {gd : Option (List Code)} {cn : Str} {cs : Scope} {a : Addr} {ccd : Value} {cl : List (Str × Addr)} {outer : List Env} {A₀ : Around} {base h₀ : Heap} {L : Addr} {m : Str → Option Value} {s : Shared} {Q E : Value → Shared → Prop} {R : Result → Shared → Prop}
theorem CtrR.code {Post : Value → List (Addr × Obj) → Prop} (C : CtrR prog w K p D U f vs led Post) (hl : ∀ q ∈ led, q ∈ rest) (B : Below A₀ base outer h₀) (F : Fr h₀ L s.heap m) (X : K.In h₀) (N : News h₀ L s.heap rest) (T : Top p loose mean mg mb h₀) (hk : cs.kind = .function)
    (hd : dp + D < recursionLimit) (hu : un + U < cLine) (ret : ∀ v tl h' tk', Post v tl → (∀ q ∈ rest, ∀ p ∈ tl, q.1 < p.1) → Fr h₀ L h' m → News h₀ L h' (tl ++ rest) → R (.ok (.ret v)) { s with heap := h', toks := tk' }) :
    codeAny (model prog w) (ktrTop dp un gd cn cs L a ccd cl outer) (.call (.ref f) ⟨vs, []⟩) R s := C loose mean mg mb rest dp un gd cn cs a ccd cl outer A₀ base h₀ L m s R hl B F X N T hk hd hu ret
theorem CtrR.use {Post : Value → List (Addr × Obj) → Prop} (C : CtrR prog w K p D U f vs led Post) (hl : ∀ q ∈ led, q ∈ rest) (B : Below A₀ base outer h₀) (F : Fr h₀ L s.heap m) (X : K.In h₀) (N : News h₀ L s.heap rest) (T : Top p loose mean mg mb h₀) (hk : cs.kind = .function)
    (hd : dp + D < recursionLimit) (hu : un + U < cLine) (ret : ∀ v tl h' tk', Post v tl → (∀ q ∈ rest, ∀ p ∈ tl, q.1 < p.1) → Fr h₀ L h' m → News h₀ L h' (tl ++ rest) → Q v { s with heap := h', toks := tk' }) :
    wpAny (model prog w) (ktrTop dp un gd cn cs L a ccd cl outer) (call (.ref f) vs) Q E s := wpAny_call (C.code hl B F X N T hk hd hu ret)
end

/-- an entry taken out of a ledger -/
inductive Take (p : Addr × Obj) : List (Addr × Obj) → List (Addr × Obj) → Prop
  | head {l} : Take p (p :: l) l
  | tail {q l l'} : Take p l l' → Take p (q :: l) (q :: l')
inductive Pick : List (Addr × Obj) → List (Addr × Obj) → List (Addr × Obj) → Prop
  | nil {l} : Pick l [] l
  | cons {p l l' led rest} : Take p l l' → Pick l' led rest → Pick l (p :: led) rest
theorem Take.sub {p : Addr × Obj} {l l' : List (Addr × Obj)} (h : Take p l l') : p ∈ l ∧ ∀ q ∈ l', q ∈ l := by
  induction h with
  | head => exact ⟨.head _, fun q hq => .tail _ hq⟩
  | tail _ ih => exact ⟨.tail _ ih.1, fun q hq => by
      rcases List.mem_cons.mp hq with rfl | hq
      · exact .head _
      · exact .tail _ (ih.2 q hq)⟩
theorem Pick.sub {l led rest : List (Addr × Obj)} (h : Pick l led rest) : ∀ q ∈ led ++ rest, q ∈ l := by
  induction h with
  | nil => exact fun q hq => hq
  | cons t _ ih =>
    intro q hq
    rcases List.mem_cons.mp hq with rfl | hq
    · exact t.sub.1
    · exact t.sub.2 q (ih q hq)

section
variable {prog : Program} {w : World} {K : Frag} {p : Program} {D U : Nat} {f : Addr} {vs : List Value} {led : List (Addr × Obj)}
  {loose : List Str} {mean : ExcName → Option Value} {mg mb : Str → Option Value} {rest all : List (Addr × Obj)} {dp un : Nat} {gd : Option (List Code)} {cn : Str} {cs : Scope} {a : Addr} {ccd : Value} {cl : List (Str × Addr)} {outer : List Env} {A₀ : Around} {base h₀ : Heap} {L : Addr} {m : Str → Option Value} {s : Shared} {Q E : Value → Shared → Prop} {R : Result → Shared → Prop}
theorem Ctr.code {Pre : Heap → Prop} {Post : Value → List (Addr × Obj) → List (Addr × Obj) → Prop} (C : Ctr Pre prog w K p D U f vs led Post) (pre : Pre h₀) (hp : Pick all led rest) (off : ∀ p ∈ led, ∀ q ∈ rest, q.1 ≠ p.1) (B : Below A₀ base outer h₀) (F : Fr h₀ L s.heap m) (X : K.In h₀) (N : News h₀ L s.heap all) (T : Top p loose mean mg mb h₀) (hk : cs.kind = .function)
    (hd : dp + D < recursionLimit) (hu : un + U < cLine) (ret : ∀ v led' tl h' tk', Post v led' tl → (∀ q ∈ led ++ rest, ∀ p ∈ tl, q.1 < p.1) → Fr h₀ L h' m → News h₀ L h' (tl ++ (led' ++ rest)) → R (.ok (.ret v)) { s with heap := h', toks := tk' }) :
    codeAny (model prog w) (ktrTop dp un gd cn cs L a ccd cl outer) (.call (.ref f) ⟨vs, []⟩) R s := C loose mean mg mb rest dp un gd cn cs a ccd cl outer A₀ base h₀ L m s R pre off B F X (news_of N hp.sub) T hk hd hu ret
theorem Ctr.use {Pre : Heap → Prop} {Post : Value → List (Addr × Obj) → List (Addr × Obj) → Prop} (C : Ctr Pre prog w K p D U f vs led Post) (pre : Pre h₀) (hp : Pick all led rest) (off : ∀ p ∈ led, ∀ q ∈ rest, q.1 ≠ p.1) (B : Below A₀ base outer h₀) (F : Fr h₀ L s.heap m) (X : K.In h₀) (N : News h₀ L s.heap all) (T : Top p loose mean mg mb h₀) (hk : cs.kind = .function)
    (hd : dp + D < recursionLimit) (hu : un + U < cLine) (ret : ∀ v led' tl h' tk', Post v led' tl → (∀ q ∈ led ++ rest, ∀ p ∈ tl, q.1 < p.1) → Fr h₀ L h' m → News h₀ L h' (tl ++ (led' ++ rest)) → Q v { s with heap := h', toks := tk' }) :
    wpAny (model prog w) (ktrTop dp un gd cn cs L a ccd cl outer) (call (.ref f) vs) Q E s := wpAny_call (C.code pre hp off B F X N T hk hd hu ret)
end

theorem pick_app {rest : List (Addr × Obj)} : ∀ {led : List (Addr × Obj)}, Pick (led ++ rest) led rest
  | [] => .nil
  | _ :: _ => .cons .head pick_app
theorem allLt_ne {d : Nat} : ∀ {l : List (Addr × Obj)}, AllLt d l → ∀ p ∈ l, p.1 ≠ d
  | [], _, _, hp => nomatch hp
  | q :: r, h, p, hp => by
    rcases List.mem_cons.mp hp with rfl | hp
    · exact Nat.ne_of_lt h.1
    · exact allLt_ne h.2 p hp
theorem allLt_lt {d : Nat} : ∀ {l : List (Addr × Obj)}, AllLt d l → ∀ p ∈ l, p.1 < d
  | [], _, _, hp => nomatch hp
  | q :: r, h, p, hp => by
    rcases List.mem_cons.mp hp with rfl | hp
    · exact h.1
    · exact allLt_lt h.2 p hp
theorem allLt_app {d : Nat} : ∀ {l r : List (Addr × Obj)}, AllLt d l → AllLt d r → AllLt d (l ++ r)
  | [], _, _, h => h
  | _ :: _, _, h, h' => ⟨h.1, allLt_app h.2 h'⟩
theorem raw_ne {d d' : Nat} {l : List (Addr × Obj)} (h : ∀ p ∈ l, p.1 < d) (hd : d ≤ d') : ∀ p ∈ l, p.1 ≠ d' := fun p hp e => by
  have h1 : p.1 < d := h p hp
  have h2 : p.1 = d' := e
  exact absurd h1 (by rw [h2]; exact Nat.not_lt.mpr hd)
theorem allLt_ne' {d d' : Nat} {l : List (Addr × Obj)} (h : AllLt d l) (hd : d ≤ d') : ∀ p ∈ l, p.1 ≠ d' := raw_ne (allLt_lt h) hd

theorem news_drop2 {h₀ h : Heap} {L : Addr} {led rest : List (Addr × Obj)} {a b : Addr × Obj} (N : News h₀ L h (led ++ a :: b :: rest)) : News h₀ L h (led ++ rest) :=
  news_of N fun p hp => by
    rcases List.mem_append.mp hp with hp | hp
    · exact List.mem_append_left _ hp
    · exact List.mem_append_right _ (.tail _ (.tail _ hp))
theorem sub_refl {r : List (Addr × Obj)} : ∀ p ∈ r, p ∈ r := fun _ h => h
theorem sub_tail {r l : List (Addr × Obj)} {e : Addr × Obj} (h : ∀ p ∈ r, p ∈ l) : ∀ p ∈ r, p ∈ e :: l := fun p hp => .tail _ (h p hp)
theorem adr_of_sub {r l : List (Addr × Obj)} (h : ∀ p ∈ r, p ∈ l) : ∀ p ∈ r, ∃ o, (p.1, o) ∈ l := fun p hp => ⟨p.2, h p hp⟩
theorem lt_up {d j k a : Nat} (h : d + k < a) (e : j ≤ k) : d + j < a := Nat.lt_of_le_of_lt (Nat.add_le_add_left e d) h
theorem le_up {d j k : Nat} (h : d ≤ k) (e : k ≤ j) : d ≤ j := Nat.le_trans h e
theorem room0 {d k N : Nat} (h : d + k < N) : d < N := Nat.lt_of_le_of_lt (Nat.le_add_right d k) h
theorem room1 {d a k N : Nat} (h : d + k < N) (e : a ≤ k) : d + a < N := Nat.lt_of_le_of_lt (Nat.add_le_add_left e d) h
theorem room2 {d a b k N : Nat} (h : d + k < N) (e : a + b ≤ k) : d + a + b < N := Nat.add_assoc d a b ▸ room1 h e
theorem room3 {d a b c k N : Nat} (h : d + k < N) (e : a + b + c ≤ k) : d + a + b + c < N := by
  rw [Nat.add_assoc d a b]; exact room2 h e
theorem lt_cons {a : Nat} {o : Obj} {l : List (Addr × Obj)} {x : Nat} (h : a < x) (t : ∀ p ∈ l, (show Nat from p.1) < x) : ∀ p ∈ ((a, o) : Addr × Obj) :: l, (show Nat from p.1) < x := List.forall_mem_cons.mpr ⟨h, t⟩
theorem mem_cons_all {a : Addr × Obj} {l L : List (Addr × Obj)} (h : a ∈ L) (t : ∀ p ∈ l, p ∈ L) : ∀ p ∈ a :: l, p ∈ L := List.forall_mem_cons.mpr ⟨h, t⟩
theorem adr_cons {a : Addr} {o o' : Obj} {l L : List (Addr × Obj)} (h : (a, o') ∈ L) (t : ∀ p ∈ l, ∃ o, (p.1, o) ∈ L) : ∀ p ∈ (a, o) :: l, ∃ o, (p.1, o) ∈ L := List.forall_mem_cons.mpr ⟨⟨o', h⟩, t⟩

end Mine
namespace Mine
section
open Builtin.Generator
variable {prog : Program} {w : World} {A : Around} {E : Value → Shared → Prop} {s : Shared}
/-- how a generator's body that raises leaves: an exception of a built-in class that is no StopIteration -/
noncomputable def GenLeftBy (a : Addr) (g : Nat) (E : Value → Shared → Prop) (x : Value) (s₂ : Shared) : Prop :=
  ∃ e oe T, x = .ref e ∧ s₂.heap.get? e = some oe ∧ oe.cls = .type T ∧ isSubtype (.type T) (.type "StopIteration") = pure false ∧ s₂.heap.IsGen a g ∧ E x (s₂.setGen g .finished)

theorem wpAny_genLeft {a : Addr} {g : Nat} {α : Type} {x : Value} {Q : α → Shared → Prop} (h : GenLeftBy a g E x s) : wpAny (model prog w) A (genLeft (.ref a) x : Sem α) Q E (s.setGen g .finished) := by
  obtain ⟨e, oe, T, rfl, he, hc, hs, ⟨o, nm, qn, ho, hoc, hod, hos⟩, hE⟩ := h
  have hT : (s.setGen g .finished).TypeIs (.ref e) T := ⟨oe, he, hc⟩
  unfold genLeft
  refine wpAny_bind (m := madeByALambda _) ?_
  unfold madeByALambda
  refine wpAny_bind (wpAny_load ho ?_)
  refine wpAny_pure ?_
  refine wpAny_bind (wpAny_isInstance hT hs ?_)
  rw [Bool.and_false, if_neg Bool.false_ne_true]
  unfold genEscaped
  refine wpAny_bind (wpAny_isInstance hT hs ?_)
  exact wpAny_throw hE

/-- a fresh generator whose body raises before its first yield -/
theorem pyNext_raises {a : Addr} {g : Nat} {env : Env} {body : List Stmt} {Q : Option Value → Shared → Prop}
    (hl : s.heap.NoLimit) (hroom : A.depth < recursionLimit) (hg : s.heap.IsGen a g) (hgs : s.gens[g]? = some (.fresh (.func body env)))
    (h : wpAny (model prog w) (A.in1.over (.func body env) []) (execs body env) (fun _ _ => False)
      (fun x s₁ => wpAny (model prog w) (A.in1.over (.func body env) []) (leaving env x) (fun _ s₂ => GenLeftBy a g E x s₂) (fun _ _ => False) s₁) (s.setGen g .running)) :
    wpAny (model prog w) A (pyNext (.ref a)) Q E s := by
  unfold pyNext
  refine wpAny_bind (wpAny_attempt (wpAny_callSpecial?_slot (name := Str.ofString "__next__") hg.typeIs slot_gen_next
    (wpAny_call_entry slot_gen_next hg.typeIs entry_gen_next ?_ (args_gen_next _))))
  show wpAny _ _ (Builtin.Generator.genWake (.ref a) (.send .none)) _ _ s
  unfold Builtin.Generator.genWake
  refine wpAny_bind (wpAny_holding (wpAny_genNumber hg (wpAny_bind (wpAny_genState hgs ?_))))
  refine wpAny_bind (wpAny_roomToWake hl hroom ?_)
  show wpAny _ _ (.resume g (.send .none) [] _) _ _ s
  refine wpAny_resume (n := 0) (R := fun _ _ r s₁ => ∃ x, r = .error x ∧ GenLeftBy a g E x s₁) (Y := fun _ _ _ _ _ => False) hgs ?_ (fun x s₁ hx => ?_) (fun v s₁ gs' hv => hv.elim)
  · refine ⟨rfl, seg_func (seg_wrap (wpAny_mono h (fun _ _ f => f.elim) fun x s₁ hx => ?_))⟩
    exact seg_wrap (wpAny_mono hx (fun _ s₂ q => seg_end (.error x) ⟨x, rfl, q⟩) fun _ _ f => f.elim)
  · obtain ⟨x, rfl, hx⟩ := hx
    show wpAny _ _ (genLeft (.ref a) x) _ _ _
    have hx' := hx
    obtain ⟨e, oe, T, rfl, he, hc, hs, hg', hE⟩ := hx
    refine wpAny_genLeft (E := fun e s' => wpAny (model prog w) A _ Q E s') ⟨e, oe, T, rfl, he, hc, hs, hg', ?_⟩
    dsimp only
    refine wpAny_bind (wpAny_isInstance (T := T) (b := false) ⟨oe, he, hc⟩ hs ?_)
    rw [if_neg Bool.false_ne_true]
    exact wpAny_throw hE

/-- a loop whose first step raises -/
theorem for_raises {target : Expr} {it : Value} {body orelse : List Stmt} {env : Env} {R : Result → Shared → Prop}
    (h : wpAny (model prog w) A (pyNext it) (fun _ _ => False) (notedBy (model prog w) A env fun e s' => R (.error e) s') s) :
    codeAny (model prog w) A (.forLoop target it body orelse env) R s :=
  codeAny_forLoop_any (fun _ s' => s' = s) (fun n s' e => by subst e; exact wpAny_mono h (fun _ _ f => f.elim) fun _ _ q => q) 0 rfl
end

end Mine
namespace Mine
section
open Heap
variable {M : Model} {A : Around} {E : Value → Shared → Prop} {s : Shared}
/-- a frame looks at an exception that was just made -/
theorem note_made {base h : Heap} {env : Env} {outer : List Env} {L e : Addr} {cls : Value} {args : List Value} {Q : Unit → Shared → Prop}
    (hfr : A.frames = some (env :: outer)) (hf : env.frame = some L) (hkb : base.StaysIn h) (hl : h.FunFrames base (env :: outer)) (hx : Heap.MadeExcOf h s.heap e cls args)
    (hQ : ∀ h' t, Heap.HeldW base (env :: outer) e cls (.ref t) L h' → h'.TupAt t args → base.get? t = none → s.heap.UpToSlots h' → Q () { s with heap := h' }) :
    wpAny M A (noteFrame (.ref e) env) Q E s := by
  obtain ⟨t, he, htn, ht⟩ := hx.there
  have none' : ∀ b, h.get? b = none → base.get? b = none := fun b => fresh_of_stays hkb
  unfold noteFrame
  simp only [hf]
  refine wpAny_bind (wpAny_field he rfl (show (#[Value.ref t, .none, .none, .none, .bool false, .none] : Array Value)[1]? = some Value.none from rfl) ?_)
  rw [if_neg (show ¬ ((Value.none != Value.none) = true) from by decide)]
  refine wpAny_entryW (a0 := .ref t) hfr (hl.of_keeps fun b o hb _ => ⟨o, hx.keeps b o hb, rfl⟩) hf he (fun b o hb => hx.keeps b o (hkb b o hb)) (none' e hx.new) rfl (show 1 < 6 by decide) rfl fun h' hN => ?_
  obtain ⟨k1, k2, k3, k4⟩ := hN
  exact hQ h' t ⟨k1, none' e hx.new, k2, k3⟩ (Heap.TupAt.of_slots ⟨_, _, ht, rfl, rfl⟩ k4) (none' t htn) k4

/-- a held exception comes back from a statement of the frame that holds it -/
theorem came_held {base : Heap} {env : Env} {l : List Env} {L e : Addr} {cls a0 : Value} (hf : env.frame = some L) (hh : Heap.HeldW base l e cls a0 L s.heap)
    (hQ : ∀ h', Heap.HeldW base l e cls a0 L h' → s.heap.UpToSlots h' → E (.ref e) { s with heap := h' }) : cameBackBy M A env E (.ref e) s := by
  obtain ⟨hkb, hen, hl, oe, vs, T, oT, ts, he, hcls, hd, h1, hnT, hTe, hT, hdT, h3⟩ := hh
  have hsz3 : 3 < ts.size := (Array.getElem?_eq_some_iff.mp h3).1
  have other : ∀ b, b ≠ T → (s.heap.update T (Obj.mapFields (·.setIfInBounds 3 (rawInt L)))).get? b = s.heap.get? b := fun b hb => Heap.get?_update_other _ _ (Ne.symm hb)
  have noRec : ∀ b o, s.heap.get? b = some o → (∀ vs, o.data ≠ .fields vs) → b ≠ T := fun b o hb hnf q => by
    rw [q, hT] at hb; injection hb with hb; subst hb; exact hnf ts hdT
  unfold cameBackBy
  refine wpAny_bind (wpAny_field he hd h1 ?_)
  rw [if_neg (show ¬ ((Value.ref T == Value.none) = true) from by simp)]
  unfold setFlight
  refine wpAny_bind (wpAny_field he hd h1 ?_)
  rw [if_pos (show (Value.ref T != Value.none) = true from by simp), hf]
  refine wpAny_setField hT hdT hsz3 (hQ _ ⟨fun b o hbo => (other b fun q => by rw [q, hnT] at hbo; cases hbo).trans (hkb b o hbo), hen,
    hl.of_keeps fun b o hb hnf => ⟨o, (other b (noRec b o hb hnf)).trans hb, rfl⟩, ?_⟩ fun b o hb hnf => ⟨o.slots, (other b (noRec b o hb hnf)).trans hb⟩)
  exact ⟨oe, vs, T, _, _, (other e (Ne.symm hTe)).trans he, hcls, hd, h1, hnT, hTe, Heap.get?_update_self _ hT (Obj.isFreed_of_fields (Obj.data_mapFields hdT _)), Obj.data_mapFields hdT _, by simp [hsz3]⟩
end

end Mine
namespace Mine
section
open Sem (wp)
variable {M : Model} {A : Around} {R : GenEnd} {Y : Protocol} {n : Nat} {s₀ : Shared} {c : Code} {fs : List Frame} {s : Shared} {env : Env}
  {K : Flow → Sem Fin} {H : Value → Sem Fin} {gd : Bool → Bool} {lv : List Value → List Value}
/-- what waits behind a statement's own activation (a loop) -/
noncomputable def ownK (env : Env) (K : Flow → Sem Fin) (H : Value → Sem Fin) (gd : Bool → Bool) (lv : List Value → List Value) (r : Result) : Sem Fin :=
  ((match r with | .ok f => (.pure f : Sem Flow) | .error e => .raise e).onRaise fun (x : Value) => do
        if (← field x 1) == Value.none then unsupported "frame.own-activation:exception-without-traceback"
        setFlight x env.frame).wrap K H gd lv
theorem ownK_ok {f : Flow} : ownK env K H gd lv (.ok f) = K f := rfl
/-- a statement of a generator's body that yields nothing -/
theorem seg_stmt {st : Stmt} (h : wpAny M (A.over c fs) (exec st env) (fun f s' => Seg M A R Y n s₀ c (K f) fs s') (fun _ _ => False) s) :
    Seg M A R Y n s₀ c ((exec st env).wrap K H gd lv) fs s := seg_wrap (wpAny_mono h (fun _ _ x => x) fun _ _ x => x.elim)
theorem seg_If {test : Expr} {body orelse : List Stmt} {pos : Pos}
    (h : wpAny M (A.over c fs) (isTrue test env (eval test env)) (fun b s' => if b = true then Seg M A R Y n s₀ c ((execs body env).wrap K H gd lv) fs s' else Seg M A R Y n s₀ c ((execs orelse env).wrap K H gd lv) fs s') (fun _ _ => False) s) :
    Seg M A R Y n s₀ c ((exec (.If test body orelse pos) env).wrap K H gd lv) fs s := by
  rw [exec_If]
  refine seg_bind_wrap (wpAny_standAt ?_)
  refine seg_bind_wrap (wpAny_mono h (fun b s' hb => ?_) fun _ _ x => x.elim)
  cases b <;> exact hb
theorem seg_For {target iter : Expr} {body orelse : List Stmt} {pos : Pos}
    (h : wpAny M (A.over c fs) (eval iter env) (fun x s₁ => wpAny M (A.over c fs) (pyIter x) (fun it s₂ => ∀ p, Seg M A R Y n s₀ (.forLoop target it body orelse env) (M.den (.forLoop target it body orelse env))
      (.ret (ownK env K H gd lv) none (gd false) (lv []) c p [] :: fs) s₂) (fun _ _ => False) s₁) (fun _ _ => False) s)
    (hs : ∀ x, foldedSetIterable iter env x = pure x := by intro _; rfl) :
    Seg M A R Y n s₀ c ((exec (.For target iter body orelse pos) env).wrap K H gd lv) fs s := by
  rw [exec_For]
  refine seg_bind_wrap (wpAny_standAt ?_)
  refine seg_bind_wrap (wpAny_mono h (fun x s₁ h₁ => ?_) fun _ _ x => x.elim)
  refine seg_bind_wrap (wpAny_of_eq (hs x) ?_)
  refine seg_bind_wrap (wpAny_standAt ?_)
  refine seg_bind_wrap (wpAny_holding (wpAny_mono h₁ (fun it s₂ h₂ => ?_) fun _ _ x => x.elim))
  exact seg_call h₂
end
section
variable {prog : Program} {w : World} {A : Around} {R : GenEnd} {Y : Protocol} {n : Nat} {s₀ : Shared} {fs : List Frame} {s : Shared} {env : Env}
/-- how a loop's body leaves by an exception -/
noncomputable def loopH (env : Env) (e : Value) : Sem Fin := (do noteFrame e env; theTreesLotGoes e : Sem Unit).wrap (fun _ => .raise e) .raise id id
noncomputable def loopK (c : Code) : Flow → Sem Fin
  | .next | .cont => .pure (.again c)
  | .brk => .pure (.done .next)
  | .ret v => .pure (.done (.ret v))
theorem seg_forLoop {x : Str} {px : Pos} {it : Value} {body : List Stmt}
    (h : wpAny (model prog w) (A.over (.forLoop (.Name x px) it body [] env) fs) (pyNext it) (fun r s₁ => match r with
      | none => Seg (model prog w) A R Y n s₀ (.block [] env) (leafOf (.ok .next)) fs s₁
      | some v => wpAny (model prog w) (A.over (.forLoop (.Name x px) it body [] env) fs) (assign (.Name x px) env v) (fun _ s₂ =>
          Seg (model prog w) A R Y n s₀ (.forLoop (.Name x px) it body [] env) ((execs body env).wrap (loopK (.forLoop (.Name x px) it body [] env)) (loopH env) id id) fs s₂) (fun _ _ => False) s₁) (fun _ _ => False) s) :
    Seg (model prog w) A R Y n s₀ (.forLoop (.Name x px) it body [] env) ((model prog w).den (.forLoop (.Name x px) it body [] env)) fs s := by
  show Seg _ A R Y n s₀ _ ((forTurn (.Name x px) it body [] env).onRaise (fun x => do noteFrame x env; theTreesLotGoes x)) fs s
  unfold forTurn
  rw [Sem.onRaise_eq_wrap]
  refine seg_bind_wrap (wpAny_standAt ?_)
  refine seg_bind_wrap (wpAny_onRaise (wpAny_mono h (fun r s₁ h₁ => ?_) fun _ _ f => f.elim))
  cases r with
  | none => exact seg_again rfl h₁
  | some v =>
    refine seg_bind_wrap (wpAny_of_eq (rfl : letOwnedTupleGo (.Name x px) it v = pure ()) ?_)
    refine seg_bind_wrap (wpAny_mono h₁ (fun _ s₂ h₂ => ?_) fun _ _ f => f.elim)
    rw [Sem.bind_eq_wrap', Sem.wrap_wrap]
    rw [Sem.wrap_congr (execs body env) _ _ (K' := loopK (.forLoop (.Name x px) it body [] env)) (H' := loopH env)
      (fun f => by cases f <;> rfl)
      (fun e => by first | exact Sem.bind_eq_wrap _ _ | (show (do noteFrame e env; theTreesLotGoes e : Sem Unit).bind (fun _ => .raise e) = _; rw [Sem.bind_eq_wrap]; rfl))]
    exact h₂
end

end Mine
namespace Mine
section
variable {prog : Program} {w : World} {A : Around} {E : Value → Shared → Prop} {s : Shared}
/-- a generator function's next step: a value, and what is left of it; or its end -/
theorem pyNext_woken {a : Addr} {g n : Nat} {gs : GenState} {P : Nat → Shared → Shared → Prop} {Y : Protocol} {Q : Option Value → Shared → Prop} (hh : A.handled = none)
    (hl : s.heap.NoLimit) (hroom : A.depth < recursionLimit) (hg : s.heap.IsGen a g) (hgs : s.gens[g]? = some gs)
    (hgo : gs.Goes (model prog w) A.in1 (fun n s₀ r s₁ => r = .ok (.ret .none) ∧ P n s₀ s₁) Y n (.send .none) (s.setGen g .running))
    (hY : ∀ v s₁ gs', gs'.bare = true → Y (n - 1) (s.setGen g .running) v s₁ (fun r' s'' => match n with
        | 0 => False
        | m + 1 => gs'.Goes (model prog w) A.in1 (fun n s₀ r s₁ => r = .ok (.ret .none) ∧ P n s₀ s₁) Y m r' s'') → Q (some v) (s₁.setGen g gs'))
    (hP : ∀ s₁, P n (s.setGen g .running) s₁ → ∀ h', (∀ b o, s₁.heap.get? b = some o → h'.get? b = some o) → Q none { s₁.setGen g .finished with heap := h' }) :
    wpAny (model prog w) A (pyNext (.ref a)) Q E s := by
  have live : gs.status = .fresh ∨ gs.status = .suspended := by
    cases gs with
    | fresh _ => exact .inl rfl
    | suspended _ _ _ _ _ _ => exact .inr rfl
    | running => exact hgo.elim
    | finished => exact hgo.elim
  unfold pyNext
  refine wpAny_bind (wpAny_attempt (wpAny_callSpecial?_slot (name := Str.ofString "__next__") hg.typeIs slot_gen_next
    (wpAny_call_entry slot_gen_next hg.typeIs entry_gen_next ?_ (args_gen_next _))))
  show wpAny _ _ (Builtin.Generator.genWake (.ref a) (.send .none)) _ _ s
  unfold Builtin.Generator.genWake
  refine wpAny_bind (wpAny_holding (wpAny_genNumber hg (wpAny_bind (wpAny_genState hgs ?_))))
  rcases live with e | e
  all_goals
    rw [e]
    refine wpAny_bind (wpAny_roomToWake hl hroom ?_)
    show wpAny _ _ (.resume g (.send .none) [] _) _ _ s
    refine wpAny_resumeQ hgs hgo (fun x s₁ hx => ?_) (fun v s₁ gs' hb hv => wpAny_pure ⟨v, rfl, wpAny_pure (hY v s₁ gs' hb hv)⟩)
    obtain ⟨rfl, hp⟩ := hx
    show wpAny _ _ (newExc (.type "StopIteration") [] >>= _) _ _ _
    refine wpAny_bind ?_
    simp only [newExc, newTuple]
    refine wpAny_bind (wpAny_newObj_type ?_ (by size_fits))
    refine wpAny_bind (m := firstArgMember _ _) (wpAny_of_eq (a := Value.none) (by first | rfl | (simp only [firstArgMember]; rfl)) ?_)
    refine wpAny_newObj_type ?_ (by size_fits)
    simp only [raiseNew]
    refine wpAny_bind (wpAny_bind (wpAny_handled ?_))
    rw [show A.in1.handled = none from hh]
    refine wpAny_throw ?_
    refine wpAny_bind (wpAny_isInstance (T := "StopIteration") (b := true) ⟨_, Heap.get?_push_size _ rfl, rfl⟩ isSubtype_stop ?_)
    exact wpAny_pure (hP s₁ hp _ fun b o hb => Heap.get?_push_of_some _ (Heap.get?_push_of_some _ hb))
end
/-- a heap's first n places -/
noncomputable def cutH (h : Heap) (n : Nat) : Heap := { h with objs := h.objs.extract 0 n }
theorem cutH_get {h : Heap} {n b : Nat} (hb : b < n) : (cutH h n).get? b = h.get? b := by
  unfold Heap.get? cutH
  rw [show (h.objs.extract 0 n)[b]? = h.objs[b]? by rw [Array.getElem?_extract]; simp [hb]; intro q; (have q' : min n h.objs.size ≤ b := q); omega]
theorem cutH_size {h : Heap} {n : Nat} : (cutH h n).objs.size ≤ n := by
  simp only [cutH, Array.size_extract]; omega
theorem cutH_of {h : Heap} {n b : Nat} {o : Obj} (e : (cutH h n).get? b = some o) : b < n ∧ h.get? b = some o :=
  have hb : b < n := Nat.lt_of_lt_of_le (Heap.lt_size e) cutH_size
  ⟨hb, (cutH_get hb).symm.trans e⟩
theorem cutH_none {h : Heap} {n b : Nat} (hb : n ≤ b) : (cutH h n).get? b = none := Heap.get?_none_of_le (Nat.le_trans cutH_size hb)
theorem cutH_keeps {g h : Heap} {n : Nat} (hs : g.objs.size ≤ n) (k : ∀ b o, g.get? b = some o → h.get? b = some o) : ∀ b o, g.get? b = some o → (cutH h n).get? b = some o :=
  fun b o e => (cutH_get (Nat.lt_of_lt_of_le (Heap.lt_size e) hs)).trans (k b o e)

/-- what a generator that tells ints keeps to: its frame and its iterator alone change, and woken so it goes on -/
noncomputable def GY (g1 : Heap) (L2 l G : Addr) (lo oG : Obj) (out : List Int) (fin : Bool) : Protocol := fun m s₀ v s kap =>
  ∃ val tv h' tk' I oL oI, out[out.length - 1 - m]? = some val ∧ v = .int val tv ∧ s = { s₀ with heap := h', toks := tk' } ∧ (∀ b o, b < L2 → s₀.heap.get? b = some o → h'.get? b = some o) ∧
    h'.get? G = some oG ∧ h'.get? L2 = some oL ∧ h'.get? I = some oI ∧ G < I ∧
    (m ≠ 0 ∨ fin = true → ∀ s'' : Shared, g1.StaysIn s''.heap → s''.heap.get? l = some lo → s''.heap.get? G = some oG → s''.heap.get? L2 = some oL → s''.heap.get? I = some oI → kap (.send .none) s'')
noncomputable def GP (L2 G : Addr) (oG : Obj) (fin : Bool) (n : Nat) (s₀ s : Shared) : Prop :=
  n = 0 ∧ fin = true ∧ ∃ h' tk', s = { s₀ with heap := h', toks := tk' } ∧ (∀ b o, b < L2 → s₀.heap.get? b = some o → h'.get? b = some o) ∧ h'.get? G = some oG
/-- a generator that is to tell the ints of out, from here on n of them -/
noncomputable def GGo (prog : Program) (w : World) (A : Around) (g1 : Heap) (L2 l G : Addr) (lo oG : Obj) (out : List Int) (fin : Bool) (gs : GenState) (n : Nat) (s : Shared) : Prop :=
  gs.Goes (model prog w) A (fun n s₀ r s₁ => r = .ok (.ret .none) ∧ GP L2 G oG fin n s₀ s₁) (GY g1 L2 l G lo oG out fin) n (.send .none) s
section
open PySem.W
theorem over_for {dp un : Nat} {gd : Option (List Code)} {n : Str} {sc : Scope} {L1 fa : Addr} {cd it : Value} {outer : List Env} {body : List Stmt} {t : Expr} {b : List Stmt} {env : Env} {k : Result → Sem PySem.Fin} {p : Pos} {kp : List Value} :
  (ktrTop dp un gd n sc L1 fa cd [] outer).over (.forLoop t it b [] env) [.ret k none (id false) (id []) (.func body env) p kp] = (ktrTop dp un gd n sc L1 fa cd [] outer).deeper env := by
  cases gd <;> rfl
theorem over_while {dp un : Nat} {gd : Option (List Code)} {n : Str} {sc : Scope} {L1 fa : Addr} {cd it : Value} {outer : List Env} {body b2 : List Stmt} {t t2 : Expr} {b : List Stmt} {env : Env} {k k2 : Result → Sem PySem.Fin} {p p2 : Pos} {kp kp2 : List Value} :
  (ktrTop dp un gd n sc L1 fa cd [] outer).over (.whileLoop t2 b2 [] env) [.ret k2 none (id false) (id []) (.forLoop t it b [] env) p2 kp2, .ret k none (id false) (id []) (.func body env) p kp] = (ktrTop dp un gd n sc L1 fa cd [] outer).deeper env := by
  cases gd <;> rfl
end

end Mine
namespace Mine
section
open PySem.W
variable {prog : Program} {w : World} {A₀ A : Around} {s : Shared} {base h₀ g : Heap} {outer : List Env} {L : Addr} {m : Str → Option Value} {env : Env} {news : List (Addr × Obj)}
  {R : Result → Shared → Prop} {name qual : Str} {params : Arguments} {body : List Stmt} {scope : Scope} {cl : List (Str × Addr)} {dV kV doc pm cdv ct : Value} {an : Option Addr} {fo : Obj} {f : Addr} {args : Args} {binds : List (Str × Value)}

/-- a def entered, its caller's frame in the ground; what it leaves is for the caller to say -/
theorem callT (B : Below A₀ base outer h₀) (F : Fr h₀ L s.heap m) (N : News h₀ L s.heap news) (hlim : h₀.NoLimit) (hA : A.frames = some (env :: outer)) (hf : env.frame = some L) (hke : env.scope.kind = .function)
    (ho : s.heap.get? f = some fo) (hd : fo.data = .func (fnX name qual params body scope [] dV kV doc pm an cdv ct)) (hcd : s.heap.CodeRec cdv qual) (hroom : A.depth < recursionLimit)
    (hbind : BindsTo s (fnX name qual params body scope [] dV kV doc pm an cdv ct) args binds) (hloc : ∀ y ∈ binds, scope.names.lookup y.1 = some .local)
    (h : ∀ g L' h₁, Fr h₀ L g m → Fr g L' h₁ (fun y => binds.reverse.lookup y) → News g L' h₁ news → Below A base (env :: outer) g → h₀.StaysIn g → (∀ p ∈ news, p.1 < L') →
      wpAny (model prog w) (A.deeper (envOf qual scope L' f cdv)) (execs body (envOf qual scope L' f cdv))
        (fun fl s' => R (.ok (.ret (match fl with | .ret v => v | _ => .none))) s')
        (fun e s' => wpAny (model prog w) (A.deeper (envOf qual scope L' f cdv)) (leaving (envOf qual scope L' f cdv) e) (fun _ s'' => R (.error e) s'') (fun e' s'' => R (.error e') s'') s')
        { s with heap := h₁, toks := s.toks + binds.length })
    (hcell : ∀ x ∈ scope.names, x.2 ≠ .cell) (hco : scope.isCoroutine = false := by rfl) (hgen : scope.isGenerator = false := by rfl) (hk : scope.kind = .function := by rfl) : codeAny (model prog w) A (.call (.ref f) args) R s := by
  obtain ⟨FG, BG, st, _⟩ := groundX (R := R) B F N hA hf hke
  refine codeAny_call_def (fd := fnX name qual params body scope [] dV kV doc pm an cdv ct) (body := body) (binds := binds) hroom ho hd (hlim.keeps F.keep) hcd rfl hbind hcell hloc (fun h₁ hns hk₁ => ?_) hco hgen hk
  exact h _ s.heap.objs.size h₁ FG ⟨hns, fun b o e => hk₁ b o (of_hideAll _ e), Nat.le_of_eq (hideAll_size _ _)⟩
    (fun p hp => ⟨hk₁ _ _ (N p hp).1, Nat.ne_of_lt (Heap.lt_size (N p hp).1), hideAll_none _ (List.mem_map_of_mem hp)⟩) BG st (fun p hp => Heap.lt_size (N p hp).1)

/-- the caller's frame holds what it held, where only slots have turned -/
theorem leave_turn {g' h' : Heap} {L' : Addr} {m' : Str → Option Value} {news' : List (Addr × Obj)} (FG : Fr h₀ L g m) (st : h₀.StaysIn g) (T : KtsTurn [L] g g') (F' : Fr g' L' h' m') (N' : News g' L' h' news') :
    Fr h₀ L h' m ∧ News h₀ L h' news' := by
  obtain ⟨oL, es, ep, hL, hLd, hLk, hLf⟩ := FG.ns
  obtain ⟨sl, hs⟩ := T.up hL
  have nL₀ : h₀.get? L = none := kts_self FG
  refine ⟨⟨⟨_, es, ep, F'.keep _ _ hs, hLd, hLk, hLf⟩, fun b o e => F'.keep b o (T.other b o (st b o e) fun q => ?_), FG.above⟩, fun p hp => ⟨(N' p hp).1, fun q => ?_, ?_⟩⟩
  · rw [List.mem_singleton.mp q, nL₀] at e; cases e
  · have := (N' p hp).2.2; rw [q, hs] at this; cases this
  · cases q : h₀.get? p.1 with
    | none => rfl
    | some o =>
      obtain ⟨sl', hs'⟩ := T.up (st _ _ q)
      have := (N' p hp).2.2
      rw [hs'] at this
      cases this

/-- the object of a generator -/
noncomputable def genObj (g : Nat) (nm qn : Str) (t u : Tok) : Obj := { cls := .type "generator", data := .fields #[.int (g : Int) 0, .str nm t, .str qn u] }

/-- a generator's def called: its frame and its object are made -/
theorem gen_made (B : Below A₀ base outer h₀) (F : Fr h₀ L s.heap m) (N : News h₀ L s.heap news) (hlim : h₀.NoLimit) (hA : A.frames = some (env :: outer)) (hf : env.frame = some L) (hke : env.scope.kind = .function)
    (ho : s.heap.get? f = some fo) (hd : fo.data = .func (fnX name qual params body scope [] dV kV doc pm an cdv ct)) (hcd : s.heap.CodeRec cdv qual) (hroom : A.depth < recursionLimit)
    (hbind : ∀ s, BindsTo s (fnX name qual params body scope [] dV kV doc pm an cdv ct) args binds) (hloc : ∀ y ∈ binds, scope.names.lookup y.1 = some .local)
    (h : ∀ g L' h₁ G t u tk, Fr h₀ L g m → Fr g L' h₁ (fun y => binds.reverse.lookup y) → News g L' h₁ ((G, genObj s.gens.size name qual t u) :: news) → Below A base (env :: outer) g → h₀.StaysIn g → (∀ p ∈ news, p.1 < L') → L' < G →
      Fr h₀ L h₁ m → News h₀ L h₁ ((G, genObj s.gens.size name qual t u) :: news) →
      R (.ok (.ret (.ref G))) { s with heap := h₁, gens := s.gens.push (.fresh (.func body (envOf qual scope L' f cdv))), toks := tk })
    (hcell : ∀ x ∈ scope.names, x.2 ≠ .cell) (hco : scope.isCoroutine = false := by rfl) (hgen : scope.isGenerator = true := by rfl) (hk : scope.kind = .function := by rfl) : codeAny (model prog w) A (.call (.ref f) args) R s := by
  obtain ⟨FG, BG, st, _⟩ := groundX (R := R) B F N hA hf hke
  refine codeAny_call_generator (fd := fnX name qual params body scope [] dV kV doc pm an cdv ct) (body := body) hroom ho hd hco hgen rfl hcd (hbind _ _ _ _ _ ?_)
  refine wpAny_newFunctionEnv hcell hloc (fun h₂ hns hsb => ⟨(hlim.keeps F.keep).fresh _ hsb, ?_⟩) hk
  have up₂ : ∀ b o, s.heap.get? b = some o → h₂.get? b = some o := fun b o e => hsb.extBut b o (Nat.ne_of_lt (Heap.lt_size e)) (Heap.get?_push_of_some _ e)
  have hL2 : s.heap.objs.size < h₂.objs.size := hns.lt
  dsimp only
  generalize hgo : ({ cls := .type "generator", data := .fields #[.int (s.gens.size : Int) 0, .str name (s.toks + binds.length), .str qual (s.toks + binds.length + 1)] } : Obj) = go
  have up : ∀ b o, s.heap.get? b = some o → (h₂.push go).get? b = some o := fun b o e => Heap.get?_push_of_some _ (up₂ b o e)
  have hG : (h₂.push go).get? h₂.objs.size = some go := Heap.get?_push_size _ (by subst hgo; rfl)
  have hlt : L < s.heap.objs.size := F.ns.lt
  have none₀ : h₀.get? h₂.objs.size = none := by
    cases q : h₀.get? h₂.objs.size with
    | none => rfl
    | some o => exact absurd (Heap.lt_size (up₂ _ _ (F.keep _ _ q))) (Nat.lt_irrefl _)
  have noneG : (hideAll s.heap (news.map (·.1))).get? h₂.objs.size = none := by
    cases q : (hideAll s.heap (news.map (·.1))).get? h₂.objs.size with
    | none => rfl
    | some o => exact absurd (Heap.lt_size (up₂ _ _ (of_hideAll _ q))) (Nat.lt_irrefl _)
  refine h _ s.heap.objs.size (h₂.push go) h₂.objs.size (s.toks + binds.length) (s.toks + binds.length + 1) _ FG ⟨hns.at' fun o e => Heap.get?_push_of_some _ e, fun b o e => up b o (of_hideAll _ e), Nat.le_of_eq (hideAll_size _ _)⟩ ?_ BG st (fun p hp => Heap.lt_size (N p hp).1) hL2 (F.keeps up) ?_
  · intro p hp
    rcases List.mem_cons.mp hp with rfl | hp
    · exact ⟨hG.trans (congrArg some hgo.symm), Nat.ne_of_gt hL2, noneG⟩
    · exact ⟨up _ _ (N p hp).1, Nat.ne_of_lt (Heap.lt_size (N p hp).1), hideAll_none _ (List.mem_map_of_mem hp)⟩
  · intro p hp
    rcases List.mem_cons.mp hp with rfl | hp
    · exact ⟨hG.trans (congrArg some hgo.symm), Nat.ne_of_gt (Nat.lt_trans hlt hL2), none₀⟩
    · exact ⟨up _ _ (N p hp).1, (N p hp).2⟩
theorem gen_is {h : Heap} {L G : Addr} {g : Nat} {nm qn : Str} {t u : Tok} (N : News h₀ L h news) (hm : (G, genObj g nm qn t u) ∈ news) : h.IsGen G g := ⟨_, _, _, (N _ hm).1, rfl, rfl, rfl⟩
end
section
open PySem.W
variable {prog : Program} {w : World} {A₀ A : Around} {s : Shared} {base h₀ : Heap} {outer : List Env} {L : Addr} {m : Str → Option Value} {env : Env} {news : List (Addr × Obj)} {K : Frag} {p : Program} {loose : List Str} {mean : ExcName → Option Value} {mg mb : Str → Option Value}
  {R : Result → Shared → Prop} {name qual : Str} {params : Arguments} {body : List Stmt} {scope : Scope} {dV kV doc pm cdv ct oc : Value} {an od : Option Addr} {osl : Array (Option Value)} {f : Addr} {args : Args} {binds : List (Str × Value)}
theorem code_defT (B : Below A₀ base outer h₀) (F : Fr h₀ L s.heap m) (X₀ : K.In h₀) (N : News h₀ L s.heap news) (T : Top p loose mean mg mb h₀) (hA : A.frames = some (env :: outer)) (hf : env.frame = some L) (hke : env.scope.kind = .function)
    (ho : K.lookup f = some ⟨oc, od, .func (fnX name qual params body scope [] dV kV doc pm an cdv ct), osl⟩) (hcd : codeIn K cdv qual = true) (hroom : A.depth < recursionLimit)
    (hbind : BindsTo s (fnX name qual params body scope [] dV kV doc pm an cdv ct) args binds) (hloc : ∀ y ∈ binds, scope.names.lookup y.1 = some .local)
    (h : ∀ g L' h₁, Fr h₀ L g m → Fr g L' h₁ (fun y => binds.reverse.lookup y) → News g L' h₁ news → Below A base (env :: outer) g → h₀.StaysIn g → (∀ p ∈ news, p.1 < L') → K.In g → Top p loose mean mg mb g →
      wpAny (model prog w) (A.deeper (envOf qual scope L' f cdv)) (execs body (envOf qual scope L' f cdv))
        (fun fl s' => R (.ok (.ret (match fl with | .ret v => v | _ => .none))) s')
        (fun e s' => wpAny (model prog w) (A.deeper (envOf qual scope L' f cdv)) (leaving (envOf qual scope L' f cdv) e) (fun _ s'' => R (.error e) s'') (fun e' s'' => R (.error e') s'') s')
        { s with heap := h₁, toks := s.toks + binds.length })
    (hcell : ∀ x ∈ scope.names, x.2 ≠ .cell) (hco : scope.isCoroutine = false) (hgen : scope.isGenerator = false) (hk : scope.kind = .function) : codeAny (model prog w) A (.call (.ref f) args) R s := by
  have X := X₀.keeps F.keep
  exact callT B F N T.nolimit hA hf hke (X _ _ ho) rfl (codeRec_of X hcd) hroom hbind hloc (fun g L' h₁ a b c d e i => h g L' h₁ a b c d e i (X₀.keeps e) (T.keeps e)) hcell hco hgen hk
theorem code_gen (B : Below A₀ base outer h₀) (F : Fr h₀ L s.heap m) (X₀ : K.In h₀) (N : News h₀ L s.heap news) (T : Top p loose mean mg mb h₀) (hA : A.frames = some (env :: outer)) (hf : env.frame = some L) (hke : env.scope.kind = .function)
    (ho : K.lookup f = some ⟨oc, od, .func (fnX name qual params body scope [] dV kV doc pm an cdv ct), osl⟩) (hcd : codeIn K cdv qual = true) (hroom : A.depth < recursionLimit)
    (hbind : ∀ s, BindsTo s (fnX name qual params body scope [] dV kV doc pm an cdv ct) args binds) (hloc : ∀ y ∈ binds, scope.names.lookup y.1 = some .local)
    (h : ∀ g L' h₁ G t u tk, Fr h₀ L g m → Fr g L' h₁ (fun y => binds.reverse.lookup y) → News g L' h₁ ((G, genObj s.gens.size name qual t u) :: news) → Below A base (env :: outer) g → h₀.StaysIn g → (∀ p ∈ news, p.1 < L') → L' < G →
      Fr h₀ L h₁ m → News h₀ L h₁ ((G, genObj s.gens.size name qual t u) :: news) → K.In g → Top p loose mean mg mb g →
      R (.ok (.ret (.ref G))) { s with heap := h₁, gens := s.gens.push (.fresh (.func body (envOf qual scope L' f cdv))), toks := tk })
    (hcell : ∀ x ∈ scope.names, x.2 ≠ .cell) (hco : scope.isCoroutine = false) (hgen : scope.isGenerator = true) (hk : scope.kind = .function) : codeAny (model prog w) A (.call (.ref f) args) R s := by
  have X := X₀.keeps F.keep
  exact gen_made B F N T.nolimit hA hf hke (X _ _ ho) rfl (codeRec_of X hcd) hroom hbind hloc (fun g L' h₁ G t u tk a b c d e i j k l => h g L' h₁ G t u tk a b c d e i j k l (X₀.keeps e) (T.keeps e)) hcell hco hgen hk
end
theorem over_deeper (A : Around) (body : List Stmt) (env : Env) : A.over (.func body env) [] = A.deeper env := by
  obtain ⟨h, d, f, g, u⟩ := A
  cases f <;> cases g <;> rfl
theorem ktr_in1 {dp un : Nat} {gd : Option (List Code)} {cn n : Str} {cs sc : Scope} {L a L1 f : Addr} {ccd cd : Value} {cl : List (Str × Addr)} {outer : List Env} :
    ((ktrTop dp un gd cn cs L a ccd cl outer).deeper (envOf n sc L1 f cd)).in1 = ktrTop (dp + 1) (un + 3 + 1) gd n sc L1 f cd [] (envX cn cs L a ccd cl :: outer) := rfl
theorem gen_last {gs : Array GenState} {x : GenState} : (gs.push x)[gs.size]? = some x := by simp

end Mine
namespace Mine
section
open PySem.W
section
variable {M : Model} {A A' : Around} {E : Value → Shared → Prop} {s' : Shared} {base g h : Heap} {outer : List Env} {L a e : Addr} {m : Str → Option Value} {name : Str} {scope : Scope} {cd : Value} {Q : Value → Unit → Shared → Prop} {news : List (Addr × Obj)}
/-- an exception just made in a loop of a frame leaves the loop and the frame -/
theorem raise_loop {cls : Value} {vs : List Value} (K : Below A base outer g) (hx : Heap.MadeExcOf h s'.heap e cls vs) (F : Fr g L h m) (N : News g L h news)
    (hQ : ∀ h' t, RaisedS base g outer e cls t vs news h' → g.UpToSlots h' → Q (.ref e) () { s' with heap := h' }) (hk : scope.kind = .function := by rfl) :
    notedBy M (A.deeper (envOf name scope L a cd)) (envOf name scope L a cd) (cameBackBy M A' (envOf name scope L a cd) (fun x s₁ => wpAny M (A.deeper (envOf name scope L a cd)) (leaving (envOf name scope L a cd) x) (Q x) E s₁)) (.ref e) s' := by
  have K' := K.push (name := name) (a := a) (cd := cd) F hk
  generalize hB : hideAll h ((envOf name scope L a cd :: outer).filterMap (·.frame)) = B
  have hBh : B.StaysIn h := fun b o q => by rw [← hB] at q; exact of_hideAll _ q
  have up : ∀ b o, h.get? b = some o → b ∉ (envOf name scope L a cd :: outer).filterMap (·.frame) → B.get? b = some o := fun b o e nm => by rw [← hB]; exact hideAll_get _ e nm
  have hfr : h.FunFrames B (envOf name scope L a cd :: outer) := by rw [← hB]; exact funFrames_hide K'.frames fun env he b hb => List.mem_filterMap.mpr ⟨env, he, hb⟩
  have st : base.StaysIn B := fun b o q => up b o (K'.stays b o q) fun hm => by rw [(K'.frames.mem hm).1] at q; cases q
  have sg : ∀ b o, g.get? b = some o → b ∉ outer.filterMap (·.frame) → B.get? b = some o := fun b o q nm => up b o (F.keep b o q) fun hm => (kts_mem hm).elim (fun z => by rw [z, kts_self F] at q; cases q) nm
  have hl : ∀ q ∈ news, B.get? q.1 = some q.2 ∧ g.get? q.1 = none ∧ base.get? q.1 = none := fun q hq => by
    refine ⟨up _ _ (N q hq).1 fun hm => (kts_mem hm).elim (N q hq).2.1 fun z => ?_, (N q hq).2.2, fresh_of_stays K.stays (N q hq).2.2⟩
    obtain ⟨o, ho, _⟩ := (K.frames.mem z).2
    rw [(N q hq).2.2] at ho
    cases ho
  refine note_made K'.stack rfl hBh hfr hx fun h₁ t hh₁ ht₁ htn sm₁ => ?_
  refine came_held rfl hh₁ fun h₂ hh₂ sm₂ => ?_
  unfold leaving
  refine wpAny_bind (wpAny_noteFrame_againW rfl hh₂.2.2.2 ?_)
  refine wpAny_landsW hh₂ fun h₃ hf₃ sm₃ => ?_
  exact hQ h₃ t ⟨⟨B, st, sg, hl, ⟨hf₃.1, hf₃.2.1, hf₃.2.2.1.2.2, hf₃.2.2.2⟩, htn⟩, (ht₁.of_slots sm₂).of_slots sm₃⟩
    (((((Heap.UpToSlots.of_keeps F.keep).trans (Heap.UpToSlots.of_keeps hx.keeps)).trans sm₁).trans sm₂).trans sm₃)
end
section
variable {prog : Program} {w : World} {A₀ A' : Around} {E : Value → Shared → Prop} {s' : Shared} {base g G : Heap} {outer : List Env} {L a e t : Addr} {m : Str → Option Value} {name : Str} {scope : Scope} {cd : Value}
  {vs : List Value} {n : Str} {b₀ : Stmt} {suite : List Stmt} {pos np : Pos} {rest : List ExceptHandler} {Q : Flow → Shared → Prop} {news : List (Addr × Obj)} {KF : Frag}
  {p : Program} {loose : List Str} {mean : ExcName → Option Value} {mg mb : Str → Option Value} {x : Str} {X T' : String}
/-- an exception that came out of a loop's first step is caught by the loop's frame -/
theorem catch_loop (R : RaisedS base G (envOf name scope L a cd :: outer) e (.type X) t vs news s'.heap) (F : Fr g L G m) (K : Below A₀ base outer g) (hsm : G.UpToSlots s'.heap) (XB : KF.In base) (TB : Top p loose mean mg mb base)
    (D : KtsDicts (outer.filterMap (·.frame)) g)
    (ex : nsIn KF mainGlobals x = some none) (hv : bootBuiltins x = some (.type T')) (hn' : x ≠ "__name__")
    (hexc : isSubtype (.type T') (.type "BaseException") = pure true) (hnt : isSubtype (.type ((Manifest.find? T').elim "type" fun y => y.metatype)) (.type "tuple") = pure false) (hsub : isSubtype (.type X) (.type T') = pure true)
    (k : ∀ h' g' news₂ tk, KtsTurn (outer.filterMap (·.frame)) g g' → Fr g' L h' (fun y => if y = n then some (.ref e) else m y) → News g' L h' news₂ → Got news₂ e t (.type X) vs → News g' L h' news → Below A₀ base outer g' → KF.In g' → Top p loose mean mg mb g' →
      wpAny (model prog w) ((A₀.deeper (envOf name scope L a cd)).mark (some (.ref e))) (execs (b₀ :: suite) (envOf name scope L a cd))
        (fun f s₄ => wpAny (model prog w) (A₀.deeper (envOf name scope L a cd)) (do bindName (envOf name scope L a cd) n .none; unbindBehindTheSuite (envOf name scope L a cd) n pos) (fun _ s₅ => Q f s₅) E s₄)
        (AsSuiteRaised (model prog w) ((A₀.deeper (envOf name scope L a cd)).mark (some (.ref e))) (envOf name scope L a cd) n pos (notedBy (model prog w) ((A₀.deeper (envOf name scope L a cd)).mark (some (.ref e))) (envOf name scope L a cd) (cameBackBy (model prog w) (A₀.deeper (envOf name scope L a cd)) (envOf name scope L a cd) E)))
        { s' with heap := h', toks := tk })
    (hk : scope.kind = .function := by rfl) (hlo : (envOf name scope L a cd).kindOf n = some .local := by rfl) (hx : (envOf name scope L a cd).kindOf x = some .globalImplicit := by rfl) (hd : (x == ("__debug__" : Str)) = false := by decide) :
    notedBy (model prog w) (A₀.deeper (envOf name scope L a cd)) (envOf name scope L a cd) (cameBackBy (model prog w) A' (envOf name scope L a cd) (fun v s₁ =>
      wpAny (model prog w) (A₀.deeper (envOf name scope L a cd)) (noteFrame v (envOf name scope L a cd))
      (fun _ s₂ => wpAny (model prog w) (A₀.deeper (envOf name scope L a cd)) (setFlight v none) (fun _ s₃ =>
        wpAny (model prog w) (A₀.deeper (envOf name scope L a cd)) (handleBy v (envOf name scope L a cd) (.ExceptHandler (some (.Name x np)) (some n) (b₀ :: suite) pos :: rest)) Q E s₃) E s₂) E s₁)) (.ref e) s' := by
  obtain ⟨⟨B, hB, hBG, hl, hfl, hnew⟩, htup⟩ := R
  have hL : B.get? L = none := by
    obtain ⟨_, ⟨L', _, hf, hn', _⟩, _⟩ := hfl.2.2.1
    obtain rfl : L = L' := Option.some.inj hf
    exact hn'
  refine wpAny_looks_onW (Around.frames_deeper K.stack) rfl hfl fun h₁ hh₁ sm₁ => ?_
  refine came_held rfl hh₁ fun h₂ hh₂ sm₂ => ?_
  refine wpAny_noteFrame_againW rfl hh₂.2.2.2 ?_
  refine wpAny_landsW hh₂ fun h₃ hh₃ sm₃ => ?_
  have hs₃ := ((hsm.trans sm₁).trans sm₂).trans sm₃
  have ht₃ := ((htup.of_slots sm₁).of_slots sm₂).of_slots sm₃
  obtain ⟨g₃, T₃, F₃, K₃⟩ := kts_ground K F hBG hh₃.1 hs₃
  obtain ⟨ob, hob, hobc⟩ := hh₃.there
  refine wpAny_handleBy_builtin_as (X := X) (T := T') (b := true) hexc hnt hsub (name_B F₃ (XB.keeps K₃.stays) (topRead_of (TB.keeps K₃.stays)) ex hv hn' ⟨rfl, ⟨ob, hob, hobc⟩, ?_⟩ hk hx hd)
  refine lands_againW hh₃ fun h₄ hh₄ sm₄ => ?_
  have hs₄ := hs₃.trans sm₄
  obtain ⟨g₄, T₄, F₄, K₄⟩ := kts_ground K F hBG hh₄.1 hs₄
  obtain ⟨oe, ws, hoe, hoec, hoed, hoe0⟩ := hh₄.first
  obtain ⟨ot, nt, hot, hotc, hotd⟩ := ht₃.of_slots sm₄
  have ne₄ : g₄.get? e = none := T₄.none_ _ (kts_fresh F hBG hh₄.2.1 fun o ho hm => by
    obtain ⟨_, o', ho', hd⟩ := K.frames.mem hm
    rw [ho] at ho'; cases ho'
    obtain ⟨sl, hs⟩ := hs₄ _ _ (F.keep _ _ ho) hd
    rw [hoe] at hs; cases hs
    exact hd _ hoed)
  have nt₄ : g₄.get? t = none := T₄.none_ _ (kts_fresh F hBG hnew fun o ho hm => by
    obtain ⟨o', es, n', ho', hd⟩ := D _ hm
    rw [ho] at ho'; cases ho'
    obtain ⟨sl, hs⟩ := hs₄ _ _ (F.keep _ _ ho) fun vs q => by rw [hd] at q; cases q
    rw [hot] at hs; cases hs
    cases hd.symm.trans hotd)
  have N₄ := News.more F₄ (News.more F₄ News.nil hot (fun es n q => by rw [hotd] at q; cases q) nt₄) hoe (fun es n q => by rw [hoed] at q; cases q) ne₄
  have Nl : News g₄ L h₄ news := fun q hq => ⟨hh₄.1 _ _ (hl q hq).1, (fun z => by have := (hl q hq).1; rw [z, hL] at this; cases this), T₄.none_ _ (kts_none F.keep (hl q hq).2.1)⟩
  refine stN F₄ (news := _ ++ news) (fun q hq => (List.mem_append.mp hq).elim (N₄ q) (Nl q)) (fun h₅ F₅ N₅ => ?_) hk hlo
  exact k h₅ g₄ _ _ T₄ F₅ (fun q hq => N₅ q (List.mem_append_left _ hq)) ⟨oe, ot, ws, nt, .head _, .tail _ (.head _), hoec, hoed, hoe0, hotc, hotd⟩ (fun q hq => N₅ q (List.mem_append_right _ hq)) K₄ (XB.keeps K₄.stays) (TB.keeps K₄.stays)
end
end

end Mine
namespace Mine
section
open LCt
variable {prog : Program} {w : World} {A : Around} {E : Value → Shared → Prop} {s : Shared} {h₀ : Heap} {m : Str → Option Value} {news : List (Addr × Obj)} {env : Env}
/-- a loop over a list whose first turn does not come to its end -/
theorem for_list_first {l : Addr} {its : List Value} {c : Nat} {v : Value} {x : Str} {px : Pos} {body : List Stmt} {R : Result → Shared → Prop} (F : Fr h₀ env.locals s.heap m) (N : News h₀ env.locals s.heap news) (hm : (l, listOf its.toArray c) ∈ news) (hv : its[0]? = some v) (hh : A.handled = none)
    (turn : ∀ h tk, Fr h₀ env.locals h (fun z => if z = x then some v else m z) → News h₀ env.locals h news →
      wpAny (model prog w) A (execs body env) (fun _ _ => False) (notedBy (model prog w) A env fun e s' => R (.error e) s') { s with heap := h, toks := tk })
    (hx : env.kindOf x = some .local := by rfl) (hp : (env.scope.kind == .class || (env.scope.kind == .module && env.locals != env.globals)) = false := by rfl) :
    wpAny (model prog w) A (pyIter (.ref l)) (fun it s₂ => codeAny (model prog w) A (.forLoop (.Name x px) it body [] env) R s₂) E s := by
  have hls : s.heap.IsList l its.toArray := ⟨_, (N _ hm).1, rfl, _, rfl⟩
  have hlt : l < s.heap.objs.size := Heap.lt_size (N _ hm).1
  have hLs : env.locals < s.heap.objs.size := F.ns.lt
  have up : ∀ b o, s.heap.get? b = some o → (s.heap.push { cls := .type "list_iterator", data := .fields #[.ref l, .int 0 0] }).get? b = some o := fun b o e => Heap.get?_push_of_some _ e
  have h0 : 0 < its.toArray.size := by rw [List.size_toArray]; exact (List.getElem?_eq_some_iff.mp hv).1
  refine wpAny_pyIter_list hls ?_
  refine codeAny_forLoop_any (fun _ s' => s' = { s with heap := s.heap.push { cls := .type "list_iterator", data := .fields #[.ref l, .int 0 0] } }) (fun k s' e => ?_) 0 rfl
  subst e
  refine (Walks.list hh s.heap.objs.size l (Nat.ne_of_lt hlt) its.toArray).item 0 _ _ _ h0 ⟨⟨_, Heap.get?_push_size _ rfl, rfl, rfl⟩, hls.push _⟩ fun v' h₂ tk₂ hPv hst₂ hk₂ => ?_
  obtain rfl : v' = v := by
    have e : its.toArray[0]? = some v' := hPv
    rw [List.getElem?_toArray, hv] at e
    exact (Option.some.inj e).symm
  have F₁ : Fr h₀ env.locals (s.heap.push { cls := .type "list_iterator", data := .fields #[.ref l, .int 0 0] }) m := F.keeps up
  have N₁ := N.grown up
  have nI : h₀.get? s.heap.objs.size = none := next_is_new F
  have F₂ := fr_but F₁ hk₂ (Nat.ne_of_lt hLs) nI
  have N₂ : News h₀ env.locals h₂ news := news_but N₁ hk₂ fun p hp => Nat.ne_of_lt (Heap.lt_size (N p hp).1)
  refine wpAny_pure ?_
  refine wpAny_assign_Name (wpAny_storeName_local hx F₂.ns (fun h₃ hn₃ hs₃ => ?_) hp)
  have nL : h₀.get? env.locals = none := Heap.get?_none_of_le F.above
  refine wpAny_mono (turn h₃ _ ⟨hn₃, fun b o e => hs₃.extBut b o (fun q => by rw [q, nL] at e; cases e) (F₂.keep b o e), F.above⟩ fun p hp => ⟨hs₃.extBut _ _ (N₂ p hp).2.1 (N₂ p hp).1, (N₂ p hp).2⟩) (fun _ _ f => f.elim) fun _ _ q => q
end

end Mine
namespace Mine
section
variable {prog : Program} {w : World} {A : Around} {env : Env}
/-- the turn's end: the state is as good as before, and less is left -/
noncomputable def LessI (I : Nat → Shared → Prop) (n : Nat) (s : Shared) : Prop := ∃ m, m < n ∧ I m s
theorem for_step {x : Str} {px : Pos} {it : Value} {body : List Stmt} {R : Result → Shared → Prop} {s : Shared} (I : Nat → Shared → Prop)
    (turn : ∀ n s, I n s → wpAny (model prog w) A (pyNext it) (fun r s₁ => match r with
        | none => R (.ok .next) s₁
        | some v => wpAny (model prog w) A (assign (.Name x px) env v) (fun _ s₂ => wpAny (model prog w) A (execs body env) (fun f s₃ => match f with
            | .next | .cont => LessI I n s₃
            | .brk => R (.ok .next) s₃
            | .ret v => R (.ok (.ret v)) s₃) (fun _ _ => False) s₂) (fun _ _ => False) s₁) (fun _ _ => False) s)
    (n : Nat) (h : I n s) : codeAny (model prog w) A (.forLoop (.Name x px) it body [] env) R s := by
  refine codeAny_forLoop_any I (fun n s hI => ?_) n h
  refine wpAny_mono (turn n s hI) (fun r s₂ p => ?_) fun _ _ e => e.elim
  cases r with
  | none => exact wpAny_execs_nil p
  | some v =>
    refine wpAny_pure ?_
    refine wpAny_mono p (fun _ s₃ p₂ => ?_) fun _ _ e => e.elim
    refine wpAny_mono p₂ (fun f s₃ q => ?_) fun _ _ e => e.elim
    cases f <;> exact q
/-- back in the caller's frame, its ground unturned -/
theorem leave9 {h₀ g h' : Heap} {L L' : Addr} {m m' : Str → Option Value} {news' : List (Addr × Obj)} (FG : Fr h₀ L g m) (st : h₀.StaysIn g) (F' : Fr g L' h' m') (N' : News g L' h' news') : Fr h₀ L h' m ∧ News h₀ L h' news' := by
  obtain ⟨oL, es, ep, hL, _⟩ := FG.ns
  refine ⟨FG.keeps F'.keep, fun p hp => ⟨(N' p hp).1, fun q => ?_, ?_⟩⟩
  · have := (N' p hp).2.2; rw [q, hL] at this; cases this
  · cases q : h₀.get? p.1 with
    | none => rfl
    | some o => have := (N' p hp).2.2; rw [st _ _ q] at this; cases this
/-- what stands between told's turns -/
noncomputable def ToldI (prog : Program) (w : World) (A : Around) (g : Heap) (L1 L2 l G tl : Nat) (lo oG : Obj) (rest : List (Addr × Obj)) (out : List Int) (fin : Bool) (sd : Drawn) (so : OsState) (n : Nat) (s : Shared) : Prop :=
  ∃ (done rem : List Int) (ws : List Value) (k : Nat) (gs : GenState) (h' : Heap) (tk' : Nat) (m' : Str → Option Value) (oL : Obj) (ex : List (Addr × Obj)),
    n = rem.length ∧ out = done ++ rem ∧ done.length < 4 ∧ IntsAre ws done ∧ s = ⟨h', #[gs], sd, tk', so⟩ ∧
    Fr g L1 h' (mB [(Str.ofString "told", .ref tl)] m') ∧ News g L1 h' ((tl, listOf ws.toArray k) :: (L2, oL) :: (G, oG) :: (ex ++ rest)) ∧ (∀ p ∈ ex, @LT.lt Nat _ G p.1) ∧
    ∀ s'' : Shared, g.StaysIn s''.heap → s''.heap.get? l = some lo → s''.heap.get? G = some oG → s''.heap.get? L2 = some oL → (∀ p ∈ ex, s''.heap.get? p.1 = some p.2) → GGo prog w A.in1 g L2 l G lo oG out fin gs rem.length s''
theorem told_loop {x : Str} {px : Pos} {it : Value} {body : List Stmt} {R : Result → Shared → Prop} {s : Shared} (g : Heap) (L1 L2 l G tl : Nat) (lo oG : Obj) (rest : List (Addr × Obj)) (out : List Int) (fin : Bool) (sd : Drawn) (so : OsState)
    (turn : ∀ n s, ToldI prog w A g L1 L2 l G tl lo oG rest out fin sd so n s → wpAny (model prog w) A (pyNext it) (fun r s₁ => match r with
        | none => R (.ok .next) s₁
        | some v => wpAny (model prog w) A (assign (.Name x px) env v) (fun _ s₂ => wpAny (model prog w) A (execs body env) (fun f s₃ => match f with
            | .next | .cont => LessI (ToldI prog w A g L1 L2 l G tl lo oG rest out fin sd so) n s₃
            | .brk => R (.ok .next) s₃
            | .ret v => R (.ok (.ret v)) s₃) (fun _ _ => False) s₂) (fun _ _ => False) s₁) (fun _ _ => False) s)
    (n : Nat) (h : ToldI prog w A g L1 L2 l G tl lo oG rest out fin sd so n s) : codeAny (model prog w) A (.forLoop (.Name x px) it body [] env) R s := for_step _ turn n h
end

end Mine
namespace Mine
noncomputable def apF : Nat → Nat → List UInt8 → List UInt8
  | 0, _, acc => acc
  | f+1, n, acc => if n = 0 then acc else apF f (n/16) (UInt8.ofNat (65 + n % 16) :: acc)
noncomputable def apSt : Type := Int × Tok × List UInt8 × Tok × Tok
noncomputable def APs : List UInt8 := [65,66,67,68,69,70,71,72,73,74,75,76,77,78,79,80]
theorem ap_pick16 : ∀ k : Fin 16, KBy.picked APs.toArray (some (k.val : Int)) (some ((k.val : Int) + 1)) = [UInt8.ofNat (65 + k.val)].toArray := by decide +kernel
theorem ap_pick (i : Int) (h : 0 ≤ i) : KBy.picked APs.toArray (some (i.fmod 16)) (some (i.fmod 16 + 1)) = [UInt8.ofNat (65 + i.toNat % 16)].toArray := by
  have e : i.fmod 16 = ((i.toNat % 16 : Nat) : Int) := by
    rw [Int.fmod_eq_emod_of_nonneg _ (by decide)]; omega
  rw [e]
  exact ap_pick16 ⟨i.toNat % 16, Nat.mod_lt _ (by decide)⟩
theorem ap_next (i : Int) (h : 0 ≤ i) (hi : ¬ i = 0) (j : Nat) (v : List UInt8) : apF (j+1) i.toNat v = apF j (i.fdiv 16).toNat (UInt8.ofNat (65 + i.toNat % 16) :: v) := by
  have e : (i.fdiv 16).toNat = i.toNat / 16 := by rw [Int.fdiv_eq_ediv_of_nonneg _ (by decide)]; omega
  rw [e, apF, if_neg (by omega)]

end Mine
namespace Mine
set_option maxRecDepth 100000
section
variable {prog : Program} {w : World} {A : Around} {E : Value → Shared → Prop} {s : Shared} {h₀ : Heap} {L : Addr} {m : Str → Option Value} {env : Env}

/-- a source of a comprehension: a text -/
noncomputable def SrcT (prog : Program) (w : World) (A : Around) (h₀ : Heap) (L : Addr) (m : Str → Option Value) (env : Env) (elt : Expr) (x : Str) (scope : Scope) (cl : List (Str × Addr)) (Fin : Shared → List Value → List (Addr × Obj) → Prop) (xv : Value) (s₁ : Shared) : Prop :=
  ∃ y t news, xv = .str y t ∧ A.handled = none ∧ Fr h₀ L s₁.heap m ∧ News h₀ L s₁.heap news ∧ y.cps.size ≤ sizeLine ∧
    ∀ s₂ : Shared, (∃ h, s₂ = { s₁ with heap := h }) → CompRest prog w A h₀ L m env elt x scope cl s₂ (fun _ => True) (SignAt y) (Fin s₂) y.cps.size 0 [] news
/-- a source of a comprehension: bytes -/
noncomputable def SrcB (prog : Program) (w : World) (A : Around) (h₀ : Heap) (L : Addr) (m : Str → Option Value) (env : Env) (elt : Expr) (x : Str) (scope : Scope) (cl : List (Str × Addr)) (Fin : Shared → List Value → List (Addr × Obj) → Prop) (xv : Value) (s₁ : Shared) : Prop :=
  ∃ b t news, xv = .bytes b t ∧ A.handled = none ∧ Fr h₀ L s₁.heap m ∧ News h₀ L s₁.heap news ∧ b.size ≤ sizeLine ∧
    ∀ s₂ : Shared, (∃ h, s₂ = { s₁ with heap := h }) → CompRest prog w A h₀ L m env elt x scope cl s₂ (fun _ => True) (fun i v => ∃ c u, b[i]? = some c ∧ v = .int (c.toNat : Int) u) (Fin s₂) b.size 0 [] news

/-- a source of a comprehension: a text, or bytes -/
noncomputable def SrcTB (prog : Program) (w : World) (A : Around) (h₀ : Heap) (L : Addr) (m : Str → Option Value) (env : Env) (elt : Expr) (x : Str) (scope : Scope) (cl : List (Str × Addr)) (Fin : Shared → List Value → List (Addr × Obj) → Prop) (xv : Value) (s₁ : Shared) : Prop :=
  SrcT prog w A h₀ L m env elt x scope cl Fin xv s₁ ∨ SrcB prog w A h₀ L m env elt x scope cl Fin xv s₁
theorem SrcTB.text {elt : Expr} {x : Str} {scope : Scope} {cl : List (Str × Addr)} {Fin : Shared → List Value → List (Addr × Obj) → Prop} {y : Str} {t : Tok} {news : List (Addr × Obj)} {s₁ : Shared}
    (hh : A.handled = none) (F : Fr h₀ L s₁.heap m) (N : News h₀ L s₁.heap news) (hz : y.cps.size ≤ sizeLine)
    (h : ∀ g, CompRest prog w A h₀ L m env elt x scope cl { s₁ with heap := g } (fun _ => True) (SignAt y) (Fin { s₁ with heap := g }) y.cps.size 0 [] news) : SrcTB prog w A h₀ L m env elt x scope cl Fin (.str y t) s₁ :=
  .inl ⟨y, t, news, rfl, hh, F, N, hz, fun _ ⟨g, e⟩ => e ▸ h g⟩
theorem SrcTB.bytes {elt : Expr} {x : Str} {scope : Scope} {cl : List (Str × Addr)} {Fin : Shared → List Value → List (Addr × Obj) → Prop} {b : Array UInt8} {t : Tok} {news : List (Addr × Obj)} {s₁ : Shared}
    (hh : A.handled = none) (F : Fr h₀ L s₁.heap m) (N : News h₀ L s₁.heap news) (hz : b.size ≤ sizeLine)
    (h : ∀ g, CompRest prog w A h₀ L m env elt x scope cl { s₁ with heap := g } (fun _ => True) (fun i v => ∃ c u, b[i]? = some c ∧ v = .int (c.toNat : Int) u) (Fin { s₁ with heap := g }) b.size 0 [] news) : SrcTB prog w A h₀ L m env elt x scope cl Fin (.bytes b t) s₁ :=
  .inr ⟨b, t, news, rfl, hh, F, N, hz, fun _ ⟨g, e⟩ => e ▸ h g⟩

theorem comp_fresh {elt iter : Expr} {x : Str} {px : Pos} {scope : Scope} {cl : List (Str × Addr)} {pos : Pos} {s₁ : Shared} {o : Obj} {n : Nat} {P : Nat → Value → Prop} {St : Nat → Heap → Prop} {news : List (Addr × Obj)} {Q : Value → Shared → Prop}
    (W : Walks prog w A s₁.heap.objs.size [s₁.heap.objs.size] [s₁.heap.objs.size] n P St) (hIo : ∀ i h, St i h → ∃ o, h.get? s₁.heap.objs.size = some o) (hst : St 0 (s₁.heap.push o)) (hsz : n ≤ sizeLine)
    (hcell : ∀ y ∈ scope.names, y.2 ≠ .cell) (hkind : scope.kind = .function) (hx : scope.names.lookup x = some .local)
    (F : Fr h₀ L s₁.heap m) (N : News h₀ L s₁.heap news)
    (R : CompRest prog w A h₀ L m env elt x scope cl { s₁ with heap := s₁.heap.push o } (fun _ => True) P (FinE h₀ L m { s₁ with heap := s₁.heap.push o } Q) n 0 [] news) :
    wpAny (model prog w) A (newList []) (fun acc s₃ => wpAny (model prog w) A (newFunctionEnv scope env.globals cl [] env.qual none .none (some env)) (fun cenv s₄ =>
      codeAny (model prog w) A (.compStart (.ListComp elt [⟨.Name x px, iter, [], 0⟩] scope pos) 0 (.ref s₁.heap.objs.size) acc { cenv with scope := relabel scope env }) (compPost (model prog w) A E none Q acc cenv.locals) s₄) E s₃) E { s₁ with heap := s₁.heap.push o } := by
  refine block_U W hsz hIo (fun i h h' o' nw st e e' k _ _ => W.frame i h h' st fun b hb o'' e'' => ?_) hcell hkind hx hst (fun b hb => ?_)
      (F.keeps fun _ _ e => Heap.get?_push_of_some _ e) (N.grown fun _ _ e => Heap.get?_push_of_some _ e) (Nat.ne_of_lt F.ns.lt) (next_is_new F) (fun p hp => Nat.ne_of_lt (Heap.lt_size (N p hp).1)) trivial R ?_
  · rw [List.mem_singleton.mp hb] at e'' ⊢
    rw [e] at e''; cases e''; exact e'
  · rw [List.mem_singleton.mp hb]
    show s₁.heap.objs.size < (s₁.heap.push _).objs.size
    rw [Heap.size_push]; exact Nat.lt_succ_self _
  · intro D C h tk m' ys news' F' N' o1 hn hC₀ hD₀ hCL hDL hCD offC fin
    refine ⟨m', hn, fun h'' hs'' => fin D h'' tk (F'.change hs'' hCL hC₀) (fun p hp => ?_) o1⟩
    refine ⟨hs''.extBut _ _ ?_ (N' p hp).1, (N' p hp).2⟩
    rcases List.mem_cons.mp hp with rfl | hp
    · exact Ne.symm hCD
    · exact offC p hp

theorem ListComp_S {elt iter : Expr} {x : Str} {px : Pos} {scope : Scope} {cl : List (Str × Addr)} {pos : Pos} {Q : Value → Shared → Prop} (F₀ : Fr h₀ L s.heap m)
    (hclos : closureFor scope env = pure cl) (hcell : ∀ y ∈ scope.names, y.2 ≠ .cell) (hkind : scope.kind = .function)
    (hnames : ∀ y ∈ scope.names, y.2 = .local → scope.names.lookup y.1 = some .local) (hx : scope.names.lookup x = some .local)
    (h : wpAny (model prog w) A (eval iter env) (SrcTB prog w A h₀ L m env elt x scope cl (fun s₂ => FinE h₀ L m s₂ Q)) E s)
    (hs : ∀ x, foldedSetIterable iter env x = pure x := by intro _; rfl) :
    wpAny (model prog w) A (eval (.ListComp elt [⟨.Name x px, iter, [], 0⟩] scope pos) env) Q E s := by
  rw [eval_ListComp]
  refine wpAny_comprehension_free (use := none) rfl hs hclos hkind hnames (wpAny_mono h (fun xv s₁ h₁ => ?_) fun _ _ e => e)
  rcases h₁ with ⟨y, t, news, rfl, hh, F, N, hsz, R⟩ | ⟨b, t, news, rfl, hh, F, N, hsz, R⟩
  · cases ha : y.cps.all (· < 128)
    · exact wpAny_pyIter_wide ha (comp_fresh (Walks.strWide hh _ y t) (fun i h st => by obtain ⟨o, e, _⟩ := st; exact ⟨o, e⟩) ⟨_, Heap.get?_push_size _ rfl, rfl, rfl⟩ hsz hcell hkind hx F N (R _ ⟨_, rfl⟩))
    · exact wpAny_pyIter_ascii ha (comp_fresh (Walks.strAscii hh _ y t) (fun i h st => by obtain ⟨o, e, _⟩ := st; exact ⟨o, e⟩) ⟨_, Heap.get?_push_size _ rfl, rfl, rfl⟩ hsz hcell hkind hx F N (R _ ⟨_, rfl⟩))
  · exact KBw.pyIter_bytes (comp_fresh (KBw.walks hh _ b t) (fun i h st => by obtain ⟨o, e, _⟩ := st; exact ⟨o, e⟩) ⟨_, Heap.get?_push_size _ rfl, rfl, rfl⟩ hsz hcell hkind hx F N (R _ ⟨_, rfl⟩))

/-- a comprehension by an invariant over what it has made and the ledger -/
theorem compRest_ind {elt : Expr} {x : Str} {scope : Scope} {cl : List (Str × Addr)} {S : List (Addr × Obj) → Prop} {P : Nat → Value → Prop} {Fin : List Value → List (Addr × Obj) → Prop} {n : Nat} (J : Nat → List Value → List (Addr × Obj) → Prop)
    (turn : ∀ i ys news v I oI C oC D m₂ h tk (E' : Value → Shared → Prop), i < n → J i ys news → P i v → NsObj oC m₂ → m₂ x = some v → Fr h₀ L h m → News h₀ L h ((I, oI) :: (C, oC) :: (D, lst ys) :: news) → Off3 I C D news → ((@Ne Nat I C) ∧ (@Ne Nat I D) ∧ (@Ne Nat C D)) →
      wpAny (model prog w) A (eval elt (compEnvC scope cl C env)) (CompEnd h₀ L m { s with heap := h, toks := tk } I oI C oC D (lst ys) S (fun y news' => J (i + 1) (ys ++ [y]) news')) E' { s with heap := h, toks := tk })
    (fin : ∀ ys news, J n ys news → Fin ys news) : ∀ k i ys news, n = i + k → J i ys news → CompRest prog w A h₀ L m env elt x scope cl s S P Fin k i ys news := by
  intro k
  induction k with
  | zero => intro i ys news e hj; have : i = n := by omega
            subst this; exact CompRest.zero (fin _ _ hj)
  | succ k ih =>
    intro i ys news e hj
    refine CompRest.succ fun v I oI C oC D m₂ h tk E' hP hC hx F N off ne => ?_
    refine wpAny_mono (turn i ys news v I oI C oC D m₂ h tk E' (by omega) hj hP hC hx F N off ne) (fun y s₂ q => ?_) fun _ _ q => q
    obtain ⟨h', tk', news', e', F', N', o', hS, r⟩ := q
    exact ⟨h', tk', news', e', F', N', o', hS, ih _ _ _ (by omega) r⟩
end

end Mine
namespace Mine
theorem ofEmpty : (Str.ofString "").cps = #[] := by decide +kernel
theorem join_none (ys : List Str) : (Txt.join (Str.ofString "") ys).cps.toList = (ys.map fun y => y.cps.toList).flatten := by
  show (Builtin.Str.glued _ _).cps.toList = _
  rw [StrLaws.glued_eq_join]
  induction ys with
  | nil => rfl
  | cons y r ih =>
    cases r with
    | nil => simp [Str.join]
    | cons z r =>
      show (y ++ Str.ofString "" ++ Str.join (Str.ofString "") (z :: r)).cps.toList = _
      rw [Str.cps_append, Str.cps_append, Array.toList_append, Array.toList_append, ih, ofEmpty]
      simp
theorem glue_ones (l : List UInt8) : (Txt.join (Str.ofString "") (l.map fun c => (⟨#[c.toNat]⟩ : Str))).cps.toList = l.map (·.toNat) := by
  rw [join_none]
  induction l with
  | nil => rfl
  | cons c l ih => simp_all
theorem len_ones (l : List UInt8) : ((l.map fun c => (⟨#[c.toNat]⟩ : Str)).map (·.length)).sum = l.length := by
  induction l with
  | nil => rfl
  | cons c l ih => simp only [List.map_cons, List.sum_cons, ih, List.length_cons]; show 1 + l.length = _; omega
theorem apF_len (J n : Nat) (acc : List UInt8) : (apF J n acc).length ≤ acc.length + J := by
  induction J generalizing n acc with
  | zero => simp [apF]
  | succ J ih => rw [apF]; split
                 · omega
                 · have := ih (n / 16) (UInt8.ofNat (65 + n % 16) :: acc); simp only [List.length_cons] at this; omega
section
variable {prog : Program} {w : World} {A : Around} {E : Value → Shared → Prop} {s : Shared} {h₀ : Heap} {L : Addr} {m : Str → Option Value} {Q : Value → Shared → Prop}
/-- a text's signs, each a text -/
noncomputable def ones (x : Str) : List Str := x.cps.toList.map fun c => ⟨#[c]⟩
theorem strsAre_get : ∀ {vs : List Value} {ys : List Str}, vs.length = ys.length → (∀ (j : Nat) (y : Str), ys[j]? = some y → ∃ t, vs[j]? = some (Value.str y t)) → StrsAre vs ys
  | [], [], _, _ => .nil
  | [], _ :: _, e, _ => nomatch e
  | _ :: _, [], e, _ => nomatch e
  | v :: vs, y :: ys, hl, h => by
    obtain ⟨t, e⟩ := h 0 y rfl
    cases e
    exact .cons y t (strsAre_get (by simpa using hl) fun j y' e => h (j + 1) y' e)
theorem list_strK {x : Str} {t : Tok} {news : List (Addr × Obj)} (hh : A.handled = none) (F : Fr h₀ L s.heap m) (N : News h₀ L s.heap news) (hsz : x.cps.size ≤ 16777216)
    (hQ : ∀ a h' tk ys c, Fr h₀ L h' m → News h₀ L h' ((a, listOf ys c) :: news) → (∀ p ∈ news, p.1 < a) → StrsAre ys.toList (ones x) → Q (.ref a) { s with heap := h', toks := tk }) :
    wpAny (model prog w) A (call (.type "list") [.str x t]) Q E s := by
  refine call_list_str hh x t (hn := by rw [sizeLine_eq]; exact hsz) fun h' tk acc' c' hk hS' hacc => ?_
  have lt : ∀ p ∈ news, p.1 < s.heap.objs.size := fun p hp => Heap.lt_size (N p hp).1
  have F' := F.keeps hk
  refine hQ _ h' tk acc' c' F' (fun p hp => ?_) lt (strsAre_get (by rw [Array.length_toList, hacc.1]; simp [ones]) fun j y hj => ?_)
  · rcases List.mem_cons.mp hp with rfl | hp
    · refine ⟨hS', Nat.ne_of_gt F.ns.lt, ?_⟩
      cases e : h₀.get? s.heap.objs.size with
      | none => rfl
      | some o => exact absurd (Heap.lt_size (F.keep _ _ e)) (Nat.lt_irrefl _)
    · exact ⟨hk _ _ (N p hp).1, (N p hp).2⟩
  · have hj' : j < x.cps.size := by
      have := (List.getElem?_eq_some_iff.mp hj).1
      simpa [ones] using this
    have hlt : j < acc'.size := Nat.lt_of_lt_of_eq hj' hacc.1.symm
    obtain ⟨c, u, hc, e⟩ := hacc.2 j (acc'[j]'hlt) (Array.getElem?_eq_getElem hlt)
    have hv : acc'.toList[j]? = some (.str ⟨#[c]⟩ u) := by rw [← e]; simp [hlt]
    rw [hv]
    have : y = ⟨#[c]⟩ := by
      have h2 : (ones x)[j]? = some (⟨#[c]⟩ : Str) := by simp [ones, hc]
      rw [hj] at h2; exact Option.some.inj h2
    exact ⟨u, by rw [this]⟩
end
theorem strs_len {vs : List Value} {ys : List Str} (h : StrsAre vs ys) : vs.length = ys.length := by induction h with
  | nil => rfl
  | cons _ _ _ ih => simp [ih]
theorem strs_rev {vs : List Value} {ys : List Str} (h : StrsAre vs ys) : StrsAre vs.reverse ys.reverse := by induction h with
  | nil => exact .nil
  | cons y t _ ih => simp only [List.reverse_cons]; exact KStt.strs_snoc ih
theorem ones_len (x : Str) : (ones x).length = x.cps.size := by simp [ones]

theorem strs_snoc_inv : ∀ {ys : List Str} {vs : List Value} {y : Str}, StrsAre vs (ys ++ [y]) → ∃ ws t, vs = ws ++ [.str y t] ∧ StrsAre ws ys
  | [], vs, y, h => by
    cases h with | cons _ t r => cases r; exact ⟨[], t, rfl, .nil⟩
  | z :: ys, vs, y, h => by
    cases h with | cons _ t r =>
    obtain ⟨ws, t', rfl, h'⟩ := strs_snoc_inv r
    exact ⟨_ :: ws, t', rfl, .cons _ _ h'⟩
section
variable {prog : Program} {w : World} {A : Around} {E : Value → Shared → Prop} {s : Shared} {Q : Bool → Shared → Prop} {l : Addr}
theorem truthy_snoc {p : List Value} {y : Value} (hl : s.heap.IsList l (p ++ [y]).toArray) (hz : p.length ≤ 1000000) (h : Q true { s with toks := s.toks + 1 + 1 }) : wpAny (model prog w) A (truthy (.ref l)) Q E s :=
  wpAny_truthy_list hl (by simp; omega) (by rw [show (!Array.isEmpty _) = true from by simp [Array.isEmpty]]; exact h)
theorem truthy_cons {p : List Value} {y : Value} (hl : s.heap.IsList l (y :: p).toArray) (hz : p.length ≤ 1000000) (h : Q true { s with toks := s.toks + 1 + 1 }) : wpAny (model prog w) A (truthy (.ref l)) Q E s :=
  wpAny_truthy_list hl (by simp; omega) (by rw [show (!Array.isEmpty _) = true from by simp [Array.isEmpty]]; exact h)
theorem truthy_nil (hl : s.heap.IsList l ([] : List Value).toArray) (h : Q false { s with toks := s.toks + 1 + 1 }) : wpAny (model prog w) A (truthy (.ref l)) Q E s :=
  wpAny_truthy_list hl (by simp) (by simpa using h)
end

end Mine
namespace Mine
section
variable {prog : Program} {w : World} {A : Around} {E : Value → Shared → Prop} {s : Shared} {h₀ : Heap} {L : Addr} {m : Str → Option Value} {news : List (Addr × Obj)} {σ α : Type}
/-- the end of a turn over pairs -/
noncomputable def PairEnd (h₀ : Heap) (L : Addr) (vars : σ → List (Str × Value)) (led : σ → List (Addr × Obj)) (ok : Nat → σ → Prop) (own led₁ : List (Addr × Obj)) (i : Nat) (s₁ s₂ : Shared) : Prop :=
  ∃ h' tk m' y, s₂ = { s₁ with heap := h', toks := tk } ∧ ok i y ∧ Fr h₀ L h' m' ∧ HasB m' (vars y) ∧ News h₀ L h' (led y ++ own) ∧ (led y).map (·.1) = led₁.map (·.1)
theorem PairEnd.mk {vars : σ → List (Str × Value)} {led : σ → List (Addr × Obj)} {ok : Nat → σ → Prop} {own led₁ all : List (Addr × Obj)} {i : Nat} {s₁ : Shared} {h' : Heap} {tk : Nat} {m' : Str → Option Value} (y : σ)
    (F : Fr h₀ L h' m') (N : News h₀ L h' all) (hb : HasB m' (vars y)) (hl : ∀ p ∈ led y ++ own, p ∈ all) (ha : (led y).map (·.1) = led₁.map (·.1)) (h : ok i y) : PairEnd h₀ L vars led ok own led₁ i s₁ { s₁ with heap := h', toks := tk } :=
  ⟨h', tk, m', y, rfl, h, F, hb, news_of N hl, ha⟩
theorem pair_st {K : ItemKind α} {as : List α} {xv : Value} {env : Env} (S : PairSrcL prog w A E h₀ L K as xv s m news) (hL : env.locals = L) {xi xc : Str} {body : List Stmt} {Q : Flow → Shared → Prop}
    (vars : σ → List (Str × Value)) (led : σ → List (Addr × Obj)) (ok : Nat → σ → Prop) (y : σ) (hb : HasB m (vars y)) (hl : news = led y) (h : ok 0 y)
    (turn : ∀ i a y t v h tk m₁ own, as[i]? = some a → K.is a v → ok i y → OwnOff own ((led y).map (·.1)) → Fr h₀ env.locals h (fun z => if z = xc then some v else if z = xi then some (.int i t) else mB (vars y) m₁ z) → News h₀ env.locals h (led y ++ own) →
      wpAny (model prog w) A (execs body env) (fun f s₂ => match f with
        | .ret v => Q (.ret v) s₂
        | .brk => Q .next s₂
        | _ => PairEnd h₀ env.locals vars led ok own (led y) (i + 1) { s with heap := h, toks := tk } s₂) (fun _ _ => False) { s with heap := h, toks := tk })
    (done : ∀ h' tk m₁ y, ok as.length y → Fr h₀ env.locals h' (mB (vars y) m₁) → News h₀ env.locals h' (led y) → Q .next { s with heap := h', toks := tk }) :
    wpAny (model prog w) A (pyIter xv) (fun it s₂ => PairAt3 prog w A h₀ env xi xc body Q E it s₂) E s := by
  subst hl
  refine S.at env hL xi xc body Q (fun i m₁ news₁ => ∃ y, ok i y ∧ HasB m₁ (vars y) ∧ news₁ = led y) ⟨y, h, hb, rfl⟩ ?_ ?_
  · rintro i a t v m₁ news₁ s₁ own ⟨h', tk, rfl⟩ ha hk ⟨y₁, h₁, hb₁, rfl⟩ hm hoff F N
    rw [← mB_eq hb₁] at F
    refine wpAny_mono (turn i a y₁ t v h' tk m₁ own ha hk h₁ ?_ F (fun p hp => N p ((List.mem_append.mp hp).elim (List.mem_append_right _) (List.mem_append_left _)))) (fun f s₂ p => ?_) fun _ _ e => e.elim
    · intro p hp b hb e
      rw [hm] at hb
      obtain ⟨q, hq, rfl⟩ := List.mem_map.mp hb
      exact hoff p hp q hq e
    · have fin : PairEnd h₀ env.locals vars led ok own (led y₁) (i + 1) { s with heap := h', toks := tk } s₂ → LoopStep2 h₀ env.locals own (led y₁) (fun m₁ news₁ => ∃ y, ok (i + 1) y ∧ HasB m₁ (vars y) ∧ news₁ = led y) { s with heap := h', toks := tk } .next s₂ := by
        rintro ⟨h'', tk', m', y₂, e, h₂, F₂, hb₂, N₂, ha₂⟩
        exact ⟨rfl, h'', tk', m', led y₂, e, F₂, fun p hp => N₂ p ((List.mem_append.mp hp).elim (List.mem_append_right _) (List.mem_append_left _)), ha₂, y₂, h₂, hb₂, rfl⟩
      cases f with
      | ret v => exact p
      | brk => exact p
      | cont => exact fin p
      | next => exact fin p
  · rintro h' tk m' news' F N hm ⟨y₁, h₁, hb₁, rfl⟩
    exact done h' tk m' y₁ h₁ (fr_mB F hb₁) N
end

end Mine
namespace Mine
/-- one letter as it is spelled by a choice below 16 -/
noncomputable def spell1 (c ch : Nat) : List Nat := (if ch % 4 > 1 then [34] else []) ++ (if ch % 2 = 1 then [92] else []) ++ [c] ++ (if ch % 4 > 1 then [34] else []) ++ [([9, 10, 13, 32] : List Nat).getD (ch / 4) 0]
noncomputable def spellN (total : Nat) : Nat → List Nat → List Nat
  | _, [] => []
  | i, c :: r => spell1 c (total / 16 ^ i % 16) ++ spellN total (i + 1) r
theorem spell1_len (c ch : Nat) : (spell1 c ch).length ≤ 5 := by
  unfold spell1; split <;> split <;> simp
theorem spellN_len (total : Nat) : ∀ (r : List Nat) (i : Nat), (spellN total i r).length ≤ 5 * r.length
  | [], _ => by simp [spellN]
  | c :: r, i => by
    have h1 := spell1_len c (total / 16 ^ i % 16)
    have h2 := spellN_len total r (i + 1)
    simp only [spellN, List.length_append, List.length_cons]; omega
theorem log16 : ∀ i : Fin 10, ((16 : Int) ^ ((i.val : Int)).toNat).natAbs.log2 < 9000 := by decide +kernel
theorem pyl16 {a : Int} {i : Nat} (hi : i < 10) : Builtin.divisionGoesByPylong a (16 ^ ((i : Int)).toNat) = false := PyProof.noPylong_of_log2 (log16 ⟨i, hi⟩)
theorem log5 : ∀ i : Fin 10, ((5 : Int) ^ ((i.val : Int)).toNat).natAbs.log2 < 9000 := by decide +kernel
theorem pyl5 {a : Int} {i : Nat} (hi : i < 10) : Builtin.divisionGoesByPylong a (5 ^ ((i : Int)).toNat) = false := PyProof.noPylong_of_log2 (log5 ⟨i, hi⟩)
theorem log9 : ∀ i : Fin 10, ((9 : Int) ^ ((i.val : Int)).toNat).natAbs.log2 < 9000 := by decide +kernel
theorem pyl9 {a : Int} {i : Nat} (hi : i < 10) : Builtin.divisionGoesByPylong a (9 ^ ((i : Int)).toNat) = false := PyProof.noPylong_of_log2 (log9 ⟨i, hi⟩)
theorem chN (b k n i : Nat) (hb : 0 < b) (hk : 0 < k) : ((n : Int).fdiv ((b : Int) ^ ((i : Int)).toNat)).fmod (k : Int) = ((n / b ^ i % k : Nat) : Int) := by
  have e : ((b : Int) ^ ((i : Int)).toNat) = ((b ^ i : Nat) : Int) := by simp
  rw [e, Int.fdiv_eq_ediv_of_nonneg _ (by omega), Int.fmod_eq_emod_of_nonneg _ (by omega)]
  simp
theorem chN16 (n i : Nat) : ((n : Int).fdiv ((16 : Int) ^ ((i : Int)).toNat)).fmod 16 = ((n / 16 ^ i % 16 : Nat) : Int) := chN 16 16 n i (by decide) (by decide)
theorem item_ws16 : ∀ ch : Fin 16, (Txt.item (Str.ofString "\t\n\x0d ") ((ch.val : Int).fdiv 4)).cps.toList = [([9, 10, 13, 32] : List Nat).getD (ch.val / 4) 0] := by decide +kernel
theorem item_ws {ch : Nat} (h : ch < 16) : (Txt.item (Str.ofString "\t\n\x0d ") ((ch : Int).fdiv 4)).cps.toList = [([9, 10, 13, 32] : List Nat).getD (ch / 4) 0] := item_ws16 ⟨ch, h⟩
theorem quo_list : (Str.ofString "\"").cps.toList = [34] := by decide +kernel
theorem bsl_list : (Str.ofString "\\").cps.toList = [92] := by decide +kernel
theorem fm2 (ch : Nat) : (ch : Int).fmod 2 = ((ch % 2 : Nat) : Int) := by rw [Int.fmod_eq_emod_of_nonneg _ (by decide)]; omega
theorem fm4 (ch : Nat) : (ch : Int).fmod 4 = ((ch % 4 : Nat) : Int) := by rw [Int.fmod_eq_emod_of_nonneg _ (by decide)]; omega
theorem spell_step {n i c ch : Nat} {x text sp : Str} (hch : ch = n / 16 ^ i % 16) (hx : x.cps.toList[i]? = some c) (hok : text.cps.toList ++ spellN n i (x.cps.toList.drop i) = spellN n 0 x.cps.toList) (hl : text.length ≤ 5 * i)
    (hs : sp.cps.toList = spell1 c ch) : (text ++ sp).cps.toList ++ spellN n (i + 1) (x.cps.toList.drop (i + 1)) = spellN n 0 x.cps.toList ∧ (text ++ sp).length ≤ 5 * (i + 1) := by
  have hd : x.cps.toList.drop i = c :: x.cps.toList.drop (i + 1) := by
    obtain ⟨h, e⟩ := List.getElem?_eq_some_iff.mp hx
    rw [List.drop_eq_getElem_cons h, e]
  constructor
  · rw [hd, spellN, ← hch] at hok
    rw [Str.cps_append, Array.toList_append, hs, List.append_assoc]; exact hok
  · have h1 := spell1_len c ch
    rw [← hs] at h1
    rw [Str.length_append]
    have : sp.length = sp.cps.toList.length := by simp [Str.length]
    omega

end Mine
namespace Mine
section
variable {prog : Program} {w : World} {A : Around} {E : Value → Shared → Prop} {s : Shared} {h₀ : Heap} {m : Str → Option Value} {news : List (Addr × Obj)} {σ : Type} {env : Env}
/-- the end of a turn over a list of the ledger -/
noncomputable def ListEnd (h₀ : Heap) (L : Addr) (vars : σ → List (Str × Value)) (led : σ → List (Addr × Obj)) (ok : Nat → σ → Prop) (own : List (Addr × Obj)) (i : Nat) (s₁ s₂ : Shared) : Prop :=
  ∃ h' tk m' y, s₂ = { s₁ with heap := h', toks := tk } ∧ ok i y ∧ Fr h₀ L h' m' ∧ HasB m' (vars y) ∧ News h₀ L h' (led y ++ own)
theorem ListEnd.mk {L : Addr} {vars : σ → List (Str × Value)} {led : σ → List (Addr × Obj)} {ok : Nat → σ → Prop} {own all : List (Addr × Obj)} {i : Nat} {s₁ : Shared} {h' : Heap} {tk : Nat} {m' : Str → Option Value} (y : σ)
    (F : Fr h₀ L h' m') (N : News h₀ L h' all) (hb : HasB m' (vars y)) (hl : ∀ p ∈ led y ++ own, p ∈ all) (h : ok i y) : ListEnd h₀ L vars led ok own i s₁ { s₁ with heap := h', toks := tk } :=
  ⟨h', tk, m', y, rfl, h, F, hb, news_of N hl⟩
theorem for_list {l : Addr} {its : List Value} {c : Nat} {x : Str} {px : Pos} {body : List Stmt} {R : Result → Shared → Prop} (F : Fr h₀ env.locals s.heap m) (N : News h₀ env.locals s.heap news) (hm : (l, listOf its.toArray c) ∈ news) (hh : A.handled = none)
    (vars : σ → List (Str × Value)) (led : σ → List (Addr × Obj)) (ok : Nat → σ → Prop) (adr : List Addr) (y : σ) (hb : HasB m (vars y)) (hl : ∀ p ∈ led y, p ∈ news) (h : ok 0 y)
    (hled : ∀ i y, ok i y → ∀ p ∈ led y, p.1 ∈ l :: adr) (hadr : ∀ a ∈ adr, a ≠ l ∧ ∃ o, (a, o) ∈ news)
    (turn : ∀ i v y h tk m₁ own, its[i]? = some v → ok i y → OwnOff own adr → Fr h₀ env.locals h (fun z => if z = x then some v else mB (vars y) m₁ z) → News h₀ env.locals h (led y ++ own) →
      wpAny (model prog w) A (execs body env) (fun f s₂ => match f with
        | .ret v => R (.ok (.ret v)) s₂
        | .brk => R (.ok .next) s₂
        | _ => ListEnd h₀ env.locals vars led ok own (i + 1) { s with heap := h, toks := tk } s₂) (fun _ _ => False) { s with heap := h, toks := tk })
    (done : ∀ h' tk m₁ y, ok its.length y → Fr h₀ env.locals h' (mB (vars y) m₁) → News h₀ env.locals h' (led y) → R (.ok .next) { s with heap := h', toks := tk })
    (hx : env.kindOf x = some .local := by rfl) (hp : (env.scope.kind == .class || (env.scope.kind == .module && env.locals != env.globals)) = false := by rfl) :
    wpAny (model prog w) A (pyIter (.ref l)) (fun it s₂ => codeAny (model prog w) A (.forLoop (.Name x px) it body [] env) R s₂) E s := by
  have hls : s.heap.IsList l its.toArray := ⟨_, (N _ hm).1, rfl, _, rfl⟩
  have hlt : l < s.heap.objs.size := Heap.lt_size (N _ hm).1
  have hlL : l ≠ env.locals := (N _ hm).2.1
  have hLs : env.locals < s.heap.objs.size := F.ns.lt
  refine wpAny_pyIter_list hls ?_
  have W := Walks.list (prog := prog) (w := w) hh s.heap.objs.size l (Nat.ne_of_lt hlt) its.toArray
  have up : ∀ b o, s.heap.get? b = some o → (s.heap.push { cls := .type "list_iterator", data := .fields #[.ref l, .int 0 0] }).get? b = some o := fun b o e => Heap.get?_push_of_some _ e
  refine codeAny_forLoop_frV W hx hp (fun hq => ?_) (fun b hb => ?_) (fun p hp hq => ?_) ⟨⟨_, Heap.get?_push_size _ rfl, rfl, rfl⟩, hls.push _⟩ (F.keeps up) (N.grown up)
    (fun i m₁ news₁ => ∃ y, ok i y ∧ HasB m₁ (vars y) ∧ ∀ p ∈ led y, p ∈ news₁) ⟨y, h, hb, hl⟩ ?_ ?_
  · rcases List.mem_cons.mp hq with e | hq
    · exact absurd hLs (by rw [e]; exact Nat.lt_irrefl _)
    · exact hlL (List.mem_singleton.mp hq).symm
  · rw [List.mem_singleton.mp hb]; exact next_is_new F
  · exact absurd (Heap.lt_size (N p hp).1) (by rw [List.mem_singleton.mp hq]; exact Nat.lt_irrefl _)
  · rintro i v m₁ news₁ s₁ own ⟨h', tk, rfl⟩ hi hv ⟨y₁, h₁, hb₁, hl₁⟩ hnw hown hown2 hall hSt F₁ N₁
    rw [← mB_eq hb₁] at F₁
    have off : OwnOff own adr := fun p hp b hb e => by
      obtain ⟨h1, o, h2⟩ := hadr b hb
      rcases List.mem_cons.mp (hown p hp) with h3 | h3
      · exact absurd (Heap.lt_size (N _ h2).1) (by show ¬ b < _; rw [← e, h3]; exact Nat.lt_irrefl _)
      · exact h1 (by rw [← e]; exact List.mem_singleton.mp h3)
    refine wpAny_mono (turn i v y₁ h' tk m₁ own (by simpa using hv) h₁ off F₁ (fun p hp => N₁ p ((List.mem_append.mp hp).elim (fun z => List.mem_append_right _ (hl₁ p z)) (List.mem_append_left _)))) (fun f s₂ p => ?_) fun _ _ e => e.elim
    have fin : ListEnd h₀ env.locals vars led ok own (i + 1) { s with heap := h', toks := tk } s₂ → LoopStepU h₀ env.locals [s.heap.objs.size] own (fun m₁ news₁ => ∃ y, ok (i + 1) y ∧ HasB m₁ (vars y) ∧ ∀ p ∈ led y, p ∈ news₁) { s with heap := h', toks := tk } .next s₂ := by
      rintro ⟨h'', tk', m', y₂, e, h₂, F₂, hb₂, N₂⟩
      refine ⟨rfl, h'', tk', m', led y₂, e, F₂, fun p hp => N₂ p ((List.mem_append.mp hp).elim (List.mem_append_right _) (List.mem_append_left _)), fun p hp hq => ?_, y₂, h₂, hb₂, fun _ z => z⟩
      have z := hled _ _ h₂ p hp
      have e1 : p.1 = s.heap.objs.size := List.mem_singleton.mp hq
      rcases List.mem_cons.mp z with e2 | z
      · exact absurd hlt (by rw [← e2, e1]; exact Nat.lt_irrefl _)
      · obtain ⟨_, o, h2⟩ := hadr _ z
        exact absurd (Heap.lt_size (N _ h2).1) (by show ¬ p.1 < _; rw [e1]; exact Nat.lt_irrefl _)
    cases f with
    | ret v => exact .ret p
    | brk => exact .brk p
    | cont => exact .cont (fin p)
    | next => exact .next (fin p)
  · rintro h' tk m' news' F₁ N₁ _ ⟨y₁, h₁, hb₁, hl₁⟩
    exact done h' tk m' y₁ (by simpa using h₁) (fr_mB F₁ hb₁) (news_of N₁ hl₁)
end
section
variable {prog : Program} {w : World} {A : Around} {E : Value → Shared → Prop} {s : Shared} {h₀ : Heap} {m : Str → Option Value} {news : List (Addr × Obj)} {σ : Type} {env : Env}
theorem for_listR {l : Addr} {its : List Value} {c : Nat} {x : Str} {px : Pos} {body : List Stmt} {R : Result → Shared → Prop} (F : Fr h₀ env.locals s.heap m) (N : News h₀ env.locals s.heap news) (hm : (l, listOf its.toArray c) ∈ news) (hh : A.handled = none)
    (vars : σ → List (Str × Value)) (ok : Nat → σ → Prop) (y : σ) (hb : HasB m (vars y)) (h : ok 0 y)
    (turn : ∀ i v y h tk m₁ own, its[i]? = some v → ok i y → Fr h₀ env.locals h (fun z => if z = x then some v else mB (vars y) m₁ z) → News h₀ env.locals h (news ++ own) →
      wpAny (model prog w) A (execs body env) (fun f s₂ => match f with
        | .ret v => R (.ok (.ret v)) s₂
        | .brk => R (.ok .next) s₂
        | _ => ListEnd h₀ env.locals vars (fun _ => news) ok own (i + 1) { s with heap := h, toks := tk } s₂) (fun _ _ => False) { s with heap := h, toks := tk })
    (done : ∀ h' tk m₁ y, ok its.length y → Fr h₀ env.locals h' (mB (vars y) m₁) → News h₀ env.locals h' news → R (.ok .next) { s with heap := h', toks := tk })
    (hx : env.kindOf x = some .local := by rfl) (hp : (env.scope.kind == .class || (env.scope.kind == .module && env.locals != env.globals)) = false := by rfl) :
    wpAny (model prog w) A (pyIter (.ref l)) (fun it s₂ => codeAny (model prog w) A (.forLoop (.Name x px) it body [] env) R s₂) E s := by
  refine for_list F N hm hh vars (fun _ => news) ok ((news.map (·.1)).filter fun a => decide (a ≠ l)) y hb (fun _ z => z) h (fun i y _ p hp => ?_) (fun a ha => ?_) (fun i v y h tk m₁ own h1 h2 _ => turn i v y h tk m₁ own h1 h2) done hx hp
  · by_cases e : p.1 = l
    · rw [e]; exact .head _
    · exact .tail _ (List.mem_filter.mpr ⟨List.mem_map_of_mem hp, decide_eq_true e⟩)
  · obtain ⟨h1, h2⟩ := List.mem_filter.mp ha
    obtain ⟨p, hp, rfl⟩ := List.mem_map.mp h1
    exact ⟨of_decide_eq_true h2, p.2, hp⟩
end
theorem ints_at : ∀ {vs : List Value} {ns : List Int} {i : Nat} {v : Value}, IntsAre vs ns → vs[i]? = some v → ∃ k t, v = .int k t ∧ ns[i]? = some k
  | _, _, i, v, .nil, h => by simp at h
  | _, _, 0, v, .cons k t r, h => by
    simp only [List.getElem?_cons_zero, Option.some.injEq] at h
    exact ⟨k, t, h.symm, rfl⟩
  | _, _, i + 1, v, .cons k t r, h => by
    simp only [List.getElem?_cons_succ] at h ⊢
    exact ints_at r h

end Mine
namespace Mine
theorem raw_lt {d d' : Nat} {l : List (Addr × Obj)} (h : ∀ p ∈ l, p.1 < d) (hd : d ≤ d') : ∀ p ∈ l, p.1 < d' := fun p hp => Nat.lt_of_lt_of_le (h p hp) hd
theorem allLt_lt' {d d' : Nat} {l : List (Addr × Obj)} (h : AllLt d l) (hd : d ≤ d') : ∀ p ∈ l, p.1 < d' := raw_lt (allLt_lt h) hd
section
variable {prog : Program} {w : World} {A : Around} {E : Value → Shared → Prop} {s : Shared} {h₀ : Heap} {m : Str → Option Value} {σ : Type} {env : Env}
/-- the end of a turn over a list, where one object changes -/
noncomputable def ListEnd1 (h₀ : Heap) (L f : Addr) (vars : σ → List (Str × Value)) (ob : σ → Obj) (ok : Nat → σ → Prop) (R2 : List (Addr × Obj)) (i : Nat) (s₁ s₂ : Shared) : Prop :=
  ∃ h' tk m' y, s₂ = { s₁ with heap := h', toks := tk } ∧ ok i y ∧ Fr h₀ L h' m' ∧ HasB m' (vars y) ∧ News h₀ L h' ((f, ob y) :: R2)
theorem ListEnd1.mk {L f : Addr} {vars : σ → List (Str × Value)} {ob : σ → Obj} {ok : Nat → σ → Prop} {R2 all : List (Addr × Obj)} {i : Nat} {s₁ : Shared} {h' : Heap} {tk : Nat} {m' : Str → Option Value} (y : σ)
    (F : Fr h₀ L h' m') (N : News h₀ L h' all) (hb : HasB m' (vars y)) (hl : ∀ p ∈ (f, ob y) :: R2, p ∈ all) (h : ok i y) : ListEnd1 h₀ L f vars ob ok R2 i s₁ { s₁ with heap := h', toks := tk } :=
  ⟨h', tk, m', y, rfl, h, F, hb, news_of N hl⟩
theorem for_listL {f l : Addr} {its : List Value} {c : Nat} {x : Str} {px : Pos} {body : List Stmt} {R : Result → Shared → Prop} {rest : List (Addr × Obj)} (F : Fr h₀ env.locals s.heap m)
    (vars : σ → List (Str × Value)) (ob : σ → Obj) (ok : Nat → σ → Prop) (y : σ) (N : News h₀ env.locals s.heap ((f, ob y) :: rest)) (hm : (l, listOf its.toArray c) ∈ rest) (hf : ∀ p ∈ rest, p.1 < f) (hh : A.handled = none) (hb : HasB m (vars y)) (h : ok 0 y)
    (turn : ∀ i v y h tk m₁ R2, its[i]? = some v → ok i y → (∀ p ∈ R2, p.1 ≠ f) → (∀ p ∈ rest, p ∈ R2) → Fr h₀ env.locals h (fun z => if z = x then some v else mB (vars y) m₁ z) → News h₀ env.locals h ((f, ob y) :: R2) →
      wpAny (model prog w) A (execs body env) (fun f' s₂ => match f' with
        | .ret v => R (.ok (.ret v)) s₂
        | .brk => R (.ok .next) s₂
        | _ => ListEnd1 h₀ env.locals f vars ob ok R2 (i + 1) { s with heap := h, toks := tk } s₂) (fun _ _ => False) { s with heap := h, toks := tk })
    (done : ∀ h' tk m₁ y, ok its.length y → Fr h₀ env.locals h' (mB (vars y) m₁) → News h₀ env.locals h' ((f, ob y) :: rest) → R (.ok .next) { s with heap := h', toks := tk })
    (hx : env.kindOf x = some .local := by rfl) (hp : (env.scope.kind == .class || (env.scope.kind == .module && env.locals != env.globals)) = false := by rfl) :
    wpAny (model prog w) A (pyIter (.ref l)) (fun it s₂ => codeAny (model prog w) A (.forLoop (.Name x px) it body [] env) R s₂) E s := by
  have hfl : f ≠ l := fun e => Nat.lt_irrefl l (e ▸ hf _ hm)
  refine for_list F N (List.mem_cons_of_mem _ hm) hh vars (fun y => (f, ob y) :: rest) ok (f :: (rest.map (·.1)).filter fun a => decide (a ≠ l)) y hb (fun _ z => z) h (fun i y _ p hp => ?_) (fun a ha => ?_) (fun i v y h tk m₁ own h1 h2 h3 h4 h5 => ?_) done hx hp
  · rcases List.mem_cons.mp hp with rfl | hp
    · exact .tail _ (.head _)
    · by_cases e : p.1 = l
      · rw [e]; exact .head _
      · exact .tail _ (.tail _ (List.mem_filter.mpr ⟨List.mem_map_of_mem hp, decide_eq_true e⟩))
  · rcases List.mem_cons.mp ha with rfl | ha
    · exact ⟨hfl, _, .head _⟩
    · obtain ⟨h1, h2⟩ := List.mem_filter.mp ha
      obtain ⟨p, hp, rfl⟩ := List.mem_map.mp h1
      exact ⟨of_decide_eq_true h2, p.2, .tail _ hp⟩
  · refine wpAny_mono (turn i v y h tk m₁ (rest ++ own) h1 h2 (fun p hp => ?_) (fun p hp => List.mem_append_left _ hp) h4 h5) (fun f' s₃ q => ?_) fun _ _ x => x
    · rcases List.mem_append.mp hp with hp | hp
      · exact Nat.ne_of_lt (hf p hp)
      · exact h3 p hp f (.head _)
    · have fin : ListEnd1 h₀ env.locals f vars ob ok (rest ++ own) (i + 1) { s with heap := h, toks := tk } s₃ → ListEnd h₀ env.locals vars (fun y => (f, ob y) :: rest) ok own (i + 1) { s with heap := h, toks := tk } s₃ :=
        fun ⟨h', tk', m', y', e1, e2, e3, e4, e5⟩ => ⟨h', tk', m', y', e1, e2, e3, e4, e5⟩
      cases f' with
      | ret v => exact q
      | brk => exact q
      | cont => exact fin q
      | next => exact fin q
end

end Mine
namespace Mine
noncomputable abbrev mkS (l : List Nat) : Str := ⟨l.toArray⟩
theorem mkS_cps (l : List Nat) : (mkS l).cps.toList = l := by simp
theorem mkS_of (x : Str) : x = mkS x.cps.toList := by cases x; simp [mkS]
theorem mkS_inj {a b : List Nat} (h : mkS a = mkS b) : a = b := by
  have := congrArg (fun x : Str => x.cps.toList) h
  simpa using this
/-- two neighbours exchanged -/
noncomputable def swapAt (l : List Nat) (p : Nat) : List Nat := l.take (p - 1) ++ ([l.getD p 0] ++ ([l.getD (p - 1) 0] ++ l.drop (p + 1)))
structure PS where
  (fall rise : Nat) (met q : List (List Nat))
noncomputable def placeStep (row : List Nat) (p : Nat) (s : PS) : PS :=
  if row.getD p 0 < row.getD (p - 1) 0 then { s with fall := s.fall + p }
  else if row.getD (p - 1) 0 < row.getD p 0 then
    if swapAt row p ∈ s.met then { s with rise := s.rise + p } else { s with rise := s.rise + p, met := s.met ++ [swapAt row p], q := s.q ++ [swapAt row p] }
  else s
noncomputable def placeGo (row : List Nat) : Nat → Nat → PS → PS
  | 0, _, s => s
  | k + 1, p, s => placeGo row k (p + 1) (placeStep row p s)
structure RS where
  (met q : List (List Nat)) (rd fl ri : List Nat)
noncomputable def RS.fits (s : RS) : Bool := decide (s.met.length ≤ 100) && decide (s.q.length ≤ 100) && decide (s.fl.length ≤ 100) && decide (s.ri.length ≤ 100) && decide (s.rd.length ≤ 100) && s.q.all fun r => decide (1 ≤ r.length) && decide (r.length ≤ 8)
/-- a row is got and looked at -/
noncomputable def rowStep (s : RS) : Option RS := if s.fits then
  match s.q with
  | [] => none
  | row :: q => let t := placeGo row (row.length - 1) 1 ⟨0, 0, s.met, q⟩; some ⟨t.met, t.q, s.rd, s.fl ++ [t.fall], s.ri ++ [t.rise]⟩ else none
noncomputable def rowsGo : Nat → RS → Option RS
  | 0, s => some s
  | k + 1, s => (rowStep s).bind (rowsGo k)
/-- round by round -/
noncomputable def roundsGo : Nat → RS → Option RS
  | 0, _ => none
  | f + 1, s => if s.q = [] then some s else if s.fits then (rowsGo s.q.length { s with rd := s.rd ++ [s.q.length] }).bind (roundsGo f) else none
theorem placeStep_len (row : List Nat) (p : Nat) (s : PS) : (placeStep row p s).met.length ≤ s.met.length + 1 ∧ (placeStep row p s).q.length ≤ s.q.length + 1 := by
  unfold placeStep
  split
  · exact ⟨Nat.le_succ _, Nat.le_succ _⟩
  · split
    · split
      · exact ⟨Nat.le_succ _, Nat.le_succ _⟩
      · simp
    · exact ⟨Nat.le_succ _, Nat.le_succ _⟩
theorem swapAt_len (l : List Nat) (p : Nat) (h : 1 ≤ p) (hp : p < l.length) : (swapAt l p).length = l.length := by
  simp [swapAt]; omega
theorem swap_split (l : List Nat) (p : Nat) (h : 1 ≤ p) (hp : p < l.length) : l = l.take (p - 1) ++ ([l.getD (p - 1) 0] ++ ([l.getD p 0] ++ l.drop (p + 1))) := by
  have e1 : l.getD (p - 1) 0 = l[p - 1]'(by omega) := by rw [List.getD_eq_getElem?_getD, List.getElem?_eq_getElem (by omega)]; rfl
  have e2 : l.getD p 0 = l[p] := by rw [List.getD_eq_getElem?_getD, List.getElem?_eq_getElem hp]; rfl
  rw [e1, e2]
  conv => lhs; rw [← List.take_append_drop (p - 1) l]
  congr 1
  rw [List.drop_eq_getElem_cons (by omega)]
  simp only [List.cons_append, List.nil_append]
  congr 1
  rw [show p - 1 + 1 = p by omega, List.drop_eq_getElem_cons hp]
theorem lt_app (a b c : List Nat) : a ++ b < a ++ c ↔ b < c := by
  induction a with
  | nil => rfl
  | cons x a ih => simp [List.cons_lt_cons_iff, ih]
theorem coll_swap (l : List Nat) (p : Nat) (h : 1 ≤ p) (hp : p < l.length) :
    (swapAt l p < l ↔ l.getD p 0 < l.getD (p - 1) 0) ∧ (l < swapAt l p ↔ l.getD (p - 1) 0 < l.getD p 0) := by
  have e := swap_split l p h hp
  generalize hx : l.getD (p - 1) 0 = x at *
  generalize hy : l.getD p 0 = y at *
  have es : swapAt l p = l.take (p - 1) ++ ([y] ++ ([x] ++ l.drop (p + 1))) := by rw [swapAt, hx, hy]
  rw [es]
  constructor
  · conv => lhs; rhs; rw [e]
    rw [lt_app]
    simp only [List.cons_append, List.nil_append, List.cons_lt_cons_iff]
    constructor
    · rintro (h | ⟨h1, h2 | ⟨h3, h4⟩⟩)
      · exact h
      · omega
      · exact absurd h4 (List.lt_irrefl _)
    · exact fun h => .inl h
  · conv => lhs; lhs; rw [e]
    rw [lt_app]
    simp only [List.cons_append, List.nil_append, List.cons_lt_cons_iff]
    constructor
    · rintro (h | ⟨h1, h2 | ⟨h3, h4⟩⟩)
      · exact h
      · omega
      · exact absurd h4 (List.lt_irrefl _)
    · exact fun h => .inl h
noncomputable def RS.small (s : RS) : Prop := s.met.length ≤ 1000 ∧ s.q.length ≤ 1000 ∧ s.fl.length ≤ 1000 ∧ s.ri.length ≤ 1000 ∧ s.rd.length ≤ 1000
theorem RS.fits_small {s : RS} (h : s.fits = true) : (s.met.length ≤ 100 ∧ s.q.length ≤ 100 ∧ s.fl.length ≤ 100 ∧ s.ri.length ≤ 100 ∧ s.rd.length ≤ 100) ∧ ∀ r ∈ s.q, 1 ≤ r.length ∧ r.length ≤ 8 := by
  simp only [RS.fits, Bool.and_eq_true, decide_eq_true_eq, List.all_eq_true] at h
  exact ⟨⟨h.1.1.1.1.1, h.1.1.1.1.2, h.1.1.1.2, h.1.1.2, h.1.2⟩, h.2⟩
theorem placeGo_len (row : List Nat) : ∀ (k p : Nat) (s : PS), (placeGo row k p s).met.length ≤ s.met.length + k ∧ (placeGo row k p s).q.length ≤ s.q.length + k
  | 0, _, s => ⟨Nat.le_refl _, Nat.le_refl _⟩
  | k + 1, p, s => by
    have h1 := placeGo_len row k (p + 1) (placeStep row p s)
    have h2 := placeStep_len row p s
    show (placeGo row k (p + 1) (placeStep row p s)).met.length ≤ _ ∧ (placeGo row k (p + 1) (placeStep row p s)).q.length ≤ _
    omega
theorem rowStep_some {s s' : RS} (h : rowStep s = some s') : ∃ row q, s.q = row :: q ∧ s.fits = true ∧ s' = ⟨(placeGo row (row.length - 1) 1 ⟨0, 0, s.met, q⟩).met, (placeGo row (row.length - 1) 1 ⟨0, 0, s.met, q⟩).q, s.rd, s.fl ++ [(placeGo row (row.length - 1) 1 ⟨0, 0, s.met, q⟩).fall], s.ri ++ [(placeGo row (row.length - 1) 1 ⟨0, 0, s.met, q⟩).rise]⟩ := by
  unfold rowStep at h
  split at h
  · rename_i hf
    split at h
    · cases h
    · rename_i row q e
      exact ⟨row, q, e, hf, (Option.some.inj h).symm⟩
  · cases h
theorem rowStep_small {s s' : RS} (h : rowStep s = some s') : s'.small := by
  obtain ⟨row, q, e, hf, rfl⟩ := rowStep_some h
  obtain ⟨⟨h1, h2, h3, h4, h5⟩, h6⟩ := RS.fits_small hf
  rw [e] at h2 h6
  have h7 := h6 row (.head _)
  have h8 := placeGo_len row (row.length - 1) 1 ⟨0, 0, s.met, q⟩
  simp only [List.length_cons] at h2
  refine ⟨?_, ?_, ?_, ?_, ?_⟩ <;> simp only [List.length_append, List.length_singleton] at * <;> omega

end Mine
namespace Mine
theorem valueAt_some {K : Type} [DecidableEq K] {kvs : List (K × Value)} {k : K} : (valueAt kvs k).isSome = decide (k ∈ kvs.map (·.1)) := by
  unfold valueAt
  rw [Option.isSome_map, Bool.eq_iff_iff, List.find?_isSome, decide_eq_true_eq, List.mem_map]
  constructor
  · rintro ⟨p, hp, e⟩; exact ⟨p, hp, of_decide_eq_true e⟩
  · rintro ⟨p, hp, e⟩; exact ⟨p, hp, decide_eq_true e⟩
theorem stored_any {K : Type} [DecidableEq K] {kvs : List (K × Value)} {k : K} : (kvs.any fun kv => decide (kv.1 = k)) = decide (k ∈ kvs.map (·.1)) := by
  rw [Bool.eq_iff_iff, List.any_eq_true, decide_eq_true_eq, List.mem_map]
  constructor
  · rintro ⟨p, hp, e⟩; exact ⟨p, hp, of_decide_eq_true e⟩
  · rintro ⟨p, hp, e⟩; exact ⟨p, hp, decide_eq_true e⟩
theorem stored_new {K : Type} [DecidableEq K] {kvs : List (K × Value)} {k : K} {v : Value} (h : k ∉ kvs.map (·.1)) : (stored kvs k v).map (·.1) = kvs.map (·.1) ++ [k] := by
  unfold stored
  rw [stored_any, decide_eq_false h, if_neg Bool.false_ne_true, List.map_append]; rfl
theorem stored_old {K : Type} [DecidableEq K] {kvs : List (K × Value)} {k : K} {v : Value} (h : k ∈ kvs.map (·.1)) : (stored kvs k v).map (·.1) = kvs.map (·.1) := by
  unfold stored
  rw [stored_any, decide_eq_true h, if_pos rfl, List.map_map]
  refine List.map_congr_left fun p _ => ?_
  simp only [Function.comp]
  split <;> rfl
theorem mkS_mem {k : List Nat} {met : List (List Nat)} : mkS k ∈ met.map mkS ↔ k ∈ met := by
  rw [List.mem_map]
  exact ⟨fun ⟨a, h, e⟩ => mkS_inj e ▸ h, fun h => ⟨k, h, rfl⟩⟩
section
variable {prog : Program} {w : World} {A : Around} {E : Value → Shared → Prop} {s : Shared} {h₀ : Heap} {L d : Addr} {m : Str → Option Value} {news : List (Addr × Obj)} {o : Obj} {kvs : List (Str × Value)} {met : List (List Nat)} {k : List Nat} {Q : Value → Shared → Prop}
theorem list_dict (hh : A.handled = none) (F : Fr h₀ L s.heap m) (N : News h₀ L s.heap news) (hp : (d, o) ∈ news) (hd : o.IsDictOf (PySem.strKind prog w) kvs) (hk : kvs.map (·.1) = met.map mkS) (lo : (d == sysModules) = false) (hn : met.length ≤ 1000)
    (h : ∀ (B : Addr) c h' tk vs, StrsAre vs (met.map mkS) → Fr h₀ L h' m → News h₀ L h' ((B, listOf vs.toArray c) :: news) → (∀ q ∈ news, q.1 < B) → Q (.ref B) { s with heap := h', toks := tk }) :
    wpAny (model prog w) A (call (.type "list") [.ref d]) Q E s := by
  obtain ⟨ep, hat⟩ := (kda_dict N hp hd).dictAt
  have hl : kvs.length = met.length := by have := congrArg List.length hk; simpa using this
  refine kdl_N (kdl_dict (knd := PySem.strKind prog w) (kvs := kvs) (ep := ep) lo) hh F N hat (kdl_size (by omega)) fun B c h' tk vs F' N' l1 hl' hv => ?_
  refine h B c h' tk vs ?_ F' N' l1
  rw [← hk]
  refine strsAre_get (by rw [hl', List.length_map]) fun j y hj => ?_
  have hjl : j < vs.length := by
    have := (List.getElem?_eq_some_iff.mp hj).1
    rw [List.length_map] at this; omega
  obtain ⟨k, x, hx, hk'⟩ := hv j vs[j] (List.getElem?_eq_getElem hjl)
  obtain ⟨t, ht⟩ := Value.isStrOf_shape hk'
  rw [List.getElem?_map, hx] at hj
  obtain rfl := Option.some.inj hj
  exact ⟨t, by rw [List.getElem?_eq_getElem hjl, ht]⟩
theorem dict_notin {t : Tok} (N : News h₀ L s.heap news) (hp : (d, o) ∈ news) (hd : o.IsDictOf (PySem.strKind prog w) kvs) (hk : kvs.map (·.1) = met.map mkS) (lo : (d == sysModules) = false)
    (hin : k ∈ met → Q (.bool false) { s with toks := s.toks + 1 }) (hout : k ∉ met → Q (.bool true) { s with toks := s.toks + 1 }) : wpAny (model prog w) A (compareOp .NotIn (.str (mkS k) t) (.ref d)) Q E s := by
  by_cases h : k ∈ met
  · exact kdg_notin (knd := PySem.strKind prog w) N hp hd lo (strKind_is _ _ _ _) true (by rw [valueAt_some, hk]; exact decide_eq_true (mkS_mem.mpr h)) (hin h)
  · exact kdg_notin (knd := PySem.strKind prog w) N hp hd lo (strKind_is _ _ _ _) false (by rw [valueAt_some, hk]; exact decide_eq_false fun q => h (mkS_mem.mp q)) (hout h)
theorem dict_in {t : Tok} (N : News h₀ L s.heap news) (hp : (d, o) ∈ news) (hd : o.IsDictOf (PySem.strKind prog w) kvs) (hk : kvs.map (·.1) = met.map mkS) (lo : (d == sysModules) = false)
    (hin : k ∈ met → Q (.bool true) { s with toks := s.toks + 1 }) (hout : k ∉ met → Q (.bool false) { s with toks := s.toks + 1 }) : wpAny (model prog w) A (compareOp .In (.str (mkS k) t) (.ref d)) Q E s := by
  by_cases h : k ∈ met
  · exact kda_in (knd := PySem.strKind prog w) N hp hd lo (strKind_is _ _ _ _) true (by rw [valueAt_some, hk]; exact decide_eq_true (mkS_mem.mpr h)) (hin h)
  · exact kda_in (knd := PySem.strKind prog w) N hp hd lo (strKind_is _ _ _ _) false (by rw [valueAt_some, hk]; exact decide_eq_false fun q => h (mkS_mem.mp q)) (hout h)
end

end Mine
namespace Mine
section
variable {prog : Program} {w : World} {A : Around} {E : Value → Shared → Prop} {s : Shared} {h₀ : Heap} {m : Str → Option Value} {news : List (Addr × Obj)} {σ : Type} {env : Env}
/-- a loop over a range, by an invariant over named state and the whole ledger -/
theorem for_rangeI {r : Addr} {a b : Int} {n : Nat} {t u v : Tok} {x : Str} {px : Pos} {body : List Stmt} {R : Result → Shared → Prop} (F : Fr h₀ env.locals s.heap m) (N : News h₀ env.locals s.heap news) (hr : IsRange s.heap r a b 1 t u v) (hh : A.handled = none)
    (ha : -(2 ^ 62) ≤ a ∧ a < 2 ^ 62) (hb' : -(2 ^ 62) ≤ b ∧ b < 2 ^ 62) (hn : (if a < b then b - a else 0) = (n : Int))
    (vars : σ → List (Str × Value)) (led : σ → List (Addr × Obj)) (ok : Nat → σ → Prop) (y : σ) (hb : HasB m (vars y)) (hl : ∀ p ∈ led y, p ∈ news) (h : ok 0 y)
    (hadr : ∀ i y, ok i y → ∀ p ∈ led y, ∃ o, (p.1, o) ∈ news)
    (turn : ∀ (i : Nat) y t h tk m₁ own, i < n → ok i y → (∀ p ∈ own, ∀ q ∈ news, q.1 < p.1) → Fr h₀ env.locals h (fun z => if z = x then some (.int (a + (i : Int)) t) else mB (vars y) m₁ z) → News h₀ env.locals h (led y ++ own) →
      wpAny (model prog w) A (execs body env) (fun f s₂ => match f with
        | .ret v => R (.ok (.ret v)) s₂
        | .brk => R (.ok .next) s₂
        | _ => ListEnd h₀ env.locals vars led ok own (i + 1) { s with heap := h, toks := tk } s₂) (fun _ _ => False) { s with heap := h, toks := tk })
    (done : ∀ h' tk m₁ y, ok n y → Fr h₀ env.locals h' (mB (vars y) m₁) → News h₀ env.locals h' (led y) → R (.ok .next) { s with heap := h', toks := tk })
    (hx : env.kindOf x = some .local := by rfl) (hp : (env.scope.kind == .class || (env.scope.kind == .module && env.locals != env.globals)) = false := by rfl) :
    wpAny (model prog w) A (pyIter (.ref r)) (fun it s₂ => codeAny (model prog w) A (.forLoop (.Name x px) it body [] env) R s₂) E s := by
  refine wpAny_pyIter_range hr (small_one ha.1 ha.2 hb'.1 hb'.2) ?_
  have W := Walks.range (prog := prog) (w := w) (A := A) hh s.heap.objs.size a 1 n
  have up : ∀ b' o, s.heap.get? b' = some o → (s.heap.push { cls := .type "range_iterator", data := .fields #[rawInt a, rawInt (Builtin.Range.rangeSize a b 1), rawInt 1] }).get? b' = some o := fun b o e => Heap.get?_push_of_some _ e
  have hLs : env.locals < s.heap.objs.size := F.ns.lt
  have lt : ∀ p ∈ news, p.1 < s.heap.objs.size := fun p hp => Heap.lt_size (N p hp).1
  refine codeAny_forLoop_frV W hx hp (fun hq => ?_) (fun b hb => ?_) (fun p hp hq => ?_) ?_ (F.keeps up) (N.grown up)
    (fun i m₁ news₁ => ∃ y, ok i y ∧ HasB m₁ (vars y) ∧ ∀ p ∈ led y, p ∈ news₁) ⟨y, h, hb, hl⟩ ?_ ?_
  · exact absurd hLs (by rw [List.mem_singleton.mp hq]; exact Nat.lt_irrefl _)
  · rw [List.mem_singleton.mp hb]; exact next_is_new F
  · exact absurd (lt p hp) (by rw [List.mem_singleton.mp hq]; exact Nat.lt_irrefl _)
  · rw [rangeSize_one, hn]
    have e : a + ((0 : Nat) : Int) * 1 = a := by simp
    show IsRangeIter _ _ (a + ((0 : Nat) : Int) * 1) ((n : Int) - ((0 : Nat) : Int)) 1
    rw [e, show (n : Int) - ((0 : Nat) : Int) = n by simp]
    exact Heap.get?_push_size _ rfl
  · rintro i v m₁ news₁ s₁ own ⟨h', tk, rfl⟩ hi ⟨t, rfl⟩ ⟨y₁, h₁, hb₁, hl₁⟩ hnw hown hown2 hall hSt F₁ N₁
    rw [← mB_eq hb₁] at F₁
    rw [show a + (i : Int) * 1 = a + (i : Int) by simp] at F₁
    refine wpAny_mono (turn i y₁ t h' tk m₁ own hi h₁ (fun p hp q hq => ?_) F₁ (fun p hp => N₁ p ((List.mem_append.mp hp).elim (fun z => List.mem_append_right _ (hl₁ p z)) (List.mem_append_left _)))) (fun f s₂ p => ?_) fun _ _ e => e.elim
    · rw [List.mem_singleton.mp (hown p hp)]; exact lt q hq
    have fin : ListEnd h₀ env.locals vars led ok own (i + 1) { s with heap := h', toks := tk } s₂ → LoopStepU h₀ env.locals [s.heap.objs.size] own (fun m₁ news₁ => ∃ y, ok (i + 1) y ∧ HasB m₁ (vars y) ∧ ∀ p ∈ led y, p ∈ news₁) { s with heap := h', toks := tk } .next s₂ := by
      rintro ⟨h'', tk', m', y₂, e, h₂, F₂, hb₂, N₂⟩
      refine ⟨rfl, h'', tk', m', led y₂, e, F₂, fun p hp => N₂ p ((List.mem_append.mp hp).elim (List.mem_append_right _) (List.mem_append_left _)), fun p hp hq => ?_, y₂, h₂, hb₂, fun _ z => z⟩
      obtain ⟨o, ho⟩ := hadr _ _ h₂ p hp
      have := lt _ ho
      rw [List.mem_singleton.mp hq] at this
      exact absurd this (Nat.lt_irrefl _)
    cases f with
    | ret v => exact .ret p
    | brk => exact .brk p
    | cont => exact .cont (fin p)
    | next => exact .next (fin p)
  · rintro h' tk m' news' F₁ N₁ _ ⟨y₁, h₁, hb₁, hl₁⟩
    exact done h' tk m' y₁ h₁ (fr_mB F₁ hb₁) (news_of N₁ hl₁)
theorem for_range1 {b : Int} {n : Nat} {t : Tok} {x : Str} {px : Pos} {body : List Stmt} {R : Result → Shared → Prop} (F : Fr h₀ env.locals s.heap m) (N : News h₀ env.locals s.heap news) (hh : A.handled = none)
    (hn : b = (n : Int)) (hz : n ≤ 1000000)
    (vars : σ → List (Str × Value)) (led : σ → List (Addr × Obj)) (ok : Nat → σ → Prop) (y : σ) (hb : HasB m (vars y)) (hl : ∀ p ∈ led y, p ∈ news) (h : ok 0 y)
    (hadr : ∀ i y, ok i y → ∀ p ∈ led y, ∃ o, (p.1, o) ∈ news)
    (turn : ∀ (i : Nat) y t h tk m₁ own, i < n → ok i y → (∀ p ∈ own, ∀ q ∈ news, q.1 < p.1) → Fr h₀ env.locals h (fun z => if z = x then some (.int (0 + (i : Int)) t) else mB (vars y) m₁ z) → News h₀ env.locals h (led y ++ own) →
      wpAny (model prog w) A (execs body env) (fun f s₂ => match f with
        | .ret v => R (.ok (.ret v)) s₂
        | .brk => R (.ok .next) s₂
        | _ => ListEnd h₀ env.locals vars led ok own (i + 1) { s with heap := h, toks := tk } s₂) (fun _ _ => False) { s with heap := h, toks := tk })
    (done : ∀ h' tk m₁ y, ok n y → Fr h₀ env.locals h' (mB (vars y) m₁) → News h₀ env.locals h' (led y) → R (.ok .next) { s with heap := h', toks := tk })
    (hx : env.kindOf x = some .local := by rfl) (hp : (env.scope.kind == .class || (env.scope.kind == .module && env.locals != env.globals)) = false := by rfl) :
    wpAny (model prog w) A (call (.type "range") [.int b t]) (fun xv s₁ => wpAny (model prog w) A (pyIter xv) (fun it s₂ => codeAny (model prog w) A (.forLoop (.Name x px) it body [] env) R s₂) E s₁) E s := by
  subst hn
  refine call_range_1 ?_
  have up : ∀ b' o, s.heap.get? b' = some o → (s.heap.push { cls := .type "range", data := .fields #[.int 0 s.toks, .int (n : Int) t, .int 1 (s.toks + 1)] }).get? b' = some o := fun b o e => Heap.get?_push_of_some _ e
  refine for_rangeI (s := { s with heap := s.heap.push { cls := .type "range", data := .fields #[.int 0 s.toks, .int (n : Int) t, .int 1 (s.toks + 1)] }, toks := s.toks + 1 + 1 }) (F.keeps up) (fun p hp => ⟨up _ _ (N p hp).1, (N p hp).2⟩) (IsRange.new ..) hh ⟨by decide, by decide⟩ ⟨by omega, by omega⟩ (by split <;> omega) vars led ok y hb hl h hadr turn done hx hp
theorem for_range2 {a b : Int} {n : Nat} {t u : Tok} {x : Str} {px : Pos} {body : List Stmt} {R : Result → Shared → Prop} (F : Fr h₀ env.locals s.heap m) (N : News h₀ env.locals s.heap news) (hh : A.handled = none)
    (hn : (if a < b then b - a else 0) = (n : Int)) (hz : -1000000 ≤ a ∧ a ≤ 1000000) (hz' : -1000000 ≤ b ∧ b ≤ 1000000)
    (vars : σ → List (Str × Value)) (led : σ → List (Addr × Obj)) (ok : Nat → σ → Prop) (y : σ) (hb : HasB m (vars y)) (hl : ∀ p ∈ led y, p ∈ news) (h : ok 0 y)
    (hadr : ∀ i y, ok i y → ∀ p ∈ led y, ∃ o, (p.1, o) ∈ news)
    (turn : ∀ (i : Nat) y t h tk m₁ own, i < n → ok i y → (∀ p ∈ own, ∀ q ∈ news, q.1 < p.1) → Fr h₀ env.locals h (fun z => if z = x then some (.int (a + (i : Int)) t) else mB (vars y) m₁ z) → News h₀ env.locals h (led y ++ own) →
      wpAny (model prog w) A (execs body env) (fun f s₂ => match f with
        | .ret v => R (.ok (.ret v)) s₂
        | .brk => R (.ok .next) s₂
        | _ => ListEnd h₀ env.locals vars led ok own (i + 1) { s with heap := h, toks := tk } s₂) (fun _ _ => False) { s with heap := h, toks := tk })
    (done : ∀ h' tk m₁ y, ok n y → Fr h₀ env.locals h' (mB (vars y) m₁) → News h₀ env.locals h' (led y) → R (.ok .next) { s with heap := h', toks := tk })
    (hx : env.kindOf x = some .local := by rfl) (hp : (env.scope.kind == .class || (env.scope.kind == .module && env.locals != env.globals)) = false := by rfl) :
    wpAny (model prog w) A (call (.type "range") [.int a t, .int b u]) (fun xv s₁ => wpAny (model prog w) A (pyIter xv) (fun it s₂ => codeAny (model prog w) A (.forLoop (.Name x px) it body [] env) R s₂) E s₁) E s := by
  refine call_range_2 ?_
  have up : ∀ b' o, s.heap.get? b' = some o → (s.heap.push { cls := .type "range", data := .fields #[.int a t, .int b u, .int 1 s.toks] }).get? b' = some o := fun b o e => Heap.get?_push_of_some _ e
  refine for_rangeI (s := { s with heap := s.heap.push { cls := .type "range", data := .fields #[.int a t, .int b u, .int 1 s.toks] }, toks := s.toks + 1 }) (F.keeps up) (fun p hp => ⟨up _ _ (N p hp).1, (N p hp).2⟩) (IsRange.new ..) hh ⟨by omega, by omega⟩ ⟨by omega, by omega⟩ hn vars led ok y hb hl h hadr turn done hx hp
end

end Mine
namespace Mine
/-- the tokens that a frame's names hold -/
noncomputable def tokI : Option Value → Tok
  | some (.int _ t) => t
  | _ => 0
noncomputable def tokS : Option Value → Tok
  | some (.str _ t) => t
  | _ => 0
noncomputable def intI : Option Value → Int
  | some (.int z _) => z
  | _ => 0
theorem ListEnd.mkM {σ : Type} {h₀ : Heap} {L : Addr} {vars : σ → List (Str × Value)} {led : σ → List (Addr × Obj)} {ok : Nat → σ → Prop} {own all : List (Addr × Obj)} {i : Nat} {s₁ : Shared} {h' : Heap} {tk : Nat} {m' : Str → Option Value} (y : (Str → Option Value) → σ)
    (F : Fr h₀ L h' m') (N : News h₀ L h' all) (hb : HasB m' (vars (y m'))) (hl : ∀ p ∈ led (y m') ++ own, p ∈ all) (h : ok i (y m')) : ListEnd h₀ L vars led ok own i s₁ { s₁ with heap := h', toks := tk } :=
  ⟨h', tk, m', y m', rfl, h, F, hb, news_of N hl⟩
theorem TurnEnd.mkM {σ : Type} {h₀ h' : Heap} {L : Addr} {s : Shared} {vars : σ → List (Str × Value)} {led : σ → List (Addr × Obj)} {ok : Nat → σ → Prop} {n : Nat} {tk : Nat} {m' : Str → Option Value} {led' : List (Addr × Obj)}
    (k : Nat) (y : (Str → Option Value) → σ) (hk : k < n) (F : Fr h₀ L h' m') (N : News h₀ L h' led') (hb : HasB m' (vars (y m'))) (hl : ∀ p ∈ led (y m'), p ∈ led') (h : ok k (y m')) : TurnEnd h₀ L s vars led ok n { s with heap := h', toks := tk } :=
  ⟨k, y m', hk, h, h', tk, m', rfl, F, hb, fun p hp => N p (hl p hp)⟩

end Mine
namespace Mine
theorem slice_to (l : List Nat) (z : Int) (h0 : 0 ≤ z) (h : z ≤ l.length) : Txt.slice (mkS l) none (some z) = mkS (l.take z.toNat) := by
  rw [eq_of_beq (slice_closes_to (x := mkS l) (j := z) ⟨h0, by rw [mkS_cps]; exact h⟩)]
  simp [mkS]
theorem slice_from (l : List Nat) (z : Int) (h0 : 0 ≤ z) (h : z ≤ l.length) : Txt.slice (mkS l) (some z) none = mkS (l.drop z.toNat) := by
  rw [eq_of_beq (slice_closes_fromL (x := mkS l) (i := z) (b := l.length) h0 (by show z ≤ ((mkS l).cps.size : Nat); simpa using h) (by show _ = ((mkS l).cps.size : Int); simp))]
  simp only [mkS_cps]
  rw [List.take_of_length_le]
  rw [List.length_drop]; omega
theorem item_get (l : List Nat) (z : Int) (h0 : 0 ≤ z) (h : z < l.length) : Txt.item (mkS l) z = mkS [l.getD z.toNat 0] := by
  rw [item_at (x := mkS l) (i := z) (n := z.toNat) h0 (by show z < ((mkS l).cps.size : Nat); simpa using h) rfl]
  simp [mkS]
theorem mkS_app (a b : List Nat) : mkS a ++ mkS b = mkS (a ++ b) := by
  rw [mkS_of (mkS a ++ mkS b), Str.cps_append, Array.toList_append, mkS_cps, mkS_cps]
theorem mkS_len (a : List Nat) : (mkS a).length = a.length := by show (mkS a).cps.size = _; simp
theorem mkS_one (c : Nat) : (⟨#[c]⟩ : Str) = mkS [c] := rfl
section
variable {prog : Program} {w : World} {A : Around} {E : Value → Shared → Prop} {s : Shared} {value slice : PySem.Expr} {l r : List Nat} {t u : Tok} {h₀ : Heap} {L : Addr} {m : Str → Option Value} {news : List (Addr × Obj)} {Q : Value → Shared → Prop} {z : Int}
theorem k_cut_to {uj : Tok} (n : Nat) (hn : z.toNat = n) (hz : l.length ≤ 1000) (h0 : 0 ≤ z) (h1 : z ≤ l.length) (hF : Fr h₀ L s.heap m) (hN : News h₀ L s.heap news) (h : ∀ h' t' k, Fr h₀ L h' m → News h₀ L h' news → Q (.str (mkS (l.take n)) t') { s with heap := h', toks := k })
    (hs : subscripted slice false (.str (mkS l) t) (.ref s.heap.objs.size) = operate [.ref s.heap.objs.size, .str (mkS l) t] (getItem (.str (mkS l) t) (.ref s.heap.objs.size)) := by with_unfolding_all rfl)
    (ht : ∀ r, letTemporaryGo value (.str (mkS l) t) r = pure () := by intro _; with_unfolding_all rfl) :
    wpAny (model prog w) A (subscriptTail value slice (.str (mkS l) t) (.ref s.heap.objs.size)) Q E { s with heap := s.heap.push { cls := .type "slice", data := .fields #[.none, .int z uj, .none] } } := by
  refine slice_strN_ns hF hN (fun h' t' k F' N' => ?_) hs ht (by rw [mkS_len, sizeLine_eq]; omega)
  rw [slice_to l z h0 h1, hn]
  exact h h' t' k F' N'
theorem k_cut_from {uj : Tok} (n : Nat) (hn : z.toNat = n) (hz : l.length ≤ 1000) (h0 : 0 ≤ z) (h1 : z ≤ l.length) (hF : Fr h₀ L s.heap m) (hN : News h₀ L s.heap news) (h : ∀ h' t' k, Fr h₀ L h' m → News h₀ L h' news → Q (.str (mkS (l.drop n)) t') { s with heap := h', toks := k })
    (hs : subscripted slice false (.str (mkS l) t) (.ref s.heap.objs.size) = operate [.ref s.heap.objs.size, .str (mkS l) t] (getItem (.str (mkS l) t) (.ref s.heap.objs.size)) := by with_unfolding_all rfl)
    (ht : ∀ r, letTemporaryGo value (.str (mkS l) t) r = pure () := by intro _; with_unfolding_all rfl) :
    wpAny (model prog w) A (subscriptTail value slice (.str (mkS l) t) (.ref s.heap.objs.size)) Q E { s with heap := s.heap.push { cls := .type "slice", data := .fields #[.int z uj, .none, .none] } } := by
  refine slice_strN_sn hF hN (fun h' t' k F' N' => ?_) hs ht (by rw [mkS_len, sizeLine_eq]; omega)
  rw [slice_from l z h0 h1, hn]
  exact h h' t' k F' N'
theorem k_letter (n : Nat) (hn : z.toNat = n) (hz : l.length ≤ 1000) (h0 : 0 ≤ z) (h1 : z < l.length) (h : Q (.str (mkS [l.getD n 0]) s.toks) { s with toks := s.toks + 1 })
    (hs : subscripted slice false (.str (mkS l) t) (.int z u) = operate [.str (mkS l) t, .int z u] (getItem (.str (mkS l) t) (.int z u)) := by with_unfolding_all rfl)
    (ht : ∀ r, letTemporaryGo value (.str (mkS l) t) r = pure () := by intro _; with_unfolding_all rfl) :
    wpAny (model prog w) A (subscriptTail value slice (.str (mkS l) t) (.int z u)) Q E s := by
  refine item_str (fitsSsize_of (N := 9223372036854775808) (by omega) (by omega) (Int.le_refl _)) (by rw [mkS_len]; omega) (by rw [mkS_len]; exact h1) (fun _ => ?_) hs ht
  rw [item_get l z h0 h1, hn]
  exact h
theorem k_glue (hz : l.length ≤ 1000) (hz' : r.length ≤ 1000) (h : ∀ t' k, Q (.str (mkS (l ++ r)) t') { s with toks := k }) : wpAny (model prog w) A (binaryOp .Add (.str (mkS l) t) (.str (mkS r) u)) Q E s := by
  refine SB.add (fun t' k => ?_) (by rw [mkS_len, mkS_len, sizeLine_eq]; omega)
  rw [mkS_app]
  exact h t' k
theorem k_lenS (hz : l.length ≤ 1000) (h : Q (.int (l.length : Int) (s.toks + 1)) { s with toks := s.toks + 1 + 1 }) : wpAny (model prog w) A (call (.builtin "len") [.str (mkS l) t]) Q E s := by
  refine len_str (by rw [mkS_len]; omega) ?_
  rw [mkS_len]
  exact h
end

end Mine
namespace Mine
section
variable {prog : Program} {w : World} {A : Around} {E : Value → Shared → Prop} {s : Shared} {h₀ : Heap} {m : Str → Option Value} {news : List (Addr × Obj)} {σ : Type} {env : Env}
/-- a loop over a text's letters, by an invariant over named state and the whole ledger -/
theorem for_strN {l : List Nat} {t : Tok} {x : Str} {px : Pos} {body : List Stmt} {R : Result → Shared → Prop} (F : Fr h₀ env.locals s.heap m) (N : News h₀ env.locals s.heap news) (hh : A.handled = none)
    (vars : σ → List (Str × Value)) (led : σ → List (Addr × Obj)) (ok : Nat → σ → Prop) (y : σ) (hb : HasB m (vars y)) (hl : ∀ p ∈ led y, p ∈ news) (h : ok 0 y)
    (hadr : ∀ i y, ok i y → ∀ p ∈ led y, ∃ o, (p.1, o) ∈ news)
    (turn : ∀ (i c : Nat) y t h tk m₁ own, l[i]? = some c → ok i y → (∀ p ∈ own, ∀ q ∈ news, q.1 < p.1) → Fr h₀ env.locals h (fun z => if z = x then some (.str (mkS [c]) t) else mB (vars y) m₁ z) → News h₀ env.locals h (led y ++ own) →
      wpAny (model prog w) A (execs body env) (fun f s₂ => match f with
        | .ret v => R (.ok (.ret v)) s₂
        | .brk => R (.ok .next) s₂
        | _ => ListEnd h₀ env.locals vars led ok own (i + 1) { s with heap := h, toks := tk } s₂) (fun _ _ => False) { s with heap := h, toks := tk })
    (done : ∀ h' tk m₁ y, ok l.length y → Fr h₀ env.locals h' (mB (vars y) m₁) → News h₀ env.locals h' (led y) → R (.ok .next) { s with heap := h', toks := tk })
    (hx : env.kindOf x = some .local := by rfl) (hp : (env.scope.kind == .class || (env.scope.kind == .module && env.locals != env.globals)) = false := by rfl) :
    wpAny (model prog w) A (pyIter (.str (mkS l) t)) (fun it s₂ => codeAny (model prog w) A (.forLoop (.Name x px) it body [] env) R s₂) E s := by
  refine wpAny_pyIter_str fun o St W' hst => ?_
  have W := W' A hh
  have up : ∀ b' o', s.heap.get? b' = some o' → (s.heap.push o).get? b' = some o' := fun b o e => Heap.get?_push_of_some _ e
  have hLs : env.locals < s.heap.objs.size := F.ns.lt
  have lt : ∀ p ∈ news, p.1 < s.heap.objs.size := fun p hp => Heap.lt_size (N p hp).1
  have hsz : (mkS l).cps.size = l.length := by simp [mkS]
  refine codeAny_forLoop_frV W hx hp (fun hq => ?_) (fun b hb => ?_) (fun p hp hq => ?_) hst (F.keeps up) (N.grown up)
    (fun i m₁ news₁ => ∃ y, ok i y ∧ HasB m₁ (vars y) ∧ ∀ p ∈ led y, p ∈ news₁) ⟨y, h, hb, hl⟩ ?_ ?_
  · exact absurd hLs (by rw [List.mem_singleton.mp hq]; exact Nat.lt_irrefl _)
  · rw [List.mem_singleton.mp hb]; exact next_is_new F
  · exact absurd (lt p hp) (by rw [List.mem_singleton.mp hq]; exact Nat.lt_irrefl _)
  · rintro i v m₁ news₁ s₁ own ⟨h', tk, rfl⟩ hi ⟨c, u, hc, rfl⟩ ⟨y₁, h₁, hb₁, hl₁⟩ hnw hown hown2 hall hSt F₁ N₁
    rw [← mB_eq hb₁] at F₁
    refine wpAny_mono (turn i c y₁ u h' tk m₁ own (by simpa [mkS] using hc) h₁ (fun p hp q hq => ?_) F₁ (fun p hp => N₁ p ((List.mem_append.mp hp).elim (fun z => List.mem_append_right _ (hl₁ p z)) (List.mem_append_left _)))) (fun f s₂ p => ?_) fun _ _ e => e.elim
    · rw [List.mem_singleton.mp (hown p hp)]; exact lt q hq
    have fin : ListEnd h₀ env.locals vars led ok own (i + 1) { s with heap := h', toks := tk } s₂ → LoopStepU h₀ env.locals [s.heap.objs.size] own (fun m₁ news₁ => ∃ y, ok (i + 1) y ∧ HasB m₁ (vars y) ∧ ∀ p ∈ led y, p ∈ news₁) { s with heap := h', toks := tk } .next s₂ := by
      rintro ⟨h'', tk', m', y₂, e, h₂, F₂, hb₂, N₂⟩
      refine ⟨rfl, h'', tk', m', led y₂, e, F₂, fun p hp => N₂ p ((List.mem_append.mp hp).elim (List.mem_append_right _) (List.mem_append_left _)), fun p hp hq => ?_, y₂, h₂, hb₂, fun _ z => z⟩
      obtain ⟨o, ho⟩ := hadr _ _ h₂ p hp
      have := lt _ ho
      rw [List.mem_singleton.mp hq] at this
      exact absurd this (Nat.lt_irrefl _)
    cases f with
    | ret v => exact .ret p
    | brk => exact .brk p
    | cont => exact .cont (fin p)
    | next => exact .next (fin p)
  · rintro h' tk m' news' F₁ N₁ _ ⟨y₁, h₁, hb₁, hl₁⟩
    exact done h' tk m' y₁ (hsz ▸ h₁) (fr_mB F₁ hb₁) (news_of N₁ hl₁)
/-- a loop over a list of the ledger that stays, the rest of the ledger turning -/
theorem for_listN {l : Addr} {its : List Value} {c : Nat} {x : Str} {px : Pos} {body : List Stmt} {R : Result → Shared → Prop} (F : Fr h₀ env.locals s.heap m) (N : News h₀ env.locals s.heap news) (hm : (l, listOf its.toArray c) ∈ news) (hh : A.handled = none)
    (vars : σ → List (Str × Value)) (led : σ → List (Addr × Obj)) (ok : Nat → σ → Prop) (y : σ) (hb : HasB m (vars y)) (hl : ∀ p ∈ led y, p ∈ news) (h : ok 0 y)
    (hadr : ∀ i y, ok i y → ∀ p ∈ led y, ∃ o, (p.1, o) ∈ news)
    (turn : ∀ (i : Nat) v y h tk m₁ own, its[i]? = some v → ok i y → (∀ p ∈ own, p.1 = l ∨ ∀ q ∈ news, q.1 < p.1) → Fr h₀ env.locals h (fun z => if z = x then some v else mB (vars y) m₁ z) → News h₀ env.locals h (led y ++ own) →
      wpAny (model prog w) A (execs body env) (fun f s₂ => match f with
        | .ret v => R (.ok (.ret v)) s₂
        | .brk => R (.ok .next) s₂
        | _ => ListEnd h₀ env.locals vars led ok own (i + 1) { s with heap := h, toks := tk } s₂) (fun _ _ => False) { s with heap := h, toks := tk })
    (done : ∀ h' tk m₁ y, ok its.length y → Fr h₀ env.locals h' (mB (vars y) m₁) → News h₀ env.locals h' (led y) → R (.ok .next) { s with heap := h', toks := tk })
    (hx : env.kindOf x = some .local := by rfl) (hp : (env.scope.kind == .class || (env.scope.kind == .module && env.locals != env.globals)) = false := by rfl) :
    wpAny (model prog w) A (pyIter (.ref l)) (fun it s₂ => codeAny (model prog w) A (.forLoop (.Name x px) it body [] env) R s₂) E s := by
  have hls : s.heap.IsList l its.toArray := ⟨_, (N _ hm).1, rfl, _, rfl⟩
  have hlt : l < s.heap.objs.size := Heap.lt_size (N _ hm).1
  have hlL : l ≠ env.locals := (N _ hm).2.1
  have hLs : env.locals < s.heap.objs.size := F.ns.lt
  have lt : ∀ p ∈ news, p.1 < s.heap.objs.size := fun p hp => Heap.lt_size (N p hp).1
  refine wpAny_pyIter_list hls ?_
  have W := Walks.list (prog := prog) (w := w) hh s.heap.objs.size l (Nat.ne_of_lt hlt) its.toArray
  have up : ∀ b o, s.heap.get? b = some o → (s.heap.push { cls := .type "list_iterator", data := .fields #[.ref l, .int 0 0] }).get? b = some o := fun b o e => Heap.get?_push_of_some _ e
  refine codeAny_forLoop_frV W hx hp (fun hq => ?_) (fun b hb => ?_) (fun p hp hq => ?_) ⟨⟨_, Heap.get?_push_size _ rfl, rfl, rfl⟩, hls.push _⟩ (F.keeps up) (N.grown up)
    (fun i m₁ news₁ => ∃ y, ok i y ∧ HasB m₁ (vars y) ∧ ∀ p ∈ led y, p ∈ news₁) ⟨y, h, hb, hl⟩ ?_ ?_
  · rcases List.mem_cons.mp hq with e | hq
    · exact absurd hLs (by rw [e]; exact Nat.lt_irrefl _)
    · exact hlL (List.mem_singleton.mp hq).symm
  · rw [List.mem_singleton.mp hb]; exact next_is_new F
  · exact absurd (lt p hp) (by rw [List.mem_singleton.mp hq]; exact Nat.lt_irrefl _)
  · rintro i v m₁ news₁ s₁ own ⟨h', tk, rfl⟩ hi hv ⟨y₁, h₁, hb₁, hl₁⟩ hnw hown hown2 hall hSt F₁ N₁
    rw [← mB_eq hb₁] at F₁
    refine wpAny_mono (turn i v y₁ h' tk m₁ own (by simpa using hv) h₁ (fun p hp => ?_) F₁ (fun p hp => N₁ p ((List.mem_append.mp hp).elim (fun z => List.mem_append_right _ (hl₁ p z)) (List.mem_append_left _)))) (fun f s₂ p => ?_) fun _ _ e => e.elim
    · rcases List.mem_cons.mp (hown p hp) with e | e
      · exact .inr fun q hq => by rw [e]; exact lt q hq
      · exact .inl (List.mem_singleton.mp e)
    have fin : ListEnd h₀ env.locals vars led ok own (i + 1) { s with heap := h', toks := tk } s₂ → LoopStepU h₀ env.locals [s.heap.objs.size] own (fun m₁ news₁ => ∃ y, ok (i + 1) y ∧ HasB m₁ (vars y) ∧ ∀ p ∈ led y, p ∈ news₁) { s with heap := h', toks := tk } .next s₂ := by
      rintro ⟨h'', tk', m', y₂, e, h₂, F₂, hb₂, N₂⟩
      refine ⟨rfl, h'', tk', m', led y₂, e, F₂, fun p hp => N₂ p ((List.mem_append.mp hp).elim (List.mem_append_right _) (List.mem_append_left _)), fun p hp hq => ?_, y₂, h₂, hb₂, fun _ z => z⟩
      obtain ⟨o, ho⟩ := hadr _ _ h₂ p hp
      have := lt _ ho
      rw [List.mem_singleton.mp hq] at this
      exact absurd this (Nat.lt_irrefl _)
    cases f with
    | ret v => exact .ret p
    | brk => exact .brk p
    | cont => exact .cont (fin p)
    | next => exact .next (fin p)
  · rintro h' tk m' news' F₁ N₁ _ ⟨y₁, h₁, hb₁, hl₁⟩
    exact done h' tk m' y₁ (by simpa using h₁) (fr_mB F₁ hb₁) (news_of N₁ hl₁)
end
/-- the letters glued together -/
theorem join_ones (q : List Nat) : Txt.join (Str.ofString "") (q.map fun c => mkS [c]) = mkS q := by
  rw [mkS_of (Txt.join _ _), join_none]
  congr 1
  induction q with
  | nil => rfl
  | cons c q ih => simp_all
theorem sum_ones (q : List Nat) : ((q.map fun c => mkS [c]).map (·.length)).sum = q.length := by
  induction q with
  | nil => rfl
  | cons c q ih => simp only [List.map_cons, List.sum_cons, ih, List.length_cons]; show 1 + q.length = _; omega

end Mine
namespace Mine
noncomputable def insK (seen : List (List Nat)) (k : List Nat) : List (List Nat) := if k ∈ seen then seen else seen ++ [k]
theorem stored_ins {kvs : List (Str × Value)} {seen : List (List Nat)} {k : List Nat} {v : Value} (h : kvs.map (·.1) = seen.map mkS) : (stored kvs (mkS k) v).map (·.1) = (insK seen k).map mkS := by
  unfold insK
  by_cases hk : k ∈ seen
  · rw [if_pos hk, stored_old (by rw [h]; exact mkS_mem.mpr hk), h]
  · rw [if_neg hk, stored_new (by rw [h]; exact fun q => hk (mkS_mem.mp q)), h, List.map_append]; rfl
noncomputable def rotL (q : List Nat) : List Nat := q.drop 1 ++ q.take 1
theorem rotL_len (q : List Nat) : (rotL q).length = q.length := by unfold rotL; cases q <;> simp
noncomputable def turnGo (row : List Nat) : Nat → List Nat → List Nat → List (List Nat) → Nat → Option (List Nat × List (List Nat) × Nat)
  | 0, _, _, _, _ => none
  | f + 1, tu, q, seen, n => if tu = row then some (q, seen, n) else if seen.length ≤ 500 then turnGo row f (rotL q) (rotL q) (insK seen (rotL q)) (n + 1) else none
noncomputable def ringsGo (f : Nat) : List (List Nat) → List (List Nat) → List Nat → Option (List Nat)
  | [], _, rg => some rg
  | row :: r, seen, rg => if row ∈ seen then ringsGo f r seen rg else if 1 ≤ row.length ∧ row.length ≤ 8 then (turnGo row f [] row seen 0).bind fun t => ringsGo f r t.2.1 (rg ++ [row.length / t.2.2]) else none
theorem strs_at : ∀ {vs : List Value} {ys : List Str} {i : Nat} {v : Value}, StrsAre vs ys → vs[i]? = some v → ∃ y t, v = .str y t ∧ ys[i]? = some y
  | _, _, i, v, .nil, h => by simp at h
  | _, _, 0, v, .cons y t r, h => by
    simp only [List.getElem?_cons_zero, Option.some.injEq] at h
    exact ⟨y, t, h.symm, rfl⟩
  | _, _, i + 1, v, .cons y t r, h => by
    simp only [List.getElem?_cons_succ] at h ⊢
    exact strs_at r h
theorem drop_cons {α : Type} {l : List α} {i : Nat} {a : α} (h : l[i]? = some a) : l.drop i = a :: l.drop (i + 1) := by
  obtain ⟨h1, e⟩ := List.getElem?_eq_some_iff.mp h
  rw [List.drop_eq_getElem_cons h1, e]
theorem take_snoc {α : Type} {l : List α} {i : Nat} {a : α} (h : l[i]? = some a) : l.take (i + 1) = l.take i ++ [a] := by
  rw [List.take_add_one, h]; rfl
theorem small_log {z : Int} (h : z.natAbs ≤ 1000) : z.natAbs.log2 < 9000 := by
  have h1 : z.natAbs.log2 ≤ z.natAbs := Nat.log2_le_self _
  omega

end Mine
namespace Mine
/-- where a word belongs in the book, by halving: none in it where it stands there -/
noncomputable def entGo (book : List (List Nat)) (wd : List Nat) : Nat → Nat → Nat → Option (Option Nat)
  | 0, _, _ => none
  | f + 1, lo, hi => if lo < hi then
      (if wd < book.getD ((lo + hi) / 2) [] then entGo book wd f ((lo + hi) / 2 + 1) hi
       else if book.getD ((lo + hi) / 2) [] < wd then entGo book wd f lo ((lo + hi) / 2) else some none)
    else some (some lo)
noncomputable def entOut (book : List (List Nat)) (wd : List Nat) : Option Nat → List (List Nat)
  | none => book
  | some p => book.take p ++ wd :: book.drop p
theorem getD_map {b : List (List Nat)} {k : Nat} (h : k < b.length) : (b.map mkS).getD k Str.empty = mkS (b.getD k []) := by
  rw [List.getD_eq_getElem?_getD, List.getD_eq_getElem?_getD, List.getElem?_map, List.getElem?_eq_getElem h]; rfl
theorem half_int (a b : Nat) : ((a : Int) + (b : Int)).fdiv 2 = (((a + b) / 2 : Nat) : Int) := by
  rw [Int.fdiv_eq_ediv_of_nonneg _ (by decide)]; omega
theorem strsAre_take {vs : List Value} {ys : List Str} (h : StrsAre vs ys) : ∀ k, StrsAre (vs.take k) (ys.take k) := by
  induction h with
  | nil => intro k; simp; exact .nil
  | cons y t r ih =>
    intro k
    cases k with
    | zero => exact .nil
    | succ k => exact .cons _ _ (ih k)
theorem strsAre_drop {vs : List Value} {ys : List Str} (h : StrsAre vs ys) : ∀ k, StrsAre (vs.drop k) (ys.drop k) := by
  induction h with
  | nil => intro k; simp; exact .nil
  | cons y t r ih =>
    intro k
    cases k with
    | zero => exact .cons _ _ r
    | succ k => exact ih k
theorem ins_strs {its : List Value} {book : List (List Nat)} {wd : List Nat} {t : Tok} {p : Nat} (h : StrsAre its (book.map mkS)) (hp : p ≤ its.length) : StrsAre (PySem.W.kl_ins its (p : Int) (.str (mkS wd) t)) ((entOut book wd (some p)).map mkS) := by
  have e : (if (p : Int) < 0 then ((p : Int) + (its.length : Int)).toNat else min (p : Int).toNat its.length) = p := by
    rw [if_neg (by omega), Int.toNat_natCast]; omega
  unfold PySem.W.kl_ins
  rw [e]
  show StrsAre _ ((book.take p ++ wd :: book.drop p).map mkS)
  rw [List.map_append, List.map_cons, List.map_take, List.map_drop]
  exact (strsAre_take h p).append' (.cons _ _ (strsAre_drop h p))

end Mine
namespace Mine
/-- one lent from the figure ahead: that one lower, 16 in the place -/
noncomputable def lendAt (l : List Nat) (p : Nat) : List Nat := l.take (p - 1) ++ ([l.getD (p - 1) 0 - 1, 81] ++ l.drop (p + 1))
structure BQ where
  (book q : List (List Nat))
noncomputable def lends (l : List Nat) (p : Nat) : Bool := l.getD p 0 == 65 && !(l.getD (p - 1) 0 == 65)
noncomputable def lendStep (l : List Nat) (p : Nat) (s : BQ) : Option BQ :=
  if lends l p then (if s.book.length ≤ 98 then (entGo s.book (lendAt l p) 12 0 s.book.length).map fun r => match r with
    | none => s
    | some k => ⟨entOut s.book (lendAt l p) (some k), s.q ++ [lendAt l p]⟩ else none)
  else some s
noncomputable def lendGo (l : List Nat) : Nat → Nat → BQ → Option BQ
  | 0, _, s => some s
  | k + 1, p, s => (lendStep l p s).bind (lendGo l k (p + 1))
structure CS where
  (come book q : List (List Nat))
noncomputable def CS.fits (s : CS) : Bool := decide (s.come.length ≤ 98) && decide (s.book.length ≤ 98) && decide (s.q.length ≤ 98) && s.q.all fun l => decide (1 ≤ l.length) && decide (l.length ≤ 8) && l.all fun c => decide (65 ≤ c) && decide (c ≤ 81)
noncomputable def comeGo : Nat → CS → Option CS
  | 0, _ => none
  | f + 1, s => match s.q with
    | [] => some s
    | l :: q => if s.fits then (lendGo l (l.length - 1) 1 ⟨s.book, q⟩).bind fun t => comeGo f ⟨s.come ++ [l], t.book, t.q⟩ else none
theorem CS.fits_small {s : CS} (h : s.fits = true) : (s.come.length ≤ 98 ∧ s.book.length ≤ 98 ∧ s.q.length ≤ 98) ∧ ∀ l ∈ s.q, (1 ≤ l.length ∧ l.length ≤ 8) ∧ ∀ c ∈ l, 65 ≤ c ∧ c ≤ 81 := by
  simp only [CS.fits, Bool.and_eq_true, decide_eq_true_eq, List.all_eq_true] at h
  exact ⟨⟨h.1.1.1, h.1.1.2, h.1.2⟩, h.2⟩
theorem entOut_len (book : List (List Nat)) (l : List Nat) (k : Nat) : (entOut book l (some k)).length ≤ book.length + 1 := by
  simp only [entOut, List.length_append, List.length_take, List.length_cons, List.length_drop]; omega
theorem lendStep_len {l : List Nat} {p : Nat} {s s' : BQ} (h : lendStep l p s = some s') (hb : s.book.length ≤ 100) : s'.book.length ≤ 100 ∧ s'.q.length ≤ s.q.length + 1 := by
  unfold lendStep at h
  split at h
  · split at h
    · rename_i hz
      simp only [Option.map_eq_some_iff] at h
      obtain ⟨r, _, h⟩ := h
      cases r with
      | none => dsimp only at h; subst h; exact ⟨hb, Nat.le_succ _⟩
      | some k =>
        dsimp only at h; subst h
        have := entOut_len s.book (lendAt l p) k
        exact ⟨by dsimp only; omega, by simp⟩
    · cases h
  · obtain rfl := Option.some.inj h; exact ⟨hb, Nat.le_succ _⟩
theorem getD_mem {l : List Nat} {p : Nat} (h : p < l.length) : l.getD p 0 ∈ l := by
  rw [List.getD_eq_getElem?_getD, List.getElem?_eq_getElem h]; exact List.getElem_mem h
theorem one_beq_A (c : Nat) : (mkS [c] == Str.ofString "A") = decide (c = 65) := by
  rw [show Str.ofString "A" = mkS [65] by decide +kernel]
  by_cases h : c = 65
  · subst h; simp
  · rw [decide_eq_false h]
    have : mkS [c] ≠ mkS [65] := fun e => h (by simpa using mkS_inj e)
    simpa using this
theorem lendStep_yes {l : List Nat} {p : Nat} {s s' : BQ} (h1 : l.getD p 0 = 65) (h2 : ¬ l.getD (p - 1) 0 = 65) (h : lendStep l p s = some s') : s.book.length ≤ 98 ∧ ∃ r, entGo s.book (lendAt l p) 12 0 s.book.length = some r ∧ s' = (match r with
    | none => s
    | some k => ⟨entOut s.book (lendAt l p) (some k), s.q ++ [lendAt l p]⟩) := by
  unfold lendStep lends at h
  rw [if_pos (by rw [h1]; simp only [Bool.and_eq_true, Bool.not_eq_true', beq_self_eq_true, true_and]; exact beq_eq_false_iff_ne.mpr h2)] at h
  split at h
  · rename_i hz
    simp only [Option.map_eq_some_iff] at h
    obtain ⟨r, e, h⟩ := h
    exact ⟨hz, r, e, h.symm⟩
  · cases h
theorem lendStep_no {l : List Nat} {p : Nat} {s : BQ} (h : ¬ (l.getD p 0 = 65 ∧ ¬ l.getD (p - 1) 0 = 65)) : lendStep l p s = some s := by
  unfold lendStep lends
  rw [if_neg]
  intro q
  rw [Bool.and_eq_true, Bool.not_eq_true'] at q
  exact h ⟨eq_of_beq q.1, fun e => by rw [e] at q; exact absurd q.2 (by decide)⟩

end Mine
namespace Mine
/-- the figures of a number from the lowest on, each from 1 to 16 -/
noncomputable def lowGo : Nat → Nat → List Nat → Option (List Nat)
  | 0, _, _ => none
  | f + 1, n, acc => if n = 0 then some acc else
      (if n % 16 = 0 then lowGo f ((n - 16) / 16) (81 :: acc) else lowGo f ((n - n % 16) / 16) ((65 + n % 16) :: acc))
/-- how many, along the sizes above the lowest: the two numbers -/
noncomputable def manyP : List Nat → List Nat → Nat × Nat
  | [], _ => (1, 1)
  | a :: r, fs => ((manyP r (fs.drop 1)).1 + (a - 1) * (manyP r (fs.drop 1)).2, if fs.getD 0 0 = 1 then (manyP r (fs.drop 1)).1 + (a - 1) * (manyP r (fs.drop 1)).2 + (manyP r (fs.drop 1)).2 else (manyP r (fs.drop 1)).1 + (a - 1) * (manyP r (fs.drop 1)).2)
noncomputable def manyF : List Nat → List Nat → Nat
  | [], _ => 0
  | a :: r, fs => (manyP r fs).1 + a * (manyP r fs).2
/-- the number with these figures at the marks -/
noncomputable def markF : Nat → List Nat → List Nat → Nat
  | mk, a :: r, f :: fs => f * 16 ^ (mk + a) + markF (mk + a) r fs
  | _, _, _ => 0
/-- all words of one length that write a number, each figure from 0 to 16 -/
noncomputable def writF : Nat → Nat → List (List Nat)
  | 0, n => if n = 0 then [[]] else []
  | k + 1, n => (writF k (n / 16)).map (· ++ [65 + n % 16]) ++ (if n % 16 = 0 ∧ 0 < n then (writF k (n / 16 - 1)).map (· ++ [81]) else [])
theorem writF_len : ∀ k n, (writF k n).length ≤ 2 ^ k
  | 0, n => by rw [writF]; split <;> simp
  | k + 1, n => by
    have h1 := writF_len k (n / 16)
    have h2 := writF_len k (n / 16 - 1)
    rw [writF, List.length_append, List.length_map, Nat.pow_succ]
    split
    · rw [List.length_map]; omega
    · simp; omega
theorem writF_each : ∀ k n, ∀ l ∈ writF k n, l.length = k
  | 0, n, l, h => by
    rw [writF] at h
    split at h
    · rw [List.mem_singleton.mp h]; rfl
    · cases h
  | k + 1, n, l, h => by
    rw [writF] at h
    rcases List.mem_append.mp h with h | h
    · obtain ⟨a, ha, rfl⟩ := List.mem_map.mp h
      rw [List.length_append, writF_each k _ a ha]; rfl
    · split at h
      · obtain ⟨a, ha, rfl⟩ := List.mem_map.mp h
        rw [List.length_append, writF_each k _ a ha]; rfl
      · cases h

end Mine
namespace Mine
/-- which of two words stands first, told quickly by the kernel -/
noncomputable def ltM (a : List Nat) : List Nat → Bool := List.rec (motive := fun _ => List Nat → Bool) (fun b => List.rec (motive := fun _ => Bool) false (fun _ _ _ => true) b) (fun x _ ih b => List.rec (motive := fun _ => Bool) false (fun y b _ => cond (Nat.blt x y) true (cond (Nat.beq x y) (ih b) false)) b) a
theorem ltM_cons (x : Nat) (a : List Nat) (y : Nat) (b : List Nat) : ltM (x :: a) (y :: b) = cond (Nat.blt x y) true (cond (Nat.beq x y) (ltM a b) false) := rfl
theorem ltM_eq : ∀ a b : List Nat, ltM a b = decide (a < b)
  | [], [] => by rw [decide_eq_false (List.not_lt_nil _)]; rfl
  | [], _ :: _ => by rw [decide_eq_true (List.nil_lt_cons _ _)]; rfl
  | _ :: _, [] => by rw [decide_eq_false (List.not_lt_nil _)]; rfl
  | x :: a, y :: b => by
    rw [ltM_cons, ltM_eq a b]
    by_cases h : x < y
    · rw [decide_eq_true (List.cons_lt_cons_iff.mpr (.inl h)), show Nat.blt x y = true from Nat.blt_eq.mpr h]; rfl
    · rw [show Nat.blt x y = false from Bool.eq_false_iff.mpr fun q => h (Nat.blt_eq.mp q)]
      by_cases e : x = y
      · rw [show Nat.beq x y = true from Nat.beq_eq ▸ e]
        show decide (a < b) = _
        rw [decide_eq_decide, List.cons_lt_cons_iff]
        exact ⟨fun q => .inr ⟨e, q⟩, fun q => q.elim (fun q => absurd q h) (·.2)⟩
      · rw [show Nat.beq x y = false from Bool.eq_false_iff.mpr fun q => e (Nat.eq_of_beq_eq_true q)]
        show false = _
        exact (decide_eq_false fun q => (List.cons_lt_cons_iff.mp q).elim h fun q => e q.1).symm
noncomputable def entB (book : List (List Nat)) (wd : List Nat) : Nat → Nat → Nat → Option (Option Nat)
  | 0, _, _ => none
  | f + 1, lo, hi => cond (Nat.blt lo hi) (cond (ltM wd (book.getD ((lo + hi) / 2) [])) (entB book wd f ((lo + hi) / 2 + 1) hi) (cond (ltM (book.getD ((lo + hi) / 2) []) wd) (entB book wd f lo ((lo + hi) / 2)) (some none))) (some (some lo))
theorem cond_dec {α : Type} {p : Prop} [Decidable p] (a b : α) : cond (decide p) a b = if p then a else b := by
  by_cases h : p
  · rw [decide_eq_true h, if_pos h]; rfl
  · rw [decide_eq_false h, if_neg h]; rfl
theorem blt_dec (a b : Nat) : Nat.blt a b = decide (a < b) := by
  by_cases h : a < b
  · rw [decide_eq_true h, Nat.blt_eq.mpr h]
  · rw [decide_eq_false h]; exact Bool.eq_false_iff.mpr fun q => h (Nat.blt_eq.mp q)
theorem entB_eq (book : List (List Nat)) (wd : List Nat) : ∀ f lo hi, entB book wd f lo hi = entGo book wd f lo hi
  | 0, _, _ => rfl
  | f + 1, lo, hi => by
    rw [entB, entGo, entB_eq book wd f, entB_eq book wd f, ltM_eq, ltM_eq, blt_dec, cond_dec, cond_dec, cond_dec]
noncomputable def lendStepB (l : List Nat) (p : Nat) (s : BQ) : Option BQ :=
  cond (lends l p) (cond (Nat.ble s.book.length 98) (match entB s.book (lendAt l p) 12 0 s.book.length with
    | none => none
    | some none => some s
    | some (some k) => some ⟨entOut s.book (lendAt l p) (some k), s.q ++ [lendAt l p]⟩) none) (some s)
theorem ble_dec (a b : Nat) : Nat.ble a b = decide (a ≤ b) := by
  by_cases h : a ≤ b
  · rw [decide_eq_true h, Nat.ble_eq.mpr h]
  · rw [decide_eq_false h]; exact Bool.eq_false_iff.mpr fun q => h (Nat.ble_eq.mp q)
theorem lendStepB_eq (l : List Nat) (p : Nat) (s : BQ) : lendStepB l p s = lendStep l p s := by
  rw [lendStepB, lendStep, entB_eq, ble_dec, cond_dec]
  cases lends l p with
  | false => rfl
  | true =>
    show (if s.book.length ≤ 98 then _ else none) = (if s.book.length ≤ 98 then _ else none)
    split
    · cases entGo s.book (lendAt l p) 12 0 s.book.length with
      | none => rfl
      | some r => cases r <;> rfl
    · rfl
noncomputable def lendB (l : List Nat) : Nat → Nat → BQ → Option BQ
  | 0, _, s => some s
  | k + 1, p, s => match lendStepB l p s with
    | none => none
    | some t => lendB l k (p + 1) t
theorem lendB_eq (l : List Nat) : ∀ k p s, lendB l k p s = lendGo l k p s
  | 0, _, _ => rfl
  | k + 1, p, s => by
    rw [lendB, lendGo, lendStepB_eq]
    cases lendStep l p s with
    | none => rfl
    | some t => exact lendB_eq l k (p + 1) t
noncomputable def comeB : Nat → CS → Option CS
  | 0, _ => none
  | f + 1, s => match s.q with
    | [] => some s
    | l :: q => cond s.fits (match lendB l (l.length - 1) 1 ⟨s.book, q⟩ with
      | none => none
      | some t => comeB f ⟨s.come ++ [l], t.book, t.q⟩) none
theorem comeB_eq : ∀ f s, comeB f s = comeGo f s
  | 0, _ => rfl
  | f + 1, s => by
    rw [comeB, comeGo]
    cases s.q with
    | nil => rfl
    | cons l q =>
      dsimp only
      rw [lendB_eq]
      cases s.fits with
      | false => rfl
      | true =>
        show (match lendGo l (l.length - 1) 1 ⟨s.book, q⟩ with | none => none | some t => comeB f ⟨s.come ++ [l], t.book, t.q⟩) = _
        cases lendGo l (l.length - 1) 1 ⟨s.book, q⟩ with
        | none => rfl
        | some t => exact comeB_eq f _
noncomputable def ins (x : List Nat) : List (List Nat) → List (List Nat)
  | [] => [x]
  | y :: r => cond (ltM x y) (x :: y :: r) (y :: ins x r)
noncomputable def srt : List (List Nat) → List (List Nat)
  | [] => []
  | x :: r => ins x (srt r)
theorem ins_perm (x : List Nat) : ∀ l, (ins x l).Perm (x :: l)
  | [] => .refl _
  | y :: r => by
    rw [ins]
    cases ltM x y with
    | true => exact .refl _
    | false => exact ((ins_perm x r).cons y).trans (.swap x y r)
theorem srt_perm : ∀ l, (srt l).Perm l
  | [] => .refl _
  | x :: r => (ins_perm x _).trans ((srt_perm r).cons x)
noncomputable def eqM (a : List Nat) : List Nat → Bool := List.rec (motive := fun _ => List Nat → Bool) (fun b => List.rec (motive := fun _ => Bool) true (fun _ _ _ => false) b) (fun x _ ih b => List.rec (motive := fun _ => Bool) false (fun y b _ => cond (Nat.beq x y) (ih b) false) b) a
theorem eqM_eq : ∀ a b : List Nat, eqM a b = true → a = b
  | [], [], _ => rfl
  | [], _ :: _, h => by cases h
  | _ :: _, [], h => by cases h
  | x :: a, y :: b, h => by
    replace h : cond (Nat.beq x y) (eqM a b) false = true := h
    cases e : Nat.beq x y with
    | false => rw [e] at h; cases h
    | true => rw [e] at h; rw [Nat.eq_of_beq_eq_true e, eqM_eq a b h]
noncomputable def eqMs : List (List Nat) → List (List Nat) → Bool
  | [], [] => true
  | x :: a, y :: b => cond (eqM x y) (eqMs a b) false
  | _, _ => false
theorem eqMs_eq : ∀ a b : List (List Nat), eqMs a b = true → a = b
  | [], [], _ => rfl
  | [], _ :: _, h => by cases h
  | _ :: _, [], h => by cases h
  | x :: a, y :: b, h => by
    rw [eqMs] at h
    cases e : eqM x y with
    | false => rw [e] at h; cases h
    | true => rw [e] at h; rw [eqM_eq x y e, eqMs_eq a b h]
noncomputable def risesB : List (List Nat) → Bool
  | [] => true
  | x :: r => match r with
    | [] => true
    | y :: t => cond (ltM x y) (risesB r) false
noncomputable def sumW (l : List Nat) : Nat := (l.map (· - 65)).sum
noncomputable def sumsUp : List Nat → Bool
  | [] => true
  | x :: r => match r with
    | [] => true
    | y :: t => cond (Nat.ble x y) (sumsUp r) false
noncomputable def wordF (n : Nat) : List Nat := (apF 10 n []).map (·.toNat)
noncomputable def lowW (len : Nat) (wd : List Nat) : List Nat := List.replicate (len - wd.length) 65 ++ wd
noncomputable def caseB (szs figs : List Nat) : Bool :=
  match comeB 70 ⟨[], [wordF (markF 0 szs figs)], [wordF (markF 0 szs figs)]⟩ with
  | none => false
  | some S => match lowGo 20 (markF 0 szs figs) [] with
    | none => false
    | some wd => cond (eqMs S.come.reverse.head?.toList [lowW (1 + szs.sum) wd]) (cond (eqMs (srt (writF (1 + szs.sum) (markF 0 szs figs))) S.book.reverse) (cond (risesB S.book.reverse) (cond (sumsUp (S.come.map sumW)) (cond (Nat.beq S.come.length (manyF szs figs)) (cond (Nat.ble wd.length (1 + szs.sum)) (Nat.blt S.come.length 60) false) false) false) false) false) false
noncomputable def shapes2 : List (List Nat) := [[1],[2],[1,1],[1,2],[2,1],[2,2],[1,1,1],[1,1,2],[1,2,1],[1,2,2],[2,1,1],[2,1,2],[2,2,1],[2,2,2]]
noncomputable def figs3 : List (List Nat) := [1,2,15].flatMap fun a => [1,2,15].flatMap fun b => [1,2,15].map fun c => [a,b,c]
theorem case_1 : ∀ fs ∈ [1,2,15].map fun a => [a,1,1], ∀ szs ∈ [[1],[2]], caseB szs fs = true := by decide +kernel
theorem case_2 : ∀ fs ∈ [1,2,15].flatMap fun a => [1,2,15].map fun b => [a,b,1], ∀ szs ∈ [[1,1],[1,2],[2,1],[2,2]], caseB szs fs = true := by decide +kernel
theorem case_3a : ∀ fs ∈ figs3, caseB [1,1,1] fs = true := by decide +kernel
theorem case_3b : ∀ fs ∈ figs3, caseB [1,1,2] fs = true := by decide +kernel
theorem case_3c : ∀ fs ∈ figs3, caseB [1,2,1] fs = true := by decide +kernel
theorem case_3d : ∀ fs ∈ figs3, caseB [1,2,2] fs = true := by decide +kernel
theorem case_4a : ∀ fs ∈ figs3, caseB [2,1,1] fs = true := by decide +kernel
theorem case_4b : ∀ fs ∈ figs3, caseB [2,1,2] fs = true := by decide +kernel
theorem case_4c : ∀ fs ∈ figs3, caseB [2,2,1] fs = true := by decide +kernel
theorem case_4d : ∀ fs ∈ figs3, caseB [2,2,2] fs = true := by decide +kernel

end Mine
namespace Mine
theorem entOut_perm (book : List (List Nat)) (wd : List Nat) (k : Nat) : (entOut book wd (some k)).Perm (wd :: book) := by
  show (book.take k ++ wd :: book.drop k).Perm _
  have h := @List.perm_middle _ wd (book.take k) (book.drop k)
  rwa [List.take_append_drop] at h
theorem lendStep_perm {l : List Nat} {p : Nat} {s s' : BQ} {X : List (List Nat)} (h : lendStep l p s = some s') (hp : s.book.Perm (X ++ s.q)) : s'.book.Perm (X ++ s'.q) := by
  unfold lendStep at h
  split at h
  · split at h
    · rw [Option.map_eq_some_iff] at h
      obtain ⟨r, _, h⟩ := h
      cases r with
      | none => dsimp only at h; subst h; exact hp
      | some k =>
        dsimp only at h; subst h
        refine (entOut_perm _ _ _).trans ((hp.cons _).trans ?_)
        rw [← List.append_assoc]
        exact (List.perm_append_comm (l₁ := [lendAt l p])).trans (.refl _)
    · cases h
  · obtain rfl := Option.some.inj h; exact hp
theorem lendGo_perm {l : List Nat} {X : List (List Nat)} : ∀ (k p : Nat) {s s' : BQ}, lendGo l k p s = some s' → s.book.Perm (X ++ s.q) → s'.book.Perm (X ++ s'.q)
  | 0, _, _, _, h, hp => by obtain rfl := Option.some.inj h; exact hp
  | k + 1, p, s, s', h, hp => by
    rw [lendGo, Option.bind_eq_some_iff] at h
    obtain ⟨t, h1, h2⟩ := h
    exact lendGo_perm k (p + 1) h2 (lendStep_perm h1 hp)
theorem comeGo_perm : ∀ (f : Nat) {s S : CS}, comeGo f s = some S → s.book.Perm (s.come ++ s.q) → S.book.Perm S.come
  | 0, _, _, h, _ => nomatch h
  | f + 1, ⟨come, book, q⟩, S, h, hp => by
    rw [comeGo] at h
    cases q with
    | nil =>
      obtain rfl := Option.some.inj h
      rwa [List.append_nil] at hp
    | cons l q =>
      dsimp only at h
      split at h
      · rw [Option.bind_eq_some_iff] at h
        obtain ⟨t, h1, h2⟩ := h
        refine comeGo_perm f h2 (lendGo_perm _ _ h1 ?_)
        rw [List.append_assoc]; exact hp
      · cases h
theorem rising_pw : ∀ (p : Str) (l : List Str), risingS p l = true → (p :: l).Pairwise (fun a b => a.cps.toList ≤ b.cps.toList)
  | _, [], _ => List.pairwise_singleton _ _
  | p, x :: r, h => by
    have h' : (!PySem.Spec.ltCps x.cps.toList p.cps.toList && risingS x r) = true := h
    rw [Bool.and_eq_true, Bool.not_eq_true', ltCps_eq, decide_eq_false_iff_not] at h'
    have h1 : p.cps.toList ≤ x.cps.toList := h'.1
    have h2 := rising_pw x r h'.2
    refine List.pairwise_cons.mpr ⟨fun b hb => ?_, h2⟩
    rcases List.mem_cons.mp hb with rfl | hb
    · exact h1
    · exact List.le_trans h1 ((List.pairwise_cons.mp h2).1 b hb)
theorem sorted_pw : ∀ l : List Str, sortedS l = true → l.Pairwise (fun a b => a.cps.toList ≤ b.cps.toList)
  | [], _ => .nil
  | x :: r, h => rising_pw x r h
theorem str_of_cps {a b : Str} (h : a.cps.toList = b.cps.toList) : a = b := by
  obtain ⟨x⟩ := a; obtain ⟨y⟩ := b
  exact congrArg Str.mk (Array.toList_inj.mp h)
/-- a sorted row of texts is one alone -/
theorem sorted_one {a b : List Str} (p : a.Perm b) (ha : sortedS a = true) (hb : sortedS b = true) : a = b :=
  p.eq_of_pairwise (fun _ _ _ _ h1 h2 => str_of_cps (List.le_antisymm h1 h2)) (sorted_pw a ha) (sorted_pw b hb)
theorem ints_one {a b : List Int} (p : a.Perm b) (ha : a.Pairwise (· ≤ ·)) (hb : b.Pairwise (· ≤ ·)) : a = b :=
  p.eq_of_pairwise (fun _ _ _ _ h1 h2 => Int.le_antisymm h1 h2) ha hb
theorem rises_sorted : ∀ l : List (List Nat), risesB l = true → sortedS (l.map mkS) = true
  | [], _ => rfl
  | [_], _ => rfl
  | x :: y :: r, h => by
    rw [risesB] at h
    cases e : ltM x y with
    | false => rw [e] at h; cases h
    | true =>
      rw [e] at h
      have h2 : sortedS ((y :: r).map mkS) = true := rises_sorted (y :: r) h
      rw [ltM_eq] at e
      have e' : x < y := of_decide_eq_true e
      show (!PySem.Spec.ltCps (mkS y).cps.toList (mkS x).cps.toList && risingS (mkS y) (r.map mkS)) = true
      rw [ltCps_eq, decide_eq_false (show ¬ y < x from fun q => List.lt_irrefl x (List.lt_trans e' q))]
      exact h2
theorem sums_pw : ∀ l : List Nat, sumsUp l = true → (l.map fun (x : Nat) => (x : Int)).Pairwise (· ≤ ·)
  | [], _ => .nil
  | [_], _ => List.pairwise_singleton _ _
  | x :: y :: r, h => by
    rw [sumsUp] at h
    cases e : Nat.ble x y with
    | false => rw [e] at h; cases h
    | true =>
      rw [e] at h
      have h2 := sums_pw (y :: r) h
      have hxy : (x : Int) ≤ (y : Int) := Int.ofNat_le.mpr (Nat.le_of_ble_eq_true e)
      refine List.pairwise_cons.mpr ⟨fun b hb => ?_, h2⟩
      rcases List.mem_cons.mp hb with rfl | hb
      · exact hxy
      · exact Int.le_trans hxy ((List.pairwise_cons.mp h2).1 b hb)
theorem cond_tt {a b : Bool} (h : cond a b false = true) : a = true ∧ b = true := by
  cases a with
  | false => cases h
  | true => exact ⟨rfl, h⟩
theorem case2_parts {szs figs : List Nat} (h : caseB szs figs = true) : ∃ S wd, comeGo 70 ⟨[], [wordF (markF 0 szs figs)], [wordF (markF 0 szs figs)]⟩ = some S ∧ lowGo 20 (markF 0 szs figs) [] = some wd ∧
    (∃ p, S.come = p ++ [lowW (1 + szs.sum) wd]) ∧ S.come.Perm (writF (1 + szs.sum) (markF 0 szs figs)) ∧ S.book.reverse.Perm (writF (1 + szs.sum) (markF 0 szs figs)) ∧ sortedS (S.book.reverse.map mkS) = true ∧
    ((S.come.map sumW).map fun (x : Nat) => (x : Int)).Pairwise (· ≤ ·) ∧ S.come.length = manyF szs figs ∧ wd.length ≤ 1 + szs.sum ∧ S.come.length < 60 := by
  unfold caseB at h
  split at h
  · cases h
  · rename_i S hS
    rw [comeB_eq] at hS
    split at h
    · cases h
    · rename_i wd hwd
      obtain ⟨h1, h⟩ := cond_tt h
      obtain ⟨h2, h⟩ := cond_tt h
      obtain ⟨h3, h⟩ := cond_tt h
      obtain ⟨h4, h⟩ := cond_tt h
      obtain ⟨h5, h⟩ := cond_tt h
      obtain ⟨h6, h7⟩ := cond_tt h
      have p1 := comeGo_perm 70 hS (.refl _)
      have p2 : S.book.reverse.Perm (writF (1 + szs.sum) (markF 0 szs figs)) := by
        rw [← eqMs_eq _ _ h2]; exact srt_perm _
      refine ⟨S, wd, hS, hwd, ?_, p1.symm.trans ((List.reverse_perm _).symm.trans p2), p2, rises_sorted _ h3, sums_pw _ h4, Nat.eq_of_beq_eq_true h5, Nat.le_of_ble_eq_true h6, Nat.blt_eq.mp h7⟩
      have h8 := eqMs_eq _ _ h1
      cases hr : S.come.reverse with
      | nil => rw [hr] at h8; cases h8
      | cons x r =>
        rw [hr] at h8
        refine ⟨r.reverse, ?_⟩
        have h9 : S.come = (x :: r).reverse := by rw [← hr, List.reverse_reverse]
        rw [h9, List.reverse_cons]
        injection h8 with h8 _
        rw [h8]
theorem caseB_congr {szs f f' : List Nat} (h : caseB szs f' = true) (h1 : markF 0 szs f = markF 0 szs f') (h2 : manyF szs f = manyF szs f') : caseB szs f = true := by
  unfold caseB at *
  rw [h1, h2]; exact h
theorem case_one {a f1 f2 f3 : Nat} (h : caseB [a] [f1, 1, 1] = true) : caseB [a] [f1, f2, f3] = true := caseB_congr h rfl rfl
theorem case_two {a b f1 f2 f3 : Nat} (h : caseB [a, b] [f1, f2, 1] = true) : caseB [a, b] [f1, f2, f3] = true := caseB_congr h rfl rfl
theorem case2_ok : ∀ szs ∈ shapes2, ∀ f1 ∈ [1, 2, 15], ∀ f2 ∈ [1, 2, 15], ∀ f3 ∈ [1, 2, 15], caseB szs [f1, f2, f3] = true := by
  intro szs hs f1 h1 f2 h2 f3 h3
  have m1 : [f1, 1, 1] ∈ ([1,2,15].map fun a => [a,1,1] : List (List Nat)) := List.mem_map.mpr ⟨f1, h1, rfl⟩
  have m2 : [f1, f2, 1] ∈ ([1,2,15].flatMap fun a => [1,2,15].map fun b => [a,b,1] : List (List Nat)) := List.mem_flatMap.mpr ⟨f1, h1, List.mem_map.mpr ⟨f2, h2, rfl⟩⟩
  have m3 : [f1, f2, f3] ∈ figs3 := List.mem_flatMap.mpr ⟨f1, h1, List.mem_flatMap.mpr ⟨f2, h2, List.mem_map.mpr ⟨f3, h3, rfl⟩⟩⟩
  simp only [shapes2, List.mem_cons, List.not_mem_nil, or_false] at hs
  rcases hs with rfl | rfl | rfl | rfl | rfl | rfl | rfl | rfl | rfl | rfl | rfl | rfl | rfl | rfl
  · exact case_one (case_1 _ m1 _ (.head _))
  · exact case_one (case_1 _ m1 _ (.tail _ (.head _)))
  · exact case_two (case_2 _ m2 _ (.head _))
  · exact case_two (case_2 _ m2 _ (.tail _ (.head _)))
  · exact case_two (case_2 _ m2 _ (.tail _ (.tail _ (.head _))))
  · exact case_two (case_2 _ m2 _ (.tail _ (.tail _ (.tail _ (.head _)))))
  · exact case_3a _ m3
  · exact case_3b _ m3
  · exact case_3c _ m3
  · exact case_3d _ m3
  · exact case_4a _ m3
  · exact case_4b _ m3
  · exact case_4c _ m3
  · exact case_4d _ m3

end Mine
namespace Mine
set_option maxRecDepth 100000
theorem ci_slot : Slot "callable_iterator" "__next__" "callable_iterator.__next__" :=
  .of (owner := "callable_iterator") (n := "__next__") (by rw [typeLookup_type, builtinLookup_eq_fast]; kernel_rfl) (by decide +kernel) (by decide +kernel) (by decide +kernel)
    (by first | exact .inl (by decide +kernel) | exact .inr (by decide +kernel)) (by rw [isSubtype_type]; kernel_rfl)
theorem ci_entry : entryFor table "callable_iterator.__next__" = some Builtin.«callable_iterator.__next__» := entryFor_of_tree (by kernel_rfl)
theorem ci_args (a : Value) : argsOk "callable_iterator.__next__" ⟨[a], []⟩ := by unfold argsOk; kernel_rfl
noncomputable abbrev ciObj (f e : Value) (b : Bool) : Obj := { cls := .type "callable_iterator", data := .fields #[f, e, .bool b] }
section
variable {prog : Program} {w : World} {A : Around} {E : Value → Shared → Prop} {s : Shared}
theorem borrows_meth {A : Around} {E : Value → Shared → Prop} {s : Shared} {mo fn : Addr} {self : Value} {o : Obj} {fd : FuncData} {Q : Bool → Shared → Prop} (hmo : s.heap.get? mo = some (methodObj (.ref fn) self)) (hfn : s.heap.get? fn = some o) (hd : o.data = .func fd)
    (h : Q true s) : wpAny (model prog w) A (borrowsExactly (.ref mo)) Q E s := by
  unfold borrowsExactly
  refine wpAny_bind (wpAny_load hmo ?_)
  show wpAny _ _ (load fn >>= _) _ _ s
  refine wpAny_bind (wpAny_load hfn ?_)
  rw [hd]
  exact wpAny_pure h
theorem ci_next {it mo fn : Addr} {self : Value} {e : Str} {te : Tok} {o : Obj} {fd : FuncData} {Q : Option Value → Shared → Prop} (hh : A.handled = none)
    (hit : s.heap.get? it = some (ciObj (.ref mo) (.str e te) false)) (hmo : s.heap.get? mo = some (methodObj (.ref fn) self)) (hfn : s.heap.get? fn = some o) (hd : o.data = .func fd)
    (hc : codeAny (model prog w) A.in1 (.call (.ref fn) ⟨[self], []⟩) (fun r s' => ∃ y t, r = .ok (.ret (.str y t)) ∧ s'.heap.get? it = some (ciObj (.ref mo) (.str e te) false) ∧ s'.heap.get? mo = some (methodObj (.ref fn) self) ∧ (∃ o fd, s'.heap.get? fn = some o ∧ o.data = .func fd) ∧
      (if e = y then ∀ h', Heap.ExtBut it s'.heap h' → h'.get? it = some (ciObj .none .none true) → Q none { s' with heap := h' } else Q (some (.str y t)) s')) s) :
    wpAny (model prog w) A (pyNext (.ref it)) Q E s := by
  have hT : s.TypeIs (.ref it) "callable_iterator" := ⟨_, hit, rfl⟩
  unfold pyNext
  refine wpAny_bind (wpAny_attempt (wpAny_callSpecial?_slot (name := PySem.Str.ofString "__next__") hT ci_slot
    (wpAny_call_entry ci_slot hT ci_entry ?_ (ci_args _))))
  show wpAny _ _ (field (.ref it) 2 >>= _) _ _ s
  refine wpAny_bind (wpAny_field hit rfl (x := .bool false) rfl ?_)
  show wpAny _ _ (if (Value.bool false == Value.bool true) = true then _ else _) _ _ s
  rw [if_neg (show ¬ ((Value.bool false == Value.bool true) = true) from by decide)]
  show wpAny _ _ (field (.ref it) 0 >>= _) _ _ s
  refine wpAny_bind (wpAny_field hit rfl (x := .ref mo) rfl (wpAny_bind (wpAny_attempt ?_)))
  unfold callOutOfASlot
  refine wpAny_bind (borrows_meth hmo hfn hd ?_)
  show wpAny _ _ (callBorrowed (.ref mo) []) _ _ s
  unfold callBorrowed
  refine X.x_call (method_call hmo (codeAny_mono hc fun r s' hr => ?_)) (by intro q; cases q)
  obtain ⟨y, t, rfl, hit', hmo', ⟨o', fd', hfn', hd'⟩, hq⟩ := hr
  refine wpAny_pure ?_
  show wpAny _ _ (field (.ref it) 2 >>= _) _ _ s'
  refine wpAny_bind (wpAny_field hit' rfl (x := .bool false) rfl ?_)
  show wpAny _ _ (if (Value.bool false == Value.bool true) = true then _ else _) _ _ s'
  rw [if_neg (show ¬ ((Value.bool false == Value.bool true) = true) from by decide)]
  show wpAny _ _ (field (.ref it) 1 >>= _) _ _ s'
  refine wpAny_bind (wpAny_field hit' rfl (x := .str e te) rfl (wpAny_bind (wpAny_holding (eqBool_str ?_))))
  by_cases he : e = y
  · rw [if_pos he] at hq
    rw [show (e == y) = true from by simpa using he]
    show wpAny _ _ (rule _ >>= _) _ _ s'
    refine wpAny_bind (wpAny_rule ?_)
    refine wpAny_bind ?_
    show wpAny _ _ (field (.ref it) 0 >>= fun old => slotLetsGo "callable_iterator.__next__" old _ >>= fun _ => setField (.ref it) 0 .none >>= fun _ => setField (.ref it) 1 .none >>= fun _ => setField (.ref it) 2 (.bool true)) _ _ s'
    refine wpAny_bind (wpAny_field hit' rfl (x := .ref mo) rfl (wpAny_bind ?_))
    unfold slotLetsGo
    refine wpAny_bind (borrows_meth hmo' hfn' hd' (wpAny_pure ?_))
    refine wpAny_bind (wpAny_setField_rec hit' (by simp) fun h₁ e₁ b₁ => ?_)
    refine wpAny_bind (wpAny_setField_rec e₁ (by simp) fun h₂ e₂ b₂ => ?_)
    refine wpAny_setField_rec e₂ (by simp) fun h₃ e₃ b₃ => ?_
    have hb : Heap.ExtBut it s'.heap h₃ := fun b o hb ho => b₃.extBut b o hb (b₂.extBut b o hb (b₁.extBut b o hb ho))
    show wpAny _ _ (newExc (.type "StopIteration") [] >>= _) _ _ _
    refine wpAny_bind ?_
    simp only [newExc, newTuple]
    refine wpAny_bind (wpAny_newObj_type ?_ (by size_fits))
    refine wpAny_bind (m := firstArgMember _ _) (wpAny_of_eq (a := Value.none) (by first | rfl | (simp only [firstArgMember]; rfl)) ?_)
    refine wpAny_newObj_type ?_ (by size_fits)
    simp only [raiseNew]
    refine wpAny_bind (wpAny_handled ?_)
    rw [show A.in1.handled = none from hh]
    refine wpAny_bind (wpAny_pure (wpAny_throw ?_))
    refine wpAny_bind (wpAny_isInstance (T := "StopIteration") (b := true) ⟨_, Heap.get?_push_size _ rfl, rfl⟩ isSubtype_stop ?_)
    exact wpAny_pure (hq _ ((hb.push _).push _) (Heap.get?_push_of_some _ (Heap.get?_push_of_some _ e₃)))
  · rw [if_neg he] at hq
    rw [show (e == y) = false from by simpa using he]
    exact wpAny_pure ⟨_, rfl, wpAny_pure hq⟩

theorem ci_slot_self : Slot "callable_iterator" "__iter__" "callable_iterator.__iter__" :=
  .of (owner := "callable_iterator") (n := "__iter__") (by rw [typeLookup_type, builtinLookup_eq_fast]; kernel_rfl) (by decide +kernel) (by decide +kernel) (by decide +kernel)
    (by first | exact .inl (by decide +kernel) | exact .inr (by decide +kernel)) (by rw [isSubtype_type]; kernel_rfl)
theorem ci_entry_self : entryFor table "callable_iterator.__iter__" = some Builtin.«dict_keyiterator.__iter__» := entryFor_alias (id' := "dict_keyiterator.__iter__") (by kernel_rfl) rfl (by decide +kernel) (by kernel_rfl)
theorem ci_args_self (a : Value) : argsOk "callable_iterator.__iter__" ⟨[a], []⟩ := by unfold argsOk; kernel_rfl
theorem ci_self {it : Addr} {f e : Value} {b : Bool} {Q : Value → Shared → Prop} (hit : s.heap.get? it = some (ciObj f e b)) (h : Q (.ref it) s) : wpAny (model prog w) A (pyIter (.ref it)) Q E s := by
  have hT : s.TypeIs (.ref it) "callable_iterator" := ⟨_, hit, rfl⟩
  refine wpAny_pyIter_slot hT ci_slot_self (wpAny_call_entry ci_slot_self hT ci_entry_self ?_ (ci_args_self _))
  show wpAny _ _ (ret (.ref it)) _ _ s
  exact wpAny_pure ⟨_, rfl, "callable_iterator", _, hT, ci_slot.lookup, h⟩
theorem ci_lookup : typeLookup (.type "method") "__call__" = pure (some (.builtin "method.__call__")) := by rw [typeLookup_type, builtinLookup_eq_fast]; kernel_rfl
theorem ci_args_iter (a b : Value) : argsOk "iter" ⟨[a, b], []⟩ := by unfold argsOk; kernel_rfl
theorem ci_make {mo : Addr} {f self : Value} {e : Str} {te : Tok} {h₀ : Heap} {L : Addr} {m : Str → Option Value} {news : List (Addr × Obj)} {Q : Value → Shared → Prop} (F : Fr h₀ L s.heap m) (N : News h₀ L s.heap news) (hmo : (mo, methodObj f self) ∈ news)
    (h : ∀ a h' mo' te', mo' = mo → te' = te → Fr h₀ L h' m → News h₀ L h' ((a, ciObj (.ref mo') (.str e te') false) :: news) → (∀ p ∈ news, p.1 < a) → Q (.ref a) { s with heap := h' }) :
    wpAny (model prog w) A (call (.builtin "iter") [.ref mo, .str e te]) Q E s := by
  refine call_function_entry (by decide +kernel) (by decide +kernel) kdk_entry_iter (ci_args_iter _ _) ?_
  unfold Builtin.«iter»
  refine wpAny_bind (m := someArgs "iter" 1 2 _) (wpAny_of_eq (a := [Value.ref mo, Value.str e te]) (by kernel_rfl!) ?_)
  dsimp only
  refine wpAny_bind (wpAny_specialOf (T := "method") (name := Str.ofString "__call__") ⟨_, (N _ hmo).1, rfl⟩ ci_lookup ?_)
  refine wpAny_ite_split (fun hab => absurd hab (by simp)) (fun _ => ?_)
  show wpAny _ _ (rule _ >>= _) _ _ s
  refine wpAny_bind (wpAny_rule (wpAny_bind ?_))
  show wpAny _ _ (newFields "callable_iterator" [.ref mo, .str e te, .bool false]) _ _ s
  exact wpAny_newObj_type (wpAny_pure ⟨_, rfl, h _ _ _ _ rfl rfl (F.push _) (N.push F _) fun p hp => Heap.lt_size (N p hp).1⟩)
end

end Mine
namespace Mine
section
variable {prog : Program} {w : World} {A : Around} {E : Value → Shared → Prop} {s : Shared} {h₀ : Heap} {m : Str → Option Value} {env : Env}
/-- the block of a comprehension whose list is laid under a name at once, its source fresh -/
theorem comp_freshA {elt iter : Expr} {x y : Str} {px py : Pos} {scope : Scope} {cl : List (Str × Addr)} {pos : Pos} {s₁ : Shared} {o : Obj} {n : Nat} {P : Nat → Value → Prop} {St : Nat → Heap → Prop} {news : List (Addr × Obj)} {Q : Flow → Shared → Prop}
    (W : Walks prog w A s₁.heap.objs.size [s₁.heap.objs.size] [s₁.heap.objs.size] n P St) (hIo : ∀ i h, St i h → ∃ o, h.get? s₁.heap.objs.size = some o) (hst : St 0 (s₁.heap.push o)) (hsz : n ≤ sizeLine)
    (hcell : ∀ y ∈ scope.names, y.2 ≠ .cell) (hkind : scope.kind = .function) (hx : scope.names.lookup x = some .local)
    (hy : env.kindOf y = some .local) (hp : (env.scope.kind == .class || (env.scope.kind == .module && env.locals != env.globals)) = false)
    (F : Fr h₀ env.locals s₁.heap m) (N : News h₀ env.locals s₁.heap news)
    (R : CompRest prog w A h₀ env.locals m env elt x scope cl { s₁ with heap := s₁.heap.push o } (fun _ => True) P (FinA h₀ env.locals m { s₁ with heap := s₁.heap.push o } y Q) n 0 [] news) :
    wpAny (model prog w) A (newList []) (fun acc s₃ => wpAny (model prog w) A (newFunctionEnv scope env.globals cl [] env.qual none .none (some env)) (fun cenv s₄ =>
      codeAny (model prog w) A (.compStart (.ListComp elt [⟨.Name x px, iter, [], 0⟩] scope pos) 0 (.ref s₁.heap.objs.size) acc { cenv with scope := relabel scope env }) (compPost (model prog w) A E (some (assign (.Name y py) env)) (fun _ s' => Q .next s') acc cenv.locals) s₄) E s₃) E { s₁ with heap := s₁.heap.push o } := by
  have up : ∀ b o', s₁.heap.get? b = some o' → (s₁.heap.push o).get? b = some o' := fun _ _ e => Heap.get?_push_of_some _ e
  refine block_U W hsz hIo (fun i h h' o' nw st e e' k _ _ => W.frame i h h' st fun b hb o'' e'' => ?_) hcell hkind hx hst (fun b hb => ?_)
      (F.keeps up) (N.grown up) (Nat.ne_of_lt F.ns.lt) (next_is_new F) (fun p hp => Nat.ne_of_lt (Heap.lt_size (N p hp).1)) trivial R ?_
  · rw [List.mem_singleton.mp hb] at e'' ⊢
    rw [e] at e''; cases e''; exact e'
  · rw [List.mem_singleton.mp hb]
    show s₁.heap.objs.size < (s₁.heap.push _).objs.size
    rw [Heap.size_push]; exact Nat.lt_succ_self _
  · intro D C h' tk m' ys news' F' N' o1 hn hC₀ hD₀ hCL hDL hCD offC fin
    show wpAny _ A (assign (.Name y py) env (.ref D)) _ _ _
    refine wpAny_assign_Name (wpAny_storeName_local hy F'.ns (fun h₂ hn₂ hs₂ => ?_) hp)
    have hL₀ : h₀.get? env.locals = none := Heap.get?_none_of_le F'.above
    have F₂ : Fr h₀ env.locals h₂ (fun z => if z = y then some (.ref D) else m z) := ⟨hn₂, fun b o e => hs₂.extBut b o (fun q => by rw [q, hL₀] at e; cases e) (F'.keep b o e), F'.above⟩
    refine ⟨m', hn.sameBut hs₂ hCL, fun h'' hs'' => fin D h'' _ (F₂.change hs'' hCL hC₀) (fun p hp => ?_) o1⟩
    have z : h₂.get? p.1 = some p.2 := hs₂.extBut _ _ (N' p hp).2.1 (N' p hp).1
    refine ⟨hs''.extBut _ _ ?_ z, (N' p hp).2⟩
    rcases List.mem_cons.mp hp with rfl | hp
    · exact Ne.symm hCD
    · exact offC p hp
/-- a comprehension over a text, laid under a name -/
theorem Assign_ListComp_S {elt iter : Expr} {x y : Str} {px py : Pos} {scope : Scope} {cl : List (Str × Addr)} {pos spos : Pos} {Q : Flow → Shared → Prop} (F₀ : Fr h₀ env.locals s.heap m)
    (hsw : swapsWith (.ListComp elt [⟨.Name x px, iter, [], 0⟩] scope pos) (some (.Name y py)) spos.line env = pure true)
    (hclos : closureFor scope env = pure cl) (hcell : ∀ z ∈ scope.names, z.2 ≠ .cell) (hkind : scope.kind = .function)
    (hnames : ∀ z ∈ scope.names, z.2 = .local → scope.names.lookup z.1 = some .local) (hx : scope.names.lookup x = some .local)
    (hy : env.kindOf y = some .local) (hp : (env.scope.kind == .class || (env.scope.kind == .module && env.locals != env.globals)) = false)
    (h : wpAny (model prog w) A (eval iter env) (SrcT prog w A h₀ env.locals m env elt x scope cl (fun s₂ => FinA h₀ env.locals m s₂ y Q)) E s)
    (hs : ∀ x, foldedSetIterable iter env x = pure x := by intro _; rfl) :
    wpAny (model prog w) A (exec (.Assign [.Name y py] (.ListComp elt [⟨.Name x px, iter, [], 0⟩] scope pos) spos) env) Q E s := by
  rw [exec_Assign_Name_used _ _ _ _ hsw]
  refine wpAny_bind (wpAny_standAt (wpAny_bind ?_))
  show wpAny _ A (do let _ ← comprehension (.ListComp elt [⟨.Name x px, iter, [], 0⟩] scope pos) scope env _ (newList []) false (eval iter env) (some (assign (.Name y py) env))) _ _ s
  refine wpAny_bind (wpAny_mono (wpAny_comprehension_free (use := some (assign (.Name y py) env)) (Q := fun _ s' => Q .next s') rfl hs hclos hkind hnames
    (wpAny_mono h (fun xv s₁ h₁ => ?_) fun _ _ e => e)) (fun _ s' hq => wpAny_pure (wpAny_pure hq)) fun _ _ e => e)
  obtain ⟨z, t, news, rfl, hh, F, N, hsz, R⟩ := h₁
  cases ha : z.cps.all (· < 128)
  · exact wpAny_pyIter_wide ha (comp_freshA (iter := iter) (Walks.strWide hh _ z t) (fun i h st => by obtain ⟨o, e, _⟩ := st; exact ⟨o, e⟩) ⟨_, Heap.get?_push_size _ rfl, rfl, rfl⟩ hsz hcell hkind hx hy hp F N (R _ ⟨_, rfl⟩))
  · exact wpAny_pyIter_ascii ha (comp_freshA (iter := iter) (Walks.strAscii hh _ z t) (fun i h st => by obtain ⟨o, e, _⟩ := st; exact ⟨o, e⟩) ⟨_, Heap.get?_push_size _ rfl, rfl, rfl⟩ hsz hcell hkind hx hy hp F N (R _ ⟨_, rfl⟩))
theorem SrcT.text {L : Addr} {elt : Expr} {x : Str} {scope : Scope} {cl : List (Str × Addr)} {Fin : Shared → List Value → List (Addr × Obj) → Prop} {y : Str} {t : Tok} {news : List (Addr × Obj)} {s₁ : Shared}
    (hh : A.handled = none) (F : Fr h₀ L s₁.heap m) (N : News h₀ L s₁.heap news) (hz : y.cps.size ≤ sizeLine)
    (h : ∀ g, CompRest prog w A h₀ L m env elt x scope cl { s₁ with heap := g } (fun _ => True) (SignAt y) (Fin { s₁ with heap := g }) y.cps.size 0 [] news) : SrcT prog w A h₀ L m env elt x scope cl Fin (.str y t) s₁ :=
  ⟨y, t, news, rfl, hh, F, N, hz, fun _ ⟨g, e⟩ => e ▸ h g⟩
end

end Mine
namespace Mine
noncomputable abbrev rIter (a left : Int) : Obj := { cls := .type "range_iterator", dict := none, data := .fields #[rawInt a, rawInt left, rawInt 1], slots := #[] }
theorem if_n (n : Nat) : (if (0 : Int) < (n : Int) then (n : Int) - 0 else 0) = (n : Int) := by
  by_cases h : (0 : Int) < (n : Int)
  · rw [if_pos h]; omega
  · rw [if_neg h]; omega
section
variable {prog : Program} {w : World} {A : Around} {E : Value → Shared → Prop} {s : Shared} {h₀ : Heap} {L : Addr} {m : Str → Option Value} {rest : List (Addr × Obj)}
theorem range_next {it : Addr} {a left : Int} {Q : Option Value → Shared → Prop} (hh : A.handled = none) (F : Fr h₀ L s.heap m) (N : News h₀ L s.heap ((it, rIter a left) :: rest)) (hf : ∀ p ∈ rest, p.1 ≠ it)
    (item : 0 < left → ∀ h' t, Fr h₀ L h' m → News h₀ L h' ((it, rIter (a + 1) (left - 1)) :: rest) → Q (some (.int a t)) { s with heap := h', toks := s.toks + 1 })
    (done : left ≤ 0 → ∀ h', Fr h₀ L h' m → News h₀ L h' rest → Q none { s with heap := h' }) : wpAny (model prog w) A (pyNext (.ref it)) Q E s := by
  have hit : IsRangeIter s.heap it a left 1 := (N _ (.head _)).1
  have z := N _ (.head _)
  by_cases hl : 0 < left
  · refine wpAny_pyNext_range_item hit hl fun h' hit' hs' => item hl h' _ (F.change hs' z.2.1 z.2.2) fun p hp => ?_
    rcases List.mem_cons.mp hp with rfl | hp
    · exact ⟨hit', z.2⟩
    · exact ⟨(hs'.2 _ (hf p hp)).trans (N p (.tail _ hp)).1, (N p (.tail _ hp)).2⟩
  · refine wpAny_pyNext_range_end hh hit (by omega) fun h' he' => done (by omega) h' (fr_but F (fun b o hb e => he' b o (by simpa using hb) e) (Ne.symm z.2.1) z.2.2) fun p hp => ?_
    exact ⟨he' _ _ (hf p hp) (N p (.tail _ hp)).1, (N p (.tail _ hp)).2⟩
theorem range_start {b : Int} {t : Tok} {Q : Value → Shared → Prop} (n : Nat) (hn : b = (n : Int)) (hz : n ≤ 1000000) (F : Fr h₀ L s.heap m) (N : News h₀ L s.heap rest)
    (h : ∀ it h' tk, Fr h₀ L h' m → News h₀ L h' ((it, rIter 0 n) :: rest) → (∀ p ∈ rest, p.1 < it) → Q (.ref it) { s with heap := h', toks := tk }) :
    wpAny (model prog w) A (call (.type "range") [.int b t]) (fun xv s₁ => wpAny (model prog w) A (pyIter xv) Q E s₁) E s := by
  subst hn
  refine call_range_1 ?_
  have up : ∀ b' o, s.heap.get? b' = some o → (s.heap.push { cls := .type "range", data := .fields #[.int 0 s.toks, .int (n : Int) t, .int 1 (s.toks + 1)] }).get? b' = some o := fun b o e => Heap.get?_push_of_some _ e
  refine wpAny_pyIter_range (IsRange.new ..) (small_one (by decide) (by decide) (by omega) (by omega)) ?_
  have lt : ∀ p ∈ rest, p.1 < s.heap.objs.size := fun p hp => Heap.lt_size (N p hp).1
  have hLs : L < s.heap.objs.size := F.ns.lt
  have up2 : ∀ b' o, s.heap.get? b' = some o → ((s.heap.push { cls := .type "range", data := .fields #[.int 0 s.toks, .int (n : Int) t, .int 1 (s.toks + 1)] }).push { cls := .type "range_iterator", data := .fields #[rawInt 0, rawInt (Builtin.Range.rangeSize 0 (n : Int) 1), rawInt 1] }).get? b' = some o := fun b o e => Heap.get?_push_of_some _ (up b o e)
  refine h _ _ _ (F.keeps up2) (fun p hp => ?_) (fun p hp => by show p.1 < (s.heap.push _).objs.size; rw [Heap.size_push]; exact Nat.lt_succ_of_lt (lt p hp))
  rcases List.mem_cons.mp hp with rfl | hp
  · refine ⟨?_, ?_, ?_⟩
    · show Heap.get? _ (s.heap.push _).objs.size = some (rIter 0 n)
      rw [show rIter 0 (n : Int) = { cls := .type "range_iterator", data := .fields #[rawInt 0, rawInt (Builtin.Range.rangeSize 0 (n : Int) 1), rawInt 1] } by rw [rangeSize_one, if_n]]
      exact Heap.get?_push_size _ rfl
    · show (s.heap.push _).objs.size ≠ L
      rw [Heap.size_push]
      exact Nat.ne_of_gt (Nat.lt_succ_of_lt hLs)
    · exact Heap.get?_none_of_le (Nat.le_trans F.above (Nat.le_of_lt (by show L < (s.heap.push _).objs.size; rw [Heap.size_push]; exact Nat.lt_succ_of_lt hLs)))
  · exact ⟨up2 _ _ (N p hp).1, (N p hp).2⟩
end

end Mine
namespace Mine
section
open LCt
variable {prog : Program} {w : World} {A : Around} {s : Shared} {h₀ : Heap} {L : Addr} {m : Str → Option Value} {env : Env}
/-- a comprehension with one test, by an invariant over what it has made and the ledger -/
theorem compRestT_ind {ct elt : Expr} {x : Str} {scope : Scope} {cl : List (Str × Addr)} {S : List (Addr × Obj) → Prop} {P : Nat → Value → Prop} {Fin : List Value → List (Addr × Obj) → Prop} {n : Nat} (J : Nat → List Value → List (Addr × Obj) → Prop)
    (turn : ∀ i ys news v I oI C oC D m₂ h tk (E' : Value → Shared → Prop), i < n → J i ys news → P i v → NsObj oC m₂ → m₂ x = some v → Fr h₀ L h m → News h₀ L h ((I, oI) :: (C, oC) :: (D, lst ys) :: news) → Off3 I C D news → ((@Ne Nat I C) ∧ (@Ne Nat I D) ∧ (@Ne Nat C D)) →
      wpAny (model prog w) A (isTrue ct (compEnvC scope cl C env) (eval ct (compEnvC scope cl C env))) (fun ok s' => if ok = true then
        wpAny (model prog w) A (eval elt (compEnvC scope cl C env)) (CompEnd h₀ L m { s with heap := h, toks := tk } I oI C oC D (lst ys) S (fun y news' => J (i + 1) (ys ++ [y]) news')) E' s'
        else CompEnd h₀ L m { s with heap := h, toks := tk } I oI C oC D (lst ys) S (fun _ news' => J (i + 1) ys news') Value.none s') E' { s with heap := h, toks := tk })
    (fin : ∀ ys news, J n ys news → Fin ys news) : ∀ k i ys news, n = i + k → J i ys news → CompRestT prog w A h₀ L m env ct elt x scope cl s S P Fin k i ys news := by
  intro k
  induction k with
  | zero => intro i ys news e hj; have : i = n := by omega
            subst this; exact CompRestT.zero (fin _ _ hj)
  | succ k ih =>
    intro i ys news e hj
    refine CompRestT.succ fun v I oI C oC D m₂ h tk E' hP hC hx F N off ne => ?_
    refine wpAny_mono (turn i ys news v I oI C oC D m₂ h tk E' (by omega) hj hP hC hx F N off ne) (fun ok s₁ q => ?_) fun _ _ q => q
    cases ok with
    | true =>
      simp only [if_true] at q ⊢
      refine wpAny_mono q (fun y s₂ q => ?_) fun _ _ q => q
      obtain ⟨h', tk', news', e', F', N', o', hS, r⟩ := q
      exact ⟨h', tk', news', e', F', N', o', hS, ih _ _ _ (by omega) r⟩
    | false =>
      simp only [Bool.false_eq_true, if_false] at q ⊢
      obtain ⟨h', tk', news', e', F', N', o', hS, r⟩ := q
      exact ⟨h', tk', news', e', F', N', o', hS, ih _ _ _ (by omega) r⟩
end

end Mine
namespace Mine
section
variable {prog : Program} {w : World} {A : Around} {E : Value → Shared → Prop} {s : Shared} {h₀ : Heap} {L : Addr} {m : Str → Option Value} {news : List (Addr × Obj)}
/-- a comprehension over a range -/
theorem comp_range {b : Int} {t : Tok} {env : Env} {elt : Expr} {x : Str} {scope : Scope} {cl : List (Str × Addr)} {Fin : Shared → List Value → List (Addr × Obj) → Prop} (n : Nat) (hn : b = (n : Int)) (hz : n ≤ 1000000) (hh : A.handled = none) (F : Fr h₀ L s.heap m) (N : News h₀ L s.heap news)
    (h : ∀ g tk, CompRest prog w A h₀ L m env elt x scope cl { s with heap := g, toks := tk } (fun _ => True) (fun i v => ∃ t, v = .int (0 + (i : Int)) t) (Fin { s with heap := g, toks := tk }) n 0 [] news) :
    wpAny (model prog w) A (call (.type "range") [.int b t]) (CompSrc prog w A h₀ L m env elt x scope cl Fin) E s := by
  subst hn
  refine call_range_1 ?_
  have up : ∀ b' o, s.heap.get? b' = some o → (s.heap.push { cls := .type "range", data := .fields #[.int 0 s.toks, .int (n : Int) t, .int 1 (s.toks + 1)] }).get? b' = some o := fun b o e => Heap.get?_push_of_some _ e
  exact CompSrc.range hh (F.keeps up) (fun p hp => ⟨up _ _ (N p hp).1, (N p hp).2⟩) (IsRange.new ..) (small_one (by decide) (by decide) (by omega) (by omega)) (by rw [rangeSize_one, if_n]) (by rw [sizeLine_eq]; omega) fun g => h g _
end
theorem count_cast (l : List Nat) (i : Nat) : (l.map fun (n : Nat) => (n : Int)).count (0 + (i : Int)) = (l.filter (· == i)).length := by
  rw [Int.zero_add]
  induction l with
  | nil => rfl
  | cons a r ih =>
    rw [List.map_cons, List.count_cons, ih]
    by_cases h : a = i
    · subst h; simp
    · have h2 : ¬ ((a : Int) = (i : Int)) := by omega
      simp [h, h2]

end Mine
namespace Mine
theorem off1_all {D : Addr} : ∀ {l : List (Addr × Obj)}, Off1 D l → ∀ p ∈ l, p.1 ≠ D
  | [], _, _, h => nomatch h
  | q :: l, h, p, hp => by
    rcases List.mem_cons.mp hp with rfl | hp
    · exact h.1
    · exact off1_all h.2 p hp

end Mine
namespace Mine
theorem fm16 (n : Nat) : (n : Int).fmod 16 = ((n % 16 : Nat) : Int) := by rw [Int.fmod_eq_emod_of_nonneg _ (by decide)]; omega
theorem chN9 (n i : Nat) : ((n : Int).fdiv ((9 : Int) ^ ((i : Int)).toNat)).fmod 16 = ((n / 9 ^ i % 16 : Nat) : Int) := chN 9 16 n i (by decide) (by decide)
theorem empty_mkS : Str.ofString "" = mkS [] := by decide +kernel
section
variable {prog : Program} {w : World} {A A₀ : Around} {E : Value → Shared → Prop} {s : Shared} {K : Frag} {L : Addr} {h₀ base : Heap} {m mg mb : Str → Option Value} {p : Program} {loose : List Str} {mean : ExcName → Option Value}
  {env : Env} {outer : List Env} {R : Result → Shared → Prop} {name qual : Str} {params : Arguments} {body : List Stmt} {scope : Scope} {dV kV doc pm cdv ct oc : Value} {an od : Option Addr} {osl : Array (Option Value)} {f : Addr} {args : Args} {binds : List (Str × Value)}
/-- a def that only reads: its ground is the whole heap of its caller -/
theorem code_open (B : Below A₀ base outer h₀) (F : Fr h₀ L s.heap m) (X₀ : K.In h₀) (T : Top p loose mean mg mb h₀) (hA : A.frames = some (env :: outer)) (hf : env.frame = some L) (hke : env.scope.kind = .function)
    (ho : K.lookup f = some ⟨oc, od, .func (fnOf name qual params body scope dV kV doc pm an cdv ct), osl⟩) (hcd : codeIn K cdv qual = true) (hroom : A.depth < recursionLimit)
    (hbind : BindsTo s (fnOf name qual params body scope dV kV doc pm an cdv ct) args binds) (hloc : ∀ y ∈ binds, scope.names.lookup y.1 = some .local)
    (h : ∀ L' h₁, Fr s.heap L' h₁ (fun y => binds.reverse.lookup y) → News s.heap L' h₁ [] → Below A base (env :: outer) s.heap → K.In s.heap → Top p loose mean mg mb s.heap → s.heap.objs.size ≤ L' →
      wpAny (model prog w) (A.deeper (envOf qual scope L' f cdv)) (execs body (envOf qual scope L' f cdv))
        (fun fl s' => LeaveK h₀ L m s.heap R (match fl with | .ret v => v | _ => .none) s')
        (fun e s' => wpAny (model prog w) (A.deeper (envOf qual scope L' f cdv)) (leaving (envOf qual scope L' f cdv) e) (fun _ s'' => R (.error e) s'') (fun e' s'' => R (.error e') s'') s')
        { s with heap := h₁, toks := s.toks + binds.length })
    (hco : scope.isCoroutine = false) (hgen : scope.isGenerator = false) (hk : scope.kind = .function) (hcell : ∀ x ∈ scope.names, x.2 ≠ .cell) : codeAny (model prog w) A (.call (.ref f) args) R s := by
  obtain ⟨_, BG, st, lv⟩ := groundX (R := R) (news := []) B F (fun _ q => nomatch q) hA hf hke
  refine codeAny_call_def (fd := fnOf name qual params body scope dV kV doc pm an cdv ct) (body := body) (binds := binds) hroom ((X₀.keeps F.keep) _ _ ho) rfl (T.nolimit.keeps F.keep) (codeRec_of (X₀.keeps F.keep) hcd) rfl hbind hcell hloc (fun h₁ hns hk₁ => ?_) hco hgen hk
  exact wpAny_mono (h s.heap.objs.size h₁ ⟨hns, fun b o e => hk₁ b o e, Nat.le_refl _⟩ (fun _ q => nomatch q) BG (X₀.keeps st) (T.keeps st) (Nat.le_refl _)) (fun fl s' hl => lv _ _ hl) fun _ _ y => y
end
section
variable {prog : Program} {w : World} {A : Around} {E : Value → Shared → Prop} {s : Shared} {h₀ : Heap} {L : Addr} {m : Str → Option Value} {news : List (Addr × Obj)} {σ α β : Type}
/-- a loop over the pairs of two lists that stay, by an invariant over named state -/
theorem pair2_st {K₁ : ItemKind α} {K₂ : ItemKind β} {as : List α} {bs : List β} {xv : Value} {env : Env} (S : PairSrc2L prog w A E h₀ L K₁ K₂ as bs xv s m news) (hL : env.locals = L) {xi xc : Str} {body : List Stmt} {Q : Flow → Shared → Prop}
    (vars : σ → List (Str × Value)) (ok : Nat → σ → Prop) (y : σ) (hb : HasB m (vars y)) (h : ok 0 y)
    (turn : ∀ i a b va vb y h tk m₁ own, as[i]? = some a → bs[i]? = some b → K₁.is a va → K₂.is b vb → ok i y → Fr h₀ env.locals h (fun z => if z = xc then some vb else if z = xi then some va else mB (vars y) m₁ z) → News h₀ env.locals h (own ++ news) →
      wpAny (model prog w) A (execs body env) (fun f s₂ => match f with
        | .ret v => Q (.ret v) s₂
        | .brk => Q .next s₂
        | _ => PairEnd h₀ env.locals vars (fun _ => news) ok own news (i + 1) { s with heap := h, toks := tk } s₂) E { s with heap := h, toks := tk })
    (done : ∀ h' tk m₁ y, ok (as.zip bs).length y → Fr h₀ env.locals h' (mB (vars y) m₁) → News h₀ env.locals h' news → Q .next { s with heap := h', toks := tk }) :
    wpAny (model prog w) A (pyIter xv) (fun it s₂ => PairAt3 prog w A h₀ env xi xc body Q E it s₂) E s := by
  refine S.at env hL xi xc body Q (fun i m₁ news₁ => ∃ y, ok i y ∧ HasB m₁ (vars y) ∧ news₁ = news) ⟨y, h, hb, rfl⟩ ?_ ?_
  · rintro i a b va vb m₁ news₁ s₁ own ⟨h', tk, rfl⟩ ha hb' k1 k2 ⟨y₁, h₁, hb₁, rfl⟩ hm hoff F N
    rw [← mB_eq hb₁] at F
    refine wpAny_mono (turn i a b va vb y₁ h' tk m₁ own ha hb' k1 k2 h₁ F N) (fun f s₂ p => ?_) fun _ _ e => e
    have fin : PairEnd h₀ env.locals vars (fun _ => news₁) ok own news₁ (i + 1) { s with heap := h', toks := tk } s₂ → LoopStep2 h₀ env.locals own news₁ (fun m₁ news₂ => ∃ y, ok (i + 1) y ∧ HasB m₁ (vars y) ∧ news₂ = news₁) { s with heap := h', toks := tk } .next s₂ := by
      rintro ⟨h'', tk', m', y₂, e, h₂, F₂, hb₂, N₂, ha₂⟩
      exact ⟨rfl, h'', tk', m', news₁, e, F₂, fun p hp => N₂ p ((List.mem_append.mp hp).elim (List.mem_append_right _) (List.mem_append_left _)), ha₂, y₂, h₂, hb₂, rfl⟩
    cases f with
    | ret v => exact p
    | brk => exact p
    | cont => exact fin p
    | next => exact fin p
  · rintro h' tk m' news' F N hm ⟨y₁, h₁, hb₁, rfl⟩
    exact done h' tk m' y₁ h₁ (fr_mB F hb₁) N
end
/-- a def that changes nothing of its caller's, what it makes told apart, not in order -/
noncomputable def CtrN (prog : Program) (w : World) (K : Frag) (p : Program) (D U : Nat) (f : Addr) (vs : List Value) (led : List (Addr × Obj)) (Post : Value → List (Addr × Obj) → Prop) : Prop :=
  ∀ (loose : List Str) (mean : ExcName → Option Value) (mg mb : Str → Option Value) (rest : List (Addr × Obj)) (dp un : Nat) (gd : Option (List Code)) (cn : Str) (cs : Scope) (a : Addr) (ccd : Value) (cl : List (Str × Addr)) (outer : List Env) (A₀ : Around) (base h₀ : Heap) (L : Addr) (m : Str → Option Value) (s : Shared) (R : Result → Shared → Prop),
    (∀ q ∈ led, q ∈ rest) → Below A₀ base outer h₀ → Fr h₀ L s.heap m → K.In h₀ → News h₀ L s.heap rest → Top p loose mean mg mb h₀ → cs.kind = .function → dp + D < recursionLimit → un + U < cLine →
    (∀ v tl h' tk', Post v tl → (∀ q ∈ rest, ∀ p ∈ tl, @Ne Nat q.1 p.1) → Fr h₀ L h' m → News h₀ L h' (tl ++ rest) → R (.ok (.ret v)) { s with heap := h', toks := tk' }) →
    codeAny (model prog w) (ktrTop dp un gd cn cs L a ccd cl outer) (.call (.ref f) ⟨vs, []⟩) R s

section
variable {prog : Program} {w : World} {K : Frag} {p : Program} {D U : Nat} {f : Addr} {vs : List Value} {led : List (Addr × Obj)}
  {loose : List Str} {mean : ExcName → Option Value} {mg mb : Str → Option Value} {rest all : List (Addr × Obj)} {dp un : Nat} {gd : Option (List Code)} {cn : Str} {cs : Scope} {a : Addr} {ccd : Value} {cl : List (Str × Addr)} {outer : List Env} {A₀ : Around} {base h₀ : Heap} {L : Addr} {m : Str → Option Value} {s : Shared} {Q E : Value → Shared → Prop} {R : Result → Shared → Prop}
theorem CtrN.code {Post : Value → List (Addr × Obj) → Prop} (C : CtrN prog w K p D U f vs led Post) (hl : ∀ q ∈ led, q ∈ rest) (B : Below A₀ base outer h₀) (F : Fr h₀ L s.heap m) (X : K.In h₀) (N : News h₀ L s.heap rest) (T : Top p loose mean mg mb h₀) (hk : cs.kind = .function)
    (hd : dp + D < recursionLimit) (hu : un + U < cLine) (ret : ∀ v tl h' tk', Post v tl → (∀ q ∈ rest, ∀ p ∈ tl, @Ne Nat q.1 p.1) → Fr h₀ L h' m → News h₀ L h' (tl ++ rest) → R (.ok (.ret v)) { s with heap := h', toks := tk' }) :
    codeAny (model prog w) (ktrTop dp un gd cn cs L a ccd cl outer) (.call (.ref f) ⟨vs, []⟩) R s := C loose mean mg mb rest dp un gd cn cs a ccd cl outer A₀ base h₀ L m s R hl B F X N T hk hd hu ret
theorem CtrN.use {Post : Value → List (Addr × Obj) → Prop} (C : CtrN prog w K p D U f vs led Post) (hl : ∀ q ∈ led, q ∈ rest) (B : Below A₀ base outer h₀) (F : Fr h₀ L s.heap m) (X : K.In h₀) (N : News h₀ L s.heap rest) (T : Top p loose mean mg mb h₀) (hk : cs.kind = .function)
    (hd : dp + D < recursionLimit) (hu : un + U < cLine) (ret : ∀ v tl h' tk', Post v tl → (∀ q ∈ rest, ∀ p ∈ tl, @Ne Nat q.1 p.1) → Fr h₀ L h' m → News h₀ L h' (tl ++ rest) → Q v { s with heap := h', toks := tk' }) :
    wpAny (model prog w) (ktrTop dp un gd cn cs L a ccd cl outer) (call (.ref f) vs) Q E s := wpAny_call (C.code hl B F X N T hk hd hu ret)
end


end Mine
namespace Mine
section
variable {prog : Program} {w : World} {A : Around} {E : Value → Shared → Prop} {s : Shared} {h₀ : Heap} {L : Addr} {m : Str → Option Value} {env : Env}
/-- the ways of an expression that gives one text, joined -/
noncomputable def JoinS (h₀ : Heap) (L : Addr) (s : Shared) (m : Str → Option Value) (own : List (Addr × Obj)) (y : Str) (v : Value) (s' : Shared) : Prop :=
  ∃ t h' tk, v = .str y t ∧ s' = { s with heap := h', toks := tk } ∧ Fr h₀ L h' m ∧ News h₀ L h' own
theorem JoinS.mk {own all : List (Addr × Obj)} {x y : Str} {t : Tok} {h' : Heap} {tk : Nat} (F : Fr h₀ L h' m) (N : News h₀ L h' all) (hl : ∀ p ∈ own, p ∈ all) (e : x = y) : JoinS h₀ L s m own y (.str x t) { s with heap := h', toks := tk } :=
  ⟨t, h', tk, by rw [e], rfl, F, news_of N hl⟩
theorem eval_join {e : Expr} {Q : Value → Shared → Prop} {own : List (Addr × Obj)} (y : Str) (F : Fr h₀ L s.heap m) (N : News h₀ L s.heap own) (h1 : wpAny (model prog w) A (eval e env) (JoinS h₀ L s m own y) E s)
    (h2 : ∀ h' tk t, Fr h₀ L h' m → News h₀ L h' own → Q (.str y t) { s with heap := h', toks := tk }) : wpAny (model prog w) A (eval e env) Q E s :=
  wpAny_mono h1 (fun v s' q => by
    obtain ⟨t, h', tk, rfl, rfl, F', N'⟩ := q
    exact h2 h' tk t F' N') fun _ _ e => e
/-- the ways of a statement, joined: what its frame's names hold -/
noncomputable def JoinM (h₀ : Heap) (L : Addr) (s : Shared) (vars : (Str → Option Value) → List (Str × Value)) (own : List (Addr × Obj)) (f : Flow) (s' : Shared) : Prop :=
  f = .next ∧ ∃ h' tk m', s' = { s with heap := h', toks := tk } ∧ Fr h₀ L h' m' ∧ HasB m' (vars m') ∧ News h₀ L h' own
theorem JoinM.mk {vars : (Str → Option Value) → List (Str × Value)} {own all : List (Addr × Obj)} {h' : Heap} {tk : Nat} {m' : Str → Option Value} (F : Fr h₀ L h' m') (N : News h₀ L h' all) (hl : ∀ p ∈ own, p ∈ all) (hb : HasB m' (vars m')) : JoinM h₀ L s vars own .next { s with heap := h', toks := tk } :=
  ⟨rfl, h', tk, m', rfl, F, hb, news_of N hl⟩
theorem exec_join {e : Stmt} {Q : Flow → Shared → Prop} {own : List (Addr × Obj)} (vars : (Str → Option Value) → List (Str × Value)) (F : Fr h₀ L s.heap m) (N : News h₀ L s.heap own) (h1 : wpAny (model prog w) A (exec e env) (JoinM h₀ L s vars own) E s)
    (h2 : ∀ h' tk m', Fr h₀ L h' (mB (vars m') m') → News h₀ L h' own → Q .next { s with heap := h', toks := tk }) : wpAny (model prog w) A (exec e env) Q E s :=
  wpAny_mono h1 (fun v s' q => by
    obtain ⟨rfl, h', tk, m', rfl, F', hb, N'⟩ := q
    exact h2 h' tk m' (fr_mB F' hb) N') fun _ _ e => e
end

end Mine
namespace Mine
section
open PyProof.V PySem.Spec PySem.SeqAt
theorem readsAll_strs {h : Heap} : ∀ {vs : List Value} {ys : List Str}, StrsAre vs ys → ReadsAll h vs (ys.map PyData.str) []
  | _, _, .nil => .nil
  | _, _, .cons k t r => by
    have := ReadsAll.cons (Reads.str (h := h) k t) (readsAll_strs (h := h) r)
    simpa using this
theorem reads_strs {h : Heap} {a : Addr} {vs : List Value} {ys : List Str} (hl : h.IsList a vs.toArray) (hi : StrsAre vs ys) : Reads h (.ref a) (.list (ys.map PyData.str)) [a] := by
  obtain ⟨o, ho, hc, n, hd⟩ := hl
  exact Reads.list ho hc hd (by simpa using readsAll_strs hi)
theorem canLay_strs : ∀ ys : List Str, (∀ y ∈ ys, PyData.strOk y = true) → PyData.canLayAll0 (ys.map PyData.str) = true
  | [], _ => by simp [PyData.canLayAll0]
  | n :: r, h => by simp [PyData.canLayAll0, PyData.canLay0, canLay_strs r fun y hy => h y (.tail _ hy), h n (.head _)]
theorem depth_strs : ∀ ys : List Str, PyData.depthAll (ys.map PyData.str) ≤ 1
  | [] => by simp [PyData.depthAll]
  | n :: r => by
    have := depth_strs r
    simp only [List.map_cons, PyData.depthAll, PyData.depth]
    omega
theorem shaped_strs (ys : List Str) (ok : ∀ y ∈ ys, PyData.strOk y = true) : shaped (.list (ys.map PyData.str)) = true := by
  have h1 := depth_strs ys
  have h2 : PyData.depth (.list (ys.map PyData.str)) ≤ 64 := by simp only [PyData.depth]; omega
  show (PyData.canLay0 (.list (ys.map PyData.str)) && decide (PyData.depth (.list (ys.map PyData.str)) ≤ 64)) = true
  rw [Bool.and_eq_true]
  exact ⟨by simp only [PyData.canLay0]; exact canLay_strs ys ok, decide_eq_true h2⟩
theorem noMix_strs : ∀ ys : List Str, noMixAll (ys.map PyData.str) (ys.map PyData.str) = true
  | [] => by simp [noMixAll]
  | _ :: r => by simp [noMixAll, noMix, noMix_strs r]
theorem same_strs : ∀ ys : List Str, PySem.Spec.sameAll (ys.map PyData.str) (ys.map PyData.str) = true
  | [] => by simp [PySem.Spec.sameAll]
  | n :: r => by
    simp only [List.map_cons, PySem.Spec.sameAll, PySem.Spec.same, same_strs r]
    simp
/-- two lists of the same texts -/
theorem ne_strs {prog : Program} {w : World} {A : Around} {E : Value → Shared → Prop} {s : Shared} {a b : Addr} {vs us : List Value} {ys : List Str} {Q : Value → Shared → Prop} (hl : s.heap.IsList a vs.toArray) (hi : StrsAre vs ys) (hl' : s.heap.IsList b us.toArray) (hi' : StrsAre us ys) (ok : ∀ y ∈ ys, PyData.strOk y = true) (hu : A.units + 64 < cLine)
    (h : Q (.bool false) s) : wpAny (model prog w) A (compareOp .NotEq (.ref a) (.ref b)) Q E s :=
  ne_dataH_same (reads_strs hl hi) (reads_strs hl' hi') (shaped_strs ys ok) (shaped_strs ys ok) hu (by simp only [noMix]; exact noMix_strs ys) (by simp only [PySem.Spec.same]; rw [same_strs]; exact h)
end

end Mine
namespace Mine
section
variable {prog : Program} {w : World} {A : Around} {E : Value → Shared → Prop} {s : Shared} {h₀ h : Heap} {L D b : Addr} {m : Str → Option Value} {news news' : List (Addr × Obj)} {its its2 l : List Value} {n n2 : Nat}
theorem look_iadd : typeLookup (.type "list") (dunderI "add") = pure (some (.builtin "list.__iadd__")) := by rw [typeLookup_type, builtinLookup_eq_fast]; kernel_rfl
theorem noFillI_list : fillsInplaceSlot (.type "list") "add" (Operator.Add == .Add) = pure false := by
  unfold fillsInplaceSlot
  show (typeLookup (.type "list") (dunderI "add") >>= fun fi => pure (fi.isSome && !isSeqSlot fi)) = pure false
  rw [look_iadd]; kernel_rfl
theorem seqI_list : seqSlot? (.type "list") (dunderI "add") = pure (some (.builtin "list.__iadd__")) := by
  unfold seqSlot?
  rw [look_iadd]; kernel_rfl
theorem kl_iadd {Q : Value → Shared → Prop} (F : Fr h₀ L s.heap m) (N : News h₀ L s.heap news) (hb : (b, listOf its2.toArray n2) ∈ news) (e : its ++ its2 = l) (hne : its2.length ≠ 0)
    (U : Upd D (listOf its.toArray n) (listOf l.toArray (n + 1)) news news') (hz : its.length + its2.length ≤ 100)
    (h : ∀ h', Fr h₀ L h' m → News h₀ L h' news' → Q (.ref D) { s with heap := h' }) : wpAny (model prog w) A (inplaceOp .Add (.ref D) (.ref b)) Q E s := by
  obtain ⟨pre, post, rfl, rfl, a, c⟩ := U.split
  have z := N (D, listOf its.toArray n) (List.mem_append.mpr (.inr (.head _)))
  unfold inplaceOp
  refine wpAny_holding ?_
  have ta : s.TypeIs (.ref D) "list" := ⟨_, z.1, rfl⟩
  have tb : s.TypeIs (.ref b) "list" := ⟨_, (N _ hb).1, rfl⟩
  refine wpAny_bind (wpAny_typeOf ta (wpAny_bind (wpAny_of_eq noFillI_list ?_)))
  show wpAny _ A (if false = true then _ else _) Q E s
  rw [if_neg Bool.false_ne_true]
  refine wpAny_bind (wpAny_binaryOp1_none (nm := "add") ta tb noFill_list_add ?_)
  refine wpAny_bind (wpAny_of_eq seqI_list ?_)
  refine wpAny_bind (wpAny_rule ?_)
  subst e
  refine call_meets PySem.F.slot_list_iadd ta PySem.F.entry_list_iadd (PySem.F.args_list_iadd_2 _ _) (PySem.AutoSeq1.list___iadd___list_list_0 D its.toArray n b its2.toArray n2 (by simp [Builtin.List.listTooLong, sizeLine]; omega) (by simp [sizeLine]; omega) (by simp [sizeLine]; omega)) ?_
  refine ⟨z.1, (N _ hb).1, ?_⟩
  refine (h _ (F.change (Heap.SameBut.update ..) z.2.1 z.2.2) (kl_turn _ N a c ?_ ?_))
  · simp
  · simp; exact fun q => hne (by rw [q]; rfl)
end
/-- the ledger of a turn in the form of a head and one tail -/
theorem turn_led {h₀ h : Heap} {L x : Addr} {o : Obj} {rest own : List (Addr × Obj)} (l1 : ∀ p ∈ rest, p.1 < x) (hoff : OwnOff own (List.map (fun q => q.1) ((x, o) :: rest))) (N : News h₀ L h ((x, o) :: rest ++ own)) :
    ∃ R2, News h₀ L h ((x, o) :: R2) ∧ (∀ p ∈ R2, p.1 ≠ x) ∧ (∀ p ∈ rest, p ∈ R2) ∧ (∀ p ∈ own, p ∈ R2) ∧ R2 = rest ++ own :=
  ⟨rest ++ own, N, fun p hp => (List.mem_append.mp hp).elim (fun q => Nat.ne_of_lt (l1 p q)) (fun q => fun e => hoff p q x (List.mem_cons.mpr (.inl rfl)) e), fun p hp => List.mem_append_left _ hp, fun p hp => List.mem_append_right _ hp, rfl⟩
theorem led_own {x : Addr} {o : Obj} {rest own R2 all : List (Addr × Obj)} (e : R2 = rest ++ own) (h1 : (x, o) ∈ all) (h2 : ∀ p ∈ R2, p ∈ all) : ∀ p ∈ (x, o) :: rest ++ own, p ∈ all := by
  subst e
  intro p hp
  rcases List.mem_cons.mp hp with rfl | hp
  · exact h1
  · exact h2 p hp
theorem ints_rep (z : Int) (t : Tok) : ∀ a : Nat, IntsAre (List.replicate a (.int z t)) (List.replicate a z)
  | 0 => .nil
  | a + 1 => .cons _ _ (ints_rep z t a)
section
variable {prog : Program} {w : World} {A : Around} {E : Value → Shared → Prop} {s : Shared} {h₀ h : Heap} {L l : Addr} {m : Str → Option Value} {news news' : List (Addr × Obj)}
theorem mul_one {Q : Value → Shared → Prop} {z : Int} {t u : Tok} {a : Nat} (F : Fr h₀ L s.heap m) (N : News h₀ L s.heap news) (hl : s.heap.IsList l [Value.int z t].toArray) (ha : a ≤ 3)
    (h : ∀ D h' ws2, IntsAre ws2 (List.replicate a z) → ws2.length = a → Fr h₀ L h' m → News h₀ L h' ((D, listOf ws2.toArray 0) :: news) → (∀ p ∈ news, p.1 < D) → Q (.ref D) { s with heap := h' }) : wpAny (model prog w) A (binaryOp .Mult (.ref l) (.int (a : Int) u)) Q E s :=
  KMa.mul (ws := List.replicate a (.int z t)) F N hl (by omega) (by omega) (by simp; omega) (by simp only [Int.toNat_natCast]; exact List.flatten_replicate_singleton) fun D h' F' N' l1 => h D h' _ (ints_rep z t a) List.length_replicate F' N' l1
end

end Mine
namespace Mine
section
variable {prog : Program} {w : World} {A : Around} {E : Value → Shared → Prop} {s : Shared} {h₀ h : Heap} {L D b : Addr} {m : Str → Option Value} {news news' : List (Addr × Obj)} {its its2 l : List Value} {n n2 : Nat}
/-- a list grown by another one, empty or not -/
theorem kl_iaddG {Q : Value → Shared → Prop} (F : Fr h₀ L s.heap m) (N : News h₀ L s.heap news) (hb : (b, listOf its2.toArray n2) ∈ news) (e : its ++ its2 = l)
    (U : Upd D (listOf its.toArray n) (listOf l.toArray (if its2.length = 0 then n else n + 1)) news news') (hz : its.length + its2.length ≤ 1000)
    (h : ∀ h', Fr h₀ L h' m → News h₀ L h' news' → Q (.ref D) { s with heap := h' }) : wpAny (model prog w) A (inplaceOp .Add (.ref D) (.ref b)) Q E s := by
  obtain ⟨pre, post, rfl, rfl, a, c⟩ := U.split
  have z := N (D, listOf its.toArray n) (List.mem_append.mpr (.inr (.head _)))
  unfold inplaceOp
  refine wpAny_holding ?_
  have ta : s.TypeIs (.ref D) "list" := ⟨_, z.1, rfl⟩
  have tb : s.TypeIs (.ref b) "list" := ⟨_, (N _ hb).1, rfl⟩
  refine wpAny_bind (wpAny_typeOf ta (wpAny_bind (wpAny_of_eq noFillI_list ?_)))
  show wpAny _ A (if false = true then _ else _) Q E s
  rw [if_neg Bool.false_ne_true]
  refine wpAny_bind (wpAny_binaryOp1_none (nm := "add") ta tb noFill_list_add ?_)
  refine wpAny_bind (wpAny_of_eq seqI_list ?_)
  refine wpAny_bind (wpAny_rule ?_)
  subst e
  refine call_meets PySem.F.slot_list_iadd ta PySem.F.entry_list_iadd (PySem.F.args_list_iadd_2 _ _) (PySem.AutoSeq1.list___iadd___list_list_0 D its.toArray n b its2.toArray n2 (by simp [Builtin.List.listTooLong, sizeLine]; omega) (by simp [sizeLine]; omega) (by simp [sizeLine]; omega)) ?_
  refine ⟨z.1, (N _ hb).1, ?_⟩
  by_cases h0 : its2.length = 0
  · rw [if_pos h0] at h
    refine (h _ (F.change (Heap.SameBut.update ..) z.2.1 z.2.2) (PySem.W.kl_turn0 _ N a c ?_ ?_))
    · simp
    · simp; exact List.length_eq_zero_iff.mp h0
  · rw [if_neg h0] at h
    refine (h _ (F.change (Heap.SameBut.update ..) z.2.1 z.2.2) (kl_turn _ N a c ?_ ?_))
    · simp
    · simp; exact fun q => h0 (by rw [q]; rfl)
end

end Mine
namespace Mine
section
variable {prog : Program} {w : World} {A : Around} {E : Value → Shared → Prop} {s : Shared} {h₀ : Heap} {m : Str → Option Value} {σ : Type} {env : Env}
/-- a loop down a range, where nothing of the ledger changes, by an invariant over named state -/
theorem for_down {r : Addr} {a b : Int} {n : Nat} {t u v : Tok} {x : Str} {px : Pos} {body : List Stmt} {R : Result → Shared → Prop} (F : Fr h₀ env.locals s.heap m) (hr : IsRange s.heap r a b (-1) t u v) (hh : A.handled = none)
    (ha : -(2 ^ 62) ≤ a ∧ a < 2 ^ 62) (hb' : -(2 ^ 62) ≤ b ∧ b < 2 ^ 62) (hn : (if a > b then a - b else 0) = (n : Int))
    (vars : σ → List (Str × Value)) (ok : Nat → σ → Prop) (y : σ) (hb : HasB m (vars y)) (h : ok 0 y)
    (turn : ∀ (i : Nat) y t h tk m₁ own, i < n → ok i y → Fr h₀ env.locals h (fun z => if z = x then some (.int (a - (i : Int)) t) else mB (vars y) m₁ z) → News h₀ env.locals h own →
      wpAny (model prog w) A (execs body env) (fun f s₂ => match f with
        | .ret v => R (.ok (.ret v)) s₂
        | .brk => R (.ok .next) s₂
        | _ => ListEnd h₀ env.locals vars (fun _ => []) ok own (i + 1) { s with heap := h, toks := tk } s₂) (fun _ _ => False) { s with heap := h, toks := tk })
    (done : ∀ h' tk m₁ y, ok n y → Fr h₀ env.locals h' (mB (vars y) m₁) → R (.ok .next) { s with heap := h', toks := tk })
    (hx : env.kindOf x = some .local := by rfl) (hp : (env.scope.kind == .class || (env.scope.kind == .module && env.locals != env.globals)) = false := by rfl) :
    wpAny (model prog w) A (pyIter (.ref r)) (fun it s₂ => codeAny (model prog w) A (.forLoop (.Name x px) it body [] env) R s₂) E s := by
  refine wpAny_pyIter_range hr (small_down ha.1 ha.2 hb'.1 hb'.2) ?_
  have W := Walks.range (prog := prog) (w := w) (A := A) hh s.heap.objs.size a (-1) n
  have up : ∀ b' o, s.heap.get? b' = some o → (s.heap.push { cls := .type "range_iterator", data := .fields #[rawInt a, rawInt (Builtin.Range.rangeSize a b (-1)), rawInt (-1)] }).get? b' = some o := fun b o e => Heap.get?_push_of_some _ e
  have hLs : env.locals < s.heap.objs.size := F.ns.lt
  refine codeAny_forLoop_frV (news := []) W hx hp (fun hq => ?_) (fun b hb => ?_) (fun p hp hq => nomatch hp) ?_ (F.keeps up) (fun _ q => nomatch q)
    (fun i m₁ news₁ => ∃ y, ok i y ∧ HasB m₁ (vars y)) ⟨y, h, hb⟩ ?_ ?_
  · exact absurd hLs (by rw [List.mem_singleton.mp hq]; exact Nat.lt_irrefl _)
  · rw [List.mem_singleton.mp hb]; exact next_is_new F
  · rw [rangeSize_down, hn]
    have e : a + ((0 : Nat) : Int) * (-1) = a := by simp
    show IsRangeIter _ _ (a + ((0 : Nat) : Int) * (-1)) ((n : Int) - ((0 : Nat) : Int)) (-1)
    rw [e, show (n : Int) - ((0 : Nat) : Int) = n by simp]
    exact Heap.get?_push_size _ rfl
  · rintro i v m₁ news₁ s₁ own ⟨h', tk, rfl⟩ hi ⟨t, rfl⟩ ⟨y₁, h₁, hb₁⟩ hnw hown hown2 hall hSt F₁ N₁
    rw [← mB_eq hb₁] at F₁
    rw [show a + (i : Int) * (-1) = a - (i : Int) by omega] at F₁
    refine wpAny_mono (turn i y₁ t h' tk m₁ own hi h₁ F₁ (fun p hp => N₁ p (List.mem_append_left _ hp))) (fun f s₂ p => ?_) fun _ _ e => e.elim
    have fin : ListEnd h₀ env.locals vars (fun _ => []) ok own (i + 1) { s with heap := h', toks := tk } s₂ → LoopStepU h₀ env.locals [s.heap.objs.size] own (fun m₁ news₁ => ∃ y, ok (i + 1) y ∧ HasB m₁ (vars y)) { s with heap := h', toks := tk } .next s₂ := by
      rintro ⟨h'', tk', m', y₂, e, h₂, F₂, hb₂, N₂⟩
      exact ⟨rfl, h'', tk', m', [], e, F₂, fun p hp => N₂ p ((List.mem_append.mp hp).elim (fun q => List.mem_append_right _ q) (fun q => nomatch q)), fun p hp => (nomatch hp), y₂, h₂, hb₂⟩
    cases f with
    | ret v => exact .ret p
    | brk => exact .brk p
    | cont => exact .cont (fin p)
    | next => exact .next (fin p)
  · rintro h' tk m' news' F₁ N₁ _ ⟨y₁, h₁, hb₁⟩
    exact done h' tk m' y₁ h₁ (fr_mB F₁ hb₁)
end

end Mine
namespace Mine
theorem strsAre_rev : ∀ {vs : List Value} {ys : List Str}, StrsAre vs ys → StrsAre vs.reverse ys.reverse
  | _, _, .nil => .nil
  | _, _, .cons x t r => by
    rw [List.reverse_cons, List.reverse_cons]
    exact KStt.strs_snoc (strsAre_rev r)
theorem writF_chars : ∀ k n, ∀ l ∈ writF k n, ∀ c ∈ l, 65 ≤ c ∧ c ≤ 81
  | 0, n, l, h => by
    rw [writF] at h
    split at h
    · rw [List.mem_singleton.mp h]; exact fun _ hc => nomatch hc
    · cases h
  | k + 1, n, l, h => by
    rw [writF] at h
    have hb : n % 16 < 16 := Nat.mod_lt _ (by decide)
    rcases List.mem_append.mp h with h | h
    · obtain ⟨a, ha, rfl⟩ := List.mem_map.mp h
      intro c hc
      rcases List.mem_append.mp hc with hc | hc
      · exact writF_chars k _ a ha c hc
      · rw [List.mem_singleton.mp hc]; omega
    · split at h
      · obtain ⟨a, ha, rfl⟩ := List.mem_map.mp h
        intro c hc
        rcases List.mem_append.mp hc with hc | hc
        · exact writF_chars k _ a ha c hc
        · rw [List.mem_singleton.mp hc]; omega
      · cases h
theorem strOk_mkS {l : List Nat} (h : ∀ c ∈ l, 65 ≤ c ∧ c ≤ 81) : PyData.strOk (mkS l) = true := by
  unfold PyData.strOk
  rw [Array.all_eq_true_iff_forall_mem]
  intro c hc
  have := h c (by simpa using hc)
  exact decide_eq_true (by omega)
section
variable {prog : Program} {w : World} {A : Around} {E : Value → Shared → Prop} {s : Shared}
theorem sortS {h₀ : Heap} {L : Addr} {m : Str → Option Value} {news : List (Addr × Obj)} {l : Addr} {vs : List Value} {ss : List Str} {Q : Value → Shared → Prop}
    (F : Fr h₀ L s.heap m) (N : News h₀ L s.heap news) (hl : s.heap.IsList l vs.toArray) (hS : StrsAre vs ss) (h64 : vs.length < 64)
    (h : ∀ (D : Nat) (h' : Heap) (vs' : List Value) (ss' : List Str) (e : Nat), Fr h₀ L h' m → News h₀ L h' ((D, PySem.W.listOf vs'.toArray e) :: news) → (∀ q ∈ news, @LT.lt Nat _ q.1 D) →
      StrsAre vs' ss' → ss'.Perm ss → sortedS ss' = true → Q (.ref D) { s with heap := h' }) :
    wpAny (model prog w) A (call (.builtin "sorted") [.ref l]) Q E s :=
  sorted_N_str F N hl hS h64 fun h' vs' ss' e F' N' a1 a2 a3 => h _ h' vs' ss' e F' N' (fun p hp => Nat.lt_succ_of_lt (Heap.lt_size (N p hp).1)) a1 a2 a3
theorem sortI {h₀ : Heap} {L : Addr} {m : Str → Option Value} {news : List (Addr × Obj)} {l : Addr} {vs : List Value} {ns : List Int} {Q : Value → Shared → Prop}
    (F : Fr h₀ L s.heap m) (N : News h₀ L s.heap news) (hl : s.heap.IsList l vs.toArray) (hi : IntsAre vs ns) (h64 : vs.length < 64) (hup : ns.Pairwise (· ≤ ·))
    (h : ∀ (D : Nat) (h' : Heap) (vs' : List Value) (e : Nat), Fr h₀ L h' m → News h₀ L h' ((D, PySem.W.listOf vs'.toArray e) :: news) → (∀ q ∈ news, @LT.lt Nat _ q.1 D) →
      IntsAre vs' ns → Q (.ref D) { s with heap := h' }) :
    wpAny (model prog w) A (call (.builtin "sorted") [.ref l]) Q E s :=
  sorted_N F N hl hi h64 fun h' vs' ns' e F' N' a1 a2 a3 => by
    obtain rfl := ints_one a2 a3 hup
    exact h _ h' vs' e F' N' (fun p hp => Nat.lt_succ_of_lt (Heap.lt_size (N p hp).1)) a1
end
theorem sum_sumW : ∀ l : List Nat, (l.map fun (c : Nat) => ((c - 65 : Nat) : Int)).sum = ((sumW l : Nat) : Int)
  | [] => rfl
  | a :: r => by
    rw [List.map_cons, List.sum_cons, sum_sumW r]
    show _ = ((((a :: r).map (· - 65)).sum : Nat) : Int)
    rw [List.map_cons, List.sum_cons, Int.natCast_add]
    rfl

end Mine

local macro_rules | `(tactic| news_mem) => `(tactic| k_mem)
local macro_rules | `(tactic| k_all) => `(tactic| walk_at "rest_ne")
local macro_rules
  | `(tactic| walk_at "and_r") => `(tactic| first | assumption | exact And.right (by first | assumption | exact And.right (by first | assumption | exact And.right (by first | assumption | exact And.right (by first | assumption | exact And.right (by first | assumption | exact And.right (by first | assumption | exact And.right (by first | assumption | exact And.right (by first | assumption | exact And.right (by first | assumption | exact And.right (by first | assumption | exact And.right (by assumption))))))))))))
  | `(tactic| walk_at "le9") => `(tactic| first | with_reducible exact Nat.le_refl _ | with_reducible exact Nat.le_of_lt (by assumption) | omega)
  | `(tactic| walk_at "rest_ne") => `(tactic| first | assumption | exact Mine.raw_ne (by assumption) (by walk_at "le9") | exact Mine.allLt_ne' (by walk_at "and_r") (by walk_at "le9"))
local macro_rules
  | `(tactic| ktr_room) => `(tactic| ((try simp only [depth_under_make, depth_under_kw, depth_in1, depth_deeper, depth_caller]); (try dsimp only [ktrTop]); walk_at "room"))
  | `(tactic| ktr_units) => `(tactic| ((try simp only [units_in1, units_deeper, Around.mark_units, units_caller]); (try dsimp only [ktrTop]); walk_at "room"))
  | `(tactic| walk_at "room") => `(tactic| with_reducible first | exact Mine.room3 (by assumption) (by decide) | exact Mine.room2 (by assumption) (by decide) | exact Mine.room1 (by assumption) (by decide) | exact Mine.room0 (by assumption))
  | `(tactic| k_ne) => `(tactic| (refine neN ?_; (try dsimp only); with_reducible first | exact Nat.ne_of_lt (by walk_at "lt9") | exact Nat.ne_of_gt (by walk_at "lt9") | omega))
  | `(tactic| walk_at "lt9") => `(tactic| first | assumption | exact Mine.lt_up (by assumption) (by decide) | exact And.left (by walk_at "and_r"))
local macro_rules | `(tactic| walk_at $s:str) => `(tactic| k_extra $s)

namespace Mine
theorem reset_grp : True := by
  w_top off
  trivial
set_option maxRecDepth 100000
/-- the generator's own text -/
noncomputable def grpDef : Option (List Stmt × Scope) := match (PySem.Challenge.rw_wn0028_02.prog.main.body[5]? : Option Stmt) with
  | some (.FunctionDef _ _ b _ _ _ s _ _ _) => some (b, s)
  | _ => none
noncomputable def grpB' : List Stmt := match grpDef with | some (b, _) => b | none => []
noncomputable def grpS' : Scope := match grpDef with | some (_, s) => s | none => default
noncomputable def grpSs : { x : Scope // grpS' = x } := by
  refine ⟨?_, ?h⟩; rotate_left
  conv => lhs; whnf
noncomputable def grpBs : { x : List Stmt // grpB' = x } := by
  refine ⟨?_, ?h⟩; rotate_left
  conv => lhs; whnf
noncomputable def grpQ' : List Stmt := match grpBs.1 with | _ :: .For _ _ b _ _ :: _ => b | _ => []
noncomputable def grpQs : { x : List Stmt // grpQ' = x } := by
  refine ⟨?_, ?h⟩; rotate_left
  conv => lhs; whnf
/-- what the generator tells: k at most where a nought stands -/
noncomputable def outsF : Option Int → Nat → List Int → List Int
  | _, _, [] => []
  | last, k, v :: r => if v = 127 then [] else if v = 0 then List.replicate k (last.getD 0) else v :: outsF (some v) (k - 1) r
noncomputable def finF : List Int → Bool
  | [] => true
  | v :: r => if v = 127 then true else if v = 0 then false else finF r
noncomputable def lastV : Option Int → Value → Prop
  | none, v => v = .none
  | some a, v => ∃ t, v = .int a t
noncomputable def grpU' : List Stmt := match grpQs.1 with | _ :: .If _ (_ :: .While _ b _ _ :: _) _ _ :: _ => b | _ => []
noncomputable def grpUs : { x : List Stmt // grpU' = x } := by
  refine ⟨?_, ?h⟩; rotate_left
  conv => lhs; whnf
theorem rep_succ {a : Int} {k : Nat} (out pre : List Int) (h : out = pre ++ List.replicate (k + 1) a) : out[out.length - 1 - k]? = some a := by
  subst h
  simp only [List.length_append, List.length_replicate]
  rw [show pre.length + (k + 1) - 1 - k = pre.length by omega, List.getElem?_append_right (Nat.le_refl _), Nat.sub_self]
  rfl
set_option maxRecDepth 100000 in
set_option maxHeartbeats 4000000 in
theorem grp_while (w : World) (dp un : Nat) (gd : Option (List Code)) (n : Str) (sc : Scope) (L1 fa : Addr) (cd : Value) (outer : List Env) (loose : List Str) (mean : ExcName → Option Value) (mg mb : Str → Option Value)
    (g1 : Heap) (L2 l G I : Nat) (oG oI : Obj) (its : List Value) (c0 : Nat) (out : List Int) (X : (Mine.hd.heap_39 w.params).In g1) (T : Top PySem.W.topProg loose mean mg mb g1) (hg1 : g1.objs.size ≤ L2) (hLG : L2 < G) (hGI : G < I)
    (kf k2 : Result → Sem PySem.Fin) (p p2 p3 : Pos) (tt : Tok) (x : Expr) (it : Value) (b : List Stmt) (a : Int) :
    ∀ (k : Nat) (pre : List Int) (s₀ s : Shared) (m : Str → Option Value) (t : Tok), out = pre ++ List.replicate (k + 1) a →
      g1.StaysIn s₀.heap → s = { s₀ with heap := s.heap, toks := s.toks } →
      Fr (cutH s₀.heap L2) L2 s.heap (mB [(Str.ofString "last_interval", .int a t)] m) → News (cutH s₀.heap L2) L2 s.heap [(I, oI), (G, oG)] →
      Seg (model PySem.Challenge.rw_wn0028_02.prog w) (ktrTop dp un gd n sc L1 fa cd [] outer) (fun n s₀ r s₁ => r = .ok (.ret .none) ∧ GP L2 G oG false n s₀ s₁) (GY g1 L2 l G (listOf its.toArray c0) oG out false) (k + 1) s₀
        (.whileLoop (.Constant (.bool true) tt p3) grpUs.1 [] (envOf (Str.ofString "_grouping_intervals") grpSs.1 L2 35 (.ref 34)))
        ((model PySem.Challenge.rw_wn0028_02.prog w).den (.whileLoop (.Constant (.bool true) tt p3) grpUs.1 [] (envOf (Str.ofString "_grouping_intervals") grpSs.1 L2 35 (.ref 34))))
        [.ret k2 none (id false) (id []) (.forLoop x it b [] (envOf (Str.ofString "_grouping_intervals") grpSs.1 L2 35 (.ref 34))) p2 [],
         .ret kf none (id false) (id []) (.func grpBs.1 (envOf (Str.ofString "_grouping_intervals") grpSs.1 L2 35 (.ref 34))) p []] s := by
  dsimp only [grpUs, grpSs, grpBs]
  intro k
  induction k using Nat.strongRecOn with
  | ind k ih =>
    intro pre s₀ s m t ho hst hs F N
    have X' := X.keeps (cutH_keeps hg1 hst)
    have T' := T.keeps (cutH_keeps hg1 hst)
    obtain ⟨oL, es, ep, hoL, hod, hok, hof⟩ := F.ns
    have F₃ := F
    dsimp only [mB] at F₃
    refine seg_whileLoop ?_
    rw [over_while]
    k_with_none
    k_steps
    refine seg_execs_cons (seg_Expr_Yield rfl rfl rfl ?_)
    rw [over_while]
    k_steps
    rename_i kap hkap
    refine ⟨a, _, _, _, I, oL, oI, rep_succ out pre ho, rfl, by rw [hs], fun b o hb e => F.keep b o ((cutH_get hb).trans e), (N _ (.tail _ (.head _))).1, hoL, (N _ (.head _)).1, hGI, fun hm s3 hst3 hm3 hG3 hL3 hI3 => ?_⟩
    obtain ⟨k, rfl⟩ : ∃ k', k = k' + 1 := ⟨k - 1, by have := hm.resolve_right (fun q => nomatch q); omega⟩
    refine hkap .none s3 ?_
    dsimp only
    have F4 : Fr (cutH s3.heap L2) L2 s3.heap _ := ⟨⟨oL, es, ep, hL3, hod, hok, hof⟩, fun b o e => (cutH_of e).2, cutH_size⟩
    have N4 : News (cutH s3.heap L2) L2 s3.heap [(I, oI), (G, oG)] := List.forall_mem_cons.mpr ⟨⟨hI3, Nat.ne_of_gt (Nat.lt_trans hLG hGI), cutH_none (Nat.le_of_lt (Nat.lt_trans hLG hGI))⟩, List.forall_mem_cons.mpr ⟨⟨hG3, Nat.ne_of_gt hLG, cutH_none (Nat.le_of_lt hLG)⟩, List.forall_mem_nil _⟩⟩
    refine seg_execs_nil ?_
    exact seg_again rfl (ih k (Nat.lt_succ_self _) (pre ++ [a]) s3 s3 _ t (by rw [ho, List.append_assoc]; rfl) hst3 rfl F4 N4)
set_option maxRecDepth 100000 in
set_option maxHeartbeats 4000000 in
theorem grp_loop (w : World) (dp un : Nat) (gd : Option (List Code)) (n : Str) (sc : Scope) (L1 fa : Addr) (cd : Value) (outer : List Env) (loose : List Str) (mean : ExcName → Option Value) (mg mb : Str → Option Value)
    (g1 : Heap) (L2 l G I : Nat) (oG : Obj) (its : List Value) (c0 : Nat) (out : List Int) (fin : Bool) (X : (Mine.hd.heap_39 w.params).In g1) (T : Top PySem.W.topProg loose mean mg mb g1) (hg1 : g1.objs.size ≤ L2) (hl2 : l < L2) (hLG : L2 < G) (hGI : G < I)
    (px : Pos) (kf : Result → Sem PySem.Fin) (p : Pos) (hkf : ∀ r, kf (.ok r) = .pure (.done (.ret (match r with | .ret v => v | _ => .none)))) :
    ∀ (r : List Int) (rv : List Value) (i : Nat) (last : Option Int) (k : Nat) (s₀ s : Shared) (m : Str → Option Value) (oI : Obj) (lv : Value), IntsAre rv r → its.drop i = rv → i ≤ its.length →
      (last = none → ∀ v r', r = v :: r' → v ≠ 0) → (∀ v ∈ r, 0 ≤ v ∧ v ≤ 127) → finF r = fin → r.length ≤ k →
      out.drop (out.length - (outsF last k r).length) = outsF last k r → (outsF last k r).length ≤ out.length →
      lastV last lv → g1.StaysIn s₀.heap → s₀.heap.get? l = some (listOf its.toArray c0) → s = { s₀ with heap := s.heap, toks := s.toks } →
      Fr (cutH s₀.heap L2) L2 s.heap (mB [(Str.ofString "last_interval", lv)] m) → News (cutH s₀.heap L2) L2 s.heap [(I, oI), (G, oG)] → s.heap.IsListIter I l i →
      Seg (model PySem.Challenge.rw_wn0028_02.prog w) (ktrTop dp un gd n sc L1 fa cd [] outer) (fun n s₀ r s₁ => r = .ok (.ret .none) ∧ GP L2 G oG fin n s₀ s₁) (GY g1 L2 l G (listOf its.toArray c0) oG out fin) (outsF last k r).length s₀
        (.forLoop (.Name (Str.ofString "interval") px) (.ref I) grpQs.1 [] (envOf (Str.ofString "_grouping_intervals") grpSs.1 L2 35 (.ref 34)))
        ((model PySem.Challenge.rw_wn0028_02.prog w).den (.forLoop (.Name (Str.ofString "interval") px) (.ref I) grpQs.1 [] (envOf (Str.ofString "_grouping_intervals") grpSs.1 L2 35 (.ref 34))))
        [.ret kf none (id false) (id []) (.func grpBs.1 (envOf (Str.ofString "_grouping_intervals") grpSs.1 L2 35 (.ref 34))) p []] s := by
  have ltI : ∀ b : Nat, b < L2 → b ≠ I := fun b hb => by omega
  have hGI' : G ≠ I := by omega
  have hGL : G ≠ L2 := by omega
  have hIL : I ≠ L2 := by omega
  have hLI : L2 ≠ I := by omega
  have fine : ∀ (s₀ s : Shared) (h' : Heap) (tk : Nat), fin = true → s = { s₀ with heap := s.heap, toks := s.toks } → (∀ b o, b < L2 → s₀.heap.get? b = some o → h'.get? b = some o) → h'.get? G = some oG →
      ∀ c f, f = Flow.next ∨ f = .ret .none → Seg (model PySem.Challenge.rw_wn0028_02.prog w) (ktrTop dp un gd n sc L1 fa cd [] outer) (fun n s₀ r s₁ => r = .ok (.ret .none) ∧ GP L2 G oG fin n s₀ s₁) (GY g1 L2 l G (listOf its.toArray c0) oG out fin) 0 s₀ c (leafOf (.ok f)) [.ret kf none (id false) (id []) (.func grpBs.1 (envOf (Str.ofString "_grouping_intervals") grpSs.1 L2 35 (.ref 34))) p []] { s with heap := h', toks := tk } := by
    intro s₀ s h' tk hf hs kp hG c f hff
    refine seg_leaf (.ok f) ?_
    rw [hkf]
    rcases hff with rfl | rfl
    all_goals exact seg_end (.ok (.ret .none)) ⟨rfl, rfl, hf, h', tk, by rw [hs], kp, hG⟩
  dsimp only [grpQs, grpSs, grpBs] at *
  intro r
  induction r with
  | nil =>
    intro rv i last k s₀ s m oI lv hr hd hi hl0 hb hf hk ho1 ho2 hlv hst hm hs F N hI
    cases hr
    refine seg_forLoop ?_
    rw [over_for]
    have hil : i = its.length := by
      have := congrArg List.length hd; simp at this; omega
    refine (Walks.list rfl I l (Nat.ne_of_lt (Nat.lt_trans hl2 (Nat.lt_trans hLG hGI))) its.toArray).done s _ _ ⟨?_, ?_⟩ fun h' tk hk' => ?_
    · rw [List.size_toArray, ← hil]; exact hI
    · exact ⟨_, F.keep l _ ((cutH_get hl2).trans hm), rfl, _, rfl⟩
    dsimp only
    have up : ∀ b o, b ≠ I → s.heap.get? b = some o → h'.get? b = some o := fun b o hb e => hk' b o (by simpa using hb) e
    exact fine s₀ s h' tk hf.symm hs (fun b o hb e => up b o (ltI b hb) (F.keep b o ((cutH_get hb).trans e))) (up _ _ hGI' (N _ (.tail _ (.head _))).1) _ _ (.inl rfl)
  | cons v r ih =>
    intro rv i last k s₀ s m oI lv hr hd hi hl0 hb hf hk ho1 ho2 hlv hst hm hs F N hI
    cases hr with
    | cons _ tv hr' =>
    rename_i rv'
    have hlt : i < its.length := by
      rcases Nat.lt_or_ge i its.length with h | h
      · exact h
      · rw [List.drop_of_length_le h] at hd; cases hd
    have hv : its[i]? = some (.int v tv) ∧ its.drop (i + 1) = rv' := by
      rw [List.drop_eq_getElem_cons hlt] at hd
      injection hd with h1 h2
      exact ⟨by rw [List.getElem?_eq_getElem hlt, h1], h2⟩
    have X' := X.keeps (cutH_keeps hg1 hst)
    have T' := T.keeps (cutH_keeps hg1 hst)
    refine seg_forLoop ?_
    rw [over_for]
    refine (Walks.list rfl I l (Nat.ne_of_lt (Nat.lt_trans hl2 (Nat.lt_trans hLG hGI))) its.toArray).item i s _ _ (by rw [List.size_toArray]; exact hlt) ⟨hI, ⟨_, F.keep l _ ((cutH_get hl2).trans hm), rfl, _, rfl⟩⟩ fun v' h₂ tk₂ hPv hst₂ hk₂ => ?_
    obtain rfl : v' = .int v tv := by
      have e : its.toArray[i]? = some v' := hPv
      rw [List.getElem?_toArray, hv.1] at e
      exact (Option.some.inj e).symm
    obtain ⟨oI2, hI2, hIp⟩ := hst₂.1
    have up₂ : ∀ b o, b ≠ I → s.heap.get? b = some o → h₂.get? b = some o := fun b o hb e => hk₂ b o (by simpa using hb) e
    have F₂ : Fr (cutH s₀.heap L2) L2 h₂ (mB [(Str.ofString "last_interval", lv)] m) := ⟨F.ns.at' fun o e => up₂ _ o hLI e, fun b o e => up₂ b o (ltI b (cutH_of e).1) (F.keep b o e), F.above⟩
    dsimp only
    refine wpAny_assign_Name (wpAny_storeName_local rfl F₂.ns (fun h₃ hn₃ hs₃ => ?_) rfl)
    have F₃ : Fr (cutH s₀.heap L2) L2 h₃ _ := ⟨hn₃, fun b o e => hs₃.extBut b o (Nat.ne_of_lt (cutH_of e).1) (F₂.keep b o e), F.above⟩
    have N₃ : News (cutH s₀.heap L2) L2 h₃ [(I, oI2), (G, oG)] := by
      intro p hp
      rcases List.mem_cons.mp hp with rfl | hp
      · exact ⟨hs₃.extBut _ _ hIL hI2, hIL, cutH_none (by show L2 ≤ I; omega)⟩
      · obtain rfl := List.mem_singleton.mp hp
        exact ⟨hs₃.extBut _ _ hGL (up₂ _ _ hGI' (N _ (.tail _ (.head _))).1), hGL, cutH_none (by show L2 ≤ G; omega)⟩
    clear F₂ hn₃
    dsimp only [mB] at F₃
    refine seg_execs_cons (seg_If ?_)
    rw [over_for]
    k_with_none
    k_steps
    · have h127 : v = 127 := by assumption
      have e0 : outsF last k (v :: r) = [] := by rw [outsF, if_pos h127]
      have f0 : fin = true := by rw [← hf, finF, if_pos h127]
      rw [e0]
      refine seg_execs_cons (seg_stmt (wpAny_Return_none ?_))
      exact fine s₀ s _ _ f0 hs (fun b o hb e => F₃.keep b o ((cutH_get hb).trans e)) (N₃ _ (.tail _ (.head _))).1 _ _ (.inr rfl)
    have h127 : v ≠ 127 := by assumption
    refine seg_execs_nil ?_
    dsimp only
    refine seg_execs_cons (seg_If ?_)
    rw [over_for]
    k_steps
    · have hv0 : v = 0 := by assumption
      cases last with
      | none => exact absurd hv0 (hl0 rfl v r rfl)
      | some a =>
      obtain ⟨t, rfl⟩ := hlv
      obtain rfl : fin = false := by rw [← hf, finF, if_neg h127, if_pos hv0]
      have e0 : outsF (some a) k (v :: r) = List.replicate k a := by rw [outsF, if_neg h127, if_pos hv0]; rfl
      obtain ⟨k, rfl⟩ : ∃ k', k = k' + 1 := ⟨k - 1, by simp only [List.length_cons] at hk; omega⟩
      rw [e0, List.length_replicate] at ho1 ho2 ⊢
      refine seg_execs_cons (seg_If ?_)
      rw [over_for]
      k_steps
      refine seg_execs_nil ?_
      dsimp only
      refine seg_execs_cons (seg_While fun p2 => ?_)
      exact grp_while w dp un gd n sc L1 fa cd outer loose mean mg mb g1 L2 l G I oG oI2 its c0 out X T hg1 hLG hGI kf _ p p2 _ _ _ _ _ a k (out.take (out.length - (k + 1))) s₀ _ _ t (by rw [← ho1]; exact (List.take_append_drop _ _).symm) hst (by rw [hs]) (fr_mB (ps := [(Str.ofString "last_interval", .int a t)]) F₃ ⟨rfl, trivial⟩) N₃
    have hv0 : v ≠ 0 := by assumption
    have e1 : outsF last k (v :: r) = v :: outsF (some v) (k - 1) r := by rw [outsF, if_neg h127, if_neg hv0]
    have f1 : finF r = fin := by rw [← hf, finF, if_neg h127, if_neg hv0]
    rw [e1, List.length_cons] at ho1 ho2 ⊢
    obtain ⟨oL, es, ep, hoL, hod, hok, hof⟩ := F₃.ns
    refine seg_execs_nil ?_
    dsimp only
    refine seg_execs_cons (seg_Expr_Yield rfl rfl rfl ?_)
    rw [over_for]
    k_steps
    rename_i kap hkap
    refine ⟨v, _, _, _, I, oL, oI2, ?_, rfl, by rw [hs], fun b o hb e => F₃.keep b o ((cutH_get hb).trans e), (N₃ _ (.tail _ (.head _))).1, hoL, (N₃ _ (.head _)).1, hGI, ?_⟩
    · have e2 := congrArg (·[0]?) ho1
      simp only [List.getElem?_drop, List.getElem?_cons_zero, Nat.add_zero] at e2
      rw [show out.length - 1 - (outsF (some v) (k - 1) r).length = out.length - ((outsF (some v) (k - 1) r).length + 1) by omega]; exact e2
    · intro _ s3 hst3 hm3 hG3 hL3 hI3
      refine hkap .none s3 ?_
      dsimp only
      have F4 : Fr (cutH s3.heap L2) L2 s3.heap _ := ⟨⟨oL, es, ep, hL3, hod, hok, hof⟩, fun b o e => (cutH_of e).2, cutH_size⟩
      have N4 : News (cutH s3.heap L2) L2 s3.heap [(I, oI2), (G, oG)] := List.forall_mem_cons.mpr ⟨⟨hI3, hIL, cutH_none (Nat.le_of_lt (Nat.lt_trans hLG hGI))⟩, List.forall_mem_cons.mpr ⟨⟨hG3, hGL, cutH_none (Nat.le_of_lt hLG)⟩, List.forall_mem_nil _⟩⟩
      have X4 := X.keeps (cutH_keeps hg1 hst3)
      have T4 := T.keeps (cutH_keeps hg1 hst3)
      clear F₃ N₃ X' T' F N hs₃
      refine seg_execs_cons (seg_stmt ?_)
      rw [over_for]
      k_steps
      refine seg_execs_nil ?_
      refine seg_again rfl (ih rv' (i + 1) (some v) (k - 1) s3 _ _ oI2 (.int v tv) hr' hv.2 hlt (fun e => nomatch e) (fun u hu => hb u (.tail _ hu)) f1 (by simp only [List.length_cons] at hk; omega) ?_ (by omega) ⟨tv, rfl⟩ hst3 hm3 rfl (by k_asm) (by k_asm) ⟨oI2, ?_, hIp⟩)
      · have e2 := congrArg (List.drop 1) ho1
        rw [List.drop_drop, List.drop_succ_cons, List.drop_zero] at e2
        rw [show out.length - (outsF (some v) (k - 1) r).length = out.length - ((outsF (some v) (k - 1) r).length + 1) + 1 by omega]
        exact e2
      · exact News.get (h₀ := cutH s3.heap L2) (L := L2) (by k_asm) (.head _)

end Mine
namespace Mine
theorem reset_told9 : True := by
  w_top off
  trivial
set_option maxRecDepth 100000 in
set_option maxHeartbeats 4000000 in
/-- the generator, freshly made, tells what it is to tell -/
theorem grp_fresh (w : World) (dp un : Nat) (gd : Option (List Code)) (n : Str) (sc : Scope) (L1 fa : Addr) (cd : Value) (outer : List Env) (loose : List Str) (mean : ExcName → Option Value) (mg mb : Str → Option Value)
    (g1 : Heap) (L2 l G : Nat) (oG oL : Obj) (its : List Value) (c0 : Nat) (ns : List Int) (X : (Mine.hd.heap_39 w.params).In g1) (T : Top PySem.W.topProg loose mean mg mb g1) (hg1 : g1.objs.size ≤ L2) (hl2 : l < L2) (hLG : L2 < G)
    (hr : IntsAre its ns) (hn0 : ∀ v r', ns = v :: r' → v ≠ 0) (hb : ∀ v ∈ ns, 0 ≤ v ∧ v ≤ 127) (hk : ns.length ≤ 4) (s : Shared) (hst : g1.StaysIn s.heap) (hm : s.heap.get? l = some (listOf its.toArray c0)) (hG : s.heap.get? G = some oG)
    (hL : s.heap.get? L2 = some oL) (hLn : ∀ h : Heap, h.get? L2 = some oL → h.Ns L2 (fun y => [(Str.ofString "grouping", Value.ref l)].reverse.lookup y)) :
    GGo PySem.Challenge.rw_wn0028_02.prog w (ktrTop dp un gd n sc L1 fa cd [] outer) g1 L2 l G (listOf its.toArray c0) oG (outsF none 4 ns) (finF ns) (.fresh (.func grpBs.1 (envOf (Str.ofString "_grouping_intervals") grpSs.1 L2 35 (.ref 34)))) (outsF none 4 ns).length s := by
  refine ⟨rfl, ?_⟩
  have F : Fr (cutH s.heap L2) L2 s.heap _ := ⟨hLn _ hL, fun b o e => (cutH_of e).2, cutH_size⟩
  have N : News (cutH s.heap L2) L2 s.heap [(G, oG)] := List.forall_mem_cons.mpr ⟨⟨hG, Nat.ne_of_gt hLG, cutH_none (Nat.le_of_lt hLG)⟩, List.forall_mem_nil _⟩
  have X' := X.keeps (cutH_keeps hg1 hst)
  have T' := T.keeps (cutH_keeps hg1 hst)
  dsimp only [grpSs, grpBs]
  refine seg_func ?_
  refine seg_execs_cons (seg_stmt ?_)
  rw [over_deeper]
  k_with_none
  k_steps
  rename_i h3 F3 N3
  refine seg_execs_cons (seg_For ?_)
  rw [over_deeper]
  k_with "pyIter ref" => refine stop_in ?_
  k_steps
  refine stop_out ?_
  have hls : h3.IsList l its.toArray := ⟨_, F3.keep l _ ((cutH_get hl2).trans hm), rfl, _, rfl⟩
  refine wpAny_pyIter_list hls ?_
  intro p
  have up : ∀ b o, h3.get? b = some o → (h3.push { cls := .type "list_iterator", data := .fields #[.ref l, .int 0 0] }).get? b = some o := fun b o e => Heap.get?_push_of_some _ e
  have hGs : G < h3.objs.size := Heap.lt_size (N3 _ (.head _)).1
  have hi := Heap.get?_push_size (h := h3) (o := { cls := .type "list_iterator", data := .fields #[.ref l, .int 0 0] }) rfl
  have N4 : News (cutH s.heap L2) L2 (h3.push { cls := .type "list_iterator", data := .fields #[.ref l, .int 0 0] }) [(h3.objs.size, { cls := .type "list_iterator", data := .fields #[.ref l, .int 0 0] }), (G, oG)] :=
    List.forall_mem_cons.mpr ⟨⟨hi, Nat.ne_of_gt (Nat.lt_trans hLG hGs), cutH_none (Nat.le_of_lt (Nat.lt_trans hLG hGs))⟩, fun p hp => ⟨up _ _ (N3 p hp).1, (N3 p hp).2⟩⟩
  exact grp_loop w dp un gd n sc L1 fa cd outer loose mean mg mb g1 L2 l G h3.objs.size oG its c0 _ _ X T hg1 hl2 hLG hGs _ _ p (fun r => by cases r <;> rfl) ns its 0 none 4 s _ _ _ .none hr rfl (Nat.zero_le _) (fun _ => hn0) hb rfl hk
    (by rw [Nat.sub_self, List.drop_zero]) (Nat.le_refl _) rfl hst hm rfl (fr_mB (ps := [(Str.ofString "last_interval", .none)]) (F3.keeps up) ⟨rfl, trivial⟩) N4 ⟨_, hi, rfl, rfl⟩
theorem outs_full : ∀ (ns : List Int) (last : Option Int) (k : Nat), ns.length ≤ k → finF ns = false → (outsF last k ns).length = k
  | [], _, _, _, h => nomatch h
  | v :: r, last, k, hk, h => by
    rw [finF] at h
    rw [outsF]
    by_cases h1 : v = 127
    · rw [if_pos h1] at h; cases h
    · rw [if_neg h1] at h ⊢
      by_cases h2 : v = 0
      · rw [if_pos h2, List.length_replicate]
      · rw [if_neg h2] at h ⊢
        simp only [List.length_cons] at hk ⊢
        rw [outs_full r (some v) (k - 1) (by omega) h]; omega
theorem outs_le : ∀ (ns : List Int) (last : Option Int) (k : Nat), ns.length ≤ k → (outsF last k ns).length ≤ k
  | [], _, _, _ => Nat.zero_le _
  | v :: r, last, k, hk => by
    rw [outsF]
    by_cases h1 : v = 127
    · rw [if_pos h1]; exact Nat.zero_le _
    · rw [if_neg h1]
      by_cases h2 : v = 0
      · rw [if_pos h2, List.length_replicate]; exact Nat.le_refl _
      · rw [if_neg h2]
        simp only [List.length_cons] at hk ⊢
        have := outs_le r (some v) (k - 1) (by omega)
        omega
namespace told1
set_option maxRecDepth 100000 in
set_option maxHeartbeats 4000000 in
noncomputable def seg9 : {p : PySem.World → Nat → (List PySem.Value) → Nat → (List Int) → (List PySem.Str) → (PySem.ExcName → Option PySem.Value) → (PySem.Str → Option PySem.Value) → (PySem.Str → Option PySem.Value) → (List (PySem.Addr × PySem.Obj)) → Nat → Nat → (Option (List PySem.Code)) → PySem.Str → PySem.Scope → PySem.Addr → PySem.Value → (List (PySem.Str × PySem.Addr)) → PySem.Around → PySem.Heap → PySem.Addr → (PySem.Str → Option PySem.Value) → (PySem.Result → PySem.Shared → Prop) → PySem.Heap → PySem.Drawn → Nat → PySem.OsState → PySem.Heap → PySem.Addr → PySem.Heap → Nat → PySem.Addr → PySem.Heap → PySem.Heap → Nat → PySem.Heap → PySem.Addr → PySem.Heap → PySem.Addr → PySem.Tok → PySem.Tok → Nat → PySem.Obj → (Array PySem.DictEntry) → Nat → Prop // Hid (∀ a0 a1 a2 a3 a4 a5 a6 a7 a8 a9 a10 a11 a12 a13 a14 a15 a16 a17 a18 a19 a20 a21 a22 a23 a24 a25 a26 a27 a28 a29 a30 a31 a32 a33 a34 a35 a36 a37 a38 a39 a40 a41 a42 a43 a44, p a0 a1 a2 a3 a4 a5 a6 a7 a8 a9 a10 a11 a12 a13 a14 a15 a16 a17 a18 a19 a20 a21 a22 a23 a24 a25 a26 a27 a28 a29 a30 a31 a32 a33 a34 a35 a36 a37 a38 a39 a40 a41 a42 a43 a44) → ∀ (w : World) (l : Nat) (its : List Value) (c : Nat) (ns : List Int) (hr : IntsAre its ns) (hn0 : ∀ v r', ns = v :: r' → v ≠ 0) (hb9 : ∀ v ∈ ns, 0 ≤ v ∧ v ≤ 127) (hk9 : ns.length ≤ 4) (loose : List Str) (mean : ExcName → Option Value) (mg mb : Str → Option Value) (rest : List (Addr × Obj)) (dp un : Nat) (gd : Option (List Code)) (cn : Str) (cs : Scope) (a : Addr) (ccd : Value) (cl : List (Str × Addr)) (A₀ : Around) (h₀ : Heap) (L : Addr) (m : Str → Option Value) (s : Shared) (R : Result → Shared → Prop) (hm : (l, listOf its.toArray c) ∈ rest) (B : Below A₀ h₀ [] h₀) (F₀ : Fr h₀ L s.heap m) (X : (Mine.hd.heap_39 w.params).In h₀) (N₀ : News h₀ L s.heap rest) (T : Top PySem.W.topProg loose mean mg mb h₀) (hk : cs.kind = .function) (hd : dp + 4 < recursionLimit) (hu : un + 60 < cLine) (hgs : s.gens = #[]) (hret : ∀ a ws k h' g' tk', AllBare g' → IntsAre ws (outsF none 4 ns) → (∀ q ∈ rest, q.1 < a) → Fr h₀ L h' m → News h₀ L h' ((a, listOf ws.toArray k) :: rest) → R (.ok (.ret (.ref a))) { s with heap := h', toks := tk', gens := g' }), codeAny (model PySem.Challenge.rw_wn0028_02.prog w) (ktrTop dp un gd cn cs L a ccd cl []) (.call (.ref 127) ⟨[.ref l], []⟩) R s} := segOf (by
  intro ht9
  intro w l its c ns hr hn0 hb9 hk9 loose mean mg mb rest dp un gd cn cs a ccd cl A₀ h₀ L m s R hm B F₀ X N₀ T hk hd hu hgs hret
  obtain ⟨sh, sg, sd, st9, so⟩ := s
  dsimp only at hgs F₀ N₀ hret
  subst hgs
  k_with_none
  refine' code_defT ?k1 ?k2 ?k3 ?k4 ?k5 ?kA ?kF ?kK ?k6 ?k7 ?k8 ?k9 ?kB ?_ ?c5 ?c2 ?c3 ?c4
  case kA => exact rfl
  case kF => exact rfl
  case kK => assumption
  case k1 => k_asm
  case k2 => k_asm
  case k3 => k_asm
  case k4 => k_asm
  case k5 => k_asm
  case k6 => k_is
  case k7 => k_is
  case k8 => ktr_room
  case k9 => exact BindsTo.of_eq rfl
  case c5 => decide
  case kB => exact locs rfl
  case c2 => exact rfl
  case c3 => exact rfl
  case c4 => exact rfl
  intro g L1 h₁ FG F1 N1 B1 st l1 X1 T1
  k_with "exec For Name Call cons nil" => refine stop_in ?_
  k_steps
  refine stop_out ?_
  rename_i ltl h2 F2 N2
  refine wpAny_For ?_
  k_with "call ref cons nil" => refine stop_in ?_
  k_steps
  refine stop_out ?_
  k_with_none
  refine wpAny_call ?_
  refine' code_gen ?k1 ?k2 ?k3 ?k4 ?k5 ?kA ?kF ?kK ?k6 ?k7 ?k8 ?k9 ?kB ?_ ?c5 ?c2 ?c3 ?c4
  case kA => exact rfl
  case kF => exact rfl
  case kK => exact rfl
  case k1 => exact B1
  case k2 => exact F2
  case k3 => exact X1
  case k4 => exact N2
  case k5 => exact T1
  case k6 => k_is
  case k7 => k_is
  case k8 => ktr_room
  case k9 => exact fun _ => BindsTo.of_eq rfl
  case c5 => decide
  case kB => exact locs rfl
  case c2 => exact rfl
  case c3 => exact rfl
  case c4 => exact rfl
  intro g2 L2 h3 G t u tk3 FG2 F3 N3 B3 st3 l3 lG F4 N4 X3 T3
  dsimp only
  refine wpAny_pyIter_gen (gen_is N4 (.head _)) ?_
  obtain ⟨oL, es, ep, hoL, hod, hok, hof⟩ := F3.ns
  rename_i tl _
  have hL12 : @LT.lt Nat _ L1 L2 := Nat.lt_of_lt_of_le FG2.ns.lt F3.above
  have hl2 : @LT.lt Nat _ l L2 := l3 _ (.tail _ hm)
  have htl : @LT.lt Nat _ tl L2 := l3 _ (.head _)
  have hgL : g.objs.size ≤ L2 := Nat.le_of_lt (Nat.lt_of_le_of_lt F4.above hL12)
  have hlist : h3.get? l = some (listOf its.toArray c) := (N4 _ (.tail _ (.tail _ hm))).1
  have hful := outs_full ns none 4 hk9
  have hle := outs_le ns none 4 hk9
  generalize hfin : finF ns = fin at hful
  generalize hout : outsF none 4 ns = out at *
  rename_i z1 z2
  clear B T hk hu F₀ N₀ B1 l1 F2 N2 FG2 F3 N3 B3 st3 X3 T3 hlist
  revert hr hn0 hb9 hk9 hm X hd FG st X1 T1 ltl l3 lG F4 N4 hoL hod hok hof hL12 hl2 htl hgL fin hfin out hout hret hle hful
  exact ht9.out w l its c ns loose mean mg mb rest dp un gd cn cs a ccd cl A₀ h₀ L m R sh sd st9 so g L1 h₁ z1 tl z2 h2 tk g2 L2 h3 G t u tk3 oL es ep
)
noncomputable def G9 (d : PySem.World × Nat × (List PySem.Value) × Nat × (List Int) × (List PySem.Str) × (PySem.ExcName → Option PySem.Value) × (PySem.Str → Option PySem.Value) × (PySem.Str → Option PySem.Value) × (List (PySem.Addr × PySem.Obj)) × Nat × Nat × (Option (List PySem.Code)) × PySem.Str × PySem.Scope × PySem.Addr × PySem.Value × (List (PySem.Str × PySem.Addr)) × PySem.Around × PySem.Heap × PySem.Addr × (PySem.Str → Option PySem.Value) × (PySem.Result → PySem.Shared → Prop) × PySem.Heap × PySem.Drawn × Nat × PySem.OsState × PySem.Heap × PySem.Addr × PySem.Heap × Nat × PySem.Addr × PySem.Heap × PySem.Heap × Nat × PySem.Heap × PySem.Addr × PySem.Heap × PySem.Addr × PySem.Tok × PySem.Tok × Nat × PySem.Obj × (Array PySem.DictEntry) × Nat) : Prop := seg9.1 d.1 d.2.1 d.2.2.1 d.2.2.2.1 d.2.2.2.2.1 d.2.2.2.2.2.1 d.2.2.2.2.2.2.1 d.2.2.2.2.2.2.2.1 d.2.2.2.2.2.2.2.2.1 d.2.2.2.2.2.2.2.2.2.1 d.2.2.2.2.2.2.2.2.2.2.1 d.2.2.2.2.2.2.2.2.2.2.2.1 d.2.2.2.2.2.2.2.2.2.2.2.2.1 d.2.2.2.2.2.2.2.2.2.2.2.2.2.1 d.2.2.2.2.2.2.2.2.2.2.2.2.2.2.1 d.2.2.2.2.2.2.2.2.2.2.2.2.2.2.2.1 d.2.2.2.2.2.2.2.2.2.2.2.2.2.2.2.2.1 d.2.2.2.2.2.2.2.2.2.2.2.2.2.2.2.2.2.1 d.2.2.2.2.2.2.2.2.2.2.2.2.2.2.2.2.2.2.1 d.2.2.2.2.2.2.2.2.2.2.2.2.2.2.2.2.2.2.2.1 d.2.2.2.2.2.2.2.2.2.2.2.2.2.2.2.2.2.2.2.2.1 d.2.2.2.2.2.2.2.2.2.2.2.2.2.2.2.2.2.2.2.2.2.1 d.2.2.2.2.2.2.2.2.2.2.2.2.2.2.2.2.2.2.2.2.2.2.1 d.2.2.2.2.2.2.2.2.2.2.2.2.2.2.2.2.2.2.2.2.2.2.2.1 d.2.2.2.2.2.2.2.2.2.2.2.2.2.2.2.2.2.2.2.2.2.2.2.2.1 d.2.2.2.2.2.2.2.2.2.2.2.2.2.2.2.2.2.2.2.2.2.2.2.2.2.1 d.2.2.2.2.2.2.2.2.2.2.2.2.2.2.2.2.2.2.2.2.2.2.2.2.2.2.1 d.2.2.2.2.2.2.2.2.2.2.2.2.2.2.2.2.2.2.2.2.2.2.2.2.2.2.2.1 d.2.2.2.2.2.2.2.2.2.2.2.2.2.2.2.2.2.2.2.2.2.2.2.2.2.2.2.2.1 d.2.2.2.2.2.2.2.2.2.2.2.2.2.2.2.2.2.2.2.2.2.2.2.2.2.2.2.2.2.1 d.2.2.2.2.2.2.2.2.2.2.2.2.2.2.2.2.2.2.2.2.2.2.2.2.2.2.2.2.2.2.1 d.2.2.2.2.2.2.2.2.2.2.2.2.2.2.2.2.2.2.2.2.2.2.2.2.2.2.2.2.2.2.2.1 d.2.2.2.2.2.2.2.2.2.2.2.2.2.2.2.2.2.2.2.2.2.2.2.2.2.2.2.2.2.2.2.2.1 d.2.2.2.2.2.2.2.2.2.2.2.2.2.2.2.2.2.2.2.2.2.2.2.2.2.2.2.2.2.2.2.2.2.1 d.2.2.2.2.2.2.2.2.2.2.2.2.2.2.2.2.2.2.2.2.2.2.2.2.2.2.2.2.2.2.2.2.2.2.1 d.2.2.2.2.2.2.2.2.2.2.2.2.2.2.2.2.2.2.2.2.2.2.2.2.2.2.2.2.2.2.2.2.2.2.2.1 d.2.2.2.2.2.2.2.2.2.2.2.2.2.2.2.2.2.2.2.2.2.2.2.2.2.2.2.2.2.2.2.2.2.2.2.2.1 d.2.2.2.2.2.2.2.2.2.2.2.2.2.2.2.2.2.2.2.2.2.2.2.2.2.2.2.2.2.2.2.2.2.2.2.2.2.1 d.2.2.2.2.2.2.2.2.2.2.2.2.2.2.2.2.2.2.2.2.2.2.2.2.2.2.2.2.2.2.2.2.2.2.2.2.2.2.1 d.2.2.2.2.2.2.2.2.2.2.2.2.2.2.2.2.2.2.2.2.2.2.2.2.2.2.2.2.2.2.2.2.2.2.2.2.2.2.2.1 d.2.2.2.2.2.2.2.2.2.2.2.2.2.2.2.2.2.2.2.2.2.2.2.2.2.2.2.2.2.2.2.2.2.2.2.2.2.2.2.2.1 d.2.2.2.2.2.2.2.2.2.2.2.2.2.2.2.2.2.2.2.2.2.2.2.2.2.2.2.2.2.2.2.2.2.2.2.2.2.2.2.2.2.1 d.2.2.2.2.2.2.2.2.2.2.2.2.2.2.2.2.2.2.2.2.2.2.2.2.2.2.2.2.2.2.2.2.2.2.2.2.2.2.2.2.2.2.1 d.2.2.2.2.2.2.2.2.2.2.2.2.2.2.2.2.2.2.2.2.2.2.2.2.2.2.2.2.2.2.2.2.2.2.2.2.2.2.2.2.2.2.2.1 d.2.2.2.2.2.2.2.2.2.2.2.2.2.2.2.2.2.2.2.2.2.2.2.2.2.2.2.2.2.2.2.2.2.2.2.2.2.2.2.2.2.2.2.2
noncomputable def tup9z : PySem.World × Nat × (List PySem.Value) × Nat × (List Int) × (List PySem.Str) × (PySem.ExcName → Option PySem.Value) × (PySem.Str → Option PySem.Value) × (PySem.Str → Option PySem.Value) × (List (PySem.Addr × PySem.Obj)) × Nat × Nat × (Option (List PySem.Code)) × PySem.Str × PySem.Scope × PySem.Addr × PySem.Value × (List (PySem.Str × PySem.Addr)) × PySem.Around × PySem.Heap × PySem.Addr × (PySem.Str → Option PySem.Value) × (PySem.Result → PySem.Shared → Prop) × PySem.Heap × PySem.Drawn × Nat × PySem.OsState × PySem.Heap × PySem.Addr × PySem.Heap × Nat × PySem.Addr × PySem.Heap × PySem.Heap × Nat × PySem.Heap × PySem.Addr × PySem.Heap × PySem.Addr × PySem.Tok × PySem.Tok × Nat × PySem.Obj × (Array PySem.DictEntry) × Nat := hen (World9, (0 : Nat), [], (0 : Nat), [], [], (fun _ => none), (fun _ => none), (fun _ => none), [], (0 : Nat), (0 : Nat), none, (default : Str), (default : Scope), (0 : Nat), (default : Value), [], ({} : Around), (default : Heap), (0 : Nat), (fun _ => none), (fun _ => (fun _ => True)), (default : Heap), ({} : Drawn), (0 : Nat), ({} : OsState), (default : Heap), (0 : Nat), (default : Heap), (0 : Nat), (0 : Nat), (default : Heap), (default : Heap), (0 : Nat), (default : Heap), (0 : Nat), (default : Heap), (0 : Nat), (0 : Nat), (0 : Nat), (0 : Nat), (default : Obj), #[], (0 : Nat)) G9
noncomputable def w : PySem.World := tup9z.1
noncomputable def l : Nat := tup9z.2.1
noncomputable def its : List PySem.Value := tup9z.2.2.1
noncomputable def c : Nat := tup9z.2.2.2.1
noncomputable def ns : List Int := tup9z.2.2.2.2.1
noncomputable def loose : List PySem.Str := tup9z.2.2.2.2.2.1
noncomputable def mean : PySem.ExcName → Option PySem.Value := tup9z.2.2.2.2.2.2.1
noncomputable def mg : PySem.Str → Option PySem.Value := tup9z.2.2.2.2.2.2.2.1
noncomputable def mb : PySem.Str → Option PySem.Value := tup9z.2.2.2.2.2.2.2.2.1
noncomputable def rest : List (PySem.Addr × PySem.Obj) := tup9z.2.2.2.2.2.2.2.2.2.1
noncomputable def dp : Nat := tup9z.2.2.2.2.2.2.2.2.2.2.1
noncomputable def un : Nat := tup9z.2.2.2.2.2.2.2.2.2.2.2.1
noncomputable def gd : Option (List PySem.Code) := tup9z.2.2.2.2.2.2.2.2.2.2.2.2.1
noncomputable def cn : PySem.Str := tup9z.2.2.2.2.2.2.2.2.2.2.2.2.2.1
noncomputable def cs : PySem.Scope := tup9z.2.2.2.2.2.2.2.2.2.2.2.2.2.2.1
noncomputable def a : PySem.Addr := tup9z.2.2.2.2.2.2.2.2.2.2.2.2.2.2.2.1
noncomputable def ccd : PySem.Value := tup9z.2.2.2.2.2.2.2.2.2.2.2.2.2.2.2.2.1
noncomputable def cl : List (PySem.Str × PySem.Addr) := tup9z.2.2.2.2.2.2.2.2.2.2.2.2.2.2.2.2.2.1
noncomputable def A₀ : PySem.Around := tup9z.2.2.2.2.2.2.2.2.2.2.2.2.2.2.2.2.2.2.1
noncomputable def h₀ : PySem.Heap := tup9z.2.2.2.2.2.2.2.2.2.2.2.2.2.2.2.2.2.2.2.1
noncomputable def L : PySem.Addr := tup9z.2.2.2.2.2.2.2.2.2.2.2.2.2.2.2.2.2.2.2.2.1
noncomputable def m : PySem.Str → Option PySem.Value := tup9z.2.2.2.2.2.2.2.2.2.2.2.2.2.2.2.2.2.2.2.2.2.1
noncomputable def R : PySem.Result → PySem.Shared → Prop := tup9z.2.2.2.2.2.2.2.2.2.2.2.2.2.2.2.2.2.2.2.2.2.2.1
noncomputable def sh : PySem.Heap := tup9z.2.2.2.2.2.2.2.2.2.2.2.2.2.2.2.2.2.2.2.2.2.2.2.1
noncomputable def sd : PySem.Drawn := tup9z.2.2.2.2.2.2.2.2.2.2.2.2.2.2.2.2.2.2.2.2.2.2.2.2.1
noncomputable def st9 : Nat := tup9z.2.2.2.2.2.2.2.2.2.2.2.2.2.2.2.2.2.2.2.2.2.2.2.2.2.1
noncomputable def so : PySem.OsState := tup9z.2.2.2.2.2.2.2.2.2.2.2.2.2.2.2.2.2.2.2.2.2.2.2.2.2.2.1
noncomputable def g : PySem.Heap := tup9z.2.2.2.2.2.2.2.2.2.2.2.2.2.2.2.2.2.2.2.2.2.2.2.2.2.2.2.1
noncomputable def L1 : PySem.Addr := tup9z.2.2.2.2.2.2.2.2.2.2.2.2.2.2.2.2.2.2.2.2.2.2.2.2.2.2.2.2.1
noncomputable def h₁ : PySem.Heap := tup9z.2.2.2.2.2.2.2.2.2.2.2.2.2.2.2.2.2.2.2.2.2.2.2.2.2.2.2.2.2.1
noncomputable def z1 : Nat := tup9z.2.2.2.2.2.2.2.2.2.2.2.2.2.2.2.2.2.2.2.2.2.2.2.2.2.2.2.2.2.2.1
noncomputable def tl : PySem.Addr := tup9z.2.2.2.2.2.2.2.2.2.2.2.2.2.2.2.2.2.2.2.2.2.2.2.2.2.2.2.2.2.2.2.1
noncomputable def z2 : PySem.Heap := tup9z.2.2.2.2.2.2.2.2.2.2.2.2.2.2.2.2.2.2.2.2.2.2.2.2.2.2.2.2.2.2.2.2.1
noncomputable def h2 : PySem.Heap := tup9z.2.2.2.2.2.2.2.2.2.2.2.2.2.2.2.2.2.2.2.2.2.2.2.2.2.2.2.2.2.2.2.2.2.1
noncomputable def tk : Nat := tup9z.2.2.2.2.2.2.2.2.2.2.2.2.2.2.2.2.2.2.2.2.2.2.2.2.2.2.2.2.2.2.2.2.2.2.1
noncomputable def g2 : PySem.Heap := tup9z.2.2.2.2.2.2.2.2.2.2.2.2.2.2.2.2.2.2.2.2.2.2.2.2.2.2.2.2.2.2.2.2.2.2.2.1
noncomputable def L2 : PySem.Addr := tup9z.2.2.2.2.2.2.2.2.2.2.2.2.2.2.2.2.2.2.2.2.2.2.2.2.2.2.2.2.2.2.2.2.2.2.2.2.1
noncomputable def h3 : PySem.Heap := tup9z.2.2.2.2.2.2.2.2.2.2.2.2.2.2.2.2.2.2.2.2.2.2.2.2.2.2.2.2.2.2.2.2.2.2.2.2.2.1
noncomputable def G : PySem.Addr := tup9z.2.2.2.2.2.2.2.2.2.2.2.2.2.2.2.2.2.2.2.2.2.2.2.2.2.2.2.2.2.2.2.2.2.2.2.2.2.2.1
noncomputable def t : PySem.Tok := tup9z.2.2.2.2.2.2.2.2.2.2.2.2.2.2.2.2.2.2.2.2.2.2.2.2.2.2.2.2.2.2.2.2.2.2.2.2.2.2.2.1
noncomputable def u : PySem.Tok := tup9z.2.2.2.2.2.2.2.2.2.2.2.2.2.2.2.2.2.2.2.2.2.2.2.2.2.2.2.2.2.2.2.2.2.2.2.2.2.2.2.2.1
noncomputable def tk3 : Nat := tup9z.2.2.2.2.2.2.2.2.2.2.2.2.2.2.2.2.2.2.2.2.2.2.2.2.2.2.2.2.2.2.2.2.2.2.2.2.2.2.2.2.2.1
noncomputable def oL : PySem.Obj := tup9z.2.2.2.2.2.2.2.2.2.2.2.2.2.2.2.2.2.2.2.2.2.2.2.2.2.2.2.2.2.2.2.2.2.2.2.2.2.2.2.2.2.2.1
noncomputable def es : Array PySem.DictEntry := tup9z.2.2.2.2.2.2.2.2.2.2.2.2.2.2.2.2.2.2.2.2.2.2.2.2.2.2.2.2.2.2.2.2.2.2.2.2.2.2.2.2.2.2.2.1
noncomputable def ep : Nat := tup9z.2.2.2.2.2.2.2.2.2.2.2.2.2.2.2.2.2.2.2.2.2.2.2.2.2.2.2.2.2.2.2.2.2.2.2.2.2.2.2.2.2.2.2.2
set_option maxRecDepth 100000 in
set_option maxHeartbeats 4000000 in
theorem main9 : seg9.1 w l its c ns loose mean mg mb rest dp un gd cn cs a ccd cl A₀ h₀ L m R sh sd st9 so g L1 h₁ z1 tl z2 h2 tk g2 L2 h3 G t u tk3 oL es ep := by
  delta seg9 segOf
  dsimp -zeta only
  intro hr hn0 hb9 hk9 hm X hd FG st X1 T1 ltl l3 lG F4 N4 hoL hod hok hof hL12 hl2 htl hgL fin hfin out hout hret hle hful
  refine told_loop g L1 L2 l G tl (listOf its.toArray c) (genObj 0 (Str.ofString "_grouping_intervals") (Str.ofString "_grouping_intervals") t u) rest out fin sd so ?_ out.length ?_
  · rintro n s' ⟨done, rem, ws, k, gs, h', tk', m', oL', ex, rfl, rfl, hd4, hw, rfl, F, N, hex, ready⟩
    have hl' : h'.get? l = some (listOf its.toArray c) := (N _ (.tail _ (.tail _ (.tail _ (List.mem_append_right _ hm))))).1
    refine pyNext_woken (g := 0) rfl (T1.nolimit.keeps F.keep) (by ktr_room) (gen_is N (.tail _ (.tail _ (.head _)))) rfl (ready _ F.keep hl' (N _ (.tail _ (.tail _ (.head _)))).1 (N _ (.tail _ (.head _))).1 (fun p hp => (N p (.tail _ (.tail _ (.tail _ (List.mem_append_left _ hp))))).1)) ?_ ?_
    · intro v s₁ gs' hbare hy
      obtain ⟨val, tv, h5, tk5, I, oL5, oI5, hval, rfl, rfl, kp, hG5, hL5, hI5, hGI5, hgo⟩ := hy
      have F5 : Fr g L1 h5 (mB [(Str.ofString "told", .ref tl)] m') := ⟨F.ns.at' fun o e => kp _ o hL12 e, fun b o e => kp b o (Nat.lt_of_lt_of_le (Heap.lt_size e) hgL) (F.keep b o e), F.above⟩
      have N5 : News g L1 h5 ((tl, listOf ws.toArray k) :: (L2, oL5) :: (G, genObj 0 (Str.ofString "_grouping_intervals") (Str.ofString "_grouping_intervals") t u) :: ([(I, oI5)] ++ rest)) := by
        intro p hp
        rcases List.mem_cons.mp hp with rfl | hp
        · exact ⟨kp _ _ htl (N _ (.head _)).1, (N _ (.head _)).2⟩
        rcases List.mem_cons.mp hp with rfl | hp
        · exact ⟨hL5, Nat.ne_of_gt hL12, Heap.get?_none_of_le hgL⟩
        rcases List.mem_cons.mp hp with rfl | hp
        · exact ⟨hG5, (N _ (.tail _ (.tail _ (.head _)))).2⟩
        rcases List.mem_cons.mp hp with rfl | hp
        · exact ⟨hI5, Nat.ne_of_gt (Nat.lt_trans hL12 (Nat.lt_trans lG hGI5)), Heap.get?_none_of_le (Nat.le_trans hgL (Nat.le_of_lt (Nat.lt_trans lG hGI5)))⟩
        · exact ⟨kp _ _ (l3 _ (.tail _ hp)) (N _ (.tail _ (.tail _ (.tail _ (List.mem_append_right _ hp))))).1, (N _ (.tail _ (.tail _ (.tail _ (List.mem_append_right _ hp))))).2⟩
      cases rem with
      | nil =>
        have hf' : fin = true := by
          cases fin with
          | true => rfl
          | false => have := hful rfl; rw [List.append_nil] at this; omega
        exact (hgo (.inr hf') ⟨h5, #[], sd, tk5, so⟩ F5.keep (N5 _ (.tail _ (.tail _ (.tail _ (.tail _ hm))))).1 hG5 hL5 hI5 : False).elim
      | cons r0 rem =>
        obtain rfl : val = r0 := by
          rw [List.length_append, List.length_cons, show done.length + (rem.length + 1) - 1 - (rem.length + 1 - 1) = done.length by omega, List.getElem?_append_right (Nat.le_refl _), Nat.sub_self] at hval
          exact (Option.some.inj hval).symm
        have hz : ws.length ≤ 4 := by rw [hw.length]; omega
        clear N F hval ready hex hl'
        dsimp only [mB] at F5
        generalize hRT : (L2, oL5) :: (G, genObj 0 (Str.ofString "_grouping_intervals") (Str.ofString "_grouping_intervals") t u) :: ([(I, oI5)] ++ rest) = RT at N5
        have hne : ∀ p ∈ RT, p.1 ≠ tl := by
          subst hRT
          refine List.forall_mem_cons.mpr ⟨Nat.ne_of_gt htl, List.forall_mem_cons.mpr ⟨Nat.ne_of_gt (Nat.lt_trans htl lG), List.forall_mem_cons.mpr ⟨Nat.ne_of_gt (Nat.lt_trans htl (Nat.lt_trans lG hGI5)), fun p hp => Nat.ne_of_lt (ltl p hp)⟩⟩⟩
        dsimp only
        k_with_none
        k_steps
        · rename_i h7 F7 tk7 N7 h4
          have h4' : done.length + 1 = 4 := by omega
          obtain rfl : rem = [] := by
            cases rem with
            | nil => rfl
            | cons _ _ => simp only [List.length_append, List.length_cons] at hle; omega
          obtain ⟨FL, NL⟩ := leave9 FG st F7 N7
          subst hRT
          refine hret tl (ws ++ [.int val tv]) (k + 1) h7 _ _ (PySem.W.X.allBare_of [gs'] (by simp [hbare])) (IntsAre.append hw (.cons _ _ .nil)) ltl FL (news_of NL fun p hp => ?_)
          rcases List.mem_cons.mp hp with rfl | hp
          · exact .head _
          · exact .tail _ (.tail _ (.tail _ (.tail _ hp)))
        · rename_i h7 F7 tk7 N7 h4
          have h4' : done.length + 1 ≠ 4 := by omega
          subst hRT
          refine ⟨rem.length, Nat.lt_succ_self _, done ++ [val], rem, ws ++ [.int val tv], k + 1, gs', _, _, _, oL5, [(I, oI5)], rfl, by rw [List.append_assoc]; rfl, by simp only [List.length_append, List.length_singleton]; omega, IntsAre.append hw (.cons _ _ .nil), rfl, fr_mB (ps := [(Str.ofString "told", .ref tl)]) F7 ⟨rfl, trivial⟩, N7, List.forall_mem_cons.mpr ⟨hGI5, List.forall_mem_nil _⟩, ?_⟩
          intro s'' hst hl hG hL hex'
          refine hgo ?_ s'' hst hl hG hL (hex' _ (.head _))
          cases fin with
          | true => exact .inr rfl
          | false =>
            have := hful rfl
            simp only [List.length_append, List.length_cons] at this
            exact .inl (by simp only [List.length_cons]; omega)
    · rintro s₁ ⟨hn, hf, h5, tk5, rfl, kp, hG5⟩ h6 up6
      obtain rfl : rem = [] := List.eq_nil_of_length_eq_zero hn
      have up : ∀ b o, b < L2 → h'.get? b = some o → h6.get? b = some o := fun b o hb e => up6 b o (kp b o hb e)
      have F6 : Fr g L1 h6 (mB [(Str.ofString "told", .ref tl)] m') := ⟨F.ns.at' fun o e => up _ o hL12 e, fun b o e => up b o (Nat.lt_of_lt_of_le (Heap.lt_size e) hgL) (F.keep b o e), F.above⟩
      have N6 : News g L1 h6 ((tl, listOf ws.toArray k) :: rest) := by
        intro p hp
        rcases List.mem_cons.mp hp with rfl | hp
        · exact ⟨up _ _ htl (N _ (.head _)).1, (N _ (.head _)).2⟩
        · exact ⟨up _ _ (l3 _ (.tail _ hp)) (N _ (.tail _ (.tail _ (.tail _ (List.mem_append_right _ hp))))).1, (N _ (.tail _ (.tail _ (.tail _ (List.mem_append_right _ hp))))).2⟩
      clear N F hex ready hl'
      dsimp only [mB] at F6
      dsimp only
      k_with_none
      k_steps
      obtain ⟨FL, NL⟩ := leave9 FG st F6 N6
      exact hret tl ws k h6 #[.finished] _ (PySem.W.X.allBare_of [.finished] rfl) (by rw [List.append_nil]; exact hw) ltl FL NL
  · refine ⟨[], out, [], 0, _, h3, tk3, _, oL, [], rfl, rfl, by decide, .nil, rfl, F4, ?_, List.forall_mem_nil _, ?_⟩
    · intro p hp
      rcases List.mem_cons.mp hp with rfl | hp
      · exact N4 _ (.tail _ (.head _))
      rcases List.mem_cons.mp hp with rfl | hp
      · exact ⟨hoL, Nat.ne_of_gt hL12, Heap.get?_none_of_le hgL⟩
      rcases List.mem_cons.mp hp with rfl | hp
      · exact N4 _ (.head _)
      · exact N4 _ (.tail _ (.tail _ hp))
    · intro s'' hst hl hG hL _
      rw [ktr_in1, ← hout, ← hfin]
      exact grp_fresh w _ _ gd _ _ L1 _ _ _ loose mean mg mb g L2 l G _ oL its c ns X1 T1 hgL hl2 lG hr hn0 hb9 hk9 s'' hst hl hG hL (fun h e => ⟨oL, es, ep, e, hod, hok, hof⟩)

set_option maxRecDepth 100000 in
set_option maxHeartbeats 4000000 in
theorem all9 : ∀ a0 a1 a2 a3 a4 a5 a6 a7 a8 a9 a10 a11 a12 a13 a14 a15 a16 a17 a18 a19 a20 a21 a22 a23 a24 a25 a26 a27 a28 a29 a30 a31 a32 a33 a34 a35 a36 a37 a38 a39 a40 a41 a42 a43 a44, seg9.1 a0 a1 a2 a3 a4 a5 a6 a7 a8 a9 a10 a11 a12 a13 a14 a15 a16 a17 a18 a19 a20 a21 a22 a23 a24 a25 a26 a27 a28 a29 a30 a31 a32 a33 a34 a35 a36 a37 a38 a39 a40 a41 a42 a43 a44 := fun a0 a1 a2 a3 a4 a5 a6 a7 a8 a9 a10 a11 a12 a13 a14 a15 a16 a17 a18 a19 a20 a21 a22 a23 a24 a25 a26 a27 a28 a29 a30 a31 a32 a33 a34 a35 a36 a37 a38 a39 a40 a41 a42 a43 a44 => hen_all (G := G9) main9 (a0, a1, a2, a3, a4, a5, a6, a7, a8, a9, a10, a11, a12, a13, a14, a15, a16, a17, a18, a19, a20, a21, a22, a23, a24, a25, a26, a27, a28, a29, a30, a31, a32, a33, a34, a35, a36, a37, a38, a39, a40, a41, a42, a43, a44)
end told1
theorem told1 (w : World) (l : Nat) (its : List Value) (c : Nat) (ns : List Int) (hr : IntsAre its ns) (hn0 : ∀ v r', ns = v :: r' → v ≠ 0) (hb9 : ∀ v ∈ ns, 0 ≤ v ∧ v ≤ 127) (hk9 : ns.length ≤ 4) (loose : List Str) (mean : ExcName → Option Value) (mg mb : Str → Option Value) (rest : List (Addr × Obj)) (dp un : Nat) (gd : Option (List Code)) (cn : Str) (cs : Scope) (a : Addr) (ccd : Value) (cl : List (Str × Addr)) (A₀ : Around) (h₀ : Heap) (L : Addr) (m : Str → Option Value) (s : Shared) (R : Result → Shared → Prop)
    (hm : (l, listOf its.toArray c) ∈ rest) (B : Below A₀ h₀ [] h₀) (F₀ : Fr h₀ L s.heap m) (X : (Mine.hd.heap_39 w.params).In h₀) (N₀ : News h₀ L s.heap rest) (T : Top PySem.W.topProg loose mean mg mb h₀) (hk : cs.kind = .function) (hd : dp + 4 < recursionLimit) (hu : un + 60 < cLine) (hgs : s.gens = #[])
    (hret : ∀ a ws k h' g' tk', AllBare g' → IntsAre ws (outsF none 4 ns) → (∀ q ∈ rest, q.1 < a) → Fr h₀ L h' m → News h₀ L h' ((a, listOf ws.toArray k) :: rest) → R (.ok (.ret (.ref a))) { s with heap := h', toks := tk', gens := g' }) : codeAny (model PySem.Challenge.rw_wn0028_02.prog w) (ktrTop dp un gd cn cs L a ccd cl []) (.call (.ref 127) ⟨[.ref l], []⟩) R s := told1.seg9.2 ⟨told1.all9⟩ w l its c ns hr hn0 hb9 hk9 loose mean mg mb rest dp un gd cn cs a ccd cl A₀ h₀ L m s R hm B F₀ X N₀ T hk hd hu hgs hret

end Mine
namespace Mine
theorem reset_told0 : True := by
  w_top off
  trivial
theorem allLt_mem {d : Nat} : ∀ {l : List (Addr × Obj)}, AllLt d l → ∀ p ∈ l, @LT.lt Nat _ p.1 d
  | [], _, _, h => nomatch h
  | q :: l, h, p, hp => by
    rcases List.mem_cons.mp hp with rfl | hp
    · exact h.1
    · exact allLt_mem h.2 p hp
namespace told0
set_option maxRecDepth 100000 in
set_option maxHeartbeats 4000000 in
noncomputable def seg9 : {p : PySem.World → PySem.Addr → (List PySem.Value) → Nat → PySem.Tok → (List PySem.Str) → (PySem.ExcName → Option PySem.Value) → (PySem.Str → Option PySem.Value) → (PySem.Str → Option PySem.Value) → (List (PySem.Addr × PySem.Obj)) → Nat → Nat → (Option (List PySem.Code)) → PySem.Str → PySem.Scope → PySem.Addr → PySem.Value → (List (PySem.Str × PySem.Addr)) → PySem.Heap → PySem.Addr → (PySem.Str → Option PySem.Value) → PySem.Shared → (PySem.Result → PySem.Shared → Prop) → PySem.Heap → PySem.Addr → PySem.Heap → Prop // Hid (∀ a0 a1 a2 a3 a4 a5 a6 a7 a8 a9 a10 a11 a12 a13 a14 a15 a16 a17 a18 a19 a20 a21 a22 a23 a24 a25, p a0 a1 a2 a3 a4 a5 a6 a7 a8 a9 a10 a11 a12 a13 a14 a15 a16 a17 a18 a19 a20 a21 a22 a23 a24 a25) → ∀ (w : World) (l : Addr) (its : List Value) (c : Nat) (t0 : Tok) (h0 : its[0]? = some (.int 0 t0)) (loose : List Str) (mean : ExcName → Option Value) (mg mb : Str → Option Value) (rest : List (Addr × Obj)) (dp un : Nat) (gd : Option (List Code)) (cn : Str) (cs : Scope) (a : Addr) (ccd : Value) (cl : List (Str × Addr)) (A₀ : Around) (h₀ : Heap) (L : Addr) (m : Str → Option Value) (s : Shared) (R : Result → Shared → Prop) (hm : (l, listOf its.toArray c) ∈ rest) (B : Below A₀ h₀ [] h₀) (F₀ : Fr h₀ L s.heap m) (X : (Mine.hd.heap_39 w.params).In h₀) (N₀ : News h₀ L s.heap rest) (T : Top PySem.W.topProg loose mean mg mb h₀) (hk : cs.kind = .function) (hd : dp + 4 < recursionLimit) (hu : un + 60 < cLine) (hgs : s.gens = #[]) (hret : ∀ a k tt h' tk', (∀ q ∈ rest, q.1 < a) → Fr h₀ L h' m → News h₀ L h' ((a, listOf #[.str (Str.ofString "invalid grouping") tt] k) :: rest) → R (.ok (.ret (.ref a))) { s with heap := h', toks := tk', gens := #[.finished] }), codeAny (model PySem.Challenge.rw_wn0028_02.prog w) (ktrTop dp un gd cn cs L a ccd cl []) (.call (.ref 127) ⟨[.ref l], []⟩) R s} := segOf (by
  intro ht9
  intro w l its c t0 h0 loose mean mg mb rest dp un gd cn cs a ccd cl A₀ h₀ L m s R hm B F₀ X N₀ T hk hd hu hgs hret
  k_with_none
  refine' code_defT ?k1 ?k2 ?k3 ?k4 ?k5 ?kA ?kF ?kK ?k6 ?k7 ?k8 ?k9 ?kB ?_ ?c5 ?c2 ?c3 ?c4
  case kA => exact rfl
  case kF => exact rfl
  case kK => assumption
  case k1 => k_asm
  case k2 => k_asm
  case k3 => k_asm
  case k4 => k_asm
  case k5 => k_asm
  case k6 => k_is
  case k7 => k_is
  case k8 => ktr_room
  case k9 => exact BindsTo.of_eq rfl
  case c5 => decide
  case kB => exact locs rfl
  case c2 => exact rfl
  case c3 => exact rfl
  case c4 => exact rfl
  intro g L1 h₁ FG F1 N1 B1 st l1 X1 T1
  clear A₀ B F₀ N₀ hk l1
  revert h0 hm X T hd hu hgs hret FG F1 N1 B1 st X1 T1
  exact ht9.out w l its c t0 loose mean mg mb rest dp un gd cn cs a ccd cl h₀ L m s R g L1 h₁
)
noncomputable def G9 (d : PySem.World × PySem.Addr × (List PySem.Value) × Nat × PySem.Tok × (List PySem.Str) × (PySem.ExcName → Option PySem.Value) × (PySem.Str → Option PySem.Value) × (PySem.Str → Option PySem.Value) × (List (PySem.Addr × PySem.Obj)) × Nat × Nat × (Option (List PySem.Code)) × PySem.Str × PySem.Scope × PySem.Addr × PySem.Value × (List (PySem.Str × PySem.Addr)) × PySem.Heap × PySem.Addr × (PySem.Str → Option PySem.Value) × PySem.Shared × (PySem.Result → PySem.Shared → Prop) × PySem.Heap × PySem.Addr × PySem.Heap) : Prop := seg9.1 d.1 d.2.1 d.2.2.1 d.2.2.2.1 d.2.2.2.2.1 d.2.2.2.2.2.1 d.2.2.2.2.2.2.1 d.2.2.2.2.2.2.2.1 d.2.2.2.2.2.2.2.2.1 d.2.2.2.2.2.2.2.2.2.1 d.2.2.2.2.2.2.2.2.2.2.1 d.2.2.2.2.2.2.2.2.2.2.2.1 d.2.2.2.2.2.2.2.2.2.2.2.2.1 d.2.2.2.2.2.2.2.2.2.2.2.2.2.1 d.2.2.2.2.2.2.2.2.2.2.2.2.2.2.1 d.2.2.2.2.2.2.2.2.2.2.2.2.2.2.2.1 d.2.2.2.2.2.2.2.2.2.2.2.2.2.2.2.2.1 d.2.2.2.2.2.2.2.2.2.2.2.2.2.2.2.2.2.1 d.2.2.2.2.2.2.2.2.2.2.2.2.2.2.2.2.2.2.1 d.2.2.2.2.2.2.2.2.2.2.2.2.2.2.2.2.2.2.2.1 d.2.2.2.2.2.2.2.2.2.2.2.2.2.2.2.2.2.2.2.2.1 d.2.2.2.2.2.2.2.2.2.2.2.2.2.2.2.2.2.2.2.2.2.1 d.2.2.2.2.2.2.2.2.2.2.2.2.2.2.2.2.2.2.2.2.2.2.1 d.2.2.2.2.2.2.2.2.2.2.2.2.2.2.2.2.2.2.2.2.2.2.2.1 d.2.2.2.2.2.2.2.2.2.2.2.2.2.2.2.2.2.2.2.2.2.2.2.2.1 d.2.2.2.2.2.2.2.2.2.2.2.2.2.2.2.2.2.2.2.2.2.2.2.2.2
noncomputable def tup9z : PySem.World × PySem.Addr × (List PySem.Value) × Nat × PySem.Tok × (List PySem.Str) × (PySem.ExcName → Option PySem.Value) × (PySem.Str → Option PySem.Value) × (PySem.Str → Option PySem.Value) × (List (PySem.Addr × PySem.Obj)) × Nat × Nat × (Option (List PySem.Code)) × PySem.Str × PySem.Scope × PySem.Addr × PySem.Value × (List (PySem.Str × PySem.Addr)) × PySem.Heap × PySem.Addr × (PySem.Str → Option PySem.Value) × PySem.Shared × (PySem.Result → PySem.Shared → Prop) × PySem.Heap × PySem.Addr × PySem.Heap := hen (World9, (0 : Nat), [], (0 : Nat), (0 : Nat), [], (fun _ => none), (fun _ => none), (fun _ => none), [], (0 : Nat), (0 : Nat), none, (default : Str), (default : Scope), (0 : Nat), (default : Value), [], (default : Heap), (0 : Nat), (fun _ => none), ({} : Shared), (fun _ => (fun _ => True)), (default : Heap), (0 : Nat), (default : Heap)) G9
noncomputable def w : PySem.World := tup9z.1
noncomputable def l : PySem.Addr := tup9z.2.1
noncomputable def its : List PySem.Value := tup9z.2.2.1
noncomputable def c : Nat := tup9z.2.2.2.1
noncomputable def t0 : PySem.Tok := tup9z.2.2.2.2.1
noncomputable def loose : List PySem.Str := tup9z.2.2.2.2.2.1
noncomputable def mean : PySem.ExcName → Option PySem.Value := tup9z.2.2.2.2.2.2.1
noncomputable def mg : PySem.Str → Option PySem.Value := tup9z.2.2.2.2.2.2.2.1
noncomputable def mb : PySem.Str → Option PySem.Value := tup9z.2.2.2.2.2.2.2.2.1
noncomputable def rest : List (PySem.Addr × PySem.Obj) := tup9z.2.2.2.2.2.2.2.2.2.1
noncomputable def dp : Nat := tup9z.2.2.2.2.2.2.2.2.2.2.1
noncomputable def un : Nat := tup9z.2.2.2.2.2.2.2.2.2.2.2.1
noncomputable def gd : Option (List PySem.Code) := tup9z.2.2.2.2.2.2.2.2.2.2.2.2.1
noncomputable def cn : PySem.Str := tup9z.2.2.2.2.2.2.2.2.2.2.2.2.2.1
noncomputable def cs : PySem.Scope := tup9z.2.2.2.2.2.2.2.2.2.2.2.2.2.2.1
noncomputable def a : PySem.Addr := tup9z.2.2.2.2.2.2.2.2.2.2.2.2.2.2.2.1
noncomputable def ccd : PySem.Value := tup9z.2.2.2.2.2.2.2.2.2.2.2.2.2.2.2.2.1
noncomputable def cl : List (PySem.Str × PySem.Addr) := tup9z.2.2.2.2.2.2.2.2.2.2.2.2.2.2.2.2.2.1
noncomputable def h₀ : PySem.Heap := tup9z.2.2.2.2.2.2.2.2.2.2.2.2.2.2.2.2.2.2.1
noncomputable def L : PySem.Addr := tup9z.2.2.2.2.2.2.2.2.2.2.2.2.2.2.2.2.2.2.2.1
noncomputable def m : PySem.Str → Option PySem.Value := tup9z.2.2.2.2.2.2.2.2.2.2.2.2.2.2.2.2.2.2.2.2.1
noncomputable def s : PySem.Shared := tup9z.2.2.2.2.2.2.2.2.2.2.2.2.2.2.2.2.2.2.2.2.2.1
noncomputable def R : PySem.Result → PySem.Shared → Prop := tup9z.2.2.2.2.2.2.2.2.2.2.2.2.2.2.2.2.2.2.2.2.2.2.1
noncomputable def g : PySem.Heap := tup9z.2.2.2.2.2.2.2.2.2.2.2.2.2.2.2.2.2.2.2.2.2.2.2.1
noncomputable def L1 : PySem.Addr := tup9z.2.2.2.2.2.2.2.2.2.2.2.2.2.2.2.2.2.2.2.2.2.2.2.2.1
noncomputable def h₁ : PySem.Heap := tup9z.2.2.2.2.2.2.2.2.2.2.2.2.2.2.2.2.2.2.2.2.2.2.2.2.2
set_option maxRecDepth 100000 in
set_option maxHeartbeats 4000000 in
theorem main9 : seg9.1 w l its c t0 loose mean mg mb rest dp un gd cn cs a ccd cl h₀ L m s R g L1 h₁ := by
  delta seg9 segOf
  dsimp -zeta only
  intro h0 hm X T hd hu hgs hret FG F1 N1 B1 st X1 T1
  k_with "exec For Name Call cons nil" => refine stop_in ?_
  k_steps
  refine stop_out ?_
  rename_i tl h2 F2 N2
  refine wpAny_For ?_
  k_with "call ref cons nil" => refine stop_in ?_
  k_steps
  refine stop_out ?_
  k_with_none
  refine wpAny_call ?_
  refine' code_gen ?k1 ?k2 ?k3 ?k4 ?k5 ?kA ?kF ?kK ?k6 ?k7 ?k8 ?k9 ?kB ?_ ?c5 ?c2 ?c3 ?c4
  case kA => exact rfl
  case kF => exact rfl
  case kK => exact rfl
  case k1 => exact B1
  case k2 => exact F2
  case k3 => exact X1
  case k4 => exact N2
  case k5 => exact T1
  case k6 => k_is
  case k7 => k_is
  case k8 => ktr_room
  case k9 => exact fun _ => BindsTo.of_eq rfl
  case c5 => decide
  case kB => exact locs rfl
  case c2 => exact rfl
  case c3 => exact rfl
  case c4 => exact rfl
  intro g2 L2 h3 G t u tk3 FG2 F3 N3 B3 st3 l3 lG F4 N4 X3 T3
  dsimp only
  refine wpAny_pyIter_gen (gen_is N4 (.head _)) ?_
  refine for_raises ?_
  refine pyNext_raises (T3.nolimit.keeps F3.keep) (by ktr_room) (gen_is N4 (.head _)) gen_last ?_
  rw [over_deeper, ktr_in1]
  have B5 : Below (ktrTop (dp + 1) (un + 3 + 1) gd (Str.ofString "_law_told") _ L1 127 (.ref 126) [] [envX cn cs L a ccd cl]) h₀ _ g2 := ⟨B3.stack, B3.stays, B3.frames⟩
  k_with "exec For Name Name cons nil" => refine stop_in ?_
  k_steps
  refine stop_out ?_
  rename_i h5 F5 N5
  k_with_none
  refine wpAny_For ?_
  k_with "pyIter ref" => refine stop_in ?_
  k_steps
  refine stop_out ?_
  refine for_list_first F5 N5 (List.mem_cons_of_mem _ (List.mem_cons_of_mem _ hm)) h0 rfl ?_
  intro h6 tk6 F6 N6
  clear F5
  k_with_none
  k_with "exec Raise some none" => refine stop_in ?_
  k_steps
  refine stop_out ?_
  refine Raise_madeB PySem.F.excCall_ValueError PySem.F.excRaise_ValueError rfl ?_
  k_steps
  rename_i h7 e7 M7
  refine raise_loop B5 (Heap.MadeExc.of M7) F6 N6 (Q := fun x _ s₂ => GenLeftBy G _ _ x s₂) ?_
  intro h8 t8 R8 U8
  obtain ⟨ob8, hob8, hcl8⟩ : ∃ ob, h8.get? _ = some ob ∧ ob.cls = _ := R8.toK.1.choose_spec.2.2.1.there
  have NG := R8.1.choose_spec.2.2.1 _ (.head _)
  refine ⟨_, ob8, _, rfl, hob8, hcl8, ?kS, ⟨_, _, _, R8.1.choose_spec.2.2.2.1.1 _ _ NG.1, rfl, rfl, rfl⟩, ?_⟩
  case kS => rw [isSubtype_type]; kernel_rfl
  refine' catch_loop (T' := "ValueError") ?R ?F ?K ?U ?XB ?TB ?D ?ex PyProof.Rows.Boot.«ValueError» ?hn PySem.F.isExc_ValueError PySem.F.notTuple_ValueError ?hs ?_ ?w1 ?w2 ?w3 ?w4
  case R => exact R8
  case F => exact FG2
  case K => exact B1
  case U => exact U8
  case XB => exact X
  case TB => exact T
  case D =>
    intro b hb
    obtain ⟨oL, es, ep, hL, hLd, _⟩ := FG.ns
    obtain rfl := List.mem_singleton.mp hb
    exact ⟨oL, es, ep, hL, hLd⟩
  case ex => k_is
  case hn => decide
  case hs => kts_sub
  case w1 => exact rfl
  case w2 => exact rfl
  case w3 => exact rfl
  case w4 => decide
  intro h9 g9 n9 tk9 T9 F9 N9 G9 M9 B9 X9 TT9
  clear F6 N6 F4 N4
  k_with_none
  k_steps
  rename_i le h10 F10 nw10 l10 h11 v11 F11 N11
  obtain ⟨FL, NL⟩ := leave_turn FG st T9 F11 N11
  refine Eq.mp (congrArg (R _) ?_) (hret le 0 tk h11 (tk9 + 1) (fun q hq => ?_) FL (news_of NL ?_))
  · simp only [Shared.setGen, hgs]
    rfl
  · exact allLt_mem l10.2.2 q hq
  · intro q hq
    rcases List.mem_cons.mp hq with rfl | hq
    · exact .head _
    · exact List.mem_cons_of_mem _ (List.mem_cons_of_mem _ (List.mem_cons_of_mem _ hq))

set_option maxRecDepth 100000 in
set_option maxHeartbeats 4000000 in
theorem all9 : ∀ a0 a1 a2 a3 a4 a5 a6 a7 a8 a9 a10 a11 a12 a13 a14 a15 a16 a17 a18 a19 a20 a21 a22 a23 a24 a25, seg9.1 a0 a1 a2 a3 a4 a5 a6 a7 a8 a9 a10 a11 a12 a13 a14 a15 a16 a17 a18 a19 a20 a21 a22 a23 a24 a25 := fun a0 a1 a2 a3 a4 a5 a6 a7 a8 a9 a10 a11 a12 a13 a14 a15 a16 a17 a18 a19 a20 a21 a22 a23 a24 a25 => hen_all (G := G9) main9 (a0, a1, a2, a3, a4, a5, a6, a7, a8, a9, a10, a11, a12, a13, a14, a15, a16, a17, a18, a19, a20, a21, a22, a23, a24, a25)
end told0
theorem told0 (w : World) (l : Addr) (its : List Value) (c : Nat) (t0 : Tok) (h0 : its[0]? = some (.int 0 t0)) (loose : List Str) (mean : ExcName → Option Value) (mg mb : Str → Option Value) (rest : List (Addr × Obj)) (dp un : Nat) (gd : Option (List Code)) (cn : Str) (cs : Scope) (a : Addr) (ccd : Value) (cl : List (Str × Addr)) (A₀ : Around) (h₀ : Heap) (L : Addr) (m : Str → Option Value) (s : Shared) (R : Result → Shared → Prop)
    (hm : (l, listOf its.toArray c) ∈ rest) (B : Below A₀ h₀ [] h₀) (F₀ : Fr h₀ L s.heap m) (X : (Mine.hd.heap_39 w.params).In h₀) (N₀ : News h₀ L s.heap rest) (T : Top PySem.W.topProg loose mean mg mb h₀) (hk : cs.kind = .function) (hd : dp + 4 < recursionLimit) (hu : un + 60 < cLine) (hgs : s.gens = #[])
    (hret : ∀ a k tt h' tk', (∀ q ∈ rest, q.1 < a) → Fr h₀ L h' m → News h₀ L h' ((a, listOf #[.str (Str.ofString "invalid grouping") tt] k) :: rest) → R (.ok (.ret (.ref a))) { s with heap := h', toks := tk', gens := #[.finished] }) : codeAny (model PySem.Challenge.rw_wn0028_02.prog w) (ktrTop dp un gd cn cs L a ccd cl []) (.call (.ref 127) ⟨[.ref l], []⟩) R s := told0.seg9.2 ⟨told0.all9⟩ w l its c t0 h0 loose mean mg mb rest dp un gd cn cs a ccd cl A₀ h₀ L m s R hm B F₀ X N₀ T hk hd hu hgs hret

end Mine
namespace Mine
theorem reset_told : True := by
  w_top off
  trivial
/-- what the ruler's told list holds -/
noncomputable def ToldIs (x y z : Int) (ws : List Value) : Prop :=
  (x = 127 → ws = []) ∧ (x = 0 → ∃ t, ws = [.str (Str.ofString "invalid grouping") t]) ∧
  (x ≠ 127 → x ≠ 0 → (y = 127 → IntsAre ws [x]) ∧ (y = 0 → IntsAre ws [x, x, x, x]) ∧
    (y ≠ 127 → y ≠ 0 → (z = 127 → IntsAre ws [x, y]) ∧ (z = 0 → IntsAre ws [x, y, y, y]) ∧ (z ≠ 127 → z ≠ 0 → IntsAre ws [x, y, z])))
theorem told_is {x y z : Int} {ws : List Value} (hx0 : x ≠ 0) (h : IntsAre ws (outsF none 4 [x, y, z])) : ToldIs x y z ws := by
  refine ⟨fun h1 => ?_, fun h1 => absurd h1 hx0, fun h1 _ => ⟨fun h2 => ?_, fun h2 => ?_, fun h2 h3 => ⟨fun h4 => ?_, fun h4 => ?_, fun h4 h5 => ?_⟩⟩⟩
  · rw [outsF, if_pos h1] at h; cases h; rfl
  · rw [outsF, if_neg h1, if_neg hx0, outsF, if_pos h2] at h; exact h
  · rw [outsF, if_neg h1, if_neg hx0, outsF, if_neg (by omega), if_pos h2] at h; exact h
  · rw [outsF, if_neg h1, if_neg hx0, outsF, if_neg h2, if_neg h3, outsF, if_pos h4] at h; exact h
  · rw [outsF, if_neg h1, if_neg hx0, outsF, if_neg h2, if_neg h3, outsF, if_neg (by omega), if_pos h4] at h; exact h
  · rw [outsF, if_neg h1, if_neg hx0, outsF, if_neg h2, if_neg h3, outsF, if_neg h4, if_neg h5] at h; exact h
set_option maxRecDepth 100000 in
set_option maxHeartbeats 8000000 in
/-- _law_told, called by the law itself -/
theorem told (w : World) (cn : Str) (cs : Scope) (hk : cs.kind = .function) (L fa : Addr) (ccd : Value) (c1 : Addr) (n1 : Str) (loose : List Str) (mean : ExcName → Option Value) (mg mb : Str → Option Value) (rest : List (Addr × Obj)) (h₀ : Heap) (m : Str → Option Value) (s : Shared) (Q E : Value → Shared → Prop)
    (l : Addr) (x y z : Int) (t1 t2 t3 : Tok) (c : Nat) (hx : 0 ≤ x ∧ x ≤ 127) (hy : 0 ≤ y ∧ y ≤ 127) (hz : 0 ≤ z ∧ z ≤ 127)
    (hm : (l, listOf #[.int x t1, .int y t2, .int z t3] c) ∈ rest) (F : Fr h₀ L s.heap m) (X : (Mine.hd.heap_39 w.params).In h₀) (N : News h₀ L s.heap rest) (T : Top PySem.W.topProg loose mean mg mb h₀) (hgs : s.gens = #[])
    (hret : ∀ a ws k h' g' tk', AllBare g' → ToldIs x y z ws.toList → (∀ q ∈ rest, @Ne Nat q.1 a) → Fr h₀ L h' m → News h₀ L h' ((a, listOf ws k) :: rest) → Q (.ref a) ⟨h', g', s.drawn, tk', s.os⟩) :
    wpAny (model PySem.Challenge.rw_wn0028_02.prog w) (callerA.deeper (envX cn cs L fa ccd [(n1, c1)])) (call (.ref 127) [.ref l]) Q E s := by
  by_cases hx0 : x = 0
  · subst hx0
    refine wpAny_call (told0 w l [.int 0 t1, .int y t2, .int z t3] c t1 rfl loose mean mg mb rest (1 + claimMargin + 1) (4 + 3) (some []) cn cs fa ccd [(n1, c1)] callerA h₀ L m s _ hm (below_caller h₀) F X N T hk (by decide +kernel) (by decide +kernel) hgs ?_)
    intro a k tt h' tk' lt F' N'
    exact hret a _ k h' _ tk' (PySem.W.X.allBare_of _ rfl) ⟨fun e => by omega, fun _ => ⟨tt, rfl⟩, fun _ e => absurd rfl e⟩ (fun q hq => Nat.ne_of_lt (lt q hq)) F' N'
  · refine wpAny_call (told1 w l [.int x t1, .int y t2, .int z t3] c [x, y, z] (.cons _ _ (.cons _ _ (.cons _ _ .nil))) (fun v r' e => by injection e with e1 _; rw [← e1]; exact hx0)
      (fun v hv => by simp only [List.mem_cons, List.not_mem_nil, or_false] at hv; omega) (Nat.le_succ 3) loose mean mg mb rest (1 + claimMargin + 1) (4 + 3) (some []) cn cs fa ccd [(n1, c1)] callerA h₀ L m s _ hm (below_caller h₀) F X N T hk (by decide +kernel) (by decide +kernel) hgs ?_)
    intro a ws k h' g' tk' hbg hws lt F' N'
    exact hret a _ k h' g' tk' hbg (told_is hx0 hws) (fun q hq => Nat.ne_of_lt (lt q hq)) F' N'

end Mine
namespace Mine
theorem reset_lawS : True := by
  w_top off
  trivial
set_option maxRecDepth 100000
/-- the law's own text -/
noncomputable def lawDef : Option (List Stmt × Scope) := match (PySem.Challenge.rw_wn0028_02.prog.main.body.getLast? : Option Stmt) with
  | some (.FunctionDef _ _ b _ _ _ s _ _ _) => some (b, s)
  | _ => none
noncomputable def lawB' : List Stmt := match lawDef with | some (b, _) => b | none => []
noncomputable def lawS' : Scope := match lawDef with | some (_, s) => s | none => default
noncomputable def lawSs : { x : Scope // lawS' = x } := by
  refine ⟨?_, ?h⟩; rotate_left
  conv => lhs; whnf
noncomputable def lawBs : { x : List Stmt // lawB' = x } := by
  refine ⟨?_, ?h⟩; rotate_left
  conv => lhs; whnf
noncomputable def lawT' : Expr := match (lawBs.1[13]? : Option Stmt) with | some (.Assign [t] _ _) => t | _ => .Tuple [] 0 default
noncomputable def lawTs : { x : Expr // lawT' = x } := by
  refine ⟨?_, ?h⟩; rotate_left
  conv => lhs; whnf

end Mine
namespace Mine
theorem reset_drawn2 : True := by
  w_top off
  trivial
theorem fmod_six (x : Int) : ∃ q : Nat, x.fmod ((10 : Int) ^ Int.toNat 6) = (q : Int) ∧ q < 10 ^ 6 := by
  refine ⟨(x.fmod 1000000).toNat, ?_, ?_⟩
  · show x.fmod 1000000 = _
    rw [Int.fmod_eq_emod_of_nonneg _ (by decide)]; omega
  · rw [Int.fmod_eq_emod_of_nonneg _ (by decide)]; omega
theorem drawn_four (ns : List Int) : ∃ a b c d : Nat, (((ns.take 4).filter fun _ => true).map fun x => x.fmod ((10 : Int) ^ Int.toNat 6)) ++ List.drop (((ns.take 4).length : Int)).toNat [0, 1, 0, 246810] = [(a : Int), (b : Int), (c : Int), (d : Int)] ∧ a < 10 ^ 6 ∧ b < 10 ^ 6 ∧ c < 10 ^ 6 ∧ d < 10 ^ 6 := by
  match ns with
  | [] => exact ⟨0, 1, 0, 246810, rfl, by decide, by decide, by decide, by decide⟩
  | [x] =>
    obtain ⟨a, e1, h1⟩ := fmod_six x
    exact ⟨a, 1, 0, 246810, by rw [← e1]; rfl, h1, by decide, by decide, by decide⟩
  | [x, y] =>
    obtain ⟨a, e1, h1⟩ := fmod_six x
    obtain ⟨b, e2, h2⟩ := fmod_six y
    exact ⟨a, b, 0, 246810, by rw [← e1, ← e2]; rfl, h1, h2, by decide, by decide⟩
  | [x, y, z] =>
    obtain ⟨a, e1, h1⟩ := fmod_six x
    obtain ⟨b, e2, h2⟩ := fmod_six y
    obtain ⟨c, e3, h3⟩ := fmod_six z
    exact ⟨a, b, c, 246810, by rw [← e1, ← e2, ← e3]; rfl, h1, h2, h3, by decide⟩
  | x :: y :: z :: u :: r =>
    obtain ⟨a, e1, h1⟩ := fmod_six x
    obtain ⟨b, e2, h2⟩ := fmod_six y
    obtain ⟨c, e3, h3⟩ := fmod_six z
    obtain ⟨d, e4, h4⟩ := fmod_six u
    exact ⟨a, b, c, d, by rw [← e1, ← e2, ← e3, ← e4]; rfl, h1, h2, h3, h4⟩
namespace drawnA
set_option maxRecDepth 100000 in
set_option maxHeartbeats 4000000 in
noncomputable def seg9 : {p : PySem.World → PySem.Addr → (List PySem.Value) → (List Int) → (List PySem.Str) → (PySem.ExcName → Option PySem.Value) → (PySem.Str → Option PySem.Value) → (PySem.Str → Option PySem.Value) → (List (PySem.Addr × PySem.Obj)) → Nat → Nat → (Option (List PySem.Code)) → PySem.Str → PySem.Scope → PySem.Addr → PySem.Value → (List (PySem.Str × PySem.Addr)) → (List PySem.Env) → PySem.Heap → PySem.Addr → (PySem.Str → Option PySem.Value) → PySem.Shared → (PySem.Result → PySem.Shared → Prop) → PySem.Heap → PySem.Addr → PySem.Heap → Prop // Hid (∀ a0 a1 a2 a3 a4 a5 a6 a7 a8 a9 a10 a11 a12 a13 a14 a15 a16 a17 a18 a19 a20 a21 a22 a23 a24 a25, p a0 a1 a2 a3 a4 a5 a6 a7 a8 a9 a10 a11 a12 a13 a14 a15 a16 a17 a18 a19 a20 a21 a22 a23 a24 a25) → ∀ (w : World) (l : Addr) (vs : List Value) (ns : List Int) (hI : IntsAre vs ns) (hz : ns.length ≤ 63), Ctr (fun h => h.IsList l vs.toArray) PySem.Challenge.rw_wn0028_02.prog w (Mine.hd.heap_39 w.params) PySem.W.topProg 2 30 82 [.ref l] [] (fun v led tl => led = [] ∧ ∃ f ws k a b c d, v = .ref f ∧ tl = [(f, listOf ws.toArray k)] ∧ IntsAre ws [((a : Nat) : Int), ((b : Nat) : Int), ((c : Nat) : Int), ((d : Nat) : Int)] ∧ a < 10 ^ 6 ∧ b < 10 ^ 6 ∧ c < 10 ^ 6 ∧ d < 10 ^ 6)} := segOf (by
   intro ht9
   intro w l vs ns hI hz
   intro loose mean mg mb rest dp un gd cn cs aa ccd cl outer A₀ base h₀ L m s R hpre hoff B F₀ X N₀ T hk hd hu hret
   simp only [List.nil_append] at N₀
   k_with_none
   k_dflt cell_enter
   have hl := stays_list (Fr.keep ‹Fr h₀ _ _ _›) hpre
   have hz0 : (0 : Int) ≤ (((ns.take 4).length : Nat) : Int) := Int.natCast_nonneg _
   rename_i z1 z2 z3 y4 y5 y6 y7 y8 y9
   clear A₀ base hpre hoff B F₀ N₀ hk hd hu y4 y7
   revert hI hz X T hret y5 y6 y8 y9 qk ek hl hz0
   exact ht9.out w l vs ns loose mean mg mb rest dp un gd cn cs aa ccd cl outer h₀ L m s R z1 z2 z3
)
noncomputable def G9 (d : PySem.World × PySem.Addr × (List PySem.Value) × (List Int) × (List PySem.Str) × (PySem.ExcName → Option PySem.Value) × (PySem.Str → Option PySem.Value) × (PySem.Str → Option PySem.Value) × (List (PySem.Addr × PySem.Obj)) × Nat × Nat × (Option (List PySem.Code)) × PySem.Str × PySem.Scope × PySem.Addr × PySem.Value × (List (PySem.Str × PySem.Addr)) × (List PySem.Env) × PySem.Heap × PySem.Addr × (PySem.Str → Option PySem.Value) × PySem.Shared × (PySem.Result → PySem.Shared → Prop) × PySem.Heap × PySem.Addr × PySem.Heap) : Prop := seg9.1 d.1 d.2.1 d.2.2.1 d.2.2.2.1 d.2.2.2.2.1 d.2.2.2.2.2.1 d.2.2.2.2.2.2.1 d.2.2.2.2.2.2.2.1 d.2.2.2.2.2.2.2.2.1 d.2.2.2.2.2.2.2.2.2.1 d.2.2.2.2.2.2.2.2.2.2.1 d.2.2.2.2.2.2.2.2.2.2.2.1 d.2.2.2.2.2.2.2.2.2.2.2.2.1 d.2.2.2.2.2.2.2.2.2.2.2.2.2.1 d.2.2.2.2.2.2.2.2.2.2.2.2.2.2.1 d.2.2.2.2.2.2.2.2.2.2.2.2.2.2.2.1 d.2.2.2.2.2.2.2.2.2.2.2.2.2.2.2.2.1 d.2.2.2.2.2.2.2.2.2.2.2.2.2.2.2.2.2.1 d.2.2.2.2.2.2.2.2.2.2.2.2.2.2.2.2.2.2.1 d.2.2.2.2.2.2.2.2.2.2.2.2.2.2.2.2.2.2.2.1 d.2.2.2.2.2.2.2.2.2.2.2.2.2.2.2.2.2.2.2.2.1 d.2.2.2.2.2.2.2.2.2.2.2.2.2.2.2.2.2.2.2.2.2.1 d.2.2.2.2.2.2.2.2.2.2.2.2.2.2.2.2.2.2.2.2.2.2.1 d.2.2.2.2.2.2.2.2.2.2.2.2.2.2.2.2.2.2.2.2.2.2.2.1 d.2.2.2.2.2.2.2.2.2.2.2.2.2.2.2.2.2.2.2.2.2.2.2.2.1 d.2.2.2.2.2.2.2.2.2.2.2.2.2.2.2.2.2.2.2.2.2.2.2.2.2
noncomputable def tup9z : PySem.World × PySem.Addr × (List PySem.Value) × (List Int) × (List PySem.Str) × (PySem.ExcName → Option PySem.Value) × (PySem.Str → Option PySem.Value) × (PySem.Str → Option PySem.Value) × (List (PySem.Addr × PySem.Obj)) × Nat × Nat × (Option (List PySem.Code)) × PySem.Str × PySem.Scope × PySem.Addr × PySem.Value × (List (PySem.Str × PySem.Addr)) × (List PySem.Env) × PySem.Heap × PySem.Addr × (PySem.Str → Option PySem.Value) × PySem.Shared × (PySem.Result → PySem.Shared → Prop) × PySem.Heap × PySem.Addr × PySem.Heap := hen (World9, (0 : Nat), [], [], [], (fun _ => none), (fun _ => none), (fun _ => none), [], (0 : Nat), (0 : Nat), none, (default : Str), (default : Scope), (0 : Nat), (default : Value), [], [], (default : Heap), (0 : Nat), (fun _ => none), ({} : Shared), (fun _ => (fun _ => True)), (default : Heap), (0 : Nat), (default : Heap)) G9
noncomputable def w : PySem.World := tup9z.1
noncomputable def l : PySem.Addr := tup9z.2.1
noncomputable def vs : List PySem.Value := tup9z.2.2.1
noncomputable def ns : List Int := tup9z.2.2.2.1
noncomputable def loose : List PySem.Str := tup9z.2.2.2.2.1
noncomputable def mean : PySem.ExcName → Option PySem.Value := tup9z.2.2.2.2.2.1
noncomputable def mg : PySem.Str → Option PySem.Value := tup9z.2.2.2.2.2.2.1
noncomputable def mb : PySem.Str → Option PySem.Value := tup9z.2.2.2.2.2.2.2.1
noncomputable def rest : List (PySem.Addr × PySem.Obj) := tup9z.2.2.2.2.2.2.2.2.1
noncomputable def dp : Nat := tup9z.2.2.2.2.2.2.2.2.2.1
noncomputable def un : Nat := tup9z.2.2.2.2.2.2.2.2.2.2.1
noncomputable def gd : Option (List PySem.Code) := tup9z.2.2.2.2.2.2.2.2.2.2.2.1
noncomputable def cn : PySem.Str := tup9z.2.2.2.2.2.2.2.2.2.2.2.2.1
noncomputable def cs : PySem.Scope := tup9z.2.2.2.2.2.2.2.2.2.2.2.2.2.1
noncomputable def aa : PySem.Addr := tup9z.2.2.2.2.2.2.2.2.2.2.2.2.2.2.1
noncomputable def ccd : PySem.Value := tup9z.2.2.2.2.2.2.2.2.2.2.2.2.2.2.2.1
noncomputable def cl : List (PySem.Str × PySem.Addr) := tup9z.2.2.2.2.2.2.2.2.2.2.2.2.2.2.2.2.1
noncomputable def outer : List PySem.Env := tup9z.2.2.2.2.2.2.2.2.2.2.2.2.2.2.2.2.2.1
noncomputable def h₀ : PySem.Heap := tup9z.2.2.2.2.2.2.2.2.2.2.2.2.2.2.2.2.2.2.1
noncomputable def L : PySem.Addr := tup9z.2.2.2.2.2.2.2.2.2.2.2.2.2.2.2.2.2.2.2.1
noncomputable def m : PySem.Str → Option PySem.Value := tup9z.2.2.2.2.2.2.2.2.2.2.2.2.2.2.2.2.2.2.2.2.1
noncomputable def s : PySem.Shared := tup9z.2.2.2.2.2.2.2.2.2.2.2.2.2.2.2.2.2.2.2.2.2.1
noncomputable def R : PySem.Result → PySem.Shared → Prop := tup9z.2.2.2.2.2.2.2.2.2.2.2.2.2.2.2.2.2.2.2.2.2.2.1
noncomputable def z1 : PySem.Heap := tup9z.2.2.2.2.2.2.2.2.2.2.2.2.2.2.2.2.2.2.2.2.2.2.2.1
noncomputable def z2 : PySem.Addr := tup9z.2.2.2.2.2.2.2.2.2.2.2.2.2.2.2.2.2.2.2.2.2.2.2.2.1
noncomputable def z3 : PySem.Heap := tup9z.2.2.2.2.2.2.2.2.2.2.2.2.2.2.2.2.2.2.2.2.2.2.2.2.2
set_option maxRecDepth 100000 in
set_option maxHeartbeats 4000000 in
theorem main9 : seg9.1 w l vs ns loose mean mg mb rest dp un gd cn cs aa ccd cl outer h₀ L m s R z1 z2 z3 := by
   delta seg9 segOf
   dsimp -zeta only
   intro hI hz X T hret y5 y6 y8 y9 qk ek hl hz0
   k_steps
   rename_i D1 ws1 h3 l1a hI1 hC1 hL1 D ys h2 hn hly hca nX iX lq h1 l1b D2 ws2 h4 F4 N4 hI2 hC2 hL2 l1c
   refine kmk_add_ints (by k_asm) (by k_asm) (by is_list) (by is_list) iX hI2 ?_ ?zq9
   case zq9 =>
     rw [sizeLine_eq]
     simp only [List.length_map, List.length_drop, List.length_take, List.length_cons, List.length_nil]
     have h9 := List.length_filter_le (fun _ => true) (List.take 4 ns)
     simp only [List.length_take] at h9
     omega
   intro D9 us h9 F9 N9 l9 hI9
   k_lt l9
   obtain ⟨a, b, c, d, e, p1, p2, p3, p4⟩ := drawn_four ns
   rw [e] at hI9
   k_steps
   refine hret _ [] [_] _ _ ⟨rfl, _, _, _, a, b, c, d, rfl, rfl, hI9, p1, p2, p3, p4⟩ (fun q hq p hp => ?_) (by k_asm) (news_of (by k_asm) (by (repeat' first | exact List.forall_mem_nil _ | refine mem_cons_all ?_ ?_ | exact sub_refl | refine sub_tail ?_ | k_mem)))
   rw [List.mem_singleton.mp hp]
   refine (?h : ∀ p ∈ rest, @LT.lt Nat _ p.1 _) q hq
   (first | exact raw_lt (by assumption) (by walk_at "le9") | exact allLt_lt' (by walk_at "and_r") (by walk_at "le9"))

set_option maxRecDepth 100000 in
set_option maxHeartbeats 4000000 in
theorem all9 : ∀ a0 a1 a2 a3 a4 a5 a6 a7 a8 a9 a10 a11 a12 a13 a14 a15 a16 a17 a18 a19 a20 a21 a22 a23 a24 a25, seg9.1 a0 a1 a2 a3 a4 a5 a6 a7 a8 a9 a10 a11 a12 a13 a14 a15 a16 a17 a18 a19 a20 a21 a22 a23 a24 a25 := fun a0 a1 a2 a3 a4 a5 a6 a7 a8 a9 a10 a11 a12 a13 a14 a15 a16 a17 a18 a19 a20 a21 a22 a23 a24 a25 => hen_all (G := G9) main9 (a0, a1, a2, a3, a4, a5, a6, a7, a8, a9, a10, a11, a12, a13, a14, a15, a16, a17, a18, a19, a20, a21, a22, a23, a24, a25)
end drawnA
theorem drawn2 (w : World) (l : Addr) (vs : List Value) (ns : List Int) (hI : IntsAre vs ns) (hz : ns.length ≤ 63) : Ctr (fun h => h.IsList l vs.toArray) PySem.Challenge.rw_wn0028_02.prog w (Mine.hd.heap_39 w.params) PySem.W.topProg 2 30 82 [.ref l] [] (fun v led tl => led = [] ∧ ∃ f ws k a b c d, v = .ref f ∧ tl = [(f, listOf ws.toArray k)] ∧ IntsAre ws [((a : Nat) : Int), ((b : Nat) : Int), ((c : Nat) : Int), ((d : Nat) : Int)] ∧ a < 10 ^ 6 ∧ b < 10 ^ 6 ∧ c < 10 ^ 6 ∧ d < 10 ^ 6) := drawnA.seg9.2 ⟨drawnA.all9⟩ w l vs ns hI hz

end Mine
namespace Mine
theorem reset_ruler2 : True := by
  w_top off
  trivial
noncomputable def rulerF2 (a b c : Nat) : List Nat := [([1, 2, 1, 2, 1, 2, 0, 127] : List Nat).getD (a % 8) 0, ([1, 2, 0, 2, 1, 127] : List Nat).getD (b % 6) 0, ([2, 1, 0, 1, 2, 127] : List Nat).getD (c % 6) 0]
theorem menu_int (l : List Nat) (n k : Nat) (hk : 0 < k) : (l.map fun (x : Nat) => (x : Int)).getD ((n : Int).fmod (k : Int)).toNat 0 = ((l.getD (n % k) 0 : Nat) : Int) := by
  have e : (n : Int).fmod (k : Int) = ((n % k : Nat) : Int) := by rw [Int.fmod_eq_emod_of_nonneg _ (by omega)]; omega
  rw [e, Int.toNat_natCast, List.getD_eq_getElem?_getD, List.getD_eq_getElem?_getD, List.getElem?_map]
  cases l[n % k]? <;> rfl
theorem ruler2_ints (a b c d : Nat) (t1 t2 t3 : Tok) : IntsAre [.int (([1, 2, 1, 2, 1, 2, 0, 127] : List Int).getD (([(a : Int), (b : Int), (c : Int), (d : Int)].getD (Int.toNat 0) 0).fmod 8).toNat 0) t1, .int (([1, 2, 0, 2, 1, 127] : List Int).getD (([(a : Int), (b : Int), (c : Int), (d : Int)].getD (Int.toNat 1) 0).fmod 6).toNat 0) t2, .int (([2, 1, 0, 1, 2, 127] : List Int).getD (([(a : Int), (b : Int), (c : Int), (d : Int)].getD (Int.toNat 2) 0).fmod 6).toNat 0) t3] ((rulerF2 a b c).map fun (x : Nat) => (x : Int)) := by
  rw [show ([(a : Int), (b : Int), (c : Int), (d : Int)].getD (Int.toNat 0) 0) = (a : Int) from rfl, show ([(a : Int), (b : Int), (c : Int), (d : Int)].getD (Int.toNat 1) 0) = (b : Int) from rfl, show ([(a : Int), (b : Int), (c : Int), (d : Int)].getD (Int.toNat 2) 0) = (c : Int) from rfl]
  rw [show (([1, 2, 1, 2, 1, 2, 0, 127] : List Int).getD ((a : Int).fmod 8).toNat 0) = _ from menu_int [1, 2, 1, 2, 1, 2, 0, 127] a 8 (by decide), show (([1, 2, 0, 2, 1, 127] : List Int).getD ((b : Int).fmod 6).toNat 0) = _ from menu_int [1, 2, 0, 2, 1, 127] b 6 (by decide), show (([2, 1, 0, 1, 2, 127] : List Int).getD ((c : Int).fmod 6).toNat 0) = _ from menu_int [2, 1, 0, 1, 2, 127] c 6 (by decide)]
  exact .cons _ _ (.cons _ _ (.cons _ _ .nil))
set_option maxRecDepth 100000 in
set_option maxHeartbeats 4000000 in
theorem ruler2 (w : World) (l : Addr) (ws : List Value) (kk : Nat) (a b c d : Nat) (hI : IntsAre ws [(a : Int), (b : Int), (c : Int), (d : Int)]) :
   CtrR PySem.Challenge.rw_wn0028_02.prog w (Mine.hd.heap_39 w.params) PySem.W.topProg 2 30 89 [.ref l] [(l, listOf ws.toArray kk)] (fun v tl => ∃ f ws k, v = .ref f ∧ tl = [(f, listOf ws.toArray k)] ∧ IntsAre ws ((rulerF2 a b c).map fun (x : Nat) => (x : Int))) := by
   intro loose mean mg mb rest dp un gd cn cs aa ccd cl outer A₀ base h₀ L m s R hled B F₀ X N₀ T hk hd hu hret
   have hm := hled _ (.head _)
   cases hI with | cons _ t1 hI =>
   cases hI with | cons _ t2 hI =>
   cases hI with | cons _ t3 hI =>
   cases hI with | cons _ t4 hI =>
   cases hI
   replace N₀ := news_of (l' := (l, listOf [.int (a : Int) t1, .int (b : Int) t2, .int (c : Int) t3, .int (d : Int) t4].toArray kk) :: rest) N₀ (List.forall_mem_cons.mpr ⟨hm, fun _ h => h⟩)
   k_with_none
   k_dflt cell_enter
   k_steps
   refine hret _ [_] _ _ ⟨_, [_, _, _], 0, rfl, rfl, ?_⟩ (fun q hq p hp => ?_) (by k_asm) (news_of (by k_asm) (by (repeat' first | exact List.forall_mem_nil _ | refine mem_cons_all ?_ ?_ | exact sub_refl | refine sub_tail ?_ | k_mem)))
   · exact ruler2_ints a b c d _ _ _
   · rw [List.mem_singleton.mp hp]
     refine (?h : ∀ p ∈ rest, @LT.lt Nat _ p.1 _) q hq
     (first | exact raw_lt (by assumption) (by walk_at "le9") | exact allLt_lt' (by walk_at "and_r") (by walk_at "le9"))

end Mine
namespace Mine
theorem reset_figures2 : True := by
  w_top off
  trivial
noncomputable def kindF (n d : Nat) : Nat := ([1, 1, 2, 15] : List Nat).getD (n / d % 4) 0
noncomputable def figsF2 (a b c : Nat) : List Nat := [kindF a 8, kindF b 6, kindF c 6]
theorem kind_int (n d : Nat) : ([1, 1, 2, 15] : List Int).getD (((n : Int).fdiv (d : Int)).fmod 4).toNat 0 = (kindF n d : Int) := by
  have e : (n : Int).fdiv (d : Int) = ((n / d : Nat) : Int) := by rw [Int.fdiv_eq_ediv_of_nonneg _ (by omega)]; simp
  rw [e]
  exact menu_int [1, 1, 2, 15] (n / d) 4 (by decide)
theorem fmod4 (z : Int) : 0 ≤ z.fmod 4 ∧ z.fmod 4 < (([1, 1, 2, 15] : List Int).length : Int) ∧ z.fmod 4 < 2 ^ 63 := by
  rw [Int.fmod_eq_emod_of_nonneg _ (by decide)]
  refine ⟨by omega, ?_, by omega⟩
  show z % 4 < 4
  omega
theorem figures2_ints (a b c d : Nat) (t1 t2 t3 : Tok) : IntsAre [.int (([1, 1, 2, 15] : List Int).getD ((([(a : Int), (b : Int), (c : Int), (d : Int)].getD (Int.toNat 0) 0).fdiv 8).fmod 4).toNat 0) t1, .int (([1, 1, 2, 15] : List Int).getD ((([(a : Int), (b : Int), (c : Int), (d : Int)].getD (Int.toNat 1) 0).fdiv 6).fmod 4).toNat 0) t2, .int (([1, 1, 2, 15] : List Int).getD ((([(a : Int), (b : Int), (c : Int), (d : Int)].getD (Int.toNat 2) 0).fdiv 6).fmod 4).toNat 0) t3] ((figsF2 a b c).map fun (x : Nat) => (x : Int)) := by
  rw [show ([(a : Int), (b : Int), (c : Int), (d : Int)].getD (Int.toNat 0) 0) = (a : Int) from rfl, show ([(a : Int), (b : Int), (c : Int), (d : Int)].getD (Int.toNat 1) 0) = (b : Int) from rfl, show ([(a : Int), (b : Int), (c : Int), (d : Int)].getD (Int.toNat 2) 0) = (c : Int) from rfl]
  rw [show (([1, 1, 2, 15] : List Int).getD (((a : Int).fdiv 8).fmod 4).toNat 0) = _ from kind_int a 8, show (([1, 1, 2, 15] : List Int).getD (((b : Int).fdiv 6).fmod 4).toNat 0) = _ from kind_int b 6, show (([1, 1, 2, 15] : List Int).getD (((c : Int).fdiv 6).fmod 4).toNat 0) = _ from kind_int c 6]
  exact .cons _ _ (.cons _ _ (.cons _ _ .nil))
set_option maxRecDepth 100000 in
set_option maxHeartbeats 4000000 in
theorem figures2 (w : World) (l : Addr) (ws : List Value) (kk : Nat) (a b c d : Nat) (hI : IntsAre ws [(a : Int), (b : Int), (c : Int), (d : Int)]) :
   CtrR PySem.Challenge.rw_wn0028_02.prog w (Mine.hd.heap_39 w.params) PySem.W.topProg 2 30 96 [.ref l] [(l, listOf ws.toArray kk)] (fun v tl => ∃ f ws k, v = .ref f ∧ tl = [(f, listOf ws.toArray k)] ∧ IntsAre ws ((figsF2 a b c).map fun (x : Nat) => (x : Int))) := by
   intro loose mean mg mb rest dp un gd cn cs aa ccd cl outer A₀ base h₀ L m s R hled B F₀ X N₀ T hk hd hu hret
   have hm := hled _ (.head _)
   cases hI with | cons _ t1 hI =>
   cases hI with | cons _ t2 hI =>
   cases hI with | cons _ t3 hI =>
   cases hI with | cons _ t4 hI =>
   cases hI
   replace N₀ := news_of (l' := (l, listOf [.int (a : Int) t1, .int (b : Int) t2, .int (c : Int) t3, .int (d : Int) t4].toArray kk) :: rest) N₀ (List.forall_mem_cons.mpr ⟨hm, fun _ h => h⟩)
   k_with_none
   k_with "subscriptTail Name BinOp ref int" => (with_unfolding_all refine' item_anyT (ns := [1, 1, 2, 15]) (News.isTup (by k_asm) (by k_mem)) (by l_ints) (fmod4 _).1 (fmod4 _).2.1 (fmod4 _).2.2 ?_; intro _)
   k_dflt cell_enter
   k_steps
   refine hret _ [_] _ _ ⟨_, [_, _, _], 0, rfl, rfl, ?_⟩ (fun q hq p hp => ?_) (by k_asm) (news_of (by k_asm) (by (repeat' first | exact List.forall_mem_nil _ | refine mem_cons_all ?_ ?_ | exact sub_refl | refine sub_tail ?_ | k_mem)))
   · exact figures2_ints a b c d _ _ _
   · rw [List.mem_singleton.mp hp]
     refine (?h : ∀ p ∈ rest, @LT.lt Nat _ p.1 _) q hq
     (first | exact raw_lt (by assumption) (by walk_at "le9") | exact allLt_lt' (by walk_at "and_r") (by walk_at "le9"))

end Mine
namespace Mine
theorem reset_int2ap : True := by
  w_top off
  trivial
namespace int2ap
set_option maxRecDepth 100000 in
set_option maxHeartbeats 4000000 in
noncomputable def seg9 : {p : PySem.World → Int → Nat → (List PySem.Str) → (PySem.ExcName → Option PySem.Value) → (PySem.Str → Option PySem.Value) → (PySem.Str → Option PySem.Value) → (List (PySem.Addr × PySem.Obj)) → Nat → Nat → (Option (List PySem.Code)) → PySem.Str → PySem.Scope → PySem.Addr → PySem.Value → (List (PySem.Str × PySem.Addr)) → (List PySem.Env) → PySem.Heap → PySem.Addr → (PySem.Str → Option PySem.Value) → PySem.Shared → (PySem.Result → PySem.Shared → Prop) → PySem.Heap → PySem.Addr → PySem.Heap → Nat → PySem.Heap → Nat → (PySem.Str → Option PySem.Value) → Int → PySem.Tok → (List UInt8) → PySem.Tok → PySem.Tok → Prop // Hid (∀ a0 a1 a2 a3 a4 a5 a6 a7 a8 a9 a10 a11 a12 a13 a14 a15 a16 a17 a18 a19 a20 a21 a22 a23 a24 a25 a26 a27 a28 a29 a30 a31 a32 a33, p a0 a1 a2 a3 a4 a5 a6 a7 a8 a9 a10 a11 a12 a13 a14 a15 a16 a17 a18 a19 a20 a21 a22 a23 a24 a25 a26 a27 a28 a29 a30 a31 a32 a33) → ∀ (w : World) (n : Int) (t : Tok) (J : Nat) (hJ : n.natAbs < 16^J) (hJ2 : J ≤ 1000), CtrR PySem.Challenge.rw_wn0028_02.prog w (Mine.hd.heap_39 w.params) PySem.W.topProg 1 8 21 [.int n t] [] (fun v tl => tl = [] ∧ ∃ tk, v = .bytes (apF J n.natAbs []).toArray tk)} := segOf (by
   intro ht9
   intro w n t J hJ hJ2
   intro loose mean mg mb rest dp un gd cn cs a ccd cl outer A₀ base h₀ L m s R hled B F₀ X N₀ T hk hd hu hret
   k_with_none
   k_dflt cell_enter
   (k_with "exec While Name cons nil" => (refine stop_in ?_))
   k_steps
   refine stop_out ?_
   refine while_st (σ := apSt) (env := envOf _ _ _ _ _) (fun x => [(Str.ofString "num", .int x.1 x.2.1), (Str.ofString "val", .bytes x.2.2.1.toArray x.2.2.2.1), (Str.ofString "AP", .bytes APs.toArray x.2.2.2.2)]) (fun _ => rest) (fun j x => 0 ≤ x.1 ∧ x.1.toNat < 16^j ∧ x.2.2.1.length + j ≤ 1000 ∧ apF j x.1.toNat x.2.2.1 = apF J n.natAbs []) J (_, _, [], _, _) (by assumption) (by assumption) ⟨rfl, rfl, rfl, trivial⟩ (fun p hp => hp) ?_ ?_
   · have e : ∀ (a : Int), (a = if n < 0 then -n else n) → 0 ≤ a ∧ a.toNat < 16^J ∧ ([] : List UInt8).length + J ≤ 1000 ∧ apF J a.toNat [] = apF J n.natAbs [] := by
       intro a ha
       have : a = n.natAbs := by rw [ha]; split <;> omega
       subst this
       exact ⟨by omega, by simpa using hJ, by simpa using hJ2, by simp⟩
     exact e _ rfl
   · intro j x h tk m₁ hok F N
     obtain ⟨i, ti, v, tv, ta⟩ := x
     obtain ⟨h0, h1, h2, h3⟩ := hok
     dsimp only at h0 h1 h2 h3 F N
     dsimp only [mB] at F
     have hz : (List.toArray v).size ≤ 1000 := by simp; omega
     rename_i z1 z2 z3 y4 y5 y6 y7 z8 z9 z10 z11 z12 z13 y14 y15 z16
     clear t hJ hJ2 A₀ base hled B F₀ N₀ hk hd hu z3 y4 y5 z8 z9 z10 z11 z12 y14 y15
     revert X T hret y6 y7 qk ek j N F h0 h1 h2 h3 hz
     exact ht9.out w n J loose mean mg mb rest dp un gd cn cs a ccd cl outer h₀ L m s R z1 z2 z13 z16 h tk m₁ i ti v tv ta
)
noncomputable def G9 (d : PySem.World × Int × Nat × (List PySem.Str) × (PySem.ExcName → Option PySem.Value) × (PySem.Str → Option PySem.Value) × (PySem.Str → Option PySem.Value) × (List (PySem.Addr × PySem.Obj)) × Nat × Nat × (Option (List PySem.Code)) × PySem.Str × PySem.Scope × PySem.Addr × PySem.Value × (List (PySem.Str × PySem.Addr)) × (List PySem.Env) × PySem.Heap × PySem.Addr × (PySem.Str → Option PySem.Value) × PySem.Shared × (PySem.Result → PySem.Shared → Prop) × PySem.Heap × PySem.Addr × PySem.Heap × Nat × PySem.Heap × Nat × (PySem.Str → Option PySem.Value) × Int × PySem.Tok × (List UInt8) × PySem.Tok × PySem.Tok) : Prop := seg9.1 d.1 d.2.1 d.2.2.1 d.2.2.2.1 d.2.2.2.2.1 d.2.2.2.2.2.1 d.2.2.2.2.2.2.1 d.2.2.2.2.2.2.2.1 d.2.2.2.2.2.2.2.2.1 d.2.2.2.2.2.2.2.2.2.1 d.2.2.2.2.2.2.2.2.2.2.1 d.2.2.2.2.2.2.2.2.2.2.2.1 d.2.2.2.2.2.2.2.2.2.2.2.2.1 d.2.2.2.2.2.2.2.2.2.2.2.2.2.1 d.2.2.2.2.2.2.2.2.2.2.2.2.2.2.1 d.2.2.2.2.2.2.2.2.2.2.2.2.2.2.2.1 d.2.2.2.2.2.2.2.2.2.2.2.2.2.2.2.2.1 d.2.2.2.2.2.2.2.2.2.2.2.2.2.2.2.2.2.1 d.2.2.2.2.2.2.2.2.2.2.2.2.2.2.2.2.2.2.1 d.2.2.2.2.2.2.2.2.2.2.2.2.2.2.2.2.2.2.2.1 d.2.2.2.2.2.2.2.2.2.2.2.2.2.2.2.2.2.2.2.2.1 d.2.2.2.2.2.2.2.2.2.2.2.2.2.2.2.2.2.2.2.2.2.1 d.2.2.2.2.2.2.2.2.2.2.2.2.2.2.2.2.2.2.2.2.2.2.1 d.2.2.2.2.2.2.2.2.2.2.2.2.2.2.2.2.2.2.2.2.2.2.2.1 d.2.2.2.2.2.2.2.2.2.2.2.2.2.2.2.2.2.2.2.2.2.2.2.2.1 d.2.2.2.2.2.2.2.2.2.2.2.2.2.2.2.2.2.2.2.2.2.2.2.2.2.1 d.2.2.2.2.2.2.2.2.2.2.2.2.2.2.2.2.2.2.2.2.2.2.2.2.2.2.1 d.2.2.2.2.2.2.2.2.2.2.2.2.2.2.2.2.2.2.2.2.2.2.2.2.2.2.2.1 d.2.2.2.2.2.2.2.2.2.2.2.2.2.2.2.2.2.2.2.2.2.2.2.2.2.2.2.2.1 d.2.2.2.2.2.2.2.2.2.2.2.2.2.2.2.2.2.2.2.2.2.2.2.2.2.2.2.2.2.1 d.2.2.2.2.2.2.2.2.2.2.2.2.2.2.2.2.2.2.2.2.2.2.2.2.2.2.2.2.2.2.1 d.2.2.2.2.2.2.2.2.2.2.2.2.2.2.2.2.2.2.2.2.2.2.2.2.2.2.2.2.2.2.2.1 d.2.2.2.2.2.2.2.2.2.2.2.2.2.2.2.2.2.2.2.2.2.2.2.2.2.2.2.2.2.2.2.2.1 d.2.2.2.2.2.2.2.2.2.2.2.2.2.2.2.2.2.2.2.2.2.2.2.2.2.2.2.2.2.2.2.2.2
noncomputable def tup9z : PySem.World × Int × Nat × (List PySem.Str) × (PySem.ExcName → Option PySem.Value) × (PySem.Str → Option PySem.Value) × (PySem.Str → Option PySem.Value) × (List (PySem.Addr × PySem.Obj)) × Nat × Nat × (Option (List PySem.Code)) × PySem.Str × PySem.Scope × PySem.Addr × PySem.Value × (List (PySem.Str × PySem.Addr)) × (List PySem.Env) × PySem.Heap × PySem.Addr × (PySem.Str → Option PySem.Value) × PySem.Shared × (PySem.Result → PySem.Shared → Prop) × PySem.Heap × PySem.Addr × PySem.Heap × Nat × PySem.Heap × Nat × (PySem.Str → Option PySem.Value) × Int × PySem.Tok × (List UInt8) × PySem.Tok × PySem.Tok := hen (World9, (0 : Int), (0 : Nat), [], (fun _ => none), (fun _ => none), (fun _ => none), [], (0 : Nat), (0 : Nat), none, (default : Str), (default : Scope), (0 : Nat), (default : Value), [], [], (default : Heap), (0 : Nat), (fun _ => none), ({} : Shared), (fun _ => (fun _ => True)), (default : Heap), (0 : Nat), (default : Heap), (0 : Nat), (default : Heap), (0 : Nat), (fun _ => none), (0 : Int), (0 : Nat), [], (0 : Nat), (0 : Nat)) G9
noncomputable def w : PySem.World := tup9z.1
noncomputable def n : Int := tup9z.2.1
noncomputable def J : Nat := tup9z.2.2.1
noncomputable def loose : List PySem.Str := tup9z.2.2.2.1
noncomputable def mean : PySem.ExcName → Option PySem.Value := tup9z.2.2.2.2.1
noncomputable def mg : PySem.Str → Option PySem.Value := tup9z.2.2.2.2.2.1
noncomputable def mb : PySem.Str → Option PySem.Value := tup9z.2.2.2.2.2.2.1
noncomputable def rest : List (PySem.Addr × PySem.Obj) := tup9z.2.2.2.2.2.2.2.1
noncomputable def dp : Nat := tup9z.2.2.2.2.2.2.2.2.1
noncomputable def un : Nat := tup9z.2.2.2.2.2.2.2.2.2.1
noncomputable def gd : Option (List PySem.Code) := tup9z.2.2.2.2.2.2.2.2.2.2.1
noncomputable def cn : PySem.Str := tup9z.2.2.2.2.2.2.2.2.2.2.2.1
noncomputable def cs : PySem.Scope := tup9z.2.2.2.2.2.2.2.2.2.2.2.2.1
noncomputable def a : PySem.Addr := tup9z.2.2.2.2.2.2.2.2.2.2.2.2.2.1
noncomputable def ccd : PySem.Value := tup9z.2.2.2.2.2.2.2.2.2.2.2.2.2.2.1
noncomputable def cl : List (PySem.Str × PySem.Addr) := tup9z.2.2.2.2.2.2.2.2.2.2.2.2.2.2.2.1
noncomputable def outer : List PySem.Env := tup9z.2.2.2.2.2.2.2.2.2.2.2.2.2.2.2.2.1
noncomputable def h₀ : PySem.Heap := tup9z.2.2.2.2.2.2.2.2.2.2.2.2.2.2.2.2.2.1
noncomputable def L : PySem.Addr := tup9z.2.2.2.2.2.2.2.2.2.2.2.2.2.2.2.2.2.2.1
noncomputable def m : PySem.Str → Option PySem.Value := tup9z.2.2.2.2.2.2.2.2.2.2.2.2.2.2.2.2.2.2.2.1
noncomputable def s : PySem.Shared := tup9z.2.2.2.2.2.2.2.2.2.2.2.2.2.2.2.2.2.2.2.2.1
noncomputable def R : PySem.Result → PySem.Shared → Prop := tup9z.2.2.2.2.2.2.2.2.2.2.2.2.2.2.2.2.2.2.2.2.2.1
noncomputable def z1 : PySem.Heap := tup9z.2.2.2.2.2.2.2.2.2.2.2.2.2.2.2.2.2.2.2.2.2.2.1
noncomputable def z2 : PySem.Addr := tup9z.2.2.2.2.2.2.2.2.2.2.2.2.2.2.2.2.2.2.2.2.2.2.2.1
noncomputable def z13 : PySem.Heap := tup9z.2.2.2.2.2.2.2.2.2.2.2.2.2.2.2.2.2.2.2.2.2.2.2.2.1
noncomputable def z16 : Nat := tup9z.2.2.2.2.2.2.2.2.2.2.2.2.2.2.2.2.2.2.2.2.2.2.2.2.2.1
noncomputable def h : PySem.Heap := tup9z.2.2.2.2.2.2.2.2.2.2.2.2.2.2.2.2.2.2.2.2.2.2.2.2.2.2.1
noncomputable def tk : Nat := tup9z.2.2.2.2.2.2.2.2.2.2.2.2.2.2.2.2.2.2.2.2.2.2.2.2.2.2.2.1
noncomputable def m₁ : PySem.Str → Option PySem.Value := tup9z.2.2.2.2.2.2.2.2.2.2.2.2.2.2.2.2.2.2.2.2.2.2.2.2.2.2.2.2.1
noncomputable def i : Int := tup9z.2.2.2.2.2.2.2.2.2.2.2.2.2.2.2.2.2.2.2.2.2.2.2.2.2.2.2.2.2.1
noncomputable def ti : PySem.Tok := tup9z.2.2.2.2.2.2.2.2.2.2.2.2.2.2.2.2.2.2.2.2.2.2.2.2.2.2.2.2.2.2.1
noncomputable def v : List UInt8 := tup9z.2.2.2.2.2.2.2.2.2.2.2.2.2.2.2.2.2.2.2.2.2.2.2.2.2.2.2.2.2.2.2.1
noncomputable def tv : PySem.Tok := tup9z.2.2.2.2.2.2.2.2.2.2.2.2.2.2.2.2.2.2.2.2.2.2.2.2.2.2.2.2.2.2.2.2.1
noncomputable def ta : PySem.Tok := tup9z.2.2.2.2.2.2.2.2.2.2.2.2.2.2.2.2.2.2.2.2.2.2.2.2.2.2.2.2.2.2.2.2.2
set_option maxRecDepth 100000 in
set_option maxHeartbeats 4000000 in
theorem main9 : seg9.1 w n J loose mean mg mb rest dp un gd cn cs a ccd cl outer h₀ L m s R z1 z2 z13 z16 h tk m₁ i ti v tv ta := by
     delta seg9 segOf
     dsimp -zeta only
     intro X T hret y6 y7 qk ek j N F h0 h1 h2 h3 hz
     (k_with "subscriptTail Name Slice bytes ref" => ((with_reducible rename Fr _ _ _ _ => F'); (with_reducible rename News _ _ _ _ => N'); (refine KBc.slice_K (s := ⟨_, _, _, _, _⟩) F' N' (ks := KBw.bInts APs.toArray) rfl (by constructor) (by constructor) (by decide) ?_); intro _ _ _ _ _ _; rw [ap_pick _ (by assumption)]))
     (k_with "binaryOp Add bytes bytes" => (refine bytes_add_K (by simp only [List.size_toArray, List.length_cons, List.length_nil] at *; omega) rfl ?_; intro _ _))
     k_steps
     · refine TurnEnd.mk (j-1) (_, _, _, _, _) ?_ (by assumption) (by assumption) ⟨rfl, rfl, rfl, trivial⟩ (fun p hp => by first | exact hp | exact List.mem_cons_of_mem _ hp) ?_
       · have : j ≠ 0 := by rintro rfl; simp at h1; omega
         omega
       · have hj : j ≠ 0 := by rintro rfl; simp at h1; omega
         obtain ⟨j', rfl⟩ : ∃ j', j = j' + 1 := ⟨j - 1, by omega⟩
         refine ⟨by have := Int.fdiv_eq_ediv_of_nonneg i (b := 16) (by decide); show 0 ≤ i.fdiv 16; omega, ?_, ?_, ?_⟩
         · have := Int.fdiv_eq_ediv_of_nonneg i (b := 16) (by decide)
           show (i.fdiv 16).toNat < 16 ^ j'
           have e : (i.fdiv 16).toNat = i.toNat / 16 := by rw [this]; omega
           rw [e]; rw [Nat.pow_succ] at h1; omega
         · show (UInt8.ofNat (65 + i.toNat % 16) :: v).length + j' ≤ 1000
           simp only [List.length_cons]; omega
         · exact (ap_next i h0 (by assumption) j' v).symm.trans h3
     · have e : apF j i.toNat v = v := by
         have : i.toNat = 0 := by omega
         rw [this]; cases j <;> simp [apF]
       rw [← h3, e] at hret
       exact hret _ [] _ _ ⟨rfl, _, rfl⟩ (fun _ _ _ h => nomatch h) (by assumption) (by assumption)

set_option maxRecDepth 100000 in
set_option maxHeartbeats 4000000 in
theorem all9 : ∀ a0 a1 a2 a3 a4 a5 a6 a7 a8 a9 a10 a11 a12 a13 a14 a15 a16 a17 a18 a19 a20 a21 a22 a23 a24 a25 a26 a27 a28 a29 a30 a31 a32 a33, seg9.1 a0 a1 a2 a3 a4 a5 a6 a7 a8 a9 a10 a11 a12 a13 a14 a15 a16 a17 a18 a19 a20 a21 a22 a23 a24 a25 a26 a27 a28 a29 a30 a31 a32 a33 := fun a0 a1 a2 a3 a4 a5 a6 a7 a8 a9 a10 a11 a12 a13 a14 a15 a16 a17 a18 a19 a20 a21 a22 a23 a24 a25 a26 a27 a28 a29 a30 a31 a32 a33 => hen_all (G := G9) main9 (a0, a1, a2, a3, a4, a5, a6, a7, a8, a9, a10, a11, a12, a13, a14, a15, a16, a17, a18, a19, a20, a21, a22, a23, a24, a25, a26, a27, a28, a29, a30, a31, a32, a33)
end int2ap
theorem int2ap (w : World) (n : Int) (t : Tok) (J : Nat) (hJ : n.natAbs < 16^J) (hJ2 : J ≤ 1000) : CtrR PySem.Challenge.rw_wn0028_02.prog w (Mine.hd.heap_39 w.params) PySem.W.topProg 1 8 21 [.int n t] [] (fun v tl => tl = [] ∧ ∃ tk, v = .bytes (apF J n.natAbs []).toArray tk) := int2ap.seg9.2 ⟨int2ap.all9⟩ w n t J hJ hJ2

end Mine
namespace Mine
theorem reset_word : True := by
  w_top off
  trivial
set_option maxRecDepth 100000 in
set_option maxHeartbeats 4000000 in
theorem word (w : World) (n : Int) (t : Tok) (J : Nat) (hJ : n.natAbs < 16^J) (hJ2 : J ≤ 1000) :
   CtrR PySem.Challenge.rw_wn0028_02.prog w (Mine.hd.heap_39 w.params) PySem.W.topProg 2 30 101 [.int n t] [] (fun v tl => tl = [] ∧ ∃ y tk, v = .str y tk ∧ y.cps.toList = (apF J n.natAbs []).map (·.toNat)) := by
   intro loose mean mg mb rest dp un gd cn cs a ccd cl outer A₀ base h₀ L m s R hled B F₀ X N₀ T hk hd hu hret
   k_with_none
   k_with "call ref cons nil" => (refine' CtrR.use (int2ap _ _ _ J hJ hJ2) ?kl ?k1 ?k2 ?k3 ?k4 ?k5 ?kK ?kd ?ku ?_; ((case kl => (repeat' first | exact List.forall_mem_nil _ | refine mem_cons_all ?_ ?_ | exact sub_refl | refine sub_tail ?_ | k_mem)); (case k1 => k_asm); (case k2 => k_asm); (case k3 => k_asm); (case k4 => k_asm); (case k5 => k_asm); (case kK => first | exact rfl | assumption); (case kd => ktr_room); (case ku => ktr_units)); intro v9 tl9 h9 tk9 hp9 hlt9 F9 N9; obtain ⟨rfl, tk8, rfl⟩ := hp9; dsimp only)
   k_with "eval ListComp" => refine stop_in ?_
   k_dflt cell_enter
   k_steps
   refine stop_out ?_
   refine ListComp_S (F₀ := by k_asm) (by with_unfolding_all rfl) (by decide) (by rfl) (by decide) (by rfl) ?_
   k_steps
   refine SrcTB.bytes rfl (by k_asm) (by k_asm) ?_ (fun g => compRest_ind (fun i ys news => news = rest ∧ StrsAre ys (((apF J n.natAbs []).take i).map fun c => ⟨#[c.toNat]⟩)) ?_ ?_ _ 0 [] _ (Nat.zero_add _).symm ?_)
   · have := apF_len J n.natAbs []
     rw [List.size_toArray, sizeLine_eq]; simp only [List.length_nil] at this; omega
   · intro i ys news v I oI C oC D m₂ h tk E' hi hj hP hC hx F' N' off ne
     obtain ⟨rfl, hs⟩ := hj
     obtain ⟨c, u, hc, rfl⟩ := hP
     have hb := c.toNat_lt
     k_steps
     refine CompEnd.intro (by k_asm) (by k_asm) news (fun p hp => hp) off trivial ⟨rfl, ?_⟩
     have hc' : (apF J n.natAbs [])[i]? = some c := by simpa using hc
     rw [List.take_add_one, hc', List.map_append]
     exact KStt.strs_snoc hs
   · intro ys news hj
     obtain ⟨rfl, hs⟩ := hj
     k_steps
     have hz := apF_len J n.natAbs []
     rw [show (apF J n.natAbs []).toArray.size = (apF J n.natAbs []).length by simp, List.take_length] at hs
     refine join_list (by is_list) hs ?_ ?_
     · rw [len_ones]; simp only [List.length_nil, List.length_map] at *
       show _ + _ * 0 ≤ _
       omega
     · intro t' k
       k_steps
       exact hret _ [] _ _ ⟨rfl, _, _, rfl, glue_ones _⟩ (fun _ _ _ h => nomatch h) (by k_asm) (news_of (by k_asm) fun p hp => List.mem_cons_of_mem _ hp)
   · exact ⟨rfl, .nil⟩

end Mine
namespace Mine
theorem reset_lam : True := by
  w_top off
  trivial
set_option maxRecDepth 100000
/-- the lambda that the reader lays into its source -/
noncomputable def lamE : Expr := match (PySem.Challenge.rw_wn0028_02.prog.main.body[14]? : Option Stmt) with
  | some (.FunctionDef _ _ (_ :: _ :: _ :: .Assign _ e _ :: _) _ _ _ _ _ _ _) => e
  | _ => .Tuple [] 0 default
noncomputable def lamP' : Arguments := match lamE with | .Lambda a _ _ _ => a | _ => ⟨[], [], none, [], [], none, []⟩
noncomputable def lamB' : Expr := match lamE with | .Lambda _ b _ _ => b | _ => .Tuple [] 0 default
noncomputable def lamS' : Scope := match lamE with | .Lambda _ _ s _ => s | _ => default
noncomputable def lamPs : { x : Arguments // lamP' = x } := by
  refine ⟨?_, ?h⟩; rotate_left
  conv => lhs; whnf
noncomputable def lamBs : { x : Expr // lamB' = x } := by
  refine ⟨?_, ?h⟩; rotate_left
  conv => lhs; whnf
noncomputable def lamSs : { x : Scope // lamS' = x } := by
  refine ⟨?_, ?h⟩; rotate_left
  conv => lhs; whnf

end Mine
namespace Mine
theorem reset_lex : True := by
  w_top off
  trivial
noncomputable def lamQ : Str := Str.ofString "_law_reader" ++ ".<locals>." ++ Str.ofString "<lambda>"
noncomputable abbrev dE (w : World) (k : Str) (t : Tok) (v : Value) : DictEntry := { hash := PyData.keyHash w.params k, key := .str k t, val := v }
noncomputable abbrev one (c : Nat) : Str := ⟨#[c]⟩
structure LexP where
  (x d pb f c x1 d1 sg ce pb1 : Nat)
  (t1 t2 t3 t4 tw u1 u2 u3 u4 u5 v1 vw : Tok)
  (ct pm : Value) (oc oC : Obj) (vs : Array Value) (tq : Tok)
structure LexP.Ok (P : LexP) : Prop where
  ord : P.ce < P.sg ∧ P.sg < P.d1 ∧ P.d1 < P.x1 ∧ P.x1 < P.c ∧ P.c < P.f ∧ P.f < P.d ∧ P.d < P.x ∧ P.x < P.pb
  code : P.oc.data = .fields P.vs
  name : P.vs[1]? = some (.str lamQ P.tq)
  cell : P.oC.data = .cell (some (.ref P.sg))
noncomputable def lexLed (w : World) (P : LexP) (ln : Int) (tl : Tok) (sv : List Value) (se : Nat) (qv : List Value) (qe : Nat) : List (Addr × Obj) :=
  [(P.pb, listOf qv.toArray qe), (P.x, instObj 73 P.d),
   (P.d, dictOf [dE w (Str.ofString "lineno") P.t1 (.int ln tl), dE w (Str.ofString "instream") P.t2 (.ref P.x1), dE w (Str.ofString "whitespace") P.t3 (.str (Str.ofString "\n\t\x0d ") P.tw), dE w (Str.ofString "pushback") P.t4 (.ref P.pb)] 4),
   (P.f, kla_obj (Str.ofString "<lambda>") lamQ lamPs.1 lamBs.1 lamSs.1 [(Str.ofString "signs", P.ce)] P.pm P.c P.ct), (P.c, P.oc), (P.x1, instObj 73 P.d1),
   (P.d1, dictOf [dE w (Str.ofString "lineno") P.u1 (.int 1 P.v1), dE w (Str.ofString "instream") P.u2 .none, dE w (Str.ofString "whitespace") P.u3 (.str (Str.ofString "\n\t\x0d ") P.vw), dE w (Str.ofString "pushback") P.u4 (.ref P.pb1), dE w (Str.ofString "read") P.u5 (.ref P.f)] 5),
   (P.sg, listOf sv.toArray se), (P.ce, P.oC)]
/-- the lexer between its calls: its line, what is left to read, what was pushed back -/
noncomputable def LexSt (w : World) (P : LexP) (ln : Int) (rem : List Nat) (qv : List Value) (qe : Nat) (led : List (Addr × Obj)) : Prop :=
  ∃ tl sv se, StrsAre sv (rem.map one).reverse ∧ led = lexLed w P ln tl sv se qv qe

/-- none of the lexer's own objects stands in a ledger -/
noncomputable def LexP.Off (P : LexP) (rest : List (Addr × Obj)) : Prop := ∀ q ∈ rest, @Ne Nat q.1 P.pb ∧ @Ne Nat q.1 P.x ∧ @Ne Nat q.1 P.d ∧ @Ne Nat q.1 P.f ∧ @Ne Nat q.1 P.c ∧ @Ne Nat q.1 P.x1 ∧ @Ne Nat q.1 P.d1 ∧ @Ne Nat q.1 P.sg ∧ @Ne Nat q.1 P.ce
noncomputable def offs (P : LexP) (a : Nat) : Prop := @Ne Nat a P.pb ∧ @Ne Nat a P.x ∧ @Ne Nat a P.d ∧ @Ne Nat a P.f ∧ @Ne Nat a P.c ∧ @Ne Nat a P.x1 ∧ @Ne Nat a P.d1 ∧ @Ne Nat a P.sg ∧ @Ne Nat a P.ce
theorem offs_above {P : LexP} (ok : P.Ok) {a : Nat} (k1 : P.pb < a) : offs P a := by
  obtain ⟨o1, o2, o3, o4, o5, o6, o7, o8⟩ := ok.ord
  have k2 := Nat.lt_trans o8 k1
  have k3 := Nat.lt_trans o7 k2
  have k4 := Nat.lt_trans o6 k3
  have k5 := Nat.lt_trans o5 k4
  have k6 := Nat.lt_trans o4 k5
  have k7 := Nat.lt_trans o3 k6
  have k8 := Nat.lt_trans o2 k7
  exact ⟨Nat.ne_of_gt k1, Nat.ne_of_gt k2, Nat.ne_of_gt k3, Nat.ne_of_gt k4, Nat.ne_of_gt k5, Nat.ne_of_gt k6, Nat.ne_of_gt k7, Nat.ne_of_gt k8, Nat.ne_of_gt (Nat.lt_trans o1 k8)⟩
theorem offs_below {P : LexP} (ok : P.Ok) {a : Nat} (k1 : a < P.ce) : offs P a := by
  obtain ⟨o1, o2, o3, o4, o5, o6, o7, o8⟩ := ok.ord
  have k2 := Nat.lt_trans k1 o1
  have k3 := Nat.lt_trans k2 o2
  have k4 := Nat.lt_trans k3 o3
  have k5 := Nat.lt_trans k4 o4
  have k6 := Nat.lt_trans k5 o5
  have k7 := Nat.lt_trans k6 o6
  have k8 := Nat.lt_trans k7 o7
  exact ⟨Nat.ne_of_lt (Nat.lt_trans k8 o8), Nat.ne_of_lt k8, Nat.ne_of_lt k7, Nat.ne_of_lt k6, Nat.ne_of_lt k5, Nat.ne_of_lt k4, Nat.ne_of_lt k3, Nat.ne_of_lt k2, Nat.ne_of_lt k1⟩
theorem LexP.Off.cons {P : LexP} {rest : List (Addr × Obj)} {a : Nat} {o : Obj} (h : P.Off rest) (ok : P.Ok) (ha : P.pb < a) : P.Off ((a, o) :: rest) := by
  intro q hq
  rcases List.mem_cons.mp hq with rfl | hq
  · exact offs_above ok ha
  · exact h q hq
theorem LexP.Off.of {w : World} {P : LexP} {ln : Int} {tl : Tok} {sv : List Value} {se : Nat} {qv : List Value} {qe : Nat} {rest : List (Addr × Obj)} (h : ∀ p ∈ lexLed w P ln tl sv se qv qe, ∀ q ∈ rest, q.1 ≠ p.1) : P.Off rest :=
  fun q hq => ⟨h _ (.head _) q hq, h _ (.tail _ (.head _)) q hq, h _ (.tail _ (.tail _ (.head _))) q hq, h _ (.tail _ (.tail _ (.tail _ (.head _)))) q hq, h _ (.tail _ (.tail _ (.tail _ (.tail _ (.head _))))) q hq, h _ (.tail _ (.tail _ (.tail _ (.tail _ (.tail _ (.head _)))))) q hq, h _ (.tail _ (.tail _ (.tail _ (.tail _ (.tail _ (.tail _ (.head _))))))) q hq, h _ (.tail _ (.tail _ (.tail _ (.tail _ (.tail _ (.tail _ (.tail _ (.head _)))))))) q hq, h _ (.tail _ (.tail _ (.tail _ (.tail _ (.tail _ (.tail _ (.tail _ (.tail _ (.head _))))))))) q hq⟩
theorem all_cons {α : Type} {p : α → Prop} {a : α} {l : List α} (h : p a) (t : ∀ x ∈ l, p x) : ∀ x ∈ a :: l, p x := List.forall_mem_cons.mpr ⟨h, t⟩
theorem LexP.Off.to {w : World} {P : LexP} {ln : Int} {tl : Tok} {sv : List Value} {se : Nat} {qv : List Value} {qe : Nat} {rest : List (Addr × Obj)} (h : P.Off rest) : ∀ p ∈ lexLed w P ln tl sv se qv qe, ∀ q ∈ rest, q.1 ≠ p.1 :=
  all_cons (fun q hq => (h q hq).1) (all_cons (fun q hq => (h q hq).2.1) (all_cons (fun q hq => (h q hq).2.2.1) (all_cons (fun q hq => (h q hq).2.2.2.1) (all_cons (fun q hq => (h q hq).2.2.2.2.1) (all_cons (fun q hq => (h q hq).2.2.2.2.2.1) (all_cons (fun q hq => (h q hq).2.2.2.2.2.2.1) (all_cons (fun q hq => (h q hq).2.2.2.2.2.2.2.1) (all_cons (fun q hq => (h q hq).2.2.2.2.2.2.2.2) (List.forall_mem_nil _)))))))))
/-- the line behind the next sign -/
noncomputable def lnAft (rem : List Nat) (ln : Int) : Int := if rem.head? = some 10 then ln + 1 else ln
theorem one_inj {a b : Nat} (h : one a = one b) : a = b := by
  have := congrArg (fun x : Str => x.cps.toList) h
  simpa using this
theorem nl_one : Str.ofString "\n" = one 10 := by decide +kernel
theorem one_nl (c : Nat) : (one c == Str.ofString "\n") = decide (c = 10) := by
  rw [nl_one]
  by_cases h : c = 10
  · subst h; simp
  · rw [decide_eq_false h]
    have : one c ≠ one 10 := fun e => h (one_inj e)
    simpa using this

/-- the sign that is read next -/
noncomputable def chOf : List Nat → Str
  | [] => Str.ofString ""
  | c :: _ => one c
noncomputable def isWs (c : Nat) : Bool := c == 10 || c == 9 || c == 13 || c == 32
theorem ws_list : (Str.ofString "\n\t\x0d ").cps.toList = [10, 9, 13, 32] := by decide +kernel
theorem contains_ws (c : Nat) : Txt.contains (Str.ofString "\n\t\x0d ") (one c) = isWs c := by
  show (!(Builtin.Str.occurrences _ ⟨#[c]⟩ 0 _ 1).isEmpty) = _
  rw [StrLaws.found_one, ws_list]
  rw [Bool.eq_iff_iff]
  simp [isWs, or_assoc]
theorem q_one : Str.ofString "\"" = one 34 := by decide +kernel
theorem b_one : Str.ofString "\\" = one 92 := by decide +kernel
theorem one_beq (a b : Nat) : (one a == one b) = decide (a = b) := by
  by_cases h : a = b
  · subst h; simp
  · rw [decide_eq_false h]
    have : one a ≠ one b := fun e => h (one_inj e)
    simpa using this
/-- in quotes: the word, what is left, the line -/
noncomputable def lexQ : List Nat → List Nat → Int → Option (List Nat × List Nat × Int)
  | [], _, _ => none
  | c :: r, acc, ln => if c = 34 then some (acc, r, lnAft (c :: r) ln) else if c = 92 then (match r with
      | [] => none
      | c' :: r' => lexQ r' (acc ++ [c']) (lnAft (c' :: r') (lnAft (c :: r) ln))) else lexQ r (acc ++ [c]) (lnAft (c :: r) ln)
/-- plain -/
noncomputable def lexW : List Nat → List Nat → Int → Option (List Nat × List Nat × Int)
  | [], _, _ => none
  | c :: r, acc, ln => if isWs c then some (acc, r, lnAft (c :: r) ln) else if c = 92 then (match r with
      | [] => none
      | c' :: r' => lexW r' (acc ++ [c']) (lnAft (c' :: r') (lnAft (c :: r) ln))) else lexW r (acc ++ [c]) (lnAft (c :: r) ln)
/-- a word, or the end -/
noncomputable def lexT : List Nat → Int → Option (List Nat × List Nat × Int)
  | [], ln => some ([], [], ln)
  | c :: r, ln => if isWs c then lexT r (lnAft (c :: r) ln) else if c = 34 then lexQ r [] (lnAft (c :: r) ln) else if c = 92 then (match r with
      | [] => none
      | c' :: r' => lexW r' [c'] (lnAft (c' :: r') (lnAft (c :: r) ln))) else lexW r [c] (lnAft (c :: r) ln)
theorem lexQ_cons (c : Nat) (r acc : List Nat) (ln : Int) : lexQ (c :: r) acc ln = if c = 34 then some (acc, r, lnAft (c :: r) ln) else if c = 92 then (match r with
      | [] => none
      | c' :: r' => lexQ r' (acc ++ [c']) (lnAft (c' :: r') (lnAft (c :: r) ln))) else lexQ r (acc ++ [c]) (lnAft (c :: r) ln) := by cases r <;> simp only [lexQ]
theorem lexW_cons (c : Nat) (r acc : List Nat) (ln : Int) : lexW (c :: r) acc ln = if isWs c then some (acc, r, lnAft (c :: r) ln) else if c = 92 then (match r with
      | [] => none
      | c' :: r' => lexW r' (acc ++ [c']) (lnAft (c' :: r') (lnAft (c :: r) ln))) else lexW r (acc ++ [c]) (lnAft (c :: r) ln) := by cases r <;> simp only [lexW]
theorem lexT_cons (c : Nat) (r : List Nat) (ln : Int) : lexT (c :: r) ln = if isWs c then lexT r (lnAft (c :: r) ln) else if c = 34 then lexQ r [] (lnAft (c :: r) ln) else if c = 92 then (match r with
      | [] => none
      | c' :: r' => lexW r' [c'] (lnAft (c' :: r') (lnAft (c :: r) ln))) else lexW r [c] (lnAft (c :: r) ln) := by cases r <;> simp only [lexT]
structure LS where
  (rem : List Nat) (tok : Str) (ln : Int) (tl : Tok) (sv : List Value) (se : Nat) (tt : Tok)
noncomputable def lsVars (it : Nat) (P : LexP) (y : LS) : List (Str × Value) := [(Str.ofString "self", .ref P.x), (Str.ofString "fiter", .ref it), (Str.ofString "token", .str y.tok y.tt)]

end Mine

namespace Mine
theorem reset_read_char : True := by
  w_top off
  trivial
namespace read_char
set_option maxRecDepth 100000 in
set_option maxHeartbeats 4000000 in
noncomputable def seg9 : {p : PySem.World → Int → (List PySem.Value) → Nat → PySem.Tok → Nat → (List PySem.Str) → (PySem.ExcName → Option PySem.Value) → (PySem.Str → Option PySem.Value) → (PySem.Str → Option PySem.Value) → (List (PySem.Addr × PySem.Obj)) → Nat → Nat → (Option (List PySem.Code)) → PySem.Str → PySem.Scope → PySem.Addr → PySem.Value → (List (PySem.Str × PySem.Addr)) → (List PySem.Env) → PySem.Around → PySem.Heap → PySem.Heap → PySem.Addr → (PySem.Str → Option PySem.Value) → PySem.Shared → (PySem.Result → PySem.Shared → Prop) → Nat → Nat → Nat → Nat → Nat → Nat → Nat → Nat → Nat → Nat → PySem.Tok → PySem.Tok → PySem.Tok → PySem.Tok → PySem.Tok → PySem.Tok → PySem.Tok → PySem.Tok → PySem.Tok → PySem.Tok → PySem.Tok → PySem.Tok → PySem.Value → PySem.Value → PySem.Obj → PySem.Obj → (Array PySem.Value) → PySem.Tok → (List Nat) → (List PySem.Value) → PySem.Tok → Prop // Hid (∀ a0 a1 a2 a3 a4 a5 a6 a7 a8 a9 a10 a11 a12 a13 a14 a15 a16 a17 a18 a19 a20 a21 a22 a23 a24 a25 a26 a27 a28 a29 a30 a31 a32 a33 a34 a35 a36 a37 a38 a39 a40 a41 a42 a43 a44 a45 a46 a47 a48 a49 a50 a51 a52 a53 a54 a55 a56 a57, p a0 a1 a2 a3 a4 a5 a6 a7 a8 a9 a10 a11 a12 a13 a14 a15 a16 a17 a18 a19 a20 a21 a22 a23 a24 a25 a26 a27 a28 a29 a30 a31 a32 a33 a34 a35 a36 a37 a38 a39 a40 a41 a42 a43 a44 a45 a46 a47 a48 a49 a50 a51 a52 a53 a54 a55 a56 a57) → ∀ (w : World) (P : LexP) (ok : P.Ok) (ln : Int) (rem : List Nat) (qv : List Value) (qe : Nat) (led : List (Addr × Obj)) (st : LexSt w P ln rem qv qe led) (hr : rem.length ≤ 1000), Ctr (fun h => CodeHd h 112 108) PySem.Challenge.rw_wn0028_02.prog w (Mine.hd.heap_39 w.params) PySem.W.topProg 3 40 56 [.ref P.x] led (fun v led tl => tl = [] ∧ ∃ t, v = .str (chOf rem) t ∧ LexSt w P (lnAft rem ln) rem.tail qv qe led)} := segOf (by
   intro ht9
   intro w P ok ln rem qv qe led st hr
   obtain ⟨tl, sv, se, hs, rfl⟩ := st
   intro loose mean mg mb rest dp un gd cn cs a ccd cl outer A₀ base h₀ L m s R hpre hoff B F₀ X N₀ T hk hd hu hret
   k_with_none
   obtain ⟨x, d, pb, f, c, x1, d1, sg, ce, pb1, t1, t2, t3, t4, tw, u1, u2, u3, u4, u5, v1, vw, ct, pm, oc, oC, vs, tq⟩ := P
   obtain ⟨⟨o1, o2, o3, o4, o5, o6, o7, o8⟩, hcode, hname, hcell⟩ := ok
   dsimp only [lexLed] at *
   simp only [List.cons_append, List.nil_append, List.forall_mem_cons] at N₀ hoff
   obtain ⟨hf1, hf2, hf3, hf4, hf5, hf6, hf7, hf8, hf9, -⟩ := hoff
   k_with "call ref cons nil" => (k_dflt ((refine wpAny_call ?_; refine' kla_code ?k1 ?k2 ?k3 ?k4 ?k5 ?kA ?kF ?kK ?k6 ?k7 ?k8 ?k9 ?kB ?_ ?c2 ?c3 ?c4 ?c5; (case kA => exact rfl); (case kF => exact rfl); (case kK => exact rfl); (case k1 => k_asm); (case k2 => k_asm); (case k3 => k_asm); (case k4 => k_asm); (case k5 => k_asm); (case k6 => k_mem); (case k7 => exact codeRec_news (by k_asm) (by k_mem) (by assumption) (by assumption)); (case k8 => ktr_room); (case k9 => exact rfl); (case c5 => decide); (case kB => exact locs rfl); (case c2 => exact rfl); (case c3 => exact rfl); (case c4 => exact rfl); k_whole; intro g9z L9z h9z FG9z F9z N9z B9z X9z T9z; (try dsimp only); (try k_lift B9z); (try k_fold))); dsimp only [lamBs, lamSs])
   cases rem with
   | nil =>
     cases hs
     k_with "truthy ref" => refine truthy_nil (by is_list) ?_
     k_dflt cell_enter
     k_steps
     exact hret _ _ [] _ _ ⟨rfl, _, rfl, _, [], _, .nil, rfl⟩ (fun _ _ _ h => nomatch h) (by k_asm) (by k_asm)
   | cons ch r =>
     rw [List.map_cons, List.reverse_cons] at hs
     obtain ⟨ws, t9, rfl, hs'⟩ := strs_snoc_inv hs
     have hz : ws.length ≤ 1000 := by rw [strs_len hs']; simp at hr ⊢; omega
     revert hpre B F₀ X T hk hd hu hcode hname hcell o1 o2 o3 o4 o5 o6 o7 o8 hf1 hf2 hf3 hf4 hf5 hf6 hf7 hf8 hf9 ch hr hs' N₀ hs hret hz
     exact ht9.out w ln qv qe tl se loose mean mg mb rest dp un gd cn cs a ccd cl outer A₀ base h₀ L m s R x d pb f c x1 d1 sg ce pb1 t1 t2 t3 t4 tw u1 u2 u3 u4 u5 v1 vw ct pm oc oC vs tq r ws t9
)
noncomputable def G9 (d : PySem.World × Int × (List PySem.Value) × Nat × PySem.Tok × Nat × (List PySem.Str) × (PySem.ExcName → Option PySem.Value) × (PySem.Str → Option PySem.Value) × (PySem.Str → Option PySem.Value) × (List (PySem.Addr × PySem.Obj)) × Nat × Nat × (Option (List PySem.Code)) × PySem.Str × PySem.Scope × PySem.Addr × PySem.Value × (List (PySem.Str × PySem.Addr)) × (List PySem.Env) × PySem.Around × PySem.Heap × PySem.Heap × PySem.Addr × (PySem.Str → Option PySem.Value) × PySem.Shared × (PySem.Result → PySem.Shared → Prop) × Nat × Nat × Nat × Nat × Nat × Nat × Nat × Nat × Nat × Nat × PySem.Tok × PySem.Tok × PySem.Tok × PySem.Tok × PySem.Tok × PySem.Tok × PySem.Tok × PySem.Tok × PySem.Tok × PySem.Tok × PySem.Tok × PySem.Tok × PySem.Value × PySem.Value × PySem.Obj × PySem.Obj × (Array PySem.Value) × PySem.Tok × (List Nat) × (List PySem.Value) × PySem.Tok) : Prop := seg9.1 d.1 d.2.1 d.2.2.1 d.2.2.2.1 d.2.2.2.2.1 d.2.2.2.2.2.1 d.2.2.2.2.2.2.1 d.2.2.2.2.2.2.2.1 d.2.2.2.2.2.2.2.2.1 d.2.2.2.2.2.2.2.2.2.1 d.2.2.2.2.2.2.2.2.2.2.1 d.2.2.2.2.2.2.2.2.2.2.2.1 d.2.2.2.2.2.2.2.2.2.2.2.2.1 d.2.2.2.2.2.2.2.2.2.2.2.2.2.1 d.2.2.2.2.2.2.2.2.2.2.2.2.2.2.1 d.2.2.2.2.2.2.2.2.2.2.2.2.2.2.2.1 d.2.2.2.2.2.2.2.2.2.2.2.2.2.2.2.2.1 d.2.2.2.2.2.2.2.2.2.2.2.2.2.2.2.2.2.1 d.2.2.2.2.2.2.2.2.2.2.2.2.2.2.2.2.2.2.1 d.2.2.2.2.2.2.2.2.2.2.2.2.2.2.2.2.2.2.2.1 d.2.2.2.2.2.2.2.2.2.2.2.2.2.2.2.2.2.2.2.2.1 d.2.2.2.2.2.2.2.2.2.2.2.2.2.2.2.2.2.2.2.2.2.1 d.2.2.2.2.2.2.2.2.2.2.2.2.2.2.2.2.2.2.2.2.2.2.1 d.2.2.2.2.2.2.2.2.2.2.2.2.2.2.2.2.2.2.2.2.2.2.2.1 d.2.2.2.2.2.2.2.2.2.2.2.2.2.2.2.2.2.2.2.2.2.2.2.2.1 d.2.2.2.2.2.2.2.2.2.2.2.2.2.2.2.2.2.2.2.2.2.2.2.2.2.1 d.2.2.2.2.2.2.2.2.2.2.2.2.2.2.2.2.2.2.2.2.2.2.2.2.2.2.1 d.2.2.2.2.2.2.2.2.2.2.2.2.2.2.2.2.2.2.2.2.2.2.2.2.2.2.2.1 d.2.2.2.2.2.2.2.2.2.2.2.2.2.2.2.2.2.2.2.2.2.2.2.2.2.2.2.2.1 d.2.2.2.2.2.2.2.2.2.2.2.2.2.2.2.2.2.2.2.2.2.2.2.2.2.2.2.2.2.1 d.2.2.2.2.2.2.2.2.2.2.2.2.2.2.2.2.2.2.2.2.2.2.2.2.2.2.2.2.2.2.1 d.2.2.2.2.2.2.2.2.2.2.2.2.2.2.2.2.2.2.2.2.2.2.2.2.2.2.2.2.2.2.2.1 d.2.2.2.2.2.2.2.2.2.2.2.2.2.2.2.2.2.2.2.2.2.2.2.2.2.2.2.2.2.2.2.2.1 d.2.2.2.2.2.2.2.2.2.2.2.2.2.2.2.2.2.2.2.2.2.2.2.2.2.2.2.2.2.2.2.2.2.1 d.2.2.2.2.2.2.2.2.2.2.2.2.2.2.2.2.2.2.2.2.2.2.2.2.2.2.2.2.2.2.2.2.2.2.1 d.2.2.2.2.2.2.2.2.2.2.2.2.2.2.2.2.2.2.2.2.2.2.2.2.2.2.2.2.2.2.2.2.2.2.2.1 d.2.2.2.2.2.2.2.2.2.2.2.2.2.2.2.2.2.2.2.2.2.2.2.2.2.2.2.2.2.2.2.2.2.2.2.2.1 d.2.2.2.2.2.2.2.2.2.2.2.2.2.2.2.2.2.2.2.2.2.2.2.2.2.2.2.2.2.2.2.2.2.2.2.2.2.1 d.2.2.2.2.2.2.2.2.2.2.2.2.2.2.2.2.2.2.2.2.2.2.2.2.2.2.2.2.2.2.2.2.2.2.2.2.2.2.1 d.2.2.2.2.2.2.2.2.2.2.2.2.2.2.2.2.2.2.2.2.2.2.2.2.2.2.2.2.2.2.2.2.2.2.2.2.2.2.2.1 d.2.2.2.2.2.2.2.2.2.2.2.2.2.2.2.2.2.2.2.2.2.2.2.2.2.2.2.2.2.2.2.2.2.2.2.2.2.2.2.2.1 d.2.2.2.2.2.2.2.2.2.2.2.2.2.2.2.2.2.2.2.2.2.2.2.2.2.2.2.2.2.2.2.2.2.2.2.2.2.2.2.2.2.1 d.2.2.2.2.2.2.2.2.2.2.2.2.2.2.2.2.2.2.2.2.2.2.2.2.2.2.2.2.2.2.2.2.2.2.2.2.2.2.2.2.2.2.1 d.2.2.2.2.2.2.2.2.2.2.2.2.2.2.2.2.2.2.2.2.2.2.2.2.2.2.2.2.2.2.2.2.2.2.2.2.2.2.2.2.2.2.2.1 d.2.2.2.2.2.2.2.2.2.2.2.2.2.2.2.2.2.2.2.2.2.2.2.2.2.2.2.2.2.2.2.2.2.2.2.2.2.2.2.2.2.2.2.2.1 d.2.2.2.2.2.2.2.2.2.2.2.2.2.2.2.2.2.2.2.2.2.2.2.2.2.2.2.2.2.2.2.2.2.2.2.2.2.2.2.2.2.2.2.2.2.1 d.2.2.2.2.2.2.2.2.2.2.2.2.2.2.2.2.2.2.2.2.2.2.2.2.2.2.2.2.2.2.2.2.2.2.2.2.2.2.2.2.2.2.2.2.2.2.1 d.2.2.2.2.2.2.2.2.2.2.2.2.2.2.2.2.2.2.2.2.2.2.2.2.2.2.2.2.2.2.2.2.2.2.2.2.2.2.2.2.2.2.2.2.2.2.2.1 d.2.2.2.2.2.2.2.2.2.2.2.2.2.2.2.2.2.2.2.2.2.2.2.2.2.2.2.2.2.2.2.2.2.2.2.2.2.2.2.2.2.2.2.2.2.2.2.2.1 d.2.2.2.2.2.2.2.2.2.2.2.2.2.2.2.2.2.2.2.2.2.2.2.2.2.2.2.2.2.2.2.2.2.2.2.2.2.2.2.2.2.2.2.2.2.2.2.2.2.1 d.2.2.2.2.2.2.2.2.2.2.2.2.2.2.2.2.2.2.2.2.2.2.2.2.2.2.2.2.2.2.2.2.2.2.2.2.2.2.2.2.2.2.2.2.2.2.2.2.2.2.1 d.2.2.2.2.2.2.2.2.2.2.2.2.2.2.2.2.2.2.2.2.2.2.2.2.2.2.2.2.2.2.2.2.2.2.2.2.2.2.2.2.2.2.2.2.2.2.2.2.2.2.2.1 d.2.2.2.2.2.2.2.2.2.2.2.2.2.2.2.2.2.2.2.2.2.2.2.2.2.2.2.2.2.2.2.2.2.2.2.2.2.2.2.2.2.2.2.2.2.2.2.2.2.2.2.2.1 d.2.2.2.2.2.2.2.2.2.2.2.2.2.2.2.2.2.2.2.2.2.2.2.2.2.2.2.2.2.2.2.2.2.2.2.2.2.2.2.2.2.2.2.2.2.2.2.2.2.2.2.2.2.1 d.2.2.2.2.2.2.2.2.2.2.2.2.2.2.2.2.2.2.2.2.2.2.2.2.2.2.2.2.2.2.2.2.2.2.2.2.2.2.2.2.2.2.2.2.2.2.2.2.2.2.2.2.2.2.1 d.2.2.2.2.2.2.2.2.2.2.2.2.2.2.2.2.2.2.2.2.2.2.2.2.2.2.2.2.2.2.2.2.2.2.2.2.2.2.2.2.2.2.2.2.2.2.2.2.2.2.2.2.2.2.2.1 d.2.2.2.2.2.2.2.2.2.2.2.2.2.2.2.2.2.2.2.2.2.2.2.2.2.2.2.2.2.2.2.2.2.2.2.2.2.2.2.2.2.2.2.2.2.2.2.2.2.2.2.2.2.2.2.2.1 d.2.2.2.2.2.2.2.2.2.2.2.2.2.2.2.2.2.2.2.2.2.2.2.2.2.2.2.2.2.2.2.2.2.2.2.2.2.2.2.2.2.2.2.2.2.2.2.2.2.2.2.2.2.2.2.2.2
noncomputable def tup9z : PySem.World × Int × (List PySem.Value) × Nat × PySem.Tok × Nat × (List PySem.Str) × (PySem.ExcName → Option PySem.Value) × (PySem.Str → Option PySem.Value) × (PySem.Str → Option PySem.Value) × (List (PySem.Addr × PySem.Obj)) × Nat × Nat × (Option (List PySem.Code)) × PySem.Str × PySem.Scope × PySem.Addr × PySem.Value × (List (PySem.Str × PySem.Addr)) × (List PySem.Env) × PySem.Around × PySem.Heap × PySem.Heap × PySem.Addr × (PySem.Str → Option PySem.Value) × PySem.Shared × (PySem.Result → PySem.Shared → Prop) × Nat × Nat × Nat × Nat × Nat × Nat × Nat × Nat × Nat × Nat × PySem.Tok × PySem.Tok × PySem.Tok × PySem.Tok × PySem.Tok × PySem.Tok × PySem.Tok × PySem.Tok × PySem.Tok × PySem.Tok × PySem.Tok × PySem.Tok × PySem.Value × PySem.Value × PySem.Obj × PySem.Obj × (Array PySem.Value) × PySem.Tok × (List Nat) × (List PySem.Value) × PySem.Tok := hen (World9, (0 : Int), [], (0 : Nat), (0 : Nat), (0 : Nat), [], (fun _ => none), (fun _ => none), (fun _ => none), [], (0 : Nat), (0 : Nat), none, (default : Str), (default : Scope), (0 : Nat), (default : Value), [], [], ({} : Around), (default : Heap), (default : Heap), (0 : Nat), (fun _ => none), ({} : Shared), (fun _ => (fun _ => True)), (0 : Nat), (0 : Nat), (0 : Nat), (0 : Nat), (0 : Nat), (0 : Nat), (0 : Nat), (0 : Nat), (0 : Nat), (0 : Nat), (0 : Nat), (0 : Nat), (0 : Nat), (0 : Nat), (0 : Nat), (0 : Nat), (0 : Nat), (0 : Nat), (0 : Nat), (0 : Nat), (0 : Nat), (0 : Nat), (default : Value), (default : Value), (default : Obj), (default : Obj), #[], (0 : Nat), [], [], (0 : Nat)) G9
noncomputable def w : PySem.World := tup9z.1
noncomputable def ln : Int := tup9z.2.1
noncomputable def qv : List PySem.Value := tup9z.2.2.1
noncomputable def qe : Nat := tup9z.2.2.2.1
noncomputable def tl : PySem.Tok := tup9z.2.2.2.2.1
noncomputable def se : Nat := tup9z.2.2.2.2.2.1
noncomputable def loose : List PySem.Str := tup9z.2.2.2.2.2.2.1
noncomputable def mean : PySem.ExcName → Option PySem.Value := tup9z.2.2.2.2.2.2.2.1
noncomputable def mg : PySem.Str → Option PySem.Value := tup9z.2.2.2.2.2.2.2.2.1
noncomputable def mb : PySem.Str → Option PySem.Value := tup9z.2.2.2.2.2.2.2.2.2.1
noncomputable def rest : List (PySem.Addr × PySem.Obj) := tup9z.2.2.2.2.2.2.2.2.2.2.1
noncomputable def dp : Nat := tup9z.2.2.2.2.2.2.2.2.2.2.2.1
noncomputable def un : Nat := tup9z.2.2.2.2.2.2.2.2.2.2.2.2.1
noncomputable def gd : Option (List PySem.Code) := tup9z.2.2.2.2.2.2.2.2.2.2.2.2.2.1
noncomputable def cn : PySem.Str := tup9z.2.2.2.2.2.2.2.2.2.2.2.2.2.2.1
noncomputable def cs : PySem.Scope := tup9z.2.2.2.2.2.2.2.2.2.2.2.2.2.2.2.1
noncomputable def a : PySem.Addr := tup9z.2.2.2.2.2.2.2.2.2.2.2.2.2.2.2.2.1
noncomputable def ccd : PySem.Value := tup9z.2.2.2.2.2.2.2.2.2.2.2.2.2.2.2.2.2.1
noncomputable def cl : List (PySem.Str × PySem.Addr) := tup9z.2.2.2.2.2.2.2.2.2.2.2.2.2.2.2.2.2.2.1
noncomputable def outer : List PySem.Env := tup9z.2.2.2.2.2.2.2.2.2.2.2.2.2.2.2.2.2.2.2.1
noncomputable def A₀ : PySem.Around := tup9z.2.2.2.2.2.2.2.2.2.2.2.2.2.2.2.2.2.2.2.2.1
noncomputable def base : PySem.Heap := tup9z.2.2.2.2.2.2.2.2.2.2.2.2.2.2.2.2.2.2.2.2.2.1
noncomputable def h₀ : PySem.Heap := tup9z.2.2.2.2.2.2.2.2.2.2.2.2.2.2.2.2.2.2.2.2.2.2.1
noncomputable def L : PySem.Addr := tup9z.2.2.2.2.2.2.2.2.2.2.2.2.2.2.2.2.2.2.2.2.2.2.2.1
noncomputable def m : PySem.Str → Option PySem.Value := tup9z.2.2.2.2.2.2.2.2.2.2.2.2.2.2.2.2.2.2.2.2.2.2.2.2.1
noncomputable def s : PySem.Shared := tup9z.2.2.2.2.2.2.2.2.2.2.2.2.2.2.2.2.2.2.2.2.2.2.2.2.2.1
noncomputable def R : PySem.Result → PySem.Shared → Prop := tup9z.2.2.2.2.2.2.2.2.2.2.2.2.2.2.2.2.2.2.2.2.2.2.2.2.2.2.1
noncomputable def x : Nat := tup9z.2.2.2.2.2.2.2.2.2.2.2.2.2.2.2.2.2.2.2.2.2.2.2.2.2.2.2.1
noncomputable def d : Nat := tup9z.2.2.2.2.2.2.2.2.2.2.2.2.2.2.2.2.2.2.2.2.2.2.2.2.2.2.2.2.1
noncomputable def pb : Nat := tup9z.2.2.2.2.2.2.2.2.2.2.2.2.2.2.2.2.2.2.2.2.2.2.2.2.2.2.2.2.2.1
noncomputable def f : Nat := tup9z.2.2.2.2.2.2.2.2.2.2.2.2.2.2.2.2.2.2.2.2.2.2.2.2.2.2.2.2.2.2.1
noncomputable def c : Nat := tup9z.2.2.2.2.2.2.2.2.2.2.2.2.2.2.2.2.2.2.2.2.2.2.2.2.2.2.2.2.2.2.2.1
noncomputable def x1 : Nat := tup9z.2.2.2.2.2.2.2.2.2.2.2.2.2.2.2.2.2.2.2.2.2.2.2.2.2.2.2.2.2.2.2.2.1
noncomputable def d1 : Nat := tup9z.2.2.2.2.2.2.2.2.2.2.2.2.2.2.2.2.2.2.2.2.2.2.2.2.2.2.2.2.2.2.2.2.2.1
noncomputable def sg : Nat := tup9z.2.2.2.2.2.2.2.2.2.2.2.2.2.2.2.2.2.2.2.2.2.2.2.2.2.2.2.2.2.2.2.2.2.2.1
noncomputable def ce : Nat := tup9z.2.2.2.2.2.2.2.2.2.2.2.2.2.2.2.2.2.2.2.2.2.2.2.2.2.2.2.2.2.2.2.2.2.2.2.1
noncomputable def pb1 : Nat := tup9z.2.2.2.2.2.2.2.2.2.2.2.2.2.2.2.2.2.2.2.2.2.2.2.2.2.2.2.2.2.2.2.2.2.2.2.2.1
noncomputable def t1 : PySem.Tok := tup9z.2.2.2.2.2.2.2.2.2.2.2.2.2.2.2.2.2.2.2.2.2.2.2.2.2.2.2.2.2.2.2.2.2.2.2.2.2.1
noncomputable def t2 : PySem.Tok := tup9z.2.2.2.2.2.2.2.2.2.2.2.2.2.2.2.2.2.2.2.2.2.2.2.2.2.2.2.2.2.2.2.2.2.2.2.2.2.2.1
noncomputable def t3 : PySem.Tok := tup9z.2.2.2.2.2.2.2.2.2.2.2.2.2.2.2.2.2.2.2.2.2.2.2.2.2.2.2.2.2.2.2.2.2.2.2.2.2.2.2.1
noncomputable def t4 : PySem.Tok := tup9z.2.2.2.2.2.2.2.2.2.2.2.2.2.2.2.2.2.2.2.2.2.2.2.2.2.2.2.2.2.2.2.2.2.2.2.2.2.2.2.2.1
noncomputable def tw : PySem.Tok := tup9z.2.2.2.2.2.2.2.2.2.2.2.2.2.2.2.2.2.2.2.2.2.2.2.2.2.2.2.2.2.2.2.2.2.2.2.2.2.2.2.2.2.1
noncomputable def u1 : PySem.Tok := tup9z.2.2.2.2.2.2.2.2.2.2.2.2.2.2.2.2.2.2.2.2.2.2.2.2.2.2.2.2.2.2.2.2.2.2.2.2.2.2.2.2.2.2.1
noncomputable def u2 : PySem.Tok := tup9z.2.2.2.2.2.2.2.2.2.2.2.2.2.2.2.2.2.2.2.2.2.2.2.2.2.2.2.2.2.2.2.2.2.2.2.2.2.2.2.2.2.2.2.1
noncomputable def u3 : PySem.Tok := tup9z.2.2.2.2.2.2.2.2.2.2.2.2.2.2.2.2.2.2.2.2.2.2.2.2.2.2.2.2.2.2.2.2.2.2.2.2.2.2.2.2.2.2.2.2.1
noncomputable def u4 : PySem.Tok := tup9z.2.2.2.2.2.2.2.2.2.2.2.2.2.2.2.2.2.2.2.2.2.2.2.2.2.2.2.2.2.2.2.2.2.2.2.2.2.2.2.2.2.2.2.2.2.1
noncomputable def u5 : PySem.Tok := tup9z.2.2.2.2.2.2.2.2.2.2.2.2.2.2.2.2.2.2.2.2.2.2.2.2.2.2.2.2.2.2.2.2.2.2.2.2.2.2.2.2.2.2.2.2.2.2.1
noncomputable def v1 : PySem.Tok := tup9z.2.2.2.2.2.2.2.2.2.2.2.2.2.2.2.2.2.2.2.2.2.2.2.2.2.2.2.2.2.2.2.2.2.2.2.2.2.2.2.2.2.2.2.2.2.2.2.1
noncomputable def vw : PySem.Tok := tup9z.2.2.2.2.2.2.2.2.2.2.2.2.2.2.2.2.2.2.2.2.2.2.2.2.2.2.2.2.2.2.2.2.2.2.2.2.2.2.2.2.2.2.2.2.2.2.2.2.1
noncomputable def ct : PySem.Value := tup9z.2.2.2.2.2.2.2.2.2.2.2.2.2.2.2.2.2.2.2.2.2.2.2.2.2.2.2.2.2.2.2.2.2.2.2.2.2.2.2.2.2.2.2.2.2.2.2.2.2.1
noncomputable def pm : PySem.Value := tup9z.2.2.2.2.2.2.2.2.2.2.2.2.2.2.2.2.2.2.2.2.2.2.2.2.2.2.2.2.2.2.2.2.2.2.2.2.2.2.2.2.2.2.2.2.2.2.2.2.2.2.1
noncomputable def oc : PySem.Obj := tup9z.2.2.2.2.2.2.2.2.2.2.2.2.2.2.2.2.2.2.2.2.2.2.2.2.2.2.2.2.2.2.2.2.2.2.2.2.2.2.2.2.2.2.2.2.2.2.2.2.2.2.2.1
noncomputable def oC : PySem.Obj := tup9z.2.2.2.2.2.2.2.2.2.2.2.2.2.2.2.2.2.2.2.2.2.2.2.2.2.2.2.2.2.2.2.2.2.2.2.2.2.2.2.2.2.2.2.2.2.2.2.2.2.2.2.2.1
noncomputable def vs : Array PySem.Value := tup9z.2.2.2.2.2.2.2.2.2.2.2.2.2.2.2.2.2.2.2.2.2.2.2.2.2.2.2.2.2.2.2.2.2.2.2.2.2.2.2.2.2.2.2.2.2.2.2.2.2.2.2.2.2.1
noncomputable def tq : PySem.Tok := tup9z.2.2.2.2.2.2.2.2.2.2.2.2.2.2.2.2.2.2.2.2.2.2.2.2.2.2.2.2.2.2.2.2.2.2.2.2.2.2.2.2.2.2.2.2.2.2.2.2.2.2.2.2.2.2.1
noncomputable def r : List Nat := tup9z.2.2.2.2.2.2.2.2.2.2.2.2.2.2.2.2.2.2.2.2.2.2.2.2.2.2.2.2.2.2.2.2.2.2.2.2.2.2.2.2.2.2.2.2.2.2.2.2.2.2.2.2.2.2.2.1
noncomputable def ws : List PySem.Value := tup9z.2.2.2.2.2.2.2.2.2.2.2.2.2.2.2.2.2.2.2.2.2.2.2.2.2.2.2.2.2.2.2.2.2.2.2.2.2.2.2.2.2.2.2.2.2.2.2.2.2.2.2.2.2.2.2.2.1
noncomputable def t9 : PySem.Tok := tup9z.2.2.2.2.2.2.2.2.2.2.2.2.2.2.2.2.2.2.2.2.2.2.2.2.2.2.2.2.2.2.2.2.2.2.2.2.2.2.2.2.2.2.2.2.2.2.2.2.2.2.2.2.2.2.2.2.2
set_option maxRecDepth 100000 in
set_option maxHeartbeats 4000000 in
theorem main9 : seg9.1 w ln qv qe tl se loose mean mg mb rest dp un gd cn cs a ccd cl outer A₀ base h₀ L m s R x d pb f c x1 d1 sg ce pb1 t1 t2 t3 t4 tw u1 u2 u3 u4 u5 v1 vw ct pm oc oC vs tq r ws t9 := by
     delta seg9 segOf
     dsimp -zeta only
     intro hpre B F₀ X T hk hd hu hcode hname hcell o1 o2 o3 o4 o5 o6 o7 o8 hf1 hf2 hf3 hf4 hf5 hf6 hf7 hf8 hf9 ch hr hs' N₀ hs hret hz
     k_with_none
     k_with "call ref cons nil" => (k_dflt ((refine wpAny_call ?_; refine' kla_code ?k1 ?k2 ?k3 ?k4 ?k5 ?kA ?kF ?kK ?k6 ?k7 ?k8 ?k9 ?kB ?_ ?c2 ?c3 ?c4 ?c5; (case kA => exact rfl); (case kF => exact rfl); (case kK => exact rfl); (case k1 => k_asm); (case k2 => k_asm); (case k3 => k_asm); (case k4 => k_asm); (case k5 => k_asm); (case k6 => k_mem); (case k7 => exact codeRec_news (by k_asm) (by k_mem) (by assumption) (by assumption)); (case k8 => ktr_room); (case k9 => exact rfl); (case c5 => decide); (case kB => exact locs rfl); (case c2 => exact rfl); (case c3 => exact rfl); (case c4 => exact rfl); k_whole; intro g9z L9z h9z FG9z F9z N9z B9z X9z T9z; (try dsimp only); (try k_lift B9z); (try k_fold))); dsimp only [lamBs, lamSs])
     k_with "truthy ref" => refine truthy_snoc (by is_list) (by omega) ?_
     k_with "call builtin:list.pop cons nil" => (refine' kl_pop ?F ?N (kpa_last _ _) ?U ?z ?_; (case F => k_asm); (case N => k_asm); (case U => k_upd); (case z => rw [sizeLine_eq, List.length_append]; simp; omega); intro h9 F9 N9; (try k_sweep))
     k_dflt cell_enter
     k_steps
     · have hnl : (one ch == Str.ofString "\n") = true := by assumption
       rw [one_nl, decide_eq_true_eq] at hnl
       rw [show lnAft (ch :: r) ln = ln + 1 by rw [lnAft, if_pos (by rw [hnl]; rfl)]] at hret
       exact hret _ _ [] _ _ ⟨rfl, _, rfl, _, ws, _, hs', rfl⟩ (fun _ _ _ h => nomatch h) (by k_asm) (by k_asm)
     · have hnl : ch ≠ 10 := by
         rintro rfl
         simp only [one_nl] at *
         simp_all
       rw [show lnAft (ch :: r) ln = ln by rw [lnAft, if_neg (by intro e; exact hnl (Option.some.inj e))]] at hret
       exact hret _ _ [] _ _ ⟨rfl, _, rfl, _, ws, _, hs', rfl⟩ (fun _ _ _ h => nomatch h) (by k_asm) (by k_asm)

set_option maxRecDepth 100000 in
set_option maxHeartbeats 4000000 in
theorem all9 : ∀ a0 a1 a2 a3 a4 a5 a6 a7 a8 a9 a10 a11 a12 a13 a14 a15 a16 a17 a18 a19 a20 a21 a22 a23 a24 a25 a26 a27 a28 a29 a30 a31 a32 a33 a34 a35 a36 a37 a38 a39 a40 a41 a42 a43 a44 a45 a46 a47 a48 a49 a50 a51 a52 a53 a54 a55 a56 a57, seg9.1 a0 a1 a2 a3 a4 a5 a6 a7 a8 a9 a10 a11 a12 a13 a14 a15 a16 a17 a18 a19 a20 a21 a22 a23 a24 a25 a26 a27 a28 a29 a30 a31 a32 a33 a34 a35 a36 a37 a38 a39 a40 a41 a42 a43 a44 a45 a46 a47 a48 a49 a50 a51 a52 a53 a54 a55 a56 a57 := fun a0 a1 a2 a3 a4 a5 a6 a7 a8 a9 a10 a11 a12 a13 a14 a15 a16 a17 a18 a19 a20 a21 a22 a23 a24 a25 a26 a27 a28 a29 a30 a31 a32 a33 a34 a35 a36 a37 a38 a39 a40 a41 a42 a43 a44 a45 a46 a47 a48 a49 a50 a51 a52 a53 a54 a55 a56 a57 => hen_all (G := G9) main9 (a0, a1, a2, a3, a4, a5, a6, a7, a8, a9, a10, a11, a12, a13, a14, a15, a16, a17, a18, a19, a20, a21, a22, a23, a24, a25, a26, a27, a28, a29, a30, a31, a32, a33, a34, a35, a36, a37, a38, a39, a40, a41, a42, a43, a44, a45, a46, a47, a48, a49, a50, a51, a52, a53, a54, a55, a56, a57)
end read_char
theorem read_char (w : World) (P : LexP) (ok : P.Ok) (ln : Int) (rem : List Nat) (qv : List Value) (qe : Nat) (led : List (Addr × Obj)) (st : LexSt w P ln rem qv qe led) (hr : rem.length ≤ 1000) : Ctr (fun h => CodeHd h 112 108) PySem.Challenge.rw_wn0028_02.prog w (Mine.hd.heap_39 w.params) PySem.W.topProg 3 40 56 [.ref P.x] led (fun v led tl => tl = [] ∧ ∃ t, v = .str (chOf rem) t ∧ LexSt w P (lnAft rem ln) rem.tail qv qe led) := read_char.seg9.2 ⟨read_char.all9⟩ w P ok ln rem qv qe led st hr

end Mine
namespace Mine
theorem reset_lexnext : True := by
  w_top off
  trivial
set_option maxRecDepth 100000 in
set_option maxHeartbeats 4000000 in
theorem lex_next (w : World) (P : LexP) (ok : P.Ok) (ln : Int) (rem : List Nat) (qv : List Value) (qe : Nat) (led : List (Addr × Obj)) (st : LexSt w P ln rem qv qe led) (hr : rem.length ≤ 1000)
    {loose : List Str} {mean : ExcName → Option Value} {mg mb : Str → Option Value} {rest : List (Addr × Obj)} {dp un : Nat} {gd : Option (List Code)} {cn : Str} {cs : Scope} {a : Addr} {ccd : Value} {cl : List (Str × Addr)} {outer : List Env} {A₀ : Around} {base h₀ : Heap} {L : Addr} {m : Str → Option Value} {s : Shared} {Q : Option Value → Shared → Prop} {E : Value → Shared → Prop}
    {it mo : Addr} {te : Tok} (hC : CodeHd h₀ 112 108) (off : ∀ p ∈ led, ∀ q ∈ rest, q.1 ≠ p.1) (B : Below A₀ base outer h₀) (F : Fr h₀ L s.heap m) (X : (Mine.hd.heap_39 w.params).In h₀) (N : News h₀ L s.heap (led ++ rest)) (T : Top PySem.W.topProg loose mean mg mb h₀) (hk : cs.kind = .function)
    (hd : dp + 3 < recursionLimit) (hu : un + 41 < cLine) (hit : (it, ciObj (.ref mo) (.str (Str.ofString "") te) false) ∈ rest) (hmo : (mo, methodObj (.ref 56) (.ref P.x)) ∈ rest)
    (hend : rem = [] → ∀ led' h' tk', LexSt w P ln [] qv qe led' → Fr h₀ L h' m → (∀ l, (∀ q ∈ l, q ∈ led' ++ rest) → (∀ q ∈ l, q.1 ≠ it) → News h₀ L h' l) → Q none { s with heap := h', toks := tk' })
    (hitem : ∀ c r, rem = c :: r → ∀ t led' h' tk', LexSt w P (lnAft rem ln) r qv qe led' → Fr h₀ L h' m → News h₀ L h' (led' ++ rest) → Q (some (.str (one c) t)) { s with heap := h', toks := tk' }) :
    wpAny (model PySem.Challenge.rw_wn0028_02.prog w) (ktrTop dp un gd cn cs L a ccd cl outer) (pyNext (.ref it)) Q E s := by
  have hK := X 56 _ (by k_is)
  have up : ∀ q ∈ rest, q ∈ led ++ rest := fun q hq => List.mem_append.mpr (.inr hq)
  refine ci_next (A := ktrTop dp un gd cn cs L a ccd cl outer) rfl (N _ (up _ hit)).1 (N _ (up _ hmo)).1 (F.keep _ _ hK) rfl ?_
  refine (read_char w P ok ln rem qv qe led st hr).code (dp := dp) (un := un + 1) (gd := gd) (cn := cn) (cs := cs) (a := a) (ccd := ccd) (cl := cl) (outer := outer) hC (all := led ++ rest) pick_app off B F X N T hk hd (by omega) ?_
  · intro v led' tl h' tk' hp _ F' N'
    obtain ⟨rfl, t, rfl, st'⟩ := hp
    rw [List.nil_append] at N'
    have up' : ∀ q ∈ rest, q ∈ led' ++ rest := fun q hq => List.mem_append.mpr (.inr hq)
    refine ⟨_, _, rfl, (N' _ (up' _ hit)).1, (N' _ (up' _ hmo)).1, ⟨_, _, F'.keep _ _ hK, rfl⟩, ?_⟩
    cases rem with
    | nil =>
      refine Eq.mpr (if_pos (show Str.ofString "" = chOf [] from rfl)) ?_
      intro h'' hx _
      have z := N' _ (up' _ hit)
      refine hend rfl led' h'' tk' st' (fr_but F' (fun b o hb e => hx b o (by simpa using hb) e) (Ne.symm z.2.1) z.2.2) fun l hl hne => ?_
      exact news_but (news_of N' hl) (fun b o hb e => hx b o (by simpa using hb) e) hne
    | cons c r =>
      have hne : ¬ (Str.ofString "" = one c) := by
        intro e
        have := congrArg (fun x : Str => x.cps.size) e
        simp [ofEmpty] at this
      refine Eq.mpr (if_neg (show ¬ Str.ofString "" = chOf (c :: r) from hne)) ?_
      exact hitem c r rfl t led' h' tk' st' F' N'

end Mine
namespace Mine
theorem reset_gt : True := by
  w_top off
  trivial
set_option maxRecDepth 100000
/-- the parts of get_token: its scope, its two inner loops -/
noncomputable def gtDef : Stmt := match (PySem.Challenge.rw_wn0028_02.prog.main.body[7]? : Option Stmt) with
  | some (.ClassDef _ _ _ (_ :: _ :: d :: _) _ _ _ _ _ _ _) => d
  | _ => .Pass default
noncomputable def gtS' : Scope := match gtDef with | .FunctionDef _ _ _ _ _ _ s _ _ _ => s | _ => default
noncomputable def gtFor : List Stmt := match gtDef with | .FunctionDef _ _ (_ :: _ :: _ :: .For _ _ b _ _ :: _) _ _ _ _ _ _ _ => b | _ => []
noncomputable def gtQ' : List Stmt := match gtFor with | _ :: .If _ (.For _ _ b _ _ :: _) _ _ :: _ => b | _ => []
noncomputable def gtW' : List Stmt := match gtFor with | _ :: .If _ _ (_ :: _ :: .For _ _ b _ _ :: _) _ :: _ => b | _ => []
noncomputable def gtSs : { x : Scope // gtS' = x } := by
  refine ⟨?_, ?h⟩; rotate_left
  conv => lhs; whnf
noncomputable def gtQs : { x : List Stmt // gtQ' = x } := by
  refine ⟨?_, ?h⟩; rotate_left
  conv => lhs; whnf
noncomputable def gtWs : { x : List Stmt // gtW' = x } := by
  refine ⟨?_, ?h⟩; rotate_left
  conv => lhs; whnf

end Mine
namespace Mine
theorem reset_loopQ : True := by
  w_top off
  trivial
noncomputable def lsLed (w : World) (it mo : Nat) (te : Tok) (rest : List (Addr × Obj)) (P : LexP) (qe : Nat) (y : LS) : List (Addr × Obj) :=
  lexLed w P y.ln y.tl y.sv y.se [] qe ++ (it, ciObj (.ref mo) (.str (Str.ofString "") te) false) :: (mo, methodObj (.ref 56) (.ref P.x)) :: rest
set_option maxRecDepth 100000 in
set_option maxHeartbeats 8000000 in
theorem loopQ (w : World) (P : LexP) (ok : P.Ok) (qe : Nat) (T' R' : List Nat) (LN : Int)
    {loose : List Str} {mean : ExcName → Option Value} {mg mb : Str → Option Value} {rest : List (Addr × Obj)} {dp un : Nat} {gd : Option (List Code)} {cn : Str} {a : Addr} {ccd : Value} {outer : List Env} {A₀ : Around} {base h₀ : Heap} {L : Addr} {m : Str → Option Value} {s : Shared} {R : Result → Shared → Prop} {px : Pos}
    {it mo : Nat} {te : Tok} {all : List (Addr × Obj)} (y : LS) (hC : CodeHd h₀ 112 108) (off : P.Off rest) (hit : P.pb < it ∧ P.pb < mo) (B : Below A₀ base outer h₀) (F : Fr h₀ L s.heap m) (X : (Mine.hd.heap_39 w.params).In h₀) (N : News h₀ L s.heap all) (hall : ∀ q ∈ lsLed w it mo te rest P qe y, q ∈ all) (T : Top PySem.W.topProg loose mean mg mb h₀)
    (hd : dp + 3 < recursionLimit) (hu : un + 44 < cLine) (hb : HasB m (lsVars it P y)) (hs : StrsAre y.sv (y.rem.map one).reverse) (hz : y.rem.length + y.tok.length ≤ 1000) (hx : lexQ y.rem y.tok.cps.toList y.ln = some (T', R', LN))
    (ret : ∀ tok t led' h' tk' m', tok.cps.toList = T' → LexSt w P LN R' [] qe led' → Fr h₀ L h' m' → News h₀ L h' (led' ++ rest) → R (.ok (.ret (.str tok t))) { s with heap := h', toks := tk' }) :
    codeAny (model PySem.Challenge.rw_wn0028_02.prog w) (ktrTop dp un gd cn gtSs.1 L a ccd [] outer) (.forLoop (.Name (Str.ofString "ch") px) (.ref it) gtQs.1 [] (envX cn gtSs.1 L a ccd [])) R s := by
   k_with_none
   have ok' := ok
   obtain ⟨x, d, pb, f, c, x1, d1, sg, ce, pb1, t1, t2, t3, t4, tw, u1, u2, u3, u4, u5, v1, vw, ct, pm, oc, oC, vs, tq⟩ := P
   obtain ⟨⟨o1, o2, o3, o4, o5, o6, o7, o8⟩, hcode, hname, hcell⟩ := ok
   have off2 := (off.cons (a := mo) (o := methodObj (.ref 56) (.ref x)) ok' hit.2).cons (a := it) (o := ciObj (.ref mo) (.str (Str.ofString "") te) false) ok' hit.1
   have off3 := off2.to (w := w) (ln := 0) (tl := 0) (sv := []) (se := 0) (qv := []) (qe := 0)
   dsimp only [gtSs, gtQs, lsVars, lsLed] at *
   refine for_code (σ := LS) (env := envOf _ _ _ _ _) (lsVars it ⟨x, d, pb, f, c, x1, d1, sg, ce, pb1, t1, t2, t3, t4, tw, u1, u2, u3, u4, u5, v1, vw, ct, pm, oc, oC, vs, tq⟩) (lsLed w it mo te rest ⟨x, d, pb, f, c, x1, d1, sg, ce, pb1, t1, t2, t3, t4, tw, u1, u2, u3, u4, u5, v1, vw, ct, pm, oc, oC, vs, tq⟩ qe)
     (fun n y => StrsAre y.sv (y.rem.map one).reverse ∧ y.rem.length < n ∧ y.rem.length + y.tok.length ≤ 1000 ∧ lexQ y.rem y.tok.cps.toList y.ln = some (T', R', LN)) (y.rem.length + 1) y F N hb hall ⟨hs, by omega, hz, hx⟩ ?_
   clear hs hz hx hb hall N F y
   intro n y h tk m₁ hok F N
   obtain ⟨rem, tok, ln, tl, sv, se, tt⟩ := y
   obtain ⟨h1, h2, h3, h5⟩ := hok
   dsimp only [lsVars, lsLed, mB] at *
   refine lex_next w ⟨x, d, pb, f, c, x1, d1, sg, ce, pb1, t1, t2, t3, t4, tw, u1, u2, u3, u4, u5, v1, vw, ct, pm, oc, oC, vs, tq⟩ ok' ln rem [] qe _ ⟨tl, sv, se, h1, rfl⟩ (by omega) hC off2.to (by k_asm) F (by k_asm) N (by k_asm) rfl (by ktr_room) (by ktr_units) (it := it) (mo := mo) (te := te) (.head _) (.tail _ (.head _)) ?_ ?_
   · intro e
     subst e
     cases h5
   · intro c' r e t led' h' tk' st' F' N'
     subst e
     clear N F h1
     obtain ⟨tl, sv, se, h1, rfl⟩ := st'
     dsimp only [lexLed] at N' off3
     simp only [List.cons_append, List.nil_append, List.forall_mem_cons] at N' off3
     obtain ⟨⟨-, -, hf1⟩, ⟨-, -, hf2⟩, ⟨-, -, hf3⟩, ⟨-, -, hf4⟩, ⟨-, -, hf5⟩, ⟨-, -, hf6⟩, ⟨-, -, hf7⟩, ⟨-, -, hf8⟩, ⟨-, -, hf9⟩, -⟩ := off3
     try dsimp only
     simp only [List.length_cons] at h2 h3
     have hq : (one c').length = 1 := rfl
     have hq2 : (chOf r).length ≤ 1 := by cases r <;> first | exact Nat.zero_le _ | exact Nat.le_refl _
     k_with "compareOp In str str" => refine SB.contains ?_
     k_with "inplaceOp Add str str" => (refine SB.iadd ?_ (by rw [sizeLine_eq]; omega); intro _ _)
     k_with "call ref nil" => (refine' Ctr.use (read_char w ⟨x, d, pb, f, c, x1, d1, sg, ce, pb1, t1, t2, t3, t4, tw, u1, u2, u3, u4, u5, v1, vw, ct, pm, oc, oC, vs, tq⟩ ok' (lnAft (c' :: r) ln) r [] qe _ ⟨tl, sv, se, h1, rfl⟩ (by omega)) hC pick_app off2.to ?k1 ?k2 ?k3 ?k4 ?k5 ?kK ?kd ?ku ?_; (case k1 => k_asm); (case k2 => k_asm); (case k3 => k_asm); (case k4 => k_asm); (case k5 => k_asm); (case kK => exact rfl); (case kd => ktr_room); (case ku => ktr_units); intro v9 led9 tl9 h9 tk9 hp9 _ F9 N9; obtain ⟨rfl, t9, rfl, tl2, sv2, se2, hs2, rfl⟩ := hp9; dsimp only [lexLed] at N9; simp only [List.cons_append, List.nil_append] at N9; dsimp only; (try k_sweep))
     k_steps
     · have h34 : (one c' == Str.ofString "\"") = true := by assumption
       rw [q_one, one_beq, decide_eq_true_eq] at h34
       rw [lexQ_cons, if_pos h34] at h5
       injection h5 with h5; injection h5 with e1 h5; injection h5 with e2 e3
       subst e1 e2 e3
       exact ret tok _ _ _ _ _ rfl ⟨tl, sv, se, h1, rfl⟩ (by k_asm) (news_drop2 (a := (it, ciObj (.ref mo) (.str (Str.ofString "") te) false)) (b := (mo, methodObj (.ref 56) (.ref x))) (by k_asm))
     · have h34 : (one c' == Str.ofString "\"") = false := by assumption
       rw [q_one, one_beq, decide_eq_false_iff_not] at h34
       have h92 : (one c' == Str.ofString "\\") = true := by assumption
       rw [b_one, one_beq, decide_eq_true_eq] at h92
       cases r with
       | nil => rw [lexQ_cons, if_neg (by simpa using h34), if_pos h92] at h5; cases h5
       | cons c2 r2 =>
         rw [lexQ_cons, if_neg (by simpa using h34), if_pos h92] at h5
         dsimp only at h5
         refine TurnEnd.mk (n - 1) ⟨r2, tok ++ one c2, lnAft (c2 :: r2) (lnAft (c' :: c2 :: r2) ln), tl2, sv2, se2, _⟩ (by omega) (by k_asm) (by k_asm) ⟨rfl, rfl, rfl, trivial⟩ (fun p hp => hp) ⟨hs2, ?_, ?_, ?_⟩
         · show r2.length < n - 1
           simp only [List.length_cons] at h2; omega
         · show r2.length + (tok ++ one c2).length ≤ 1000
           rw [Str.length_append]; simp only [List.length_cons] at h3; show r2.length + (tok.length + 1) ≤ 1000; omega
         · show lexQ r2 (tok ++ one c2).cps.toList _ = _
           rw [Str.cps_append, Array.toList_append]; exact h5
     · have h34 : (one c' == Str.ofString "\"") = false := by assumption
       rw [q_one, one_beq, decide_eq_false_iff_not] at h34
       have h92 : (one c' == Str.ofString "\\") = false := by assumption
       rw [b_one, one_beq, decide_eq_false_iff_not] at h92
       rw [lexQ_cons, if_neg (by simpa using h34), if_neg h92] at h5
       refine TurnEnd.mk (n - 1) ⟨r, tok ++ one c', lnAft (c' :: r) ln, tl, sv, se, _⟩ (by omega) (by k_asm) (by k_asm) ⟨rfl, rfl, rfl, trivial⟩ (fun p hp => hp) ⟨h1, ?_, ?_, ?_⟩
       · show r.length < n - 1
         omega
       · show r.length + (tok ++ one c').length ≤ 1000
         rw [Str.length_append]; show r.length + (tok.length + 1) ≤ 1000; omega
       · show lexQ r (tok ++ one c').cps.toList _ = _
         rw [Str.cps_append, Array.toList_append]; exact h5

end Mine
namespace Mine
theorem reset_loopW : True := by
  w_top off
  trivial
set_option maxRecDepth 100000 in
set_option maxHeartbeats 8000000 in
theorem loopW (w : World) (P : LexP) (ok : P.Ok) (qe : Nat) (T' R' : List Nat) (LN : Int)
    {loose : List Str} {mean : ExcName → Option Value} {mg mb : Str → Option Value} {rest : List (Addr × Obj)} {dp un : Nat} {gd : Option (List Code)} {cn : Str} {a : Addr} {ccd : Value} {outer : List Env} {A₀ : Around} {base h₀ : Heap} {L : Addr} {m : Str → Option Value} {s : Shared} {R : Result → Shared → Prop} {px : Pos}
    {it mo : Nat} {te : Tok} {all : List (Addr × Obj)} (y : LS) (hC : CodeHd h₀ 112 108) (off : P.Off rest) (hit : P.pb < it ∧ P.pb < mo) (B : Below A₀ base outer h₀) (F : Fr h₀ L s.heap m) (X : (Mine.hd.heap_39 w.params).In h₀) (N : News h₀ L s.heap all) (hall : ∀ q ∈ lsLed w it mo te rest P qe y, q ∈ all) (T : Top PySem.W.topProg loose mean mg mb h₀)
    (hd : dp + 3 < recursionLimit) (hu : un + 44 < cLine) (hb : HasB m (lsVars it P y)) (hs : StrsAre y.sv (y.rem.map one).reverse) (hz : y.rem.length + y.tok.length ≤ 1000) (hx : lexW y.rem y.tok.cps.toList y.ln = some (T', R', LN))
    (ret : ∀ tok t led' h' tk' m', tok.cps.toList = T' → LexSt w P LN R' [] qe led' → Fr h₀ L h' m' → News h₀ L h' (led' ++ rest) → R (.ok (.ret (.str tok t))) { s with heap := h', toks := tk' }) :
    codeAny (model PySem.Challenge.rw_wn0028_02.prog w) (ktrTop dp un gd cn gtSs.1 L a ccd [] outer) (.forLoop (.Name (Str.ofString "ch") px) (.ref it) gtWs.1 [] (envX cn gtSs.1 L a ccd [])) R s := by
   k_with_none
   have ok' := ok
   obtain ⟨x, d, pb, f, c, x1, d1, sg, ce, pb1, t1, t2, t3, t4, tw, u1, u2, u3, u4, u5, v1, vw, ct, pm, oc, oC, vs, tq⟩ := P
   obtain ⟨⟨o1, o2, o3, o4, o5, o6, o7, o8⟩, hcode, hname, hcell⟩ := ok
   have off2 := (off.cons (a := mo) (o := methodObj (.ref 56) (.ref x)) ok' hit.2).cons (a := it) (o := ciObj (.ref mo) (.str (Str.ofString "") te) false) ok' hit.1
   have off3 := off2.to (w := w) (ln := 0) (tl := 0) (sv := []) (se := 0) (qv := []) (qe := 0)
   dsimp only [gtSs, gtWs, lsVars, lsLed] at *
   refine for_code (σ := LS) (env := envOf _ _ _ _ _) (lsVars it ⟨x, d, pb, f, c, x1, d1, sg, ce, pb1, t1, t2, t3, t4, tw, u1, u2, u3, u4, u5, v1, vw, ct, pm, oc, oC, vs, tq⟩) (lsLed w it mo te rest ⟨x, d, pb, f, c, x1, d1, sg, ce, pb1, t1, t2, t3, t4, tw, u1, u2, u3, u4, u5, v1, vw, ct, pm, oc, oC, vs, tq⟩ qe)
     (fun n y => StrsAre y.sv (y.rem.map one).reverse ∧ y.rem.length < n ∧ y.rem.length + y.tok.length ≤ 1000 ∧ lexW y.rem y.tok.cps.toList y.ln = some (T', R', LN)) (y.rem.length + 1) y F N hb hall ⟨hs, by omega, hz, hx⟩ ?_
   clear hs hz hx hb hall N F y
   intro n y h tk m₁ hok F N
   obtain ⟨rem, tok, ln, tl, sv, se, tt⟩ := y
   obtain ⟨h1, h2, h3, h5⟩ := hok
   dsimp only [lsVars, lsLed, mB] at *
   refine lex_next w ⟨x, d, pb, f, c, x1, d1, sg, ce, pb1, t1, t2, t3, t4, tw, u1, u2, u3, u4, u5, v1, vw, ct, pm, oc, oC, vs, tq⟩ ok' ln rem [] qe _ ⟨tl, sv, se, h1, rfl⟩ (by omega) hC off2.to (by k_asm) F (by k_asm) N (by k_asm) rfl (by ktr_room) (by ktr_units) (it := it) (mo := mo) (te := te) (.head _) (.tail _ (.head _)) ?_ ?_
   · intro e
     subst e
     cases h5
   · intro c' r e t led' h' tk' st' F' N'
     subst e
     clear N F h1
     obtain ⟨tl, sv, se, h1, rfl⟩ := st'
     dsimp only [lexLed] at N' off3
     simp only [List.cons_append, List.nil_append, List.forall_mem_cons] at N' off3
     obtain ⟨⟨-, -, hf1⟩, ⟨-, -, hf2⟩, ⟨-, -, hf3⟩, ⟨-, -, hf4⟩, ⟨-, -, hf5⟩, ⟨-, -, hf6⟩, ⟨-, -, hf7⟩, ⟨-, -, hf8⟩, ⟨-, -, hf9⟩, -⟩ := off3
     try dsimp only
     simp only [List.length_cons] at h2 h3
     have hq : (one c').length = 1 := rfl
     have hq2 : (chOf r).length ≤ 1 := by cases r <;> first | exact Nat.zero_le _ | exact Nat.le_refl _
     k_with "compareOp In str str" => refine SB.contains ?_
     k_with "inplaceOp Add str str" => (refine SB.iadd ?_ (by rw [sizeLine_eq]; omega); intro _ _)
     k_with "call ref nil" => (refine' Ctr.use (read_char w ⟨x, d, pb, f, c, x1, d1, sg, ce, pb1, t1, t2, t3, t4, tw, u1, u2, u3, u4, u5, v1, vw, ct, pm, oc, oC, vs, tq⟩ ok' (lnAft (c' :: r) ln) r [] qe _ ⟨tl, sv, se, h1, rfl⟩ (by omega)) hC pick_app off2.to ?k1 ?k2 ?k3 ?k4 ?k5 ?kK ?kd ?ku ?_; (case k1 => k_asm); (case k2 => k_asm); (case k3 => k_asm); (case k4 => k_asm); (case k5 => k_asm); (case kK => exact rfl); (case kd => ktr_room); (case ku => ktr_units); intro v9 led9 tl9 h9 tk9 hp9 _ F9 N9; obtain ⟨rfl, t9, rfl, tl2, sv2, se2, hs2, rfl⟩ := hp9; dsimp only [lexLed] at N9; simp only [List.cons_append, List.nil_append] at N9; dsimp only; (try k_sweep))
     k_steps
     · have h34 : Txt.contains (Str.ofString "\n\t\x0d ") (one c') = true := by assumption
       rw [contains_ws] at h34
       rw [lexW_cons, if_pos h34] at h5
       injection h5 with h5; injection h5 with e1 h5; injection h5 with e2 e3
       subst e1 e2 e3
       exact ret tok _ _ _ _ _ rfl ⟨tl, sv, se, h1, rfl⟩ (by k_asm) (news_drop2 (a := (it, ciObj (.ref mo) (.str (Str.ofString "") te) false)) (b := (mo, methodObj (.ref 56) (.ref x))) (by k_asm))
     · have h34 : Txt.contains (Str.ofString "\n\t\x0d ") (one c') = false := by assumption
       rw [contains_ws] at h34
       have h92 : (one c' == Str.ofString "\\") = true := by assumption
       rw [b_one, one_beq, decide_eq_true_eq] at h92
       cases r with
       | nil => rw [lexW_cons, if_neg (by simpa using h34), if_pos h92] at h5; cases h5
       | cons c2 r2 =>
         rw [lexW_cons, if_neg (by simpa using h34), if_pos h92] at h5
         dsimp only at h5
         refine TurnEnd.mk (n - 1) ⟨r2, tok ++ one c2, lnAft (c2 :: r2) (lnAft (c' :: c2 :: r2) ln), tl2, sv2, se2, _⟩ (by omega) (by k_asm) (by k_asm) ⟨rfl, rfl, rfl, trivial⟩ (fun p hp => hp) ⟨hs2, ?_, ?_, ?_⟩
         · show r2.length < n - 1
           simp only [List.length_cons] at h2; omega
         · show r2.length + (tok ++ one c2).length ≤ 1000
           rw [Str.length_append]; simp only [List.length_cons] at h3; show r2.length + (tok.length + 1) ≤ 1000; omega
         · show lexW r2 (tok ++ one c2).cps.toList _ = _
           rw [Str.cps_append, Array.toList_append]; exact h5
     · have h34 : Txt.contains (Str.ofString "\n\t\x0d ") (one c') = false := by assumption
       rw [contains_ws] at h34
       have h92 : (one c' == Str.ofString "\\") = false := by assumption
       rw [b_one, one_beq, decide_eq_false_iff_not] at h92
       rw [lexW_cons, if_neg (by simpa using h34), if_neg h92] at h5
       refine TurnEnd.mk (n - 1) ⟨r, tok ++ one c', lnAft (c' :: r) ln, tl, sv, se, _⟩ (by omega) (by k_asm) (by k_asm) ⟨rfl, rfl, rfl, trivial⟩ (fun p hp => hp) ⟨h1, ?_, ?_, ?_⟩
       · show r.length < n - 1
         omega
       · show r.length + (tok ++ one c').length ≤ 1000
         rw [Str.length_append]; show r.length + (tok.length + 1) ≤ 1000; omega
       · show lexW r (tok ++ one c').cps.toList _ = _
         rw [Str.cps_append, Array.toList_append]; exact h5

end Mine
namespace Mine
theorem reset_tok_read : True := by
  w_top off
  trivial
namespace tok_read
set_option maxRecDepth 100000 in
set_option maxHeartbeats 8000000 in
noncomputable def seg9 : {p : PySem.World → Int → (List Nat) → Nat → PySem.Tok → (List PySem.Value) → Nat → (List PySem.Str) → (PySem.ExcName → Option PySem.Value) → (PySem.Str → Option PySem.Value) → (PySem.Str → Option PySem.Value) → (List (PySem.Addr × PySem.Obj)) → Nat → Nat → (Option (List PySem.Code)) → PySem.Str → PySem.Scope → PySem.Addr → PySem.Value → (List (PySem.Str × PySem.Addr)) → (List PySem.Env) → PySem.Around → PySem.Heap → PySem.Heap → PySem.Addr → (PySem.Str → Option PySem.Value) → PySem.Shared → (PySem.Result → PySem.Shared → Prop) → Nat → Nat → Nat → Nat → Nat → Nat → Nat → Nat → Nat → Nat → PySem.Tok → PySem.Tok → PySem.Tok → PySem.Tok → PySem.Tok → PySem.Tok → PySem.Tok → PySem.Tok → PySem.Tok → PySem.Tok → PySem.Tok → PySem.Tok → PySem.Value → PySem.Value → PySem.Obj → PySem.Obj → (Array PySem.Value) → PySem.Tok → PySem.Heap → PySem.Addr → PySem.Heap → Nat → PySem.Heap → PySem.Heap → PySem.Addr → PySem.Heap → PySem.Addr → PySem.Tok → PySem.Heap → Nat → Nat → PySem.Heap → Nat → (PySem.Str → Option PySem.Value) → Int → PySem.Tok → (List PySem.Value) → Nat → PySem.Tok → Nat → PySem.Tok → PySem.Heap → Nat → PySem.Tok → (List PySem.Value) → Nat → Prop // Hid (∀ a0 a1 a2 a3 a4 a5 a6 a7 a8 a9 a10 a11 a12 a13 a14 a15 a16 a17 a18 a19 a20 a21 a22 a23 a24 a25 a26 a27 a28 a29 a30 a31 a32 a33 a34 a35 a36 a37 a38 a39 a40 a41 a42 a43 a44 a45 a46 a47 a48 a49 a50 a51 a52 a53 a54 a55 a56 a57 a58 a59 a60 a61 a62 a63 a64 a65 a66 a67 a68 a69 a70 a71 a72 a73 a74 a75 a76 a77 a78 a79 a80 a81 a82 a83, p a0 a1 a2 a3 a4 a5 a6 a7 a8 a9 a10 a11 a12 a13 a14 a15 a16 a17 a18 a19 a20 a21 a22 a23 a24 a25 a26 a27 a28 a29 a30 a31 a32 a33 a34 a35 a36 a37 a38 a39 a40 a41 a42 a43 a44 a45 a46 a47 a48 a49 a50 a51 a52 a53 a54 a55 a56 a57 a58 a59 a60 a61 a62 a63 a64 a65 a66 a67 a68 a69 a70 a71 a72 a73 a74 a75 a76 a77 a78 a79 a80 a81 a82 a83) → ∀ (w : World) (P : LexP) (ok : P.Ok) (ln : Int) (rem : List Nat) (qe : Nat) (led : List (Addr × Obj)) (st : LexSt w P ln rem [] qe led) (hr : rem.length ≤ 1000) (T' R' : List Nat) (LN : Int) (hx : lexT rem ln = some (T', R', LN)), Ctr (fun h => CodeHd h 112 108) PySem.Challenge.rw_wn0028_02.prog w (Mine.hd.heap_39 w.params) PySem.W.topProg 5 60 63 [.ref P.x] led (fun v led tl => tl = [] ∧ ∃ tk t, v = .str tk t ∧ tk.cps.toList = T' ∧ LexSt w P LN R' [] qe led)} := segOf (by
   intro ht9
   intro w P ok ln rem qe led st hr T' R' LN hx
   obtain ⟨tl, sv, se, hs, rfl⟩ := st
   intro loose mean mg mb rest dp un gd cn cs a ccd cl outer A₀ base h₀ L m s R hpre hoff B F₀ X N₀ T hk hd hu hret
   k_with_none
   have ok' := ok
   obtain ⟨x, d, pb, f, c, x1, d1, sg, ce, pb1, t1, t2, t3, t4, tw, u1, u2, u3, u4, u5, v1, vw, ct, pm, oc, oC, vs, tq⟩ := P
   obtain ⟨⟨o1, o2, o3, o4, o5, o6, o7, o8⟩, hcode, hname, hcell⟩ := ok
   have hoff' := LexP.Off.of hoff
   dsimp only [lexLed] at *
   simp only [List.cons_append, List.nil_append, List.forall_mem_cons] at N₀ hoff
   obtain ⟨hf1, hf2, hf3, hf4, hf5, hf6, hf7, hf8, hf9, -⟩ := hoff
   k_with "truthy ref" => refine truthy_nil (by is_list) ?_
   k_with "call builtin:iter cons nil" => (refine ci_make (by k_asm) (by k_asm) (by k_mem) ?_; intro it9 h9 mo9 te9 e9 e8 F9 N9 l9; clear e8; subst e9; (try k_lt l9); (try k_sweep))
   k_with "exec For Name Name cons nil" => refine stop_in ?_
   k_dflt cell_enter
   have hC' : CodeHd _ 112 108 := CodeHd.keeps hpre (Fr.keep ‹Fr h₀ _ _ _›)
   k_steps
   refine stop_out ?_
   k_with "pyIter ref" => refine stop_in ?_
   refine wpAny_For ?_
   k_steps
   refine stop_out ?_
   refine ci_self (News.get (by k_asm) (by k_mem)) ?_
   refine for_code (σ := LS) (env := envOf _ _ _ _ _) (lsVars it9 ⟨x, d, pb, f, c, x1, d1, sg, ce, pb1, t1, t2, t3, t4, tw, u1, u2, u3, u4, u5, v1, vw, ct, pm, oc, oC, vs, tq⟩) (lsLed w it9 mo9 te9 rest ⟨x, d, pb, f, c, x1, d1, sg, ce, pb1, t1, t2, t3, t4, tw, u1, u2, u3, u4, u5, v1, vw, ct, pm, oc, oC, vs, tq⟩ qe)
     (fun n y => StrsAre y.sv (y.rem.map one).reverse ∧ y.rem.length < n ∧ y.rem.length ≤ 1000 ∧ y.tok = Str.ofString "" ∧ lexT y.rem y.ln = some (T', R', LN)) (rem.length + 1) ⟨rem, _, ln, tl, sv, se, _⟩ (by k_asm) (by k_asm) ⟨rfl, rfl, rfl, trivial⟩ (fun p hp => ?_) ⟨hs, by simp, hr, rfl, hx⟩ ?_
   · exact (show ∀ p ∈ _, p ∈ _ by dsimp only [lsLed, lexLed]; simp only [List.cons_append, List.nil_append]; (repeat' first | exact List.forall_mem_nil _ | refine mem_cons_all ?_ ?_ | exact sub_refl | refine sub_tail ?_ | k_mem)) p hp
   · intro n y h tk m₁ hok F N
     obtain ⟨rem, tok, ln, tl, sv, se, tt⟩ := y
     obtain ⟨h1, h2, h3, h4, h5⟩ := hok
     dsimp only [lsVars, lsLed, mB] at *
     subst h4
     have off2 := (hoff'.cons (a := mo9) (o := methodObj (.ref 56) (.ref x)) ok' (by show @LT.lt Nat _ pb mo9; omega)).cons (a := it9) (o := ciObj (.ref mo9) (.str (Str.ofString "") te9) false) ok' (by show @LT.lt Nat _ pb it9; omega)
     refine lex_next w ⟨x, d, pb, f, c, x1, d1, sg, ce, pb1, t1, t2, t3, t4, tw, u1, u2, u3, u4, u5, v1, vw, ct, pm, oc, oC, vs, tq⟩ ok' ln rem [] qe _ ⟨tl, sv, se, h1, rfl⟩ h3 hC' off2.to (by k_asm) F (by k_asm) N (by k_asm) rfl (by ktr_room) (by ktr_units) (it := it9) (mo := mo9) (te := te9) (.head _) (.tail _ (.head _)) ?_ ?_
     · intro e led' h' tk' st' F' hN
       subst e
       obtain ⟨tl, sv, se, h1', rfl⟩ := st'
       have N' := hN (lexLed w ⟨x, d, pb, f, c, x1, d1, sg, ce, pb1, t1, t2, t3, t4, tw, u1, u2, u3, u4, u5, v1, vw, ct, pm, oc, oC, vs, tq⟩ ln tl sv se [] qe ++ rest) (fun q hq => (List.mem_append.mp hq).elim (List.mem_append_left _) fun z => List.mem_append_right _ (.tail _ (.tail _ z))) (by dsimp only [lexLed]; simp only [List.cons_append, List.nil_append]; k_all)
       dsimp only [lexLed] at N'
       simp only [List.cons_append, List.nil_append] at N'
       k_steps
       rw [lexT] at h5
       injection h5 with h5; injection h5 with e1 h5; injection h5 with e2 e3
       subst e1 e2 e3
       exact hret _ _ [] _ _ ⟨rfl, _, _, rfl, by rw [ofEmpty], tl, sv, se, h1', rfl⟩ (fun _ _ _ h => nomatch h) (by k_asm) (by k_asm)
     · intro c' r e t led' h' tk' st' F' N'
       subst e
       clear N F h1
       obtain ⟨tl, sv, se, h1, rfl⟩ := st'
       dsimp only [lexLed] at N'
       simp only [List.cons_append, List.nil_append] at N'
       rename_i z1 z2 z3 z4 z5 z6 z7 y8 y9 y10 y11 z12 z13 z14 y15 z16 y17 y18 z19 z20 z21 z22
       clear hr hx hs hpre B F₀ hk N₀ hcode hname hcell o1 o2 o3 o4 o5 o6 o7 o8 hf1 hf2 hf3 hf4 hf5 hf6 hf7 hf8 hf9 y8 y17 y18
       revert T' R' LN X T hd hu hret ok' hoff' y9 y10 y11 qk ek hC' y15 l9 off2 r F' h2 h3 h5 h1 N'
       exact ht9.out w z1 rem qe z2 z3 z4 loose mean mg mb rest dp un gd cn cs a ccd cl outer A₀ base h₀ L m s R x d pb f c x1 d1 sg ce pb1 t1 t2 t3 t4 tw u1 u2 u3 u4 u5 v1 vw ct pm oc oC vs tq z5 z6 z7 z12 z13 z14 it9 h9 mo9 te9 z16 z19 n h tk m₁ ln z20 z21 z22 tt c' t h' tk' tl sv se
)
noncomputable def G9 (d : PySem.World × Int × (List Nat) × Nat × PySem.Tok × (List PySem.Value) × Nat × (List PySem.Str) × (PySem.ExcName → Option PySem.Value) × (PySem.Str → Option PySem.Value) × (PySem.Str → Option PySem.Value) × (List (PySem.Addr × PySem.Obj)) × Nat × Nat × (Option (List PySem.Code)) × PySem.Str × PySem.Scope × PySem.Addr × PySem.Value × (List (PySem.Str × PySem.Addr)) × (List PySem.Env) × PySem.Around × PySem.Heap × PySem.Heap × PySem.Addr × (PySem.Str → Option PySem.Value) × PySem.Shared × (PySem.Result → PySem.Shared → Prop) × Nat × Nat × Nat × Nat × Nat × Nat × Nat × Nat × Nat × Nat × PySem.Tok × PySem.Tok × PySem.Tok × PySem.Tok × PySem.Tok × PySem.Tok × PySem.Tok × PySem.Tok × PySem.Tok × PySem.Tok × PySem.Tok × PySem.Tok × PySem.Value × PySem.Value × PySem.Obj × PySem.Obj × (Array PySem.Value) × PySem.Tok × PySem.Heap × PySem.Addr × PySem.Heap × Nat × PySem.Heap × PySem.Heap × PySem.Addr × PySem.Heap × PySem.Addr × PySem.Tok × PySem.Heap × Nat × Nat × PySem.Heap × Nat × (PySem.Str → Option PySem.Value) × Int × PySem.Tok × (List PySem.Value) × Nat × PySem.Tok × Nat × PySem.Tok × PySem.Heap × Nat × PySem.Tok × (List PySem.Value) × Nat) : Prop := seg9.1 d.1 d.2.1 d.2.2.1 d.2.2.2.1 d.2.2.2.2.1 d.2.2.2.2.2.1 d.2.2.2.2.2.2.1 d.2.2.2.2.2.2.2.1 d.2.2.2.2.2.2.2.2.1 d.2.2.2.2.2.2.2.2.2.1 d.2.2.2.2.2.2.2.2.2.2.1 d.2.2.2.2.2.2.2.2.2.2.2.1 d.2.2.2.2.2.2.2.2.2.2.2.2.1 d.2.2.2.2.2.2.2.2.2.2.2.2.2.1 d.2.2.2.2.2.2.2.2.2.2.2.2.2.2.1 d.2.2.2.2.2.2.2.2.2.2.2.2.2.2.2.1 d.2.2.2.2.2.2.2.2.2.2.2.2.2.2.2.2.1 d.2.2.2.2.2.2.2.2.2.2.2.2.2.2.2.2.2.1 d.2.2.2.2.2.2.2.2.2.2.2.2.2.2.2.2.2.2.1 d.2.2.2.2.2.2.2.2.2.2.2.2.2.2.2.2.2.2.2.1 d.2.2.2.2.2.2.2.2.2.2.2.2.2.2.2.2.2.2.2.2.1 d.2.2.2.2.2.2.2.2.2.2.2.2.2.2.2.2.2.2.2.2.2.1 d.2.2.2.2.2.2.2.2.2.2.2.2.2.2.2.2.2.2.2.2.2.2.1 d.2.2.2.2.2.2.2.2.2.2.2.2.2.2.2.2.2.2.2.2.2.2.2.1 d.2.2.2.2.2.2.2.2.2.2.2.2.2.2.2.2.2.2.2.2.2.2.2.2.1 d.2.2.2.2.2.2.2.2.2.2.2.2.2.2.2.2.2.2.2.2.2.2.2.2.2.1 d.2.2.2.2.2.2.2.2.2.2.2.2.2.2.2.2.2.2.2.2.2.2.2.2.2.2.1 d.2.2.2.2.2.2.2.2.2.2.2.2.2.2.2.2.2.2.2.2.2.2.2.2.2.2.2.1 d.2.2.2.2.2.2.2.2.2.2.2.2.2.2.2.2.2.2.2.2.2.2.2.2.2.2.2.2.1 d.2.2.2.2.2.2.2.2.2.2.2.2.2.2.2.2.2.2.2.2.2.2.2.2.2.2.2.2.2.1 d.2.2.2.2.2.2.2.2.2.2.2.2.2.2.2.2.2.2.2.2.2.2.2.2.2.2.2.2.2.2.1 d.2.2.2.2.2.2.2.2.2.2.2.2.2.2.2.2.2.2.2.2.2.2.2.2.2.2.2.2.2.2.2.1 d.2.2.2.2.2.2.2.2.2.2.2.2.2.2.2.2.2.2.2.2.2.2.2.2.2.2.2.2.2.2.2.2.1 d.2.2.2.2.2.2.2.2.2.2.2.2.2.2.2.2.2.2.2.2.2.2.2.2.2.2.2.2.2.2.2.2.2.1 d.2.2.2.2.2.2.2.2.2.2.2.2.2.2.2.2.2.2.2.2.2.2.2.2.2.2.2.2.2.2.2.2.2.2.1 d.2.2.2.2.2.2.2.2.2.2.2.2.2.2.2.2.2.2.2.2.2.2.2.2.2.2.2.2.2.2.2.2.2.2.2.1 d.2.2.2.2.2.2.2.2.2.2.2.2.2.2.2.2.2.2.2.2.2.2.2.2.2.2.2.2.2.2.2.2.2.2.2.2.1 d.2.2.2.2.2.2.2.2.2.2.2.2.2.2.2.2.2.2.2.2.2.2.2.2.2.2.2.2.2.2.2.2.2.2.2.2.2.1 d.2.2.2.2.2.2.2.2.2.2.2.2.2.2.2.2.2.2.2.2.2.2.2.2.2.2.2.2.2.2.2.2.2.2.2.2.2.2.1 d.2.2.2.2.2.2.2.2.2.2.2.2.2.2.2.2.2.2.2.2.2.2.2.2.2.2.2.2.2.2.2.2.2.2.2.2.2.2.2.1 d.2.2.2.2.2.2.2.2.2.2.2.2.2.2.2.2.2.2.2.2.2.2.2.2.2.2.2.2.2.2.2.2.2.2.2.2.2.2.2.2.1 d.2.2.2.2.2.2.2.2.2.2.2.2.2.2.2.2.2.2.2.2.2.2.2.2.2.2.2.2.2.2.2.2.2.2.2.2.2.2.2.2.2.1 d.2.2.2.2.2.2.2.2.2.2.2.2.2.2.2.2.2.2.2.2.2.2.2.2.2.2.2.2.2.2.2.2.2.2.2.2.2.2.2.2.2.2.1 d.2.2.2.2.2.2.2.2.2.2.2.2.2.2.2.2.2.2.2.2.2.2.2.2.2.2.2.2.2.2.2.2.2.2.2.2.2.2.2.2.2.2.2.1 d.2.2.2.2.2.2.2.2.2.2.2.2.2.2.2.2.2.2.2.2.2.2.2.2.2.2.2.2.2.2.2.2.2.2.2.2.2.2.2.2.2.2.2.2.1 d.2.2.2.2.2.2.2.2.2.2.2.2.2.2.2.2.2.2.2.2.2.2.2.2.2.2.2.2.2.2.2.2.2.2.2.2.2.2.2.2.2.2.2.2.2.1 d.2.2.2.2.2.2.2.2.2.2.2.2.2.2.2.2.2.2.2.2.2.2.2.2.2.2.2.2.2.2.2.2.2.2.2.2.2.2.2.2.2.2.2.2.2.2.1 d.2.2.2.2.2.2.2.2.2.2.2.2.2.2.2.2.2.2.2.2.2.2.2.2.2.2.2.2.2.2.2.2.2.2.2.2.2.2.2.2.2.2.2.2.2.2.2.1 d.2.2.2.2.2.2.2.2.2.2.2.2.2.2.2.2.2.2.2.2.2.2.2.2.2.2.2.2.2.2.2.2.2.2.2.2.2.2.2.2.2.2.2.2.2.2.2.2.1 d.2.2.2.2.2.2.2.2.2.2.2.2.2.2.2.2.2.2.2.2.2.2.2.2.2.2.2.2.2.2.2.2.2.2.2.2.2.2.2.2.2.2.2.2.2.2.2.2.2.1 d.2.2.2.2.2.2.2.2.2.2.2.2.2.2.2.2.2.2.2.2.2.2.2.2.2.2.2.2.2.2.2.2.2.2.2.2.2.2.2.2.2.2.2.2.2.2.2.2.2.2.1 d.2.2.2.2.2.2.2.2.2.2.2.2.2.2.2.2.2.2.2.2.2.2.2.2.2.2.2.2.2.2.2.2.2.2.2.2.2.2.2.2.2.2.2.2.2.2.2.2.2.2.2.1 d.2.2.2.2.2.2.2.2.2.2.2.2.2.2.2.2.2.2.2.2.2.2.2.2.2.2.2.2.2.2.2.2.2.2.2.2.2.2.2.2.2.2.2.2.2.2.2.2.2.2.2.2.1 d.2.2.2.2.2.2.2.2.2.2.2.2.2.2.2.2.2.2.2.2.2.2.2.2.2.2.2.2.2.2.2.2.2.2.2.2.2.2.2.2.2.2.2.2.2.2.2.2.2.2.2.2.2.1 d.2.2.2.2.2.2.2.2.2.2.2.2.2.2.2.2.2.2.2.2.2.2.2.2.2.2.2.2.2.2.2.2.2.2.2.2.2.2.2.2.2.2.2.2.2.2.2.2.2.2.2.2.2.2.1 d.2.2.2.2.2.2.2.2.2.2.2.2.2.2.2.2.2.2.2.2.2.2.2.2.2.2.2.2.2.2.2.2.2.2.2.2.2.2.2.2.2.2.2.2.2.2.2.2.2.2.2.2.2.2.2.1 d.2.2.2.2.2.2.2.2.2.2.2.2.2.2.2.2.2.2.2.2.2.2.2.2.2.2.2.2.2.2.2.2.2.2.2.2.2.2.2.2.2.2.2.2.2.2.2.2.2.2.2.2.2.2.2.2.1 d.2.2.2.2.2.2.2.2.2.2.2.2.2.2.2.2.2.2.2.2.2.2.2.2.2.2.2.2.2.2.2.2.2.2.2.2.2.2.2.2.2.2.2.2.2.2.2.2.2.2.2.2.2.2.2.2.2.1 d.2.2.2.2.2.2.2.2.2.2.2.2.2.2.2.2.2.2.2.2.2.2.2.2.2.2.2.2.2.2.2.2.2.2.2.2.2.2.2.2.2.2.2.2.2.2.2.2.2.2.2.2.2.2.2.2.2.2.1 d.2.2.2.2.2.2.2.2.2.2.2.2.2.2.2.2.2.2.2.2.2.2.2.2.2.2.2.2.2.2.2.2.2.2.2.2.2.2.2.2.2.2.2.2.2.2.2.2.2.2.2.2.2.2.2.2.2.2.2.1 d.2.2.2.2.2.2.2.2.2.2.2.2.2.2.2.2.2.2.2.2.2.2.2.2.2.2.2.2.2.2.2.2.2.2.2.2.2.2.2.2.2.2.2.2.2.2.2.2.2.2.2.2.2.2.2.2.2.2.2.2.1 d.2.2.2.2.2.2.2.2.2.2.2.2.2.2.2.2.2.2.2.2.2.2.2.2.2.2.2.2.2.2.2.2.2.2.2.2.2.2.2.2.2.2.2.2.2.2.2.2.2.2.2.2.2.2.2.2.2.2.2.2.2.1 d.2.2.2.2.2.2.2.2.2.2.2.2.2.2.2.2.2.2.2.2.2.2.2.2.2.2.2.2.2.2.2.2.2.2.2.2.2.2.2.2.2.2.2.2.2.2.2.2.2.2.2.2.2.2.2.2.2.2.2.2.2.2.1 d.2.2.2.2.2.2.2.2.2.2.2.2.2.2.2.2.2.2.2.2.2.2.2.2.2.2.2.2.2.2.2.2.2.2.2.2.2.2.2.2.2.2.2.2.2.2.2.2.2.2.2.2.2.2.2.2.2.2.2.2.2.2.2.1 d.2.2.2.2.2.2.2.2.2.2.2.2.2.2.2.2.2.2.2.2.2.2.2.2.2.2.2.2.2.2.2.2.2.2.2.2.2.2.2.2.2.2.2.2.2.2.2.2.2.2.2.2.2.2.2.2.2.2.2.2.2.2.2.2.1 d.2.2.2.2.2.2.2.2.2.2.2.2.2.2.2.2.2.2.2.2.2.2.2.2.2.2.2.2.2.2.2.2.2.2.2.2.2.2.2.2.2.2.2.2.2.2.2.2.2.2.2.2.2.2.2.2.2.2.2.2.2.2.2.2.2.1 d.2.2.2.2.2.2.2.2.2.2.2.2.2.2.2.2.2.2.2.2.2.2.2.2.2.2.2.2.2.2.2.2.2.2.2.2.2.2.2.2.2.2.2.2.2.2.2.2.2.2.2.2.2.2.2.2.2.2.2.2.2.2.2.2.2.2.1 d.2.2.2.2.2.2.2.2.2.2.2.2.2.2.2.2.2.2.2.2.2.2.2.2.2.2.2.2.2.2.2.2.2.2.2.2.2.2.2.2.2.2.2.2.2.2.2.2.2.2.2.2.2.2.2.2.2.2.2.2.2.2.2.2.2.2.2.1 d.2.2.2.2.2.2.2.2.2.2.2.2.2.2.2.2.2.2.2.2.2.2.2.2.2.2.2.2.2.2.2.2.2.2.2.2.2.2.2.2.2.2.2.2.2.2.2.2.2.2.2.2.2.2.2.2.2.2.2.2.2.2.2.2.2.2.2.2.1 d.2.2.2.2.2.2.2.2.2.2.2.2.2.2.2.2.2.2.2.2.2.2.2.2.2.2.2.2.2.2.2.2.2.2.2.2.2.2.2.2.2.2.2.2.2.2.2.2.2.2.2.2.2.2.2.2.2.2.2.2.2.2.2.2.2.2.2.2.2.1 d.2.2.2.2.2.2.2.2.2.2.2.2.2.2.2.2.2.2.2.2.2.2.2.2.2.2.2.2.2.2.2.2.2.2.2.2.2.2.2.2.2.2.2.2.2.2.2.2.2.2.2.2.2.2.2.2.2.2.2.2.2.2.2.2.2.2.2.2.2.2.1 d.2.2.2.2.2.2.2.2.2.2.2.2.2.2.2.2.2.2.2.2.2.2.2.2.2.2.2.2.2.2.2.2.2.2.2.2.2.2.2.2.2.2.2.2.2.2.2.2.2.2.2.2.2.2.2.2.2.2.2.2.2.2.2.2.2.2.2.2.2.2.2.1 d.2.2.2.2.2.2.2.2.2.2.2.2.2.2.2.2.2.2.2.2.2.2.2.2.2.2.2.2.2.2.2.2.2.2.2.2.2.2.2.2.2.2.2.2.2.2.2.2.2.2.2.2.2.2.2.2.2.2.2.2.2.2.2.2.2.2.2.2.2.2.2.2.1 d.2.2.2.2.2.2.2.2.2.2.2.2.2.2.2.2.2.2.2.2.2.2.2.2.2.2.2.2.2.2.2.2.2.2.2.2.2.2.2.2.2.2.2.2.2.2.2.2.2.2.2.2.2.2.2.2.2.2.2.2.2.2.2.2.2.2.2.2.2.2.2.2.2.1 d.2.2.2.2.2.2.2.2.2.2.2.2.2.2.2.2.2.2.2.2.2.2.2.2.2.2.2.2.2.2.2.2.2.2.2.2.2.2.2.2.2.2.2.2.2.2.2.2.2.2.2.2.2.2.2.2.2.2.2.2.2.2.2.2.2.2.2.2.2.2.2.2.2.2.1 d.2.2.2.2.2.2.2.2.2.2.2.2.2.2.2.2.2.2.2.2.2.2.2.2.2.2.2.2.2.2.2.2.2.2.2.2.2.2.2.2.2.2.2.2.2.2.2.2.2.2.2.2.2.2.2.2.2.2.2.2.2.2.2.2.2.2.2.2.2.2.2.2.2.2.2.1 d.2.2.2.2.2.2.2.2.2.2.2.2.2.2.2.2.2.2.2.2.2.2.2.2.2.2.2.2.2.2.2.2.2.2.2.2.2.2.2.2.2.2.2.2.2.2.2.2.2.2.2.2.2.2.2.2.2.2.2.2.2.2.2.2.2.2.2.2.2.2.2.2.2.2.2.2.1 d.2.2.2.2.2.2.2.2.2.2.2.2.2.2.2.2.2.2.2.2.2.2.2.2.2.2.2.2.2.2.2.2.2.2.2.2.2.2.2.2.2.2.2.2.2.2.2.2.2.2.2.2.2.2.2.2.2.2.2.2.2.2.2.2.2.2.2.2.2.2.2.2.2.2.2.2.2.1 d.2.2.2.2.2.2.2.2.2.2.2.2.2.2.2.2.2.2.2.2.2.2.2.2.2.2.2.2.2.2.2.2.2.2.2.2.2.2.2.2.2.2.2.2.2.2.2.2.2.2.2.2.2.2.2.2.2.2.2.2.2.2.2.2.2.2.2.2.2.2.2.2.2.2.2.2.2.2.1 d.2.2.2.2.2.2.2.2.2.2.2.2.2.2.2.2.2.2.2.2.2.2.2.2.2.2.2.2.2.2.2.2.2.2.2.2.2.2.2.2.2.2.2.2.2.2.2.2.2.2.2.2.2.2.2.2.2.2.2.2.2.2.2.2.2.2.2.2.2.2.2.2.2.2.2.2.2.2.2.1 d.2.2.2.2.2.2.2.2.2.2.2.2.2.2.2.2.2.2.2.2.2.2.2.2.2.2.2.2.2.2.2.2.2.2.2.2.2.2.2.2.2.2.2.2.2.2.2.2.2.2.2.2.2.2.2.2.2.2.2.2.2.2.2.2.2.2.2.2.2.2.2.2.2.2.2.2.2.2.2.2.1 d.2.2.2.2.2.2.2.2.2.2.2.2.2.2.2.2.2.2.2.2.2.2.2.2.2.2.2.2.2.2.2.2.2.2.2.2.2.2.2.2.2.2.2.2.2.2.2.2.2.2.2.2.2.2.2.2.2.2.2.2.2.2.2.2.2.2.2.2.2.2.2.2.2.2.2.2.2.2.2.2.2.1 d.2.2.2.2.2.2.2.2.2.2.2.2.2.2.2.2.2.2.2.2.2.2.2.2.2.2.2.2.2.2.2.2.2.2.2.2.2.2.2.2.2.2.2.2.2.2.2.2.2.2.2.2.2.2.2.2.2.2.2.2.2.2.2.2.2.2.2.2.2.2.2.2.2.2.2.2.2.2.2.2.2.2.1 d.2.2.2.2.2.2.2.2.2.2.2.2.2.2.2.2.2.2.2.2.2.2.2.2.2.2.2.2.2.2.2.2.2.2.2.2.2.2.2.2.2.2.2.2.2.2.2.2.2.2.2.2.2.2.2.2.2.2.2.2.2.2.2.2.2.2.2.2.2.2.2.2.2.2.2.2.2.2.2.2.2.2.2
noncomputable def tup9z : PySem.World × Int × (List Nat) × Nat × PySem.Tok × (List PySem.Value) × Nat × (List PySem.Str) × (PySem.ExcName → Option PySem.Value) × (PySem.Str → Option PySem.Value) × (PySem.Str → Option PySem.Value) × (List (PySem.Addr × PySem.Obj)) × Nat × Nat × (Option (List PySem.Code)) × PySem.Str × PySem.Scope × PySem.Addr × PySem.Value × (List (PySem.Str × PySem.Addr)) × (List PySem.Env) × PySem.Around × PySem.Heap × PySem.Heap × PySem.Addr × (PySem.Str → Option PySem.Value) × PySem.Shared × (PySem.Result → PySem.Shared → Prop) × Nat × Nat × Nat × Nat × Nat × Nat × Nat × Nat × Nat × Nat × PySem.Tok × PySem.Tok × PySem.Tok × PySem.Tok × PySem.Tok × PySem.Tok × PySem.Tok × PySem.Tok × PySem.Tok × PySem.Tok × PySem.Tok × PySem.Tok × PySem.Value × PySem.Value × PySem.Obj × PySem.Obj × (Array PySem.Value) × PySem.Tok × PySem.Heap × PySem.Addr × PySem.Heap × Nat × PySem.Heap × PySem.Heap × PySem.Addr × PySem.Heap × PySem.Addr × PySem.Tok × PySem.Heap × Nat × Nat × PySem.Heap × Nat × (PySem.Str → Option PySem.Value) × Int × PySem.Tok × (List PySem.Value) × Nat × PySem.Tok × Nat × PySem.Tok × PySem.Heap × Nat × PySem.Tok × (List PySem.Value) × Nat := hen (World9, (0 : Int), [], (0 : Nat), (0 : Nat), [], (0 : Nat), [], (fun _ => none), (fun _ => none), (fun _ => none), [], (0 : Nat), (0 : Nat), none, (default : Str), (default : Scope), (0 : Nat), (default : Value), [], [], ({} : Around), (default : Heap), (default : Heap), (0 : Nat), (fun _ => none), ({} : Shared), (fun _ => (fun _ => True)), (0 : Nat), (0 : Nat), (0 : Nat), (0 : Nat), (0 : Nat), (0 : Nat), (0 : Nat), (0 : Nat), (0 : Nat), (0 : Nat), (0 : Nat), (0 : Nat), (0 : Nat), (0 : Nat), (0 : Nat), (0 : Nat), (0 : Nat), (0 : Nat), (0 : Nat), (0 : Nat), (0 : Nat), (0 : Nat), (default : Value), (default : Value), (default : Obj), (default : Obj), #[], (0 : Nat), (default : Heap), (0 : Nat), (default : Heap), (0 : Nat), (default : Heap), (default : Heap), (0 : Nat), (default : Heap), (0 : Nat), (0 : Nat), (default : Heap), (0 : Nat), (0 : Nat), (default : Heap), (0 : Nat), (fun _ => none), (0 : Int), (0 : Nat), [], (0 : Nat), (0 : Nat), (0 : Nat), (0 : Nat), (default : Heap), (0 : Nat), (0 : Nat), [], (0 : Nat)) G9
noncomputable def w : PySem.World := tup9z.1
noncomputable def z1 : Int := tup9z.2.1
noncomputable def rem : List Nat := tup9z.2.2.1
noncomputable def qe : Nat := tup9z.2.2.2.1
noncomputable def z2 : PySem.Tok := tup9z.2.2.2.2.1
noncomputable def z3 : List PySem.Value := tup9z.2.2.2.2.2.1
noncomputable def z4 : Nat := tup9z.2.2.2.2.2.2.1
noncomputable def loose : List PySem.Str := tup9z.2.2.2.2.2.2.2.1
noncomputable def mean : PySem.ExcName → Option PySem.Value := tup9z.2.2.2.2.2.2.2.2.1
noncomputable def mg : PySem.Str → Option PySem.Value := tup9z.2.2.2.2.2.2.2.2.2.1
noncomputable def mb : PySem.Str → Option PySem.Value := tup9z.2.2.2.2.2.2.2.2.2.2.1
noncomputable def rest : List (PySem.Addr × PySem.Obj) := tup9z.2.2.2.2.2.2.2.2.2.2.2.1
noncomputable def dp : Nat := tup9z.2.2.2.2.2.2.2.2.2.2.2.2.1
noncomputable def un : Nat := tup9z.2.2.2.2.2.2.2.2.2.2.2.2.2.1
noncomputable def gd : Option (List PySem.Code) := tup9z.2.2.2.2.2.2.2.2.2.2.2.2.2.2.1
noncomputable def cn : PySem.Str := tup9z.2.2.2.2.2.2.2.2.2.2.2.2.2.2.2.1
noncomputable def cs : PySem.Scope := tup9z.2.2.2.2.2.2.2.2.2.2.2.2.2.2.2.2.1
noncomputable def a : PySem.Addr := tup9z.2.2.2.2.2.2.2.2.2.2.2.2.2.2.2.2.2.1
noncomputable def ccd : PySem.Value := tup9z.2.2.2.2.2.2.2.2.2.2.2.2.2.2.2.2.2.2.1
noncomputable def cl : List (PySem.Str × PySem.Addr) := tup9z.2.2.2.2.2.2.2.2.2.2.2.2.2.2.2.2.2.2.2.1
noncomputable def outer : List PySem.Env := tup9z.2.2.2.2.2.2.2.2.2.2.2.2.2.2.2.2.2.2.2.2.1
noncomputable def A₀ : PySem.Around := tup9z.2.2.2.2.2.2.2.2.2.2.2.2.2.2.2.2.2.2.2.2.2.1
noncomputable def base : PySem.Heap := tup9z.2.2.2.2.2.2.2.2.2.2.2.2.2.2.2.2.2.2.2.2.2.2.1
noncomputable def h₀ : PySem.Heap := tup9z.2.2.2.2.2.2.2.2.2.2.2.2.2.2.2.2.2.2.2.2.2.2.2.1
noncomputable def L : PySem.Addr := tup9z.2.2.2.2.2.2.2.2.2.2.2.2.2.2.2.2.2.2.2.2.2.2.2.2.1
noncomputable def m : PySem.Str → Option PySem.Value := tup9z.2.2.2.2.2.2.2.2.2.2.2.2.2.2.2.2.2.2.2.2.2.2.2.2.2.1
noncomputable def s : PySem.Shared := tup9z.2.2.2.2.2.2.2.2.2.2.2.2.2.2.2.2.2.2.2.2.2.2.2.2.2.2.1
noncomputable def R : PySem.Result → PySem.Shared → Prop := tup9z.2.2.2.2.2.2.2.2.2.2.2.2.2.2.2.2.2.2.2.2.2.2.2.2.2.2.2.1
noncomputable def x : Nat := tup9z.2.2.2.2.2.2.2.2.2.2.2.2.2.2.2.2.2.2.2.2.2.2.2.2.2.2.2.2.1
noncomputable def d : Nat := tup9z.2.2.2.2.2.2.2.2.2.2.2.2.2.2.2.2.2.2.2.2.2.2.2.2.2.2.2.2.2.1
noncomputable def pb : Nat := tup9z.2.2.2.2.2.2.2.2.2.2.2.2.2.2.2.2.2.2.2.2.2.2.2.2.2.2.2.2.2.2.1
noncomputable def f : Nat := tup9z.2.2.2.2.2.2.2.2.2.2.2.2.2.2.2.2.2.2.2.2.2.2.2.2.2.2.2.2.2.2.2.1
noncomputable def c : Nat := tup9z.2.2.2.2.2.2.2.2.2.2.2.2.2.2.2.2.2.2.2.2.2.2.2.2.2.2.2.2.2.2.2.2.1
noncomputable def x1 : Nat := tup9z.2.2.2.2.2.2.2.2.2.2.2.2.2.2.2.2.2.2.2.2.2.2.2.2.2.2.2.2.2.2.2.2.2.1
noncomputable def d1 : Nat := tup9z.2.2.2.2.2.2.2.2.2.2.2.2.2.2.2.2.2.2.2.2.2.2.2.2.2.2.2.2.2.2.2.2.2.2.1
noncomputable def sg : Nat := tup9z.2.2.2.2.2.2.2.2.2.2.2.2.2.2.2.2.2.2.2.2.2.2.2.2.2.2.2.2.2.2.2.2.2.2.2.1
noncomputable def ce : Nat := tup9z.2.2.2.2.2.2.2.2.2.2.2.2.2.2.2.2.2.2.2.2.2.2.2.2.2.2.2.2.2.2.2.2.2.2.2.2.1
noncomputable def pb1 : Nat := tup9z.2.2.2.2.2.2.2.2.2.2.2.2.2.2.2.2.2.2.2.2.2.2.2.2.2.2.2.2.2.2.2.2.2.2.2.2.2.1
noncomputable def t1 : PySem.Tok := tup9z.2.2.2.2.2.2.2.2.2.2.2.2.2.2.2.2.2.2.2.2.2.2.2.2.2.2.2.2.2.2.2.2.2.2.2.2.2.2.1
noncomputable def t2 : PySem.Tok := tup9z.2.2.2.2.2.2.2.2.2.2.2.2.2.2.2.2.2.2.2.2.2.2.2.2.2.2.2.2.2.2.2.2.2.2.2.2.2.2.2.1
noncomputable def t3 : PySem.Tok := tup9z.2.2.2.2.2.2.2.2.2.2.2.2.2.2.2.2.2.2.2.2.2.2.2.2.2.2.2.2.2.2.2.2.2.2.2.2.2.2.2.2.1
noncomputable def t4 : PySem.Tok := tup9z.2.2.2.2.2.2.2.2.2.2.2.2.2.2.2.2.2.2.2.2.2.2.2.2.2.2.2.2.2.2.2.2.2.2.2.2.2.2.2.2.2.1
noncomputable def tw : PySem.Tok := tup9z.2.2.2.2.2.2.2.2.2.2.2.2.2.2.2.2.2.2.2.2.2.2.2.2.2.2.2.2.2.2.2.2.2.2.2.2.2.2.2.2.2.2.1
noncomputable def u1 : PySem.Tok := tup9z.2.2.2.2.2.2.2.2.2.2.2.2.2.2.2.2.2.2.2.2.2.2.2.2.2.2.2.2.2.2.2.2.2.2.2.2.2.2.2.2.2.2.2.1
noncomputable def u2 : PySem.Tok := tup9z.2.2.2.2.2.2.2.2.2.2.2.2.2.2.2.2.2.2.2.2.2.2.2.2.2.2.2.2.2.2.2.2.2.2.2.2.2.2.2.2.2.2.2.2.1
noncomputable def u3 : PySem.Tok := tup9z.2.2.2.2.2.2.2.2.2.2.2.2.2.2.2.2.2.2.2.2.2.2.2.2.2.2.2.2.2.2.2.2.2.2.2.2.2.2.2.2.2.2.2.2.2.1
noncomputable def u4 : PySem.Tok := tup9z.2.2.2.2.2.2.2.2.2.2.2.2.2.2.2.2.2.2.2.2.2.2.2.2.2.2.2.2.2.2.2.2.2.2.2.2.2.2.2.2.2.2.2.2.2.2.1
noncomputable def u5 : PySem.Tok := tup9z.2.2.2.2.2.2.2.2.2.2.2.2.2.2.2.2.2.2.2.2.2.2.2.2.2.2.2.2.2.2.2.2.2.2.2.2.2.2.2.2.2.2.2.2.2.2.2.1
noncomputable def v1 : PySem.Tok := tup9z.2.2.2.2.2.2.2.2.2.2.2.2.2.2.2.2.2.2.2.2.2.2.2.2.2.2.2.2.2.2.2.2.2.2.2.2.2.2.2.2.2.2.2.2.2.2.2.2.1
noncomputable def vw : PySem.Tok := tup9z.2.2.2.2.2.2.2.2.2.2.2.2.2.2.2.2.2.2.2.2.2.2.2.2.2.2.2.2.2.2.2.2.2.2.2.2.2.2.2.2.2.2.2.2.2.2.2.2.2.1
noncomputable def ct : PySem.Value := tup9z.2.2.2.2.2.2.2.2.2.2.2.2.2.2.2.2.2.2.2.2.2.2.2.2.2.2.2.2.2.2.2.2.2.2.2.2.2.2.2.2.2.2.2.2.2.2.2.2.2.2.1
noncomputable def pm : PySem.Value := tup9z.2.2.2.2.2.2.2.2.2.2.2.2.2.2.2.2.2.2.2.2.2.2.2.2.2.2.2.2.2.2.2.2.2.2.2.2.2.2.2.2.2.2.2.2.2.2.2.2.2.2.2.1
noncomputable def oc : PySem.Obj := tup9z.2.2.2.2.2.2.2.2.2.2.2.2.2.2.2.2.2.2.2.2.2.2.2.2.2.2.2.2.2.2.2.2.2.2.2.2.2.2.2.2.2.2.2.2.2.2.2.2.2.2.2.2.1
noncomputable def oC : PySem.Obj := tup9z.2.2.2.2.2.2.2.2.2.2.2.2.2.2.2.2.2.2.2.2.2.2.2.2.2.2.2.2.2.2.2.2.2.2.2.2.2.2.2.2.2.2.2.2.2.2.2.2.2.2.2.2.2.1
noncomputable def vs : Array PySem.Value := tup9z.2.2.2.2.2.2.2.2.2.2.2.2.2.2.2.2.2.2.2.2.2.2.2.2.2.2.2.2.2.2.2.2.2.2.2.2.2.2.2.2.2.2.2.2.2.2.2.2.2.2.2.2.2.2.1
noncomputable def tq : PySem.Tok := tup9z.2.2.2.2.2.2.2.2.2.2.2.2.2.2.2.2.2.2.2.2.2.2.2.2.2.2.2.2.2.2.2.2.2.2.2.2.2.2.2.2.2.2.2.2.2.2.2.2.2.2.2.2.2.2.2.1
noncomputable def z5 : PySem.Heap := tup9z.2.2.2.2.2.2.2.2.2.2.2.2.2.2.2.2.2.2.2.2.2.2.2.2.2.2.2.2.2.2.2.2.2.2.2.2.2.2.2.2.2.2.2.2.2.2.2.2.2.2.2.2.2.2.2.2.1
noncomputable def z6 : PySem.Addr := tup9z.2.2.2.2.2.2.2.2.2.2.2.2.2.2.2.2.2.2.2.2.2.2.2.2.2.2.2.2.2.2.2.2.2.2.2.2.2.2.2.2.2.2.2.2.2.2.2.2.2.2.2.2.2.2.2.2.2.1
noncomputable def z7 : PySem.Heap := tup9z.2.2.2.2.2.2.2.2.2.2.2.2.2.2.2.2.2.2.2.2.2.2.2.2.2.2.2.2.2.2.2.2.2.2.2.2.2.2.2.2.2.2.2.2.2.2.2.2.2.2.2.2.2.2.2.2.2.2.1
noncomputable def z12 : Nat := tup9z.2.2.2.2.2.2.2.2.2.2.2.2.2.2.2.2.2.2.2.2.2.2.2.2.2.2.2.2.2.2.2.2.2.2.2.2.2.2.2.2.2.2.2.2.2.2.2.2.2.2.2.2.2.2.2.2.2.2.2.1
noncomputable def z13 : PySem.Heap := tup9z.2.2.2.2.2.2.2.2.2.2.2.2.2.2.2.2.2.2.2.2.2.2.2.2.2.2.2.2.2.2.2.2.2.2.2.2.2.2.2.2.2.2.2.2.2.2.2.2.2.2.2.2.2.2.2.2.2.2.2.2.1
noncomputable def z14 : PySem.Heap := tup9z.2.2.2.2.2.2.2.2.2.2.2.2.2.2.2.2.2.2.2.2.2.2.2.2.2.2.2.2.2.2.2.2.2.2.2.2.2.2.2.2.2.2.2.2.2.2.2.2.2.2.2.2.2.2.2.2.2.2.2.2.2.1
noncomputable def it9 : PySem.Addr := tup9z.2.2.2.2.2.2.2.2.2.2.2.2.2.2.2.2.2.2.2.2.2.2.2.2.2.2.2.2.2.2.2.2.2.2.2.2.2.2.2.2.2.2.2.2.2.2.2.2.2.2.2.2.2.2.2.2.2.2.2.2.2.2.1
noncomputable def h9 : PySem.Heap := tup9z.2.2.2.2.2.2.2.2.2.2.2.2.2.2.2.2.2.2.2.2.2.2.2.2.2.2.2.2.2.2.2.2.2.2.2.2.2.2.2.2.2.2.2.2.2.2.2.2.2.2.2.2.2.2.2.2.2.2.2.2.2.2.2.1
noncomputable def mo9 : PySem.Addr := tup9z.2.2.2.2.2.2.2.2.2.2.2.2.2.2.2.2.2.2.2.2.2.2.2.2.2.2.2.2.2.2.2.2.2.2.2.2.2.2.2.2.2.2.2.2.2.2.2.2.2.2.2.2.2.2.2.2.2.2.2.2.2.2.2.2.1
noncomputable def te9 : PySem.Tok := tup9z.2.2.2.2.2.2.2.2.2.2.2.2.2.2.2.2.2.2.2.2.2.2.2.2.2.2.2.2.2.2.2.2.2.2.2.2.2.2.2.2.2.2.2.2.2.2.2.2.2.2.2.2.2.2.2.2.2.2.2.2.2.2.2.2.2.1
noncomputable def z16 : PySem.Heap := tup9z.2.2.2.2.2.2.2.2.2.2.2.2.2.2.2.2.2.2.2.2.2.2.2.2.2.2.2.2.2.2.2.2.2.2.2.2.2.2.2.2.2.2.2.2.2.2.2.2.2.2.2.2.2.2.2.2.2.2.2.2.2.2.2.2.2.2.1
noncomputable def z19 : Nat := tup9z.2.2.2.2.2.2.2.2.2.2.2.2.2.2.2.2.2.2.2.2.2.2.2.2.2.2.2.2.2.2.2.2.2.2.2.2.2.2.2.2.2.2.2.2.2.2.2.2.2.2.2.2.2.2.2.2.2.2.2.2.2.2.2.2.2.2.2.1
noncomputable def n : Nat := tup9z.2.2.2.2.2.2.2.2.2.2.2.2.2.2.2.2.2.2.2.2.2.2.2.2.2.2.2.2.2.2.2.2.2.2.2.2.2.2.2.2.2.2.2.2.2.2.2.2.2.2.2.2.2.2.2.2.2.2.2.2.2.2.2.2.2.2.2.2.1
noncomputable def h : PySem.Heap := tup9z.2.2.2.2.2.2.2.2.2.2.2.2.2.2.2.2.2.2.2.2.2.2.2.2.2.2.2.2.2.2.2.2.2.2.2.2.2.2.2.2.2.2.2.2.2.2.2.2.2.2.2.2.2.2.2.2.2.2.2.2.2.2.2.2.2.2.2.2.2.1
noncomputable def tk : Nat := tup9z.2.2.2.2.2.2.2.2.2.2.2.2.2.2.2.2.2.2.2.2.2.2.2.2.2.2.2.2.2.2.2.2.2.2.2.2.2.2.2.2.2.2.2.2.2.2.2.2.2.2.2.2.2.2.2.2.2.2.2.2.2.2.2.2.2.2.2.2.2.2.1
noncomputable def m₁ : PySem.Str → Option PySem.Value := tup9z.2.2.2.2.2.2.2.2.2.2.2.2.2.2.2.2.2.2.2.2.2.2.2.2.2.2.2.2.2.2.2.2.2.2.2.2.2.2.2.2.2.2.2.2.2.2.2.2.2.2.2.2.2.2.2.2.2.2.2.2.2.2.2.2.2.2.2.2.2.2.2.1
noncomputable def ln : Int := tup9z.2.2.2.2.2.2.2.2.2.2.2.2.2.2.2.2.2.2.2.2.2.2.2.2.2.2.2.2.2.2.2.2.2.2.2.2.2.2.2.2.2.2.2.2.2.2.2.2.2.2.2.2.2.2.2.2.2.2.2.2.2.2.2.2.2.2.2.2.2.2.2.2.1
noncomputable def z20 : PySem.Tok := tup9z.2.2.2.2.2.2.2.2.2.2.2.2.2.2.2.2.2.2.2.2.2.2.2.2.2.2.2.2.2.2.2.2.2.2.2.2.2.2.2.2.2.2.2.2.2.2.2.2.2.2.2.2.2.2.2.2.2.2.2.2.2.2.2.2.2.2.2.2.2.2.2.2.2.1
noncomputable def z21 : List PySem.Value := tup9z.2.2.2.2.2.2.2.2.2.2.2.2.2.2.2.2.2.2.2.2.2.2.2.2.2.2.2.2.2.2.2.2.2.2.2.2.2.2.2.2.2.2.2.2.2.2.2.2.2.2.2.2.2.2.2.2.2.2.2.2.2.2.2.2.2.2.2.2.2.2.2.2.2.2.1
noncomputable def z22 : Nat := tup9z.2.2.2.2.2.2.2.2.2.2.2.2.2.2.2.2.2.2.2.2.2.2.2.2.2.2.2.2.2.2.2.2.2.2.2.2.2.2.2.2.2.2.2.2.2.2.2.2.2.2.2.2.2.2.2.2.2.2.2.2.2.2.2.2.2.2.2.2.2.2.2.2.2.2.2.1
noncomputable def tt : PySem.Tok := tup9z.2.2.2.2.2.2.2.2.2.2.2.2.2.2.2.2.2.2.2.2.2.2.2.2.2.2.2.2.2.2.2.2.2.2.2.2.2.2.2.2.2.2.2.2.2.2.2.2.2.2.2.2.2.2.2.2.2.2.2.2.2.2.2.2.2.2.2.2.2.2.2.2.2.2.2.2.1
noncomputable def c' : Nat := tup9z.2.2.2.2.2.2.2.2.2.2.2.2.2.2.2.2.2.2.2.2.2.2.2.2.2.2.2.2.2.2.2.2.2.2.2.2.2.2.2.2.2.2.2.2.2.2.2.2.2.2.2.2.2.2.2.2.2.2.2.2.2.2.2.2.2.2.2.2.2.2.2.2.2.2.2.2.2.1
noncomputable def t : PySem.Tok := tup9z.2.2.2.2.2.2.2.2.2.2.2.2.2.2.2.2.2.2.2.2.2.2.2.2.2.2.2.2.2.2.2.2.2.2.2.2.2.2.2.2.2.2.2.2.2.2.2.2.2.2.2.2.2.2.2.2.2.2.2.2.2.2.2.2.2.2.2.2.2.2.2.2.2.2.2.2.2.2.1
noncomputable def h' : PySem.Heap := tup9z.2.2.2.2.2.2.2.2.2.2.2.2.2.2.2.2.2.2.2.2.2.2.2.2.2.2.2.2.2.2.2.2.2.2.2.2.2.2.2.2.2.2.2.2.2.2.2.2.2.2.2.2.2.2.2.2.2.2.2.2.2.2.2.2.2.2.2.2.2.2.2.2.2.2.2.2.2.2.2.1
noncomputable def tk' : Nat := tup9z.2.2.2.2.2.2.2.2.2.2.2.2.2.2.2.2.2.2.2.2.2.2.2.2.2.2.2.2.2.2.2.2.2.2.2.2.2.2.2.2.2.2.2.2.2.2.2.2.2.2.2.2.2.2.2.2.2.2.2.2.2.2.2.2.2.2.2.2.2.2.2.2.2.2.2.2.2.2.2.2.1
noncomputable def tl : PySem.Tok := tup9z.2.2.2.2.2.2.2.2.2.2.2.2.2.2.2.2.2.2.2.2.2.2.2.2.2.2.2.2.2.2.2.2.2.2.2.2.2.2.2.2.2.2.2.2.2.2.2.2.2.2.2.2.2.2.2.2.2.2.2.2.2.2.2.2.2.2.2.2.2.2.2.2.2.2.2.2.2.2.2.2.2.1
noncomputable def sv : List PySem.Value := tup9z.2.2.2.2.2.2.2.2.2.2.2.2.2.2.2.2.2.2.2.2.2.2.2.2.2.2.2.2.2.2.2.2.2.2.2.2.2.2.2.2.2.2.2.2.2.2.2.2.2.2.2.2.2.2.2.2.2.2.2.2.2.2.2.2.2.2.2.2.2.2.2.2.2.2.2.2.2.2.2.2.2.2.1
noncomputable def se : Nat := tup9z.2.2.2.2.2.2.2.2.2.2.2.2.2.2.2.2.2.2.2.2.2.2.2.2.2.2.2.2.2.2.2.2.2.2.2.2.2.2.2.2.2.2.2.2.2.2.2.2.2.2.2.2.2.2.2.2.2.2.2.2.2.2.2.2.2.2.2.2.2.2.2.2.2.2.2.2.2.2.2.2.2.2.2
set_option maxRecDepth 100000 in
set_option maxHeartbeats 8000000 in
theorem main9 : seg9.1 w z1 rem qe z2 z3 z4 loose mean mg mb rest dp un gd cn cs a ccd cl outer A₀ base h₀ L m s R x d pb f c x1 d1 sg ce pb1 t1 t2 t3 t4 tw u1 u2 u3 u4 u5 v1 vw ct pm oc oC vs tq z5 z6 z7 z12 z13 z14 it9 h9 mo9 te9 z16 z19 n h tk m₁ ln z20 z21 z22 tt c' t h' tk' tl sv se := by
       delta seg9 segOf
       dsimp -zeta only
       intro T' R' LN X T hd hu hret ok' hoff' y9 y10 y11 qk ek hC' y15 l9 off2 r F' h2 h3 h5 h1 N'
       try dsimp only
       simp only [List.length_cons] at h2 h3
       have hq2 : (chOf r).length ≤ 1 := by cases r <;> first | exact Nat.zero_le _ | exact Nat.le_refl _
       have he0 : (Str.ofString "").length = 0 := by decide +kernel
       have hq : (one c').length = 1 := rfl
       k_with "compareOp In str str" => refine SB.contains ?_
       k_with "inplaceOp Add str str" => (refine SB.iadd ?_ (by rw [sizeLine_eq]; omega); intro _ _)
       k_with "call ref nil" => (refine' Ctr.use (read_char w ⟨x, d, pb, f, c, x1, d1, sg, ce, pb1, t1, t2, t3, t4, tw, u1, u2, u3, u4, u5, v1, vw, ct, pm, oc, oC, vs, tq⟩ ok' (lnAft (c' :: r) ln) r [] qe _ ⟨tl, sv, se, h1, rfl⟩ (by omega)) hC' pick_app off2.to ?k1 ?k2 ?k3 ?k4 ?k5 ?kK ?kd ?ku ?_; (case k1 => k_asm); (case k2 => k_asm); (case k3 => k_asm); (case k4 => k_asm); (case k5 => k_asm); (case kK => exact rfl); (case kd => ktr_room); (case ku => ktr_units); intro v9 led9 tl9 h9 tk9 hp9 _ F9 N9; obtain ⟨rfl, t9, rfl, tl2, sv2, se2, hs2, rfl⟩ := hp9; dsimp only [lexLed] at N9; simp only [List.cons_append, List.nil_append] at N9; dsimp only; (try k_sweep))
       k_steps
       · have hw : Txt.contains (Str.ofString "\n\t\x0d ") (one c') = true := by assumption
         rw [contains_ws] at hw
         rw [lexT_cons, if_pos hw] at h5
         exact TurnEnd.mk (n - 1) ⟨r, _, lnAft (c' :: r) ln, tl, sv, se, _⟩ (by omega) (by k_asm) (by k_asm) ⟨rfl, rfl, rfl, trivial⟩ (fun p hp => hp) ⟨h1, by show r.length < n - 1; omega, by show r.length ≤ 1000; omega, rfl, h5⟩
       · have hw : Txt.contains (Str.ofString "\n\t\x0d ") (one c') = false := by assumption
         have h34 : (one c' == Str.ofString "\"") = true := by assumption
         rw [contains_ws] at hw
         rw [q_one, one_beq, decide_eq_true_eq] at h34
         rw [lexT_cons, if_neg (by rw [hw]; decide), if_pos h34] at h5
         refine stop_out ?_
         refine wpAny_For ?_
         k_steps
         refine stop_out ?_
         refine ci_self (News.get (by k_asm) (by k_mem)) ?_
         refine loopQ w ⟨x, d, pb, f, c, x1, d1, sg, ce, pb1, t1, t2, t3, t4, tw, u1, u2, u3, u4, u5, v1, vw, ct, pm, oc, oC, vs, tq⟩ ok' qe T' R' LN ⟨r, Str.ofString "", lnAft (c' :: r) ln, tl, sv, se, _⟩ hC' hoff' ⟨by show @LT.lt Nat _ pb it9; omega, by show @LT.lt Nat _ pb mo9; omega⟩ (by k_asm) (by k_asm) (by k_asm) (by k_asm) (fun q hq => hq) (by k_asm) (by ktr_room) (by ktr_units) ⟨rfl, rfl, rfl, trivial⟩ h1 ?_ ?_ ?_
         · show r.length + (Str.ofString "").length ≤ 1000; omega
         · show lexQ r (Str.ofString "").cps.toList _ = _
           rw [ofEmpty]; exact h5
         · intro tok9 t9 led9 h9 tk9 m9 he9 st9 F9 N9
           obtain ⟨tl9, sv9, se9, hs9, rfl⟩ := st9
           dsimp only [lexLed] at N9
           simp only [List.cons_append, List.nil_append] at N9
           k_steps
           exact hret _ _ [] _ _ ⟨rfl, _, _, rfl, he9, tl9, sv9, se9, hs9, rfl⟩ (fun _ _ _ h => nomatch h) (by k_asm) (by k_asm)
       · skip
         have hw : Txt.contains (Str.ofString "\n\t\x0d ") (one c') = false := by assumption
         have h34 : (one c' == Str.ofString "\"") = false := by assumption
         rw [contains_ws] at hw
         rw [q_one, one_beq, decide_eq_false_iff_not] at h34
         have h92 : (one c' == Str.ofString "\\") = true := by assumption
         rw [b_one, one_beq, decide_eq_true_eq] at h92
         rw [lexT_cons, if_neg (by rw [hw]; decide), if_neg h34, if_pos h92] at h5
         cases r with
         | nil => cases h5
         | cons c2 r2 =>
           refine stop_out ?_
           refine wpAny_For ?_
           k_steps
           refine stop_out ?_
           refine ci_self (News.get (by k_asm) (by k_mem)) ?_
           refine loopW w ⟨x, d, pb, f, c, x1, d1, sg, ce, pb1, t1, t2, t3, t4, tw, u1, u2, u3, u4, u5, v1, vw, ct, pm, oc, oC, vs, tq⟩ ok' qe T' R' LN ⟨r2, Str.ofString "" ++ one c2, lnAft (c2 :: r2) (lnAft (c' :: c2 :: r2) ln), tl2, sv2, se2, _⟩ hC' hoff' ⟨by show @LT.lt Nat _ pb it9; omega, by show @LT.lt Nat _ pb mo9; omega⟩ (by k_asm) (by k_asm) (by k_asm) (by k_asm) (fun q hq => hq) (by k_asm) (by ktr_room) (by ktr_units) ⟨rfl, rfl, rfl, trivial⟩ hs2 ?_ ?_ ?_
           · show r2.length + (Str.ofString "" ++ one c2).length ≤ 1000
             rw [Str.length_append, he0]; simp only [List.length_cons] at h3; show r2.length + (0 + 1) ≤ 1000; omega
           · show lexW r2 (Str.ofString "" ++ one c2).cps.toList _ = _
             rw [Str.cps_append, Array.toList_append, ofEmpty]; exact h5
           · intro tok9 t9 led9 h9 tk9 m9 he9 st9 F9 N9
             obtain ⟨tl9, sv9, se9, hs9, rfl⟩ := st9
             dsimp only [lexLed] at N9
             simp only [List.cons_append, List.nil_append] at N9
             k_steps
             exact hret _ _ [] _ _ ⟨rfl, _, _, rfl, he9, tl9, sv9, se9, hs9, rfl⟩ (fun _ _ _ h => nomatch h) (by k_asm) (by k_asm)
       · skip
         have hw : Txt.contains (Str.ofString "\n\t\x0d ") (one c') = false := by assumption
         have h34 : (one c' == Str.ofString "\"") = false := by assumption
         rw [contains_ws] at hw
         rw [q_one, one_beq, decide_eq_false_iff_not] at h34
         have h92 : (one c' == Str.ofString "\\") = false := by assumption
         rw [b_one, one_beq, decide_eq_false_iff_not] at h92
         rw [lexT_cons, if_neg (by rw [hw]; decide), if_neg h34, if_neg h92] at h5
         refine stop_out ?_
         refine wpAny_For ?_
         k_steps
         refine stop_out ?_
         refine ci_self (News.get (by k_asm) (by k_mem)) ?_
         refine loopW w ⟨x, d, pb, f, c, x1, d1, sg, ce, pb1, t1, t2, t3, t4, tw, u1, u2, u3, u4, u5, v1, vw, ct, pm, oc, oC, vs, tq⟩ ok' qe T' R' LN ⟨r, Str.ofString "" ++ one c', lnAft (c' :: r) ln, tl, sv, se, _⟩ hC' hoff' ⟨by show @LT.lt Nat _ pb it9; omega, by show @LT.lt Nat _ pb mo9; omega⟩ (by k_asm) (by k_asm) (by k_asm) (by k_asm) (fun q hq => hq) (by k_asm) (by ktr_room) (by ktr_units) ⟨rfl, rfl, rfl, trivial⟩ h1 ?_ ?_ ?_
         · show r.length + (Str.ofString "" ++ one c').length ≤ 1000
           rw [Str.length_append, he0]; show r.length + (0 + 1) ≤ 1000; omega
         · show lexW r (Str.ofString "" ++ one c').cps.toList _ = _
           rw [Str.cps_append, Array.toList_append, ofEmpty]; exact h5
         · intro tok9 t9 led9 h9 tk9 m9 he9 st9 F9 N9
           obtain ⟨tl9, sv9, se9, hs9, rfl⟩ := st9
           dsimp only [lexLed] at N9
           simp only [List.cons_append, List.nil_append] at N9
           k_steps
           exact hret _ _ [] _ _ ⟨rfl, _, _, rfl, he9, tl9, sv9, se9, hs9, rfl⟩ (fun _ _ _ h => nomatch h) (by k_asm) (by k_asm)

set_option maxRecDepth 100000 in
set_option maxHeartbeats 8000000 in
theorem all9 : ∀ a0 a1 a2 a3 a4 a5 a6 a7 a8 a9 a10 a11 a12 a13 a14 a15 a16 a17 a18 a19 a20 a21 a22 a23 a24 a25 a26 a27 a28 a29 a30 a31 a32 a33 a34 a35 a36 a37 a38 a39 a40 a41 a42 a43 a44 a45 a46 a47 a48 a49 a50 a51 a52 a53 a54 a55 a56 a57 a58 a59 a60 a61 a62 a63 a64 a65 a66 a67 a68 a69 a70 a71 a72 a73 a74 a75 a76 a77 a78 a79 a80 a81 a82 a83, seg9.1 a0 a1 a2 a3 a4 a5 a6 a7 a8 a9 a10 a11 a12 a13 a14 a15 a16 a17 a18 a19 a20 a21 a22 a23 a24 a25 a26 a27 a28 a29 a30 a31 a32 a33 a34 a35 a36 a37 a38 a39 a40 a41 a42 a43 a44 a45 a46 a47 a48 a49 a50 a51 a52 a53 a54 a55 a56 a57 a58 a59 a60 a61 a62 a63 a64 a65 a66 a67 a68 a69 a70 a71 a72 a73 a74 a75 a76 a77 a78 a79 a80 a81 a82 a83 := fun a0 a1 a2 a3 a4 a5 a6 a7 a8 a9 a10 a11 a12 a13 a14 a15 a16 a17 a18 a19 a20 a21 a22 a23 a24 a25 a26 a27 a28 a29 a30 a31 a32 a33 a34 a35 a36 a37 a38 a39 a40 a41 a42 a43 a44 a45 a46 a47 a48 a49 a50 a51 a52 a53 a54 a55 a56 a57 a58 a59 a60 a61 a62 a63 a64 a65 a66 a67 a68 a69 a70 a71 a72 a73 a74 a75 a76 a77 a78 a79 a80 a81 a82 a83 => hen_all (G := G9) main9 (a0, a1, a2, a3, a4, a5, a6, a7, a8, a9, a10, a11, a12, a13, a14, a15, a16, a17, a18, a19, a20, a21, a22, a23, a24, a25, a26, a27, a28, a29, a30, a31, a32, a33, a34, a35, a36, a37, a38, a39, a40, a41, a42, a43, a44, a45, a46, a47, a48, a49, a50, a51, a52, a53, a54, a55, a56, a57, a58, a59, a60, a61, a62, a63, a64, a65, a66, a67, a68, a69, a70, a71, a72, a73, a74, a75, a76, a77, a78, a79, a80, a81, a82, a83)
end tok_read
theorem tok_read (w : World) (P : LexP) (ok : P.Ok) (ln : Int) (rem : List Nat) (qe : Nat) (led : List (Addr × Obj)) (st : LexSt w P ln rem [] qe led) (hr : rem.length ≤ 1000) (T' R' : List Nat) (LN : Int) (hx : lexT rem ln = some (T', R', LN)) : Ctr (fun h => CodeHd h 112 108) PySem.Challenge.rw_wn0028_02.prog w (Mine.hd.heap_39 w.params) PySem.W.topProg 5 60 63 [.ref P.x] led (fun v led tl => tl = [] ∧ ∃ tk t, v = .str tk t ∧ tk.cps.toList = T' ∧ LexSt w P LN R' [] qe led) := tok_read.seg9.2 ⟨tok_read.all9⟩ w P ok ln rem qe led st hr T' R' LN hx

end Mine
namespace Mine
theorem reset_lawR : True := by
  w_top off
  trivial
/-- how many line feeds -/
noncomputable def cntN (l : List Nat) : Nat := (l.filter (· == 10)).length
theorem cntN_cons (c : Nat) (r : List Nat) : cntN (c :: r) = (if c = 10 then 1 else 0) + cntN r := by
  unfold cntN
  by_cases h : c = 10
  · subst h; simp; omega
  · rw [List.filter_cons_of_neg (by simpa using h), if_neg h, Nat.zero_add]
theorem lnAft_cons (c : Nat) (r : List Nat) (ln : Int) : lnAft (c :: r) ln + cntN r = ln + cntN (c :: r) := by
  rw [cntN_cons]
  unfold lnAft
  by_cases h : c = 10
  · subst h; simp; omega
  · simp [h]
noncomputable def wsOf (ch : Nat) : Nat := ([9, 10, 13, 32] : List Nat).getD (ch / 4) 0
theorem wsOf_ws (ch : Nat) (h : ch < 16) : isWs (wsOf ch) = true := by
  revert h; revert ch; decide
/-- what is left to read: the words, perhaps a blank ahead -/
noncomputable def Left (rem S : List Nat) : Prop := rem = S ∨ ∃ w, isWs w = true ∧ rem = w :: S
theorem lex_end {rem : List Nat} (h : Left rem []) (ln : Int) : lexT rem ln = some ([], [], ln + cntN rem) := by
  rcases h with rfl | ⟨w, hw, rfl⟩
  · simp [lexT, cntN]
  · rw [lexT_cons, hw, if_pos rfl]
    have := lnAft_cons w [] ln
    rw [← this]
    simp [lexT, cntN]
theorem LexP.Off.low {P : LexP} (ok : P.Ok) {rest : List (Addr × Obj)} (h : ∀ q ∈ rest, @LT.lt Nat _ q.1 P.ce) : P.Off rest :=
  fun q hq => offs_below ok (h q hq)
theorem off3_mem {I C D : Addr} : ∀ {l r : List (Addr × Obj)}, Off3 I C D (l ++ r) → ∀ p ∈ l, @Ne Nat p.1 I ∧ @Ne Nat p.1 C ∧ @Ne Nat p.1 D
  | [], _, _, _, h => nomatch h
  | q :: l, r, h, p, hp => by
    rcases List.mem_cons.mp hp with rfl | hp
    · exact h.1
    · exact off3_mem (l := l) h.2 p hp
/-- a comprehension's own three objects are none of the lexer's -/
theorem LexP.Off.of3 {w : World} {P : LexP} {ln : Int} {tl : Tok} {sv : List Value} {se : Nat} {qv : List Value} {qe : Nat} {rest : List (Addr × Obj)} {I C D : Addr} {oI oC oD : Obj} (off : Off3 I C D (lexLed w P ln tl sv se qv qe ++ rest)) (h : P.Off rest) : P.Off ((I, oI) :: (C, oC) :: (D, oD) :: rest) := by
  refine LexP.Off.of (w := w) (ln := ln) (tl := tl) (sv := sv) (se := se) (qv := qv) (qe := qe) fun p hp q hq => ?_
  have h3 := off3_mem off p hp
  rcases List.mem_cons.mp hq with rfl | hq
  · exact fun e => h3.1 e.symm
  · rcases List.mem_cons.mp hq with rfl | hq
    · exact fun e => h3.2.1 e.symm
    · rcases List.mem_cons.mp hq with rfl | hq
      · exact fun e => h3.2.2 e.symm
      · exact LexP.Off.to h p hp q hq
theorem str_of_list {y : Str} {l : List Nat} (h : y.cps.toList = l) : y = mkS l := by
  obtain ⟨⟨l'⟩⟩ := y
  subst h
  rfl
theorem left_len {rem S : List Nat} (h : Left rem S) : rem.length ≤ S.length + 1 := by
  rcases h with rfl | ⟨w, _, rfl⟩
  · exact Nat.le_succ _
  · exact Nat.le_refl _
theorem cnt_cntN : ∀ l : List Nat, PyProof.Rows.cnt 10 l = (cntN l : Int)
  | [] => rfl
  | c :: r => by
    rw [PyProof.Rows.cnt_cons, cnt_cntN r, cntN_cons]
    by_cases h : c = 10
    · simp [h]
    · simp [h]
theorem count_nl (x : Str) : Txt.count x (Str.ofString "\n") = (cntN x.cps.toList : Int) := by
  rw [show (Str.ofString "\n") = (⟨#[10]⟩ : Str) from rfl, PyProof.Rows.count_cnt, cnt_cntN]

end Mine
namespace Mine
theorem reset_law2a : True := by
  w_top off
  trivial
noncomputable abbrev lawEnv2 (cn : Str) (L fa : Addr) (cd : Value) : Env := envX cn lawSs.1 L fa cd [(Str.ofString "line", L + 1)]
noncomputable abbrev lawTop2 (cn : Str) (L fa : Addr) (cd : Value) : Around := ktrTop (1 + claimMargin + 1) (4 + 3) (some []) cn lawSs.1 L fa cd [(Str.ofString "line", L + 1)] []
noncomputable def ruls : List Nat := [0, 1, 2, 127]
noncomputable def figs1 : List Nat := [1, 2, 15]
theorem ruler2_in (a b c : Nat) : ∃ x y z, rulerF2 a b c = [x, y, z] ∧ x ∈ ruls ∧ y ∈ ruls ∧ z ∈ ruls := by
  refine ⟨_, _, _, rfl, ?_, ?_, ?_⟩
  · have : a % 8 < 8 := Nat.mod_lt _ (by decide)
    generalize a % 8 = k at this
    revert k; decide
  · have : b % 6 < 6 := Nat.mod_lt _ (by decide)
    generalize b % 6 = k at this
    revert k; decide
  · have : c % 6 < 6 := Nat.mod_lt _ (by decide)
    generalize c % 6 = k at this
    revert k; decide
theorem kind_in (n d : Nat) : kindF n d ∈ figs1 := by
  unfold kindF
  have : n / d % 4 < 4 := Nat.mod_lt _ (by decide)
  generalize n / d % 4 = k at this
  revert k; decide
noncomputable def sixF (r f : List Nat) : List (List Nat) := (r ++ f).map wordF
theorem wordF_int (k : Nat) : (apF 10 (-(k : Int)).natAbs []).map (·.toNat) = wordF k := by
  rw [Int.natAbs_neg, Int.natAbs_natCast]; rfl
/-- what stands behind the six words -/
noncomputable abbrev Tail2a (w : World) (cn : Str) (L : Nat) (fa : Addr) (cd : Value) (h₀ : Heap) (oL : Obj) (dr : Drawn) (os : OsState) (Q : Flow → Shared → Prop) (E : Value → Shared → Prop) : Prop :=
  ∀ (r f : List Nat) (d : Nat) {lt lr lf lw kt kr kf kw : Nat} {wt wr wf ww : List Value} {td : Tok} {h' : Heap} {tk' : Nat} {m' : Str → Option Value},
    (∃ x y z, r = [x, y, z] ∧ x ∈ ruls ∧ y ∈ ruls ∧ z ∈ ruls) → (∃ x y z, f = [x, y, z] ∧ x ∈ figs1 ∧ y ∈ figs1 ∧ z ∈ figs1) → d < 10 ^ 6 →
    IntsAre wr (r.map fun (x : Nat) => (x : Int)) → IntsAre wf (f.map fun (x : Nat) => (x : Int)) → StrsAre ww ((sixF r f).map mkS) →
    L + 1 < lt → lt < lr → lr < lf → (@Ne Nat lf lw ∧ @Ne Nat lr lw ∧ @Ne Nat lt lw ∧ @Ne Nat (L + 1) lw ∧ @Ne Nat 108 lw) →
    Fr h₀ L h' (mB [(Str.ofString "words", .ref lw), (Str.ofString "figures", .ref lf), (Str.ofString "ruler", .ref lr)] m') → News h₀ L h' [(lw, listOf ww.toArray kw), (lf, listOf wf.toArray kf), (lr, listOf wr.toArray kr), (lt, listOf wt.toArray kt), (L + 1, oL), (108, tabObj #[])] →
    wpAny (model PySem.Challenge.rw_wn0028_02.prog w) (lawTop2 cn L fa cd) (call (.ref 106) [.ref lw, .int (d : Int) td]) (fun v s₁ => wpAny (model PySem.Challenge.rw_wn0028_02.prog w) (lawTop2 cn L fa cd) (storeName (lawEnv2 cn L fa cd) (Str.ofString "text") v) (fun _ s' => wpAny (model PySem.Challenge.rw_wn0028_02.prog w) (lawTop2 cn L fa cd) (execs (lawBs.1.drop 5) (lawEnv2 cn L fa cd)) Q E s') E s₁) E ⟨h', #[], dr, tk', os⟩
namespace law_run2
set_option maxRecDepth 100000 in
set_option maxHeartbeats 8000000 in
noncomputable def seg9 : {p : PySem.World → PySem.Str → PySem.Addr → PySem.Value → PySem.Heap → Nat → Nat → (List PySem.Value) → (List Int) → (List PySem.Str) → (PySem.ExcName → Option PySem.Value) → (PySem.Str → Option PySem.Value) → (PySem.Str → Option PySem.Value) → PySem.Obj → (PySem.Flow → PySem.Shared → Prop) → (PySem.Value → PySem.Shared → Prop) → PySem.Heap → PySem.Drawn → Nat → PySem.OsState → PySem.Heap → Nat → PySem.Addr → (List PySem.Value) → Nat → Nat → Nat → Nat → Nat → PySem.Heap → Nat → PySem.Heap → Nat → PySem.Addr → (List PySem.Value) → Nat → PySem.Heap → Nat → PySem.Heap → Nat → PySem.Addr → (List PySem.Value) → Nat → PySem.Heap → Nat → Prop // Hid (∀ a0 a1 a2 a3 a4 a5 a6 a7 a8 a9 a10 a11 a12 a13 a14 a15 a16 a17 a18 a19 a20 a21 a22 a23 a24 a25 a26 a27 a28 a29 a30 a31 a32 a33 a34 a35 a36 a37 a38 a39 a40 a41 a42 a43 a44, p a0 a1 a2 a3 a4 a5 a6 a7 a8 a9 a10 a11 a12 a13 a14 a15 a16 a17 a18 a19 a20 a21 a22 a23 a24 a25 a26 a27 a28 a29 a30 a31 a32 a33 a34 a35 a36 a37 a38 a39 a40 a41 a42 a43 a44) → ∀ (w : World) (cn : Str) (fa : Addr) (cd : Value) (h₀ : Heap) (L l : Nat) (vs : List Value) (ns : List Int) (hI : IntsAre vs ns) (hz : ns.length ≤ 63) (loose : List Str) (mean : ExcName → Option Value) (mg mb : Str → Option Value) (oL : Obj) (s : Shared) (Q E) (dL : oL.data = .cell none) (C : CodeHd h₀ 112 108) (B : Below callerA h₀ [] h₀) (F : Fr h₀ L s.heap (mB [(Str.ofString "script", .ref l)] (fun _ => none))) (X : (Mine.hd.heap_39 w.params).In h₀) (N : News h₀ L s.heap [(L + 1, oL), (108, tabObj #[])]) (T : Top PySem.W.topProg loose mean mg mb h₀) (hl : h₀.IsList l vs.toArray) (hT : 108 < L) (hgs : s.gens = #[]) (tail : Tail2a w cn L fa cd h₀ oL s.drawn s.os Q E), wpAny (model PySem.Challenge.rw_wn0028_02.prog w) (lawTop2 cn L fa cd) (execs lawBs.1 (lawEnv2 cn L fa cd)) Q E s} := segOf (by
  intro ht9
  intro w cn fa cd h₀ L l vs ns hI hz loose mean mg mb oL s Q E dL C B F X N T hl hT hgs tail
  obtain ⟨sh, sg, sd, stk, so⟩ := s
  dsimp only at F N hgs tail
  subst hgs
  dsimp only [mB] at F
  k_with_none
  k_with "call ref cons nil" => refine stop_in ?_
  k_with "exec Assign cons ListComp" => refine stop_in ?_
  dsimp only [lawEnv2, lawTop2, lawBs, lawSs]
  k_steps
  refine stop_out ?_
  refine' Ctr.use (drawn2 w l vs ns hI hz) hl Pick.nil (fun _ h => nomatch h) ?k1 ?k2 ?k3 ?k4 ?k5 ?kK ?kd ?ku ?_
  case k1 => k_asm
  case k2 => k_asm
  case k3 => k_asm
  case k4 => k_asm
  case k5 => k_asm
  case kK => exact rfl
  case kd => ktr_room
  case ku => ktr_units
  intro v9 led9 tl9 h9 tk9 hp9 hlt9 F9 N9
  obtain ⟨rfl, lt, wt, kt, a, b, c, d, rfl, rfl, hit, ha, hb, hc, hd⟩ := hp9
  simp only [List.cons_append, List.nil_append] at N9
  clear F N
  have l9 : @LT.lt Nat _ (L + 1) lt := hlt9 _ (.head _) _ (.head _)
  k_steps
  refine stop_out ?_
  refine' CtrR.use (ruler2 w lt wt kt a b c d hit) ?kl ?k1 ?k2 ?k3 ?k4 ?k5 ?kK ?kd ?ku ?_
  ((case k1 => k_asm); (case k2 => k_asm); (case k3 => k_asm); (case k4 => k_asm); (case k5 => k_asm); (case kl => (repeat' first | exact List.forall_mem_nil _ | refine mem_cons_all ?_ ?_ | exact sub_refl | refine sub_tail ?_ | k_mem)); (case kK => first | exact rfl | assumption); (case kd => ktr_room); (case ku => ktr_units))
  intro v8 tl8 h8 tk8 hp8 hlt8 F8 N8
  obtain ⟨lr, wr, kr, rfl, rfl, hir⟩ := hp8
  simp only [List.cons_append, List.nil_append] at N8
  have l8 : @LT.lt Nat _ lt lr := hlt8 _ (.head _) _ (.head _)
  k_steps
  refine stop_out ?_
  refine' CtrR.use (figures2 w lt wt kt a b c d hit) ?kl ?k1 ?k2 ?k3 ?k4 ?k5 ?kK ?kd ?ku ?_
  ((case k1 => k_asm); (case k2 => k_asm); (case k3 => k_asm); (case k4 => k_asm); (case k5 => k_asm); (case kl => (repeat' first | exact List.forall_mem_nil _ | refine mem_cons_all ?_ ?_ | exact sub_refl | refine sub_tail ?_ | k_mem)); (case kK => first | exact rfl | assumption); (case kd => ktr_room); (case ku => ktr_units))
  intro v7 tl7 h7 tk7 hp7 hlt7 F7 N7
  obtain ⟨lf, wf, kf, rfl, rfl, hif⟩ := hp7
  simp only [List.cons_append, List.nil_append] at N7
  have l7 : @LT.lt Nat _ lr lf := hlt7 _ (.head _) _ (.head _)
  clear hlt9 hlt8 hlt7
  k_steps
  refine stop_out ?_
  rename_i z1 z2 z3 z4 z5 y6 y7
  clear hI dL C hl hT ha hb hc
  revert hz B X T tail hit hd l9 hir l8 hif l7 y6 y7
  exact ht9.out w cn fa cd h₀ L l vs ns loose mean mg mb oL Q E sh sd stk so h9 tk9 lt wt kt a b c d z1 z2 h8 tk8 lr wr kr z3 z4 h7 tk7 lf wf kf z5 tk
)
noncomputable def G9 (d : PySem.World × PySem.Str × PySem.Addr × PySem.Value × PySem.Heap × Nat × Nat × (List PySem.Value) × (List Int) × (List PySem.Str) × (PySem.ExcName → Option PySem.Value) × (PySem.Str → Option PySem.Value) × (PySem.Str → Option PySem.Value) × PySem.Obj × (PySem.Flow → PySem.Shared → Prop) × (PySem.Value → PySem.Shared → Prop) × PySem.Heap × PySem.Drawn × Nat × PySem.OsState × PySem.Heap × Nat × PySem.Addr × (List PySem.Value) × Nat × Nat × Nat × Nat × Nat × PySem.Heap × Nat × PySem.Heap × Nat × PySem.Addr × (List PySem.Value) × Nat × PySem.Heap × Nat × PySem.Heap × Nat × PySem.Addr × (List PySem.Value) × Nat × PySem.Heap × Nat) : Prop := seg9.1 d.1 d.2.1 d.2.2.1 d.2.2.2.1 d.2.2.2.2.1 d.2.2.2.2.2.1 d.2.2.2.2.2.2.1 d.2.2.2.2.2.2.2.1 d.2.2.2.2.2.2.2.2.1 d.2.2.2.2.2.2.2.2.2.1 d.2.2.2.2.2.2.2.2.2.2.1 d.2.2.2.2.2.2.2.2.2.2.2.1 d.2.2.2.2.2.2.2.2.2.2.2.2.1 d.2.2.2.2.2.2.2.2.2.2.2.2.2.1 d.2.2.2.2.2.2.2.2.2.2.2.2.2.2.1 d.2.2.2.2.2.2.2.2.2.2.2.2.2.2.2.1 d.2.2.2.2.2.2.2.2.2.2.2.2.2.2.2.2.1 d.2.2.2.2.2.2.2.2.2.2.2.2.2.2.2.2.2.1 d.2.2.2.2.2.2.2.2.2.2.2.2.2.2.2.2.2.2.1 d.2.2.2.2.2.2.2.2.2.2.2.2.2.2.2.2.2.2.2.1 d.2.2.2.2.2.2.2.2.2.2.2.2.2.2.2.2.2.2.2.2.1 d.2.2.2.2.2.2.2.2.2.2.2.2.2.2.2.2.2.2.2.2.2.1 d.2.2.2.2.2.2.2.2.2.2.2.2.2.2.2.2.2.2.2.2.2.2.1 d.2.2.2.2.2.2.2.2.2.2.2.2.2.2.2.2.2.2.2.2.2.2.2.1 d.2.2.2.2.2.2.2.2.2.2.2.2.2.2.2.2.2.2.2.2.2.2.2.2.1 d.2.2.2.2.2.2.2.2.2.2.2.2.2.2.2.2.2.2.2.2.2.2.2.2.2.1 d.2.2.2.2.2.2.2.2.2.2.2.2.2.2.2.2.2.2.2.2.2.2.2.2.2.2.1 d.2.2.2.2.2.2.2.2.2.2.2.2.2.2.2.2.2.2.2.2.2.2.2.2.2.2.2.1 d.2.2.2.2.2.2.2.2.2.2.2.2.2.2.2.2.2.2.2.2.2.2.2.2.2.2.2.2.1 d.2.2.2.2.2.2.2.2.2.2.2.2.2.2.2.2.2.2.2.2.2.2.2.2.2.2.2.2.2.1 d.2.2.2.2.2.2.2.2.2.2.2.2.2.2.2.2.2.2.2.2.2.2.2.2.2.2.2.2.2.2.1 d.2.2.2.2.2.2.2.2.2.2.2.2.2.2.2.2.2.2.2.2.2.2.2.2.2.2.2.2.2.2.2.1 d.2.2.2.2.2.2.2.2.2.2.2.2.2.2.2.2.2.2.2.2.2.2.2.2.2.2.2.2.2.2.2.2.1 d.2.2.2.2.2.2.2.2.2.2.2.2.2.2.2.2.2.2.2.2.2.2.2.2.2.2.2.2.2.2.2.2.2.1 d.2.2.2.2.2.2.2.2.2.2.2.2.2.2.2.2.2.2.2.2.2.2.2.2.2.2.2.2.2.2.2.2.2.2.1 d.2.2.2.2.2.2.2.2.2.2.2.2.2.2.2.2.2.2.2.2.2.2.2.2.2.2.2.2.2.2.2.2.2.2.2.1 d.2.2.2.2.2.2.2.2.2.2.2.2.2.2.2.2.2.2.2.2.2.2.2.2.2.2.2.2.2.2.2.2.2.2.2.2.1 d.2.2.2.2.2.2.2.2.2.2.2.2.2.2.2.2.2.2.2.2.2.2.2.2.2.2.2.2.2.2.2.2.2.2.2.2.2.1 d.2.2.2.2.2.2.2.2.2.2.2.2.2.2.2.2.2.2.2.2.2.2.2.2.2.2.2.2.2.2.2.2.2.2.2.2.2.2.1 d.2.2.2.2.2.2.2.2.2.2.2.2.2.2.2.2.2.2.2.2.2.2.2.2.2.2.2.2.2.2.2.2.2.2.2.2.2.2.2.1 d.2.2.2.2.2.2.2.2.2.2.2.2.2.2.2.2.2.2.2.2.2.2.2.2.2.2.2.2.2.2.2.2.2.2.2.2.2.2.2.2.1 d.2.2.2.2.2.2.2.2.2.2.2.2.2.2.2.2.2.2.2.2.2.2.2.2.2.2.2.2.2.2.2.2.2.2.2.2.2.2.2.2.2.1 d.2.2.2.2.2.2.2.2.2.2.2.2.2.2.2.2.2.2.2.2.2.2.2.2.2.2.2.2.2.2.2.2.2.2.2.2.2.2.2.2.2.2.1 d.2.2.2.2.2.2.2.2.2.2.2.2.2.2.2.2.2.2.2.2.2.2.2.2.2.2.2.2.2.2.2.2.2.2.2.2.2.2.2.2.2.2.2.1 d.2.2.2.2.2.2.2.2.2.2.2.2.2.2.2.2.2.2.2.2.2.2.2.2.2.2.2.2.2.2.2.2.2.2.2.2.2.2.2.2.2.2.2.2
noncomputable def tup9z : PySem.World × PySem.Str × PySem.Addr × PySem.Value × PySem.Heap × Nat × Nat × (List PySem.Value) × (List Int) × (List PySem.Str) × (PySem.ExcName → Option PySem.Value) × (PySem.Str → Option PySem.Value) × (PySem.Str → Option PySem.Value) × PySem.Obj × (PySem.Flow → PySem.Shared → Prop) × (PySem.Value → PySem.Shared → Prop) × PySem.Heap × PySem.Drawn × Nat × PySem.OsState × PySem.Heap × Nat × PySem.Addr × (List PySem.Value) × Nat × Nat × Nat × Nat × Nat × PySem.Heap × Nat × PySem.Heap × Nat × PySem.Addr × (List PySem.Value) × Nat × PySem.Heap × Nat × PySem.Heap × Nat × PySem.Addr × (List PySem.Value) × Nat × PySem.Heap × Nat := hen (World9, (default : Str), (0 : Nat), (default : Value), (default : Heap), (0 : Nat), (0 : Nat), [], [], [], (fun _ => none), (fun _ => none), (fun _ => none), (default : Obj), (fun _ => (fun _ => True)), (fun _ => (fun _ => True)), (default : Heap), ({} : Drawn), (0 : Nat), ({} : OsState), (default : Heap), (0 : Nat), (0 : Nat), [], (0 : Nat), (0 : Nat), (0 : Nat), (0 : Nat), (0 : Nat), (default : Heap), (0 : Nat), (default : Heap), (0 : Nat), (0 : Nat), [], (0 : Nat), (default : Heap), (0 : Nat), (default : Heap), (0 : Nat), (0 : Nat), [], (0 : Nat), (default : Heap), (0 : Nat)) G9
noncomputable def w : PySem.World := tup9z.1
noncomputable def cn : PySem.Str := tup9z.2.1
noncomputable def fa : PySem.Addr := tup9z.2.2.1
noncomputable def cd : PySem.Value := tup9z.2.2.2.1
noncomputable def h₀ : PySem.Heap := tup9z.2.2.2.2.1
noncomputable def L : Nat := tup9z.2.2.2.2.2.1
noncomputable def l : Nat := tup9z.2.2.2.2.2.2.1
noncomputable def vs : List PySem.Value := tup9z.2.2.2.2.2.2.2.1
noncomputable def ns : List Int := tup9z.2.2.2.2.2.2.2.2.1
noncomputable def loose : List PySem.Str := tup9z.2.2.2.2.2.2.2.2.2.1
noncomputable def mean : PySem.ExcName → Option PySem.Value := tup9z.2.2.2.2.2.2.2.2.2.2.1
noncomputable def mg : PySem.Str → Option PySem.Value := tup9z.2.2.2.2.2.2.2.2.2.2.2.1
noncomputable def mb : PySem.Str → Option PySem.Value := tup9z.2.2.2.2.2.2.2.2.2.2.2.2.1
noncomputable def oL : PySem.Obj := tup9z.2.2.2.2.2.2.2.2.2.2.2.2.2.1
noncomputable def Q : PySem.Flow → PySem.Shared → Prop := tup9z.2.2.2.2.2.2.2.2.2.2.2.2.2.2.1
noncomputable def E : PySem.Value → PySem.Shared → Prop := tup9z.2.2.2.2.2.2.2.2.2.2.2.2.2.2.2.1
noncomputable def sh : PySem.Heap := tup9z.2.2.2.2.2.2.2.2.2.2.2.2.2.2.2.2.1
noncomputable def sd : PySem.Drawn := tup9z.2.2.2.2.2.2.2.2.2.2.2.2.2.2.2.2.2.1
noncomputable def stk : Nat := tup9z.2.2.2.2.2.2.2.2.2.2.2.2.2.2.2.2.2.2.1
noncomputable def so : PySem.OsState := tup9z.2.2.2.2.2.2.2.2.2.2.2.2.2.2.2.2.2.2.2.1
noncomputable def h9 : PySem.Heap := tup9z.2.2.2.2.2.2.2.2.2.2.2.2.2.2.2.2.2.2.2.2.1
noncomputable def tk9 : Nat := tup9z.2.2.2.2.2.2.2.2.2.2.2.2.2.2.2.2.2.2.2.2.2.1
noncomputable def lt : PySem.Addr := tup9z.2.2.2.2.2.2.2.2.2.2.2.2.2.2.2.2.2.2.2.2.2.2.1
noncomputable def wt : List PySem.Value := tup9z.2.2.2.2.2.2.2.2.2.2.2.2.2.2.2.2.2.2.2.2.2.2.2.1
noncomputable def kt : Nat := tup9z.2.2.2.2.2.2.2.2.2.2.2.2.2.2.2.2.2.2.2.2.2.2.2.2.1
noncomputable def a : Nat := tup9z.2.2.2.2.2.2.2.2.2.2.2.2.2.2.2.2.2.2.2.2.2.2.2.2.2.1
noncomputable def b : Nat := tup9z.2.2.2.2.2.2.2.2.2.2.2.2.2.2.2.2.2.2.2.2.2.2.2.2.2.2.1
noncomputable def c : Nat := tup9z.2.2.2.2.2.2.2.2.2.2.2.2.2.2.2.2.2.2.2.2.2.2.2.2.2.2.2.1
noncomputable def d : Nat := tup9z.2.2.2.2.2.2.2.2.2.2.2.2.2.2.2.2.2.2.2.2.2.2.2.2.2.2.2.2.1
noncomputable def z1 : PySem.Heap := tup9z.2.2.2.2.2.2.2.2.2.2.2.2.2.2.2.2.2.2.2.2.2.2.2.2.2.2.2.2.2.1
noncomputable def z2 : Nat := tup9z.2.2.2.2.2.2.2.2.2.2.2.2.2.2.2.2.2.2.2.2.2.2.2.2.2.2.2.2.2.2.1
noncomputable def h8 : PySem.Heap := tup9z.2.2.2.2.2.2.2.2.2.2.2.2.2.2.2.2.2.2.2.2.2.2.2.2.2.2.2.2.2.2.2.1
noncomputable def tk8 : Nat := tup9z.2.2.2.2.2.2.2.2.2.2.2.2.2.2.2.2.2.2.2.2.2.2.2.2.2.2.2.2.2.2.2.2.1
noncomputable def lr : PySem.Addr := tup9z.2.2.2.2.2.2.2.2.2.2.2.2.2.2.2.2.2.2.2.2.2.2.2.2.2.2.2.2.2.2.2.2.2.1
noncomputable def wr : List PySem.Value := tup9z.2.2.2.2.2.2.2.2.2.2.2.2.2.2.2.2.2.2.2.2.2.2.2.2.2.2.2.2.2.2.2.2.2.2.1
noncomputable def kr : Nat := tup9z.2.2.2.2.2.2.2.2.2.2.2.2.2.2.2.2.2.2.2.2.2.2.2.2.2.2.2.2.2.2.2.2.2.2.2.1
noncomputable def z3 : PySem.Heap := tup9z.2.2.2.2.2.2.2.2.2.2.2.2.2.2.2.2.2.2.2.2.2.2.2.2.2.2.2.2.2.2.2.2.2.2.2.2.1
noncomputable def z4 : Nat := tup9z.2.2.2.2.2.2.2.2.2.2.2.2.2.2.2.2.2.2.2.2.2.2.2.2.2.2.2.2.2.2.2.2.2.2.2.2.2.1
noncomputable def h7 : PySem.Heap := tup9z.2.2.2.2.2.2.2.2.2.2.2.2.2.2.2.2.2.2.2.2.2.2.2.2.2.2.2.2.2.2.2.2.2.2.2.2.2.2.1
noncomputable def tk7 : Nat := tup9z.2.2.2.2.2.2.2.2.2.2.2.2.2.2.2.2.2.2.2.2.2.2.2.2.2.2.2.2.2.2.2.2.2.2.2.2.2.2.2.1
noncomputable def lf : PySem.Addr := tup9z.2.2.2.2.2.2.2.2.2.2.2.2.2.2.2.2.2.2.2.2.2.2.2.2.2.2.2.2.2.2.2.2.2.2.2.2.2.2.2.2.1
noncomputable def wf : List PySem.Value := tup9z.2.2.2.2.2.2.2.2.2.2.2.2.2.2.2.2.2.2.2.2.2.2.2.2.2.2.2.2.2.2.2.2.2.2.2.2.2.2.2.2.2.1
noncomputable def kf : Nat := tup9z.2.2.2.2.2.2.2.2.2.2.2.2.2.2.2.2.2.2.2.2.2.2.2.2.2.2.2.2.2.2.2.2.2.2.2.2.2.2.2.2.2.2.1
noncomputable def z5 : PySem.Heap := tup9z.2.2.2.2.2.2.2.2.2.2.2.2.2.2.2.2.2.2.2.2.2.2.2.2.2.2.2.2.2.2.2.2.2.2.2.2.2.2.2.2.2.2.2.1
noncomputable def tk : Nat := tup9z.2.2.2.2.2.2.2.2.2.2.2.2.2.2.2.2.2.2.2.2.2.2.2.2.2.2.2.2.2.2.2.2.2.2.2.2.2.2.2.2.2.2.2.2
set_option maxRecDepth 100000 in
set_option maxHeartbeats 8000000 in
theorem main9 : seg9.1 w cn fa cd h₀ L l vs ns loose mean mg mb oL Q E sh sd stk so h9 tk9 lt wt kt a b c d z1 z2 h8 tk8 lr wr kr z3 z4 h7 tk7 lf wf kf z5 tk := by
  delta seg9 segOf
  dsimp -zeta only
  intro hz B X T tail hit hd l9 hir l8 hif l7 y6 y7
  refine LCg.Assign_ListComp_U (env := envX _ _ _ _ _ _) (F₀ := by k_asm) (by rfl) (by with_unfolding_all rfl) (by rfl) (by decide) (by rfl) (by decide) (by rfl) (by rfl) (by rfl) ?_
  k_with "CompSrc" => refine stop_in ?_
  k_steps
  refine stop_out ?_
  k_with_none
  rename_i D9 ws9 h6 F6 N6 hI9 l6
  have hr9 := ruler2_in a b c
  generalize rulerF2 a b c = r at *
  have hf9 : ∃ x y z, figsF2 a b c = [x, y, z] ∧ x ∈ figs1 ∧ y ∈ figs1 ∧ z ∈ figs1 := ⟨_, _, _, rfl, kind_in _ _, kind_in _ _, kind_in _ _⟩
  generalize figsF2 a b c = f at *
  rw [← List.map_append] at hI9
  have hn9 : (r ++ f).length = 6 ∧ ∀ k ∈ r ++ f, k < 256 := by
    obtain ⟨x, y, z, rfl, hx, hy, hz⟩ := hr9
    obtain ⟨x', y', z', rfl, hx', hy', hz'⟩ := hf9
    refine ⟨rfl, ?_⟩
    simp only [ruls, figs1, List.mem_cons, List.not_mem_nil, or_false] at *
    intro k hk
    simp only [List.cons_append, List.nil_append, List.mem_cons, List.not_mem_nil, or_false] at hk
    omega
  have hz9 : ws9.length = 6 := by rw [hI9.length, List.length_map, hn9.1]
  generalize hq : r ++ f = q at *
  refine LCg.CompSrc.ledger (ax := D9) (its := ws9.toArray) (k := 0) (news := [(D9, listOf ws9.toArray 0), (lf, listOf wf.toArray kf), (lr, listOf wr.toArray kr), (lt, listOf wt.toArray kt), (L + 1, oL), (108, tabObj #[])]) (by rfl) (by k_asm) (by k_asm) (.head _) ?zY (fun g => compRest_ind (fun i zs news => news = [(D9, listOf ws9.toArray 0), (lf, listOf wf.toArray kf), (lr, listOf wr.toArray kr), (lt, listOf wt.toArray kt), (L + 1, oL), (108, tabObj #[])] ∧ StrsAre zs (((q.take i).map wordF).map mkS)) ?zU ?zG _ 0 [] _ (Nat.zero_add _).symm ⟨rfl, .nil⟩)
  case zY => rw [List.size_toArray, hz9, sizeLine_eq]; omega
  case zU =>
    intro i zs news v I oI C' oC' D' m₂ h tk E' hi hj hP hC hx' F' N' off ne
    obtain ⟨rfl, hz8⟩ := hj
    obtain ⟨kz, tz, rfl, hkz⟩ := ints_at hI9 (by simpa using hP)
    have hil : i < q.length := by rw [hn9.1]; rw [List.size_toArray, hz9] at hi; exact hi
    rw [List.getElem?_map, List.getElem?_eq_getElem hil, Option.map_some] at hkz
    obtain rfl := Option.some.inj hkz
    have hk := hn9.2 q[i] (List.getElem_mem hil)
    have hg : q[i]? = some q[i] := List.getElem?_eq_getElem hil
    generalize q[i] = n at *
    k_with_none
    k_with "call ref cons nil" => refine stop_in ?_
    k_steps
    refine stop_out ?_
    refine' CtrR.use (word w _ _ 10 (by rw [Int.natAbs_neg, Int.natAbs_natCast]; omega) (by decide)) ?kl ?k1 ?k2 ?k3 ?k4 ?k5 ?kK ?kd ?ku ?_
    ((case k1 => k_asm); (case k2 => k_asm); (case k3 => k_asm); (case k4 => k_asm); (case k5 => k_asm); (case kl => (repeat' first | exact List.forall_mem_nil _ | refine mem_cons_all ?_ ?_ | exact sub_refl | refine sub_tail ?_ | k_mem)); (case kK => first | exact rfl | assumption); (case kd => ktr_room); (case ku => ktr_units))
    intro v7 tl7 h7 tk7 hp7 hlt7 F7 N7
    obtain ⟨rfl, fs, tf, rfl, hfs⟩ := hp7
    simp only [List.nil_append] at N7
    rw [wordF_int] at hfs
    obtain rfl := str_of_list hfs
    refine CompEnd.intro (by k_asm) (by k_asm) ([(D9, listOf ws9.toArray 0), (lf, listOf wf.toArray kf), (lr, listOf wr.toArray kr), (lt, listOf wt.toArray kt), (L + 1, oL), (108, tabObj #[])]) (by (repeat' first | exact List.forall_mem_nil _ | refine mem_cons_all ?_ ?_ | exact sub_refl | refine sub_tail ?_ | k_mem)) off (.inr ⟨_, .head _, rfl, _, rfl⟩) ⟨rfl, ?_⟩
    rw [List.take_add_one, hg, List.map_append, List.map_append]
    exact KStt.strs_snoc hz8
  case zG =>
    intro zs news hj
    obtain ⟨rfl, hz8⟩ := hj
    rw [List.size_toArray, hz9, ← hn9.1, List.take_length] at hz8
    intro D2 h tk F2 N2 offE
    k_with_none
    k_with "call ref cons nil" => refine stop_in ?_
    k_steps
    refine stop_out ?_
    subst hq
    have o := off1_all offE
    exact tail r f d hr9 hf9 hd hir hif hz8 l9 l8 l7 ⟨o _ (.tail _ (.head _)), o _ (.tail _ (.tail _ (.head _))), o _ (.tail _ (.tail _ (.tail _ (.head _)))), o _ (.tail _ (.tail _ (.tail _ (.tail _ (.head _))))), o _ (.tail _ (.tail _ (.tail _ (.tail _ (.tail _ (.head _))))))⟩ (fr_mB (by k_asm) (by exact ⟨rfl, rfl, rfl, trivial⟩)) (news_of (by k_asm) (by (repeat' first | exact List.forall_mem_nil _ | refine mem_cons_all ?_ ?_ | exact sub_refl | refine sub_tail ?_ | k_mem)))

set_option maxRecDepth 100000 in
set_option maxHeartbeats 8000000 in
theorem all9 : ∀ a0 a1 a2 a3 a4 a5 a6 a7 a8 a9 a10 a11 a12 a13 a14 a15 a16 a17 a18 a19 a20 a21 a22 a23 a24 a25 a26 a27 a28 a29 a30 a31 a32 a33 a34 a35 a36 a37 a38 a39 a40 a41 a42 a43 a44, seg9.1 a0 a1 a2 a3 a4 a5 a6 a7 a8 a9 a10 a11 a12 a13 a14 a15 a16 a17 a18 a19 a20 a21 a22 a23 a24 a25 a26 a27 a28 a29 a30 a31 a32 a33 a34 a35 a36 a37 a38 a39 a40 a41 a42 a43 a44 := fun a0 a1 a2 a3 a4 a5 a6 a7 a8 a9 a10 a11 a12 a13 a14 a15 a16 a17 a18 a19 a20 a21 a22 a23 a24 a25 a26 a27 a28 a29 a30 a31 a32 a33 a34 a35 a36 a37 a38 a39 a40 a41 a42 a43 a44 => hen_all (G := G9) main9 (a0, a1, a2, a3, a4, a5, a6, a7, a8, a9, a10, a11, a12, a13, a14, a15, a16, a17, a18, a19, a20, a21, a22, a23, a24, a25, a26, a27, a28, a29, a30, a31, a32, a33, a34, a35, a36, a37, a38, a39, a40, a41, a42, a43, a44)
end law_run2
theorem law2_run (w : World) (cn : Str) (fa : Addr) (cd : Value) (h₀ : Heap) (L l : Nat) (vs : List Value) (ns : List Int) (hI : IntsAre vs ns) (hz : ns.length ≤ 63) (loose : List Str) (mean : ExcName → Option Value) (mg mb : Str → Option Value) (oL : Obj) (s : Shared) (Q E)
    (dL : oL.data = .cell none)
    (C : CodeHd h₀ 112 108) (B : Below callerA h₀ [] h₀) (F : Fr h₀ L s.heap (mB [(Str.ofString "script", .ref l)] (fun _ => none))) (X : (Mine.hd.heap_39 w.params).In h₀)
    (N : News h₀ L s.heap [(L + 1, oL), (108, tabObj #[])]) (T : Top PySem.W.topProg loose mean mg mb h₀) (hl : h₀.IsList l vs.toArray) (hT : 108 < L) (hgs : s.gens = #[])
    (tail : Tail2a w cn L fa cd h₀ oL s.drawn s.os Q E) : wpAny (model PySem.Challenge.rw_wn0028_02.prog w) (lawTop2 cn L fa cd) (execs lawBs.1 (lawEnv2 cn L fa cd)) Q E s := law_run2.seg9.2 ⟨law_run2.all9⟩ w cn fa cd h₀ L l vs ns hI hz loose mean mg mb oL s Q E dL C B F X N T hl hT hgs tail

end Mine
namespace Mine
theorem reset_spelled2 : True := by
  w_top off
  trivial
/-- one word as it is spelled by a choice below 16 -/
noncomputable def spellW (wd : List Nat) (ch : Nat) : List Nat :=
  (if wd = [] ∨ ch % 4 > 1 then [34] ++ (if ch % 2 = 1 then wd.flatMap (fun c => [92, c]) else wd) ++ [34] else (if ch % 2 = 1 then wd.flatMap (fun c => [92, c]) else wd)) ++ [([9, 10, 13, 32] : List Nat).getD (ch / 4) 0]
noncomputable def spellM (total : Nat) : Nat → List (List Nat) → List Nat
  | _, [] => []
  | i, wd :: r => spellW wd (total / 9 ^ i % 16) ++ spellM total (i + 1) r
theorem bsl_glue (c : Nat) : Str.ofString "\\" ++ (⟨#[c]⟩ : Str) = mkS [92, c] := by
  rw [show Str.ofString "\\" = mkS [92] by decide +kernel]; exact mkS_app [92] [c]
theorem join_twos (q : List Nat) : Txt.join (Str.ofString "") (q.map fun c => mkS [92, c]) = mkS (q.flatMap fun c => [92, c]) := by
  rw [mkS_of (Txt.join _ _), join_none]
  congr 1
  induction q with
  | nil => rfl
  | cons c q ih => simp_all
theorem sum_twos (q : List Nat) : ((q.map fun c => mkS [92, c]).map (·.length)).sum = 2 * q.length := by
  induction q with
  | nil => rfl
  | cons c q ih => simp only [List.map_cons, List.sum_cons, ih, List.length_cons]; show 2 + 2 * q.length = _; omega
theorem twos_len (q : List Nat) : (q.flatMap fun c => [92, c]).length = 2 * q.length := by
  induction q with
  | nil => rfl
  | cons c q ih => simp only [List.flatMap_cons, List.length_append, ih, List.length_cons, List.length_nil]; omega
theorem beq_empty (wd : List Nat) : (mkS wd == Str.ofString "") = decide (wd = []) := by
  rw [empty_mkS]
  by_cases h : wd = []
  · subst h; simp
  · rw [decide_eq_false h]
    have : mkS wd ≠ mkS [] := fun e => h (mkS_inj e)
    simpa using this
theorem spellW_len (wd : List Nat) (ch : Nat) : (spellW wd ch).length ≤ 2 * wd.length + 3 := by
  unfold spellW
  split <;> split <;> simp only [List.length_append, List.length_cons, List.length_nil, twos_len] <;> omega
theorem spellM_step {n i ch : Nat} {tx wd : List Nat} {wds : List (List Nat)} {sp : Str} (hch : ch = n / 9 ^ i % 16) (hx : wds[i]? = some wd) (hok : tx ++ spellM n i (wds.drop i) = spellM n 0 wds) (hl : tx.length ≤ 10 * i) (hw : wd.length ≤ 2)
    (hs : sp = mkS (spellW wd ch)) : ∃ tx', mkS tx ++ sp = mkS tx' ∧ tx' ++ spellM n (i + 1) (wds.drop (i + 1)) = spellM n 0 wds ∧ tx'.length ≤ 10 * (i + 1) := by
  rw [drop_cons hx, spellM, ← hch, ← List.append_assoc] at hok
  refine ⟨tx ++ spellW wd ch, by rw [hs, mkS_app], hok, ?_⟩
  have := spellW_len wd ch
  rw [List.length_append]; omega
theorem quo_mk : Str.ofString "\"" = mkS [34] := by decide +kernel
theorem item_mk {ch : Nat} (h : ch < 16) : Txt.item (Str.ofString "\t\n\x0d ") ((ch : Int).fdiv 4) = mkS [([9, 10, 13, 32] : List Nat).getD (ch / 4) 0] := by
  have := item_ws h
  rw [mkS_of (Txt.item _ _), this]
namespace spelledA
set_option maxRecDepth 100000 in
set_option maxHeartbeats 4000000 in
noncomputable def seg9 : {p : PySem.World → PySem.Addr → Nat → (List PySem.Value) → (List (List Nat)) → Nat → PySem.Tok → (List PySem.Str) → (PySem.ExcName → Option PySem.Value) → (PySem.Str → Option PySem.Value) → (PySem.Str → Option PySem.Value) → (List (PySem.Addr × PySem.Obj)) → Nat → Nat → (Option (List PySem.Code)) → PySem.Str → PySem.Scope → PySem.Addr → PySem.Value → (List (PySem.Str × PySem.Addr)) → (List PySem.Env) → PySem.Around → PySem.Heap → PySem.Heap → PySem.Addr → (PySem.Str → Option PySem.Value) → PySem.Shared → (PySem.Result → PySem.Shared → Prop) → PySem.Addr → PySem.Heap → Nat → PySem.Heap → PySem.Heap → PySem.Addr → Prop // Hid (∀ a0 a1 a2 a3 a4 a5 a6 a7 a8 a9 a10 a11 a12 a13 a14 a15 a16 a17 a18 a19 a20 a21 a22 a23 a24 a25 a26 a27 a28 a29 a30 a31 a32 a33, p a0 a1 a2 a3 a4 a5 a6 a7 a8 a9 a10 a11 a12 a13 a14 a15 a16 a17 a18 a19 a20 a21 a22 a23 a24 a25 a26 a27 a28 a29 a30 a31 a32 a33) → ∀ (w : World) (l : Addr) (c : Nat) (vs : List Value) (wds : List (List Nat)) (hi : StrsAre vs (wds.map mkS)) (hz : wds.length ≤ 6) (h2 : ∀ wd ∈ wds, wd.length ≤ 2) (n : Nat) (u : Tok) (hn : n < 10 ^ 9), CtrR PySem.Challenge.rw_wn0028_02.prog w (Mine.hd.heap_39 w.params) PySem.W.topProg 2 30 106 [.ref l, .int (n : Int) u] [(l, listOf vs.toArray c)] (fun v tl => tl = [] ∧ ∃ tk, v = .str (mkS (spellM n 0 wds)) tk)} := segOf (by
   intro ht9
   intro w l c vs wds hi hz h2 n u hn
   intro loose mean mg mb rest dp un gd cn cs aa ccd cl outer A₀ base h₀ L m s R hled B F₀ X N₀ T hk hd hu hret
   have hm1 := (N₀ _ (hled _ (.head _))).1
   have hl1 : s.heap.IsList l vs.toArray := ⟨_, hm1, rfl, _, rfl⟩
   k_with_none
   k_with "pyIter ref" => refine stop_in ?_
   k_dflt ((refine' code_open ?k1 ?k2 ?k3 ?k5 ?kA ?kF ?kK ?k6 ?k7 ?k8 ?k9 ?kB ?_ ?c2 ?c3 ?c4 ?c5; (case kA => exact rfl); (case kF => exact rfl); (case kK => first | exact rfl | assumption); (case k1 => k_asm); (case k2 => k_asm); (case k3 => k_asm); (case k5 => k_asm); (case k6 => k_is); (case k7 => k_is); (case k8 => ktr_room); (case k9 => first | exact BindsTo.of_eq rfl | exact binds_K (by k_in) rfl (by k_is) rfl rfl rfl); (case c5 => decide); (case kB => exact locs rfl); (case c2 => exact rfl); (case c3 => exact rfl); (case c4 => exact rfl); k_whole; intro L9z h9z F9z N9z B9z X9z T9z hsz9z; (try dsimp only)))
   k_steps
   refine stop_out ?_
   rename_i S9
   rename_i z1 y2 y3 z4 z5 y6 y7
   clear hi hn hled B hk hd hu B9z X9z T9z hsz9z y2 y3 y6 y7
   revert hz h2 F₀ X N₀ T hret hm1 hl1 S9
   exact ht9.out w l c vs wds n u loose mean mg mb rest dp un gd cn cs aa ccd cl outer A₀ base h₀ L m s R L9z h9z tk z1 z4 z5
)
noncomputable def G9 (d : PySem.World × PySem.Addr × Nat × (List PySem.Value) × (List (List Nat)) × Nat × PySem.Tok × (List PySem.Str) × (PySem.ExcName → Option PySem.Value) × (PySem.Str → Option PySem.Value) × (PySem.Str → Option PySem.Value) × (List (PySem.Addr × PySem.Obj)) × Nat × Nat × (Option (List PySem.Code)) × PySem.Str × PySem.Scope × PySem.Addr × PySem.Value × (List (PySem.Str × PySem.Addr)) × (List PySem.Env) × PySem.Around × PySem.Heap × PySem.Heap × PySem.Addr × (PySem.Str → Option PySem.Value) × PySem.Shared × (PySem.Result → PySem.Shared → Prop) × PySem.Addr × PySem.Heap × Nat × PySem.Heap × PySem.Heap × PySem.Addr) : Prop := seg9.1 d.1 d.2.1 d.2.2.1 d.2.2.2.1 d.2.2.2.2.1 d.2.2.2.2.2.1 d.2.2.2.2.2.2.1 d.2.2.2.2.2.2.2.1 d.2.2.2.2.2.2.2.2.1 d.2.2.2.2.2.2.2.2.2.1 d.2.2.2.2.2.2.2.2.2.2.1 d.2.2.2.2.2.2.2.2.2.2.2.1 d.2.2.2.2.2.2.2.2.2.2.2.2.1 d.2.2.2.2.2.2.2.2.2.2.2.2.2.1 d.2.2.2.2.2.2.2.2.2.2.2.2.2.2.1 d.2.2.2.2.2.2.2.2.2.2.2.2.2.2.2.1 d.2.2.2.2.2.2.2.2.2.2.2.2.2.2.2.2.1 d.2.2.2.2.2.2.2.2.2.2.2.2.2.2.2.2.2.1 d.2.2.2.2.2.2.2.2.2.2.2.2.2.2.2.2.2.2.1 d.2.2.2.2.2.2.2.2.2.2.2.2.2.2.2.2.2.2.2.1 d.2.2.2.2.2.2.2.2.2.2.2.2.2.2.2.2.2.2.2.2.1 d.2.2.2.2.2.2.2.2.2.2.2.2.2.2.2.2.2.2.2.2.2.1 d.2.2.2.2.2.2.2.2.2.2.2.2.2.2.2.2.2.2.2.2.2.2.1 d.2.2.2.2.2.2.2.2.2.2.2.2.2.2.2.2.2.2.2.2.2.2.2.1 d.2.2.2.2.2.2.2.2.2.2.2.2.2.2.2.2.2.2.2.2.2.2.2.2.1 d.2.2.2.2.2.2.2.2.2.2.2.2.2.2.2.2.2.2.2.2.2.2.2.2.2.1 d.2.2.2.2.2.2.2.2.2.2.2.2.2.2.2.2.2.2.2.2.2.2.2.2.2.2.1 d.2.2.2.2.2.2.2.2.2.2.2.2.2.2.2.2.2.2.2.2.2.2.2.2.2.2.2.1 d.2.2.2.2.2.2.2.2.2.2.2.2.2.2.2.2.2.2.2.2.2.2.2.2.2.2.2.2.1 d.2.2.2.2.2.2.2.2.2.2.2.2.2.2.2.2.2.2.2.2.2.2.2.2.2.2.2.2.2.1 d.2.2.2.2.2.2.2.2.2.2.2.2.2.2.2.2.2.2.2.2.2.2.2.2.2.2.2.2.2.2.1 d.2.2.2.2.2.2.2.2.2.2.2.2.2.2.2.2.2.2.2.2.2.2.2.2.2.2.2.2.2.2.2.1 d.2.2.2.2.2.2.2.2.2.2.2.2.2.2.2.2.2.2.2.2.2.2.2.2.2.2.2.2.2.2.2.2.1 d.2.2.2.2.2.2.2.2.2.2.2.2.2.2.2.2.2.2.2.2.2.2.2.2.2.2.2.2.2.2.2.2.2
noncomputable def tup9z : PySem.World × PySem.Addr × Nat × (List PySem.Value) × (List (List Nat)) × Nat × PySem.Tok × (List PySem.Str) × (PySem.ExcName → Option PySem.Value) × (PySem.Str → Option PySem.Value) × (PySem.Str → Option PySem.Value) × (List (PySem.Addr × PySem.Obj)) × Nat × Nat × (Option (List PySem.Code)) × PySem.Str × PySem.Scope × PySem.Addr × PySem.Value × (List (PySem.Str × PySem.Addr)) × (List PySem.Env) × PySem.Around × PySem.Heap × PySem.Heap × PySem.Addr × (PySem.Str → Option PySem.Value) × PySem.Shared × (PySem.Result → PySem.Shared → Prop) × PySem.Addr × PySem.Heap × Nat × PySem.Heap × PySem.Heap × PySem.Addr := hen (World9, (0 : Nat), (0 : Nat), [], [], (0 : Nat), (0 : Nat), [], (fun _ => none), (fun _ => none), (fun _ => none), [], (0 : Nat), (0 : Nat), none, (default : Str), (default : Scope), (0 : Nat), (default : Value), [], [], ({} : Around), (default : Heap), (default : Heap), (0 : Nat), (fun _ => none), ({} : Shared), (fun _ => (fun _ => True)), (0 : Nat), (default : Heap), (0 : Nat), (default : Heap), (default : Heap), (0 : Nat)) G9
noncomputable def w : PySem.World := tup9z.1
noncomputable def l : PySem.Addr := tup9z.2.1
noncomputable def c : Nat := tup9z.2.2.1
noncomputable def vs : List PySem.Value := tup9z.2.2.2.1
noncomputable def wds : List (List Nat) := tup9z.2.2.2.2.1
noncomputable def n : Nat := tup9z.2.2.2.2.2.1
noncomputable def u : PySem.Tok := tup9z.2.2.2.2.2.2.1
noncomputable def loose : List PySem.Str := tup9z.2.2.2.2.2.2.2.1
noncomputable def mean : PySem.ExcName → Option PySem.Value := tup9z.2.2.2.2.2.2.2.2.1
noncomputable def mg : PySem.Str → Option PySem.Value := tup9z.2.2.2.2.2.2.2.2.2.1
noncomputable def mb : PySem.Str → Option PySem.Value := tup9z.2.2.2.2.2.2.2.2.2.2.1
noncomputable def rest : List (PySem.Addr × PySem.Obj) := tup9z.2.2.2.2.2.2.2.2.2.2.2.1
noncomputable def dp : Nat := tup9z.2.2.2.2.2.2.2.2.2.2.2.2.1
noncomputable def un : Nat := tup9z.2.2.2.2.2.2.2.2.2.2.2.2.2.1
noncomputable def gd : Option (List PySem.Code) := tup9z.2.2.2.2.2.2.2.2.2.2.2.2.2.2.1
noncomputable def cn : PySem.Str := tup9z.2.2.2.2.2.2.2.2.2.2.2.2.2.2.2.1
noncomputable def cs : PySem.Scope := tup9z.2.2.2.2.2.2.2.2.2.2.2.2.2.2.2.2.1
noncomputable def aa : PySem.Addr := tup9z.2.2.2.2.2.2.2.2.2.2.2.2.2.2.2.2.2.1
noncomputable def ccd : PySem.Value := tup9z.2.2.2.2.2.2.2.2.2.2.2.2.2.2.2.2.2.2.1
noncomputable def cl : List (PySem.Str × PySem.Addr) := tup9z.2.2.2.2.2.2.2.2.2.2.2.2.2.2.2.2.2.2.2.1
noncomputable def outer : List PySem.Env := tup9z.2.2.2.2.2.2.2.2.2.2.2.2.2.2.2.2.2.2.2.2.1
noncomputable def A₀ : PySem.Around := tup9z.2.2.2.2.2.2.2.2.2.2.2.2.2.2.2.2.2.2.2.2.2.1
noncomputable def base : PySem.Heap := tup9z.2.2.2.2.2.2.2.2.2.2.2.2.2.2.2.2.2.2.2.2.2.2.1
noncomputable def h₀ : PySem.Heap := tup9z.2.2.2.2.2.2.2.2.2.2.2.2.2.2.2.2.2.2.2.2.2.2.2.1
noncomputable def L : PySem.Addr := tup9z.2.2.2.2.2.2.2.2.2.2.2.2.2.2.2.2.2.2.2.2.2.2.2.2.1
noncomputable def m : PySem.Str → Option PySem.Value := tup9z.2.2.2.2.2.2.2.2.2.2.2.2.2.2.2.2.2.2.2.2.2.2.2.2.2.1
noncomputable def s : PySem.Shared := tup9z.2.2.2.2.2.2.2.2.2.2.2.2.2.2.2.2.2.2.2.2.2.2.2.2.2.2.1
noncomputable def R : PySem.Result → PySem.Shared → Prop := tup9z.2.2.2.2.2.2.2.2.2.2.2.2.2.2.2.2.2.2.2.2.2.2.2.2.2.2.2.1
noncomputable def L9z : PySem.Addr := tup9z.2.2.2.2.2.2.2.2.2.2.2.2.2.2.2.2.2.2.2.2.2.2.2.2.2.2.2.2.1
noncomputable def h9z : PySem.Heap := tup9z.2.2.2.2.2.2.2.2.2.2.2.2.2.2.2.2.2.2.2.2.2.2.2.2.2.2.2.2.2.1
noncomputable def tk : Nat := tup9z.2.2.2.2.2.2.2.2.2.2.2.2.2.2.2.2.2.2.2.2.2.2.2.2.2.2.2.2.2.2.1
noncomputable def z1 : PySem.Heap := tup9z.2.2.2.2.2.2.2.2.2.2.2.2.2.2.2.2.2.2.2.2.2.2.2.2.2.2.2.2.2.2.2.1
noncomputable def z4 : PySem.Heap := tup9z.2.2.2.2.2.2.2.2.2.2.2.2.2.2.2.2.2.2.2.2.2.2.2.2.2.2.2.2.2.2.2.2.1
noncomputable def z5 : PySem.Addr := tup9z.2.2.2.2.2.2.2.2.2.2.2.2.2.2.2.2.2.2.2.2.2.2.2.2.2.2.2.2.2.2.2.2.2
set_option maxRecDepth 100000 in
set_option maxHeartbeats 4000000 in
theorem main9 : seg9.1 w l c vs wds n u loose mean mg mb rest dp un gd cn cs aa ccd cl outer A₀ base h₀ L m s R L9z h9z tk z1 z4 z5 := by
   delta seg9 segOf
   dsimp -zeta only
   intro hz h2 F₀ X N₀ T hret hm1 hl1 S9
   refine pair_st (σ := Str × Tok) (env := envOf _ _ _ _ _) S9 rfl (fun y => [(Str.ofString "total", .int (n : Int) u), (Str.ofString "text", .str y.1 y.2)]) (fun _ => []) (fun i y => ∃ tx, y.1 = mkS tx ∧ tx ++ spellM n i (wds.drop i) = spellM n 0 wds ∧ tx.length ≤ 10 * i) (Str.ofString "", _) ⟨rfl, rfl, trivial⟩ rfl ⟨[], empty_mkS, rfl, Nat.le_refl _⟩ ?_ ?_
   · clear S9
     intro i a y t9 v h tk m₁ own ha hv hok hoff F N
     obtain ⟨ts, tt⟩ := y
     obtain ⟨tx, e, hok1, hok2⟩ := hok
     dsimp only at e
     subst e
     obtain ⟨t8, rfl⟩ := ItemKind.str_is hv
     obtain ⟨wd, hwd, rfl⟩ : ∃ wd, wds[i]? = some wd ∧ mkS wd = a := by simpa using ha
     have hi6 : i < 6 := by have := (List.getElem?_eq_some_iff.mp hwd).1; omega
     have hw2 := h2 wd (List.mem_of_getElem? hwd)
     dsimp only [mB] at *
     rw [List.nil_append] at N
     have hL1 : (mkS wd).length ≤ 2 := by rw [mkS_len]; exact hw2
     have hL2 : (mkS tx).length ≤ 60 := by rw [mkS_len]; omega
     have hL3 : (mkS (wd.flatMap fun c => [92, c])).length ≤ 4 := by rw [mkS_len, twos_len]; omega
     clear hm1 hl1 ha hv
     have hpow : (9 : Int) ^ ((i : Int)).toNat ≠ 0 := by
       have : (0 : Int) < 9 ^ ((i : Int)).toNat := Int.pow_pos (by decide)
       omega
     k_with_none
     k_with "binaryOp FloorDiv int int" => refine floordiv_int hpow ?_ (Or.inl (pyl9 (by omega)))
     k_with "binaryOp Mod int int" => (refine mod_int' (by decide) ?_; rw [chN9]; obtain ⟨ch, hch⟩ : ∃ ch, ch = n / 9 ^ i % 16 := ⟨_, rfl⟩; rw [← hch]; have hlt : ch < 16 := by omega)
     k_with "eval IfExp" => refine stop_in ?_
     k_steps
     refine stop_out ?_
     refine eval_join (own := own) (mkS (if ch % 2 = 1 then wd.flatMap (fun c => [92, c]) else wd)) (by k_asm) (by k_asm) ?j1 ?j2
     case j1 =>
       k_with_none
       k_with "eval ListComp" => refine stop_in ?_
       k_steps
       · refine stop_out ?_
         refine ListComp_S (F₀ := by k_asm) (by with_unfolding_all rfl) (by decide) (by rfl) (by decide) (by rfl) ?_
         k_steps
         refine SrcTB.text rfl (by k_asm) (by k_asm) ?_ (fun g => compRest_ind (fun j ys news => news = own ∧ StrsAre ys ((wd.take j).map fun c => mkS [92, c])) ?_ ?_ _ 0 [] _ (Nat.zero_add _).symm ⟨rfl, .nil⟩)
         · rw [sizeLine_eq]; simp [mkS]; omega
         · intro j ys news v I oI C oC D m₂ h tk E' hj hJ hP hC hx F' N' off ne
           obtain ⟨rfl, hs⟩ := hJ
           obtain ⟨c, u, hc, rfl⟩ := hP
           k_steps
           refine CompEnd.intro (by k_asm) (by k_asm) news (fun p hp => hp) off trivial ⟨rfl, ?_⟩
           have hc' : wd[j]? = some c := by simpa [mkS] using hc
           rw [List.take_add_one, hc', List.map_append, bsl_glue]
           exact hs.append' (.cons _ _ .nil)
         · intro ys news hJ
           obtain ⟨rfl, hs⟩ := hJ
           rw [show (mkS wd).cps.size = wd.length by simp [mkS], List.take_length] at hs
           k_steps
           refine join_list (by is_list) hs ?_ ?_
           · rw [sum_twos, show (Str.ofString "").length = 0 from by rw [empty_mkS]; rfl]; omega
           · intro t' k
             rw [join_twos]
             k_steps
             refine JoinS.mk (by k_asm) (by k_asm) (by (repeat' first | exact List.forall_mem_nil _ | refine mem_cons_all ?_ ?_ | exact sub_refl | refine sub_tail ?_ | k_mem)) ?_
             simp only [fm2] at *
             rw [if_pos (by omega)]
       · refine JoinS.mk (by k_asm) (by k_asm) (by (repeat' first | exact List.forall_mem_nil _ | refine mem_cons_all ?_ ?_ | exact sub_refl | refine sub_tail ?_ | k_mem)) ?_
         simp only [fm2] at *
         rw [if_neg (by omega)]
     case j2 =>
       intro h7 tk7 t7 F7 N7
       have hL4 : (mkS (if ch % 2 = 1 then wd.flatMap (fun c => [92, c]) else wd)).length ≤ 4 := by split <;> omega
       generalize hsp : (if ch % 2 = 1 then wd.flatMap (fun c => [92, c]) else wd) = sp at *
       k_with_none
       k_with "exec If" => refine stop_in ?_
       k_steps
       refine stop_out ?_
       refine exec_join (own := own) (fun m => [(Str.ofString "total", .int (n : Int) u), (Str.ofString "text", .str (mkS tx) tt), (Str.ofString "choice", .int (ch : Int) (tokI (m (Str.ofString "choice")))), (Str.ofString "spelled", .str (mkS (if wd = [] ∨ ch % 4 > 1 then [34] ++ sp ++ [34] else sp)) (tokS (m (Str.ofString "spelled"))))]) (by k_asm) (by k_asm) ?j3 ?j4
       case j3 =>
         k_with_none
         k_steps
         all_goals
           simp only [fm4, beq_empty, decide_eq_true_eq, decide_eq_false_iff_not, quo_mk, mkS_app] at *
           refine JoinM.mk (by k_asm) (by k_asm) (by (repeat' first | exact List.forall_mem_nil _ | refine mem_cons_all ?_ ?_ | exact sub_refl | refine sub_tail ?_ | k_mem)) ?_
           first
           | rw [if_pos (by first | exact .inl (by assumption) | exact .inr (by omega))]
           | rw [if_neg (by
                  rintro (q | q)
                  · exact absurd q (by assumption)
                  · omega)]
           (repeat' first | exact True.intro | refine ⟨?_, ?_⟩ | kernel_rfl | exact rfl)
       case j4 =>
         intro h6 tk6 m6 F6 N6
         dsimp only [mB] at F6
         have hL5 : (mkS (if wd = [] ∨ ch % 4 > 1 then [34] ++ sp ++ [34] else sp)).length ≤ 6 := by
           rw [mkS_len] at hL4 ⊢
           split <;> (try simp only [List.length_append, List.length_cons, List.length_nil]) <;> omega
         k_with_none
         k_steps
         show PairEnd _ _ _ _ _ _ _ _ _ _
         refine PairEnd.mk (_, _) (by k_asm) (by k_asm) ⟨rfl, rfl, trivial⟩ (by intro p hp; first | exact hp | exact List.mem_cons_of_mem _ hp) rfl (spellM_step hch hwd hok1 hok2 hw2 ?_)
         subst hsp
         simp only [spellW, item_mk hlt, mkS_app]
   · clear S9
     intro h' tk m₁ y hok F N
     obtain ⟨ts, tt⟩ := y
     obtain ⟨tx, e, hok1, hok2⟩ := hok
     dsimp only at e
     subst e
     dsimp only [mB] at *
     k_steps
     rw [show wds.drop (wds.map mkS).length = [] by simp, spellM, List.append_nil] at hok1
     rw [hok1]
     exact hret _ [] _ _ ⟨rfl, _, rfl⟩ (fun _ _ _ h => nomatch h) (by k_asm) (N₀.grown (Fr.keep (by k_asm)))

set_option maxRecDepth 100000 in
set_option maxHeartbeats 4000000 in
theorem all9 : ∀ a0 a1 a2 a3 a4 a5 a6 a7 a8 a9 a10 a11 a12 a13 a14 a15 a16 a17 a18 a19 a20 a21 a22 a23 a24 a25 a26 a27 a28 a29 a30 a31 a32 a33, seg9.1 a0 a1 a2 a3 a4 a5 a6 a7 a8 a9 a10 a11 a12 a13 a14 a15 a16 a17 a18 a19 a20 a21 a22 a23 a24 a25 a26 a27 a28 a29 a30 a31 a32 a33 := fun a0 a1 a2 a3 a4 a5 a6 a7 a8 a9 a10 a11 a12 a13 a14 a15 a16 a17 a18 a19 a20 a21 a22 a23 a24 a25 a26 a27 a28 a29 a30 a31 a32 a33 => hen_all (G := G9) main9 (a0, a1, a2, a3, a4, a5, a6, a7, a8, a9, a10, a11, a12, a13, a14, a15, a16, a17, a18, a19, a20, a21, a22, a23, a24, a25, a26, a27, a28, a29, a30, a31, a32, a33)
end spelledA
theorem spelled2 (w : World) (l : Addr) (c : Nat) (vs : List Value) (wds : List (List Nat)) (hi : StrsAre vs (wds.map mkS)) (hz : wds.length ≤ 6) (h2 : ∀ wd ∈ wds, wd.length ≤ 2) (n : Nat) (u : Tok) (hn : n < 10 ^ 9) : CtrR PySem.Challenge.rw_wn0028_02.prog w (Mine.hd.heap_39 w.params) PySem.W.topProg 2 30 106 [.ref l, .int (n : Int) u] [(l, listOf vs.toArray c)] (fun v tl => tl = [] ∧ ∃ tk, v = .str (mkS (spellM n 0 wds)) tk) := spelledA.seg9.2 ⟨spelledA.all9⟩ w l c vs wds hi hz h2 n u hn

end Mine
namespace Mine
theorem reset_lexword : True := by
  w_top off
  trivial
theorem up_facts {c : Nat} (hc : 66 ≤ c ∧ c ≤ 80) : isWs c = false ∧ c ≠ 10 ∧ c ≠ 34 ∧ c ≠ 92 := by
  refine ⟨?_, ?_, ?_, ?_⟩
  · unfold isWs
    simp only [Bool.or_eq_false_iff, beq_eq_false_iff_ne, ne_eq]
    omega
  · omega
  · omega
  · omega
theorem lnAft_ne {c : Nat} (r : List Nat) (ln : Int) (h : c ≠ 10) : lnAft (c :: r) ln = ln := by simp [lnAft, h]
theorem lexQ_body (b : Prop) [Decidable b] : ∀ (wd acc T : List Nat) (ln : Int), (∀ c ∈ wd, 66 ≤ c ∧ c ≤ 80) → lexQ ((if b then wd.flatMap (fun c => [92, c]) else wd) ++ 34 :: T) acc ln = some (acc ++ wd, T, ln)
  | [], acc, T, ln, _ => by
    have e : (if b then ([] : List Nat).flatMap (fun c => [92, c]) else []) = [] := by split <;> rfl
    rw [e, List.nil_append, lexQ_cons, if_pos rfl, lnAft_ne _ _ (by decide), List.append_nil]
  | c :: r, acc, T, ln, h => by
    have hc := up_facts (h c (.head _))
    have ih := lexQ_body b r (acc ++ [c]) T ln (fun d hd => h d (.tail _ hd))
    rw [List.append_assoc, List.singleton_append] at ih
    by_cases q : b
    · rw [if_pos q] at ih ⊢
      show lexQ (92 :: c :: (r.flatMap (fun c => [92, c]) ++ 34 :: T)) acc ln = _
      rw [lexQ_cons, if_neg (by decide), if_pos rfl]
      show lexQ (r.flatMap (fun c => [92, c]) ++ 34 :: T) (acc ++ [c]) (lnAft (c :: _) (lnAft (92 :: _) ln)) = _
      rw [lnAft_ne _ ln (by decide), lnAft_ne _ ln hc.2.1]; exact ih
    · rw [if_neg q] at ih ⊢
      show lexQ (c :: (r ++ 34 :: T)) acc ln = _
      rw [lexQ_cons, if_neg hc.2.2.1, if_neg hc.2.2.2, lnAft_ne _ _ hc.2.1]; exact ih
theorem lexW_body (b : Prop) [Decidable b] (w : Nat) (hw : isWs w = true) : ∀ (wd acc T : List Nat) (ln : Int), (∀ c ∈ wd, 66 ≤ c ∧ c ≤ 80) → lexW ((if b then wd.flatMap (fun c => [92, c]) else wd) ++ w :: T) acc ln = some (acc ++ wd, T, lnAft (w :: T) ln)
  | [], acc, T, ln, _ => by
    have e : (if b then ([] : List Nat).flatMap (fun c => [92, c]) else []) = [] := by split <;> rfl
    rw [e, List.nil_append, lexW_cons, hw, if_pos rfl, List.append_nil]
  | c :: r, acc, T, ln, h => by
    have hc := up_facts (h c (.head _))
    have ih := lexW_body b w hw r (acc ++ [c]) T ln (fun d hd => h d (.tail _ hd))
    rw [List.append_assoc, List.singleton_append] at ih
    by_cases q : b
    · rw [if_pos q] at ih ⊢
      show lexW (92 :: c :: (r.flatMap (fun c => [92, c]) ++ w :: T)) acc ln = _
      rw [lexW_cons, if_neg (by decide), if_pos rfl]
      show lexW (r.flatMap (fun c => [92, c]) ++ w :: T) (acc ++ [c]) (lnAft (c :: _) (lnAft (92 :: _) ln)) = _
      rw [lnAft_ne _ ln (by decide), lnAft_ne _ ln hc.2.1]; exact ih
    · rw [if_neg q] at ih ⊢
      show lexW (c :: (r ++ w :: T)) acc ln = _
      rw [lexW_cons, hc.1, if_neg Bool.false_ne_true, if_neg hc.2.2.2, lnAft_ne _ _ hc.2.1]; exact ih
theorem cntN_ne {c : Nat} (r : List Nat) (h : c ≠ 10) : cntN (c :: r) = cntN r := by rw [cntN_cons, if_neg h, Nat.zero_add]
theorem cntN_body (b : Prop) [Decidable b] : ∀ (wd T : List Nat), (∀ c ∈ wd, 66 ≤ c ∧ c ≤ 80) → cntN ((if b then wd.flatMap (fun c => [92, c]) else wd) ++ T) = cntN T
  | [], T, _ => by
    have e : (if b then ([] : List Nat).flatMap (fun c => [92, c]) else []) = [] := by split <;> rfl
    rw [e, List.nil_append]
  | c :: r, T, h => by
    have hc := up_facts (h c (.head _))
    have ih := cntN_body b r T (fun d hd => h d (.tail _ hd))
    by_cases q : b
    · rw [if_pos q] at ih ⊢
      show cntN (92 :: c :: (r.flatMap (fun c => [92, c]) ++ T)) = _
      rw [cntN_ne _ (by decide), cntN_ne _ hc.2.1]; exact ih
    · rw [if_neg q] at ih ⊢
      show cntN (c :: (r ++ T)) = _
      rw [cntN_ne _ hc.2.1]; exact ih
theorem lex_word {rem S wd : List Nat} {ch : Nat} (hc : ∀ c ∈ wd, 66 ≤ c ∧ c ≤ 80) (hch : ch < 16) (h : Left rem (spellW wd ch ++ S)) (ln : Int) : ∃ rem' ln', lexT rem ln = some (wd, rem', ln') ∧ Left rem' S ∧ ln' + cntN rem' = ln + cntN rem := by
  have core : ∀ ln : Int, ∃ rem' ln', lexT (spellW wd ch ++ S) ln = some (wd, rem', ln') ∧ Left rem' S ∧ ln' + cntN rem' = ln + cntN (spellW wd ch ++ S) := by
    intro ln
    have w1 := wsOf_ws ch hch
    unfold spellW
    rw [show ([9, 10, 13, 32] : List Nat).getD (ch / 4) 0 = wsOf ch from rfl]
    by_cases q : wd = [] ∨ ch % 4 > 1
    · rw [if_pos q]
      refine ⟨wsOf ch :: S, ln, ?_, .inr ⟨_, w1, rfl⟩, ?_⟩
      · simp only [List.append_assoc, List.singleton_append, List.cons_append, List.nil_append]
        rw [lexT_cons, show isWs 34 = false from rfl, if_neg Bool.false_ne_true, if_pos rfl, lnAft_ne _ _ (by decide), lexQ_body (ch % 2 = 1) wd [] _ ln hc, List.nil_append]
      · simp only [List.append_assoc, List.singleton_append, List.cons_append, List.nil_append]
        rw [cntN_ne (c := 34) _ (by decide), cntN_body (ch % 2 = 1) wd _ hc, cntN_ne (c := 34) _ (by decide)]
    · rw [if_neg q]
      cases wd with
      | nil => exact absurd (.inl rfl) q
      | cons c r =>
        have hcc := up_facts (hc c (.head _))
        have hr : ∀ d ∈ r, 66 ≤ d ∧ d ≤ 80 := fun d hd => hc d (.tail _ hd)
        refine ⟨S, lnAft (wsOf ch :: S) ln, ?_, .inl rfl, ?_⟩
        · have ih := lexW_body (ch % 2 = 1) (wsOf ch) w1 r [c] S ln hr
          by_cases b : ch % 2 = 1
          · rw [if_pos b] at ih ⊢
            show lexT (92 :: c :: (r.flatMap (fun c => [92, c]) ++ [wsOf ch] ++ S)) ln = _
            rw [lexT_cons, show isWs 92 = false from rfl, if_neg Bool.false_ne_true, if_neg (by decide), if_pos rfl]
            show lexW (r.flatMap (fun c => [92, c]) ++ [wsOf ch] ++ S) [c] (lnAft (c :: _) (lnAft (92 :: _) ln)) = _
            rw [lnAft_ne _ ln (by decide), lnAft_ne _ ln hcc.2.1, List.append_assoc]; exact ih
          · rw [if_neg b] at ih ⊢
            show lexT (c :: (r ++ [wsOf ch] ++ S)) ln = _
            rw [lexT_cons, hcc.1, if_neg Bool.false_ne_true, if_neg hcc.2.2.1, if_neg hcc.2.2.2, lnAft_ne _ ln hcc.2.1, List.append_assoc]; exact ih
        · rw [List.append_assoc, cntN_body (ch % 2 = 1) (c :: r) _ hc, List.singleton_append, lnAft_cons]
  rcases h with rfl | ⟨w, hw, rfl⟩
  · exact core ln
  · obtain ⟨r', l', e, hl, hn⟩ := core (lnAft (w :: (spellW wd ch ++ S)) ln)
    refine ⟨r', l', ?_, hl, ?_⟩
    · rw [lexT_cons, hw, if_pos rfl, e]
    · rw [hn, lnAft_cons]

end Mine
namespace Mine
theorem reset_lexmade : True := by
  w_top off
  trivial
theorem lex_ge {w : World} {P : LexP} (ok : P.Ok) {ln : Int} {tl : Tok} {sv : List Value} {se : Nat} {qv : List Value} {qe : Nat} : ∀ p ∈ lexLed w P ln tl sv se qv qe, P.ce ≤ p.1 := by
  obtain ⟨o1, o2, o3, o4, o5, o6, o7, o8⟩ := ok.ord
  simp only [lexLed, List.forall_mem_cons]
  refine ⟨?_, ?_, ?_, ?_, ?_, ?_, ?_, ?_, ?_, fun _ hq => nomatch hq⟩ <;> (show @LE.le Nat _ _ _) <;> omega
theorem lex_made {w : World} {h₀ h : Heap} {L : Addr} {x d pb f c x1 d1 sg ce pb1 : Nat} {t1 t2 t3 t4 tw u1 u2 u3 u4 u5 v1 vw tl : Tok} {ct pm : Value} {oc oC : Obj} {vs : Array Value} {tq : Tok} {sv : List Value} {se : Nat} {ps : Array Value} {rest : List (Addr × Obj)}
    (N : News h₀ L h ((pb, listOf #[] 0) :: (x, instObj 73 d) ::
   (d, dictOf [dE w (Str.ofString "lineno") t1 (.int 1 tl), dE w (Str.ofString "instream") t2 (.ref x1), dE w (Str.ofString "whitespace") t3 (.str (Str.ofString "\n\t\x0d ") tw), dE w (Str.ofString "pushback") t4 (.ref pb)] 4) ::
   (f, kla_obj (Str.ofString "<lambda>") lamQ lamPs.1 lamBs.1 lamSs.1 [(Str.ofString "signs", ce)] pm c ct) :: (c, oc) :: (pb1, listOf #[] 0) :: (x1, instObj 73 d1) ::
   (d1, dictOf [dE w (Str.ofString "lineno") u1 (.int 1 v1), dE w (Str.ofString "instream") u2 .none, dE w (Str.ofString "whitespace") u3 (.str (Str.ofString "\n\t\x0d ") vw), dE w (Str.ofString "pushback") u4 (.ref pb1), dE w (Str.ofString "read") u5 (.ref f)] 5) ::
   (sg, listOf sv.toArray se) :: (ce, oC) :: (108, tabObj ps) :: rest))
    (hord : ce < sg ∧ sg < d1 ∧ d1 < x1 ∧ x1 < c ∧ c < f ∧ f < d ∧ d < x ∧ x < pb) (hcode : oc.data = .fields vs) (hname : vs[1]? = some (.str lamQ tq)) (hcell : oC.data = .cell (some (.ref sg))) :
    ∃ P : LexP, P.Ok ∧ P.x = x ∧ P.ce = ce ∧ ∃ tl, News h₀ L h (lexLed w P 1 tl sv se [] 0 ++ ([(108, tabObj ps)] ++ rest)) := by
  refine ⟨⟨x, d, pb, f, c, x1, d1, sg, ce, pb1, t1, t2, t3, t4, tw, u1, u2, u3, u4, u5, v1, vw, ct, pm, oc, oC, vs, tq⟩, ⟨hord, hcode, hname, hcell⟩, rfl, rfl, tl, news_of N ?_⟩
  dsimp only [lexLed]
  simp only [List.cons_append, List.nil_append, List.forall_mem_cons]
  refine ⟨by simp, by simp, by simp, by simp, by simp, by simp, by simp, by simp, by simp, by simp, fun q hq => by simp [hq]⟩

end Mine
namespace Mine
theorem reset_reader : True := by
  w_top off
  trivial
namespace reader
set_option maxRecDepth 100000 in
set_option maxHeartbeats 4000000 in
noncomputable def seg9 : {p : PySem.World → PySem.Str → PySem.Tok → (List PySem.Str) → (PySem.ExcName → Option PySem.Value) → (PySem.Str → Option PySem.Value) → (PySem.Str → Option PySem.Value) → (List (PySem.Addr × PySem.Obj)) → Nat → Nat → (Option (List PySem.Code)) → PySem.Str → PySem.Scope → PySem.Addr → PySem.Value → (List (PySem.Str × PySem.Addr)) → (List PySem.Env) → PySem.Heap → PySem.Heap → PySem.Addr → (PySem.Str → Option PySem.Value) → PySem.Shared → (PySem.Result → PySem.Shared → Prop) → PySem.Heap → PySem.Addr → PySem.Heap → Nat → PySem.Obj → Prop // Hid (∀ a0 a1 a2 a3 a4 a5 a6 a7 a8 a9 a10 a11 a12 a13 a14 a15 a16 a17 a18 a19 a20 a21 a22 a23 a24 a25 a26 a27, p a0 a1 a2 a3 a4 a5 a6 a7 a8 a9 a10 a11 a12 a13 a14 a15 a16 a17 a18 a19 a20 a21 a22 a23 a24 a25 a26 a27) → ∀ (w : World) (x : Str) (t : Tok) (hx : x.cps.size ≤ 1000), Ctr (fun h => CodeHd h 112 108) PySem.Challenge.rw_wn0028_02.prog w (Mine.hd.heap_39 w.params) PySem.W.topProg 2 30 113 [.str x t] [(108, tabObj #[])] (fun v led tl => ∃ P : LexP, P.Ok ∧ v = .ref P.x ∧ LexSt w P 1 x.cps.toList [] 0 tl ∧ ∃ ps, led = [(108, tabObj ps)])} := segOf (by
   intro ht9
   intro w x t hx
   intro loose mean mg mb rest dp un gd cn cs a ccd cl outer A₀ base h₀ L m s R hC hoff B F₀ X N₀ T hk hd hu hret
   have hoff1 : ∀ q ∈ rest, q.1 ≠ 108 := hoff _ (.head _)
   simp only [List.cons_append, List.nil_append] at N₀
   k_with_none
   k_dflt ((refine' code_defC ?k1 ?k2 ?k3 ?k4 ?k5 ?kA ?kF ?kK ?k6 ?k7 ?k8 ?k9 ?kB ?kD ?_ ?c2 ?c3 ?c4; (case kA => exact rfl); (case kF => exact rfl); (case kK => assumption); (case k1 => k_asm); (case k2 => k_asm); (case k3 => k_asm); (case k4 => k_asm); (case k5 => k_asm); (case k6 => k_is); (case k7 => k_is); (case k8 => ktr_room); (case k9 => exact BindsTo.of_eq rfl); (case kB => exact rfl); (case kD => decide +kernel); (case c2 => exact rfl); (case c3 => exact rfl); (case c4 => exact rfl); k_whole; intro g9z L9z h9z tk9z cells9z FG9z F9z N9z Y9z B9z X9z T9z l19z; (try k_lt l19z); k_cells Y9z; (try simp only [List.cons_append, List.nil_append] at N9z); (try dsimp only); (try k_lift B9z); (try k_fold)))
   have hC' : CodeHd _ 112 108 := CodeHd.keeps hC (Fr.keep ‹Fr h₀ _ _ _›)
   rename_i z1 y2
   clear A₀ hC hoff B F₀ N₀ hk hu
   revert hx X T hd hret hoff1 FG9z F9z B9z X9z T9z l19z y2 N9z hC'
   exact ht9.out w x t loose mean mg mb rest dp un gd cn cs a ccd cl outer base h₀ L m s R g9z L9z h9z tk9z z1
)
noncomputable def G9 (d : PySem.World × PySem.Str × PySem.Tok × (List PySem.Str) × (PySem.ExcName → Option PySem.Value) × (PySem.Str → Option PySem.Value) × (PySem.Str → Option PySem.Value) × (List (PySem.Addr × PySem.Obj)) × Nat × Nat × (Option (List PySem.Code)) × PySem.Str × PySem.Scope × PySem.Addr × PySem.Value × (List (PySem.Str × PySem.Addr)) × (List PySem.Env) × PySem.Heap × PySem.Heap × PySem.Addr × (PySem.Str → Option PySem.Value) × PySem.Shared × (PySem.Result → PySem.Shared → Prop) × PySem.Heap × PySem.Addr × PySem.Heap × Nat × PySem.Obj) : Prop := seg9.1 d.1 d.2.1 d.2.2.1 d.2.2.2.1 d.2.2.2.2.1 d.2.2.2.2.2.1 d.2.2.2.2.2.2.1 d.2.2.2.2.2.2.2.1 d.2.2.2.2.2.2.2.2.1 d.2.2.2.2.2.2.2.2.2.1 d.2.2.2.2.2.2.2.2.2.2.1 d.2.2.2.2.2.2.2.2.2.2.2.1 d.2.2.2.2.2.2.2.2.2.2.2.2.1 d.2.2.2.2.2.2.2.2.2.2.2.2.2.1 d.2.2.2.2.2.2.2.2.2.2.2.2.2.2.1 d.2.2.2.2.2.2.2.2.2.2.2.2.2.2.2.1 d.2.2.2.2.2.2.2.2.2.2.2.2.2.2.2.2.1 d.2.2.2.2.2.2.2.2.2.2.2.2.2.2.2.2.2.1 d.2.2.2.2.2.2.2.2.2.2.2.2.2.2.2.2.2.2.1 d.2.2.2.2.2.2.2.2.2.2.2.2.2.2.2.2.2.2.2.1 d.2.2.2.2.2.2.2.2.2.2.2.2.2.2.2.2.2.2.2.2.1 d.2.2.2.2.2.2.2.2.2.2.2.2.2.2.2.2.2.2.2.2.2.1 d.2.2.2.2.2.2.2.2.2.2.2.2.2.2.2.2.2.2.2.2.2.2.1 d.2.2.2.2.2.2.2.2.2.2.2.2.2.2.2.2.2.2.2.2.2.2.2.1 d.2.2.2.2.2.2.2.2.2.2.2.2.2.2.2.2.2.2.2.2.2.2.2.2.1 d.2.2.2.2.2.2.2.2.2.2.2.2.2.2.2.2.2.2.2.2.2.2.2.2.2.1 d.2.2.2.2.2.2.2.2.2.2.2.2.2.2.2.2.2.2.2.2.2.2.2.2.2.2.1 d.2.2.2.2.2.2.2.2.2.2.2.2.2.2.2.2.2.2.2.2.2.2.2.2.2.2.2
noncomputable def tup9z : PySem.World × PySem.Str × PySem.Tok × (List PySem.Str) × (PySem.ExcName → Option PySem.Value) × (PySem.Str → Option PySem.Value) × (PySem.Str → Option PySem.Value) × (List (PySem.Addr × PySem.Obj)) × Nat × Nat × (Option (List PySem.Code)) × PySem.Str × PySem.Scope × PySem.Addr × PySem.Value × (List (PySem.Str × PySem.Addr)) × (List PySem.Env) × PySem.Heap × PySem.Heap × PySem.Addr × (PySem.Str → Option PySem.Value) × PySem.Shared × (PySem.Result → PySem.Shared → Prop) × PySem.Heap × PySem.Addr × PySem.Heap × Nat × PySem.Obj := hen (World9, (default : Str), (0 : Nat), [], (fun _ => none), (fun _ => none), (fun _ => none), [], (0 : Nat), (0 : Nat), none, (default : Str), (default : Scope), (0 : Nat), (default : Value), [], [], (default : Heap), (default : Heap), (0 : Nat), (fun _ => none), ({} : Shared), (fun _ => (fun _ => True)), (default : Heap), (0 : Nat), (default : Heap), (0 : Nat), (default : Obj)) G9
noncomputable def w : PySem.World := tup9z.1
noncomputable def x : PySem.Str := tup9z.2.1
noncomputable def t : PySem.Tok := tup9z.2.2.1
noncomputable def loose : List PySem.Str := tup9z.2.2.2.1
noncomputable def mean : PySem.ExcName → Option PySem.Value := tup9z.2.2.2.2.1
noncomputable def mg : PySem.Str → Option PySem.Value := tup9z.2.2.2.2.2.1
noncomputable def mb : PySem.Str → Option PySem.Value := tup9z.2.2.2.2.2.2.1
noncomputable def rest : List (PySem.Addr × PySem.Obj) := tup9z.2.2.2.2.2.2.2.1
noncomputable def dp : Nat := tup9z.2.2.2.2.2.2.2.2.1
noncomputable def un : Nat := tup9z.2.2.2.2.2.2.2.2.2.1
noncomputable def gd : Option (List PySem.Code) := tup9z.2.2.2.2.2.2.2.2.2.2.1
noncomputable def cn : PySem.Str := tup9z.2.2.2.2.2.2.2.2.2.2.2.1
noncomputable def cs : PySem.Scope := tup9z.2.2.2.2.2.2.2.2.2.2.2.2.1
noncomputable def a : PySem.Addr := tup9z.2.2.2.2.2.2.2.2.2.2.2.2.2.1
noncomputable def ccd : PySem.Value := tup9z.2.2.2.2.2.2.2.2.2.2.2.2.2.2.1
noncomputable def cl : List (PySem.Str × PySem.Addr) := tup9z.2.2.2.2.2.2.2.2.2.2.2.2.2.2.2.1
noncomputable def outer : List PySem.Env := tup9z.2.2.2.2.2.2.2.2.2.2.2.2.2.2.2.2.1
noncomputable def base : PySem.Heap := tup9z.2.2.2.2.2.2.2.2.2.2.2.2.2.2.2.2.2.1
noncomputable def h₀ : PySem.Heap := tup9z.2.2.2.2.2.2.2.2.2.2.2.2.2.2.2.2.2.2.1
noncomputable def L : PySem.Addr := tup9z.2.2.2.2.2.2.2.2.2.2.2.2.2.2.2.2.2.2.2.1
noncomputable def m : PySem.Str → Option PySem.Value := tup9z.2.2.2.2.2.2.2.2.2.2.2.2.2.2.2.2.2.2.2.2.1
noncomputable def s : PySem.Shared := tup9z.2.2.2.2.2.2.2.2.2.2.2.2.2.2.2.2.2.2.2.2.2.1
noncomputable def R : PySem.Result → PySem.Shared → Prop := tup9z.2.2.2.2.2.2.2.2.2.2.2.2.2.2.2.2.2.2.2.2.2.2.1
noncomputable def g9z : PySem.Heap := tup9z.2.2.2.2.2.2.2.2.2.2.2.2.2.2.2.2.2.2.2.2.2.2.2.1
noncomputable def L9z : PySem.Addr := tup9z.2.2.2.2.2.2.2.2.2.2.2.2.2.2.2.2.2.2.2.2.2.2.2.2.1
noncomputable def h9z : PySem.Heap := tup9z.2.2.2.2.2.2.2.2.2.2.2.2.2.2.2.2.2.2.2.2.2.2.2.2.2.1
noncomputable def tk9z : Nat := tup9z.2.2.2.2.2.2.2.2.2.2.2.2.2.2.2.2.2.2.2.2.2.2.2.2.2.2.1
noncomputable def z1 : PySem.Obj := tup9z.2.2.2.2.2.2.2.2.2.2.2.2.2.2.2.2.2.2.2.2.2.2.2.2.2.2.2
set_option maxRecDepth 100000 in
set_option maxHeartbeats 4000000 in
theorem main9 : seg9.1 w x t loose mean mg mb rest dp un gd cn cs a ccd cl outer base h₀ L m s R g9z L9z h9z tk9z z1 := by
   delta seg9 segOf
   dsimp -zeta only
   intro hx X T hd hret hoff1 FG9z F9z B9z X9z T9z l19z y2 N9z hC'
   k_with_none
   k_with "call type:list cons nil" => (refine' list_strK (x := x) rfl ?F ?N (by omega) ?_; (case F => k_asm); (case N => k_asm); intro a9 h9 tk9 ys9 c9 F9 N9 l9 hs9; (try k_lt l9); (try k_sweep); have hz9 : ys9.toList.length ≤ 1000 := by rw [strs_len hs9, ones_len]; exact hx)
   k_with "call builtin:list.reverse cons nil" => (refine' kl_reverse ?F ?N rfl ?U ?z ?_; (case F => k_asm); (case N => k_asm); (case U => k_upd); (case z => rw [sizeLine_eq]; omega); intro h9 F9 N9; (try k_sweep))
   k_with "call ref cons nil" => k_dflt ((refine' call_cls ?k1 ?k2 ?k3 ?k4 ?k5 ?k6 ?_; (case k1 => k_asm); (case k2 => k_asm); (case k3 => k_asm); (case k4 => k_is); (case k5 => k_is); (case k6 => k_is); k_whole; intro x9z d9z h9z F9z N9z l19z l29z; (try k_lt l19z); (try k_lt2 l29z); (try k_sweep); (refine' code_def ?k1 ?k2 ?k3 ?k4 ?k5 ?kA ?kF ?kK ?k6 ?k7 ?k8 ?k9 ?kB ?_ ?c2 ?c3 ?c4 ?c5; (case kA => exact rfl); (case kF => exact rfl); (case kK => exact rfl); (case k1 => k_asm); (case k2 => k_asm); (case k3 => k_asm); (case k4 => k_asm); (case k5 => k_asm); (case k6 => k_is); (case k7 => k_is); (case k8 => ktr_room); (case k9 => first | exact BindsTo.of_eq rfl | exact binds_K (by k_in) rfl (by k_is) rfl rfl rfl); (case c5 => decide); (case kB => exact locs rfl); (case c2 => exact rfl); (case c3 => exact rfl); (case c4 => exact rfl); k_whole; intro g9z L9z h9z FG9z F9z N9z B9z X9z T9z; (try dsimp only); (try k_lift B9z); (try k_fold))))
   k_steps
   obtain ⟨P, ok, ex, ece, tl, N9⟩ := lex_made (w := w) (by k_asm) ⟨by omega, by omega, by omega, by omega, by omega, by omega, by omega, by omega⟩ (by assumption) (by assumption) (by assumption)
   subst ex
   refine hret _ [(108, tabObj _)] (lexLed w P 1 tl _ _ [] 0) _ _ ⟨P, ok, rfl, ⟨tl, _, _, by rw [← show ones x = x.cps.toList.map one from rfl]; exact strs_rev hs9, rfl⟩, _, rfl⟩ ?_ (by k_asm) N9
   have hlow : ∀ q ∈ [(108, tabObj #[])] ++ rest, q.1 < P.ce := by
     rw [ece]; simp only [List.cons_append, List.nil_append]; (repeat' first | exact List.forall_mem_nil _ | (first | exact raw_lt (by assumption) (by walk_at "le9") | exact allLt_lt' (by walk_at "and_r") (by walk_at "le9")) | refine lt_cons ?_ ?_ | (with_reducible assumption) | omega)
   exact fun q hq p hp => Nat.lt_of_lt_of_le (hlow q hq) (lex_ge ok p hp)

set_option maxRecDepth 100000 in
set_option maxHeartbeats 4000000 in
theorem all9 : ∀ a0 a1 a2 a3 a4 a5 a6 a7 a8 a9 a10 a11 a12 a13 a14 a15 a16 a17 a18 a19 a20 a21 a22 a23 a24 a25 a26 a27, seg9.1 a0 a1 a2 a3 a4 a5 a6 a7 a8 a9 a10 a11 a12 a13 a14 a15 a16 a17 a18 a19 a20 a21 a22 a23 a24 a25 a26 a27 := fun a0 a1 a2 a3 a4 a5 a6 a7 a8 a9 a10 a11 a12 a13 a14 a15 a16 a17 a18 a19 a20 a21 a22 a23 a24 a25 a26 a27 => hen_all (G := G9) main9 (a0, a1, a2, a3, a4, a5, a6, a7, a8, a9, a10, a11, a12, a13, a14, a15, a16, a17, a18, a19, a20, a21, a22, a23, a24, a25, a26, a27)
end reader
theorem reader (w : World) (x : Str) (t : Tok) (hx : x.cps.size ≤ 1000) : Ctr (fun h => CodeHd h 112 108) PySem.Challenge.rw_wn0028_02.prog w (Mine.hd.heap_39 w.params) PySem.W.topProg 2 30 113 [.str x t] [(108, tabObj #[])] (fun v led tl => ∃ P : LexP, P.Ok ∧ v = .ref P.x ∧ LexSt w P 1 x.cps.toList [] 0 tl ∧ ∃ ps, led = [(108, tabObj ps)]) := reader.seg9.2 ⟨reader.all9⟩ w x t hx

end Mine
namespace Mine
theorem reset_value2 : True := by
  w_top off
  trivial
/-- the number of a word; -1 where an A stands in front -/
noncomputable def valF : List Nat → Int → Int
  | [], v => v
  | c :: r, v => if 16 * v + c - 65 = 0 then -1 else valF r (16 * v + c - 65)
set_option maxRecDepth 100000 in
set_option maxHeartbeats 4000000 in
theorem value2 (w : World) (x : List Nat) (t : Tok) (hx : x.length ≤ 10) (hc : ∀ c ∈ x, 65 ≤ c ∧ c ≤ 80) :
   CtrR PySem.Challenge.rw_wn0028_02.prog w (Mine.hd.heap_39 w.params) PySem.W.topProg 2 30 120 [.str (mkS x) t] [] (fun v tl => tl = [] ∧ ∃ tk, v = .int (valF x 0) tk) := by
   intro loose mean mg mb rest dp un gd cn cs aa ccd cl outer A₀ base h₀ L m s R hled B F₀ X N₀ T hk hd hu hret
   k_with_none
   k_with "exec For Name Name cons nil" => refine stop_in ?_
   k_with "pyIter str" => refine stop_in ?_
   k_dflt cell_enter
   k_steps
   refine stop_out ?_
   refine wpAny_For ?_
   k_steps
   refine stop_out ?_
   refine for_strN (σ := Int × Tok) (l := x) (env := envOf _ _ _ _ _) (by k_asm) (by k_asm) rfl (fun y => [(Str.ofString "value", .int y.1 y.2)]) (fun _ => rest) (fun i y => 0 ≤ y.1 ∧ y.1 < 16 ^ i ∧ valF (x.drop i) y.1 = valF x 0) (0, _) ⟨rfl, trivial⟩ (fun p hp => hp) ⟨by show (0 : Int) ≤ 0; decide, by show (0 : Int) < 16 ^ 0; decide, rfl⟩ (fun i y _ p hp => ⟨p.2, hp⟩) ?_ ?_
   · intro i c y t9 h9 tk9 m9 own hc9 hok hown F N
     obtain ⟨z, tz⟩ := y
     obtain ⟨hz0, hz1, hz2⟩ := hok
     have hcb := hc c (List.mem_of_getElem? hc9)
     rw [drop_cons hc9, valF] at hz2
     dsimp only [mB] at *
     have hi10 : i < 10 := by have := (List.getElem?_eq_some_iff.mp hc9).1; omega
     k_steps
     · rw [if_pos (show 16 * z + (c : Int) - 65 = 0 by assumption)] at hz2
       rw [← hz2] at hret
       exact hret _ [] _ _ ⟨rfl, _, rfl⟩ (fun _ _ _ h => nomatch h) (by k_asm) (news_of (by k_asm) fun p hp => List.mem_append_left _ hp)
     · rw [if_neg (show ¬ 16 * z + (c : Int) - 65 = 0 by assumption)] at hz2
       refine ListEnd.mk (16 * z + c - 65, _) (by k_asm) (by k_asm) ⟨rfl, trivial⟩ (fun p hp => hp) ⟨by show (0 : Int) ≤ 16 * z + c - 65; omega, by show 16 * z + c - 65 < (16 : Int) ^ (i + 1); rw [Int.pow_succ]; omega, hz2⟩
   · intro h9 tk9 m9 y hok F N
     obtain ⟨z, tz⟩ := y
     obtain ⟨hz0, hz1, hz2⟩ := hok
     dsimp only [mB] at *
     k_steps
     rw [show x.drop x.length = [] by simp, valF] at hz2
     rw [← hz2] at hret
     exact hret _ [] _ _ ⟨rfl, _, rfl⟩ (fun _ _ _ h => nomatch h) (by k_asm) (by k_asm)

end Mine
namespace Mine
theorem reset_law2b : True := by
  w_top off
  trivial
/-- the word of a figure is a short one -/
noncomputable def figW : List Nat := [0, 1, 2, 15, 127]
theorem figW_small : ∀ k ∈ figW, (wordF k).length ≤ 2 ∧ valF (wordF k) 0 = (k : Int) ∧ ∀ c ∈ wordF k, 66 ≤ c ∧ c ≤ 80 := by decide +kernel
theorem spellM_len (n : Nat) : ∀ (l : List (List Nat)) (i : Nat), (∀ wd ∈ l, wd.length ≤ 2) → (spellM n i l).length ≤ 7 * l.length
  | [], _, _ => Nat.le_refl _
  | wd :: r, i, h => by
    have h1 := spellW_len wd (n / 9 ^ i % 16)
    have h2 := h wd (.head _)
    have h3 := spellM_len n r (i + 1) fun x hx => h x (.tail _ hx)
    rw [spellM, List.length_append, List.length_cons]
    omega
/-- the words, one by one -/
noncomputable def WordsJ (w : World) (P : LexP) (n : Nat) (text : List Nat) (q : List Nat) (R : List (Addr × Obj)) (i : Nat) (ys : List Value) (news : List (Addr × Obj)) : Prop :=
  ∃ rem ln tl sv se qe, StrsAre sv (rem.map one).reverse ∧ news = lexLed w P ln tl sv se [] qe ++ R ∧ Left rem (spellM n i ((q.map wordF).drop i)) ∧ ln + cntN rem = 1 + cntN text ∧ IntsAre ys ((q.take i).map fun (x : Nat) => (x : Int))
/-- what stands behind the reading -/
noncomputable abbrev Tail2b (w : World) (cn : Str) (L : Nat) (fa : Addr) (cd : Value) (h₀ : Heap) (dr : Drawn) (os : OsState) (Q : Flow → Shared → Prop) (E : Value → Shared → Prop) : Prop :=
  ∀ (r f : List Nat) (P : LexP) {lr lf lq : Nat} {kr kf kq qe : Nat} {ln : Int} {wr wf wq : List Value} {led : List (Addr × Obj)} {ps : Array Value} {oL : Obj} {h' : Heap} {tk' : Nat} {m' : Str → Option Value},
    (∃ x y z, r = [x, y, z] ∧ x ∈ ruls ∧ y ∈ ruls ∧ z ∈ ruls) → (∃ x y z, f = [x, y, z] ∧ x ∈ figs1 ∧ y ∈ figs1 ∧ z ∈ figs1) → P.Ok → LexSt w P ln [] [] qe led → oL.data = .cell (some (.ref P.x)) →
    IntsAre wr (r.map fun (x : Nat) => (x : Int)) → IntsAre wf (f.map fun (x : Nat) => (x : Int)) → IntsAre wq (r.map fun (x : Nat) => (x : Int)) →
    L + 1 < lr → lr < lf → lf < P.ce →
    Fr h₀ L h' (mB [(Str.ofString "figures", .ref lf), (Str.ofString "ruler", .ref lr)] m') → News h₀ L h' ((lq, listOf wq.toArray kq) :: (led ++ [(lf, listOf wf.toArray kf), (lr, listOf wr.toArray kr), (L + 1, oL), (108, tabObj ps)])) →
    wpAny (model PySem.Challenge.rw_wn0028_02.prog w) (lawTop2 cn L fa cd) (call (.ref 127) [.ref lq]) (fun v s₁ => wpAny (model PySem.Challenge.rw_wn0028_02.prog w) (lawTop2 cn L fa cd) (storeName (lawEnv2 cn L fa cd) (Str.ofString "told") v) (fun _ s' => wpAny (model PySem.Challenge.rw_wn0028_02.prog w) (lawTop2 cn L fa cd) (execs (lawBs.1.drop 9) (lawEnv2 cn L fa cd)) Q E s') E s₁) E ⟨h', #[], dr, tk', os⟩
namespace law_readA
set_option maxRecDepth 100000 in
set_option maxHeartbeats 8000000 in
noncomputable def seg9 : {p : PySem.World → PySem.Str → PySem.Addr → PySem.Value → PySem.Heap → Nat → (List PySem.Str) → (PySem.ExcName → Option PySem.Value) → (PySem.Str → Option PySem.Value) → (PySem.Str → Option PySem.Value) → PySem.Obj → PySem.Drawn → PySem.OsState → (PySem.Flow → PySem.Shared → Prop) → (PySem.Value → PySem.Shared → Prop) → (List Nat) → (List Nat) → Nat → Nat → Nat → Nat → Nat → Nat → Nat → Nat → Nat → (List PySem.Value) → (List PySem.Value) → (List PySem.Value) → (List PySem.Value) → PySem.Tok → PySem.Heap → Nat → (PySem.Str → Option PySem.Value) → (List Nat) → PySem.Heap → Nat → PySem.Tok → (List Nat) → PySem.Heap → Nat → PySem.Heap → Nat → (Array PySem.Value) → PySem.Tok → (List PySem.Value) → Nat → Nat → Nat → Nat → Nat → Nat → Nat → Nat → Nat → Nat → Nat → PySem.Tok → PySem.Tok → PySem.Tok → PySem.Tok → PySem.Tok → PySem.Tok → PySem.Tok → PySem.Tok → PySem.Tok → PySem.Tok → PySem.Tok → PySem.Tok → PySem.Value → PySem.Value → PySem.Obj → PySem.Obj → (Array PySem.Value) → PySem.Tok → PySem.Heap → PySem.Obj → Nat → Prop // Hid (∀ a0 a1 a2 a3 a4 a5 a6 a7 a8 a9 a10 a11 a12 a13 a14 a15 a16 a17 a18 a19 a20 a21 a22 a23 a24 a25 a26 a27 a28 a29 a30 a31 a32 a33 a34 a35 a36 a37 a38 a39 a40 a41 a42 a43 a44 a45 a46 a47 a48 a49 a50 a51 a52 a53 a54 a55 a56 a57 a58 a59 a60 a61 a62 a63 a64 a65 a66 a67 a68 a69 a70 a71 a72 a73 a74 a75 a76 a77, p a0 a1 a2 a3 a4 a5 a6 a7 a8 a9 a10 a11 a12 a13 a14 a15 a16 a17 a18 a19 a20 a21 a22 a23 a24 a25 a26 a27 a28 a29 a30 a31 a32 a33 a34 a35 a36 a37 a38 a39 a40 a41 a42 a43 a44 a45 a46 a47 a48 a49 a50 a51 a52 a53 a54 a55 a56 a57 a58 a59 a60 a61 a62 a63 a64 a65 a66 a67 a68 a69 a70 a71 a72 a73 a74 a75 a76 a77) → ∀ (w : World) (cn : Str) (fa : Addr) (cd : Value) (h₀ : Heap) (L : Nat) (loose : List Str) (mean : ExcName → Option Value) (mg mb : Str → Option Value) (oL : Obj) (dr : Drawn) (os : OsState) (Q E) (dL : oL.data = .cell none) (C : CodeHd h₀ 112 108) (B : Below callerA h₀ [] h₀) (X : (Mine.hd.heap_39 w.params).In h₀) (T : Top PySem.W.topProg loose mean mg mb h₀) (hT : 108 < L) (tail : Tail2b w cn L fa cd h₀ dr os Q E), Tail2a w cn L fa cd h₀ oL dr os Q E} := segOf (by
  intro ht9
  intro w cn fa cd h₀ L loose mean mg mb oL dr os Q E dL C B X T hT tail
  intro r f d lt lr lf lw kt kr kf kw wt wr wf ww td h' tk' m' hr hf hd9 hir hif hiw l1 l2 l3 hne F N
  obtain ⟨n1, n2, n3, n4, n5⟩ := hne
  dsimp only [mB] at F
  dsimp only [lawEnv2, lawTop2, lawBs, lawSs, List.drop]
  have hq9 : (r ++ f).length = 6 ∧ ∀ k ∈ r ++ f, k ∈ figW := by
    obtain ⟨x, y, z, rfl, hx, hy, hz⟩ := hr
    obtain ⟨x', y', z', rfl, hx', hy', hz'⟩ := hf
    refine ⟨rfl, ?_⟩
    simp only [ruls, figs1, figW, List.mem_cons, List.not_mem_nil, or_false] at *
    intro k hk
    simp only [List.cons_append, List.nil_append, List.mem_cons, List.not_mem_nil, or_false] at hk
    omega
  obtain ⟨hq1, hq2⟩ := hq9
  have hrz : r.length = 3 := by obtain ⟨x, y, z, rfl, _⟩ := hr; rfl
  have hfz : f.length = 3 := by obtain ⟨x, y, z, rfl, _⟩ := hf; rfl
  unfold sixF at hiw
  generalize hq : r ++ f = q at hq1 hq2 hiw
  have hw2 : ∀ wd ∈ q.map wordF, wd.length ≤ 2 := by
    intro wd hwd
    obtain ⟨k, hk, rfl⟩ := List.mem_map.mp hwd
    exact (figW_small k (hq2 k hk)).1
  refine' CtrR.use (spelled2 w lw kw ww (q.map wordF) hiw (by rw [List.length_map]; omega) hw2 d td (by omega)) ?kl ?k1 ?k2 ?k3 ?k4 ?k5 ?kK ?kd ?ku ?_
  ((case k1 => k_asm); (case k2 => k_asm); (case k3 => k_asm); (case k4 => k_asm); (case k5 => k_asm); (case kl => (repeat' first | exact List.forall_mem_nil _ | refine mem_cons_all ?_ ?_ | exact sub_refl | refine sub_tail ?_ | k_mem)); (case kK => first | exact rfl | assumption); (case kd => ktr_room); (case ku => ktr_units))
  intro v6 tl6 h6 tk6 hp6 hlt6 F6 N6
  obtain ⟨rfl, tt, rfl⟩ := hp6
  simp only [List.nil_append] at N6
  clear hlt6
  have htz := spellM_len d (q.map wordF) 0 hw2
  rw [List.length_map, hq1] at htz
  generalize htx : spellM d 0 (q.map wordF) = tx at htz
  k_with_none
  k_with "call ref cons nil" => refine stop_in ?_
  k_steps
  refine stop_out ?_
  refine' Ctr.use (reader w (mkS tx) tt (by show tx.toArray.size ≤ 1000; rw [List.size_toArray]; omega)) C ?kpk ?koff ?k1 ?k2 ?k3 ?k4 ?k5 ?kK ?kd ?ku ?_
  case k1 => k_asm
  case k2 => k_asm
  case k3 => k_asm
  case k4 => k_asm
  case k5 => k_asm
  case kpk => (repeat' first | exact Pick.nil | apply Pick.cons | exact Take.head | apply Take.tail)
  case koff =>
    intro p hp
    obtain rfl := List.mem_singleton.mp hp
    (repeat' first | exact List.forall_mem_nil _ | assumption | (refine List.forall_mem_cons.mpr ⟨by (show @Ne Nat _ _); omega, ?_⟩))
  case kK => exact rfl
  case kd => ktr_room
  case ku => ktr_units
  intro v5 led5 tl5 h5 tk5 hp5 hlt5 F5 N5
  obtain ⟨P, ok, rfl, st5, ps5, rfl⟩ := hp5
  have hlow : ∀ q ∈ [(lw, listOf ww.toArray kw), (lf, listOf wf.toArray kf), (lr, listOf wr.toArray kr), (lt, listOf wt.toArray kt), (L + 1, oL)], @LT.lt Nat _ q.1 P.ce := by
    obtain ⟨_, _, _, _, rfl⟩ := st5
    intro q hq
    exact hlt5 _ (.tail _ hq) (P.ce, P.oC) (by simp [lexLed])
  have hl0 : @LT.lt Nat _ lw P.ce := hlow _ (.head _)
  have hl1 : @LT.lt Nat _ lf P.ce := hlow _ (.tail _ (.head _))
  have hl2 : @LT.lt Nat _ lr P.ce := hlow _ (.tail _ (.tail _ (.head _)))
  have hl3 : @LT.lt Nat _ lt P.ce := hlow _ (.tail _ (.tail _ (.tail _ (.head _))))
  have hl4 : @LT.lt Nat _ (L + 1) P.ce := hlow _ (.tail _ (.tail _ (.tail _ (.tail _ (.head _)))))
  clear hlt5
  obtain ⟨tl5, sv5, se5, hs5, rfl⟩ := st5
  have ok' := ok
  obtain ⟨x, d', pb, fn, cc, x1, d1, sg, ce, pb1, q1, q2, q3, q4, tw, u1, u2, u3, u4, u5, v1, vw, ct, pm, oc, oC, vs, tq⟩ := P
  obtain ⟨⟨o1, o2, o3, o4, o5, o6, o7, o8⟩, hcode, hname, hcell⟩ := ok
  dsimp only [lexLed] at *
  simp only [List.cons_append, List.nil_append] at N5
  k_with_none
  k_with "exec Assign cons ListComp" => refine stop_in ?_
  k_steps
  refine stop_out ?_
  rename_i h4 oL4 F4 N4 d4
  have off5 : LexP.Off ⟨x, d', pb, fn, cc, x1, d1, sg, ce, pb1, q1, q2, q3, q4, tw, u1, u2, u3, u4, u5, v1, vw, ct, pm, oc, oC, vs, tq⟩ [(L + 1, oL4), (108, tabObj ps5), (lw, listOf ww.toArray kw), (lf, listOf wf.toArray kf), (lr, listOf wr.toArray kr), (lt, listOf wt.toArray kt)] := by
    refine LexP.Off.low ok' ?_
    dsimp only
    (repeat' first | exact List.forall_mem_nil _ | (first | exact raw_lt (by assumption) (by walk_at "le9") | exact allLt_lt' (by walk_at "and_r") (by walk_at "le9")) | refine lt_cons ?_ ?_ | (with_reducible assumption) | omega)
  have hC4 : CodeHd h₀ 112 108 := C
  refine LCg.Assign_ListComp_U (env := envX _ _ _ _ _ _) (F₀ := by k_asm) (by rfl) (by with_unfolding_all rfl) (by rfl) (by decide) (by rfl) (by decide) (by rfl) (by rfl) (by rfl) ?_
  k_with_none
  k_with "CompSrc" => refine stop_in ?_
  k_steps
  refine stop_out ?_
  k_with_none
  have hwz : ww.length = 6 := by have := strs_len hiw; rw [List.length_map, List.length_map] at this; omega
  rename_i z1 z2
  clear dL C hT hd9 n1 n2 n3 n4 n5 hiw htz hlow hl0 hl2 hl3 hl4 hcode hname hcell o1 o2 o3 o4 o5 o6 o7 o8
  revert B X T tail hr hf hir hif l1 l2 l3 hrz hfz hq hq1 hq2 hw2 htx hs5 hl1 ok' F4 N4 d4 off5 hC4 hwz
  exact ht9.out w cn fa cd h₀ L loose mean mg mb oL dr os Q E r f d lt lr lf lw kt kr kf kw wt wr wf ww td h' tk' m' q h6 tk6 tt tx z1 z2 h5 tk5 ps5 tl5 sv5 se5 x d' pb fn cc x1 d1 sg ce pb1 q1 q2 q3 q4 tw u1 u2 u3 u4 u5 v1 vw ct pm oc oC vs tq h4 oL4 tk
)
noncomputable def G9 (d : PySem.World × PySem.Str × PySem.Addr × PySem.Value × PySem.Heap × Nat × (List PySem.Str) × (PySem.ExcName → Option PySem.Value) × (PySem.Str → Option PySem.Value) × (PySem.Str → Option PySem.Value) × PySem.Obj × PySem.Drawn × PySem.OsState × (PySem.Flow → PySem.Shared → Prop) × (PySem.Value → PySem.Shared → Prop) × (List Nat) × (List Nat) × Nat × Nat × Nat × Nat × Nat × Nat × Nat × Nat × Nat × (List PySem.Value) × (List PySem.Value) × (List PySem.Value) × (List PySem.Value) × PySem.Tok × PySem.Heap × Nat × (PySem.Str → Option PySem.Value) × (List Nat) × PySem.Heap × Nat × PySem.Tok × (List Nat) × PySem.Heap × Nat × PySem.Heap × Nat × (Array PySem.Value) × PySem.Tok × (List PySem.Value) × Nat × Nat × Nat × Nat × Nat × Nat × Nat × Nat × Nat × Nat × Nat × PySem.Tok × PySem.Tok × PySem.Tok × PySem.Tok × PySem.Tok × PySem.Tok × PySem.Tok × PySem.Tok × PySem.Tok × PySem.Tok × PySem.Tok × PySem.Tok × PySem.Value × PySem.Value × PySem.Obj × PySem.Obj × (Array PySem.Value) × PySem.Tok × PySem.Heap × PySem.Obj × Nat) : Prop := seg9.1 d.1 d.2.1 d.2.2.1 d.2.2.2.1 d.2.2.2.2.1 d.2.2.2.2.2.1 d.2.2.2.2.2.2.1 d.2.2.2.2.2.2.2.1 d.2.2.2.2.2.2.2.2.1 d.2.2.2.2.2.2.2.2.2.1 d.2.2.2.2.2.2.2.2.2.2.1 d.2.2.2.2.2.2.2.2.2.2.2.1 d.2.2.2.2.2.2.2.2.2.2.2.2.1 d.2.2.2.2.2.2.2.2.2.2.2.2.2.1 d.2.2.2.2.2.2.2.2.2.2.2.2.2.2.1 d.2.2.2.2.2.2.2.2.2.2.2.2.2.2.2.1 d.2.2.2.2.2.2.2.2.2.2.2.2.2.2.2.2.1 d.2.2.2.2.2.2.2.2.2.2.2.2.2.2.2.2.2.1 d.2.2.2.2.2.2.2.2.2.2.2.2.2.2.2.2.2.2.1 d.2.2.2.2.2.2.2.2.2.2.2.2.2.2.2.2.2.2.2.1 d.2.2.2.2.2.2.2.2.2.2.2.2.2.2.2.2.2.2.2.2.1 d.2.2.2.2.2.2.2.2.2.2.2.2.2.2.2.2.2.2.2.2.2.1 d.2.2.2.2.2.2.2.2.2.2.2.2.2.2.2.2.2.2.2.2.2.2.1 d.2.2.2.2.2.2.2.2.2.2.2.2.2.2.2.2.2.2.2.2.2.2.2.1 d.2.2.2.2.2.2.2.2.2.2.2.2.2.2.2.2.2.2.2.2.2.2.2.2.1 d.2.2.2.2.2.2.2.2.2.2.2.2.2.2.2.2.2.2.2.2.2.2.2.2.2.1 d.2.2.2.2.2.2.2.2.2.2.2.2.2.2.2.2.2.2.2.2.2.2.2.2.2.2.1 d.2.2.2.2.2.2.2.2.2.2.2.2.2.2.2.2.2.2.2.2.2.2.2.2.2.2.2.1 d.2.2.2.2.2.2.2.2.2.2.2.2.2.2.2.2.2.2.2.2.2.2.2.2.2.2.2.2.1 d.2.2.2.2.2.2.2.2.2.2.2.2.2.2.2.2.2.2.2.2.2.2.2.2.2.2.2.2.2.1 d.2.2.2.2.2.2.2.2.2.2.2.2.2.2.2.2.2.2.2.2.2.2.2.2.2.2.2.2.2.2.1 d.2.2.2.2.2.2.2.2.2.2.2.2.2.2.2.2.2.2.2.2.2.2.2.2.2.2.2.2.2.2.2.1 d.2.2.2.2.2.2.2.2.2.2.2.2.2.2.2.2.2.2.2.2.2.2.2.2.2.2.2.2.2.2.2.2.1 d.2.2.2.2.2.2.2.2.2.2.2.2.2.2.2.2.2.2.2.2.2.2.2.2.2.2.2.2.2.2.2.2.2.1 d.2.2.2.2.2.2.2.2.2.2.2.2.2.2.2.2.2.2.2.2.2.2.2.2.2.2.2.2.2.2.2.2.2.2.1 d.2.2.2.2.2.2.2.2.2.2.2.2.2.2.2.2.2.2.2.2.2.2.2.2.2.2.2.2.2.2.2.2.2.2.2.1 d.2.2.2.2.2.2.2.2.2.2.2.2.2.2.2.2.2.2.2.2.2.2.2.2.2.2.2.2.2.2.2.2.2.2.2.2.1 d.2.2.2.2.2.2.2.2.2.2.2.2.2.2.2.2.2.2.2.2.2.2.2.2.2.2.2.2.2.2.2.2.2.2.2.2.2.1 d.2.2.2.2.2.2.2.2.2.2.2.2.2.2.2.2.2.2.2.2.2.2.2.2.2.2.2.2.2.2.2.2.2.2.2.2.2.2.1 d.2.2.2.2.2.2.2.2.2.2.2.2.2.2.2.2.2.2.2.2.2.2.2.2.2.2.2.2.2.2.2.2.2.2.2.2.2.2.2.1 d.2.2.2.2.2.2.2.2.2.2.2.2.2.2.2.2.2.2.2.2.2.2.2.2.2.2.2.2.2.2.2.2.2.2.2.2.2.2.2.2.1 d.2.2.2.2.2.2.2.2.2.2.2.2.2.2.2.2.2.2.2.2.2.2.2.2.2.2.2.2.2.2.2.2.2.2.2.2.2.2.2.2.2.1 d.2.2.2.2.2.2.2.2.2.2.2.2.2.2.2.2.2.2.2.2.2.2.2.2.2.2.2.2.2.2.2.2.2.2.2.2.2.2.2.2.2.2.1 d.2.2.2.2.2.2.2.2.2.2.2.2.2.2.2.2.2.2.2.2.2.2.2.2.2.2.2.2.2.2.2.2.2.2.2.2.2.2.2.2.2.2.2.1 d.2.2.2.2.2.2.2.2.2.2.2.2.2.2.2.2.2.2.2.2.2.2.2.2.2.2.2.2.2.2.2.2.2.2.2.2.2.2.2.2.2.2.2.2.1 d.2.2.2.2.2.2.2.2.2.2.2.2.2.2.2.2.2.2.2.2.2.2.2.2.2.2.2.2.2.2.2.2.2.2.2.2.2.2.2.2.2.2.2.2.2.1 d.2.2.2.2.2.2.2.2.2.2.2.2.2.2.2.2.2.2.2.2.2.2.2.2.2.2.2.2.2.2.2.2.2.2.2.2.2.2.2.2.2.2.2.2.2.2.1 d.2.2.2.2.2.2.2.2.2.2.2.2.2.2.2.2.2.2.2.2.2.2.2.2.2.2.2.2.2.2.2.2.2.2.2.2.2.2.2.2.2.2.2.2.2.2.2.1 d.2.2.2.2.2.2.2.2.2.2.2.2.2.2.2.2.2.2.2.2.2.2.2.2.2.2.2.2.2.2.2.2.2.2.2.2.2.2.2.2.2.2.2.2.2.2.2.2.1 d.2.2.2.2.2.2.2.2.2.2.2.2.2.2.2.2.2.2.2.2.2.2.2.2.2.2.2.2.2.2.2.2.2.2.2.2.2.2.2.2.2.2.2.2.2.2.2.2.2.1 d.2.2.2.2.2.2.2.2.2.2.2.2.2.2.2.2.2.2.2.2.2.2.2.2.2.2.2.2.2.2.2.2.2.2.2.2.2.2.2.2.2.2.2.2.2.2.2.2.2.2.1 d.2.2.2.2.2.2.2.2.2.2.2.2.2.2.2.2.2.2.2.2.2.2.2.2.2.2.2.2.2.2.2.2.2.2.2.2.2.2.2.2.2.2.2.2.2.2.2.2.2.2.2.1 d.2.2.2.2.2.2.2.2.2.2.2.2.2.2.2.2.2.2.2.2.2.2.2.2.2.2.2.2.2.2.2.2.2.2.2.2.2.2.2.2.2.2.2.2.2.2.2.2.2.2.2.2.1 d.2.2.2.2.2.2.2.2.2.2.2.2.2.2.2.2.2.2.2.2.2.2.2.2.2.2.2.2.2.2.2.2.2.2.2.2.2.2.2.2.2.2.2.2.2.2.2.2.2.2.2.2.2.1 d.2.2.2.2.2.2.2.2.2.2.2.2.2.2.2.2.2.2.2.2.2.2.2.2.2.2.2.2.2.2.2.2.2.2.2.2.2.2.2.2.2.2.2.2.2.2.2.2.2.2.2.2.2.2.1 d.2.2.2.2.2.2.2.2.2.2.2.2.2.2.2.2.2.2.2.2.2.2.2.2.2.2.2.2.2.2.2.2.2.2.2.2.2.2.2.2.2.2.2.2.2.2.2.2.2.2.2.2.2.2.2.1 d.2.2.2.2.2.2.2.2.2.2.2.2.2.2.2.2.2.2.2.2.2.2.2.2.2.2.2.2.2.2.2.2.2.2.2.2.2.2.2.2.2.2.2.2.2.2.2.2.2.2.2.2.2.2.2.2.1 d.2.2.2.2.2.2.2.2.2.2.2.2.2.2.2.2.2.2.2.2.2.2.2.2.2.2.2.2.2.2.2.2.2.2.2.2.2.2.2.2.2.2.2.2.2.2.2.2.2.2.2.2.2.2.2.2.2.1 d.2.2.2.2.2.2.2.2.2.2.2.2.2.2.2.2.2.2.2.2.2.2.2.2.2.2.2.2.2.2.2.2.2.2.2.2.2.2.2.2.2.2.2.2.2.2.2.2.2.2.2.2.2.2.2.2.2.2.1 d.2.2.2.2.2.2.2.2.2.2.2.2.2.2.2.2.2.2.2.2.2.2.2.2.2.2.2.2.2.2.2.2.2.2.2.2.2.2.2.2.2.2.2.2.2.2.2.2.2.2.2.2.2.2.2.2.2.2.2.1 d.2.2.2.2.2.2.2.2.2.2.2.2.2.2.2.2.2.2.2.2.2.2.2.2.2.2.2.2.2.2.2.2.2.2.2.2.2.2.2.2.2.2.2.2.2.2.2.2.2.2.2.2.2.2.2.2.2.2.2.2.1 d.2.2.2.2.2.2.2.2.2.2.2.2.2.2.2.2.2.2.2.2.2.2.2.2.2.2.2.2.2.2.2.2.2.2.2.2.2.2.2.2.2.2.2.2.2.2.2.2.2.2.2.2.2.2.2.2.2.2.2.2.2.1 d.2.2.2.2.2.2.2.2.2.2.2.2.2.2.2.2.2.2.2.2.2.2.2.2.2.2.2.2.2.2.2.2.2.2.2.2.2.2.2.2.2.2.2.2.2.2.2.2.2.2.2.2.2.2.2.2.2.2.2.2.2.2.1 d.2.2.2.2.2.2.2.2.2.2.2.2.2.2.2.2.2.2.2.2.2.2.2.2.2.2.2.2.2.2.2.2.2.2.2.2.2.2.2.2.2.2.2.2.2.2.2.2.2.2.2.2.2.2.2.2.2.2.2.2.2.2.2.1 d.2.2.2.2.2.2.2.2.2.2.2.2.2.2.2.2.2.2.2.2.2.2.2.2.2.2.2.2.2.2.2.2.2.2.2.2.2.2.2.2.2.2.2.2.2.2.2.2.2.2.2.2.2.2.2.2.2.2.2.2.2.2.2.2.1 d.2.2.2.2.2.2.2.2.2.2.2.2.2.2.2.2.2.2.2.2.2.2.2.2.2.2.2.2.2.2.2.2.2.2.2.2.2.2.2.2.2.2.2.2.2.2.2.2.2.2.2.2.2.2.2.2.2.2.2.2.2.2.2.2.2.1 d.2.2.2.2.2.2.2.2.2.2.2.2.2.2.2.2.2.2.2.2.2.2.2.2.2.2.2.2.2.2.2.2.2.2.2.2.2.2.2.2.2.2.2.2.2.2.2.2.2.2.2.2.2.2.2.2.2.2.2.2.2.2.2.2.2.2.1 d.2.2.2.2.2.2.2.2.2.2.2.2.2.2.2.2.2.2.2.2.2.2.2.2.2.2.2.2.2.2.2.2.2.2.2.2.2.2.2.2.2.2.2.2.2.2.2.2.2.2.2.2.2.2.2.2.2.2.2.2.2.2.2.2.2.2.2.1 d.2.2.2.2.2.2.2.2.2.2.2.2.2.2.2.2.2.2.2.2.2.2.2.2.2.2.2.2.2.2.2.2.2.2.2.2.2.2.2.2.2.2.2.2.2.2.2.2.2.2.2.2.2.2.2.2.2.2.2.2.2.2.2.2.2.2.2.2.1 d.2.2.2.2.2.2.2.2.2.2.2.2.2.2.2.2.2.2.2.2.2.2.2.2.2.2.2.2.2.2.2.2.2.2.2.2.2.2.2.2.2.2.2.2.2.2.2.2.2.2.2.2.2.2.2.2.2.2.2.2.2.2.2.2.2.2.2.2.2.1 d.2.2.2.2.2.2.2.2.2.2.2.2.2.2.2.2.2.2.2.2.2.2.2.2.2.2.2.2.2.2.2.2.2.2.2.2.2.2.2.2.2.2.2.2.2.2.2.2.2.2.2.2.2.2.2.2.2.2.2.2.2.2.2.2.2.2.2.2.2.2.1 d.2.2.2.2.2.2.2.2.2.2.2.2.2.2.2.2.2.2.2.2.2.2.2.2.2.2.2.2.2.2.2.2.2.2.2.2.2.2.2.2.2.2.2.2.2.2.2.2.2.2.2.2.2.2.2.2.2.2.2.2.2.2.2.2.2.2.2.2.2.2.2.1 d.2.2.2.2.2.2.2.2.2.2.2.2.2.2.2.2.2.2.2.2.2.2.2.2.2.2.2.2.2.2.2.2.2.2.2.2.2.2.2.2.2.2.2.2.2.2.2.2.2.2.2.2.2.2.2.2.2.2.2.2.2.2.2.2.2.2.2.2.2.2.2.2.1 d.2.2.2.2.2.2.2.2.2.2.2.2.2.2.2.2.2.2.2.2.2.2.2.2.2.2.2.2.2.2.2.2.2.2.2.2.2.2.2.2.2.2.2.2.2.2.2.2.2.2.2.2.2.2.2.2.2.2.2.2.2.2.2.2.2.2.2.2.2.2.2.2.2.1 d.2.2.2.2.2.2.2.2.2.2.2.2.2.2.2.2.2.2.2.2.2.2.2.2.2.2.2.2.2.2.2.2.2.2.2.2.2.2.2.2.2.2.2.2.2.2.2.2.2.2.2.2.2.2.2.2.2.2.2.2.2.2.2.2.2.2.2.2.2.2.2.2.2.2.1 d.2.2.2.2.2.2.2.2.2.2.2.2.2.2.2.2.2.2.2.2.2.2.2.2.2.2.2.2.2.2.2.2.2.2.2.2.2.2.2.2.2.2.2.2.2.2.2.2.2.2.2.2.2.2.2.2.2.2.2.2.2.2.2.2.2.2.2.2.2.2.2.2.2.2.2.1 d.2.2.2.2.2.2.2.2.2.2.2.2.2.2.2.2.2.2.2.2.2.2.2.2.2.2.2.2.2.2.2.2.2.2.2.2.2.2.2.2.2.2.2.2.2.2.2.2.2.2.2.2.2.2.2.2.2.2.2.2.2.2.2.2.2.2.2.2.2.2.2.2.2.2.2.2.1 d.2.2.2.2.2.2.2.2.2.2.2.2.2.2.2.2.2.2.2.2.2.2.2.2.2.2.2.2.2.2.2.2.2.2.2.2.2.2.2.2.2.2.2.2.2.2.2.2.2.2.2.2.2.2.2.2.2.2.2.2.2.2.2.2.2.2.2.2.2.2.2.2.2.2.2.2.2
noncomputable def tup9z : PySem.World × PySem.Str × PySem.Addr × PySem.Value × PySem.Heap × Nat × (List PySem.Str) × (PySem.ExcName → Option PySem.Value) × (PySem.Str → Option PySem.Value) × (PySem.Str → Option PySem.Value) × PySem.Obj × PySem.Drawn × PySem.OsState × (PySem.Flow → PySem.Shared → Prop) × (PySem.Value → PySem.Shared → Prop) × (List Nat) × (List Nat) × Nat × Nat × Nat × Nat × Nat × Nat × Nat × Nat × Nat × (List PySem.Value) × (List PySem.Value) × (List PySem.Value) × (List PySem.Value) × PySem.Tok × PySem.Heap × Nat × (PySem.Str → Option PySem.Value) × (List Nat) × PySem.Heap × Nat × PySem.Tok × (List Nat) × PySem.Heap × Nat × PySem.Heap × Nat × (Array PySem.Value) × PySem.Tok × (List PySem.Value) × Nat × Nat × Nat × Nat × Nat × Nat × Nat × Nat × Nat × Nat × Nat × PySem.Tok × PySem.Tok × PySem.Tok × PySem.Tok × PySem.Tok × PySem.Tok × PySem.Tok × PySem.Tok × PySem.Tok × PySem.Tok × PySem.Tok × PySem.Tok × PySem.Value × PySem.Value × PySem.Obj × PySem.Obj × (Array PySem.Value) × PySem.Tok × PySem.Heap × PySem.Obj × Nat := hen (World9, (default : Str), (0 : Nat), (default : Value), (default : Heap), (0 : Nat), [], (fun _ => none), (fun _ => none), (fun _ => none), (default : Obj), ({} : Drawn), ({} : OsState), (fun _ => (fun _ => True)), (fun _ => (fun _ => True)), [], [], (0 : Nat), (0 : Nat), (0 : Nat), (0 : Nat), (0 : Nat), (0 : Nat), (0 : Nat), (0 : Nat), (0 : Nat), [], [], [], [], (0 : Nat), (default : Heap), (0 : Nat), (fun _ => none), [], (default : Heap), (0 : Nat), (0 : Nat), [], (default : Heap), (0 : Nat), (default : Heap), (0 : Nat), #[], (0 : Nat), [], (0 : Nat), (0 : Nat), (0 : Nat), (0 : Nat), (0 : Nat), (0 : Nat), (0 : Nat), (0 : Nat), (0 : Nat), (0 : Nat), (0 : Nat), (0 : Nat), (0 : Nat), (0 : Nat), (0 : Nat), (0 : Nat), (0 : Nat), (0 : Nat), (0 : Nat), (0 : Nat), (0 : Nat), (0 : Nat), (0 : Nat), (default : Value), (default : Value), (default : Obj), (default : Obj), #[], (0 : Nat), (default : Heap), (default : Obj), (0 : Nat)) G9
noncomputable def w : PySem.World := tup9z.1
noncomputable def cn : PySem.Str := tup9z.2.1
noncomputable def fa : PySem.Addr := tup9z.2.2.1
noncomputable def cd : PySem.Value := tup9z.2.2.2.1
noncomputable def h₀ : PySem.Heap := tup9z.2.2.2.2.1
noncomputable def L : Nat := tup9z.2.2.2.2.2.1
noncomputable def loose : List PySem.Str := tup9z.2.2.2.2.2.2.1
noncomputable def mean : PySem.ExcName → Option PySem.Value := tup9z.2.2.2.2.2.2.2.1
noncomputable def mg : PySem.Str → Option PySem.Value := tup9z.2.2.2.2.2.2.2.2.1
noncomputable def mb : PySem.Str → Option PySem.Value := tup9z.2.2.2.2.2.2.2.2.2.1
noncomputable def oL : PySem.Obj := tup9z.2.2.2.2.2.2.2.2.2.2.1
noncomputable def dr : PySem.Drawn := tup9z.2.2.2.2.2.2.2.2.2.2.2.1
noncomputable def os : PySem.OsState := tup9z.2.2.2.2.2.2.2.2.2.2.2.2.1
noncomputable def Q : PySem.Flow → PySem.Shared → Prop := tup9z.2.2.2.2.2.2.2.2.2.2.2.2.2.1
noncomputable def E : PySem.Value → PySem.Shared → Prop := tup9z.2.2.2.2.2.2.2.2.2.2.2.2.2.2.1
noncomputable def r : List Nat := tup9z.2.2.2.2.2.2.2.2.2.2.2.2.2.2.2.1
noncomputable def f : List Nat := tup9z.2.2.2.2.2.2.2.2.2.2.2.2.2.2.2.2.1
noncomputable def d : Nat := tup9z.2.2.2.2.2.2.2.2.2.2.2.2.2.2.2.2.2.1
noncomputable def lt : Nat := tup9z.2.2.2.2.2.2.2.2.2.2.2.2.2.2.2.2.2.2.1
noncomputable def lr : Nat := tup9z.2.2.2.2.2.2.2.2.2.2.2.2.2.2.2.2.2.2.2.1
noncomputable def lf : Nat := tup9z.2.2.2.2.2.2.2.2.2.2.2.2.2.2.2.2.2.2.2.2.1
noncomputable def lw : Nat := tup9z.2.2.2.2.2.2.2.2.2.2.2.2.2.2.2.2.2.2.2.2.2.1
noncomputable def kt : Nat := tup9z.2.2.2.2.2.2.2.2.2.2.2.2.2.2.2.2.2.2.2.2.2.2.1
noncomputable def kr : Nat := tup9z.2.2.2.2.2.2.2.2.2.2.2.2.2.2.2.2.2.2.2.2.2.2.2.1
noncomputable def kf : Nat := tup9z.2.2.2.2.2.2.2.2.2.2.2.2.2.2.2.2.2.2.2.2.2.2.2.2.1
noncomputable def kw : Nat := tup9z.2.2.2.2.2.2.2.2.2.2.2.2.2.2.2.2.2.2.2.2.2.2.2.2.2.1
noncomputable def wt : List PySem.Value := tup9z.2.2.2.2.2.2.2.2.2.2.2.2.2.2.2.2.2.2.2.2.2.2.2.2.2.2.1
noncomputable def wr : List PySem.Value := tup9z.2.2.2.2.2.2.2.2.2.2.2.2.2.2.2.2.2.2.2.2.2.2.2.2.2.2.2.1
noncomputable def wf : List PySem.Value := tup9z.2.2.2.2.2.2.2.2.2.2.2.2.2.2.2.2.2.2.2.2.2.2.2.2.2.2.2.2.1
noncomputable def ww : List PySem.Value := tup9z.2.2.2.2.2.2.2.2.2.2.2.2.2.2.2.2.2.2.2.2.2.2.2.2.2.2.2.2.2.1
noncomputable def td : PySem.Tok := tup9z.2.2.2.2.2.2.2.2.2.2.2.2.2.2.2.2.2.2.2.2.2.2.2.2.2.2.2.2.2.2.1
noncomputable def h' : PySem.Heap := tup9z.2.2.2.2.2.2.2.2.2.2.2.2.2.2.2.2.2.2.2.2.2.2.2.2.2.2.2.2.2.2.2.1
noncomputable def tk' : Nat := tup9z.2.2.2.2.2.2.2.2.2.2.2.2.2.2.2.2.2.2.2.2.2.2.2.2.2.2.2.2.2.2.2.2.1
noncomputable def m' : PySem.Str → Option PySem.Value := tup9z.2.2.2.2.2.2.2.2.2.2.2.2.2.2.2.2.2.2.2.2.2.2.2.2.2.2.2.2.2.2.2.2.2.1
noncomputable def q : List Nat := tup9z.2.2.2.2.2.2.2.2.2.2.2.2.2.2.2.2.2.2.2.2.2.2.2.2.2.2.2.2.2.2.2.2.2.2.1
noncomputable def h6 : PySem.Heap := tup9z.2.2.2.2.2.2.2.2.2.2.2.2.2.2.2.2.2.2.2.2.2.2.2.2.2.2.2.2.2.2.2.2.2.2.2.1
noncomputable def tk6 : Nat := tup9z.2.2.2.2.2.2.2.2.2.2.2.2.2.2.2.2.2.2.2.2.2.2.2.2.2.2.2.2.2.2.2.2.2.2.2.2.1
noncomputable def tt : PySem.Tok := tup9z.2.2.2.2.2.2.2.2.2.2.2.2.2.2.2.2.2.2.2.2.2.2.2.2.2.2.2.2.2.2.2.2.2.2.2.2.2.1
noncomputable def tx : List Nat := tup9z.2.2.2.2.2.2.2.2.2.2.2.2.2.2.2.2.2.2.2.2.2.2.2.2.2.2.2.2.2.2.2.2.2.2.2.2.2.2.1
noncomputable def z1 : PySem.Heap := tup9z.2.2.2.2.2.2.2.2.2.2.2.2.2.2.2.2.2.2.2.2.2.2.2.2.2.2.2.2.2.2.2.2.2.2.2.2.2.2.2.1
noncomputable def z2 : Nat := tup9z.2.2.2.2.2.2.2.2.2.2.2.2.2.2.2.2.2.2.2.2.2.2.2.2.2.2.2.2.2.2.2.2.2.2.2.2.2.2.2.2.1
noncomputable def h5 : PySem.Heap := tup9z.2.2.2.2.2.2.2.2.2.2.2.2.2.2.2.2.2.2.2.2.2.2.2.2.2.2.2.2.2.2.2.2.2.2.2.2.2.2.2.2.2.1
noncomputable def tk5 : Nat := tup9z.2.2.2.2.2.2.2.2.2.2.2.2.2.2.2.2.2.2.2.2.2.2.2.2.2.2.2.2.2.2.2.2.2.2.2.2.2.2.2.2.2.2.1
noncomputable def ps5 : Array PySem.Value := tup9z.2.2.2.2.2.2.2.2.2.2.2.2.2.2.2.2.2.2.2.2.2.2.2.2.2.2.2.2.2.2.2.2.2.2.2.2.2.2.2.2.2.2.2.1
noncomputable def tl5 : PySem.Tok := tup9z.2.2.2.2.2.2.2.2.2.2.2.2.2.2.2.2.2.2.2.2.2.2.2.2.2.2.2.2.2.2.2.2.2.2.2.2.2.2.2.2.2.2.2.2.1
noncomputable def sv5 : List PySem.Value := tup9z.2.2.2.2.2.2.2.2.2.2.2.2.2.2.2.2.2.2.2.2.2.2.2.2.2.2.2.2.2.2.2.2.2.2.2.2.2.2.2.2.2.2.2.2.2.1
noncomputable def se5 : Nat := tup9z.2.2.2.2.2.2.2.2.2.2.2.2.2.2.2.2.2.2.2.2.2.2.2.2.2.2.2.2.2.2.2.2.2.2.2.2.2.2.2.2.2.2.2.2.2.2.1
noncomputable def x : Nat := tup9z.2.2.2.2.2.2.2.2.2.2.2.2.2.2.2.2.2.2.2.2.2.2.2.2.2.2.2.2.2.2.2.2.2.2.2.2.2.2.2.2.2.2.2.2.2.2.2.1
noncomputable def d' : Nat := tup9z.2.2.2.2.2.2.2.2.2.2.2.2.2.2.2.2.2.2.2.2.2.2.2.2.2.2.2.2.2.2.2.2.2.2.2.2.2.2.2.2.2.2.2.2.2.2.2.2.1
noncomputable def pb : Nat := tup9z.2.2.2.2.2.2.2.2.2.2.2.2.2.2.2.2.2.2.2.2.2.2.2.2.2.2.2.2.2.2.2.2.2.2.2.2.2.2.2.2.2.2.2.2.2.2.2.2.2.1
noncomputable def fn : Nat := tup9z.2.2.2.2.2.2.2.2.2.2.2.2.2.2.2.2.2.2.2.2.2.2.2.2.2.2.2.2.2.2.2.2.2.2.2.2.2.2.2.2.2.2.2.2.2.2.2.2.2.2.1
noncomputable def cc : Nat := tup9z.2.2.2.2.2.2.2.2.2.2.2.2.2.2.2.2.2.2.2.2.2.2.2.2.2.2.2.2.2.2.2.2.2.2.2.2.2.2.2.2.2.2.2.2.2.2.2.2.2.2.2.1
noncomputable def x1 : Nat := tup9z.2.2.2.2.2.2.2.2.2.2.2.2.2.2.2.2.2.2.2.2.2.2.2.2.2.2.2.2.2.2.2.2.2.2.2.2.2.2.2.2.2.2.2.2.2.2.2.2.2.2.2.2.1
noncomputable def d1 : Nat := tup9z.2.2.2.2.2.2.2.2.2.2.2.2.2.2.2.2.2.2.2.2.2.2.2.2.2.2.2.2.2.2.2.2.2.2.2.2.2.2.2.2.2.2.2.2.2.2.2.2.2.2.2.2.2.1
noncomputable def sg : Nat := tup9z.2.2.2.2.2.2.2.2.2.2.2.2.2.2.2.2.2.2.2.2.2.2.2.2.2.2.2.2.2.2.2.2.2.2.2.2.2.2.2.2.2.2.2.2.2.2.2.2.2.2.2.2.2.2.1
noncomputable def ce : Nat := tup9z.2.2.2.2.2.2.2.2.2.2.2.2.2.2.2.2.2.2.2.2.2.2.2.2.2.2.2.2.2.2.2.2.2.2.2.2.2.2.2.2.2.2.2.2.2.2.2.2.2.2.2.2.2.2.2.1
noncomputable def pb1 : Nat := tup9z.2.2.2.2.2.2.2.2.2.2.2.2.2.2.2.2.2.2.2.2.2.2.2.2.2.2.2.2.2.2.2.2.2.2.2.2.2.2.2.2.2.2.2.2.2.2.2.2.2.2.2.2.2.2.2.2.1
noncomputable def q1 : PySem.Tok := tup9z.2.2.2.2.2.2.2.2.2.2.2.2.2.2.2.2.2.2.2.2.2.2.2.2.2.2.2.2.2.2.2.2.2.2.2.2.2.2.2.2.2.2.2.2.2.2.2.2.2.2.2.2.2.2.2.2.2.1
noncomputable def q2 : PySem.Tok := tup9z.2.2.2.2.2.2.2.2.2.2.2.2.2.2.2.2.2.2.2.2.2.2.2.2.2.2.2.2.2.2.2.2.2.2.2.2.2.2.2.2.2.2.2.2.2.2.2.2.2.2.2.2.2.2.2.2.2.2.1
noncomputable def q3 : PySem.Tok := tup9z.2.2.2.2.2.2.2.2.2.2.2.2.2.2.2.2.2.2.2.2.2.2.2.2.2.2.2.2.2.2.2.2.2.2.2.2.2.2.2.2.2.2.2.2.2.2.2.2.2.2.2.2.2.2.2.2.2.2.2.1
noncomputable def q4 : PySem.Tok := tup9z.2.2.2.2.2.2.2.2.2.2.2.2.2.2.2.2.2.2.2.2.2.2.2.2.2.2.2.2.2.2.2.2.2.2.2.2.2.2.2.2.2.2.2.2.2.2.2.2.2.2.2.2.2.2.2.2.2.2.2.2.1
noncomputable def tw : PySem.Tok := tup9z.2.2.2.2.2.2.2.2.2.2.2.2.2.2.2.2.2.2.2.2.2.2.2.2.2.2.2.2.2.2.2.2.2.2.2.2.2.2.2.2.2.2.2.2.2.2.2.2.2.2.2.2.2.2.2.2.2.2.2.2.2.1
noncomputable def u1 : PySem.Tok := tup9z.2.2.2.2.2.2.2.2.2.2.2.2.2.2.2.2.2.2.2.2.2.2.2.2.2.2.2.2.2.2.2.2.2.2.2.2.2.2.2.2.2.2.2.2.2.2.2.2.2.2.2.2.2.2.2.2.2.2.2.2.2.2.1
noncomputable def u2 : PySem.Tok := tup9z.2.2.2.2.2.2.2.2.2.2.2.2.2.2.2.2.2.2.2.2.2.2.2.2.2.2.2.2.2.2.2.2.2.2.2.2.2.2.2.2.2.2.2.2.2.2.2.2.2.2.2.2.2.2.2.2.2.2.2.2.2.2.2.1
noncomputable def u3 : PySem.Tok := tup9z.2.2.2.2.2.2.2.2.2.2.2.2.2.2.2.2.2.2.2.2.2.2.2.2.2.2.2.2.2.2.2.2.2.2.2.2.2.2.2.2.2.2.2.2.2.2.2.2.2.2.2.2.2.2.2.2.2.2.2.2.2.2.2.2.1
noncomputable def u4 : PySem.Tok := tup9z.2.2.2.2.2.2.2.2.2.2.2.2.2.2.2.2.2.2.2.2.2.2.2.2.2.2.2.2.2.2.2.2.2.2.2.2.2.2.2.2.2.2.2.2.2.2.2.2.2.2.2.2.2.2.2.2.2.2.2.2.2.2.2.2.2.1
noncomputable def u5 : PySem.Tok := tup9z.2.2.2.2.2.2.2.2.2.2.2.2.2.2.2.2.2.2.2.2.2.2.2.2.2.2.2.2.2.2.2.2.2.2.2.2.2.2.2.2.2.2.2.2.2.2.2.2.2.2.2.2.2.2.2.2.2.2.2.2.2.2.2.2.2.2.1
noncomputable def v1 : PySem.Tok := tup9z.2.2.2.2.2.2.2.2.2.2.2.2.2.2.2.2.2.2.2.2.2.2.2.2.2.2.2.2.2.2.2.2.2.2.2.2.2.2.2.2.2.2.2.2.2.2.2.2.2.2.2.2.2.2.2.2.2.2.2.2.2.2.2.2.2.2.2.1
noncomputable def vw : PySem.Tok := tup9z.2.2.2.2.2.2.2.2.2.2.2.2.2.2.2.2.2.2.2.2.2.2.2.2.2.2.2.2.2.2.2.2.2.2.2.2.2.2.2.2.2.2.2.2.2.2.2.2.2.2.2.2.2.2.2.2.2.2.2.2.2.2.2.2.2.2.2.2.1
noncomputable def ct : PySem.Value := tup9z.2.2.2.2.2.2.2.2.2.2.2.2.2.2.2.2.2.2.2.2.2.2.2.2.2.2.2.2.2.2.2.2.2.2.2.2.2.2.2.2.2.2.2.2.2.2.2.2.2.2.2.2.2.2.2.2.2.2.2.2.2.2.2.2.2.2.2.2.2.1
noncomputable def pm : PySem.Value := tup9z.2.2.2.2.2.2.2.2.2.2.2.2.2.2.2.2.2.2.2.2.2.2.2.2.2.2.2.2.2.2.2.2.2.2.2.2.2.2.2.2.2.2.2.2.2.2.2.2.2.2.2.2.2.2.2.2.2.2.2.2.2.2.2.2.2.2.2.2.2.2.1
noncomputable def oc : PySem.Obj := tup9z.2.2.2.2.2.2.2.2.2.2.2.2.2.2.2.2.2.2.2.2.2.2.2.2.2.2.2.2.2.2.2.2.2.2.2.2.2.2.2.2.2.2.2.2.2.2.2.2.2.2.2.2.2.2.2.2.2.2.2.2.2.2.2.2.2.2.2.2.2.2.2.1
noncomputable def oC : PySem.Obj := tup9z.2.2.2.2.2.2.2.2.2.2.2.2.2.2.2.2.2.2.2.2.2.2.2.2.2.2.2.2.2.2.2.2.2.2.2.2.2.2.2.2.2.2.2.2.2.2.2.2.2.2.2.2.2.2.2.2.2.2.2.2.2.2.2.2.2.2.2.2.2.2.2.2.1
noncomputable def vs : Array PySem.Value := tup9z.2.2.2.2.2.2.2.2.2.2.2.2.2.2.2.2.2.2.2.2.2.2.2.2.2.2.2.2.2.2.2.2.2.2.2.2.2.2.2.2.2.2.2.2.2.2.2.2.2.2.2.2.2.2.2.2.2.2.2.2.2.2.2.2.2.2.2.2.2.2.2.2.2.1
noncomputable def tq : PySem.Tok := tup9z.2.2.2.2.2.2.2.2.2.2.2.2.2.2.2.2.2.2.2.2.2.2.2.2.2.2.2.2.2.2.2.2.2.2.2.2.2.2.2.2.2.2.2.2.2.2.2.2.2.2.2.2.2.2.2.2.2.2.2.2.2.2.2.2.2.2.2.2.2.2.2.2.2.2.1
noncomputable def h4 : PySem.Heap := tup9z.2.2.2.2.2.2.2.2.2.2.2.2.2.2.2.2.2.2.2.2.2.2.2.2.2.2.2.2.2.2.2.2.2.2.2.2.2.2.2.2.2.2.2.2.2.2.2.2.2.2.2.2.2.2.2.2.2.2.2.2.2.2.2.2.2.2.2.2.2.2.2.2.2.2.2.1
noncomputable def oL4 : PySem.Obj := tup9z.2.2.2.2.2.2.2.2.2.2.2.2.2.2.2.2.2.2.2.2.2.2.2.2.2.2.2.2.2.2.2.2.2.2.2.2.2.2.2.2.2.2.2.2.2.2.2.2.2.2.2.2.2.2.2.2.2.2.2.2.2.2.2.2.2.2.2.2.2.2.2.2.2.2.2.2.1
noncomputable def tk : Nat := tup9z.2.2.2.2.2.2.2.2.2.2.2.2.2.2.2.2.2.2.2.2.2.2.2.2.2.2.2.2.2.2.2.2.2.2.2.2.2.2.2.2.2.2.2.2.2.2.2.2.2.2.2.2.2.2.2.2.2.2.2.2.2.2.2.2.2.2.2.2.2.2.2.2.2.2.2.2.2
set_option maxRecDepth 100000 in
set_option maxHeartbeats 8000000 in
theorem main9 : seg9.1 w cn fa cd h₀ L loose mean mg mb oL dr os Q E r f d lt lr lf lw kt kr kf kw wt wr wf ww td h' tk' m' q h6 tk6 tt tx z1 z2 h5 tk5 ps5 tl5 sv5 se5 x d' pb fn cc x1 d1 sg ce pb1 q1 q2 q3 q4 tw u1 u2 u3 u4 u5 v1 vw ct pm oc oC vs tq h4 oL4 tk := by
  delta seg9 segOf
  dsimp -zeta only
  intro B X T tail hr hf hir hif l1 l2 l3 hrz hfz hq hq1 hq2 hw2 htx hs5 hl1 ok' F4 N4 d4 off5 hC4 hwz
  refine LCg.CompSrc.ledger (ax := lw) (its := ww.toArray) (k := kw) (news := lexLed w ⟨x, d', pb, fn, cc, x1, d1, sg, ce, pb1, q1, q2, q3, q4, tw, u1, u2, u3, u4, u5, v1, vw, ct, pm, oc, oC, vs, tq⟩ 1 tl5 sv5 se5 [] 0 ++ [(L + 1, oL4), (108, tabObj ps5), (lw, listOf ww.toArray kw), (lf, listOf wf.toArray kf), (lr, listOf wr.toArray kr), (lt, listOf wt.toArray kt)]) (by rfl) (by k_asm) (news_of (by k_asm) (by dsimp only [lexLed]; simp only [List.cons_append, List.nil_append]; (repeat' first | exact List.forall_mem_nil _ | refine mem_cons_all ?_ ?_ | exact sub_refl | refine sub_tail ?_ | k_mem))) ?zM ?zY (fun g => compRest_ind (WordsJ w ⟨x, d', pb, fn, cc, x1, d1, sg, ce, pb1, q1, q2, q3, q4, tw, u1, u2, u3, u4, u5, v1, vw, ct, pm, oc, oC, vs, tq⟩ d tx q [(L + 1, oL4), (108, tabObj ps5), (lw, listOf ww.toArray kw), (lf, listOf wf.toArray kf), (lr, listOf wr.toArray kr), (lt, listOf wt.toArray kt)]) ?zT ?zF _ 0 [] _ (Nat.zero_add _).symm ?zI)
  case zM => dsimp only [lexLed]; simp only [List.cons_append, List.nil_append]; k_mem
  case zY => rw [List.size_toArray, hwz, sizeLine_eq]; omega
  case zI => exact ⟨_, 1, _, _, _, _, hs5, rfl, .inl (by rw [List.drop_zero, htx]), rfl, .nil⟩
  case zT =>
    intro i ys news v I oI C' oC' D m₂ h tk E' hi hj hP hC hx' F' N' off ne
    obtain ⟨rem, ln, tl, sv, se, qe, hs, rfl, hl, hn, hy⟩ := hj
    have hil : i < q.length := by rw [hq1]; rw [List.size_toArray, hwz] at hi; exact hi
    have hk := hq2 q[i] (List.getElem_mem hil)
    have hg : q[i]? = some q[i] := List.getElem?_eq_getElem hil
    have hdr : (q.map wordF).drop i = wordF q[i] :: (q.map wordF).drop (i + 1) := drop_cons (by rw [List.getElem?_map, hg]; rfl)
    have hwd : ∀ wd ∈ (q.map wordF).drop i, wd.length ≤ 2 := fun wd h => hw2 wd (List.mem_of_mem_drop h)
    have hlen : rem.length ≤ 1000 := by
      have h1 := left_len hl
      have h2 := spellM_len d _ i hwd
      have h3 : ((q.map wordF).drop i).length ≤ 6 := by rw [List.length_drop, List.length_map]; omega
      omega
    rw [hdr, spellM] at hl
    generalize q[i] = n at *
    obtain ⟨hs1, hs2, hs3⟩ := figW_small n hk
    obtain ⟨rem', ln', e1, e2, e3⟩ := lex_word hs3 (Nat.mod_lt _ (by decide)) hl ln
    have off9 := LexP.Off.of3 (oI := oI) (oC := oC') (oD := lst ys) off off5
    dsimp only [lexLed] at N'
    simp only [List.cons_append, List.nil_append] at N'
    k_with "call ref cons nil" => refine stop_in ?_
    k_with "call ref" => refine stop_in ?_
    k_steps
    refine stop_out ?_
    refine' Ctr.use (tok_read w ⟨x, d', pb, fn, cc, x1, d1, sg, ce, pb1, q1, q2, q3, q4, tw, u1, u2, u3, u4, u5, v1, vw, ct, pm, oc, oC, vs, tq⟩ ok' ln rem qe _ ⟨tl, sv, se, hs, rfl⟩ hlen _ _ _ e1) ?kC ?kP ?kO ?kB ?kF ?kX ?kN ?kT ?kK ?kd ?ku ?_
    ((case kF => k_asm); (case kN => k_asm); (case kB => k_asm); (case kX => k_asm); (case kT => k_asm); (case kC => k_asm); (case kK => first | exact rfl | assumption); (case kd => ktr_room); (case ku => ktr_units); (case kP => dsimp only [lexLed]; (repeat' first | exact Pick.nil | apply Pick.cons | exact Take.head | apply Take.tail)); (case kO => refine LexP.Off.to ?_; (repeat' first | assumption | refine LexP.Off.cons ?_ (by assumption) (by (try dsimp only); (show @LT.lt Nat _ _ _); omega))))
    intro v9 led9 tl9 h9 tk9 hp9 hlt9 F9 N9
    obtain ⟨rfl, ty, tt9, rfl, hty, tl2, sv2, se2, hs2', rfl⟩ := hp9
    dsimp only [lexLed] at N9
    simp only [List.cons_append, List.nil_append] at N9
    k_steps
    refine stop_out ?_
    obtain rfl := str_of_list hty
    refine' CtrR.use (value2 w (wordF n) tt9 (by omega) (fun c hc => ⟨by have := hs3 c hc; omega, (hs3 c hc).2⟩)) ?kl ?k1 ?k2 ?k3 ?k4 ?k5 ?kK ?kd ?ku ?_
    ((case k1 => k_asm); (case k2 => k_asm); (case k3 => k_asm); (case k4 => k_asm); (case k5 => k_asm); (case kl => (repeat' first | exact List.forall_mem_nil _ | refine mem_cons_all ?_ ?_ | exact sub_refl | refine sub_tail ?_ | k_mem)); (case kK => first | exact rfl | assumption); (case kd => ktr_room); (case ku => ktr_units))
    intro v7 tl7 h7 tk7 hp7 hlt7 F7 N7
    obtain ⟨rfl, tf, rfl⟩ := hp7
    simp only [List.nil_append] at N7
    refine CompEnd.intro (by k_asm) (by k_asm) (lexLed w ⟨x, d', pb, fn, cc, x1, d1, sg, ce, pb1, q1, q2, q3, q4, tw, u1, u2, u3, u4, u5, v1, vw, ct, pm, oc, oC, vs, tq⟩ ln' tl2 sv2 se2 [] qe ++ [(L + 1, oL4), (108, tabObj ps5), (lw, listOf ww.toArray kw), (lf, listOf wf.toArray kf), (lr, listOf wr.toArray kr), (lt, listOf wt.toArray kt)]) (by dsimp only [lexLed]; simp only [List.cons_append, List.nil_append]; (repeat' first | exact List.forall_mem_nil _ | refine mem_cons_all ?_ ?_ | exact sub_refl | refine sub_tail ?_ | k_mem)) off (.inr ⟨_, (by dsimp only [lexLed]; simp only [List.cons_append, List.nil_append]; k_mem : (lw, listOf ww.toArray kw) ∈ _), rfl, _, rfl⟩) ⟨rem', ln', _, _, _, _, hs2', rfl, e2, e3.trans hn, ?_⟩
    rw [List.take_add_one, hg, List.map_append, hs2]
    exact hy.append (.cons _ _ .nil)
  case zF =>
    intro ys news hj
    obtain ⟨rem, ln, tl, sv, se, qe, hs, rfl, hl, hn, hy⟩ := hj
    rw [List.size_toArray, hwz] at hl hy
    rw [List.drop_eq_nil_of_le (by rw [List.length_map]; omega)] at hl
    rw [List.take_of_length_le (by omega)] at hy
    intro D h tk FD ND offD
    dsimp only [lexLed] at ND
    simp only [List.cons_append, List.nil_append] at ND
    k_with_none
    k_with "compareOp NotEq ref ref" => refine stop_in ?_
    k_steps
    refine stop_out ?_
    rename_i D9 ws9 h9 F9 N9 hI9 l9
    rw [← List.map_append, hq] at hI9
    refine ne_intsK (N9.isList (.tail _ (.head _))) hy (N9.isList (.head _)) hI9 (by units_room) ?_
    rw [decide_eq_true rfl]
    have N3 := news_of (l' := (D, lst ys) :: (lexLed w ⟨x, d', pb, fn, cc, x1, d1, sg, ce, pb1, q1, q2, q3, q4, tw, u1, u2, u3, u4, u5, v1, vw, ct, pm, oc, oC, vs, tq⟩ ln tl sv se [] qe ++ [(L + 1, oL4), (108, tabObj ps5), (lw, listOf ww.toArray kw), (lf, listOf wf.toArray kf), (lr, listOf wr.toArray kr), (lt, listOf wt.toArray kt)])) N9 (by dsimp only [lexLed]; simp only [List.cons_append, List.nil_append]; (repeat' first | exact List.forall_mem_nil _ | refine mem_cons_all ?_ ?_ | exact sub_refl | refine sub_tail ?_ | k_mem))
    dsimp only [lexLed] at N3
    simp only [List.cons_append, List.nil_append] at N3
    have offD1 := off1_all offD
    have offD2 : LexP.Off ⟨x, d', pb, fn, cc, x1, d1, sg, ce, pb1, q1, q2, q3, q4, tw, u1, u2, u3, u4, u5, v1, vw, ct, pm, oc, oC, vs, tq⟩ [(D, lst ys)] := by
      refine LexP.Off.of (w := w) (ln := ln) (tl := tl) (sv := sv) (se := se) (qv := []) (qe := qe) fun p hp q hq => ?_
      obtain rfl := List.mem_singleton.mp hq
      exact fun e => offD1 p (List.mem_append_left _ hp) e.symm
    have offDR : LexP.Off ⟨x, d', pb, fn, cc, x1, d1, sg, ce, pb1, q1, q2, q3, q4, tw, u1, u2, u3, u4, u5, v1, vw, ct, pm, oc, oC, vs, tq⟩ ((D, lst ys) :: [(L + 1, oL4), (108, tabObj ps5), (lw, listOf ww.toArray kw), (lf, listOf wf.toArray kf), (lr, listOf wr.toArray kr), (lt, listOf wt.toArray kt)]) := fun q hq => (List.mem_cons.mp hq).elim (fun e => e ▸ offD2 _ (.head _)) (fun hq => off5 q hq)
    clear N9 l9
    k_with_none
    k_with "call ref cons nil" => refine stop_in ?_
    k_with "call ref" => refine stop_in ?_
    k_steps
    refine stop_out ?_
    have e1 := lex_end hl ln
    have hlen : rem.length ≤ 1000 := by
      have := left_len hl
      simp only [spellM, List.length_nil] at this
      omega
    refine' Ctr.use (tok_read w ⟨x, d', pb, fn, cc, x1, d1, sg, ce, pb1, q1, q2, q3, q4, tw, u1, u2, u3, u4, u5, v1, vw, ct, pm, oc, oC, vs, tq⟩ ok' ln rem qe _ ⟨tl, sv, se, hs, rfl⟩ hlen _ _ _ e1) ?kC ?kP ?kO ?kB ?kF ?kX ?kN ?kT ?kK ?kd ?ku ?_
    ((case kF => k_asm); (case kN => k_asm); (case kB => k_asm); (case kX => k_asm); (case kT => k_asm); (case kC => k_asm); (case kK => first | exact rfl | assumption); (case kd => ktr_room); (case ku => ktr_units); (case kP => dsimp only [lexLed]; (repeat' first | exact Pick.nil | apply Pick.cons | exact Take.head | apply Take.tail)); (case kO => refine LexP.Off.to ?_; (repeat' first | assumption | refine LexP.Off.cons ?_ (by assumption) (by (try dsimp only); (show @LT.lt Nat _ _ _); omega))))
    intro v9 led9 tl9 h8 tk9 hp9 hlt9 F8 N8
    obtain ⟨rfl, ty, tt9, rfl, hty, tl2, sv2, se2, hs2, rfl⟩ := hp9
    obtain rfl := str_of_list hty
    dsimp only [lexLed] at N8
    simp only [List.cons_append, List.nil_append] at N8
    k_with_none
    k_with "call ref cons nil" => refine stop_in ?_
    k_with "ite" => refine stop_in ?_
    k_steps
    refine stop_out ?_
    rw [show (mkS [] != Str.ofString "") = false from by decide +kernel, if_neg Bool.false_ne_true]
    k_steps
    refine stop_out ?_
    rw [count_nl, show cntN (mkS tx).cps.toList = cntN tx from rfl, hn, bne_self_eq_false, if_neg Bool.false_ne_true]
    k_steps
    refine stop_out ?_
    rw [if_neg Bool.false_ne_true]
    k_with_none
    k_with "call ref cons nil" => refine stop_in ?_
    k_steps
    refine stop_out ?_
    rename_i Dq wq h7 F7 N7 hIq hCq hLq lq
    rw [← hq, List.map_append, List.take_left' (by rw [List.length_map, hrz])] at hIq
    refine' tail (ln := ln + (cntN rem : Int)) (qe := qe) r f ⟨x, d', pb, fn, cc, x1, d1, sg, ce, pb1, q1, q2, q3, q4, tw, u1, u2, u3, u4, u5, v1, vw, ct, pm, oc, oC, vs, tq⟩ hr hf ok' ⟨tl2, sv2, se2, hs2, rfl⟩ d4 hir hif hIq ?q1 l3 hl1 ?q2 ?q3
    case q1 => omega
    case q2 => exact fr_mB F7 (by exact ⟨rfl, rfl, trivial⟩)
    case q3 =>
      refine news_of N7 ?_
      dsimp only [lexLed]
      simp only [List.cons_append, List.nil_append]
      (repeat' first | exact List.forall_mem_nil _ | refine mem_cons_all ?_ ?_ | exact sub_refl | refine sub_tail ?_ | k_mem)

set_option maxRecDepth 100000 in
set_option maxHeartbeats 8000000 in
theorem all9 : ∀ a0 a1 a2 a3 a4 a5 a6 a7 a8 a9 a10 a11 a12 a13 a14 a15 a16 a17 a18 a19 a20 a21 a22 a23 a24 a25 a26 a27 a28 a29 a30 a31 a32 a33 a34 a35 a36 a37 a38 a39 a40 a41 a42 a43 a44 a45 a46 a47 a48 a49 a50 a51 a52 a53 a54 a55 a56 a57 a58 a59 a60 a61 a62 a63 a64 a65 a66 a67 a68 a69 a70 a71 a72 a73 a74 a75 a76 a77, seg9.1 a0 a1 a2 a3 a4 a5 a6 a7 a8 a9 a10 a11 a12 a13 a14 a15 a16 a17 a18 a19 a20 a21 a22 a23 a24 a25 a26 a27 a28 a29 a30 a31 a32 a33 a34 a35 a36 a37 a38 a39 a40 a41 a42 a43 a44 a45 a46 a47 a48 a49 a50 a51 a52 a53 a54 a55 a56 a57 a58 a59 a60 a61 a62 a63 a64 a65 a66 a67 a68 a69 a70 a71 a72 a73 a74 a75 a76 a77 := fun a0 a1 a2 a3 a4 a5 a6 a7 a8 a9 a10 a11 a12 a13 a14 a15 a16 a17 a18 a19 a20 a21 a22 a23 a24 a25 a26 a27 a28 a29 a30 a31 a32 a33 a34 a35 a36 a37 a38 a39 a40 a41 a42 a43 a44 a45 a46 a47 a48 a49 a50 a51 a52 a53 a54 a55 a56 a57 a58 a59 a60 a61 a62 a63 a64 a65 a66 a67 a68 a69 a70 a71 a72 a73 a74 a75 a76 a77 => hen_all (G := G9) main9 (a0, a1, a2, a3, a4, a5, a6, a7, a8, a9, a10, a11, a12, a13, a14, a15, a16, a17, a18, a19, a20, a21, a22, a23, a24, a25, a26, a27, a28, a29, a30, a31, a32, a33, a34, a35, a36, a37, a38, a39, a40, a41, a42, a43, a44, a45, a46, a47, a48, a49, a50, a51, a52, a53, a54, a55, a56, a57, a58, a59, a60, a61, a62, a63, a64, a65, a66, a67, a68, a69, a70, a71, a72, a73, a74, a75, a76, a77)
end law_readA
theorem law2_read (w : World) (cn : Str) (fa : Addr) (cd : Value) (h₀ : Heap) (L : Nat) (loose : List Str) (mean : ExcName → Option Value) (mg mb : Str → Option Value) (oL : Obj) (dr : Drawn) (os : OsState) (Q E)
    (dL : oL.data = .cell none)
    (C : CodeHd h₀ 112 108) (B : Below callerA h₀ [] h₀) (X : (Mine.hd.heap_39 w.params).In h₀) (T : Top PySem.W.topProg loose mean mg mb h₀) (hT : 108 < L)
    (tail : Tail2b w cn L fa cd h₀ dr os Q E) : Tail2a w cn L fa cd h₀ oL dr os Q E := law_readA.seg9.2 ⟨law_readA.all9⟩ w cn fa cd h₀ L loose mean mg mb oL dr os Q E dL C B X T hT tail

end Mine
namespace Mine
theorem reset_sizes : True := by
  w_top off
  trivial
noncomputable def sizesGo : List Nat → List Nat → List Nat
  | acc, [] => acc
  | acc, a :: r => if a = 127 then acc else if a = 0 then (acc ++ List.replicate 4 (acc.getLastD 0)).take 4 else sizesGo (acc ++ [a]) r
noncomputable def szVal (p : Nat × Tok) : Value := .int (p.1 : Int) p.2
namespace sizes
set_option maxRecDepth 100000 in
set_option maxHeartbeats 4000000 in
noncomputable def seg9 : {p : PySem.World → PySem.Addr → Nat → Nat → Nat → PySem.Tok → PySem.Tok → PySem.Tok → Nat → (List PySem.Str) → (PySem.ExcName → Option PySem.Value) → (PySem.Str → Option PySem.Value) → (PySem.Str → Option PySem.Value) → (List (PySem.Addr × PySem.Obj)) → Nat → Nat → (Option (List PySem.Code)) → PySem.Str → PySem.Scope → PySem.Addr → PySem.Value → (List (PySem.Str × PySem.Addr)) → (List PySem.Env) → PySem.Heap → PySem.Addr → (PySem.Str → Option PySem.Value) → PySem.Shared → (PySem.Result → PySem.Shared → Prop) → PySem.Heap → PySem.Addr → PySem.Addr → PySem.Heap → Nat → Prop // Hid (∀ a0 a1 a2 a3 a4 a5 a6 a7 a8 a9 a10 a11 a12 a13 a14 a15 a16 a17 a18 a19 a20 a21 a22 a23 a24 a25 a26 a27 a28 a29 a30 a31 a32, p a0 a1 a2 a3 a4 a5 a6 a7 a8 a9 a10 a11 a12 a13 a14 a15 a16 a17 a18 a19 a20 a21 a22 a23 a24 a25 a26 a27 a28 a29 a30 a31 a32) → ∀ (w : World) (l : Addr) (x y z : Nat) (tx ty tz : Tok) (c : Nat) (hx : x ≠ 127), CtrR PySem.Challenge.rw_wn0028_02.prog w (Mine.hd.heap_39 w.params) PySem.W.topProg 2 30 134 [.ref l] [(l, listOf [.int (x : Int) tx, .int (y : Int) ty, .int (z : Int) tz].toArray c)] (fun v tl => ∃ f, ∃ ws : List Value, ∃ k, v = .ref f ∧ tl = [(f, listOf ws.toArray k)] ∧ (x = 0 → ∃ t, ws = [.str (Str.ofString "invalid grouping") t]) ∧ (x ≠ 0 → IntsAre ws ((sizesGo [] [x, y, z]).map fun (a : Nat) => (a : Int))))} := segOf (by
   intro ht9
   intro w l x y z tx ty tz c hx
   intro loose mean mg mb rest dp un gd cn cs aa ccd cl outer A₀ base h₀ L m s R hled B F₀ X N₀ T hk hd hu hret
   have hm := hled _ (.head _)
   replace N₀ := news_of (l' := (l, listOf [.int (x : Int) tx, .int (y : Int) ty, .int (z : Int) tz].toArray c) :: rest) N₀ (List.forall_mem_cons.mpr ⟨hm, fun _ h => h⟩)
   k_with_none
   k_with "exec For Name Name cons nil" => refine stop_in ?_
   k_with "pyIter ref" => refine stop_in ?_
   k_dflt cell_enter
   k_steps
   · have h0 : x = 0 := by
       have h9 : [(x : Int), y, z].getD (Int.toNat 0) 0 = 0 := by assumption
       have h8 : (x : Int) = 0 := h9
       omega
     refine hret _ [_] _ _ ⟨_, [_], 0, rfl, rfl, fun _ => ⟨_, rfl⟩, fun h => absurd h0 h⟩ (fun q hq p hp => ?_) (by k_asm) (news_of (by k_asm) (by (repeat' first | exact List.forall_mem_nil _ | refine mem_cons_all ?_ ?_ | exact sub_refl | refine sub_tail ?_ | k_mem)))
     rw [List.mem_singleton.mp hp]
     have l9 : AllLt _ rest := And.right (by assumption)
     exact allLt_lt l9 q hq
   have h0 : x ≠ 0 := by
     have h9 : [(x : Int), y, z].getD (Int.toNat 0) 0 ≠ 0 := by assumption
     have h8 : (x : Int) ≠ 0 := h9
     omega
   refine stop_out ?_
   refine wpAny_For ?_
   k_steps
   refine stop_out ?_
   rename_i z1 z2 z3 y4 y5 y6 y7 z8 z9 y10 z11 z12 z13 y14 z15 y16 y17
   clear A₀ base hled B F₀ hk hd hu hm N₀ z3 y4 y5 y6 y7 z8 z9 z11 z13
   revert hx X T hret qk ek y10 y14 y16 y17 h0
   exact ht9.out w l x y z tx ty tz c loose mean mg mb rest dp un gd cn cs aa ccd cl outer h₀ L m s R z1 z2 z12 z15 tk
)
noncomputable def G9 (d : PySem.World × PySem.Addr × Nat × Nat × Nat × PySem.Tok × PySem.Tok × PySem.Tok × Nat × (List PySem.Str) × (PySem.ExcName → Option PySem.Value) × (PySem.Str → Option PySem.Value) × (PySem.Str → Option PySem.Value) × (List (PySem.Addr × PySem.Obj)) × Nat × Nat × (Option (List PySem.Code)) × PySem.Str × PySem.Scope × PySem.Addr × PySem.Value × (List (PySem.Str × PySem.Addr)) × (List PySem.Env) × PySem.Heap × PySem.Addr × (PySem.Str → Option PySem.Value) × PySem.Shared × (PySem.Result → PySem.Shared → Prop) × PySem.Heap × PySem.Addr × PySem.Addr × PySem.Heap × Nat) : Prop := seg9.1 d.1 d.2.1 d.2.2.1 d.2.2.2.1 d.2.2.2.2.1 d.2.2.2.2.2.1 d.2.2.2.2.2.2.1 d.2.2.2.2.2.2.2.1 d.2.2.2.2.2.2.2.2.1 d.2.2.2.2.2.2.2.2.2.1 d.2.2.2.2.2.2.2.2.2.2.1 d.2.2.2.2.2.2.2.2.2.2.2.1 d.2.2.2.2.2.2.2.2.2.2.2.2.1 d.2.2.2.2.2.2.2.2.2.2.2.2.2.1 d.2.2.2.2.2.2.2.2.2.2.2.2.2.2.1 d.2.2.2.2.2.2.2.2.2.2.2.2.2.2.2.1 d.2.2.2.2.2.2.2.2.2.2.2.2.2.2.2.2.1 d.2.2.2.2.2.2.2.2.2.2.2.2.2.2.2.2.2.1 d.2.2.2.2.2.2.2.2.2.2.2.2.2.2.2.2.2.2.1 d.2.2.2.2.2.2.2.2.2.2.2.2.2.2.2.2.2.2.2.1 d.2.2.2.2.2.2.2.2.2.2.2.2.2.2.2.2.2.2.2.2.1 d.2.2.2.2.2.2.2.2.2.2.2.2.2.2.2.2.2.2.2.2.2.1 d.2.2.2.2.2.2.2.2.2.2.2.2.2.2.2.2.2.2.2.2.2.2.1 d.2.2.2.2.2.2.2.2.2.2.2.2.2.2.2.2.2.2.2.2.2.2.2.1 d.2.2.2.2.2.2.2.2.2.2.2.2.2.2.2.2.2.2.2.2.2.2.2.2.1 d.2.2.2.2.2.2.2.2.2.2.2.2.2.2.2.2.2.2.2.2.2.2.2.2.2.1 d.2.2.2.2.2.2.2.2.2.2.2.2.2.2.2.2.2.2.2.2.2.2.2.2.2.2.1 d.2.2.2.2.2.2.2.2.2.2.2.2.2.2.2.2.2.2.2.2.2.2.2.2.2.2.2.1 d.2.2.2.2.2.2.2.2.2.2.2.2.2.2.2.2.2.2.2.2.2.2.2.2.2.2.2.2.1 d.2.2.2.2.2.2.2.2.2.2.2.2.2.2.2.2.2.2.2.2.2.2.2.2.2.2.2.2.2.1 d.2.2.2.2.2.2.2.2.2.2.2.2.2.2.2.2.2.2.2.2.2.2.2.2.2.2.2.2.2.2.1 d.2.2.2.2.2.2.2.2.2.2.2.2.2.2.2.2.2.2.2.2.2.2.2.2.2.2.2.2.2.2.2.1 d.2.2.2.2.2.2.2.2.2.2.2.2.2.2.2.2.2.2.2.2.2.2.2.2.2.2.2.2.2.2.2.2
noncomputable def tup9z : PySem.World × PySem.Addr × Nat × Nat × Nat × PySem.Tok × PySem.Tok × PySem.Tok × Nat × (List PySem.Str) × (PySem.ExcName → Option PySem.Value) × (PySem.Str → Option PySem.Value) × (PySem.Str → Option PySem.Value) × (List (PySem.Addr × PySem.Obj)) × Nat × Nat × (Option (List PySem.Code)) × PySem.Str × PySem.Scope × PySem.Addr × PySem.Value × (List (PySem.Str × PySem.Addr)) × (List PySem.Env) × PySem.Heap × PySem.Addr × (PySem.Str → Option PySem.Value) × PySem.Shared × (PySem.Result → PySem.Shared → Prop) × PySem.Heap × PySem.Addr × PySem.Addr × PySem.Heap × Nat := hen (World9, (0 : Nat), (0 : Nat), (0 : Nat), (0 : Nat), (0 : Nat), (0 : Nat), (0 : Nat), (0 : Nat), [], (fun _ => none), (fun _ => none), (fun _ => none), [], (0 : Nat), (0 : Nat), none, (default : Str), (default : Scope), (0 : Nat), (default : Value), [], [], (default : Heap), (0 : Nat), (fun _ => none), ({} : Shared), (fun _ => (fun _ => True)), (default : Heap), (0 : Nat), (0 : Nat), (default : Heap), (0 : Nat)) G9
noncomputable def w : PySem.World := tup9z.1
noncomputable def l : PySem.Addr := tup9z.2.1
noncomputable def x : Nat := tup9z.2.2.1
noncomputable def y : Nat := tup9z.2.2.2.1
noncomputable def z : Nat := tup9z.2.2.2.2.1
noncomputable def tx : PySem.Tok := tup9z.2.2.2.2.2.1
noncomputable def ty : PySem.Tok := tup9z.2.2.2.2.2.2.1
noncomputable def tz : PySem.Tok := tup9z.2.2.2.2.2.2.2.1
noncomputable def c : Nat := tup9z.2.2.2.2.2.2.2.2.1
noncomputable def loose : List PySem.Str := tup9z.2.2.2.2.2.2.2.2.2.1
noncomputable def mean : PySem.ExcName → Option PySem.Value := tup9z.2.2.2.2.2.2.2.2.2.2.1
noncomputable def mg : PySem.Str → Option PySem.Value := tup9z.2.2.2.2.2.2.2.2.2.2.2.1
noncomputable def mb : PySem.Str → Option PySem.Value := tup9z.2.2.2.2.2.2.2.2.2.2.2.2.1
noncomputable def rest : List (PySem.Addr × PySem.Obj) := tup9z.2.2.2.2.2.2.2.2.2.2.2.2.2.1
noncomputable def dp : Nat := tup9z.2.2.2.2.2.2.2.2.2.2.2.2.2.2.1
noncomputable def un : Nat := tup9z.2.2.2.2.2.2.2.2.2.2.2.2.2.2.2.1
noncomputable def gd : Option (List PySem.Code) := tup9z.2.2.2.2.2.2.2.2.2.2.2.2.2.2.2.2.1
noncomputable def cn : PySem.Str := tup9z.2.2.2.2.2.2.2.2.2.2.2.2.2.2.2.2.2.1
noncomputable def cs : PySem.Scope := tup9z.2.2.2.2.2.2.2.2.2.2.2.2.2.2.2.2.2.2.1
noncomputable def aa : PySem.Addr := tup9z.2.2.2.2.2.2.2.2.2.2.2.2.2.2.2.2.2.2.2.1
noncomputable def ccd : PySem.Value := tup9z.2.2.2.2.2.2.2.2.2.2.2.2.2.2.2.2.2.2.2.2.1
noncomputable def cl : List (PySem.Str × PySem.Addr) := tup9z.2.2.2.2.2.2.2.2.2.2.2.2.2.2.2.2.2.2.2.2.2.1
noncomputable def outer : List PySem.Env := tup9z.2.2.2.2.2.2.2.2.2.2.2.2.2.2.2.2.2.2.2.2.2.2.1
noncomputable def h₀ : PySem.Heap := tup9z.2.2.2.2.2.2.2.2.2.2.2.2.2.2.2.2.2.2.2.2.2.2.2.1
noncomputable def L : PySem.Addr := tup9z.2.2.2.2.2.2.2.2.2.2.2.2.2.2.2.2.2.2.2.2.2.2.2.2.1
noncomputable def m : PySem.Str → Option PySem.Value := tup9z.2.2.2.2.2.2.2.2.2.2.2.2.2.2.2.2.2.2.2.2.2.2.2.2.2.1
noncomputable def s : PySem.Shared := tup9z.2.2.2.2.2.2.2.2.2.2.2.2.2.2.2.2.2.2.2.2.2.2.2.2.2.2.1
noncomputable def R : PySem.Result → PySem.Shared → Prop := tup9z.2.2.2.2.2.2.2.2.2.2.2.2.2.2.2.2.2.2.2.2.2.2.2.2.2.2.2.1
noncomputable def z1 : PySem.Heap := tup9z.2.2.2.2.2.2.2.2.2.2.2.2.2.2.2.2.2.2.2.2.2.2.2.2.2.2.2.2.1
noncomputable def z2 : PySem.Addr := tup9z.2.2.2.2.2.2.2.2.2.2.2.2.2.2.2.2.2.2.2.2.2.2.2.2.2.2.2.2.2.1
noncomputable def z12 : PySem.Addr := tup9z.2.2.2.2.2.2.2.2.2.2.2.2.2.2.2.2.2.2.2.2.2.2.2.2.2.2.2.2.2.2.1
noncomputable def z15 : PySem.Heap := tup9z.2.2.2.2.2.2.2.2.2.2.2.2.2.2.2.2.2.2.2.2.2.2.2.2.2.2.2.2.2.2.2.1
noncomputable def tk : Nat := tup9z.2.2.2.2.2.2.2.2.2.2.2.2.2.2.2.2.2.2.2.2.2.2.2.2.2.2.2.2.2.2.2.2
set_option maxRecDepth 100000 in
set_option maxHeartbeats 4000000 in
theorem main9 : seg9.1 w l x y z tx ty tz c loose mean mg mb rest dp un gd cn cs aa ccd cl outer h₀ L m s R z1 z2 z12 z15 tk := by
   delta seg9 segOf
   dsimp -zeta only
   intro hx X T hret qk ek y10 y14 y16 y17 h0
   refine for_listL (σ := List (Nat × Tok) × Nat) (env := envOf _ _ _ _ _) (l := l) (c := c) (by k_asm) (fun st => [(Str.ofString "sizes", .ref _)]) (fun st => listOf (st.1.map szVal).toArray st.2) (fun i st => st.1.map (·.1) = [x, y, z].take i ∧ ∀ a ∈ [x, y, z].take i, a ≠ 0 ∧ a ≠ 127) ([], 0) (by k_asm) (by k_mem) (by (repeat' first | exact List.forall_mem_nil _ | (first | exact raw_lt (by assumption) (by walk_at "le9") | exact allLt_lt' (by walk_at "and_r") (by walk_at "le9")) | refine lt_cons ?_ ?_ | (with_reducible assumption) | omega)) rfl ⟨rfl, trivial⟩ ⟨rfl, nofun⟩ ?_ ?_
   · intro i v st h tk m₁ R2 hv hok hne hR F N
     obtain ⟨ws, k⟩ := st
     obtain ⟨hok1, hok2⟩ := hok
     replace hok1 : ws.map (·.1) = [x, y, z].take i := hok1
     have hR' : ∀ p ∈ rest, p ∈ R2 := fun p hp => hR p (.tail _ hp)
     match i, hv, hok1, hok2 with
     | 0, hv, hok1, hok2 =>
       obtain rfl : v = .int (x : Int) tx := by simpa using hv.symm
       obtain rfl : ws = [] := by simpa using hok1
       dsimp only [mB] at *
       k_steps
       · exfalso; omega
       · exfalso; omega
       · refine ListEnd1.mk ([(x, tx)], k + 1) (by k_asm) (by k_asm) ⟨rfl, trivial⟩ (by (repeat' first | exact List.forall_mem_nil _ | refine mem_cons_all ?_ ?_ | exact sub_refl | refine sub_tail ?_ | k_mem)) ⟨rfl, ?_⟩
         intro a ha
         simp at ha
         omega
     | 1, hv, hok1, hok2 =>
       obtain rfl : v = .int (y : Int) ty := by simpa using hv.symm
       obtain ⟨t1, rfl⟩ : ∃ t1, ws = [(x, t1)] := by
         match ws, hok1 with
         | [(a, t1)], hok1 => exact ⟨t1, by simp at hok1; rw [hok1]⟩
       simp only [szVal, List.map_cons, List.map_nil] at N
       dsimp only [mB] at *
       k_steps
       · have h7 : y = 127 := by omega
         refine hret _ [_] _ _ ⟨_, [_], _, rfl, rfl, fun h => absurd h h0, fun _ => ?_⟩ (fun q hq p hp => ?_) (by k_asm) (news_of (by k_asm) (List.forall_mem_cons.mpr ⟨by k_mem, fun p hp => ?_⟩))
         · rw [show sizesGo [] [x, y, z] = [x] by simp [sizesGo, h0, hx, h7]]; exact .cons _ _ .nil
         · rw [List.mem_singleton.mp hp]; revert q; (repeat' first | exact List.forall_mem_nil _ | (first | exact raw_lt (by assumption) (by walk_at "le9") | exact allLt_lt' (by walk_at "and_r") (by walk_at "le9")) | refine lt_cons ?_ ?_ | (with_reducible assumption) | omega)
         · have h5 := hR' p hp
           (repeat' first | assumption | refine List.Mem.tail _ ?_)

       · have h7 : y = 0 := by omega
         refine hret _ [_] _ _ ⟨_, [_, _, _, _], _, rfl, rfl, fun h => absurd h h0, fun _ => ?_⟩ (fun q hq p hp => ?_) (by k_asm) (news_of (by k_asm) (List.forall_mem_cons.mpr ⟨by k_mem, fun p hp => ?_⟩))
         · rw [show sizesGo [] [x, y, z] = [x, x, x, x] by simp [sizesGo, h0, hx, h7, List.replicate_succ]]; exact .cons _ _ (.cons _ _ (.cons _ _ (.cons _ _ .nil)))
         · rw [List.mem_singleton.mp hp]; revert q; (repeat' first | exact List.forall_mem_nil _ | (first | exact raw_lt (by assumption) (by walk_at "le9") | exact allLt_lt' (by walk_at "and_r") (by walk_at "le9")) | refine lt_cons ?_ ?_ | (with_reducible assumption) | omega)
         · have h5 := hR' p hp
           (repeat' first | assumption | refine List.Mem.tail _ ?_)

       · refine ListEnd1.mk ([(x, t1), (y, ty)], k + 1) (by k_asm) (by k_asm) ⟨rfl, trivial⟩ (by (repeat' first | exact List.forall_mem_nil _ | refine mem_cons_all ?_ ?_ | exact sub_refl | refine sub_tail ?_ | k_mem)) ⟨rfl, ?_⟩
         intro a ha
         simp at ha
         omega
     | 2, hv, hok1, hok2 =>
       obtain rfl : v = .int (z : Int) tz := by simpa using hv.symm
       obtain ⟨t1, t2, rfl⟩ : ∃ t1 t2, ws = [(x, t1), (y, t2)] := by
         match ws, hok1 with
         | [(a, t1), (b, t2)], hok1 => exact ⟨t1, t2, by simp at hok1; rw [hok1.1, hok1.2]⟩
       have hy := hok2 y (by simp)
       simp only [szVal, List.map_cons, List.map_nil] at N
       dsimp only [mB] at *
       k_steps
       · have h7 : z = 127 := by omega
         refine hret _ [_] _ _ ⟨_, [_, _], _, rfl, rfl, fun h => absurd h h0, fun _ => ?_⟩ (fun q hq p hp => ?_) (by k_asm) (news_of (by k_asm) (List.forall_mem_cons.mpr ⟨by k_mem, fun p hp => ?_⟩))
         · rw [show sizesGo [] [x, y, z] = [x, y] by simp [sizesGo, h0, hx, hy, h7]]; exact .cons _ _ (.cons _ _ .nil)
         · rw [List.mem_singleton.mp hp]; revert q; (repeat' first | exact List.forall_mem_nil _ | (first | exact raw_lt (by assumption) (by walk_at "le9") | exact allLt_lt' (by walk_at "and_r") (by walk_at "le9")) | refine lt_cons ?_ ?_ | (with_reducible assumption) | omega)
         · have h5 := hR' p hp
           (repeat' first | assumption | refine List.Mem.tail _ ?_)

       · have h7 : z = 0 := by omega
         refine hret _ [_] _ _ ⟨_, [_, _, _, _], _, rfl, rfl, fun h => absurd h h0, fun _ => ?_⟩ (fun q hq p hp => ?_) (by k_asm) (news_of (by k_asm) (List.forall_mem_cons.mpr ⟨by k_mem, fun p hp => ?_⟩))
         · rw [show sizesGo [] [x, y, z] = [x, y, y, y] by simp [sizesGo, h0, hx, hy, h7, List.replicate_succ]]; exact .cons _ _ (.cons _ _ (.cons _ _ (.cons _ _ .nil)))
         · rw [List.mem_singleton.mp hp]; revert q; (repeat' first | exact List.forall_mem_nil _ | (first | exact raw_lt (by assumption) (by walk_at "le9") | exact allLt_lt' (by walk_at "and_r") (by walk_at "le9")) | refine lt_cons ?_ ?_ | (with_reducible assumption) | omega)
         · have h5 := hR' p hp
           (repeat' first | assumption | refine List.Mem.tail _ ?_)

       · refine ListEnd1.mk ([(x, t1), (y, t2), (z, tz)], k + 1) (by k_asm) (by k_asm) ⟨rfl, trivial⟩ (by (repeat' first | exact List.forall_mem_nil _ | refine mem_cons_all ?_ ?_ | exact sub_refl | refine sub_tail ?_ | k_mem)) ⟨rfl, ?_⟩
         intro a ha
         simp at ha
         omega
     | i + 3, hv, _, _ => simp at hv
   · intro h' tk m₁ st hok F N
     obtain ⟨ws, k⟩ := st
     obtain ⟨hok1, hok2⟩ := hok
     have hR' : ∀ p ∈ rest, p ∈ rest := fun _ h => h
     replace hok1 : ws.map (·.1) = [x, y, z] := hok1
     have hy := hok2 y (by simp)
     have hz := hok2 z (by simp)
     obtain ⟨t1, t2, t3, rfl⟩ : ∃ t1 t2 t3, ws = [(x, t1), (y, t2), (z, t3)] := by
       match ws, hok1 with
       | [(a, t1), (b, t2), (c, t3)], hok1 => exact ⟨t1, t2, t3, by simp at hok1; rw [hok1.1, hok1.2.1, hok1.2.2]⟩
     simp only [szVal, List.map_cons, List.map_nil] at N
     dsimp only [mB] at *
     k_steps
     · refine hret _ [_] _ _ ⟨_, [_, _, _], _, rfl, rfl, fun h => absurd h h0, fun _ => ?_⟩ (fun q hq p hp => ?_) (by k_asm) (news_of (by k_asm) (List.forall_mem_cons.mpr ⟨by k_mem, fun p hp => ?_⟩))
       · rw [show sizesGo [] [x, y, z] = [x, y, z] by simp [sizesGo, h0, hx, hy, hz]]; exact .cons _ _ (.cons _ _ (.cons _ _ .nil))
       · rw [List.mem_singleton.mp hp]; revert q; (repeat' first | exact List.forall_mem_nil _ | (first | exact raw_lt (by assumption) (by walk_at "le9") | exact allLt_lt' (by walk_at "and_r") (by walk_at "le9")) | refine lt_cons ?_ ?_ | (with_reducible assumption) | omega)
       · have h5 := hR' p hp
         (repeat' first | assumption | refine List.Mem.tail _ ?_)

set_option maxRecDepth 100000 in
set_option maxHeartbeats 4000000 in
theorem all9 : ∀ a0 a1 a2 a3 a4 a5 a6 a7 a8 a9 a10 a11 a12 a13 a14 a15 a16 a17 a18 a19 a20 a21 a22 a23 a24 a25 a26 a27 a28 a29 a30 a31 a32, seg9.1 a0 a1 a2 a3 a4 a5 a6 a7 a8 a9 a10 a11 a12 a13 a14 a15 a16 a17 a18 a19 a20 a21 a22 a23 a24 a25 a26 a27 a28 a29 a30 a31 a32 := fun a0 a1 a2 a3 a4 a5 a6 a7 a8 a9 a10 a11 a12 a13 a14 a15 a16 a17 a18 a19 a20 a21 a22 a23 a24 a25 a26 a27 a28 a29 a30 a31 a32 => hen_all (G := G9) main9 (a0, a1, a2, a3, a4, a5, a6, a7, a8, a9, a10, a11, a12, a13, a14, a15, a16, a17, a18, a19, a20, a21, a22, a23, a24, a25, a26, a27, a28, a29, a30, a31, a32)
end sizes
theorem sizes (w : World) (l : Addr) (x y z : Nat) (tx ty tz : Tok) (c : Nat) (hx : x ≠ 127) : CtrR PySem.Challenge.rw_wn0028_02.prog w (Mine.hd.heap_39 w.params) PySem.W.topProg 2 30 134 [.ref l] [(l, listOf [.int (x : Int) tx, .int (y : Int) ty, .int (z : Int) tz].toArray c)] (fun v tl => ∃ f, ∃ ws : List Value, ∃ k, v = .ref f ∧ tl = [(f, listOf ws.toArray k)] ∧ (x = 0 → ∃ t, ws = [.str (Str.ofString "invalid grouping") t]) ∧ (x ≠ 0 → IntsAre ws ((sizesGo [] [x, y, z]).map fun (a : Nat) => (a : Int)))) := sizes.seg9.2 ⟨sizes.all9⟩ w l x y z tx ty tz c hx

end Mine
namespace Mine
theorem reset_sizes127 : True := by
  w_top off
  trivial
set_option maxRecDepth 100000 in
set_option maxHeartbeats 4000000 in
theorem sizes127 (w : World) (l : Addr) (y z : Int) (tx ty tz : Tok) (c : Nat) :
   CtrR PySem.Challenge.rw_wn0028_02.prog w (Mine.hd.heap_39 w.params) PySem.W.topProg 2 30 134 [.ref l] [(l, listOf [.int 127 tx, .int y ty, .int z tz].toArray c)] (fun v tl => ∃ f, ∃ ws : List Value, ∃ k, v = .ref f ∧ tl = [(f, listOf ws.toArray k)] ∧ ws = []) := by
   intro loose mean mg mb rest dp un gd cn cs aa ccd cl outer A₀ base h₀ L m s R hled B F₀ X N₀ T hk hd hu hret
   have hm := hled _ (.head _)
   replace N₀ := news_of (l' := (l, listOf [.int 127 tx, .int y ty, .int z tz].toArray c) :: rest) N₀ (List.forall_mem_cons.mpr ⟨hm, fun _ h => h⟩)
   k_with_none
   k_with "exec For Name Name cons nil" => refine stop_in ?_
   k_with "pyIter ref" => refine stop_in ?_
   k_dflt cell_enter
   k_steps
   · exfalso
     have h9 : [(127 : Int), y, z].getD (Int.toNat 0) 0 = 0 := by assumption
     have h8 : (127 : Int) = 0 := h9
     omega
   refine stop_out ?_
   refine wpAny_For ?_
   k_steps
   refine stop_out ?_
   refine for_listL (σ := Unit) (env := envOf _ _ _ _ _) (l := l) (c := c) (by k_asm) (fun st => [(Str.ofString "sizes", .ref _)]) (fun st => listOf #[] 0) (fun i st => i = 0) () (by k_asm) (by k_mem) (by (repeat' first | exact List.forall_mem_nil _ | (first | exact raw_lt (by assumption) (by walk_at "le9") | exact allLt_lt' (by walk_at "and_r") (by walk_at "le9")) | refine lt_cons ?_ ?_ | (with_reducible assumption) | omega)) rfl ⟨rfl, trivial⟩ rfl ?_ ?_
   · intro i v st h tk m₁ R2 hv hok hne hR F N
     subst hok
     obtain rfl : v = .int 127 tx := by simpa using hv.symm
     have hR' : ∀ p ∈ rest, p ∈ R2 := fun p hp => hR p (.tail _ hp)
     dsimp only [mB] at *
     k_steps
     refine hret _ [_] _ _ ⟨_, [], _, rfl, rfl, rfl⟩ (fun q hq p hp => ?_) (by k_asm) (news_of (by k_asm) (List.forall_mem_cons.mpr ⟨by k_mem, fun p hp => .tail _ (hR' p hp)⟩))
     rw [List.mem_singleton.mp hp]
     refine (?h : ∀ p ∈ rest, @LT.lt Nat _ p.1 _) q hq
     (first | exact raw_lt (by assumption) (by walk_at "le9") | exact allLt_lt' (by walk_at "and_r") (by walk_at "le9"))
   · intro h' tk m₁ y hok F N
     exact absurd hok (by simp)

end Mine
namespace Mine
theorem reset_marked2 : True := by
  w_top off
  trivial
namespace markedA
set_option maxRecDepth 100000 in
set_option maxHeartbeats 4000000 in
noncomputable def seg9 : {p : PySem.World → PySem.Addr → PySem.Addr → Nat → Nat → (List PySem.Value) → (List PySem.Value) → (List Nat) → (List Nat) → (List PySem.Str) → (PySem.ExcName → Option PySem.Value) → (PySem.Str → Option PySem.Value) → (PySem.Str → Option PySem.Value) → (List (PySem.Addr × PySem.Obj)) → Nat → Nat → (Option (List PySem.Code)) → PySem.Str → PySem.Scope → PySem.Addr → PySem.Value → (List (PySem.Str × PySem.Addr)) → (List PySem.Env) → PySem.Around → PySem.Heap → PySem.Heap → PySem.Addr → (PySem.Str → Option PySem.Value) → PySem.Shared → (PySem.Result → PySem.Shared → Prop) → PySem.Addr → PySem.Heap → Nat → PySem.Heap → PySem.Heap → PySem.Heap → PySem.Addr → Prop // Hid (∀ a0 a1 a2 a3 a4 a5 a6 a7 a8 a9 a10 a11 a12 a13 a14 a15 a16 a17 a18 a19 a20 a21 a22 a23 a24 a25 a26 a27 a28 a29 a30 a31 a32 a33 a34 a35 a36, p a0 a1 a2 a3 a4 a5 a6 a7 a8 a9 a10 a11 a12 a13 a14 a15 a16 a17 a18 a19 a20 a21 a22 a23 a24 a25 a26 a27 a28 a29 a30 a31 a32 a33 a34 a35 a36) → ∀ (w : World) (l g : Addr) (c c' : Nat) (vs us : List Value) (szs figs : List Nat) (hi : IntsAre vs (szs.map fun (x : Nat) => (x : Int))) (hj : IntsAre us (figs.map fun (x : Nat) => (x : Int))) (hz : szs.length ≤ 4) (h1 : ∀ a ∈ szs, a ≤ 2) (h2 : ∀ a ∈ figs, a ≤ 15), CtrR PySem.Challenge.rw_wn0028_02.prog w (Mine.hd.heap_39 w.params) PySem.W.topProg 2 30 141 [.ref l, .ref g] [(l, listOf vs.toArray c), (g, listOf us.toArray c')] (fun v tl => tl = [] ∧ ∃ tk, v = .int (markF 0 szs figs : Int) tk)} := segOf (by
   intro ht9
   intro w l g c c' vs us szs figs hi hj hz h1 h2
   intro loose mean mg mb rest dp un gd cn cs aa ccd cl outer A₀ base h₀ L m s R hled B F₀ X N₀ T hk hd hu hret
   have hm1 := (N₀ _ (hled _ (.head _))).1
   have hm2 := (N₀ _ (hled _ (.tail _ (.head _)))).1
   have hl1 : s.heap.IsList l vs.toArray := ⟨_, hm1, rfl, _, rfl⟩
   have hl2 : s.heap.IsList g us.toArray := ⟨_, hm2, rfl, _, rfl⟩
   k_with_none
   k_with "call type:zip" => refine stop_in ?_
   k_with "exec For Tuple Call cons nil" => refine stop_in ?_
   k_dflt ((refine' code_open ?k1 ?k2 ?k3 ?k5 ?kA ?kF ?kK ?k6 ?k7 ?k8 ?k9 ?kB ?_ ?c2 ?c3 ?c4 ?c5; (case kA => exact rfl); (case kF => exact rfl); (case kK => first | exact rfl | assumption); (case k1 => k_asm); (case k2 => k_asm); (case k3 => k_asm); (case k5 => k_asm); (case k6 => k_is); (case k7 => k_is); (case k8 => ktr_room); (case k9 => first | exact BindsTo.of_eq rfl | exact binds_K (by k_in) rfl (by k_is) rfl rfl rfl); (case c5 => decide); (case kB => exact locs rfl); (case c2 => exact rfl); (case c3 => exact rfl); (case c4 => exact rfl); k_whole; intro L9z h9z F9z N9z B9z X9z T9z hsz9z; (try dsimp only)))
   k_steps
   refine stop_out ?_
   refine' For_pair3F ?zF rfl rfl rfl rfl ?_ (fun _ => rfl)
   case zF => k_asm
   k_steps
   refine stop_out ?_
   refine call_zip_lists (hh := rfl) hl1 hl2 (IntsAre.areOf hi) (IntsAre.areOf hj) (by k_asm) (by k_asm) ?_
   intro h9 e9 F9 N9 S9
   rename_i z1 z2 y3 y4
   clear hi hled B F₀ hk hd hu hm1 hm2 hl1 hl2 B9z X9z T9z hsz9z y3 y4 F9 N9
   revert hj hz h1 h2 X N₀ T hret S9
   exact ht9.out w l g c c' vs us szs figs loose mean mg mb rest dp un gd cn cs aa ccd cl outer A₀ base h₀ L m s R L9z h9z tk z1 z2 h9 e9
)
noncomputable def G9 (d : PySem.World × PySem.Addr × PySem.Addr × Nat × Nat × (List PySem.Value) × (List PySem.Value) × (List Nat) × (List Nat) × (List PySem.Str) × (PySem.ExcName → Option PySem.Value) × (PySem.Str → Option PySem.Value) × (PySem.Str → Option PySem.Value) × (List (PySem.Addr × PySem.Obj)) × Nat × Nat × (Option (List PySem.Code)) × PySem.Str × PySem.Scope × PySem.Addr × PySem.Value × (List (PySem.Str × PySem.Addr)) × (List PySem.Env) × PySem.Around × PySem.Heap × PySem.Heap × PySem.Addr × (PySem.Str → Option PySem.Value) × PySem.Shared × (PySem.Result → PySem.Shared → Prop) × PySem.Addr × PySem.Heap × Nat × PySem.Heap × PySem.Heap × PySem.Heap × PySem.Addr) : Prop := seg9.1 d.1 d.2.1 d.2.2.1 d.2.2.2.1 d.2.2.2.2.1 d.2.2.2.2.2.1 d.2.2.2.2.2.2.1 d.2.2.2.2.2.2.2.1 d.2.2.2.2.2.2.2.2.1 d.2.2.2.2.2.2.2.2.2.1 d.2.2.2.2.2.2.2.2.2.2.1 d.2.2.2.2.2.2.2.2.2.2.2.1 d.2.2.2.2.2.2.2.2.2.2.2.2.1 d.2.2.2.2.2.2.2.2.2.2.2.2.2.1 d.2.2.2.2.2.2.2.2.2.2.2.2.2.2.1 d.2.2.2.2.2.2.2.2.2.2.2.2.2.2.2.1 d.2.2.2.2.2.2.2.2.2.2.2.2.2.2.2.2.1 d.2.2.2.2.2.2.2.2.2.2.2.2.2.2.2.2.2.1 d.2.2.2.2.2.2.2.2.2.2.2.2.2.2.2.2.2.2.1 d.2.2.2.2.2.2.2.2.2.2.2.2.2.2.2.2.2.2.2.1 d.2.2.2.2.2.2.2.2.2.2.2.2.2.2.2.2.2.2.2.2.1 d.2.2.2.2.2.2.2.2.2.2.2.2.2.2.2.2.2.2.2.2.2.1 d.2.2.2.2.2.2.2.2.2.2.2.2.2.2.2.2.2.2.2.2.2.2.1 d.2.2.2.2.2.2.2.2.2.2.2.2.2.2.2.2.2.2.2.2.2.2.2.1 d.2.2.2.2.2.2.2.2.2.2.2.2.2.2.2.2.2.2.2.2.2.2.2.2.1 d.2.2.2.2.2.2.2.2.2.2.2.2.2.2.2.2.2.2.2.2.2.2.2.2.2.1 d.2.2.2.2.2.2.2.2.2.2.2.2.2.2.2.2.2.2.2.2.2.2.2.2.2.2.1 d.2.2.2.2.2.2.2.2.2.2.2.2.2.2.2.2.2.2.2.2.2.2.2.2.2.2.2.1 d.2.2.2.2.2.2.2.2.2.2.2.2.2.2.2.2.2.2.2.2.2.2.2.2.2.2.2.2.1 d.2.2.2.2.2.2.2.2.2.2.2.2.2.2.2.2.2.2.2.2.2.2.2.2.2.2.2.2.2.1 d.2.2.2.2.2.2.2.2.2.2.2.2.2.2.2.2.2.2.2.2.2.2.2.2.2.2.2.2.2.2.1 d.2.2.2.2.2.2.2.2.2.2.2.2.2.2.2.2.2.2.2.2.2.2.2.2.2.2.2.2.2.2.2.1 d.2.2.2.2.2.2.2.2.2.2.2.2.2.2.2.2.2.2.2.2.2.2.2.2.2.2.2.2.2.2.2.2.1 d.2.2.2.2.2.2.2.2.2.2.2.2.2.2.2.2.2.2.2.2.2.2.2.2.2.2.2.2.2.2.2.2.2.1 d.2.2.2.2.2.2.2.2.2.2.2.2.2.2.2.2.2.2.2.2.2.2.2.2.2.2.2.2.2.2.2.2.2.2.1 d.2.2.2.2.2.2.2.2.2.2.2.2.2.2.2.2.2.2.2.2.2.2.2.2.2.2.2.2.2.2.2.2.2.2.2.1 d.2.2.2.2.2.2.2.2.2.2.2.2.2.2.2.2.2.2.2.2.2.2.2.2.2.2.2.2.2.2.2.2.2.2.2.2
noncomputable def tup9z : PySem.World × PySem.Addr × PySem.Addr × Nat × Nat × (List PySem.Value) × (List PySem.Value) × (List Nat) × (List Nat) × (List PySem.Str) × (PySem.ExcName → Option PySem.Value) × (PySem.Str → Option PySem.Value) × (PySem.Str → Option PySem.Value) × (List (PySem.Addr × PySem.Obj)) × Nat × Nat × (Option (List PySem.Code)) × PySem.Str × PySem.Scope × PySem.Addr × PySem.Value × (List (PySem.Str × PySem.Addr)) × (List PySem.Env) × PySem.Around × PySem.Heap × PySem.Heap × PySem.Addr × (PySem.Str → Option PySem.Value) × PySem.Shared × (PySem.Result → PySem.Shared → Prop) × PySem.Addr × PySem.Heap × Nat × PySem.Heap × PySem.Heap × PySem.Heap × PySem.Addr := hen (World9, (0 : Nat), (0 : Nat), (0 : Nat), (0 : Nat), [], [], [], [], [], (fun _ => none), (fun _ => none), (fun _ => none), [], (0 : Nat), (0 : Nat), none, (default : Str), (default : Scope), (0 : Nat), (default : Value), [], [], ({} : Around), (default : Heap), (default : Heap), (0 : Nat), (fun _ => none), ({} : Shared), (fun _ => (fun _ => True)), (0 : Nat), (default : Heap), (0 : Nat), (default : Heap), (default : Heap), (default : Heap), (0 : Nat)) G9
noncomputable def w : PySem.World := tup9z.1
noncomputable def l : PySem.Addr := tup9z.2.1
noncomputable def g : PySem.Addr := tup9z.2.2.1
noncomputable def c : Nat := tup9z.2.2.2.1
noncomputable def c' : Nat := tup9z.2.2.2.2.1
noncomputable def vs : List PySem.Value := tup9z.2.2.2.2.2.1
noncomputable def us : List PySem.Value := tup9z.2.2.2.2.2.2.1
noncomputable def szs : List Nat := tup9z.2.2.2.2.2.2.2.1
noncomputable def figs : List Nat := tup9z.2.2.2.2.2.2.2.2.1
noncomputable def loose : List PySem.Str := tup9z.2.2.2.2.2.2.2.2.2.1
noncomputable def mean : PySem.ExcName → Option PySem.Value := tup9z.2.2.2.2.2.2.2.2.2.2.1
noncomputable def mg : PySem.Str → Option PySem.Value := tup9z.2.2.2.2.2.2.2.2.2.2.2.1
noncomputable def mb : PySem.Str → Option PySem.Value := tup9z.2.2.2.2.2.2.2.2.2.2.2.2.1
noncomputable def rest : List (PySem.Addr × PySem.Obj) := tup9z.2.2.2.2.2.2.2.2.2.2.2.2.2.1
noncomputable def dp : Nat := tup9z.2.2.2.2.2.2.2.2.2.2.2.2.2.2.1
noncomputable def un : Nat := tup9z.2.2.2.2.2.2.2.2.2.2.2.2.2.2.2.1
noncomputable def gd : Option (List PySem.Code) := tup9z.2.2.2.2.2.2.2.2.2.2.2.2.2.2.2.2.1
noncomputable def cn : PySem.Str := tup9z.2.2.2.2.2.2.2.2.2.2.2.2.2.2.2.2.2.1
noncomputable def cs : PySem.Scope := tup9z.2.2.2.2.2.2.2.2.2.2.2.2.2.2.2.2.2.2.1
noncomputable def aa : PySem.Addr := tup9z.2.2.2.2.2.2.2.2.2.2.2.2.2.2.2.2.2.2.2.1
noncomputable def ccd : PySem.Value := tup9z.2.2.2.2.2.2.2.2.2.2.2.2.2.2.2.2.2.2.2.2.1
noncomputable def cl : List (PySem.Str × PySem.Addr) := tup9z.2.2.2.2.2.2.2.2.2.2.2.2.2.2.2.2.2.2.2.2.2.1
noncomputable def outer : List PySem.Env := tup9z.2.2.2.2.2.2.2.2.2.2.2.2.2.2.2.2.2.2.2.2.2.2.1
noncomputable def A₀ : PySem.Around := tup9z.2.2.2.2.2.2.2.2.2.2.2.2.2.2.2.2.2.2.2.2.2.2.2.1
noncomputable def base : PySem.Heap := tup9z.2.2.2.2.2.2.2.2.2.2.2.2.2.2.2.2.2.2.2.2.2.2.2.2.1
noncomputable def h₀ : PySem.Heap := tup9z.2.2.2.2.2.2.2.2.2.2.2.2.2.2.2.2.2.2.2.2.2.2.2.2.2.1
noncomputable def L : PySem.Addr := tup9z.2.2.2.2.2.2.2.2.2.2.2.2.2.2.2.2.2.2.2.2.2.2.2.2.2.2.1
noncomputable def m : PySem.Str → Option PySem.Value := tup9z.2.2.2.2.2.2.2.2.2.2.2.2.2.2.2.2.2.2.2.2.2.2.2.2.2.2.2.1
noncomputable def s : PySem.Shared := tup9z.2.2.2.2.2.2.2.2.2.2.2.2.2.2.2.2.2.2.2.2.2.2.2.2.2.2.2.2.1
noncomputable def R : PySem.Result → PySem.Shared → Prop := tup9z.2.2.2.2.2.2.2.2.2.2.2.2.2.2.2.2.2.2.2.2.2.2.2.2.2.2.2.2.2.1
noncomputable def L9z : PySem.Addr := tup9z.2.2.2.2.2.2.2.2.2.2.2.2.2.2.2.2.2.2.2.2.2.2.2.2.2.2.2.2.2.2.1
noncomputable def h9z : PySem.Heap := tup9z.2.2.2.2.2.2.2.2.2.2.2.2.2.2.2.2.2.2.2.2.2.2.2.2.2.2.2.2.2.2.2.1
noncomputable def tk : Nat := tup9z.2.2.2.2.2.2.2.2.2.2.2.2.2.2.2.2.2.2.2.2.2.2.2.2.2.2.2.2.2.2.2.2.1
noncomputable def z1 : PySem.Heap := tup9z.2.2.2.2.2.2.2.2.2.2.2.2.2.2.2.2.2.2.2.2.2.2.2.2.2.2.2.2.2.2.2.2.2.1
noncomputable def z2 : PySem.Heap := tup9z.2.2.2.2.2.2.2.2.2.2.2.2.2.2.2.2.2.2.2.2.2.2.2.2.2.2.2.2.2.2.2.2.2.2.1
noncomputable def h9 : PySem.Heap := tup9z.2.2.2.2.2.2.2.2.2.2.2.2.2.2.2.2.2.2.2.2.2.2.2.2.2.2.2.2.2.2.2.2.2.2.2.1
noncomputable def e9 : PySem.Addr := tup9z.2.2.2.2.2.2.2.2.2.2.2.2.2.2.2.2.2.2.2.2.2.2.2.2.2.2.2.2.2.2.2.2.2.2.2.2
set_option maxRecDepth 100000 in
set_option maxHeartbeats 4000000 in
theorem main9 : seg9.1 w l g c c' vs us szs figs loose mean mg mb rest dp un gd cn cs aa ccd cl outer A₀ base h₀ L m s R L9z h9z tk z1 z2 h9 e9 := by
   delta seg9 segOf
   dsimp -zeta only
   intro hj hz h1 h2 X N₀ T hret S9
   refine pair2_st (σ := Int × Tok × Int × Tok) (env := envOf _ _ _ _ _) S9 rfl (fun y => [(Str.ofString "mark", .int y.1 y.2.1), (Str.ofString "number", .int y.2.2.1 y.2.2.2)]) (fun i y => ∃ mk nb : Nat, y.1 = (mk : Int) ∧ y.2.2.1 = (nb : Int) ∧ mk ≤ 2 * i ∧ nb + markF mk (szs.drop i) (figs.drop i) = markF 0 szs figs) (0, _, 0, _) ⟨rfl, rfl, trivial⟩ ⟨0, 0, rfl, rfl, Nat.le_refl _, Nat.zero_add _⟩ ?_ ?_
   · intro i a b va vb y h tk m₁ own ha hb ka kb hok F N
     obtain ⟨mkz, tm, nbz, tn⟩ := y
     obtain ⟨mk, nb, e1, e2, hk1, hk2⟩ := hok
     dsimp only at e1 e2
     subst e1 e2
     obtain ⟨ta, rfl⟩ := ItemKind.int_is ka
     obtain ⟨tb, rfl⟩ := ItemKind.int_is kb
     obtain ⟨a0, ha0, rfl⟩ : ∃ a0, szs[i]? = some a0 ∧ (a0 : Int) = a := by simpa using ha
     obtain ⟨b0, hb0, rfl⟩ : ∃ b0, figs[i]? = some b0 ∧ (b0 : Int) = b := by simpa using hb
     have hi4 : i < 4 := by have := (List.getElem?_eq_some_iff.mp ha0).1; omega
     have h3 := h1 a0 (List.mem_of_getElem? ha0)
     have h4 := h2 b0 (List.mem_of_getElem? hb0)
     rw [drop_cons ha0, drop_cons hb0, markF] at hk2
     have hp9 : ((16 : Int) ^ ((mk : Int) + (a0 : Int)).toNat) = ((16 ^ (mk + a0) : Nat) : Int) := by
       rw [show ((mk : Int) + (a0 : Int)).toNat = mk + a0 by omega]; simp
     dsimp only [mB] at *
     k_steps
     show PairEnd _ _ _ _ _ _ _ _ _ _
     refine PairEnd.mk ((mk : Int) + (a0 : Int), _, (nb : Int) + (b0 : Int) * (16 : Int) ^ ((mk : Int) + (a0 : Int)).toNat, _) (by k_asm) (by k_asm) ⟨rfl, rfl, trivial⟩ (by rw [List.nil_append, List.append_nil]; exact fun p hp => hp) rfl ⟨mk + a0, nb + b0 * 16 ^ (mk + a0), by simp, ?_, by omega, ?_⟩
     · show (nb : Int) + (b0 : Int) * (16 : Int) ^ ((mk : Int) + (a0 : Int)).toNat = _
       rw [hp9]; simp
     · rw [← hk2]; omega
   · intro h' tk m₁ y hok F N
     obtain ⟨mkz, tm, nbz, tn⟩ := y
     obtain ⟨mk, nb, e1, e2, hk1, hk2⟩ := hok
     dsimp only at e1 e2
     subst e1 e2
     dsimp only [mB] at *
     have he9 : nb = markF 0 szs figs := by
       rw [← hk2]
       have : szs.drop ((szs.map fun (x : Nat) => (x : Int)).zip (figs.map fun (x : Nat) => (x : Int))).length = [] ∨ figs.drop ((szs.map fun (x : Nat) => (x : Int)).zip (figs.map fun (x : Nat) => (x : Int))).length = [] := by
         simp only [List.length_zip, List.length_map, List.drop_eq_nil_iff]; omega
       rcases this with e | e
       · rw [e]; simp [markF]
       · rw [e]; cases szs.drop ((szs.map fun (x : Nat) => (x : Int)).zip (figs.map fun (x : Nat) => (x : Int))).length <;> simp [markF]
     k_steps
     rw [he9] at *
     exact hret _ [] _ _ ⟨rfl, _, rfl⟩ (fun _ _ _ h => nomatch h) (by k_asm) (N₀.grown (Fr.keep (by k_asm)))

set_option maxRecDepth 100000 in
set_option maxHeartbeats 4000000 in
theorem all9 : ∀ a0 a1 a2 a3 a4 a5 a6 a7 a8 a9 a10 a11 a12 a13 a14 a15 a16 a17 a18 a19 a20 a21 a22 a23 a24 a25 a26 a27 a28 a29 a30 a31 a32 a33 a34 a35 a36, seg9.1 a0 a1 a2 a3 a4 a5 a6 a7 a8 a9 a10 a11 a12 a13 a14 a15 a16 a17 a18 a19 a20 a21 a22 a23 a24 a25 a26 a27 a28 a29 a30 a31 a32 a33 a34 a35 a36 := fun a0 a1 a2 a3 a4 a5 a6 a7 a8 a9 a10 a11 a12 a13 a14 a15 a16 a17 a18 a19 a20 a21 a22 a23 a24 a25 a26 a27 a28 a29 a30 a31 a32 a33 a34 a35 a36 => hen_all (G := G9) main9 (a0, a1, a2, a3, a4, a5, a6, a7, a8, a9, a10, a11, a12, a13, a14, a15, a16, a17, a18, a19, a20, a21, a22, a23, a24, a25, a26, a27, a28, a29, a30, a31, a32, a33, a34, a35, a36)
end markedA
theorem marked2 (w : World) (l g : Addr) (c c' : Nat) (vs us : List Value) (szs figs : List Nat) (hi : IntsAre vs (szs.map fun (x : Nat) => (x : Int))) (hj : IntsAre us (figs.map fun (x : Nat) => (x : Int))) (hz : szs.length ≤ 4) (h1 : ∀ a ∈ szs, a ≤ 2) (h2 : ∀ a ∈ figs, a ≤ 15) : CtrR PySem.Challenge.rw_wn0028_02.prog w (Mine.hd.heap_39 w.params) PySem.W.topProg 2 30 141 [.ref l, .ref g] [(l, listOf vs.toArray c), (g, listOf us.toArray c')] (fun v tl => tl = [] ∧ ∃ tk, v = .int (markF 0 szs figs : Int) tk) := markedA.seg9.2 ⟨markedA.all9⟩ w l g c c' vs us szs figs hi hj hz h1 h2

end Mine
namespace Mine
theorem reset_law2c : True := by
  w_top off
  trivial
/-- a disequality that omega does not see -/
noncomputable def NeA (a b : Nat) : Prop := a ≠ b
theorem neA_l {a b : Nat} (h : NeA a b) : a ≠ b := h
theorem neA_r {a b : Nat} (h : NeA a b) : b ≠ a := Ne.symm h
local macro_rules | `(tactic| k_ne) => `(tactic| (refine neN ?_; (try dsimp only); with_reducible first | exact neA_l (by assumption) | exact neA_r (by assumption)))
/-- what stands behind the sizes -/
noncomputable abbrev Tail2c (w : World) (cn : Str) (L : Nat) (fa : Addr) (cd : Value) (h₀ : Heap) (dr : Drawn) (os : OsState) (Q : Flow → Shared → Prop) (E : Value → Shared → Prop) : Prop :=
  ∀ (szs : List Nat) (f1 f2 f3 : Nat) (P : LexP) {ls lf : Nat} {ks kf qe : Nat} {ln : Int} {wz wf : List Value} {led : List (Addr × Obj)} {ps : Array Value} {oL : Obj} {g' : Array GenState} {h' : Heap} {tk' : Nat} {m' : Str → Option Value},
    szs ∈ shapes2 → f1 ∈ figs1 → f2 ∈ figs1 → f3 ∈ figs1 → AllBare g' → P.Ok → LexSt w P ln [] [] qe led → oL.data = .cell (some (.ref P.x)) →
    IntsAre wz (szs.map fun (x : Nat) => (x : Int)) → IntsAre wf ([f1, f2, f3].map fun (x : Nat) => (x : Int)) →
    L + 1 < lf → lf < P.ce → P.pb < ls →
    Fr h₀ L h' (mB [(Str.ofString "sizes", .ref ls), (Str.ofString "figures", .ref lf)] m') → News h₀ L h' (led ++ [(ls, listOf wz.toArray ks), (lf, listOf wf.toArray kf), (L + 1, oL), (108, tabObj ps)]) →
    wpAny (model PySem.Challenge.rw_wn0028_02.prog w) (lawTop2 cn L fa cd) (call (.ref 141) [.ref ls, .ref lf]) (fun v s₁ => wpAny (model PySem.Challenge.rw_wn0028_02.prog w) (lawTop2 cn L fa cd) (storeName (lawEnv2 cn L fa cd) (Str.ofString "number") v) (fun _ s' => wpAny (model PySem.Challenge.rw_wn0028_02.prog w) (lawTop2 cn L fa cd) (execs (lawBs.1.drop 12) (lawEnv2 cn L fa cd)) Q E s') E s₁) E ⟨h', g', dr, tk', os⟩
theorem ncast {x : Nat} (n : Nat) (h : x ≠ n) : (x : Int) ≠ (n : Int) := fun e => h (Int.ofNat.inj e)
theorem told_ints {x y z : Nat} {ws : List Value} (hP : ToldIs (x : Int) y z ws) (h0 : x ≠ 0) (h1 : x ≠ 127) : IntsAre ws ((sizesGo [] [x, y, z]).map fun (a : Nat) => (a : Int)) := by
  obtain ⟨_, _, h⟩ := hP
  obtain ⟨p1, p2, p3⟩ := h (ncast 127 h1) (ncast 0 h0)
  rw [sizesGo, if_neg h1, if_neg h0, sizesGo]
  by_cases hy : y = 127
  · rw [if_pos hy]; exact p1 (congrArg Int.ofNat hy)
  · by_cases hy0 : y = 0
    · rw [if_neg hy, if_pos hy0]; exact p2 (congrArg Int.ofNat hy0)
    · obtain ⟨q1, q2, q3⟩ := p3 (ncast 127 hy) (ncast 0 hy0)
      rw [if_neg hy, if_neg hy0, sizesGo]
      by_cases hz : z = 127
      · rw [if_pos hz]; exact q1 (congrArg Int.ofNat hz)
      · by_cases hz0 : z = 0
        · rw [if_neg hz, if_pos hz0]; exact q2 (congrArg Int.ofNat hz0)
        · rw [if_neg hz, if_neg hz0]; exact q3 (ncast 127 hz) (ncast 0 hz0)
theorem shape21 : ∀ x ∈ [1, 2], ∀ y ∈ [0, 1, 2, 127], ∀ z ∈ [0, 1, 2, 127], (sizesGo [] [x, y, z]).take 3 ∈ shapes2 := by decide +kernel
theorem len42 : ∀ x ∈ [1, 2], ∀ y ∈ [0, 1, 2, 127], ∀ z ∈ [0, 1, 2, 127], (sizesGo [] [x, y, z]).length ≤ 4 := by decide +kernel
namespace law_told2
set_option maxRecDepth 100000 in
set_option maxHeartbeats 8000000 in
noncomputable def seg9 : {p : PySem.World → PySem.Str → PySem.Addr → PySem.Value → PySem.Heap → Nat → (List PySem.Str) → (PySem.ExcName → Option PySem.Value) → (PySem.Str → Option PySem.Value) → (PySem.Str → Option PySem.Value) → PySem.Drawn → PySem.OsState → (PySem.Flow → PySem.Shared → Prop) → (PySem.Value → PySem.Shared → Prop) → Nat → Nat → Nat → Nat → Nat → Nat → Nat → Int → (List PySem.Value) → (Array PySem.Value) → PySem.Obj → PySem.Heap → Nat → (PySem.Str → Option PySem.Value) → Nat → Nat → Nat → Nat → Nat → PySem.Tok → (List PySem.Value) → Nat → Nat → Nat → Nat → Nat → Nat → Nat → Nat → Nat → Nat → Nat → PySem.Tok → PySem.Tok → PySem.Tok → PySem.Tok → PySem.Tok → PySem.Tok → PySem.Tok → PySem.Tok → PySem.Tok → PySem.Tok → PySem.Tok → PySem.Tok → PySem.Value → PySem.Value → PySem.Obj → PySem.Obj → (Array PySem.Value) → PySem.Tok → PySem.Tok → PySem.Tok → PySem.Tok → PySem.Tok → PySem.Tok → PySem.Tok → Nat → Nat → PySem.Heap → (Array PySem.GenState) → Nat → Prop // Hid (∀ a0 a1 a2 a3 a4 a5 a6 a7 a8 a9 a10 a11 a12 a13 a14 a15 a16 a17 a18 a19 a20 a21 a22 a23 a24 a25 a26 a27 a28 a29 a30 a31 a32 a33 a34 a35 a36 a37 a38 a39 a40 a41 a42 a43 a44 a45 a46 a47 a48 a49 a50 a51 a52 a53 a54 a55 a56 a57 a58 a59 a60 a61 a62 a63 a64 a65 a66 a67 a68 a69 a70 a71 a72 a73 a74, p a0 a1 a2 a3 a4 a5 a6 a7 a8 a9 a10 a11 a12 a13 a14 a15 a16 a17 a18 a19 a20 a21 a22 a23 a24 a25 a26 a27 a28 a29 a30 a31 a32 a33 a34 a35 a36 a37 a38 a39 a40 a41 a42 a43 a44 a45 a46 a47 a48 a49 a50 a51 a52 a53 a54 a55 a56 a57 a58 a59 a60 a61 a62 a63 a64 a65 a66 a67 a68 a69 a70 a71 a72 a73 a74) → ∀ (w : World) (cn : Str) (fa : Addr) (cd : Value) (h₀ : Heap) (L : Nat) (loose : List Str) (mean : ExcName → Option Value) (mg mb : Str → Option Value) (dr : Drawn) (os : OsState) (Q E) (C : CodeHd h₀ 112 108) (B : Below callerA h₀ [] h₀) (X : (Mine.hd.heap_39 w.params).In h₀) (T : Top PySem.W.topProg loose mean mg mb h₀) (hT : 108 < L) (tail : Tail2c w cn L fa cd h₀ dr os Q E), Tail2b w cn L fa cd h₀ dr os Q E} := segOf (by
  intro ht9
  intro w cn fa cd h₀ L loose mean mg mb dr os Q E C B X T hT tail
  intro r f P lr lf lq kr kf kq qe ln wr wf wq led ps oL h' tk' m' hr hf ok st dL hir hif hiq l1 l2 l3 F N
  obtain ⟨x, y, z, rfl, hx', hy', hz'⟩ := hr
  obtain ⟨f1, f2, f3, rfl, hf1, hf2, hf3⟩ := hf
  obtain ⟨tl, sv, se, hs, rfl⟩ := st
  have ok' := ok
  obtain ⟨px, pd, pb, fn, cc, x1, d1, sg, ce, pb1, q1, q2, q3, q4, tw, v1, v2, v3, v4, v5, v6, vw, ct, pm, oc, oC, vs, tq⟩ := P
  obtain ⟨⟨o1, o2, o3, o4, o5, o6, o7, o8⟩, hcode, hname, hcell⟩ := ok
  dsimp only [lexLed] at *
  simp only [List.cons_append, List.nil_append] at N
  dsimp only [mB] at F
  dsimp only [lawEnv2, lawTop2, lawBs, lawSs, List.drop]
  cases hiq with | cons _ t1 hiq =>
  cases hiq with | cons _ t2 hiq =>
  cases hiq with | cons _ t3 hiq =>
  cases hiq
  cases hir with | cons _ u1 hir =>
  cases hir with | cons _ u2 hir =>
  cases hir with | cons _ u3 hir =>
  cases hir
  have hx : x ≤ 127 := by simp only [ruls, List.mem_cons, List.not_mem_nil, or_false] at hx'; omega
  have hy : y ≤ 127 := by simp only [ruls, List.mem_cons, List.not_mem_nil, or_false] at hy'; omega
  have hz : z ≤ 127 := by simp only [ruls, List.mem_cons, List.not_mem_nil, or_false] at hz'; omega
  refine told w cn lawSs.1 rfl L fa cd _ _ loose mean mg mb _ h₀ _ ⟨h', #[], dr, _, os⟩ _ _ lq (x : Int) (y : Int) (z : Int) t1 t2 t3 kq (by omega) (by omega) (by omega) ?m F X N T rfl ?_
  case m => exact .head _
  intro at' wt' kt' h6 g6 tk6 hb6 hP6 hne6 F6 N6
  obtain ⟨wl, rfl⟩ : ∃ wl : List Value, wt' = wl.toArray := ⟨wt'.toList, by simp⟩
  simp only [List.toList_toArray] at hP6
  have n1 : NeA lq at' := hne6 _ (.head _)
  have n2 : NeA pb at' := hne6 _ (.tail _ (.head _))
  have n3 : NeA px at' := hne6 _ (.tail _ (.tail _ (.head _)))
  have n4 : NeA pd at' := hne6 _ (.tail _ (.tail _ (.tail _ (.head _))))
  have n5 : NeA fn at' := hne6 _ (.tail _ (.tail _ (.tail _ (.tail _ (.head _)))))
  have n6 : NeA cc at' := hne6 _ (.tail _ (.tail _ (.tail _ (.tail _ (.tail _ (.head _))))))
  have n7 : NeA x1 at' := hne6 _ (.tail _ (.tail _ (.tail _ (.tail _ (.tail _ (.tail _ (.head _)))))))
  have n8 : NeA d1 at' := hne6 _ (.tail _ (.tail _ (.tail _ (.tail _ (.tail _ (.tail _ (.tail _ (.head _))))))))
  have n9 : NeA sg at' := hne6 _ (.tail _ (.tail _ (.tail _ (.tail _ (.tail _ (.tail _ (.tail _ (.tail _ (.head _)))))))))
  have n10 : NeA ce at' := hne6 _ (.tail _ (.tail _ (.tail _ (.tail _ (.tail _ (.tail _ (.tail _ (.tail _ (.tail _ (.head _))))))))))
  have n11 : NeA lf at' := hne6 _ (.tail _ (.tail _ (.tail _ (.tail _ (.tail _ (.tail _ (.tail _ (.tail _ (.tail _ (.tail _ (.head _)))))))))))
  have n12 : NeA lr at' := hne6 _ (.tail _ (.tail _ (.tail _ (.tail _ (.tail _ (.tail _ (.tail _ (.tail _ (.tail _ (.tail _ (.tail _ (.head _))))))))))))
  have n13 : NeA (L + 1) at' := hne6 _ (.tail _ (.tail _ (.tail _ (.tail _ (.tail _ (.tail _ (.tail _ (.tail _ (.tail _ (.tail _ (.tail _ (.tail _ (.head _)))))))))))))
  have n14 : NeA 108 at' := hne6 _ (.tail _ (.tail _ (.tail _ (.tail _ (.tail _ (.tail _ (.tail _ (.tail _ (.tail _ (.tail _ (.tail _ (.tail _ (.tail _ (.head _))))))))))))))
  clear hne6 N F
  have lfr : L + 1 < lr ∧ lr < lf ∧ lf < ce := ⟨l1, l2, l3⟩
  clear C hT hcode hname hcell o1 o2 o3 o4 o5 o6 o7 o8 hy hz n1 n2 n3 n4 n5 n6 n7 n8 n9 n10 n11 n12 n13 n14 lfr
  revert B X T tail l1 l2 x hx' hy' hz' hif hf1 hf2 hf3 hs dL l3 ok' hx hb6 F6 wl hP6 N6
  exact ht9.out w cn fa cd h₀ L loose mean mg mb dr os Q E lr lf lq kr kf kq qe ln wf ps oL h' tk' m' y z f1 f2 f3 tl sv se px pd pb fn cc x1 d1 sg ce pb1 q1 q2 q3 q4 tw v1 v2 v3 v4 v5 v6 vw ct pm oc oC vs tq t1 t2 t3 u1 u2 u3 at' kt' h6 g6 tk6
)
noncomputable def G9 (d : PySem.World × PySem.Str × PySem.Addr × PySem.Value × PySem.Heap × Nat × (List PySem.Str) × (PySem.ExcName → Option PySem.Value) × (PySem.Str → Option PySem.Value) × (PySem.Str → Option PySem.Value) × PySem.Drawn × PySem.OsState × (PySem.Flow → PySem.Shared → Prop) × (PySem.Value → PySem.Shared → Prop) × Nat × Nat × Nat × Nat × Nat × Nat × Nat × Int × (List PySem.Value) × (Array PySem.Value) × PySem.Obj × PySem.Heap × Nat × (PySem.Str → Option PySem.Value) × Nat × Nat × Nat × Nat × Nat × PySem.Tok × (List PySem.Value) × Nat × Nat × Nat × Nat × Nat × Nat × Nat × Nat × Nat × Nat × Nat × PySem.Tok × PySem.Tok × PySem.Tok × PySem.Tok × PySem.Tok × PySem.Tok × PySem.Tok × PySem.Tok × PySem.Tok × PySem.Tok × PySem.Tok × PySem.Tok × PySem.Value × PySem.Value × PySem.Obj × PySem.Obj × (Array PySem.Value) × PySem.Tok × PySem.Tok × PySem.Tok × PySem.Tok × PySem.Tok × PySem.Tok × PySem.Tok × Nat × Nat × PySem.Heap × (Array PySem.GenState) × Nat) : Prop := seg9.1 d.1 d.2.1 d.2.2.1 d.2.2.2.1 d.2.2.2.2.1 d.2.2.2.2.2.1 d.2.2.2.2.2.2.1 d.2.2.2.2.2.2.2.1 d.2.2.2.2.2.2.2.2.1 d.2.2.2.2.2.2.2.2.2.1 d.2.2.2.2.2.2.2.2.2.2.1 d.2.2.2.2.2.2.2.2.2.2.2.1 d.2.2.2.2.2.2.2.2.2.2.2.2.1 d.2.2.2.2.2.2.2.2.2.2.2.2.2.1 d.2.2.2.2.2.2.2.2.2.2.2.2.2.2.1 d.2.2.2.2.2.2.2.2.2.2.2.2.2.2.2.1 d.2.2.2.2.2.2.2.2.2.2.2.2.2.2.2.2.1 d.2.2.2.2.2.2.2.2.2.2.2.2.2.2.2.2.2.1 d.2.2.2.2.2.2.2.2.2.2.2.2.2.2.2.2.2.2.1 d.2.2.2.2.2.2.2.2.2.2.2.2.2.2.2.2.2.2.2.1 d.2.2.2.2.2.2.2.2.2.2.2.2.2.2.2.2.2.2.2.2.1 d.2.2.2.2.2.2.2.2.2.2.2.2.2.2.2.2.2.2.2.2.2.1 d.2.2.2.2.2.2.2.2.2.2.2.2.2.2.2.2.2.2.2.2.2.2.1 d.2.2.2.2.2.2.2.2.2.2.2.2.2.2.2.2.2.2.2.2.2.2.2.1 d.2.2.2.2.2.2.2.2.2.2.2.2.2.2.2.2.2.2.2.2.2.2.2.2.1 d.2.2.2.2.2.2.2.2.2.2.2.2.2.2.2.2.2.2.2.2.2.2.2.2.2.1 d.2.2.2.2.2.2.2.2.2.2.2.2.2.2.2.2.2.2.2.2.2.2.2.2.2.2.1 d.2.2.2.2.2.2.2.2.2.2.2.2.2.2.2.2.2.2.2.2.2.2.2.2.2.2.2.1 d.2.2.2.2.2.2.2.2.2.2.2.2.2.2.2.2.2.2.2.2.2.2.2.2.2.2.2.2.1 d.2.2.2.2.2.2.2.2.2.2.2.2.2.2.2.2.2.2.2.2.2.2.2.2.2.2.2.2.2.1 d.2.2.2.2.2.2.2.2.2.2.2.2.2.2.2.2.2.2.2.2.2.2.2.2.2.2.2.2.2.2.1 d.2.2.2.2.2.2.2.2.2.2.2.2.2.2.2.2.2.2.2.2.2.2.2.2.2.2.2.2.2.2.2.1 d.2.2.2.2.2.2.2.2.2.2.2.2.2.2.2.2.2.2.2.2.2.2.2.2.2.2.2.2.2.2.2.2.1 d.2.2.2.2.2.2.2.2.2.2.2.2.2.2.2.2.2.2.2.2.2.2.2.2.2.2.2.2.2.2.2.2.2.1 d.2.2.2.2.2.2.2.2.2.2.2.2.2.2.2.2.2.2.2.2.2.2.2.2.2.2.2.2.2.2.2.2.2.2.1 d.2.2.2.2.2.2.2.2.2.2.2.2.2.2.2.2.2.2.2.2.2.2.2.2.2.2.2.2.2.2.2.2.2.2.2.1 d.2.2.2.2.2.2.2.2.2.2.2.2.2.2.2.2.2.2.2.2.2.2.2.2.2.2.2.2.2.2.2.2.2.2.2.2.1 d.2.2.2.2.2.2.2.2.2.2.2.2.2.2.2.2.2.2.2.2.2.2.2.2.2.2.2.2.2.2.2.2.2.2.2.2.2.1 d.2.2.2.2.2.2.2.2.2.2.2.2.2.2.2.2.2.2.2.2.2.2.2.2.2.2.2.2.2.2.2.2.2.2.2.2.2.2.1 d.2.2.2.2.2.2.2.2.2.2.2.2.2.2.2.2.2.2.2.2.2.2.2.2.2.2.2.2.2.2.2.2.2.2.2.2.2.2.2.1 d.2.2.2.2.2.2.2.2.2.2.2.2.2.2.2.2.2.2.2.2.2.2.2.2.2.2.2.2.2.2.2.2.2.2.2.2.2.2.2.2.1 d.2.2.2.2.2.2.2.2.2.2.2.2.2.2.2.2.2.2.2.2.2.2.2.2.2.2.2.2.2.2.2.2.2.2.2.2.2.2.2.2.2.1 d.2.2.2.2.2.2.2.2.2.2.2.2.2.2.2.2.2.2.2.2.2.2.2.2.2.2.2.2.2.2.2.2.2.2.2.2.2.2.2.2.2.2.1 d.2.2.2.2.2.2.2.2.2.2.2.2.2.2.2.2.2.2.2.2.2.2.2.2.2.2.2.2.2.2.2.2.2.2.2.2.2.2.2.2.2.2.2.1 d.2.2.2.2.2.2.2.2.2.2.2.2.2.2.2.2.2.2.2.2.2.2.2.2.2.2.2.2.2.2.2.2.2.2.2.2.2.2.2.2.2.2.2.2.1 d.2.2.2.2.2.2.2.2.2.2.2.2.2.2.2.2.2.2.2.2.2.2.2.2.2.2.2.2.2.2.2.2.2.2.2.2.2.2.2.2.2.2.2.2.2.1 d.2.2.2.2.2.2.2.2.2.2.2.2.2.2.2.2.2.2.2.2.2.2.2.2.2.2.2.2.2.2.2.2.2.2.2.2.2.2.2.2.2.2.2.2.2.2.1 d.2.2.2.2.2.2.2.2.2.2.2.2.2.2.2.2.2.2.2.2.2.2.2.2.2.2.2.2.2.2.2.2.2.2.2.2.2.2.2.2.2.2.2.2.2.2.2.1 d.2.2.2.2.2.2.2.2.2.2.2.2.2.2.2.2.2.2.2.2.2.2.2.2.2.2.2.2.2.2.2.2.2.2.2.2.2.2.2.2.2.2.2.2.2.2.2.2.1 d.2.2.2.2.2.2.2.2.2.2.2.2.2.2.2.2.2.2.2.2.2.2.2.2.2.2.2.2.2.2.2.2.2.2.2.2.2.2.2.2.2.2.2.2.2.2.2.2.2.1 d.2.2.2.2.2.2.2.2.2.2.2.2.2.2.2.2.2.2.2.2.2.2.2.2.2.2.2.2.2.2.2.2.2.2.2.2.2.2.2.2.2.2.2.2.2.2.2.2.2.2.1 d.2.2.2.2.2.2.2.2.2.2.2.2.2.2.2.2.2.2.2.2.2.2.2.2.2.2.2.2.2.2.2.2.2.2.2.2.2.2.2.2.2.2.2.2.2.2.2.2.2.2.2.1 d.2.2.2.2.2.2.2.2.2.2.2.2.2.2.2.2.2.2.2.2.2.2.2.2.2.2.2.2.2.2.2.2.2.2.2.2.2.2.2.2.2.2.2.2.2.2.2.2.2.2.2.2.1 d.2.2.2.2.2.2.2.2.2.2.2.2.2.2.2.2.2.2.2.2.2.2.2.2.2.2.2.2.2.2.2.2.2.2.2.2.2.2.2.2.2.2.2.2.2.2.2.2.2.2.2.2.2.1 d.2.2.2.2.2.2.2.2.2.2.2.2.2.2.2.2.2.2.2.2.2.2.2.2.2.2.2.2.2.2.2.2.2.2.2.2.2.2.2.2.2.2.2.2.2.2.2.2.2.2.2.2.2.2.1 d.2.2.2.2.2.2.2.2.2.2.2.2.2.2.2.2.2.2.2.2.2.2.2.2.2.2.2.2.2.2.2.2.2.2.2.2.2.2.2.2.2.2.2.2.2.2.2.2.2.2.2.2.2.2.2.1 d.2.2.2.2.2.2.2.2.2.2.2.2.2.2.2.2.2.2.2.2.2.2.2.2.2.2.2.2.2.2.2.2.2.2.2.2.2.2.2.2.2.2.2.2.2.2.2.2.2.2.2.2.2.2.2.2.1 d.2.2.2.2.2.2.2.2.2.2.2.2.2.2.2.2.2.2.2.2.2.2.2.2.2.2.2.2.2.2.2.2.2.2.2.2.2.2.2.2.2.2.2.2.2.2.2.2.2.2.2.2.2.2.2.2.2.1 d.2.2.2.2.2.2.2.2.2.2.2.2.2.2.2.2.2.2.2.2.2.2.2.2.2.2.2.2.2.2.2.2.2.2.2.2.2.2.2.2.2.2.2.2.2.2.2.2.2.2.2.2.2.2.2.2.2.2.1 d.2.2.2.2.2.2.2.2.2.2.2.2.2.2.2.2.2.2.2.2.2.2.2.2.2.2.2.2.2.2.2.2.2.2.2.2.2.2.2.2.2.2.2.2.2.2.2.2.2.2.2.2.2.2.2.2.2.2.2.1 d.2.2.2.2.2.2.2.2.2.2.2.2.2.2.2.2.2.2.2.2.2.2.2.2.2.2.2.2.2.2.2.2.2.2.2.2.2.2.2.2.2.2.2.2.2.2.2.2.2.2.2.2.2.2.2.2.2.2.2.2.1 d.2.2.2.2.2.2.2.2.2.2.2.2.2.2.2.2.2.2.2.2.2.2.2.2.2.2.2.2.2.2.2.2.2.2.2.2.2.2.2.2.2.2.2.2.2.2.2.2.2.2.2.2.2.2.2.2.2.2.2.2.2.1 d.2.2.2.2.2.2.2.2.2.2.2.2.2.2.2.2.2.2.2.2.2.2.2.2.2.2.2.2.2.2.2.2.2.2.2.2.2.2.2.2.2.2.2.2.2.2.2.2.2.2.2.2.2.2.2.2.2.2.2.2.2.2.1 d.2.2.2.2.2.2.2.2.2.2.2.2.2.2.2.2.2.2.2.2.2.2.2.2.2.2.2.2.2.2.2.2.2.2.2.2.2.2.2.2.2.2.2.2.2.2.2.2.2.2.2.2.2.2.2.2.2.2.2.2.2.2.2.1 d.2.2.2.2.2.2.2.2.2.2.2.2.2.2.2.2.2.2.2.2.2.2.2.2.2.2.2.2.2.2.2.2.2.2.2.2.2.2.2.2.2.2.2.2.2.2.2.2.2.2.2.2.2.2.2.2.2.2.2.2.2.2.2.2.1 d.2.2.2.2.2.2.2.2.2.2.2.2.2.2.2.2.2.2.2.2.2.2.2.2.2.2.2.2.2.2.2.2.2.2.2.2.2.2.2.2.2.2.2.2.2.2.2.2.2.2.2.2.2.2.2.2.2.2.2.2.2.2.2.2.2.1 d.2.2.2.2.2.2.2.2.2.2.2.2.2.2.2.2.2.2.2.2.2.2.2.2.2.2.2.2.2.2.2.2.2.2.2.2.2.2.2.2.2.2.2.2.2.2.2.2.2.2.2.2.2.2.2.2.2.2.2.2.2.2.2.2.2.2.1 d.2.2.2.2.2.2.2.2.2.2.2.2.2.2.2.2.2.2.2.2.2.2.2.2.2.2.2.2.2.2.2.2.2.2.2.2.2.2.2.2.2.2.2.2.2.2.2.2.2.2.2.2.2.2.2.2.2.2.2.2.2.2.2.2.2.2.2.1 d.2.2.2.2.2.2.2.2.2.2.2.2.2.2.2.2.2.2.2.2.2.2.2.2.2.2.2.2.2.2.2.2.2.2.2.2.2.2.2.2.2.2.2.2.2.2.2.2.2.2.2.2.2.2.2.2.2.2.2.2.2.2.2.2.2.2.2.2.1 d.2.2.2.2.2.2.2.2.2.2.2.2.2.2.2.2.2.2.2.2.2.2.2.2.2.2.2.2.2.2.2.2.2.2.2.2.2.2.2.2.2.2.2.2.2.2.2.2.2.2.2.2.2.2.2.2.2.2.2.2.2.2.2.2.2.2.2.2.2.1 d.2.2.2.2.2.2.2.2.2.2.2.2.2.2.2.2.2.2.2.2.2.2.2.2.2.2.2.2.2.2.2.2.2.2.2.2.2.2.2.2.2.2.2.2.2.2.2.2.2.2.2.2.2.2.2.2.2.2.2.2.2.2.2.2.2.2.2.2.2.2.1 d.2.2.2.2.2.2.2.2.2.2.2.2.2.2.2.2.2.2.2.2.2.2.2.2.2.2.2.2.2.2.2.2.2.2.2.2.2.2.2.2.2.2.2.2.2.2.2.2.2.2.2.2.2.2.2.2.2.2.2.2.2.2.2.2.2.2.2.2.2.2.2.1 d.2.2.2.2.2.2.2.2.2.2.2.2.2.2.2.2.2.2.2.2.2.2.2.2.2.2.2.2.2.2.2.2.2.2.2.2.2.2.2.2.2.2.2.2.2.2.2.2.2.2.2.2.2.2.2.2.2.2.2.2.2.2.2.2.2.2.2.2.2.2.2.2.1 d.2.2.2.2.2.2.2.2.2.2.2.2.2.2.2.2.2.2.2.2.2.2.2.2.2.2.2.2.2.2.2.2.2.2.2.2.2.2.2.2.2.2.2.2.2.2.2.2.2.2.2.2.2.2.2.2.2.2.2.2.2.2.2.2.2.2.2.2.2.2.2.2.2.1 d.2.2.2.2.2.2.2.2.2.2.2.2.2.2.2.2.2.2.2.2.2.2.2.2.2.2.2.2.2.2.2.2.2.2.2.2.2.2.2.2.2.2.2.2.2.2.2.2.2.2.2.2.2.2.2.2.2.2.2.2.2.2.2.2.2.2.2.2.2.2.2.2.2.2
noncomputable def tup9z : PySem.World × PySem.Str × PySem.Addr × PySem.Value × PySem.Heap × Nat × (List PySem.Str) × (PySem.ExcName → Option PySem.Value) × (PySem.Str → Option PySem.Value) × (PySem.Str → Option PySem.Value) × PySem.Drawn × PySem.OsState × (PySem.Flow → PySem.Shared → Prop) × (PySem.Value → PySem.Shared → Prop) × Nat × Nat × Nat × Nat × Nat × Nat × Nat × Int × (List PySem.Value) × (Array PySem.Value) × PySem.Obj × PySem.Heap × Nat × (PySem.Str → Option PySem.Value) × Nat × Nat × Nat × Nat × Nat × PySem.Tok × (List PySem.Value) × Nat × Nat × Nat × Nat × Nat × Nat × Nat × Nat × Nat × Nat × Nat × PySem.Tok × PySem.Tok × PySem.Tok × PySem.Tok × PySem.Tok × PySem.Tok × PySem.Tok × PySem.Tok × PySem.Tok × PySem.Tok × PySem.Tok × PySem.Tok × PySem.Value × PySem.Value × PySem.Obj × PySem.Obj × (Array PySem.Value) × PySem.Tok × PySem.Tok × PySem.Tok × PySem.Tok × PySem.Tok × PySem.Tok × PySem.Tok × Nat × Nat × PySem.Heap × (Array PySem.GenState) × Nat := hen (World9, (default : Str), (0 : Nat), (default : Value), (default : Heap), (0 : Nat), [], (fun _ => none), (fun _ => none), (fun _ => none), ({} : Drawn), ({} : OsState), (fun _ => (fun _ => True)), (fun _ => (fun _ => True)), (0 : Nat), (0 : Nat), (0 : Nat), (0 : Nat), (0 : Nat), (0 : Nat), (0 : Nat), (0 : Int), [], #[], (default : Obj), (default : Heap), (0 : Nat), (fun _ => none), (0 : Nat), (0 : Nat), (0 : Nat), (0 : Nat), (0 : Nat), (0 : Nat), [], (0 : Nat), (0 : Nat), (0 : Nat), (0 : Nat), (0 : Nat), (0 : Nat), (0 : Nat), (0 : Nat), (0 : Nat), (0 : Nat), (0 : Nat), (0 : Nat), (0 : Nat), (0 : Nat), (0 : Nat), (0 : Nat), (0 : Nat), (0 : Nat), (0 : Nat), (0 : Nat), (0 : Nat), (0 : Nat), (0 : Nat), (default : Value), (default : Value), (default : Obj), (default : Obj), #[], (0 : Nat), (0 : Nat), (0 : Nat), (0 : Nat), (0 : Nat), (0 : Nat), (0 : Nat), (0 : Nat), (0 : Nat), (default : Heap), #[], (0 : Nat)) G9
noncomputable def w : PySem.World := tup9z.1
noncomputable def cn : PySem.Str := tup9z.2.1
noncomputable def fa : PySem.Addr := tup9z.2.2.1
noncomputable def cd : PySem.Value := tup9z.2.2.2.1
noncomputable def h₀ : PySem.Heap := tup9z.2.2.2.2.1
noncomputable def L : Nat := tup9z.2.2.2.2.2.1
noncomputable def loose : List PySem.Str := tup9z.2.2.2.2.2.2.1
noncomputable def mean : PySem.ExcName → Option PySem.Value := tup9z.2.2.2.2.2.2.2.1
noncomputable def mg : PySem.Str → Option PySem.Value := tup9z.2.2.2.2.2.2.2.2.1
noncomputable def mb : PySem.Str → Option PySem.Value := tup9z.2.2.2.2.2.2.2.2.2.1
noncomputable def dr : PySem.Drawn := tup9z.2.2.2.2.2.2.2.2.2.2.1
noncomputable def os : PySem.OsState := tup9z.2.2.2.2.2.2.2.2.2.2.2.1
noncomputable def Q : PySem.Flow → PySem.Shared → Prop := tup9z.2.2.2.2.2.2.2.2.2.2.2.2.1
noncomputable def E : PySem.Value → PySem.Shared → Prop := tup9z.2.2.2.2.2.2.2.2.2.2.2.2.2.1
noncomputable def lr : Nat := tup9z.2.2.2.2.2.2.2.2.2.2.2.2.2.2.1
noncomputable def lf : Nat := tup9z.2.2.2.2.2.2.2.2.2.2.2.2.2.2.2.1
noncomputable def lq : Nat := tup9z.2.2.2.2.2.2.2.2.2.2.2.2.2.2.2.2.1
noncomputable def kr : Nat := tup9z.2.2.2.2.2.2.2.2.2.2.2.2.2.2.2.2.2.1
noncomputable def kf : Nat := tup9z.2.2.2.2.2.2.2.2.2.2.2.2.2.2.2.2.2.2.1
noncomputable def kq : Nat := tup9z.2.2.2.2.2.2.2.2.2.2.2.2.2.2.2.2.2.2.2.1
noncomputable def qe : Nat := tup9z.2.2.2.2.2.2.2.2.2.2.2.2.2.2.2.2.2.2.2.2.1
noncomputable def ln : Int := tup9z.2.2.2.2.2.2.2.2.2.2.2.2.2.2.2.2.2.2.2.2.2.1
noncomputable def wf : List PySem.Value := tup9z.2.2.2.2.2.2.2.2.2.2.2.2.2.2.2.2.2.2.2.2.2.2.1
noncomputable def ps : Array PySem.Value := tup9z.2.2.2.2.2.2.2.2.2.2.2.2.2.2.2.2.2.2.2.2.2.2.2.1
noncomputable def oL : PySem.Obj := tup9z.2.2.2.2.2.2.2.2.2.2.2.2.2.2.2.2.2.2.2.2.2.2.2.2.1
noncomputable def h' : PySem.Heap := tup9z.2.2.2.2.2.2.2.2.2.2.2.2.2.2.2.2.2.2.2.2.2.2.2.2.2.1
noncomputable def tk' : Nat := tup9z.2.2.2.2.2.2.2.2.2.2.2.2.2.2.2.2.2.2.2.2.2.2.2.2.2.2.1
noncomputable def m' : PySem.Str → Option PySem.Value := tup9z.2.2.2.2.2.2.2.2.2.2.2.2.2.2.2.2.2.2.2.2.2.2.2.2.2.2.2.1
noncomputable def y : Nat := tup9z.2.2.2.2.2.2.2.2.2.2.2.2.2.2.2.2.2.2.2.2.2.2.2.2.2.2.2.2.1
noncomputable def z : Nat := tup9z.2.2.2.2.2.2.2.2.2.2.2.2.2.2.2.2.2.2.2.2.2.2.2.2.2.2.2.2.2.1
noncomputable def f1 : Nat := tup9z.2.2.2.2.2.2.2.2.2.2.2.2.2.2.2.2.2.2.2.2.2.2.2.2.2.2.2.2.2.2.1
noncomputable def f2 : Nat := tup9z.2.2.2.2.2.2.2.2.2.2.2.2.2.2.2.2.2.2.2.2.2.2.2.2.2.2.2.2.2.2.2.1
noncomputable def f3 : Nat := tup9z.2.2.2.2.2.2.2.2.2.2.2.2.2.2.2.2.2.2.2.2.2.2.2.2.2.2.2.2.2.2.2.2.1
noncomputable def tl : PySem.Tok := tup9z.2.2.2.2.2.2.2.2.2.2.2.2.2.2.2.2.2.2.2.2.2.2.2.2.2.2.2.2.2.2.2.2.2.1
noncomputable def sv : List PySem.Value := tup9z.2.2.2.2.2.2.2.2.2.2.2.2.2.2.2.2.2.2.2.2.2.2.2.2.2.2.2.2.2.2.2.2.2.2.1
noncomputable def se : Nat := tup9z.2.2.2.2.2.2.2.2.2.2.2.2.2.2.2.2.2.2.2.2.2.2.2.2.2.2.2.2.2.2.2.2.2.2.2.1
noncomputable def px : Nat := tup9z.2.2.2.2.2.2.2.2.2.2.2.2.2.2.2.2.2.2.2.2.2.2.2.2.2.2.2.2.2.2.2.2.2.2.2.2.1
noncomputable def pd : Nat := tup9z.2.2.2.2.2.2.2.2.2.2.2.2.2.2.2.2.2.2.2.2.2.2.2.2.2.2.2.2.2.2.2.2.2.2.2.2.2.1
noncomputable def pb : Nat := tup9z.2.2.2.2.2.2.2.2.2.2.2.2.2.2.2.2.2.2.2.2.2.2.2.2.2.2.2.2.2.2.2.2.2.2.2.2.2.2.1
noncomputable def fn : Nat := tup9z.2.2.2.2.2.2.2.2.2.2.2.2.2.2.2.2.2.2.2.2.2.2.2.2.2.2.2.2.2.2.2.2.2.2.2.2.2.2.2.1
noncomputable def cc : Nat := tup9z.2.2.2.2.2.2.2.2.2.2.2.2.2.2.2.2.2.2.2.2.2.2.2.2.2.2.2.2.2.2.2.2.2.2.2.2.2.2.2.2.1
noncomputable def x1 : Nat := tup9z.2.2.2.2.2.2.2.2.2.2.2.2.2.2.2.2.2.2.2.2.2.2.2.2.2.2.2.2.2.2.2.2.2.2.2.2.2.2.2.2.2.1
noncomputable def d1 : Nat := tup9z.2.2.2.2.2.2.2.2.2.2.2.2.2.2.2.2.2.2.2.2.2.2.2.2.2.2.2.2.2.2.2.2.2.2.2.2.2.2.2.2.2.2.1
noncomputable def sg : Nat := tup9z.2.2.2.2.2.2.2.2.2.2.2.2.2.2.2.2.2.2.2.2.2.2.2.2.2.2.2.2.2.2.2.2.2.2.2.2.2.2.2.2.2.2.2.1
noncomputable def ce : Nat := tup9z.2.2.2.2.2.2.2.2.2.2.2.2.2.2.2.2.2.2.2.2.2.2.2.2.2.2.2.2.2.2.2.2.2.2.2.2.2.2.2.2.2.2.2.2.1
noncomputable def pb1 : Nat := tup9z.2.2.2.2.2.2.2.2.2.2.2.2.2.2.2.2.2.2.2.2.2.2.2.2.2.2.2.2.2.2.2.2.2.2.2.2.2.2.2.2.2.2.2.2.2.1
noncomputable def q1 : PySem.Tok := tup9z.2.2.2.2.2.2.2.2.2.2.2.2.2.2.2.2.2.2.2.2.2.2.2.2.2.2.2.2.2.2.2.2.2.2.2.2.2.2.2.2.2.2.2.2.2.2.1
noncomputable def q2 : PySem.Tok := tup9z.2.2.2.2.2.2.2.2.2.2.2.2.2.2.2.2.2.2.2.2.2.2.2.2.2.2.2.2.2.2.2.2.2.2.2.2.2.2.2.2.2.2.2.2.2.2.2.1
noncomputable def q3 : PySem.Tok := tup9z.2.2.2.2.2.2.2.2.2.2.2.2.2.2.2.2.2.2.2.2.2.2.2.2.2.2.2.2.2.2.2.2.2.2.2.2.2.2.2.2.2.2.2.2.2.2.2.2.1
noncomputable def q4 : PySem.Tok := tup9z.2.2.2.2.2.2.2.2.2.2.2.2.2.2.2.2.2.2.2.2.2.2.2.2.2.2.2.2.2.2.2.2.2.2.2.2.2.2.2.2.2.2.2.2.2.2.2.2.2.1
noncomputable def tw : PySem.Tok := tup9z.2.2.2.2.2.2.2.2.2.2.2.2.2.2.2.2.2.2.2.2.2.2.2.2.2.2.2.2.2.2.2.2.2.2.2.2.2.2.2.2.2.2.2.2.2.2.2.2.2.2.1
noncomputable def v1 : PySem.Tok := tup9z.2.2.2.2.2.2.2.2.2.2.2.2.2.2.2.2.2.2.2.2.2.2.2.2.2.2.2.2.2.2.2.2.2.2.2.2.2.2.2.2.2.2.2.2.2.2.2.2.2.2.2.1
noncomputable def v2 : PySem.Tok := tup9z.2.2.2.2.2.2.2.2.2.2.2.2.2.2.2.2.2.2.2.2.2.2.2.2.2.2.2.2.2.2.2.2.2.2.2.2.2.2.2.2.2.2.2.2.2.2.2.2.2.2.2.2.1
noncomputable def v3 : PySem.Tok := tup9z.2.2.2.2.2.2.2.2.2.2.2.2.2.2.2.2.2.2.2.2.2.2.2.2.2.2.2.2.2.2.2.2.2.2.2.2.2.2.2.2.2.2.2.2.2.2.2.2.2.2.2.2.2.1
noncomputable def v4 : PySem.Tok := tup9z.2.2.2.2.2.2.2.2.2.2.2.2.2.2.2.2.2.2.2.2.2.2.2.2.2.2.2.2.2.2.2.2.2.2.2.2.2.2.2.2.2.2.2.2.2.2.2.2.2.2.2.2.2.2.1
noncomputable def v5 : PySem.Tok := tup9z.2.2.2.2.2.2.2.2.2.2.2.2.2.2.2.2.2.2.2.2.2.2.2.2.2.2.2.2.2.2.2.2.2.2.2.2.2.2.2.2.2.2.2.2.2.2.2.2.2.2.2.2.2.2.2.1
noncomputable def v6 : PySem.Tok := tup9z.2.2.2.2.2.2.2.2.2.2.2.2.2.2.2.2.2.2.2.2.2.2.2.2.2.2.2.2.2.2.2.2.2.2.2.2.2.2.2.2.2.2.2.2.2.2.2.2.2.2.2.2.2.2.2.2.1
noncomputable def vw : PySem.Tok := tup9z.2.2.2.2.2.2.2.2.2.2.2.2.2.2.2.2.2.2.2.2.2.2.2.2.2.2.2.2.2.2.2.2.2.2.2.2.2.2.2.2.2.2.2.2.2.2.2.2.2.2.2.2.2.2.2.2.2.1
noncomputable def ct : PySem.Value := tup9z.2.2.2.2.2.2.2.2.2.2.2.2.2.2.2.2.2.2.2.2.2.2.2.2.2.2.2.2.2.2.2.2.2.2.2.2.2.2.2.2.2.2.2.2.2.2.2.2.2.2.2.2.2.2.2.2.2.2.1
noncomputable def pm : PySem.Value := tup9z.2.2.2.2.2.2.2.2.2.2.2.2.2.2.2.2.2.2.2.2.2.2.2.2.2.2.2.2.2.2.2.2.2.2.2.2.2.2.2.2.2.2.2.2.2.2.2.2.2.2.2.2.2.2.2.2.2.2.2.1
noncomputable def oc : PySem.Obj := tup9z.2.2.2.2.2.2.2.2.2.2.2.2.2.2.2.2.2.2.2.2.2.2.2.2.2.2.2.2.2.2.2.2.2.2.2.2.2.2.2.2.2.2.2.2.2.2.2.2.2.2.2.2.2.2.2.2.2.2.2.2.1
noncomputable def oC : PySem.Obj := tup9z.2.2.2.2.2.2.2.2.2.2.2.2.2.2.2.2.2.2.2.2.2.2.2.2.2.2.2.2.2.2.2.2.2.2.2.2.2.2.2.2.2.2.2.2.2.2.2.2.2.2.2.2.2.2.2.2.2.2.2.2.2.1
noncomputable def vs : Array PySem.Value := tup9z.2.2.2.2.2.2.2.2.2.2.2.2.2.2.2.2.2.2.2.2.2.2.2.2.2.2.2.2.2.2.2.2.2.2.2.2.2.2.2.2.2.2.2.2.2.2.2.2.2.2.2.2.2.2.2.2.2.2.2.2.2.2.1
noncomputable def tq : PySem.Tok := tup9z.2.2.2.2.2.2.2.2.2.2.2.2.2.2.2.2.2.2.2.2.2.2.2.2.2.2.2.2.2.2.2.2.2.2.2.2.2.2.2.2.2.2.2.2.2.2.2.2.2.2.2.2.2.2.2.2.2.2.2.2.2.2.2.1
noncomputable def t1 : PySem.Tok := tup9z.2.2.2.2.2.2.2.2.2.2.2.2.2.2.2.2.2.2.2.2.2.2.2.2.2.2.2.2.2.2.2.2.2.2.2.2.2.2.2.2.2.2.2.2.2.2.2.2.2.2.2.2.2.2.2.2.2.2.2.2.2.2.2.2.1
noncomputable def t2 : PySem.Tok := tup9z.2.2.2.2.2.2.2.2.2.2.2.2.2.2.2.2.2.2.2.2.2.2.2.2.2.2.2.2.2.2.2.2.2.2.2.2.2.2.2.2.2.2.2.2.2.2.2.2.2.2.2.2.2.2.2.2.2.2.2.2.2.2.2.2.2.1
noncomputable def t3 : PySem.Tok := tup9z.2.2.2.2.2.2.2.2.2.2.2.2.2.2.2.2.2.2.2.2.2.2.2.2.2.2.2.2.2.2.2.2.2.2.2.2.2.2.2.2.2.2.2.2.2.2.2.2.2.2.2.2.2.2.2.2.2.2.2.2.2.2.2.2.2.2.1
noncomputable def u1 : PySem.Tok := tup9z.2.2.2.2.2.2.2.2.2.2.2.2.2.2.2.2.2.2.2.2.2.2.2.2.2.2.2.2.2.2.2.2.2.2.2.2.2.2.2.2.2.2.2.2.2.2.2.2.2.2.2.2.2.2.2.2.2.2.2.2.2.2.2.2.2.2.2.1
noncomputable def u2 : PySem.Tok := tup9z.2.2.2.2.2.2.2.2.2.2.2.2.2.2.2.2.2.2.2.2.2.2.2.2.2.2.2.2.2.2.2.2.2.2.2.2.2.2.2.2.2.2.2.2.2.2.2.2.2.2.2.2.2.2.2.2.2.2.2.2.2.2.2.2.2.2.2.2.1
noncomputable def u3 : PySem.Tok := tup9z.2.2.2.2.2.2.2.2.2.2.2.2.2.2.2.2.2.2.2.2.2.2.2.2.2.2.2.2.2.2.2.2.2.2.2.2.2.2.2.2.2.2.2.2.2.2.2.2.2.2.2.2.2.2.2.2.2.2.2.2.2.2.2.2.2.2.2.2.2.1
noncomputable def at' : Nat := tup9z.2.2.2.2.2.2.2.2.2.2.2.2.2.2.2.2.2.2.2.2.2.2.2.2.2.2.2.2.2.2.2.2.2.2.2.2.2.2.2.2.2.2.2.2.2.2.2.2.2.2.2.2.2.2.2.2.2.2.2.2.2.2.2.2.2.2.2.2.2.2.1
noncomputable def kt' : Nat := tup9z.2.2.2.2.2.2.2.2.2.2.2.2.2.2.2.2.2.2.2.2.2.2.2.2.2.2.2.2.2.2.2.2.2.2.2.2.2.2.2.2.2.2.2.2.2.2.2.2.2.2.2.2.2.2.2.2.2.2.2.2.2.2.2.2.2.2.2.2.2.2.2.1
noncomputable def h6 : PySem.Heap := tup9z.2.2.2.2.2.2.2.2.2.2.2.2.2.2.2.2.2.2.2.2.2.2.2.2.2.2.2.2.2.2.2.2.2.2.2.2.2.2.2.2.2.2.2.2.2.2.2.2.2.2.2.2.2.2.2.2.2.2.2.2.2.2.2.2.2.2.2.2.2.2.2.2.1
noncomputable def g6 : Array PySem.GenState := tup9z.2.2.2.2.2.2.2.2.2.2.2.2.2.2.2.2.2.2.2.2.2.2.2.2.2.2.2.2.2.2.2.2.2.2.2.2.2.2.2.2.2.2.2.2.2.2.2.2.2.2.2.2.2.2.2.2.2.2.2.2.2.2.2.2.2.2.2.2.2.2.2.2.2.1
noncomputable def tk6 : Nat := tup9z.2.2.2.2.2.2.2.2.2.2.2.2.2.2.2.2.2.2.2.2.2.2.2.2.2.2.2.2.2.2.2.2.2.2.2.2.2.2.2.2.2.2.2.2.2.2.2.2.2.2.2.2.2.2.2.2.2.2.2.2.2.2.2.2.2.2.2.2.2.2.2.2.2.2
set_option maxRecDepth 100000 in
set_option maxHeartbeats 8000000 in
theorem main9 : seg9.1 w cn fa cd h₀ L loose mean mg mb dr os Q E lr lf lq kr kf kq qe ln wf ps oL h' tk' m' y z f1 f2 f3 tl sv se px pd pb fn cc x1 d1 sg ce pb1 q1 q2 q3 q4 tw v1 v2 v3 v4 v5 v6 vw ct pm oc oC vs tq t1 t2 t3 u1 u2 u3 at' kt' h6 g6 tk6 := by
  delta seg9 segOf
  dsimp -zeta only
  intro B X T tail l1 l2 x hx' hy' hz' hif hf1 hf2 hf3 hs dL l3 ok' hx hb6 F6 wl hP6 N6
  k_with_none
  k_with "call ref cons nil" => refine stop_in ?_
  k_with "subscriptTail Name Constant ref int" => (with_unfolding_all refine' item_litK ?k1 ?k2 ?k3 ?k4 ?_ ?k6; (case k1 => is_list); (case k2 => decide); (case k3 => decide); (case k4 => rfl); (case k6 => with_unfolding_all rfl); k_whole)
  k_with "compareOp NotEq ref ref" => refine stop_in ?_
  k_steps
  refine stop_out ?_
  by_cases hx7 : x = 127
  · subst hx7
    refine' CtrR.use (sizes127 w lr (y : Int) (z : Int) u1 u2 u3 kr) ?kl ?k1 ?k2 ?k3 ?k4 ?k5 ?kK ?kd ?ku ?_
    ((case k1 => k_asm); (case k2 => k_asm); (case k3 => k_asm); (case k4 => k_asm); (case k5 => k_asm); (case kl => (repeat' first | exact List.forall_mem_nil _ | refine mem_cons_all ?_ ?_ | exact sub_refl | refine sub_tail ?_ | k_mem)); (case kK => first | exact rfl | assumption); (case kd => ktr_room); (case ku => ktr_units))
    intro v4 tl4 h4 tk4 hp4 hlt4 F4 N4
    obtain ⟨lz, wz, kz, rfl, rfl, rfl⟩ := hp4
    obtain rfl := hP6.1 rfl
    simp only [List.cons_append, List.nil_append] at N4
    have m1 : @LT.lt Nat _ at' lz := hlt4 _ (.head _) _ (.head _)
    have m2 : @LT.lt Nat _ lr lz := hlt4 _ (List.mem_of_getElem? (i := 12) rfl) _ (.head _)
    clear hlt4
    k_steps
    refine stop_out ?_
    refine ne_intsK (N4.isList (.tail _ (.head _))) IntsAre.nil (N4.isList (.head _)) IntsAre.nil (by units_room) ?_
    rw [decide_eq_true rfl]
    k_with_none
    k_with "call ref cons nil" => refine stop_in ?_
    k_with "subscriptTail Name Constant ref int" => (with_unfolding_all refine' item_litK ?k1 ?k2 ?k3 ?k4 ?_ ?k6; (case k1 => is_list); (case k2 => decide); (case k3 => decide); (case k4 => rfl); (case k6 => with_unfolding_all rfl); k_whole)
    k_steps
    refine stop_out ?_
    rename_i ls0 _ lo9 hh9 F9 N9
    have lo8 : @LT.lt Nat _ pb ls0 := by omega
    refine' tail (ln := ln) (qe := qe) [2, 1] f1 f2 f3 ⟨px, pd, pb, fn, cc, x1, d1, sg, ce, pb1, q1, q2, q3, q4, tw, v1, v2, v3, v4, v5, v6, vw, ct, pm, oc, oC, vs, tq⟩ (by decide) hf1 hf2 hf3 hb6 ok' ⟨tl, sv, se, hs, rfl⟩ dL ?qa hif (by omega) l3 lo8 ?qb ?qc
    case qc =>
      refine news_of N9 ?_
      dsimp only [lexLed]
      simp only [List.cons_append, List.nil_append]
      (repeat' first | exact List.forall_mem_nil _ | refine mem_cons_all ?_ ?_ | exact sub_refl | refine sub_tail ?_ | k_mem)
    case qa => exact .cons _ _ (.cons _ _ .nil)
    case qb => exact fr_mB F9 (by exact ⟨rfl, rfl, trivial⟩)
  · refine' CtrR.use (sizes w lr x y z u1 u2 u3 kr hx7) ?kl ?k1 ?k2 ?k3 ?k4 ?k5 ?kK ?kd ?ku ?_
    ((case k1 => k_asm); (case k2 => k_asm); (case k3 => k_asm); (case k4 => k_asm); (case k5 => k_asm); (case kl => (repeat' first | exact List.forall_mem_nil _ | refine mem_cons_all ?_ ?_ | exact sub_refl | refine sub_tail ?_ | k_mem)); (case kK => first | exact rfl | assumption); (case kd => ktr_room); (case ku => ktr_units))
    intro v4 tl4 h4 tk4 hp4 hlt4 F4 N4
    obtain ⟨lz, wz, kz, rfl, rfl, hz0, hz1⟩ := hp4
    simp only [List.cons_append, List.nil_append] at N4
    have m1 : @LT.lt Nat _ at' lz := hlt4 _ (.head _) _ (.head _)
    have m2 : @LT.lt Nat _ lr lz := hlt4 _ (List.mem_of_getElem? (i := 12) rfl) _ (.head _)
    clear hlt4
    by_cases hx0 : x = 0
    · subst hx0
      obtain ⟨tW, rfl⟩ := hP6.2.1 rfl
      obtain ⟨tZ, rfl⟩ := hz0 rfl
      rw [show ((0 : Nat) : Int) = 0 from rfl] at N4
      k_steps
      refine stop_out ?_
      rename_i ls0 _ lo9 hh9 F9 N9
      have lo8 : @LT.lt Nat _ pb ls0 := by omega
      refine' tail (ln := ln) (qe := qe) [2, 1] f1 f2 f3 ⟨px, pd, pb, fn, cc, x1, d1, sg, ce, pb1, q1, q2, q3, q4, tw, v1, v2, v3, v4, v5, v6, vw, ct, pm, oc, oC, vs, tq⟩ (by decide) hf1 hf2 hf3 hb6 ok' ⟨tl, sv, se, hs, rfl⟩ dL ?qa hif (by omega) l3 lo8 ?qb ?qc
      case qc =>
        refine news_of N9 ?_
        dsimp only [lexLed]
        simp only [List.cons_append, List.nil_append]
        (repeat' first | exact List.forall_mem_nil _ | refine mem_cons_all ?_ ?_ | exact sub_refl | refine sub_tail ?_ | k_mem)
      case qa => exact .cons _ _ (.cons _ _ .nil)
      case qb => exact fr_mB F9 (by exact ⟨rfl, rfl, trivial⟩)
    · have hw6 := told_ints hP6 hx0 hx7
      have hw7 := hz1 hx0
      have hx'' : x ∈ [1, 2] := by
        simp only [ruls, List.mem_cons, List.not_mem_nil, or_false] at hx' ⊢; omega
      have hlen := len42 x hx'' y hy' z hz'
      clear hz0 hz1 hP6
      k_with_none
      k_with "compareOp NotEq ref ref" => refine stop_in ?_
      k_steps
      refine stop_out ?_
      refine ne_intsK (N4.isList (.tail _ (.head _))) hw6 (N4.isList (.head _)) hw7 (by units_room) ?_
      rw [decide_eq_true rfl]
      k_with_none
      k_with "call ref cons nil" => refine stop_in ?_
      k_with "subscriptTail Name Constant ref int" => (with_unfolding_all refine' item_litK ?k1 ?k2 ?k3 ?k4 ?_ ?k6; (case k1 => is_list); (case k2 => decide); (case k3 => decide); (case k4 => rfl); (case k6 => with_unfolding_all rfl); k_whole)
      obtain rfl | rfl : x = 1 ∨ x = 2 := by simp only [List.mem_cons, List.not_mem_nil, or_false] at hx''; exact hx''
      · rw [show ((1 : Nat) : Int) = 1 from rfl] at N4
        k_steps
        refine stop_out ?_
        rename_i ls0 _ _ hI9 _ _ lo9 hh9 F9 N9
        rw [← List.map_take] at hI9
        have lo8 : @LT.lt Nat _ pb ls0 := lo9.2.2.2.2.1
        refine' tail (ln := ln) (qe := qe) ((sizesGo [] [1, y, z]).take 3) f1 f2 f3 ⟨px, pd, pb, fn, cc, x1, d1, sg, ce, pb1, q1, q2, q3, q4, tw, v1, v2, v3, v4, v5, v6, vw, ct, pm, oc, oC, vs, tq⟩ (shape21 _ hx'' y hy' z hz') hf1 hf2 hf3 hb6 ok' ⟨tl, sv, se, hs, rfl⟩ dL hI9 hif (by omega) l3 lo8 ?qb ?qc
        case qc =>
          refine news_of N9 ?_
          dsimp only [lexLed]
          simp only [List.cons_append, List.nil_append]
          (repeat' first | exact List.forall_mem_nil _ | refine mem_cons_all ?_ ?_ | exact sub_refl | refine sub_tail ?_ | k_mem)
        case qb => exact fr_mB F9 (by exact ⟨rfl, rfl, trivial⟩)
      · rw [show ((2 : Nat) : Int) = 2 from rfl] at N4
        k_steps
        refine stop_out ?_
        rename_i ls0 _ _ hI9 _ _ lo9 hh9 F9 N9
        rw [← List.map_take] at hI9
        have lo8 : @LT.lt Nat _ pb ls0 := lo9.2.2.2.2.1
        refine' tail (ln := ln) (qe := qe) ((sizesGo [] [2, y, z]).take 3) f1 f2 f3 ⟨px, pd, pb, fn, cc, x1, d1, sg, ce, pb1, q1, q2, q3, q4, tw, v1, v2, v3, v4, v5, v6, vw, ct, pm, oc, oC, vs, tq⟩ (shape21 _ hx'' y hy' z hz') hf1 hf2 hf3 hb6 ok' ⟨tl, sv, se, hs, rfl⟩ dL hI9 hif (by omega) l3 lo8 ?qb ?qc
        case qc =>
          refine news_of N9 ?_
          dsimp only [lexLed]
          simp only [List.cons_append, List.nil_append]
          (repeat' first | exact List.forall_mem_nil _ | refine mem_cons_all ?_ ?_ | exact sub_refl | refine sub_tail ?_ | k_mem)
        case qb => exact fr_mB F9 (by exact ⟨rfl, rfl, trivial⟩)

set_option maxRecDepth 100000 in
set_option maxHeartbeats 8000000 in
theorem all9 : ∀ a0 a1 a2 a3 a4 a5 a6 a7 a8 a9 a10 a11 a12 a13 a14 a15 a16 a17 a18 a19 a20 a21 a22 a23 a24 a25 a26 a27 a28 a29 a30 a31 a32 a33 a34 a35 a36 a37 a38 a39 a40 a41 a42 a43 a44 a45 a46 a47 a48 a49 a50 a51 a52 a53 a54 a55 a56 a57 a58 a59 a60 a61 a62 a63 a64 a65 a66 a67 a68 a69 a70 a71 a72 a73 a74, seg9.1 a0 a1 a2 a3 a4 a5 a6 a7 a8 a9 a10 a11 a12 a13 a14 a15 a16 a17 a18 a19 a20 a21 a22 a23 a24 a25 a26 a27 a28 a29 a30 a31 a32 a33 a34 a35 a36 a37 a38 a39 a40 a41 a42 a43 a44 a45 a46 a47 a48 a49 a50 a51 a52 a53 a54 a55 a56 a57 a58 a59 a60 a61 a62 a63 a64 a65 a66 a67 a68 a69 a70 a71 a72 a73 a74 := fun a0 a1 a2 a3 a4 a5 a6 a7 a8 a9 a10 a11 a12 a13 a14 a15 a16 a17 a18 a19 a20 a21 a22 a23 a24 a25 a26 a27 a28 a29 a30 a31 a32 a33 a34 a35 a36 a37 a38 a39 a40 a41 a42 a43 a44 a45 a46 a47 a48 a49 a50 a51 a52 a53 a54 a55 a56 a57 a58 a59 a60 a61 a62 a63 a64 a65 a66 a67 a68 a69 a70 a71 a72 a73 a74 => hen_all (G := G9) main9 (a0, a1, a2, a3, a4, a5, a6, a7, a8, a9, a10, a11, a12, a13, a14, a15, a16, a17, a18, a19, a20, a21, a22, a23, a24, a25, a26, a27, a28, a29, a30, a31, a32, a33, a34, a35, a36, a37, a38, a39, a40, a41, a42, a43, a44, a45, a46, a47, a48, a49, a50, a51, a52, a53, a54, a55, a56, a57, a58, a59, a60, a61, a62, a63, a64, a65, a66, a67, a68, a69, a70, a71, a72, a73, a74)
end law_told2
theorem law2_told (w : World) (cn : Str) (fa : Addr) (cd : Value) (h₀ : Heap) (L : Nat) (loose : List Str) (mean : ExcName → Option Value) (mg mb : Str → Option Value) (dr : Drawn) (os : OsState) (Q E)
    (C : CodeHd h₀ 112 108) (B : Below callerA h₀ [] h₀) (X : (Mine.hd.heap_39 w.params).In h₀) (T : Top PySem.W.topProg loose mean mg mb h₀) (hT : 108 < L)
    (tail : Tail2c w cn L fa cd h₀ dr os Q E) : Tail2b w cn L fa cd h₀ dr os Q E := law_told2.seg9.2 ⟨law_told2.all9⟩ w cn fa cd h₀ L loose mean mg mb dr os Q E C B X T hT tail

end Mine
namespace Mine
theorem reset_law2d : True := by
  w_top off
  trivial
theorem mark_small : ∀ szs ∈ shapes2, ∀ f1 ∈ figs1, ∀ f2 ∈ figs1, ∀ f3 ∈ figs1, markF 0 szs [f1, f2, f3] < 16 ^ 10 := by decide +kernel
theorem shape2_small : ∀ szs ∈ shapes2, (1 ≤ szs.length ∧ szs.length ≤ 3) ∧ (∀ a ∈ szs, 1 ≤ a ∧ a ≤ 2) ∧ szs.sum ≤ 6 := by decide +kernel
theorem figs1_le : ∀ a ∈ figs1, a ≤ 15 := by decide +kernel
theorem sum_cast : ∀ l : List Nat, (l.map fun (x : Nat) => (x : Int)).sum = ((l.sum : Nat) : Int)
  | [] => rfl
  | a :: r => by rw [List.map_cons, List.sum_cons, sum_cast r, List.sum_cons, Int.natCast_add]
/-- what stands behind the number, the length and the number's word -/
noncomputable abbrev Tail2d (w : World) (cn : Str) (L : Nat) (fa : Addr) (cd : Value) (h₀ : Heap) (dr : Drawn) (os : OsState) (Q : Flow → Shared → Prop) (E : Value → Shared → Prop) : Prop :=
  ∀ (szs : List Nat) (f1 f2 f3 : Nat) (P : LexP) {ls lf : Nat} {ks kf qe : Nat} {ln : Int} {wz wf : List Value} {led : List (Addr × Obj)} {ps : Array Value} {oL : Obj} {g' : Array GenState} {h' : Heap} {tk' : Nat} {tw tn tl : Tok} {m' : Str → Option Value},
    szs ∈ shapes2 → f1 ∈ figs1 → f2 ∈ figs1 → f3 ∈ figs1 → AllBare g' → P.Ok → LexSt w P ln [] [] qe led → oL.data = .cell (some (.ref P.x)) →
    IntsAre wz (szs.map fun (x : Nat) => (x : Int)) → IntsAre wf ([f1, f2, f3].map fun (x : Nat) => (x : Int)) →
    L + 1 < lf → lf < P.ce → P.pb < ls →
    Fr h₀ L h' (mB [(Str.ofString "length", .int ((1 + szs.sum : Nat) : Int) tl), (Str.ofString "number", .int (markF 0 szs [f1, f2, f3] : Int) tn), (Str.ofString "sizes", .ref ls), (Str.ofString "figures", .ref lf)] m') → News h₀ L h' (led ++ [(ls, listOf wz.toArray ks), (lf, listOf wf.toArray kf), (L + 1, oL), (108, tabObj ps)]) →
    wpAny (model PySem.Challenge.rw_wn0028_02.prog w) (lawTop2 cn L fa cd) (call (.ref 155) [.ref P.x, .str (mkS (wordF (markF 0 szs [f1, f2, f3]))) tw]) (fun v s₁ => wpAny (model PySem.Challenge.rw_wn0028_02.prog w) (lawTop2 cn L fa cd) (assign lawTs.1 (lawEnv2 cn L fa cd) v) (fun _ s' => wpAny (model PySem.Challenge.rw_wn0028_02.prog w) (lawTop2 cn L fa cd) (execs (lawBs.1.drop 14) (lawEnv2 cn L fa cd)) Q E s') E s₁) E ⟨h', g', dr, tk', os⟩
namespace law_numA
set_option maxRecDepth 100000 in
set_option maxHeartbeats 8000000 in
noncomputable def seg9 : {p : PySem.World → PySem.Str → PySem.Addr → PySem.Value → PySem.Heap → Nat → (List PySem.Str) → (PySem.ExcName → Option PySem.Value) → (PySem.Str → Option PySem.Value) → (PySem.Str → Option PySem.Value) → PySem.Drawn → PySem.OsState → (PySem.Flow → PySem.Shared → Prop) → (PySem.Value → PySem.Shared → Prop) → (List Nat) → Nat → Nat → Nat → Nat → Nat → Nat → Nat → Nat → Int → (List PySem.Value) → (List PySem.Value) → (Array PySem.Value) → PySem.Obj → (Array PySem.GenState) → PySem.Heap → Nat → (PySem.Str → Option PySem.Value) → PySem.Tok → (List PySem.Value) → Nat → Nat → Nat → Nat → Nat → Nat → Nat → Nat → Nat → Nat → Nat → PySem.Tok → PySem.Tok → PySem.Tok → PySem.Tok → PySem.Tok → PySem.Tok → PySem.Tok → PySem.Tok → PySem.Tok → PySem.Tok → PySem.Tok → PySem.Tok → PySem.Value → PySem.Value → PySem.Obj → PySem.Obj → (Array PySem.Value) → PySem.Tok → Prop // Hid (∀ a0 a1 a2 a3 a4 a5 a6 a7 a8 a9 a10 a11 a12 a13 a14 a15 a16 a17 a18 a19 a20 a21 a22 a23 a24 a25 a26 a27 a28 a29 a30 a31 a32 a33 a34 a35 a36 a37 a38 a39 a40 a41 a42 a43 a44 a45 a46 a47 a48 a49 a50 a51 a52 a53 a54 a55 a56 a57 a58 a59 a60 a61 a62, p a0 a1 a2 a3 a4 a5 a6 a7 a8 a9 a10 a11 a12 a13 a14 a15 a16 a17 a18 a19 a20 a21 a22 a23 a24 a25 a26 a27 a28 a29 a30 a31 a32 a33 a34 a35 a36 a37 a38 a39 a40 a41 a42 a43 a44 a45 a46 a47 a48 a49 a50 a51 a52 a53 a54 a55 a56 a57 a58 a59 a60 a61 a62) → ∀ (w : World) (cn : Str) (fa : Addr) (cd : Value) (h₀ : Heap) (L : Nat) (loose : List Str) (mean : ExcName → Option Value) (mg mb : Str → Option Value) (dr : Drawn) (os : OsState) (Q E) (C : CodeHd h₀ 112 108) (B : Below callerA h₀ [] h₀) (X : (Mine.hd.heap_39 w.params).In h₀) (T : Top PySem.W.topProg loose mean mg mb h₀) (hT : 108 < L) (tail : Tail2d w cn L fa cd h₀ dr os Q E), Tail2c w cn L fa cd h₀ dr os Q E} := segOf (by
  intro ht9
  intro w cn fa cd h₀ L loose mean mg mb dr os Q E C B X T hT tail
  intro szs f1 f2 f3 P ls lf ks kf qe ln wz wf led ps oL g' h' tk' m' hsz hf1 hf2 hf3 hb ok st dL hiz hif l1 l2 l3 F N
  dsimp only [mB] at F
  dsimp only [lawEnv2, lawTop2, lawBs, lawSs, List.drop]
  obtain ⟨⟨hz1, hz2⟩, hz3, hz4⟩ := shape2_small szs hsz
  have hm9 := mark_small szs hsz f1 hf1 f2 hf2 f3 hf3
  have hf9 : ∀ a ∈ [f1, f2, f3], a ≤ 15 := by
    intro a ha
    simp only [List.mem_cons, List.not_mem_nil, or_false] at ha
    rcases ha with rfl | rfl | rfl
    · exact figs1_le _ hf1
    · exact figs1_le _ hf2
    · exact figs1_le _ hf3
  have ok' := ok
  obtain ⟨tl, sv, se, hs, rfl⟩ := st
  obtain ⟨x, d, pb, fn, cc, x1, d1, sg, ce, pb1, q1, q2, q3, q4, tw, u1, u2, u3, u4, u5, v1, vw, ct, pm, oc, oC, vs, tq⟩ := P
  obtain ⟨⟨o1, o2, o3, o4, o5, o6, o7, o8⟩, hcode, hname, hcell⟩ := ok
  dsimp only [lexLed] at *
  simp only [List.cons_append, List.nil_append] at N
  clear C hT hz4 hcode hname hcell o1 o2 o3 o4 o5 o6 o7 o8
  revert B X T tail hsz hf1 hf2 hf3 hb hiz hif l1 F hz1 hz2 hz3 hm9 hf9 hs dL l2 l3 ok' N
  exact ht9.out w cn fa cd h₀ L loose mean mg mb dr os Q E szs f1 f2 f3 ls lf ks kf qe ln wz wf ps oL g' h' tk' m' tl sv se x d pb fn cc x1 d1 sg ce pb1 q1 q2 q3 q4 tw u1 u2 u3 u4 u5 v1 vw ct pm oc oC vs tq
)
noncomputable def G9 (d : PySem.World × PySem.Str × PySem.Addr × PySem.Value × PySem.Heap × Nat × (List PySem.Str) × (PySem.ExcName → Option PySem.Value) × (PySem.Str → Option PySem.Value) × (PySem.Str → Option PySem.Value) × PySem.Drawn × PySem.OsState × (PySem.Flow → PySem.Shared → Prop) × (PySem.Value → PySem.Shared → Prop) × (List Nat) × Nat × Nat × Nat × Nat × Nat × Nat × Nat × Nat × Int × (List PySem.Value) × (List PySem.Value) × (Array PySem.Value) × PySem.Obj × (Array PySem.GenState) × PySem.Heap × Nat × (PySem.Str → Option PySem.Value) × PySem.Tok × (List PySem.Value) × Nat × Nat × Nat × Nat × Nat × Nat × Nat × Nat × Nat × Nat × Nat × PySem.Tok × PySem.Tok × PySem.Tok × PySem.Tok × PySem.Tok × PySem.Tok × PySem.Tok × PySem.Tok × PySem.Tok × PySem.Tok × PySem.Tok × PySem.Tok × PySem.Value × PySem.Value × PySem.Obj × PySem.Obj × (Array PySem.Value) × PySem.Tok) : Prop := seg9.1 d.1 d.2.1 d.2.2.1 d.2.2.2.1 d.2.2.2.2.1 d.2.2.2.2.2.1 d.2.2.2.2.2.2.1 d.2.2.2.2.2.2.2.1 d.2.2.2.2.2.2.2.2.1 d.2.2.2.2.2.2.2.2.2.1 d.2.2.2.2.2.2.2.2.2.2.1 d.2.2.2.2.2.2.2.2.2.2.2.1 d.2.2.2.2.2.2.2.2.2.2.2.2.1 d.2.2.2.2.2.2.2.2.2.2.2.2.2.1 d.2.2.2.2.2.2.2.2.2.2.2.2.2.2.1 d.2.2.2.2.2.2.2.2.2.2.2.2.2.2.2.1 d.2.2.2.2.2.2.2.2.2.2.2.2.2.2.2.2.1 d.2.2.2.2.2.2.2.2.2.2.2.2.2.2.2.2.2.1 d.2.2.2.2.2.2.2.2.2.2.2.2.2.2.2.2.2.2.1 d.2.2.2.2.2.2.2.2.2.2.2.2.2.2.2.2.2.2.2.1 d.2.2.2.2.2.2.2.2.2.2.2.2.2.2.2.2.2.2.2.2.1 d.2.2.2.2.2.2.2.2.2.2.2.2.2.2.2.2.2.2.2.2.2.1 d.2.2.2.2.2.2.2.2.2.2.2.2.2.2.2.2.2.2.2.2.2.2.1 d.2.2.2.2.2.2.2.2.2.2.2.2.2.2.2.2.2.2.2.2.2.2.2.1 d.2.2.2.2.2.2.2.2.2.2.2.2.2.2.2.2.2.2.2.2.2.2.2.2.1 d.2.2.2.2.2.2.2.2.2.2.2.2.2.2.2.2.2.2.2.2.2.2.2.2.2.1 d.2.2.2.2.2.2.2.2.2.2.2.2.2.2.2.2.2.2.2.2.2.2.2.2.2.2.1 d.2.2.2.2.2.2.2.2.2.2.2.2.2.2.2.2.2.2.2.2.2.2.2.2.2.2.2.1 d.2.2.2.2.2.2.2.2.2.2.2.2.2.2.2.2.2.2.2.2.2.2.2.2.2.2.2.2.1 d.2.2.2.2.2.2.2.2.2.2.2.2.2.2.2.2.2.2.2.2.2.2.2.2.2.2.2.2.2.1 d.2.2.2.2.2.2.2.2.2.2.2.2.2.2.2.2.2.2.2.2.2.2.2.2.2.2.2.2.2.2.1 d.2.2.2.2.2.2.2.2.2.2.2.2.2.2.2.2.2.2.2.2.2.2.2.2.2.2.2.2.2.2.2.1 d.2.2.2.2.2.2.2.2.2.2.2.2.2.2.2.2.2.2.2.2.2.2.2.2.2.2.2.2.2.2.2.2.1 d.2.2.2.2.2.2.2.2.2.2.2.2.2.2.2.2.2.2.2.2.2.2.2.2.2.2.2.2.2.2.2.2.2.1 d.2.2.2.2.2.2.2.2.2.2.2.2.2.2.2.2.2.2.2.2.2.2.2.2.2.2.2.2.2.2.2.2.2.2.1 d.2.2.2.2.2.2.2.2.2.2.2.2.2.2.2.2.2.2.2.2.2.2.2.2.2.2.2.2.2.2.2.2.2.2.2.1 d.2.2.2.2.2.2.2.2.2.2.2.2.2.2.2.2.2.2.2.2.2.2.2.2.2.2.2.2.2.2.2.2.2.2.2.2.1 d.2.2.2.2.2.2.2.2.2.2.2.2.2.2.2.2.2.2.2.2.2.2.2.2.2.2.2.2.2.2.2.2.2.2.2.2.2.1 d.2.2.2.2.2.2.2.2.2.2.2.2.2.2.2.2.2.2.2.2.2.2.2.2.2.2.2.2.2.2.2.2.2.2.2.2.2.2.1 d.2.2.2.2.2.2.2.2.2.2.2.2.2.2.2.2.2.2.2.2.2.2.2.2.2.2.2.2.2.2.2.2.2.2.2.2.2.2.2.1 d.2.2.2.2.2.2.2.2.2.2.2.2.2.2.2.2.2.2.2.2.2.2.2.2.2.2.2.2.2.2.2.2.2.2.2.2.2.2.2.2.1 d.2.2.2.2.2.2.2.2.2.2.2.2.2.2.2.2.2.2.2.2.2.2.2.2.2.2.2.2.2.2.2.2.2.2.2.2.2.2.2.2.2.1 d.2.2.2.2.2.2.2.2.2.2.2.2.2.2.2.2.2.2.2.2.2.2.2.2.2.2.2.2.2.2.2.2.2.2.2.2.2.2.2.2.2.2.1 d.2.2.2.2.2.2.2.2.2.2.2.2.2.2.2.2.2.2.2.2.2.2.2.2.2.2.2.2.2.2.2.2.2.2.2.2.2.2.2.2.2.2.2.1 d.2.2.2.2.2.2.2.2.2.2.2.2.2.2.2.2.2.2.2.2.2.2.2.2.2.2.2.2.2.2.2.2.2.2.2.2.2.2.2.2.2.2.2.2.1 d.2.2.2.2.2.2.2.2.2.2.2.2.2.2.2.2.2.2.2.2.2.2.2.2.2.2.2.2.2.2.2.2.2.2.2.2.2.2.2.2.2.2.2.2.2.1 d.2.2.2.2.2.2.2.2.2.2.2.2.2.2.2.2.2.2.2.2.2.2.2.2.2.2.2.2.2.2.2.2.2.2.2.2.2.2.2.2.2.2.2.2.2.2.1 d.2.2.2.2.2.2.2.2.2.2.2.2.2.2.2.2.2.2.2.2.2.2.2.2.2.2.2.2.2.2.2.2.2.2.2.2.2.2.2.2.2.2.2.2.2.2.2.1 d.2.2.2.2.2.2.2.2.2.2.2.2.2.2.2.2.2.2.2.2.2.2.2.2.2.2.2.2.2.2.2.2.2.2.2.2.2.2.2.2.2.2.2.2.2.2.2.2.1 d.2.2.2.2.2.2.2.2.2.2.2.2.2.2.2.2.2.2.2.2.2.2.2.2.2.2.2.2.2.2.2.2.2.2.2.2.2.2.2.2.2.2.2.2.2.2.2.2.2.1 d.2.2.2.2.2.2.2.2.2.2.2.2.2.2.2.2.2.2.2.2.2.2.2.2.2.2.2.2.2.2.2.2.2.2.2.2.2.2.2.2.2.2.2.2.2.2.2.2.2.2.1 d.2.2.2.2.2.2.2.2.2.2.2.2.2.2.2.2.2.2.2.2.2.2.2.2.2.2.2.2.2.2.2.2.2.2.2.2.2.2.2.2.2.2.2.2.2.2.2.2.2.2.2.1 d.2.2.2.2.2.2.2.2.2.2.2.2.2.2.2.2.2.2.2.2.2.2.2.2.2.2.2.2.2.2.2.2.2.2.2.2.2.2.2.2.2.2.2.2.2.2.2.2.2.2.2.2.1 d.2.2.2.2.2.2.2.2.2.2.2.2.2.2.2.2.2.2.2.2.2.2.2.2.2.2.2.2.2.2.2.2.2.2.2.2.2.2.2.2.2.2.2.2.2.2.2.2.2.2.2.2.2.1 d.2.2.2.2.2.2.2.2.2.2.2.2.2.2.2.2.2.2.2.2.2.2.2.2.2.2.2.2.2.2.2.2.2.2.2.2.2.2.2.2.2.2.2.2.2.2.2.2.2.2.2.2.2.2.1 d.2.2.2.2.2.2.2.2.2.2.2.2.2.2.2.2.2.2.2.2.2.2.2.2.2.2.2.2.2.2.2.2.2.2.2.2.2.2.2.2.2.2.2.2.2.2.2.2.2.2.2.2.2.2.2.1 d.2.2.2.2.2.2.2.2.2.2.2.2.2.2.2.2.2.2.2.2.2.2.2.2.2.2.2.2.2.2.2.2.2.2.2.2.2.2.2.2.2.2.2.2.2.2.2.2.2.2.2.2.2.2.2.2.1 d.2.2.2.2.2.2.2.2.2.2.2.2.2.2.2.2.2.2.2.2.2.2.2.2.2.2.2.2.2.2.2.2.2.2.2.2.2.2.2.2.2.2.2.2.2.2.2.2.2.2.2.2.2.2.2.2.2.1 d.2.2.2.2.2.2.2.2.2.2.2.2.2.2.2.2.2.2.2.2.2.2.2.2.2.2.2.2.2.2.2.2.2.2.2.2.2.2.2.2.2.2.2.2.2.2.2.2.2.2.2.2.2.2.2.2.2.2.1 d.2.2.2.2.2.2.2.2.2.2.2.2.2.2.2.2.2.2.2.2.2.2.2.2.2.2.2.2.2.2.2.2.2.2.2.2.2.2.2.2.2.2.2.2.2.2.2.2.2.2.2.2.2.2.2.2.2.2.2.1 d.2.2.2.2.2.2.2.2.2.2.2.2.2.2.2.2.2.2.2.2.2.2.2.2.2.2.2.2.2.2.2.2.2.2.2.2.2.2.2.2.2.2.2.2.2.2.2.2.2.2.2.2.2.2.2.2.2.2.2.2.1 d.2.2.2.2.2.2.2.2.2.2.2.2.2.2.2.2.2.2.2.2.2.2.2.2.2.2.2.2.2.2.2.2.2.2.2.2.2.2.2.2.2.2.2.2.2.2.2.2.2.2.2.2.2.2.2.2.2.2.2.2.2.1 d.2.2.2.2.2.2.2.2.2.2.2.2.2.2.2.2.2.2.2.2.2.2.2.2.2.2.2.2.2.2.2.2.2.2.2.2.2.2.2.2.2.2.2.2.2.2.2.2.2.2.2.2.2.2.2.2.2.2.2.2.2.2
noncomputable def tup9z : PySem.World × PySem.Str × PySem.Addr × PySem.Value × PySem.Heap × Nat × (List PySem.Str) × (PySem.ExcName → Option PySem.Value) × (PySem.Str → Option PySem.Value) × (PySem.Str → Option PySem.Value) × PySem.Drawn × PySem.OsState × (PySem.Flow → PySem.Shared → Prop) × (PySem.Value → PySem.Shared → Prop) × (List Nat) × Nat × Nat × Nat × Nat × Nat × Nat × Nat × Nat × Int × (List PySem.Value) × (List PySem.Value) × (Array PySem.Value) × PySem.Obj × (Array PySem.GenState) × PySem.Heap × Nat × (PySem.Str → Option PySem.Value) × PySem.Tok × (List PySem.Value) × Nat × Nat × Nat × Nat × Nat × Nat × Nat × Nat × Nat × Nat × Nat × PySem.Tok × PySem.Tok × PySem.Tok × PySem.Tok × PySem.Tok × PySem.Tok × PySem.Tok × PySem.Tok × PySem.Tok × PySem.Tok × PySem.Tok × PySem.Tok × PySem.Value × PySem.Value × PySem.Obj × PySem.Obj × (Array PySem.Value) × PySem.Tok := hen (World9, (default : Str), (0 : Nat), (default : Value), (default : Heap), (0 : Nat), [], (fun _ => none), (fun _ => none), (fun _ => none), ({} : Drawn), ({} : OsState), (fun _ => (fun _ => True)), (fun _ => (fun _ => True)), [], (0 : Nat), (0 : Nat), (0 : Nat), (0 : Nat), (0 : Nat), (0 : Nat), (0 : Nat), (0 : Nat), (0 : Int), [], [], #[], (default : Obj), #[], (default : Heap), (0 : Nat), (fun _ => none), (0 : Nat), [], (0 : Nat), (0 : Nat), (0 : Nat), (0 : Nat), (0 : Nat), (0 : Nat), (0 : Nat), (0 : Nat), (0 : Nat), (0 : Nat), (0 : Nat), (0 : Nat), (0 : Nat), (0 : Nat), (0 : Nat), (0 : Nat), (0 : Nat), (0 : Nat), (0 : Nat), (0 : Nat), (0 : Nat), (0 : Nat), (0 : Nat), (default : Value), (default : Value), (default : Obj), (default : Obj), #[], (0 : Nat)) G9
noncomputable def w : PySem.World := tup9z.1
noncomputable def cn : PySem.Str := tup9z.2.1
noncomputable def fa : PySem.Addr := tup9z.2.2.1
noncomputable def cd : PySem.Value := tup9z.2.2.2.1
noncomputable def h₀ : PySem.Heap := tup9z.2.2.2.2.1
noncomputable def L : Nat := tup9z.2.2.2.2.2.1
noncomputable def loose : List PySem.Str := tup9z.2.2.2.2.2.2.1
noncomputable def mean : PySem.ExcName → Option PySem.Value := tup9z.2.2.2.2.2.2.2.1
noncomputable def mg : PySem.Str → Option PySem.Value := tup9z.2.2.2.2.2.2.2.2.1
noncomputable def mb : PySem.Str → Option PySem.Value := tup9z.2.2.2.2.2.2.2.2.2.1
noncomputable def dr : PySem.Drawn := tup9z.2.2.2.2.2.2.2.2.2.2.1
noncomputable def os : PySem.OsState := tup9z.2.2.2.2.2.2.2.2.2.2.2.1
noncomputable def Q : PySem.Flow → PySem.Shared → Prop := tup9z.2.2.2.2.2.2.2.2.2.2.2.2.1
noncomputable def E : PySem.Value → PySem.Shared → Prop := tup9z.2.2.2.2.2.2.2.2.2.2.2.2.2.1
noncomputable def szs : List Nat := tup9z.2.2.2.2.2.2.2.2.2.2.2.2.2.2.1
noncomputable def f1 : Nat := tup9z.2.2.2.2.2.2.2.2.2.2.2.2.2.2.2.1
noncomputable def f2 : Nat := tup9z.2.2.2.2.2.2.2.2.2.2.2.2.2.2.2.2.1
noncomputable def f3 : Nat := tup9z.2.2.2.2.2.2.2.2.2.2.2.2.2.2.2.2.2.1
noncomputable def ls : Nat := tup9z.2.2.2.2.2.2.2.2.2.2.2.2.2.2.2.2.2.2.1
noncomputable def lf : Nat := tup9z.2.2.2.2.2.2.2.2.2.2.2.2.2.2.2.2.2.2.2.1
noncomputable def ks : Nat := tup9z.2.2.2.2.2.2.2.2.2.2.2.2.2.2.2.2.2.2.2.2.1
noncomputable def kf : Nat := tup9z.2.2.2.2.2.2.2.2.2.2.2.2.2.2.2.2.2.2.2.2.2.1
noncomputable def qe : Nat := tup9z.2.2.2.2.2.2.2.2.2.2.2.2.2.2.2.2.2.2.2.2.2.2.1
noncomputable def ln : Int := tup9z.2.2.2.2.2.2.2.2.2.2.2.2.2.2.2.2.2.2.2.2.2.2.2.1
noncomputable def wz : List PySem.Value := tup9z.2.2.2.2.2.2.2.2.2.2.2.2.2.2.2.2.2.2.2.2.2.2.2.2.1
noncomputable def wf : List PySem.Value := tup9z.2.2.2.2.2.2.2.2.2.2.2.2.2.2.2.2.2.2.2.2.2.2.2.2.2.1
noncomputable def ps : Array PySem.Value := tup9z.2.2.2.2.2.2.2.2.2.2.2.2.2.2.2.2.2.2.2.2.2.2.2.2.2.2.1
noncomputable def oL : PySem.Obj := tup9z.2.2.2.2.2.2.2.2.2.2.2.2.2.2.2.2.2.2.2.2.2.2.2.2.2.2.2.1
noncomputable def g' : Array PySem.GenState := tup9z.2.2.2.2.2.2.2.2.2.2.2.2.2.2.2.2.2.2.2.2.2.2.2.2.2.2.2.2.1
noncomputable def h' : PySem.Heap := tup9z.2.2.2.2.2.2.2.2.2.2.2.2.2.2.2.2.2.2.2.2.2.2.2.2.2.2.2.2.2.1
noncomputable def tk' : Nat := tup9z.2.2.2.2.2.2.2.2.2.2.2.2.2.2.2.2.2.2.2.2.2.2.2.2.2.2.2.2.2.2.1
noncomputable def m' : PySem.Str → Option PySem.Value := tup9z.2.2.2.2.2.2.2.2.2.2.2.2.2.2.2.2.2.2.2.2.2.2.2.2.2.2.2.2.2.2.2.1
noncomputable def tl : PySem.Tok := tup9z.2.2.2.2.2.2.2.2.2.2.2.2.2.2.2.2.2.2.2.2.2.2.2.2.2.2.2.2.2.2.2.2.1
noncomputable def sv : List PySem.Value := tup9z.2.2.2.2.2.2.2.2.2.2.2.2.2.2.2.2.2.2.2.2.2.2.2.2.2.2.2.2.2.2.2.2.2.1
noncomputable def se : Nat := tup9z.2.2.2.2.2.2.2.2.2.2.2.2.2.2.2.2.2.2.2.2.2.2.2.2.2.2.2.2.2.2.2.2.2.2.1
noncomputable def x : Nat := tup9z.2.2.2.2.2.2.2.2.2.2.2.2.2.2.2.2.2.2.2.2.2.2.2.2.2.2.2.2.2.2.2.2.2.2.2.1
noncomputable def d : Nat := tup9z.2.2.2.2.2.2.2.2.2.2.2.2.2.2.2.2.2.2.2.2.2.2.2.2.2.2.2.2.2.2.2.2.2.2.2.2.1
noncomputable def pb : Nat := tup9z.2.2.2.2.2.2.2.2.2.2.2.2.2.2.2.2.2.2.2.2.2.2.2.2.2.2.2.2.2.2.2.2.2.2.2.2.2.1
noncomputable def fn : Nat := tup9z.2.2.2.2.2.2.2.2.2.2.2.2.2.2.2.2.2.2.2.2.2.2.2.2.2.2.2.2.2.2.2.2.2.2.2.2.2.2.1
noncomputable def cc : Nat := tup9z.2.2.2.2.2.2.2.2.2.2.2.2.2.2.2.2.2.2.2.2.2.2.2.2.2.2.2.2.2.2.2.2.2.2.2.2.2.2.2.1
noncomputable def x1 : Nat := tup9z.2.2.2.2.2.2.2.2.2.2.2.2.2.2.2.2.2.2.2.2.2.2.2.2.2.2.2.2.2.2.2.2.2.2.2.2.2.2.2.2.1
noncomputable def d1 : Nat := tup9z.2.2.2.2.2.2.2.2.2.2.2.2.2.2.2.2.2.2.2.2.2.2.2.2.2.2.2.2.2.2.2.2.2.2.2.2.2.2.2.2.2.1
noncomputable def sg : Nat := tup9z.2.2.2.2.2.2.2.2.2.2.2.2.2.2.2.2.2.2.2.2.2.2.2.2.2.2.2.2.2.2.2.2.2.2.2.2.2.2.2.2.2.2.1
noncomputable def ce : Nat := tup9z.2.2.2.2.2.2.2.2.2.2.2.2.2.2.2.2.2.2.2.2.2.2.2.2.2.2.2.2.2.2.2.2.2.2.2.2.2.2.2.2.2.2.2.1
noncomputable def pb1 : Nat := tup9z.2.2.2.2.2.2.2.2.2.2.2.2.2.2.2.2.2.2.2.2.2.2.2.2.2.2.2.2.2.2.2.2.2.2.2.2.2.2.2.2.2.2.2.2.1
noncomputable def q1 : PySem.Tok := tup9z.2.2.2.2.2.2.2.2.2.2.2.2.2.2.2.2.2.2.2.2.2.2.2.2.2.2.2.2.2.2.2.2.2.2.2.2.2.2.2.2.2.2.2.2.2.1
noncomputable def q2 : PySem.Tok := tup9z.2.2.2.2.2.2.2.2.2.2.2.2.2.2.2.2.2.2.2.2.2.2.2.2.2.2.2.2.2.2.2.2.2.2.2.2.2.2.2.2.2.2.2.2.2.2.1
noncomputable def q3 : PySem.Tok := tup9z.2.2.2.2.2.2.2.2.2.2.2.2.2.2.2.2.2.2.2.2.2.2.2.2.2.2.2.2.2.2.2.2.2.2.2.2.2.2.2.2.2.2.2.2.2.2.2.1
noncomputable def q4 : PySem.Tok := tup9z.2.2.2.2.2.2.2.2.2.2.2.2.2.2.2.2.2.2.2.2.2.2.2.2.2.2.2.2.2.2.2.2.2.2.2.2.2.2.2.2.2.2.2.2.2.2.2.2.1
noncomputable def tw : PySem.Tok := tup9z.2.2.2.2.2.2.2.2.2.2.2.2.2.2.2.2.2.2.2.2.2.2.2.2.2.2.2.2.2.2.2.2.2.2.2.2.2.2.2.2.2.2.2.2.2.2.2.2.2.1
noncomputable def u1 : PySem.Tok := tup9z.2.2.2.2.2.2.2.2.2.2.2.2.2.2.2.2.2.2.2.2.2.2.2.2.2.2.2.2.2.2.2.2.2.2.2.2.2.2.2.2.2.2.2.2.2.2.2.2.2.2.1
noncomputable def u2 : PySem.Tok := tup9z.2.2.2.2.2.2.2.2.2.2.2.2.2.2.2.2.2.2.2.2.2.2.2.2.2.2.2.2.2.2.2.2.2.2.2.2.2.2.2.2.2.2.2.2.2.2.2.2.2.2.2.1
noncomputable def u3 : PySem.Tok := tup9z.2.2.2.2.2.2.2.2.2.2.2.2.2.2.2.2.2.2.2.2.2.2.2.2.2.2.2.2.2.2.2.2.2.2.2.2.2.2.2.2.2.2.2.2.2.2.2.2.2.2.2.2.1
noncomputable def u4 : PySem.Tok := tup9z.2.2.2.2.2.2.2.2.2.2.2.2.2.2.2.2.2.2.2.2.2.2.2.2.2.2.2.2.2.2.2.2.2.2.2.2.2.2.2.2.2.2.2.2.2.2.2.2.2.2.2.2.2.1
noncomputable def u5 : PySem.Tok := tup9z.2.2.2.2.2.2.2.2.2.2.2.2.2.2.2.2.2.2.2.2.2.2.2.2.2.2.2.2.2.2.2.2.2.2.2.2.2.2.2.2.2.2.2.2.2.2.2.2.2.2.2.2.2.2.1
noncomputable def v1 : PySem.Tok := tup9z.2.2.2.2.2.2.2.2.2.2.2.2.2.2.2.2.2.2.2.2.2.2.2.2.2.2.2.2.2.2.2.2.2.2.2.2.2.2.2.2.2.2.2.2.2.2.2.2.2.2.2.2.2.2.2.1
noncomputable def vw : PySem.Tok := tup9z.2.2.2.2.2.2.2.2.2.2.2.2.2.2.2.2.2.2.2.2.2.2.2.2.2.2.2.2.2.2.2.2.2.2.2.2.2.2.2.2.2.2.2.2.2.2.2.2.2.2.2.2.2.2.2.2.1
noncomputable def ct : PySem.Value := tup9z.2.2.2.2.2.2.2.2.2.2.2.2.2.2.2.2.2.2.2.2.2.2.2.2.2.2.2.2.2.2.2.2.2.2.2.2.2.2.2.2.2.2.2.2.2.2.2.2.2.2.2.2.2.2.2.2.2.1
noncomputable def pm : PySem.Value := tup9z.2.2.2.2.2.2.2.2.2.2.2.2.2.2.2.2.2.2.2.2.2.2.2.2.2.2.2.2.2.2.2.2.2.2.2.2.2.2.2.2.2.2.2.2.2.2.2.2.2.2.2.2.2.2.2.2.2.2.1
noncomputable def oc : PySem.Obj := tup9z.2.2.2.2.2.2.2.2.2.2.2.2.2.2.2.2.2.2.2.2.2.2.2.2.2.2.2.2.2.2.2.2.2.2.2.2.2.2.2.2.2.2.2.2.2.2.2.2.2.2.2.2.2.2.2.2.2.2.2.1
noncomputable def oC : PySem.Obj := tup9z.2.2.2.2.2.2.2.2.2.2.2.2.2.2.2.2.2.2.2.2.2.2.2.2.2.2.2.2.2.2.2.2.2.2.2.2.2.2.2.2.2.2.2.2.2.2.2.2.2.2.2.2.2.2.2.2.2.2.2.2.1
noncomputable def vs : Array PySem.Value := tup9z.2.2.2.2.2.2.2.2.2.2.2.2.2.2.2.2.2.2.2.2.2.2.2.2.2.2.2.2.2.2.2.2.2.2.2.2.2.2.2.2.2.2.2.2.2.2.2.2.2.2.2.2.2.2.2.2.2.2.2.2.2.1
noncomputable def tq : PySem.Tok := tup9z.2.2.2.2.2.2.2.2.2.2.2.2.2.2.2.2.2.2.2.2.2.2.2.2.2.2.2.2.2.2.2.2.2.2.2.2.2.2.2.2.2.2.2.2.2.2.2.2.2.2.2.2.2.2.2.2.2.2.2.2.2.2
set_option maxRecDepth 100000 in
set_option maxHeartbeats 8000000 in
theorem main9 : seg9.1 w cn fa cd h₀ L loose mean mg mb dr os Q E szs f1 f2 f3 ls lf ks kf qe ln wz wf ps oL g' h' tk' m' tl sv se x d pb fn cc x1 d1 sg ce pb1 q1 q2 q3 q4 tw u1 u2 u3 u4 u5 v1 vw ct pm oc oC vs tq := by
  delta seg9 segOf
  dsimp -zeta only
  intro B X T tail hsz hf1 hf2 hf3 hb hiz hif l1 F hz1 hz2 hz3 hm9 hf9 hs dL l2 l3 ok' N
  refine' CtrR.use (marked2 w ls lf ks kf wz wf szs [f1, f2, f3] hiz hif (by omega) (fun a ha => (hz3 a ha).2) hf9) ?kl ?k1 ?k2 ?k3 ?k4 ?k5 ?kK ?kd ?ku ?_
  ((case k1 => k_asm); (case k2 => k_asm); (case k3 => k_asm); (case k4 => k_asm); (case k5 => k_asm); (case kl => (repeat' first | exact List.forall_mem_nil _ | refine mem_cons_all ?_ ?_ | exact sub_refl | refine sub_tail ?_ | k_mem)); (case kK => first | exact rfl | assumption); (case kd => ktr_room); (case ku => ktr_units))
  intro v9 tl9 h9 tk9 hp9 hlt9 F9 N9
  obtain ⟨rfl, tn, rfl⟩ := hp9
  simp only [List.nil_append] at N9
  clear hlt9
  generalize hn : markF 0 szs [f1, f2, f3] = n at *
  k_with_none
  k_with "call ref cons nil" => refine stop_in ?_
  k_steps
  refine stop_out ?_
  refine' CtrR.use (word w (n : Int) _ 10 (by rw [Int.natAbs_natCast]; omega) (by decide)) ?kl ?k1 ?k2 ?k3 ?k4 ?k5 ?kK ?kd ?ku ?_
  ((case k1 => k_asm); (case k2 => k_asm); (case k3 => k_asm); (case k4 => k_asm); (case k5 => k_asm); (case kl => (repeat' first | exact List.forall_mem_nil _ | refine mem_cons_all ?_ ?_ | exact sub_refl | refine sub_tail ?_ | k_mem)); (case kK => first | exact rfl | assumption); (case kd => ktr_room); (case ku => ktr_units))
  intro v7 tl7 h7 tk7 hp7 hlt7 F7 N7
  obtain ⟨rfl, fs, tf, rfl, hfs⟩ := hp7
  simp only [List.nil_append] at N7
  clear hlt7
  rw [Int.natAbs_natCast] at hfs
  obtain rfl := str_of_list hfs
  k_steps
  refine stop_out ?_
  have e9 : (1 : Int) + (szs.map fun (a : Nat) => (a : Int)).sum = ((1 + szs.sum : Nat) : Int) := by rw [sum_cast, Int.natCast_add]; rfl
  rw [e9] at F7
  subst hn
  refine' tail (ln := ln) (qe := qe) szs f1 f2 f3 ⟨x, d, pb, fn, cc, x1, d1, sg, ce, pb1, q1, q2, q3, q4, tw, u1, u2, u3, u4, u5, v1, vw, ct, pm, oc, oC, vs, tq⟩ hsz hf1 hf2 hf3 hb ok' ⟨tl, sv, se, hs, rfl⟩ dL hiz hif l1 l2 l3 ?qb ?qc
  case qc =>
    refine news_of N7 ?_
    dsimp only [lexLed]
    simp only [List.cons_append, List.nil_append]
    (repeat' first | exact List.forall_mem_nil _ | refine mem_cons_all ?_ ?_ | exact sub_refl | refine sub_tail ?_ | k_mem)
  case qb => exact fr_mB F7 (by exact ⟨rfl, rfl, rfl, rfl, trivial⟩)

set_option maxRecDepth 100000 in
set_option maxHeartbeats 8000000 in
theorem all9 : ∀ a0 a1 a2 a3 a4 a5 a6 a7 a8 a9 a10 a11 a12 a13 a14 a15 a16 a17 a18 a19 a20 a21 a22 a23 a24 a25 a26 a27 a28 a29 a30 a31 a32 a33 a34 a35 a36 a37 a38 a39 a40 a41 a42 a43 a44 a45 a46 a47 a48 a49 a50 a51 a52 a53 a54 a55 a56 a57 a58 a59 a60 a61 a62, seg9.1 a0 a1 a2 a3 a4 a5 a6 a7 a8 a9 a10 a11 a12 a13 a14 a15 a16 a17 a18 a19 a20 a21 a22 a23 a24 a25 a26 a27 a28 a29 a30 a31 a32 a33 a34 a35 a36 a37 a38 a39 a40 a41 a42 a43 a44 a45 a46 a47 a48 a49 a50 a51 a52 a53 a54 a55 a56 a57 a58 a59 a60 a61 a62 := fun a0 a1 a2 a3 a4 a5 a6 a7 a8 a9 a10 a11 a12 a13 a14 a15 a16 a17 a18 a19 a20 a21 a22 a23 a24 a25 a26 a27 a28 a29 a30 a31 a32 a33 a34 a35 a36 a37 a38 a39 a40 a41 a42 a43 a44 a45 a46 a47 a48 a49 a50 a51 a52 a53 a54 a55 a56 a57 a58 a59 a60 a61 a62 => hen_all (G := G9) main9 (a0, a1, a2, a3, a4, a5, a6, a7, a8, a9, a10, a11, a12, a13, a14, a15, a16, a17, a18, a19, a20, a21, a22, a23, a24, a25, a26, a27, a28, a29, a30, a31, a32, a33, a34, a35, a36, a37, a38, a39, a40, a41, a42, a43, a44, a45, a46, a47, a48, a49, a50, a51, a52, a53, a54, a55, a56, a57, a58, a59, a60, a61, a62)
end law_numA
theorem law2_num (w : World) (cn : Str) (fa : Addr) (cd : Value) (h₀ : Heap) (L : Nat) (loose : List Str) (mean : ExcName → Option Value) (mg mb : Str → Option Value) (dr : Drawn) (os : OsState) (Q E)
    (C : CodeHd h₀ 112 108) (B : Below callerA h₀ [] h₀) (X : (Mine.hd.heap_39 w.params).In h₀) (T : Top PySem.W.topProg loose mean mg mb h₀) (hT : 108 < L)
    (tail : Tail2d w cn L fa cd h₀ dr os Q E) : Tail2c w cn L fa cd h₀ dr os Q E := law_numA.seg9.2 ⟨law_numA.all9⟩ w cn fa cd h₀ L loose mean mg mb dr os Q E C B X T hT tail

end Mine
namespace Mine
theorem reset_strcoll : True := by
  w_top off
  trivial
/-- what _strcoll tells -/
noncomputable def collZ (x y : Str) : Int := b2i (decide (y.cps.toList < x.cps.toList)) - b2i (decide (x.cps.toList < y.cps.toList))
set_option maxRecDepth 100000 in
set_option maxHeartbeats 4000000 in
theorem strcoll (w : World) (x y : Str) (t u : Tok) :
   CtrR PySem.Challenge.rw_wn0028_02.prog w (Mine.hd.heap_39 w.params) PySem.W.topProg 1 8 28 [.str x t, .str y u] [] (fun v tl => tl = [] ∧ ∃ tk, v = .int (collZ x y) tk) := by
   intro loose mean mg mb rest dp un gd cn cs a ccd cl outer A₀ base h₀ L m s R hled B F₀ X N₀ T hk hd hu hret
   k_with_none
   k_dflt cell_enter
   k_steps
   exact hret _ [] _ _ ⟨rfl, _, rfl⟩ (fun _ _ _ h => nomatch h) (by k_asm) (by k_asm)

end Mine
namespace Mine
theorem reset_entered2 : True := by
  w_top off
  trivial
theorem fits_ix {p : Nat} (h : p ≤ 1000) : Builtin.List.listFitsIndex (p : Int) = true := by
  unfold Builtin.List.listFitsIndex
  simp
  omega
theorem collZ_one (x y : List Nat) : (y < x → collZ (mkS x) (mkS y) = 1) ∧ (¬ y < x → x < y → collZ (mkS x) (mkS y) = -1) ∧ (¬ y < x → ¬ x < y → collZ (mkS x) (mkS y) = 0) := by
  unfold collZ
  rw [mkS_cps, mkS_cps]
  refine ⟨fun h => ?_, fun h1 h2 => ?_, fun h1 h2 => ?_⟩
  · have h2 : ¬ x < y := fun q => List.lt_irrefl _ (List.lt_trans h q)
    rw [decide_eq_true h, decide_eq_false h2]; rfl
  · rw [decide_eq_false h1, decide_eq_true h2]; rfl
  · rw [decide_eq_false h1, decide_eq_false h2]; rfl
namespace enteredA
set_option maxRecDepth 100000 in
set_option maxHeartbeats 4000000 in
noncomputable def seg9 : {p : PySem.World → PySem.Addr → (List PySem.Value) → Nat → (List (List Nat)) → (List Nat) → PySem.Tok → Nat → (List PySem.Str) → (PySem.ExcName → Option PySem.Value) → (PySem.Str → Option PySem.Value) → (PySem.Str → Option PySem.Value) → (List (PySem.Addr × PySem.Obj)) → Nat → Nat → (Option (List PySem.Code)) → PySem.Str → PySem.Scope → PySem.Addr → PySem.Value → (List (PySem.Str × PySem.Addr)) → (List PySem.Env) → PySem.Around → PySem.Heap → PySem.Heap → PySem.Addr → (PySem.Str → Option PySem.Value) → PySem.Shared → (PySem.Result → PySem.Shared → Prop) → PySem.Heap → PySem.Addr → PySem.Heap → Nat → PySem.Heap → PySem.Heap → Nat → Prop // Hid (∀ a0 a1 a2 a3 a4 a5 a6 a7 a8 a9 a10 a11 a12 a13 a14 a15 a16 a17 a18 a19 a20 a21 a22 a23 a24 a25 a26 a27 a28 a29 a30 a31 a32 a33 a34 a35, p a0 a1 a2 a3 a4 a5 a6 a7 a8 a9 a10 a11 a12 a13 a14 a15 a16 a17 a18 a19 a20 a21 a22 a23 a24 a25 a26 a27 a28 a29 a30 a31 a32 a33 a34 a35) → ∀ (w : World) (bk : Addr) (its : List Value) (c : Nat) (book : List (List Nat)) (hb : StrsAre its (book.map mkS)) (hz : book.length ≤ 100) (wd : List Nat) (t : Tok) (f : Nat) (r : Option Nat) (hE : entGo book wd f 0 book.length = some r), Ctr (fun _ => True) PySem.Challenge.rw_wn0028_02.prog w (Mine.hd.heap_39 w.params) PySem.W.topProg 3 30 148 [.ref bk, .str (mkS wd) t] [(bk, listOf its.toArray c)] (fun v led tl => tl = [] ∧ (∃ its' c', led = [(bk, listOf its'.toArray c')] ∧ StrsAre its' ((entOut book wd r).map mkS)) ∧ v = .bool r.isSome)} := segOf (by
   intro ht9
   intro w bk its c book hb hz wd t f r hE
   intro loose mean mg mb rest dp un gd cn cs aa ccd cl outer A₀ base h₀ L m s R hpre hoff B F₀ X N₀ T hk hd hu hret
   have hoff1 : ∀ q ∈ rest, q.1 ≠ bk := hoff _ (.head _)
   simp only [List.cons_append, List.nil_append] at N₀
   have hlen : its.length = book.length := by rw [strs_len hb, List.length_map]
   k_with_none
   k_with "call builtin:len cons nil" => refine len_list (by is_list) (by rw [List.size_toArray]; omega) ?_
   k_with "exec While Compare cons nil" => refine stop_in ?_
   k_dflt cell_enter
   k_steps
   refine stop_out ?_
   rename_i z1 z2 z3 y4 y5 y6 y7 z8 z9 z10 y11 y12
   clear hpre hoff B F₀ N₀ hk y4
   revert hb hz r hE X T hd hu hret hoff1 hlen y5 y6 y7 qk ek y11 y12
   exact ht9.out w bk its c book wd t f loose mean mg mb rest dp un gd cn cs aa ccd cl outer A₀ base h₀ L m s R z1 z2 z3 z8 z9 z10 tk
)
noncomputable def G9 (d : PySem.World × PySem.Addr × (List PySem.Value) × Nat × (List (List Nat)) × (List Nat) × PySem.Tok × Nat × (List PySem.Str) × (PySem.ExcName → Option PySem.Value) × (PySem.Str → Option PySem.Value) × (PySem.Str → Option PySem.Value) × (List (PySem.Addr × PySem.Obj)) × Nat × Nat × (Option (List PySem.Code)) × PySem.Str × PySem.Scope × PySem.Addr × PySem.Value × (List (PySem.Str × PySem.Addr)) × (List PySem.Env) × PySem.Around × PySem.Heap × PySem.Heap × PySem.Addr × (PySem.Str → Option PySem.Value) × PySem.Shared × (PySem.Result → PySem.Shared → Prop) × PySem.Heap × PySem.Addr × PySem.Heap × Nat × PySem.Heap × PySem.Heap × Nat) : Prop := seg9.1 d.1 d.2.1 d.2.2.1 d.2.2.2.1 d.2.2.2.2.1 d.2.2.2.2.2.1 d.2.2.2.2.2.2.1 d.2.2.2.2.2.2.2.1 d.2.2.2.2.2.2.2.2.1 d.2.2.2.2.2.2.2.2.2.1 d.2.2.2.2.2.2.2.2.2.2.1 d.2.2.2.2.2.2.2.2.2.2.2.1 d.2.2.2.2.2.2.2.2.2.2.2.2.1 d.2.2.2.2.2.2.2.2.2.2.2.2.2.1 d.2.2.2.2.2.2.2.2.2.2.2.2.2.2.1 d.2.2.2.2.2.2.2.2.2.2.2.2.2.2.2.1 d.2.2.2.2.2.2.2.2.2.2.2.2.2.2.2.2.1 d.2.2.2.2.2.2.2.2.2.2.2.2.2.2.2.2.2.1 d.2.2.2.2.2.2.2.2.2.2.2.2.2.2.2.2.2.2.1 d.2.2.2.2.2.2.2.2.2.2.2.2.2.2.2.2.2.2.2.1 d.2.2.2.2.2.2.2.2.2.2.2.2.2.2.2.2.2.2.2.2.1 d.2.2.2.2.2.2.2.2.2.2.2.2.2.2.2.2.2.2.2.2.2.1 d.2.2.2.2.2.2.2.2.2.2.2.2.2.2.2.2.2.2.2.2.2.2.1 d.2.2.2.2.2.2.2.2.2.2.2.2.2.2.2.2.2.2.2.2.2.2.2.1 d.2.2.2.2.2.2.2.2.2.2.2.2.2.2.2.2.2.2.2.2.2.2.2.2.1 d.2.2.2.2.2.2.2.2.2.2.2.2.2.2.2.2.2.2.2.2.2.2.2.2.2.1 d.2.2.2.2.2.2.2.2.2.2.2.2.2.2.2.2.2.2.2.2.2.2.2.2.2.2.1 d.2.2.2.2.2.2.2.2.2.2.2.2.2.2.2.2.2.2.2.2.2.2.2.2.2.2.2.1 d.2.2.2.2.2.2.2.2.2.2.2.2.2.2.2.2.2.2.2.2.2.2.2.2.2.2.2.2.1 d.2.2.2.2.2.2.2.2.2.2.2.2.2.2.2.2.2.2.2.2.2.2.2.2.2.2.2.2.2.1 d.2.2.2.2.2.2.2.2.2.2.2.2.2.2.2.2.2.2.2.2.2.2.2.2.2.2.2.2.2.2.1 d.2.2.2.2.2.2.2.2.2.2.2.2.2.2.2.2.2.2.2.2.2.2.2.2.2.2.2.2.2.2.2.1 d.2.2.2.2.2.2.2.2.2.2.2.2.2.2.2.2.2.2.2.2.2.2.2.2.2.2.2.2.2.2.2.2.1 d.2.2.2.2.2.2.2.2.2.2.2.2.2.2.2.2.2.2.2.2.2.2.2.2.2.2.2.2.2.2.2.2.2.1 d.2.2.2.2.2.2.2.2.2.2.2.2.2.2.2.2.2.2.2.2.2.2.2.2.2.2.2.2.2.2.2.2.2.2.1 d.2.2.2.2.2.2.2.2.2.2.2.2.2.2.2.2.2.2.2.2.2.2.2.2.2.2.2.2.2.2.2.2.2.2.2
noncomputable def tup9z : PySem.World × PySem.Addr × (List PySem.Value) × Nat × (List (List Nat)) × (List Nat) × PySem.Tok × Nat × (List PySem.Str) × (PySem.ExcName → Option PySem.Value) × (PySem.Str → Option PySem.Value) × (PySem.Str → Option PySem.Value) × (List (PySem.Addr × PySem.Obj)) × Nat × Nat × (Option (List PySem.Code)) × PySem.Str × PySem.Scope × PySem.Addr × PySem.Value × (List (PySem.Str × PySem.Addr)) × (List PySem.Env) × PySem.Around × PySem.Heap × PySem.Heap × PySem.Addr × (PySem.Str → Option PySem.Value) × PySem.Shared × (PySem.Result → PySem.Shared → Prop) × PySem.Heap × PySem.Addr × PySem.Heap × Nat × PySem.Heap × PySem.Heap × Nat := hen (World9, (0 : Nat), [], (0 : Nat), [], [], (0 : Nat), (0 : Nat), [], (fun _ => none), (fun _ => none), (fun _ => none), [], (0 : Nat), (0 : Nat), none, (default : Str), (default : Scope), (0 : Nat), (default : Value), [], [], ({} : Around), (default : Heap), (default : Heap), (0 : Nat), (fun _ => none), ({} : Shared), (fun _ => (fun _ => True)), (default : Heap), (0 : Nat), (default : Heap), (0 : Nat), (default : Heap), (default : Heap), (0 : Nat)) G9
noncomputable def w : PySem.World := tup9z.1
noncomputable def bk : PySem.Addr := tup9z.2.1
noncomputable def its : List PySem.Value := tup9z.2.2.1
noncomputable def c : Nat := tup9z.2.2.2.1
noncomputable def book : List (List Nat) := tup9z.2.2.2.2.1
noncomputable def wd : List Nat := tup9z.2.2.2.2.2.1
noncomputable def t : PySem.Tok := tup9z.2.2.2.2.2.2.1
noncomputable def f : Nat := tup9z.2.2.2.2.2.2.2.1
noncomputable def loose : List PySem.Str := tup9z.2.2.2.2.2.2.2.2.1
noncomputable def mean : PySem.ExcName → Option PySem.Value := tup9z.2.2.2.2.2.2.2.2.2.1
noncomputable def mg : PySem.Str → Option PySem.Value := tup9z.2.2.2.2.2.2.2.2.2.2.1
noncomputable def mb : PySem.Str → Option PySem.Value := tup9z.2.2.2.2.2.2.2.2.2.2.2.1
noncomputable def rest : List (PySem.Addr × PySem.Obj) := tup9z.2.2.2.2.2.2.2.2.2.2.2.2.1
noncomputable def dp : Nat := tup9z.2.2.2.2.2.2.2.2.2.2.2.2.2.1
noncomputable def un : Nat := tup9z.2.2.2.2.2.2.2.2.2.2.2.2.2.2.1
noncomputable def gd : Option (List PySem.Code) := tup9z.2.2.2.2.2.2.2.2.2.2.2.2.2.2.2.1
noncomputable def cn : PySem.Str := tup9z.2.2.2.2.2.2.2.2.2.2.2.2.2.2.2.2.1
noncomputable def cs : PySem.Scope := tup9z.2.2.2.2.2.2.2.2.2.2.2.2.2.2.2.2.2.1
noncomputable def aa : PySem.Addr := tup9z.2.2.2.2.2.2.2.2.2.2.2.2.2.2.2.2.2.2.1
noncomputable def ccd : PySem.Value := tup9z.2.2.2.2.2.2.2.2.2.2.2.2.2.2.2.2.2.2.2.1
noncomputable def cl : List (PySem.Str × PySem.Addr) := tup9z.2.2.2.2.2.2.2.2.2.2.2.2.2.2.2.2.2.2.2.2.1
noncomputable def outer : List PySem.Env := tup9z.2.2.2.2.2.2.2.2.2.2.2.2.2.2.2.2.2.2.2.2.2.1
noncomputable def A₀ : PySem.Around := tup9z.2.2.2.2.2.2.2.2.2.2.2.2.2.2.2.2.2.2.2.2.2.2.1
noncomputable def base : PySem.Heap := tup9z.2.2.2.2.2.2.2.2.2.2.2.2.2.2.2.2.2.2.2.2.2.2.2.1
noncomputable def h₀ : PySem.Heap := tup9z.2.2.2.2.2.2.2.2.2.2.2.2.2.2.2.2.2.2.2.2.2.2.2.2.1
noncomputable def L : PySem.Addr := tup9z.2.2.2.2.2.2.2.2.2.2.2.2.2.2.2.2.2.2.2.2.2.2.2.2.2.1
noncomputable def m : PySem.Str → Option PySem.Value := tup9z.2.2.2.2.2.2.2.2.2.2.2.2.2.2.2.2.2.2.2.2.2.2.2.2.2.2.1
noncomputable def s : PySem.Shared := tup9z.2.2.2.2.2.2.2.2.2.2.2.2.2.2.2.2.2.2.2.2.2.2.2.2.2.2.2.1
noncomputable def R : PySem.Result → PySem.Shared → Prop := tup9z.2.2.2.2.2.2.2.2.2.2.2.2.2.2.2.2.2.2.2.2.2.2.2.2.2.2.2.2.1
noncomputable def z1 : PySem.Heap := tup9z.2.2.2.2.2.2.2.2.2.2.2.2.2.2.2.2.2.2.2.2.2.2.2.2.2.2.2.2.2.1
noncomputable def z2 : PySem.Addr := tup9z.2.2.2.2.2.2.2.2.2.2.2.2.2.2.2.2.2.2.2.2.2.2.2.2.2.2.2.2.2.2.1
noncomputable def z3 : PySem.Heap := tup9z.2.2.2.2.2.2.2.2.2.2.2.2.2.2.2.2.2.2.2.2.2.2.2.2.2.2.2.2.2.2.2.1
noncomputable def z8 : Nat := tup9z.2.2.2.2.2.2.2.2.2.2.2.2.2.2.2.2.2.2.2.2.2.2.2.2.2.2.2.2.2.2.2.2.1
noncomputable def z9 : PySem.Heap := tup9z.2.2.2.2.2.2.2.2.2.2.2.2.2.2.2.2.2.2.2.2.2.2.2.2.2.2.2.2.2.2.2.2.2.1
noncomputable def z10 : PySem.Heap := tup9z.2.2.2.2.2.2.2.2.2.2.2.2.2.2.2.2.2.2.2.2.2.2.2.2.2.2.2.2.2.2.2.2.2.2.1
noncomputable def tk : Nat := tup9z.2.2.2.2.2.2.2.2.2.2.2.2.2.2.2.2.2.2.2.2.2.2.2.2.2.2.2.2.2.2.2.2.2.2.2
set_option maxRecDepth 100000 in
set_option maxHeartbeats 4000000 in
theorem main9 : seg9.1 w bk its c book wd t f loose mean mg mb rest dp un gd cn cs aa ccd cl outer A₀ base h₀ L m s R z1 z2 z3 z8 z9 z10 tk := by
   delta seg9 segOf
   dsimp -zeta only
   intro hb hz r hE X T hd hu hret hoff1 hlen y5 y6 y7 qk ek y11 y12
   refine while_st (σ := Nat × Tok × Nat × Tok) (env := envOf _ _ _ _ _) (fun y => [(Str.ofString "book", .ref bk), (Str.ofString "word", .str (mkS wd) t), (Str.ofString "low", .int (y.1 : Int) y.2.1), (Str.ofString "high", .int (y.2.2.1 : Int) y.2.2.2)]) (fun _ => (bk, listOf its.toArray c) :: rest) (fun n y => y.1 ≤ y.2.2.1 ∧ y.2.2.1 ≤ book.length ∧ entGo book wd n y.1 y.2.2.1 = some r) f (0, _, book.length, _) (by k_asm) (by k_asm) (by rw [← hlen]; exact ⟨rfl, rfl, rfl, rfl, trivial⟩) (fun p hp => hp) ⟨Nat.zero_le _, Nat.le_refl _, hE⟩ ?_
   intro n y h tk m₁ hok F N
   obtain ⟨lo, tlo, hi, thi⟩ := y
   obtain ⟨h1, h2, hgo⟩ := hok
   dsimp only [mB] at *
   cases n with
   | zero => cases hgo
   | succ n =>
   rw [entGo] at hgo
   by_cases hlt : lo < hi
   · rw [if_pos hlt] at hgo
     have hmid : (lo + hi) / 2 < book.length := by omega
     k_with "subscriptTail Name Name ref int" => (rw [half_int]; refine item_strsA (by is_list) hb (by omega) (by rw [List.length_map]; omega) (by omega) ?_; intro t7; rw [Int.toNat_natCast, getD_map hmid])
     obtain ⟨q1, q2, q3⟩ := collZ_one (book.getD ((lo + hi) / 2) []) wd
     k_with_none
     k_with "subscriptTail Name Name ref int" => (rw [half_int]; refine item_strsA (by is_list) hb (by omega) (by rw [List.length_map]; omega) (by omega) ?_; intro t7; rw [Int.toNat_natCast, getD_map hmid])
     split at hgo
     · rename_i hw
       k_with "call ref cons nil" => (refine' CtrR.use (strcoll w _ _ _ _) ?kl ?k1 ?k2 ?k3 ?k4 ?k5 ?kK ?kd ?ku ?_; ((case kl => (repeat' first | exact List.forall_mem_nil _ | refine mem_cons_all ?_ ?_ | exact sub_refl | refine sub_tail ?_ | k_mem)); (case k1 => k_asm); (case k2 => k_asm); (case k3 => k_asm); (case k4 => k_asm); (case k5 => k_asm); (case kK => first | exact rfl | assumption); (case kd => ktr_room); (case ku => ktr_units)); intro v9 tl9 h9 tk9 hp9 hlt9 F9 N9; obtain ⟨rfl, tk8, rfl⟩ := hp9; rw [q1 hw]; dsimp only; simp only [List.nil_append] at N9)
       k_steps
       rw [half_int] at *
       refine TurnEnd.mk n ((lo + hi) / 2 + 1, _, hi, thi) (Nat.lt_succ_self _) (by k_asm) (by k_asm) ⟨rfl, rfl, rfl, rfl, trivial⟩ (fun p hp => hp) ⟨by show (lo + hi) / 2 + 1 ≤ hi; omega, h2, hgo⟩
     · rename_i hw
       split at hgo
       · rename_i hw2
         k_with "call ref cons nil" => (refine' CtrR.use (strcoll w _ _ _ _) ?kl ?k1 ?k2 ?k3 ?k4 ?k5 ?kK ?kd ?ku ?_; ((case kl => (repeat' first | exact List.forall_mem_nil _ | refine mem_cons_all ?_ ?_ | exact sub_refl | refine sub_tail ?_ | k_mem)); (case k1 => k_asm); (case k2 => k_asm); (case k3 => k_asm); (case k4 => k_asm); (case k5 => k_asm); (case kK => first | exact rfl | assumption); (case kd => ktr_room); (case ku => ktr_units)); intro v9 tl9 h9 tk9 hp9 hlt9 F9 N9; obtain ⟨rfl, tk8, rfl⟩ := hp9; rw [q2 hw hw2]; dsimp only; simp only [List.nil_append] at N9)
         k_steps
         rw [half_int] at *
         refine TurnEnd.mk n (lo, tlo, (lo + hi) / 2, _) (Nat.lt_succ_self _) (by k_asm) (by k_asm) ⟨rfl, rfl, rfl, rfl, trivial⟩ (fun p hp => hp) ⟨by show lo ≤ (lo + hi) / 2; omega, by show (lo + hi) / 2 ≤ book.length; omega, hgo⟩
       · rename_i hw2
         obtain rfl := Option.some.inj hgo
         k_with "call ref cons nil" => (refine' CtrR.use (strcoll w _ _ _ _) ?kl ?k1 ?k2 ?k3 ?k4 ?k5 ?kK ?kd ?ku ?_; ((case kl => (repeat' first | exact List.forall_mem_nil _ | refine mem_cons_all ?_ ?_ | exact sub_refl | refine sub_tail ?_ | k_mem)); (case k1 => k_asm); (case k2 => k_asm); (case k3 => k_asm); (case k4 => k_asm); (case k5 => k_asm); (case kK => first | exact rfl | assumption); (case kd => ktr_room); (case ku => ktr_units)); intro v9 tl9 h9 tk9 hp9 hlt9 F9 N9; obtain ⟨rfl, tk8, rfl⟩ := hp9; rw [q3 hw hw2]; dsimp only; simp only [List.nil_append] at N9)
         k_steps
         exact hret _ [(bk, listOf its.toArray c)] [] _ _ ⟨rfl, ⟨its, c, rfl, hb⟩, rfl⟩ (fun _ _ _ h => nomatch h) (by k_asm) (by k_asm)
   · rw [if_neg hlt] at hgo
     obtain rfl := Option.some.inj hgo
     k_with_none
     k_with "call builtin:list.insert" => (refine' kl_insert ?F ?N ?f rfl ?U ?zq9 ?_; (case F => k_asm); (case N => k_asm); (case f => exact fits_ix (by omega)); (case U => k_upd); (case zq9 => rw [sizeLine_eq]; simp only [List.toList_toArray]; omega); intro h9 F9 N9)
     k_steps
     refine hret _ [(bk, listOf (PySem.W.kl_ins its.toArray.toList (lo : Int) (.str (mkS wd) t)).toArray (c + 1))] [] _ _ ⟨rfl, ⟨_, _, rfl, ?_⟩, rfl⟩ (fun _ _ _ h => nomatch h) (by k_asm) (by k_asm)
     rw [List.toList_toArray]
     exact ins_strs hb (by omega)

set_option maxRecDepth 100000 in
set_option maxHeartbeats 4000000 in
theorem all9 : ∀ a0 a1 a2 a3 a4 a5 a6 a7 a8 a9 a10 a11 a12 a13 a14 a15 a16 a17 a18 a19 a20 a21 a22 a23 a24 a25 a26 a27 a28 a29 a30 a31 a32 a33 a34 a35, seg9.1 a0 a1 a2 a3 a4 a5 a6 a7 a8 a9 a10 a11 a12 a13 a14 a15 a16 a17 a18 a19 a20 a21 a22 a23 a24 a25 a26 a27 a28 a29 a30 a31 a32 a33 a34 a35 := fun a0 a1 a2 a3 a4 a5 a6 a7 a8 a9 a10 a11 a12 a13 a14 a15 a16 a17 a18 a19 a20 a21 a22 a23 a24 a25 a26 a27 a28 a29 a30 a31 a32 a33 a34 a35 => hen_all (G := G9) main9 (a0, a1, a2, a3, a4, a5, a6, a7, a8, a9, a10, a11, a12, a13, a14, a15, a16, a17, a18, a19, a20, a21, a22, a23, a24, a25, a26, a27, a28, a29, a30, a31, a32, a33, a34, a35)
end enteredA
theorem entered2 (w : World) (bk : Addr) (its : List Value) (c : Nat) (book : List (List Nat)) (hb : StrsAre its (book.map mkS)) (hz : book.length ≤ 100) (wd : List Nat) (t : Tok) (f : Nat) (r : Option Nat) (hE : entGo book wd f 0 book.length = some r) : Ctr (fun _ => True) PySem.Challenge.rw_wn0028_02.prog w (Mine.hd.heap_39 w.params) PySem.W.topProg 3 30 148 [.ref bk, .str (mkS wd) t] [(bk, listOf its.toArray c)] (fun v led tl => tl = [] ∧ (∃ its' c', led = [(bk, listOf its'.toArray c')] ∧ StrsAre its' ((entOut book wd r).map mkS)) ∧ v = .bool r.isSome) := enteredA.seg9.2 ⟨enteredA.all9⟩ w bk its c book hb hz wd t f r hE

end Mine
namespace Mine
theorem reset_tok_pop : True := by
  w_top off
  trivial
set_option maxRecDepth 100000 in
set_option maxHeartbeats 8000000 in
theorem tok_pop (w : World) (P : LexP) (ok : P.Ok) (ln : Int) (rem : List Nat) (v : Value) (qv : List Value) (qe : Nat) (led : List (Addr × Obj)) (st : LexSt w P ln rem (v :: qv) qe led) (hz : qv.length ≤ 1000) :
   Ctr (fun h => CodeHd h 112 108) PySem.Challenge.rw_wn0028_02.prog w (Mine.hd.heap_39 w.params) PySem.W.topProg 5 60 63 [.ref P.x] led (fun v' led tl => tl = [] ∧ v' = v ∧ ∃ qe, LexSt w P ln rem qv qe led) := by
   obtain ⟨tl, sv, se, hs, rfl⟩ := st
   intro loose mean mg mb rest dp un gd cn cs a ccd cl outer A₀ base h₀ L m s R hpre hoff B F₀ X N₀ T hk hd hu hret
   k_with_none
   obtain ⟨x, d, pb, f, c, x1, d1, sg, ce, pb1, t1, t2, t3, t4, tw, u1, u2, u3, u4, u5, v1, vw, ct, pm, oc, oC, vs, tq⟩ := P
   obtain ⟨⟨o1, o2, o3, o4, o5, o6, o7, o8⟩, hcode, hname, hcell⟩ := ok
   dsimp only [lexLed] at *
   simp only [List.cons_append, List.nil_append, List.forall_mem_cons] at N₀ hoff
   obtain ⟨hf1, hf2, hf3, hf4, hf5, hf6, hf7, hf8, hf9, -⟩ := hoff
   k_with "truthy ref" => refine truthy_cons (by is_list) (by omega) ?_
   k_with "call builtin:list.pop cons nil" => (refine' kl_popAt (k := 0) (p := []) (q := qv) (y := v) ?F ?N ?f ?k ?e ?U ?z ?_; (case F => k_asm); (case N => k_asm); (case U => k_upd); (case f => rfl); (case k => simp [seqIndex?]); (case e => rfl); (case z => rw [sizeLine_eq]; simp; omega); intro h9 F9 N9; (try dsimp only [List.nil_append, List.cons_append] at N9); (try k_sweep))
   k_dflt cell_enter
   k_steps
   exact hret _ _ [] _ _ ⟨rfl, rfl, _, tl, sv, se, hs, rfl⟩ (fun _ _ _ h => nomatch h) (by k_asm) (by k_asm)

end Mine
namespace Mine
theorem reset_push_token : True := by
  w_top off
  trivial
set_option maxRecDepth 100000 in
set_option maxHeartbeats 8000000 in
theorem push_token (w : World) (P : LexP) (ok : P.Ok) (ln : Int) (rem : List Nat) (v : Value) (qv : List Value) (qe : Nat) (led : List (Addr × Obj)) (st : LexSt w P ln rem qv qe led) (hz : qv.length ≤ 1000) :
   Ctr (fun h => CodeHd h 112 108) PySem.Challenge.rw_wn0028_02.prog w (Mine.hd.heap_39 w.params) PySem.W.topProg 5 60 70 [.ref P.x, v] led (fun v' led tl => tl = [] ∧ v' = .none ∧ ∃ qe, LexSt w P ln rem (qv ++ [v]) qe led) := by
   obtain ⟨tl, sv, se, hs, rfl⟩ := st
   intro loose mean mg mb rest dp un gd cn cs a ccd cl outer A₀ base h₀ L m s R hpre hoff B F₀ X N₀ T hk hd hu hret
   k_with_none
   obtain ⟨x, d, pb, f, c, x1, d1, sg, ce, pb1, t1, t2, t3, t4, tw, u1, u2, u3, u4, u5, v1, vw, ct, pm, oc, oC, vs, tq⟩ := P
   obtain ⟨⟨o1, o2, o3, o4, o5, o6, o7, o8⟩, hcode, hname, hcell⟩ := ok
   dsimp only [lexLed] at *
   simp only [List.cons_append, List.nil_append, List.forall_mem_cons] at N₀ hoff
   obtain ⟨hf1, hf2, hf3, hf4, hf5, hf6, hf7, hf8, hf9, -⟩ := hoff
   k_dflt cell_enter
   k_steps
   simp only [List.push_toArray] at *
   exact hret _ _ [] _ _ ⟨rfl, rfl, _, tl, sv, se, hs, rfl⟩ (fun _ _ _ h => nomatch h) (by k_asm) (by k_asm)

end Mine
namespace Mine
theorem reset_lexown : True := by
  w_top off
  trivial
theorem LexP.Off.app {P : LexP} {rest own : List (Addr × Obj)} (h : P.Off rest) (ok : P.Ok) (ho : ∀ p ∈ own, @LT.lt Nat _ P.pb p.1) : P.Off (rest ++ own) := by
  intro q hq
  rcases List.mem_append.mp hq with hq | hq
  · exact h q hq
  · exact offs_above ok (ho q hq)
theorem own_lt {news own : List (Addr × Obj)} (hown : ∀ p ∈ own, ∀ q ∈ news, q.1 < p.1) {a : Addr} {o : Obj} (hm : (a, o) ∈ news) : ∀ p ∈ own, @LT.lt Nat _ a p.1 := fun p hp => hown p hp _ hm
theorem app_ne {rest own : List (Addr × Obj)} {a d : Nat} (h : ∀ p ∈ rest, p.1 < d) (hd : d ≤ a) (ho : ∀ p ∈ own, @LT.lt Nat _ a p.1) : ∀ p ∈ rest ++ own, p.1 ≠ a := fun p hp => by
  rcases List.mem_append.mp hp with hp | hp
  · have := h p hp
    exact Nat.ne_of_lt (Nat.lt_of_lt_of_le this hd)
  · exact Nat.ne_of_gt (ho p hp)
theorem app_ne2 {rest own : List (Addr × Obj)} {a : Nat} (h : ∀ p ∈ rest, p.1 ≠ a) (ho : ∀ p ∈ own, @LT.lt Nat _ a p.1) : ∀ p ∈ rest ++ own, p.1 ≠ a := fun p hp => by
  rcases List.mem_append.mp hp with hp | hp
  · exact h p hp
  · exact Nat.ne_of_gt (ho p hp)
theorem own_gt {news own : List (Addr × Obj)} {l a : Nat} {o : Obj} (hown : ∀ p ∈ own, p.1 = l ∨ ∀ q ∈ news, q.1 < p.1) (hl : a < l) (hm : (a, o) ∈ news) : ∀ p ∈ own, @LT.lt Nat _ a p.1 := fun p hp => by
  rcases hown p hp with e | h
  · rw [e]; exact hl
  · exact h _ hm
theorem own_ne {news own : List (Addr × Obj)} {l a : Nat} {o : Obj} (hown : ∀ p ∈ own, p.1 = l ∨ ∀ q ∈ news, q.1 < p.1) (hl : l ≠ a) (hm : (a, o) ∈ news) : ∀ p ∈ own, p.1 ≠ a := fun p hp => by
  rcases hown p hp with e | h
  · rw [e]; exact hl
  · exact Nat.ne_of_gt (h _ hm)
theorem app_ne3 {rest own : List (Addr × Obj)} {a : Nat} (h : ∀ p ∈ rest, p.1 ≠ a) (ho : ∀ p ∈ own, p.1 ≠ a) : ∀ p ∈ rest ++ own, p.1 ≠ a := fun p hp => (List.mem_append.mp hp).elim (h p) (ho p)

end Mine
namespace Mine
theorem reset_come2 : True := by
  w_top off
  trivial
structure SG where
  (S : CS) (wc wb : List Value) (kc kb : Nat) (tl : Tok) (sv qv : List Value) (se qe : Nat)
noncomputable def SG.Ok (w : World) (rem : List Nat) (y : SG) : Prop :=
  StrsAre y.wc (y.S.come.map mkS) ∧ StrsAre y.wb (y.S.book.map mkS) ∧ StrsAre y.qv (y.S.q.map mkS) ∧ StrsAre y.sv (rem.map one).reverse
noncomputable def sgLed (w : World) (P : LexP) (ln : Int) (Cm Bk : Nat) (rest : List (Addr × Obj)) (y : SG) : List (Addr × Obj) :=
  lexLed w P ln y.tl y.sv y.se y.qv y.qe ++ ([(Cm, listOf y.wc.toArray y.kc), (Bk, listOf y.wb.toArray y.kb)] ++ rest)
section
variable {prog : Program} {w : World} {A : Around} {E : Value → Shared → Prop} {s : Shared}
theorem k_lent {v : Nat} {t u : Tok} {Q : Value → Shared → Prop} (hv : 65 ≤ v ∧ v ≤ 81) (h : ∀ t' k, Q (.str (mkS [v - 1, 81]) t') { s with toks := k }) : wpAny (model prog w) A (binaryOp .Add (.str (⟨#[((v : Int) - 1).toNat]⟩ : Str) t) (.str (Str.ofString "Q") u)) Q E s := by
  rw [show (⟨#[((v : Int) - 1).toNat]⟩ : Str) = mkS [v - 1] by rw [show ((v : Int) - 1).toNat = v - 1 by omega], show Str.ofString "Q" = mkS [81] by decide +kernel]
  exact k_glue (by simp) (by simp) h
end
theorem isA {c : Nat} (h : (mkS [c] == Str.ofString "A") = true) : c = 65 := by rw [one_beq_A] at h; exact of_decide_eq_true h
theorem notA {c : Nat} (h : (mkS [c] != Str.ofString "A") = true) : ¬ c = 65 := by
  rw [bne, one_beq_A] at h
  simpa using h
theorem isA' {c : Nat} (h : (mkS [c] != Str.ofString "A") = false) : c = 65 := by
  rw [bne, one_beq_A] at h
  simpa using h
theorem notA' {c : Nat} (h : (mkS [c] == Str.ofString "A") = false) : ¬ c = 65 := by
  rw [one_beq_A] at h
  simpa using h
namespace comeA
set_option maxRecDepth 100000 in
set_option maxHeartbeats 8000000 in
noncomputable def seg9 : {p : PySem.World → Int → (List Nat) → (List Nat) → PySem.Tok → Nat → Nat → PySem.Tok → (List PySem.Value) → Nat → (List PySem.Str) → (PySem.ExcName → Option PySem.Value) → (PySem.Str → Option PySem.Value) → (PySem.Str → Option PySem.Value) → (List (PySem.Addr × PySem.Obj)) → Nat → Nat → (Option (List PySem.Code)) → PySem.Str → PySem.Scope → PySem.Addr → PySem.Value → (List (PySem.Str × PySem.Addr)) → (List PySem.Env) → PySem.Around → PySem.Heap → PySem.Heap → PySem.Addr → (PySem.Str → Option PySem.Value) → PySem.Shared → (PySem.Result → PySem.Shared → Prop) → Nat → Nat → Nat → Nat → Nat → Nat → Nat → Nat → Nat → Nat → PySem.Tok → PySem.Tok → PySem.Tok → PySem.Tok → PySem.Tok → PySem.Tok → PySem.Tok → PySem.Tok → PySem.Tok → PySem.Tok → PySem.Tok → PySem.Tok → PySem.Value → PySem.Value → PySem.Obj → PySem.Obj → (Array PySem.Value) → PySem.Tok → PySem.Heap → PySem.Addr → PySem.Heap → PySem.Addr → PySem.Heap → PySem.Heap → Nat → PySem.Addr → PySem.Heap → PySem.Heap → Nat → PySem.Heap → Nat → Nat → PySem.Tok → (List PySem.Value) → Nat → Prop // Hid (∀ a0 a1 a2 a3 a4 a5 a6 a7 a8 a9 a10 a11 a12 a13 a14 a15 a16 a17 a18 a19 a20 a21 a22 a23 a24 a25 a26 a27 a28 a29 a30 a31 a32 a33 a34 a35 a36 a37 a38 a39 a40 a41 a42 a43 a44 a45 a46 a47 a48 a49 a50 a51 a52 a53 a54 a55 a56 a57 a58 a59 a60 a61 a62 a63 a64 a65 a66 a67 a68 a69 a70 a71 a72 a73 a74 a75, p a0 a1 a2 a3 a4 a5 a6 a7 a8 a9 a10 a11 a12 a13 a14 a15 a16 a17 a18 a19 a20 a21 a22 a23 a24 a25 a26 a27 a28 a29 a30 a31 a32 a33 a34 a35 a36 a37 a38 a39 a40 a41 a42 a43 a44 a45 a46 a47 a48 a49 a50 a51 a52 a53 a54 a55 a56 a57 a58 a59 a60 a61 a62 a63 a64 a65 a66 a67 a68 a69 a70 a71 a72 a73 a74 a75) → ∀ (w : World) (P : LexP) (ok : P.Ok) (ln : Int) (rem l : List Nat) (t : Tok) (qe : Nat) (led : List (Addr × Obj)) (st : LexSt w P ln rem [] qe led) (f : Nat) (S : CS) (hS : comeGo f ⟨[], [l], [l]⟩ = some S), Ctr (fun h => CodeHd h 112 108) PySem.Challenge.rw_wn0028_02.prog w (Mine.hd.heap_39 w.params) PySem.W.topProg 8 100 155 [.ref P.x, .str (mkS l) t] led (fun v led tl => ∃ (D Bk Cm : Addr) (kb kc : Nat) (wb wc : List Value), v = .ref D ∧ tl = [(D, { cls := .type "tuple", data := .seq #[.ref Cm, .ref Bk] }), (Bk, listOf wb.toArray kb), (Cm, listOf wc.toArray kc)] ∧ StrsAre wc (S.come.map mkS) ∧ StrsAre wb (S.book.map mkS) ∧ @LT.lt Nat _ Cm Bk ∧ ∃ qe, LexSt w P ln rem [] qe led)} := segOf (by
   intro ht9
   intro w P ok ln rem l t qe led st f S hS
   obtain ⟨tl, sv, se, hs, rfl⟩ := st
   intro loose mean mg mb rest dp un gd cn cs a ccd cl outer A₀ base h₀ L m s R hC hoff B F₀ X N₀ T hk hd hu hret
   k_with_none
   have ok' := ok
   obtain ⟨x, d, pb, fn, c, x1, d1, sg, ce, pb1, t1, t2, t3, t4, tw, u1, u2, u3, u4, u5, v1, vw, ct, pm, oc, oC, vs, tq⟩ := P
   obtain ⟨⟨o1, o2, o3, o4, o5, o6, o7, o8⟩, hcode, hname, hcell⟩ := ok
   have off0 := LexP.Off.of hoff
   dsimp only [lexLed] at *
   simp only [List.cons_append, List.nil_append, List.forall_mem_cons] at N₀ hoff
   obtain ⟨hf1, hf2, hf3, hf4, hf5, hf6, hf7, hf8, hf9, -⟩ := hoff
   k_with "exec While Attribute cons nil" => refine stop_in ?_
   k_with "call ref cons nil" => refine stop_in ?_
   k_dflt cell_enter
   have hC' : CodeHd _ 112 108 := CodeHd.keeps hC (Fr.keep ‹Fr h₀ _ _ _›)
   k_steps
   refine stop_out ?_
   rename_i Cm _ lC _ _ Bk _ lB _ F9 N9
   refine' Ctr.use (push_token w ⟨x, d, pb, fn, c, x1, d1, sg, ce, pb1, t1, t2, t3, t4, tw, u1, u2, u3, u4, u5, v1, vw, ct, pm, oc, oC, vs, tq⟩ ok' ln rem (.str (mkS l) t) [] qe _ ⟨tl, sv, se, hs, rfl⟩ (by decide)) ?kC ?kP ?kO ?kB ?kF ?kX ?kN ?kT ?kK ?kd ?ku ?_
   ((case kF => k_asm); (case kN => k_asm); (case kB => k_asm); (case kX => k_asm); (case kT => k_asm); (case kC => k_asm); (case kK => first | exact rfl | assumption); (case kd => ktr_room); (case ku => ktr_units); (case kP => dsimp only [lexLed]; (repeat' first | exact Pick.nil | apply Pick.cons | exact Take.head | apply Take.tail)); (case kO => refine LexP.Off.to ?_; (repeat' first | assumption | refine LexP.Off.cons ?_ (by assumption) (by (try dsimp only); (show @LT.lt Nat _ _ _); omega))))
   intro v9 led9 tl9 h9 tk9 hp9 hlt9 F9 N9
   obtain ⟨rfl, rfl, qe9, tl2, sv2, se2, hs2, rfl⟩ := hp9
   dsimp only [lexLed] at N9
   simp only [List.cons_append, List.nil_append] at N9
   k_steps
   refine stop_out ?_
   have hrl : AllLt Cm rest := lC.2.2.2.2.2.2.2.2.2
   have hord : @LT.lt Nat _ pb Cm ∧ @LT.lt Nat _ Cm Bk := ⟨lC.1, lB.1⟩
   rename_i z1 z2 z3 y4 y5 y6 y7 z8 z9 z10 z11 z12 y13 y14
   clear hC B hk hcode hname hcell o1 o2 o3 o4 o5 o6 o7 o8 hf1 hf2 hf3 hf4 hf5 hf6 hf7 hf8 hf9 y4 y13 y14
   revert S hS hs F₀ X T hd hu N₀ hret ok' off0 y5 y6 y7 qk ek hC' lC lB F9 hlt9 hs2 N9 hrl hord
   exact ht9.out w ln rem l t qe f tl sv se loose mean mg mb rest dp un gd cn cs a ccd cl outer A₀ base h₀ L m s R x d pb fn c x1 d1 sg ce pb1 t1 t2 t3 t4 tw u1 u2 u3 u4 u5 v1 vw ct pm oc oC vs tq z1 z2 z3 Cm z8 z9 z10 Bk z11 z12 tk h9 tk9 qe9 tl2 sv2 se2
)
noncomputable def G9 (d : PySem.World × Int × (List Nat) × (List Nat) × PySem.Tok × Nat × Nat × PySem.Tok × (List PySem.Value) × Nat × (List PySem.Str) × (PySem.ExcName → Option PySem.Value) × (PySem.Str → Option PySem.Value) × (PySem.Str → Option PySem.Value) × (List (PySem.Addr × PySem.Obj)) × Nat × Nat × (Option (List PySem.Code)) × PySem.Str × PySem.Scope × PySem.Addr × PySem.Value × (List (PySem.Str × PySem.Addr)) × (List PySem.Env) × PySem.Around × PySem.Heap × PySem.Heap × PySem.Addr × (PySem.Str → Option PySem.Value) × PySem.Shared × (PySem.Result → PySem.Shared → Prop) × Nat × Nat × Nat × Nat × Nat × Nat × Nat × Nat × Nat × Nat × PySem.Tok × PySem.Tok × PySem.Tok × PySem.Tok × PySem.Tok × PySem.Tok × PySem.Tok × PySem.Tok × PySem.Tok × PySem.Tok × PySem.Tok × PySem.Tok × PySem.Value × PySem.Value × PySem.Obj × PySem.Obj × (Array PySem.Value) × PySem.Tok × PySem.Heap × PySem.Addr × PySem.Heap × PySem.Addr × PySem.Heap × PySem.Heap × Nat × PySem.Addr × PySem.Heap × PySem.Heap × Nat × PySem.Heap × Nat × Nat × PySem.Tok × (List PySem.Value) × Nat) : Prop := seg9.1 d.1 d.2.1 d.2.2.1 d.2.2.2.1 d.2.2.2.2.1 d.2.2.2.2.2.1 d.2.2.2.2.2.2.1 d.2.2.2.2.2.2.2.1 d.2.2.2.2.2.2.2.2.1 d.2.2.2.2.2.2.2.2.2.1 d.2.2.2.2.2.2.2.2.2.2.1 d.2.2.2.2.2.2.2.2.2.2.2.1 d.2.2.2.2.2.2.2.2.2.2.2.2.1 d.2.2.2.2.2.2.2.2.2.2.2.2.2.1 d.2.2.2.2.2.2.2.2.2.2.2.2.2.2.1 d.2.2.2.2.2.2.2.2.2.2.2.2.2.2.2.1 d.2.2.2.2.2.2.2.2.2.2.2.2.2.2.2.2.1 d.2.2.2.2.2.2.2.2.2.2.2.2.2.2.2.2.2.1 d.2.2.2.2.2.2.2.2.2.2.2.2.2.2.2.2.2.2.1 d.2.2.2.2.2.2.2.2.2.2.2.2.2.2.2.2.2.2.2.1 d.2.2.2.2.2.2.2.2.2.2.2.2.2.2.2.2.2.2.2.2.1 d.2.2.2.2.2.2.2.2.2.2.2.2.2.2.2.2.2.2.2.2.2.1 d.2.2.2.2.2.2.2.2.2.2.2.2.2.2.2.2.2.2.2.2.2.2.1 d.2.2.2.2.2.2.2.2.2.2.2.2.2.2.2.2.2.2.2.2.2.2.2.1 d.2.2.2.2.2.2.2.2.2.2.2.2.2.2.2.2.2.2.2.2.2.2.2.2.1 d.2.2.2.2.2.2.2.2.2.2.2.2.2.2.2.2.2.2.2.2.2.2.2.2.2.1 d.2.2.2.2.2.2.2.2.2.2.2.2.2.2.2.2.2.2.2.2.2.2.2.2.2.2.1 d.2.2.2.2.2.2.2.2.2.2.2.2.2.2.2.2.2.2.2.2.2.2.2.2.2.2.2.1 d.2.2.2.2.2.2.2.2.2.2.2.2.2.2.2.2.2.2.2.2.2.2.2.2.2.2.2.2.1 d.2.2.2.2.2.2.2.2.2.2.2.2.2.2.2.2.2.2.2.2.2.2.2.2.2.2.2.2.2.1 d.2.2.2.2.2.2.2.2.2.2.2.2.2.2.2.2.2.2.2.2.2.2.2.2.2.2.2.2.2.2.1 d.2.2.2.2.2.2.2.2.2.2.2.2.2.2.2.2.2.2.2.2.2.2.2.2.2.2.2.2.2.2.2.1 d.2.2.2.2.2.2.2.2.2.2.2.2.2.2.2.2.2.2.2.2.2.2.2.2.2.2.2.2.2.2.2.2.1 d.2.2.2.2.2.2.2.2.2.2.2.2.2.2.2.2.2.2.2.2.2.2.2.2.2.2.2.2.2.2.2.2.2.1 d.2.2.2.2.2.2.2.2.2.2.2.2.2.2.2.2.2.2.2.2.2.2.2.2.2.2.2.2.2.2.2.2.2.2.1 d.2.2.2.2.2.2.2.2.2.2.2.2.2.2.2.2.2.2.2.2.2.2.2.2.2.2.2.2.2.2.2.2.2.2.2.1 d.2.2.2.2.2.2.2.2.2.2.2.2.2.2.2.2.2.2.2.2.2.2.2.2.2.2.2.2.2.2.2.2.2.2.2.2.1 d.2.2.2.2.2.2.2.2.2.2.2.2.2.2.2.2.2.2.2.2.2.2.2.2.2.2.2.2.2.2.2.2.2.2.2.2.2.1 d.2.2.2.2.2.2.2.2.2.2.2.2.2.2.2.2.2.2.2.2.2.2.2.2.2.2.2.2.2.2.2.2.2.2.2.2.2.2.1 d.2.2.2.2.2.2.2.2.2.2.2.2.2.2.2.2.2.2.2.2.2.2.2.2.2.2.2.2.2.2.2.2.2.2.2.2.2.2.2.1 d.2.2.2.2.2.2.2.2.2.2.2.2.2.2.2.2.2.2.2.2.2.2.2.2.2.2.2.2.2.2.2.2.2.2.2.2.2.2.2.2.1 d.2.2.2.2.2.2.2.2.2.2.2.2.2.2.2.2.2.2.2.2.2.2.2.2.2.2.2.2.2.2.2.2.2.2.2.2.2.2.2.2.2.1 d.2.2.2.2.2.2.2.2.2.2.2.2.2.2.2.2.2.2.2.2.2.2.2.2.2.2.2.2.2.2.2.2.2.2.2.2.2.2.2.2.2.2.1 d.2.2.2.2.2.2.2.2.2.2.2.2.2.2.2.2.2.2.2.2.2.2.2.2.2.2.2.2.2.2.2.2.2.2.2.2.2.2.2.2.2.2.2.1 d.2.2.2.2.2.2.2.2.2.2.2.2.2.2.2.2.2.2.2.2.2.2.2.2.2.2.2.2.2.2.2.2.2.2.2.2.2.2.2.2.2.2.2.2.1 d.2.2.2.2.2.2.2.2.2.2.2.2.2.2.2.2.2.2.2.2.2.2.2.2.2.2.2.2.2.2.2.2.2.2.2.2.2.2.2.2.2.2.2.2.2.1 d.2.2.2.2.2.2.2.2.2.2.2.2.2.2.2.2.2.2.2.2.2.2.2.2.2.2.2.2.2.2.2.2.2.2.2.2.2.2.2.2.2.2.2.2.2.2.1 d.2.2.2.2.2.2.2.2.2.2.2.2.2.2.2.2.2.2.2.2.2.2.2.2.2.2.2.2.2.2.2.2.2.2.2.2.2.2.2.2.2.2.2.2.2.2.2.1 d.2.2.2.2.2.2.2.2.2.2.2.2.2.2.2.2.2.2.2.2.2.2.2.2.2.2.2.2.2.2.2.2.2.2.2.2.2.2.2.2.2.2.2.2.2.2.2.2.1 d.2.2.2.2.2.2.2.2.2.2.2.2.2.2.2.2.2.2.2.2.2.2.2.2.2.2.2.2.2.2.2.2.2.2.2.2.2.2.2.2.2.2.2.2.2.2.2.2.2.1 d.2.2.2.2.2.2.2.2.2.2.2.2.2.2.2.2.2.2.2.2.2.2.2.2.2.2.2.2.2.2.2.2.2.2.2.2.2.2.2.2.2.2.2.2.2.2.2.2.2.2.1 d.2.2.2.2.2.2.2.2.2.2.2.2.2.2.2.2.2.2.2.2.2.2.2.2.2.2.2.2.2.2.2.2.2.2.2.2.2.2.2.2.2.2.2.2.2.2.2.2.2.2.2.1 d.2.2.2.2.2.2.2.2.2.2.2.2.2.2.2.2.2.2.2.2.2.2.2.2.2.2.2.2.2.2.2.2.2.2.2.2.2.2.2.2.2.2.2.2.2.2.2.2.2.2.2.2.1 d.2.2.2.2.2.2.2.2.2.2.2.2.2.2.2.2.2.2.2.2.2.2.2.2.2.2.2.2.2.2.2.2.2.2.2.2.2.2.2.2.2.2.2.2.2.2.2.2.2.2.2.2.2.1 d.2.2.2.2.2.2.2.2.2.2.2.2.2.2.2.2.2.2.2.2.2.2.2.2.2.2.2.2.2.2.2.2.2.2.2.2.2.2.2.2.2.2.2.2.2.2.2.2.2.2.2.2.2.2.1 d.2.2.2.2.2.2.2.2.2.2.2.2.2.2.2.2.2.2.2.2.2.2.2.2.2.2.2.2.2.2.2.2.2.2.2.2.2.2.2.2.2.2.2.2.2.2.2.2.2.2.2.2.2.2.2.1 d.2.2.2.2.2.2.2.2.2.2.2.2.2.2.2.2.2.2.2.2.2.2.2.2.2.2.2.2.2.2.2.2.2.2.2.2.2.2.2.2.2.2.2.2.2.2.2.2.2.2.2.2.2.2.2.2.1 d.2.2.2.2.2.2.2.2.2.2.2.2.2.2.2.2.2.2.2.2.2.2.2.2.2.2.2.2.2.2.2.2.2.2.2.2.2.2.2.2.2.2.2.2.2.2.2.2.2.2.2.2.2.2.2.2.2.1 d.2.2.2.2.2.2.2.2.2.2.2.2.2.2.2.2.2.2.2.2.2.2.2.2.2.2.2.2.2.2.2.2.2.2.2.2.2.2.2.2.2.2.2.2.2.2.2.2.2.2.2.2.2.2.2.2.2.2.1 d.2.2.2.2.2.2.2.2.2.2.2.2.2.2.2.2.2.2.2.2.2.2.2.2.2.2.2.2.2.2.2.2.2.2.2.2.2.2.2.2.2.2.2.2.2.2.2.2.2.2.2.2.2.2.2.2.2.2.2.1 d.2.2.2.2.2.2.2.2.2.2.2.2.2.2.2.2.2.2.2.2.2.2.2.2.2.2.2.2.2.2.2.2.2.2.2.2.2.2.2.2.2.2.2.2.2.2.2.2.2.2.2.2.2.2.2.2.2.2.2.2.1 d.2.2.2.2.2.2.2.2.2.2.2.2.2.2.2.2.2.2.2.2.2.2.2.2.2.2.2.2.2.2.2.2.2.2.2.2.2.2.2.2.2.2.2.2.2.2.2.2.2.2.2.2.2.2.2.2.2.2.2.2.2.1 d.2.2.2.2.2.2.2.2.2.2.2.2.2.2.2.2.2.2.2.2.2.2.2.2.2.2.2.2.2.2.2.2.2.2.2.2.2.2.2.2.2.2.2.2.2.2.2.2.2.2.2.2.2.2.2.2.2.2.2.2.2.2.1 d.2.2.2.2.2.2.2.2.2.2.2.2.2.2.2.2.2.2.2.2.2.2.2.2.2.2.2.2.2.2.2.2.2.2.2.2.2.2.2.2.2.2.2.2.2.2.2.2.2.2.2.2.2.2.2.2.2.2.2.2.2.2.2.1 d.2.2.2.2.2.2.2.2.2.2.2.2.2.2.2.2.2.2.2.2.2.2.2.2.2.2.2.2.2.2.2.2.2.2.2.2.2.2.2.2.2.2.2.2.2.2.2.2.2.2.2.2.2.2.2.2.2.2.2.2.2.2.2.2.1 d.2.2.2.2.2.2.2.2.2.2.2.2.2.2.2.2.2.2.2.2.2.2.2.2.2.2.2.2.2.2.2.2.2.2.2.2.2.2.2.2.2.2.2.2.2.2.2.2.2.2.2.2.2.2.2.2.2.2.2.2.2.2.2.2.2.1 d.2.2.2.2.2.2.2.2.2.2.2.2.2.2.2.2.2.2.2.2.2.2.2.2.2.2.2.2.2.2.2.2.2.2.2.2.2.2.2.2.2.2.2.2.2.2.2.2.2.2.2.2.2.2.2.2.2.2.2.2.2.2.2.2.2.2.1 d.2.2.2.2.2.2.2.2.2.2.2.2.2.2.2.2.2.2.2.2.2.2.2.2.2.2.2.2.2.2.2.2.2.2.2.2.2.2.2.2.2.2.2.2.2.2.2.2.2.2.2.2.2.2.2.2.2.2.2.2.2.2.2.2.2.2.2.1 d.2.2.2.2.2.2.2.2.2.2.2.2.2.2.2.2.2.2.2.2.2.2.2.2.2.2.2.2.2.2.2.2.2.2.2.2.2.2.2.2.2.2.2.2.2.2.2.2.2.2.2.2.2.2.2.2.2.2.2.2.2.2.2.2.2.2.2.2.1 d.2.2.2.2.2.2.2.2.2.2.2.2.2.2.2.2.2.2.2.2.2.2.2.2.2.2.2.2.2.2.2.2.2.2.2.2.2.2.2.2.2.2.2.2.2.2.2.2.2.2.2.2.2.2.2.2.2.2.2.2.2.2.2.2.2.2.2.2.2.1 d.2.2.2.2.2.2.2.2.2.2.2.2.2.2.2.2.2.2.2.2.2.2.2.2.2.2.2.2.2.2.2.2.2.2.2.2.2.2.2.2.2.2.2.2.2.2.2.2.2.2.2.2.2.2.2.2.2.2.2.2.2.2.2.2.2.2.2.2.2.2.1 d.2.2.2.2.2.2.2.2.2.2.2.2.2.2.2.2.2.2.2.2.2.2.2.2.2.2.2.2.2.2.2.2.2.2.2.2.2.2.2.2.2.2.2.2.2.2.2.2.2.2.2.2.2.2.2.2.2.2.2.2.2.2.2.2.2.2.2.2.2.2.2.1 d.2.2.2.2.2.2.2.2.2.2.2.2.2.2.2.2.2.2.2.2.2.2.2.2.2.2.2.2.2.2.2.2.2.2.2.2.2.2.2.2.2.2.2.2.2.2.2.2.2.2.2.2.2.2.2.2.2.2.2.2.2.2.2.2.2.2.2.2.2.2.2.2.1 d.2.2.2.2.2.2.2.2.2.2.2.2.2.2.2.2.2.2.2.2.2.2.2.2.2.2.2.2.2.2.2.2.2.2.2.2.2.2.2.2.2.2.2.2.2.2.2.2.2.2.2.2.2.2.2.2.2.2.2.2.2.2.2.2.2.2.2.2.2.2.2.2.2.1 d.2.2.2.2.2.2.2.2.2.2.2.2.2.2.2.2.2.2.2.2.2.2.2.2.2.2.2.2.2.2.2.2.2.2.2.2.2.2.2.2.2.2.2.2.2.2.2.2.2.2.2.2.2.2.2.2.2.2.2.2.2.2.2.2.2.2.2.2.2.2.2.2.2.2.1 d.2.2.2.2.2.2.2.2.2.2.2.2.2.2.2.2.2.2.2.2.2.2.2.2.2.2.2.2.2.2.2.2.2.2.2.2.2.2.2.2.2.2.2.2.2.2.2.2.2.2.2.2.2.2.2.2.2.2.2.2.2.2.2.2.2.2.2.2.2.2.2.2.2.2.2
noncomputable def tup9z : PySem.World × Int × (List Nat) × (List Nat) × PySem.Tok × Nat × Nat × PySem.Tok × (List PySem.Value) × Nat × (List PySem.Str) × (PySem.ExcName → Option PySem.Value) × (PySem.Str → Option PySem.Value) × (PySem.Str → Option PySem.Value) × (List (PySem.Addr × PySem.Obj)) × Nat × Nat × (Option (List PySem.Code)) × PySem.Str × PySem.Scope × PySem.Addr × PySem.Value × (List (PySem.Str × PySem.Addr)) × (List PySem.Env) × PySem.Around × PySem.Heap × PySem.Heap × PySem.Addr × (PySem.Str → Option PySem.Value) × PySem.Shared × (PySem.Result → PySem.Shared → Prop) × Nat × Nat × Nat × Nat × Nat × Nat × Nat × Nat × Nat × Nat × PySem.Tok × PySem.Tok × PySem.Tok × PySem.Tok × PySem.Tok × PySem.Tok × PySem.Tok × PySem.Tok × PySem.Tok × PySem.Tok × PySem.Tok × PySem.Tok × PySem.Value × PySem.Value × PySem.Obj × PySem.Obj × (Array PySem.Value) × PySem.Tok × PySem.Heap × PySem.Addr × PySem.Heap × PySem.Addr × PySem.Heap × PySem.Heap × Nat × PySem.Addr × PySem.Heap × PySem.Heap × Nat × PySem.Heap × Nat × Nat × PySem.Tok × (List PySem.Value) × Nat := hen (World9, (0 : Int), [], [], (0 : Nat), (0 : Nat), (0 : Nat), (0 : Nat), [], (0 : Nat), [], (fun _ => none), (fun _ => none), (fun _ => none), [], (0 : Nat), (0 : Nat), none, (default : Str), (default : Scope), (0 : Nat), (default : Value), [], [], ({} : Around), (default : Heap), (default : Heap), (0 : Nat), (fun _ => none), ({} : Shared), (fun _ => (fun _ => True)), (0 : Nat), (0 : Nat), (0 : Nat), (0 : Nat), (0 : Nat), (0 : Nat), (0 : Nat), (0 : Nat), (0 : Nat), (0 : Nat), (0 : Nat), (0 : Nat), (0 : Nat), (0 : Nat), (0 : Nat), (0 : Nat), (0 : Nat), (0 : Nat), (0 : Nat), (0 : Nat), (0 : Nat), (0 : Nat), (default : Value), (default : Value), (default : Obj), (default : Obj), #[], (0 : Nat), (default : Heap), (0 : Nat), (default : Heap), (0 : Nat), (default : Heap), (default : Heap), (0 : Nat), (0 : Nat), (default : Heap), (default : Heap), (0 : Nat), (default : Heap), (0 : Nat), (0 : Nat), (0 : Nat), [], (0 : Nat)) G9
noncomputable def w : PySem.World := tup9z.1
noncomputable def ln : Int := tup9z.2.1
noncomputable def rem : List Nat := tup9z.2.2.1
noncomputable def l : List Nat := tup9z.2.2.2.1
noncomputable def t : PySem.Tok := tup9z.2.2.2.2.1
noncomputable def qe : Nat := tup9z.2.2.2.2.2.1
noncomputable def f : Nat := tup9z.2.2.2.2.2.2.1
noncomputable def tl : PySem.Tok := tup9z.2.2.2.2.2.2.2.1
noncomputable def sv : List PySem.Value := tup9z.2.2.2.2.2.2.2.2.1
noncomputable def se : Nat := tup9z.2.2.2.2.2.2.2.2.2.1
noncomputable def loose : List PySem.Str := tup9z.2.2.2.2.2.2.2.2.2.2.1
noncomputable def mean : PySem.ExcName → Option PySem.Value := tup9z.2.2.2.2.2.2.2.2.2.2.2.1
noncomputable def mg : PySem.Str → Option PySem.Value := tup9z.2.2.2.2.2.2.2.2.2.2.2.2.1
noncomputable def mb : PySem.Str → Option PySem.Value := tup9z.2.2.2.2.2.2.2.2.2.2.2.2.2.1
noncomputable def rest : List (PySem.Addr × PySem.Obj) := tup9z.2.2.2.2.2.2.2.2.2.2.2.2.2.2.1
noncomputable def dp : Nat := tup9z.2.2.2.2.2.2.2.2.2.2.2.2.2.2.2.1
noncomputable def un : Nat := tup9z.2.2.2.2.2.2.2.2.2.2.2.2.2.2.2.2.1
noncomputable def gd : Option (List PySem.Code) := tup9z.2.2.2.2.2.2.2.2.2.2.2.2.2.2.2.2.2.1
noncomputable def cn : PySem.Str := tup9z.2.2.2.2.2.2.2.2.2.2.2.2.2.2.2.2.2.2.1
noncomputable def cs : PySem.Scope := tup9z.2.2.2.2.2.2.2.2.2.2.2.2.2.2.2.2.2.2.2.1
noncomputable def a : PySem.Addr := tup9z.2.2.2.2.2.2.2.2.2.2.2.2.2.2.2.2.2.2.2.2.1
noncomputable def ccd : PySem.Value := tup9z.2.2.2.2.2.2.2.2.2.2.2.2.2.2.2.2.2.2.2.2.2.1
noncomputable def cl : List (PySem.Str × PySem.Addr) := tup9z.2.2.2.2.2.2.2.2.2.2.2.2.2.2.2.2.2.2.2.2.2.2.1
noncomputable def outer : List PySem.Env := tup9z.2.2.2.2.2.2.2.2.2.2.2.2.2.2.2.2.2.2.2.2.2.2.2.1
noncomputable def A₀ : PySem.Around := tup9z.2.2.2.2.2.2.2.2.2.2.2.2.2.2.2.2.2.2.2.2.2.2.2.2.1
noncomputable def base : PySem.Heap := tup9z.2.2.2.2.2.2.2.2.2.2.2.2.2.2.2.2.2.2.2.2.2.2.2.2.2.1
noncomputable def h₀ : PySem.Heap := tup9z.2.2.2.2.2.2.2.2.2.2.2.2.2.2.2.2.2.2.2.2.2.2.2.2.2.2.1
noncomputable def L : PySem.Addr := tup9z.2.2.2.2.2.2.2.2.2.2.2.2.2.2.2.2.2.2.2.2.2.2.2.2.2.2.2.1
noncomputable def m : PySem.Str → Option PySem.Value := tup9z.2.2.2.2.2.2.2.2.2.2.2.2.2.2.2.2.2.2.2.2.2.2.2.2.2.2.2.2.1
noncomputable def s : PySem.Shared := tup9z.2.2.2.2.2.2.2.2.2.2.2.2.2.2.2.2.2.2.2.2.2.2.2.2.2.2.2.2.2.1
noncomputable def R : PySem.Result → PySem.Shared → Prop := tup9z.2.2.2.2.2.2.2.2.2.2.2.2.2.2.2.2.2.2.2.2.2.2.2.2.2.2.2.2.2.2.1
noncomputable def x : Nat := tup9z.2.2.2.2.2.2.2.2.2.2.2.2.2.2.2.2.2.2.2.2.2.2.2.2.2.2.2.2.2.2.2.1
noncomputable def d : Nat := tup9z.2.2.2.2.2.2.2.2.2.2.2.2.2.2.2.2.2.2.2.2.2.2.2.2.2.2.2.2.2.2.2.2.1
noncomputable def pb : Nat := tup9z.2.2.2.2.2.2.2.2.2.2.2.2.2.2.2.2.2.2.2.2.2.2.2.2.2.2.2.2.2.2.2.2.2.1
noncomputable def fn : Nat := tup9z.2.2.2.2.2.2.2.2.2.2.2.2.2.2.2.2.2.2.2.2.2.2.2.2.2.2.2.2.2.2.2.2.2.2.1
noncomputable def c : Nat := tup9z.2.2.2.2.2.2.2.2.2.2.2.2.2.2.2.2.2.2.2.2.2.2.2.2.2.2.2.2.2.2.2.2.2.2.2.1
noncomputable def x1 : Nat := tup9z.2.2.2.2.2.2.2.2.2.2.2.2.2.2.2.2.2.2.2.2.2.2.2.2.2.2.2.2.2.2.2.2.2.2.2.2.1
noncomputable def d1 : Nat := tup9z.2.2.2.2.2.2.2.2.2.2.2.2.2.2.2.2.2.2.2.2.2.2.2.2.2.2.2.2.2.2.2.2.2.2.2.2.2.1
noncomputable def sg : Nat := tup9z.2.2.2.2.2.2.2.2.2.2.2.2.2.2.2.2.2.2.2.2.2.2.2.2.2.2.2.2.2.2.2.2.2.2.2.2.2.2.1
noncomputable def ce : Nat := tup9z.2.2.2.2.2.2.2.2.2.2.2.2.2.2.2.2.2.2.2.2.2.2.2.2.2.2.2.2.2.2.2.2.2.2.2.2.2.2.2.1
noncomputable def pb1 : Nat := tup9z.2.2.2.2.2.2.2.2.2.2.2.2.2.2.2.2.2.2.2.2.2.2.2.2.2.2.2.2.2.2.2.2.2.2.2.2.2.2.2.2.1
noncomputable def t1 : PySem.Tok := tup9z.2.2.2.2.2.2.2.2.2.2.2.2.2.2.2.2.2.2.2.2.2.2.2.2.2.2.2.2.2.2.2.2.2.2.2.2.2.2.2.2.2.1
noncomputable def t2 : PySem.Tok := tup9z.2.2.2.2.2.2.2.2.2.2.2.2.2.2.2.2.2.2.2.2.2.2.2.2.2.2.2.2.2.2.2.2.2.2.2.2.2.2.2.2.2.2.1
noncomputable def t3 : PySem.Tok := tup9z.2.2.2.2.2.2.2.2.2.2.2.2.2.2.2.2.2.2.2.2.2.2.2.2.2.2.2.2.2.2.2.2.2.2.2.2.2.2.2.2.2.2.2.1
noncomputable def t4 : PySem.Tok := tup9z.2.2.2.2.2.2.2.2.2.2.2.2.2.2.2.2.2.2.2.2.2.2.2.2.2.2.2.2.2.2.2.2.2.2.2.2.2.2.2.2.2.2.2.2.1
noncomputable def tw : PySem.Tok := tup9z.2.2.2.2.2.2.2.2.2.2.2.2.2.2.2.2.2.2.2.2.2.2.2.2.2.2.2.2.2.2.2.2.2.2.2.2.2.2.2.2.2.2.2.2.2.1
noncomputable def u1 : PySem.Tok := tup9z.2.2.2.2.2.2.2.2.2.2.2.2.2.2.2.2.2.2.2.2.2.2.2.2.2.2.2.2.2.2.2.2.2.2.2.2.2.2.2.2.2.2.2.2.2.2.1
noncomputable def u2 : PySem.Tok := tup9z.2.2.2.2.2.2.2.2.2.2.2.2.2.2.2.2.2.2.2.2.2.2.2.2.2.2.2.2.2.2.2.2.2.2.2.2.2.2.2.2.2.2.2.2.2.2.2.1
noncomputable def u3 : PySem.Tok := tup9z.2.2.2.2.2.2.2.2.2.2.2.2.2.2.2.2.2.2.2.2.2.2.2.2.2.2.2.2.2.2.2.2.2.2.2.2.2.2.2.2.2.2.2.2.2.2.2.2.1
noncomputable def u4 : PySem.Tok := tup9z.2.2.2.2.2.2.2.2.2.2.2.2.2.2.2.2.2.2.2.2.2.2.2.2.2.2.2.2.2.2.2.2.2.2.2.2.2.2.2.2.2.2.2.2.2.2.2.2.2.1
noncomputable def u5 : PySem.Tok := tup9z.2.2.2.2.2.2.2.2.2.2.2.2.2.2.2.2.2.2.2.2.2.2.2.2.2.2.2.2.2.2.2.2.2.2.2.2.2.2.2.2.2.2.2.2.2.2.2.2.2.2.1
noncomputable def v1 : PySem.Tok := tup9z.2.2.2.2.2.2.2.2.2.2.2.2.2.2.2.2.2.2.2.2.2.2.2.2.2.2.2.2.2.2.2.2.2.2.2.2.2.2.2.2.2.2.2.2.2.2.2.2.2.2.2.1
noncomputable def vw : PySem.Tok := tup9z.2.2.2.2.2.2.2.2.2.2.2.2.2.2.2.2.2.2.2.2.2.2.2.2.2.2.2.2.2.2.2.2.2.2.2.2.2.2.2.2.2.2.2.2.2.2.2.2.2.2.2.2.1
noncomputable def ct : PySem.Value := tup9z.2.2.2.2.2.2.2.2.2.2.2.2.2.2.2.2.2.2.2.2.2.2.2.2.2.2.2.2.2.2.2.2.2.2.2.2.2.2.2.2.2.2.2.2.2.2.2.2.2.2.2.2.2.1
noncomputable def pm : PySem.Value := tup9z.2.2.2.2.2.2.2.2.2.2.2.2.2.2.2.2.2.2.2.2.2.2.2.2.2.2.2.2.2.2.2.2.2.2.2.2.2.2.2.2.2.2.2.2.2.2.2.2.2.2.2.2.2.2.1
noncomputable def oc : PySem.Obj := tup9z.2.2.2.2.2.2.2.2.2.2.2.2.2.2.2.2.2.2.2.2.2.2.2.2.2.2.2.2.2.2.2.2.2.2.2.2.2.2.2.2.2.2.2.2.2.2.2.2.2.2.2.2.2.2.2.1
noncomputable def oC : PySem.Obj := tup9z.2.2.2.2.2.2.2.2.2.2.2.2.2.2.2.2.2.2.2.2.2.2.2.2.2.2.2.2.2.2.2.2.2.2.2.2.2.2.2.2.2.2.2.2.2.2.2.2.2.2.2.2.2.2.2.2.1
noncomputable def vs : Array PySem.Value := tup9z.2.2.2.2.2.2.2.2.2.2.2.2.2.2.2.2.2.2.2.2.2.2.2.2.2.2.2.2.2.2.2.2.2.2.2.2.2.2.2.2.2.2.2.2.2.2.2.2.2.2.2.2.2.2.2.2.2.1
noncomputable def tq : PySem.Tok := tup9z.2.2.2.2.2.2.2.2.2.2.2.2.2.2.2.2.2.2.2.2.2.2.2.2.2.2.2.2.2.2.2.2.2.2.2.2.2.2.2.2.2.2.2.2.2.2.2.2.2.2.2.2.2.2.2.2.2.2.1
noncomputable def z1 : PySem.Heap := tup9z.2.2.2.2.2.2.2.2.2.2.2.2.2.2.2.2.2.2.2.2.2.2.2.2.2.2.2.2.2.2.2.2.2.2.2.2.2.2.2.2.2.2.2.2.2.2.2.2.2.2.2.2.2.2.2.2.2.2.2.1
noncomputable def z2 : PySem.Addr := tup9z.2.2.2.2.2.2.2.2.2.2.2.2.2.2.2.2.2.2.2.2.2.2.2.2.2.2.2.2.2.2.2.2.2.2.2.2.2.2.2.2.2.2.2.2.2.2.2.2.2.2.2.2.2.2.2.2.2.2.2.2.1
noncomputable def z3 : PySem.Heap := tup9z.2.2.2.2.2.2.2.2.2.2.2.2.2.2.2.2.2.2.2.2.2.2.2.2.2.2.2.2.2.2.2.2.2.2.2.2.2.2.2.2.2.2.2.2.2.2.2.2.2.2.2.2.2.2.2.2.2.2.2.2.2.1
noncomputable def Cm : PySem.Addr := tup9z.2.2.2.2.2.2.2.2.2.2.2.2.2.2.2.2.2.2.2.2.2.2.2.2.2.2.2.2.2.2.2.2.2.2.2.2.2.2.2.2.2.2.2.2.2.2.2.2.2.2.2.2.2.2.2.2.2.2.2.2.2.2.1
noncomputable def z8 : PySem.Heap := tup9z.2.2.2.2.2.2.2.2.2.2.2.2.2.2.2.2.2.2.2.2.2.2.2.2.2.2.2.2.2.2.2.2.2.2.2.2.2.2.2.2.2.2.2.2.2.2.2.2.2.2.2.2.2.2.2.2.2.2.2.2.2.2.2.1
noncomputable def z9 : PySem.Heap := tup9z.2.2.2.2.2.2.2.2.2.2.2.2.2.2.2.2.2.2.2.2.2.2.2.2.2.2.2.2.2.2.2.2.2.2.2.2.2.2.2.2.2.2.2.2.2.2.2.2.2.2.2.2.2.2.2.2.2.2.2.2.2.2.2.2.1
noncomputable def z10 : Nat := tup9z.2.2.2.2.2.2.2.2.2.2.2.2.2.2.2.2.2.2.2.2.2.2.2.2.2.2.2.2.2.2.2.2.2.2.2.2.2.2.2.2.2.2.2.2.2.2.2.2.2.2.2.2.2.2.2.2.2.2.2.2.2.2.2.2.2.1
noncomputable def Bk : PySem.Addr := tup9z.2.2.2.2.2.2.2.2.2.2.2.2.2.2.2.2.2.2.2.2.2.2.2.2.2.2.2.2.2.2.2.2.2.2.2.2.2.2.2.2.2.2.2.2.2.2.2.2.2.2.2.2.2.2.2.2.2.2.2.2.2.2.2.2.2.2.1
noncomputable def z11 : PySem.Heap := tup9z.2.2.2.2.2.2.2.2.2.2.2.2.2.2.2.2.2.2.2.2.2.2.2.2.2.2.2.2.2.2.2.2.2.2.2.2.2.2.2.2.2.2.2.2.2.2.2.2.2.2.2.2.2.2.2.2.2.2.2.2.2.2.2.2.2.2.2.1
noncomputable def z12 : PySem.Heap := tup9z.2.2.2.2.2.2.2.2.2.2.2.2.2.2.2.2.2.2.2.2.2.2.2.2.2.2.2.2.2.2.2.2.2.2.2.2.2.2.2.2.2.2.2.2.2.2.2.2.2.2.2.2.2.2.2.2.2.2.2.2.2.2.2.2.2.2.2.2.1
noncomputable def tk : Nat := tup9z.2.2.2.2.2.2.2.2.2.2.2.2.2.2.2.2.2.2.2.2.2.2.2.2.2.2.2.2.2.2.2.2.2.2.2.2.2.2.2.2.2.2.2.2.2.2.2.2.2.2.2.2.2.2.2.2.2.2.2.2.2.2.2.2.2.2.2.2.2.1
noncomputable def h9 : PySem.Heap := tup9z.2.2.2.2.2.2.2.2.2.2.2.2.2.2.2.2.2.2.2.2.2.2.2.2.2.2.2.2.2.2.2.2.2.2.2.2.2.2.2.2.2.2.2.2.2.2.2.2.2.2.2.2.2.2.2.2.2.2.2.2.2.2.2.2.2.2.2.2.2.2.1
noncomputable def tk9 : Nat := tup9z.2.2.2.2.2.2.2.2.2.2.2.2.2.2.2.2.2.2.2.2.2.2.2.2.2.2.2.2.2.2.2.2.2.2.2.2.2.2.2.2.2.2.2.2.2.2.2.2.2.2.2.2.2.2.2.2.2.2.2.2.2.2.2.2.2.2.2.2.2.2.2.1
noncomputable def qe9 : Nat := tup9z.2.2.2.2.2.2.2.2.2.2.2.2.2.2.2.2.2.2.2.2.2.2.2.2.2.2.2.2.2.2.2.2.2.2.2.2.2.2.2.2.2.2.2.2.2.2.2.2.2.2.2.2.2.2.2.2.2.2.2.2.2.2.2.2.2.2.2.2.2.2.2.2.1
noncomputable def tl2 : PySem.Tok := tup9z.2.2.2.2.2.2.2.2.2.2.2.2.2.2.2.2.2.2.2.2.2.2.2.2.2.2.2.2.2.2.2.2.2.2.2.2.2.2.2.2.2.2.2.2.2.2.2.2.2.2.2.2.2.2.2.2.2.2.2.2.2.2.2.2.2.2.2.2.2.2.2.2.2.1
noncomputable def sv2 : List PySem.Value := tup9z.2.2.2.2.2.2.2.2.2.2.2.2.2.2.2.2.2.2.2.2.2.2.2.2.2.2.2.2.2.2.2.2.2.2.2.2.2.2.2.2.2.2.2.2.2.2.2.2.2.2.2.2.2.2.2.2.2.2.2.2.2.2.2.2.2.2.2.2.2.2.2.2.2.2.1
noncomputable def se2 : Nat := tup9z.2.2.2.2.2.2.2.2.2.2.2.2.2.2.2.2.2.2.2.2.2.2.2.2.2.2.2.2.2.2.2.2.2.2.2.2.2.2.2.2.2.2.2.2.2.2.2.2.2.2.2.2.2.2.2.2.2.2.2.2.2.2.2.2.2.2.2.2.2.2.2.2.2.2.2
set_option maxRecDepth 100000 in
set_option maxHeartbeats 8000000 in
theorem main9 : seg9.1 w ln rem l t qe f tl sv se loose mean mg mb rest dp un gd cn cs a ccd cl outer A₀ base h₀ L m s R x d pb fn c x1 d1 sg ce pb1 t1 t2 t3 t4 tw u1 u2 u3 u4 u5 v1 vw ct pm oc oC vs tq z1 z2 z3 Cm z8 z9 z10 Bk z11 z12 tk h9 tk9 qe9 tl2 sv2 se2 := by
   delta seg9 segOf
   dsimp -zeta only
   intro S hS hs F₀ X T hd hu N₀ hret ok' off0 y5 y6 y7 qk ek hC' lC lB F9 hlt9 hs2 N9 hrl hord
   refine while_st (σ := SG) (env := envOf _ _ _ _ _) (fun y => [(Str.ofString "line", .ref x), (Str.ofString "come", .ref Cm), (Str.ofString "book", .ref Bk)])
     (sgLed w ⟨x, d, pb, fn, c, x1, d1, sg, ce, pb1, t1, t2, t3, t4, tw, u1, u2, u3, u4, u5, v1, vw, ct, pm, oc, oC, vs, tq⟩ ln Cm Bk rest) (fun n y => SG.Ok w rem y ∧ y.S.book.length ≤ 100 ∧ y.S.come.length ≤ 1000 ∧ y.S.q.length ≤ 1000 ∧ comeGo n y.S = some S) f ⟨⟨[], [l], [l]⟩, [], [.str (mkS l) t], 0, 0, tl2, sv2, [.str (mkS l) t], se2, qe9⟩ (by k_asm) (by k_asm) ⟨rfl, rfl, rfl, trivial⟩ (by dsimp only [sgLed, lexLed]; simp only [List.cons_append, List.nil_append]; (repeat' first | exact List.forall_mem_nil _ | refine mem_cons_all ?_ ?_ | exact sub_refl | refine sub_tail ?_ | k_mem)) ⟨⟨.nil, .cons _ _ .nil, .cons _ _ .nil, hs2⟩, (by show 1 ≤ 100; decide), (by show 0 ≤ 1000; decide), (by show 1 ≤ 1000; decide), hS⟩ ?_
   clear N9 F9 hlt9 hs2 hs N₀ F₀ hS
   intro n y h tk m₁ hok F N
   obtain ⟨⟨come, book, q⟩, wc, wb, kc, kb, tl3, sv3, qv, se3, qe3⟩ := y
   obtain ⟨⟨hwc, hwb, hqv, hs3⟩, hbz, hcz, hqz, hgo⟩ := hok
   dsimp only [sgLed, lexLed, mB] at *
   simp only [List.cons_append, List.nil_append] at N
   cases n with
   | zero => cases hgo
   | succ n =>
   rw [comeGo] at hgo
   cases q with
   | nil =>
     dsimp only at hgo
     obtain rfl := Option.some.inj hgo
     obtain rfl : qv = [] := by cases hqv; rfl
     k_with_none
     k_with "truthy ref" => refine truthy_nil (by is_list) ?_
     k_steps
     have hlq : ∀ q ∈ lexLed w ⟨x, d, pb, fn, c, x1, d1, sg, ce, pb1, t1, t2, t3, t4, tw, u1, u2, u3, u4, u5, v1, vw, ct, pm, oc, oC, vs, tq⟩ ln tl sv se [] qe ++ rest, @LT.lt Nat _ q.1 Cm := by
       dsimp only [lexLed]
       simp only [List.cons_append, List.nil_append]
       (repeat' first | exact List.forall_mem_nil _ | (first | exact raw_lt (by assumption) (by walk_at "le9") | exact allLt_lt' (by walk_at "and_r") (by walk_at "le9")) | refine lt_cons ?_ ?_ | (with_reducible assumption) | omega)
     (with_reducible rename News _ _ _ ((_, _) :: (pb, _) :: _) => N99)
     have hDm : ∀ p ∈ [(Bk, listOf wb.toArray kb), (Cm, listOf wc.toArray kc)], True := fun _ _ => trivial
     refine hret _ (lexLed w ⟨x, d, pb, fn, c, x1, d1, sg, ce, pb1, t1, t2, t3, t4, tw, u1, u2, u3, u4, u5, v1, vw, ct, pm, oc, oC, vs, tq⟩ ln tl3 sv3 se3 [] qe3) [_, (Bk, listOf wb.toArray kb), (Cm, listOf wc.toArray kc)] _ _ ⟨_, Bk, Cm, kb, kc, wb, wc, rfl, rfl, hwc, hwb, hord.2, _, tl3, sv3, se3, hs3, rfl⟩ (fun q hq p hp => ?_) (by k_asm) (by dsimp only [lexLed]; simp only [List.cons_append, List.nil_append]; exact news_of N99 (by (repeat' first | exact List.forall_mem_nil _ | refine mem_cons_all ?_ ?_ | exact sub_refl | refine sub_tail ?_ | k_mem)))
     have hq9 := hlq q hq
     have hp9 : @LE.le Nat _ Cm p.1 := by
       revert p
       exact List.forall_mem_cons.mpr ⟨by (show @LE.le Nat _ _ _); omega, List.forall_mem_cons.mpr ⟨by (show @LE.le Nat _ _ _); omega, List.forall_mem_cons.mpr ⟨by (show @LE.le Nat _ _ _); omega, List.forall_mem_nil _⟩⟩⟩
     exact Nat.lt_of_lt_of_le hq9 hp9
   | cons row q =>
     dsimp only at hgo
     split at hgo
     · rename_i hfit
       obtain ⟨⟨b1, b2, b3⟩, b4⟩ := CS.fits_small hfit
       obtain ⟨hrow, hrc⟩ := b4 row (.head _)
       dsimp only at b1 b2 b3
       rw [List.length_cons] at b3
       obtain ⟨tv, qv3, rfl, hqv3⟩ : ∃ tv qv3, qv = .str (mkS row) tv :: qv3 ∧ StrsAre qv3 (q.map mkS) := by
         cases hqv with
         | cons _ t r => exact ⟨t, _, rfl, r⟩
       have hvl : qv3.length = q.length := by rw [strs_len hqv3, List.length_map]
       have hq3 : qv3.length ≤ 1000 := by omega
       have hwcz : wc.length ≤ 1000 := by rw [strs_len hwc, List.length_map]; omega
       obtain ⟨T9, hT9, hgo'⟩ : ∃ T9, lendGo row (row.length - 1) 1 ⟨book, q⟩ = some T9 ∧ comeGo n ⟨come ++ [row], T9.book, T9.q⟩ = some S := by
         cases e : lendGo row (row.length - 1) 1 ⟨book, q⟩ with
         | none => rw [e] at hgo; cases hgo
         | some T9 => rw [e] at hgo; exact ⟨T9, rfl, hgo⟩
       k_with_none
       k_with "truthy ref" => refine truthy_cons (by is_list) (by omega) ?_
       k_with "call ref nil" => (refine' Ctr.use (tok_pop w ⟨x, d, pb, fn, c, x1, d1, sg, ce, pb1, t1, t2, t3, t4, tw, u1, u2, u3, u4, u5, v1, vw, ct, pm, oc, oC, vs, tq⟩ ok' ln rem (.str (mkS row) tv) qv3 qe3 _ ⟨tl3, sv3, se3, hs3, rfl⟩ hq3) ?kC ?kP ?kO ?kB ?kF ?kX ?kN ?kT ?kK ?kd ?ku ?_; ((case kF => k_asm); (case kN => k_asm); (case kB => k_asm); (case kX => k_asm); (case kT => k_asm); (case kC => k_asm); (case kK => first | exact rfl | assumption); (case kd => ktr_room); (case ku => ktr_units); (case kP => dsimp only [lexLed]; (repeat' first | exact Pick.nil | apply Pick.cons | exact Take.head | apply Take.tail)); (case kO => refine LexP.Off.to ?_; (repeat' first | assumption | refine LexP.Off.cons ?_ (by assumption) (by (try dsimp only); (show @LT.lt Nat _ _ _); omega)))); intro v9 led9 tl9 h9 tk9 hp9 hlt9 F9 N9; obtain ⟨rfl, rfl, qe9, tl5, sv5, se5, hs5, rfl⟩ := hp9; dsimp only [lexLed] at N9; simp only [List.cons_append, List.nil_append] at N9)
       k_with "call builtin:len cons nil" => refine k_lenS (l := row) (by omega) ?_
       k_with "call type:range cons nil" => refine stop_in ?_
       k_with "exec For Name Call cons nil" => refine stop_in ?_
       k_steps
       refine stop_out ?_
       refine wpAny_For ?_
       k_steps
       refine stop_out ?_
       (with_reducible rename News _ _ _ ((pb, _) :: _) => N99)
       simp only [List.push_toArray] at N99
       refine for_range2 (σ := SG) (n := row.length - 1) (env := envOf _ _ _ _ _) (by k_asm) N99 rfl (by split <;> omega) (by decide) (by omega) (fun y => [(Str.ofString "line", .ref x), (Str.ofString "come", .ref Cm), (Str.ofString "book", .ref Bk), (Str.ofString "word", .str (mkS row) tv)])
         (fun y => sgLed w ⟨x, d, pb, fn, c, x1, d1, sg, ce, pb1, t1, t2, t3, t4, tw, u1, u2, u3, u4, u5, v1, vw, ct, pm, oc, oC, vs, tq⟩ ln Cm Bk rest y) (fun i y => SG.Ok w rem y ∧ y.S.come = come ++ [row] ∧ (y.S.book.length ≤ 100 ∧ y.S.q.length ≤ 100 + i) ∧ lendGo row (row.length - 1 - i) (1 + i) ⟨y.S.book, y.S.q⟩ = some T9) ⟨⟨come ++ [row], book, q⟩, wc ++ [.str (mkS row) tv], wb, kc + 1, kb, _, _, qv3, _, _⟩ ⟨rfl, rfl, rfl, rfl, trivial⟩ (by dsimp only [sgLed, lexLed]; simp only [List.cons_append, List.nil_append]; (repeat' first | exact List.forall_mem_nil _ | refine mem_cons_all ?_ ?_ | exact sub_refl | refine sub_tail ?_ | k_mem)) ⟨⟨?_, hwb, hqv3, by assumption⟩, rfl, ⟨by show book.length ≤ 100; omega, by show q.length ≤ 100 + 0; omega⟩, hT9⟩ ?_ ?_ ?_
       · show StrsAre (wc ++ [_]) ((come ++ [row]).map mkS)
         rw [List.map_append]
         exact hwc.append' (.cons _ _ .nil)
       · intro i y _
         dsimp only [sgLed, lexLed]
         simp only [List.cons_append, List.nil_append]
         (repeat' first | exact List.forall_mem_nil _ | apply adr_cons | exact List.Mem.head _ | refine List.Mem.tail _ ?_ | refine adr_of_sub ?_ | exact sub_refl | refine sub_tail ?_)
       · clear hwc hwb hqv hqv3 hs3 hwcz hvl hq3 hcz hqz hbz hfit b4
         intro i y t9 h9 tk9 m9 own hi hok hown F N
         obtain ⟨⟨come6, book6, q6⟩, wc, wb, kc, kb, tl6, sv6, qv, se6, qe6⟩ := y
         obtain ⟨⟨hwc, hwb, hqv, hs6⟩, e1, ⟨hbz, hqz⟩, hld⟩ := hok
         dsimp only [sgLed, lexLed, mB] at *
         subst e1
         simp only [List.cons_append, List.nil_append] at N
         have opb := own_lt hown (a := pb) (by (repeat' first | exact List.Mem.head _ | refine List.Mem.tail _ ?_))
         have off2 := off0.app ok' opb
         have hn1 := app_ne (allLt_lt hrl) (Nat.le_refl _) (own_lt hown (a := Cm) (by (repeat' first | exact List.Mem.head _ | refine List.Mem.tail _ ?_)))
         have hn2 := app_ne (a := Bk) (allLt_lt hrl) (by omega) (own_lt hown (by (repeat' first | exact List.Mem.head _ | refine List.Mem.tail _ ?_)))
         generalize hr2 : rest ++ own = r2 at N off2 hn1 hn2
         rw [show row.length - 1 - i = (row.length - 1 - (i + 1)) + 1 by omega, lendGo, show 1 + i + 1 = 1 + (i + 1) by omega] at hld
         have hqvz : qv.length ≤ 1000 := by rw [strs_len hqv, List.length_map]; omega
         have hX : (row.take i ++ [row.getD i 0 - 1, 81]) ++ row.drop (2 + i) = lendAt row (1 + i) := by
           rw [lendAt, show 1 + i - 1 = i by omega, show 1 + i + 1 = 2 + i by omega]; simp only [List.append_assoc]
         have hci := hrc _ (getD_mem (l := row) (p := i) (by omega))
         obtain ⟨S2, hst, hld'⟩ : ∃ S2, lendStep row (1 + i) ⟨book6, q6⟩ = some S2 ∧ lendGo row (row.length - 1 - (i + 1)) (1 + (i + 1)) S2 = some T9 := by
           cases e : lendStep row (1 + i) ⟨book6, q6⟩ with
           | none => rw [e] at hld; cases hld
           | some S2 => rw [e] at hld; exact ⟨S2, rfl, hld⟩
         have hsl := lendStep_len hst hbz
         dsimp only at hsl
         k_with_none
         k_with "subscriptTail Name Name str int" => refine k_letter (l := row) (1 + i) (by omega) (by omega) (by omega) (by omega) ?_
         k_with "subscriptTail Name BinOp str int" => refine k_letter (l := row) i (by omega) (by omega) (by omega) (by omega) ?_
         k_with "call ref cons nil" => refine stop_in ?_
         k_with "subscriptTail Name Slice str ref" => (first
           | (refine k_cut_to (l := row) i (by omega) (by omega) (by omega) (by omega) (by k_asm) (by k_asm) ?_; intro h8 t8 k8 F8 N8)
           | (refine k_cut_from (l := row) (2 + i) (by omega) (by omega) (by omega) (by omega) (by k_asm) (by k_asm) ?_; intro h8 t8 k8 F8 N8))
         k_with "binaryOp Add str str" => (first
           | (refine k_lent hci ?_; intro t8 k8)
           | (refine k_glue (by simp only [List.length_append, List.length_take, List.length_drop, List.length_cons, List.length_nil]; omega) (by simp only [List.length_append, List.length_take, List.length_drop, List.length_cons, List.length_nil]; omega) ?_; intro t8 k8))
         k_steps
         · refine stop_out ?_
           have cA : row.getD (1 + i) 0 = 65 := isA (by assumption)
           have cB : ¬ row.getD i 0 = 65 := notA (by assumption)
           obtain ⟨hbk, r, hE, rfl⟩ := lendStep_yes cA (by rw [show 1 + i - 1 = i by omega]; exact cB) hst
           dsimp only at hbk hE
           rw [hX]
           refine' Ctr.use (entered2 w Bk wb kb book6 hwb (by omega) (lendAt row (1 + i)) _ 12 r hE) ?kC ?kP ?kO ?kB ?kF ?kX ?kN ?kT ?kK ?kd ?ku ?_
           case kC => trivial
           case kF => k_asm
           case kN => k_asm
           case kB => k_asm
           case kX => k_asm
           case kT => k_asm
           case kK => exact rfl
           case kd => ktr_room
           case ku => ktr_units
           case kP => (repeat' first | exact Pick.nil | apply Pick.cons | exact Take.head | apply Take.tail)
           case kO =>
             intro p hp
             obtain rfl := List.mem_singleton.mp hp
             dsimp only
             (repeat' first | exact List.forall_mem_nil _ | assumption | (refine List.forall_mem_cons.mpr ⟨by (show @Ne Nat _ _); omega, ?_⟩))
           intro v9 led9 tl9 h9 tk9 hp9 hlt9 F9 N9
           obtain ⟨rfl, ⟨wb9, kb9, rfl, hwb9⟩, rfl⟩ := hp9
           simp only [List.cons_append, List.nil_append] at N9
           k_with_none
           cases r with
           | none =>
             k_steps
             refine ListEnd.mkM (fun m => (⟨⟨come ++ [row], book6, q6⟩, wc, wb9, kc, kb9, tl6, sv6, qv, se6, qe6⟩ : SG)) (by k_asm) (by k_asm) (by (repeat' first | exact True.intro | refine ⟨?_, ?_⟩ | kernel_rfl | exact rfl)) (by dsimp only [sgLed, lexLed]; simp only [List.cons_append, List.nil_append, hr2]; (repeat' first | exact List.forall_mem_nil _ | refine mem_cons_all ?_ ?_ | exact sub_refl | refine sub_tail ?_ | k_mem)) ⟨⟨hwc, hwb9, hqv, hs6⟩, rfl, ⟨hbz, by show q6.length ≤ 100 + (i + 1); omega⟩, hld'⟩
           | some k =>
             k_with "call ref cons nil" => (refine' Ctr.use (push_token w ⟨x, d, pb, fn, c, x1, d1, sg, ce, pb1, t1, t2, t3, t4, tw, u1, u2, u3, u4, u5, v1, vw, ct, pm, oc, oC, vs, tq⟩ ok' ln rem (.str (mkS _) _) qv qe6 _ ⟨tl6, sv6, se6, hs6, rfl⟩ hqvz) ?kC ?kP ?kO ?kB ?kF ?kX ?kN ?kT ?kK ?kd ?ku ?_; ((case kF => k_asm); (case kN => k_asm); (case kB => k_asm); (case kX => k_asm); (case kT => k_asm); (case kC => k_asm); (case kK => first | exact rfl | assumption); (case kd => ktr_room); (case ku => ktr_units); (case kP => dsimp only [lexLed]; (repeat' first | exact Pick.nil | apply Pick.cons | exact Take.head | apply Take.tail)); (case kO => refine LexP.Off.to ?_; (repeat' first | assumption | refine LexP.Off.cons ?_ (by assumption) (by (try dsimp only); (show @LT.lt Nat _ _ _); omega)))); intro v9 led9 tl9 h9 tk9 hp9 hlt9 F9 N9; obtain ⟨rfl, rfl, qe9, tl5, sv5, se5, hs5, rfl⟩ := hp9; dsimp only [lexLed] at N9; simp only [List.cons_append, List.nil_append] at N9)
             k_steps
             · refine ListEnd.mkM (fun m => (⟨⟨come ++ [row], entOut book6 (lendAt row (1 + i)) (some k), q6 ++ [lendAt row (1 + i)]⟩, wc, wb9, kc, kb9, tl5, sv5, qv ++ [_], se5, qe9⟩ : SG)) (by k_asm) (by k_asm) (by (repeat' first | exact True.intro | refine ⟨?_, ?_⟩ | kernel_rfl | exact rfl)) (by dsimp only [sgLed, lexLed]; simp only [List.cons_append, List.nil_append, hr2]; (repeat' first | exact List.forall_mem_nil _ | refine mem_cons_all ?_ ?_ | exact sub_refl | refine sub_tail ?_ | k_mem)) ⟨⟨hwc, hwb9, by rw [List.map_append]; exact hqv.append' (by rw [hX]; exact .cons _ _ .nil), hs5⟩, rfl, ⟨hsl.1, by simp only [List.length_append, List.length_singleton]; omega⟩, hld'⟩
             · exact absurd (by assumption : (some k).isSome = false) (by simp)
         · have cB : row.getD i 0 = 65 := isA' (by assumption)
           rw [lendStep_no (by rw [show 1 + i - 1 = i by omega]; exact fun q => q.2 cB)] at hst
           obtain rfl := Option.some.inj hst
           refine ListEnd.mkM (fun m => (⟨⟨come ++ [row], book6, q6⟩, wc, wb, kc, kb, tl6, sv6, qv, se6, qe6⟩ : SG)) (by k_asm) (by k_asm) (by (repeat' first | exact True.intro | refine ⟨?_, ?_⟩ | kernel_rfl | exact rfl)) (by dsimp only [sgLed, lexLed]; simp only [List.cons_append, List.nil_append, hr2]; (repeat' first | exact List.forall_mem_nil _ | refine mem_cons_all ?_ ?_ | exact sub_refl | refine sub_tail ?_ | k_mem)) ⟨⟨hwc, hwb, hqv, hs6⟩, rfl, ⟨hbz, by show q6.length ≤ 100 + (i + 1); omega⟩, hld'⟩
         · have cA : ¬ row.getD (1 + i) 0 = 65 := notA' (by assumption)
           rw [lendStep_no (fun q => cA q.1)] at hst
           obtain rfl := Option.some.inj hst
           refine ListEnd.mkM (fun m => (⟨⟨come ++ [row], book6, q6⟩, wc, wb, kc, kb, tl6, sv6, qv, se6, qe6⟩ : SG)) (by k_asm) (by k_asm) (by (repeat' first | exact True.intro | refine ⟨?_, ?_⟩ | kernel_rfl | exact rfl)) (by dsimp only [sgLed, lexLed]; simp only [List.cons_append, List.nil_append, hr2]; (repeat' first | exact List.forall_mem_nil _ | refine mem_cons_all ?_ ?_ | exact sub_refl | refine sub_tail ?_ | k_mem)) ⟨⟨hwc, hwb, hqv, hs6⟩, rfl, ⟨hbz, by show q6.length ≤ 100 + (i + 1); omega⟩, hld'⟩
       · clear hwc hwb hqv hqv3 hs3 hwcz hvl hq3 hcz hqz hbz hfit b4
         intro h8 tk8 m8 y hok F N
         obtain ⟨⟨come6, book6, q6⟩, wc, wb, kc, kb, tl6, sv6, qv, se6, qe6⟩ := y
         obtain ⟨⟨hwc, hwb, hqv, hs6⟩, e1, ⟨hbz, hqz⟩, hld⟩ := hok
         dsimp only [sgLed, lexLed, mB] at *
         subst e1
         rw [Nat.sub_self, lendGo] at hld
         obtain rfl := Option.some.inj hld
         simp only [List.cons_append, List.nil_append] at N
         k_with_none
         k_steps
         refine TurnEnd.mk n ⟨⟨come ++ [row], book6, q6⟩, wc, wb, kc, kb, tl6, sv6, qv, se6, qe6⟩ (Nat.lt_succ_self _) (by k_asm) (by k_asm) (by (repeat' first | exact True.intro | refine ⟨?_, ?_⟩ | kernel_rfl | exact rfl)) (by exact fun _ h => h) ⟨⟨hwc, hwb, hqv, hs6⟩, hbz, by simp only [List.length_append, List.length_singleton]; omega, by show q6.length ≤ 1000; omega, hgo'⟩
     · cases hgo

set_option maxRecDepth 100000 in
set_option maxHeartbeats 8000000 in
theorem all9 : ∀ a0 a1 a2 a3 a4 a5 a6 a7 a8 a9 a10 a11 a12 a13 a14 a15 a16 a17 a18 a19 a20 a21 a22 a23 a24 a25 a26 a27 a28 a29 a30 a31 a32 a33 a34 a35 a36 a37 a38 a39 a40 a41 a42 a43 a44 a45 a46 a47 a48 a49 a50 a51 a52 a53 a54 a55 a56 a57 a58 a59 a60 a61 a62 a63 a64 a65 a66 a67 a68 a69 a70 a71 a72 a73 a74 a75, seg9.1 a0 a1 a2 a3 a4 a5 a6 a7 a8 a9 a10 a11 a12 a13 a14 a15 a16 a17 a18 a19 a20 a21 a22 a23 a24 a25 a26 a27 a28 a29 a30 a31 a32 a33 a34 a35 a36 a37 a38 a39 a40 a41 a42 a43 a44 a45 a46 a47 a48 a49 a50 a51 a52 a53 a54 a55 a56 a57 a58 a59 a60 a61 a62 a63 a64 a65 a66 a67 a68 a69 a70 a71 a72 a73 a74 a75 := fun a0 a1 a2 a3 a4 a5 a6 a7 a8 a9 a10 a11 a12 a13 a14 a15 a16 a17 a18 a19 a20 a21 a22 a23 a24 a25 a26 a27 a28 a29 a30 a31 a32 a33 a34 a35 a36 a37 a38 a39 a40 a41 a42 a43 a44 a45 a46 a47 a48 a49 a50 a51 a52 a53 a54 a55 a56 a57 a58 a59 a60 a61 a62 a63 a64 a65 a66 a67 a68 a69 a70 a71 a72 a73 a74 a75 => hen_all (G := G9) main9 (a0, a1, a2, a3, a4, a5, a6, a7, a8, a9, a10, a11, a12, a13, a14, a15, a16, a17, a18, a19, a20, a21, a22, a23, a24, a25, a26, a27, a28, a29, a30, a31, a32, a33, a34, a35, a36, a37, a38, a39, a40, a41, a42, a43, a44, a45, a46, a47, a48, a49, a50, a51, a52, a53, a54, a55, a56, a57, a58, a59, a60, a61, a62, a63, a64, a65, a66, a67, a68, a69, a70, a71, a72, a73, a74, a75)
end comeA
theorem come2 (w : World) (P : LexP) (ok : P.Ok) (ln : Int) (rem l : List Nat) (t : Tok) (qe : Nat) (led : List (Addr × Obj)) (st : LexSt w P ln rem [] qe led) (f : Nat) (S : CS) (hS : comeGo f ⟨[], [l], [l]⟩ = some S) : Ctr (fun h => CodeHd h 112 108) PySem.Challenge.rw_wn0028_02.prog w (Mine.hd.heap_39 w.params) PySem.W.topProg 8 100 155 [.ref P.x, .str (mkS l) t] led (fun v led tl => ∃ (D Bk Cm : Addr) (kb kc : Nat) (wb wc : List Value), v = .ref D ∧ tl = [(D, { cls := .type "tuple", data := .seq #[.ref Cm, .ref Bk] }), (Bk, listOf wb.toArray kb), (Cm, listOf wc.toArray kc)] ∧ StrsAre wc (S.come.map mkS) ∧ StrsAre wb (S.book.map mkS) ∧ @LT.lt Nat _ Cm Bk ∧ ∃ qe, LexSt w P ln rem [] qe led) := comeA.seg9.2 ⟨comeA.all9⟩ w P ok ln rem l t qe led st f S hS

end Mine
namespace Mine
theorem reset_writings2 : True := by
  w_top off
  trivial
theorem glue_last (l : List Nat) (k : Nat) : mkS l ++ (⟨#[((65 : Int) + (k : Int)).toNat]⟩ : Str) = mkS (l ++ [65 + k]) := by
  rw [show ((65 : Int) + (k : Int)).toNat = 65 + k by omega]; exact mkS_app l [65 + k]
theorem last_A (k : Nat) : ((⟨#[((65 : Int) + (k : Int)).toNat]⟩ : Str) == Str.ofString "A") = decide (k = 0) := by
  rw [show ((65 : Int) + (k : Int)).toNat = 65 + k by omega, show Str.ofString "A" = mkS [65] by decide +kernel]
  by_cases h : k = 0
  · subst h; simp
  · rw [decide_eq_false h]
    have : mkS [65 + k] ≠ mkS [65] := fun e => h (by simpa using mkS_inj e)
    simpa using this
theorem lastA {k : Nat} (h : ((⟨#[((65 : Int) + (k : Int)).toNat]⟩ : Str) == Str.ofString "A") = true) : k = 0 := by rw [last_A] at h; exact of_decide_eq_true h
theorem notLastA {k : Nat} (h : ((⟨#[((65 : Int) + (k : Int)).toNat]⟩ : Str) == Str.ofString "A") = false) : ¬ k = 0 := by rw [last_A] at h; exact of_decide_eq_false h
theorem glue_Q (l : List Nat) : mkS l ++ Str.ofString "Q" = mkS (l ++ [81]) := by
  rw [show Str.ofString "Q" = mkS [81] by decide +kernel]; exact mkS_app l [81]
namespace writingsA
set_option maxRecDepth 100000 in
set_option maxHeartbeats 4000000 in
noncomputable def seg9 : {p : PySem.World → Nat → Nat → PySem.Tok → PySem.Tok → (List PySem.Str) → (PySem.ExcName → Option PySem.Value) → (PySem.Str → Option PySem.Value) → (PySem.Str → Option PySem.Value) → (List (PySem.Addr × PySem.Obj)) → Nat → Nat → (Option (List PySem.Code)) → PySem.Str → PySem.Scope → PySem.Addr → PySem.Value → (List (PySem.Str × PySem.Addr)) → (List PySem.Env) → PySem.Around → PySem.Heap → PySem.Heap → PySem.Addr → (PySem.Str → Option PySem.Value) → PySem.Shared → (PySem.Result → PySem.Shared → Prop) → PySem.Heap → PySem.Addr → PySem.Heap → Nat → PySem.Obj → Nat → PySem.Heap → PySem.Obj → Nat → Prop // Hid (∀ a0 a1 a2 a3 a4 a5 a6 a7 a8 a9 a10 a11 a12 a13 a14 a15 a16 a17 a18 a19 a20 a21 a22 a23 a24 a25 a26 a27 a28 a29 a30 a31 a32 a33 a34, p a0 a1 a2 a3 a4 a5 a6 a7 a8 a9 a10 a11 a12 a13 a14 a15 a16 a17 a18 a19 a20 a21 a22 a23 a24 a25 a26 a27 a28 a29 a30 a31 a32 a33 a34) → ∀ (w : World), ∀ (len n : Nat) (t u : Tok), len ≤ 8 → n < 16 ^ 10 →
   CtrN PySem.Challenge.rw_wn0028_02.prog w (Mine.hd.heap_39 w.params) PySem.W.topProg (2 * len + 3) (30 * len + 40) 160 [.int (n : Int) t, .int (len : Int) u] [] (fun v tl => ∃ f ws k, v = .ref f ∧ tl = [(f, listOf ws.toArray k)] ∧ StrsAre ws ((writF len n).map mkS))} := segOf (by
   intro ht9
   intro w
   intro len
   induction len with
   | zero =>
     intro n t u hl hn loose mean mg mb rest dp un gd cn cs aa ccd cl outer A₀ base h₀ L m s R hled B F₀ X N₀ T hk hd hu hret
     k_with_none
     k_dflt ((refine' code_defC ?k1 ?k2 ?k3 ?k4 ?k5 ?kA ?kF ?kK ?k6 ?k7 ?k8 ?k9 ?kB ?kD ?_ ?c2 ?c3 ?c4; (case kA => exact rfl); (case kF => exact rfl); (case kK => assumption); (case k1 => k_asm); (case k2 => k_asm); (case k3 => k_asm); (case k4 => k_asm); (case k5 => k_asm); (case k6 => k_is); (case k7 => k_is); (case k8 => ktr_room); (case k9 => exact BindsTo.of_eq rfl); (case kB => exact rfl); (case kD => decide +kernel); (case c2 => exact rfl); (case c3 => exact rfl); (case c4 => exact rfl); k_whole; intro g9z L9z h9z tk9z cells9z FG9z F9z N9z Y9z B9z X9z T9z l19z; (try k_lt l19z); k_cells Y9z; (try simp only [List.cons_append, List.nil_append] at N9z); (try dsimp only); (try k_lift B9z); (try k_fold)))
     k_steps
     · refine hret _ [_] _ _ ⟨_, [_], 0, rfl, rfl, ?_⟩ (fun q hq p hp => ?_) (by k_asm) (news_of (by k_asm) (by (repeat' first | exact List.forall_mem_nil _ | refine mem_cons_all ?_ ?_ | exact sub_refl | refine sub_tail ?_ | k_mem)))
       · rw [writF, if_pos (by omega)]
         show StrsAre [_] [mkS []]
         rw [← empty_mkS]
         exact .cons _ _ .nil
       · rw [List.mem_singleton.mp hp]
         refine Nat.ne_of_lt ((?h : ∀ p ∈ rest, @LT.lt Nat _ p.1 _) q hq)
         (first | exact raw_lt (by assumption) (by walk_at "le9") | exact allLt_lt' (by walk_at "and_r") (by walk_at "le9"))
     · refine hret _ [_] _ _ ⟨_, [], 0, rfl, rfl, ?_⟩ (fun q hq p hp => ?_) (by k_asm) (news_of (by k_asm) (by (repeat' first | exact List.forall_mem_nil _ | refine mem_cons_all ?_ ?_ | exact sub_refl | refine sub_tail ?_ | k_mem)))
       · rw [writF, if_neg (by omega)]
         exact .nil
       · rw [List.mem_singleton.mp hp]
         refine Nat.ne_of_lt ((?h : ∀ p ∈ rest, @LT.lt Nat _ p.1 _) q hq)
         (first | exact raw_lt (by assumption) (by walk_at "le9") | exact allLt_lt' (by walk_at "and_r") (by walk_at "le9"))
   | succ len ih =>
     intro n t u hl hn loose mean mg mb rest dp un gd cn cs aa ccd cl outer A₀ base h₀ L m s R hled B F₀ X N₀ T hk hd hu hret
     have e1 : (n : Int).fdiv 16 = ((n / 16 : Nat) : Int) := by rw [Int.fdiv_eq_ediv_of_nonneg _ (by decide)]; omega
     have e2 : ((len + 1 : Nat) : Int) - 1 = (len : Int) := by omega
     have z1 := writF_len len (n / 16)
     have z2 := writF_len len (n / 16 - 1)
     have z3 : 2 ^ len ≤ 2 ^ 7 := Nat.pow_le_pow_right (by decide) (by omega)
     k_with_none
     k_with "binaryOp Mod int int" => (refine mod_int' (by decide) ?_; rw [fm16])
     k_with "exec Assign cons ListComp" => refine stop_in ?_
     k_with "eval ListComp" => refine stop_in ?_
     k_dflt ((refine' code_defC ?k1 ?k2 ?k3 ?k4 ?k5 ?kA ?kF ?kK ?k6 ?k7 ?k8 ?k9 ?kB ?kD ?_ ?c2 ?c3 ?c4; (case kA => exact rfl); (case kF => exact rfl); (case kK => assumption); (case k1 => k_asm); (case k2 => k_asm); (case k3 => k_asm); (case k4 => k_asm); (case k5 => k_asm); (case k6 => k_is); (case k7 => k_is); (case k8 => ktr_room); (case k9 => exact BindsTo.of_eq rfl); (case kB => exact rfl); (case kD => decide +kernel); (case c2 => exact rfl); (case c3 => exact rfl); (case c4 => exact rfl); k_whole; intro g9z L9z h9z tk9z cells9z FG9z F9z N9z Y9z B9z X9z T9z l19z; (try k_lt l19z); k_cells Y9z; (try simp only [List.cons_append, List.nil_append] at N9z); (try dsimp only); (try k_lift B9z); (try k_fold)))
     k_steps
     · exfalso; omega
     refine stop_out ?_
     rename_i o9 d9 _ _ h4 o4 F4 N4 d4
     rename_i y1 z4
     clear hled B hk FG9z l19z d9
     revert ih hl hn F₀ X N₀ T hd hu hret e1 e2 z1 z2 z3 B9z X9z T9z y1 F4 N4 d4
     exact ht9.out w len n t u loose mean mg mb rest dp un gd cn cs aa ccd cl outer A₀ base h₀ L m s R g9z L9z h9z tk9z o9 z4 h4 o4 tk
)
noncomputable def G9 (d : PySem.World × Nat × Nat × PySem.Tok × PySem.Tok × (List PySem.Str) × (PySem.ExcName → Option PySem.Value) × (PySem.Str → Option PySem.Value) × (PySem.Str → Option PySem.Value) × (List (PySem.Addr × PySem.Obj)) × Nat × Nat × (Option (List PySem.Code)) × PySem.Str × PySem.Scope × PySem.Addr × PySem.Value × (List (PySem.Str × PySem.Addr)) × (List PySem.Env) × PySem.Around × PySem.Heap × PySem.Heap × PySem.Addr × (PySem.Str → Option PySem.Value) × PySem.Shared × (PySem.Result → PySem.Shared → Prop) × PySem.Heap × PySem.Addr × PySem.Heap × Nat × PySem.Obj × Nat × PySem.Heap × PySem.Obj × Nat) : Prop := seg9.1 d.1 d.2.1 d.2.2.1 d.2.2.2.1 d.2.2.2.2.1 d.2.2.2.2.2.1 d.2.2.2.2.2.2.1 d.2.2.2.2.2.2.2.1 d.2.2.2.2.2.2.2.2.1 d.2.2.2.2.2.2.2.2.2.1 d.2.2.2.2.2.2.2.2.2.2.1 d.2.2.2.2.2.2.2.2.2.2.2.1 d.2.2.2.2.2.2.2.2.2.2.2.2.1 d.2.2.2.2.2.2.2.2.2.2.2.2.2.1 d.2.2.2.2.2.2.2.2.2.2.2.2.2.2.1 d.2.2.2.2.2.2.2.2.2.2.2.2.2.2.2.1 d.2.2.2.2.2.2.2.2.2.2.2.2.2.2.2.2.1 d.2.2.2.2.2.2.2.2.2.2.2.2.2.2.2.2.2.1 d.2.2.2.2.2.2.2.2.2.2.2.2.2.2.2.2.2.2.1 d.2.2.2.2.2.2.2.2.2.2.2.2.2.2.2.2.2.2.2.1 d.2.2.2.2.2.2.2.2.2.2.2.2.2.2.2.2.2.2.2.2.1 d.2.2.2.2.2.2.2.2.2.2.2.2.2.2.2.2.2.2.2.2.2.1 d.2.2.2.2.2.2.2.2.2.2.2.2.2.2.2.2.2.2.2.2.2.2.1 d.2.2.2.2.2.2.2.2.2.2.2.2.2.2.2.2.2.2.2.2.2.2.2.1 d.2.2.2.2.2.2.2.2.2.2.2.2.2.2.2.2.2.2.2.2.2.2.2.2.1 d.2.2.2.2.2.2.2.2.2.2.2.2.2.2.2.2.2.2.2.2.2.2.2.2.2.1 d.2.2.2.2.2.2.2.2.2.2.2.2.2.2.2.2.2.2.2.2.2.2.2.2.2.2.1 d.2.2.2.2.2.2.2.2.2.2.2.2.2.2.2.2.2.2.2.2.2.2.2.2.2.2.2.1 d.2.2.2.2.2.2.2.2.2.2.2.2.2.2.2.2.2.2.2.2.2.2.2.2.2.2.2.2.1 d.2.2.2.2.2.2.2.2.2.2.2.2.2.2.2.2.2.2.2.2.2.2.2.2.2.2.2.2.2.1 d.2.2.2.2.2.2.2.2.2.2.2.2.2.2.2.2.2.2.2.2.2.2.2.2.2.2.2.2.2.2.1 d.2.2.2.2.2.2.2.2.2.2.2.2.2.2.2.2.2.2.2.2.2.2.2.2.2.2.2.2.2.2.2.1 d.2.2.2.2.2.2.2.2.2.2.2.2.2.2.2.2.2.2.2.2.2.2.2.2.2.2.2.2.2.2.2.2.1 d.2.2.2.2.2.2.2.2.2.2.2.2.2.2.2.2.2.2.2.2.2.2.2.2.2.2.2.2.2.2.2.2.2.1 d.2.2.2.2.2.2.2.2.2.2.2.2.2.2.2.2.2.2.2.2.2.2.2.2.2.2.2.2.2.2.2.2.2.2
noncomputable def tup9z : PySem.World × Nat × Nat × PySem.Tok × PySem.Tok × (List PySem.Str) × (PySem.ExcName → Option PySem.Value) × (PySem.Str → Option PySem.Value) × (PySem.Str → Option PySem.Value) × (List (PySem.Addr × PySem.Obj)) × Nat × Nat × (Option (List PySem.Code)) × PySem.Str × PySem.Scope × PySem.Addr × PySem.Value × (List (PySem.Str × PySem.Addr)) × (List PySem.Env) × PySem.Around × PySem.Heap × PySem.Heap × PySem.Addr × (PySem.Str → Option PySem.Value) × PySem.Shared × (PySem.Result → PySem.Shared → Prop) × PySem.Heap × PySem.Addr × PySem.Heap × Nat × PySem.Obj × Nat × PySem.Heap × PySem.Obj × Nat := hen (World9, (0 : Nat), (0 : Nat), (0 : Nat), (0 : Nat), [], (fun _ => none), (fun _ => none), (fun _ => none), [], (0 : Nat), (0 : Nat), none, (default : Str), (default : Scope), (0 : Nat), (default : Value), [], [], ({} : Around), (default : Heap), (default : Heap), (0 : Nat), (fun _ => none), ({} : Shared), (fun _ => (fun _ => True)), (default : Heap), (0 : Nat), (default : Heap), (0 : Nat), (default : Obj), (0 : Nat), (default : Heap), (default : Obj), (0 : Nat)) G9
noncomputable def w : PySem.World := tup9z.1
noncomputable def len : Nat := tup9z.2.1
noncomputable def n : Nat := tup9z.2.2.1
noncomputable def t : PySem.Tok := tup9z.2.2.2.1
noncomputable def u : PySem.Tok := tup9z.2.2.2.2.1
noncomputable def loose : List PySem.Str := tup9z.2.2.2.2.2.1
noncomputable def mean : PySem.ExcName → Option PySem.Value := tup9z.2.2.2.2.2.2.1
noncomputable def mg : PySem.Str → Option PySem.Value := tup9z.2.2.2.2.2.2.2.1
noncomputable def mb : PySem.Str → Option PySem.Value := tup9z.2.2.2.2.2.2.2.2.1
noncomputable def rest : List (PySem.Addr × PySem.Obj) := tup9z.2.2.2.2.2.2.2.2.2.1
noncomputable def dp : Nat := tup9z.2.2.2.2.2.2.2.2.2.2.1
noncomputable def un : Nat := tup9z.2.2.2.2.2.2.2.2.2.2.2.1
noncomputable def gd : Option (List PySem.Code) := tup9z.2.2.2.2.2.2.2.2.2.2.2.2.1
noncomputable def cn : PySem.Str := tup9z.2.2.2.2.2.2.2.2.2.2.2.2.2.1
noncomputable def cs : PySem.Scope := tup9z.2.2.2.2.2.2.2.2.2.2.2.2.2.2.1
noncomputable def aa : PySem.Addr := tup9z.2.2.2.2.2.2.2.2.2.2.2.2.2.2.2.1
noncomputable def ccd : PySem.Value := tup9z.2.2.2.2.2.2.2.2.2.2.2.2.2.2.2.2.1
noncomputable def cl : List (PySem.Str × PySem.Addr) := tup9z.2.2.2.2.2.2.2.2.2.2.2.2.2.2.2.2.2.1
noncomputable def outer : List PySem.Env := tup9z.2.2.2.2.2.2.2.2.2.2.2.2.2.2.2.2.2.2.1
noncomputable def A₀ : PySem.Around := tup9z.2.2.2.2.2.2.2.2.2.2.2.2.2.2.2.2.2.2.2.1
noncomputable def base : PySem.Heap := tup9z.2.2.2.2.2.2.2.2.2.2.2.2.2.2.2.2.2.2.2.2.1
noncomputable def h₀ : PySem.Heap := tup9z.2.2.2.2.2.2.2.2.2.2.2.2.2.2.2.2.2.2.2.2.2.1
noncomputable def L : PySem.Addr := tup9z.2.2.2.2.2.2.2.2.2.2.2.2.2.2.2.2.2.2.2.2.2.2.1
noncomputable def m : PySem.Str → Option PySem.Value := tup9z.2.2.2.2.2.2.2.2.2.2.2.2.2.2.2.2.2.2.2.2.2.2.2.1
noncomputable def s : PySem.Shared := tup9z.2.2.2.2.2.2.2.2.2.2.2.2.2.2.2.2.2.2.2.2.2.2.2.2.1
noncomputable def R : PySem.Result → PySem.Shared → Prop := tup9z.2.2.2.2.2.2.2.2.2.2.2.2.2.2.2.2.2.2.2.2.2.2.2.2.2.1
noncomputable def g9z : PySem.Heap := tup9z.2.2.2.2.2.2.2.2.2.2.2.2.2.2.2.2.2.2.2.2.2.2.2.2.2.2.1
noncomputable def L9z : PySem.Addr := tup9z.2.2.2.2.2.2.2.2.2.2.2.2.2.2.2.2.2.2.2.2.2.2.2.2.2.2.2.1
noncomputable def h9z : PySem.Heap := tup9z.2.2.2.2.2.2.2.2.2.2.2.2.2.2.2.2.2.2.2.2.2.2.2.2.2.2.2.2.1
noncomputable def tk9z : Nat := tup9z.2.2.2.2.2.2.2.2.2.2.2.2.2.2.2.2.2.2.2.2.2.2.2.2.2.2.2.2.2.1
noncomputable def o9 : PySem.Obj := tup9z.2.2.2.2.2.2.2.2.2.2.2.2.2.2.2.2.2.2.2.2.2.2.2.2.2.2.2.2.2.2.1
noncomputable def z4 : Nat := tup9z.2.2.2.2.2.2.2.2.2.2.2.2.2.2.2.2.2.2.2.2.2.2.2.2.2.2.2.2.2.2.2.1
noncomputable def h4 : PySem.Heap := tup9z.2.2.2.2.2.2.2.2.2.2.2.2.2.2.2.2.2.2.2.2.2.2.2.2.2.2.2.2.2.2.2.2.1
noncomputable def o4 : PySem.Obj := tup9z.2.2.2.2.2.2.2.2.2.2.2.2.2.2.2.2.2.2.2.2.2.2.2.2.2.2.2.2.2.2.2.2.2.1
noncomputable def tk : Nat := tup9z.2.2.2.2.2.2.2.2.2.2.2.2.2.2.2.2.2.2.2.2.2.2.2.2.2.2.2.2.2.2.2.2.2.2
set_option maxRecDepth 100000 in
set_option maxHeartbeats 4000000 in
theorem main9 : seg9.1 w len n t u loose mean mg mb rest dp un gd cn cs aa ccd cl outer A₀ base h₀ L m s R g9z L9z h9z tk9z o9 z4 h4 o4 tk := by
     delta seg9 segOf
     dsimp -zeta only
     intro ih hl hn F₀ X N₀ T hd hu hret e1 e2 z1 z2 z3 B9z X9z T9z y1 F4 N4 d4
     refine LCg.Assign_ListComp_U (env := envOfC _ _ _ _ _) (by k_asm) rfl (by rfl) (by with_unfolding_all rfl) (by decide) (by rfl) (by decide) (by rfl) (by rfl) (by rfl) ?_
     k_with_none
     k_with "call ref cons nil" => (rw [e1, e2]; refine' CtrN.use (ih (n / 16) _ _ (by omega) (by omega)) ?kl ?k1 ?k2 ?k3 ?k4 ?k5 ?kK ?kd ?ku ?_; ((case kl => (repeat' first | exact List.forall_mem_nil _ | refine mem_cons_all ?_ ?_ | exact sub_refl | refine sub_tail ?_ | k_mem)); (case k1 => k_asm); (case k2 => k_asm); (case k3 => k_asm); (case k4 => k_asm); (case k5 => k_asm); (case kK => first | exact rfl | assumption); (case kd => ktr_room); (case ku => ktr_units)); intro v9 tl9 h9 tk9 hp9 hlt9 F9 N9; obtain ⟨f9, ws9, k9, rfl, rfl, hs9⟩ := hp9; simp only [List.cons_append, List.nil_append] at N9)
     k_steps
     have y1 : @Ne Nat (L9z + 1) f9 := hlt9 _ (.head _) _ (.head _)
     have y2 : ∀ q ∈ rest, @Ne Nat q.1 f9 := fun q hq => hlt9 q (.tail _ hq) _ (.head _)
     have hz9 : ws9.length = (writF len (n / 16)).length := by rw [strs_len hs9, List.length_map]
     clear hlt9 N4
     refine LCg.CompSrc.ledger (by rfl) (by k_asm) (by k_asm) (.head _) ?zZ (fun g => compRest_ind (fun i ys news => news = (f9, listOf ws9.toArray k9) :: (L9z + 1, o4) :: rest ∧ StrsAre ys (((writF len (n / 16)).take i).map fun l => mkS (l ++ [65 + n % 16]))) ?zT ?zF _ 0 [] _ (Nat.zero_add _).symm ⟨rfl, .nil⟩)
     case zZ => rw [List.size_toArray, sizeLine_eq]; omega
     case zT =>
       intro i ys news v I oI C oC D m₂ h tk E' hi hj hP hC hx F' N' off ne
       obtain ⟨rfl, hs⟩ := hj
       have hi' : ws9[i]? = some v := by simpa using hP
       obtain ⟨y, ty, rfl, hy⟩ := strs_at hs9 hi'
       obtain ⟨l9, hl9, rfl⟩ : ∃ l9, (writF len (n / 16))[i]? = some l9 ∧ mkS l9 = y := by
         rw [List.getElem?_map] at hy
         cases hq : (writF len (n / 16))[i]? with
         | none => rw [hq] at hy; cases hy
         | some l9 => rw [hq] at hy; exact ⟨l9, rfl, Option.some.inj hy⟩
       have hll := writF_each _ _ _ (List.mem_of_getElem? hl9)
       have hlz : (mkS l9).length ≤ 8 := by rw [mkS_len]; omega
       k_steps
       refine CompEnd.intro (by k_asm) (by k_asm) _ (fun p hp => hp) off (.inr ⟨_, .head _, rfl, _, rfl⟩) ⟨rfl, ?_⟩
       rw [List.take_add_one, hl9, List.map_append, glue_last]
       exact hs.append' (.cons _ _ .nil)
     intro ys news hj
     obtain ⟨rfl, hs⟩ := hj
     intro D h tk FD ND offD
     rw [List.size_toArray, hz9, List.take_length] at hs
     have hyz : ys.length = (writF len (n / 16)).length := by rw [strs_len hs, List.length_map]
     try dsimp only at FD
     clear F4 F9 N9 N₀ F₀
     k_with_none
     k_with "eval ListComp" => refine stop_in ?_
     obtain ⟨w1, w2, w3⟩ := offD
     have w3' := off1_all w3
     have hout : ¬ (n % 16 = 0 ∧ 0 < n) → (writF (len + 1) n).map mkS = (writF len (n / 16)).map fun l => mkS (l ++ [65 + n % 16]) := fun q => by
       rw [writF, if_neg q, List.append_nil, List.map_map]; rfl
     k_steps
     · refine stop_out ?_
       have c1 : n % 16 = 0 := lastA (k := n % 16) (by assumption)
       have c2 : 0 < n := by omega
       have e3 : ((n / 16 : Nat) : Int) - 1 = ((n / 16 - 1 : Nat) : Int) := by omega
       refine LCg.ListComp_U (env := envOfC _ _ _ _ _) (by k_asm) (by with_unfolding_all rfl) (by decide) (by rfl) (by decide) (by rfl) ?_
       k_with_none
       k_with "call ref cons nil" => (rw [e1, e2, e3]; refine' CtrN.use (ih (n / 16 - 1) _ _ (by omega) (by omega)) ?kl ?k1 ?k2 ?k3 ?k4 ?k5 ?kK ?kd ?ku ?_; ((case kl => (repeat' first | exact List.forall_mem_nil _ | refine mem_cons_all ?_ ?_ | exact sub_refl | refine sub_tail ?_ | k_mem)); (case k1 => k_asm); (case k2 => k_asm); (case k3 => k_asm); (case k4 => k_asm); (case k5 => k_asm); (case kK => first | exact rfl | assumption); (case kd => ktr_room); (case ku => ktr_units)); intro v9 tl9 h9 tk9 hp9 hlt8 F9 N9; obtain ⟨f8, ws8, k8, rfl, rfl, hs8⟩ := hp9; simp only [List.cons_append, List.nil_append] at N9)
       k_steps
       have x1 : @Ne Nat D f8 := hlt8 _ (.head _) _ (.head _)
       have hz8 : ws8.length = (writF len (n / 16 - 1)).length := by rw [strs_len hs8, List.length_map]
       refine LCg.CompSrc.ledger (by rfl) (by k_asm) (by k_asm) (.head _) ?yZ (fun g => compRest_ind (fun i zs news => news = (f8, listOf ws8.toArray k8) :: (D, lst ys) :: (f9, listOf ws9.toArray k9) :: (L9z + 1, o4) :: rest ∧ StrsAre zs (((writF len (n / 16 - 1)).take i).map fun l => mkS (l ++ [81]))) ?yT ?yF _ 0 [] _ (Nat.zero_add _).symm ⟨rfl, .nil⟩)
       case yZ => rw [List.size_toArray, sizeLine_eq]; omega
       case yT =>
         intro i zs news v I oI C oC D' m₂ h tk E' hi hj hP hC hx F' N' off ne
         obtain ⟨rfl, hzs⟩ := hj
         have hi' : ws8[i]? = some v := by simpa using hP
         obtain ⟨y, ty, rfl, hy⟩ := strs_at hs8 hi'
         obtain ⟨l9, hl9, rfl⟩ : ∃ l9, (writF len (n / 16 - 1))[i]? = some l9 ∧ mkS l9 = y := by
           rw [List.getElem?_map] at hy
           cases hq : (writF len (n / 16 - 1))[i]? with
           | none => rw [hq] at hy; cases hy
           | some l9 => rw [hq] at hy; exact ⟨l9, rfl, Option.some.inj hy⟩
         have hll := writF_each _ _ _ (List.mem_of_getElem? hl9)
         have hlz : (mkS l9).length ≤ 8 := by rw [mkS_len]; omega
         k_steps
         refine CompEnd.intro (by k_asm) (by k_asm) _ (fun p hp => hp) off (.inr ⟨_, .head _, rfl, _, rfl⟩) ⟨rfl, ?_⟩
         rw [List.take_add_one, hl9, List.map_append, glue_Q]
         exact hzs.append' (.cons _ _ .nil)
       intro zs news hj
       obtain ⟨rfl, hzs⟩ := hj
       intro D2 h2 tk2 FD2 ND2 offD2
       rw [List.size_toArray, hz8, List.take_length] at hzs
       have hzz : zs.length = (writF len (n / 16 - 1)).length := by rw [strs_len hzs, List.length_map]
       try dsimp only at FD2
       obtain ⟨v1, v2, v3, v4, v5⟩ := offD2
       have v5' := off1_all v5
       clear F9 N9 FD ND
       k_with_none
       k_with "inplaceOp Add ref ref" => refine stop_in ?_
       k_steps
       refine stop_out ?_
       have NN := news_of (l' := (D, listOf ys.toArray ys.length) :: (D2, listOf zs.toArray zs.length) :: rest) ND2 (by (repeat' first | exact List.forall_mem_nil _ | refine mem_cons_all ?_ ?_ | exact sub_refl | refine sub_tail ?_ | k_mem))
       have vv : @Ne Nat D2 D := fun e => v2 e.symm
       refine kl_iaddG (l := ys ++ zs) (n := ys.length) (by k_asm) NN (.tail _ (.head _)) rfl (by k_upd) (by omega) ?_
       intro h8 F8 N8
       clear ND2 NN
       k_steps
       refine hret _ [_] _ _ ⟨D, ys ++ zs, _, rfl, rfl, ?_⟩ (fun q hq p hp => ?_) (by k_asm) (news_of (by k_asm) (by (repeat' first | exact List.forall_mem_nil _ | refine mem_cons_all ?_ ?_ | exact sub_refl | refine sub_tail ?_ | k_mem)))
       · rw [writF, if_pos ⟨c1, c2⟩, List.map_append, List.map_map, List.map_map]
         exact hs.append' hzs
       · rw [List.mem_singleton.mp hp]
         exact w3' q hq
     · have c1 : ¬ (n % 16 = 0 ∧ 0 < n) := fun q => by omega
       refine hret _ [_] _ _ ⟨D, ys, ys.length, rfl, rfl, by rw [hout c1]; exact hs⟩ (fun q hq p hp => ?_) (by k_asm) (news_of (by k_asm) (by (repeat' first | exact List.forall_mem_nil _ | refine mem_cons_all ?_ ?_ | exact sub_refl | refine sub_tail ?_ | k_mem)))
       rw [List.mem_singleton.mp hp]
       exact w3' q hq
     · have c1 : ¬ (n % 16 = 0 ∧ 0 < n) := fun q => absurd q.1 (notLastA (k := n % 16) (by assumption))
       refine hret _ [_] _ _ ⟨D, ys, ys.length, rfl, rfl, by rw [hout c1]; exact hs⟩ (fun q hq p hp => ?_) (by k_asm) (news_of (by k_asm) (by (repeat' first | exact List.forall_mem_nil _ | refine mem_cons_all ?_ ?_ | exact sub_refl | refine sub_tail ?_ | k_mem)))
       rw [List.mem_singleton.mp hp]
       exact w3' q hq

set_option maxRecDepth 100000 in
set_option maxHeartbeats 4000000 in
theorem all9 : ∀ a0 a1 a2 a3 a4 a5 a6 a7 a8 a9 a10 a11 a12 a13 a14 a15 a16 a17 a18 a19 a20 a21 a22 a23 a24 a25 a26 a27 a28 a29 a30 a31 a32 a33 a34, seg9.1 a0 a1 a2 a3 a4 a5 a6 a7 a8 a9 a10 a11 a12 a13 a14 a15 a16 a17 a18 a19 a20 a21 a22 a23 a24 a25 a26 a27 a28 a29 a30 a31 a32 a33 a34 := fun a0 a1 a2 a3 a4 a5 a6 a7 a8 a9 a10 a11 a12 a13 a14 a15 a16 a17 a18 a19 a20 a21 a22 a23 a24 a25 a26 a27 a28 a29 a30 a31 a32 a33 a34 => hen_all (G := G9) main9 (a0, a1, a2, a3, a4, a5, a6, a7, a8, a9, a10, a11, a12, a13, a14, a15, a16, a17, a18, a19, a20, a21, a22, a23, a24, a25, a26, a27, a28, a29, a30, a31, a32, a33, a34)
end writingsA
theorem writings2 (w : World) : ∀ (len n : Nat) (t u : Tok), len ≤ 8 → n < 16 ^ 10 →
   CtrN PySem.Challenge.rw_wn0028_02.prog w (Mine.hd.heap_39 w.params) PySem.W.topProg (2 * len + 3) (30 * len + 40) 160 [.int (n : Int) t, .int (len : Int) u] [] (fun v tl => ∃ f ws k, v = .ref f ∧ tl = [(f, listOf ws.toArray k)] ∧ StrsAre ws ((writF len n).map mkS)) := writingsA.seg9.2 ⟨writingsA.all9⟩ w

end Mine
namespace Mine
theorem reset_many2 : True := by
  w_top off
  trivial
theorem ret_int {R : Result → Shared → Prop} {a b : Int} {t : Tok} {s : Shared} (e : a = b) (h : R (.ok (.ret (.int b t))) s) : R (.ok (.ret (.int a t))) s := e ▸ h
theorem manyP_cons (a : Nat) (r : List Nat) (b : Nat) (fs : List Nat) {p : Nat × Nat} (h : manyP r fs = p) : manyP (a :: r) (b :: fs) = (p.1 + (a - 1) * p.2, if b = 1 then p.1 + (a - 1) * p.2 + p.2 else p.1 + (a - 1) * p.2) := by
  subst h; rfl
theorem mul_cast1 {a l m : Nat} (ha : 1 ≤ a) : (m : Int) + ((a : Int) - 1) * (l : Int) = ((m + (a - 1) * l : Nat) : Int) := by
  obtain ⟨k, rfl⟩ : ∃ k, a = k + 1 := ⟨a - 1, by omega⟩
  rw [show ((k + 1 : Nat) : Int) - 1 = (k : Int) by omega, show k + 1 - 1 = k by omega, Int.natCast_add, Int.natCast_mul]
theorem mul_small {a l m B : Nat} (ha : a ≤ 2) (h : m + l ≤ B) : m + (a - 1) * l + (m + (a - 1) * l + l) ≤ 4 * B := by
  have : (a - 1) * l ≤ 1 * l := Nat.mul_le_mul_right l (by omega)
  omega
namespace manyA
set_option maxRecDepth 100000 in
set_option maxHeartbeats 4000000 in
noncomputable def seg9 : {p : PySem.World → PySem.Addr → PySem.Addr → Nat → Nat → (List PySem.Value) → (List PySem.Value) → Nat → Nat → Nat → (List PySem.Str) → (PySem.ExcName → Option PySem.Value) → (PySem.Str → Option PySem.Value) → (PySem.Str → Option PySem.Value) → (List (PySem.Addr × PySem.Obj)) → Nat → Nat → (Option (List PySem.Code)) → PySem.Str → PySem.Scope → PySem.Addr → PySem.Value → (List (PySem.Str × PySem.Addr)) → (List PySem.Env) → PySem.Around → PySem.Heap → PySem.Heap → PySem.Addr → (PySem.Str → Option PySem.Value) → PySem.Shared → (PySem.Result → PySem.Shared → Prop) → Nat → PySem.Addr → PySem.Heap → Nat → PySem.Heap → PySem.Heap → PySem.Heap → Nat → PySem.Tok → PySem.Tok → PySem.Tok → Prop // Hid (∀ a0 a1 a2 a3 a4 a5 a6 a7 a8 a9 a10 a11 a12 a13 a14 a15 a16 a17 a18 a19 a20 a21 a22 a23 a24 a25 a26 a27 a28 a29 a30 a31 a32 a33 a34 a35 a36 a37 a38 a39 a40 a41, p a0 a1 a2 a3 a4 a5 a6 a7 a8 a9 a10 a11 a12 a13 a14 a15 a16 a17 a18 a19 a20 a21 a22 a23 a24 a25 a26 a27 a28 a29 a30 a31 a32 a33 a34 a35 a36 a37 a38 a39 a40 a41) → ∀ (w : World) (l g : Addr) (c c' : Nat) (vs us : List Value) (szs : List Nat) (f1 f2 f3 : Nat) (hi : IntsAre vs (szs.map fun (x : Nat) => (x : Int))) (hj : IntsAre us ([f1, f2, f3].map fun (x : Nat) => (x : Int))) (hz : 1 ≤ szs.length ∧ szs.length ≤ 3) (h1 : ∀ a ∈ szs, 1 ≤ a ∧ a ≤ 2), CtrR PySem.Challenge.rw_wn0028_02.prog w (Mine.hd.heap_39 w.params) PySem.W.topProg 2 30 174 [.ref l, .ref g] [(l, listOf vs.toArray c), (g, listOf us.toArray c')] (fun v tl => tl = [] ∧ ∃ tk, v = .int (manyF szs [f1, f2, f3] : Int) tk)} := segOf (by
   intro ht9
   intro w l g c c' vs us szs f1 f2 f3 hi hj hz h1
   intro loose mean mg mb rest dp un gd cn cs aa ccd cl outer A₀ base h₀ L m s R hled B F₀ X N₀ T hk hd hu hret
   have hm1 := (N₀ _ (hled _ (.head _))).1
   have hm2 := (N₀ _ (hled _ (.tail _ (.head _)))).1
   have hl1 : s.heap.IsList l vs.toArray := ⟨_, hm1, rfl, _, rfl⟩
   have hl2 : s.heap.IsList g us.toArray := ⟨_, hm2, rfl, _, rfl⟩
   clear hm1 hm2 hled
   obtain ⟨k, hk9⟩ : ∃ k, szs.length = k + 1 := ⟨szs.length - 1, by omega⟩
   have hvz : vs.toArray.size = k + 1 := by rw [List.size_toArray, hi.length, List.length_map, hk9]
   have hk2 : k ≤ 2 := by omega
   k_with_none
   k_with "call builtin:len cons nil" => refine len_list (by is_list) (by omega) ?_
   k_with "exec For Name Call cons nil" => refine stop_in ?_
   k_with "pyIter ref" => refine stop_in ?_
   k_dflt ((refine' code_open ?k1 ?k2 ?k3 ?k5 ?kA ?kF ?kK ?k6 ?k7 ?k8 ?k9 ?kB ?_ ?c2 ?c3 ?c4 ?c5; (case kA => exact rfl); (case kF => exact rfl); (case kK => first | exact rfl | assumption); (case k1 => k_asm); (case k2 => k_asm); (case k3 => k_asm); (case k5 => k_asm); (case k6 => k_is); (case k7 => k_is); (case k8 => ktr_room); (case k9 => first | exact BindsTo.of_eq rfl | exact binds_K (by k_in) rfl (by k_is) rfl rfl rfl); (case c5 => decide); (case kB => exact locs rfl); (case c2 => exact rfl); (case c3 => exact rfl); (case c4 => exact rfl); k_whole; intro L9z h9z F9z N9z B9z X9z T9z hsz9z; (try dsimp only)))
   k_steps
   refine stop_out ?_
   refine wpAny_For ?_
   k_steps
   refine stop_out ?_
   rename_i z1 z2 y3 y4 z5 z6 z7 z8 z9 y10 y11 y12 y13
   clear B F₀ hk hd hu B9z X9z T9z hsz9z y3 y4 y12 y13
   revert szs hi hj hz h1 X N₀ T hret hl1 hl2 hk9 hvz hk2 y10 y11
   exact ht9.out w l g c c' vs us f1 f2 f3 loose mean mg mb rest dp un gd cn cs aa ccd cl outer A₀ base h₀ L m s R k L9z h9z tk z1 z2 z5 z6 z7 z8 z9
)
noncomputable def G9 (d : PySem.World × PySem.Addr × PySem.Addr × Nat × Nat × (List PySem.Value) × (List PySem.Value) × Nat × Nat × Nat × (List PySem.Str) × (PySem.ExcName → Option PySem.Value) × (PySem.Str → Option PySem.Value) × (PySem.Str → Option PySem.Value) × (List (PySem.Addr × PySem.Obj)) × Nat × Nat × (Option (List PySem.Code)) × PySem.Str × PySem.Scope × PySem.Addr × PySem.Value × (List (PySem.Str × PySem.Addr)) × (List PySem.Env) × PySem.Around × PySem.Heap × PySem.Heap × PySem.Addr × (PySem.Str → Option PySem.Value) × PySem.Shared × (PySem.Result → PySem.Shared → Prop) × Nat × PySem.Addr × PySem.Heap × Nat × PySem.Heap × PySem.Heap × PySem.Heap × Nat × PySem.Tok × PySem.Tok × PySem.Tok) : Prop := seg9.1 d.1 d.2.1 d.2.2.1 d.2.2.2.1 d.2.2.2.2.1 d.2.2.2.2.2.1 d.2.2.2.2.2.2.1 d.2.2.2.2.2.2.2.1 d.2.2.2.2.2.2.2.2.1 d.2.2.2.2.2.2.2.2.2.1 d.2.2.2.2.2.2.2.2.2.2.1 d.2.2.2.2.2.2.2.2.2.2.2.1 d.2.2.2.2.2.2.2.2.2.2.2.2.1 d.2.2.2.2.2.2.2.2.2.2.2.2.2.1 d.2.2.2.2.2.2.2.2.2.2.2.2.2.2.1 d.2.2.2.2.2.2.2.2.2.2.2.2.2.2.2.1 d.2.2.2.2.2.2.2.2.2.2.2.2.2.2.2.2.1 d.2.2.2.2.2.2.2.2.2.2.2.2.2.2.2.2.2.1 d.2.2.2.2.2.2.2.2.2.2.2.2.2.2.2.2.2.2.1 d.2.2.2.2.2.2.2.2.2.2.2.2.2.2.2.2.2.2.2.1 d.2.2.2.2.2.2.2.2.2.2.2.2.2.2.2.2.2.2.2.2.1 d.2.2.2.2.2.2.2.2.2.2.2.2.2.2.2.2.2.2.2.2.2.1 d.2.2.2.2.2.2.2.2.2.2.2.2.2.2.2.2.2.2.2.2.2.2.1 d.2.2.2.2.2.2.2.2.2.2.2.2.2.2.2.2.2.2.2.2.2.2.2.1 d.2.2.2.2.2.2.2.2.2.2.2.2.2.2.2.2.2.2.2.2.2.2.2.2.1 d.2.2.2.2.2.2.2.2.2.2.2.2.2.2.2.2.2.2.2.2.2.2.2.2.2.1 d.2.2.2.2.2.2.2.2.2.2.2.2.2.2.2.2.2.2.2.2.2.2.2.2.2.2.1 d.2.2.2.2.2.2.2.2.2.2.2.2.2.2.2.2.2.2.2.2.2.2.2.2.2.2.2.1 d.2.2.2.2.2.2.2.2.2.2.2.2.2.2.2.2.2.2.2.2.2.2.2.2.2.2.2.2.1 d.2.2.2.2.2.2.2.2.2.2.2.2.2.2.2.2.2.2.2.2.2.2.2.2.2.2.2.2.2.1 d.2.2.2.2.2.2.2.2.2.2.2.2.2.2.2.2.2.2.2.2.2.2.2.2.2.2.2.2.2.2.1 d.2.2.2.2.2.2.2.2.2.2.2.2.2.2.2.2.2.2.2.2.2.2.2.2.2.2.2.2.2.2.2.1 d.2.2.2.2.2.2.2.2.2.2.2.2.2.2.2.2.2.2.2.2.2.2.2.2.2.2.2.2.2.2.2.2.1 d.2.2.2.2.2.2.2.2.2.2.2.2.2.2.2.2.2.2.2.2.2.2.2.2.2.2.2.2.2.2.2.2.2.1 d.2.2.2.2.2.2.2.2.2.2.2.2.2.2.2.2.2.2.2.2.2.2.2.2.2.2.2.2.2.2.2.2.2.2.1 d.2.2.2.2.2.2.2.2.2.2.2.2.2.2.2.2.2.2.2.2.2.2.2.2.2.2.2.2.2.2.2.2.2.2.2.1 d.2.2.2.2.2.2.2.2.2.2.2.2.2.2.2.2.2.2.2.2.2.2.2.2.2.2.2.2.2.2.2.2.2.2.2.2.1 d.2.2.2.2.2.2.2.2.2.2.2.2.2.2.2.2.2.2.2.2.2.2.2.2.2.2.2.2.2.2.2.2.2.2.2.2.2.1 d.2.2.2.2.2.2.2.2.2.2.2.2.2.2.2.2.2.2.2.2.2.2.2.2.2.2.2.2.2.2.2.2.2.2.2.2.2.2.1 d.2.2.2.2.2.2.2.2.2.2.2.2.2.2.2.2.2.2.2.2.2.2.2.2.2.2.2.2.2.2.2.2.2.2.2.2.2.2.2.1 d.2.2.2.2.2.2.2.2.2.2.2.2.2.2.2.2.2.2.2.2.2.2.2.2.2.2.2.2.2.2.2.2.2.2.2.2.2.2.2.2.1 d.2.2.2.2.2.2.2.2.2.2.2.2.2.2.2.2.2.2.2.2.2.2.2.2.2.2.2.2.2.2.2.2.2.2.2.2.2.2.2.2.2
noncomputable def tup9z : PySem.World × PySem.Addr × PySem.Addr × Nat × Nat × (List PySem.Value) × (List PySem.Value) × Nat × Nat × Nat × (List PySem.Str) × (PySem.ExcName → Option PySem.Value) × (PySem.Str → Option PySem.Value) × (PySem.Str → Option PySem.Value) × (List (PySem.Addr × PySem.Obj)) × Nat × Nat × (Option (List PySem.Code)) × PySem.Str × PySem.Scope × PySem.Addr × PySem.Value × (List (PySem.Str × PySem.Addr)) × (List PySem.Env) × PySem.Around × PySem.Heap × PySem.Heap × PySem.Addr × (PySem.Str → Option PySem.Value) × PySem.Shared × (PySem.Result → PySem.Shared → Prop) × Nat × PySem.Addr × PySem.Heap × Nat × PySem.Heap × PySem.Heap × PySem.Heap × Nat × PySem.Tok × PySem.Tok × PySem.Tok := hen (World9, (0 : Nat), (0 : Nat), (0 : Nat), (0 : Nat), [], [], (0 : Nat), (0 : Nat), (0 : Nat), [], (fun _ => none), (fun _ => none), (fun _ => none), [], (0 : Nat), (0 : Nat), none, (default : Str), (default : Scope), (0 : Nat), (default : Value), [], [], ({} : Around), (default : Heap), (default : Heap), (0 : Nat), (fun _ => none), ({} : Shared), (fun _ => (fun _ => True)), (0 : Nat), (0 : Nat), (default : Heap), (0 : Nat), (default : Heap), (default : Heap), (default : Heap), (0 : Nat), (0 : Nat), (0 : Nat), (0 : Nat)) G9
noncomputable def w : PySem.World := tup9z.1
noncomputable def l : PySem.Addr := tup9z.2.1
noncomputable def g : PySem.Addr := tup9z.2.2.1
noncomputable def c : Nat := tup9z.2.2.2.1
noncomputable def c' : Nat := tup9z.2.2.2.2.1
noncomputable def vs : List PySem.Value := tup9z.2.2.2.2.2.1
noncomputable def us : List PySem.Value := tup9z.2.2.2.2.2.2.1
noncomputable def f1 : Nat := tup9z.2.2.2.2.2.2.2.1
noncomputable def f2 : Nat := tup9z.2.2.2.2.2.2.2.2.1
noncomputable def f3 : Nat := tup9z.2.2.2.2.2.2.2.2.2.1
noncomputable def loose : List PySem.Str := tup9z.2.2.2.2.2.2.2.2.2.2.1
noncomputable def mean : PySem.ExcName → Option PySem.Value := tup9z.2.2.2.2.2.2.2.2.2.2.2.1
noncomputable def mg : PySem.Str → Option PySem.Value := tup9z.2.2.2.2.2.2.2.2.2.2.2.2.1
noncomputable def mb : PySem.Str → Option PySem.Value := tup9z.2.2.2.2.2.2.2.2.2.2.2.2.2.1
noncomputable def rest : List (PySem.Addr × PySem.Obj) := tup9z.2.2.2.2.2.2.2.2.2.2.2.2.2.2.1
noncomputable def dp : Nat := tup9z.2.2.2.2.2.2.2.2.2.2.2.2.2.2.2.1
noncomputable def un : Nat := tup9z.2.2.2.2.2.2.2.2.2.2.2.2.2.2.2.2.1
noncomputable def gd : Option (List PySem.Code) := tup9z.2.2.2.2.2.2.2.2.2.2.2.2.2.2.2.2.2.1
noncomputable def cn : PySem.Str := tup9z.2.2.2.2.2.2.2.2.2.2.2.2.2.2.2.2.2.2.1
noncomputable def cs : PySem.Scope := tup9z.2.2.2.2.2.2.2.2.2.2.2.2.2.2.2.2.2.2.2.1
noncomputable def aa : PySem.Addr := tup9z.2.2.2.2.2.2.2.2.2.2.2.2.2.2.2.2.2.2.2.2.1
noncomputable def ccd : PySem.Value := tup9z.2.2.2.2.2.2.2.2.2.2.2.2.2.2.2.2.2.2.2.2.2.1
noncomputable def cl : List (PySem.Str × PySem.Addr) := tup9z.2.2.2.2.2.2.2.2.2.2.2.2.2.2.2.2.2.2.2.2.2.2.1
noncomputable def outer : List PySem.Env := tup9z.2.2.2.2.2.2.2.2.2.2.2.2.2.2.2.2.2.2.2.2.2.2.2.1
noncomputable def A₀ : PySem.Around := tup9z.2.2.2.2.2.2.2.2.2.2.2.2.2.2.2.2.2.2.2.2.2.2.2.2.1
noncomputable def base : PySem.Heap := tup9z.2.2.2.2.2.2.2.2.2.2.2.2.2.2.2.2.2.2.2.2.2.2.2.2.2.1
noncomputable def h₀ : PySem.Heap := tup9z.2.2.2.2.2.2.2.2.2.2.2.2.2.2.2.2.2.2.2.2.2.2.2.2.2.2.1
noncomputable def L : PySem.Addr := tup9z.2.2.2.2.2.2.2.2.2.2.2.2.2.2.2.2.2.2.2.2.2.2.2.2.2.2.2.1
noncomputable def m : PySem.Str → Option PySem.Value := tup9z.2.2.2.2.2.2.2.2.2.2.2.2.2.2.2.2.2.2.2.2.2.2.2.2.2.2.2.2.1
noncomputable def s : PySem.Shared := tup9z.2.2.2.2.2.2.2.2.2.2.2.2.2.2.2.2.2.2.2.2.2.2.2.2.2.2.2.2.2.1
noncomputable def R : PySem.Result → PySem.Shared → Prop := tup9z.2.2.2.2.2.2.2.2.2.2.2.2.2.2.2.2.2.2.2.2.2.2.2.2.2.2.2.2.2.2.1
noncomputable def k : Nat := tup9z.2.2.2.2.2.2.2.2.2.2.2.2.2.2.2.2.2.2.2.2.2.2.2.2.2.2.2.2.2.2.2.1
noncomputable def L9z : PySem.Addr := tup9z.2.2.2.2.2.2.2.2.2.2.2.2.2.2.2.2.2.2.2.2.2.2.2.2.2.2.2.2.2.2.2.2.1
noncomputable def h9z : PySem.Heap := tup9z.2.2.2.2.2.2.2.2.2.2.2.2.2.2.2.2.2.2.2.2.2.2.2.2.2.2.2.2.2.2.2.2.2.1
noncomputable def tk : Nat := tup9z.2.2.2.2.2.2.2.2.2.2.2.2.2.2.2.2.2.2.2.2.2.2.2.2.2.2.2.2.2.2.2.2.2.2.1
noncomputable def z1 : PySem.Heap := tup9z.2.2.2.2.2.2.2.2.2.2.2.2.2.2.2.2.2.2.2.2.2.2.2.2.2.2.2.2.2.2.2.2.2.2.2.1
noncomputable def z2 : PySem.Heap := tup9z.2.2.2.2.2.2.2.2.2.2.2.2.2.2.2.2.2.2.2.2.2.2.2.2.2.2.2.2.2.2.2.2.2.2.2.2.1
noncomputable def z5 : PySem.Heap := tup9z.2.2.2.2.2.2.2.2.2.2.2.2.2.2.2.2.2.2.2.2.2.2.2.2.2.2.2.2.2.2.2.2.2.2.2.2.2.1
noncomputable def z6 : Nat := tup9z.2.2.2.2.2.2.2.2.2.2.2.2.2.2.2.2.2.2.2.2.2.2.2.2.2.2.2.2.2.2.2.2.2.2.2.2.2.2.1
noncomputable def z7 : PySem.Tok := tup9z.2.2.2.2.2.2.2.2.2.2.2.2.2.2.2.2.2.2.2.2.2.2.2.2.2.2.2.2.2.2.2.2.2.2.2.2.2.2.2.1
noncomputable def z8 : PySem.Tok := tup9z.2.2.2.2.2.2.2.2.2.2.2.2.2.2.2.2.2.2.2.2.2.2.2.2.2.2.2.2.2.2.2.2.2.2.2.2.2.2.2.2.1
noncomputable def z9 : PySem.Tok := tup9z.2.2.2.2.2.2.2.2.2.2.2.2.2.2.2.2.2.2.2.2.2.2.2.2.2.2.2.2.2.2.2.2.2.2.2.2.2.2.2.2.2
set_option maxRecDepth 100000 in
set_option maxHeartbeats 4000000 in
theorem main9 : seg9.1 w l g c c' vs us f1 f2 f3 loose mean mg mb rest dp un gd cn cs aa ccd cl outer A₀ base h₀ L m s R k L9z h9z tk z1 z2 z5 z6 z7 z8 z9 := by
   delta seg9 segOf
   dsimp -zeta only
   intro szs hi hj hz h1 X N₀ T hret hl1 hl2 hk9 hvz hk2 y10 y11
   refine for_down (σ := Int × Tok × Int × Tok) (n := k) (env := envOf _ _ _ _ _) (by k_asm) (by assumption) rfl ⟨by omega, by omega⟩ (by decide) (by split <;> omega) (fun y => [(Str.ofString "sizes", .ref l), (Str.ofString "figures", .ref g), (Str.ofString "many", .int y.1 y.2.1), (Str.ofString "less", .int y.2.2.1 y.2.2.2)])
     (fun i y => ∃ mn ls : Nat, y.1 = (mn : Int) ∧ y.2.2.1 = (ls : Int) ∧ manyP (szs.drop (k + 1 - i)) ([f1, f2, f3].drop (k - i)) = (mn, ls) ∧ mn + ls ≤ 2 * 4 ^ i) (1, _, 1, _) ⟨rfl, rfl, rfl, rfl, trivial⟩ ⟨1, 1, rfl, rfl, ?_, by decide⟩ ?_ ?_
   · rw [List.drop_eq_nil_of_le (by omega)]; rfl
   · intro i y t9 h9 tk9 m9 own hi9 hok F N
     obtain ⟨mz, tm, lz, tl⟩ := y
     obtain ⟨mn, ls, e1, e2, hP, hB⟩ := hok
     dsimp only at e1 e2
     subst e1 e2
     dsimp only [mB] at *
     obtain ⟨a0, ha0⟩ : ∃ a0, szs[k - i]? = some a0 := ⟨szs[k - i]'(by omega), List.getElem?_eq_getElem (by omega)⟩
     obtain ⟨b0, hb0⟩ : ∃ b0, [f1, f2, f3][k - (i + 1)]? = some b0 := ⟨[f1, f2, f3][k - (i + 1)]'(by show _ < 3; omega), List.getElem?_eq_getElem (by show _ < 3; omega)⟩
     have ha1 := h1 a0 (List.mem_of_getElem? ha0)
     have g1 : (szs.map fun (x : Nat) => (x : Int)).getD ((vs.toArray.size : Int) - 1 - (i : Int)).toNat 0 = (a0 : Int) := by
       rw [show ((vs.toArray.size : Int) - 1 - (i : Int)).toNat = k - i by omega, List.getD_eq_getElem?_getD, List.getElem?_map, ha0]; rfl
     have g2 : ([f1, f2, f3].map fun (x : Nat) => (x : Int)).getD ((vs.toArray.size : Int) - 1 - (i : Int) - 1).toNat 0 = (b0 : Int) := by
       rw [show ((vs.toArray.size : Int) - 1 - (i : Int) - 1).toNat = k - (i + 1) by omega, List.getD_eq_getElem?_getD, List.getElem?_map, hb0]; rfl
     have hB4 : 2 * 4 ^ i ≤ 2 * 4 ^ 2 := Nat.mul_le_mul_left 2 (Nat.pow_le_pow_right (by decide) (by omega))
     have hstep := manyP_cons a0 _ b0 _ hP
     rw [show k + 1 - i = k - i + 1 by omega, ← drop_cons ha0, show k - i = k - (i + 1) + 1 by omega, ← drop_cons hb0] at hstep
     have hB9 := mul_small ha1.2 hB
     k_with_none
     k_with "subscriptTail Name Name ref int" => (refine item_list_ints (by is_list) hi (by omega) (by rw [List.length_map]; omega) (by omega) ?_; intro t7; rw [g1])
     k_with "subscriptTail Name BinOp ref int" => (refine item_list_ints (by is_list) hj (by omega) (by show _ < (3 : Int); omega) (by omega) ?_; intro t7; rw [g2])
     k_steps
     · have hb1 : b0 = 1 := by
         have q9 := ‹(([f1, f2, f3].map fun (x : Nat) => (x : Int)).getD _ 0) = 1›
         rw [g2] at q9; omega
       rw [if_pos hb1] at hstep
       show ListEnd _ _ _ _ _ _ _ _ _
       refine ListEnd.mkM (fun m => ((mn : Int) + ((a0 : Int) - 1) * (ls : Int), tokI (m (Str.ofString "many")), (mn : Int) + ((a0 : Int) - 1) * (ls : Int) + (ls : Int), tokI (m (Str.ofString "less")))) (by k_asm) (by k_asm) (by (repeat' first | exact True.intro | refine ⟨?_, ?_⟩ | kernel_rfl | exact rfl)) (fun _ h => h) ⟨mn + (a0 - 1) * ls, mn + (a0 - 1) * ls + ls, mul_cast1 ha1.1, by rw [Int.natCast_add, ← mul_cast1 ha1.1], ?_, by rw [Nat.pow_succ]; omega⟩
       rw [show k + 1 - (i + 1) = k - (i + 1) + 1 by omega]; exact hstep
     · have hb1 : ¬ b0 = 1 := by
         have q9 := ‹¬ (([f1, f2, f3].map fun (x : Nat) => (x : Int)).getD _ 0) = 1›
         rw [g2] at q9; omega
       rw [if_neg hb1] at hstep
       show ListEnd _ _ _ _ _ _ _ _ _
       refine ListEnd.mkM (fun m => ((mn : Int) + ((a0 : Int) - 1) * (ls : Int), tokI (m (Str.ofString "many")), (mn : Int) + ((a0 : Int) - 1) * (ls : Int), tokI (m (Str.ofString "less")))) (by k_asm) (by k_asm) (by (repeat' first | exact True.intro | refine ⟨?_, ?_⟩ | kernel_rfl | exact rfl)) (fun _ h => h) ⟨mn + (a0 - 1) * ls, mn + (a0 - 1) * ls, mul_cast1 ha1.1, mul_cast1 ha1.1, ?_, by rw [Nat.pow_succ]; omega⟩
       rw [show k + 1 - (i + 1) = k - (i + 1) + 1 by omega]; exact hstep
   · intro h9 tk9 m9 y hok F
     have N : News s.heap L9z h9 [] := fun _ h => nomatch h
     obtain ⟨mz, tm, lz, tl⟩ := y
     obtain ⟨mn, ls, e1, e2, hP, hB⟩ := hok
     dsimp only at e1 e2
     subst e1 e2
     dsimp only [mB] at *
     rw [show k + 1 - k = 1 by omega, Nat.sub_self] at hP
     obtain ⟨a0, r9, rfl⟩ : ∃ a0 r9, szs = a0 :: r9 := by cases szs with | nil => cases hk9 | cons a r => exact ⟨_, _, rfl⟩
     have ha1 := h1 a0 (.head _)
     have hB4 : 2 * 4 ^ k ≤ 2 * 4 ^ 2 := Nat.mul_le_mul_left 2 (Nat.pow_le_pow_right (by decide) hk2)
     have g1 : ((a0 :: r9).map fun (x : Nat) => (x : Int)).getD (Int.toNat 0) 0 = (a0 : Int) := rfl
     k_with_none
     k_with "subscriptTail Name Constant ref int" => (refine item_list_ints (by is_list) hi (by decide) (by rw [List.length_map]; omega) (by decide) ?_; intro t7; rw [g1])
     k_steps
     refine ret_int (b := (manyF (a0 :: r9) [f1, f2, f3] : Int)) ?_ (hret _ [] _ _ ⟨rfl, _, rfl⟩ (fun _ _ _ h => nomatch h) (by k_asm) (N₀.grown (Fr.keep (by k_asm))))
     have e9 : manyF (a0 :: r9) [f1, f2, f3] = mn + a0 * ls := by
       have hP' : manyP r9 [f1, f2, f3] = (mn, ls) := hP
       rw [manyF, hP']
     rw [e9, Int.natCast_add, Int.natCast_mul]

set_option maxRecDepth 100000 in
set_option maxHeartbeats 4000000 in
theorem all9 : ∀ a0 a1 a2 a3 a4 a5 a6 a7 a8 a9 a10 a11 a12 a13 a14 a15 a16 a17 a18 a19 a20 a21 a22 a23 a24 a25 a26 a27 a28 a29 a30 a31 a32 a33 a34 a35 a36 a37 a38 a39 a40 a41, seg9.1 a0 a1 a2 a3 a4 a5 a6 a7 a8 a9 a10 a11 a12 a13 a14 a15 a16 a17 a18 a19 a20 a21 a22 a23 a24 a25 a26 a27 a28 a29 a30 a31 a32 a33 a34 a35 a36 a37 a38 a39 a40 a41 := fun a0 a1 a2 a3 a4 a5 a6 a7 a8 a9 a10 a11 a12 a13 a14 a15 a16 a17 a18 a19 a20 a21 a22 a23 a24 a25 a26 a27 a28 a29 a30 a31 a32 a33 a34 a35 a36 a37 a38 a39 a40 a41 => hen_all (G := G9) main9 (a0, a1, a2, a3, a4, a5, a6, a7, a8, a9, a10, a11, a12, a13, a14, a15, a16, a17, a18, a19, a20, a21, a22, a23, a24, a25, a26, a27, a28, a29, a30, a31, a32, a33, a34, a35, a36, a37, a38, a39, a40, a41)
end manyA
theorem many2 (w : World) (l g : Addr) (c c' : Nat) (vs us : List Value) (szs : List Nat) (f1 f2 f3 : Nat) (hi : IntsAre vs (szs.map fun (x : Nat) => (x : Int))) (hj : IntsAre us ([f1, f2, f3].map fun (x : Nat) => (x : Int))) (hz : 1 ≤ szs.length ∧ szs.length ≤ 3) (h1 : ∀ a ∈ szs, 1 ≤ a ∧ a ≤ 2) : CtrR PySem.Challenge.rw_wn0028_02.prog w (Mine.hd.heap_39 w.params) PySem.W.topProg 2 30 174 [.ref l, .ref g] [(l, listOf vs.toArray c), (g, listOf us.toArray c')] (fun v tl => tl = [] ∧ ∃ tk, v = .int (manyF szs [f1, f2, f3] : Int) tk) := manyA.seg9.2 ⟨manyA.all9⟩ w l g c c' vs us szs f1 f2 f3 hi hj hz h1

end Mine
namespace Mine
theorem reset_lowest2 : True := by
  w_top off
  trivial
theorem mkS_app_one (c : Nat) (a : List Nat) : (⟨#[c]⟩ : Str) ++ mkS a = mkS (c :: a) := mkS_app [c] a
theorem lowGo_len : ∀ (f n : Nat) (acc : List Nat) {wd : List Nat}, lowGo f n acc = some wd → acc.length ≤ wd.length
  | 0, _, _, _, h => nomatch h
  | f + 1, n, acc, wd, h => by
    rw [lowGo] at h
    split at h
    · rw [← Option.some.inj h]; exact Nat.le_refl _
    · split at h
      · have := lowGo_len f _ _ h; rw [List.length_cons] at this; omega
      · have := lowGo_len f _ _ h; rw [List.length_cons] at this; omega
theorem fd16 (n k : Nat) (h : k ≤ n) : ((n : Int) - (k : Int)).fdiv 16 = (((n - k) / 16 : Nat) : Int) := by rw [Int.fdiv_eq_ediv_of_nonneg _ (by decide)]; omega
namespace lowestA
set_option maxRecDepth 100000 in
set_option maxHeartbeats 4000000 in
noncomputable def seg9 : {p : PySem.World → Nat → Nat → PySem.Tok → PySem.Tok → Nat → (List PySem.Str) → (PySem.ExcName → Option PySem.Value) → (PySem.Str → Option PySem.Value) → (PySem.Str → Option PySem.Value) → (List (PySem.Addr × PySem.Obj)) → Nat → Nat → (Option (List PySem.Code)) → PySem.Str → PySem.Scope → PySem.Addr → PySem.Value → (List (PySem.Str × PySem.Addr)) → (List PySem.Env) → PySem.Around → PySem.Heap → PySem.Heap → PySem.Addr → (PySem.Str → Option PySem.Value) → PySem.Shared → (PySem.Result → PySem.Shared → Prop) → PySem.Heap → PySem.Addr → PySem.Heap → Nat → PySem.Heap → Prop // Hid (∀ a0 a1 a2 a3 a4 a5 a6 a7 a8 a9 a10 a11 a12 a13 a14 a15 a16 a17 a18 a19 a20 a21 a22 a23 a24 a25 a26 a27 a28 a29 a30 a31, p a0 a1 a2 a3 a4 a5 a6 a7 a8 a9 a10 a11 a12 a13 a14 a15 a16 a17 a18 a19 a20 a21 a22 a23 a24 a25 a26 a27 a28 a29 a30 a31) → ∀ (w : World) (n len : Nat) (t u : Tok) (hn : n < 16 ^ 10) (hl : len ≤ 20) (f : Nat) (wd : List Nat) (hW : lowGo f n [] = some wd) (hwl : wd.length ≤ 20), CtrR PySem.Challenge.rw_wn0028_02.prog w (Mine.hd.heap_39 w.params) PySem.W.topProg 2 30 167 [.int (n : Int) t, .int (len : Int) u] [] (fun v tl => tl = [] ∧ ∃ tk, v = .str (mkS (List.replicate (len - wd.length) 65 ++ wd)) tk)} := segOf (by
   intro ht9
   intro w n len t u hn hl f wd hW hwl
   intro loose mean mg mb rest dp un gd cn cs aa ccd cl outer A₀ base h₀ L m s R hled B F₀ X N₀ T hk hd hu hret
   k_with_none
   k_with "exec While Compare cons nil" => refine stop_in ?_
   k_dflt cell_enter
   k_steps
   refine stop_out ?_
   rename_i z1 z2 z3 y4 y5 y6 y7 z8 y9 y10
   clear hled B F₀ N₀ hk hd hu y4 y5
   revert hn hl wd hW hwl X T hret y6 y7 qk ek y9 y10
   exact ht9.out w n len t u f loose mean mg mb rest dp un gd cn cs aa ccd cl outer A₀ base h₀ L m s R z1 z2 z3 tk z8
)
noncomputable def G9 (d : PySem.World × Nat × Nat × PySem.Tok × PySem.Tok × Nat × (List PySem.Str) × (PySem.ExcName → Option PySem.Value) × (PySem.Str → Option PySem.Value) × (PySem.Str → Option PySem.Value) × (List (PySem.Addr × PySem.Obj)) × Nat × Nat × (Option (List PySem.Code)) × PySem.Str × PySem.Scope × PySem.Addr × PySem.Value × (List (PySem.Str × PySem.Addr)) × (List PySem.Env) × PySem.Around × PySem.Heap × PySem.Heap × PySem.Addr × (PySem.Str → Option PySem.Value) × PySem.Shared × (PySem.Result → PySem.Shared → Prop) × PySem.Heap × PySem.Addr × PySem.Heap × Nat × PySem.Heap) : Prop := seg9.1 d.1 d.2.1 d.2.2.1 d.2.2.2.1 d.2.2.2.2.1 d.2.2.2.2.2.1 d.2.2.2.2.2.2.1 d.2.2.2.2.2.2.2.1 d.2.2.2.2.2.2.2.2.1 d.2.2.2.2.2.2.2.2.2.1 d.2.2.2.2.2.2.2.2.2.2.1 d.2.2.2.2.2.2.2.2.2.2.2.1 d.2.2.2.2.2.2.2.2.2.2.2.2.1 d.2.2.2.2.2.2.2.2.2.2.2.2.2.1 d.2.2.2.2.2.2.2.2.2.2.2.2.2.2.1 d.2.2.2.2.2.2.2.2.2.2.2.2.2.2.2.1 d.2.2.2.2.2.2.2.2.2.2.2.2.2.2.2.2.1 d.2.2.2.2.2.2.2.2.2.2.2.2.2.2.2.2.2.1 d.2.2.2.2.2.2.2.2.2.2.2.2.2.2.2.2.2.2.1 d.2.2.2.2.2.2.2.2.2.2.2.2.2.2.2.2.2.2.2.1 d.2.2.2.2.2.2.2.2.2.2.2.2.2.2.2.2.2.2.2.2.1 d.2.2.2.2.2.2.2.2.2.2.2.2.2.2.2.2.2.2.2.2.2.1 d.2.2.2.2.2.2.2.2.2.2.2.2.2.2.2.2.2.2.2.2.2.2.1 d.2.2.2.2.2.2.2.2.2.2.2.2.2.2.2.2.2.2.2.2.2.2.2.1 d.2.2.2.2.2.2.2.2.2.2.2.2.2.2.2.2.2.2.2.2.2.2.2.2.1 d.2.2.2.2.2.2.2.2.2.2.2.2.2.2.2.2.2.2.2.2.2.2.2.2.2.1 d.2.2.2.2.2.2.2.2.2.2.2.2.2.2.2.2.2.2.2.2.2.2.2.2.2.2.1 d.2.2.2.2.2.2.2.2.2.2.2.2.2.2.2.2.2.2.2.2.2.2.2.2.2.2.2.1 d.2.2.2.2.2.2.2.2.2.2.2.2.2.2.2.2.2.2.2.2.2.2.2.2.2.2.2.2.1 d.2.2.2.2.2.2.2.2.2.2.2.2.2.2.2.2.2.2.2.2.2.2.2.2.2.2.2.2.2.1 d.2.2.2.2.2.2.2.2.2.2.2.2.2.2.2.2.2.2.2.2.2.2.2.2.2.2.2.2.2.2.1 d.2.2.2.2.2.2.2.2.2.2.2.2.2.2.2.2.2.2.2.2.2.2.2.2.2.2.2.2.2.2.2
noncomputable def tup9z : PySem.World × Nat × Nat × PySem.Tok × PySem.Tok × Nat × (List PySem.Str) × (PySem.ExcName → Option PySem.Value) × (PySem.Str → Option PySem.Value) × (PySem.Str → Option PySem.Value) × (List (PySem.Addr × PySem.Obj)) × Nat × Nat × (Option (List PySem.Code)) × PySem.Str × PySem.Scope × PySem.Addr × PySem.Value × (List (PySem.Str × PySem.Addr)) × (List PySem.Env) × PySem.Around × PySem.Heap × PySem.Heap × PySem.Addr × (PySem.Str → Option PySem.Value) × PySem.Shared × (PySem.Result → PySem.Shared → Prop) × PySem.Heap × PySem.Addr × PySem.Heap × Nat × PySem.Heap := hen (World9, (0 : Nat), (0 : Nat), (0 : Nat), (0 : Nat), (0 : Nat), [], (fun _ => none), (fun _ => none), (fun _ => none), [], (0 : Nat), (0 : Nat), none, (default : Str), (default : Scope), (0 : Nat), (default : Value), [], [], ({} : Around), (default : Heap), (default : Heap), (0 : Nat), (fun _ => none), ({} : Shared), (fun _ => (fun _ => True)), (default : Heap), (0 : Nat), (default : Heap), (0 : Nat), (default : Heap)) G9
noncomputable def w : PySem.World := tup9z.1
noncomputable def n : Nat := tup9z.2.1
noncomputable def len : Nat := tup9z.2.2.1
noncomputable def t : PySem.Tok := tup9z.2.2.2.1
noncomputable def u : PySem.Tok := tup9z.2.2.2.2.1
noncomputable def f : Nat := tup9z.2.2.2.2.2.1
noncomputable def loose : List PySem.Str := tup9z.2.2.2.2.2.2.1
noncomputable def mean : PySem.ExcName → Option PySem.Value := tup9z.2.2.2.2.2.2.2.1
noncomputable def mg : PySem.Str → Option PySem.Value := tup9z.2.2.2.2.2.2.2.2.1
noncomputable def mb : PySem.Str → Option PySem.Value := tup9z.2.2.2.2.2.2.2.2.2.1
noncomputable def rest : List (PySem.Addr × PySem.Obj) := tup9z.2.2.2.2.2.2.2.2.2.2.1
noncomputable def dp : Nat := tup9z.2.2.2.2.2.2.2.2.2.2.2.1
noncomputable def un : Nat := tup9z.2.2.2.2.2.2.2.2.2.2.2.2.1
noncomputable def gd : Option (List PySem.Code) := tup9z.2.2.2.2.2.2.2.2.2.2.2.2.2.1
noncomputable def cn : PySem.Str := tup9z.2.2.2.2.2.2.2.2.2.2.2.2.2.2.1
noncomputable def cs : PySem.Scope := tup9z.2.2.2.2.2.2.2.2.2.2.2.2.2.2.2.1
noncomputable def aa : PySem.Addr := tup9z.2.2.2.2.2.2.2.2.2.2.2.2.2.2.2.2.1
noncomputable def ccd : PySem.Value := tup9z.2.2.2.2.2.2.2.2.2.2.2.2.2.2.2.2.2.1
noncomputable def cl : List (PySem.Str × PySem.Addr) := tup9z.2.2.2.2.2.2.2.2.2.2.2.2.2.2.2.2.2.2.1
noncomputable def outer : List PySem.Env := tup9z.2.2.2.2.2.2.2.2.2.2.2.2.2.2.2.2.2.2.2.1
noncomputable def A₀ : PySem.Around := tup9z.2.2.2.2.2.2.2.2.2.2.2.2.2.2.2.2.2.2.2.2.1
noncomputable def base : PySem.Heap := tup9z.2.2.2.2.2.2.2.2.2.2.2.2.2.2.2.2.2.2.2.2.2.1
noncomputable def h₀ : PySem.Heap := tup9z.2.2.2.2.2.2.2.2.2.2.2.2.2.2.2.2.2.2.2.2.2.2.1
noncomputable def L : PySem.Addr := tup9z.2.2.2.2.2.2.2.2.2.2.2.2.2.2.2.2.2.2.2.2.2.2.2.1
noncomputable def m : PySem.Str → Option PySem.Value := tup9z.2.2.2.2.2.2.2.2.2.2.2.2.2.2.2.2.2.2.2.2.2.2.2.2.1
noncomputable def s : PySem.Shared := tup9z.2.2.2.2.2.2.2.2.2.2.2.2.2.2.2.2.2.2.2.2.2.2.2.2.2.1
noncomputable def R : PySem.Result → PySem.Shared → Prop := tup9z.2.2.2.2.2.2.2.2.2.2.2.2.2.2.2.2.2.2.2.2.2.2.2.2.2.2.1
noncomputable def z1 : PySem.Heap := tup9z.2.2.2.2.2.2.2.2.2.2.2.2.2.2.2.2.2.2.2.2.2.2.2.2.2.2.2.1
noncomputable def z2 : PySem.Addr := tup9z.2.2.2.2.2.2.2.2.2.2.2.2.2.2.2.2.2.2.2.2.2.2.2.2.2.2.2.2.1
noncomputable def z3 : PySem.Heap := tup9z.2.2.2.2.2.2.2.2.2.2.2.2.2.2.2.2.2.2.2.2.2.2.2.2.2.2.2.2.2.1
noncomputable def tk : Nat := tup9z.2.2.2.2.2.2.2.2.2.2.2.2.2.2.2.2.2.2.2.2.2.2.2.2.2.2.2.2.2.2.1
noncomputable def z8 : PySem.Heap := tup9z.2.2.2.2.2.2.2.2.2.2.2.2.2.2.2.2.2.2.2.2.2.2.2.2.2.2.2.2.2.2.2
set_option maxRecDepth 100000 in
set_option maxHeartbeats 4000000 in
theorem main9 : seg9.1 w n len t u f loose mean mg mb rest dp un gd cn cs aa ccd cl outer A₀ base h₀ L m s R z1 z2 z3 tk z8 := by
   delta seg9 segOf
   dsimp -zeta only
   intro hn hl wd hW hwl X T hret y6 y7 qk ek y9 y10
   refine while_st (σ := Int × Tok × Str × Tok) (env := envOf _ _ _ _ _) (fun y => [(Str.ofString "number", .int y.1 y.2.1), (Str.ofString "length", .int (len : Int) u), (Str.ofString "word", .str y.2.2.1 y.2.2.2)]) (fun _ => rest) (fun j y => ∃ (k : Nat) (acc : List Nat), y.1 = (k : Int) ∧ y.2.2.1 = mkS acc ∧ lowGo j k acc = some wd ∧ k < 16 ^ 10) f (n, _, Str.ofString "", _) (by k_asm) (by k_asm) ⟨rfl, rfl, rfl, trivial⟩ (fun p hp => hp) ⟨n, [], rfl, empty_mkS, hW, hn⟩ ?_
   intro j y h tk m₁ hok F N
   obtain ⟨kz, tk9, sw, ta⟩ := y
   obtain ⟨k, acc, e1, e2, hgo, hkb⟩ := hok
   dsimp only at e1 e2
   subst e1 e2
   dsimp only [mB] at *
   cases j with
   | zero => cases hgo
   | succ j =>
   have hal := lowGo_len _ _ _ hgo
   rw [lowGo] at hgo
   by_cases hk0 : k = 0
   · subst hk0
     rw [if_pos rfl] at hgo
     obtain rfl := Option.some.inj hgo
     rw [show ((0 : Nat) : Int) = 0 from rfl] at *
     k_with "call builtin:len cons nil" => refine k_lenS (by omega) ?_
     k_with "binaryOp Mult str int" => refine stop_in ?_
     k_steps
     refine stop_out ?_
     refine KXi.mul (n := 1) rfl (by decide) (by omega) (by omega) ?_
     intro t9 k9 _ _
     rw [show Txt.mul (Str.ofString "A") ((len : Int) - (acc.length : Int)) = mkS (List.replicate (len - acc.length) 65) from by
       rw [show Str.ofString "A" = (⟨#[65]⟩ : Str) from rfl]
       refine str_of_list ?_
       rw [mul_one_list]
       congr 1
       omega]
     k_with_none
     k_with "binaryOp Add str str" => (refine k_glue (by rw [List.length_replicate]; omega) (by omega) ?_; intro t8 k8)
     k_steps
     exact hret _ [] _ _ ⟨rfl, _, rfl⟩ (fun _ _ _ h => nomatch h) (by k_asm) (by k_asm)
   · rw [if_neg hk0] at hgo
     by_cases hm : k % 16 = 0
     · rw [if_pos hm] at hgo
       k_with_none
       k_with "binaryOp Mod int int" => (refine mod_int' (by decide) ?_; rw [fm16, hm])
       k_steps
       show TurnEnd _ _ _ _ _ _ _ _
       refine TurnEnd.mkM j (fun m => (((k : Int) - 16).fdiv 16, tokI (m (Str.ofString "number")), Str.ofString "Q" ++ mkS acc, tokS (m (Str.ofString "word")))) (Nat.lt_succ_self _) (by k_asm) (by k_asm) (by (repeat' first | exact True.intro | refine ⟨?_, ?_⟩ | kernel_rfl | exact rfl)) (fun p hp => hp) ⟨(k - 16) / 16, 81 :: acc, by exact fd16 k 16 (by omega), by rw [show Str.ofString "Q" = mkS [81] by decide +kernel]; exact mkS_app [81] acc, hgo, by omega⟩
     · rw [if_neg hm] at hgo
       k_with_none
       obtain ⟨d, hd9, hd16⟩ : ∃ d, d = k % 16 ∧ d < 16 := ⟨_, rfl, Nat.mod_lt _ (by decide)⟩
       rw [← hd9] at hm hgo
       k_with "binaryOp Mod int int" => (refine mod_int' (by decide) ?_; rw [fm16, ← hd9])
       k_steps
       · exfalso; omega
       show TurnEnd _ _ _ _ _ _ _ _
       refine TurnEnd.mk j (((k : Int) - (d : Int)).fdiv 16, _, _, _) (Nat.lt_succ_self _) (by k_asm) (by k_asm) ⟨rfl, rfl, rfl, trivial⟩ (fun p hp => hp) ⟨(k - d) / 16, (65 + d) :: acc, by exact fd16 k d (by omega), ?_, hgo, by omega⟩
       rw [← mkS_app_one, ← show ((65 : Int) + (d : Int)).toNat = 65 + d by omega]

set_option maxRecDepth 100000 in
set_option maxHeartbeats 4000000 in
theorem all9 : ∀ a0 a1 a2 a3 a4 a5 a6 a7 a8 a9 a10 a11 a12 a13 a14 a15 a16 a17 a18 a19 a20 a21 a22 a23 a24 a25 a26 a27 a28 a29 a30 a31, seg9.1 a0 a1 a2 a3 a4 a5 a6 a7 a8 a9 a10 a11 a12 a13 a14 a15 a16 a17 a18 a19 a20 a21 a22 a23 a24 a25 a26 a27 a28 a29 a30 a31 := fun a0 a1 a2 a3 a4 a5 a6 a7 a8 a9 a10 a11 a12 a13 a14 a15 a16 a17 a18 a19 a20 a21 a22 a23 a24 a25 a26 a27 a28 a29 a30 a31 => hen_all (G := G9) main9 (a0, a1, a2, a3, a4, a5, a6, a7, a8, a9, a10, a11, a12, a13, a14, a15, a16, a17, a18, a19, a20, a21, a22, a23, a24, a25, a26, a27, a28, a29, a30, a31)
end lowestA
theorem lowest2 (w : World) (n len : Nat) (t u : Tok) (hn : n < 16 ^ 10) (hl : len ≤ 20) (f : Nat) (wd : List Nat) (hW : lowGo f n [] = some wd) (hwl : wd.length ≤ 20) : CtrR PySem.Challenge.rw_wn0028_02.prog w (Mine.hd.heap_39 w.params) PySem.W.topProg 2 30 167 [.int (n : Int) t, .int (len : Int) u] [] (fun v tl => tl = [] ∧ ∃ tk, v = .str (mkS (List.replicate (len - wd.length) 65 ++ wd)) tk) := lowestA.seg9.2 ⟨lowestA.all9⟩ w n len t u hn hl f wd hW hwl

end Mine
namespace Mine
theorem reset_law2e : True := by
  w_top off
  trivial
theorem last_getD {l p : List (List Nat)} {x : List Nat} (h : l = p ++ [x]) : (l.map mkS).getD ((-1 : Int) + ((l.map mkS).length : Int)).toNat Str.empty = mkS x := by
  subst h
  have e : ((-1 : Int) + (((p ++ [x]).map mkS).length : Int)).toNat = p.length := by rw [List.length_map, List.length_append, List.length_singleton]; omega
  rw [e, List.map_append, List.getD, List.getElem?_append_right (by rw [List.length_map]; exact Nat.le_refl _), List.length_map, Nat.sub_self]
  rfl
namespace law_end2
set_option maxRecDepth 100000 in
set_option maxHeartbeats 8000000 in
noncomputable def seg9 : {p : PySem.World → PySem.Str → PySem.Addr → PySem.Value → PySem.Heap → Nat → (List PySem.Str) → (PySem.ExcName → Option PySem.Value) → (PySem.Str → Option PySem.Value) → (PySem.Str → Option PySem.Value) → PySem.Drawn → PySem.OsState → (PySem.Flow → PySem.Shared → Prop) → (PySem.Value → PySem.Shared → Prop) → (List Nat) → Nat → Nat → Nat → Nat → Nat → Nat → Nat → Nat → Int → (List PySem.Value) → (List PySem.Value) → (Array PySem.Value) → PySem.Obj → (Array PySem.GenState) → PySem.Heap → Nat → PySem.Tok → PySem.Tok → PySem.Tok → (PySem.Str → Option PySem.Value) → Mine.CS → (List Nat) → (List (List Nat)) → Nat → PySem.Tok → (List PySem.Value) → Nat → Nat → Nat → Nat → Nat → Nat → Nat → Nat → Nat → Nat → Nat → PySem.Tok → PySem.Tok → PySem.Tok → PySem.Tok → PySem.Tok → PySem.Tok → PySem.Tok → PySem.Tok → PySem.Tok → PySem.Tok → PySem.Tok → PySem.Tok → PySem.Value → PySem.Value → PySem.Obj → PySem.Obj → (Array PySem.Value) → PySem.Tok → PySem.Heap → Nat → PySem.Addr → PySem.Addr → PySem.Addr → Nat → Nat → (List PySem.Value) → (List PySem.Value) → Nat → PySem.Tok → (List PySem.Value) → Nat → Prop // Hid (∀ a0 a1 a2 a3 a4 a5 a6 a7 a8 a9 a10 a11 a12 a13 a14 a15 a16 a17 a18 a19 a20 a21 a22 a23 a24 a25 a26 a27 a28 a29 a30 a31 a32 a33 a34 a35 a36 a37 a38 a39 a40 a41 a42 a43 a44 a45 a46 a47 a48 a49 a50 a51 a52 a53 a54 a55 a56 a57 a58 a59 a60 a61 a62 a63 a64 a65 a66 a67 a68 a69 a70 a71 a72 a73 a74 a75 a76 a77 a78 a79 a80 a81 a82, p a0 a1 a2 a3 a4 a5 a6 a7 a8 a9 a10 a11 a12 a13 a14 a15 a16 a17 a18 a19 a20 a21 a22 a23 a24 a25 a26 a27 a28 a29 a30 a31 a32 a33 a34 a35 a36 a37 a38 a39 a40 a41 a42 a43 a44 a45 a46 a47 a48 a49 a50 a51 a52 a53 a54 a55 a56 a57 a58 a59 a60 a61 a62 a63 a64 a65 a66 a67 a68 a69 a70 a71 a72 a73 a74 a75 a76 a77 a78 a79 a80 a81 a82) → ∀ (w : World) (cn : Str) (fa : Addr) (cd : Value) (h₀ : Heap) (L : Nat) (loose : List Str) (mean : ExcName → Option Value) (mg mb : Str → Option Value) (dr : Drawn) (os : OsState) (Q : Flow → Shared → Prop) (E : Value → Shared → Prop) (C : CodeHd h₀ 112 108) (B : Below callerA h₀ [] h₀) (X : (Mine.hd.heap_39 w.params).In h₀) (T : Top PySem.W.topProg loose mean mg mb h₀) (hT : 108 < L) (hret : ∀ {h' : Heap} {g' : Array GenState} {tk' : Nat} {m' : Str → Option Value} {ps : Array Value} {led : List (Addr × Obj)}, AllBare g' → Fr h₀ L h' m' → News h₀ L h' led → (108, tabObj ps) ∈ led → Q (.ret (.bool true)) ⟨h', g', dr, tk', os⟩), Tail2d w cn L fa cd h₀ dr os Q E} := segOf (by
  intro ht9
  intro w cn fa cd h₀ L loose mean mg mb dr os Q E C B X T hT hret
  intro szs f1 f2 f3 P ls lf ks kf qe ln wz wf led ps oL g' h' tk' tW tN tL m' hsz hf1 hf2 hf3 hb ok st dL hiz hif l1 l2 l3 F N
  dsimp only [mB] at F
  dsimp only [lawEnv2, lawTop2, lawBs, lawSs, lawTs, List.drop]
  obtain ⟨S, wd, hS, hwd, ⟨p9, hpe⟩, pc9, pb9, sb9, sp9, hmany, hwz, hlt60⟩ := case2_parts (case2_ok szs hsz f1 hf1 f2 hf2 f3 hf3)
  obtain ⟨hz1, hz3, hz4⟩ := shape2_small szs hsz
  have hm9 := mark_small szs hsz f1 hf1 f2 hf2 f3 hf3
  have off0 : P.Off [(lf, listOf wf.toArray kf), (L + 1, oL), (108, tabObj ps)] := by
    refine LexP.Off.low ok ?_
    (repeat' first | exact List.forall_mem_nil _ | (first | exact raw_lt (by assumption) (by walk_at "le9") | exact allLt_lt' (by walk_at "and_r") (by walk_at "le9")) | refine lt_cons ?_ ?_ | (with_reducible assumption) | omega)
  have off : P.Off [(ls, listOf wz.toArray ks), (lf, listOf wf.toArray kf), (L + 1, oL), (108, tabObj ps)] := LexP.Off.cons off0 ok l3
  clear off0
  generalize hn : markF 0 szs [f1, f2, f3] = n at *
  have hCC : CodeHd h₀ 112 108 := C
  have ok' := ok
  obtain ⟨tl, sv, se, hs, rfl⟩ := st
  obtain ⟨x, d, pb, fn, cc, x1, d1, sg, ce, pb1, q1, q2, q3, q4, tw, u1, u2, u3, u4, u5, v1, vw, ct, pm, oc, oC, vs, tq⟩ := P
  obtain ⟨⟨o1, o2, o3, o4, o5, o6, o7, o8⟩, hcode, hname, hcell⟩ := ok
  dsimp only [lexLed] at *
  simp only [List.cons_append, List.nil_append] at N
  refine' Ctr.use (come2 w ⟨x, d, pb, fn, cc, x1, d1, sg, ce, pb1, q1, q2, q3, q4, tw, u1, u2, u3, u4, u5, v1, vw, ct, pm, oc, oC, vs, tq⟩ ok' ln [] (wordF n) tW qe _ ⟨tl, sv, se, hs, rfl⟩ 70 S hS) ?kC ?kP ?kO ?kB ?kF ?kX ?kN ?kT ?kK ?kd ?ku ?_
  ((case kF => k_asm); (case kN => k_asm); (case kB => k_asm); (case kX => k_asm); (case kT => k_asm); (case kC => k_asm); (case kK => first | exact rfl | assumption); (case kd => ktr_room); (case ku => ktr_units); (case kP => dsimp only [lexLed]; (repeat' first | exact Pick.nil | apply Pick.cons | exact Take.head | apply Take.tail)); (case kO => refine LexP.Off.to ?_; (repeat' first | assumption | refine LexP.Off.cons ?_ (by assumption) (by (try dsimp only); (show @LT.lt Nat _ _ _); omega))))
  intro v9 led9 tl9 h9 tk9 hp9 hlt9 F9 N9
  obtain ⟨D, Bk, Cm, kb, kc, wb, wc, rfl, rfl, hc, hbk, hord, qe9, tl2, sv2, se2, hs2, rfl⟩ := hp9
  have y0 := hlt9 (pb, _) (List.mem_append_left _ (by dsimp only [lexLed]; exact .head _))
  have y1 : @LT.lt Nat _ pb Cm := y0 _ (.tail _ (.tail _ (.head _)))
  have y2 := hlt9 (ls, _) (List.mem_append_right _ (.head _))
  have y3 : @LT.lt Nat _ ls Cm := y2 _ (.tail _ (.tail _ (.head _)))
  clear y0 y2 hlt9
  have hstr : ∀ y ∈ S.book.reverse.map mkS, PyData.strOk y = true := by
    intro y hy
    obtain ⟨l, hl, rfl⟩ := List.mem_map.mp hy
    exact strOk_mkS (writF_chars _ _ _ (pb9.subset hl))
  have hcz : wc.length < 60 := by rw [strs_len hc, List.length_map]; exact hlt60
  have hrz : (writF (1 + szs.sum) n).length < 60 := by rw [← pc9.length_eq]; exact hlt60
  have hbr := strsAre_rev hbk
  rw [← List.map_reverse] at hbr
  have hbz : wb.length < 60 := by
    have h1 := strs_len hbr
    rw [List.length_reverse, List.length_map, pb9.length_eq] at h1
    omega
  dsimp only [lexLed] at N9
  simp only [List.cons_append, List.nil_append] at N9
  clear C hsz hf1 hf2 hf3 hn F hS hCC hs dL l3 ok' N hcode hname hcell hbk hs2
  revert B X T hT hret hb hiz hif l1 hpe sb9 sp9 hmany hwz hlt60 hz1 hz3 hz4 hwd pc9 pb9 hm9 l2 off o1 o2 o3 o4 o5 o6 o7 o8 F9 hc hord N9 y1 y3 hstr hcz hrz hbr hbz
  exact ht9.out w cn fa cd h₀ L loose mean mg mb dr os Q E szs f1 f2 f3 ls lf ks kf qe ln wz wf ps oL g' h' tk' tW tN tL m' S wd p9 n tl sv se x d pb fn cc x1 d1 sg ce pb1 q1 q2 q3 q4 tw u1 u2 u3 u4 u5 v1 vw ct pm oc oC vs tq h9 tk9 D Bk Cm kb kc wb wc qe9 tl2 sv2 se2
)
noncomputable def G9 (d : PySem.World × PySem.Str × PySem.Addr × PySem.Value × PySem.Heap × Nat × (List PySem.Str) × (PySem.ExcName → Option PySem.Value) × (PySem.Str → Option PySem.Value) × (PySem.Str → Option PySem.Value) × PySem.Drawn × PySem.OsState × (PySem.Flow → PySem.Shared → Prop) × (PySem.Value → PySem.Shared → Prop) × (List Nat) × Nat × Nat × Nat × Nat × Nat × Nat × Nat × Nat × Int × (List PySem.Value) × (List PySem.Value) × (Array PySem.Value) × PySem.Obj × (Array PySem.GenState) × PySem.Heap × Nat × PySem.Tok × PySem.Tok × PySem.Tok × (PySem.Str → Option PySem.Value) × Mine.CS × (List Nat) × (List (List Nat)) × Nat × PySem.Tok × (List PySem.Value) × Nat × Nat × Nat × Nat × Nat × Nat × Nat × Nat × Nat × Nat × Nat × PySem.Tok × PySem.Tok × PySem.Tok × PySem.Tok × PySem.Tok × PySem.Tok × PySem.Tok × PySem.Tok × PySem.Tok × PySem.Tok × PySem.Tok × PySem.Tok × PySem.Value × PySem.Value × PySem.Obj × PySem.Obj × (Array PySem.Value) × PySem.Tok × PySem.Heap × Nat × PySem.Addr × PySem.Addr × PySem.Addr × Nat × Nat × (List PySem.Value) × (List PySem.Value) × Nat × PySem.Tok × (List PySem.Value) × Nat) : Prop := seg9.1 d.1 d.2.1 d.2.2.1 d.2.2.2.1 d.2.2.2.2.1 d.2.2.2.2.2.1 d.2.2.2.2.2.2.1 d.2.2.2.2.2.2.2.1 d.2.2.2.2.2.2.2.2.1 d.2.2.2.2.2.2.2.2.2.1 d.2.2.2.2.2.2.2.2.2.2.1 d.2.2.2.2.2.2.2.2.2.2.2.1 d.2.2.2.2.2.2.2.2.2.2.2.2.1 d.2.2.2.2.2.2.2.2.2.2.2.2.2.1 d.2.2.2.2.2.2.2.2.2.2.2.2.2.2.1 d.2.2.2.2.2.2.2.2.2.2.2.2.2.2.2.1 d.2.2.2.2.2.2.2.2.2.2.2.2.2.2.2.2.1 d.2.2.2.2.2.2.2.2.2.2.2.2.2.2.2.2.2.1 d.2.2.2.2.2.2.2.2.2.2.2.2.2.2.2.2.2.2.1 d.2.2.2.2.2.2.2.2.2.2.2.2.2.2.2.2.2.2.2.1 d.2.2.2.2.2.2.2.2.2.2.2.2.2.2.2.2.2.2.2.2.1 d.2.2.2.2.2.2.2.2.2.2.2.2.2.2.2.2.2.2.2.2.2.1 d.2.2.2.2.2.2.2.2.2.2.2.2.2.2.2.2.2.2.2.2.2.2.1 d.2.2.2.2.2.2.2.2.2.2.2.2.2.2.2.2.2.2.2.2.2.2.2.1 d.2.2.2.2.2.2.2.2.2.2.2.2.2.2.2.2.2.2.2.2.2.2.2.2.1 d.2.2.2.2.2.2.2.2.2.2.2.2.2.2.2.2.2.2.2.2.2.2.2.2.2.1 d.2.2.2.2.2.2.2.2.2.2.2.2.2.2.2.2.2.2.2.2.2.2.2.2.2.2.1 d.2.2.2.2.2.2.2.2.2.2.2.2.2.2.2.2.2.2.2.2.2.2.2.2.2.2.2.1 d.2.2.2.2.2.2.2.2.2.2.2.2.2.2.2.2.2.2.2.2.2.2.2.2.2.2.2.2.1 d.2.2.2.2.2.2.2.2.2.2.2.2.2.2.2.2.2.2.2.2.2.2.2.2.2.2.2.2.2.1 d.2.2.2.2.2.2.2.2.2.2.2.2.2.2.2.2.2.2.2.2.2.2.2.2.2.2.2.2.2.2.1 d.2.2.2.2.2.2.2.2.2.2.2.2.2.2.2.2.2.2.2.2.2.2.2.2.2.2.2.2.2.2.2.1 d.2.2.2.2.2.2.2.2.2.2.2.2.2.2.2.2.2.2.2.2.2.2.2.2.2.2.2.2.2.2.2.2.1 d.2.2.2.2.2.2.2.2.2.2.2.2.2.2.2.2.2.2.2.2.2.2.2.2.2.2.2.2.2.2.2.2.2.1 d.2.2.2.2.2.2.2.2.2.2.2.2.2.2.2.2.2.2.2.2.2.2.2.2.2.2.2.2.2.2.2.2.2.2.1 d.2.2.2.2.2.2.2.2.2.2.2.2.2.2.2.2.2.2.2.2.2.2.2.2.2.2.2.2.2.2.2.2.2.2.2.1 d.2.2.2.2.2.2.2.2.2.2.2.2.2.2.2.2.2.2.2.2.2.2.2.2.2.2.2.2.2.2.2.2.2.2.2.2.1 d.2.2.2.2.2.2.2.2.2.2.2.2.2.2.2.2.2.2.2.2.2.2.2.2.2.2.2.2.2.2.2.2.2.2.2.2.2.1 d.2.2.2.2.2.2.2.2.2.2.2.2.2.2.2.2.2.2.2.2.2.2.2.2.2.2.2.2.2.2.2.2.2.2.2.2.2.2.1 d.2.2.2.2.2.2.2.2.2.2.2.2.2.2.2.2.2.2.2.2.2.2.2.2.2.2.2.2.2.2.2.2.2.2.2.2.2.2.2.1 d.2.2.2.2.2.2.2.2.2.2.2.2.2.2.2.2.2.2.2.2.2.2.2.2.2.2.2.2.2.2.2.2.2.2.2.2.2.2.2.2.1 d.2.2.2.2.2.2.2.2.2.2.2.2.2.2.2.2.2.2.2.2.2.2.2.2.2.2.2.2.2.2.2.2.2.2.2.2.2.2.2.2.2.1 d.2.2.2.2.2.2.2.2.2.2.2.2.2.2.2.2.2.2.2.2.2.2.2.2.2.2.2.2.2.2.2.2.2.2.2.2.2.2.2.2.2.2.1 d.2.2.2.2.2.2.2.2.2.2.2.2.2.2.2.2.2.2.2.2.2.2.2.2.2.2.2.2.2.2.2.2.2.2.2.2.2.2.2.2.2.2.2.1 d.2.2.2.2.2.2.2.2.2.2.2.2.2.2.2.2.2.2.2.2.2.2.2.2.2.2.2.2.2.2.2.2.2.2.2.2.2.2.2.2.2.2.2.2.1 d.2.2.2.2.2.2.2.2.2.2.2.2.2.2.2.2.2.2.2.2.2.2.2.2.2.2.2.2.2.2.2.2.2.2.2.2.2.2.2.2.2.2.2.2.2.1 d.2.2.2.2.2.2.2.2.2.2.2.2.2.2.2.2.2.2.2.2.2.2.2.2.2.2.2.2.2.2.2.2.2.2.2.2.2.2.2.2.2.2.2.2.2.2.1 d.2.2.2.2.2.2.2.2.2.2.2.2.2.2.2.2.2.2.2.2.2.2.2.2.2.2.2.2.2.2.2.2.2.2.2.2.2.2.2.2.2.2.2.2.2.2.2.1 d.2.2.2.2.2.2.2.2.2.2.2.2.2.2.2.2.2.2.2.2.2.2.2.2.2.2.2.2.2.2.2.2.2.2.2.2.2.2.2.2.2.2.2.2.2.2.2.2.1 d.2.2.2.2.2.2.2.2.2.2.2.2.2.2.2.2.2.2.2.2.2.2.2.2.2.2.2.2.2.2.2.2.2.2.2.2.2.2.2.2.2.2.2.2.2.2.2.2.2.1 d.2.2.2.2.2.2.2.2.2.2.2.2.2.2.2.2.2.2.2.2.2.2.2.2.2.2.2.2.2.2.2.2.2.2.2.2.2.2.2.2.2.2.2.2.2.2.2.2.2.2.1 d.2.2.2.2.2.2.2.2.2.2.2.2.2.2.2.2.2.2.2.2.2.2.2.2.2.2.2.2.2.2.2.2.2.2.2.2.2.2.2.2.2.2.2.2.2.2.2.2.2.2.2.1 d.2.2.2.2.2.2.2.2.2.2.2.2.2.2.2.2.2.2.2.2.2.2.2.2.2.2.2.2.2.2.2.2.2.2.2.2.2.2.2.2.2.2.2.2.2.2.2.2.2.2.2.2.1 d.2.2.2.2.2.2.2.2.2.2.2.2.2.2.2.2.2.2.2.2.2.2.2.2.2.2.2.2.2.2.2.2.2.2.2.2.2.2.2.2.2.2.2.2.2.2.2.2.2.2.2.2.2.1 d.2.2.2.2.2.2.2.2.2.2.2.2.2.2.2.2.2.2.2.2.2.2.2.2.2.2.2.2.2.2.2.2.2.2.2.2.2.2.2.2.2.2.2.2.2.2.2.2.2.2.2.2.2.2.1 d.2.2.2.2.2.2.2.2.2.2.2.2.2.2.2.2.2.2.2.2.2.2.2.2.2.2.2.2.2.2.2.2.2.2.2.2.2.2.2.2.2.2.2.2.2.2.2.2.2.2.2.2.2.2.2.1 d.2.2.2.2.2.2.2.2.2.2.2.2.2.2.2.2.2.2.2.2.2.2.2.2.2.2.2.2.2.2.2.2.2.2.2.2.2.2.2.2.2.2.2.2.2.2.2.2.2.2.2.2.2.2.2.2.1 d.2.2.2.2.2.2.2.2.2.2.2.2.2.2.2.2.2.2.2.2.2.2.2.2.2.2.2.2.2.2.2.2.2.2.2.2.2.2.2.2.2.2.2.2.2.2.2.2.2.2.2.2.2.2.2.2.2.1 d.2.2.2.2.2.2.2.2.2.2.2.2.2.2.2.2.2.2.2.2.2.2.2.2.2.2.2.2.2.2.2.2.2.2.2.2.2.2.2.2.2.2.2.2.2.2.2.2.2.2.2.2.2.2.2.2.2.2.1 d.2.2.2.2.2.2.2.2.2.2.2.2.2.2.2.2.2.2.2.2.2.2.2.2.2.2.2.2.2.2.2.2.2.2.2.2.2.2.2.2.2.2.2.2.2.2.2.2.2.2.2.2.2.2.2.2.2.2.2.1 d.2.2.2.2.2.2.2.2.2.2.2.2.2.2.2.2.2.2.2.2.2.2.2.2.2.2.2.2.2.2.2.2.2.2.2.2.2.2.2.2.2.2.2.2.2.2.2.2.2.2.2.2.2.2.2.2.2.2.2.2.1 d.2.2.2.2.2.2.2.2.2.2.2.2.2.2.2.2.2.2.2.2.2.2.2.2.2.2.2.2.2.2.2.2.2.2.2.2.2.2.2.2.2.2.2.2.2.2.2.2.2.2.2.2.2.2.2.2.2.2.2.2.2.1 d.2.2.2.2.2.2.2.2.2.2.2.2.2.2.2.2.2.2.2.2.2.2.2.2.2.2.2.2.2.2.2.2.2.2.2.2.2.2.2.2.2.2.2.2.2.2.2.2.2.2.2.2.2.2.2.2.2.2.2.2.2.2.1 d.2.2.2.2.2.2.2.2.2.2.2.2.2.2.2.2.2.2.2.2.2.2.2.2.2.2.2.2.2.2.2.2.2.2.2.2.2.2.2.2.2.2.2.2.2.2.2.2.2.2.2.2.2.2.2.2.2.2.2.2.2.2.2.1 d.2.2.2.2.2.2.2.2.2.2.2.2.2.2.2.2.2.2.2.2.2.2.2.2.2.2.2.2.2.2.2.2.2.2.2.2.2.2.2.2.2.2.2.2.2.2.2.2.2.2.2.2.2.2.2.2.2.2.2.2.2.2.2.2.1 d.2.2.2.2.2.2.2.2.2.2.2.2.2.2.2.2.2.2.2.2.2.2.2.2.2.2.2.2.2.2.2.2.2.2.2.2.2.2.2.2.2.2.2.2.2.2.2.2.2.2.2.2.2.2.2.2.2.2.2.2.2.2.2.2.2.1 d.2.2.2.2.2.2.2.2.2.2.2.2.2.2.2.2.2.2.2.2.2.2.2.2.2.2.2.2.2.2.2.2.2.2.2.2.2.2.2.2.2.2.2.2.2.2.2.2.2.2.2.2.2.2.2.2.2.2.2.2.2.2.2.2.2.2.1 d.2.2.2.2.2.2.2.2.2.2.2.2.2.2.2.2.2.2.2.2.2.2.2.2.2.2.2.2.2.2.2.2.2.2.2.2.2.2.2.2.2.2.2.2.2.2.2.2.2.2.2.2.2.2.2.2.2.2.2.2.2.2.2.2.2.2.2.1 d.2.2.2.2.2.2.2.2.2.2.2.2.2.2.2.2.2.2.2.2.2.2.2.2.2.2.2.2.2.2.2.2.2.2.2.2.2.2.2.2.2.2.2.2.2.2.2.2.2.2.2.2.2.2.2.2.2.2.2.2.2.2.2.2.2.2.2.2.1 d.2.2.2.2.2.2.2.2.2.2.2.2.2.2.2.2.2.2.2.2.2.2.2.2.2.2.2.2.2.2.2.2.2.2.2.2.2.2.2.2.2.2.2.2.2.2.2.2.2.2.2.2.2.2.2.2.2.2.2.2.2.2.2.2.2.2.2.2.2.1 d.2.2.2.2.2.2.2.2.2.2.2.2.2.2.2.2.2.2.2.2.2.2.2.2.2.2.2.2.2.2.2.2.2.2.2.2.2.2.2.2.2.2.2.2.2.2.2.2.2.2.2.2.2.2.2.2.2.2.2.2.2.2.2.2.2.2.2.2.2.2.1 d.2.2.2.2.2.2.2.2.2.2.2.2.2.2.2.2.2.2.2.2.2.2.2.2.2.2.2.2.2.2.2.2.2.2.2.2.2.2.2.2.2.2.2.2.2.2.2.2.2.2.2.2.2.2.2.2.2.2.2.2.2.2.2.2.2.2.2.2.2.2.2.1 d.2.2.2.2.2.2.2.2.2.2.2.2.2.2.2.2.2.2.2.2.2.2.2.2.2.2.2.2.2.2.2.2.2.2.2.2.2.2.2.2.2.2.2.2.2.2.2.2.2.2.2.2.2.2.2.2.2.2.2.2.2.2.2.2.2.2.2.2.2.2.2.2.1 d.2.2.2.2.2.2.2.2.2.2.2.2.2.2.2.2.2.2.2.2.2.2.2.2.2.2.2.2.2.2.2.2.2.2.2.2.2.2.2.2.2.2.2.2.2.2.2.2.2.2.2.2.2.2.2.2.2.2.2.2.2.2.2.2.2.2.2.2.2.2.2.2.2.1 d.2.2.2.2.2.2.2.2.2.2.2.2.2.2.2.2.2.2.2.2.2.2.2.2.2.2.2.2.2.2.2.2.2.2.2.2.2.2.2.2.2.2.2.2.2.2.2.2.2.2.2.2.2.2.2.2.2.2.2.2.2.2.2.2.2.2.2.2.2.2.2.2.2.2.1 d.2.2.2.2.2.2.2.2.2.2.2.2.2.2.2.2.2.2.2.2.2.2.2.2.2.2.2.2.2.2.2.2.2.2.2.2.2.2.2.2.2.2.2.2.2.2.2.2.2.2.2.2.2.2.2.2.2.2.2.2.2.2.2.2.2.2.2.2.2.2.2.2.2.2.2.1 d.2.2.2.2.2.2.2.2.2.2.2.2.2.2.2.2.2.2.2.2.2.2.2.2.2.2.2.2.2.2.2.2.2.2.2.2.2.2.2.2.2.2.2.2.2.2.2.2.2.2.2.2.2.2.2.2.2.2.2.2.2.2.2.2.2.2.2.2.2.2.2.2.2.2.2.2.1 d.2.2.2.2.2.2.2.2.2.2.2.2.2.2.2.2.2.2.2.2.2.2.2.2.2.2.2.2.2.2.2.2.2.2.2.2.2.2.2.2.2.2.2.2.2.2.2.2.2.2.2.2.2.2.2.2.2.2.2.2.2.2.2.2.2.2.2.2.2.2.2.2.2.2.2.2.2.1 d.2.2.2.2.2.2.2.2.2.2.2.2.2.2.2.2.2.2.2.2.2.2.2.2.2.2.2.2.2.2.2.2.2.2.2.2.2.2.2.2.2.2.2.2.2.2.2.2.2.2.2.2.2.2.2.2.2.2.2.2.2.2.2.2.2.2.2.2.2.2.2.2.2.2.2.2.2.2.1 d.2.2.2.2.2.2.2.2.2.2.2.2.2.2.2.2.2.2.2.2.2.2.2.2.2.2.2.2.2.2.2.2.2.2.2.2.2.2.2.2.2.2.2.2.2.2.2.2.2.2.2.2.2.2.2.2.2.2.2.2.2.2.2.2.2.2.2.2.2.2.2.2.2.2.2.2.2.2.2.1 d.2.2.2.2.2.2.2.2.2.2.2.2.2.2.2.2.2.2.2.2.2.2.2.2.2.2.2.2.2.2.2.2.2.2.2.2.2.2.2.2.2.2.2.2.2.2.2.2.2.2.2.2.2.2.2.2.2.2.2.2.2.2.2.2.2.2.2.2.2.2.2.2.2.2.2.2.2.2.2.2.1 d.2.2.2.2.2.2.2.2.2.2.2.2.2.2.2.2.2.2.2.2.2.2.2.2.2.2.2.2.2.2.2.2.2.2.2.2.2.2.2.2.2.2.2.2.2.2.2.2.2.2.2.2.2.2.2.2.2.2.2.2.2.2.2.2.2.2.2.2.2.2.2.2.2.2.2.2.2.2.2.2.2.1 d.2.2.2.2.2.2.2.2.2.2.2.2.2.2.2.2.2.2.2.2.2.2.2.2.2.2.2.2.2.2.2.2.2.2.2.2.2.2.2.2.2.2.2.2.2.2.2.2.2.2.2.2.2.2.2.2.2.2.2.2.2.2.2.2.2.2.2.2.2.2.2.2.2.2.2.2.2.2.2.2.2.2
noncomputable def tup9z : PySem.World × PySem.Str × PySem.Addr × PySem.Value × PySem.Heap × Nat × (List PySem.Str) × (PySem.ExcName → Option PySem.Value) × (PySem.Str → Option PySem.Value) × (PySem.Str → Option PySem.Value) × PySem.Drawn × PySem.OsState × (PySem.Flow → PySem.Shared → Prop) × (PySem.Value → PySem.Shared → Prop) × (List Nat) × Nat × Nat × Nat × Nat × Nat × Nat × Nat × Nat × Int × (List PySem.Value) × (List PySem.Value) × (Array PySem.Value) × PySem.Obj × (Array PySem.GenState) × PySem.Heap × Nat × PySem.Tok × PySem.Tok × PySem.Tok × (PySem.Str → Option PySem.Value) × Mine.CS × (List Nat) × (List (List Nat)) × Nat × PySem.Tok × (List PySem.Value) × Nat × Nat × Nat × Nat × Nat × Nat × Nat × Nat × Nat × Nat × Nat × PySem.Tok × PySem.Tok × PySem.Tok × PySem.Tok × PySem.Tok × PySem.Tok × PySem.Tok × PySem.Tok × PySem.Tok × PySem.Tok × PySem.Tok × PySem.Tok × PySem.Value × PySem.Value × PySem.Obj × PySem.Obj × (Array PySem.Value) × PySem.Tok × PySem.Heap × Nat × PySem.Addr × PySem.Addr × PySem.Addr × Nat × Nat × (List PySem.Value) × (List PySem.Value) × Nat × PySem.Tok × (List PySem.Value) × Nat := hen (World9, (default : Str), (0 : Nat), (default : Value), (default : Heap), (0 : Nat), [], (fun _ => none), (fun _ => none), (fun _ => none), ({} : Drawn), ({} : OsState), (fun _ => (fun _ => True)), (fun _ => (fun _ => True)), [], (0 : Nat), (0 : Nat), (0 : Nat), (0 : Nat), (0 : Nat), (0 : Nat), (0 : Nat), (0 : Nat), (0 : Int), [], [], #[], (default : Obj), #[], (default : Heap), (0 : Nat), (0 : Nat), (0 : Nat), (0 : Nat), (fun _ => none), (⟨[], [], []⟩ : CS), [], [], (0 : Nat), (0 : Nat), [], (0 : Nat), (0 : Nat), (0 : Nat), (0 : Nat), (0 : Nat), (0 : Nat), (0 : Nat), (0 : Nat), (0 : Nat), (0 : Nat), (0 : Nat), (0 : Nat), (0 : Nat), (0 : Nat), (0 : Nat), (0 : Nat), (0 : Nat), (0 : Nat), (0 : Nat), (0 : Nat), (0 : Nat), (0 : Nat), (0 : Nat), (default : Value), (default : Value), (default : Obj), (default : Obj), #[], (0 : Nat), (default : Heap), (0 : Nat), (0 : Nat), (0 : Nat), (0 : Nat), (0 : Nat), (0 : Nat), [], [], (0 : Nat), (0 : Nat), [], (0 : Nat)) G9
noncomputable def w : PySem.World := tup9z.1
noncomputable def cn : PySem.Str := tup9z.2.1
noncomputable def fa : PySem.Addr := tup9z.2.2.1
noncomputable def cd : PySem.Value := tup9z.2.2.2.1
noncomputable def h₀ : PySem.Heap := tup9z.2.2.2.2.1
noncomputable def L : Nat := tup9z.2.2.2.2.2.1
noncomputable def loose : List PySem.Str := tup9z.2.2.2.2.2.2.1
noncomputable def mean : PySem.ExcName → Option PySem.Value := tup9z.2.2.2.2.2.2.2.1
noncomputable def mg : PySem.Str → Option PySem.Value := tup9z.2.2.2.2.2.2.2.2.1
noncomputable def mb : PySem.Str → Option PySem.Value := tup9z.2.2.2.2.2.2.2.2.2.1
noncomputable def dr : PySem.Drawn := tup9z.2.2.2.2.2.2.2.2.2.2.1
noncomputable def os : PySem.OsState := tup9z.2.2.2.2.2.2.2.2.2.2.2.1
noncomputable def Q : PySem.Flow → PySem.Shared → Prop := tup9z.2.2.2.2.2.2.2.2.2.2.2.2.1
noncomputable def E : PySem.Value → PySem.Shared → Prop := tup9z.2.2.2.2.2.2.2.2.2.2.2.2.2.1
noncomputable def szs : List Nat := tup9z.2.2.2.2.2.2.2.2.2.2.2.2.2.2.1
noncomputable def f1 : Nat := tup9z.2.2.2.2.2.2.2.2.2.2.2.2.2.2.2.1
noncomputable def f2 : Nat := tup9z.2.2.2.2.2.2.2.2.2.2.2.2.2.2.2.2.1
noncomputable def f3 : Nat := tup9z.2.2.2.2.2.2.2.2.2.2.2.2.2.2.2.2.2.1
noncomputable def ls : Nat := tup9z.2.2.2.2.2.2.2.2.2.2.2.2.2.2.2.2.2.2.1
noncomputable def lf : Nat := tup9z.2.2.2.2.2.2.2.2.2.2.2.2.2.2.2.2.2.2.2.1
noncomputable def ks : Nat := tup9z.2.2.2.2.2.2.2.2.2.2.2.2.2.2.2.2.2.2.2.2.1
noncomputable def kf : Nat := tup9z.2.2.2.2.2.2.2.2.2.2.2.2.2.2.2.2.2.2.2.2.2.1
noncomputable def qe : Nat := tup9z.2.2.2.2.2.2.2.2.2.2.2.2.2.2.2.2.2.2.2.2.2.2.1
noncomputable def ln : Int := tup9z.2.2.2.2.2.2.2.2.2.2.2.2.2.2.2.2.2.2.2.2.2.2.2.1
noncomputable def wz : List PySem.Value := tup9z.2.2.2.2.2.2.2.2.2.2.2.2.2.2.2.2.2.2.2.2.2.2.2.2.1
noncomputable def wf : List PySem.Value := tup9z.2.2.2.2.2.2.2.2.2.2.2.2.2.2.2.2.2.2.2.2.2.2.2.2.2.1
noncomputable def ps : Array PySem.Value := tup9z.2.2.2.2.2.2.2.2.2.2.2.2.2.2.2.2.2.2.2.2.2.2.2.2.2.2.1
noncomputable def oL : PySem.Obj := tup9z.2.2.2.2.2.2.2.2.2.2.2.2.2.2.2.2.2.2.2.2.2.2.2.2.2.2.2.1
noncomputable def g' : Array PySem.GenState := tup9z.2.2.2.2.2.2.2.2.2.2.2.2.2.2.2.2.2.2.2.2.2.2.2.2.2.2.2.2.1
noncomputable def h' : PySem.Heap := tup9z.2.2.2.2.2.2.2.2.2.2.2.2.2.2.2.2.2.2.2.2.2.2.2.2.2.2.2.2.2.1
noncomputable def tk' : Nat := tup9z.2.2.2.2.2.2.2.2.2.2.2.2.2.2.2.2.2.2.2.2.2.2.2.2.2.2.2.2.2.2.1
noncomputable def tW : PySem.Tok := tup9z.2.2.2.2.2.2.2.2.2.2.2.2.2.2.2.2.2.2.2.2.2.2.2.2.2.2.2.2.2.2.2.1
noncomputable def tN : PySem.Tok := tup9z.2.2.2.2.2.2.2.2.2.2.2.2.2.2.2.2.2.2.2.2.2.2.2.2.2.2.2.2.2.2.2.2.1
noncomputable def tL : PySem.Tok := tup9z.2.2.2.2.2.2.2.2.2.2.2.2.2.2.2.2.2.2.2.2.2.2.2.2.2.2.2.2.2.2.2.2.2.1
noncomputable def m' : PySem.Str → Option PySem.Value := tup9z.2.2.2.2.2.2.2.2.2.2.2.2.2.2.2.2.2.2.2.2.2.2.2.2.2.2.2.2.2.2.2.2.2.2.1
noncomputable def S : Mine.CS := tup9z.2.2.2.2.2.2.2.2.2.2.2.2.2.2.2.2.2.2.2.2.2.2.2.2.2.2.2.2.2.2.2.2.2.2.2.1
noncomputable def wd : List Nat := tup9z.2.2.2.2.2.2.2.2.2.2.2.2.2.2.2.2.2.2.2.2.2.2.2.2.2.2.2.2.2.2.2.2.2.2.2.2.1
noncomputable def p9 : List (List Nat) := tup9z.2.2.2.2.2.2.2.2.2.2.2.2.2.2.2.2.2.2.2.2.2.2.2.2.2.2.2.2.2.2.2.2.2.2.2.2.2.1
noncomputable def n : Nat := tup9z.2.2.2.2.2.2.2.2.2.2.2.2.2.2.2.2.2.2.2.2.2.2.2.2.2.2.2.2.2.2.2.2.2.2.2.2.2.2.1
noncomputable def tl : PySem.Tok := tup9z.2.2.2.2.2.2.2.2.2.2.2.2.2.2.2.2.2.2.2.2.2.2.2.2.2.2.2.2.2.2.2.2.2.2.2.2.2.2.2.1
noncomputable def sv : List PySem.Value := tup9z.2.2.2.2.2.2.2.2.2.2.2.2.2.2.2.2.2.2.2.2.2.2.2.2.2.2.2.2.2.2.2.2.2.2.2.2.2.2.2.2.1
noncomputable def se : Nat := tup9z.2.2.2.2.2.2.2.2.2.2.2.2.2.2.2.2.2.2.2.2.2.2.2.2.2.2.2.2.2.2.2.2.2.2.2.2.2.2.2.2.2.1
noncomputable def x : Nat := tup9z.2.2.2.2.2.2.2.2.2.2.2.2.2.2.2.2.2.2.2.2.2.2.2.2.2.2.2.2.2.2.2.2.2.2.2.2.2.2.2.2.2.2.1
noncomputable def d : Nat := tup9z.2.2.2.2.2.2.2.2.2.2.2.2.2.2.2.2.2.2.2.2.2.2.2.2.2.2.2.2.2.2.2.2.2.2.2.2.2.2.2.2.2.2.2.1
noncomputable def pb : Nat := tup9z.2.2.2.2.2.2.2.2.2.2.2.2.2.2.2.2.2.2.2.2.2.2.2.2.2.2.2.2.2.2.2.2.2.2.2.2.2.2.2.2.2.2.2.2.1
noncomputable def fn : Nat := tup9z.2.2.2.2.2.2.2.2.2.2.2.2.2.2.2.2.2.2.2.2.2.2.2.2.2.2.2.2.2.2.2.2.2.2.2.2.2.2.2.2.2.2.2.2.2.1
noncomputable def cc : Nat := tup9z.2.2.2.2.2.2.2.2.2.2.2.2.2.2.2.2.2.2.2.2.2.2.2.2.2.2.2.2.2.2.2.2.2.2.2.2.2.2.2.2.2.2.2.2.2.2.1
noncomputable def x1 : Nat := tup9z.2.2.2.2.2.2.2.2.2.2.2.2.2.2.2.2.2.2.2.2.2.2.2.2.2.2.2.2.2.2.2.2.2.2.2.2.2.2.2.2.2.2.2.2.2.2.2.1
noncomputable def d1 : Nat := tup9z.2.2.2.2.2.2.2.2.2.2.2.2.2.2.2.2.2.2.2.2.2.2.2.2.2.2.2.2.2.2.2.2.2.2.2.2.2.2.2.2.2.2.2.2.2.2.2.2.1
noncomputable def sg : Nat := tup9z.2.2.2.2.2.2.2.2.2.2.2.2.2.2.2.2.2.2.2.2.2.2.2.2.2.2.2.2.2.2.2.2.2.2.2.2.2.2.2.2.2.2.2.2.2.2.2.2.2.1
noncomputable def ce : Nat := tup9z.2.2.2.2.2.2.2.2.2.2.2.2.2.2.2.2.2.2.2.2.2.2.2.2.2.2.2.2.2.2.2.2.2.2.2.2.2.2.2.2.2.2.2.2.2.2.2.2.2.2.1
noncomputable def pb1 : Nat := tup9z.2.2.2.2.2.2.2.2.2.2.2.2.2.2.2.2.2.2.2.2.2.2.2.2.2.2.2.2.2.2.2.2.2.2.2.2.2.2.2.2.2.2.2.2.2.2.2.2.2.2.2.1
noncomputable def q1 : PySem.Tok := tup9z.2.2.2.2.2.2.2.2.2.2.2.2.2.2.2.2.2.2.2.2.2.2.2.2.2.2.2.2.2.2.2.2.2.2.2.2.2.2.2.2.2.2.2.2.2.2.2.2.2.2.2.2.1
noncomputable def q2 : PySem.Tok := tup9z.2.2.2.2.2.2.2.2.2.2.2.2.2.2.2.2.2.2.2.2.2.2.2.2.2.2.2.2.2.2.2.2.2.2.2.2.2.2.2.2.2.2.2.2.2.2.2.2.2.2.2.2.2.1
noncomputable def q3 : PySem.Tok := tup9z.2.2.2.2.2.2.2.2.2.2.2.2.2.2.2.2.2.2.2.2.2.2.2.2.2.2.2.2.2.2.2.2.2.2.2.2.2.2.2.2.2.2.2.2.2.2.2.2.2.2.2.2.2.2.1
noncomputable def q4 : PySem.Tok := tup9z.2.2.2.2.2.2.2.2.2.2.2.2.2.2.2.2.2.2.2.2.2.2.2.2.2.2.2.2.2.2.2.2.2.2.2.2.2.2.2.2.2.2.2.2.2.2.2.2.2.2.2.2.2.2.2.1
noncomputable def tw : PySem.Tok := tup9z.2.2.2.2.2.2.2.2.2.2.2.2.2.2.2.2.2.2.2.2.2.2.2.2.2.2.2.2.2.2.2.2.2.2.2.2.2.2.2.2.2.2.2.2.2.2.2.2.2.2.2.2.2.2.2.2.1
noncomputable def u1 : PySem.Tok := tup9z.2.2.2.2.2.2.2.2.2.2.2.2.2.2.2.2.2.2.2.2.2.2.2.2.2.2.2.2.2.2.2.2.2.2.2.2.2.2.2.2.2.2.2.2.2.2.2.2.2.2.2.2.2.2.2.2.2.1
noncomputable def u2 : PySem.Tok := tup9z.2.2.2.2.2.2.2.2.2.2.2.2.2.2.2.2.2.2.2.2.2.2.2.2.2.2.2.2.2.2.2.2.2.2.2.2.2.2.2.2.2.2.2.2.2.2.2.2.2.2.2.2.2.2.2.2.2.2.1
noncomputable def u3 : PySem.Tok := tup9z.2.2.2.2.2.2.2.2.2.2.2.2.2.2.2.2.2.2.2.2.2.2.2.2.2.2.2.2.2.2.2.2.2.2.2.2.2.2.2.2.2.2.2.2.2.2.2.2.2.2.2.2.2.2.2.2.2.2.2.1
noncomputable def u4 : PySem.Tok := tup9z.2.2.2.2.2.2.2.2.2.2.2.2.2.2.2.2.2.2.2.2.2.2.2.2.2.2.2.2.2.2.2.2.2.2.2.2.2.2.2.2.2.2.2.2.2.2.2.2.2.2.2.2.2.2.2.2.2.2.2.2.1
noncomputable def u5 : PySem.Tok := tup9z.2.2.2.2.2.2.2.2.2.2.2.2.2.2.2.2.2.2.2.2.2.2.2.2.2.2.2.2.2.2.2.2.2.2.2.2.2.2.2.2.2.2.2.2.2.2.2.2.2.2.2.2.2.2.2.2.2.2.2.2.2.1
noncomputable def v1 : PySem.Tok := tup9z.2.2.2.2.2.2.2.2.2.2.2.2.2.2.2.2.2.2.2.2.2.2.2.2.2.2.2.2.2.2.2.2.2.2.2.2.2.2.2.2.2.2.2.2.2.2.2.2.2.2.2.2.2.2.2.2.2.2.2.2.2.2.1
noncomputable def vw : PySem.Tok := tup9z.2.2.2.2.2.2.2.2.2.2.2.2.2.2.2.2.2.2.2.2.2.2.2.2.2.2.2.2.2.2.2.2.2.2.2.2.2.2.2.2.2.2.2.2.2.2.2.2.2.2.2.2.2.2.2.2.2.2.2.2.2.2.2.1
noncomputable def ct : PySem.Value := tup9z.2.2.2.2.2.2.2.2.2.2.2.2.2.2.2.2.2.2.2.2.2.2.2.2.2.2.2.2.2.2.2.2.2.2.2.2.2.2.2.2.2.2.2.2.2.2.2.2.2.2.2.2.2.2.2.2.2.2.2.2.2.2.2.2.1
noncomputable def pm : PySem.Value := tup9z.2.2.2.2.2.2.2.2.2.2.2.2.2.2.2.2.2.2.2.2.2.2.2.2.2.2.2.2.2.2.2.2.2.2.2.2.2.2.2.2.2.2.2.2.2.2.2.2.2.2.2.2.2.2.2.2.2.2.2.2.2.2.2.2.2.1
noncomputable def oc : PySem.Obj := tup9z.2.2.2.2.2.2.2.2.2.2.2.2.2.2.2.2.2.2.2.2.2.2.2.2.2.2.2.2.2.2.2.2.2.2.2.2.2.2.2.2.2.2.2.2.2.2.2.2.2.2.2.2.2.2.2.2.2.2.2.2.2.2.2.2.2.2.1
noncomputable def oC : PySem.Obj := tup9z.2.2.2.2.2.2.2.2.2.2.2.2.2.2.2.2.2.2.2.2.2.2.2.2.2.2.2.2.2.2.2.2.2.2.2.2.2.2.2.2.2.2.2.2.2.2.2.2.2.2.2.2.2.2.2.2.2.2.2.2.2.2.2.2.2.2.2.1
noncomputable def vs : Array PySem.Value := tup9z.2.2.2.2.2.2.2.2.2.2.2.2.2.2.2.2.2.2.2.2.2.2.2.2.2.2.2.2.2.2.2.2.2.2.2.2.2.2.2.2.2.2.2.2.2.2.2.2.2.2.2.2.2.2.2.2.2.2.2.2.2.2.2.2.2.2.2.2.1
noncomputable def tq : PySem.Tok := tup9z.2.2.2.2.2.2.2.2.2.2.2.2.2.2.2.2.2.2.2.2.2.2.2.2.2.2.2.2.2.2.2.2.2.2.2.2.2.2.2.2.2.2.2.2.2.2.2.2.2.2.2.2.2.2.2.2.2.2.2.2.2.2.2.2.2.2.2.2.2.1
noncomputable def h9 : PySem.Heap := tup9z.2.2.2.2.2.2.2.2.2.2.2.2.2.2.2.2.2.2.2.2.2.2.2.2.2.2.2.2.2.2.2.2.2.2.2.2.2.2.2.2.2.2.2.2.2.2.2.2.2.2.2.2.2.2.2.2.2.2.2.2.2.2.2.2.2.2.2.2.2.2.1
noncomputable def tk9 : Nat := tup9z.2.2.2.2.2.2.2.2.2.2.2.2.2.2.2.2.2.2.2.2.2.2.2.2.2.2.2.2.2.2.2.2.2.2.2.2.2.2.2.2.2.2.2.2.2.2.2.2.2.2.2.2.2.2.2.2.2.2.2.2.2.2.2.2.2.2.2.2.2.2.2.1
noncomputable def D : PySem.Addr := tup9z.2.2.2.2.2.2.2.2.2.2.2.2.2.2.2.2.2.2.2.2.2.2.2.2.2.2.2.2.2.2.2.2.2.2.2.2.2.2.2.2.2.2.2.2.2.2.2.2.2.2.2.2.2.2.2.2.2.2.2.2.2.2.2.2.2.2.2.2.2.2.2.2.1
noncomputable def Bk : PySem.Addr := tup9z.2.2.2.2.2.2.2.2.2.2.2.2.2.2.2.2.2.2.2.2.2.2.2.2.2.2.2.2.2.2.2.2.2.2.2.2.2.2.2.2.2.2.2.2.2.2.2.2.2.2.2.2.2.2.2.2.2.2.2.2.2.2.2.2.2.2.2.2.2.2.2.2.2.1
noncomputable def Cm : PySem.Addr := tup9z.2.2.2.2.2.2.2.2.2.2.2.2.2.2.2.2.2.2.2.2.2.2.2.2.2.2.2.2.2.2.2.2.2.2.2.2.2.2.2.2.2.2.2.2.2.2.2.2.2.2.2.2.2.2.2.2.2.2.2.2.2.2.2.2.2.2.2.2.2.2.2.2.2.2.1
noncomputable def kb : Nat := tup9z.2.2.2.2.2.2.2.2.2.2.2.2.2.2.2.2.2.2.2.2.2.2.2.2.2.2.2.2.2.2.2.2.2.2.2.2.2.2.2.2.2.2.2.2.2.2.2.2.2.2.2.2.2.2.2.2.2.2.2.2.2.2.2.2.2.2.2.2.2.2.2.2.2.2.2.1
noncomputable def kc : Nat := tup9z.2.2.2.2.2.2.2.2.2.2.2.2.2.2.2.2.2.2.2.2.2.2.2.2.2.2.2.2.2.2.2.2.2.2.2.2.2.2.2.2.2.2.2.2.2.2.2.2.2.2.2.2.2.2.2.2.2.2.2.2.2.2.2.2.2.2.2.2.2.2.2.2.2.2.2.2.1
noncomputable def wb : List PySem.Value := tup9z.2.2.2.2.2.2.2.2.2.2.2.2.2.2.2.2.2.2.2.2.2.2.2.2.2.2.2.2.2.2.2.2.2.2.2.2.2.2.2.2.2.2.2.2.2.2.2.2.2.2.2.2.2.2.2.2.2.2.2.2.2.2.2.2.2.2.2.2.2.2.2.2.2.2.2.2.2.1
noncomputable def wc : List PySem.Value := tup9z.2.2.2.2.2.2.2.2.2.2.2.2.2.2.2.2.2.2.2.2.2.2.2.2.2.2.2.2.2.2.2.2.2.2.2.2.2.2.2.2.2.2.2.2.2.2.2.2.2.2.2.2.2.2.2.2.2.2.2.2.2.2.2.2.2.2.2.2.2.2.2.2.2.2.2.2.2.2.1
noncomputable def qe9 : Nat := tup9z.2.2.2.2.2.2.2.2.2.2.2.2.2.2.2.2.2.2.2.2.2.2.2.2.2.2.2.2.2.2.2.2.2.2.2.2.2.2.2.2.2.2.2.2.2.2.2.2.2.2.2.2.2.2.2.2.2.2.2.2.2.2.2.2.2.2.2.2.2.2.2.2.2.2.2.2.2.2.2.1
noncomputable def tl2 : PySem.Tok := tup9z.2.2.2.2.2.2.2.2.2.2.2.2.2.2.2.2.2.2.2.2.2.2.2.2.2.2.2.2.2.2.2.2.2.2.2.2.2.2.2.2.2.2.2.2.2.2.2.2.2.2.2.2.2.2.2.2.2.2.2.2.2.2.2.2.2.2.2.2.2.2.2.2.2.2.2.2.2.2.2.2.1
noncomputable def sv2 : List PySem.Value := tup9z.2.2.2.2.2.2.2.2.2.2.2.2.2.2.2.2.2.2.2.2.2.2.2.2.2.2.2.2.2.2.2.2.2.2.2.2.2.2.2.2.2.2.2.2.2.2.2.2.2.2.2.2.2.2.2.2.2.2.2.2.2.2.2.2.2.2.2.2.2.2.2.2.2.2.2.2.2.2.2.2.2.1
noncomputable def se2 : Nat := tup9z.2.2.2.2.2.2.2.2.2.2.2.2.2.2.2.2.2.2.2.2.2.2.2.2.2.2.2.2.2.2.2.2.2.2.2.2.2.2.2.2.2.2.2.2.2.2.2.2.2.2.2.2.2.2.2.2.2.2.2.2.2.2.2.2.2.2.2.2.2.2.2.2.2.2.2.2.2.2.2.2.2.2
set_option maxRecDepth 100000 in
set_option maxHeartbeats 8000000 in
theorem main9 : seg9.1 w cn fa cd h₀ L loose mean mg mb dr os Q E szs f1 f2 f3 ls lf ks kf qe ln wz wf ps oL g' h' tk' tW tN tL m' S wd p9 n tl sv se x d pb fn cc x1 d1 sg ce pb1 q1 q2 q3 q4 tw u1 u2 u3 u4 u5 v1 vw ct pm oc oC vs tq h9 tk9 D Bk Cm kb kc wb wc qe9 tl2 sv2 se2 := by
  delta seg9 segOf
  dsimp -zeta only
  intro B X T hT hret hb hiz hif l1 hpe sb9 sp9 hmany hwz hlt60 hz1 hz3 hz4 hwd pc9 pb9 hm9 l2 off o1 o2 o3 o4 o5 o6 o7 o8 F9 hc hord N9 y1 y3 hstr hcz hrz hbr hbz
  k_with_none
  k_with "call ref cons nil" => refine stop_in ?_
  k_steps
  refine stop_out ?_
  rw [last_getD hpe, lowW]
  refine' CtrR.use (lowest2 w n (1 + szs.sum) tN tL hm9 (by omega) 20 wd hwd (by omega)) ?kl ?k1 ?k2 ?k3 ?k4 ?k5 ?kK ?kd ?ku ?_
  ((case k1 => k_asm); (case k2 => k_asm); (case k3 => k_asm); (case k4 => k_asm); (case k5 => k_asm); (case kl => (repeat' first | exact List.forall_mem_nil _ | refine mem_cons_all ?_ ?_ | exact sub_refl | refine sub_tail ?_ | k_mem)); (case kK => first | exact rfl | assumption); (case kd => ktr_room); (case ku => ktr_units))
  intro v8 tl8 h8 tk8 hp8 hlt8 F8 N8
  obtain ⟨rfl, t8, rfl⟩ := hp8
  simp only [List.nil_append] at N8
  clear hlt8
  k_with_none
  k_with "call ref cons nil" => refine stop_in ?_
  k_with "ite" => refine stop_in ?_
  k_steps
  refine stop_out ?_
  rw [bne_self_eq_false, if_neg Bool.false_ne_true]
  k_with_none
  k_with "call ref cons nil" => refine stop_in ?_
  k_with "exec Assign cons ListComp" => refine stop_in ?_
  k_with "call builtin:sorted cons nil" => refine stop_in ?_
  k_steps
  refine stop_out ?_
  refine' CtrN.use (writings2 w (1 + szs.sum) n tN tL (by omega) hm9) ?kl ?k1 ?k2 ?k3 ?k4 ?k5 ?kK ?kd ?ku ?_
  case kd => have : (1 + claimMargin + 1) + 17 < recursionLimit := by decide
             omega
  case ku => have : (4 + 3) + 250 < cLine := by decide
             omega
  case k1 => k_asm
  case k2 => k_asm
  case k3 => k_asm
  case k4 => k_asm
  case k5 => k_asm
  case kl => (repeat' first | exact List.forall_mem_nil _ | refine mem_cons_all ?_ ?_ | exact sub_refl | refine sub_tail ?_ | k_mem)
  case kK => first | exact rfl | assumption
  intro v7 tl7 h7 tk7 hp7 hlt7 F7 N7
  obtain ⟨Wr, wr, kr, rfl, rfl, hwr⟩ := hp7
  simp only [List.cons_append, List.nil_append] at N7
  k_steps
  refine stop_out ?_
  have hwz7 : wr.length < 64 := by have := strs_len hwr; rw [List.length_map] at this; omega
  refine sortS (by k_asm) N7 (N7.isList (.head _)) hwr hwz7 fun Ri h6 vs6 ss6 e6 F6 N6 hlt6 hS6 hp6 hs6 => ?_
  obtain rfl := sorted_one (hp6.trans (pb9.map mkS).symm) hs6 sb9
  have r1 : @LT.lt Nat _ Cm Ri := hlt6 _ (List.mem_of_getElem? (i := 3) rfl)
  have r2 : @LT.lt Nat _ Bk Ri := hlt6 _ (List.mem_of_getElem? (i := 2) rfl)
  replace N6 := news_of (l' := [(Ri, listOf vs6.toArray e6), (Bk, listOf wb.toArray kb), (Cm, listOf wc.toArray kc), (ls, listOf wz.toArray ks), (lf, listOf wf.toArray kf), (108, tabObj ps)]) N6 (by (repeat' first | exact List.forall_mem_nil _ | refine mem_cons_all ?_ ?_ | exact sub_refl | refine sub_tail ?_ | k_mem))
  clear hlt6 hlt7 N7 F7 hp6 hs6 hwr
  have hT9 : 108 < lf := by omega
  k_with_none
  k_with "exec Assign cons ListComp" => refine stop_in ?_
  k_steps
  refine stop_out ?_
  refine LCg.Assign_ListComp_U (env := envX _ _ _ _ _ _) (F₀ := by k_asm) (by rfl) (by with_unfolding_all rfl) (by rfl) (by decide) (by rfl) (by decide) (by rfl) (by rfl) (by rfl) ?_
  k_with_none
  k_with "CompSrc" => refine stop_in ?_
  k_steps
  refine stop_out ?_
  k_with_none
  refine LCg.CompSrc.ledger (ax := Cm) (its := wc.toArray) (k := kc) (news := [(Ri, listOf vs6.toArray e6), (Bk, listOf wb.toArray kb), (Cm, listOf wc.toArray kc), (ls, listOf wz.toArray ks), (lf, listOf wf.toArray kf), (108, tabObj ps)]) (by rfl) (by k_asm) (by k_asm) (.tail _ (.tail _ (.head _))) ?zY (fun g => compRest_ind (fun i zs news => news = [(Ri, listOf vs6.toArray e6), (Bk, listOf wb.toArray kb), (Cm, listOf wc.toArray kc), (ls, listOf wz.toArray ks), (lf, listOf wf.toArray kf), (108, tabObj ps)] ∧ IntsAre zs (((S.come.take i).map sumW).map fun (x : Nat) => (x : Int))) ?zU ?zG _ 0 [] _ (Nat.zero_add _).symm ⟨rfl, .nil⟩)
  case zY => rw [List.size_toArray, sizeLine_eq]; omega
  case zU =>
    intro i zs news v I oI C' oC' D' m₂ h tk E' hi hj hP hC hx' F' N' off ne
    obtain ⟨rfl, hz8⟩ := hj
    have hi' : wc[i]? = some v := by simpa using hP
    obtain ⟨y, ty, rfl, hy⟩ := strs_at hc hi'
    obtain ⟨l9, hl9, rfl⟩ : ∃ l9, S.come[i]? = some l9 ∧ mkS l9 = y := by
      rw [List.getElem?_map] at hy
      cases hq : S.come[i]? with
      | none => rw [hq] at hy; cases hy
      | some l9 => rw [hq] at hy; exact ⟨l9, rfl, Option.some.inj hy⟩
    have hll : ∀ c ∈ l9, 65 ≤ c ∧ c ≤ 81 := writF_chars _ _ _ (pc9.subset (List.mem_of_getElem? hl9))
    have hlz := writF_each _ _ _ (pc9.subset (List.mem_of_getElem? hl9))
    k_with_none
    k_with "eval ListComp" => refine stop_in ?_
    k_steps
    refine stop_out ?_
    refine ListComp_S (F₀ := by k_asm) (by with_unfolding_all rfl) (by decide) (by rfl) (by decide) (by rfl) ?_
    k_with_none
    k_steps
    refine SrcTB.text rfl (by k_asm) (by k_asm) ?_ (fun g => compRest_ind (fun j us news => news = ((I, oI) :: (C', oC') :: (D', lst zs) :: [(Ri, listOf vs6.toArray e6), (Bk, listOf wb.toArray kb), (Cm, listOf wc.toArray kc), (ls, listOf wz.toArray ks), (lf, listOf wf.toArray kf), (108, tabObj ps)]) ∧ IntsAre us ((l9.take j).map fun (c : Nat) => ((c - 65 : Nat) : Int))) ?zV ?zW _ 0 [] _ (Nat.zero_add _).symm ⟨rfl, .nil⟩)
    · rw [sizeLine_eq]; show l9.toArray.size ≤ _; rw [List.size_toArray]; omega
    case zV =>
      intro j us news v I2 oI2 C2 oC2 D2 m3 h tk E' hi hj hP hC2 hx2 F2 N2 off2 ne2
      obtain ⟨rfl, hu⟩ := hj
      obtain ⟨c, t, hcj, rfl⟩ := hP
      have hcj' : l9[j]? = some c := by simpa using hcj
      have hcc := hll c (List.mem_of_getElem? hcj')
      k_steps
      rw [show (c : Int) - 65 = ((c - 65 : Nat) : Int) by omega]
      refine CompEnd.intro (by k_asm) (by k_asm) _ (fun p hp => hp) off2 trivial ⟨rfl, ?_⟩
      rw [List.take_add_one, hcj', List.map_append]
      exact hu.append (.cons _ _ .nil)
    case zW =>
      intro us news hj
      obtain ⟨rfl, hu⟩ := hj
      intro D2 h tk F2 N2 offE
      k_steps
      rw [List.size_toArray, List.take_length, sum_sumW]
      refine CompEnd.intro (by k_asm) (by k_asm) [(Ri, listOf vs6.toArray e6), (Bk, listOf wb.toArray kb), (Cm, listOf wc.toArray kc), (ls, listOf wz.toArray ks), (lf, listOf wf.toArray kf), (108, tabObj ps)] (by (repeat' first | exact List.forall_mem_nil _ | refine mem_cons_all ?_ ?_ | exact sub_refl | refine sub_tail ?_ | k_mem)) off (.inr ⟨_, .tail _ (.tail _ (.head _)), rfl, _, rfl⟩) ⟨rfl, ?_⟩
      rw [List.take_add_one, hl9, List.map_append, List.map_append]
      exact hz8.append (.cons _ _ .nil)
  case zG =>
    intro zs news hj
    obtain ⟨rfl, hz8⟩ := hj
    rw [List.size_toArray, show wc.length = S.come.length from by rw [strs_len hc, List.length_map], List.take_length] at hz8
    intro D2 h tk F2 N2 offE
    have o := off1_all offE
    try dsimp only at F2
    k_with_none
    k_with "call ref cons nil" => refine stop_in ?_
    k_with "call builtin:list.reverse cons nil" => refine stop_in ?_
    k_with "call builtin:sorted cons nil" => refine stop_in ?_
    k_with "compareOp NotEq ref ref" => refine stop_in ?_
    k_steps
    refine stop_out ?_
    have b1 : @Ne Nat D2 Bk := fun e => o _ (.tail _ (.head _)) e.symm
    have b2 : @LT.lt Nat _ ls Bk := Nat.lt_trans y3 hord
    have b3 : @LT.lt Nat _ lf Bk := by omega
    have b4 : @LT.lt Nat _ 108 Bk := Nat.lt_trans hT9 b3
    refine' kl_reverse (its := wb.toArray) (l := wb.reverse) (n := kb) (by k_asm) (by k_asm) (by simp) ?U ?z ?_
    case U => exact Upd.tail b1 (Upd.tail (Nat.ne_of_gt r2) (Upd.head (List.forall_mem_cons.mpr ⟨Nat.ne_of_lt hord, List.forall_mem_cons.mpr ⟨Nat.ne_of_lt b2, List.forall_mem_cons.mpr ⟨Nat.ne_of_lt b3, List.forall_mem_cons.mpr ⟨Nat.ne_of_lt b4, List.forall_mem_nil _⟩⟩⟩⟩)))
    case z => rw [sizeLine_eq, List.toList_toArray]; omega
    intro h9 F9 N9
    k_steps
    refine stop_out ?_
    refine sortS F9 N9 (N9.isList (.tail _ (.tail _ (.tail _ (.head _))))) hc (by omega) fun So h8 vs8 ss8 e8 F8 N8 hlt8 hS8 hp8 hs8 => ?_
    obtain rfl := sorted_one (hp8.trans ((pc9.trans pb9.symm).map mkS)) hs8 sb9
    clear hlt8 hs8 hp8
    k_steps
    refine stop_out ?_
    refine ne_strs (N8.isList (.head _)) hS8 (N8.isList (.tail _ (.tail _ (.head _)))) hS6 hstr (by units_room) ?_
    k_steps
    refine stop_out ?_
    refine ne_strs (N8.isList (.tail _ (.tail _ (.tail _ (.head _))))) hbr (N8.isList (.tail _ (.tail _ (.head _)))) hS6 hstr (by units_room) ?_
    k_steps
    refine stop_out ?_
    have hzz : zs.length < 60 := by have := hz8.length; rw [List.length_map, List.length_map] at this; omega
    refine sortI F8 N8 (N8.isList (.tail _ (.head _))) hz8 (by omega) sp9 fun Su h7 vs7 e7 F7 N7 hlt7 hI7 => ?_
    k_steps
    refine stop_out ?_
    refine ne_intsK (N7.isList (.tail _ (.tail _ (.head _)))) hz8 (N7.isList (.head _)) hI7 (by units_room) ?_
    rw [decide_eq_true rfl]
    k_with "call builtin:len cons nil" => refine len_list (by is_list) (by rw [List.size_toArray]; omega) ?_
    k_steps
    refine stop_out ?_
    refine' CtrR.use (many2 w ls lf ks kf wz wf szs f1 f2 f3 hiz hif hz1 hz3) ?kl ?k1 ?k2 ?k3 ?k4 ?k5 ?kK ?kd ?ku ?_
    ((case k1 => k_asm); (case k2 => k_asm); (case k3 => k_asm); (case k4 => k_asm); (case k5 => k_asm); (case kl => (repeat' first | exact List.forall_mem_nil _ | refine mem_cons_all ?_ ?_ | exact sub_refl | refine sub_tail ?_ | k_mem)); (case kK => first | exact rfl | assumption); (case kd => ktr_room); (case ku => ktr_units))
    intro v5 tl5 h5 tk5 hp5 hlt5 F5 N5
    obtain ⟨rfl, t5, rfl⟩ := hp5
    simp only [List.nil_append] at N5
    k_with_none
    k_steps
    rw [show ((wc.toArray.size : Int) == ((manyF szs [f1, f2, f3] : Nat) : Int)) = true from by
      rw [List.size_toArray, strs_len hc, List.length_map, hmany]; exact beq_self_eq_true _]
    exact hret (ps := ps) hb (by k_asm) N5 (.tail _ (.tail _ (.tail _ (.tail _ (.tail _ (.tail _ (.tail _ (.tail _ (.head _)))))))))

set_option maxRecDepth 100000 in
set_option maxHeartbeats 8000000 in
theorem all9 : ∀ a0 a1 a2 a3 a4 a5 a6 a7 a8 a9 a10 a11 a12 a13 a14 a15 a16 a17 a18 a19 a20 a21 a22 a23 a24 a25 a26 a27 a28 a29 a30 a31 a32 a33 a34 a35 a36 a37 a38 a39 a40 a41 a42 a43 a44 a45 a46 a47 a48 a49 a50 a51 a52 a53 a54 a55 a56 a57 a58 a59 a60 a61 a62 a63 a64 a65 a66 a67 a68 a69 a70 a71 a72 a73 a74 a75 a76 a77 a78 a79 a80 a81 a82, seg9.1 a0 a1 a2 a3 a4 a5 a6 a7 a8 a9 a10 a11 a12 a13 a14 a15 a16 a17 a18 a19 a20 a21 a22 a23 a24 a25 a26 a27 a28 a29 a30 a31 a32 a33 a34 a35 a36 a37 a38 a39 a40 a41 a42 a43 a44 a45 a46 a47 a48 a49 a50 a51 a52 a53 a54 a55 a56 a57 a58 a59 a60 a61 a62 a63 a64 a65 a66 a67 a68 a69 a70 a71 a72 a73 a74 a75 a76 a77 a78 a79 a80 a81 a82 := fun a0 a1 a2 a3 a4 a5 a6 a7 a8 a9 a10 a11 a12 a13 a14 a15 a16 a17 a18 a19 a20 a21 a22 a23 a24 a25 a26 a27 a28 a29 a30 a31 a32 a33 a34 a35 a36 a37 a38 a39 a40 a41 a42 a43 a44 a45 a46 a47 a48 a49 a50 a51 a52 a53 a54 a55 a56 a57 a58 a59 a60 a61 a62 a63 a64 a65 a66 a67 a68 a69 a70 a71 a72 a73 a74 a75 a76 a77 a78 a79 a80 a81 a82 => hen_all (G := G9) main9 (a0, a1, a2, a3, a4, a5, a6, a7, a8, a9, a10, a11, a12, a13, a14, a15, a16, a17, a18, a19, a20, a21, a22, a23, a24, a25, a26, a27, a28, a29, a30, a31, a32, a33, a34, a35, a36, a37, a38, a39, a40, a41, a42, a43, a44, a45, a46, a47, a48, a49, a50, a51, a52, a53, a54, a55, a56, a57, a58, a59, a60, a61, a62, a63, a64, a65, a66, a67, a68, a69, a70, a71, a72, a73, a74, a75, a76, a77, a78, a79, a80, a81, a82)
end law_end2
theorem law2_end (w : World) (cn : Str) (fa : Addr) (cd : Value) (h₀ : Heap) (L : Nat) (loose : List Str) (mean : ExcName → Option Value) (mg mb : Str → Option Value) (dr : Drawn) (os : OsState) (Q : Flow → Shared → Prop) (E : Value → Shared → Prop)
    (C : CodeHd h₀ 112 108) (B : Below callerA h₀ [] h₀) (X : (Mine.hd.heap_39 w.params).In h₀) (T : Top PySem.W.topProg loose mean mg mb h₀) (hT : 108 < L)
    (hret : ∀ {h' : Heap} {g' : Array GenState} {tk' : Nat} {m' : Str → Option Value} {ps : Array Value} {led : List (Addr × Obj)}, AllBare g' → Fr h₀ L h' m' → News h₀ L h' led → (108, tabObj ps) ∈ led → Q (.ret (.bool true)) ⟨h', g', dr, tk', os⟩) : Tail2d w cn L fa cd h₀ dr os Q E := law_end2.seg9.2 ⟨law_end2.all9⟩ w cn fa cd h₀ L loose mean mg mb dr os Q E C B X T hT hret

end Mine
namespace Mine
theorem reset_lawP : True := by
  w_top off
  trivial
theorem law_post {M : Model} {A : Around} {cd : Code} {s s₁ : Shared} {cw : ClaimW} {cl : Str → Option Addr} {mean : ExcName → Option Value} {args : List WData} {tabs : List (Addr × Addr)} (hT : TabsAt tabs s₁.heap) (hr : ∀ x, cw.raises args x = false) (hp : cw.post args (.bool true) args = true)
    (h : codeAny M A cd (fun r s' => r = .ok (.ret (.bool true)) ∧ (∀ b o, (ghostOf s₁.heap tabs).get? b = some o → s'.heap.get? b = some o) ∧ GrownAll tabs s'.heap ∧ s'.os = s₁.os ∧ AllBare s'.gens) s) : codeAny M A cd (GoodWG cw cl mean args s₁) s :=
  codeAny_mono h fun r s' ⟨hr1, hk, hgr, hos, hg⟩ => by
    subst hr1
    refine ⟨.inl ⟨_, _, [], rfl, hr, ReadsW.bool true, hp, fun _ => ⟨List.nodup_nil, fun _ hm => nomatch hm⟩⟩, ⟨fun b o e => ?_, fun b o e => ?_⟩, hos, hg⟩
    · by_cases hb : b ∈ tabs.map (·.2)
      · obtain ⟨q, hq, rfl⟩ := List.mem_map.mp hb
        obtain ⟨c1, c2⟩ := hT q hq
        rw [e] at c2
        obtain rfl := Option.some.inj c2
        obtain ⟨ps, hP⟩ := hgr.get q hq
        exact .inr (.inl ⟨(c1.tab e).isCodeTable, rfl, #[], ps, rfl, by rw [Array.empty_append]; exact hP⟩)
      · exact .inl (hk b o (ghost_ne e hb))
    · by_cases hb : b ∈ tabs.map (·.2)
      · obtain ⟨q, hq, rfl⟩ := List.mem_map.mp hb
        obtain ⟨ps, hP⟩ := hgr.get q hq
        exact ⟨_, hP⟩
      · exact ⟨o, hk b o (ghost_ne e hb)⟩

end Mine
namespace Mine
theorem reset_law2 : True := by
  w_top off
  trivial
set_option maxRecDepth 100000 in
set_option maxHeartbeats 8000000 in
theorem law2 : PySem.Challenge.rw_wn0028_02.Holds := by
  refine hd ?_
  intro w s₀ s₁ mg mb G Y fa o pm cd doc dV kV ho hd hcd hD hmg hg args vals as hpre hlay hrd hwl hlo
  have KX := km_in_of Y
  have hT8 := km_tabs_of Y
  have X := (Ground.X G).1
  have V := (Ground.X G).2
  refine Ground.open G ?_
  intro T B D TE TW
  try (refine guard_noD D (by decide +kernel) ?_; clear D)
  have hT9 : TabsAt [(112, 108)] s₁.heap := List.forall_mem_cons.mpr ⟨⟨codeHd_of_K (c := 112) (P := 108) KX (by kernel_rfl), hT8 108 (by k_mem)⟩, fun _ h => nomatch h⟩
  clear hmg
  wrow_args hpre hlay hrd hwl hlo
  all_goals (
    first | refine callC_kw (enter_call ?_) | refine enter_call ?_
    w_top on
    refine law_post hT9 (fun _ => rfl) (by wrow_post) ?_
    w_call any ho hd hcd hD T F
    clear hd
    kn_ghosts F T
    k_drop
    skip)
  rename_i ns hs hlay0 hL1 hr1 hl2 wa wb l vs wc hL ra w1 r0 hI hr hc1 hc2 h1 tk1 oL dL X0 X' T' B' F' N' l0
  have hz : ns.length ≤ 63 := by omega
  have hret : ∀ {h' : Heap} {g' : Array GenState} {m' : Str → Option Value} {ps : Array Value} {led : List (Addr × Obj)}, AllBare g' → Fr (ghostOf s₁.heap [(112, 108)]) s₁.heap.objs.size h' m' → News (ghostOf s₁.heap [(112, 108)]) s₁.heap.objs.size h' led → (108, tabObj ps) ∈ led → (Except.ok (Flow.ret (.bool true)) : Except Value Flow) = .ok (.ret (.bool true)) ∧ (∀ b o, (ghostOf s₁.heap [(112, 108)]).get? b = some o → h'.get? b = some o) ∧ GrownAll [(112, 108)] h' ∧ s₁.os = s₁.os ∧ AllBare g' :=
    fun a b c e => ⟨rfl, b.keep, ⟨⟨_, (c _ e).1⟩, trivial⟩, rfl, a⟩
  clear hs hL1 hL w1 r0 hc1 hc2
  have F9 : Fr (ghostOf s₁.heap [(112, 108)]) s₁.heap.objs.size h1 (mB [(Str.ofString "script", .ref l)] (fun _ => none)) := F'
  have dL' : oL.data = .cell none := dL
  have N9 : News (ghostOf s₁.heap [(112, 108)]) s₁.heap.objs.size h1 [(s₁.heap.objs.size + 1, oL), (108, tabObj #[])] := N'
  have T9 : Top PySem.W.topProg _ (ExcName.means s₀.heap) mg mb (ghostOf s₁.heap [(112, 108)]) := T'
  clear F' dL N' X0
  exact law2_run w (Str.ofString "law") fa cd (ghostOf s₁.heap [(112, 108)]) s₁.heap.objs.size l vs ns hI hz _ _ mg mb oL ⟨h1, s₁.gens, s₁.drawn, tk1, s₁.os⟩ _ _ dL' codeHd B' F9 X' N9 T9 lifted l0 hg
    (law2_read w (Str.ofString "law") fa cd (ghostOf s₁.heap [(112, 108)]) s₁.heap.objs.size _ _ mg mb oL s₁.drawn s₁.os _ _ dL' codeHd B' X' T9 l0
      (law2_told w (Str.ofString "law") fa cd (ghostOf s₁.heap [(112, 108)]) s₁.heap.objs.size _ _ mg mb s₁.drawn s₁.os _ _ codeHd B' X' T9 l0
        (law2_num w (Str.ofString "law") fa cd (ghostOf s₁.heap [(112, 108)]) s₁.heap.objs.size _ _ mg mb s₁.drawn s₁.os _ _ codeHd B' X' T9 l0
          (law2_end w (Str.ofString "law") fa cd (ghostOf s₁.heap [(112, 108)]) s₁.heap.objs.size _ _ mg mb s₁.drawn s₁.os _ _ codeHd B' X' T9 l0 (fun a b c e => hret a b c e)))))

end Mine
set_option maxRecDepth 100000 in
set_option maxHeartbeats 8000000 in
theorem PySem.Challenge.cw_wn0028_02_holds : PySem.Challenge.rw_wn0028_02.Holds := by
  exact Mine.law2
