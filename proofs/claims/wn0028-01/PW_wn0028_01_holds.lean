import PyProof.Rows.All
import Wide.All
import OpenK.AllK
import Wide.FinOn
import OpenK.XRun
import OpenK.XGo
import Lean
import PySem.Challenge.RW_wn0028_01
open PySem PySem.W PyProof.Rows PySem.Calls LCg
set_option Elab.async false
set_option rowWalk.seconds 0
set_option genSizeOf false
set_option genInjectivity false
set_option linter.all false
set_option compiler.extract_closed false
namespace Mine
local macro_rules | `(tactic| o_law) => `(tactic| refine holds_law (by decide +kernel) fun said => ?_)
local macro_rules | `(tactic| refine $f:ident (q := $q) (loose := $l) (Xt := $x) (XP := $xp) (Yf := $yf) (Ya := $ya) (YP := $yp) (N := $n) ?hl $r*) => `(tactic| (refine $f:ident (q := $q) (loose := $l) (Xt := $x) (XP := $xp) (Yf := $yf) (Ya := $ya) (YP := $yp) (N := $n) ?hl9 $r*; (case hl9 => (intro w9; kernel_rfl))))
set_option maxRecDepth 100000 in
set_option maxHeartbeats 8000000 in
open_top hd for PySem.Challenge.rw_wn0028_01
end Mine
theorem Mine.fill_all : (Mine.hd.heap_1, PySem.Challenge.rw_wn0028_01) = (Mine.hd.heap_1, PySem.Challenge.rw_wn0028_01) := by
  k_fill
  rfl
namespace Mine
noncomputable def World9 : World := ⟨fun _ _ => 0, { strHash := fun _ => 0, shareClass := fun _ => 0, mergeTok := id, idOf := fun _ => 0, idOfShared := fun _ _ => 0, followText := fun _ => true, idOfImm := fun _ => 0 }⟩
theorem hen_ne {D : Type} (ne : Nonempty D) (G : D → Prop) : Nonempty {c : D // G c → ∀ d, G d} := by
  by_cases h : ∀ d, G d
  · exact ⟨⟨Classical.choice ne, fun _ => h⟩⟩
  · obtain ⟨d, hd⟩ := Classical.not_forall.mp h
    exact ⟨⟨d, fun g => absurd g hd⟩⟩
/-- a constant that stands for all: what holds of it holds of every datum -/
noncomputable def hen {D : Type} (e : D) (G : D → Prop) : D := (Classical.choice (hen_ne ⟨e⟩ G)).1
theorem hen_all {D : Type} {e : D} {G : D → Prop} (m : G (hen e G)) : ∀ d, G d := (Classical.choice (hen_ne ⟨e⟩ G)).2 m
structure Hid (P : Prop) : Prop where
  out : P
noncomputable def segOf {α : Type} {C : α → Prop} {p : α} (h : C p) : {p : α // C p} := ⟨p, h⟩

end Mine
namespace Mine
noncomputable def Stop (P : Prop) : Prop := P
theorem stop_in {P : Prop} (h : Stop P) : P := h
theorem stop_out {P : Prop} (h : P) : Stop P := h

/-- a frame's map, its first names written out -/
noncomputable def mB : List (Str × Value) → (Str → Option Value) → Str → Option Value
  | [], r => r
  | p :: ps, r => fun y => if y = p.1 then some p.2 else mB ps r y
noncomputable def HasB (m : Str → Option Value) : List (Str × Value) → Prop
  | [] => True
  | p :: ps => m p.1 = some p.2 ∧ HasB m ps
theorem mB_eq {m : Str → Option Value} : ∀ {ps : List (Str × Value)}, HasB m ps → mB ps m = m
  | [], _ => rfl
  | p :: ps, h => by
    funext y
    show (if y = p.1 then some p.2 else mB ps m y) = m y
    rw [mB_eq h.2]
    by_cases e : y = p.1
    · rw [if_pos e, e, h.1]
    · rw [if_neg e]
theorem fr_mB {h₀ h : Heap} {L : Addr} {m : Str → Option Value} {ps : List (Str × Value)} (F : Fr h₀ L h m) (hp : HasB m ps) : Fr h₀ L h (mB ps m) := by rw [mB_eq hp]; exact F

/-- what stands between the turns of a loop -/
noncomputable def LoopSt (h₀ : Heap) (L : Addr) (s : Shared) (vars : List (Str × Value)) (led : List (Addr × Obj)) (s₃ : Shared) : Prop :=
  ∃ h' tk m', s₃ = { s with heap := h', toks := tk } ∧ Fr h₀ L h' m' ∧ HasB m' vars ∧ News h₀ L h' led
theorem LoopSt.mk {h₀ h' : Heap} {L : Addr} {s : Shared} {vars : List (Str × Value)} {led : List (Addr × Obj)} {tk : Nat} {m' : Str → Option Value}
    (F : Fr h₀ L h' m') (N : News h₀ L h' led) (hb : HasB m' vars) : LoopSt h₀ L s vars led { s with heap := h', toks := tk } := ⟨h', tk, m', rfl, F, hb, N⟩
/-- a turn's end: the state is as good as before, and less is left -/
noncomputable def TurnEnd {σ : Type} (h₀ : Heap) (L : Addr) (s : Shared) (vars : σ → List (Str × Value)) (led : σ → List (Addr × Obj)) (ok : Nat → σ → Prop) (n : Nat) (s₃ : Shared) : Prop :=
  ∃ k y, k < n ∧ ok k y ∧ LoopSt h₀ L s (vars y) (led y) s₃
theorem TurnEnd.mk {σ : Type} {h₀ h' : Heap} {L : Addr} {s : Shared} {vars : σ → List (Str × Value)} {led : σ → List (Addr × Obj)} {ok : Nat → σ → Prop} {n : Nat} {tk : Nat} {m' : Str → Option Value} {led' : List (Addr × Obj)}
    (k : Nat) (y : σ) (hk : k < n) (F : Fr h₀ L h' m') (N : News h₀ L h' led') (hb : HasB m' (vars y)) (hl : ∀ p ∈ led y, p ∈ led') (h : ok k y) : TurnEnd h₀ L s vars led ok n { s with heap := h', toks := tk } :=
  ⟨k, y, hk, h, h', tk, m', rfl, F, hb, fun p hp => N p (hl p hp)⟩
theorem news_of {h₀ h : Heap} {L : Addr} {l l' : List (Addr × Obj)} (N : News h₀ L h l) (hs : ∀ p ∈ l', p ∈ l) : News h₀ L h l' := fun p hp => N p (hs p hp)

section
variable {prog : Program} {w : World} {A : Around} {E : Value → Shared → Prop} {env : Env} {h₀ : Heap} {σ : Type}
theorem while_st {test : Expr} {body : List Stmt} {pos : Pos} {Q : Flow → Shared → Prop} {s : Shared} {m₀ : Str → Option Value} {led₀ : List (Addr × Obj)}
    (vars : σ → List (Str × Value)) (led : σ → List (Addr × Obj)) (ok : Nat → σ → Prop) (n : Nat) (x : σ)
    (F : Fr h₀ env.locals s.heap m₀) (N : News h₀ env.locals s.heap led₀) (hb : HasB m₀ (vars x)) (hl : ∀ p ∈ led x, p ∈ led₀) (h : ok n x)
    (turn : ∀ n x h tk m₁, ok n x → Fr h₀ env.locals h (mB (vars x) m₁) → News h₀ env.locals h (led x) →
      wpAny (model prog w) A (isTrue test env (eval test env)) (fun b s₂ =>
        if b then wpAny (model prog w) A (execs body env) (fun f s₃ => match f with
            | .next | .cont => TurnEnd h₀ env.locals s vars led ok n s₃
            | .brk => Q .next s₃
            | .ret v => Q (.ret v) s₃) (fun _ _ => False) s₂
        else Q .next s₂) (fun _ _ => False) { s with heap := h, toks := tk }) :
    wpAny (model prog w) A (exec (.While test body [] pos) env) Q E s := by
  refine wpAny_While (codeAny_whileLoop (fun n s₁ => ∃ x, ok n x ∧ LoopSt h₀ env.locals s (vars x) (led x) s₁) ?_ n ⟨x, h, s.heap, s.toks, m₀, rfl, F, hb, news_of N hl⟩)
  rintro n s₁ ⟨x, hx, h', tk, m', rfl, F', hb', N'⟩
  refine wpAny_mono (turn n x h' tk m' hx (fr_mB F' hb') N') (fun b s₂ p => ?_) fun _ _ e => e.elim
  cases b with
  | false => exact wpAny_execs_nil p
  | true =>
    refine wpAny_mono p (fun f s₃ q => ?_) fun _ _ e => e.elim
    cases f with
    | next => obtain ⟨k, y, a, b, c⟩ := q; exact ⟨k, a, y, b, c⟩
    | cont => obtain ⟨k, y, a, b, c⟩ := q; exact ⟨k, a, y, b, c⟩
    | brk => exact q
    | ret v => exact q
end

section
variable {prog : Program} {w : World} {A : Around} {env : Env} {h₀ : Heap} {σ : Type}
theorem for_code {x : Str} {px : Pos} {it : Value} {body : List Stmt} {R : Result → Shared → Prop} {s : Shared} {m₀ : Str → Option Value} {led₀ : List (Addr × Obj)}
    (vars : σ → List (Str × Value)) (led : σ → List (Addr × Obj)) (ok : Nat → σ → Prop) (n : Nat) (y : σ)
    (F : Fr h₀ env.locals s.heap m₀) (N : News h₀ env.locals s.heap led₀) (hb : HasB m₀ (vars y)) (hl : ∀ p ∈ led y, p ∈ led₀) (h : ok n y)
    (turn : ∀ n y h tk m₁, ok n y → Fr h₀ env.locals h (mB (vars y) m₁) → News h₀ env.locals h (led y) →
      wpAny (model prog w) A (pyNext it) (fun r s₁ => match r with
        | none => R (.ok .next) s₁
        | some v => wpAny (model prog w) A (assign (.Name x px) env v) (fun _ s₂ => wpAny (model prog w) A (execs body env) (fun f s₃ => match f with
            | .next | .cont => TurnEnd h₀ env.locals s vars led ok n s₃
            | .brk => R (.ok .next) s₃
            | .ret v => R (.ok (.ret v)) s₃) (fun _ _ => False) s₂) (fun _ _ => False) s₁) (fun _ _ => False) { s with heap := h, toks := tk }) :
    codeAny (model prog w) A (.forLoop (.Name x px) it body [] env) R s := by
  refine codeAny_forLoop_any (fun n s₁ => ∃ y, ok n y ∧ LoopSt h₀ env.locals s (vars y) (led y) s₁) ?_ n ⟨y, h, s.heap, s.toks, m₀, rfl, F, hb, news_of N hl⟩
  rintro n s₁ ⟨y, hy, h', tk, m', rfl, F', hb', N'⟩
  refine wpAny_mono (turn n y h' tk m' hy (fr_mB F' hb') N') (fun r s₂ p => ?_) fun _ _ e => e.elim
  cases r with
  | none => exact wpAny_execs_nil p
  | some v =>
    refine wpAny_pure ?_
    refine wpAny_mono p (fun _ s₃ p₂ => ?_) fun _ _ e => e.elim
    refine wpAny_mono p₂ (fun f s₃ q => ?_) fun _ _ e => e.elim
    cases f with
    | next => obtain ⟨k, y, a, b, c⟩ := q; exact ⟨k, a, y, b, c⟩
    | cont => obtain ⟨k, y, a, b, c⟩ := q; exact ⟨k, a, y, b, c⟩
    | brk => exact q
    | ret v => exact q
end

/-- a def that changes nothing of its caller's -/
noncomputable def CtrR (prog : Program) (w : World) (K : Frag) (p : Program) (D U : Nat) (f : Addr) (vs : List Value) (led : List (Addr × Obj)) (Post : Value → List (Addr × Obj) → Prop) : Prop :=
  ∀ (loose : List Str) (mean : ExcName → Option Value) (mg mb : Str → Option Value) (rest : List (Addr × Obj)) (dp un : Nat) (gd : Option (List Code)) (cn : Str) (cs : Scope) (a : Addr) (ccd : Value) (cl : List (Str × Addr)) (outer : List Env) (A₀ : Around) (base h₀ : Heap) (L : Addr) (m : Str → Option Value) (s : Shared) (R : Result → Shared → Prop),
    (∀ q ∈ led, q ∈ rest) → Below A₀ base outer h₀ → Fr h₀ L s.heap m → K.In h₀ → News h₀ L s.heap rest → Top p loose mean mg mb h₀ → cs.kind = .function → dp + D < recursionLimit → un + U < cLine →
    (∀ v tl h' tk', Post v tl → (∀ q ∈ rest, ∀ p ∈ tl, q.1 < p.1) → Fr h₀ L h' m → News h₀ L h' (tl ++ rest) → R (.ok (.ret v)) { s with heap := h', toks := tk' }) →
    codeAny (model prog w) (ktrTop dp un gd cn cs L a ccd cl outer) (.call (.ref f) ⟨vs, []⟩) R s

/-- a def that changes the objects led of its caller's ledger, and no other -/
noncomputable def Ctr (Pre : Heap → Prop) (prog : Program) (w : World) (K : Frag) (p : Program) (D U : Nat) (f : Addr) (vs : List Value) (led : List (Addr × Obj)) (Post : Value → List (Addr × Obj) → List (Addr × Obj) → Prop) : Prop :=
  ∀ (loose : List Str) (mean : ExcName → Option Value) (mg mb : Str → Option Value) (rest : List (Addr × Obj)) (dp un : Nat) (gd : Option (List Code)) (cn : Str) (cs : Scope) (a : Addr) (ccd : Value) (cl : List (Str × Addr)) (outer : List Env) (A₀ : Around) (base h₀ : Heap) (L : Addr) (m : Str → Option Value) (s : Shared) (R : Result → Shared → Prop),
    Pre h₀ → (∀ p ∈ led, ∀ q ∈ rest, q.1 ≠ p.1) → Below A₀ base outer h₀ → Fr h₀ L s.heap m → K.In h₀ → News h₀ L s.heap (led ++ rest) → Top p loose mean mg mb h₀ → cs.kind = .function → dp + D < recursionLimit → un + U < cLine →
    (∀ v led' tl h' tk', Post v led' tl → (∀ q ∈ led ++ rest, ∀ p ∈ tl, q.1 < p.1) → Fr h₀ L h' m → News h₀ L h' (tl ++ (led' ++ rest)) → R (.ok (.ret v)) { s with heap := h', toks := tk' }) →
    codeAny (model prog w) (ktrTop dp un gd cn cs L a ccd cl outer) (.call (.ref f) ⟨vs, []⟩) R s

section
variable {prog : Program} {w : World} {K : Frag} {p : Program} {D U : Nat} {f : Addr} {vs : List Value} {led : List (Addr × Obj)}
  {loose : List Str} {mean : ExcName → Option Value} {mg mb : Str → Option Value} {rest all : List (Addr × Obj)} {dp un : Nat} {gd : Option (List Code)} {cn : Str} {cs : Scope} {a : Addr} {ccd : Value} {cl : List (Str × Addr)} {outer : List Env} {A₀ : Around} {base h₀ : Heap} {L : Addr} {m : Str → Option Value} {s : Shared} {Q E : Value → Shared → Prop} {R : Result → Shared → Prop}
theorem CtrR.code {Post : Value → List (Addr × Obj) → Prop} (C : CtrR prog w K p D U f vs led Post) (hl : ∀ q ∈ led, q ∈ rest) (B : Below A₀ base outer h₀) (F : Fr h₀ L s.heap m) (X : K.In h₀) (N : News h₀ L s.heap rest) (T : Top p loose mean mg mb h₀) (hk : cs.kind = .function)
    (hd : dp + D < recursionLimit) (hu : un + U < cLine) (ret : ∀ v tl h' tk', Post v tl → (∀ q ∈ rest, ∀ p ∈ tl, q.1 < p.1) → Fr h₀ L h' m → News h₀ L h' (tl ++ rest) → R (.ok (.ret v)) { s with heap := h', toks := tk' }) :
    codeAny (model prog w) (ktrTop dp un gd cn cs L a ccd cl outer) (.call (.ref f) ⟨vs, []⟩) R s := C loose mean mg mb rest dp un gd cn cs a ccd cl outer A₀ base h₀ L m s R hl B F X N T hk hd hu ret
theorem CtrR.use {Post : Value → List (Addr × Obj) → Prop} (C : CtrR prog w K p D U f vs led Post) (hl : ∀ q ∈ led, q ∈ rest) (B : Below A₀ base outer h₀) (F : Fr h₀ L s.heap m) (X : K.In h₀) (N : News h₀ L s.heap rest) (T : Top p loose mean mg mb h₀) (hk : cs.kind = .function)
    (hd : dp + D < recursionLimit) (hu : un + U < cLine) (ret : ∀ v tl h' tk', Post v tl → (∀ q ∈ rest, ∀ p ∈ tl, q.1 < p.1) → Fr h₀ L h' m → News h₀ L h' (tl ++ rest) → Q v { s with heap := h', toks := tk' }) :
    wpAny (model prog w) (ktrTop dp un gd cn cs L a ccd cl outer) (call (.ref f) vs) Q E s := wpAny_call (C.code hl B F X N T hk hd hu ret)
end

/-- an entry taken out of a ledger -/
inductive Take (p : Addr × Obj) : List (Addr × Obj) → List (Addr × Obj) → Prop
  | head {l} : Take p (p :: l) l
  | tail {q l l'} : Take p l l' → Take p (q :: l) (q :: l')
inductive Pick : List (Addr × Obj) → List (Addr × Obj) → List (Addr × Obj) → Prop
  | nil {l} : Pick l [] l
  | cons {p l l' led rest} : Take p l l' → Pick l' led rest → Pick l (p :: led) rest
theorem Take.sub {p : Addr × Obj} {l l' : List (Addr × Obj)} (h : Take p l l') : p ∈ l ∧ ∀ q ∈ l', q ∈ l := by
  induction h with
  | head => exact ⟨.head _, fun q hq => .tail _ hq⟩
  | tail _ ih => exact ⟨.tail _ ih.1, fun q hq => by
      rcases List.mem_cons.mp hq with rfl | hq
      · exact .head _
      · exact .tail _ (ih.2 q hq)⟩
theorem Pick.sub {l led rest : List (Addr × Obj)} (h : Pick l led rest) : ∀ q ∈ led ++ rest, q ∈ l := by
  induction h with
  | nil => exact fun q hq => hq
  | cons t _ ih =>
    intro q hq
    rcases List.mem_cons.mp hq with rfl | hq
    · exact t.sub.1
    · exact t.sub.2 q (ih q hq)

section
variable {prog : Program} {w : World} {K : Frag} {p : Program} {D U : Nat} {f : Addr} {vs : List Value} {led : List (Addr × Obj)}
  {loose : List Str} {mean : ExcName → Option Value} {mg mb : Str → Option Value} {rest all : List (Addr × Obj)} {dp un : Nat} {gd : Option (List Code)} {cn : Str} {cs : Scope} {a : Addr} {ccd : Value} {cl : List (Str × Addr)} {outer : List Env} {A₀ : Around} {base h₀ : Heap} {L : Addr} {m : Str → Option Value} {s : Shared} {Q E : Value → Shared → Prop} {R : Result → Shared → Prop}
theorem Ctr.code {Pre : Heap → Prop} {Post : Value → List (Addr × Obj) → List (Addr × Obj) → Prop} (C : Ctr Pre prog w K p D U f vs led Post) (pre : Pre h₀) (hp : Pick all led rest) (off : ∀ p ∈ led, ∀ q ∈ rest, q.1 ≠ p.1) (B : Below A₀ base outer h₀) (F : Fr h₀ L s.heap m) (X : K.In h₀) (N : News h₀ L s.heap all) (T : Top p loose mean mg mb h₀) (hk : cs.kind = .function)
    (hd : dp + D < recursionLimit) (hu : un + U < cLine) (ret : ∀ v led' tl h' tk', Post v led' tl → (∀ q ∈ led ++ rest, ∀ p ∈ tl, q.1 < p.1) → Fr h₀ L h' m → News h₀ L h' (tl ++ (led' ++ rest)) → R (.ok (.ret v)) { s with heap := h', toks := tk' }) :
    codeAny (model prog w) (ktrTop dp un gd cn cs L a ccd cl outer) (.call (.ref f) ⟨vs, []⟩) R s := C loose mean mg mb rest dp un gd cn cs a ccd cl outer A₀ base h₀ L m s R pre off B F X (news_of N hp.sub) T hk hd hu ret
theorem Ctr.use {Pre : Heap → Prop} {Post : Value → List (Addr × Obj) → List (Addr × Obj) → Prop} (C : Ctr Pre prog w K p D U f vs led Post) (pre : Pre h₀) (hp : Pick all led rest) (off : ∀ p ∈ led, ∀ q ∈ rest, q.1 ≠ p.1) (B : Below A₀ base outer h₀) (F : Fr h₀ L s.heap m) (X : K.In h₀) (N : News h₀ L s.heap all) (T : Top p loose mean mg mb h₀) (hk : cs.kind = .function)
    (hd : dp + D < recursionLimit) (hu : un + U < cLine) (ret : ∀ v led' tl h' tk', Post v led' tl → (∀ q ∈ led ++ rest, ∀ p ∈ tl, q.1 < p.1) → Fr h₀ L h' m → News h₀ L h' (tl ++ (led' ++ rest)) → Q v { s with heap := h', toks := tk' }) :
    wpAny (model prog w) (ktrTop dp un gd cn cs L a ccd cl outer) (call (.ref f) vs) Q E s := wpAny_call (C.code pre hp off B F X N T hk hd hu ret)
end

theorem pick_app {rest : List (Addr × Obj)} : ∀ {led : List (Addr × Obj)}, Pick (led ++ rest) led rest
  | [] => .nil
  | _ :: _ => .cons .head pick_app
theorem allLt_ne {d : Nat} : ∀ {l : List (Addr × Obj)}, AllLt d l → ∀ p ∈ l, p.1 ≠ d
  | [], _, _, hp => nomatch hp
  | q :: r, h, p, hp => by
    rcases List.mem_cons.mp hp with rfl | hp
    · exact Nat.ne_of_lt h.1
    · exact allLt_ne h.2 p hp
theorem allLt_lt {d : Nat} : ∀ {l : List (Addr × Obj)}, AllLt d l → ∀ p ∈ l, p.1 < d
  | [], _, _, hp => nomatch hp
  | q :: r, h, p, hp => by
    rcases List.mem_cons.mp hp with rfl | hp
    · exact h.1
    · exact allLt_lt h.2 p hp
theorem allLt_app {d : Nat} : ∀ {l r : List (Addr × Obj)}, AllLt d l → AllLt d r → AllLt d (l ++ r)
  | [], _, _, h => h
  | _ :: _, _, h, h' => ⟨h.1, allLt_app h.2 h'⟩
theorem raw_ne {d d' : Nat} {l : List (Addr × Obj)} (h : ∀ p ∈ l, p.1 < d) (hd : d ≤ d') : ∀ p ∈ l, p.1 ≠ d' := fun p hp e => by
  have h1 : p.1 < d := h p hp
  have h2 : p.1 = d' := e
  exact absurd h1 (by rw [h2]; exact Nat.not_lt.mpr hd)
theorem allLt_ne' {d d' : Nat} {l : List (Addr × Obj)} (h : AllLt d l) (hd : d ≤ d') : ∀ p ∈ l, p.1 ≠ d' := raw_ne (allLt_lt h) hd

theorem news_drop2 {h₀ h : Heap} {L : Addr} {led rest : List (Addr × Obj)} {a b : Addr × Obj} (N : News h₀ L h (led ++ a :: b :: rest)) : News h₀ L h (led ++ rest) :=
  news_of N fun p hp => by
    rcases List.mem_append.mp hp with hp | hp
    · exact List.mem_append_left _ hp
    · exact List.mem_append_right _ (.tail _ (.tail _ hp))
theorem sub_refl {r : List (Addr × Obj)} : ∀ p ∈ r, p ∈ r := fun _ h => h
theorem sub_tail {r l : List (Addr × Obj)} {e : Addr × Obj} (h : ∀ p ∈ r, p ∈ l) : ∀ p ∈ r, p ∈ e :: l := fun p hp => .tail _ (h p hp)
theorem adr_of_sub {r l : List (Addr × Obj)} (h : ∀ p ∈ r, p ∈ l) : ∀ p ∈ r, ∃ o, (p.1, o) ∈ l := fun p hp => ⟨p.2, h p hp⟩
theorem lt_up {d j k a : Nat} (h : d + k < a) (e : j ≤ k) : d + j < a := Nat.lt_of_le_of_lt (Nat.add_le_add_left e d) h
theorem le_up {d j k : Nat} (h : d ≤ k) (e : k ≤ j) : d ≤ j := Nat.le_trans h e
theorem room0 {d k N : Nat} (h : d + k < N) : d < N := Nat.lt_of_le_of_lt (Nat.le_add_right d k) h
theorem room1 {d a k N : Nat} (h : d + k < N) (e : a ≤ k) : d + a < N := Nat.lt_of_le_of_lt (Nat.add_le_add_left e d) h
theorem room2 {d a b k N : Nat} (h : d + k < N) (e : a + b ≤ k) : d + a + b < N := Nat.add_assoc d a b ▸ room1 h e
theorem room3 {d a b c k N : Nat} (h : d + k < N) (e : a + b + c ≤ k) : d + a + b + c < N := by
  rw [Nat.add_assoc d a b]; exact room2 h e
theorem lt_cons {a : Nat} {o : Obj} {l : List (Addr × Obj)} {x : Nat} (h : a < x) (t : ∀ p ∈ l, (show Nat from p.1) < x) : ∀ p ∈ ((a, o) : Addr × Obj) :: l, (show Nat from p.1) < x := List.forall_mem_cons.mpr ⟨h, t⟩
theorem mem_cons_all {a : Addr × Obj} {l L : List (Addr × Obj)} (h : a ∈ L) (t : ∀ p ∈ l, p ∈ L) : ∀ p ∈ a :: l, p ∈ L := List.forall_mem_cons.mpr ⟨h, t⟩
theorem adr_cons {a : Addr} {o o' : Obj} {l L : List (Addr × Obj)} (h : (a, o') ∈ L) (t : ∀ p ∈ l, ∃ o, (p.1, o) ∈ L) : ∀ p ∈ (a, o) :: l, ∃ o, (p.1, o) ∈ L := List.forall_mem_cons.mpr ⟨⟨o', h⟩, t⟩

end Mine
namespace Mine
noncomputable def apF : Nat → Nat → List UInt8 → List UInt8
  | 0, _, acc => acc
  | f+1, n, acc => if n = 0 then acc else apF f (n/16) (UInt8.ofNat (65 + n % 16) :: acc)
noncomputable def apSt : Type := Int × Tok × List UInt8 × Tok × Tok
noncomputable def APs : List UInt8 := [65,66,67,68,69,70,71,72,73,74,75,76,77,78,79,80]
theorem ap_pick16 : ∀ k : Fin 16, KBy.picked APs.toArray (some (k.val : Int)) (some ((k.val : Int) + 1)) = [UInt8.ofNat (65 + k.val)].toArray := by decide +kernel
theorem ap_pick (i : Int) (h : 0 ≤ i) : KBy.picked APs.toArray (some (i.fmod 16)) (some (i.fmod 16 + 1)) = [UInt8.ofNat (65 + i.toNat % 16)].toArray := by
  have e : i.fmod 16 = ((i.toNat % 16 : Nat) : Int) := by
    rw [Int.fmod_eq_emod_of_nonneg _ (by decide)]; omega
  rw [e]
  exact ap_pick16 ⟨i.toNat % 16, Nat.mod_lt _ (by decide)⟩
theorem ap_next (i : Int) (h : 0 ≤ i) (hi : ¬ i = 0) (j : Nat) (v : List UInt8) : apF (j+1) i.toNat v = apF j (i.fdiv 16).toNat (UInt8.ofNat (65 + i.toNat % 16) :: v) := by
  have e : (i.fdiv 16).toNat = i.toNat / 16 := by rw [Int.fdiv_eq_ediv_of_nonneg _ (by decide)]; omega
  rw [e, apF, if_neg (by omega)]

end Mine
namespace Mine
set_option maxRecDepth 100000
section
variable {prog : Program} {w : World} {A : Around} {E : Value → Shared → Prop} {s : Shared} {h₀ : Heap} {L : Addr} {m : Str → Option Value} {env : Env}

/-- a source of a comprehension: a text -/
noncomputable def SrcT (prog : Program) (w : World) (A : Around) (h₀ : Heap) (L : Addr) (m : Str → Option Value) (env : Env) (elt : Expr) (x : Str) (scope : Scope) (cl : List (Str × Addr)) (Fin : Shared → List Value → List (Addr × Obj) → Prop) (xv : Value) (s₁ : Shared) : Prop :=
  ∃ y t news, xv = .str y t ∧ A.handled = none ∧ Fr h₀ L s₁.heap m ∧ News h₀ L s₁.heap news ∧ y.cps.size ≤ sizeLine ∧
    ∀ s₂ : Shared, (∃ h, s₂ = { s₁ with heap := h }) → CompRest prog w A h₀ L m env elt x scope cl s₂ (fun _ => True) (SignAt y) (Fin s₂) y.cps.size 0 [] news
/-- a source of a comprehension: bytes -/
noncomputable def SrcB (prog : Program) (w : World) (A : Around) (h₀ : Heap) (L : Addr) (m : Str → Option Value) (env : Env) (elt : Expr) (x : Str) (scope : Scope) (cl : List (Str × Addr)) (Fin : Shared → List Value → List (Addr × Obj) → Prop) (xv : Value) (s₁ : Shared) : Prop :=
  ∃ b t news, xv = .bytes b t ∧ A.handled = none ∧ Fr h₀ L s₁.heap m ∧ News h₀ L s₁.heap news ∧ b.size ≤ sizeLine ∧
    ∀ s₂ : Shared, (∃ h, s₂ = { s₁ with heap := h }) → CompRest prog w A h₀ L m env elt x scope cl s₂ (fun _ => True) (fun i v => ∃ c u, b[i]? = some c ∧ v = .int (c.toNat : Int) u) (Fin s₂) b.size 0 [] news

/-- a source of a comprehension: a text, or bytes -/
noncomputable def SrcTB (prog : Program) (w : World) (A : Around) (h₀ : Heap) (L : Addr) (m : Str → Option Value) (env : Env) (elt : Expr) (x : Str) (scope : Scope) (cl : List (Str × Addr)) (Fin : Shared → List Value → List (Addr × Obj) → Prop) (xv : Value) (s₁ : Shared) : Prop :=
  SrcT prog w A h₀ L m env elt x scope cl Fin xv s₁ ∨ SrcB prog w A h₀ L m env elt x scope cl Fin xv s₁
theorem SrcTB.text {elt : Expr} {x : Str} {scope : Scope} {cl : List (Str × Addr)} {Fin : Shared → List Value → List (Addr × Obj) → Prop} {y : Str} {t : Tok} {news : List (Addr × Obj)} {s₁ : Shared}
    (hh : A.handled = none) (F : Fr h₀ L s₁.heap m) (N : News h₀ L s₁.heap news) (hz : y.cps.size ≤ sizeLine)
    (h : ∀ g, CompRest prog w A h₀ L m env elt x scope cl { s₁ with heap := g } (fun _ => True) (SignAt y) (Fin { s₁ with heap := g }) y.cps.size 0 [] news) : SrcTB prog w A h₀ L m env elt x scope cl Fin (.str y t) s₁ :=
  .inl ⟨y, t, news, rfl, hh, F, N, hz, fun _ ⟨g, e⟩ => e ▸ h g⟩
theorem SrcTB.bytes {elt : Expr} {x : Str} {scope : Scope} {cl : List (Str × Addr)} {Fin : Shared → List Value → List (Addr × Obj) → Prop} {b : Array UInt8} {t : Tok} {news : List (Addr × Obj)} {s₁ : Shared}
    (hh : A.handled = none) (F : Fr h₀ L s₁.heap m) (N : News h₀ L s₁.heap news) (hz : b.size ≤ sizeLine)
    (h : ∀ g, CompRest prog w A h₀ L m env elt x scope cl { s₁ with heap := g } (fun _ => True) (fun i v => ∃ c u, b[i]? = some c ∧ v = .int (c.toNat : Int) u) (Fin { s₁ with heap := g }) b.size 0 [] news) : SrcTB prog w A h₀ L m env elt x scope cl Fin (.bytes b t) s₁ :=
  .inr ⟨b, t, news, rfl, hh, F, N, hz, fun _ ⟨g, e⟩ => e ▸ h g⟩

theorem comp_fresh {elt iter : Expr} {x : Str} {px : Pos} {scope : Scope} {cl : List (Str × Addr)} {pos : Pos} {s₁ : Shared} {o : Obj} {n : Nat} {P : Nat → Value → Prop} {St : Nat → Heap → Prop} {news : List (Addr × Obj)} {Q : Value → Shared → Prop}
    (W : Walks prog w A s₁.heap.objs.size [s₁.heap.objs.size] [s₁.heap.objs.size] n P St) (hIo : ∀ i h, St i h → ∃ o, h.get? s₁.heap.objs.size = some o) (hst : St 0 (s₁.heap.push o)) (hsz : n ≤ sizeLine)
    (hcell : ∀ y ∈ scope.names, y.2 ≠ .cell) (hkind : scope.kind = .function) (hx : scope.names.lookup x = some .local)
    (F : Fr h₀ L s₁.heap m) (N : News h₀ L s₁.heap news)
    (R : CompRest prog w A h₀ L m env elt x scope cl { s₁ with heap := s₁.heap.push o } (fun _ => True) P (FinE h₀ L m { s₁ with heap := s₁.heap.push o } Q) n 0 [] news) :
    wpAny (model prog w) A (newList []) (fun acc s₃ => wpAny (model prog w) A (newFunctionEnv scope env.globals cl [] env.qual none .none (some env)) (fun cenv s₄ =>
      codeAny (model prog w) A (.compStart (.ListComp elt [⟨.Name x px, iter, [], 0⟩] scope pos) 0 (.ref s₁.heap.objs.size) acc { cenv with scope := relabel scope env }) (compPost (model prog w) A E none Q acc cenv.locals) s₄) E s₃) E { s₁ with heap := s₁.heap.push o } := by
  refine block_U W hsz hIo (fun i h h' o' nw st e e' k _ _ => W.frame i h h' st fun b hb o'' e'' => ?_) hcell hkind hx hst (fun b hb => ?_)
      (F.keeps fun _ _ e => Heap.get?_push_of_some _ e) (N.grown fun _ _ e => Heap.get?_push_of_some _ e) (Nat.ne_of_lt F.ns.lt) (next_is_new F) (fun p hp => Nat.ne_of_lt (Heap.lt_size (N p hp).1)) trivial R ?_
  · rw [List.mem_singleton.mp hb] at e'' ⊢
    rw [e] at e''; cases e''; exact e'
  · rw [List.mem_singleton.mp hb]
    show s₁.heap.objs.size < (s₁.heap.push _).objs.size
    rw [Heap.size_push]; exact Nat.lt_succ_self _
  · intro D C h tk m' ys news' F' N' o1 hn hC₀ hD₀ hCL hDL hCD offC fin
    refine ⟨m', hn, fun h'' hs'' => fin D h'' tk (F'.change hs'' hCL hC₀) (fun p hp => ?_) o1⟩
    refine ⟨hs''.extBut _ _ ?_ (N' p hp).1, (N' p hp).2⟩
    rcases List.mem_cons.mp hp with rfl | hp
    · exact Ne.symm hCD
    · exact offC p hp

theorem ListComp_S {elt iter : Expr} {x : Str} {px : Pos} {scope : Scope} {cl : List (Str × Addr)} {pos : Pos} {Q : Value → Shared → Prop} (F₀ : Fr h₀ L s.heap m)
    (hclos : closureFor scope env = pure cl) (hcell : ∀ y ∈ scope.names, y.2 ≠ .cell) (hkind : scope.kind = .function)
    (hnames : ∀ y ∈ scope.names, y.2 = .local → scope.names.lookup y.1 = some .local) (hx : scope.names.lookup x = some .local)
    (h : wpAny (model prog w) A (eval iter env) (SrcTB prog w A h₀ L m env elt x scope cl (fun s₂ => FinE h₀ L m s₂ Q)) E s)
    (hs : ∀ x, foldedSetIterable iter env x = pure x := by intro _; rfl) :
    wpAny (model prog w) A (eval (.ListComp elt [⟨.Name x px, iter, [], 0⟩] scope pos) env) Q E s := by
  rw [eval_ListComp]
  refine wpAny_comprehension_free (use := none) rfl hs hclos hkind hnames (wpAny_mono h (fun xv s₁ h₁ => ?_) fun _ _ e => e)
  rcases h₁ with ⟨y, t, news, rfl, hh, F, N, hsz, R⟩ | ⟨b, t, news, rfl, hh, F, N, hsz, R⟩
  · cases ha : y.cps.all (· < 128)
    · exact wpAny_pyIter_wide ha (comp_fresh (Walks.strWide hh _ y t) (fun i h st => by obtain ⟨o, e, _⟩ := st; exact ⟨o, e⟩) ⟨_, Heap.get?_push_size _ rfl, rfl, rfl⟩ hsz hcell hkind hx F N (R _ ⟨_, rfl⟩))
    · exact wpAny_pyIter_ascii ha (comp_fresh (Walks.strAscii hh _ y t) (fun i h st => by obtain ⟨o, e, _⟩ := st; exact ⟨o, e⟩) ⟨_, Heap.get?_push_size _ rfl, rfl, rfl⟩ hsz hcell hkind hx F N (R _ ⟨_, rfl⟩))
  · exact KBw.pyIter_bytes (comp_fresh (KBw.walks hh _ b t) (fun i h st => by obtain ⟨o, e, _⟩ := st; exact ⟨o, e⟩) ⟨_, Heap.get?_push_size _ rfl, rfl, rfl⟩ hsz hcell hkind hx F N (R _ ⟨_, rfl⟩))

/-- a comprehension by an invariant over what it has made and the ledger -/
theorem compRest_ind {elt : Expr} {x : Str} {scope : Scope} {cl : List (Str × Addr)} {S : List (Addr × Obj) → Prop} {P : Nat → Value → Prop} {Fin : List Value → List (Addr × Obj) → Prop} {n : Nat} (J : Nat → List Value → List (Addr × Obj) → Prop)
    (turn : ∀ i ys news v I oI C oC D m₂ h tk (E' : Value → Shared → Prop), i < n → J i ys news → P i v → NsObj oC m₂ → m₂ x = some v → Fr h₀ L h m → News h₀ L h ((I, oI) :: (C, oC) :: (D, lst ys) :: news) → Off3 I C D news → ((@Ne Nat I C) ∧ (@Ne Nat I D) ∧ (@Ne Nat C D)) →
      wpAny (model prog w) A (eval elt (compEnvC scope cl C env)) (CompEnd h₀ L m { s with heap := h, toks := tk } I oI C oC D (lst ys) S (fun y news' => J (i + 1) (ys ++ [y]) news')) E' { s with heap := h, toks := tk })
    (fin : ∀ ys news, J n ys news → Fin ys news) : ∀ k i ys news, n = i + k → J i ys news → CompRest prog w A h₀ L m env elt x scope cl s S P Fin k i ys news := by
  intro k
  induction k with
  | zero => intro i ys news e hj; have : i = n := by omega
            subst this; exact CompRest.zero (fin _ _ hj)
  | succ k ih =>
    intro i ys news e hj
    refine CompRest.succ fun v I oI C oC D m₂ h tk E' hP hC hx F N off ne => ?_
    refine wpAny_mono (turn i ys news v I oI C oC D m₂ h tk E' (by omega) hj hP hC hx F N off ne) (fun y s₂ q => ?_) fun _ _ q => q
    obtain ⟨h', tk', news', e', F', N', o', hS, r⟩ := q
    exact ⟨h', tk', news', e', F', N', o', hS, ih _ _ _ (by omega) r⟩
end

end Mine
namespace Mine
theorem ofEmpty : (Str.ofString "").cps = #[] := by decide +kernel
theorem join_none (ys : List Str) : (Txt.join (Str.ofString "") ys).cps.toList = (ys.map fun y => y.cps.toList).flatten := by
  show (Builtin.Str.glued _ _).cps.toList = _
  rw [StrLaws.glued_eq_join]
  induction ys with
  | nil => rfl
  | cons y r ih =>
    cases r with
    | nil => simp [Str.join]
    | cons z r =>
      show (y ++ Str.ofString "" ++ Str.join (Str.ofString "") (z :: r)).cps.toList = _
      rw [Str.cps_append, Str.cps_append, Array.toList_append, Array.toList_append, ih, ofEmpty]
      simp
theorem glue_ones (l : List UInt8) : (Txt.join (Str.ofString "") (l.map fun c => (⟨#[c.toNat]⟩ : Str))).cps.toList = l.map (·.toNat) := by
  rw [join_none]
  induction l with
  | nil => rfl
  | cons c l ih => simp_all
theorem len_ones (l : List UInt8) : ((l.map fun c => (⟨#[c.toNat]⟩ : Str)).map (·.length)).sum = l.length := by
  induction l with
  | nil => rfl
  | cons c l ih => simp only [List.map_cons, List.sum_cons, ih, List.length_cons]; show 1 + l.length = _; omega
theorem apF_len (J n : Nat) (acc : List UInt8) : (apF J n acc).length ≤ acc.length + J := by
  induction J generalizing n acc with
  | zero => simp [apF]
  | succ J ih => rw [apF]; split
                 · omega
                 · have := ih (n / 16) (UInt8.ofNat (65 + n % 16) :: acc); simp only [List.length_cons] at this; omega
section
variable {prog : Program} {w : World} {A : Around} {E : Value → Shared → Prop} {s : Shared} {h₀ : Heap} {L : Addr} {m : Str → Option Value} {Q : Value → Shared → Prop}
/-- a text's signs, each a text -/
noncomputable def ones (x : Str) : List Str := x.cps.toList.map fun c => ⟨#[c]⟩
theorem strsAre_get : ∀ {vs : List Value} {ys : List Str}, vs.length = ys.length → (∀ (j : Nat) (y : Str), ys[j]? = some y → ∃ t, vs[j]? = some (Value.str y t)) → StrsAre vs ys
  | [], [], _, _ => .nil
  | [], _ :: _, e, _ => nomatch e
  | _ :: _, [], e, _ => nomatch e
  | v :: vs, y :: ys, hl, h => by
    obtain ⟨t, e⟩ := h 0 y rfl
    cases e
    exact .cons y t (strsAre_get (by simpa using hl) fun j y' e => h (j + 1) y' e)
theorem list_strK {x : Str} {t : Tok} {news : List (Addr × Obj)} (hh : A.handled = none) (F : Fr h₀ L s.heap m) (N : News h₀ L s.heap news) (hsz : x.cps.size ≤ 16777216)
    (hQ : ∀ a h' tk ys c, Fr h₀ L h' m → News h₀ L h' ((a, listOf ys c) :: news) → (∀ p ∈ news, p.1 < a) → StrsAre ys.toList (ones x) → Q (.ref a) { s with heap := h', toks := tk }) :
    wpAny (model prog w) A (call (.type "list") [.str x t]) Q E s := by
  refine call_list_str hh x t (hn := by rw [sizeLine_eq]; exact hsz) fun h' tk acc' c' hk hS' hacc => ?_
  have lt : ∀ p ∈ news, p.1 < s.heap.objs.size := fun p hp => Heap.lt_size (N p hp).1
  have F' := F.keeps hk
  refine hQ _ h' tk acc' c' F' (fun p hp => ?_) lt (strsAre_get (by rw [Array.length_toList, hacc.1]; simp [ones]) fun j y hj => ?_)
  · rcases List.mem_cons.mp hp with rfl | hp
    · refine ⟨hS', Nat.ne_of_gt F.ns.lt, ?_⟩
      cases e : h₀.get? s.heap.objs.size with
      | none => rfl
      | some o => exact absurd (Heap.lt_size (F.keep _ _ e)) (Nat.lt_irrefl _)
    · exact ⟨hk _ _ (N p hp).1, (N p hp).2⟩
  · have hj' : j < x.cps.size := by
      have := (List.getElem?_eq_some_iff.mp hj).1
      simpa [ones] using this
    have hlt : j < acc'.size := Nat.lt_of_lt_of_eq hj' hacc.1.symm
    obtain ⟨c, u, hc, e⟩ := hacc.2 j (acc'[j]'hlt) (Array.getElem?_eq_getElem hlt)
    have hv : acc'.toList[j]? = some (.str ⟨#[c]⟩ u) := by rw [← e]; simp [hlt]
    rw [hv]
    have : y = ⟨#[c]⟩ := by
      have h2 : (ones x)[j]? = some (⟨#[c]⟩ : Str) := by simp [ones, hc]
      rw [hj] at h2; exact Option.some.inj h2
    exact ⟨u, by rw [this]⟩
end
theorem strs_len {vs : List Value} {ys : List Str} (h : StrsAre vs ys) : vs.length = ys.length := by induction h with
  | nil => rfl
  | cons _ _ _ ih => simp [ih]
theorem strs_rev {vs : List Value} {ys : List Str} (h : StrsAre vs ys) : StrsAre vs.reverse ys.reverse := by induction h with
  | nil => exact .nil
  | cons y t _ ih => simp only [List.reverse_cons]; exact KStt.strs_snoc ih
theorem ones_len (x : Str) : (ones x).length = x.cps.size := by simp [ones]

theorem strs_snoc_inv : ∀ {ys : List Str} {vs : List Value} {y : Str}, StrsAre vs (ys ++ [y]) → ∃ ws t, vs = ws ++ [.str y t] ∧ StrsAre ws ys
  | [], vs, y, h => by
    cases h with | cons _ t r => cases r; exact ⟨[], t, rfl, .nil⟩
  | z :: ys, vs, y, h => by
    cases h with | cons _ t r =>
    obtain ⟨ws, t', rfl, h'⟩ := strs_snoc_inv r
    exact ⟨_ :: ws, t', rfl, .cons _ _ h'⟩
section
variable {prog : Program} {w : World} {A : Around} {E : Value → Shared → Prop} {s : Shared} {Q : Bool → Shared → Prop} {l : Addr}
theorem truthy_snoc {p : List Value} {y : Value} (hl : s.heap.IsList l (p ++ [y]).toArray) (hz : p.length ≤ 1000000) (h : Q true { s with toks := s.toks + 1 + 1 }) : wpAny (model prog w) A (truthy (.ref l)) Q E s :=
  wpAny_truthy_list hl (by simp; omega) (by rw [show (!Array.isEmpty _) = true from by simp [Array.isEmpty]]; exact h)
theorem truthy_cons {p : List Value} {y : Value} (hl : s.heap.IsList l (y :: p).toArray) (hz : p.length ≤ 1000000) (h : Q true { s with toks := s.toks + 1 + 1 }) : wpAny (model prog w) A (truthy (.ref l)) Q E s :=
  wpAny_truthy_list hl (by simp; omega) (by rw [show (!Array.isEmpty _) = true from by simp [Array.isEmpty]]; exact h)
theorem truthy_nil (hl : s.heap.IsList l ([] : List Value).toArray) (h : Q false { s with toks := s.toks + 1 + 1 }) : wpAny (model prog w) A (truthy (.ref l)) Q E s :=
  wpAny_truthy_list hl (by simp) (by simpa using h)
end

end Mine
namespace Mine
section
open PyProof.V PySem.Spec PySem.SeqAt
theorem readsAll_strs {h : Heap} : ∀ {vs : List Value} {ys : List Str}, StrsAre vs ys → ReadsAll h vs (ys.map PyData.str) []
  | _, _, .nil => .nil
  | _, _, .cons k t r => by
    have := ReadsAll.cons (Reads.str (h := h) k t) (readsAll_strs (h := h) r)
    simpa using this
theorem reads_strs {h : Heap} {a : Addr} {vs : List Value} {ys : List Str} (hl : h.IsList a vs.toArray) (hi : StrsAre vs ys) : Reads h (.ref a) (.list (ys.map PyData.str)) [a] := by
  obtain ⟨o, ho, hc, n, hd⟩ := hl
  exact Reads.list ho hc hd (by simpa using readsAll_strs hi)
theorem canLay_strs : ∀ ys : List Str, (∀ y ∈ ys, PyData.strOk y = true) → PyData.canLayAll0 (ys.map PyData.str) = true
  | [], _ => by simp [PyData.canLayAll0]
  | n :: r, h => by simp [PyData.canLayAll0, PyData.canLay0, canLay_strs r fun y hy => h y (.tail _ hy), h n (.head _)]
theorem depth_strs : ∀ ys : List Str, PyData.depthAll (ys.map PyData.str) ≤ 1
  | [] => by simp [PyData.depthAll]
  | n :: r => by
    have := depth_strs r
    simp only [List.map_cons, PyData.depthAll, PyData.depth]
    omega
theorem shaped_strs (ys : List Str) (ok : ∀ y ∈ ys, PyData.strOk y = true) : shaped (.list (ys.map PyData.str)) = true := by
  have h1 := depth_strs ys
  have h2 : PyData.depth (.list (ys.map PyData.str)) ≤ 64 := by simp only [PyData.depth]; omega
  show (PyData.canLay0 (.list (ys.map PyData.str)) && decide (PyData.depth (.list (ys.map PyData.str)) ≤ 64)) = true
  rw [Bool.and_eq_true]
  exact ⟨by simp only [PyData.canLay0]; exact canLay_strs ys ok, decide_eq_true h2⟩
theorem noMix_strs : ∀ ys : List Str, noMixAll (ys.map PyData.str) (ys.map PyData.str) = true
  | [] => by simp [noMixAll]
  | _ :: r => by simp [noMixAll, noMix, noMix_strs r]
theorem same_strs : ∀ ys : List Str, PySem.Spec.sameAll (ys.map PyData.str) (ys.map PyData.str) = true
  | [] => by simp [PySem.Spec.sameAll]
  | n :: r => by
    simp only [List.map_cons, PySem.Spec.sameAll, PySem.Spec.same, same_strs r]
    simp
/-- two lists of the same texts -/
theorem ne_strs {prog : Program} {w : World} {A : Around} {E : Value → Shared → Prop} {s : Shared} {a b : Addr} {vs us : List Value} {ys : List Str} {Q : Value → Shared → Prop} (hl : s.heap.IsList a vs.toArray) (hi : StrsAre vs ys) (hl' : s.heap.IsList b us.toArray) (hi' : StrsAre us ys) (ok : ∀ y ∈ ys, PyData.strOk y = true) (hu : A.units + 64 < cLine)
    (h : Q (.bool false) s) : wpAny (model prog w) A (compareOp .NotEq (.ref a) (.ref b)) Q E s :=
  ne_dataH_same (reads_strs hl hi) (reads_strs hl' hi') (shaped_strs ys ok) (shaped_strs ys ok) hu (by simp only [noMix]; exact noMix_strs ys) (by simp only [PySem.Spec.same]; rw [same_strs]; exact h)
end

end Mine
namespace Mine
section
open Builtin.Generator
variable {prog : Program} {w : World} {A : Around} {E : Value → Shared → Prop} {s : Shared}
/-- how a generator's body that raises leaves: an exception of a built-in class that is no StopIteration -/
noncomputable def GenLeftBy (a : Addr) (g : Nat) (E : Value → Shared → Prop) (x : Value) (s₂ : Shared) : Prop :=
  ∃ e oe T, x = .ref e ∧ s₂.heap.get? e = some oe ∧ oe.cls = .type T ∧ isSubtype (.type T) (.type "StopIteration") = pure false ∧ s₂.heap.IsGen a g ∧ E x (s₂.setGen g .finished)

theorem wpAny_genLeft {a : Addr} {g : Nat} {α : Type} {x : Value} {Q : α → Shared → Prop} (h : GenLeftBy a g E x s) : wpAny (model prog w) A (genLeft (.ref a) x : Sem α) Q E (s.setGen g .finished) := by
  obtain ⟨e, oe, T, rfl, he, hc, hs, ⟨o, nm, qn, ho, hoc, hod, hos⟩, hE⟩ := h
  have hT : (s.setGen g .finished).TypeIs (.ref e) T := ⟨oe, he, hc⟩
  unfold genLeft
  refine wpAny_bind (m := madeByALambda _) ?_
  unfold madeByALambda
  refine wpAny_bind (wpAny_load ho ?_)
  refine wpAny_pure ?_
  refine wpAny_bind (wpAny_isInstance hT hs ?_)
  rw [Bool.and_false, if_neg Bool.false_ne_true]
  unfold genEscaped
  refine wpAny_bind (wpAny_isInstance hT hs ?_)
  exact wpAny_throw hE

/-- a fresh generator whose body raises before its first yield -/
theorem pyNext_raises {a : Addr} {g : Nat} {env : Env} {body : List Stmt} {Q : Option Value → Shared → Prop}
    (hl : s.heap.NoLimit) (hroom : A.depth < recursionLimit) (hg : s.heap.IsGen a g) (hgs : s.gens[g]? = some (.fresh (.func body env)))
    (h : wpAny (model prog w) (A.in1.over (.func body env) []) (execs body env) (fun _ _ => False)
      (fun x s₁ => wpAny (model prog w) (A.in1.over (.func body env) []) (leaving env x) (fun _ s₂ => GenLeftBy a g E x s₂) (fun _ _ => False) s₁) (s.setGen g .running)) :
    wpAny (model prog w) A (pyNext (.ref a)) Q E s := by
  unfold pyNext
  refine wpAny_bind (wpAny_attempt (wpAny_callSpecial?_slot (name := Str.ofString "__next__") hg.typeIs slot_gen_next
    (wpAny_call_entry slot_gen_next hg.typeIs entry_gen_next ?_ (args_gen_next _))))
  show wpAny _ _ (Builtin.Generator.genWake (.ref a) (.send .none)) _ _ s
  unfold Builtin.Generator.genWake
  refine wpAny_bind (wpAny_holding (wpAny_genNumber hg (wpAny_bind (wpAny_genState hgs ?_))))
  refine wpAny_bind (wpAny_roomToWake hl hroom ?_)
  show wpAny _ _ (.resume g (.send .none) [] _) _ _ s
  refine wpAny_resume (n := 0) (R := fun _ _ r s₁ => ∃ x, r = .error x ∧ GenLeftBy a g E x s₁) (Y := fun _ _ _ _ _ => False) hgs ?_ (fun x s₁ hx => ?_) (fun v s₁ gs' hv => hv.elim)
  · refine ⟨rfl, seg_func (seg_wrap (wpAny_mono h (fun _ _ f => f.elim) fun x s₁ hx => ?_))⟩
    exact seg_wrap (wpAny_mono hx (fun _ s₂ q => seg_end (.error x) ⟨x, rfl, q⟩) fun _ _ f => f.elim)
  · obtain ⟨x, rfl, hx⟩ := hx
    show wpAny _ _ (genLeft (.ref a) x) _ _ _
    have hx' := hx
    obtain ⟨e, oe, T, rfl, he, hc, hs, hg', hE⟩ := hx
    refine wpAny_genLeft (E := fun e s' => wpAny (model prog w) A _ Q E s') ⟨e, oe, T, rfl, he, hc, hs, hg', ?_⟩
    dsimp only
    refine wpAny_bind (wpAny_isInstance (T := T) (b := false) ⟨oe, he, hc⟩ hs ?_)
    rw [if_neg Bool.false_ne_true]
    exact wpAny_throw hE

/-- a loop whose first step raises -/
theorem for_raises {target : Expr} {it : Value} {body orelse : List Stmt} {env : Env} {R : Result → Shared → Prop}
    (h : wpAny (model prog w) A (pyNext it) (fun _ _ => False) (notedBy (model prog w) A env fun e s' => R (.error e) s') s) :
    codeAny (model prog w) A (.forLoop target it body orelse env) R s :=
  codeAny_forLoop_any (fun _ s' => s' = s) (fun n s' e => by subst e; exact wpAny_mono h (fun _ _ f => f.elim) fun _ _ q => q) 0 rfl
end

end Mine
namespace Mine
section
open Heap
variable {M : Model} {A : Around} {E : Value → Shared → Prop} {s : Shared}
/-- a frame looks at an exception that was just made -/
theorem note_made {base h : Heap} {env : Env} {outer : List Env} {L e : Addr} {cls : Value} {args : List Value} {Q : Unit → Shared → Prop}
    (hfr : A.frames = some (env :: outer)) (hf : env.frame = some L) (hkb : base.StaysIn h) (hl : h.FunFrames base (env :: outer)) (hx : Heap.MadeExcOf h s.heap e cls args)
    (hQ : ∀ h' t, Heap.HeldW base (env :: outer) e cls (.ref t) L h' → h'.TupAt t args → base.get? t = none → s.heap.UpToSlots h' → Q () { s with heap := h' }) :
    wpAny M A (noteFrame (.ref e) env) Q E s := by
  obtain ⟨t, he, htn, ht⟩ := hx.there
  have none' : ∀ b, h.get? b = none → base.get? b = none := fun b => fresh_of_stays hkb
  unfold noteFrame
  simp only [hf]
  refine wpAny_bind (wpAny_field he rfl (show (#[Value.ref t, .none, .none, .none, .bool false, .none] : Array Value)[1]? = some Value.none from rfl) ?_)
  rw [if_neg (show ¬ ((Value.none != Value.none) = true) from by decide)]
  refine wpAny_entryW (a0 := .ref t) hfr (hl.of_keeps fun b o hb _ => ⟨o, hx.keeps b o hb, rfl⟩) hf he (fun b o hb => hx.keeps b o (hkb b o hb)) (none' e hx.new) rfl (show 1 < 6 by decide) rfl fun h' hN => ?_
  obtain ⟨k1, k2, k3, k4⟩ := hN
  exact hQ h' t ⟨k1, none' e hx.new, k2, k3⟩ (Heap.TupAt.of_slots ⟨_, _, ht, rfl, rfl⟩ k4) (none' t htn) k4

/-- a held exception comes back from a statement of the frame that holds it -/
theorem came_held {base : Heap} {env : Env} {l : List Env} {L e : Addr} {cls a0 : Value} (hf : env.frame = some L) (hh : Heap.HeldW base l e cls a0 L s.heap)
    (hQ : ∀ h', Heap.HeldW base l e cls a0 L h' → s.heap.UpToSlots h' → E (.ref e) { s with heap := h' }) : cameBackBy M A env E (.ref e) s := by
  obtain ⟨hkb, hen, hl, oe, vs, T, oT, ts, he, hcls, hd, h1, hnT, hTe, hT, hdT, h3⟩ := hh
  have hsz3 : 3 < ts.size := (Array.getElem?_eq_some_iff.mp h3).1
  have other : ∀ b, b ≠ T → (s.heap.update T (Obj.mapFields (·.setIfInBounds 3 (rawInt L)))).get? b = s.heap.get? b := fun b hb => Heap.get?_update_other _ _ (Ne.symm hb)
  have noRec : ∀ b o, s.heap.get? b = some o → (∀ vs, o.data ≠ .fields vs) → b ≠ T := fun b o hb hnf q => by
    rw [q, hT] at hb; injection hb with hb; subst hb; exact hnf ts hdT
  unfold cameBackBy
  refine wpAny_bind (wpAny_field he hd h1 ?_)
  rw [if_neg (show ¬ ((Value.ref T == Value.none) = true) from by simp)]
  unfold setFlight
  refine wpAny_bind (wpAny_field he hd h1 ?_)
  rw [if_pos (show (Value.ref T != Value.none) = true from by simp), hf]
  refine wpAny_setField hT hdT hsz3 (hQ _ ⟨fun b o hbo => (other b fun q => by rw [q, hnT] at hbo; cases hbo).trans (hkb b o hbo), hen,
    hl.of_keeps fun b o hb hnf => ⟨o, (other b (noRec b o hb hnf)).trans hb, rfl⟩, ?_⟩ fun b o hb hnf => ⟨o.slots, (other b (noRec b o hb hnf)).trans hb⟩)
  exact ⟨oe, vs, T, _, _, (other e (Ne.symm hTe)).trans he, hcls, hd, h1, hnT, hTe, Heap.get?_update_self _ hT (Obj.isFreed_of_fields (Obj.data_mapFields hdT _)), Obj.data_mapFields hdT _, by simp [hsz3]⟩
end

end Mine
namespace Mine
section
open Sem (wp)
variable {M : Model} {A : Around} {R : GenEnd} {Y : Protocol} {n : Nat} {s₀ : Shared} {c : Code} {fs : List Frame} {s : Shared} {env : Env}
  {K : Flow → Sem Fin} {H : Value → Sem Fin} {gd : Bool → Bool} {lv : List Value → List Value}
/-- what waits behind a statement's own activation (a loop) -/
noncomputable def ownK (env : Env) (K : Flow → Sem Fin) (H : Value → Sem Fin) (gd : Bool → Bool) (lv : List Value → List Value) (r : Result) : Sem Fin :=
  ((match r with | .ok f => (.pure f : Sem Flow) | .error e => .raise e).onRaise fun (x : Value) => do
        if (← field x 1) == Value.none then unsupported "frame.own-activation:exception-without-traceback"
        setFlight x env.frame).wrap K H gd lv
theorem ownK_ok {f : Flow} : ownK env K H gd lv (.ok f) = K f := rfl
/-- a statement of a generator's body that yields nothing -/
theorem seg_stmt {st : Stmt} (h : wpAny M (A.over c fs) (exec st env) (fun f s' => Seg M A R Y n s₀ c (K f) fs s') (fun _ _ => False) s) :
    Seg M A R Y n s₀ c ((exec st env).wrap K H gd lv) fs s := seg_wrap (wpAny_mono h (fun _ _ x => x) fun _ _ x => x.elim)
theorem seg_If {test : Expr} {body orelse : List Stmt} {pos : Pos}
    (h : wpAny M (A.over c fs) (isTrue test env (eval test env)) (fun b s' => if b = true then Seg M A R Y n s₀ c ((execs body env).wrap K H gd lv) fs s' else Seg M A R Y n s₀ c ((execs orelse env).wrap K H gd lv) fs s') (fun _ _ => False) s) :
    Seg M A R Y n s₀ c ((exec (.If test body orelse pos) env).wrap K H gd lv) fs s := by
  rw [exec_If]
  refine seg_bind_wrap (wpAny_standAt ?_)
  refine seg_bind_wrap (wpAny_mono h (fun b s' hb => ?_) fun _ _ x => x.elim)
  cases b <;> exact hb
theorem seg_For {target iter : Expr} {body orelse : List Stmt} {pos : Pos}
    (h : wpAny M (A.over c fs) (eval iter env) (fun x s₁ => wpAny M (A.over c fs) (pyIter x) (fun it s₂ => ∀ p, Seg M A R Y n s₀ (.forLoop target it body orelse env) (M.den (.forLoop target it body orelse env))
      (.ret (ownK env K H gd lv) none (gd false) (lv []) c p [] :: fs) s₂) (fun _ _ => False) s₁) (fun _ _ => False) s)
    (hs : ∀ x, foldedSetIterable iter env x = pure x := by intro _; rfl) :
    Seg M A R Y n s₀ c ((exec (.For target iter body orelse pos) env).wrap K H gd lv) fs s := by
  rw [exec_For]
  refine seg_bind_wrap (wpAny_standAt ?_)
  refine seg_bind_wrap (wpAny_mono h (fun x s₁ h₁ => ?_) fun _ _ x => x.elim)
  refine seg_bind_wrap (wpAny_of_eq (hs x) ?_)
  refine seg_bind_wrap (wpAny_standAt ?_)
  refine seg_bind_wrap (wpAny_holding (wpAny_mono h₁ (fun it s₂ h₂ => ?_) fun _ _ x => x.elim))
  exact seg_call h₂
end
section
variable {prog : Program} {w : World} {A : Around} {R : GenEnd} {Y : Protocol} {n : Nat} {s₀ : Shared} {fs : List Frame} {s : Shared} {env : Env}
/-- how a loop's body leaves by an exception -/
noncomputable def loopH (env : Env) (e : Value) : Sem Fin := (do noteFrame e env; theTreesLotGoes e : Sem Unit).wrap (fun _ => .raise e) .raise id id
noncomputable def loopK (c : Code) : Flow → Sem Fin
  | .next | .cont => .pure (.again c)
  | .brk => .pure (.done .next)
  | .ret v => .pure (.done (.ret v))
theorem seg_forLoop {x : Str} {px : Pos} {it : Value} {body : List Stmt}
    (h : wpAny (model prog w) (A.over (.forLoop (.Name x px) it body [] env) fs) (pyNext it) (fun r s₁ => match r with
      | none => Seg (model prog w) A R Y n s₀ (.block [] env) (leafOf (.ok .next)) fs s₁
      | some v => wpAny (model prog w) (A.over (.forLoop (.Name x px) it body [] env) fs) (assign (.Name x px) env v) (fun _ s₂ =>
          Seg (model prog w) A R Y n s₀ (.forLoop (.Name x px) it body [] env) ((execs body env).wrap (loopK (.forLoop (.Name x px) it body [] env)) (loopH env) id id) fs s₂) (fun _ _ => False) s₁) (fun _ _ => False) s) :
    Seg (model prog w) A R Y n s₀ (.forLoop (.Name x px) it body [] env) ((model prog w).den (.forLoop (.Name x px) it body [] env)) fs s := by
  show Seg _ A R Y n s₀ _ ((forTurn (.Name x px) it body [] env).onRaise (fun x => do noteFrame x env; theTreesLotGoes x)) fs s
  unfold forTurn
  rw [Sem.onRaise_eq_wrap]
  refine seg_bind_wrap (wpAny_standAt ?_)
  refine seg_bind_wrap (wpAny_onRaise (wpAny_mono h (fun r s₁ h₁ => ?_) fun _ _ f => f.elim))
  cases r with
  | none => exact seg_again rfl h₁
  | some v =>
    refine seg_bind_wrap (wpAny_of_eq (rfl : letOwnedTupleGo (.Name x px) it v = pure ()) ?_)
    refine seg_bind_wrap (wpAny_mono h₁ (fun _ s₂ h₂ => ?_) fun _ _ f => f.elim)
    rw [Sem.bind_eq_wrap', Sem.wrap_wrap]
    rw [Sem.wrap_congr (execs body env) _ _ (K' := loopK (.forLoop (.Name x px) it body [] env)) (H' := loopH env)
      (fun f => by cases f <;> rfl)
      (fun e => by first | exact Sem.bind_eq_wrap _ _ | (show (do noteFrame e env; theTreesLotGoes e : Sem Unit).bind (fun _ => .raise e) = _; rw [Sem.bind_eq_wrap]; rfl))]
    exact h₂
end

end Mine
namespace Mine
section
variable {prog : Program} {w : World} {A : Around} {E : Value → Shared → Prop} {s : Shared}
/-- a generator function's next step: a value, and what is left of it; or its end -/
theorem pyNext_woken {a : Addr} {g n : Nat} {gs : GenState} {P : Nat → Shared → Shared → Prop} {Y : Protocol} {Q : Option Value → Shared → Prop} (hh : A.handled = none)
    (hl : s.heap.NoLimit) (hroom : A.depth < recursionLimit) (hg : s.heap.IsGen a g) (hgs : s.gens[g]? = some gs)
    (hgo : gs.Goes (model prog w) A.in1 (fun n s₀ r s₁ => r = .ok (.ret .none) ∧ P n s₀ s₁) Y n (.send .none) (s.setGen g .running))
    (hY : ∀ v s₁ gs', gs'.bare = true → Y (n - 1) (s.setGen g .running) v s₁ (fun r' s'' => match n with
        | 0 => False
        | m + 1 => gs'.Goes (model prog w) A.in1 (fun n s₀ r s₁ => r = .ok (.ret .none) ∧ P n s₀ s₁) Y m r' s'') → Q (some v) (s₁.setGen g gs'))
    (hP : ∀ s₁, P n (s.setGen g .running) s₁ → ∀ h', (∀ b o, s₁.heap.get? b = some o → h'.get? b = some o) → Q none { s₁.setGen g .finished with heap := h' }) :
    wpAny (model prog w) A (pyNext (.ref a)) Q E s := by
  have live : gs.status = .fresh ∨ gs.status = .suspended := by
    cases gs with
    | fresh _ => exact .inl rfl
    | suspended _ _ _ _ _ _ => exact .inr rfl
    | running => exact hgo.elim
    | finished => exact hgo.elim
  unfold pyNext
  refine wpAny_bind (wpAny_attempt (wpAny_callSpecial?_slot (name := Str.ofString "__next__") hg.typeIs slot_gen_next
    (wpAny_call_entry slot_gen_next hg.typeIs entry_gen_next ?_ (args_gen_next _))))
  show wpAny _ _ (Builtin.Generator.genWake (.ref a) (.send .none)) _ _ s
  unfold Builtin.Generator.genWake
  refine wpAny_bind (wpAny_holding (wpAny_genNumber hg (wpAny_bind (wpAny_genState hgs ?_))))
  rcases live with e | e
  all_goals
    rw [e]
    refine wpAny_bind (wpAny_roomToWake hl hroom ?_)
    show wpAny _ _ (.resume g (.send .none) [] _) _ _ s
    refine wpAny_resumeQ hgs hgo (fun x s₁ hx => ?_) (fun v s₁ gs' hb hv => wpAny_pure ⟨v, rfl, wpAny_pure (hY v s₁ gs' hb hv)⟩)
    obtain ⟨rfl, hp⟩ := hx
    show wpAny _ _ (newExc (.type "StopIteration") [] >>= _) _ _ _
    refine wpAny_bind ?_
    simp only [newExc, newTuple]
    refine wpAny_bind (wpAny_newObj_type ?_ (by size_fits))
    refine wpAny_bind (m := firstArgMember _ _) (wpAny_of_eq (a := Value.none) (by first | rfl | (simp only [firstArgMember]; rfl)) ?_)
    refine wpAny_newObj_type ?_ (by size_fits)
    simp only [raiseNew]
    refine wpAny_bind (wpAny_bind (wpAny_handled ?_))
    rw [show A.in1.handled = none from hh]
    refine wpAny_throw ?_
    refine wpAny_bind (wpAny_isInstance (T := "StopIteration") (b := true) ⟨_, Heap.get?_push_size _ rfl, rfl⟩ isSubtype_stop ?_)
    exact wpAny_pure (hP s₁ hp _ fun b o hb => Heap.get?_push_of_some _ (Heap.get?_push_of_some _ hb))
end
/-- a heap's first n places -/
noncomputable def cutH (h : Heap) (n : Nat) : Heap := { h with objs := h.objs.extract 0 n }
theorem cutH_get {h : Heap} {n b : Nat} (hb : b < n) : (cutH h n).get? b = h.get? b := by
  unfold Heap.get? cutH
  rw [show (h.objs.extract 0 n)[b]? = h.objs[b]? by rw [Array.getElem?_extract]; simp [hb]; intro q; (have q' : min n h.objs.size ≤ b := q); omega]
theorem cutH_size {h : Heap} {n : Nat} : (cutH h n).objs.size ≤ n := by
  simp only [cutH, Array.size_extract]; omega
theorem cutH_of {h : Heap} {n b : Nat} {o : Obj} (e : (cutH h n).get? b = some o) : b < n ∧ h.get? b = some o :=
  have hb : b < n := Nat.lt_of_lt_of_le (Heap.lt_size e) cutH_size
  ⟨hb, (cutH_get hb).symm.trans e⟩
theorem cutH_none {h : Heap} {n b : Nat} (hb : n ≤ b) : (cutH h n).get? b = none := Heap.get?_none_of_le (Nat.le_trans cutH_size hb)
theorem cutH_keeps {g h : Heap} {n : Nat} (hs : g.objs.size ≤ n) (k : ∀ b o, g.get? b = some o → h.get? b = some o) : ∀ b o, g.get? b = some o → (cutH h n).get? b = some o :=
  fun b o e => (cutH_get (Nat.lt_of_lt_of_le (Heap.lt_size e) hs)).trans (k b o e)

/-- what a generator that tells ints keeps to: its frame and its iterator alone change, and woken so it goes on -/
noncomputable def GY (g1 : Heap) (L2 l G : Addr) (lo oG : Obj) (out : List Int) (fin : Bool) : Protocol := fun m s₀ v s kap =>
  ∃ val tv h' tk' I oL oI, out[out.length - 1 - m]? = some val ∧ v = .int val tv ∧ s = { s₀ with heap := h', toks := tk' } ∧ (∀ b o, b < L2 → s₀.heap.get? b = some o → h'.get? b = some o) ∧
    h'.get? G = some oG ∧ h'.get? L2 = some oL ∧ h'.get? I = some oI ∧ G < I ∧
    (m ≠ 0 ∨ fin = true → ∀ s'' : Shared, g1.StaysIn s''.heap → s''.heap.get? l = some lo → s''.heap.get? G = some oG → s''.heap.get? L2 = some oL → s''.heap.get? I = some oI → kap (.send .none) s'')
noncomputable def GP (L2 G : Addr) (oG : Obj) (fin : Bool) (n : Nat) (s₀ s : Shared) : Prop :=
  n = 0 ∧ fin = true ∧ ∃ h' tk', s = { s₀ with heap := h', toks := tk' } ∧ (∀ b o, b < L2 → s₀.heap.get? b = some o → h'.get? b = some o) ∧ h'.get? G = some oG
/-- a generator that is to tell the ints of out, from here on n of them -/
noncomputable def GGo (prog : Program) (w : World) (A : Around) (g1 : Heap) (L2 l G : Addr) (lo oG : Obj) (out : List Int) (fin : Bool) (gs : GenState) (n : Nat) (s : Shared) : Prop :=
  gs.Goes (model prog w) A (fun n s₀ r s₁ => r = .ok (.ret .none) ∧ GP L2 G oG fin n s₀ s₁) (GY g1 L2 l G lo oG out fin) n (.send .none) s
section
open PySem.W
theorem over_for {dp un : Nat} {gd : Option (List Code)} {n : Str} {sc : Scope} {L1 fa : Addr} {cd it : Value} {outer : List Env} {body : List Stmt} {t : Expr} {b : List Stmt} {env : Env} {k : Result → Sem PySem.Fin} {p : Pos} {kp : List Value} :
  (ktrTop dp un gd n sc L1 fa cd [] outer).over (.forLoop t it b [] env) [.ret k none (id false) (id []) (.func body env) p kp] = (ktrTop dp un gd n sc L1 fa cd [] outer).deeper env := by
  cases gd <;> rfl
theorem over_while {dp un : Nat} {gd : Option (List Code)} {n : Str} {sc : Scope} {L1 fa : Addr} {cd it : Value} {outer : List Env} {body b2 : List Stmt} {t t2 : Expr} {b : List Stmt} {env : Env} {k k2 : Result → Sem PySem.Fin} {p p2 : Pos} {kp kp2 : List Value} :
  (ktrTop dp un gd n sc L1 fa cd [] outer).over (.whileLoop t2 b2 [] env) [.ret k2 none (id false) (id []) (.forLoop t it b [] env) p2 kp2, .ret k none (id false) (id []) (.func body env) p kp] = (ktrTop dp un gd n sc L1 fa cd [] outer).deeper env := by
  cases gd <;> rfl
end

end Mine
namespace Mine
section
open PySem.W
variable {prog : Program} {w : World} {A₀ A : Around} {s : Shared} {base h₀ g : Heap} {outer : List Env} {L : Addr} {m : Str → Option Value} {env : Env} {news : List (Addr × Obj)}
  {R : Result → Shared → Prop} {name qual : Str} {params : Arguments} {body : List Stmt} {scope : Scope} {cl : List (Str × Addr)} {dV kV doc pm cdv ct : Value} {an : Option Addr} {fo : Obj} {f : Addr} {args : Args} {binds : List (Str × Value)}

/-- a def entered, its caller's frame in the ground; what it leaves is for the caller to say -/
theorem callT (B : Below A₀ base outer h₀) (F : Fr h₀ L s.heap m) (N : News h₀ L s.heap news) (hlim : h₀.NoLimit) (hA : A.frames = some (env :: outer)) (hf : env.frame = some L) (hke : env.scope.kind = .function)
    (ho : s.heap.get? f = some fo) (hd : fo.data = .func (fnX name qual params body scope [] dV kV doc pm an cdv ct)) (hcd : s.heap.CodeRec cdv qual) (hroom : A.depth < recursionLimit)
    (hbind : BindsTo s (fnX name qual params body scope [] dV kV doc pm an cdv ct) args binds) (hloc : ∀ y ∈ binds, scope.names.lookup y.1 = some .local)
    (h : ∀ g L' h₁, Fr h₀ L g m → Fr g L' h₁ (fun y => binds.reverse.lookup y) → News g L' h₁ news → Below A base (env :: outer) g → h₀.StaysIn g → (∀ p ∈ news, p.1 < L') →
      wpAny (model prog w) (A.deeper (envOf qual scope L' f cdv)) (execs body (envOf qual scope L' f cdv))
        (fun fl s' => R (.ok (.ret (match fl with | .ret v => v | _ => .none))) s')
        (fun e s' => wpAny (model prog w) (A.deeper (envOf qual scope L' f cdv)) (leaving (envOf qual scope L' f cdv) e) (fun _ s'' => R (.error e) s'') (fun e' s'' => R (.error e') s'') s')
        { s with heap := h₁, toks := s.toks + binds.length })
    (hcell : ∀ x ∈ scope.names, x.2 ≠ .cell) (hco : scope.isCoroutine = false := by rfl) (hgen : scope.isGenerator = false := by rfl) (hk : scope.kind = .function := by rfl) : codeAny (model prog w) A (.call (.ref f) args) R s := by
  obtain ⟨FG, BG, st, _⟩ := groundX (R := R) B F N hA hf hke
  refine codeAny_call_def (fd := fnX name qual params body scope [] dV kV doc pm an cdv ct) (body := body) (binds := binds) hroom ho hd (hlim.keeps F.keep) hcd rfl hbind hcell hloc (fun h₁ hns hk₁ => ?_) hco hgen hk
  exact h _ s.heap.objs.size h₁ FG ⟨hns, fun b o e => hk₁ b o (of_hideAll _ e), Nat.le_of_eq (hideAll_size _ _)⟩
    (fun p hp => ⟨hk₁ _ _ (N p hp).1, Nat.ne_of_lt (Heap.lt_size (N p hp).1), hideAll_none _ (List.mem_map_of_mem hp)⟩) BG st (fun p hp => Heap.lt_size (N p hp).1)

/-- the caller's frame holds what it held, where only slots have turned -/
theorem leave_turn {g' h' : Heap} {L' : Addr} {m' : Str → Option Value} {news' : List (Addr × Obj)} (FG : Fr h₀ L g m) (st : h₀.StaysIn g) (T : KtsTurn [L] g g') (F' : Fr g' L' h' m') (N' : News g' L' h' news') :
    Fr h₀ L h' m ∧ News h₀ L h' news' := by
  obtain ⟨oL, es, ep, hL, hLd, hLk, hLf⟩ := FG.ns
  obtain ⟨sl, hs⟩ := T.up hL
  have nL₀ : h₀.get? L = none := kts_self FG
  refine ⟨⟨⟨_, es, ep, F'.keep _ _ hs, hLd, hLk, hLf⟩, fun b o e => F'.keep b o (T.other b o (st b o e) fun q => ?_), FG.above⟩, fun p hp => ⟨(N' p hp).1, fun q => ?_, ?_⟩⟩
  · rw [List.mem_singleton.mp q, nL₀] at e; cases e
  · have := (N' p hp).2.2; rw [q, hs] at this; cases this
  · cases q : h₀.get? p.1 with
    | none => rfl
    | some o =>
      obtain ⟨sl', hs'⟩ := T.up (st _ _ q)
      have := (N' p hp).2.2
      rw [hs'] at this
      cases this

/-- the object of a generator -/
noncomputable def genObj (g : Nat) (nm qn : Str) (t u : Tok) : Obj := { cls := .type "generator", data := .fields #[.int (g : Int) 0, .str nm t, .str qn u] }

/-- a generator's def called: its frame and its object are made -/
theorem gen_made (B : Below A₀ base outer h₀) (F : Fr h₀ L s.heap m) (N : News h₀ L s.heap news) (hlim : h₀.NoLimit) (hA : A.frames = some (env :: outer)) (hf : env.frame = some L) (hke : env.scope.kind = .function)
    (ho : s.heap.get? f = some fo) (hd : fo.data = .func (fnX name qual params body scope [] dV kV doc pm an cdv ct)) (hcd : s.heap.CodeRec cdv qual) (hroom : A.depth < recursionLimit)
    (hbind : ∀ s, BindsTo s (fnX name qual params body scope [] dV kV doc pm an cdv ct) args binds) (hloc : ∀ y ∈ binds, scope.names.lookup y.1 = some .local)
    (h : ∀ g L' h₁ G t u tk, Fr h₀ L g m → Fr g L' h₁ (fun y => binds.reverse.lookup y) → News g L' h₁ ((G, genObj s.gens.size name qual t u) :: news) → Below A base (env :: outer) g → h₀.StaysIn g → (∀ p ∈ news, p.1 < L') → L' < G →
      Fr h₀ L h₁ m → News h₀ L h₁ ((G, genObj s.gens.size name qual t u) :: news) →
      R (.ok (.ret (.ref G))) { s with heap := h₁, gens := s.gens.push (.fresh (.func body (envOf qual scope L' f cdv))), toks := tk })
    (hcell : ∀ x ∈ scope.names, x.2 ≠ .cell) (hco : scope.isCoroutine = false := by rfl) (hgen : scope.isGenerator = true := by rfl) (hk : scope.kind = .function := by rfl) : codeAny (model prog w) A (.call (.ref f) args) R s := by
  obtain ⟨FG, BG, st, _⟩ := groundX (R := R) B F N hA hf hke
  refine codeAny_call_generator (fd := fnX name qual params body scope [] dV kV doc pm an cdv ct) (body := body) hroom ho hd hco hgen rfl hcd (hbind _ _ _ _ _ ?_)
  refine wpAny_newFunctionEnv hcell hloc (fun h₂ hns hsb => ⟨(hlim.keeps F.keep).fresh _ hsb, ?_⟩) hk
  have up₂ : ∀ b o, s.heap.get? b = some o → h₂.get? b = some o := fun b o e => hsb.extBut b o (Nat.ne_of_lt (Heap.lt_size e)) (Heap.get?_push_of_some _ e)
  have hL2 : s.heap.objs.size < h₂.objs.size := hns.lt
  dsimp only
  generalize hgo : ({ cls := .type "generator", data := .fields #[.int (s.gens.size : Int) 0, .str name (s.toks + binds.length), .str qual (s.toks + binds.length + 1)] } : Obj) = go
  have up : ∀ b o, s.heap.get? b = some o → (h₂.push go).get? b = some o := fun b o e => Heap.get?_push_of_some _ (up₂ b o e)
  have hG : (h₂.push go).get? h₂.objs.size = some go := Heap.get?_push_size _ (by subst hgo; rfl)
  have hlt : L < s.heap.objs.size := F.ns.lt
  have none₀ : h₀.get? h₂.objs.size = none := by
    cases q : h₀.get? h₂.objs.size with
    | none => rfl
    | some o => exact absurd (Heap.lt_size (up₂ _ _ (F.keep _ _ q))) (Nat.lt_irrefl _)
  have noneG : (hideAll s.heap (news.map (·.1))).get? h₂.objs.size = none := by
    cases q : (hideAll s.heap (news.map (·.1))).get? h₂.objs.size with
    | none => rfl
    | some o => exact absurd (Heap.lt_size (up₂ _ _ (of_hideAll _ q))) (Nat.lt_irrefl _)
  refine h _ s.heap.objs.size (h₂.push go) h₂.objs.size (s.toks + binds.length) (s.toks + binds.length + 1) _ FG ⟨hns.at' fun o e => Heap.get?_push_of_some _ e, fun b o e => up b o (of_hideAll _ e), Nat.le_of_eq (hideAll_size _ _)⟩ ?_ BG st (fun p hp => Heap.lt_size (N p hp).1) hL2 (F.keeps up) ?_
  · intro p hp
    rcases List.mem_cons.mp hp with rfl | hp
    · exact ⟨hG.trans (congrArg some hgo.symm), Nat.ne_of_gt hL2, noneG⟩
    · exact ⟨up _ _ (N p hp).1, Nat.ne_of_lt (Heap.lt_size (N p hp).1), hideAll_none _ (List.mem_map_of_mem hp)⟩
  · intro p hp
    rcases List.mem_cons.mp hp with rfl | hp
    · exact ⟨hG.trans (congrArg some hgo.symm), Nat.ne_of_gt (Nat.lt_trans hlt hL2), none₀⟩
    · exact ⟨up _ _ (N p hp).1, (N p hp).2⟩
theorem gen_is {h : Heap} {L G : Addr} {g : Nat} {nm qn : Str} {t u : Tok} (N : News h₀ L h news) (hm : (G, genObj g nm qn t u) ∈ news) : h.IsGen G g := ⟨_, _, _, (N _ hm).1, rfl, rfl, rfl⟩
end
section
open PySem.W
variable {prog : Program} {w : World} {A₀ A : Around} {s : Shared} {base h₀ : Heap} {outer : List Env} {L : Addr} {m : Str → Option Value} {env : Env} {news : List (Addr × Obj)} {K : Frag} {p : Program} {loose : List Str} {mean : ExcName → Option Value} {mg mb : Str → Option Value}
  {R : Result → Shared → Prop} {name qual : Str} {params : Arguments} {body : List Stmt} {scope : Scope} {dV kV doc pm cdv ct oc : Value} {an od : Option Addr} {osl : Array (Option Value)} {f : Addr} {args : Args} {binds : List (Str × Value)}
theorem code_defT (B : Below A₀ base outer h₀) (F : Fr h₀ L s.heap m) (X₀ : K.In h₀) (N : News h₀ L s.heap news) (T : Top p loose mean mg mb h₀) (hA : A.frames = some (env :: outer)) (hf : env.frame = some L) (hke : env.scope.kind = .function)
    (ho : K.lookup f = some ⟨oc, od, .func (fnX name qual params body scope [] dV kV doc pm an cdv ct), osl⟩) (hcd : codeIn K cdv qual = true) (hroom : A.depth < recursionLimit)
    (hbind : BindsTo s (fnX name qual params body scope [] dV kV doc pm an cdv ct) args binds) (hloc : ∀ y ∈ binds, scope.names.lookup y.1 = some .local)
    (h : ∀ g L' h₁, Fr h₀ L g m → Fr g L' h₁ (fun y => binds.reverse.lookup y) → News g L' h₁ news → Below A base (env :: outer) g → h₀.StaysIn g → (∀ p ∈ news, p.1 < L') → K.In g → Top p loose mean mg mb g →
      wpAny (model prog w) (A.deeper (envOf qual scope L' f cdv)) (execs body (envOf qual scope L' f cdv))
        (fun fl s' => R (.ok (.ret (match fl with | .ret v => v | _ => .none))) s')
        (fun e s' => wpAny (model prog w) (A.deeper (envOf qual scope L' f cdv)) (leaving (envOf qual scope L' f cdv) e) (fun _ s'' => R (.error e) s'') (fun e' s'' => R (.error e') s'') s')
        { s with heap := h₁, toks := s.toks + binds.length })
    (hcell : ∀ x ∈ scope.names, x.2 ≠ .cell) (hco : scope.isCoroutine = false) (hgen : scope.isGenerator = false) (hk : scope.kind = .function) : codeAny (model prog w) A (.call (.ref f) args) R s := by
  have X := X₀.keeps F.keep
  exact callT B F N T.nolimit hA hf hke (X _ _ ho) rfl (codeRec_of X hcd) hroom hbind hloc (fun g L' h₁ a b c d e i => h g L' h₁ a b c d e i (X₀.keeps e) (T.keeps e)) hcell hco hgen hk
theorem code_gen (B : Below A₀ base outer h₀) (F : Fr h₀ L s.heap m) (X₀ : K.In h₀) (N : News h₀ L s.heap news) (T : Top p loose mean mg mb h₀) (hA : A.frames = some (env :: outer)) (hf : env.frame = some L) (hke : env.scope.kind = .function)
    (ho : K.lookup f = some ⟨oc, od, .func (fnX name qual params body scope [] dV kV doc pm an cdv ct), osl⟩) (hcd : codeIn K cdv qual = true) (hroom : A.depth < recursionLimit)
    (hbind : ∀ s, BindsTo s (fnX name qual params body scope [] dV kV doc pm an cdv ct) args binds) (hloc : ∀ y ∈ binds, scope.names.lookup y.1 = some .local)
    (h : ∀ g L' h₁ G t u tk, Fr h₀ L g m → Fr g L' h₁ (fun y => binds.reverse.lookup y) → News g L' h₁ ((G, genObj s.gens.size name qual t u) :: news) → Below A base (env :: outer) g → h₀.StaysIn g → (∀ p ∈ news, p.1 < L') → L' < G →
      Fr h₀ L h₁ m → News h₀ L h₁ ((G, genObj s.gens.size name qual t u) :: news) → K.In g → Top p loose mean mg mb g →
      R (.ok (.ret (.ref G))) { s with heap := h₁, gens := s.gens.push (.fresh (.func body (envOf qual scope L' f cdv))), toks := tk })
    (hcell : ∀ x ∈ scope.names, x.2 ≠ .cell) (hco : scope.isCoroutine = false) (hgen : scope.isGenerator = true) (hk : scope.kind = .function) : codeAny (model prog w) A (.call (.ref f) args) R s := by
  have X := X₀.keeps F.keep
  exact gen_made B F N T.nolimit hA hf hke (X _ _ ho) rfl (codeRec_of X hcd) hroom hbind hloc (fun g L' h₁ G t u tk a b c d e i j k l => h g L' h₁ G t u tk a b c d e i j k l (X₀.keeps e) (T.keeps e)) hcell hco hgen hk
end
theorem over_deeper (A : Around) (body : List Stmt) (env : Env) : A.over (.func body env) [] = A.deeper env := by
  obtain ⟨h, d, f, g, u⟩ := A
  cases f <;> cases g <;> rfl
theorem ktr_in1 {dp un : Nat} {gd : Option (List Code)} {cn n : Str} {cs sc : Scope} {L a L1 f : Addr} {ccd cd : Value} {cl : List (Str × Addr)} {outer : List Env} :
    ((ktrTop dp un gd cn cs L a ccd cl outer).deeper (envOf n sc L1 f cd)).in1 = ktrTop (dp + 1) (un + 3 + 1) gd n sc L1 f cd [] (envX cn cs L a ccd cl :: outer) := rfl
theorem gen_last {gs : Array GenState} {x : GenState} : (gs.push x)[gs.size]? = some x := by simp

end Mine
namespace Mine
section
open PySem.W
section
variable {M : Model} {A A' : Around} {E : Value → Shared → Prop} {s' : Shared} {base g h : Heap} {outer : List Env} {L a e : Addr} {m : Str → Option Value} {name : Str} {scope : Scope} {cd : Value} {Q : Value → Unit → Shared → Prop} {news : List (Addr × Obj)}
/-- an exception just made in a loop of a frame leaves the loop and the frame -/
theorem raise_loop {cls : Value} {vs : List Value} (K : Below A base outer g) (hx : Heap.MadeExcOf h s'.heap e cls vs) (F : Fr g L h m) (N : News g L h news)
    (hQ : ∀ h' t, RaisedS base g outer e cls t vs news h' → g.UpToSlots h' → Q (.ref e) () { s' with heap := h' }) (hk : scope.kind = .function := by rfl) :
    notedBy M (A.deeper (envOf name scope L a cd)) (envOf name scope L a cd) (cameBackBy M A' (envOf name scope L a cd) (fun x s₁ => wpAny M (A.deeper (envOf name scope L a cd)) (leaving (envOf name scope L a cd) x) (Q x) E s₁)) (.ref e) s' := by
  have K' := K.push (name := name) (a := a) (cd := cd) F hk
  generalize hB : hideAll h ((envOf name scope L a cd :: outer).filterMap (·.frame)) = B
  have hBh : B.StaysIn h := fun b o q => by rw [← hB] at q; exact of_hideAll _ q
  have up : ∀ b o, h.get? b = some o → b ∉ (envOf name scope L a cd :: outer).filterMap (·.frame) → B.get? b = some o := fun b o e nm => by rw [← hB]; exact hideAll_get _ e nm
  have hfr : h.FunFrames B (envOf name scope L a cd :: outer) := by rw [← hB]; exact funFrames_hide K'.frames fun env he b hb => List.mem_filterMap.mpr ⟨env, he, hb⟩
  have st : base.StaysIn B := fun b o q => up b o (K'.stays b o q) fun hm => by rw [(K'.frames.mem hm).1] at q; cases q
  have sg : ∀ b o, g.get? b = some o → b ∉ outer.filterMap (·.frame) → B.get? b = some o := fun b o q nm => up b o (F.keep b o q) fun hm => (kts_mem hm).elim (fun z => by rw [z, kts_self F] at q; cases q) nm
  have hl : ∀ q ∈ news, B.get? q.1 = some q.2 ∧ g.get? q.1 = none ∧ base.get? q.1 = none := fun q hq => by
    refine ⟨up _ _ (N q hq).1 fun hm => (kts_mem hm).elim (N q hq).2.1 fun z => ?_, (N q hq).2.2, fresh_of_stays K.stays (N q hq).2.2⟩
    obtain ⟨o, ho, _⟩ := (K.frames.mem z).2
    rw [(N q hq).2.2] at ho
    cases ho
  refine note_made K'.stack rfl hBh hfr hx fun h₁ t hh₁ ht₁ htn sm₁ => ?_
  refine came_held rfl hh₁ fun h₂ hh₂ sm₂ => ?_
  unfold leaving
  refine wpAny_bind (wpAny_noteFrame_againW rfl hh₂.2.2.2 ?_)
  refine wpAny_landsW hh₂ fun h₃ hf₃ sm₃ => ?_
  exact hQ h₃ t ⟨⟨B, st, sg, hl, ⟨hf₃.1, hf₃.2.1, hf₃.2.2.1.2.2, hf₃.2.2.2⟩, htn⟩, (ht₁.of_slots sm₂).of_slots sm₃⟩
    (((((Heap.UpToSlots.of_keeps F.keep).trans (Heap.UpToSlots.of_keeps hx.keeps)).trans sm₁).trans sm₂).trans sm₃)
end
section
variable {prog : Program} {w : World} {A₀ A' : Around} {E : Value → Shared → Prop} {s' : Shared} {base g G : Heap} {outer : List Env} {L a e t : Addr} {m : Str → Option Value} {name : Str} {scope : Scope} {cd : Value}
  {vs : List Value} {n : Str} {b₀ : Stmt} {suite : List Stmt} {pos np : Pos} {rest : List ExceptHandler} {Q : Flow → Shared → Prop} {news : List (Addr × Obj)} {KF : Frag}
  {p : Program} {loose : List Str} {mean : ExcName → Option Value} {mg mb : Str → Option Value} {x : Str} {X T' : String}
/-- an exception that came out of a loop's first step is caught by the loop's frame -/
theorem catch_loop (R : RaisedS base G (envOf name scope L a cd :: outer) e (.type X) t vs news s'.heap) (F : Fr g L G m) (K : Below A₀ base outer g) (hsm : G.UpToSlots s'.heap) (XB : KF.In base) (TB : Top p loose mean mg mb base)
    (D : KtsDicts (outer.filterMap (·.frame)) g)
    (ex : nsIn KF mainGlobals x = some none) (hv : bootBuiltins x = some (.type T')) (hn' : x ≠ "__name__")
    (hexc : isSubtype (.type T') (.type "BaseException") = pure true) (hnt : isSubtype (.type ((Manifest.find? T').elim "type" fun y => y.metatype)) (.type "tuple") = pure false) (hsub : isSubtype (.type X) (.type T') = pure true)
    (k : ∀ h' g' news₂ tk, KtsTurn (outer.filterMap (·.frame)) g g' → Fr g' L h' (fun y => if y = n then some (.ref e) else m y) → News g' L h' news₂ → Got news₂ e t (.type X) vs → News g' L h' news → Below A₀ base outer g' → KF.In g' → Top p loose mean mg mb g' →
      wpAny (model prog w) ((A₀.deeper (envOf name scope L a cd)).mark (some (.ref e))) (execs (b₀ :: suite) (envOf name scope L a cd))
        (fun f s₄ => wpAny (model prog w) (A₀.deeper (envOf name scope L a cd)) (do bindName (envOf name scope L a cd) n .none; unbindBehindTheSuite (envOf name scope L a cd) n pos) (fun _ s₅ => Q f s₅) E s₄)
        (AsSuiteRaised (model prog w) ((A₀.deeper (envOf name scope L a cd)).mark (some (.ref e))) (envOf name scope L a cd) n pos (notedBy (model prog w) ((A₀.deeper (envOf name scope L a cd)).mark (some (.ref e))) (envOf name scope L a cd) (cameBackBy (model prog w) (A₀.deeper (envOf name scope L a cd)) (envOf name scope L a cd) E)))
        { s' with heap := h', toks := tk })
    (hk : scope.kind = .function := by rfl) (hlo : (envOf name scope L a cd).kindOf n = some .local := by rfl) (hx : (envOf name scope L a cd).kindOf x = some .globalImplicit := by rfl) (hd : (x == ("__debug__" : Str)) = false := by decide) :
    notedBy (model prog w) (A₀.deeper (envOf name scope L a cd)) (envOf name scope L a cd) (cameBackBy (model prog w) A' (envOf name scope L a cd) (fun v s₁ =>
      wpAny (model prog w) (A₀.deeper (envOf name scope L a cd)) (noteFrame v (envOf name scope L a cd))
      (fun _ s₂ => wpAny (model prog w) (A₀.deeper (envOf name scope L a cd)) (setFlight v none) (fun _ s₃ =>
        wpAny (model prog w) (A₀.deeper (envOf name scope L a cd)) (handleBy v (envOf name scope L a cd) (.ExceptHandler (some (.Name x np)) (some n) (b₀ :: suite) pos :: rest)) Q E s₃) E s₂) E s₁)) (.ref e) s' := by
  obtain ⟨⟨B, hB, hBG, hl, hfl, hnew⟩, htup⟩ := R
  have hL : B.get? L = none := by
    obtain ⟨_, ⟨L', _, hf, hn', _⟩, _⟩ := hfl.2.2.1
    obtain rfl : L = L' := Option.some.inj hf
    exact hn'
  refine wpAny_looks_onW (Around.frames_deeper K.stack) rfl hfl fun h₁ hh₁ sm₁ => ?_
  refine came_held rfl hh₁ fun h₂ hh₂ sm₂ => ?_
  refine wpAny_noteFrame_againW rfl hh₂.2.2.2 ?_
  refine wpAny_landsW hh₂ fun h₃ hh₃ sm₃ => ?_
  have hs₃ := ((hsm.trans sm₁).trans sm₂).trans sm₃
  have ht₃ := ((htup.of_slots sm₁).of_slots sm₂).of_slots sm₃
  obtain ⟨g₃, T₃, F₃, K₃⟩ := kts_ground K F hBG hh₃.1 hs₃
  obtain ⟨ob, hob, hobc⟩ := hh₃.there
  refine wpAny_handleBy_builtin_as (X := X) (T := T') (b := true) hexc hnt hsub (name_B F₃ (XB.keeps K₃.stays) (topRead_of (TB.keeps K₃.stays)) ex hv hn' ⟨rfl, ⟨ob, hob, hobc⟩, ?_⟩ hk hx hd)
  refine lands_againW hh₃ fun h₄ hh₄ sm₄ => ?_
  have hs₄ := hs₃.trans sm₄
  obtain ⟨g₄, T₄, F₄, K₄⟩ := kts_ground K F hBG hh₄.1 hs₄
  obtain ⟨oe, ws, hoe, hoec, hoed, hoe0⟩ := hh₄.first
  obtain ⟨ot, nt, hot, hotc, hotd⟩ := ht₃.of_slots sm₄
  have ne₄ : g₄.get? e = none := T₄.none_ _ (kts_fresh F hBG hh₄.2.1 fun o ho hm => by
    obtain ⟨_, o', ho', hd⟩ := K.frames.mem hm
    rw [ho] at ho'; cases ho'
    obtain ⟨sl, hs⟩ := hs₄ _ _ (F.keep _ _ ho) hd
    rw [hoe] at hs; cases hs
    exact hd _ hoed)
  have nt₄ : g₄.get? t = none := T₄.none_ _ (kts_fresh F hBG hnew fun o ho hm => by
    obtain ⟨o', es, n', ho', hd⟩ := D _ hm
    rw [ho] at ho'; cases ho'
    obtain ⟨sl, hs⟩ := hs₄ _ _ (F.keep _ _ ho) fun vs q => by rw [hd] at q; cases q
    rw [hot] at hs; cases hs
    cases hd.symm.trans hotd)
  have N₄ := News.more F₄ (News.more F₄ News.nil hot (fun es n q => by rw [hotd] at q; cases q) nt₄) hoe (fun es n q => by rw [hoed] at q; cases q) ne₄
  have Nl : News g₄ L h₄ news := fun q hq => ⟨hh₄.1 _ _ (hl q hq).1, (fun z => by have := (hl q hq).1; rw [z, hL] at this; cases this), T₄.none_ _ (kts_none F.keep (hl q hq).2.1)⟩
  refine stN F₄ (news := _ ++ news) (fun q hq => (List.mem_append.mp hq).elim (N₄ q) (Nl q)) (fun h₅ F₅ N₅ => ?_) hk hlo
  exact k h₅ g₄ _ _ T₄ F₅ (fun q hq => N₅ q (List.mem_append_left _ hq)) ⟨oe, ot, ws, nt, .head _, .tail _ (.head _), hoec, hoed, hoe0, hotc, hotd⟩ (fun q hq => N₅ q (List.mem_append_right _ hq)) K₄ (XB.keeps K₄.stays) (TB.keeps K₄.stays)
end
end

end Mine
namespace Mine
section
open LCt
variable {prog : Program} {w : World} {A : Around} {E : Value → Shared → Prop} {s : Shared} {h₀ : Heap} {m : Str → Option Value} {news : List (Addr × Obj)} {env : Env}
/-- a loop over a list whose first turn does not come to its end -/
theorem for_list_first {l : Addr} {its : List Value} {c : Nat} {v : Value} {x : Str} {px : Pos} {body : List Stmt} {R : Result → Shared → Prop} (F : Fr h₀ env.locals s.heap m) (N : News h₀ env.locals s.heap news) (hm : (l, listOf its.toArray c) ∈ news) (hv : its[0]? = some v) (hh : A.handled = none)
    (turn : ∀ h tk, Fr h₀ env.locals h (fun z => if z = x then some v else m z) → News h₀ env.locals h news →
      wpAny (model prog w) A (execs body env) (fun _ _ => False) (notedBy (model prog w) A env fun e s' => R (.error e) s') { s with heap := h, toks := tk })
    (hx : env.kindOf x = some .local := by rfl) (hp : (env.scope.kind == .class || (env.scope.kind == .module && env.locals != env.globals)) = false := by rfl) :
    wpAny (model prog w) A (pyIter (.ref l)) (fun it s₂ => codeAny (model prog w) A (.forLoop (.Name x px) it body [] env) R s₂) E s := by
  have hls : s.heap.IsList l its.toArray := ⟨_, (N _ hm).1, rfl, _, rfl⟩
  have hlt : l < s.heap.objs.size := Heap.lt_size (N _ hm).1
  have hLs : env.locals < s.heap.objs.size := F.ns.lt
  have up : ∀ b o, s.heap.get? b = some o → (s.heap.push { cls := .type "list_iterator", data := .fields #[.ref l, .int 0 0] }).get? b = some o := fun b o e => Heap.get?_push_of_some _ e
  have h0 : 0 < its.toArray.size := by rw [List.size_toArray]; exact (List.getElem?_eq_some_iff.mp hv).1
  refine wpAny_pyIter_list hls ?_
  refine codeAny_forLoop_any (fun _ s' => s' = { s with heap := s.heap.push { cls := .type "list_iterator", data := .fields #[.ref l, .int 0 0] } }) (fun k s' e => ?_) 0 rfl
  subst e
  refine (Walks.list hh s.heap.objs.size l (Nat.ne_of_lt hlt) its.toArray).item 0 _ _ _ h0 ⟨⟨_, Heap.get?_push_size _ rfl, rfl, rfl⟩, hls.push _⟩ fun v' h₂ tk₂ hPv hst₂ hk₂ => ?_
  obtain rfl : v' = v := by
    have e : its.toArray[0]? = some v' := hPv
    rw [List.getElem?_toArray, hv] at e
    exact (Option.some.inj e).symm
  have F₁ : Fr h₀ env.locals (s.heap.push { cls := .type "list_iterator", data := .fields #[.ref l, .int 0 0] }) m := F.keeps up
  have N₁ := N.grown up
  have nI : h₀.get? s.heap.objs.size = none := next_is_new F
  have F₂ := fr_but F₁ hk₂ (Nat.ne_of_lt hLs) nI
  have N₂ : News h₀ env.locals h₂ news := news_but N₁ hk₂ fun p hp => Nat.ne_of_lt (Heap.lt_size (N p hp).1)
  refine wpAny_pure ?_
  refine wpAny_assign_Name (wpAny_storeName_local hx F₂.ns (fun h₃ hn₃ hs₃ => ?_) hp)
  have nL : h₀.get? env.locals = none := Heap.get?_none_of_le F.above
  refine wpAny_mono (turn h₃ _ ⟨hn₃, fun b o e => hs₃.extBut b o (fun q => by rw [q, nL] at e; cases e) (F₂.keep b o e), F.above⟩ fun p hp => ⟨hs₃.extBut _ _ (N₂ p hp).2.1 (N₂ p hp).1, (N₂ p hp).2⟩) (fun _ _ f => f.elim) fun _ _ q => q
end

end Mine
namespace Mine
section
variable {prog : Program} {w : World} {A : Around} {env : Env}
/-- the turn's end: the state is as good as before, and less is left -/
noncomputable def LessI (I : Nat → Shared → Prop) (n : Nat) (s : Shared) : Prop := ∃ m, m < n ∧ I m s
theorem for_step {x : Str} {px : Pos} {it : Value} {body : List Stmt} {R : Result → Shared → Prop} {s : Shared} (I : Nat → Shared → Prop)
    (turn : ∀ n s, I n s → wpAny (model prog w) A (pyNext it) (fun r s₁ => match r with
        | none => R (.ok .next) s₁
        | some v => wpAny (model prog w) A (assign (.Name x px) env v) (fun _ s₂ => wpAny (model prog w) A (execs body env) (fun f s₃ => match f with
            | .next | .cont => LessI I n s₃
            | .brk => R (.ok .next) s₃
            | .ret v => R (.ok (.ret v)) s₃) (fun _ _ => False) s₂) (fun _ _ => False) s₁) (fun _ _ => False) s)
    (n : Nat) (h : I n s) : codeAny (model prog w) A (.forLoop (.Name x px) it body [] env) R s := by
  refine codeAny_forLoop_any I (fun n s hI => ?_) n h
  refine wpAny_mono (turn n s hI) (fun r s₂ p => ?_) fun _ _ e => e.elim
  cases r with
  | none => exact wpAny_execs_nil p
  | some v =>
    refine wpAny_pure ?_
    refine wpAny_mono p (fun _ s₃ p₂ => ?_) fun _ _ e => e.elim
    refine wpAny_mono p₂ (fun f s₃ q => ?_) fun _ _ e => e.elim
    cases f <;> exact q
/-- back in the caller's frame, its ground unturned -/
theorem leave9 {h₀ g h' : Heap} {L L' : Addr} {m m' : Str → Option Value} {news' : List (Addr × Obj)} (FG : Fr h₀ L g m) (st : h₀.StaysIn g) (F' : Fr g L' h' m') (N' : News g L' h' news') : Fr h₀ L h' m ∧ News h₀ L h' news' := by
  obtain ⟨oL, es, ep, hL, _⟩ := FG.ns
  refine ⟨FG.keeps F'.keep, fun p hp => ⟨(N' p hp).1, fun q => ?_, ?_⟩⟩
  · have := (N' p hp).2.2; rw [q, hL] at this; cases this
  · cases q : h₀.get? p.1 with
    | none => rfl
    | some o => have := (N' p hp).2.2; rw [st _ _ q] at this; cases this
/-- what stands between told's turns -/
noncomputable def ToldI (prog : Program) (w : World) (A : Around) (g : Heap) (L1 L2 l G tl : Nat) (lo oG : Obj) (rest : List (Addr × Obj)) (out : List Int) (fin : Bool) (sd : Drawn) (so : OsState) (n : Nat) (s : Shared) : Prop :=
  ∃ (done rem : List Int) (ws : List Value) (k : Nat) (gs : GenState) (h' : Heap) (tk' : Nat) (m' : Str → Option Value) (oL : Obj) (ex : List (Addr × Obj)),
    n = rem.length ∧ out = done ++ rem ∧ done.length < 4 ∧ IntsAre ws done ∧ s = ⟨h', #[gs], sd, tk', so⟩ ∧
    Fr g L1 h' (mB [(Str.ofString "told", .ref tl)] m') ∧ News g L1 h' ((tl, listOf ws.toArray k) :: (L2, oL) :: (G, oG) :: (ex ++ rest)) ∧ (∀ p ∈ ex, @LT.lt Nat _ G p.1) ∧
    ∀ s'' : Shared, g.StaysIn s''.heap → s''.heap.get? l = some lo → s''.heap.get? G = some oG → s''.heap.get? L2 = some oL → (∀ p ∈ ex, s''.heap.get? p.1 = some p.2) → GGo prog w A.in1 g L2 l G lo oG out fin gs rem.length s''
theorem told_loop {x : Str} {px : Pos} {it : Value} {body : List Stmt} {R : Result → Shared → Prop} {s : Shared} (g : Heap) (L1 L2 l G tl : Nat) (lo oG : Obj) (rest : List (Addr × Obj)) (out : List Int) (fin : Bool) (sd : Drawn) (so : OsState)
    (turn : ∀ n s, ToldI prog w A g L1 L2 l G tl lo oG rest out fin sd so n s → wpAny (model prog w) A (pyNext it) (fun r s₁ => match r with
        | none => R (.ok .next) s₁
        | some v => wpAny (model prog w) A (assign (.Name x px) env v) (fun _ s₂ => wpAny (model prog w) A (execs body env) (fun f s₃ => match f with
            | .next | .cont => LessI (ToldI prog w A g L1 L2 l G tl lo oG rest out fin sd so) n s₃
            | .brk => R (.ok .next) s₃
            | .ret v => R (.ok (.ret v)) s₃) (fun _ _ => False) s₂) (fun _ _ => False) s₁) (fun _ _ => False) s)
    (n : Nat) (h : ToldI prog w A g L1 L2 l G tl lo oG rest out fin sd so n s) : codeAny (model prog w) A (.forLoop (.Name x px) it body [] env) R s := for_step _ turn n h
end

end Mine
namespace Mine
section
variable {prog : Program} {w : World} {A : Around} {E : Value → Shared → Prop} {s : Shared} {h₀ : Heap} {L : Addr} {m : Str → Option Value} {news : List (Addr × Obj)} {σ α : Type}
/-- the end of a turn over pairs -/
noncomputable def PairEnd (h₀ : Heap) (L : Addr) (vars : σ → List (Str × Value)) (led : σ → List (Addr × Obj)) (ok : Nat → σ → Prop) (own led₁ : List (Addr × Obj)) (i : Nat) (s₁ s₂ : Shared) : Prop :=
  ∃ h' tk m' y, s₂ = { s₁ with heap := h', toks := tk } ∧ ok i y ∧ Fr h₀ L h' m' ∧ HasB m' (vars y) ∧ News h₀ L h' (led y ++ own) ∧ (led y).map (·.1) = led₁.map (·.1)
theorem PairEnd.mk {vars : σ → List (Str × Value)} {led : σ → List (Addr × Obj)} {ok : Nat → σ → Prop} {own led₁ all : List (Addr × Obj)} {i : Nat} {s₁ : Shared} {h' : Heap} {tk : Nat} {m' : Str → Option Value} (y : σ)
    (F : Fr h₀ L h' m') (N : News h₀ L h' all) (hb : HasB m' (vars y)) (hl : ∀ p ∈ led y ++ own, p ∈ all) (ha : (led y).map (·.1) = led₁.map (·.1)) (h : ok i y) : PairEnd h₀ L vars led ok own led₁ i s₁ { s₁ with heap := h', toks := tk } :=
  ⟨h', tk, m', y, rfl, h, F, hb, news_of N hl, ha⟩
theorem pair_st {K : ItemKind α} {as : List α} {xv : Value} {env : Env} (S : PairSrcL prog w A E h₀ L K as xv s m news) (hL : env.locals = L) {xi xc : Str} {body : List Stmt} {Q : Flow → Shared → Prop}
    (vars : σ → List (Str × Value)) (led : σ → List (Addr × Obj)) (ok : Nat → σ → Prop) (y : σ) (hb : HasB m (vars y)) (hl : news = led y) (h : ok 0 y)
    (turn : ∀ i a y t v h tk m₁ own, as[i]? = some a → K.is a v → ok i y → OwnOff own ((led y).map (·.1)) → Fr h₀ env.locals h (fun z => if z = xc then some v else if z = xi then some (.int i t) else mB (vars y) m₁ z) → News h₀ env.locals h (led y ++ own) →
      wpAny (model prog w) A (execs body env) (fun f s₂ => match f with
        | .ret v => Q (.ret v) s₂
        | .brk => Q .next s₂
        | _ => PairEnd h₀ env.locals vars led ok own (led y) (i + 1) { s with heap := h, toks := tk } s₂) (fun _ _ => False) { s with heap := h, toks := tk })
    (done : ∀ h' tk m₁ y, ok as.length y → Fr h₀ env.locals h' (mB (vars y) m₁) → News h₀ env.locals h' (led y) → Q .next { s with heap := h', toks := tk }) :
    wpAny (model prog w) A (pyIter xv) (fun it s₂ => PairAt3 prog w A h₀ env xi xc body Q E it s₂) E s := by
  subst hl
  refine S.at env hL xi xc body Q (fun i m₁ news₁ => ∃ y, ok i y ∧ HasB m₁ (vars y) ∧ news₁ = led y) ⟨y, h, hb, rfl⟩ ?_ ?_
  · rintro i a t v m₁ news₁ s₁ own ⟨h', tk, rfl⟩ ha hk ⟨y₁, h₁, hb₁, rfl⟩ hm hoff F N
    rw [← mB_eq hb₁] at F
    refine wpAny_mono (turn i a y₁ t v h' tk m₁ own ha hk h₁ ?_ F (fun p hp => N p ((List.mem_append.mp hp).elim (List.mem_append_right _) (List.mem_append_left _)))) (fun f s₂ p => ?_) fun _ _ e => e.elim
    · intro p hp b hb e
      rw [hm] at hb
      obtain ⟨q, hq, rfl⟩ := List.mem_map.mp hb
      exact hoff p hp q hq e
    · have fin : PairEnd h₀ env.locals vars led ok own (led y₁) (i + 1) { s with heap := h', toks := tk } s₂ → LoopStep2 h₀ env.locals own (led y₁) (fun m₁ news₁ => ∃ y, ok (i + 1) y ∧ HasB m₁ (vars y) ∧ news₁ = led y) { s with heap := h', toks := tk } .next s₂ := by
        rintro ⟨h'', tk', m', y₂, e, h₂, F₂, hb₂, N₂, ha₂⟩
        exact ⟨rfl, h'', tk', m', led y₂, e, F₂, fun p hp => N₂ p ((List.mem_append.mp hp).elim (List.mem_append_right _) (List.mem_append_left _)), ha₂, y₂, h₂, hb₂, rfl⟩
      cases f with
      | ret v => exact p
      | brk => exact p
      | cont => exact fin p
      | next => exact fin p
  · rintro h' tk m' news' F N hm ⟨y₁, h₁, hb₁, rfl⟩
    exact done h' tk m' y₁ h₁ (fr_mB F hb₁) N
end

end Mine
namespace Mine
/-- one letter as it is spelled by a choice below 16 -/
noncomputable def spell1 (c ch : Nat) : List Nat := (if ch % 4 > 1 then [34] else []) ++ (if ch % 2 = 1 then [92] else []) ++ [c] ++ (if ch % 4 > 1 then [34] else []) ++ [([9, 10, 13, 32] : List Nat).getD (ch / 4) 0]
noncomputable def spellN (total : Nat) : Nat → List Nat → List Nat
  | _, [] => []
  | i, c :: r => spell1 c (total / 16 ^ i % 16) ++ spellN total (i + 1) r
theorem spell1_len (c ch : Nat) : (spell1 c ch).length ≤ 5 := by
  unfold spell1; split <;> split <;> simp
theorem spellN_len (total : Nat) : ∀ (r : List Nat) (i : Nat), (spellN total i r).length ≤ 5 * r.length
  | [], _ => by simp [spellN]
  | c :: r, i => by
    have h1 := spell1_len c (total / 16 ^ i % 16)
    have h2 := spellN_len total r (i + 1)
    simp only [spellN, List.length_append, List.length_cons]; omega
theorem log16 : ∀ i : Fin 10, ((16 : Int) ^ ((i.val : Int)).toNat).natAbs.log2 < 9000 := by decide +kernel
theorem pyl16 {a : Int} {i : Nat} (hi : i < 10) : Builtin.divisionGoesByPylong a (16 ^ ((i : Int)).toNat) = false := PyProof.noPylong_of_log2 (log16 ⟨i, hi⟩)
theorem log5 : ∀ i : Fin 10, ((5 : Int) ^ ((i.val : Int)).toNat).natAbs.log2 < 9000 := by decide +kernel
theorem pyl5 {a : Int} {i : Nat} (hi : i < 10) : Builtin.divisionGoesByPylong a (5 ^ ((i : Int)).toNat) = false := PyProof.noPylong_of_log2 (log5 ⟨i, hi⟩)
theorem log9 : ∀ i : Fin 10, ((9 : Int) ^ ((i.val : Int)).toNat).natAbs.log2 < 9000 := by decide +kernel
theorem pyl9 {a : Int} {i : Nat} (hi : i < 10) : Builtin.divisionGoesByPylong a (9 ^ ((i : Int)).toNat) = false := PyProof.noPylong_of_log2 (log9 ⟨i, hi⟩)
theorem chN (b k n i : Nat) (hb : 0 < b) (hk : 0 < k) : ((n : Int).fdiv ((b : Int) ^ ((i : Int)).toNat)).fmod (k : Int) = ((n / b ^ i % k : Nat) : Int) := by
  have e : ((b : Int) ^ ((i : Int)).toNat) = ((b ^ i : Nat) : Int) := by simp
  rw [e, Int.fdiv_eq_ediv_of_nonneg _ (by omega), Int.fmod_eq_emod_of_nonneg _ (by omega)]
  simp
theorem chN16 (n i : Nat) : ((n : Int).fdiv ((16 : Int) ^ ((i : Int)).toNat)).fmod 16 = ((n / 16 ^ i % 16 : Nat) : Int) := chN 16 16 n i (by decide) (by decide)
theorem item_ws16 : ∀ ch : Fin 16, (Txt.item (Str.ofString "\t\n\x0d ") ((ch.val : Int).fdiv 4)).cps.toList = [([9, 10, 13, 32] : List Nat).getD (ch.val / 4) 0] := by decide +kernel
theorem item_ws {ch : Nat} (h : ch < 16) : (Txt.item (Str.ofString "\t\n\x0d ") ((ch : Int).fdiv 4)).cps.toList = [([9, 10, 13, 32] : List Nat).getD (ch / 4) 0] := item_ws16 ⟨ch, h⟩
theorem quo_list : (Str.ofString "\"").cps.toList = [34] := by decide +kernel
theorem bsl_list : (Str.ofString "\\").cps.toList = [92] := by decide +kernel
theorem fm2 (ch : Nat) : (ch : Int).fmod 2 = ((ch % 2 : Nat) : Int) := by rw [Int.fmod_eq_emod_of_nonneg _ (by decide)]; omega
theorem fm4 (ch : Nat) : (ch : Int).fmod 4 = ((ch % 4 : Nat) : Int) := by rw [Int.fmod_eq_emod_of_nonneg _ (by decide)]; omega
theorem spell_step {n i c ch : Nat} {x text sp : Str} (hch : ch = n / 16 ^ i % 16) (hx : x.cps.toList[i]? = some c) (hok : text.cps.toList ++ spellN n i (x.cps.toList.drop i) = spellN n 0 x.cps.toList) (hl : text.length ≤ 5 * i)
    (hs : sp.cps.toList = spell1 c ch) : (text ++ sp).cps.toList ++ spellN n (i + 1) (x.cps.toList.drop (i + 1)) = spellN n 0 x.cps.toList ∧ (text ++ sp).length ≤ 5 * (i + 1) := by
  have hd : x.cps.toList.drop i = c :: x.cps.toList.drop (i + 1) := by
    obtain ⟨h, e⟩ := List.getElem?_eq_some_iff.mp hx
    rw [List.drop_eq_getElem_cons h, e]
  constructor
  · rw [hd, spellN, ← hch] at hok
    rw [Str.cps_append, Array.toList_append, hs, List.append_assoc]; exact hok
  · have h1 := spell1_len c ch
    rw [← hs] at h1
    rw [Str.length_append]
    have : sp.length = sp.cps.toList.length := by simp [Str.length]
    omega

end Mine
namespace Mine
section
variable {prog : Program} {w : World} {A : Around} {E : Value → Shared → Prop} {s : Shared} {h₀ : Heap} {m : Str → Option Value} {news : List (Addr × Obj)} {σ : Type} {env : Env}
/-- the end of a turn over a list of the ledger -/
noncomputable def ListEnd (h₀ : Heap) (L : Addr) (vars : σ → List (Str × Value)) (led : σ → List (Addr × Obj)) (ok : Nat → σ → Prop) (own : List (Addr × Obj)) (i : Nat) (s₁ s₂ : Shared) : Prop :=
  ∃ h' tk m' y, s₂ = { s₁ with heap := h', toks := tk } ∧ ok i y ∧ Fr h₀ L h' m' ∧ HasB m' (vars y) ∧ News h₀ L h' (led y ++ own)
theorem ListEnd.mk {L : Addr} {vars : σ → List (Str × Value)} {led : σ → List (Addr × Obj)} {ok : Nat → σ → Prop} {own all : List (Addr × Obj)} {i : Nat} {s₁ : Shared} {h' : Heap} {tk : Nat} {m' : Str → Option Value} (y : σ)
    (F : Fr h₀ L h' m') (N : News h₀ L h' all) (hb : HasB m' (vars y)) (hl : ∀ p ∈ led y ++ own, p ∈ all) (h : ok i y) : ListEnd h₀ L vars led ok own i s₁ { s₁ with heap := h', toks := tk } :=
  ⟨h', tk, m', y, rfl, h, F, hb, news_of N hl⟩
theorem for_list {l : Addr} {its : List Value} {c : Nat} {x : Str} {px : Pos} {body : List Stmt} {R : Result → Shared → Prop} (F : Fr h₀ env.locals s.heap m) (N : News h₀ env.locals s.heap news) (hm : (l, listOf its.toArray c) ∈ news) (hh : A.handled = none)
    (vars : σ → List (Str × Value)) (led : σ → List (Addr × Obj)) (ok : Nat → σ → Prop) (adr : List Addr) (y : σ) (hb : HasB m (vars y)) (hl : ∀ p ∈ led y, p ∈ news) (h : ok 0 y)
    (hled : ∀ i y, ok i y → ∀ p ∈ led y, p.1 ∈ l :: adr) (hadr : ∀ a ∈ adr, a ≠ l ∧ ∃ o, (a, o) ∈ news)
    (turn : ∀ i v y h tk m₁ own, its[i]? = some v → ok i y → OwnOff own adr → Fr h₀ env.locals h (fun z => if z = x then some v else mB (vars y) m₁ z) → News h₀ env.locals h (led y ++ own) →
      wpAny (model prog w) A (execs body env) (fun f s₂ => match f with
        | .ret v => R (.ok (.ret v)) s₂
        | .brk => R (.ok .next) s₂
        | _ => ListEnd h₀ env.locals vars led ok own (i + 1) { s with heap := h, toks := tk } s₂) (fun _ _ => False) { s with heap := h, toks := tk })
    (done : ∀ h' tk m₁ y, ok its.length y → Fr h₀ env.locals h' (mB (vars y) m₁) → News h₀ env.locals h' (led y) → R (.ok .next) { s with heap := h', toks := tk })
    (hx : env.kindOf x = some .local := by rfl) (hp : (env.scope.kind == .class || (env.scope.kind == .module && env.locals != env.globals)) = false := by rfl) :
    wpAny (model prog w) A (pyIter (.ref l)) (fun it s₂ => codeAny (model prog w) A (.forLoop (.Name x px) it body [] env) R s₂) E s := by
  have hls : s.heap.IsList l its.toArray := ⟨_, (N _ hm).1, rfl, _, rfl⟩
  have hlt : l < s.heap.objs.size := Heap.lt_size (N _ hm).1
  have hlL : l ≠ env.locals := (N _ hm).2.1
  have hLs : env.locals < s.heap.objs.size := F.ns.lt
  refine wpAny_pyIter_list hls ?_
  have W := Walks.list (prog := prog) (w := w) hh s.heap.objs.size l (Nat.ne_of_lt hlt) its.toArray
  have up : ∀ b o, s.heap.get? b = some o → (s.heap.push { cls := .type "list_iterator", data := .fields #[.ref l, .int 0 0] }).get? b = some o := fun b o e => Heap.get?_push_of_some _ e
  refine codeAny_forLoop_frV W hx hp (fun hq => ?_) (fun b hb => ?_) (fun p hp hq => ?_) ⟨⟨_, Heap.get?_push_size _ rfl, rfl, rfl⟩, hls.push _⟩ (F.keeps up) (N.grown up)
    (fun i m₁ news₁ => ∃ y, ok i y ∧ HasB m₁ (vars y) ∧ ∀ p ∈ led y, p ∈ news₁) ⟨y, h, hb, hl⟩ ?_ ?_
  · rcases List.mem_cons.mp hq with e | hq
    · exact absurd hLs (by rw [e]; exact Nat.lt_irrefl _)
    · exact hlL (List.mem_singleton.mp hq).symm
  · rw [List.mem_singleton.mp hb]; exact next_is_new F
  · exact absurd (Heap.lt_size (N p hp).1) (by rw [List.mem_singleton.mp hq]; exact Nat.lt_irrefl _)
  · rintro i v m₁ news₁ s₁ own ⟨h', tk, rfl⟩ hi hv ⟨y₁, h₁, hb₁, hl₁⟩ hnw hown hown2 hall hSt F₁ N₁
    rw [← mB_eq hb₁] at F₁
    have off : OwnOff own adr := fun p hp b hb e => by
      obtain ⟨h1, o, h2⟩ := hadr b hb
      rcases List.mem_cons.mp (hown p hp) with h3 | h3
      · exact absurd (Heap.lt_size (N _ h2).1) (by show ¬ b < _; rw [← e, h3]; exact Nat.lt_irrefl _)
      · exact h1 (by rw [← e]; exact List.mem_singleton.mp h3)
    refine wpAny_mono (turn i v y₁ h' tk m₁ own (by simpa using hv) h₁ off F₁ (fun p hp => N₁ p ((List.mem_append.mp hp).elim (fun z => List.mem_append_right _ (hl₁ p z)) (List.mem_append_left _)))) (fun f s₂ p => ?_) fun _ _ e => e.elim
    have fin : ListEnd h₀ env.locals vars led ok own (i + 1) { s with heap := h', toks := tk } s₂ → LoopStepU h₀ env.locals [s.heap.objs.size] own (fun m₁ news₁ => ∃ y, ok (i + 1) y ∧ HasB m₁ (vars y) ∧ ∀ p ∈ led y, p ∈ news₁) { s with heap := h', toks := tk } .next s₂ := by
      rintro ⟨h'', tk', m', y₂, e, h₂, F₂, hb₂, N₂⟩
      refine ⟨rfl, h'', tk', m', led y₂, e, F₂, fun p hp => N₂ p ((List.mem_append.mp hp).elim (List.mem_append_right _) (List.mem_append_left _)), fun p hp hq => ?_, y₂, h₂, hb₂, fun _ z => z⟩
      have z := hled _ _ h₂ p hp
      have e1 : p.1 = s.heap.objs.size := List.mem_singleton.mp hq
      rcases List.mem_cons.mp z with e2 | z
      · exact absurd hlt (by rw [← e2, e1]; exact Nat.lt_irrefl _)
      · obtain ⟨_, o, h2⟩ := hadr _ z
        exact absurd (Heap.lt_size (N _ h2).1) (by show ¬ p.1 < _; rw [e1]; exact Nat.lt_irrefl _)
    cases f with
    | ret v => exact .ret p
    | brk => exact .brk p
    | cont => exact .cont (fin p)
    | next => exact .next (fin p)
  · rintro h' tk m' news' F₁ N₁ _ ⟨y₁, h₁, hb₁, hl₁⟩
    exact done h' tk m' y₁ (by simpa using h₁) (fr_mB F₁ hb₁) (news_of N₁ hl₁)
end
section
variable {prog : Program} {w : World} {A : Around} {E : Value → Shared → Prop} {s : Shared} {h₀ : Heap} {m : Str → Option Value} {news : List (Addr × Obj)} {σ : Type} {env : Env}
theorem for_listR {l : Addr} {its : List Value} {c : Nat} {x : Str} {px : Pos} {body : List Stmt} {R : Result → Shared → Prop} (F : Fr h₀ env.locals s.heap m) (N : News h₀ env.locals s.heap news) (hm : (l, listOf its.toArray c) ∈ news) (hh : A.handled = none)
    (vars : σ → List (Str × Value)) (ok : Nat → σ → Prop) (y : σ) (hb : HasB m (vars y)) (h : ok 0 y)
    (turn : ∀ i v y h tk m₁ own, its[i]? = some v → ok i y → Fr h₀ env.locals h (fun z => if z = x then some v else mB (vars y) m₁ z) → News h₀ env.locals h (news ++ own) →
      wpAny (model prog w) A (execs body env) (fun f s₂ => match f with
        | .ret v => R (.ok (.ret v)) s₂
        | .brk => R (.ok .next) s₂
        | _ => ListEnd h₀ env.locals vars (fun _ => news) ok own (i + 1) { s with heap := h, toks := tk } s₂) (fun _ _ => False) { s with heap := h, toks := tk })
    (done : ∀ h' tk m₁ y, ok its.length y → Fr h₀ env.locals h' (mB (vars y) m₁) → News h₀ env.locals h' news → R (.ok .next) { s with heap := h', toks := tk })
    (hx : env.kindOf x = some .local := by rfl) (hp : (env.scope.kind == .class || (env.scope.kind == .module && env.locals != env.globals)) = false := by rfl) :
    wpAny (model prog w) A (pyIter (.ref l)) (fun it s₂ => codeAny (model prog w) A (.forLoop (.Name x px) it body [] env) R s₂) E s := by
  refine for_list F N hm hh vars (fun _ => news) ok ((news.map (·.1)).filter fun a => decide (a ≠ l)) y hb (fun _ z => z) h (fun i y _ p hp => ?_) (fun a ha => ?_) (fun i v y h tk m₁ own h1 h2 _ => turn i v y h tk m₁ own h1 h2) done hx hp
  · by_cases e : p.1 = l
    · rw [e]; exact .head _
    · exact .tail _ (List.mem_filter.mpr ⟨List.mem_map_of_mem hp, decide_eq_true e⟩)
  · obtain ⟨h1, h2⟩ := List.mem_filter.mp ha
    obtain ⟨p, hp, rfl⟩ := List.mem_map.mp h1
    exact ⟨of_decide_eq_true h2, p.2, hp⟩
end
theorem ints_at : ∀ {vs : List Value} {ns : List Int} {i : Nat} {v : Value}, IntsAre vs ns → vs[i]? = some v → ∃ k t, v = .int k t ∧ ns[i]? = some k
  | _, _, i, v, .nil, h => by simp at h
  | _, _, 0, v, .cons k t r, h => by
    simp only [List.getElem?_cons_zero, Option.some.injEq] at h
    exact ⟨k, t, h.symm, rfl⟩
  | _, _, i + 1, v, .cons k t r, h => by
    simp only [List.getElem?_cons_succ] at h ⊢
    exact ints_at r h

end Mine
namespace Mine
section
variable {prog : Program} {w : World} {A : Around} {E : Value → Shared → Prop} {s : Shared} {h₀ : Heap} {m : Str → Option Value} {σ : Type} {env : Env}
noncomputable abbrev enumObj (it : Addr) (i : Int) (old : Value) : Obj := { cls := .type "enumerate", dict := none, data := .fields #[.none, .bool false, .ref it, rawInt i, .none, old], slots := #[] }
/-- the end of a turn of an enumeration -/
noncomputable def EnumEnd (h₀ : Heap) (L : Addr) (vars : σ → List (Str × Value)) (led : σ → List (Addr × Obj)) (ok : Nat → σ → Prop) (own : List (Addr × Obj)) (i : Nat) (s₁ s₂ : Shared) : Prop :=
  ∃ h' tk m' y, s₂ = { s₁ with heap := h', toks := tk } ∧ ok i y ∧ Fr h₀ L h' m' ∧ HasB m' (vars y) ∧ News h₀ L h' (led y ++ own)
theorem EnumEnd.mk {L : Addr} {vars : σ → List (Str × Value)} {led : σ → List (Addr × Obj)} {ok : Nat → σ → Prop} {own all : List (Addr × Obj)} {i : Nat} {s₁ : Shared} {h' : Heap} {tk : Nat} {m' : Str → Option Value} (y : σ)
    (F : Fr h₀ L h' m') (N : News h₀ L h' all) (hb : HasB m' (vars y)) (hl : ∀ p ∈ led y ++ own, p ∈ all) (h : ok i y) : EnumEnd h₀ L vars led ok own i s₁ { s₁ with heap := h', toks := tk } :=
  ⟨h', tk, m', y, rfl, h, F, hb, news_of N hl⟩
theorem for_enum {xi xc : Str} {pi pc pt : Pos} {x1 : Nat} {body : List Stmt} {R : Result → Shared → Prop} {e it l : Addr} {its : List Value} {news : List (Addr × Obj)} (hh : A.handled = none)
    (vars : σ → List (Str × Value)) (led : σ → List (Addr × Obj)) (ok : Nat → σ → Prop) (y : σ)
    (F : Fr h₀ env.locals s.heap m) (N : News h₀ env.locals s.heap news) (he : IsEnum s.heap e it 0 .none) (hit : s.heap.IsListIter it l 0) (hei : e ≠ it) (hL : env.locals < it ∧ env.locals < e) (h0 : h₀.get? e = none ∧ h₀.get? it = none)
    (hb : HasB m (vars y)) (hl : ∀ p ∈ led y, p ∈ news) (h : ok 0 y) (hlist : ∀ i y, ok i y → ∃ c, (l, listOf its.toArray c) ∈ led y) (hlt : ∀ i y, ok i y → ∀ p ∈ led y, p.1 ≠ it ∧ p.1 ≠ e)
    (turn : ∀ i v y t h tk m₁ own, its[i]? = some v → ok i y → OwnOff own ((led y).map (·.1)) → (∀ p ∈ own, p.1 = e ∨ p.1 = it) → Fr h₀ env.locals h (fun z => if z = xc then some v else if z = xi then some (.int i t) else mB (vars y) m₁ z) → News h₀ env.locals h (led y ++ own) →
      wpAny (model prog w) A (execs body env) (fun f s₂ => match f with
        | .ret v => R (.ok (.ret v)) s₂
        | .brk => R (.ok .next) s₂
        | _ => EnumEnd h₀ env.locals vars led ok own (i + 1) { s with heap := h, toks := tk } s₂) (fun _ _ => False) { s with heap := h, toks := tk })
    (done : ∀ h' tk m₁ y, ok its.length y → Fr h₀ env.locals h' (mB (vars y) m₁) → News h₀ env.locals h' (led y) → R (.ok .next) { s with heap := h', toks := tk })
    (hxi : env.kindOf xi = some .local := by rfl) (hxv : env.kindOf xc = some .local := by rfl) (hp : (env.scope.kind == .class || (env.scope.kind == .module && env.locals != env.globals)) = false := by rfl) :
    codeAny (model prog w) A (.forLoop (.Tuple [.Name xi pi, .Name xc pc] x1 pt) (.ref e) body [] env) R s := by
  obtain ⟨I, hI⟩ : ∃ I : Nat → Shared → Prop, ∀ k s', I k s' ↔ ∃ h' tk m' i old y, s' = { s with heap := h', toks := tk } ∧ IsEnum h' e it ((i : Nat) : Int) old ∧ h'.IsListIter it l i ∧ Fr h₀ env.locals h' m' ∧ HasB m' (vars y) ∧ News h₀ env.locals h' (led y) ∧ ok i y ∧ i ≤ its.length ∧ k = its.length + 1 - i := ⟨_, fun _ _ => .rfl⟩
  refine codeAny_forLoop_any I ?_ (its.length + 1) ((hI _ _).mpr ⟨s.heap, s.toks, m, 0, .none, y, rfl, he, hit, F, hb, news_of N hl, h, Nat.zero_le _, rfl⟩)
  rintro k s' hk
  obtain ⟨H, tk, m', i, old, y, rfl, he', hit', F', hb', N', hy, hi, rfl⟩ := (hI _ _).mp hk
  clear hk hit hb N h F he
  have heL : e ≠ env.locals := Nat.ne_of_gt hL.2
  have hiL : it ≠ env.locals := Nat.ne_of_gt hL.1
  obtain ⟨c, hm⟩ := hlist i y hy
  have hl' : H.IsList l its.toArray := ⟨_, (N' _ hm).1, rfl, _, rfl⟩
  have hne := hlt i y hy
  have old0 : ∀ b o, h₀.get? b = some o → b ≠ e ∧ b ≠ it := fun b o q => ⟨fun z => (by rw [z, h0.1] at q; cases q), fun z => (by rw [z, h0.2] at q; cases q)⟩
  cases hv : its[i]? with
  | none =>
    have hsz : i = its.length := Nat.le_antisymm hi (by simpa using hv)
    refine wpAny_pyNext_enum_end hh he' hit' hl' (by simpa using hv) fun h₁ he₁ => wpAny_execs_nil ?_
    have F₁ : Fr h₀ env.locals h₁ m' := ⟨F'.ns.extBut he₁ (Ne.symm hiL), fun b o q => he₁ b o (old0 b o q).2 (F'.keep b o q), F'.above⟩
    exact done h₁ tk m' y (hsz ▸ hy) (fr_mB F₁ hb') fun p hp => ⟨he₁ _ _ (hne p hp).1 (N' p hp).1, (N' p hp).2⟩
  | some v =>
    have hlti : i < its.length := (List.getElem?_eq_some_iff.mp hv).1
    have heH : e < H.objs.size := Heap.lt_size he'
    have hLH : env.locals < H.objs.size := F'.ns.lt
    obtain ⟨oi, hoi, _⟩ := id hit'
    have hiH : it < H.objs.size := Heap.lt_size hoi
    refine wpAny_pyNext_enum_item he' hit' hl' (by simpa using hv) hei fun h₁ heo hit₁ ht₁ hz₁ hk₁ => ?_
    refine wpAny_letOwnedTupleGo_enum heo fun h₂ he₂ hs₂ => ?_
    replace hs₂ : Heap.SameBut e h₁ h₂ := hs₂
    have ht₂ : h₂.IsTuple H.objs.size #[.int i tk, v] := ⟨_, (hs₂.2 _ (Nat.ne_of_gt heH)).trans ht₁, rfl, _, rfl⟩
    have hz₂ : h₂.objs.size = H.objs.size + 1 := hs₂.1.trans hz₁
    refine wpAny_assign_Tuple hh ht₂ rfl rfl fun h₃ hx₃ => ?_
    replace hx₃ : Heap.ExtBut h₂.objs.size h₂ h₃ := hx₃
    have old₃ : ∀ b o, b < H.objs.size → h₂.get? b = some o → h₃.get? b = some o := fun b o hb x => hx₃ b o (by rw [hz₂]; exact Nat.ne_of_lt (Nat.lt_succ_of_lt hb)) x
    have up : ∀ b o, b ≠ e → b ≠ it → H.get? b = some o → h₃.get? b = some o := fun b o n1 n2 q => old₃ b o (Heap.lt_size q) ((hs₂.2 b n1).trans (hk₁ b o n1 n2 q))
    have hn₃ : h₃.Ns env.locals m' := F'.ns.at fun o x => up _ o (Ne.symm heL) (Ne.symm hiL) x
    have F₃ : Fr h₀ env.locals h₃ m' := ⟨hn₃, fun b o q => up b o (old0 b o q).1 (old0 b o q).2 (F'.keep b o q), F'.above⟩
    have e₃ : h₃.get? e = some (enumObj it ((i : Int) + 1) v) := old₃ e _ heH he₂
    obtain ⟨oi₁, hoi₁, ri₁⟩ := id hit₁
    have i₃ : h₃.get? it = some oi₁ := old₃ it _ hiH ((hs₂.2 it (Ne.symm hei)).trans hoi₁)
    have N₃ : News h₀ env.locals h₃ (led y ++ [(e, enumObj it ((i : Int) + 1) v), (it, oi₁)]) := fun p hp => by
      rcases List.mem_append.mp hp with hp | hp
      · exact ⟨up _ _ (hne p hp).2 (hne p hp).1 (N' p hp).1, (N' p hp).2⟩
      · rcases List.mem_cons.mp hp with rfl | hp
        · exact ⟨e₃, heL, h0.1⟩
        · rw [List.mem_singleton.mp hp]; exact ⟨i₃, hiL, h0.2⟩
    show wpAny _ A (do holding [v] (assign (.Name xi pi) env (.int i tk)); do holding [] (assign (.Name xc pc) env v); pure ()) _ _ _
    refine wpAny_bind (wpAny_holding (wpAny_assign_Name (wpAny_storeName_local hxi F₃.ns (fun h₄ hn₄ hs₄ => ?_) hp)))
    have F₄ := F₃.set hn₄ hs₄
    have N₄ := N₃.set hs₄
    refine wpAny_bind (wpAny_holding (wpAny_assign_Name (wpAny_storeName_local hxv F₄.ns (fun h₅ hn₅ hs₅ => wpAny_pure ?_) hp)))
    have F₅ := F₄.set hn₅ hs₅
    have N₅ := N₄.set hs₅
    rw [← mB_eq hb'] at F₅
    refine wpAny_mono (turn i v y tk h₅ _ m' _ hv hy ?_ ?_ F₅ N₅) (fun f s₃ p => ?_) fun _ _ x => x.elim
    · intro p hp b hbb
      obtain ⟨q, hq, rfl⟩ := List.mem_map.mp hbb
      rcases List.mem_cons.mp hp with rfl | hp
      · exact fun z => (hne q hq).2 z.symm
      · rw [List.mem_singleton.mp hp]; exact fun z => (hne q hq).1 z.symm
    · intro p hp
      rcases List.mem_cons.mp hp with rfl | hp
      · exact .inl rfl
      · rw [List.mem_singleton.mp hp]; exact .inr rfl
    · have fin : EnumEnd h₀ env.locals vars led ok [(e, enumObj it ((i : Int) + 1) v), (it, oi₁)] (i + 1) { s with heap := h₅, toks := tk + 1 + 1 + 1 } s₃ → ∃ m, m < its.length + 1 - i ∧ I m s₃ := by
        rintro ⟨h', tk', m₂, y₂, rfl, hy₂, F₂, hb₂, N₂⟩
        refine ⟨its.length + 1 - (i + 1), by omega, (hI _ _).mpr ⟨h', tk', m₂, i + 1, v, y₂, rfl, ?_, ?_, F₂, hb₂, fun p hp => N₂ p (List.mem_append_left _ hp), hy₂, hlti, rfl⟩⟩
        · have : ((i + 1 : Nat) : Int) = (i : Int) + 1 := by push_cast; rfl
          rw [this]; exact (N₂ _ (List.mem_append_right _ (.head _))).1
        · exact ⟨oi₁, (N₂ _ (List.mem_append_right _ (.tail _ (.head _)))).1, ri₁⟩
      cases f with
      | ret v => exact p
      | brk => exact p
      | cont => exact fin p
      | next => exact fin p
theorem enum_list {xi xc : Str} {pi pc pt : Pos} {x1 : Nat} {body : List Stmt} {R : Result → Shared → Prop} {l : Addr} {its : List Value} {c : Nat} {news : List (Addr × Obj)} (hh : A.handled = none)
    (F : Fr h₀ env.locals s.heap m) (N : News h₀ env.locals s.heap news) (hm : (l, listOf its.toArray c) ∈ news)
    (vars : σ → List (Str × Value)) (led : σ → List (Addr × Obj)) (ok : Nat → σ → Prop) (y : σ)
    (hb : HasB m (vars y)) (hl : ∀ p ∈ led y, p ∈ news) (h : ok 0 y) (hlist : ∀ i y, ok i y → ∃ c, (l, listOf its.toArray c) ∈ led y) (hadr : ∀ i y, ok i y → ∀ p ∈ led y, ∃ o, (p.1, o) ∈ news)
    (turn : ∀ i v y t h tk m₁ own, its[i]? = some v → ok i y → OwnOff own ((led y).map (·.1)) → (∀ p ∈ own, ∀ q ∈ news, q.1 < p.1) → Fr h₀ env.locals h (fun z => if z = xc then some v else if z = xi then some (.int i t) else mB (vars y) m₁ z) → News h₀ env.locals h (led y ++ own) →
      wpAny (model prog w) A (execs body env) (fun f s₂ => match f with
        | .ret v => R (.ok (.ret v)) s₂
        | .brk => R (.ok .next) s₂
        | _ => EnumEnd h₀ env.locals vars led ok own (i + 1) { s with heap := h, toks := tk } s₂) (fun _ _ => False) { s with heap := h, toks := tk })
    (done : ∀ h' tk m₁ y, ok its.length y → Fr h₀ env.locals h' (mB (vars y) m₁) → News h₀ env.locals h' (led y) → R (.ok .next) { s with heap := h', toks := tk })
    (hxi : env.kindOf xi = some .local := by rfl) (hxv : env.kindOf xc = some .local := by rfl) (hp : (env.scope.kind == .class || (env.scope.kind == .module && env.locals != env.globals)) = false := by rfl) :
    wpAny (model prog w) A (call (.type "enumerate") [.ref l]) (fun xv s₁ => wpAny (model prog w) A (pyIter xv) (fun it s₂ => codeAny (model prog w) A (.forLoop (.Tuple [.Name xi pi, .Name xc pc] x1 pt) it body [] env) R s₂) E s₁) E s := by
  refine call_enumerate_list ⟨_, (N _ hm).1, rfl, _, rfl⟩ fun h' he hit hz up => ?_
  refine wpAny_pyIter_enum he ?_
  have lt : ∀ p ∈ news, p.1 < s.heap.objs.size := fun p hp => Heap.lt_size (N p hp).1
  have hLs : env.locals < s.heap.objs.size := F.ns.lt
  have fresh : ∀ b, s.heap.objs.size ≤ b → h₀.get? b = none := fun b hb => Heap.get?_none_of_le (Nat.le_trans F.above (Nat.le_trans (Nat.le_of_lt hLs) hb))
  refine for_enum (it := s.heap.objs.size) (l := l) (its := its) hh vars led ok y (F.keeps up) (fun p hp => ⟨up _ _ (N p hp).1, (N p hp).2⟩) he hit (Nat.ne_of_gt (Nat.lt_succ_self _)) ⟨hLs, Nat.lt_succ_of_lt hLs⟩ ⟨fresh _ (Nat.le_succ _), fresh _ (Nat.le_refl _)⟩ hb hl h hlist (fun i y hy p hp => ?_)
    (fun i v y t h tk m₁ own h1 h2 h3 h4 => turn i v y t h tk m₁ own h1 h2 h3 fun p hp q hq => ?_) done hxi hxv hp
  · obtain ⟨o, ho⟩ := hadr i y hy p hp
    have := lt _ ho
    exact ⟨Nat.ne_of_lt this, Nat.ne_of_lt (Nat.lt_succ_of_lt this)⟩
  · have := lt q hq
    rcases h4 p hp with e | e
    · rw [e]; exact Nat.lt_succ_of_lt this
    · rw [e]; exact this
end

end Mine
namespace Mine
theorem raw_lt {d d' : Nat} {l : List (Addr × Obj)} (h : ∀ p ∈ l, p.1 < d) (hd : d ≤ d') : ∀ p ∈ l, p.1 < d' := fun p hp => Nat.lt_of_lt_of_le (h p hp) hd
theorem allLt_lt' {d d' : Nat} {l : List (Addr × Obj)} (h : AllLt d l) (hd : d ≤ d') : ∀ p ∈ l, p.1 < d' := raw_lt (allLt_lt h) hd
section
variable {prog : Program} {w : World} {A : Around} {E : Value → Shared → Prop} {s : Shared} {h₀ : Heap} {m : Str → Option Value} {σ : Type} {env : Env}
/-- the end of a turn over a list, where one object changes -/
noncomputable def ListEnd1 (h₀ : Heap) (L f : Addr) (vars : σ → List (Str × Value)) (ob : σ → Obj) (ok : Nat → σ → Prop) (R2 : List (Addr × Obj)) (i : Nat) (s₁ s₂ : Shared) : Prop :=
  ∃ h' tk m' y, s₂ = { s₁ with heap := h', toks := tk } ∧ ok i y ∧ Fr h₀ L h' m' ∧ HasB m' (vars y) ∧ News h₀ L h' ((f, ob y) :: R2)
theorem ListEnd1.mk {L f : Addr} {vars : σ → List (Str × Value)} {ob : σ → Obj} {ok : Nat → σ → Prop} {R2 all : List (Addr × Obj)} {i : Nat} {s₁ : Shared} {h' : Heap} {tk : Nat} {m' : Str → Option Value} (y : σ)
    (F : Fr h₀ L h' m') (N : News h₀ L h' all) (hb : HasB m' (vars y)) (hl : ∀ p ∈ (f, ob y) :: R2, p ∈ all) (h : ok i y) : ListEnd1 h₀ L f vars ob ok R2 i s₁ { s₁ with heap := h', toks := tk } :=
  ⟨h', tk, m', y, rfl, h, F, hb, news_of N hl⟩
theorem for_listL {f l : Addr} {its : List Value} {c : Nat} {x : Str} {px : Pos} {body : List Stmt} {R : Result → Shared → Prop} {rest : List (Addr × Obj)} (F : Fr h₀ env.locals s.heap m)
    (vars : σ → List (Str × Value)) (ob : σ → Obj) (ok : Nat → σ → Prop) (y : σ) (N : News h₀ env.locals s.heap ((f, ob y) :: rest)) (hm : (l, listOf its.toArray c) ∈ rest) (hf : ∀ p ∈ rest, p.1 < f) (hh : A.handled = none) (hb : HasB m (vars y)) (h : ok 0 y)
    (turn : ∀ i v y h tk m₁ R2, its[i]? = some v → ok i y → (∀ p ∈ R2, p.1 ≠ f) → (∀ p ∈ rest, p ∈ R2) → Fr h₀ env.locals h (fun z => if z = x then some v else mB (vars y) m₁ z) → News h₀ env.locals h ((f, ob y) :: R2) →
      wpAny (model prog w) A (execs body env) (fun f' s₂ => match f' with
        | .ret v => R (.ok (.ret v)) s₂
        | .brk => R (.ok .next) s₂
        | _ => ListEnd1 h₀ env.locals f vars ob ok R2 (i + 1) { s with heap := h, toks := tk } s₂) (fun _ _ => False) { s with heap := h, toks := tk })
    (done : ∀ h' tk m₁ y, ok its.length y → Fr h₀ env.locals h' (mB (vars y) m₁) → News h₀ env.locals h' ((f, ob y) :: rest) → R (.ok .next) { s with heap := h', toks := tk })
    (hx : env.kindOf x = some .local := by rfl) (hp : (env.scope.kind == .class || (env.scope.kind == .module && env.locals != env.globals)) = false := by rfl) :
    wpAny (model prog w) A (pyIter (.ref l)) (fun it s₂ => codeAny (model prog w) A (.forLoop (.Name x px) it body [] env) R s₂) E s := by
  have hfl : f ≠ l := fun e => Nat.lt_irrefl l (e ▸ hf _ hm)
  refine for_list F N (List.mem_cons_of_mem _ hm) hh vars (fun y => (f, ob y) :: rest) ok (f :: (rest.map (·.1)).filter fun a => decide (a ≠ l)) y hb (fun _ z => z) h (fun i y _ p hp => ?_) (fun a ha => ?_) (fun i v y h tk m₁ own h1 h2 h3 h4 h5 => ?_) done hx hp
  · rcases List.mem_cons.mp hp with rfl | hp
    · exact .tail _ (.head _)
    · by_cases e : p.1 = l
      · rw [e]; exact .head _
      · exact .tail _ (.tail _ (List.mem_filter.mpr ⟨List.mem_map_of_mem hp, decide_eq_true e⟩))
  · rcases List.mem_cons.mp ha with rfl | ha
    · exact ⟨hfl, _, .head _⟩
    · obtain ⟨h1, h2⟩ := List.mem_filter.mp ha
      obtain ⟨p, hp, rfl⟩ := List.mem_map.mp h1
      exact ⟨of_decide_eq_true h2, p.2, .tail _ hp⟩
  · refine wpAny_mono (turn i v y h tk m₁ (rest ++ own) h1 h2 (fun p hp => ?_) (fun p hp => List.mem_append_left _ hp) h4 h5) (fun f' s₃ q => ?_) fun _ _ x => x
    · rcases List.mem_append.mp hp with hp | hp
      · exact Nat.ne_of_lt (hf p hp)
      · exact h3 p hp f (.head _)
    · have fin : ListEnd1 h₀ env.locals f vars ob ok (rest ++ own) (i + 1) { s with heap := h, toks := tk } s₃ → ListEnd h₀ env.locals vars (fun y => (f, ob y) :: rest) ok own (i + 1) { s with heap := h, toks := tk } s₃ :=
        fun ⟨h', tk', m', y', e1, e2, e3, e4, e5⟩ => ⟨h', tk', m', y', e1, e2, e3, e4, e5⟩
      cases f' with
      | ret v => exact q
      | brk => exact q
      | cont => exact fin q
      | next => exact fin q
end

end Mine
namespace Mine
section
variable {prog : Program} {w : World} {A : Around} {E : Value → Shared → Prop} {s : Shared} {h₀ : Heap} {m : Str → Option Value} {σ : Type} {env : Env}
/-- an enumeration of a list of the ledger, where one object changes -/
theorem enum_list1 {xi xc : Str} {pi pc pt : Pos} {x1 : Nat} {body : List Stmt} {R : Result → Shared → Prop} {l f : Addr} {its : List Value} {c : Nat} {rest : List (Addr × Obj)} (hh : A.handled = none)
    (F : Fr h₀ env.locals s.heap m) (vars : σ → List (Str × Value)) (ob : σ → Obj) (ok : Nat → σ → Prop) (y : σ) (N : News h₀ env.locals s.heap ((l, listOf its.toArray c) :: (f, ob y) :: rest))
    (hf : ∀ p ∈ (l, listOf its.toArray c) :: rest, p.1 ≠ f) (hb : HasB m (vars y)) (h : ok 0 y)
    (turn : ∀ i v y t h tk m₁ R2, its[i]? = some v → ok i y → (∀ p ∈ R2, p.1 ≠ f) → (∀ p ∈ rest, p ∈ R2) → Fr h₀ env.locals h (fun z => if z = xc then some v else if z = xi then some (.int i t) else mB (vars y) m₁ z) → News h₀ env.locals h ((f, ob y) :: R2) →
      wpAny (model prog w) A (execs body env) (fun f' s₂ => match f' with
        | .ret v => R (.ok (.ret v)) s₂
        | .brk => R (.ok .next) s₂
        | _ => ListEnd1 h₀ env.locals f vars ob ok R2 (i + 1) { s with heap := h, toks := tk } s₂) (fun _ _ => False) { s with heap := h, toks := tk })
    (done : ∀ h' tk m₁ y, ok its.length y → Fr h₀ env.locals h' (mB (vars y) m₁) → News h₀ env.locals h' ((f, ob y) :: rest) → R (.ok .next) { s with heap := h', toks := tk })
    (hxi : env.kindOf xi = some .local := by rfl) (hxv : env.kindOf xc = some .local := by rfl) (hp : (env.scope.kind == .class || (env.scope.kind == .module && env.locals != env.globals)) = false := by rfl) :
    wpAny (model prog w) A (call (.type "enumerate") [.ref l]) (fun xv s₁ => wpAny (model prog w) A (pyIter xv) (fun it s₂ => codeAny (model prog w) A (.forLoop (.Tuple [.Name xi pi, .Name xc pc] x1 pt) it body [] env) R s₂) E s₁) E s := by
  refine enum_list hh F N (.head _) vars (fun y => (f, ob y) :: (l, listOf its.toArray c) :: rest) ok y hb (fun p hp => ?_) h (fun _ _ _ => ⟨c, .tail _ (.head _)⟩) (fun i y _ p hp => ?_) (fun i v y t h tk m₁ own h1 h2 h3 h4 h5 h6 => ?_) (fun h' tk m₁ y h1 h2 h3 => done h' tk m₁ y h1 h2 (news_of h3 fun p hp => ?_)) hxi hxv hp
  · rcases List.mem_cons.mp hp with rfl | hp
    · exact .tail _ (.head _)
    · rcases List.mem_cons.mp hp with rfl | hp
      · exact .head _
      · exact .tail _ (.tail _ hp)
  · rcases List.mem_cons.mp hp with rfl | hp
    · exact ⟨_, .tail _ (.head _)⟩
    · rcases List.mem_cons.mp hp with rfl | hp
      · exact ⟨_, .head _⟩
      · exact ⟨p.2, .tail _ (.tail _ hp)⟩
  · refine wpAny_mono (turn i v y t h tk m₁ ((l, listOf its.toArray c) :: rest ++ own) h1 h2 (fun p hp => ?_) (fun p hp => List.mem_append_left _ (.tail _ hp)) h5 h6) (fun f' s₃ q => ?_) fun _ _ x => x
    · rcases List.mem_append.mp hp with hp | hp
      · exact hf p hp
      · exact h3 p hp f (List.mem_cons.mpr (.inl rfl))
    · have fin : ListEnd1 h₀ env.locals f vars ob ok ((l, listOf its.toArray c) :: rest ++ own) (i + 1) { s with heap := h, toks := tk } s₃ → EnumEnd h₀ env.locals vars (fun y => (f, ob y) :: (l, listOf its.toArray c) :: rest) ok own (i + 1) { s with heap := h, toks := tk } s₃ :=
        fun ⟨h', tk', m', y', e1, e2, e3, e4, e5⟩ => ⟨h', tk', m', y', e1, e2, e3, e4, e5⟩
      cases f' with
      | ret v => exact q
      | brk => exact q
      | cont => exact fin q
      | next => exact fin q
  · rcases List.mem_cons.mp hp with rfl | hp
    · exact .head _
    · exact .tail _ (.tail _ hp)
end
theorem ListEnd1.mk1 {σ : Type} {h₀ : Heap} {L f : Addr} {vars : σ → List (Str × Value)} {ob : σ → Obj} {ok : Nat → σ → Prop} {R2 : List (Addr × Obj)} {i : Nat} {s₁ : Shared} {h' : Heap} {tk : Nat} {m' : Str → Option Value} {o : Obj} (y : σ)
    (F : Fr h₀ L h' m') (N : News h₀ L h' ((f, o) :: R2)) (e : o = ob y) (hb : HasB m' (vars y)) (h : ok i y) : ListEnd1 h₀ L f vars ob ok R2 i s₁ { s₁ with heap := h', toks := tk } :=
  ⟨h', tk, m', y, rfl, h, F, hb, e ▸ N⟩

end Mine
namespace Mine
section
variable {prog : Program} {w : World} {A : Around} {E : Value → Shared → Prop} {s : Shared} {h₀ h : Heap} {L D b : Addr} {m : Str → Option Value} {news news' : List (Addr × Obj)} {its its2 l : List Value} {n n2 : Nat}
theorem look_iadd : typeLookup (.type "list") (dunderI "add") = pure (some (.builtin "list.__iadd__")) := by rw [typeLookup_type, builtinLookup_eq_fast]; kernel_rfl
theorem noFillI_list : fillsInplaceSlot (.type "list") "add" (Operator.Add == .Add) = pure false := by
  unfold fillsInplaceSlot
  show (typeLookup (.type "list") (dunderI "add") >>= fun fi => pure (fi.isSome && !isSeqSlot fi)) = pure false
  rw [look_iadd]; kernel_rfl
theorem seqI_list : seqSlot? (.type "list") (dunderI "add") = pure (some (.builtin "list.__iadd__")) := by
  unfold seqSlot?
  rw [look_iadd]; kernel_rfl
theorem kl_iadd {Q : Value → Shared → Prop} (F : Fr h₀ L s.heap m) (N : News h₀ L s.heap news) (hb : (b, listOf its2.toArray n2) ∈ news) (e : its ++ its2 = l) (hne : its2.length ≠ 0)
    (U : Upd D (listOf its.toArray n) (listOf l.toArray (n + 1)) news news') (hz : its.length + its2.length ≤ 100)
    (h : ∀ h', Fr h₀ L h' m → News h₀ L h' news' → Q (.ref D) { s with heap := h' }) : wpAny (model prog w) A (inplaceOp .Add (.ref D) (.ref b)) Q E s := by
  obtain ⟨pre, post, rfl, rfl, a, c⟩ := U.split
  have z := N (D, listOf its.toArray n) (List.mem_append.mpr (.inr (.head _)))
  unfold inplaceOp
  refine wpAny_holding ?_
  have ta : s.TypeIs (.ref D) "list" := ⟨_, z.1, rfl⟩
  have tb : s.TypeIs (.ref b) "list" := ⟨_, (N _ hb).1, rfl⟩
  refine wpAny_bind (wpAny_typeOf ta (wpAny_bind (wpAny_of_eq noFillI_list ?_)))
  show wpAny _ A (if false = true then _ else _) Q E s
  rw [if_neg Bool.false_ne_true]
  refine wpAny_bind (wpAny_binaryOp1_none (nm := "add") ta tb noFill_list_add ?_)
  refine wpAny_bind (wpAny_of_eq seqI_list ?_)
  refine wpAny_bind (wpAny_rule ?_)
  subst e
  refine call_meets PySem.F.slot_list_iadd ta PySem.F.entry_list_iadd (PySem.F.args_list_iadd_2 _ _) (PySem.AutoSeq1.list___iadd___list_list_0 D its.toArray n b its2.toArray n2 (by simp [Builtin.List.listTooLong, sizeLine]; omega) (by simp [sizeLine]; omega) (by simp [sizeLine]; omega)) ?_
  refine ⟨z.1, (N _ hb).1, ?_⟩
  refine (h _ (F.change (Heap.SameBut.update ..) z.2.1 z.2.2) (kl_turn _ N a c ?_ ?_))
  · simp
  · simp; exact fun q => hne (by rw [q]; rfl)
end
/-- the ledger of a turn in the form of a head and one tail -/
theorem turn_led {h₀ h : Heap} {L x : Addr} {o : Obj} {rest own : List (Addr × Obj)} (l1 : ∀ p ∈ rest, p.1 < x) (hoff : OwnOff own (List.map (fun q => q.1) ((x, o) :: rest))) (N : News h₀ L h ((x, o) :: rest ++ own)) :
    ∃ R2, News h₀ L h ((x, o) :: R2) ∧ (∀ p ∈ R2, p.1 ≠ x) ∧ (∀ p ∈ rest, p ∈ R2) ∧ (∀ p ∈ own, p ∈ R2) ∧ R2 = rest ++ own :=
  ⟨rest ++ own, N, fun p hp => (List.mem_append.mp hp).elim (fun q => Nat.ne_of_lt (l1 p q)) (fun q => fun e => hoff p q x (List.mem_cons.mpr (.inl rfl)) e), fun p hp => List.mem_append_left _ hp, fun p hp => List.mem_append_right _ hp, rfl⟩
theorem led_own {x : Addr} {o : Obj} {rest own R2 all : List (Addr × Obj)} (e : R2 = rest ++ own) (h1 : (x, o) ∈ all) (h2 : ∀ p ∈ R2, p ∈ all) : ∀ p ∈ (x, o) :: rest ++ own, p ∈ all := by
  subst e
  intro p hp
  rcases List.mem_cons.mp hp with rfl | hp
  · exact h1
  · exact h2 p hp
theorem ints_rep (z : Int) (t : Tok) : ∀ a : Nat, IntsAre (List.replicate a (.int z t)) (List.replicate a z)
  | 0 => .nil
  | a + 1 => .cons _ _ (ints_rep z t a)
section
variable {prog : Program} {w : World} {A : Around} {E : Value → Shared → Prop} {s : Shared} {h₀ h : Heap} {L l : Addr} {m : Str → Option Value} {news news' : List (Addr × Obj)}
theorem mul_one {Q : Value → Shared → Prop} {z : Int} {t u : Tok} {a : Nat} (F : Fr h₀ L s.heap m) (N : News h₀ L s.heap news) (hl : s.heap.IsList l [Value.int z t].toArray) (ha : a ≤ 3)
    (h : ∀ D h' ws2, IntsAre ws2 (List.replicate a z) → ws2.length = a → Fr h₀ L h' m → News h₀ L h' ((D, listOf ws2.toArray 0) :: news) → (∀ p ∈ news, p.1 < D) → Q (.ref D) { s with heap := h' }) : wpAny (model prog w) A (binaryOp .Mult (.ref l) (.int (a : Int) u)) Q E s :=
  KMa.mul (ws := List.replicate a (.int z t)) F N hl (by omega) (by omega) (by simp; omega) (by simp only [Int.toNat_natCast]; exact List.flatten_replicate_singleton) fun D h' F' N' l1 => h D h' _ (ints_rep z t a) List.length_replicate F' N' l1
end

end Mine
namespace Mine
set_option maxRecDepth 100000
theorem ci_slot : Slot "callable_iterator" "__next__" "callable_iterator.__next__" :=
  .of (owner := "callable_iterator") (n := "__next__") (by rw [typeLookup_type, builtinLookup_eq_fast]; kernel_rfl) (by decide +kernel) (by decide +kernel) (by decide +kernel)
    (by first | exact .inl (by decide +kernel) | exact .inr (by decide +kernel)) (by rw [isSubtype_type]; kernel_rfl)
theorem ci_entry : entryFor table "callable_iterator.__next__" = some Builtin.«callable_iterator.__next__» := entryFor_of_tree (by kernel_rfl)
theorem ci_args (a : Value) : argsOk "callable_iterator.__next__" ⟨[a], []⟩ := by unfold argsOk; kernel_rfl
noncomputable abbrev ciObj (f e : Value) (b : Bool) : Obj := { cls := .type "callable_iterator", data := .fields #[f, e, .bool b] }
section
variable {prog : Program} {w : World} {A : Around} {E : Value → Shared → Prop} {s : Shared}
theorem borrows_meth {A : Around} {E : Value → Shared → Prop} {s : Shared} {mo fn : Addr} {self : Value} {o : Obj} {fd : FuncData} {Q : Bool → Shared → Prop} (hmo : s.heap.get? mo = some (methodObj (.ref fn) self)) (hfn : s.heap.get? fn = some o) (hd : o.data = .func fd)
    (h : Q true s) : wpAny (model prog w) A (borrowsExactly (.ref mo)) Q E s := by
  unfold borrowsExactly
  refine wpAny_bind (wpAny_load hmo ?_)
  show wpAny _ _ (load fn >>= _) _ _ s
  refine wpAny_bind (wpAny_load hfn ?_)
  rw [hd]
  exact wpAny_pure h
theorem ci_next {it mo fn : Addr} {self : Value} {e : Str} {te : Tok} {o : Obj} {fd : FuncData} {Q : Option Value → Shared → Prop} (hh : A.handled = none)
    (hit : s.heap.get? it = some (ciObj (.ref mo) (.str e te) false)) (hmo : s.heap.get? mo = some (methodObj (.ref fn) self)) (hfn : s.heap.get? fn = some o) (hd : o.data = .func fd)
    (hc : codeAny (model prog w) A.in1 (.call (.ref fn) ⟨[self], []⟩) (fun r s' => ∃ y t, r = .ok (.ret (.str y t)) ∧ s'.heap.get? it = some (ciObj (.ref mo) (.str e te) false) ∧ s'.heap.get? mo = some (methodObj (.ref fn) self) ∧ (∃ o fd, s'.heap.get? fn = some o ∧ o.data = .func fd) ∧
      (if e = y then ∀ h', Heap.ExtBut it s'.heap h' → h'.get? it = some (ciObj .none .none true) → Q none { s' with heap := h' } else Q (some (.str y t)) s')) s) :
    wpAny (model prog w) A (pyNext (.ref it)) Q E s := by
  have hT : s.TypeIs (.ref it) "callable_iterator" := ⟨_, hit, rfl⟩
  unfold pyNext
  refine wpAny_bind (wpAny_attempt (wpAny_callSpecial?_slot (name := PySem.Str.ofString "__next__") hT ci_slot
    (wpAny_call_entry ci_slot hT ci_entry ?_ (ci_args _))))
  show wpAny _ _ (field (.ref it) 2 >>= _) _ _ s
  refine wpAny_bind (wpAny_field hit rfl (x := .bool false) rfl ?_)
  show wpAny _ _ (if (Value.bool false == Value.bool true) = true then _ else _) _ _ s
  rw [if_neg (show ¬ ((Value.bool false == Value.bool true) = true) from by decide)]
  show wpAny _ _ (field (.ref it) 0 >>= _) _ _ s
  refine wpAny_bind (wpAny_field hit rfl (x := .ref mo) rfl (wpAny_bind (wpAny_attempt ?_)))
  unfold callOutOfASlot
  refine wpAny_bind (borrows_meth hmo hfn hd ?_)
  show wpAny _ _ (callBorrowed (.ref mo) []) _ _ s
  unfold callBorrowed
  refine X.x_call (method_call hmo (codeAny_mono hc fun r s' hr => ?_)) (by intro q; cases q)
  obtain ⟨y, t, rfl, hit', hmo', ⟨o', fd', hfn', hd'⟩, hq⟩ := hr
  refine wpAny_pure ?_
  show wpAny _ _ (field (.ref it) 2 >>= _) _ _ s'
  refine wpAny_bind (wpAny_field hit' rfl (x := .bool false) rfl ?_)
  show wpAny _ _ (if (Value.bool false == Value.bool true) = true then _ else _) _ _ s'
  rw [if_neg (show ¬ ((Value.bool false == Value.bool true) = true) from by decide)]
  show wpAny _ _ (field (.ref it) 1 >>= _) _ _ s'
  refine wpAny_bind (wpAny_field hit' rfl (x := .str e te) rfl (wpAny_bind (wpAny_holding (eqBool_str ?_))))
  by_cases he : e = y
  · rw [if_pos he] at hq
    rw [show (e == y) = true from by simpa using he]
    show wpAny _ _ (rule _ >>= _) _ _ s'
    refine wpAny_bind (wpAny_rule ?_)
    refine wpAny_bind ?_
    show wpAny _ _ (field (.ref it) 0 >>= fun old => slotLetsGo "callable_iterator.__next__" old _ >>= fun _ => setField (.ref it) 0 .none >>= fun _ => setField (.ref it) 1 .none >>= fun _ => setField (.ref it) 2 (.bool true)) _ _ s'
    refine wpAny_bind (wpAny_field hit' rfl (x := .ref mo) rfl (wpAny_bind ?_))
    unfold slotLetsGo
    refine wpAny_bind (borrows_meth hmo' hfn' hd' (wpAny_pure ?_))
    refine wpAny_bind (wpAny_setField_rec hit' (by simp) fun h₁ e₁ b₁ => ?_)
    refine wpAny_bind (wpAny_setField_rec e₁ (by simp) fun h₂ e₂ b₂ => ?_)
    refine wpAny_setField_rec e₂ (by simp) fun h₃ e₃ b₃ => ?_
    have hb : Heap.ExtBut it s'.heap h₃ := fun b o hb ho => b₃.extBut b o hb (b₂.extBut b o hb (b₁.extBut b o hb ho))
    show wpAny _ _ (newExc (.type "StopIteration") [] >>= _) _ _ _
    refine wpAny_bind ?_
    simp only [newExc, newTuple]
    refine wpAny_bind (wpAny_newObj_type ?_ (by size_fits))
    refine wpAny_bind (m := firstArgMember _ _) (wpAny_of_eq (a := Value.none) (by first | rfl | (simp only [firstArgMember]; rfl)) ?_)
    refine wpAny_newObj_type ?_ (by size_fits)
    simp only [raiseNew]
    refine wpAny_bind (wpAny_handled ?_)
    rw [show A.in1.handled = none from hh]
    refine wpAny_bind (wpAny_pure (wpAny_throw ?_))
    refine wpAny_bind (wpAny_isInstance (T := "StopIteration") (b := true) ⟨_, Heap.get?_push_size _ rfl, rfl⟩ isSubtype_stop ?_)
    exact wpAny_pure (hq _ ((hb.push _).push _) (Heap.get?_push_of_some _ (Heap.get?_push_of_some _ e₃)))
  · rw [if_neg he] at hq
    rw [show (e == y) = false from by simpa using he]
    exact wpAny_pure ⟨_, rfl, wpAny_pure hq⟩

theorem ci_slot_self : Slot "callable_iterator" "__iter__" "callable_iterator.__iter__" :=
  .of (owner := "callable_iterator") (n := "__iter__") (by rw [typeLookup_type, builtinLookup_eq_fast]; kernel_rfl) (by decide +kernel) (by decide +kernel) (by decide +kernel)
    (by first | exact .inl (by decide +kernel) | exact .inr (by decide +kernel)) (by rw [isSubtype_type]; kernel_rfl)
theorem ci_entry_self : entryFor table "callable_iterator.__iter__" = some Builtin.«dict_keyiterator.__iter__» := entryFor_alias (id' := "dict_keyiterator.__iter__") (by kernel_rfl) rfl (by decide +kernel) (by kernel_rfl)
theorem ci_args_self (a : Value) : argsOk "callable_iterator.__iter__" ⟨[a], []⟩ := by unfold argsOk; kernel_rfl
theorem ci_self {it : Addr} {f e : Value} {b : Bool} {Q : Value → Shared → Prop} (hit : s.heap.get? it = some (ciObj f e b)) (h : Q (.ref it) s) : wpAny (model prog w) A (pyIter (.ref it)) Q E s := by
  have hT : s.TypeIs (.ref it) "callable_iterator" := ⟨_, hit, rfl⟩
  refine wpAny_pyIter_slot hT ci_slot_self (wpAny_call_entry ci_slot_self hT ci_entry_self ?_ (ci_args_self _))
  show wpAny _ _ (ret (.ref it)) _ _ s
  exact wpAny_pure ⟨_, rfl, "callable_iterator", _, hT, ci_slot.lookup, h⟩
theorem ci_lookup : typeLookup (.type "method") "__call__" = pure (some (.builtin "method.__call__")) := by rw [typeLookup_type, builtinLookup_eq_fast]; kernel_rfl
theorem ci_args_iter (a b : Value) : argsOk "iter" ⟨[a, b], []⟩ := by unfold argsOk; kernel_rfl
theorem ci_make {mo : Addr} {f self : Value} {e : Str} {te : Tok} {h₀ : Heap} {L : Addr} {m : Str → Option Value} {news : List (Addr × Obj)} {Q : Value → Shared → Prop} (F : Fr h₀ L s.heap m) (N : News h₀ L s.heap news) (hmo : (mo, methodObj f self) ∈ news)
    (h : ∀ a h' mo' te', mo' = mo → te' = te → Fr h₀ L h' m → News h₀ L h' ((a, ciObj (.ref mo') (.str e te') false) :: news) → (∀ p ∈ news, p.1 < a) → Q (.ref a) { s with heap := h' }) :
    wpAny (model prog w) A (call (.builtin "iter") [.ref mo, .str e te]) Q E s := by
  refine call_function_entry (by decide +kernel) (by decide +kernel) kdk_entry_iter (ci_args_iter _ _) ?_
  unfold Builtin.«iter»
  refine wpAny_bind (m := someArgs "iter" 1 2 _) (wpAny_of_eq (a := [Value.ref mo, Value.str e te]) (by kernel_rfl!) ?_)
  dsimp only
  refine wpAny_bind (wpAny_specialOf (T := "method") (name := Str.ofString "__call__") ⟨_, (N _ hmo).1, rfl⟩ ci_lookup ?_)
  refine wpAny_ite_split (fun hab => absurd hab (by simp)) (fun _ => ?_)
  show wpAny _ _ (rule _ >>= _) _ _ s
  refine wpAny_bind (wpAny_rule (wpAny_bind ?_))
  show wpAny _ _ (newFields "callable_iterator" [.ref mo, .str e te, .bool false]) _ _ s
  exact wpAny_newObj_type (wpAny_pure ⟨_, rfl, h _ _ _ _ rfl rfl (F.push _) (N.push F _) fun p hp => Heap.lt_size (N p hp).1⟩)
end

end Mine
namespace Mine
noncomputable abbrev mkS (l : List Nat) : Str := ⟨l.toArray⟩
theorem mkS_cps (l : List Nat) : (mkS l).cps.toList = l := by simp
theorem mkS_of (x : Str) : x = mkS x.cps.toList := by cases x; simp [mkS]
theorem mkS_inj {a b : List Nat} (h : mkS a = mkS b) : a = b := by
  have := congrArg (fun x : Str => x.cps.toList) h
  simpa using this
/-- two neighbours exchanged -/
noncomputable def swapAt (l : List Nat) (p : Nat) : List Nat := l.take (p - 1) ++ ([l.getD p 0] ++ ([l.getD (p - 1) 0] ++ l.drop (p + 1)))
structure PS where
  (fall rise : Nat) (met q : List (List Nat))
noncomputable def placeStep (row : List Nat) (p : Nat) (s : PS) : PS :=
  if row.getD p 0 < row.getD (p - 1) 0 then { s with fall := s.fall + p }
  else if row.getD (p - 1) 0 < row.getD p 0 then
    if swapAt row p ∈ s.met then { s with rise := s.rise + p } else { s with rise := s.rise + p, met := s.met ++ [swapAt row p], q := s.q ++ [swapAt row p] }
  else s
noncomputable def placeGo (row : List Nat) : Nat → Nat → PS → PS
  | 0, _, s => s
  | k + 1, p, s => placeGo row k (p + 1) (placeStep row p s)
structure RS where
  (met q : List (List Nat)) (rd fl ri : List Nat)
noncomputable def RS.fits (s : RS) : Bool := decide (s.met.length ≤ 100) && decide (s.q.length ≤ 100) && decide (s.fl.length ≤ 100) && decide (s.ri.length ≤ 100) && decide (s.rd.length ≤ 100) && s.q.all fun r => decide (1 ≤ r.length) && decide (r.length ≤ 8)
/-- a row is got and looked at -/
noncomputable def rowStep (s : RS) : Option RS := if s.fits then
  match s.q with
  | [] => none
  | row :: q => let t := placeGo row (row.length - 1) 1 ⟨0, 0, s.met, q⟩; some ⟨t.met, t.q, s.rd, s.fl ++ [t.fall], s.ri ++ [t.rise]⟩ else none
noncomputable def rowsGo : Nat → RS → Option RS
  | 0, s => some s
  | k + 1, s => (rowStep s).bind (rowsGo k)
/-- round by round -/
noncomputable def roundsGo : Nat → RS → Option RS
  | 0, _ => none
  | f + 1, s => if s.q = [] then some s else if s.fits then (rowsGo s.q.length { s with rd := s.rd ++ [s.q.length] }).bind (roundsGo f) else none
theorem placeStep_len (row : List Nat) (p : Nat) (s : PS) : (placeStep row p s).met.length ≤ s.met.length + 1 ∧ (placeStep row p s).q.length ≤ s.q.length + 1 := by
  unfold placeStep
  split
  · exact ⟨Nat.le_succ _, Nat.le_succ _⟩
  · split
    · split
      · exact ⟨Nat.le_succ _, Nat.le_succ _⟩
      · simp
    · exact ⟨Nat.le_succ _, Nat.le_succ _⟩
theorem swapAt_len (l : List Nat) (p : Nat) (h : 1 ≤ p) (hp : p < l.length) : (swapAt l p).length = l.length := by
  simp [swapAt]; omega
theorem swap_split (l : List Nat) (p : Nat) (h : 1 ≤ p) (hp : p < l.length) : l = l.take (p - 1) ++ ([l.getD (p - 1) 0] ++ ([l.getD p 0] ++ l.drop (p + 1))) := by
  have e1 : l.getD (p - 1) 0 = l[p - 1]'(by omega) := by rw [List.getD_eq_getElem?_getD, List.getElem?_eq_getElem (by omega)]; rfl
  have e2 : l.getD p 0 = l[p] := by rw [List.getD_eq_getElem?_getD, List.getElem?_eq_getElem hp]; rfl
  rw [e1, e2]
  conv => lhs; rw [← List.take_append_drop (p - 1) l]
  congr 1
  rw [List.drop_eq_getElem_cons (by omega)]
  simp only [List.cons_append, List.nil_append]
  congr 1
  rw [show p - 1 + 1 = p by omega, List.drop_eq_getElem_cons hp]
theorem lt_app (a b c : List Nat) : a ++ b < a ++ c ↔ b < c := by
  induction a with
  | nil => rfl
  | cons x a ih => simp [List.cons_lt_cons_iff, ih]
theorem coll_swap (l : List Nat) (p : Nat) (h : 1 ≤ p) (hp : p < l.length) :
    (swapAt l p < l ↔ l.getD p 0 < l.getD (p - 1) 0) ∧ (l < swapAt l p ↔ l.getD (p - 1) 0 < l.getD p 0) := by
  have e := swap_split l p h hp
  generalize hx : l.getD (p - 1) 0 = x at *
  generalize hy : l.getD p 0 = y at *
  have es : swapAt l p = l.take (p - 1) ++ ([y] ++ ([x] ++ l.drop (p + 1))) := by rw [swapAt, hx, hy]
  rw [es]
  constructor
  · conv => lhs; rhs; rw [e]
    rw [lt_app]
    simp only [List.cons_append, List.nil_append, List.cons_lt_cons_iff]
    constructor
    · rintro (h | ⟨h1, h2 | ⟨h3, h4⟩⟩)
      · exact h
      · omega
      · exact absurd h4 (List.lt_irrefl _)
    · exact fun h => .inl h
  · conv => lhs; lhs; rw [e]
    rw [lt_app]
    simp only [List.cons_append, List.nil_append, List.cons_lt_cons_iff]
    constructor
    · rintro (h | ⟨h1, h2 | ⟨h3, h4⟩⟩)
      · exact h
      · omega
      · exact absurd h4 (List.lt_irrefl _)
    · exact fun h => .inl h
noncomputable def RS.small (s : RS) : Prop := s.met.length ≤ 1000 ∧ s.q.length ≤ 1000 ∧ s.fl.length ≤ 1000 ∧ s.ri.length ≤ 1000 ∧ s.rd.length ≤ 1000
theorem RS.fits_small {s : RS} (h : s.fits = true) : (s.met.length ≤ 100 ∧ s.q.length ≤ 100 ∧ s.fl.length ≤ 100 ∧ s.ri.length ≤ 100 ∧ s.rd.length ≤ 100) ∧ ∀ r ∈ s.q, 1 ≤ r.length ∧ r.length ≤ 8 := by
  simp only [RS.fits, Bool.and_eq_true, decide_eq_true_eq, List.all_eq_true] at h
  exact ⟨⟨h.1.1.1.1.1, h.1.1.1.1.2, h.1.1.1.2, h.1.1.2, h.1.2⟩, h.2⟩
theorem placeGo_len (row : List Nat) : ∀ (k p : Nat) (s : PS), (placeGo row k p s).met.length ≤ s.met.length + k ∧ (placeGo row k p s).q.length ≤ s.q.length + k
  | 0, _, s => ⟨Nat.le_refl _, Nat.le_refl _⟩
  | k + 1, p, s => by
    have h1 := placeGo_len row k (p + 1) (placeStep row p s)
    have h2 := placeStep_len row p s
    show (placeGo row k (p + 1) (placeStep row p s)).met.length ≤ _ ∧ (placeGo row k (p + 1) (placeStep row p s)).q.length ≤ _
    omega
theorem rowStep_some {s s' : RS} (h : rowStep s = some s') : ∃ row q, s.q = row :: q ∧ s.fits = true ∧ s' = ⟨(placeGo row (row.length - 1) 1 ⟨0, 0, s.met, q⟩).met, (placeGo row (row.length - 1) 1 ⟨0, 0, s.met, q⟩).q, s.rd, s.fl ++ [(placeGo row (row.length - 1) 1 ⟨0, 0, s.met, q⟩).fall], s.ri ++ [(placeGo row (row.length - 1) 1 ⟨0, 0, s.met, q⟩).rise]⟩ := by
  unfold rowStep at h
  split at h
  · rename_i hf
    split at h
    · cases h
    · rename_i row q e
      exact ⟨row, q, e, hf, (Option.some.inj h).symm⟩
  · cases h
theorem rowStep_small {s s' : RS} (h : rowStep s = some s') : s'.small := by
  obtain ⟨row, q, e, hf, rfl⟩ := rowStep_some h
  obtain ⟨⟨h1, h2, h3, h4, h5⟩, h6⟩ := RS.fits_small hf
  rw [e] at h2 h6
  have h7 := h6 row (.head _)
  have h8 := placeGo_len row (row.length - 1) 1 ⟨0, 0, s.met, q⟩
  simp only [List.length_cons] at h2
  refine ⟨?_, ?_, ?_, ?_, ?_⟩ <;> simp only [List.length_append, List.length_singleton] at * <;> omega

end Mine
namespace Mine
theorem valueAt_some {K : Type} [DecidableEq K] {kvs : List (K × Value)} {k : K} : (valueAt kvs k).isSome = decide (k ∈ kvs.map (·.1)) := by
  unfold valueAt
  rw [Option.isSome_map, Bool.eq_iff_iff, List.find?_isSome, decide_eq_true_eq, List.mem_map]
  constructor
  · rintro ⟨p, hp, e⟩; exact ⟨p, hp, of_decide_eq_true e⟩
  · rintro ⟨p, hp, e⟩; exact ⟨p, hp, decide_eq_true e⟩
theorem stored_any {K : Type} [DecidableEq K] {kvs : List (K × Value)} {k : K} : (kvs.any fun kv => decide (kv.1 = k)) = decide (k ∈ kvs.map (·.1)) := by
  rw [Bool.eq_iff_iff, List.any_eq_true, decide_eq_true_eq, List.mem_map]
  constructor
  · rintro ⟨p, hp, e⟩; exact ⟨p, hp, of_decide_eq_true e⟩
  · rintro ⟨p, hp, e⟩; exact ⟨p, hp, decide_eq_true e⟩
theorem stored_new {K : Type} [DecidableEq K] {kvs : List (K × Value)} {k : K} {v : Value} (h : k ∉ kvs.map (·.1)) : (stored kvs k v).map (·.1) = kvs.map (·.1) ++ [k] := by
  unfold stored
  rw [stored_any, decide_eq_false h, if_neg Bool.false_ne_true, List.map_append]; rfl
theorem stored_old {K : Type} [DecidableEq K] {kvs : List (K × Value)} {k : K} {v : Value} (h : k ∈ kvs.map (·.1)) : (stored kvs k v).map (·.1) = kvs.map (·.1) := by
  unfold stored
  rw [stored_any, decide_eq_true h, if_pos rfl, List.map_map]
  refine List.map_congr_left fun p _ => ?_
  simp only [Function.comp]
  split <;> rfl
theorem mkS_mem {k : List Nat} {met : List (List Nat)} : mkS k ∈ met.map mkS ↔ k ∈ met := by
  rw [List.mem_map]
  exact ⟨fun ⟨a, h, e⟩ => mkS_inj e ▸ h, fun h => ⟨k, h, rfl⟩⟩
section
variable {prog : Program} {w : World} {A : Around} {E : Value → Shared → Prop} {s : Shared} {h₀ : Heap} {L d : Addr} {m : Str → Option Value} {news : List (Addr × Obj)} {o : Obj} {kvs : List (Str × Value)} {met : List (List Nat)} {k : List Nat} {Q : Value → Shared → Prop}
theorem list_dict (hh : A.handled = none) (F : Fr h₀ L s.heap m) (N : News h₀ L s.heap news) (hp : (d, o) ∈ news) (hd : o.IsDictOf (PySem.strKind prog w) kvs) (hk : kvs.map (·.1) = met.map mkS) (lo : (d == sysModules) = false) (hn : met.length ≤ 1000)
    (h : ∀ (B : Addr) c h' tk vs, StrsAre vs (met.map mkS) → Fr h₀ L h' m → News h₀ L h' ((B, listOf vs.toArray c) :: news) → (∀ q ∈ news, q.1 < B) → Q (.ref B) { s with heap := h', toks := tk }) :
    wpAny (model prog w) A (call (.type "list") [.ref d]) Q E s := by
  obtain ⟨ep, hat⟩ := (kda_dict N hp hd).dictAt
  have hl : kvs.length = met.length := by have := congrArg List.length hk; simpa using this
  refine kdl_N (kdl_dict (knd := PySem.strKind prog w) (kvs := kvs) (ep := ep) lo) hh F N hat (kdl_size (by omega)) fun B c h' tk vs F' N' l1 hl' hv => ?_
  refine h B c h' tk vs ?_ F' N' l1
  rw [← hk]
  refine strsAre_get (by rw [hl', List.length_map]) fun j y hj => ?_
  have hjl : j < vs.length := by
    have := (List.getElem?_eq_some_iff.mp hj).1
    rw [List.length_map] at this; omega
  obtain ⟨k, x, hx, hk'⟩ := hv j vs[j] (List.getElem?_eq_getElem hjl)
  obtain ⟨t, ht⟩ := Value.isStrOf_shape hk'
  rw [List.getElem?_map, hx] at hj
  obtain rfl := Option.some.inj hj
  exact ⟨t, by rw [List.getElem?_eq_getElem hjl, ht]⟩
theorem dict_notin {t : Tok} (N : News h₀ L s.heap news) (hp : (d, o) ∈ news) (hd : o.IsDictOf (PySem.strKind prog w) kvs) (hk : kvs.map (·.1) = met.map mkS) (lo : (d == sysModules) = false)
    (hin : k ∈ met → Q (.bool false) { s with toks := s.toks + 1 }) (hout : k ∉ met → Q (.bool true) { s with toks := s.toks + 1 }) : wpAny (model prog w) A (compareOp .NotIn (.str (mkS k) t) (.ref d)) Q E s := by
  by_cases h : k ∈ met
  · exact kdg_notin (knd := PySem.strKind prog w) N hp hd lo (strKind_is _ _ _ _) true (by rw [valueAt_some, hk]; exact decide_eq_true (mkS_mem.mpr h)) (hin h)
  · exact kdg_notin (knd := PySem.strKind prog w) N hp hd lo (strKind_is _ _ _ _) false (by rw [valueAt_some, hk]; exact decide_eq_false fun q => h (mkS_mem.mp q)) (hout h)
theorem dict_in {t : Tok} (N : News h₀ L s.heap news) (hp : (d, o) ∈ news) (hd : o.IsDictOf (PySem.strKind prog w) kvs) (hk : kvs.map (·.1) = met.map mkS) (lo : (d == sysModules) = false)
    (hin : k ∈ met → Q (.bool true) { s with toks := s.toks + 1 }) (hout : k ∉ met → Q (.bool false) { s with toks := s.toks + 1 }) : wpAny (model prog w) A (compareOp .In (.str (mkS k) t) (.ref d)) Q E s := by
  by_cases h : k ∈ met
  · exact kda_in (knd := PySem.strKind prog w) N hp hd lo (strKind_is _ _ _ _) true (by rw [valueAt_some, hk]; exact decide_eq_true (mkS_mem.mpr h)) (hin h)
  · exact kda_in (knd := PySem.strKind prog w) N hp hd lo (strKind_is _ _ _ _) false (by rw [valueAt_some, hk]; exact decide_eq_false fun q => h (mkS_mem.mp q)) (hout h)
end

end Mine
namespace Mine
section
variable {prog : Program} {w : World} {A : Around} {E : Value → Shared → Prop} {s : Shared} {h₀ : Heap} {m : Str → Option Value} {news : List (Addr × Obj)} {σ : Type} {env : Env}
/-- a loop over a range, by an invariant over named state and the whole ledger -/
theorem for_rangeI {r : Addr} {a b : Int} {n : Nat} {t u v : Tok} {x : Str} {px : Pos} {body : List Stmt} {R : Result → Shared → Prop} (F : Fr h₀ env.locals s.heap m) (N : News h₀ env.locals s.heap news) (hr : IsRange s.heap r a b 1 t u v) (hh : A.handled = none)
    (ha : -(2 ^ 62) ≤ a ∧ a < 2 ^ 62) (hb' : -(2 ^ 62) ≤ b ∧ b < 2 ^ 62) (hn : (if a < b then b - a else 0) = (n : Int))
    (vars : σ → List (Str × Value)) (led : σ → List (Addr × Obj)) (ok : Nat → σ → Prop) (y : σ) (hb : HasB m (vars y)) (hl : ∀ p ∈ led y, p ∈ news) (h : ok 0 y)
    (hadr : ∀ i y, ok i y → ∀ p ∈ led y, ∃ o, (p.1, o) ∈ news)
    (turn : ∀ (i : Nat) y t h tk m₁ own, i < n → ok i y → (∀ p ∈ own, ∀ q ∈ news, q.1 < p.1) → Fr h₀ env.locals h (fun z => if z = x then some (.int (a + (i : Int)) t) else mB (vars y) m₁ z) → News h₀ env.locals h (led y ++ own) →
      wpAny (model prog w) A (execs body env) (fun f s₂ => match f with
        | .ret v => R (.ok (.ret v)) s₂
        | .brk => R (.ok .next) s₂
        | _ => ListEnd h₀ env.locals vars led ok own (i + 1) { s with heap := h, toks := tk } s₂) (fun _ _ => False) { s with heap := h, toks := tk })
    (done : ∀ h' tk m₁ y, ok n y → Fr h₀ env.locals h' (mB (vars y) m₁) → News h₀ env.locals h' (led y) → R (.ok .next) { s with heap := h', toks := tk })
    (hx : env.kindOf x = some .local := by rfl) (hp : (env.scope.kind == .class || (env.scope.kind == .module && env.locals != env.globals)) = false := by rfl) :
    wpAny (model prog w) A (pyIter (.ref r)) (fun it s₂ => codeAny (model prog w) A (.forLoop (.Name x px) it body [] env) R s₂) E s := by
  refine wpAny_pyIter_range hr (small_one ha.1 ha.2 hb'.1 hb'.2) ?_
  have W := Walks.range (prog := prog) (w := w) (A := A) hh s.heap.objs.size a 1 n
  have up : ∀ b' o, s.heap.get? b' = some o → (s.heap.push { cls := .type "range_iterator", data := .fields #[rawInt a, rawInt (Builtin.Range.rangeSize a b 1), rawInt 1] }).get? b' = some o := fun b o e => Heap.get?_push_of_some _ e
  have hLs : env.locals < s.heap.objs.size := F.ns.lt
  have lt : ∀ p ∈ news, p.1 < s.heap.objs.size := fun p hp => Heap.lt_size (N p hp).1
  refine codeAny_forLoop_frV W hx hp (fun hq => ?_) (fun b hb => ?_) (fun p hp hq => ?_) ?_ (F.keeps up) (N.grown up)
    (fun i m₁ news₁ => ∃ y, ok i y ∧ HasB m₁ (vars y) ∧ ∀ p ∈ led y, p ∈ news₁) ⟨y, h, hb, hl⟩ ?_ ?_
  · exact absurd hLs (by rw [List.mem_singleton.mp hq]; exact Nat.lt_irrefl _)
  · rw [List.mem_singleton.mp hb]; exact next_is_new F
  · exact absurd (lt p hp) (by rw [List.mem_singleton.mp hq]; exact Nat.lt_irrefl _)
  · rw [rangeSize_one, hn]
    have e : a + ((0 : Nat) : Int) * 1 = a := by simp
    show IsRangeIter _ _ (a + ((0 : Nat) : Int) * 1) ((n : Int) - ((0 : Nat) : Int)) 1
    rw [e, show (n : Int) - ((0 : Nat) : Int) = n by simp]
    exact Heap.get?_push_size _ rfl
  · rintro i v m₁ news₁ s₁ own ⟨h', tk, rfl⟩ hi ⟨t, rfl⟩ ⟨y₁, h₁, hb₁, hl₁⟩ hnw hown hown2 hall hSt F₁ N₁
    rw [← mB_eq hb₁] at F₁
    rw [show a + (i : Int) * 1 = a + (i : Int) by simp] at F₁
    refine wpAny_mono (turn i y₁ t h' tk m₁ own hi h₁ (fun p hp q hq => ?_) F₁ (fun p hp => N₁ p ((List.mem_append.mp hp).elim (fun z => List.mem_append_right _ (hl₁ p z)) (List.mem_append_left _)))) (fun f s₂ p => ?_) fun _ _ e => e.elim
    · rw [List.mem_singleton.mp (hown p hp)]; exact lt q hq
    have fin : ListEnd h₀ env.locals vars led ok own (i + 1) { s with heap := h', toks := tk } s₂ → LoopStepU h₀ env.locals [s.heap.objs.size] own (fun m₁ news₁ => ∃ y, ok (i + 1) y ∧ HasB m₁ (vars y) ∧ ∀ p ∈ led y, p ∈ news₁) { s with heap := h', toks := tk } .next s₂ := by
      rintro ⟨h'', tk', m', y₂, e, h₂, F₂, hb₂, N₂⟩
      refine ⟨rfl, h'', tk', m', led y₂, e, F₂, fun p hp => N₂ p ((List.mem_append.mp hp).elim (List.mem_append_right _) (List.mem_append_left _)), fun p hp hq => ?_, y₂, h₂, hb₂, fun _ z => z⟩
      obtain ⟨o, ho⟩ := hadr _ _ h₂ p hp
      have := lt _ ho
      rw [List.mem_singleton.mp hq] at this
      exact absurd this (Nat.lt_irrefl _)
    cases f with
    | ret v => exact .ret p
    | brk => exact .brk p
    | cont => exact .cont (fin p)
    | next => exact .next (fin p)
  · rintro h' tk m' news' F₁ N₁ _ ⟨y₁, h₁, hb₁, hl₁⟩
    exact done h' tk m' y₁ h₁ (fr_mB F₁ hb₁) (news_of N₁ hl₁)
theorem for_range1 {b : Int} {n : Nat} {t : Tok} {x : Str} {px : Pos} {body : List Stmt} {R : Result → Shared → Prop} (F : Fr h₀ env.locals s.heap m) (N : News h₀ env.locals s.heap news) (hh : A.handled = none)
    (hn : b = (n : Int)) (hz : n ≤ 1000000)
    (vars : σ → List (Str × Value)) (led : σ → List (Addr × Obj)) (ok : Nat → σ → Prop) (y : σ) (hb : HasB m (vars y)) (hl : ∀ p ∈ led y, p ∈ news) (h : ok 0 y)
    (hadr : ∀ i y, ok i y → ∀ p ∈ led y, ∃ o, (p.1, o) ∈ news)
    (turn : ∀ (i : Nat) y t h tk m₁ own, i < n → ok i y → (∀ p ∈ own, ∀ q ∈ news, q.1 < p.1) → Fr h₀ env.locals h (fun z => if z = x then some (.int (0 + (i : Int)) t) else mB (vars y) m₁ z) → News h₀ env.locals h (led y ++ own) →
      wpAny (model prog w) A (execs body env) (fun f s₂ => match f with
        | .ret v => R (.ok (.ret v)) s₂
        | .brk => R (.ok .next) s₂
        | _ => ListEnd h₀ env.locals vars led ok own (i + 1) { s with heap := h, toks := tk } s₂) (fun _ _ => False) { s with heap := h, toks := tk })
    (done : ∀ h' tk m₁ y, ok n y → Fr h₀ env.locals h' (mB (vars y) m₁) → News h₀ env.locals h' (led y) → R (.ok .next) { s with heap := h', toks := tk })
    (hx : env.kindOf x = some .local := by rfl) (hp : (env.scope.kind == .class || (env.scope.kind == .module && env.locals != env.globals)) = false := by rfl) :
    wpAny (model prog w) A (call (.type "range") [.int b t]) (fun xv s₁ => wpAny (model prog w) A (pyIter xv) (fun it s₂ => codeAny (model prog w) A (.forLoop (.Name x px) it body [] env) R s₂) E s₁) E s := by
  subst hn
  refine call_range_1 ?_
  have up : ∀ b' o, s.heap.get? b' = some o → (s.heap.push { cls := .type "range", data := .fields #[.int 0 s.toks, .int (n : Int) t, .int 1 (s.toks + 1)] }).get? b' = some o := fun b o e => Heap.get?_push_of_some _ e
  refine for_rangeI (s := { s with heap := s.heap.push { cls := .type "range", data := .fields #[.int 0 s.toks, .int (n : Int) t, .int 1 (s.toks + 1)] }, toks := s.toks + 1 + 1 }) (F.keeps up) (fun p hp => ⟨up _ _ (N p hp).1, (N p hp).2⟩) (IsRange.new ..) hh ⟨by decide, by decide⟩ ⟨by omega, by omega⟩ (by split <;> omega) vars led ok y hb hl h hadr turn done hx hp
theorem for_range2 {a b : Int} {n : Nat} {t u : Tok} {x : Str} {px : Pos} {body : List Stmt} {R : Result → Shared → Prop} (F : Fr h₀ env.locals s.heap m) (N : News h₀ env.locals s.heap news) (hh : A.handled = none)
    (hn : (if a < b then b - a else 0) = (n : Int)) (hz : -1000000 ≤ a ∧ a ≤ 1000000) (hz' : -1000000 ≤ b ∧ b ≤ 1000000)
    (vars : σ → List (Str × Value)) (led : σ → List (Addr × Obj)) (ok : Nat → σ → Prop) (y : σ) (hb : HasB m (vars y)) (hl : ∀ p ∈ led y, p ∈ news) (h : ok 0 y)
    (hadr : ∀ i y, ok i y → ∀ p ∈ led y, ∃ o, (p.1, o) ∈ news)
    (turn : ∀ (i : Nat) y t h tk m₁ own, i < n → ok i y → (∀ p ∈ own, ∀ q ∈ news, q.1 < p.1) → Fr h₀ env.locals h (fun z => if z = x then some (.int (a + (i : Int)) t) else mB (vars y) m₁ z) → News h₀ env.locals h (led y ++ own) →
      wpAny (model prog w) A (execs body env) (fun f s₂ => match f with
        | .ret v => R (.ok (.ret v)) s₂
        | .brk => R (.ok .next) s₂
        | _ => ListEnd h₀ env.locals vars led ok own (i + 1) { s with heap := h, toks := tk } s₂) (fun _ _ => False) { s with heap := h, toks := tk })
    (done : ∀ h' tk m₁ y, ok n y → Fr h₀ env.locals h' (mB (vars y) m₁) → News h₀ env.locals h' (led y) → R (.ok .next) { s with heap := h', toks := tk })
    (hx : env.kindOf x = some .local := by rfl) (hp : (env.scope.kind == .class || (env.scope.kind == .module && env.locals != env.globals)) = false := by rfl) :
    wpAny (model prog w) A (call (.type "range") [.int a t, .int b u]) (fun xv s₁ => wpAny (model prog w) A (pyIter xv) (fun it s₂ => codeAny (model prog w) A (.forLoop (.Name x px) it body [] env) R s₂) E s₁) E s := by
  refine call_range_2 ?_
  have up : ∀ b' o, s.heap.get? b' = some o → (s.heap.push { cls := .type "range", data := .fields #[.int a t, .int b u, .int 1 s.toks] }).get? b' = some o := fun b o e => Heap.get?_push_of_some _ e
  refine for_rangeI (s := { s with heap := s.heap.push { cls := .type "range", data := .fields #[.int a t, .int b u, .int 1 s.toks] }, toks := s.toks + 1 }) (F.keeps up) (fun p hp => ⟨up _ _ (N p hp).1, (N p hp).2⟩) (IsRange.new ..) hh ⟨by omega, by omega⟩ ⟨by omega, by omega⟩ hn vars led ok y hb hl h hadr turn done hx hp
end

end Mine
namespace Mine
/-- the tokens that a frame's names hold -/
noncomputable def tokI : Option Value → Tok
  | some (.int _ t) => t
  | _ => 0
noncomputable def tokS : Option Value → Tok
  | some (.str _ t) => t
  | _ => 0
noncomputable def intI : Option Value → Int
  | some (.int z _) => z
  | _ => 0
theorem ListEnd.mkM {σ : Type} {h₀ : Heap} {L : Addr} {vars : σ → List (Str × Value)} {led : σ → List (Addr × Obj)} {ok : Nat → σ → Prop} {own all : List (Addr × Obj)} {i : Nat} {s₁ : Shared} {h' : Heap} {tk : Nat} {m' : Str → Option Value} (y : (Str → Option Value) → σ)
    (F : Fr h₀ L h' m') (N : News h₀ L h' all) (hb : HasB m' (vars (y m'))) (hl : ∀ p ∈ led (y m') ++ own, p ∈ all) (h : ok i (y m')) : ListEnd h₀ L vars led ok own i s₁ { s₁ with heap := h', toks := tk } :=
  ⟨h', tk, m', y m', rfl, h, F, hb, news_of N hl⟩
theorem TurnEnd.mkM {σ : Type} {h₀ h' : Heap} {L : Addr} {s : Shared} {vars : σ → List (Str × Value)} {led : σ → List (Addr × Obj)} {ok : Nat → σ → Prop} {n : Nat} {tk : Nat} {m' : Str → Option Value} {led' : List (Addr × Obj)}
    (k : Nat) (y : (Str → Option Value) → σ) (hk : k < n) (F : Fr h₀ L h' m') (N : News h₀ L h' led') (hb : HasB m' (vars (y m'))) (hl : ∀ p ∈ led (y m'), p ∈ led') (h : ok k (y m')) : TurnEnd h₀ L s vars led ok n { s with heap := h', toks := tk } :=
  ⟨k, y m', hk, h, h', tk, m', rfl, F, hb, fun p hp => N p (hl p hp)⟩

end Mine
namespace Mine
theorem slice_to (l : List Nat) (z : Int) (h0 : 0 ≤ z) (h : z ≤ l.length) : Txt.slice (mkS l) none (some z) = mkS (l.take z.toNat) := by
  rw [eq_of_beq (slice_closes_to (x := mkS l) (j := z) ⟨h0, by rw [mkS_cps]; exact h⟩)]
  simp [mkS]
theorem slice_from (l : List Nat) (z : Int) (h0 : 0 ≤ z) (h : z ≤ l.length) : Txt.slice (mkS l) (some z) none = mkS (l.drop z.toNat) := by
  rw [eq_of_beq (slice_closes_fromL (x := mkS l) (i := z) (b := l.length) h0 (by show z ≤ ((mkS l).cps.size : Nat); simpa using h) (by show _ = ((mkS l).cps.size : Int); simp))]
  simp only [mkS_cps]
  rw [List.take_of_length_le]
  rw [List.length_drop]; omega
theorem item_get (l : List Nat) (z : Int) (h0 : 0 ≤ z) (h : z < l.length) : Txt.item (mkS l) z = mkS [l.getD z.toNat 0] := by
  rw [item_at (x := mkS l) (i := z) (n := z.toNat) h0 (by show z < ((mkS l).cps.size : Nat); simpa using h) rfl]
  simp [mkS]
theorem mkS_app (a b : List Nat) : mkS a ++ mkS b = mkS (a ++ b) := by
  rw [mkS_of (mkS a ++ mkS b), Str.cps_append, Array.toList_append, mkS_cps, mkS_cps]
theorem mkS_len (a : List Nat) : (mkS a).length = a.length := by show (mkS a).cps.size = _; simp
theorem mkS_one (c : Nat) : (⟨#[c]⟩ : Str) = mkS [c] := rfl
section
variable {prog : Program} {w : World} {A : Around} {E : Value → Shared → Prop} {s : Shared} {value slice : PySem.Expr} {l r : List Nat} {t u : Tok} {h₀ : Heap} {L : Addr} {m : Str → Option Value} {news : List (Addr × Obj)} {Q : Value → Shared → Prop} {z : Int}
theorem k_cut_to {uj : Tok} (n : Nat) (hn : z.toNat = n) (hz : l.length ≤ 1000) (h0 : 0 ≤ z) (h1 : z ≤ l.length) (hF : Fr h₀ L s.heap m) (hN : News h₀ L s.heap news) (h : ∀ h' t' k, Fr h₀ L h' m → News h₀ L h' news → Q (.str (mkS (l.take n)) t') { s with heap := h', toks := k })
    (hs : subscripted slice false (.str (mkS l) t) (.ref s.heap.objs.size) = operate [.ref s.heap.objs.size, .str (mkS l) t] (getItem (.str (mkS l) t) (.ref s.heap.objs.size)) := by with_unfolding_all rfl)
    (ht : ∀ r, letTemporaryGo value (.str (mkS l) t) r = pure () := by intro _; with_unfolding_all rfl) :
    wpAny (model prog w) A (subscriptTail value slice (.str (mkS l) t) (.ref s.heap.objs.size)) Q E { s with heap := s.heap.push { cls := .type "slice", data := .fields #[.none, .int z uj, .none] } } := by
  refine slice_strN_ns hF hN (fun h' t' k F' N' => ?_) hs ht (by rw [mkS_len, sizeLine_eq]; omega)
  rw [slice_to l z h0 h1, hn]
  exact h h' t' k F' N'
theorem k_cut_from {uj : Tok} (n : Nat) (hn : z.toNat = n) (hz : l.length ≤ 1000) (h0 : 0 ≤ z) (h1 : z ≤ l.length) (hF : Fr h₀ L s.heap m) (hN : News h₀ L s.heap news) (h : ∀ h' t' k, Fr h₀ L h' m → News h₀ L h' news → Q (.str (mkS (l.drop n)) t') { s with heap := h', toks := k })
    (hs : subscripted slice false (.str (mkS l) t) (.ref s.heap.objs.size) = operate [.ref s.heap.objs.size, .str (mkS l) t] (getItem (.str (mkS l) t) (.ref s.heap.objs.size)) := by with_unfolding_all rfl)
    (ht : ∀ r, letTemporaryGo value (.str (mkS l) t) r = pure () := by intro _; with_unfolding_all rfl) :
    wpAny (model prog w) A (subscriptTail value slice (.str (mkS l) t) (.ref s.heap.objs.size)) Q E { s with heap := s.heap.push { cls := .type "slice", data := .fields #[.int z uj, .none, .none] } } := by
  refine slice_strN_sn hF hN (fun h' t' k F' N' => ?_) hs ht (by rw [mkS_len, sizeLine_eq]; omega)
  rw [slice_from l z h0 h1, hn]
  exact h h' t' k F' N'
theorem k_letter (n : Nat) (hn : z.toNat = n) (hz : l.length ≤ 1000) (h0 : 0 ≤ z) (h1 : z < l.length) (h : Q (.str (mkS [l.getD n 0]) s.toks) { s with toks := s.toks + 1 })
    (hs : subscripted slice false (.str (mkS l) t) (.int z u) = operate [.str (mkS l) t, .int z u] (getItem (.str (mkS l) t) (.int z u)) := by with_unfolding_all rfl)
    (ht : ∀ r, letTemporaryGo value (.str (mkS l) t) r = pure () := by intro _; with_unfolding_all rfl) :
    wpAny (model prog w) A (subscriptTail value slice (.str (mkS l) t) (.int z u)) Q E s := by
  refine item_str (fitsSsize_of (N := 9223372036854775808) (by omega) (by omega) (Int.le_refl _)) (by rw [mkS_len]; omega) (by rw [mkS_len]; exact h1) (fun _ => ?_) hs ht
  rw [item_get l z h0 h1, hn]
  exact h
theorem k_glue (hz : l.length ≤ 1000) (hz' : r.length ≤ 1000) (h : ∀ t' k, Q (.str (mkS (l ++ r)) t') { s with toks := k }) : wpAny (model prog w) A (binaryOp .Add (.str (mkS l) t) (.str (mkS r) u)) Q E s := by
  refine SB.add (fun t' k => ?_) (by rw [mkS_len, mkS_len, sizeLine_eq]; omega)
  rw [mkS_app]
  exact h t' k
theorem k_lenS (hz : l.length ≤ 1000) (h : Q (.int (l.length : Int) (s.toks + 1)) { s with toks := s.toks + 1 + 1 }) : wpAny (model prog w) A (call (.builtin "len") [.str (mkS l) t]) Q E s := by
  refine len_str (by rw [mkS_len]; omega) ?_
  rw [mkS_len]
  exact h
end

end Mine
namespace Mine
section
variable {prog : Program} {w : World} {A : Around} {E : Value → Shared → Prop} {s : Shared} {h₀ : Heap} {m : Str → Option Value} {news : List (Addr × Obj)} {σ : Type} {env : Env}
/-- a loop over a text's letters, by an invariant over named state and the whole ledger -/
theorem for_strN {l : List Nat} {t : Tok} {x : Str} {px : Pos} {body : List Stmt} {R : Result → Shared → Prop} (F : Fr h₀ env.locals s.heap m) (N : News h₀ env.locals s.heap news) (hh : A.handled = none)
    (vars : σ → List (Str × Value)) (led : σ → List (Addr × Obj)) (ok : Nat → σ → Prop) (y : σ) (hb : HasB m (vars y)) (hl : ∀ p ∈ led y, p ∈ news) (h : ok 0 y)
    (hadr : ∀ i y, ok i y → ∀ p ∈ led y, ∃ o, (p.1, o) ∈ news)
    (turn : ∀ (i c : Nat) y t h tk m₁ own, l[i]? = some c → ok i y → (∀ p ∈ own, ∀ q ∈ news, q.1 < p.1) → Fr h₀ env.locals h (fun z => if z = x then some (.str (mkS [c]) t) else mB (vars y) m₁ z) → News h₀ env.locals h (led y ++ own) →
      wpAny (model prog w) A (execs body env) (fun f s₂ => match f with
        | .ret v => R (.ok (.ret v)) s₂
        | .brk => R (.ok .next) s₂
        | _ => ListEnd h₀ env.locals vars led ok own (i + 1) { s with heap := h, toks := tk } s₂) (fun _ _ => False) { s with heap := h, toks := tk })
    (done : ∀ h' tk m₁ y, ok l.length y → Fr h₀ env.locals h' (mB (vars y) m₁) → News h₀ env.locals h' (led y) → R (.ok .next) { s with heap := h', toks := tk })
    (hx : env.kindOf x = some .local := by rfl) (hp : (env.scope.kind == .class || (env.scope.kind == .module && env.locals != env.globals)) = false := by rfl) :
    wpAny (model prog w) A (pyIter (.str (mkS l) t)) (fun it s₂ => codeAny (model prog w) A (.forLoop (.Name x px) it body [] env) R s₂) E s := by
  refine wpAny_pyIter_str fun o St W' hst => ?_
  have W := W' A hh
  have up : ∀ b' o', s.heap.get? b' = some o' → (s.heap.push o).get? b' = some o' := fun b o e => Heap.get?_push_of_some _ e
  have hLs : env.locals < s.heap.objs.size := F.ns.lt
  have lt : ∀ p ∈ news, p.1 < s.heap.objs.size := fun p hp => Heap.lt_size (N p hp).1
  have hsz : (mkS l).cps.size = l.length := by simp [mkS]
  refine codeAny_forLoop_frV W hx hp (fun hq => ?_) (fun b hb => ?_) (fun p hp hq => ?_) hst (F.keeps up) (N.grown up)
    (fun i m₁ news₁ => ∃ y, ok i y ∧ HasB m₁ (vars y) ∧ ∀ p ∈ led y, p ∈ news₁) ⟨y, h, hb, hl⟩ ?_ ?_
  · exact absurd hLs (by rw [List.mem_singleton.mp hq]; exact Nat.lt_irrefl _)
  · rw [List.mem_singleton.mp hb]; exact next_is_new F
  · exact absurd (lt p hp) (by rw [List.mem_singleton.mp hq]; exact Nat.lt_irrefl _)
  · rintro i v m₁ news₁ s₁ own ⟨h', tk, rfl⟩ hi ⟨c, u, hc, rfl⟩ ⟨y₁, h₁, hb₁, hl₁⟩ hnw hown hown2 hall hSt F₁ N₁
    rw [← mB_eq hb₁] at F₁
    refine wpAny_mono (turn i c y₁ u h' tk m₁ own (by simpa [mkS] using hc) h₁ (fun p hp q hq => ?_) F₁ (fun p hp => N₁ p ((List.mem_append.mp hp).elim (fun z => List.mem_append_right _ (hl₁ p z)) (List.mem_append_left _)))) (fun f s₂ p => ?_) fun _ _ e => e.elim
    · rw [List.mem_singleton.mp (hown p hp)]; exact lt q hq
    have fin : ListEnd h₀ env.locals vars led ok own (i + 1) { s with heap := h', toks := tk } s₂ → LoopStepU h₀ env.locals [s.heap.objs.size] own (fun m₁ news₁ => ∃ y, ok (i + 1) y ∧ HasB m₁ (vars y) ∧ ∀ p ∈ led y, p ∈ news₁) { s with heap := h', toks := tk } .next s₂ := by
      rintro ⟨h'', tk', m', y₂, e, h₂, F₂, hb₂, N₂⟩
      refine ⟨rfl, h'', tk', m', led y₂, e, F₂, fun p hp => N₂ p ((List.mem_append.mp hp).elim (List.mem_append_right _) (List.mem_append_left _)), fun p hp hq => ?_, y₂, h₂, hb₂, fun _ z => z⟩
      obtain ⟨o, ho⟩ := hadr _ _ h₂ p hp
      have := lt _ ho
      rw [List.mem_singleton.mp hq] at this
      exact absurd this (Nat.lt_irrefl _)
    cases f with
    | ret v => exact .ret p
    | brk => exact .brk p
    | cont => exact .cont (fin p)
    | next => exact .next (fin p)
  · rintro h' tk m' news' F₁ N₁ _ ⟨y₁, h₁, hb₁, hl₁⟩
    exact done h' tk m' y₁ (hsz ▸ h₁) (fr_mB F₁ hb₁) (news_of N₁ hl₁)
/-- a loop over a list of the ledger that stays, the rest of the ledger turning -/
theorem for_listN {l : Addr} {its : List Value} {c : Nat} {x : Str} {px : Pos} {body : List Stmt} {R : Result → Shared → Prop} (F : Fr h₀ env.locals s.heap m) (N : News h₀ env.locals s.heap news) (hm : (l, listOf its.toArray c) ∈ news) (hh : A.handled = none)
    (vars : σ → List (Str × Value)) (led : σ → List (Addr × Obj)) (ok : Nat → σ → Prop) (y : σ) (hb : HasB m (vars y)) (hl : ∀ p ∈ led y, p ∈ news) (h : ok 0 y)
    (hadr : ∀ i y, ok i y → ∀ p ∈ led y, ∃ o, (p.1, o) ∈ news)
    (turn : ∀ (i : Nat) v y h tk m₁ own, its[i]? = some v → ok i y → (∀ p ∈ own, p.1 = l ∨ ∀ q ∈ news, q.1 < p.1) → Fr h₀ env.locals h (fun z => if z = x then some v else mB (vars y) m₁ z) → News h₀ env.locals h (led y ++ own) →
      wpAny (model prog w) A (execs body env) (fun f s₂ => match f with
        | .ret v => R (.ok (.ret v)) s₂
        | .brk => R (.ok .next) s₂
        | _ => ListEnd h₀ env.locals vars led ok own (i + 1) { s with heap := h, toks := tk } s₂) (fun _ _ => False) { s with heap := h, toks := tk })
    (done : ∀ h' tk m₁ y, ok its.length y → Fr h₀ env.locals h' (mB (vars y) m₁) → News h₀ env.locals h' (led y) → R (.ok .next) { s with heap := h', toks := tk })
    (hx : env.kindOf x = some .local := by rfl) (hp : (env.scope.kind == .class || (env.scope.kind == .module && env.locals != env.globals)) = false := by rfl) :
    wpAny (model prog w) A (pyIter (.ref l)) (fun it s₂ => codeAny (model prog w) A (.forLoop (.Name x px) it body [] env) R s₂) E s := by
  have hls : s.heap.IsList l its.toArray := ⟨_, (N _ hm).1, rfl, _, rfl⟩
  have hlt : l < s.heap.objs.size := Heap.lt_size (N _ hm).1
  have hlL : l ≠ env.locals := (N _ hm).2.1
  have hLs : env.locals < s.heap.objs.size := F.ns.lt
  have lt : ∀ p ∈ news, p.1 < s.heap.objs.size := fun p hp => Heap.lt_size (N p hp).1
  refine wpAny_pyIter_list hls ?_
  have W := Walks.list (prog := prog) (w := w) hh s.heap.objs.size l (Nat.ne_of_lt hlt) its.toArray
  have up : ∀ b o, s.heap.get? b = some o → (s.heap.push { cls := .type "list_iterator", data := .fields #[.ref l, .int 0 0] }).get? b = some o := fun b o e => Heap.get?_push_of_some _ e
  refine codeAny_forLoop_frV W hx hp (fun hq => ?_) (fun b hb => ?_) (fun p hp hq => ?_) ⟨⟨_, Heap.get?_push_size _ rfl, rfl, rfl⟩, hls.push _⟩ (F.keeps up) (N.grown up)
    (fun i m₁ news₁ => ∃ y, ok i y ∧ HasB m₁ (vars y) ∧ ∀ p ∈ led y, p ∈ news₁) ⟨y, h, hb, hl⟩ ?_ ?_
  · rcases List.mem_cons.mp hq with e | hq
    · exact absurd hLs (by rw [e]; exact Nat.lt_irrefl _)
    · exact hlL (List.mem_singleton.mp hq).symm
  · rw [List.mem_singleton.mp hb]; exact next_is_new F
  · exact absurd (lt p hp) (by rw [List.mem_singleton.mp hq]; exact Nat.lt_irrefl _)
  · rintro i v m₁ news₁ s₁ own ⟨h', tk, rfl⟩ hi hv ⟨y₁, h₁, hb₁, hl₁⟩ hnw hown hown2 hall hSt F₁ N₁
    rw [← mB_eq hb₁] at F₁
    refine wpAny_mono (turn i v y₁ h' tk m₁ own (by simpa using hv) h₁ (fun p hp => ?_) F₁ (fun p hp => N₁ p ((List.mem_append.mp hp).elim (fun z => List.mem_append_right _ (hl₁ p z)) (List.mem_append_left _)))) (fun f s₂ p => ?_) fun _ _ e => e.elim
    · rcases List.mem_cons.mp (hown p hp) with e | e
      · exact .inr fun q hq => by rw [e]; exact lt q hq
      · exact .inl (List.mem_singleton.mp e)
    have fin : ListEnd h₀ env.locals vars led ok own (i + 1) { s with heap := h', toks := tk } s₂ → LoopStepU h₀ env.locals [s.heap.objs.size] own (fun m₁ news₁ => ∃ y, ok (i + 1) y ∧ HasB m₁ (vars y) ∧ ∀ p ∈ led y, p ∈ news₁) { s with heap := h', toks := tk } .next s₂ := by
      rintro ⟨h'', tk', m', y₂, e, h₂, F₂, hb₂, N₂⟩
      refine ⟨rfl, h'', tk', m', led y₂, e, F₂, fun p hp => N₂ p ((List.mem_append.mp hp).elim (List.mem_append_right _) (List.mem_append_left _)), fun p hp hq => ?_, y₂, h₂, hb₂, fun _ z => z⟩
      obtain ⟨o, ho⟩ := hadr _ _ h₂ p hp
      have := lt _ ho
      rw [List.mem_singleton.mp hq] at this
      exact absurd this (Nat.lt_irrefl _)
    cases f with
    | ret v => exact .ret p
    | brk => exact .brk p
    | cont => exact .cont (fin p)
    | next => exact .next (fin p)
  · rintro h' tk m' news' F₁ N₁ _ ⟨y₁, h₁, hb₁, hl₁⟩
    exact done h' tk m' y₁ (by simpa using h₁) (fr_mB F₁ hb₁) (news_of N₁ hl₁)
end
/-- the letters glued together -/
theorem join_ones (q : List Nat) : Txt.join (Str.ofString "") (q.map fun c => mkS [c]) = mkS q := by
  rw [mkS_of (Txt.join _ _), join_none]
  congr 1
  induction q with
  | nil => rfl
  | cons c q ih => simp_all
theorem sum_ones (q : List Nat) : ((q.map fun c => mkS [c]).map (·.length)).sum = q.length := by
  induction q with
  | nil => rfl
  | cons c q ih => simp only [List.map_cons, List.sum_cons, ih, List.length_cons]; show 1 + q.length = _; omega

end Mine
namespace Mine
noncomputable def insK (seen : List (List Nat)) (k : List Nat) : List (List Nat) := if k ∈ seen then seen else seen ++ [k]
theorem stored_ins {kvs : List (Str × Value)} {seen : List (List Nat)} {k : List Nat} {v : Value} (h : kvs.map (·.1) = seen.map mkS) : (stored kvs (mkS k) v).map (·.1) = (insK seen k).map mkS := by
  unfold insK
  by_cases hk : k ∈ seen
  · rw [if_pos hk, stored_old (by rw [h]; exact mkS_mem.mpr hk), h]
  · rw [if_neg hk, stored_new (by rw [h]; exact fun q => hk (mkS_mem.mp q)), h, List.map_append]; rfl
noncomputable def rotL (q : List Nat) : List Nat := q.drop 1 ++ q.take 1
theorem rotL_len (q : List Nat) : (rotL q).length = q.length := by unfold rotL; cases q <;> simp
noncomputable def turnGo (row : List Nat) : Nat → List Nat → List Nat → List (List Nat) → Nat → Option (List Nat × List (List Nat) × Nat)
  | 0, _, _, _, _ => none
  | f + 1, tu, q, seen, n => if tu = row then some (q, seen, n) else if seen.length ≤ 500 then turnGo row f (rotL q) (rotL q) (insK seen (rotL q)) (n + 1) else none
noncomputable def ringsGo (f : Nat) : List (List Nat) → List (List Nat) → List Nat → Option (List Nat)
  | [], _, rg => some rg
  | row :: r, seen, rg => if row ∈ seen then ringsGo f r seen rg else if 1 ≤ row.length ∧ row.length ≤ 8 then (turnGo row f [] row seen 0).bind fun t => ringsGo f r t.2.1 (rg ++ [row.length / t.2.2]) else none
theorem strs_at : ∀ {vs : List Value} {ys : List Str} {i : Nat} {v : Value}, StrsAre vs ys → vs[i]? = some v → ∃ y t, v = .str y t ∧ ys[i]? = some y
  | _, _, i, v, .nil, h => by simp at h
  | _, _, 0, v, .cons y t r, h => by
    simp only [List.getElem?_cons_zero, Option.some.injEq] at h
    exact ⟨y, t, h.symm, rfl⟩
  | _, _, i + 1, v, .cons y t r, h => by
    simp only [List.getElem?_cons_succ] at h ⊢
    exact strs_at r h
theorem drop_cons {α : Type} {l : List α} {i : Nat} {a : α} (h : l[i]? = some a) : l.drop i = a :: l.drop (i + 1) := by
  obtain ⟨h1, e⟩ := List.getElem?_eq_some_iff.mp h
  rw [List.drop_eq_getElem_cons h1, e]
theorem take_snoc {α : Type} {l : List α} {i : Nat} {a : α} (h : l[i]? = some a) : l.take (i + 1) = l.take i ++ [a] := by
  rw [List.take_add_one, h]; rfl
theorem small_log {z : Int} (h : z.natAbs ≤ 1000) : z.natAbs.log2 < 9000 := by
  have h1 : z.natAbs.log2 ≤ z.natAbs := Nat.log2_le_self _
  omega

end Mine
namespace Mine
noncomputable abbrev rIter (a left : Int) : Obj := { cls := .type "range_iterator", dict := none, data := .fields #[rawInt a, rawInt left, rawInt 1], slots := #[] }
theorem if_n (n : Nat) : (if (0 : Int) < (n : Int) then (n : Int) - 0 else 0) = (n : Int) := by
  by_cases h : (0 : Int) < (n : Int)
  · rw [if_pos h]; omega
  · rw [if_neg h]; omega
section
variable {prog : Program} {w : World} {A : Around} {E : Value → Shared → Prop} {s : Shared} {h₀ : Heap} {L : Addr} {m : Str → Option Value} {rest : List (Addr × Obj)}
theorem range_next {it : Addr} {a left : Int} {Q : Option Value → Shared → Prop} (hh : A.handled = none) (F : Fr h₀ L s.heap m) (N : News h₀ L s.heap ((it, rIter a left) :: rest)) (hf : ∀ p ∈ rest, p.1 ≠ it)
    (item : 0 < left → ∀ h' t, Fr h₀ L h' m → News h₀ L h' ((it, rIter (a + 1) (left - 1)) :: rest) → Q (some (.int a t)) { s with heap := h', toks := s.toks + 1 })
    (done : left ≤ 0 → ∀ h', Fr h₀ L h' m → News h₀ L h' rest → Q none { s with heap := h' }) : wpAny (model prog w) A (pyNext (.ref it)) Q E s := by
  have hit : IsRangeIter s.heap it a left 1 := (N _ (.head _)).1
  have z := N _ (.head _)
  by_cases hl : 0 < left
  · refine wpAny_pyNext_range_item hit hl fun h' hit' hs' => item hl h' _ (F.change hs' z.2.1 z.2.2) fun p hp => ?_
    rcases List.mem_cons.mp hp with rfl | hp
    · exact ⟨hit', z.2⟩
    · exact ⟨(hs'.2 _ (hf p hp)).trans (N p (.tail _ hp)).1, (N p (.tail _ hp)).2⟩
  · refine wpAny_pyNext_range_end hh hit (by omega) fun h' he' => done (by omega) h' (fr_but F (fun b o hb e => he' b o (by simpa using hb) e) (Ne.symm z.2.1) z.2.2) fun p hp => ?_
    exact ⟨he' _ _ (hf p hp) (N p (.tail _ hp)).1, (N p (.tail _ hp)).2⟩
theorem range_start {b : Int} {t : Tok} {Q : Value → Shared → Prop} (n : Nat) (hn : b = (n : Int)) (hz : n ≤ 1000000) (F : Fr h₀ L s.heap m) (N : News h₀ L s.heap rest)
    (h : ∀ it h' tk, Fr h₀ L h' m → News h₀ L h' ((it, rIter 0 n) :: rest) → (∀ p ∈ rest, p.1 < it) → Q (.ref it) { s with heap := h', toks := tk }) :
    wpAny (model prog w) A (call (.type "range") [.int b t]) (fun xv s₁ => wpAny (model prog w) A (pyIter xv) Q E s₁) E s := by
  subst hn
  refine call_range_1 ?_
  have up : ∀ b' o, s.heap.get? b' = some o → (s.heap.push { cls := .type "range", data := .fields #[.int 0 s.toks, .int (n : Int) t, .int 1 (s.toks + 1)] }).get? b' = some o := fun b o e => Heap.get?_push_of_some _ e
  refine wpAny_pyIter_range (IsRange.new ..) (small_one (by decide) (by decide) (by omega) (by omega)) ?_
  have lt : ∀ p ∈ rest, p.1 < s.heap.objs.size := fun p hp => Heap.lt_size (N p hp).1
  have hLs : L < s.heap.objs.size := F.ns.lt
  have up2 : ∀ b' o, s.heap.get? b' = some o → ((s.heap.push { cls := .type "range", data := .fields #[.int 0 s.toks, .int (n : Int) t, .int 1 (s.toks + 1)] }).push { cls := .type "range_iterator", data := .fields #[rawInt 0, rawInt (Builtin.Range.rangeSize 0 (n : Int) 1), rawInt 1] }).get? b' = some o := fun b o e => Heap.get?_push_of_some _ (up b o e)
  refine h _ _ _ (F.keeps up2) (fun p hp => ?_) (fun p hp => by show p.1 < (s.heap.push _).objs.size; rw [Heap.size_push]; exact Nat.lt_succ_of_lt (lt p hp))
  rcases List.mem_cons.mp hp with rfl | hp
  · refine ⟨?_, ?_, ?_⟩
    · show Heap.get? _ (s.heap.push _).objs.size = some (rIter 0 n)
      rw [show rIter 0 (n : Int) = { cls := .type "range_iterator", data := .fields #[rawInt 0, rawInt (Builtin.Range.rangeSize 0 (n : Int) 1), rawInt 1] } by rw [rangeSize_one, if_n]]
      exact Heap.get?_push_size _ rfl
    · show (s.heap.push _).objs.size ≠ L
      rw [Heap.size_push]
      exact Nat.ne_of_gt (Nat.lt_succ_of_lt hLs)
    · exact Heap.get?_none_of_le (Nat.le_trans F.above (Nat.le_of_lt (by show L < (s.heap.push _).objs.size; rw [Heap.size_push]; exact Nat.lt_succ_of_lt hLs)))
  · exact ⟨up2 _ _ (N p hp).1, (N p hp).2⟩
end

end Mine
namespace Mine
section
open LCt
variable {prog : Program} {w : World} {A : Around} {s : Shared} {h₀ : Heap} {L : Addr} {m : Str → Option Value} {env : Env}
/-- a comprehension with one test, by an invariant over what it has made and the ledger -/
theorem compRestT_ind {ct elt : Expr} {x : Str} {scope : Scope} {cl : List (Str × Addr)} {S : List (Addr × Obj) → Prop} {P : Nat → Value → Prop} {Fin : List Value → List (Addr × Obj) → Prop} {n : Nat} (J : Nat → List Value → List (Addr × Obj) → Prop)
    (turn : ∀ i ys news v I oI C oC D m₂ h tk (E' : Value → Shared → Prop), i < n → J i ys news → P i v → NsObj oC m₂ → m₂ x = some v → Fr h₀ L h m → News h₀ L h ((I, oI) :: (C, oC) :: (D, lst ys) :: news) → Off3 I C D news → ((@Ne Nat I C) ∧ (@Ne Nat I D) ∧ (@Ne Nat C D)) →
      wpAny (model prog w) A (isTrue ct (compEnvC scope cl C env) (eval ct (compEnvC scope cl C env))) (fun ok s' => if ok = true then
        wpAny (model prog w) A (eval elt (compEnvC scope cl C env)) (CompEnd h₀ L m { s with heap := h, toks := tk } I oI C oC D (lst ys) S (fun y news' => J (i + 1) (ys ++ [y]) news')) E' s'
        else CompEnd h₀ L m { s with heap := h, toks := tk } I oI C oC D (lst ys) S (fun _ news' => J (i + 1) ys news') Value.none s') E' { s with heap := h, toks := tk })
    (fin : ∀ ys news, J n ys news → Fin ys news) : ∀ k i ys news, n = i + k → J i ys news → CompRestT prog w A h₀ L m env ct elt x scope cl s S P Fin k i ys news := by
  intro k
  induction k with
  | zero => intro i ys news e hj; have : i = n := by omega
            subst this; exact CompRestT.zero (fin _ _ hj)
  | succ k ih =>
    intro i ys news e hj
    refine CompRestT.succ fun v I oI C oC D m₂ h tk E' hP hC hx F N off ne => ?_
    refine wpAny_mono (turn i ys news v I oI C oC D m₂ h tk E' (by omega) hj hP hC hx F N off ne) (fun ok s₁ q => ?_) fun _ _ q => q
    cases ok with
    | true =>
      simp only [if_true] at q ⊢
      refine wpAny_mono q (fun y s₂ q => ?_) fun _ _ q => q
      obtain ⟨h', tk', news', e', F', N', o', hS, r⟩ := q
      exact ⟨h', tk', news', e', F', N', o', hS, ih _ _ _ (by omega) r⟩
    | false =>
      simp only [Bool.false_eq_true, if_false] at q ⊢
      obtain ⟨h', tk', news', e', F', N', o', hS, r⟩ := q
      exact ⟨h', tk', news', e', F', N', o', hS, ih _ _ _ (by omega) r⟩
end

end Mine
namespace Mine
section
variable {prog : Program} {w : World} {A : Around} {E : Value → Shared → Prop} {s : Shared} {h₀ : Heap} {m : Str → Option Value} {env : Env}
/-- the block of a comprehension whose list is laid under a name at once, its source fresh -/
theorem comp_freshA {elt iter : Expr} {x y : Str} {px py : Pos} {scope : Scope} {cl : List (Str × Addr)} {pos : Pos} {s₁ : Shared} {o : Obj} {n : Nat} {P : Nat → Value → Prop} {St : Nat → Heap → Prop} {news : List (Addr × Obj)} {Q : Flow → Shared → Prop}
    (W : Walks prog w A s₁.heap.objs.size [s₁.heap.objs.size] [s₁.heap.objs.size] n P St) (hIo : ∀ i h, St i h → ∃ o, h.get? s₁.heap.objs.size = some o) (hst : St 0 (s₁.heap.push o)) (hsz : n ≤ sizeLine)
    (hcell : ∀ y ∈ scope.names, y.2 ≠ .cell) (hkind : scope.kind = .function) (hx : scope.names.lookup x = some .local)
    (hy : env.kindOf y = some .local) (hp : (env.scope.kind == .class || (env.scope.kind == .module && env.locals != env.globals)) = false)
    (F : Fr h₀ env.locals s₁.heap m) (N : News h₀ env.locals s₁.heap news)
    (R : CompRest prog w A h₀ env.locals m env elt x scope cl { s₁ with heap := s₁.heap.push o } (fun _ => True) P (FinA h₀ env.locals m { s₁ with heap := s₁.heap.push o } y Q) n 0 [] news) :
    wpAny (model prog w) A (newList []) (fun acc s₃ => wpAny (model prog w) A (newFunctionEnv scope env.globals cl [] env.qual none .none (some env)) (fun cenv s₄ =>
      codeAny (model prog w) A (.compStart (.ListComp elt [⟨.Name x px, iter, [], 0⟩] scope pos) 0 (.ref s₁.heap.objs.size) acc { cenv with scope := relabel scope env }) (compPost (model prog w) A E (some (assign (.Name y py) env)) (fun _ s' => Q .next s') acc cenv.locals) s₄) E s₃) E { s₁ with heap := s₁.heap.push o } := by
  have up : ∀ b o', s₁.heap.get? b = some o' → (s₁.heap.push o).get? b = some o' := fun _ _ e => Heap.get?_push_of_some _ e
  refine block_U W hsz hIo (fun i h h' o' nw st e e' k _ _ => W.frame i h h' st fun b hb o'' e'' => ?_) hcell hkind hx hst (fun b hb => ?_)
      (F.keeps up) (N.grown up) (Nat.ne_of_lt F.ns.lt) (next_is_new F) (fun p hp => Nat.ne_of_lt (Heap.lt_size (N p hp).1)) trivial R ?_
  · rw [List.mem_singleton.mp hb] at e'' ⊢
    rw [e] at e''; cases e''; exact e'
  · rw [List.mem_singleton.mp hb]
    show s₁.heap.objs.size < (s₁.heap.push _).objs.size
    rw [Heap.size_push]; exact Nat.lt_succ_self _
  · intro D C h' tk m' ys news' F' N' o1 hn hC₀ hD₀ hCL hDL hCD offC fin
    show wpAny _ A (assign (.Name y py) env (.ref D)) _ _ _
    refine wpAny_assign_Name (wpAny_storeName_local hy F'.ns (fun h₂ hn₂ hs₂ => ?_) hp)
    have hL₀ : h₀.get? env.locals = none := Heap.get?_none_of_le F'.above
    have F₂ : Fr h₀ env.locals h₂ (fun z => if z = y then some (.ref D) else m z) := ⟨hn₂, fun b o e => hs₂.extBut b o (fun q => by rw [q, hL₀] at e; cases e) (F'.keep b o e), F'.above⟩
    refine ⟨m', hn.sameBut hs₂ hCL, fun h'' hs'' => fin D h'' _ (F₂.change hs'' hCL hC₀) (fun p hp => ?_) o1⟩
    have z : h₂.get? p.1 = some p.2 := hs₂.extBut _ _ (N' p hp).2.1 (N' p hp).1
    refine ⟨hs''.extBut _ _ ?_ z, (N' p hp).2⟩
    rcases List.mem_cons.mp hp with rfl | hp
    · exact Ne.symm hCD
    · exact offC p hp
/-- a comprehension over a text, laid under a name -/
theorem Assign_ListComp_S {elt iter : Expr} {x y : Str} {px py : Pos} {scope : Scope} {cl : List (Str × Addr)} {pos spos : Pos} {Q : Flow → Shared → Prop} (F₀ : Fr h₀ env.locals s.heap m)
    (hsw : swapsWith (.ListComp elt [⟨.Name x px, iter, [], 0⟩] scope pos) (some (.Name y py)) spos.line env = pure true)
    (hclos : closureFor scope env = pure cl) (hcell : ∀ z ∈ scope.names, z.2 ≠ .cell) (hkind : scope.kind = .function)
    (hnames : ∀ z ∈ scope.names, z.2 = .local → scope.names.lookup z.1 = some .local) (hx : scope.names.lookup x = some .local)
    (hy : env.kindOf y = some .local) (hp : (env.scope.kind == .class || (env.scope.kind == .module && env.locals != env.globals)) = false)
    (h : wpAny (model prog w) A (eval iter env) (SrcT prog w A h₀ env.locals m env elt x scope cl (fun s₂ => FinA h₀ env.locals m s₂ y Q)) E s)
    (hs : ∀ x, foldedSetIterable iter env x = pure x := by intro _; rfl) :
    wpAny (model prog w) A (exec (.Assign [.Name y py] (.ListComp elt [⟨.Name x px, iter, [], 0⟩] scope pos) spos) env) Q E s := by
  rw [exec_Assign_Name_used _ _ _ _ hsw]
  refine wpAny_bind (wpAny_standAt (wpAny_bind ?_))
  show wpAny _ A (do let _ ← comprehension (.ListComp elt [⟨.Name x px, iter, [], 0⟩] scope pos) scope env _ (newList []) false (eval iter env) (some (assign (.Name y py) env))) _ _ s
  refine wpAny_bind (wpAny_mono (wpAny_comprehension_free (use := some (assign (.Name y py) env)) (Q := fun _ s' => Q .next s') rfl hs hclos hkind hnames
    (wpAny_mono h (fun xv s₁ h₁ => ?_) fun _ _ e => e)) (fun _ s' hq => wpAny_pure (wpAny_pure hq)) fun _ _ e => e)
  obtain ⟨z, t, news, rfl, hh, F, N, hsz, R⟩ := h₁
  cases ha : z.cps.all (· < 128)
  · exact wpAny_pyIter_wide ha (comp_freshA (iter := iter) (Walks.strWide hh _ z t) (fun i h st => by obtain ⟨o, e, _⟩ := st; exact ⟨o, e⟩) ⟨_, Heap.get?_push_size _ rfl, rfl, rfl⟩ hsz hcell hkind hx hy hp F N (R _ ⟨_, rfl⟩))
  · exact wpAny_pyIter_ascii ha (comp_freshA (iter := iter) (Walks.strAscii hh _ z t) (fun i h st => by obtain ⟨o, e, _⟩ := st; exact ⟨o, e⟩) ⟨_, Heap.get?_push_size _ rfl, rfl, rfl⟩ hsz hcell hkind hx hy hp F N (R _ ⟨_, rfl⟩))
theorem SrcT.text {L : Addr} {elt : Expr} {x : Str} {scope : Scope} {cl : List (Str × Addr)} {Fin : Shared → List Value → List (Addr × Obj) → Prop} {y : Str} {t : Tok} {news : List (Addr × Obj)} {s₁ : Shared}
    (hh : A.handled = none) (F : Fr h₀ L s₁.heap m) (N : News h₀ L s₁.heap news) (hz : y.cps.size ≤ sizeLine)
    (h : ∀ g, CompRest prog w A h₀ L m env elt x scope cl { s₁ with heap := g } (fun _ => True) (SignAt y) (Fin { s₁ with heap := g }) y.cps.size 0 [] news) : SrcT prog w A h₀ L m env elt x scope cl Fin (.str y t) s₁ :=
  ⟨y, t, news, rfl, hh, F, N, hz, fun _ ⟨g, e⟩ => e ▸ h g⟩
end

end Mine
namespace Mine
section
variable {prog : Program} {w : World} {A : Around} {E : Value → Shared → Prop} {s : Shared} {h₀ : Heap} {L : Addr} {m : Str → Option Value} {news : List (Addr × Obj)}
/-- a comprehension over a range -/
theorem comp_range {b : Int} {t : Tok} {env : Env} {elt : Expr} {x : Str} {scope : Scope} {cl : List (Str × Addr)} {Fin : Shared → List Value → List (Addr × Obj) → Prop} (n : Nat) (hn : b = (n : Int)) (hz : n ≤ 1000000) (hh : A.handled = none) (F : Fr h₀ L s.heap m) (N : News h₀ L s.heap news)
    (h : ∀ g tk, CompRest prog w A h₀ L m env elt x scope cl { s with heap := g, toks := tk } (fun _ => True) (fun i v => ∃ t, v = .int (0 + (i : Int)) t) (Fin { s with heap := g, toks := tk }) n 0 [] news) :
    wpAny (model prog w) A (call (.type "range") [.int b t]) (CompSrc prog w A h₀ L m env elt x scope cl Fin) E s := by
  subst hn
  refine call_range_1 ?_
  have up : ∀ b' o, s.heap.get? b' = some o → (s.heap.push { cls := .type "range", data := .fields #[.int 0 s.toks, .int (n : Int) t, .int 1 (s.toks + 1)] }).get? b' = some o := fun b o e => Heap.get?_push_of_some _ e
  exact CompSrc.range hh (F.keeps up) (fun p hp => ⟨up _ _ (N p hp).1, (N p hp).2⟩) (IsRange.new ..) (small_one (by decide) (by decide) (by omega) (by omega)) (by rw [rangeSize_one, if_n]) (by rw [sizeLine_eq]; omega) fun g => h g _
end
theorem count_cast (l : List Nat) (i : Nat) : (l.map fun (n : Nat) => (n : Int)).count (0 + (i : Int)) = (l.filter (· == i)).length := by
  rw [Int.zero_add]
  induction l with
  | nil => rfl
  | cons a r ih =>
    rw [List.map_cons, List.count_cons, ih]
    by_cases h : a = i
    · subst h; simp
    · have h2 : ¬ ((a : Int) = (i : Int)) := by omega
      simp [h, h2]

end Mine
namespace Mine
theorem off1_all {D : Addr} : ∀ {l : List (Addr × Obj)}, Off1 D l → ∀ p ∈ l, p.1 ≠ D
  | [], _, _, h => nomatch h
  | q :: l, h, p, hp => by
    rcases List.mem_cons.mp hp with rfl | hp
    · exact h.1
    · exact off1_all h.2 p hp

end Mine
namespace Mine
/-- the letters under other names, in the same order: nothing that is counted changes -/
structure Mon (h : Nat → Nat) : Prop where
  zero : h 0 = 0
  lt : ∀ a b, a < b → h a < h b
theorem Mon.lt_iff {h : Nat → Nat} (M : Mon h) (a b : Nat) : h a < h b ↔ a < b := by
  refine ⟨fun e => ?_, M.lt a b⟩
  rcases Nat.lt_trichotomy a b with q | q | q
  · exact q
  · subst q; omega
  · have := M.lt b a q; omega
theorem Mon.inj {h : Nat → Nat} (M : Mon h) {a b : Nat} (e : h a = h b) : a = b := by
  rcases Nat.lt_trichotomy a b with q | q | q
  · have := M.lt a b q; omega
  · exact q
  · have := M.lt b a q; omega
theorem Mon.injL {h : Nat → Nat} (M : Mon h) : ∀ {a b : List Nat}, a.map h = b.map h → a = b
  | [], [], _ => rfl
  | [], _ :: _, e => by simp at e
  | _ :: _, [], e => by simp at e
  | x :: a, y :: b, e => by
    simp only [List.map_cons, List.cons.injEq] at e
    rw [M.inj e.1, M.injL e.2]
theorem Mon.mem {h : Nat → Nat} (M : Mon h) {a : List Nat} {s : List (List Nat)} : a.map h ∈ s.map (List.map h) ↔ a ∈ s := by
  constructor
  · intro q
    obtain ⟨b, hb, e⟩ := List.mem_map.mp q
    exact M.injL e ▸ hb
  · exact fun q => List.mem_map.mpr ⟨a, q, rfl⟩
theorem Mon.getD {h : Nat → Nat} (M : Mon h) (l : List Nat) (p : Nat) : (l.map h).getD p 0 = h (l.getD p 0) := by
  rw [List.getD_eq_getElem?_getD, List.getD_eq_getElem?_getD, List.getElem?_map]
  cases l[p]? with
  | none => exact M.zero.symm
  | some a => rfl
theorem Mon.swap {h : Nat → Nat} (M : Mon h) (l : List Nat) (p : Nat) : swapAt (l.map h) p = (swapAt l p).map h := by
  unfold swapAt
  simp only [M.getD, List.map_append, List.map_take, List.map_drop, List.map_cons, List.map_nil]
noncomputable def PS.under (h : Nat → Nat) (s : PS) : PS := ⟨s.fall, s.rise, s.met.map (List.map h), s.q.map (List.map h)⟩
noncomputable def RS.under (h : Nat → Nat) (s : RS) : RS := ⟨s.met.map (List.map h), s.q.map (List.map h), s.rd, s.fl, s.ri⟩
theorem Mon.place {h : Nat → Nat} (M : Mon h) (row : List Nat) (p : Nat) (s : PS) : placeStep (row.map h) p (s.under h) = (placeStep row p s).under h := by
  unfold placeStep
  simp only [M.getD, M.lt_iff, M.swap, PS.under, M.mem]
  split
  · rfl
  · split
    · split
      · rfl
      · simp
    · rfl
theorem Mon.placeGo {h : Nat → Nat} (M : Mon h) (row : List Nat) : ∀ (k p : Nat) (s : PS), placeGo (row.map h) k p (s.under h) = (placeGo row k p s).under h
  | 0, _, _ => rfl
  | k + 1, p, s => by
    rw [Mine.placeGo, Mine.placeGo, M.place, M.placeGo row k]
theorem Mon.fits {h : Nat → Nat} (s : RS) : (s.under h).fits = s.fits := by
  simp only [RS.fits, RS.under, List.length_map]
  rw [List.all_map]
  congr 2
  funext r
  simp only [Function.comp_apply, List.length_map]
theorem Mon.row {h : Nat → Nat} (M : Mon h) (s : RS) : rowStep (s.under h) = (rowStep s).map (RS.under h) := by
  unfold rowStep
  rw [Mon.fits]
  by_cases e : s.fits = true
  · rw [if_pos e, if_pos e]
    obtain ⟨met, q, rd, fl, ri⟩ := s
    cases q with
    | nil => rfl
    | cons row q =>
      have := M.placeGo row (row.length - 1) 1 ⟨0, 0, met, q⟩
      simp only [PS.under] at this
      simp only [RS.under, List.map_cons, List.length_map, this, Option.map_some]
  · rw [if_neg e, if_neg e]; rfl
theorem Mon.rows {h : Nat → Nat} (M : Mon h) : ∀ (k : Nat) (s : RS), rowsGo k (s.under h) = (rowsGo k s).map (RS.under h)
  | 0, _ => rfl
  | k + 1, s => by
    rw [rowsGo, rowsGo, M.row]
    cases rowStep s with
    | none => rfl
    | some t => exact M.rows k t
theorem Mon.rounds {h : Nat → Nat} (M : Mon h) : ∀ (f : Nat) (s : RS), roundsGo f (s.under h) = (roundsGo f s).map (RS.under h)
  | 0, _ => rfl
  | f + 1, s => by
    rw [roundsGo, roundsGo, Mon.fits]
    obtain ⟨met, q, rd, fl, ri⟩ := s
    by_cases e : q = []
    · subst e; rfl
    · have e' : (RS.under h ⟨met, q, rd, fl, ri⟩).q ≠ [] := by
        show q.map (List.map h) ≠ []
        exact fun x => e (List.map_eq_nil_iff.mp x)
      rw [if_neg e, if_neg e']
      by_cases g : (RS.fits ⟨met, q, rd, fl, ri⟩) = true
      · rw [if_pos g, if_pos g]
        have := M.rows q.length ⟨met, q, rd ++ [q.length], fl, ri⟩
        simp only [RS.under] at this
        simp only [RS.under, List.length_map, this]
        cases rowsGo q.length ⟨met, q, rd ++ [q.length], fl, ri⟩ with
        | none => rfl
        | some t => exact M.rounds f t
      · rw [if_neg g, if_neg g]; rfl
theorem Mon.rot {h : Nat → Nat} (q : List Nat) : rotL (q.map h) = (rotL q).map h := by
  unfold rotL; simp only [List.map_append, List.map_take, List.map_drop]
theorem Mon.ins {h : Nat → Nat} (M : Mon h) (s : List (List Nat)) (k : List Nat) : insK (s.map (List.map h)) (k.map h) = (insK s k).map (List.map h) := by
  unfold insK
  by_cases e : k ∈ s
  · rw [if_pos e, if_pos (M.mem.mpr e)]
  · rw [if_neg e, if_neg (fun q => e (M.mem.mp q))]; simp
theorem Mon.turn {h : Nat → Nat} (M : Mon h) (row : List Nat) : ∀ (f : Nat) (tu q : List Nat) (s : List (List Nat)) (n : Nat), turnGo (row.map h) f (tu.map h) (q.map h) (s.map (List.map h)) n = (turnGo row f tu q s n).map fun t => (t.1.map h, t.2.1.map (List.map h), t.2.2)
  | 0, _, _, _, _ => rfl
  | f + 1, tu, q, s, n => by
    rw [turnGo, turnGo, Mon.rot, M.ins, List.length_map, M.turn row f]
    by_cases e : tu = row
    · rw [if_pos e, if_pos (by rw [e])]; rfl
    · rw [if_neg e, if_neg (fun x => e (M.injL x))]
      by_cases g : s.length ≤ 500
      · rw [if_pos g, if_pos g]
      · rw [if_neg g, if_neg g]; rfl
theorem Mon.rings {h : Nat → Nat} (M : Mon h) (f : Nat) : ∀ (rows seen : List (List Nat)) (rg : List Nat), ringsGo f (rows.map (List.map h)) (seen.map (List.map h)) rg = ringsGo f rows seen rg
  | [], _, _ => rfl
  | row :: r, seen, rg => by
    rw [List.map_cons, ringsGo, ringsGo]
    by_cases e : row ∈ seen
    · rw [if_pos e, if_pos (M.mem.mpr e), M.rings f r]
    · rw [if_neg e, if_neg (fun x => e (M.mem.mp x)), List.length_map]
      by_cases g : 1 ≤ row.length ∧ row.length ≤ 8
      · rw [if_pos g, if_pos g]
        have := M.turn row f [] row seen 0
        rw [List.map_nil] at this
        rw [this]
        cases turnGo row f [] row seen 0 with
        | none => rfl
        | some t => exact M.rings f r t.2.1 _
      · rw [if_neg g, if_neg g]

end Mine

local macro_rules | `(tactic| news_mem) => `(tactic| k_mem)
local macro_rules | `(tactic| k_all) => `(tactic| walk_at "rest_ne")
local macro_rules
  | `(tactic| walk_at "and_r") => `(tactic| first | assumption | exact And.right (by first | assumption | exact And.right (by first | assumption | exact And.right (by first | assumption | exact And.right (by first | assumption | exact And.right (by first | assumption | exact And.right (by first | assumption | exact And.right (by first | assumption | exact And.right (by first | assumption | exact And.right (by first | assumption | exact And.right (by first | assumption | exact And.right (by assumption))))))))))))
  | `(tactic| walk_at "le9") => `(tactic| first | with_reducible exact Nat.le_refl _ | with_reducible exact Nat.le_of_lt (by assumption) | omega)
  | `(tactic| walk_at "rest_ne") => `(tactic| first | assumption | exact Mine.raw_ne (by assumption) (by walk_at "le9") | exact Mine.allLt_ne' (by walk_at "and_r") (by walk_at "le9"))
local macro_rules
  | `(tactic| ktr_room) => `(tactic| ((try simp only [depth_under_make, depth_under_kw, depth_in1, depth_deeper, depth_caller]); (try dsimp only [ktrTop]); walk_at "room"))
  | `(tactic| ktr_units) => `(tactic| ((try simp only [units_in1, units_deeper, Around.mark_units, units_caller]); (try dsimp only [ktrTop]); walk_at "room"))
  | `(tactic| walk_at "room") => `(tactic| with_reducible first | exact Mine.room3 (by assumption) (by decide) | exact Mine.room2 (by assumption) (by decide) | exact Mine.room1 (by assumption) (by decide) | exact Mine.room0 (by assumption))
  | `(tactic| k_ne) => `(tactic| (refine neN ?_; (try dsimp only); with_reducible first | exact Nat.ne_of_lt (by walk_at "lt9") | exact Nat.ne_of_gt (by walk_at "lt9") | omega))
  | `(tactic| walk_at "lt9") => `(tactic| first | assumption | exact Mine.lt_up (by assumption) (by decide) | exact And.left (by walk_at "and_r"))
local macro_rules | `(tactic| walk_at $s:str) => `(tactic| k_extra $s)

namespace Mine
theorem reset_grp : True := by
  w_top off
  trivial
set_option maxRecDepth 100000
/-- the generator's own text -/
noncomputable def grpDef : Option (List Stmt × Scope) := match (PySem.Challenge.rw_wn0028_01.prog.main.body[3]? : Option Stmt) with
  | some (.FunctionDef _ _ b _ _ _ s _ _ _) => some (b, s)
  | _ => none
noncomputable def grpB' : List Stmt := match grpDef with | some (b, _) => b | none => []
noncomputable def grpS' : Scope := match grpDef with | some (_, s) => s | none => default
noncomputable def grpSs : { x : Scope // grpS' = x } := by
  refine ⟨?_, ?h⟩; rotate_left
  conv => lhs; whnf
noncomputable def grpBs : { x : List Stmt // grpB' = x } := by
  refine ⟨?_, ?h⟩; rotate_left
  conv => lhs; whnf
noncomputable def grpQ' : List Stmt := match grpBs.1 with | _ :: .For _ _ b _ _ :: _ => b | _ => []
noncomputable def grpQs : { x : List Stmt // grpQ' = x } := by
  refine ⟨?_, ?h⟩; rotate_left
  conv => lhs; whnf
/-- what the generator tells: k at most where a nought stands -/
noncomputable def outsF : Option Int → Nat → List Int → List Int
  | _, _, [] => []
  | last, k, v :: r => if v = 127 then [] else if v = 0 then List.replicate k (last.getD 0) else v :: outsF (some v) (k - 1) r
noncomputable def finF : List Int → Bool
  | [] => true
  | v :: r => if v = 127 then true else if v = 0 then false else finF r
noncomputable def lastV : Option Int → Value → Prop
  | none, v => v = .none
  | some a, v => ∃ t, v = .int a t
noncomputable def grpU' : List Stmt := match grpQs.1 with | _ :: .If _ (_ :: .While _ b _ _ :: _) _ _ :: _ => b | _ => []
noncomputable def grpUs : { x : List Stmt // grpU' = x } := by
  refine ⟨?_, ?h⟩; rotate_left
  conv => lhs; whnf
theorem rep_succ {a : Int} {k : Nat} (out pre : List Int) (h : out = pre ++ List.replicate (k + 1) a) : out[out.length - 1 - k]? = some a := by
  subst h
  simp only [List.length_append, List.length_replicate]
  rw [show pre.length + (k + 1) - 1 - k = pre.length by omega, List.getElem?_append_right (Nat.le_refl _), Nat.sub_self]
  rfl
set_option maxRecDepth 100000 in
set_option maxHeartbeats 4000000 in
theorem grp_while (w : World) (dp un : Nat) (gd : Option (List Code)) (n : Str) (sc : Scope) (L1 fa : Addr) (cd : Value) (outer : List Env) (loose : List Str) (mean : ExcName → Option Value) (mg mb : Str → Option Value)
    (g1 : Heap) (L2 l G I : Nat) (oG oI : Obj) (its : List Value) (c0 : Nat) (out : List Int) (X : (Mine.hd.heap_1 w.params).In g1) (T : Top PySem.W.topProg loose mean mg mb g1) (hg1 : g1.objs.size ≤ L2) (hLG : L2 < G) (hGI : G < I)
    (kf k2 : Result → Sem PySem.Fin) (p p2 p3 : Pos) (tt : Tok) (x : Expr) (it : Value) (b : List Stmt) (a : Int) :
    ∀ (k : Nat) (pre : List Int) (s₀ s : Shared) (m : Str → Option Value) (t : Tok), out = pre ++ List.replicate (k + 1) a →
      g1.StaysIn s₀.heap → s = { s₀ with heap := s.heap, toks := s.toks } →
      Fr (cutH s₀.heap L2) L2 s.heap (mB [(Str.ofString "last_interval", .int a t)] m) → News (cutH s₀.heap L2) L2 s.heap [(I, oI), (G, oG)] →
      Seg (model PySem.Challenge.rw_wn0028_01.prog w) (ktrTop dp un gd n sc L1 fa cd [] outer) (fun n s₀ r s₁ => r = .ok (.ret .none) ∧ GP L2 G oG false n s₀ s₁) (GY g1 L2 l G (listOf its.toArray c0) oG out false) (k + 1) s₀
        (.whileLoop (.Constant (.bool true) tt p3) grpUs.1 [] (envOf (Str.ofString "_grouping_intervals") grpSs.1 L2 28 (.ref 27)))
        ((model PySem.Challenge.rw_wn0028_01.prog w).den (.whileLoop (.Constant (.bool true) tt p3) grpUs.1 [] (envOf (Str.ofString "_grouping_intervals") grpSs.1 L2 28 (.ref 27))))
        [.ret k2 none (id false) (id []) (.forLoop x it b [] (envOf (Str.ofString "_grouping_intervals") grpSs.1 L2 28 (.ref 27))) p2 [],
         .ret kf none (id false) (id []) (.func grpBs.1 (envOf (Str.ofString "_grouping_intervals") grpSs.1 L2 28 (.ref 27))) p []] s := by
  dsimp only [grpUs, grpSs, grpBs]
  intro k
  induction k using Nat.strongRecOn with
  | ind k ih =>
    intro pre s₀ s m t ho hst hs F N
    have X' := X.keeps (cutH_keeps hg1 hst)
    have T' := T.keeps (cutH_keeps hg1 hst)
    obtain ⟨oL, es, ep, hoL, hod, hok, hof⟩ := F.ns
    have F₃ := F
    dsimp only [mB] at F₃
    refine seg_whileLoop ?_
    rw [over_while]
    k_with_none
    k_steps
    refine seg_execs_cons (seg_Expr_Yield rfl rfl rfl ?_)
    rw [over_while]
    k_steps
    rename_i kap hkap
    refine ⟨a, _, _, _, I, oL, oI, rep_succ out pre ho, rfl, by rw [hs], fun b o hb e => F.keep b o ((cutH_get hb).trans e), (N _ (.tail _ (.head _))).1, hoL, (N _ (.head _)).1, hGI, fun hm s3 hst3 hm3 hG3 hL3 hI3 => ?_⟩
    obtain ⟨k, rfl⟩ : ∃ k', k = k' + 1 := ⟨k - 1, by have := hm.resolve_right (fun q => nomatch q); omega⟩
    refine hkap .none s3 ?_
    dsimp only
    have F4 : Fr (cutH s3.heap L2) L2 s3.heap _ := ⟨⟨oL, es, ep, hL3, hod, hok, hof⟩, fun b o e => (cutH_of e).2, cutH_size⟩
    have N4 : News (cutH s3.heap L2) L2 s3.heap [(I, oI), (G, oG)] := List.forall_mem_cons.mpr ⟨⟨hI3, Nat.ne_of_gt (Nat.lt_trans hLG hGI), cutH_none (Nat.le_of_lt (Nat.lt_trans hLG hGI))⟩, List.forall_mem_cons.mpr ⟨⟨hG3, Nat.ne_of_gt hLG, cutH_none (Nat.le_of_lt hLG)⟩, List.forall_mem_nil _⟩⟩
    refine seg_execs_nil ?_
    exact seg_again rfl (ih k (Nat.lt_succ_self _) (pre ++ [a]) s3 s3 _ t (by rw [ho, List.append_assoc]; rfl) hst3 rfl F4 N4)
set_option maxRecDepth 100000 in
set_option maxHeartbeats 4000000 in
theorem grp_loop (w : World) (dp un : Nat) (gd : Option (List Code)) (n : Str) (sc : Scope) (L1 fa : Addr) (cd : Value) (outer : List Env) (loose : List Str) (mean : ExcName → Option Value) (mg mb : Str → Option Value)
    (g1 : Heap) (L2 l G I : Nat) (oG : Obj) (its : List Value) (c0 : Nat) (out : List Int) (fin : Bool) (X : (Mine.hd.heap_1 w.params).In g1) (T : Top PySem.W.topProg loose mean mg mb g1) (hg1 : g1.objs.size ≤ L2) (hl2 : l < L2) (hLG : L2 < G) (hGI : G < I)
    (px : Pos) (kf : Result → Sem PySem.Fin) (p : Pos) (hkf : ∀ r, kf (.ok r) = .pure (.done (.ret (match r with | .ret v => v | _ => .none)))) :
    ∀ (r : List Int) (rv : List Value) (i : Nat) (last : Option Int) (k : Nat) (s₀ s : Shared) (m : Str → Option Value) (oI : Obj) (lv : Value), IntsAre rv r → its.drop i = rv → i ≤ its.length →
      (last = none → ∀ v r', r = v :: r' → v ≠ 0) → (∀ v ∈ r, 0 ≤ v ∧ v ≤ 127) → finF r = fin → r.length ≤ k →
      out.drop (out.length - (outsF last k r).length) = outsF last k r → (outsF last k r).length ≤ out.length →
      lastV last lv → g1.StaysIn s₀.heap → s₀.heap.get? l = some (listOf its.toArray c0) → s = { s₀ with heap := s.heap, toks := s.toks } →
      Fr (cutH s₀.heap L2) L2 s.heap (mB [(Str.ofString "last_interval", lv)] m) → News (cutH s₀.heap L2) L2 s.heap [(I, oI), (G, oG)] → s.heap.IsListIter I l i →
      Seg (model PySem.Challenge.rw_wn0028_01.prog w) (ktrTop dp un gd n sc L1 fa cd [] outer) (fun n s₀ r s₁ => r = .ok (.ret .none) ∧ GP L2 G oG fin n s₀ s₁) (GY g1 L2 l G (listOf its.toArray c0) oG out fin) (outsF last k r).length s₀
        (.forLoop (.Name (Str.ofString "interval") px) (.ref I) grpQs.1 [] (envOf (Str.ofString "_grouping_intervals") grpSs.1 L2 28 (.ref 27)))
        ((model PySem.Challenge.rw_wn0028_01.prog w).den (.forLoop (.Name (Str.ofString "interval") px) (.ref I) grpQs.1 [] (envOf (Str.ofString "_grouping_intervals") grpSs.1 L2 28 (.ref 27))))
        [.ret kf none (id false) (id []) (.func grpBs.1 (envOf (Str.ofString "_grouping_intervals") grpSs.1 L2 28 (.ref 27))) p []] s := by
  have ltI : ∀ b : Nat, b < L2 → b ≠ I := fun b hb => by omega
  have hGI' : G ≠ I := by omega
  have hGL : G ≠ L2 := by omega
  have hIL : I ≠ L2 := by omega
  have hLI : L2 ≠ I := by omega
  have fine : ∀ (s₀ s : Shared) (h' : Heap) (tk : Nat), fin = true → s = { s₀ with heap := s.heap, toks := s.toks } → (∀ b o, b < L2 → s₀.heap.get? b = some o → h'.get? b = some o) → h'.get? G = some oG →
      ∀ c f, f = Flow.next ∨ f = .ret .none → Seg (model PySem.Challenge.rw_wn0028_01.prog w) (ktrTop dp un gd n sc L1 fa cd [] outer) (fun n s₀ r s₁ => r = .ok (.ret .none) ∧ GP L2 G oG fin n s₀ s₁) (GY g1 L2 l G (listOf its.toArray c0) oG out fin) 0 s₀ c (leafOf (.ok f)) [.ret kf none (id false) (id []) (.func grpBs.1 (envOf (Str.ofString "_grouping_intervals") grpSs.1 L2 28 (.ref 27))) p []] { s with heap := h', toks := tk } := by
    intro s₀ s h' tk hf hs kp hG c f hff
    refine seg_leaf (.ok f) ?_
    rw [hkf]
    rcases hff with rfl | rfl
    all_goals exact seg_end (.ok (.ret .none)) ⟨rfl, rfl, hf, h', tk, by rw [hs], kp, hG⟩
  dsimp only [grpQs, grpSs, grpBs] at *
  intro r
  induction r with
  | nil =>
    intro rv i last k s₀ s m oI lv hr hd hi hl0 hb hf hk ho1 ho2 hlv hst hm hs F N hI
    cases hr
    refine seg_forLoop ?_
    rw [over_for]
    have hil : i = its.length := by
      have := congrArg List.length hd; simp at this; omega
    refine (Walks.list rfl I l (Nat.ne_of_lt (Nat.lt_trans hl2 (Nat.lt_trans hLG hGI))) its.toArray).done s _ _ ⟨?_, ?_⟩ fun h' tk hk' => ?_
    · rw [List.size_toArray, ← hil]; exact hI
    · exact ⟨_, F.keep l _ ((cutH_get hl2).trans hm), rfl, _, rfl⟩
    dsimp only
    have up : ∀ b o, b ≠ I → s.heap.get? b = some o → h'.get? b = some o := fun b o hb e => hk' b o (by simpa using hb) e
    exact fine s₀ s h' tk hf.symm hs (fun b o hb e => up b o (ltI b hb) (F.keep b o ((cutH_get hb).trans e))) (up _ _ hGI' (N _ (.tail _ (.head _))).1) _ _ (.inl rfl)
  | cons v r ih =>
    intro rv i last k s₀ s m oI lv hr hd hi hl0 hb hf hk ho1 ho2 hlv hst hm hs F N hI
    cases hr with
    | cons _ tv hr' =>
    rename_i rv'
    have hlt : i < its.length := by
      rcases Nat.lt_or_ge i its.length with h | h
      · exact h
      · rw [List.drop_of_length_le h] at hd; cases hd
    have hv : its[i]? = some (.int v tv) ∧ its.drop (i + 1) = rv' := by
      rw [List.drop_eq_getElem_cons hlt] at hd
      injection hd with h1 h2
      exact ⟨by rw [List.getElem?_eq_getElem hlt, h1], h2⟩
    have X' := X.keeps (cutH_keeps hg1 hst)
    have T' := T.keeps (cutH_keeps hg1 hst)
    refine seg_forLoop ?_
    rw [over_for]
    refine (Walks.list rfl I l (Nat.ne_of_lt (Nat.lt_trans hl2 (Nat.lt_trans hLG hGI))) its.toArray).item i s _ _ (by rw [List.size_toArray]; exact hlt) ⟨hI, ⟨_, F.keep l _ ((cutH_get hl2).trans hm), rfl, _, rfl⟩⟩ fun v' h₂ tk₂ hPv hst₂ hk₂ => ?_
    obtain rfl : v' = .int v tv := by
      have e : its.toArray[i]? = some v' := hPv
      rw [List.getElem?_toArray, hv.1] at e
      exact (Option.some.inj e).symm
    obtain ⟨oI2, hI2, hIp⟩ := hst₂.1
    have up₂ : ∀ b o, b ≠ I → s.heap.get? b = some o → h₂.get? b = some o := fun b o hb e => hk₂ b o (by simpa using hb) e
    have F₂ : Fr (cutH s₀.heap L2) L2 h₂ (mB [(Str.ofString "last_interval", lv)] m) := ⟨F.ns.at' fun o e => up₂ _ o hLI e, fun b o e => up₂ b o (ltI b (cutH_of e).1) (F.keep b o e), F.above⟩
    dsimp only
    refine wpAny_assign_Name (wpAny_storeName_local rfl F₂.ns (fun h₃ hn₃ hs₃ => ?_) rfl)
    have F₃ : Fr (cutH s₀.heap L2) L2 h₃ _ := ⟨hn₃, fun b o e => hs₃.extBut b o (Nat.ne_of_lt (cutH_of e).1) (F₂.keep b o e), F.above⟩
    have N₃ : News (cutH s₀.heap L2) L2 h₃ [(I, oI2), (G, oG)] := by
      intro p hp
      rcases List.mem_cons.mp hp with rfl | hp
      · exact ⟨hs₃.extBut _ _ hIL hI2, hIL, cutH_none (by show L2 ≤ I; omega)⟩
      · obtain rfl := List.mem_singleton.mp hp
        exact ⟨hs₃.extBut _ _ hGL (up₂ _ _ hGI' (N _ (.tail _ (.head _))).1), hGL, cutH_none (by show L2 ≤ G; omega)⟩
    clear F₂ hn₃
    dsimp only [mB] at F₃
    refine seg_execs_cons (seg_If ?_)
    rw [over_for]
    k_with_none
    k_steps
    · have h127 : v = 127 := by assumption
      have e0 : outsF last k (v :: r) = [] := by rw [outsF, if_pos h127]
      have f0 : fin = true := by rw [← hf, finF, if_pos h127]
      rw [e0]
      refine seg_execs_cons (seg_stmt (wpAny_Return_none ?_))
      exact fine s₀ s _ _ f0 hs (fun b o hb e => F₃.keep b o ((cutH_get hb).trans e)) (N₃ _ (.tail _ (.head _))).1 _ _ (.inr rfl)
    have h127 : v ≠ 127 := by assumption
    refine seg_execs_nil ?_
    dsimp only
    refine seg_execs_cons (seg_If ?_)
    rw [over_for]
    k_steps
    · have hv0 : v = 0 := by assumption
      cases last with
      | none => exact absurd hv0 (hl0 rfl v r rfl)
      | some a =>
      obtain ⟨t, rfl⟩ := hlv
      obtain rfl : fin = false := by rw [← hf, finF, if_neg h127, if_pos hv0]
      have e0 : outsF (some a) k (v :: r) = List.replicate k a := by rw [outsF, if_neg h127, if_pos hv0]; rfl
      obtain ⟨k, rfl⟩ : ∃ k', k = k' + 1 := ⟨k - 1, by simp only [List.length_cons] at hk; omega⟩
      rw [e0, List.length_replicate] at ho1 ho2 ⊢
      refine seg_execs_cons (seg_If ?_)
      rw [over_for]
      k_steps
      refine seg_execs_nil ?_
      dsimp only
      refine seg_execs_cons (seg_While fun p2 => ?_)
      exact grp_while w dp un gd n sc L1 fa cd outer loose mean mg mb g1 L2 l G I oG oI2 its c0 out X T hg1 hLG hGI kf _ p p2 _ _ _ _ _ a k (out.take (out.length - (k + 1))) s₀ _ _ t (by rw [← ho1]; exact (List.take_append_drop _ _).symm) hst (by rw [hs]) (fr_mB (ps := [(Str.ofString "last_interval", .int a t)]) F₃ ⟨rfl, trivial⟩) N₃
    have hv0 : v ≠ 0 := by assumption
    have e1 : outsF last k (v :: r) = v :: outsF (some v) (k - 1) r := by rw [outsF, if_neg h127, if_neg hv0]
    have f1 : finF r = fin := by rw [← hf, finF, if_neg h127, if_neg hv0]
    rw [e1, List.length_cons] at ho1 ho2 ⊢
    obtain ⟨oL, es, ep, hoL, hod, hok, hof⟩ := F₃.ns
    refine seg_execs_nil ?_
    dsimp only
    refine seg_execs_cons (seg_Expr_Yield rfl rfl rfl ?_)
    rw [over_for]
    k_steps
    rename_i kap hkap
    refine ⟨v, _, _, _, I, oL, oI2, ?_, rfl, by rw [hs], fun b o hb e => F₃.keep b o ((cutH_get hb).trans e), (N₃ _ (.tail _ (.head _))).1, hoL, (N₃ _ (.head _)).1, hGI, ?_⟩
    · have e2 := congrArg (·[0]?) ho1
      simp only [List.getElem?_drop, List.getElem?_cons_zero, Nat.add_zero] at e2
      rw [show out.length - 1 - (outsF (some v) (k - 1) r).length = out.length - ((outsF (some v) (k - 1) r).length + 1) by omega]; exact e2
    · intro _ s3 hst3 hm3 hG3 hL3 hI3
      refine hkap .none s3 ?_
      dsimp only
      have F4 : Fr (cutH s3.heap L2) L2 s3.heap _ := ⟨⟨oL, es, ep, hL3, hod, hok, hof⟩, fun b o e => (cutH_of e).2, cutH_size⟩
      have N4 : News (cutH s3.heap L2) L2 s3.heap [(I, oI2), (G, oG)] := List.forall_mem_cons.mpr ⟨⟨hI3, hIL, cutH_none (Nat.le_of_lt (Nat.lt_trans hLG hGI))⟩, List.forall_mem_cons.mpr ⟨⟨hG3, hGL, cutH_none (Nat.le_of_lt hLG)⟩, List.forall_mem_nil _⟩⟩
      have X4 := X.keeps (cutH_keeps hg1 hst3)
      have T4 := T.keeps (cutH_keeps hg1 hst3)
      clear F₃ N₃ X' T' F N hs₃
      refine seg_execs_cons (seg_stmt ?_)
      rw [over_for]
      k_steps
      refine seg_execs_nil ?_
      refine seg_again rfl (ih rv' (i + 1) (some v) (k - 1) s3 _ _ oI2 (.int v tv) hr' hv.2 hlt (fun e => nomatch e) (fun u hu => hb u (.tail _ hu)) f1 (by simp only [List.length_cons] at hk; omega) ?_ (by omega) ⟨tv, rfl⟩ hst3 hm3 rfl (by k_asm) (by k_asm) ⟨oI2, ?_, hIp⟩)
      · have e2 := congrArg (List.drop 1) ho1
        rw [List.drop_drop, List.drop_succ_cons, List.drop_zero] at e2
        rw [show out.length - (outsF (some v) (k - 1) r).length = out.length - ((outsF (some v) (k - 1) r).length + 1) + 1 by omega]
        exact e2
      · exact News.get (h₀ := cutH s3.heap L2) (L := L2) (by k_asm) (.head _)

end Mine
namespace Mine
theorem reset_told9 : True := by
  w_top off
  trivial
set_option maxRecDepth 100000 in
set_option maxHeartbeats 4000000 in
/-- the generator, freshly made, tells what it is to tell -/
theorem grp_fresh (w : World) (dp un : Nat) (gd : Option (List Code)) (n : Str) (sc : Scope) (L1 fa : Addr) (cd : Value) (outer : List Env) (loose : List Str) (mean : ExcName → Option Value) (mg mb : Str → Option Value)
    (g1 : Heap) (L2 l G : Nat) (oG oL : Obj) (its : List Value) (c0 : Nat) (ns : List Int) (X : (Mine.hd.heap_1 w.params).In g1) (T : Top PySem.W.topProg loose mean mg mb g1) (hg1 : g1.objs.size ≤ L2) (hl2 : l < L2) (hLG : L2 < G)
    (hr : IntsAre its ns) (hn0 : ∀ v r', ns = v :: r' → v ≠ 0) (hb : ∀ v ∈ ns, 0 ≤ v ∧ v ≤ 127) (hk : ns.length ≤ 4) (s : Shared) (hst : g1.StaysIn s.heap) (hm : s.heap.get? l = some (listOf its.toArray c0)) (hG : s.heap.get? G = some oG)
    (hL : s.heap.get? L2 = some oL) (hLn : ∀ h : Heap, h.get? L2 = some oL → h.Ns L2 (fun y => [(Str.ofString "grouping", Value.ref l)].reverse.lookup y)) :
    GGo PySem.Challenge.rw_wn0028_01.prog w (ktrTop dp un gd n sc L1 fa cd [] outer) g1 L2 l G (listOf its.toArray c0) oG (outsF none 4 ns) (finF ns) (.fresh (.func grpBs.1 (envOf (Str.ofString "_grouping_intervals") grpSs.1 L2 28 (.ref 27)))) (outsF none 4 ns).length s := by
  refine ⟨rfl, ?_⟩
  have F : Fr (cutH s.heap L2) L2 s.heap _ := ⟨hLn _ hL, fun b o e => (cutH_of e).2, cutH_size⟩
  have N : News (cutH s.heap L2) L2 s.heap [(G, oG)] := List.forall_mem_cons.mpr ⟨⟨hG, Nat.ne_of_gt hLG, cutH_none (Nat.le_of_lt hLG)⟩, List.forall_mem_nil _⟩
  have X' := X.keeps (cutH_keeps hg1 hst)
  have T' := T.keeps (cutH_keeps hg1 hst)
  dsimp only [grpSs, grpBs]
  refine seg_func ?_
  refine seg_execs_cons (seg_stmt ?_)
  rw [over_deeper]
  k_with_none
  k_steps
  rename_i h3 F3 N3
  refine seg_execs_cons (seg_For ?_)
  rw [over_deeper]
  k_with "pyIter ref" => refine stop_in ?_
  k_steps
  refine stop_out ?_
  have hls : h3.IsList l its.toArray := ⟨_, F3.keep l _ ((cutH_get hl2).trans hm), rfl, _, rfl⟩
  refine wpAny_pyIter_list hls ?_
  intro p
  have up : ∀ b o, h3.get? b = some o → (h3.push { cls := .type "list_iterator", data := .fields #[.ref l, .int 0 0] }).get? b = some o := fun b o e => Heap.get?_push_of_some _ e
  have hGs : G < h3.objs.size := Heap.lt_size (N3 _ (.head _)).1
  have hi := Heap.get?_push_size (h := h3) (o := { cls := .type "list_iterator", data := .fields #[.ref l, .int 0 0] }) rfl
  have N4 : News (cutH s.heap L2) L2 (h3.push { cls := .type "list_iterator", data := .fields #[.ref l, .int 0 0] }) [(h3.objs.size, { cls := .type "list_iterator", data := .fields #[.ref l, .int 0 0] }), (G, oG)] :=
    List.forall_mem_cons.mpr ⟨⟨hi, Nat.ne_of_gt (Nat.lt_trans hLG hGs), cutH_none (Nat.le_of_lt (Nat.lt_trans hLG hGs))⟩, fun p hp => ⟨up _ _ (N3 p hp).1, (N3 p hp).2⟩⟩
  exact grp_loop w dp un gd n sc L1 fa cd outer loose mean mg mb g1 L2 l G h3.objs.size oG its c0 _ _ X T hg1 hl2 hLG hGs _ _ p (fun r => by cases r <;> rfl) ns its 0 none 4 s _ _ _ .none hr rfl (Nat.zero_le _) (fun _ => hn0) hb rfl hk
    (by rw [Nat.sub_self, List.drop_zero]) (Nat.le_refl _) rfl hst hm rfl (fr_mB (ps := [(Str.ofString "last_interval", .none)]) (F3.keeps up) ⟨rfl, trivial⟩) N4 ⟨_, hi, rfl, rfl⟩
theorem outs_full : ∀ (ns : List Int) (last : Option Int) (k : Nat), ns.length ≤ k → finF ns = false → (outsF last k ns).length = k
  | [], _, _, _, h => nomatch h
  | v :: r, last, k, hk, h => by
    rw [finF] at h
    rw [outsF]
    by_cases h1 : v = 127
    · rw [if_pos h1] at h; cases h
    · rw [if_neg h1] at h ⊢
      by_cases h2 : v = 0
      · rw [if_pos h2, List.length_replicate]
      · rw [if_neg h2] at h ⊢
        simp only [List.length_cons] at hk ⊢
        rw [outs_full r (some v) (k - 1) (by omega) h]; omega
theorem outs_le : ∀ (ns : List Int) (last : Option Int) (k : Nat), ns.length ≤ k → (outsF last k ns).length ≤ k
  | [], _, _, _ => Nat.zero_le _
  | v :: r, last, k, hk => by
    rw [outsF]
    by_cases h1 : v = 127
    · rw [if_pos h1]; exact Nat.zero_le _
    · rw [if_neg h1]
      by_cases h2 : v = 0
      · rw [if_pos h2, List.length_replicate]; exact Nat.le_refl _
      · rw [if_neg h2]
        simp only [List.length_cons] at hk ⊢
        have := outs_le r (some v) (k - 1) (by omega)
        omega
namespace told1
set_option maxRecDepth 100000 in
set_option maxHeartbeats 4000000 in
noncomputable def seg9 : {p : PySem.World → Nat → (List PySem.Value) → Nat → (List Int) → (List PySem.Str) → (PySem.ExcName → Option PySem.Value) → (PySem.Str → Option PySem.Value) → (PySem.Str → Option PySem.Value) → (List (PySem.Addr × PySem.Obj)) → Nat → Nat → (Option (List PySem.Code)) → PySem.Str → PySem.Scope → PySem.Addr → PySem.Value → (List (PySem.Str × PySem.Addr)) → PySem.Around → PySem.Heap → PySem.Addr → (PySem.Str → Option PySem.Value) → (PySem.Result → PySem.Shared → Prop) → PySem.Heap → PySem.Drawn → Nat → PySem.OsState → PySem.Heap → PySem.Addr → PySem.Heap → Nat → PySem.Addr → PySem.Heap → PySem.Heap → Nat → PySem.Heap → PySem.Addr → PySem.Heap → PySem.Addr → PySem.Tok → PySem.Tok → Nat → PySem.Obj → (Array PySem.DictEntry) → Nat → Prop // Hid (∀ a0 a1 a2 a3 a4 a5 a6 a7 a8 a9 a10 a11 a12 a13 a14 a15 a16 a17 a18 a19 a20 a21 a22 a23 a24 a25 a26 a27 a28 a29 a30 a31 a32 a33 a34 a35 a36 a37 a38 a39 a40 a41 a42 a43 a44, p a0 a1 a2 a3 a4 a5 a6 a7 a8 a9 a10 a11 a12 a13 a14 a15 a16 a17 a18 a19 a20 a21 a22 a23 a24 a25 a26 a27 a28 a29 a30 a31 a32 a33 a34 a35 a36 a37 a38 a39 a40 a41 a42 a43 a44) → ∀ (w : World) (l : Nat) (its : List Value) (c : Nat) (ns : List Int) (hr : IntsAre its ns) (hn0 : ∀ v r', ns = v :: r' → v ≠ 0) (hb9 : ∀ v ∈ ns, 0 ≤ v ∧ v ≤ 127) (hk9 : ns.length ≤ 4) (loose : List Str) (mean : ExcName → Option Value) (mg mb : Str → Option Value) (rest : List (Addr × Obj)) (dp un : Nat) (gd : Option (List Code)) (cn : Str) (cs : Scope) (a : Addr) (ccd : Value) (cl : List (Str × Addr)) (A₀ : Around) (h₀ : Heap) (L : Addr) (m : Str → Option Value) (s : Shared) (R : Result → Shared → Prop) (hm : (l, listOf its.toArray c) ∈ rest) (B : Below A₀ h₀ [] h₀) (F₀ : Fr h₀ L s.heap m) (X : (Mine.hd.heap_1 w.params).In h₀) (N₀ : News h₀ L s.heap rest) (T : Top PySem.W.topProg loose mean mg mb h₀) (hk : cs.kind = .function) (hd : dp + 4 < recursionLimit) (hu : un + 60 < cLine) (hgs : s.gens = #[]) (hret : ∀ a ws k h' g' tk', AllBare g' → IntsAre ws (outsF none 4 ns) → (∀ q ∈ rest, q.1 < a) → Fr h₀ L h' m → News h₀ L h' ((a, listOf ws.toArray k) :: rest) → R (.ok (.ret (.ref a))) { s with heap := h', toks := tk', gens := g' }), codeAny (model PySem.Challenge.rw_wn0028_01.prog w) (ktrTop dp un gd cn cs L a ccd cl []) (.call (.ref 98) ⟨[.ref l], []⟩) R s} := segOf (by
  intro ht9
  intro w l its c ns hr hn0 hb9 hk9 loose mean mg mb rest dp un gd cn cs a ccd cl A₀ h₀ L m s R hm B F₀ X N₀ T hk hd hu hgs hret
  obtain ⟨sh, sg, sd, st9, so⟩ := s
  dsimp only at hgs F₀ N₀ hret
  subst hgs
  k_with_none
  refine' code_defT ?k1 ?k2 ?k3 ?k4 ?k5 ?kA ?kF ?kK ?k6 ?k7 ?k8 ?k9 ?kB ?_ ?c5 ?c2 ?c3 ?c4
  case kA => exact rfl
  case kF => exact rfl
  case kK => assumption
  case k1 => k_asm
  case k2 => k_asm
  case k3 => k_asm
  case k4 => k_asm
  case k5 => k_asm
  case k6 => k_is
  case k7 => k_is
  case k8 => ktr_room
  case k9 => exact BindsTo.of_eq rfl
  case c5 => decide
  case kB => exact locs rfl
  case c2 => exact rfl
  case c3 => exact rfl
  case c4 => exact rfl
  intro g L1 h₁ FG F1 N1 B1 st l1 X1 T1
  k_with "exec For Name Call cons nil" => refine stop_in ?_
  k_steps
  refine stop_out ?_
  rename_i ltl h2 F2 N2
  refine wpAny_For ?_
  k_with "call ref cons nil" => refine stop_in ?_
  k_steps
  refine stop_out ?_
  k_with_none
  refine wpAny_call ?_
  refine' code_gen ?k1 ?k2 ?k3 ?k4 ?k5 ?kA ?kF ?kK ?k6 ?k7 ?k8 ?k9 ?kB ?_ ?c5 ?c2 ?c3 ?c4
  case kA => exact rfl
  case kF => exact rfl
  case kK => exact rfl
  case k1 => exact B1
  case k2 => exact F2
  case k3 => exact X1
  case k4 => exact N2
  case k5 => exact T1
  case k6 => k_is
  case k7 => k_is
  case k8 => ktr_room
  case k9 => exact fun _ => BindsTo.of_eq rfl
  case c5 => decide
  case kB => exact locs rfl
  case c2 => exact rfl
  case c3 => exact rfl
  case c4 => exact rfl
  intro g2 L2 h3 G t u tk3 FG2 F3 N3 B3 st3 l3 lG F4 N4 X3 T3
  dsimp only
  refine wpAny_pyIter_gen (gen_is N4 (.head _)) ?_
  obtain ⟨oL, es, ep, hoL, hod, hok, hof⟩ := F3.ns
  rename_i tl _
  have hL12 : @LT.lt Nat _ L1 L2 := Nat.lt_of_lt_of_le FG2.ns.lt F3.above
  have hl2 : @LT.lt Nat _ l L2 := l3 _ (.tail _ hm)
  have htl : @LT.lt Nat _ tl L2 := l3 _ (.head _)
  have hgL : g.objs.size ≤ L2 := Nat.le_of_lt (Nat.lt_of_le_of_lt F4.above hL12)
  have hlist : h3.get? l = some (listOf its.toArray c) := (N4 _ (.tail _ (.tail _ hm))).1
  have hful := outs_full ns none 4 hk9
  have hle := outs_le ns none 4 hk9
  generalize hfin : finF ns = fin at hful
  generalize hout : outsF none 4 ns = out at *
  rename_i z1 z2
  clear B T hk hu F₀ N₀ B1 l1 F2 N2 FG2 F3 N3 B3 st3 X3 T3 hlist
  revert hr hn0 hb9 hk9 hm X hd FG st X1 T1 ltl l3 lG F4 N4 hoL hod hok hof hL12 hl2 htl hgL fin hfin out hout hret hle hful
  exact ht9.out w l its c ns loose mean mg mb rest dp un gd cn cs a ccd cl A₀ h₀ L m R sh sd st9 so g L1 h₁ z1 tl z2 h2 tk g2 L2 h3 G t u tk3 oL es ep
)
noncomputable def G9 (d : PySem.World × Nat × (List PySem.Value) × Nat × (List Int) × (List PySem.Str) × (PySem.ExcName → Option PySem.Value) × (PySem.Str → Option PySem.Value) × (PySem.Str → Option PySem.Value) × (List (PySem.Addr × PySem.Obj)) × Nat × Nat × (Option (List PySem.Code)) × PySem.Str × PySem.Scope × PySem.Addr × PySem.Value × (List (PySem.Str × PySem.Addr)) × PySem.Around × PySem.Heap × PySem.Addr × (PySem.Str → Option PySem.Value) × (PySem.Result → PySem.Shared → Prop) × PySem.Heap × PySem.Drawn × Nat × PySem.OsState × PySem.Heap × PySem.Addr × PySem.Heap × Nat × PySem.Addr × PySem.Heap × PySem.Heap × Nat × PySem.Heap × PySem.Addr × PySem.Heap × PySem.Addr × PySem.Tok × PySem.Tok × Nat × PySem.Obj × (Array PySem.DictEntry) × Nat) : Prop := seg9.1 d.1 d.2.1 d.2.2.1 d.2.2.2.1 d.2.2.2.2.1 d.2.2.2.2.2.1 d.2.2.2.2.2.2.1 d.2.2.2.2.2.2.2.1 d.2.2.2.2.2.2.2.2.1 d.2.2.2.2.2.2.2.2.2.1 d.2.2.2.2.2.2.2.2.2.2.1 d.2.2.2.2.2.2.2.2.2.2.2.1 d.2.2.2.2.2.2.2.2.2.2.2.2.1 d.2.2.2.2.2.2.2.2.2.2.2.2.2.1 d.2.2.2.2.2.2.2.2.2.2.2.2.2.2.1 d.2.2.2.2.2.2.2.2.2.2.2.2.2.2.2.1 d.2.2.2.2.2.2.2.2.2.2.2.2.2.2.2.2.1 d.2.2.2.2.2.2.2.2.2.2.2.2.2.2.2.2.2.1 d.2.2.2.2.2.2.2.2.2.2.2.2.2.2.2.2.2.2.1 d.2.2.2.2.2.2.2.2.2.2.2.2.2.2.2.2.2.2.2.1 d.2.2.2.2.2.2.2.2.2.2.2.2.2.2.2.2.2.2.2.2.1 d.2.2.2.2.2.2.2.2.2.2.2.2.2.2.2.2.2.2.2.2.2.1 d.2.2.2.2.2.2.2.2.2.2.2.2.2.2.2.2.2.2.2.2.2.2.1 d.2.2.2.2.2.2.2.2.2.2.2.2.2.2.2.2.2.2.2.2.2.2.2.1 d.2.2.2.2.2.2.2.2.2.2.2.2.2.2.2.2.2.2.2.2.2.2.2.2.1 d.2.2.2.2.2.2.2.2.2.2.2.2.2.2.2.2.2.2.2.2.2.2.2.2.2.1 d.2.2.2.2.2.2.2.2.2.2.2.2.2.2.2.2.2.2.2.2.2.2.2.2.2.2.1 d.2.2.2.2.2.2.2.2.2.2.2.2.2.2.2.2.2.2.2.2.2.2.2.2.2.2.2.1 d.2.2.2.2.2.2.2.2.2.2.2.2.2.2.2.2.2.2.2.2.2.2.2.2.2.2.2.2.1 d.2.2.2.2.2.2.2.2.2.2.2.2.2.2.2.2.2.2.2.2.2.2.2.2.2.2.2.2.2.1 d.2.2.2.2.2.2.2.2.2.2.2.2.2.2.2.2.2.2.2.2.2.2.2.2.2.2.2.2.2.2.1 d.2.2.2.2.2.2.2.2.2.2.2.2.2.2.2.2.2.2.2.2.2.2.2.2.2.2.2.2.2.2.2.1 d.2.2.2.2.2.2.2.2.2.2.2.2.2.2.2.2.2.2.2.2.2.2.2.2.2.2.2.2.2.2.2.2.1 d.2.2.2.2.2.2.2.2.2.2.2.2.2.2.2.2.2.2.2.2.2.2.2.2.2.2.2.2.2.2.2.2.2.1 d.2.2.2.2.2.2.2.2.2.2.2.2.2.2.2.2.2.2.2.2.2.2.2.2.2.2.2.2.2.2.2.2.2.2.1 d.2.2.2.2.2.2.2.2.2.2.2.2.2.2.2.2.2.2.2.2.2.2.2.2.2.2.2.2.2.2.2.2.2.2.2.1 d.2.2.2.2.2.2.2.2.2.2.2.2.2.2.2.2.2.2.2.2.2.2.2.2.2.2.2.2.2.2.2.2.2.2.2.2.1 d.2.2.2.2.2.2.2.2.2.2.2.2.2.2.2.2.2.2.2.2.2.2.2.2.2.2.2.2.2.2.2.2.2.2.2.2.2.1 d.2.2.2.2.2.2.2.2.2.2.2.2.2.2.2.2.2.2.2.2.2.2.2.2.2.2.2.2.2.2.2.2.2.2.2.2.2.2.1 d.2.2.2.2.2.2.2.2.2.2.2.2.2.2.2.2.2.2.2.2.2.2.2.2.2.2.2.2.2.2.2.2.2.2.2.2.2.2.2.1 d.2.2.2.2.2.2.2.2.2.2.2.2.2.2.2.2.2.2.2.2.2.2.2.2.2.2.2.2.2.2.2.2.2.2.2.2.2.2.2.2.1 d.2.2.2.2.2.2.2.2.2.2.2.2.2.2.2.2.2.2.2.2.2.2.2.2.2.2.2.2.2.2.2.2.2.2.2.2.2.2.2.2.2.1 d.2.2.2.2.2.2.2.2.2.2.2.2.2.2.2.2.2.2.2.2.2.2.2.2.2.2.2.2.2.2.2.2.2.2.2.2.2.2.2.2.2.2.1 d.2.2.2.2.2.2.2.2.2.2.2.2.2.2.2.2.2.2.2.2.2.2.2.2.2.2.2.2.2.2.2.2.2.2.2.2.2.2.2.2.2.2.2.1 d.2.2.2.2.2.2.2.2.2.2.2.2.2.2.2.2.2.2.2.2.2.2.2.2.2.2.2.2.2.2.2.2.2.2.2.2.2.2.2.2.2.2.2.2
noncomputable def tup9z : PySem.World × Nat × (List PySem.Value) × Nat × (List Int) × (List PySem.Str) × (PySem.ExcName → Option PySem.Value) × (PySem.Str → Option PySem.Value) × (PySem.Str → Option PySem.Value) × (List (PySem.Addr × PySem.Obj)) × Nat × Nat × (Option (List PySem.Code)) × PySem.Str × PySem.Scope × PySem.Addr × PySem.Value × (List (PySem.Str × PySem.Addr)) × PySem.Around × PySem.Heap × PySem.Addr × (PySem.Str → Option PySem.Value) × (PySem.Result → PySem.Shared → Prop) × PySem.Heap × PySem.Drawn × Nat × PySem.OsState × PySem.Heap × PySem.Addr × PySem.Heap × Nat × PySem.Addr × PySem.Heap × PySem.Heap × Nat × PySem.Heap × PySem.Addr × PySem.Heap × PySem.Addr × PySem.Tok × PySem.Tok × Nat × PySem.Obj × (Array PySem.DictEntry) × Nat := hen (World9, (0 : Nat), [], (0 : Nat), [], [], (fun _ => none), (fun _ => none), (fun _ => none), [], (0 : Nat), (0 : Nat), none, (default : Str), (default : Scope), (0 : Nat), (default : Value), [], ({} : Around), (default : Heap), (0 : Nat), (fun _ => none), (fun _ => (fun _ => True)), (default : Heap), ({} : Drawn), (0 : Nat), ({} : OsState), (default : Heap), (0 : Nat), (default : Heap), (0 : Nat), (0 : Nat), (default : Heap), (default : Heap), (0 : Nat), (default : Heap), (0 : Nat), (default : Heap), (0 : Nat), (0 : Nat), (0 : Nat), (0 : Nat), (default : Obj), #[], (0 : Nat)) G9
noncomputable def w : PySem.World := tup9z.1
noncomputable def l : Nat := tup9z.2.1
noncomputable def its : List PySem.Value := tup9z.2.2.1
noncomputable def c : Nat := tup9z.2.2.2.1
noncomputable def ns : List Int := tup9z.2.2.2.2.1
noncomputable def loose : List PySem.Str := tup9z.2.2.2.2.2.1
noncomputable def mean : PySem.ExcName → Option PySem.Value := tup9z.2.2.2.2.2.2.1
noncomputable def mg : PySem.Str → Option PySem.Value := tup9z.2.2.2.2.2.2.2.1
noncomputable def mb : PySem.Str → Option PySem.Value := tup9z.2.2.2.2.2.2.2.2.1
noncomputable def rest : List (PySem.Addr × PySem.Obj) := tup9z.2.2.2.2.2.2.2.2.2.1
noncomputable def dp : Nat := tup9z.2.2.2.2.2.2.2.2.2.2.1
noncomputable def un : Nat := tup9z.2.2.2.2.2.2.2.2.2.2.2.1
noncomputable def gd : Option (List PySem.Code) := tup9z.2.2.2.2.2.2.2.2.2.2.2.2.1
noncomputable def cn : PySem.Str := tup9z.2.2.2.2.2.2.2.2.2.2.2.2.2.1
noncomputable def cs : PySem.Scope := tup9z.2.2.2.2.2.2.2.2.2.2.2.2.2.2.1
noncomputable def a : PySem.Addr := tup9z.2.2.2.2.2.2.2.2.2.2.2.2.2.2.2.1
noncomputable def ccd : PySem.Value := tup9z.2.2.2.2.2.2.2.2.2.2.2.2.2.2.2.2.1
noncomputable def cl : List (PySem.Str × PySem.Addr) := tup9z.2.2.2.2.2.2.2.2.2.2.2.2.2.2.2.2.2.1
noncomputable def A₀ : PySem.Around := tup9z.2.2.2.2.2.2.2.2.2.2.2.2.2.2.2.2.2.2.1
noncomputable def h₀ : PySem.Heap := tup9z.2.2.2.2.2.2.2.2.2.2.2.2.2.2.2.2.2.2.2.1
noncomputable def L : PySem.Addr := tup9z.2.2.2.2.2.2.2.2.2.2.2.2.2.2.2.2.2.2.2.2.1
noncomputable def m : PySem.Str → Option PySem.Value := tup9z.2.2.2.2.2.2.2.2.2.2.2.2.2.2.2.2.2.2.2.2.2.1
noncomputable def R : PySem.Result → PySem.Shared → Prop := tup9z.2.2.2.2.2.2.2.2.2.2.2.2.2.2.2.2.2.2.2.2.2.2.1
noncomputable def sh : PySem.Heap := tup9z.2.2.2.2.2.2.2.2.2.2.2.2.2.2.2.2.2.2.2.2.2.2.2.1
noncomputable def sd : PySem.Drawn := tup9z.2.2.2.2.2.2.2.2.2.2.2.2.2.2.2.2.2.2.2.2.2.2.2.2.1
noncomputable def st9 : Nat := tup9z.2.2.2.2.2.2.2.2.2.2.2.2.2.2.2.2.2.2.2.2.2.2.2.2.2.1
noncomputable def so : PySem.OsState := tup9z.2.2.2.2.2.2.2.2.2.2.2.2.2.2.2.2.2.2.2.2.2.2.2.2.2.2.1
noncomputable def g : PySem.Heap := tup9z.2.2.2.2.2.2.2.2.2.2.2.2.2.2.2.2.2.2.2.2.2.2.2.2.2.2.2.1
noncomputable def L1 : PySem.Addr := tup9z.2.2.2.2.2.2.2.2.2.2.2.2.2.2.2.2.2.2.2.2.2.2.2.2.2.2.2.2.1
noncomputable def h₁ : PySem.Heap := tup9z.2.2.2.2.2.2.2.2.2.2.2.2.2.2.2.2.2.2.2.2.2.2.2.2.2.2.2.2.2.1
noncomputable def z1 : Nat := tup9z.2.2.2.2.2.2.2.2.2.2.2.2.2.2.2.2.2.2.2.2.2.2.2.2.2.2.2.2.2.2.1
noncomputable def tl : PySem.Addr := tup9z.2.2.2.2.2.2.2.2.2.2.2.2.2.2.2.2.2.2.2.2.2.2.2.2.2.2.2.2.2.2.2.1
noncomputable def z2 : PySem.Heap := tup9z.2.2.2.2.2.2.2.2.2.2.2.2.2.2.2.2.2.2.2.2.2.2.2.2.2.2.2.2.2.2.2.2.1
noncomputable def h2 : PySem.Heap := tup9z.2.2.2.2.2.2.2.2.2.2.2.2.2.2.2.2.2.2.2.2.2.2.2.2.2.2.2.2.2.2.2.2.2.1
noncomputable def tk : Nat := tup9z.2.2.2.2.2.2.2.2.2.2.2.2.2.2.2.2.2.2.2.2.2.2.2.2.2.2.2.2.2.2.2.2.2.2.1
noncomputable def g2 : PySem.Heap := tup9z.2.2.2.2.2.2.2.2.2.2.2.2.2.2.2.2.2.2.2.2.2.2.2.2.2.2.2.2.2.2.2.2.2.2.2.1
noncomputable def L2 : PySem.Addr := tup9z.2.2.2.2.2.2.2.2.2.2.2.2.2.2.2.2.2.2.2.2.2.2.2.2.2.2.2.2.2.2.2.2.2.2.2.2.1
noncomputable def h3 : PySem.Heap := tup9z.2.2.2.2.2.2.2.2.2.2.2.2.2.2.2.2.2.2.2.2.2.2.2.2.2.2.2.2.2.2.2.2.2.2.2.2.2.1
noncomputable def G : PySem.Addr := tup9z.2.2.2.2.2.2.2.2.2.2.2.2.2.2.2.2.2.2.2.2.2.2.2.2.2.2.2.2.2.2.2.2.2.2.2.2.2.2.1
noncomputable def t : PySem.Tok := tup9z.2.2.2.2.2.2.2.2.2.2.2.2.2.2.2.2.2.2.2.2.2.2.2.2.2.2.2.2.2.2.2.2.2.2.2.2.2.2.2.1
noncomputable def u : PySem.Tok := tup9z.2.2.2.2.2.2.2.2.2.2.2.2.2.2.2.2.2.2.2.2.2.2.2.2.2.2.2.2.2.2.2.2.2.2.2.2.2.2.2.2.1
noncomputable def tk3 : Nat := tup9z.2.2.2.2.2.2.2.2.2.2.2.2.2.2.2.2.2.2.2.2.2.2.2.2.2.2.2.2.2.2.2.2.2.2.2.2.2.2.2.2.2.1
noncomputable def oL : PySem.Obj := tup9z.2.2.2.2.2.2.2.2.2.2.2.2.2.2.2.2.2.2.2.2.2.2.2.2.2.2.2.2.2.2.2.2.2.2.2.2.2.2.2.2.2.2.1
noncomputable def es : Array PySem.DictEntry := tup9z.2.2.2.2.2.2.2.2.2.2.2.2.2.2.2.2.2.2.2.2.2.2.2.2.2.2.2.2.2.2.2.2.2.2.2.2.2.2.2.2.2.2.2.1
noncomputable def ep : Nat := tup9z.2.2.2.2.2.2.2.2.2.2.2.2.2.2.2.2.2.2.2.2.2.2.2.2.2.2.2.2.2.2.2.2.2.2.2.2.2.2.2.2.2.2.2.2
set_option maxRecDepth 100000 in
set_option maxHeartbeats 4000000 in
theorem main9 : seg9.1 w l its c ns loose mean mg mb rest dp un gd cn cs a ccd cl A₀ h₀ L m R sh sd st9 so g L1 h₁ z1 tl z2 h2 tk g2 L2 h3 G t u tk3 oL es ep := by
  delta seg9 segOf
  dsimp -zeta only
  intro hr hn0 hb9 hk9 hm X hd FG st X1 T1 ltl l3 lG F4 N4 hoL hod hok hof hL12 hl2 htl hgL fin hfin out hout hret hle hful
  refine told_loop g L1 L2 l G tl (listOf its.toArray c) (genObj 0 (Str.ofString "_grouping_intervals") (Str.ofString "_grouping_intervals") t u) rest out fin sd so ?_ out.length ?_
  · rintro n s' ⟨done, rem, ws, k, gs, h', tk', m', oL', ex, rfl, rfl, hd4, hw, rfl, F, N, hex, ready⟩
    have hl' : h'.get? l = some (listOf its.toArray c) := (N _ (.tail _ (.tail _ (.tail _ (List.mem_append_right _ hm))))).1
    refine pyNext_woken (g := 0) rfl (T1.nolimit.keeps F.keep) (by ktr_room) (gen_is N (.tail _ (.tail _ (.head _)))) rfl (ready _ F.keep hl' (N _ (.tail _ (.tail _ (.head _)))).1 (N _ (.tail _ (.head _))).1 (fun p hp => (N p (.tail _ (.tail _ (.tail _ (List.mem_append_left _ hp))))).1)) ?_ ?_
    · intro v s₁ gs' hbare hy
      obtain ⟨val, tv, h5, tk5, I, oL5, oI5, hval, rfl, rfl, kp, hG5, hL5, hI5, hGI5, hgo⟩ := hy
      have F5 : Fr g L1 h5 (mB [(Str.ofString "told", .ref tl)] m') := ⟨F.ns.at' fun o e => kp _ o hL12 e, fun b o e => kp b o (Nat.lt_of_lt_of_le (Heap.lt_size e) hgL) (F.keep b o e), F.above⟩
      have N5 : News g L1 h5 ((tl, listOf ws.toArray k) :: (L2, oL5) :: (G, genObj 0 (Str.ofString "_grouping_intervals") (Str.ofString "_grouping_intervals") t u) :: ([(I, oI5)] ++ rest)) := by
        intro p hp
        rcases List.mem_cons.mp hp with rfl | hp
        · exact ⟨kp _ _ htl (N _ (.head _)).1, (N _ (.head _)).2⟩
        rcases List.mem_cons.mp hp with rfl | hp
        · exact ⟨hL5, Nat.ne_of_gt hL12, Heap.get?_none_of_le hgL⟩
        rcases List.mem_cons.mp hp with rfl | hp
        · exact ⟨hG5, (N _ (.tail _ (.tail _ (.head _)))).2⟩
        rcases List.mem_cons.mp hp with rfl | hp
        · exact ⟨hI5, Nat.ne_of_gt (Nat.lt_trans hL12 (Nat.lt_trans lG hGI5)), Heap.get?_none_of_le (Nat.le_trans hgL (Nat.le_of_lt (Nat.lt_trans lG hGI5)))⟩
        · exact ⟨kp _ _ (l3 _ (.tail _ hp)) (N _ (.tail _ (.tail _ (.tail _ (List.mem_append_right _ hp))))).1, (N _ (.tail _ (.tail _ (.tail _ (List.mem_append_right _ hp))))).2⟩
      cases rem with
      | nil =>
        have hf' : fin = true := by
          cases fin with
          | true => rfl
          | false => have := hful rfl; rw [List.append_nil] at this; omega
        exact (hgo (.inr hf') ⟨h5, #[], sd, tk5, so⟩ F5.keep (N5 _ (.tail _ (.tail _ (.tail _ (.tail _ hm))))).1 hG5 hL5 hI5 : False).elim
      | cons r0 rem =>
        obtain rfl : val = r0 := by
          rw [List.length_append, List.length_cons, show done.length + (rem.length + 1) - 1 - (rem.length + 1 - 1) = done.length by omega, List.getElem?_append_right (Nat.le_refl _), Nat.sub_self] at hval
          exact (Option.some.inj hval).symm
        have hz : ws.length ≤ 4 := by rw [hw.length]; omega
        clear N F hval ready hex hl'
        dsimp only [mB] at F5
        generalize hRT : (L2, oL5) :: (G, genObj 0 (Str.ofString "_grouping_intervals") (Str.ofString "_grouping_intervals") t u) :: ([(I, oI5)] ++ rest) = RT at N5
        have hne : ∀ p ∈ RT, p.1 ≠ tl := by
          subst hRT
          refine List.forall_mem_cons.mpr ⟨Nat.ne_of_gt htl, List.forall_mem_cons.mpr ⟨Nat.ne_of_gt (Nat.lt_trans htl lG), List.forall_mem_cons.mpr ⟨Nat.ne_of_gt (Nat.lt_trans htl (Nat.lt_trans lG hGI5)), fun p hp => Nat.ne_of_lt (ltl p hp)⟩⟩⟩
        dsimp only
        k_with_none
        k_steps
        · rename_i h7 F7 tk7 N7 h4
          have h4' : done.length + 1 = 4 := by omega
          obtain rfl : rem = [] := by
            cases rem with
            | nil => rfl
            | cons _ _ => simp only [List.length_append, List.length_cons] at hle; omega
          obtain ⟨FL, NL⟩ := leave9 FG st F7 N7
          subst hRT
          refine hret tl (ws ++ [.int val tv]) (k + 1) h7 _ _ (PySem.W.X.allBare_of [gs'] (by simp [hbare])) (IntsAre.append hw (.cons _ _ .nil)) ltl FL (news_of NL fun p hp => ?_)
          rcases List.mem_cons.mp hp with rfl | hp
          · exact .head _
          · exact .tail _ (.tail _ (.tail _ (.tail _ hp)))
        · rename_i h7 F7 tk7 N7 h4
          have h4' : done.length + 1 ≠ 4 := by omega
          subst hRT
          refine ⟨rem.length, Nat.lt_succ_self _, done ++ [val], rem, ws ++ [.int val tv], k + 1, gs', _, _, _, oL5, [(I, oI5)], rfl, by rw [List.append_assoc]; rfl, by simp only [List.length_append, List.length_singleton]; omega, IntsAre.append hw (.cons _ _ .nil), rfl, fr_mB (ps := [(Str.ofString "told", .ref tl)]) F7 ⟨rfl, trivial⟩, N7, List.forall_mem_cons.mpr ⟨hGI5, List.forall_mem_nil _⟩, ?_⟩
          intro s'' hst hl hG hL hex'
          refine hgo ?_ s'' hst hl hG hL (hex' _ (.head _))
          cases fin with
          | true => exact .inr rfl
          | false =>
            have := hful rfl
            simp only [List.length_append, List.length_cons] at this
            exact .inl (by simp only [List.length_cons]; omega)
    · rintro s₁ ⟨hn, hf, h5, tk5, rfl, kp, hG5⟩ h6 up6
      obtain rfl : rem = [] := List.eq_nil_of_length_eq_zero hn
      have up : ∀ b o, b < L2 → h'.get? b = some o → h6.get? b = some o := fun b o hb e => up6 b o (kp b o hb e)
      have F6 : Fr g L1 h6 (mB [(Str.ofString "told", .ref tl)] m') := ⟨F.ns.at' fun o e => up _ o hL12 e, fun b o e => up b o (Nat.lt_of_lt_of_le (Heap.lt_size e) hgL) (F.keep b o e), F.above⟩
      have N6 : News g L1 h6 ((tl, listOf ws.toArray k) :: rest) := by
        intro p hp
        rcases List.mem_cons.mp hp with rfl | hp
        · exact ⟨up _ _ htl (N _ (.head _)).1, (N _ (.head _)).2⟩
        · exact ⟨up _ _ (l3 _ (.tail _ hp)) (N _ (.tail _ (.tail _ (.tail _ (List.mem_append_right _ hp))))).1, (N _ (.tail _ (.tail _ (.tail _ (List.mem_append_right _ hp))))).2⟩
      clear N F hex ready hl'
      dsimp only [mB] at F6
      dsimp only
      k_with_none
      k_steps
      obtain ⟨FL, NL⟩ := leave9 FG st F6 N6
      exact hret tl ws k h6 #[.finished] _ (PySem.W.X.allBare_of [.finished] rfl) (by rw [List.append_nil]; exact hw) ltl FL NL
  · refine ⟨[], out, [], 0, _, h3, tk3, _, oL, [], rfl, rfl, by decide, .nil, rfl, F4, ?_, List.forall_mem_nil _, ?_⟩
    · intro p hp
      rcases List.mem_cons.mp hp with rfl | hp
      · exact N4 _ (.tail _ (.head _))
      rcases List.mem_cons.mp hp with rfl | hp
      · exact ⟨hoL, Nat.ne_of_gt hL12, Heap.get?_none_of_le hgL⟩
      rcases List.mem_cons.mp hp with rfl | hp
      · exact N4 _ (.head _)
      · exact N4 _ (.tail _ (.tail _ hp))
    · intro s'' hst hl hG hL _
      rw [ktr_in1, ← hout, ← hfin]
      exact grp_fresh w _ _ gd _ _ L1 _ _ _ loose mean mg mb g L2 l G _ oL its c ns X1 T1 hgL hl2 lG hr hn0 hb9 hk9 s'' hst hl hG hL (fun h e => ⟨oL, es, ep, e, hod, hok, hof⟩)

set_option maxRecDepth 100000 in
set_option maxHeartbeats 4000000 in
theorem all9 : ∀ a0 a1 a2 a3 a4 a5 a6 a7 a8 a9 a10 a11 a12 a13 a14 a15 a16 a17 a18 a19 a20 a21 a22 a23 a24 a25 a26 a27 a28 a29 a30 a31 a32 a33 a34 a35 a36 a37 a38 a39 a40 a41 a42 a43 a44, seg9.1 a0 a1 a2 a3 a4 a5 a6 a7 a8 a9 a10 a11 a12 a13 a14 a15 a16 a17 a18 a19 a20 a21 a22 a23 a24 a25 a26 a27 a28 a29 a30 a31 a32 a33 a34 a35 a36 a37 a38 a39 a40 a41 a42 a43 a44 := fun a0 a1 a2 a3 a4 a5 a6 a7 a8 a9 a10 a11 a12 a13 a14 a15 a16 a17 a18 a19 a20 a21 a22 a23 a24 a25 a26 a27 a28 a29 a30 a31 a32 a33 a34 a35 a36 a37 a38 a39 a40 a41 a42 a43 a44 => hen_all (G := G9) main9 (a0, a1, a2, a3, a4, a5, a6, a7, a8, a9, a10, a11, a12, a13, a14, a15, a16, a17, a18, a19, a20, a21, a22, a23, a24, a25, a26, a27, a28, a29, a30, a31, a32, a33, a34, a35, a36, a37, a38, a39, a40, a41, a42, a43, a44)
end told1
theorem told1 (w : World) (l : Nat) (its : List Value) (c : Nat) (ns : List Int) (hr : IntsAre its ns) (hn0 : ∀ v r', ns = v :: r' → v ≠ 0) (hb9 : ∀ v ∈ ns, 0 ≤ v ∧ v ≤ 127) (hk9 : ns.length ≤ 4) (loose : List Str) (mean : ExcName → Option Value) (mg mb : Str → Option Value) (rest : List (Addr × Obj)) (dp un : Nat) (gd : Option (List Code)) (cn : Str) (cs : Scope) (a : Addr) (ccd : Value) (cl : List (Str × Addr)) (A₀ : Around) (h₀ : Heap) (L : Addr) (m : Str → Option Value) (s : Shared) (R : Result → Shared → Prop)
    (hm : (l, listOf its.toArray c) ∈ rest) (B : Below A₀ h₀ [] h₀) (F₀ : Fr h₀ L s.heap m) (X : (Mine.hd.heap_1 w.params).In h₀) (N₀ : News h₀ L s.heap rest) (T : Top PySem.W.topProg loose mean mg mb h₀) (hk : cs.kind = .function) (hd : dp + 4 < recursionLimit) (hu : un + 60 < cLine) (hgs : s.gens = #[])
    (hret : ∀ a ws k h' g' tk', AllBare g' → IntsAre ws (outsF none 4 ns) → (∀ q ∈ rest, q.1 < a) → Fr h₀ L h' m → News h₀ L h' ((a, listOf ws.toArray k) :: rest) → R (.ok (.ret (.ref a))) { s with heap := h', toks := tk', gens := g' }) : codeAny (model PySem.Challenge.rw_wn0028_01.prog w) (ktrTop dp un gd cn cs L a ccd cl []) (.call (.ref 98) ⟨[.ref l], []⟩) R s := told1.seg9.2 ⟨told1.all9⟩ w l its c ns hr hn0 hb9 hk9 loose mean mg mb rest dp un gd cn cs a ccd cl A₀ h₀ L m s R hm B F₀ X N₀ T hk hd hu hgs hret

end Mine
namespace Mine
theorem reset_told0 : True := by
  w_top off
  trivial
theorem allLt_mem {d : Nat} : ∀ {l : List (Addr × Obj)}, AllLt d l → ∀ p ∈ l, @LT.lt Nat _ p.1 d
  | [], _, _, h => nomatch h
  | q :: l, h, p, hp => by
    rcases List.mem_cons.mp hp with rfl | hp
    · exact h.1
    · exact allLt_mem h.2 p hp
namespace told0
set_option maxRecDepth 100000 in
set_option maxHeartbeats 4000000 in
noncomputable def seg9 : {p : PySem.World → PySem.Addr → (List PySem.Value) → Nat → PySem.Tok → (List PySem.Str) → (PySem.ExcName → Option PySem.Value) → (PySem.Str → Option PySem.Value) → (PySem.Str → Option PySem.Value) → (List (PySem.Addr × PySem.Obj)) → Nat → Nat → (Option (List PySem.Code)) → PySem.Str → PySem.Scope → PySem.Addr → PySem.Value → (List (PySem.Str × PySem.Addr)) → PySem.Heap → PySem.Addr → (PySem.Str → Option PySem.Value) → PySem.Shared → (PySem.Result → PySem.Shared → Prop) → PySem.Heap → PySem.Addr → PySem.Heap → Prop // Hid (∀ a0 a1 a2 a3 a4 a5 a6 a7 a8 a9 a10 a11 a12 a13 a14 a15 a16 a17 a18 a19 a20 a21 a22 a23 a24 a25, p a0 a1 a2 a3 a4 a5 a6 a7 a8 a9 a10 a11 a12 a13 a14 a15 a16 a17 a18 a19 a20 a21 a22 a23 a24 a25) → ∀ (w : World) (l : Addr) (its : List Value) (c : Nat) (t0 : Tok) (h0 : its[0]? = some (.int 0 t0)) (loose : List Str) (mean : ExcName → Option Value) (mg mb : Str → Option Value) (rest : List (Addr × Obj)) (dp un : Nat) (gd : Option (List Code)) (cn : Str) (cs : Scope) (a : Addr) (ccd : Value) (cl : List (Str × Addr)) (A₀ : Around) (h₀ : Heap) (L : Addr) (m : Str → Option Value) (s : Shared) (R : Result → Shared → Prop) (hm : (l, listOf its.toArray c) ∈ rest) (B : Below A₀ h₀ [] h₀) (F₀ : Fr h₀ L s.heap m) (X : (Mine.hd.heap_1 w.params).In h₀) (N₀ : News h₀ L s.heap rest) (T : Top PySem.W.topProg loose mean mg mb h₀) (hk : cs.kind = .function) (hd : dp + 4 < recursionLimit) (hu : un + 60 < cLine) (hgs : s.gens = #[]) (hret : ∀ a k tt h' tk', (∀ q ∈ rest, q.1 < a) → Fr h₀ L h' m → News h₀ L h' ((a, listOf #[.str (Str.ofString "invalid grouping") tt] k) :: rest) → R (.ok (.ret (.ref a))) { s with heap := h', toks := tk', gens := #[.finished] }), codeAny (model PySem.Challenge.rw_wn0028_01.prog w) (ktrTop dp un gd cn cs L a ccd cl []) (.call (.ref 98) ⟨[.ref l], []⟩) R s} := segOf (by
  intro ht9
  intro w l its c t0 h0 loose mean mg mb rest dp un gd cn cs a ccd cl A₀ h₀ L m s R hm B F₀ X N₀ T hk hd hu hgs hret
  k_with_none
  refine' code_defT ?k1 ?k2 ?k3 ?k4 ?k5 ?kA ?kF ?kK ?k6 ?k7 ?k8 ?k9 ?kB ?_ ?c5 ?c2 ?c3 ?c4
  case kA => exact rfl
  case kF => exact rfl
  case kK => assumption
  case k1 => k_asm
  case k2 => k_asm
  case k3 => k_asm
  case k4 => k_asm
  case k5 => k_asm
  case k6 => k_is
  case k7 => k_is
  case k8 => ktr_room
  case k9 => exact BindsTo.of_eq rfl
  case c5 => decide
  case kB => exact locs rfl
  case c2 => exact rfl
  case c3 => exact rfl
  case c4 => exact rfl
  intro g L1 h₁ FG F1 N1 B1 st l1 X1 T1
  clear A₀ B F₀ N₀ hk l1
  revert h0 hm X T hd hu hgs hret FG F1 N1 B1 st X1 T1
  exact ht9.out w l its c t0 loose mean mg mb rest dp un gd cn cs a ccd cl h₀ L m s R g L1 h₁
)
noncomputable def G9 (d : PySem.World × PySem.Addr × (List PySem.Value) × Nat × PySem.Tok × (List PySem.Str) × (PySem.ExcName → Option PySem.Value) × (PySem.Str → Option PySem.Value) × (PySem.Str → Option PySem.Value) × (List (PySem.Addr × PySem.Obj)) × Nat × Nat × (Option (List PySem.Code)) × PySem.Str × PySem.Scope × PySem.Addr × PySem.Value × (List (PySem.Str × PySem.Addr)) × PySem.Heap × PySem.Addr × (PySem.Str → Option PySem.Value) × PySem.Shared × (PySem.Result → PySem.Shared → Prop) × PySem.Heap × PySem.Addr × PySem.Heap) : Prop := seg9.1 d.1 d.2.1 d.2.2.1 d.2.2.2.1 d.2.2.2.2.1 d.2.2.2.2.2.1 d.2.2.2.2.2.2.1 d.2.2.2.2.2.2.2.1 d.2.2.2.2.2.2.2.2.1 d.2.2.2.2.2.2.2.2.2.1 d.2.2.2.2.2.2.2.2.2.2.1 d.2.2.2.2.2.2.2.2.2.2.2.1 d.2.2.2.2.2.2.2.2.2.2.2.2.1 d.2.2.2.2.2.2.2.2.2.2.2.2.2.1 d.2.2.2.2.2.2.2.2.2.2.2.2.2.2.1 d.2.2.2.2.2.2.2.2.2.2.2.2.2.2.2.1 d.2.2.2.2.2.2.2.2.2.2.2.2.2.2.2.2.1 d.2.2.2.2.2.2.2.2.2.2.2.2.2.2.2.2.2.1 d.2.2.2.2.2.2.2.2.2.2.2.2.2.2.2.2.2.2.1 d.2.2.2.2.2.2.2.2.2.2.2.2.2.2.2.2.2.2.2.1 d.2.2.2.2.2.2.2.2.2.2.2.2.2.2.2.2.2.2.2.2.1 d.2.2.2.2.2.2.2.2.2.2.2.2.2.2.2.2.2.2.2.2.2.1 d.2.2.2.2.2.2.2.2.2.2.2.2.2.2.2.2.2.2.2.2.2.2.1 d.2.2.2.2.2.2.2.2.2.2.2.2.2.2.2.2.2.2.2.2.2.2.2.1 d.2.2.2.2.2.2.2.2.2.2.2.2.2.2.2.2.2.2.2.2.2.2.2.2.1 d.2.2.2.2.2.2.2.2.2.2.2.2.2.2.2.2.2.2.2.2.2.2.2.2.2
noncomputable def tup9z : PySem.World × PySem.Addr × (List PySem.Value) × Nat × PySem.Tok × (List PySem.Str) × (PySem.ExcName → Option PySem.Value) × (PySem.Str → Option PySem.Value) × (PySem.Str → Option PySem.Value) × (List (PySem.Addr × PySem.Obj)) × Nat × Nat × (Option (List PySem.Code)) × PySem.Str × PySem.Scope × PySem.Addr × PySem.Value × (List (PySem.Str × PySem.Addr)) × PySem.Heap × PySem.Addr × (PySem.Str → Option PySem.Value) × PySem.Shared × (PySem.Result → PySem.Shared → Prop) × PySem.Heap × PySem.Addr × PySem.Heap := hen (World9, (0 : Nat), [], (0 : Nat), (0 : Nat), [], (fun _ => none), (fun _ => none), (fun _ => none), [], (0 : Nat), (0 : Nat), none, (default : Str), (default : Scope), (0 : Nat), (default : Value), [], (default : Heap), (0 : Nat), (fun _ => none), ({} : Shared), (fun _ => (fun _ => True)), (default : Heap), (0 : Nat), (default : Heap)) G9
noncomputable def w : PySem.World := tup9z.1
noncomputable def l : PySem.Addr := tup9z.2.1
noncomputable def its : List PySem.Value := tup9z.2.2.1
noncomputable def c : Nat := tup9z.2.2.2.1
noncomputable def t0 : PySem.Tok := tup9z.2.2.2.2.1
noncomputable def loose : List PySem.Str := tup9z.2.2.2.2.2.1
noncomputable def mean : PySem.ExcName → Option PySem.Value := tup9z.2.2.2.2.2.2.1
noncomputable def mg : PySem.Str → Option PySem.Value := tup9z.2.2.2.2.2.2.2.1
noncomputable def mb : PySem.Str → Option PySem.Value := tup9z.2.2.2.2.2.2.2.2.1
noncomputable def rest : List (PySem.Addr × PySem.Obj) := tup9z.2.2.2.2.2.2.2.2.2.1
noncomputable def dp : Nat := tup9z.2.2.2.2.2.2.2.2.2.2.1
noncomputable def un : Nat := tup9z.2.2.2.2.2.2.2.2.2.2.2.1
noncomputable def gd : Option (List PySem.Code) := tup9z.2.2.2.2.2.2.2.2.2.2.2.2.1
noncomputable def cn : PySem.Str := tup9z.2.2.2.2.2.2.2.2.2.2.2.2.2.1
noncomputable def cs : PySem.Scope := tup9z.2.2.2.2.2.2.2.2.2.2.2.2.2.2.1
noncomputable def a : PySem.Addr := tup9z.2.2.2.2.2.2.2.2.2.2.2.2.2.2.2.1
noncomputable def ccd : PySem.Value := tup9z.2.2.2.2.2.2.2.2.2.2.2.2.2.2.2.2.1
noncomputable def cl : List (PySem.Str × PySem.Addr) := tup9z.2.2.2.2.2.2.2.2.2.2.2.2.2.2.2.2.2.1
noncomputable def h₀ : PySem.Heap := tup9z.2.2.2.2.2.2.2.2.2.2.2.2.2.2.2.2.2.2.1
noncomputable def L : PySem.Addr := tup9z.2.2.2.2.2.2.2.2.2.2.2.2.2.2.2.2.2.2.2.1
noncomputable def m : PySem.Str → Option PySem.Value := tup9z.2.2.2.2.2.2.2.2.2.2.2.2.2.2.2.2.2.2.2.2.1
noncomputable def s : PySem.Shared := tup9z.2.2.2.2.2.2.2.2.2.2.2.2.2.2.2.2.2.2.2.2.2.1
noncomputable def R : PySem.Result → PySem.Shared → Prop := tup9z.2.2.2.2.2.2.2.2.2.2.2.2.2.2.2.2.2.2.2.2.2.2.1
noncomputable def g : PySem.Heap := tup9z.2.2.2.2.2.2.2.2.2.2.2.2.2.2.2.2.2.2.2.2.2.2.2.1
noncomputable def L1 : PySem.Addr := tup9z.2.2.2.2.2.2.2.2.2.2.2.2.2.2.2.2.2.2.2.2.2.2.2.2.1
noncomputable def h₁ : PySem.Heap := tup9z.2.2.2.2.2.2.2.2.2.2.2.2.2.2.2.2.2.2.2.2.2.2.2.2.2
set_option maxRecDepth 100000 in
set_option maxHeartbeats 4000000 in
theorem main9 : seg9.1 w l its c t0 loose mean mg mb rest dp un gd cn cs a ccd cl h₀ L m s R g L1 h₁ := by
  delta seg9 segOf
  dsimp -zeta only
  intro h0 hm X T hd hu hgs hret FG F1 N1 B1 st X1 T1
  k_with "exec For Name Call cons nil" => refine stop_in ?_
  k_steps
  refine stop_out ?_
  rename_i tl h2 F2 N2
  refine wpAny_For ?_
  k_with "call ref cons nil" => refine stop_in ?_
  k_steps
  refine stop_out ?_
  k_with_none
  refine wpAny_call ?_
  refine' code_gen ?k1 ?k2 ?k3 ?k4 ?k5 ?kA ?kF ?kK ?k6 ?k7 ?k8 ?k9 ?kB ?_ ?c5 ?c2 ?c3 ?c4
  case kA => exact rfl
  case kF => exact rfl
  case kK => exact rfl
  case k1 => exact B1
  case k2 => exact F2
  case k3 => exact X1
  case k4 => exact N2
  case k5 => exact T1
  case k6 => k_is
  case k7 => k_is
  case k8 => ktr_room
  case k9 => exact fun _ => BindsTo.of_eq rfl
  case c5 => decide
  case kB => exact locs rfl
  case c2 => exact rfl
  case c3 => exact rfl
  case c4 => exact rfl
  intro g2 L2 h3 G t u tk3 FG2 F3 N3 B3 st3 l3 lG F4 N4 X3 T3
  dsimp only
  refine wpAny_pyIter_gen (gen_is N4 (.head _)) ?_
  refine for_raises ?_
  refine pyNext_raises (T3.nolimit.keeps F3.keep) (by ktr_room) (gen_is N4 (.head _)) gen_last ?_
  rw [over_deeper, ktr_in1]
  have B5 : Below (ktrTop (dp + 1) (un + 3 + 1) gd (Str.ofString "_law_told") _ L1 98 (.ref 97) [] [envX cn cs L a ccd cl]) h₀ _ g2 := ⟨B3.stack, B3.stays, B3.frames⟩
  k_with "exec For Name Name cons nil" => refine stop_in ?_
  k_steps
  refine stop_out ?_
  rename_i h5 F5 N5
  k_with_none
  refine wpAny_For ?_
  k_with "pyIter ref" => refine stop_in ?_
  k_steps
  refine stop_out ?_
  refine for_list_first F5 N5 (List.mem_cons_of_mem _ (List.mem_cons_of_mem _ hm)) h0 rfl ?_
  intro h6 tk6 F6 N6
  clear F5
  k_with_none
  k_with "exec Raise some none" => refine stop_in ?_
  k_steps
  refine stop_out ?_
  refine Raise_madeB PySem.F.excCall_ValueError PySem.F.excRaise_ValueError rfl ?_
  k_steps
  rename_i h7 e7 M7
  refine raise_loop B5 (Heap.MadeExc.of M7) F6 N6 (Q := fun x _ s₂ => GenLeftBy G _ _ x s₂) ?_
  intro h8 t8 R8 U8
  obtain ⟨ob8, hob8, hcl8⟩ : ∃ ob, h8.get? _ = some ob ∧ ob.cls = _ := R8.toK.1.choose_spec.2.2.1.there
  have NG := R8.1.choose_spec.2.2.1 _ (.head _)
  refine ⟨_, ob8, _, rfl, hob8, hcl8, ?kS, ⟨_, _, _, R8.1.choose_spec.2.2.2.1.1 _ _ NG.1, rfl, rfl, rfl⟩, ?_⟩
  case kS => rw [isSubtype_type]; kernel_rfl
  refine' catch_loop (T' := "ValueError") ?R ?F ?K ?U ?XB ?TB ?D ?ex PyProof.Rows.Boot.«ValueError» ?hn PySem.F.isExc_ValueError PySem.F.notTuple_ValueError ?hs ?_ ?w1 ?w2 ?w3 ?w4
  case R => exact R8
  case F => exact FG2
  case K => exact B1
  case U => exact U8
  case XB => exact X
  case TB => exact T
  case D =>
    intro b hb
    obtain ⟨oL, es, ep, hL, hLd, _⟩ := FG.ns
    obtain rfl := List.mem_singleton.mp hb
    exact ⟨oL, es, ep, hL, hLd⟩
  case ex => k_is
  case hn => decide
  case hs => kts_sub
  case w1 => exact rfl
  case w2 => exact rfl
  case w3 => exact rfl
  case w4 => decide
  intro h9 g9 n9 tk9 T9 F9 N9 G9 M9 B9 X9 TT9
  clear F6 N6 F4 N4
  k_with_none
  k_steps
  rename_i le h10 F10 nw10 l10 h11 v11 F11 N11
  obtain ⟨FL, NL⟩ := leave_turn FG st T9 F11 N11
  refine Eq.mp (congrArg (R _) ?_) (hret le 0 tk h11 (tk9 + 1) (fun q hq => ?_) FL (news_of NL ?_))
  · simp only [Shared.setGen, hgs]
    rfl
  · exact allLt_mem l10.2.2 q hq
  · intro q hq
    rcases List.mem_cons.mp hq with rfl | hq
    · exact .head _
    · exact List.mem_cons_of_mem _ (List.mem_cons_of_mem _ (List.mem_cons_of_mem _ hq))

set_option maxRecDepth 100000 in
set_option maxHeartbeats 4000000 in
theorem all9 : ∀ a0 a1 a2 a3 a4 a5 a6 a7 a8 a9 a10 a11 a12 a13 a14 a15 a16 a17 a18 a19 a20 a21 a22 a23 a24 a25, seg9.1 a0 a1 a2 a3 a4 a5 a6 a7 a8 a9 a10 a11 a12 a13 a14 a15 a16 a17 a18 a19 a20 a21 a22 a23 a24 a25 := fun a0 a1 a2 a3 a4 a5 a6 a7 a8 a9 a10 a11 a12 a13 a14 a15 a16 a17 a18 a19 a20 a21 a22 a23 a24 a25 => hen_all (G := G9) main9 (a0, a1, a2, a3, a4, a5, a6, a7, a8, a9, a10, a11, a12, a13, a14, a15, a16, a17, a18, a19, a20, a21, a22, a23, a24, a25)
end told0
theorem told0 (w : World) (l : Addr) (its : List Value) (c : Nat) (t0 : Tok) (h0 : its[0]? = some (.int 0 t0)) (loose : List Str) (mean : ExcName → Option Value) (mg mb : Str → Option Value) (rest : List (Addr × Obj)) (dp un : Nat) (gd : Option (List Code)) (cn : Str) (cs : Scope) (a : Addr) (ccd : Value) (cl : List (Str × Addr)) (A₀ : Around) (h₀ : Heap) (L : Addr) (m : Str → Option Value) (s : Shared) (R : Result → Shared → Prop)
    (hm : (l, listOf its.toArray c) ∈ rest) (B : Below A₀ h₀ [] h₀) (F₀ : Fr h₀ L s.heap m) (X : (Mine.hd.heap_1 w.params).In h₀) (N₀ : News h₀ L s.heap rest) (T : Top PySem.W.topProg loose mean mg mb h₀) (hk : cs.kind = .function) (hd : dp + 4 < recursionLimit) (hu : un + 60 < cLine) (hgs : s.gens = #[])
    (hret : ∀ a k tt h' tk', (∀ q ∈ rest, q.1 < a) → Fr h₀ L h' m → News h₀ L h' ((a, listOf #[.str (Str.ofString "invalid grouping") tt] k) :: rest) → R (.ok (.ret (.ref a))) { s with heap := h', toks := tk', gens := #[.finished] }) : codeAny (model PySem.Challenge.rw_wn0028_01.prog w) (ktrTop dp un gd cn cs L a ccd cl []) (.call (.ref 98) ⟨[.ref l], []⟩) R s := told0.seg9.2 ⟨told0.all9⟩ w l its c t0 h0 loose mean mg mb rest dp un gd cn cs a ccd cl A₀ h₀ L m s R hm B F₀ X N₀ T hk hd hu hgs hret

end Mine
namespace Mine
theorem reset_told : True := by
  w_top off
  trivial
/-- what the ruler's told list holds -/
noncomputable def ToldIs (x y z : Int) (ws : List Value) : Prop :=
  (x = 127 → ws = []) ∧ (x = 0 → ∃ t, ws = [.str (Str.ofString "invalid grouping") t]) ∧
  (x ≠ 127 → x ≠ 0 → (y = 127 → IntsAre ws [x]) ∧ (y = 0 → IntsAre ws [x, x, x, x]) ∧
    (y ≠ 127 → y ≠ 0 → (z = 127 → IntsAre ws [x, y]) ∧ (z = 0 → IntsAre ws [x, y, y, y]) ∧ (z ≠ 127 → z ≠ 0 → IntsAre ws [x, y, z])))
theorem told_is {x y z : Int} {ws : List Value} (hx0 : x ≠ 0) (h : IntsAre ws (outsF none 4 [x, y, z])) : ToldIs x y z ws := by
  refine ⟨fun h1 => ?_, fun h1 => absurd h1 hx0, fun h1 _ => ⟨fun h2 => ?_, fun h2 => ?_, fun h2 h3 => ⟨fun h4 => ?_, fun h4 => ?_, fun h4 h5 => ?_⟩⟩⟩
  · rw [outsF, if_pos h1] at h; cases h; rfl
  · rw [outsF, if_neg h1, if_neg hx0, outsF, if_pos h2] at h; exact h
  · rw [outsF, if_neg h1, if_neg hx0, outsF, if_neg (by omega), if_pos h2] at h; exact h
  · rw [outsF, if_neg h1, if_neg hx0, outsF, if_neg h2, if_neg h3, outsF, if_pos h4] at h; exact h
  · rw [outsF, if_neg h1, if_neg hx0, outsF, if_neg h2, if_neg h3, outsF, if_neg (by omega), if_pos h4] at h; exact h
  · rw [outsF, if_neg h1, if_neg hx0, outsF, if_neg h2, if_neg h3, outsF, if_neg h4, if_neg h5] at h; exact h
set_option maxRecDepth 100000 in
set_option maxHeartbeats 8000000 in
/-- _law_told, called by the law itself -/
theorem told (w : World) (cn : Str) (cs : Scope) (hk : cs.kind = .function) (L fa : Addr) (ccd : Value) (c1 c2 c3 : Addr) (n1 n2 n3 : Str) (loose : List Str) (mean : ExcName → Option Value) (mg mb : Str → Option Value) (rest : List (Addr × Obj)) (h₀ : Heap) (m : Str → Option Value) (s : Shared) (Q E : Value → Shared → Prop)
    (l : Addr) (x y z : Int) (t1 t2 t3 : Tok) (c : Nat) (hx : 0 ≤ x ∧ x ≤ 127) (hy : 0 ≤ y ∧ y ≤ 127) (hz : 0 ≤ z ∧ z ≤ 127)
    (hm : (l, listOf #[.int x t1, .int y t2, .int z t3] c) ∈ rest) (F : Fr h₀ L s.heap m) (X : (Mine.hd.heap_1 w.params).In h₀) (N : News h₀ L s.heap rest) (T : Top PySem.W.topProg loose mean mg mb h₀) (hgs : s.gens = #[])
    (hret : ∀ a ws k h' g' tk', AllBare g' → ToldIs x y z ws.toList → (∀ q ∈ rest, @Ne Nat q.1 a) → Fr h₀ L h' m → News h₀ L h' ((a, listOf ws k) :: rest) → Q (.ref a) ⟨h', g', s.drawn, tk', s.os⟩) :
    wpAny (model PySem.Challenge.rw_wn0028_01.prog w) (callerA.deeper (envX cn cs L fa ccd [(n1, c1), (n2, c2), (n3, c3)])) (call (.ref 98) [.ref l]) Q E s := by
  by_cases hx0 : x = 0
  · subst hx0
    refine wpAny_call (told0 w l [.int 0 t1, .int y t2, .int z t3] c t1 rfl loose mean mg mb rest (1 + claimMargin + 1) (4 + 3) (some []) cn cs fa ccd [(n1, c1), (n2, c2), (n3, c3)] callerA h₀ L m s _ hm (below_caller h₀) F X N T hk (by decide +kernel) (by decide +kernel) hgs ?_)
    intro a k tt h' tk' lt F' N'
    exact hret a _ k h' _ tk' (PySem.W.X.allBare_of _ rfl) ⟨fun e => by omega, fun _ => ⟨tt, rfl⟩, fun _ e => absurd rfl e⟩ (fun q hq => Nat.ne_of_lt (lt q hq)) F' N'
  · refine wpAny_call (told1 w l [.int x t1, .int y t2, .int z t3] c [x, y, z] (.cons _ _ (.cons _ _ (.cons _ _ .nil))) (fun v r' e => by injection e with e1 _; rw [← e1]; exact hx0)
      (fun v hv => by simp only [List.mem_cons, List.not_mem_nil, or_false] at hv; omega) (Nat.le_succ 3) loose mean mg mb rest (1 + claimMargin + 1) (4 + 3) (some []) cn cs fa ccd [(n1, c1), (n2, c2), (n3, c3)] callerA h₀ L m s _ hm (below_caller h₀) F X N T hk (by decide +kernel) (by decide +kernel) hgs ?_)
    intro a ws k h' g' tk' hbg hws lt F' N'
    exact hret a _ k h' g' tk' hbg (told_is hx0 hws) (fun q hq => Nat.ne_of_lt (lt q hq)) F' N'

end Mine
namespace Mine
theorem reset_lawS : True := by
  w_top off
  trivial
set_option maxRecDepth 100000
/-- the law's own text -/
noncomputable def lawDef : Option (List Stmt × Scope) := match (PySem.Challenge.rw_wn0028_01.prog.main.body.getLast? : Option Stmt) with
  | some (.FunctionDef _ _ b _ _ _ s _ _ _) => some (b, s)
  | _ => none
noncomputable def lawB' : List Stmt := match lawDef with | some (b, _) => b | none => []
noncomputable def lawS' : Scope := match lawDef with | some (_, s) => s | none => default
noncomputable def lawSs : { x : Scope // lawS' = x } := by
  refine ⟨?_, ?h⟩; rotate_left
  conv => lhs; whnf
noncomputable def lawBs : { x : List Stmt // lawB' = x } := by
  refine ⟨?_, ?h⟩; rotate_left
  conv => lhs; whnf
noncomputable def lawT' : Expr := match (lawBs.1[14]? : Option Stmt) with | some (.Assign [t] _ _) => t | _ => .Tuple [] 0 default
noncomputable def lawTs : { x : Expr // lawT' = x } := by
  refine ⟨?_, ?h⟩; rotate_left
  conv => lhs; whnf

end Mine
namespace Mine
theorem reset_totals : True := by
  w_top off
  trivial
set_option maxRecDepth 100000 in
set_option maxHeartbeats 4000000 in
theorem totals (w : World) (l : Addr) (vs : List Value) (ns : List Int) (hI : IntsAre vs ns) (hz : ns.length ≤ 63) :
   Ctr (fun h => h.IsList l vs.toArray) PySem.Challenge.rw_wn0028_01.prog w (Mine.hd.heap_1 w.params) PySem.W.topProg 2 30 84 [.ref l] [] (fun v led tl => led = [] ∧ ∃ f ws k a b c, v = .ref f ∧ tl = [(f, listOf ws.toArray k)] ∧ IntsAre ws [((a : Nat) : Int), ((b : Nat) : Int), ((c : Nat) : Int)] ∧ c < 10 ^ 9) := by
   intro loose mean mg mb rest dp un gd cn cs aa ccd cl outer A₀ base h₀ L m s R hpre hoff B F₀ X N₀ T hk hd hu hret
   simp only [List.nil_append] at N₀
   k_with_none
   k_with "exec For Tuple Call" => refine stop_in ?_
   k_with "exec For Tuple Call cons nil" => refine stop_in ?_
   k_with "call type:enumerate cons nil" => refine stop_in ?_
   k_dflt cell_enter
   have hl := stays_list (Fr.keep ‹Fr h₀ _ _ _›) hpre
   k_steps
   refine stop_out ?_
   refine wpAny_For ?_
   k_steps
   refine stop_out ?_
   rename IntsAre _ (List.take _ _) => hI'
   refine enum_list1 (σ := (Nat × Tok × Nat × Tok × Nat × Tok) × Nat) (env := envOf _ _ _ _ _) rfl (by k_asm) (fun y => [(Str.ofString "totals", .ref _)]) (fun y => listOf [Value.int (y.1.1 : Int) y.1.2.1, .int (y.1.2.2.1 : Int) y.1.2.2.2.1, .int (y.1.2.2.2.2.1 : Int) y.1.2.2.2.2.2].toArray y.2) (fun i y => y.1.2.2.2.2.1 ≤ 1567028 + 1000000 * i) ((17, _, 61, _, 1567028, _), _) (by k_asm) (List.forall_mem_cons.mpr ⟨by (show @Ne Nat _ _); omega, by k_all⟩) ⟨rfl, trivial⟩ (by show 1567028 ≤ 1567028 + 1000000 * 0; decide) ?_ ?_
   · intro i v y t h tk m₁ R2 hv hok hne hR F N
     obtain ⟨⟨a, ta, b, tb, c, tc⟩, k⟩ := y
     obtain ⟨z, tz, rfl, hz9⟩ := ints_at hI' hv
     have hi60 : i < 60 := by
       have := (List.getElem?_eq_some_iff.mp hz9).1
       simp at this; omega
     obtain ⟨q, hq, hq6⟩ : ∃ q : Nat, z.fmod 1000000 = (q : Int) ∧ q < 1000000 := by
       refine ⟨(z.fmod 1000000).toNat, ?_, ?_⟩ <;> (rw [Int.fmod_eq_emod_of_nonneg _ (by decide)]; omega)
     have hm : (i : Int).fmod 3 = 0 ∨ (i : Int).fmod 3 = 1 ∨ (i : Int).fmod 3 = 2 := by
       rw [Int.fmod_eq_emod_of_nonneg _ (by decide)]; omega
     dsimp only [mB] at *
     k_with "binaryOp Mod int int" => (refine mod_int' (by decide) ?_; first | rw [hm] | rw [hq])
     rcases hm with hm | hm | hm
     · k_steps
       refine ListEnd1.mk1 ((a + q, _, b, _, c, _), _) (by k_asm) (by k_asm) (by (first | rw [show z.fmod 1000000 = (q : Int) from hq] | rw [show z.fmod ((10 : Int) ^ ((6 : Int)).toNat) = (q : Int) from hq] | rw [show z.fmod ((10 : Int) ^ 6) = (q : Int) from hq]); (first | exact rfl | (rw [hm]; exact rfl))) (by exact ⟨rfl, trivial⟩) (by (try simp only at hok); (try simp only); omega)
     · k_steps
       refine ListEnd1.mk1 ((a, _, b + q, _, c, _), _) (by k_asm) (by k_asm) (by (first | rw [show z.fmod 1000000 = (q : Int) from hq] | rw [show z.fmod ((10 : Int) ^ ((6 : Int)).toNat) = (q : Int) from hq] | rw [show z.fmod ((10 : Int) ^ 6) = (q : Int) from hq]); (first | exact rfl | (rw [hm]; exact rfl))) (by exact ⟨rfl, trivial⟩) (by (try simp only at hok); (try simp only); omega)
     · k_steps
       refine ListEnd1.mk1 ((a, _, b, _, c + q, _), _) (by k_asm) (by k_asm) (by (first | rw [show z.fmod 1000000 = (q : Int) from hq] | rw [show z.fmod ((10 : Int) ^ ((6 : Int)).toNat) = (q : Int) from hq] | rw [show z.fmod ((10 : Int) ^ 6) = (q : Int) from hq]); (first | exact rfl | (rw [hm]; exact rfl))) (by exact ⟨rfl, trivial⟩) (by (try simp only at hok); (try simp only); omega)
   · intro h' tk m₁ y hok F N
     obtain ⟨⟨a, ta, b, tb, c, tc⟩, k⟩ := y
     have hlen := IntsAre.length hI'
     simp only [List.length_take] at hlen
     dsimp only [mB] at *
     k_steps
     refine hret _ [] [_] _ _ ⟨rfl, _, _, _, a, b, c, rfl, rfl, .cons _ _ (.cons _ _ (.cons _ _ .nil)), by omega⟩ (fun q hq p hp => ?_) (by k_asm) (by k_asm)
     rw [List.mem_singleton.mp hp]
     exact (by assumption : ∀ p ∈ rest, p.1 < _) q hq

end Mine
namespace Mine
theorem reset_ruler : True := by
  w_top off
  trivial
noncomputable def firstF (n : Nat) : Nat := ([1, 2, 3, 1, 2, 3, 1, 0] : List Nat).getD (n % 8) 0
noncomputable def moreF (k : Nat) : Nat := ([0, 1, 2, 127] : List Nat).getD (k % 4) 0
noncomputable def rulerF (n : Nat) : List Nat := [firstF n, moreF (n / 8), moreF (n / 32)]
theorem first_int (n : Nat) : ([1, 2, 3, 1, 2, 3, 1, 0] : List Int).getD ((n : Int).fmod 8).toNat 0 = (firstF n : Int) := by
  have e : (n : Int).fmod 8 = ((n % 8 : Nat) : Int) := by rw [Int.fmod_eq_emod_of_nonneg _ (by decide)]; omega
  rw [e, Int.toNat_natCast]
  unfold firstF
  have : n % 8 < 8 := Nat.mod_lt _ (by decide)
  generalize n % 8 = k at this
  revert k; decide
theorem more_int (n d : Nat) : ([0, 1, 2, 127] : List Int).getD (((n : Int).fdiv (d : Int)).fmod 4).toNat 0 = (moreF (n / d) : Int) := by
  have e : ((n : Int).fdiv (d : Int)).fmod 4 = ((n / d % 4 : Nat) : Int) := by rw [Int.fdiv_eq_ediv_of_nonneg _ (by omega), Int.fmod_eq_emod_of_nonneg _ (by decide)]; simp
  rw [e, Int.toNat_natCast]
  unfold moreF
  have : n / d % 4 < 4 := Nat.mod_lt _ (by decide)
  generalize n / d % 4 = k at this
  revert k; decide
theorem ruler_ints (n : Nat) (t1 t2 t3 : Tok) : IntsAre [.int (([1, 2, 3, 1, 2, 3, 1, 0] : List Int).getD ((n : Int).fmod 8).toNat 0) t1, .int (([0, 1, 2, 127] : List Int).getD (((n : Int).fdiv 8).fmod 4).toNat 0) t2, .int (([0, 1, 2, 127] : List Int).getD (((n : Int).fdiv 32).fmod 4).toNat 0) t3] ((rulerF n).map fun (x : Nat) => (x : Int)) := by
  rw [first_int, show (([0, 1, 2, 127] : List Int).getD (((n : Int).fdiv 8).fmod 4).toNat 0) = (moreF (n / 8) : Int) from more_int n 8, show (([0, 1, 2, 127] : List Int).getD (((n : Int).fdiv 32).fmod 4).toNat 0) = (moreF (n / 32) : Int) from more_int n 32]
  exact .cons _ _ (.cons _ _ (.cons _ _ .nil))
set_option maxRecDepth 100000 in
set_option maxHeartbeats 4000000 in
theorem ruler (w : World) (n : Nat) (u : Tok) :
   CtrR PySem.Challenge.rw_wn0028_01.prog w (Mine.hd.heap_1 w.params) PySem.W.topProg 2 30 91 [.int (n : Int) u] [] (fun v tl => ∃ f ws k, v = .ref f ∧ tl = [(f, listOf ws.toArray k)] ∧ IntsAre ws ((rulerF n).map fun (x : Nat) => (x : Int))) := by
   intro loose mean mg mb rest dp un gd cn cs aa ccd cl outer A₀ base h₀ L m s R hled B F₀ X N₀ T hk hd hu hret
   k_with_none
   k_dflt cell_enter
   k_steps
   all_goals
     refine hret _ [_] _ _ ⟨_, [_, _, _], 0, rfl, rfl, ?_⟩ (fun q hq p hp => ?_) (by k_asm) (news_of (by k_asm) (by (repeat' first | exact List.forall_mem_nil _ | refine mem_cons_all ?_ ?_ | exact sub_refl | refine sub_tail ?_ | k_mem)))
     · exact ruler_ints n _ _ _
     · rw [List.mem_singleton.mp hp]; exact Nat.lt_trans ((by assumption : ∀ p ∈ rest, p.1 < _) q hq) (by first | assumption | (show @LT.lt Nat _ _ _; omega))

end Mine
namespace Mine
theorem reset_sizes : True := by
  w_top off
  trivial
noncomputable def sizesGo : List Nat → List Nat → List Nat
  | acc, [] => acc
  | acc, a :: r => if a = 127 then acc else if a = 0 then (acc ++ List.replicate 4 (acc.getLastD 0)).take 4 else sizesGo (acc ++ [a]) r
noncomputable def szVal (p : Nat × Tok) : Value := .int (p.1 : Int) p.2
namespace sizes
set_option maxRecDepth 100000 in
set_option maxHeartbeats 4000000 in
noncomputable def seg9 : {p : PySem.World → PySem.Addr → Nat → Nat → Nat → PySem.Tok → PySem.Tok → PySem.Tok → Nat → (List PySem.Str) → (PySem.ExcName → Option PySem.Value) → (PySem.Str → Option PySem.Value) → (PySem.Str → Option PySem.Value) → (List (PySem.Addr × PySem.Obj)) → Nat → Nat → (Option (List PySem.Code)) → PySem.Str → PySem.Scope → PySem.Addr → PySem.Value → (List (PySem.Str × PySem.Addr)) → (List PySem.Env) → PySem.Heap → PySem.Addr → (PySem.Str → Option PySem.Value) → PySem.Shared → (PySem.Result → PySem.Shared → Prop) → PySem.Heap → PySem.Addr → PySem.Addr → PySem.Heap → Nat → Prop // Hid (∀ a0 a1 a2 a3 a4 a5 a6 a7 a8 a9 a10 a11 a12 a13 a14 a15 a16 a17 a18 a19 a20 a21 a22 a23 a24 a25 a26 a27 a28 a29 a30 a31 a32, p a0 a1 a2 a3 a4 a5 a6 a7 a8 a9 a10 a11 a12 a13 a14 a15 a16 a17 a18 a19 a20 a21 a22 a23 a24 a25 a26 a27 a28 a29 a30 a31 a32) → ∀ (w : World) (l : Addr) (x y z : Nat) (tx ty tz : Tok) (c : Nat) (hx : x ≠ 127), CtrR PySem.Challenge.rw_wn0028_01.prog w (Mine.hd.heap_1 w.params) PySem.W.topProg 2 30 105 [.ref l] [(l, listOf [.int (x : Int) tx, .int (y : Int) ty, .int (z : Int) tz].toArray c)] (fun v tl => ∃ f, ∃ ws : List Value, ∃ k, v = .ref f ∧ tl = [(f, listOf ws.toArray k)] ∧ (x = 0 → ∃ t, ws = [.str (Str.ofString "invalid grouping") t]) ∧ (x ≠ 0 → IntsAre ws ((sizesGo [] [x, y, z]).map fun (a : Nat) => (a : Int))))} := segOf (by
   intro ht9
   intro w l x y z tx ty tz c hx
   intro loose mean mg mb rest dp un gd cn cs aa ccd cl outer A₀ base h₀ L m s R hled B F₀ X N₀ T hk hd hu hret
   have hm := hled _ (.head _)
   replace N₀ := news_of (l' := (l, listOf [.int (x : Int) tx, .int (y : Int) ty, .int (z : Int) tz].toArray c) :: rest) N₀ (List.forall_mem_cons.mpr ⟨hm, fun _ h => h⟩)
   k_with_none
   k_with "exec For Name Name cons nil" => refine stop_in ?_
   k_with "pyIter ref" => refine stop_in ?_
   k_dflt cell_enter
   k_steps
   · have h0 : x = 0 := by
       have h9 : [(x : Int), y, z].getD (Int.toNat 0) 0 = 0 := by assumption
       have h8 : (x : Int) = 0 := h9
       omega
     refine hret _ [_] _ _ ⟨_, [_], 0, rfl, rfl, fun _ => ⟨_, rfl⟩, fun h => absurd h0 h⟩ (fun q hq p hp => ?_) (by k_asm) (news_of (by k_asm) (by (repeat' first | exact List.forall_mem_nil _ | refine mem_cons_all ?_ ?_ | exact sub_refl | refine sub_tail ?_ | k_mem)))
     rw [List.mem_singleton.mp hp]
     have l9 : AllLt _ rest := And.right (by assumption)
     exact allLt_lt l9 q hq
   have h0 : x ≠ 0 := by
     have h9 : [(x : Int), y, z].getD (Int.toNat 0) 0 ≠ 0 := by assumption
     have h8 : (x : Int) ≠ 0 := h9
     omega
   refine stop_out ?_
   refine wpAny_For ?_
   k_steps
   refine stop_out ?_
   rename_i z1 z2 z3 y4 y5 y6 y7 z8 z9 y10 z11 z12 z13 y14 z15 y16 y17
   clear A₀ base hled B F₀ hk hd hu hm N₀ z3 y4 y5 y6 y7 z8 z9 z11 z13
   revert hx X T hret qk ek y10 y14 y16 y17 h0
   exact ht9.out w l x y z tx ty tz c loose mean mg mb rest dp un gd cn cs aa ccd cl outer h₀ L m s R z1 z2 z12 z15 tk
)
noncomputable def G9 (d : PySem.World × PySem.Addr × Nat × Nat × Nat × PySem.Tok × PySem.Tok × PySem.Tok × Nat × (List PySem.Str) × (PySem.ExcName → Option PySem.Value) × (PySem.Str → Option PySem.Value) × (PySem.Str → Option PySem.Value) × (List (PySem.Addr × PySem.Obj)) × Nat × Nat × (Option (List PySem.Code)) × PySem.Str × PySem.Scope × PySem.Addr × PySem.Value × (List (PySem.Str × PySem.Addr)) × (List PySem.Env) × PySem.Heap × PySem.Addr × (PySem.Str → Option PySem.Value) × PySem.Shared × (PySem.Result → PySem.Shared → Prop) × PySem.Heap × PySem.Addr × PySem.Addr × PySem.Heap × Nat) : Prop := seg9.1 d.1 d.2.1 d.2.2.1 d.2.2.2.1 d.2.2.2.2.1 d.2.2.2.2.2.1 d.2.2.2.2.2.2.1 d.2.2.2.2.2.2.2.1 d.2.2.2.2.2.2.2.2.1 d.2.2.2.2.2.2.2.2.2.1 d.2.2.2.2.2.2.2.2.2.2.1 d.2.2.2.2.2.2.2.2.2.2.2.1 d.2.2.2.2.2.2.2.2.2.2.2.2.1 d.2.2.2.2.2.2.2.2.2.2.2.2.2.1 d.2.2.2.2.2.2.2.2.2.2.2.2.2.2.1 d.2.2.2.2.2.2.2.2.2.2.2.2.2.2.2.1 d.2.2.2.2.2.2.2.2.2.2.2.2.2.2.2.2.1 d.2.2.2.2.2.2.2.2.2.2.2.2.2.2.2.2.2.1 d.2.2.2.2.2.2.2.2.2.2.2.2.2.2.2.2.2.2.1 d.2.2.2.2.2.2.2.2.2.2.2.2.2.2.2.2.2.2.2.1 d.2.2.2.2.2.2.2.2.2.2.2.2.2.2.2.2.2.2.2.2.1 d.2.2.2.2.2.2.2.2.2.2.2.2.2.2.2.2.2.2.2.2.2.1 d.2.2.2.2.2.2.2.2.2.2.2.2.2.2.2.2.2.2.2.2.2.2.1 d.2.2.2.2.2.2.2.2.2.2.2.2.2.2.2.2.2.2.2.2.2.2.2.1 d.2.2.2.2.2.2.2.2.2.2.2.2.2.2.2.2.2.2.2.2.2.2.2.2.1 d.2.2.2.2.2.2.2.2.2.2.2.2.2.2.2.2.2.2.2.2.2.2.2.2.2.1 d.2.2.2.2.2.2.2.2.2.2.2.2.2.2.2.2.2.2.2.2.2.2.2.2.2.2.1 d.2.2.2.2.2.2.2.2.2.2.2.2.2.2.2.2.2.2.2.2.2.2.2.2.2.2.2.1 d.2.2.2.2.2.2.2.2.2.2.2.2.2.2.2.2.2.2.2.2.2.2.2.2.2.2.2.2.1 d.2.2.2.2.2.2.2.2.2.2.2.2.2.2.2.2.2.2.2.2.2.2.2.2.2.2.2.2.2.1 d.2.2.2.2.2.2.2.2.2.2.2.2.2.2.2.2.2.2.2.2.2.2.2.2.2.2.2.2.2.2.1 d.2.2.2.2.2.2.2.2.2.2.2.2.2.2.2.2.2.2.2.2.2.2.2.2.2.2.2.2.2.2.2.1 d.2.2.2.2.2.2.2.2.2.2.2.2.2.2.2.2.2.2.2.2.2.2.2.2.2.2.2.2.2.2.2.2
noncomputable def tup9z : PySem.World × PySem.Addr × Nat × Nat × Nat × PySem.Tok × PySem.Tok × PySem.Tok × Nat × (List PySem.Str) × (PySem.ExcName → Option PySem.Value) × (PySem.Str → Option PySem.Value) × (PySem.Str → Option PySem.Value) × (List (PySem.Addr × PySem.Obj)) × Nat × Nat × (Option (List PySem.Code)) × PySem.Str × PySem.Scope × PySem.Addr × PySem.Value × (List (PySem.Str × PySem.Addr)) × (List PySem.Env) × PySem.Heap × PySem.Addr × (PySem.Str → Option PySem.Value) × PySem.Shared × (PySem.Result → PySem.Shared → Prop) × PySem.Heap × PySem.Addr × PySem.Addr × PySem.Heap × Nat := hen (World9, (0 : Nat), (0 : Nat), (0 : Nat), (0 : Nat), (0 : Nat), (0 : Nat), (0 : Nat), (0 : Nat), [], (fun _ => none), (fun _ => none), (fun _ => none), [], (0 : Nat), (0 : Nat), none, (default : Str), (default : Scope), (0 : Nat), (default : Value), [], [], (default : Heap), (0 : Nat), (fun _ => none), ({} : Shared), (fun _ => (fun _ => True)), (default : Heap), (0 : Nat), (0 : Nat), (default : Heap), (0 : Nat)) G9
noncomputable def w : PySem.World := tup9z.1
noncomputable def l : PySem.Addr := tup9z.2.1
noncomputable def x : Nat := tup9z.2.2.1
noncomputable def y : Nat := tup9z.2.2.2.1
noncomputable def z : Nat := tup9z.2.2.2.2.1
noncomputable def tx : PySem.Tok := tup9z.2.2.2.2.2.1
noncomputable def ty : PySem.Tok := tup9z.2.2.2.2.2.2.1
noncomputable def tz : PySem.Tok := tup9z.2.2.2.2.2.2.2.1
noncomputable def c : Nat := tup9z.2.2.2.2.2.2.2.2.1
noncomputable def loose : List PySem.Str := tup9z.2.2.2.2.2.2.2.2.2.1
noncomputable def mean : PySem.ExcName → Option PySem.Value := tup9z.2.2.2.2.2.2.2.2.2.2.1
noncomputable def mg : PySem.Str → Option PySem.Value := tup9z.2.2.2.2.2.2.2.2.2.2.2.1
noncomputable def mb : PySem.Str → Option PySem.Value := tup9z.2.2.2.2.2.2.2.2.2.2.2.2.1
noncomputable def rest : List (PySem.Addr × PySem.Obj) := tup9z.2.2.2.2.2.2.2.2.2.2.2.2.2.1
noncomputable def dp : Nat := tup9z.2.2.2.2.2.2.2.2.2.2.2.2.2.2.1
noncomputable def un : Nat := tup9z.2.2.2.2.2.2.2.2.2.2.2.2.2.2.2.1
noncomputable def gd : Option (List PySem.Code) := tup9z.2.2.2.2.2.2.2.2.2.2.2.2.2.2.2.2.1
noncomputable def cn : PySem.Str := tup9z.2.2.2.2.2.2.2.2.2.2.2.2.2.2.2.2.2.1
noncomputable def cs : PySem.Scope := tup9z.2.2.2.2.2.2.2.2.2.2.2.2.2.2.2.2.2.2.1
noncomputable def aa : PySem.Addr := tup9z.2.2.2.2.2.2.2.2.2.2.2.2.2.2.2.2.2.2.2.1
noncomputable def ccd : PySem.Value := tup9z.2.2.2.2.2.2.2.2.2.2.2.2.2.2.2.2.2.2.2.2.1
noncomputable def cl : List (PySem.Str × PySem.Addr) := tup9z.2.2.2.2.2.2.2.2.2.2.2.2.2.2.2.2.2.2.2.2.2.1
noncomputable def outer : List PySem.Env := tup9z.2.2.2.2.2.2.2.2.2.2.2.2.2.2.2.2.2.2.2.2.2.2.1
noncomputable def h₀ : PySem.Heap := tup9z.2.2.2.2.2.2.2.2.2.2.2.2.2.2.2.2.2.2.2.2.2.2.2.1
noncomputable def L : PySem.Addr := tup9z.2.2.2.2.2.2.2.2.2.2.2.2.2.2.2.2.2.2.2.2.2.2.2.2.1
noncomputable def m : PySem.Str → Option PySem.Value := tup9z.2.2.2.2.2.2.2.2.2.2.2.2.2.2.2.2.2.2.2.2.2.2.2.2.2.1
noncomputable def s : PySem.Shared := tup9z.2.2.2.2.2.2.2.2.2.2.2.2.2.2.2.2.2.2.2.2.2.2.2.2.2.2.1
noncomputable def R : PySem.Result → PySem.Shared → Prop := tup9z.2.2.2.2.2.2.2.2.2.2.2.2.2.2.2.2.2.2.2.2.2.2.2.2.2.2.2.1
noncomputable def z1 : PySem.Heap := tup9z.2.2.2.2.2.2.2.2.2.2.2.2.2.2.2.2.2.2.2.2.2.2.2.2.2.2.2.2.1
noncomputable def z2 : PySem.Addr := tup9z.2.2.2.2.2.2.2.2.2.2.2.2.2.2.2.2.2.2.2.2.2.2.2.2.2.2.2.2.2.1
noncomputable def z12 : PySem.Addr := tup9z.2.2.2.2.2.2.2.2.2.2.2.2.2.2.2.2.2.2.2.2.2.2.2.2.2.2.2.2.2.2.1
noncomputable def z15 : PySem.Heap := tup9z.2.2.2.2.2.2.2.2.2.2.2.2.2.2.2.2.2.2.2.2.2.2.2.2.2.2.2.2.2.2.2.1
noncomputable def tk : Nat := tup9z.2.2.2.2.2.2.2.2.2.2.2.2.2.2.2.2.2.2.2.2.2.2.2.2.2.2.2.2.2.2.2.2
set_option maxRecDepth 100000 in
set_option maxHeartbeats 4000000 in
theorem main9 : seg9.1 w l x y z tx ty tz c loose mean mg mb rest dp un gd cn cs aa ccd cl outer h₀ L m s R z1 z2 z12 z15 tk := by
   delta seg9 segOf
   dsimp -zeta only
   intro hx X T hret qk ek y10 y14 y16 y17 h0
   refine for_listL (σ := List (Nat × Tok) × Nat) (env := envOf _ _ _ _ _) (l := l) (c := c) (by k_asm) (fun st => [(Str.ofString "sizes", .ref _)]) (fun st => listOf (st.1.map szVal).toArray st.2) (fun i st => st.1.map (·.1) = [x, y, z].take i ∧ ∀ a ∈ [x, y, z].take i, a ≠ 0 ∧ a ≠ 127) ([], 0) (by k_asm) (by k_mem) (by (repeat' first | exact List.forall_mem_nil _ | (first | exact raw_lt (by assumption) (by walk_at "le9") | exact allLt_lt' (by walk_at "and_r") (by walk_at "le9")) | refine lt_cons ?_ ?_ | (with_reducible assumption) | omega)) rfl ⟨rfl, trivial⟩ ⟨rfl, nofun⟩ ?_ ?_
   · intro i v st h tk m₁ R2 hv hok hne hR F N
     obtain ⟨ws, k⟩ := st
     obtain ⟨hok1, hok2⟩ := hok
     replace hok1 : ws.map (·.1) = [x, y, z].take i := hok1
     have hR' : ∀ p ∈ rest, p ∈ R2 := fun p hp => hR p (.tail _ hp)
     match i, hv, hok1, hok2 with
     | 0, hv, hok1, hok2 =>
       obtain rfl : v = .int (x : Int) tx := by simpa using hv.symm
       obtain rfl : ws = [] := by simpa using hok1
       dsimp only [mB] at *
       k_steps
       · exfalso; omega
       · exfalso; omega
       · refine ListEnd1.mk ([(x, tx)], k + 1) (by k_asm) (by k_asm) ⟨rfl, trivial⟩ (by (repeat' first | exact List.forall_mem_nil _ | refine mem_cons_all ?_ ?_ | exact sub_refl | refine sub_tail ?_ | k_mem)) ⟨rfl, ?_⟩
         intro a ha
         simp at ha
         omega
     | 1, hv, hok1, hok2 =>
       obtain rfl : v = .int (y : Int) ty := by simpa using hv.symm
       obtain ⟨t1, rfl⟩ : ∃ t1, ws = [(x, t1)] := by
         match ws, hok1 with
         | [(a, t1)], hok1 => exact ⟨t1, by simp at hok1; rw [hok1]⟩
       simp only [szVal, List.map_cons, List.map_nil] at N
       dsimp only [mB] at *
       k_steps
       · have h7 : y = 127 := by omega
         refine hret _ [_] _ _ ⟨_, [_], _, rfl, rfl, fun h => absurd h h0, fun _ => ?_⟩ (fun q hq p hp => ?_) (by k_asm) (news_of (by k_asm) (List.forall_mem_cons.mpr ⟨by k_mem, fun p hp => ?_⟩))
         · rw [show sizesGo [] [x, y, z] = [x] by simp [sizesGo, h0, hx, h7]]; exact .cons _ _ .nil
         · rw [List.mem_singleton.mp hp]; revert q; (repeat' first | exact List.forall_mem_nil _ | (first | exact raw_lt (by assumption) (by walk_at "le9") | exact allLt_lt' (by walk_at "and_r") (by walk_at "le9")) | refine lt_cons ?_ ?_ | (with_reducible assumption) | omega)
         · have h5 := hR' p hp
           (repeat' first | assumption | refine List.Mem.tail _ ?_)

       · have h7 : y = 0 := by omega
         refine hret _ [_] _ _ ⟨_, [_, _, _, _], _, rfl, rfl, fun h => absurd h h0, fun _ => ?_⟩ (fun q hq p hp => ?_) (by k_asm) (news_of (by k_asm) (List.forall_mem_cons.mpr ⟨by k_mem, fun p hp => ?_⟩))
         · rw [show sizesGo [] [x, y, z] = [x, x, x, x] by simp [sizesGo, h0, hx, h7, List.replicate_succ]]; exact .cons _ _ (.cons _ _ (.cons _ _ (.cons _ _ .nil)))
         · rw [List.mem_singleton.mp hp]; revert q; (repeat' first | exact List.forall_mem_nil _ | (first | exact raw_lt (by assumption) (by walk_at "le9") | exact allLt_lt' (by walk_at "and_r") (by walk_at "le9")) | refine lt_cons ?_ ?_ | (with_reducible assumption) | omega)
         · have h5 := hR' p hp
           (repeat' first | assumption | refine List.Mem.tail _ ?_)

       · refine ListEnd1.mk ([(x, t1), (y, ty)], k + 1) (by k_asm) (by k_asm) ⟨rfl, trivial⟩ (by (repeat' first | exact List.forall_mem_nil _ | refine mem_cons_all ?_ ?_ | exact sub_refl | refine sub_tail ?_ | k_mem)) ⟨rfl, ?_⟩
         intro a ha
         simp at ha
         omega
     | 2, hv, hok1, hok2 =>
       obtain rfl : v = .int (z : Int) tz := by simpa using hv.symm
       obtain ⟨t1, t2, rfl⟩ : ∃ t1 t2, ws = [(x, t1), (y, t2)] := by
         match ws, hok1 with
         | [(a, t1), (b, t2)], hok1 => exact ⟨t1, t2, by simp at hok1; rw [hok1.1, hok1.2]⟩
       have hy := hok2 y (by simp)
       simp only [szVal, List.map_cons, List.map_nil] at N
       dsimp only [mB] at *
       k_steps
       · have h7 : z = 127 := by omega
         refine hret _ [_] _ _ ⟨_, [_, _], _, rfl, rfl, fun h => absurd h h0, fun _ => ?_⟩ (fun q hq p hp => ?_) (by k_asm) (news_of (by k_asm) (List.forall_mem_cons.mpr ⟨by k_mem, fun p hp => ?_⟩))
         · rw [show sizesGo [] [x, y, z] = [x, y] by simp [sizesGo, h0, hx, hy, h7]]; exact .cons _ _ (.cons _ _ .nil)
         · rw [List.mem_singleton.mp hp]; revert q; (repeat' first | exact List.forall_mem_nil _ | (first | exact raw_lt (by assumption) (by walk_at "le9") | exact allLt_lt' (by walk_at "and_r") (by walk_at "le9")) | refine lt_cons ?_ ?_ | (with_reducible assumption) | omega)
         · have h5 := hR' p hp
           (repeat' first | assumption | refine List.Mem.tail _ ?_)

       · have h7 : z = 0 := by omega
         refine hret _ [_] _ _ ⟨_, [_, _, _, _], _, rfl, rfl, fun h => absurd h h0, fun _ => ?_⟩ (fun q hq p hp => ?_) (by k_asm) (news_of (by k_asm) (List.forall_mem_cons.mpr ⟨by k_mem, fun p hp => ?_⟩))
         · rw [show sizesGo [] [x, y, z] = [x, y, y, y] by simp [sizesGo, h0, hx, hy, h7, List.replicate_succ]]; exact .cons _ _ (.cons _ _ (.cons _ _ (.cons _ _ .nil)))
         · rw [List.mem_singleton.mp hp]; revert q; (repeat' first | exact List.forall_mem_nil _ | (first | exact raw_lt (by assumption) (by walk_at "le9") | exact allLt_lt' (by walk_at "and_r") (by walk_at "le9")) | refine lt_cons ?_ ?_ | (with_reducible assumption) | omega)
         · have h5 := hR' p hp
           (repeat' first | assumption | refine List.Mem.tail _ ?_)

       · refine ListEnd1.mk ([(x, t1), (y, t2), (z, tz)], k + 1) (by k_asm) (by k_asm) ⟨rfl, trivial⟩ (by (repeat' first | exact List.forall_mem_nil _ | refine mem_cons_all ?_ ?_ | exact sub_refl | refine sub_tail ?_ | k_mem)) ⟨rfl, ?_⟩
         intro a ha
         simp at ha
         omega
     | i + 3, hv, _, _ => simp at hv
   · intro h' tk m₁ st hok F N
     obtain ⟨ws, k⟩ := st
     obtain ⟨hok1, hok2⟩ := hok
     have hR' : ∀ p ∈ rest, p ∈ rest := fun _ h => h
     replace hok1 : ws.map (·.1) = [x, y, z] := hok1
     have hy := hok2 y (by simp)
     have hz := hok2 z (by simp)
     obtain ⟨t1, t2, t3, rfl⟩ : ∃ t1 t2 t3, ws = [(x, t1), (y, t2), (z, t3)] := by
       match ws, hok1 with
       | [(a, t1), (b, t2), (c, t3)], hok1 => exact ⟨t1, t2, t3, by simp at hok1; rw [hok1.1, hok1.2.1, hok1.2.2]⟩
     simp only [szVal, List.map_cons, List.map_nil] at N
     dsimp only [mB] at *
     k_steps
     · refine hret _ [_] _ _ ⟨_, [_, _, _], _, rfl, rfl, fun h => absurd h h0, fun _ => ?_⟩ (fun q hq p hp => ?_) (by k_asm) (news_of (by k_asm) (List.forall_mem_cons.mpr ⟨by k_mem, fun p hp => ?_⟩))
       · rw [show sizesGo [] [x, y, z] = [x, y, z] by simp [sizesGo, h0, hx, hy, hz]]; exact .cons _ _ (.cons _ _ (.cons _ _ .nil))
       · rw [List.mem_singleton.mp hp]; revert q; (repeat' first | exact List.forall_mem_nil _ | (first | exact raw_lt (by assumption) (by walk_at "le9") | exact allLt_lt' (by walk_at "and_r") (by walk_at "le9")) | refine lt_cons ?_ ?_ | (with_reducible assumption) | omega)
       · have h5 := hR' p hp
         (repeat' first | assumption | refine List.Mem.tail _ ?_)

set_option maxRecDepth 100000 in
set_option maxHeartbeats 4000000 in
theorem all9 : ∀ a0 a1 a2 a3 a4 a5 a6 a7 a8 a9 a10 a11 a12 a13 a14 a15 a16 a17 a18 a19 a20 a21 a22 a23 a24 a25 a26 a27 a28 a29 a30 a31 a32, seg9.1 a0 a1 a2 a3 a4 a5 a6 a7 a8 a9 a10 a11 a12 a13 a14 a15 a16 a17 a18 a19 a20 a21 a22 a23 a24 a25 a26 a27 a28 a29 a30 a31 a32 := fun a0 a1 a2 a3 a4 a5 a6 a7 a8 a9 a10 a11 a12 a13 a14 a15 a16 a17 a18 a19 a20 a21 a22 a23 a24 a25 a26 a27 a28 a29 a30 a31 a32 => hen_all (G := G9) main9 (a0, a1, a2, a3, a4, a5, a6, a7, a8, a9, a10, a11, a12, a13, a14, a15, a16, a17, a18, a19, a20, a21, a22, a23, a24, a25, a26, a27, a28, a29, a30, a31, a32)
end sizes
theorem sizes (w : World) (l : Addr) (x y z : Nat) (tx ty tz : Tok) (c : Nat) (hx : x ≠ 127) : CtrR PySem.Challenge.rw_wn0028_01.prog w (Mine.hd.heap_1 w.params) PySem.W.topProg 2 30 105 [.ref l] [(l, listOf [.int (x : Int) tx, .int (y : Int) ty, .int (z : Int) tz].toArray c)] (fun v tl => ∃ f, ∃ ws : List Value, ∃ k, v = .ref f ∧ tl = [(f, listOf ws.toArray k)] ∧ (x = 0 → ∃ t, ws = [.str (Str.ofString "invalid grouping") t]) ∧ (x ≠ 0 → IntsAre ws ((sizesGo [] [x, y, z]).map fun (a : Nat) => (a : Int)))) := sizes.seg9.2 ⟨sizes.all9⟩ w l x y z tx ty tz c hx

end Mine
namespace Mine
theorem reset_figures : True := by
  w_top off
  trivial
/-- the figures of a total: kind upon kind, each so often as its size says -/
noncomputable def figsF (n : Nat) : Nat → Nat → List Nat → List Nat
  | _, _, [] => []
  | fig, i, a :: r => List.replicate a (fig + (1 + n / 5 ^ i % 5)) ++ figsF n (fig + (1 + n / 5 ^ i % 5)) (i + 1) r
theorem five (n i : Nat) : ((n : Int).fdiv ((5 : Int) ^ ((i : Int)).toNat)).fmod 5 = ((n / 5 ^ i % 5 : Nat) : Int) := chN 5 5 n i (by decide) (by decide)
namespace figuresA
set_option maxRecDepth 100000 in
set_option maxHeartbeats 4000000 in
noncomputable def seg9 : {p : PySem.World → Nat → PySem.Tok → PySem.Addr → (List PySem.Value) → Nat → (List Nat) → (List PySem.Str) → (PySem.ExcName → Option PySem.Value) → (PySem.Str → Option PySem.Value) → (PySem.Str → Option PySem.Value) → (List (PySem.Addr × PySem.Obj)) → Nat → Nat → (Option (List PySem.Code)) → PySem.Str → PySem.Scope → PySem.Addr → PySem.Value → (List (PySem.Str × PySem.Addr)) → (List PySem.Env) → PySem.Around → PySem.Heap → PySem.Heap → PySem.Addr → (PySem.Str → Option PySem.Value) → PySem.Shared → (PySem.Result → PySem.Shared → Prop) → PySem.Heap → PySem.Addr → PySem.Heap → Nat → PySem.Addr → PySem.Heap → PySem.Heap → Nat → PySem.Heap → Prop // Hid (∀ a0 a1 a2 a3 a4 a5 a6 a7 a8 a9 a10 a11 a12 a13 a14 a15 a16 a17 a18 a19 a20 a21 a22 a23 a24 a25 a26 a27 a28 a29 a30 a31 a32 a33 a34 a35 a36, p a0 a1 a2 a3 a4 a5 a6 a7 a8 a9 a10 a11 a12 a13 a14 a15 a16 a17 a18 a19 a20 a21 a22 a23 a24 a25 a26 a27 a28 a29 a30 a31 a32 a33 a34 a35 a36) → ∀ (w : World) (n : Nat) (u : Tok) (l : Addr) (its : List Value) (c : Nat) (szs : List Nat) (hi : IntsAre its (szs.map fun (x : Nat) => (x : Int))) (hz : szs.length ≤ 4) (hb : ∀ a ∈ szs, 1 ≤ a ∧ a ≤ 3), CtrR PySem.Challenge.rw_wn0028_01.prog w (Mine.hd.heap_1 w.params) PySem.W.topProg 2 30 112 [.int (n : Int) u, .ref l] [(l, listOf its.toArray c)] (fun v tl => ∃ f ws k, v = .ref f ∧ tl = [(f, listOf ws.toArray k)] ∧ IntsAre ws ((figsF n 0 0 szs).map fun (x : Nat) => (x : Int)))} := segOf (by
   intro ht9
   intro w n u l its c szs hi hz hb
   intro loose mean mg mb rest dp un gd cn cs aa ccd cl outer A₀ base h₀ L m s R hled B F₀ X N₀ T hk hd hu hret
   k_with_none
   have hm := hled _ (.head _)
   k_with "exec For Tuple Call" => refine stop_in ?_
   k_with "exec For Tuple Call cons nil" => refine stop_in ?_
   k_with "call type:enumerate cons nil" => refine stop_in ?_
   k_dflt cell_enter
   k_steps
   refine stop_out ?_
   refine wpAny_For ?_
   k_steps
   refine stop_out ?_
   rename_i z1 z2 z3 y4 y5 y6 y7 z8 z9 z10 y11 z12 z13 y14 y15
   revert hi hz hb hled B F₀ X N₀ T hk hd hu hret hm y4 y5 y6 y7 qk ek y11 y14 y15
   exact ht9.out w n u l its c szs loose mean mg mb rest dp un gd cn cs aa ccd cl outer A₀ base h₀ L m s R z1 z2 z3 z8 z9 z10 z12 tk z13
)
noncomputable def G9 (d : PySem.World × Nat × PySem.Tok × PySem.Addr × (List PySem.Value) × Nat × (List Nat) × (List PySem.Str) × (PySem.ExcName → Option PySem.Value) × (PySem.Str → Option PySem.Value) × (PySem.Str → Option PySem.Value) × (List (PySem.Addr × PySem.Obj)) × Nat × Nat × (Option (List PySem.Code)) × PySem.Str × PySem.Scope × PySem.Addr × PySem.Value × (List (PySem.Str × PySem.Addr)) × (List PySem.Env) × PySem.Around × PySem.Heap × PySem.Heap × PySem.Addr × (PySem.Str → Option PySem.Value) × PySem.Shared × (PySem.Result → PySem.Shared → Prop) × PySem.Heap × PySem.Addr × PySem.Heap × Nat × PySem.Addr × PySem.Heap × PySem.Heap × Nat × PySem.Heap) : Prop := seg9.1 d.1 d.2.1 d.2.2.1 d.2.2.2.1 d.2.2.2.2.1 d.2.2.2.2.2.1 d.2.2.2.2.2.2.1 d.2.2.2.2.2.2.2.1 d.2.2.2.2.2.2.2.2.1 d.2.2.2.2.2.2.2.2.2.1 d.2.2.2.2.2.2.2.2.2.2.1 d.2.2.2.2.2.2.2.2.2.2.2.1 d.2.2.2.2.2.2.2.2.2.2.2.2.1 d.2.2.2.2.2.2.2.2.2.2.2.2.2.1 d.2.2.2.2.2.2.2.2.2.2.2.2.2.2.1 d.2.2.2.2.2.2.2.2.2.2.2.2.2.2.2.1 d.2.2.2.2.2.2.2.2.2.2.2.2.2.2.2.2.1 d.2.2.2.2.2.2.2.2.2.2.2.2.2.2.2.2.2.1 d.2.2.2.2.2.2.2.2.2.2.2.2.2.2.2.2.2.2.1 d.2.2.2.2.2.2.2.2.2.2.2.2.2.2.2.2.2.2.2.1 d.2.2.2.2.2.2.2.2.2.2.2.2.2.2.2.2.2.2.2.2.1 d.2.2.2.2.2.2.2.2.2.2.2.2.2.2.2.2.2.2.2.2.2.1 d.2.2.2.2.2.2.2.2.2.2.2.2.2.2.2.2.2.2.2.2.2.2.1 d.2.2.2.2.2.2.2.2.2.2.2.2.2.2.2.2.2.2.2.2.2.2.2.1 d.2.2.2.2.2.2.2.2.2.2.2.2.2.2.2.2.2.2.2.2.2.2.2.2.1 d.2.2.2.2.2.2.2.2.2.2.2.2.2.2.2.2.2.2.2.2.2.2.2.2.2.1 d.2.2.2.2.2.2.2.2.2.2.2.2.2.2.2.2.2.2.2.2.2.2.2.2.2.2.1 d.2.2.2.2.2.2.2.2.2.2.2.2.2.2.2.2.2.2.2.2.2.2.2.2.2.2.2.1 d.2.2.2.2.2.2.2.2.2.2.2.2.2.2.2.2.2.2.2.2.2.2.2.2.2.2.2.2.1 d.2.2.2.2.2.2.2.2.2.2.2.2.2.2.2.2.2.2.2.2.2.2.2.2.2.2.2.2.2.1 d.2.2.2.2.2.2.2.2.2.2.2.2.2.2.2.2.2.2.2.2.2.2.2.2.2.2.2.2.2.2.1 d.2.2.2.2.2.2.2.2.2.2.2.2.2.2.2.2.2.2.2.2.2.2.2.2.2.2.2.2.2.2.2.1 d.2.2.2.2.2.2.2.2.2.2.2.2.2.2.2.2.2.2.2.2.2.2.2.2.2.2.2.2.2.2.2.2.1 d.2.2.2.2.2.2.2.2.2.2.2.2.2.2.2.2.2.2.2.2.2.2.2.2.2.2.2.2.2.2.2.2.2.1 d.2.2.2.2.2.2.2.2.2.2.2.2.2.2.2.2.2.2.2.2.2.2.2.2.2.2.2.2.2.2.2.2.2.2.1 d.2.2.2.2.2.2.2.2.2.2.2.2.2.2.2.2.2.2.2.2.2.2.2.2.2.2.2.2.2.2.2.2.2.2.2.1 d.2.2.2.2.2.2.2.2.2.2.2.2.2.2.2.2.2.2.2.2.2.2.2.2.2.2.2.2.2.2.2.2.2.2.2.2
noncomputable def tup9z : PySem.World × Nat × PySem.Tok × PySem.Addr × (List PySem.Value) × Nat × (List Nat) × (List PySem.Str) × (PySem.ExcName → Option PySem.Value) × (PySem.Str → Option PySem.Value) × (PySem.Str → Option PySem.Value) × (List (PySem.Addr × PySem.Obj)) × Nat × Nat × (Option (List PySem.Code)) × PySem.Str × PySem.Scope × PySem.Addr × PySem.Value × (List (PySem.Str × PySem.Addr)) × (List PySem.Env) × PySem.Around × PySem.Heap × PySem.Heap × PySem.Addr × (PySem.Str → Option PySem.Value) × PySem.Shared × (PySem.Result → PySem.Shared → Prop) × PySem.Heap × PySem.Addr × PySem.Heap × Nat × PySem.Addr × PySem.Heap × PySem.Heap × Nat × PySem.Heap := hen (World9, (0 : Nat), (0 : Nat), (0 : Nat), [], (0 : Nat), [], [], (fun _ => none), (fun _ => none), (fun _ => none), [], (0 : Nat), (0 : Nat), none, (default : Str), (default : Scope), (0 : Nat), (default : Value), [], [], ({} : Around), (default : Heap), (default : Heap), (0 : Nat), (fun _ => none), ({} : Shared), (fun _ => (fun _ => True)), (default : Heap), (0 : Nat), (default : Heap), (0 : Nat), (0 : Nat), (default : Heap), (default : Heap), (0 : Nat), (default : Heap)) G9
noncomputable def w : PySem.World := tup9z.1
noncomputable def n : Nat := tup9z.2.1
noncomputable def u : PySem.Tok := tup9z.2.2.1
noncomputable def l : PySem.Addr := tup9z.2.2.2.1
noncomputable def its : List PySem.Value := tup9z.2.2.2.2.1
noncomputable def c : Nat := tup9z.2.2.2.2.2.1
noncomputable def szs : List Nat := tup9z.2.2.2.2.2.2.1
noncomputable def loose : List PySem.Str := tup9z.2.2.2.2.2.2.2.1
noncomputable def mean : PySem.ExcName → Option PySem.Value := tup9z.2.2.2.2.2.2.2.2.1
noncomputable def mg : PySem.Str → Option PySem.Value := tup9z.2.2.2.2.2.2.2.2.2.1
noncomputable def mb : PySem.Str → Option PySem.Value := tup9z.2.2.2.2.2.2.2.2.2.2.1
noncomputable def rest : List (PySem.Addr × PySem.Obj) := tup9z.2.2.2.2.2.2.2.2.2.2.2.1
noncomputable def dp : Nat := tup9z.2.2.2.2.2.2.2.2.2.2.2.2.1
noncomputable def un : Nat := tup9z.2.2.2.2.2.2.2.2.2.2.2.2.2.1
noncomputable def gd : Option (List PySem.Code) := tup9z.2.2.2.2.2.2.2.2.2.2.2.2.2.2.1
noncomputable def cn : PySem.Str := tup9z.2.2.2.2.2.2.2.2.2.2.2.2.2.2.2.1
noncomputable def cs : PySem.Scope := tup9z.2.2.2.2.2.2.2.2.2.2.2.2.2.2.2.2.1
noncomputable def aa : PySem.Addr := tup9z.2.2.2.2.2.2.2.2.2.2.2.2.2.2.2.2.2.1
noncomputable def ccd : PySem.Value := tup9z.2.2.2.2.2.2.2.2.2.2.2.2.2.2.2.2.2.2.1
noncomputable def cl : List (PySem.Str × PySem.Addr) := tup9z.2.2.2.2.2.2.2.2.2.2.2.2.2.2.2.2.2.2.2.1
noncomputable def outer : List PySem.Env := tup9z.2.2.2.2.2.2.2.2.2.2.2.2.2.2.2.2.2.2.2.2.1
noncomputable def A₀ : PySem.Around := tup9z.2.2.2.2.2.2.2.2.2.2.2.2.2.2.2.2.2.2.2.2.2.1
noncomputable def base : PySem.Heap := tup9z.2.2.2.2.2.2.2.2.2.2.2.2.2.2.2.2.2.2.2.2.2.2.1
noncomputable def h₀ : PySem.Heap := tup9z.2.2.2.2.2.2.2.2.2.2.2.2.2.2.2.2.2.2.2.2.2.2.2.1
noncomputable def L : PySem.Addr := tup9z.2.2.2.2.2.2.2.2.2.2.2.2.2.2.2.2.2.2.2.2.2.2.2.2.1
noncomputable def m : PySem.Str → Option PySem.Value := tup9z.2.2.2.2.2.2.2.2.2.2.2.2.2.2.2.2.2.2.2.2.2.2.2.2.2.1
noncomputable def s : PySem.Shared := tup9z.2.2.2.2.2.2.2.2.2.2.2.2.2.2.2.2.2.2.2.2.2.2.2.2.2.2.1
noncomputable def R : PySem.Result → PySem.Shared → Prop := tup9z.2.2.2.2.2.2.2.2.2.2.2.2.2.2.2.2.2.2.2.2.2.2.2.2.2.2.2.1
noncomputable def z1 : PySem.Heap := tup9z.2.2.2.2.2.2.2.2.2.2.2.2.2.2.2.2.2.2.2.2.2.2.2.2.2.2.2.2.1
noncomputable def z2 : PySem.Addr := tup9z.2.2.2.2.2.2.2.2.2.2.2.2.2.2.2.2.2.2.2.2.2.2.2.2.2.2.2.2.2.1
noncomputable def z3 : PySem.Heap := tup9z.2.2.2.2.2.2.2.2.2.2.2.2.2.2.2.2.2.2.2.2.2.2.2.2.2.2.2.2.2.2.1
noncomputable def z8 : Nat := tup9z.2.2.2.2.2.2.2.2.2.2.2.2.2.2.2.2.2.2.2.2.2.2.2.2.2.2.2.2.2.2.2.1
noncomputable def z9 : PySem.Addr := tup9z.2.2.2.2.2.2.2.2.2.2.2.2.2.2.2.2.2.2.2.2.2.2.2.2.2.2.2.2.2.2.2.2.1
noncomputable def z10 : PySem.Heap := tup9z.2.2.2.2.2.2.2.2.2.2.2.2.2.2.2.2.2.2.2.2.2.2.2.2.2.2.2.2.2.2.2.2.2.1
noncomputable def z12 : PySem.Heap := tup9z.2.2.2.2.2.2.2.2.2.2.2.2.2.2.2.2.2.2.2.2.2.2.2.2.2.2.2.2.2.2.2.2.2.2.1
noncomputable def tk : Nat := tup9z.2.2.2.2.2.2.2.2.2.2.2.2.2.2.2.2.2.2.2.2.2.2.2.2.2.2.2.2.2.2.2.2.2.2.2.1
noncomputable def z13 : PySem.Heap := tup9z.2.2.2.2.2.2.2.2.2.2.2.2.2.2.2.2.2.2.2.2.2.2.2.2.2.2.2.2.2.2.2.2.2.2.2.2
namespace figures
set_option maxRecDepth 100000 in
set_option maxHeartbeats 4000000 in
noncomputable def seg9 : {p : Nat → PySem.Tok → PySem.Heap → Nat → (PySem.Str → Option PySem.Value) → (List (PySem.Addr × PySem.Obj)) → PySem.Tok → (List PySem.Value) → Nat → (List Nat) → Nat → PySem.Tok → Nat → (List (PySem.Addr × PySem.Obj)) → Prop // Hid (∀ a0 a1 a2 a3 a4 a5 a6 a7 a8 a9 a10 a11 a12 a13, p a0 a1 a2 a3 a4 a5 a6 a7 a8 a9 a10 a11 a12 a13) → seg9.1 w n u l its c szs loose mean mg mb rest dp un gd cn cs aa ccd cl outer A₀ base h₀ L m s R z1 z2 z3 z8 z9 z10 z12 tk z13} := segOf (by
   intro ht9
   delta seg9 segOf
   dsimp -zeta only
   intro hi hz hb hled B F₀ X N₀ T hk hd hu hret hm y4 y5 y6 y7 qk ek y11 y14 y15
   refine enum_list (σ := Int × Tok × List Value × Nat × List Nat) (env := envOf _ _ _ _ _) (c := c) rfl (by k_asm) (by k_asm) (by first | k_mem | exact List.mem_cons_of_mem _ hm) (fun y => [(Str.ofString "total", .int (n : Int) u), (Str.ofString "figures", .ref _), (Str.ofString "figure", .int y.1 y.2.1)]) (fun y => (_, listOf y.2.2.1.toArray y.2.2.2.1) :: rest) (fun i y => IntsAre y.2.2.1 (y.2.2.2.2.map fun (x : Nat) => (x : Int)) ∧ (∃ fg : Nat, y.1 = (fg : Int) ∧ y.2.2.2.2 ++ figsF n fg i (szs.drop i) = figsF n 0 0 szs) ∧ y.2.2.2.2.length ≤ 3 * i) (0, _, [], 0, []) ⟨rfl, rfl, rfl, trivial⟩ (fun p hp => hp) ⟨.nil, ⟨0, rfl, rfl⟩, by show 0 ≤ 3 * 0; decide⟩ (fun _ _ _ => ⟨c, List.mem_cons_of_mem _ hm⟩) ?_ ?_ ?_
   · intro i y _ p hp
     rcases List.mem_cons.mp hp with rfl | hp
     · exact ⟨_, .head _⟩
     · exact ⟨p.2, .tail _ hp⟩
   · intro i v y t h tk m₁ own hv hok hoff hfr F N
     obtain ⟨fz, tf, ws, k, ns⟩ := y
     obtain ⟨hw, ⟨fg, hfz, he⟩, hl⟩ := hok
     replace hfz : fz = (fg : Int) := hfz
     subst hfz
     obtain ⟨z, tz, rfl, hz9⟩ := ints_at hi hv
     obtain ⟨a, ha, rfl⟩ : ∃ a, szs[i]? = some a ∧ (a : Int) = z := by
       simpa [List.getElem?_map, Option.map_eq_some_iff] using hz9
     have hi4 : i < 4 := by
       have := (List.getElem?_eq_some_iff.mp ha).1; omega
     have ha1 := hb a (List.mem_of_getElem? ha)
     obtain ⟨R2, N, hne2, hR2, hO2, hRe⟩ := turn_led (by assumption) hoff N
     dsimp only [mB] at *
     have hpow : (5 : Int) ^ ((i : Int)).toNat ≠ 0 := by
       have : (0 : Int) < 5 ^ ((i : Int)).toNat := Int.pow_pos (by decide)
       omega
     rename_i y1
     revert hi hz hb hled B F₀ X N₀ T hk hd hu hret hm y4 y5 y6 y7 qk ek y11 y14 y15 hfr hoff y1 hw hl he ha hz9 hv F hi4 ha1 N hne2 hR2 hO2 hRe hpow
     exact ht9.out i t h tk m₁ own tf ws k ns fg tz a R2
   · intro h' tk m₁ y hok F N
     obtain ⟨fz, tf, ws, k, ns⟩ := y
     obtain ⟨hw, ⟨fg, hfz, he⟩, hl⟩ := hok
     replace hfz : fz = (fg : Int) := hfz
     subst hfz
     dsimp only [mB] at *
     k_steps
     rw [show szs.drop its.length = [] by rw [IntsAre.length hi]; simp] at he
     simp only [figsF, List.append_nil] at he
     exact hret _ [_] _ _ ⟨_, ws, k, rfl, rfl, he ▸ hw⟩ (fun q hq p hp => (by rw [List.mem_singleton.mp hp]; exact ((by assumption : ∀ p ∈ rest, p.1 < _) q hq))) (by k_asm) (by k_asm))
noncomputable def G9 (d : Nat × PySem.Tok × PySem.Heap × Nat × (PySem.Str → Option PySem.Value) × (List (PySem.Addr × PySem.Obj)) × PySem.Tok × (List PySem.Value) × Nat × (List Nat) × Nat × PySem.Tok × Nat × (List (PySem.Addr × PySem.Obj))) : Prop := seg9.1 d.1 d.2.1 d.2.2.1 d.2.2.2.1 d.2.2.2.2.1 d.2.2.2.2.2.1 d.2.2.2.2.2.2.1 d.2.2.2.2.2.2.2.1 d.2.2.2.2.2.2.2.2.1 d.2.2.2.2.2.2.2.2.2.1 d.2.2.2.2.2.2.2.2.2.2.1 d.2.2.2.2.2.2.2.2.2.2.2.1 d.2.2.2.2.2.2.2.2.2.2.2.2.1 d.2.2.2.2.2.2.2.2.2.2.2.2.2
noncomputable def tup9z : Nat × PySem.Tok × PySem.Heap × Nat × (PySem.Str → Option PySem.Value) × (List (PySem.Addr × PySem.Obj)) × PySem.Tok × (List PySem.Value) × Nat × (List Nat) × Nat × PySem.Tok × Nat × (List (PySem.Addr × PySem.Obj)) := hen ((0 : Nat), (0 : Nat), (default : Heap), (0 : Nat), (fun _ => none), [], (0 : Nat), [], (0 : Nat), [], (0 : Nat), (0 : Nat), (0 : Nat), []) G9
noncomputable def i : Nat := tup9z.1
noncomputable def t : PySem.Tok := tup9z.2.1
noncomputable def h : PySem.Heap := tup9z.2.2.1
noncomputable def tk : Nat := tup9z.2.2.2.1
noncomputable def m₁ : PySem.Str → Option PySem.Value := tup9z.2.2.2.2.1
noncomputable def own : List (PySem.Addr × PySem.Obj) := tup9z.2.2.2.2.2.1
noncomputable def tf : PySem.Tok := tup9z.2.2.2.2.2.2.1
noncomputable def ws : List PySem.Value := tup9z.2.2.2.2.2.2.2.1
noncomputable def k : Nat := tup9z.2.2.2.2.2.2.2.2.1
noncomputable def ns : List Nat := tup9z.2.2.2.2.2.2.2.2.2.1
noncomputable def fg : Nat := tup9z.2.2.2.2.2.2.2.2.2.2.1
noncomputable def tz : PySem.Tok := tup9z.2.2.2.2.2.2.2.2.2.2.2.1
noncomputable def a : Nat := tup9z.2.2.2.2.2.2.2.2.2.2.2.2.1
noncomputable def R2 : List (PySem.Addr × PySem.Obj) := tup9z.2.2.2.2.2.2.2.2.2.2.2.2.2
set_option maxRecDepth 100000 in
set_option maxHeartbeats 4000000 in
theorem main9 : seg9.1 i t h tk m₁ own tf ws k ns fg tz a R2 := by
     delta seg9 segOf
     dsimp -zeta only
     intro hi hz hb hled B F₀ X N₀ T hk hd hu hret hm y4 y5 y6 y7 qk ek y11 y14 y15 hfr hoff y1 hw hl he ha hz9 hv F hi4 ha1 N hne2 hR2 hO2 hRe hpow
     k_with "binaryOp FloorDiv int int" => refine floordiv_int hpow ?_ (Or.inl (pyl5 (by omega)))
     k_with "binaryOp Mod int int" => (refine mod_int' (by decide) ?_; rw [five])
     k_with "binaryOp Mult ref int" => refine stop_in ?_
     k_with "inplaceOp Add ref ref" => refine stop_in ?_
     k_steps
     refine stop_out ?_
     refine mul_one (by k_asm) (by k_asm) (by is_list) ha1.2 ?_
     intro D hD ws2 hi2 hL2 FD ND l1
     k_lt l1
     k_steps
     refine stop_out ?_
     refine kl_iadd (l := ws ++ ws2) (by k_asm) (by k_asm) (by k_mem) rfl (by omega) (by k_upd) (by have hL := IntsAre.length hw; simp only [List.length_map] at hL; omega) ?_
     intro hE FE NE
     k_steps
     have hd9 : szs.drop i = a :: szs.drop (i + 1) := by
       obtain ⟨h1, e⟩ := List.getElem?_eq_some_iff.mp ha
       rw [List.drop_eq_getElem_cons h1, e]
     rw [hd9] at he
     have hm5 : n / 5 ^ i % 5 < 5 := Nat.mod_lt _ (by decide)
     refine EnumEnd.mk ((fg : Int) + (1 + ((n / 5 ^ i % 5 : Nat) : Int)), _, ws ++ ws2, k + 1, ns ++ List.replicate a (fg + (1 + n / 5 ^ i % 5))) (by k_asm) (by k_asm) ⟨rfl, rfl, rfl, trivial⟩ (led_own hRe (by k_mem) (by intro _ _; (repeat' first | assumption | refine List.Mem.tail _ ?_))) ⟨?_, ⟨fg + (1 + n / 5 ^ i % 5), ?_, ?_⟩, ?_⟩
     · rw [List.map_append, List.map_replicate]
       refine IntsAre.append hw ?_
       have e9 : ((fg + (1 + n / 5 ^ i % 5) : Nat) : Int) = (fg : Int) + (1 + ((n / 5 ^ i % 5 : Nat) : Int)) := by push_cast; rfl
       rw [e9]
       exact hi2
     · show (fg : Int) + (1 + ((n / 5 ^ i % 5 : Nat) : Int)) = _
       push_cast; rfl
     · rw [List.append_assoc]; exact he
     · simp only [List.length_append, List.length_replicate]; omega
set_option maxRecDepth 100000 in
set_option maxHeartbeats 4000000 in
theorem all9 : ∀ a0 a1 a2 a3 a4 a5 a6 a7 a8 a9 a10 a11 a12 a13, seg9.1 a0 a1 a2 a3 a4 a5 a6 a7 a8 a9 a10 a11 a12 a13 := fun a0 a1 a2 a3 a4 a5 a6 a7 a8 a9 a10 a11 a12 a13 => hen_all (G := G9) main9 (a0, a1, a2, a3, a4, a5, a6, a7, a8, a9, a10, a11, a12, a13)
end figures
theorem main9 : seg9.1 w n u l its c szs loose mean mg mb rest dp un gd cn cs aa ccd cl outer A₀ base h₀ L m s R z1 z2 z3 z8 z9 z10 z12 tk z13 := figures.seg9.2 ⟨figures.all9⟩ 
set_option maxRecDepth 100000 in
set_option maxHeartbeats 4000000 in
theorem all9 : ∀ a0 a1 a2 a3 a4 a5 a6 a7 a8 a9 a10 a11 a12 a13 a14 a15 a16 a17 a18 a19 a20 a21 a22 a23 a24 a25 a26 a27 a28 a29 a30 a31 a32 a33 a34 a35 a36, seg9.1 a0 a1 a2 a3 a4 a5 a6 a7 a8 a9 a10 a11 a12 a13 a14 a15 a16 a17 a18 a19 a20 a21 a22 a23 a24 a25 a26 a27 a28 a29 a30 a31 a32 a33 a34 a35 a36 := fun a0 a1 a2 a3 a4 a5 a6 a7 a8 a9 a10 a11 a12 a13 a14 a15 a16 a17 a18 a19 a20 a21 a22 a23 a24 a25 a26 a27 a28 a29 a30 a31 a32 a33 a34 a35 a36 => hen_all (G := G9) main9 (a0, a1, a2, a3, a4, a5, a6, a7, a8, a9, a10, a11, a12, a13, a14, a15, a16, a17, a18, a19, a20, a21, a22, a23, a24, a25, a26, a27, a28, a29, a30, a31, a32, a33, a34, a35, a36)
end figuresA
theorem figures (w : World) (n : Nat) (u : Tok) (l : Addr) (its : List Value) (c : Nat) (szs : List Nat) (hi : IntsAre its (szs.map fun (x : Nat) => (x : Int))) (hz : szs.length ≤ 4) (hb : ∀ a ∈ szs, 1 ≤ a ∧ a ≤ 3) : CtrR PySem.Challenge.rw_wn0028_01.prog w (Mine.hd.heap_1 w.params) PySem.W.topProg 2 30 112 [.int (n : Int) u, .ref l] [(l, listOf its.toArray c)] (fun v tl => ∃ f ws k, v = .ref f ∧ tl = [(f, listOf ws.toArray k)] ∧ IntsAre ws ((figsF n 0 0 szs).map fun (x : Nat) => (x : Int))) := figuresA.seg9.2 ⟨figuresA.all9⟩ w n u l its c szs hi hz hb

end Mine
namespace Mine
theorem reset_number : True := by
  w_top off
  trivial
/-- the number of these figures to the base 16 -/
noncomputable def num16 (acc : Int) (ns : List Int) : Int := ns.foldl (fun a n => 16 * a + n) acc
set_option maxRecDepth 100000 in
set_option maxHeartbeats 4000000 in
theorem number (w : World) (l : Addr) (its : List Value) (c : Nat) (ns : List Int) (hi : IntsAre its ns) (hn : ns.length ≤ 10) (hb : ∀ k ∈ ns, 0 ≤ k ∧ k < 16) :
   CtrR PySem.Challenge.rw_wn0028_01.prog w (Mine.hd.heap_1 w.params) PySem.W.topProg 2 30 119 [.ref l] [(l, listOf its.toArray c)] (fun v tl => tl = [] ∧ ∃ tk, v = .int (num16 0 ns) tk) := by
   intro loose mean mg mb rest dp un gd cn cs a ccd cl outer A₀ base h₀ L m s R hled B F₀ X N₀ T hk hd hu hret
   k_with_none
   have hm := hled _ (.head _)
   k_with "exec For Name Name cons nil" => refine stop_in ?_
   k_with "pyIter ref" => refine stop_in ?_
   k_dflt cell_enter
   k_steps
   refine stop_out ?_
   refine wpAny_For ?_
   k_steps
   refine stop_out ?_
   refine for_listR (σ := Int × Tok) (env := envOf _ _ _ _ _) (by k_asm) (by k_asm) hm rfl (fun y => [(Str.ofString "number", .int y.1 y.2)]) (fun i y => 0 ≤ y.1 ∧ y.1 < 16 ^ i ∧ num16 y.1 (ns.drop i) = num16 0 ns) (_, _) ⟨rfl, trivial⟩ ⟨by show (0:Int) ≤ 0; decide, by show (0:Int) < 16 ^ 0; decide, rfl⟩ ?_ ?_
   · intro i v y h tk m₁ own hv hok F N
     obtain ⟨z, tz⟩ := y
     obtain ⟨k, tk9, rfl, hk9⟩ := ints_at hi hv
     obtain ⟨hz0, hz1, hz2⟩ := hok
     have hkb := hb k (List.mem_of_getElem? hk9)
     dsimp only [mB] at *
     k_steps
     have hd9 : ns.drop i = k :: ns.drop (i + 1) := by
       obtain ⟨h1, e⟩ := List.getElem?_eq_some_iff.mp hk9
       rw [List.drop_eq_getElem_cons h1, e]
     refine ListEnd.mk (16 * z + k, _) (by k_asm) (by k_asm) ⟨rfl, trivial⟩ (fun p hp => hp) ⟨by show 0 ≤ 16 * z + k; omega, by show 16 * z + k < 16 ^ (i + 1); rw [Int.pow_succ]; omega, ?_⟩
     rw [hd9] at hz2
     exact hz2
   · intro h' tk m₁ y hok F N
     obtain ⟨z, tz⟩ := y
     obtain ⟨hz0, hz1, hz2⟩ := hok
     dsimp only [mB] at *
     k_steps
     rw [show ns.drop its.length = [] by rw [IntsAre.length hi]; simp] at hz2
     rw [show num16 0 ns = z from hz2.symm] at hret
     exact hret _ [] _ _ ⟨rfl, _, rfl⟩ (fun _ _ _ h => nomatch h) (by k_asm) (by k_asm)

end Mine
namespace Mine
theorem reset_int2ap : True := by
  w_top off
  trivial
namespace int2ap
set_option maxRecDepth 100000 in
set_option maxHeartbeats 4000000 in
noncomputable def seg9 : {p : PySem.World → Int → Nat → (List PySem.Str) → (PySem.ExcName → Option PySem.Value) → (PySem.Str → Option PySem.Value) → (PySem.Str → Option PySem.Value) → (List (PySem.Addr × PySem.Obj)) → Nat → Nat → (Option (List PySem.Code)) → PySem.Str → PySem.Scope → PySem.Addr → PySem.Value → (List (PySem.Str × PySem.Addr)) → (List PySem.Env) → PySem.Heap → PySem.Addr → (PySem.Str → Option PySem.Value) → PySem.Shared → (PySem.Result → PySem.Shared → Prop) → PySem.Heap → PySem.Addr → PySem.Heap → Nat → PySem.Heap → Nat → (PySem.Str → Option PySem.Value) → Int → PySem.Tok → (List UInt8) → PySem.Tok → PySem.Tok → Prop // Hid (∀ a0 a1 a2 a3 a4 a5 a6 a7 a8 a9 a10 a11 a12 a13 a14 a15 a16 a17 a18 a19 a20 a21 a22 a23 a24 a25 a26 a27 a28 a29 a30 a31 a32 a33, p a0 a1 a2 a3 a4 a5 a6 a7 a8 a9 a10 a11 a12 a13 a14 a15 a16 a17 a18 a19 a20 a21 a22 a23 a24 a25 a26 a27 a28 a29 a30 a31 a32 a33) → ∀ (w : World) (n : Int) (t : Tok) (J : Nat) (hJ : n.natAbs < 16^J) (hJ2 : J ≤ 1000), CtrR PySem.Challenge.rw_wn0028_01.prog w (Mine.hd.heap_1 w.params) PySem.W.topProg 1 8 35 [.int n t] [] (fun v tl => tl = [] ∧ ∃ tk, v = .bytes (apF J n.natAbs []).toArray tk)} := segOf (by
   intro ht9
   intro w n t J hJ hJ2
   intro loose mean mg mb rest dp un gd cn cs a ccd cl outer A₀ base h₀ L m s R hled B F₀ X N₀ T hk hd hu hret
   k_with_none
   k_dflt cell_enter
   (k_with "exec While Name cons nil" => (refine stop_in ?_))
   k_steps
   refine stop_out ?_
   refine while_st (σ := apSt) (env := envOf _ _ _ _ _) (fun x => [(Str.ofString "num", .int x.1 x.2.1), (Str.ofString "val", .bytes x.2.2.1.toArray x.2.2.2.1), (Str.ofString "AP", .bytes APs.toArray x.2.2.2.2)]) (fun _ => rest) (fun j x => 0 ≤ x.1 ∧ x.1.toNat < 16^j ∧ x.2.2.1.length + j ≤ 1000 ∧ apF j x.1.toNat x.2.2.1 = apF J n.natAbs []) J (_, _, [], _, _) (by assumption) (by assumption) ⟨rfl, rfl, rfl, trivial⟩ (fun p hp => hp) ?_ ?_
   · have e : ∀ (a : Int), (a = if n < 0 then -n else n) → 0 ≤ a ∧ a.toNat < 16^J ∧ ([] : List UInt8).length + J ≤ 1000 ∧ apF J a.toNat [] = apF J n.natAbs [] := by
       intro a ha
       have : a = n.natAbs := by rw [ha]; split <;> omega
       subst this
       exact ⟨by omega, by simpa using hJ, by simpa using hJ2, by simp⟩
     exact e _ rfl
   · intro j x h tk m₁ hok F N
     obtain ⟨i, ti, v, tv, ta⟩ := x
     obtain ⟨h0, h1, h2, h3⟩ := hok
     dsimp only at h0 h1 h2 h3 F N
     dsimp only [mB] at F
     have hz : (List.toArray v).size ≤ 1000 := by simp; omega
     rename_i z1 z2 z3 y4 y5 y6 y7 z8 z9 z10 z11 z12 z13 y14 y15 z16
     clear t hJ hJ2 A₀ base hled B F₀ N₀ hk hd hu z3 y4 y5 z8 z9 z10 z11 z12 y14 y15
     revert X T hret y6 y7 qk ek j N F h0 h1 h2 h3 hz
     exact ht9.out w n J loose mean mg mb rest dp un gd cn cs a ccd cl outer h₀ L m s R z1 z2 z13 z16 h tk m₁ i ti v tv ta
)
noncomputable def G9 (d : PySem.World × Int × Nat × (List PySem.Str) × (PySem.ExcName → Option PySem.Value) × (PySem.Str → Option PySem.Value) × (PySem.Str → Option PySem.Value) × (List (PySem.Addr × PySem.Obj)) × Nat × Nat × (Option (List PySem.Code)) × PySem.Str × PySem.Scope × PySem.Addr × PySem.Value × (List (PySem.Str × PySem.Addr)) × (List PySem.Env) × PySem.Heap × PySem.Addr × (PySem.Str → Option PySem.Value) × PySem.Shared × (PySem.Result → PySem.Shared → Prop) × PySem.Heap × PySem.Addr × PySem.Heap × Nat × PySem.Heap × Nat × (PySem.Str → Option PySem.Value) × Int × PySem.Tok × (List UInt8) × PySem.Tok × PySem.Tok) : Prop := seg9.1 d.1 d.2.1 d.2.2.1 d.2.2.2.1 d.2.2.2.2.1 d.2.2.2.2.2.1 d.2.2.2.2.2.2.1 d.2.2.2.2.2.2.2.1 d.2.2.2.2.2.2.2.2.1 d.2.2.2.2.2.2.2.2.2.1 d.2.2.2.2.2.2.2.2.2.2.1 d.2.2.2.2.2.2.2.2.2.2.2.1 d.2.2.2.2.2.2.2.2.2.2.2.2.1 d.2.2.2.2.2.2.2.2.2.2.2.2.2.1 d.2.2.2.2.2.2.2.2.2.2.2.2.2.2.1 d.2.2.2.2.2.2.2.2.2.2.2.2.2.2.2.1 d.2.2.2.2.2.2.2.2.2.2.2.2.2.2.2.2.1 d.2.2.2.2.2.2.2.2.2.2.2.2.2.2.2.2.2.1 d.2.2.2.2.2.2.2.2.2.2.2.2.2.2.2.2.2.2.1 d.2.2.2.2.2.2.2.2.2.2.2.2.2.2.2.2.2.2.2.1 d.2.2.2.2.2.2.2.2.2.2.2.2.2.2.2.2.2.2.2.2.1 d.2.2.2.2.2.2.2.2.2.2.2.2.2.2.2.2.2.2.2.2.2.1 d.2.2.2.2.2.2.2.2.2.2.2.2.2.2.2.2.2.2.2.2.2.2.1 d.2.2.2.2.2.2.2.2.2.2.2.2.2.2.2.2.2.2.2.2.2.2.2.1 d.2.2.2.2.2.2.2.2.2.2.2.2.2.2.2.2.2.2.2.2.2.2.2.2.1 d.2.2.2.2.2.2.2.2.2.2.2.2.2.2.2.2.2.2.2.2.2.2.2.2.2.1 d.2.2.2.2.2.2.2.2.2.2.2.2.2.2.2.2.2.2.2.2.2.2.2.2.2.2.1 d.2.2.2.2.2.2.2.2.2.2.2.2.2.2.2.2.2.2.2.2.2.2.2.2.2.2.2.1 d.2.2.2.2.2.2.2.2.2.2.2.2.2.2.2.2.2.2.2.2.2.2.2.2.2.2.2.2.1 d.2.2.2.2.2.2.2.2.2.2.2.2.2.2.2.2.2.2.2.2.2.2.2.2.2.2.2.2.2.1 d.2.2.2.2.2.2.2.2.2.2.2.2.2.2.2.2.2.2.2.2.2.2.2.2.2.2.2.2.2.2.1 d.2.2.2.2.2.2.2.2.2.2.2.2.2.2.2.2.2.2.2.2.2.2.2.2.2.2.2.2.2.2.2.1 d.2.2.2.2.2.2.2.2.2.2.2.2.2.2.2.2.2.2.2.2.2.2.2.2.2.2.2.2.2.2.2.2.1 d.2.2.2.2.2.2.2.2.2.2.2.2.2.2.2.2.2.2.2.2.2.2.2.2.2.2.2.2.2.2.2.2.2
noncomputable def tup9z : PySem.World × Int × Nat × (List PySem.Str) × (PySem.ExcName → Option PySem.Value) × (PySem.Str → Option PySem.Value) × (PySem.Str → Option PySem.Value) × (List (PySem.Addr × PySem.Obj)) × Nat × Nat × (Option (List PySem.Code)) × PySem.Str × PySem.Scope × PySem.Addr × PySem.Value × (List (PySem.Str × PySem.Addr)) × (List PySem.Env) × PySem.Heap × PySem.Addr × (PySem.Str → Option PySem.Value) × PySem.Shared × (PySem.Result → PySem.Shared → Prop) × PySem.Heap × PySem.Addr × PySem.Heap × Nat × PySem.Heap × Nat × (PySem.Str → Option PySem.Value) × Int × PySem.Tok × (List UInt8) × PySem.Tok × PySem.Tok := hen (World9, (0 : Int), (0 : Nat), [], (fun _ => none), (fun _ => none), (fun _ => none), [], (0 : Nat), (0 : Nat), none, (default : Str), (default : Scope), (0 : Nat), (default : Value), [], [], (default : Heap), (0 : Nat), (fun _ => none), ({} : Shared), (fun _ => (fun _ => True)), (default : Heap), (0 : Nat), (default : Heap), (0 : Nat), (default : Heap), (0 : Nat), (fun _ => none), (0 : Int), (0 : Nat), [], (0 : Nat), (0 : Nat)) G9
noncomputable def w : PySem.World := tup9z.1
noncomputable def n : Int := tup9z.2.1
noncomputable def J : Nat := tup9z.2.2.1
noncomputable def loose : List PySem.Str := tup9z.2.2.2.1
noncomputable def mean : PySem.ExcName → Option PySem.Value := tup9z.2.2.2.2.1
noncomputable def mg : PySem.Str → Option PySem.Value := tup9z.2.2.2.2.2.1
noncomputable def mb : PySem.Str → Option PySem.Value := tup9z.2.2.2.2.2.2.1
noncomputable def rest : List (PySem.Addr × PySem.Obj) := tup9z.2.2.2.2.2.2.2.1
noncomputable def dp : Nat := tup9z.2.2.2.2.2.2.2.2.1
noncomputable def un : Nat := tup9z.2.2.2.2.2.2.2.2.2.1
noncomputable def gd : Option (List PySem.Code) := tup9z.2.2.2.2.2.2.2.2.2.2.1
noncomputable def cn : PySem.Str := tup9z.2.2.2.2.2.2.2.2.2.2.2.1
noncomputable def cs : PySem.Scope := tup9z.2.2.2.2.2.2.2.2.2.2.2.2.1
noncomputable def a : PySem.Addr := tup9z.2.2.2.2.2.2.2.2.2.2.2.2.2.1
noncomputable def ccd : PySem.Value := tup9z.2.2.2.2.2.2.2.2.2.2.2.2.2.2.1
noncomputable def cl : List (PySem.Str × PySem.Addr) := tup9z.2.2.2.2.2.2.2.2.2.2.2.2.2.2.2.1
noncomputable def outer : List PySem.Env := tup9z.2.2.2.2.2.2.2.2.2.2.2.2.2.2.2.2.1
noncomputable def h₀ : PySem.Heap := tup9z.2.2.2.2.2.2.2.2.2.2.2.2.2.2.2.2.2.1
noncomputable def L : PySem.Addr := tup9z.2.2.2.2.2.2.2.2.2.2.2.2.2.2.2.2.2.2.1
noncomputable def m : PySem.Str → Option PySem.Value := tup9z.2.2.2.2.2.2.2.2.2.2.2.2.2.2.2.2.2.2.2.1
noncomputable def s : PySem.Shared := tup9z.2.2.2.2.2.2.2.2.2.2.2.2.2.2.2.2.2.2.2.2.1
noncomputable def R : PySem.Result → PySem.Shared → Prop := tup9z.2.2.2.2.2.2.2.2.2.2.2.2.2.2.2.2.2.2.2.2.2.1
noncomputable def z1 : PySem.Heap := tup9z.2.2.2.2.2.2.2.2.2.2.2.2.2.2.2.2.2.2.2.2.2.2.1
noncomputable def z2 : PySem.Addr := tup9z.2.2.2.2.2.2.2.2.2.2.2.2.2.2.2.2.2.2.2.2.2.2.2.1
noncomputable def z13 : PySem.Heap := tup9z.2.2.2.2.2.2.2.2.2.2.2.2.2.2.2.2.2.2.2.2.2.2.2.2.1
noncomputable def z16 : Nat := tup9z.2.2.2.2.2.2.2.2.2.2.2.2.2.2.2.2.2.2.2.2.2.2.2.2.2.1
noncomputable def h : PySem.Heap := tup9z.2.2.2.2.2.2.2.2.2.2.2.2.2.2.2.2.2.2.2.2.2.2.2.2.2.2.1
noncomputable def tk : Nat := tup9z.2.2.2.2.2.2.2.2.2.2.2.2.2.2.2.2.2.2.2.2.2.2.2.2.2.2.2.1
noncomputable def m₁ : PySem.Str → Option PySem.Value := tup9z.2.2.2.2.2.2.2.2.2.2.2.2.2.2.2.2.2.2.2.2.2.2.2.2.2.2.2.2.1
noncomputable def i : Int := tup9z.2.2.2.2.2.2.2.2.2.2.2.2.2.2.2.2.2.2.2.2.2.2.2.2.2.2.2.2.2.1
noncomputable def ti : PySem.Tok := tup9z.2.2.2.2.2.2.2.2.2.2.2.2.2.2.2.2.2.2.2.2.2.2.2.2.2.2.2.2.2.2.1
noncomputable def v : List UInt8 := tup9z.2.2.2.2.2.2.2.2.2.2.2.2.2.2.2.2.2.2.2.2.2.2.2.2.2.2.2.2.2.2.2.1
noncomputable def tv : PySem.Tok := tup9z.2.2.2.2.2.2.2.2.2.2.2.2.2.2.2.2.2.2.2.2.2.2.2.2.2.2.2.2.2.2.2.2.1
noncomputable def ta : PySem.Tok := tup9z.2.2.2.2.2.2.2.2.2.2.2.2.2.2.2.2.2.2.2.2.2.2.2.2.2.2.2.2.2.2.2.2.2
set_option maxRecDepth 100000 in
set_option maxHeartbeats 4000000 in
theorem main9 : seg9.1 w n J loose mean mg mb rest dp un gd cn cs a ccd cl outer h₀ L m s R z1 z2 z13 z16 h tk m₁ i ti v tv ta := by
     delta seg9 segOf
     dsimp -zeta only
     intro X T hret y6 y7 qk ek j N F h0 h1 h2 h3 hz
     (k_with "subscriptTail Name Slice bytes ref" => ((with_reducible rename Fr _ _ _ _ => F'); (with_reducible rename News _ _ _ _ => N'); (refine KBc.slice_K (s := ⟨_, _, _, _, _⟩) F' N' (ks := KBw.bInts APs.toArray) rfl (by constructor) (by constructor) (by decide) ?_); intro _ _ _ _ _ _; rw [ap_pick _ (by assumption)]))
     (k_with "binaryOp Add bytes bytes" => (refine bytes_add_K (by simp only [List.size_toArray, List.length_cons, List.length_nil] at *; omega) rfl ?_; intro _ _))
     k_steps
     · refine TurnEnd.mk (j-1) (_, _, _, _, _) ?_ (by assumption) (by assumption) ⟨rfl, rfl, rfl, trivial⟩ (fun p hp => by first | exact hp | exact List.mem_cons_of_mem _ hp) ?_
       · have : j ≠ 0 := by rintro rfl; simp at h1; omega
         omega
       · have hj : j ≠ 0 := by rintro rfl; simp at h1; omega
         obtain ⟨j', rfl⟩ : ∃ j', j = j' + 1 := ⟨j - 1, by omega⟩
         refine ⟨by have := Int.fdiv_eq_ediv_of_nonneg i (b := 16) (by decide); show 0 ≤ i.fdiv 16; omega, ?_, ?_, ?_⟩
         · have := Int.fdiv_eq_ediv_of_nonneg i (b := 16) (by decide)
           show (i.fdiv 16).toNat < 16 ^ j'
           have e : (i.fdiv 16).toNat = i.toNat / 16 := by rw [this]; omega
           rw [e]; rw [Nat.pow_succ] at h1; omega
         · show (UInt8.ofNat (65 + i.toNat % 16) :: v).length + j' ≤ 1000
           simp only [List.length_cons]; omega
         · exact (ap_next i h0 (by assumption) j' v).symm.trans h3
     · have e : apF j i.toNat v = v := by
         have : i.toNat = 0 := by omega
         rw [this]; cases j <;> simp [apF]
       rw [← h3, e] at hret
       exact hret _ [] _ _ ⟨rfl, _, rfl⟩ (fun _ _ _ h => nomatch h) (by assumption) (by assumption)

set_option maxRecDepth 100000 in
set_option maxHeartbeats 4000000 in
theorem all9 : ∀ a0 a1 a2 a3 a4 a5 a6 a7 a8 a9 a10 a11 a12 a13 a14 a15 a16 a17 a18 a19 a20 a21 a22 a23 a24 a25 a26 a27 a28 a29 a30 a31 a32 a33, seg9.1 a0 a1 a2 a3 a4 a5 a6 a7 a8 a9 a10 a11 a12 a13 a14 a15 a16 a17 a18 a19 a20 a21 a22 a23 a24 a25 a26 a27 a28 a29 a30 a31 a32 a33 := fun a0 a1 a2 a3 a4 a5 a6 a7 a8 a9 a10 a11 a12 a13 a14 a15 a16 a17 a18 a19 a20 a21 a22 a23 a24 a25 a26 a27 a28 a29 a30 a31 a32 a33 => hen_all (G := G9) main9 (a0, a1, a2, a3, a4, a5, a6, a7, a8, a9, a10, a11, a12, a13, a14, a15, a16, a17, a18, a19, a20, a21, a22, a23, a24, a25, a26, a27, a28, a29, a30, a31, a32, a33)
end int2ap
theorem int2ap (w : World) (n : Int) (t : Tok) (J : Nat) (hJ : n.natAbs < 16^J) (hJ2 : J ≤ 1000) : CtrR PySem.Challenge.rw_wn0028_01.prog w (Mine.hd.heap_1 w.params) PySem.W.topProg 1 8 35 [.int n t] [] (fun v tl => tl = [] ∧ ∃ tk, v = .bytes (apF J n.natAbs []).toArray tk) := int2ap.seg9.2 ⟨int2ap.all9⟩ w n t J hJ hJ2

end Mine
namespace Mine
theorem reset_word : True := by
  w_top off
  trivial
set_option maxRecDepth 100000 in
set_option maxHeartbeats 4000000 in
theorem word (w : World) (n : Int) (t : Tok) (J : Nat) (hJ : n.natAbs < 16^J) (hJ2 : J ≤ 1000) :
   CtrR PySem.Challenge.rw_wn0028_01.prog w (Mine.hd.heap_1 w.params) PySem.W.topProg 2 30 124 [.int n t] [] (fun v tl => tl = [] ∧ ∃ y tk, v = .str y tk ∧ y.cps.toList = (apF J n.natAbs []).map (·.toNat)) := by
   intro loose mean mg mb rest dp un gd cn cs a ccd cl outer A₀ base h₀ L m s R hled B F₀ X N₀ T hk hd hu hret
   k_with_none
   k_with "call ref cons nil" => (refine' CtrR.use (int2ap _ _ _ J hJ hJ2) ?kl ?k1 ?k2 ?k3 ?k4 ?k5 ?kK ?kd ?ku ?_; ((case kl => (repeat' first | exact List.forall_mem_nil _ | refine mem_cons_all ?_ ?_ | exact sub_refl | refine sub_tail ?_ | k_mem)); (case k1 => k_asm); (case k2 => k_asm); (case k3 => k_asm); (case k4 => k_asm); (case k5 => k_asm); (case kK => first | exact rfl | assumption); (case kd => ktr_room); (case ku => ktr_units)); intro v9 tl9 h9 tk9 hp9 hlt9 F9 N9; obtain ⟨rfl, tk8, rfl⟩ := hp9; dsimp only)
   k_with "eval ListComp" => refine stop_in ?_
   k_dflt cell_enter
   k_steps
   refine stop_out ?_
   refine ListComp_S (F₀ := by k_asm) (by with_unfolding_all rfl) (by decide) (by rfl) (by decide) (by rfl) ?_
   k_steps
   refine SrcTB.bytes rfl (by k_asm) (by k_asm) ?_ (fun g => compRest_ind (fun i ys news => news = rest ∧ StrsAre ys (((apF J n.natAbs []).take i).map fun c => ⟨#[c.toNat]⟩)) ?_ ?_ _ 0 [] _ (Nat.zero_add _).symm ?_)
   · have := apF_len J n.natAbs []
     rw [List.size_toArray, sizeLine_eq]; simp only [List.length_nil] at this; omega
   · intro i ys news v I oI C oC D m₂ h tk E' hi hj hP hC hx F' N' off ne
     obtain ⟨rfl, hs⟩ := hj
     obtain ⟨c, u, hc, rfl⟩ := hP
     have hb := c.toNat_lt
     k_steps
     refine CompEnd.intro (by k_asm) (by k_asm) news (fun p hp => hp) off trivial ⟨rfl, ?_⟩
     have hc' : (apF J n.natAbs [])[i]? = some c := by simpa using hc
     rw [List.take_add_one, hc', List.map_append]
     exact KStt.strs_snoc hs
   · intro ys news hj
     obtain ⟨rfl, hs⟩ := hj
     k_steps
     have hz := apF_len J n.natAbs []
     rw [show (apF J n.natAbs []).toArray.size = (apF J n.natAbs []).length by simp, List.take_length] at hs
     refine join_list (by is_list) hs ?_ ?_
     · rw [len_ones]; simp only [List.length_nil, List.length_map] at *
       show _ + _ * 0 ≤ _
       omega
     · intro t' k
       k_steps
       exact hret _ [] _ _ ⟨rfl, _, _, rfl, glue_ones _⟩ (fun _ _ _ h => nomatch h) (by k_asm) (news_of (by k_asm) fun p hp => List.mem_cons_of_mem _ hp)
   · exact ⟨rfl, .nil⟩

end Mine
namespace Mine
theorem reset_spelled : True := by
  w_top off
  trivial
namespace spelled
set_option maxRecDepth 100000 in
set_option maxHeartbeats 4000000 in
noncomputable def seg9 : {p : PySem.World → PySem.Str → PySem.Tok → Nat → PySem.Tok → (List PySem.Str) → (PySem.ExcName → Option PySem.Value) → (PySem.Str → Option PySem.Value) → (PySem.Str → Option PySem.Value) → (List (PySem.Addr × PySem.Obj)) → Nat → Nat → (Option (List PySem.Code)) → PySem.Str → PySem.Scope → PySem.Addr → PySem.Value → (List (PySem.Str × PySem.Addr)) → (List PySem.Env) → PySem.Around → PySem.Heap → PySem.Heap → PySem.Addr → (PySem.Str → Option PySem.Value) → PySem.Shared → (PySem.Result → PySem.Shared → Prop) → PySem.Heap → PySem.Addr → PySem.Heap → Nat → PySem.Heap → PySem.Heap → PySem.Addr → Nat → PySem.Tok → PySem.Heap → Nat → (PySem.Str → Option PySem.Value) → (List (PySem.Addr × PySem.Obj)) → PySem.Str → PySem.Tok → PySem.Tok → Nat → Prop // Hid (∀ a0 a1 a2 a3 a4 a5 a6 a7 a8 a9 a10 a11 a12 a13 a14 a15 a16 a17 a18 a19 a20 a21 a22 a23 a24 a25 a26 a27 a28 a29 a30 a31 a32 a33 a34 a35 a36 a37 a38 a39 a40 a41 a42, p a0 a1 a2 a3 a4 a5 a6 a7 a8 a9 a10 a11 a12 a13 a14 a15 a16 a17 a18 a19 a20 a21 a22 a23 a24 a25 a26 a27 a28 a29 a30 a31 a32 a33 a34 a35 a36 a37 a38 a39 a40 a41 a42) → ∀ (w : World) (x : Str) (t : Tok) (n : Nat) (u : Tok) (hx : x.cps.size ≤ 10) (hn : n < 10 ^ 9), CtrR PySem.Challenge.rw_wn0028_01.prog w (Mine.hd.heap_1 w.params) PySem.W.topProg 2 30 131 [.str x t, .int (n : Int) u] [] (fun v tl => tl = [] ∧ ∃ y tk, v = .str y tk ∧ y.cps.toList = spellN n 0 x.cps.toList)} := segOf (by
   intro ht9
   intro w x t n u hx hn
   intro loose mean mg mb rest dp un gd cn cs a ccd cl outer A₀ base h₀ L m s R hled B F₀ X N₀ T hk hd hu hret
   k_with_none
   k_with "pyIter ref" => refine stop_in ?_
   k_dflt cell_enter
   k_steps
   refine stop_out ?_
   refine pair_st (σ := Str × Tok) (env := envOf _ _ _ _ _) (by assumption) rfl (fun y => [(Str.ofString "letters", .str x t), (Str.ofString "total", .int (n : Int) u), (Str.ofString "text", .str y.1 y.2)]) (fun _ => rest) (fun i y => y.1.cps.toList ++ spellN n i (x.cps.toList.drop i) = spellN n 0 x.cps.toList ∧ y.1.length ≤ 5 * i) (Str.ofString "", _) ⟨rfl, rfl, rfl, trivial⟩ rfl ?_ ?_ ?_
   · exact ⟨by rw [ofEmpty]; rfl, by show (Str.ofString "").length ≤ 5 * 0; decide +kernel⟩
   · intro i a y t9 v h tk m₁ own ha hv hok hoff F N
     obtain ⟨text, tt⟩ := y
     obtain ⟨t8, rfl⟩ := ItemKind.str_is hv
     have hi : i < 10 := by
       have := (List.getElem?_eq_some_iff.mp ha).1
       simp [signs] at this; omega
     obtain ⟨c9, rfl⟩ : ∃ c9, a = (⟨#[c9]⟩ : Str) := by
       have := List.mem_of_getElem? ha
       simp [signs] at this
       obtain ⟨c, _, e⟩ := this
       exact ⟨c, e.symm⟩
     dsimp only [mB] at *
     have hpow : (16 : Int) ^ ((i : Int)).toNat ≠ 0 := by
       have : (0 : Int) < 16 ^ ((i : Int)).toNat := Int.pow_pos (by decide)
       omega
     rename_i z1 z2 z3 y4 y5 y6 y7 z8 z9 y10 y11 z12 z13 y14 y15 y16
     revert hx hn hled B F₀ X N₀ T hk hd hu hret y4 y5 y6 y7 qk ek y10 y11 y14 y15 y16 hoff N hok hi ha hv F hpow
     exact ht9.out w x t n u loose mean mg mb rest dp un gd cn cs a ccd cl outer A₀ base h₀ L m s R z1 z2 z3 z8 z9 z12 z13 i t9 h tk m₁ own text tt t8 c9
   · intro h' tk m₁ y hok F N
     obtain ⟨text, tt⟩ := y
     dsimp only [mB] at *
     k_steps
     refine hret _ [] _ _ ⟨rfl, text, _, rfl, ?_⟩ (fun _ _ _ h => nomatch h) (by k_asm) (by k_asm)
     have := hok.1
     rw [show List.drop (signs x).length x.cps.toList = [] by simp [signs]] at this
     simpa [spellN] using this)
noncomputable def G9 (d : PySem.World × PySem.Str × PySem.Tok × Nat × PySem.Tok × (List PySem.Str) × (PySem.ExcName → Option PySem.Value) × (PySem.Str → Option PySem.Value) × (PySem.Str → Option PySem.Value) × (List (PySem.Addr × PySem.Obj)) × Nat × Nat × (Option (List PySem.Code)) × PySem.Str × PySem.Scope × PySem.Addr × PySem.Value × (List (PySem.Str × PySem.Addr)) × (List PySem.Env) × PySem.Around × PySem.Heap × PySem.Heap × PySem.Addr × (PySem.Str → Option PySem.Value) × PySem.Shared × (PySem.Result → PySem.Shared → Prop) × PySem.Heap × PySem.Addr × PySem.Heap × Nat × PySem.Heap × PySem.Heap × PySem.Addr × Nat × PySem.Tok × PySem.Heap × Nat × (PySem.Str → Option PySem.Value) × (List (PySem.Addr × PySem.Obj)) × PySem.Str × PySem.Tok × PySem.Tok × Nat) : Prop := seg9.1 d.1 d.2.1 d.2.2.1 d.2.2.2.1 d.2.2.2.2.1 d.2.2.2.2.2.1 d.2.2.2.2.2.2.1 d.2.2.2.2.2.2.2.1 d.2.2.2.2.2.2.2.2.1 d.2.2.2.2.2.2.2.2.2.1 d.2.2.2.2.2.2.2.2.2.2.1 d.2.2.2.2.2.2.2.2.2.2.2.1 d.2.2.2.2.2.2.2.2.2.2.2.2.1 d.2.2.2.2.2.2.2.2.2.2.2.2.2.1 d.2.2.2.2.2.2.2.2.2.2.2.2.2.2.1 d.2.2.2.2.2.2.2.2.2.2.2.2.2.2.2.1 d.2.2.2.2.2.2.2.2.2.2.2.2.2.2.2.2.1 d.2.2.2.2.2.2.2.2.2.2.2.2.2.2.2.2.2.1 d.2.2.2.2.2.2.2.2.2.2.2.2.2.2.2.2.2.2.1 d.2.2.2.2.2.2.2.2.2.2.2.2.2.2.2.2.2.2.2.1 d.2.2.2.2.2.2.2.2.2.2.2.2.2.2.2.2.2.2.2.2.1 d.2.2.2.2.2.2.2.2.2.2.2.2.2.2.2.2.2.2.2.2.2.1 d.2.2.2.2.2.2.2.2.2.2.2.2.2.2.2.2.2.2.2.2.2.2.1 d.2.2.2.2.2.2.2.2.2.2.2.2.2.2.2.2.2.2.2.2.2.2.2.1 d.2.2.2.2.2.2.2.2.2.2.2.2.2.2.2.2.2.2.2.2.2.2.2.2.1 d.2.2.2.2.2.2.2.2.2.2.2.2.2.2.2.2.2.2.2.2.2.2.2.2.2.1 d.2.2.2.2.2.2.2.2.2.2.2.2.2.2.2.2.2.2.2.2.2.2.2.2.2.2.1 d.2.2.2.2.2.2.2.2.2.2.2.2.2.2.2.2.2.2.2.2.2.2.2.2.2.2.2.1 d.2.2.2.2.2.2.2.2.2.2.2.2.2.2.2.2.2.2.2.2.2.2.2.2.2.2.2.2.1 d.2.2.2.2.2.2.2.2.2.2.2.2.2.2.2.2.2.2.2.2.2.2.2.2.2.2.2.2.2.1 d.2.2.2.2.2.2.2.2.2.2.2.2.2.2.2.2.2.2.2.2.2.2.2.2.2.2.2.2.2.2.1 d.2.2.2.2.2.2.2.2.2.2.2.2.2.2.2.2.2.2.2.2.2.2.2.2.2.2.2.2.2.2.2.1 d.2.2.2.2.2.2.2.2.2.2.2.2.2.2.2.2.2.2.2.2.2.2.2.2.2.2.2.2.2.2.2.2.1 d.2.2.2.2.2.2.2.2.2.2.2.2.2.2.2.2.2.2.2.2.2.2.2.2.2.2.2.2.2.2.2.2.2.1 d.2.2.2.2.2.2.2.2.2.2.2.2.2.2.2.2.2.2.2.2.2.2.2.2.2.2.2.2.2.2.2.2.2.2.1 d.2.2.2.2.2.2.2.2.2.2.2.2.2.2.2.2.2.2.2.2.2.2.2.2.2.2.2.2.2.2.2.2.2.2.2.1 d.2.2.2.2.2.2.2.2.2.2.2.2.2.2.2.2.2.2.2.2.2.2.2.2.2.2.2.2.2.2.2.2.2.2.2.2.1 d.2.2.2.2.2.2.2.2.2.2.2.2.2.2.2.2.2.2.2.2.2.2.2.2.2.2.2.2.2.2.2.2.2.2.2.2.2.1 d.2.2.2.2.2.2.2.2.2.2.2.2.2.2.2.2.2.2.2.2.2.2.2.2.2.2.2.2.2.2.2.2.2.2.2.2.2.2.1 d.2.2.2.2.2.2.2.2.2.2.2.2.2.2.2.2.2.2.2.2.2.2.2.2.2.2.2.2.2.2.2.2.2.2.2.2.2.2.2.1 d.2.2.2.2.2.2.2.2.2.2.2.2.2.2.2.2.2.2.2.2.2.2.2.2.2.2.2.2.2.2.2.2.2.2.2.2.2.2.2.2.1 d.2.2.2.2.2.2.2.2.2.2.2.2.2.2.2.2.2.2.2.2.2.2.2.2.2.2.2.2.2.2.2.2.2.2.2.2.2.2.2.2.2.1 d.2.2.2.2.2.2.2.2.2.2.2.2.2.2.2.2.2.2.2.2.2.2.2.2.2.2.2.2.2.2.2.2.2.2.2.2.2.2.2.2.2.2
noncomputable def tup9z : PySem.World × PySem.Str × PySem.Tok × Nat × PySem.Tok × (List PySem.Str) × (PySem.ExcName → Option PySem.Value) × (PySem.Str → Option PySem.Value) × (PySem.Str → Option PySem.Value) × (List (PySem.Addr × PySem.Obj)) × Nat × Nat × (Option (List PySem.Code)) × PySem.Str × PySem.Scope × PySem.Addr × PySem.Value × (List (PySem.Str × PySem.Addr)) × (List PySem.Env) × PySem.Around × PySem.Heap × PySem.Heap × PySem.Addr × (PySem.Str → Option PySem.Value) × PySem.Shared × (PySem.Result → PySem.Shared → Prop) × PySem.Heap × PySem.Addr × PySem.Heap × Nat × PySem.Heap × PySem.Heap × PySem.Addr × Nat × PySem.Tok × PySem.Heap × Nat × (PySem.Str → Option PySem.Value) × (List (PySem.Addr × PySem.Obj)) × PySem.Str × PySem.Tok × PySem.Tok × Nat := hen (World9, (default : Str), (0 : Nat), (0 : Nat), (0 : Nat), [], (fun _ => none), (fun _ => none), (fun _ => none), [], (0 : Nat), (0 : Nat), none, (default : Str), (default : Scope), (0 : Nat), (default : Value), [], [], ({} : Around), (default : Heap), (default : Heap), (0 : Nat), (fun _ => none), ({} : Shared), (fun _ => (fun _ => True)), (default : Heap), (0 : Nat), (default : Heap), (0 : Nat), (default : Heap), (default : Heap), (0 : Nat), (0 : Nat), (0 : Nat), (default : Heap), (0 : Nat), (fun _ => none), [], (default : Str), (0 : Nat), (0 : Nat), (0 : Nat)) G9
noncomputable def w : PySem.World := tup9z.1
noncomputable def x : PySem.Str := tup9z.2.1
noncomputable def t : PySem.Tok := tup9z.2.2.1
noncomputable def n : Nat := tup9z.2.2.2.1
noncomputable def u : PySem.Tok := tup9z.2.2.2.2.1
noncomputable def loose : List PySem.Str := tup9z.2.2.2.2.2.1
noncomputable def mean : PySem.ExcName → Option PySem.Value := tup9z.2.2.2.2.2.2.1
noncomputable def mg : PySem.Str → Option PySem.Value := tup9z.2.2.2.2.2.2.2.1
noncomputable def mb : PySem.Str → Option PySem.Value := tup9z.2.2.2.2.2.2.2.2.1
noncomputable def rest : List (PySem.Addr × PySem.Obj) := tup9z.2.2.2.2.2.2.2.2.2.1
noncomputable def dp : Nat := tup9z.2.2.2.2.2.2.2.2.2.2.1
noncomputable def un : Nat := tup9z.2.2.2.2.2.2.2.2.2.2.2.1
noncomputable def gd : Option (List PySem.Code) := tup9z.2.2.2.2.2.2.2.2.2.2.2.2.1
noncomputable def cn : PySem.Str := tup9z.2.2.2.2.2.2.2.2.2.2.2.2.2.1
noncomputable def cs : PySem.Scope := tup9z.2.2.2.2.2.2.2.2.2.2.2.2.2.2.1
noncomputable def a : PySem.Addr := tup9z.2.2.2.2.2.2.2.2.2.2.2.2.2.2.2.1
noncomputable def ccd : PySem.Value := tup9z.2.2.2.2.2.2.2.2.2.2.2.2.2.2.2.2.1
noncomputable def cl : List (PySem.Str × PySem.Addr) := tup9z.2.2.2.2.2.2.2.2.2.2.2.2.2.2.2.2.2.1
noncomputable def outer : List PySem.Env := tup9z.2.2.2.2.2.2.2.2.2.2.2.2.2.2.2.2.2.2.1
noncomputable def A₀ : PySem.Around := tup9z.2.2.2.2.2.2.2.2.2.2.2.2.2.2.2.2.2.2.2.1
noncomputable def base : PySem.Heap := tup9z.2.2.2.2.2.2.2.2.2.2.2.2.2.2.2.2.2.2.2.2.1
noncomputable def h₀ : PySem.Heap := tup9z.2.2.2.2.2.2.2.2.2.2.2.2.2.2.2.2.2.2.2.2.2.1
noncomputable def L : PySem.Addr := tup9z.2.2.2.2.2.2.2.2.2.2.2.2.2.2.2.2.2.2.2.2.2.2.1
noncomputable def m : PySem.Str → Option PySem.Value := tup9z.2.2.2.2.2.2.2.2.2.2.2.2.2.2.2.2.2.2.2.2.2.2.2.1
noncomputable def s : PySem.Shared := tup9z.2.2.2.2.2.2.2.2.2.2.2.2.2.2.2.2.2.2.2.2.2.2.2.2.1
noncomputable def R : PySem.Result → PySem.Shared → Prop := tup9z.2.2.2.2.2.2.2.2.2.2.2.2.2.2.2.2.2.2.2.2.2.2.2.2.2.1
noncomputable def z1 : PySem.Heap := tup9z.2.2.2.2.2.2.2.2.2.2.2.2.2.2.2.2.2.2.2.2.2.2.2.2.2.2.1
noncomputable def z2 : PySem.Addr := tup9z.2.2.2.2.2.2.2.2.2.2.2.2.2.2.2.2.2.2.2.2.2.2.2.2.2.2.2.1
noncomputable def z3 : PySem.Heap := tup9z.2.2.2.2.2.2.2.2.2.2.2.2.2.2.2.2.2.2.2.2.2.2.2.2.2.2.2.2.1
noncomputable def z8 : Nat := tup9z.2.2.2.2.2.2.2.2.2.2.2.2.2.2.2.2.2.2.2.2.2.2.2.2.2.2.2.2.2.1
noncomputable def z9 : PySem.Heap := tup9z.2.2.2.2.2.2.2.2.2.2.2.2.2.2.2.2.2.2.2.2.2.2.2.2.2.2.2.2.2.2.1
noncomputable def z12 : PySem.Heap := tup9z.2.2.2.2.2.2.2.2.2.2.2.2.2.2.2.2.2.2.2.2.2.2.2.2.2.2.2.2.2.2.2.1
noncomputable def z13 : PySem.Addr := tup9z.2.2.2.2.2.2.2.2.2.2.2.2.2.2.2.2.2.2.2.2.2.2.2.2.2.2.2.2.2.2.2.2.1
noncomputable def i : Nat := tup9z.2.2.2.2.2.2.2.2.2.2.2.2.2.2.2.2.2.2.2.2.2.2.2.2.2.2.2.2.2.2.2.2.2.1
noncomputable def t9 : PySem.Tok := tup9z.2.2.2.2.2.2.2.2.2.2.2.2.2.2.2.2.2.2.2.2.2.2.2.2.2.2.2.2.2.2.2.2.2.2.1
noncomputable def h : PySem.Heap := tup9z.2.2.2.2.2.2.2.2.2.2.2.2.2.2.2.2.2.2.2.2.2.2.2.2.2.2.2.2.2.2.2.2.2.2.2.1
noncomputable def tk : Nat := tup9z.2.2.2.2.2.2.2.2.2.2.2.2.2.2.2.2.2.2.2.2.2.2.2.2.2.2.2.2.2.2.2.2.2.2.2.2.1
noncomputable def m₁ : PySem.Str → Option PySem.Value := tup9z.2.2.2.2.2.2.2.2.2.2.2.2.2.2.2.2.2.2.2.2.2.2.2.2.2.2.2.2.2.2.2.2.2.2.2.2.2.1
noncomputable def own : List (PySem.Addr × PySem.Obj) := tup9z.2.2.2.2.2.2.2.2.2.2.2.2.2.2.2.2.2.2.2.2.2.2.2.2.2.2.2.2.2.2.2.2.2.2.2.2.2.2.1
noncomputable def text : PySem.Str := tup9z.2.2.2.2.2.2.2.2.2.2.2.2.2.2.2.2.2.2.2.2.2.2.2.2.2.2.2.2.2.2.2.2.2.2.2.2.2.2.2.1
noncomputable def tt : PySem.Tok := tup9z.2.2.2.2.2.2.2.2.2.2.2.2.2.2.2.2.2.2.2.2.2.2.2.2.2.2.2.2.2.2.2.2.2.2.2.2.2.2.2.2.1
noncomputable def t8 : PySem.Tok := tup9z.2.2.2.2.2.2.2.2.2.2.2.2.2.2.2.2.2.2.2.2.2.2.2.2.2.2.2.2.2.2.2.2.2.2.2.2.2.2.2.2.2.1
noncomputable def c9 : Nat := tup9z.2.2.2.2.2.2.2.2.2.2.2.2.2.2.2.2.2.2.2.2.2.2.2.2.2.2.2.2.2.2.2.2.2.2.2.2.2.2.2.2.2.2
set_option maxRecDepth 100000 in
set_option maxHeartbeats 4000000 in
theorem main9 : seg9.1 w x t n u loose mean mg mb rest dp un gd cn cs a ccd cl outer A₀ base h₀ L m s R z1 z2 z3 z8 z9 z12 z13 i t9 h tk m₁ own text tt t8 c9 := by
     delta seg9 segOf
     dsimp -zeta only
     intro hx hn hled B F₀ X N₀ T hk hd hu hret y4 y5 y6 y7 qk ek y10 y11 y14 y15 y16 hoff N hok hi ha hv F hpow
     k_with "binaryOp FloorDiv int int" => refine floordiv_int hpow ?_ (Or.inl (pyl16 hi))
     k_with "binaryOp Mod int int" => (refine mod_int' (by decide) ?_; rw [chN16]; obtain ⟨ch, hch⟩ : ∃ ch, ch = n / 16 ^ i % 16 := ⟨_, rfl⟩; rw [← hch]; have hlt : ch < 16 := by omega)
     k_steps
     all_goals
       have hx9 : x.cps.toList[i]? = some c9 := by
         simp only [signs, List.getElem?_map, Option.map_eq_some_iff] at ha
         obtain ⟨z, hz, e⟩ := ha
         have := congrArg (fun q : Str => q.cps.toList) e
         simp only [List.cons.injEq, and_true] at this
         rw [hz, this]
       simp only [fm2, fm4] at *
       refine PairEnd.mk (_, _) (by k_asm) (by k_asm) ⟨rfl, rfl, rfl, trivial⟩ (fun p hp => hp) rfl (spell_step hch hx9 hok.1 hok.2 ?_)
     · have h1 : ch % 2 = 1 := by omega
       have h2 : ch % 4 > 1 := by omega
       simp only [spell1, h1, h2, if_true, Str.cps_append, Array.toList_append, item_ws hlt, quo_list, bsl_list]; rfl
     · have h1 : ch % 2 = 1 := by omega
       have h2 : ¬ ch % 4 > 1 := by omega
       simp only [spell1, h1, h2, if_true, if_false, Str.cps_append, Array.toList_append, item_ws hlt, quo_list, bsl_list]; rfl
     · have h1 : ¬ ch % 2 = 1 := by omega
       have h2 : ch % 4 > 1 := by omega
       simp only [spell1, h1, h2, if_true, if_false, Str.cps_append, Array.toList_append, item_ws hlt, quo_list, bsl_list]; rfl
     · have h1 : ¬ ch % 2 = 1 := by omega
       have h2 : ¬ ch % 4 > 1 := by omega
       simp only [spell1, h1, h2, if_false, Str.cps_append, Array.toList_append, item_ws hlt, quo_list, bsl_list]; rfl
set_option maxRecDepth 100000 in
set_option maxHeartbeats 4000000 in
theorem all9 : ∀ a0 a1 a2 a3 a4 a5 a6 a7 a8 a9 a10 a11 a12 a13 a14 a15 a16 a17 a18 a19 a20 a21 a22 a23 a24 a25 a26 a27 a28 a29 a30 a31 a32 a33 a34 a35 a36 a37 a38 a39 a40 a41 a42, seg9.1 a0 a1 a2 a3 a4 a5 a6 a7 a8 a9 a10 a11 a12 a13 a14 a15 a16 a17 a18 a19 a20 a21 a22 a23 a24 a25 a26 a27 a28 a29 a30 a31 a32 a33 a34 a35 a36 a37 a38 a39 a40 a41 a42 := fun a0 a1 a2 a3 a4 a5 a6 a7 a8 a9 a10 a11 a12 a13 a14 a15 a16 a17 a18 a19 a20 a21 a22 a23 a24 a25 a26 a27 a28 a29 a30 a31 a32 a33 a34 a35 a36 a37 a38 a39 a40 a41 a42 => hen_all (G := G9) main9 (a0, a1, a2, a3, a4, a5, a6, a7, a8, a9, a10, a11, a12, a13, a14, a15, a16, a17, a18, a19, a20, a21, a22, a23, a24, a25, a26, a27, a28, a29, a30, a31, a32, a33, a34, a35, a36, a37, a38, a39, a40, a41, a42)
end spelled
theorem spelled (w : World) (x : Str) (t : Tok) (n : Nat) (u : Tok) (hx : x.cps.size ≤ 10) (hn : n < 10 ^ 9) : CtrR PySem.Challenge.rw_wn0028_01.prog w (Mine.hd.heap_1 w.params) PySem.W.topProg 2 30 131 [.str x t, .int (n : Int) u] [] (fun v tl => tl = [] ∧ ∃ y tk, v = .str y tk ∧ y.cps.toList = spellN n 0 x.cps.toList) := spelled.seg9.2 ⟨spelled.all9⟩ w x t n u hx hn

end Mine
namespace Mine
theorem reset_lam : True := by
  w_top off
  trivial
set_option maxRecDepth 100000
/-- the lambda that the reader lays into its source -/
noncomputable def lamE : Expr := match (PySem.Challenge.rw_wn0028_01.prog.main.body[17]? : Option Stmt) with
  | some (.FunctionDef _ _ (_ :: _ :: _ :: .Assign _ e _ :: _) _ _ _ _ _ _ _) => e
  | _ => .Tuple [] 0 default
noncomputable def lamP' : Arguments := match lamE with | .Lambda a _ _ _ => a | _ => ⟨[], [], none, [], [], none, []⟩
noncomputable def lamB' : Expr := match lamE with | .Lambda _ b _ _ => b | _ => .Tuple [] 0 default
noncomputable def lamS' : Scope := match lamE with | .Lambda _ _ s _ => s | _ => default
noncomputable def lamPs : { x : Arguments // lamP' = x } := by
  refine ⟨?_, ?h⟩; rotate_left
  conv => lhs; whnf
noncomputable def lamBs : { x : Expr // lamB' = x } := by
  refine ⟨?_, ?h⟩; rotate_left
  conv => lhs; whnf
noncomputable def lamSs : { x : Scope // lamS' = x } := by
  refine ⟨?_, ?h⟩; rotate_left
  conv => lhs; whnf

end Mine
namespace Mine
theorem reset_lex : True := by
  w_top off
  trivial
noncomputable def lamQ : Str := Str.ofString "_law_reader" ++ ".<locals>." ++ Str.ofString "<lambda>"
noncomputable abbrev dE (w : World) (k : Str) (t : Tok) (v : Value) : DictEntry := { hash := PyData.keyHash w.params k, key := .str k t, val := v }
noncomputable abbrev one (c : Nat) : Str := ⟨#[c]⟩
structure LexP where
  (x d pb f c x1 d1 sg ce pb1 : Nat)
  (t1 t2 t3 t4 tw u1 u2 u3 u4 u5 v1 vw : Tok)
  (ct pm : Value) (oc oC : Obj) (vs : Array Value) (tq : Tok)
structure LexP.Ok (P : LexP) : Prop where
  ord : P.ce < P.sg ∧ P.sg < P.d1 ∧ P.d1 < P.x1 ∧ P.x1 < P.c ∧ P.c < P.f ∧ P.f < P.d ∧ P.d < P.x ∧ P.x < P.pb
  code : P.oc.data = .fields P.vs
  name : P.vs[1]? = some (.str lamQ P.tq)
  cell : P.oC.data = .cell (some (.ref P.sg))
noncomputable def lexLed (w : World) (P : LexP) (ln : Int) (tl : Tok) (sv : List Value) (se : Nat) (qv : List Value) (qe : Nat) : List (Addr × Obj) :=
  [(P.pb, listOf qv.toArray qe), (P.x, instObj 73 P.d),
   (P.d, dictOf [dE w (Str.ofString "lineno") P.t1 (.int ln tl), dE w (Str.ofString "instream") P.t2 (.ref P.x1), dE w (Str.ofString "whitespace") P.t3 (.str (Str.ofString "\n\t\x0d ") P.tw), dE w (Str.ofString "pushback") P.t4 (.ref P.pb)] 4),
   (P.f, kla_obj (Str.ofString "<lambda>") lamQ lamPs.1 lamBs.1 lamSs.1 [(Str.ofString "signs", P.ce)] P.pm P.c P.ct), (P.c, P.oc), (P.x1, instObj 73 P.d1),
   (P.d1, dictOf [dE w (Str.ofString "lineno") P.u1 (.int 1 P.v1), dE w (Str.ofString "instream") P.u2 .none, dE w (Str.ofString "whitespace") P.u3 (.str (Str.ofString "\n\t\x0d ") P.vw), dE w (Str.ofString "pushback") P.u4 (.ref P.pb1), dE w (Str.ofString "read") P.u5 (.ref P.f)] 5),
   (P.sg, listOf sv.toArray se), (P.ce, P.oC)]
/-- the lexer between its calls: its line, what is left to read, what was pushed back -/
noncomputable def LexSt (w : World) (P : LexP) (ln : Int) (rem : List Nat) (qv : List Value) (qe : Nat) (led : List (Addr × Obj)) : Prop :=
  ∃ tl sv se, StrsAre sv (rem.map one).reverse ∧ led = lexLed w P ln tl sv se qv qe

/-- none of the lexer's own objects stands in a ledger -/
noncomputable def LexP.Off (P : LexP) (rest : List (Addr × Obj)) : Prop := ∀ q ∈ rest, @Ne Nat q.1 P.pb ∧ @Ne Nat q.1 P.x ∧ @Ne Nat q.1 P.d ∧ @Ne Nat q.1 P.f ∧ @Ne Nat q.1 P.c ∧ @Ne Nat q.1 P.x1 ∧ @Ne Nat q.1 P.d1 ∧ @Ne Nat q.1 P.sg ∧ @Ne Nat q.1 P.ce
noncomputable def offs (P : LexP) (a : Nat) : Prop := @Ne Nat a P.pb ∧ @Ne Nat a P.x ∧ @Ne Nat a P.d ∧ @Ne Nat a P.f ∧ @Ne Nat a P.c ∧ @Ne Nat a P.x1 ∧ @Ne Nat a P.d1 ∧ @Ne Nat a P.sg ∧ @Ne Nat a P.ce
theorem offs_above {P : LexP} (ok : P.Ok) {a : Nat} (k1 : P.pb < a) : offs P a := by
  obtain ⟨o1, o2, o3, o4, o5, o6, o7, o8⟩ := ok.ord
  have k2 := Nat.lt_trans o8 k1
  have k3 := Nat.lt_trans o7 k2
  have k4 := Nat.lt_trans o6 k3
  have k5 := Nat.lt_trans o5 k4
  have k6 := Nat.lt_trans o4 k5
  have k7 := Nat.lt_trans o3 k6
  have k8 := Nat.lt_trans o2 k7
  exact ⟨Nat.ne_of_gt k1, Nat.ne_of_gt k2, Nat.ne_of_gt k3, Nat.ne_of_gt k4, Nat.ne_of_gt k5, Nat.ne_of_gt k6, Nat.ne_of_gt k7, Nat.ne_of_gt k8, Nat.ne_of_gt (Nat.lt_trans o1 k8)⟩
theorem offs_below {P : LexP} (ok : P.Ok) {a : Nat} (k1 : a < P.ce) : offs P a := by
  obtain ⟨o1, o2, o3, o4, o5, o6, o7, o8⟩ := ok.ord
  have k2 := Nat.lt_trans k1 o1
  have k3 := Nat.lt_trans k2 o2
  have k4 := Nat.lt_trans k3 o3
  have k5 := Nat.lt_trans k4 o4
  have k6 := Nat.lt_trans k5 o5
  have k7 := Nat.lt_trans k6 o6
  have k8 := Nat.lt_trans k7 o7
  exact ⟨Nat.ne_of_lt (Nat.lt_trans k8 o8), Nat.ne_of_lt k8, Nat.ne_of_lt k7, Nat.ne_of_lt k6, Nat.ne_of_lt k5, Nat.ne_of_lt k4, Nat.ne_of_lt k3, Nat.ne_of_lt k2, Nat.ne_of_lt k1⟩
theorem LexP.Off.cons {P : LexP} {rest : List (Addr × Obj)} {a : Nat} {o : Obj} (h : P.Off rest) (ok : P.Ok) (ha : P.pb < a) : P.Off ((a, o) :: rest) := by
  intro q hq
  rcases List.mem_cons.mp hq with rfl | hq
  · exact offs_above ok ha
  · exact h q hq
theorem LexP.Off.of {w : World} {P : LexP} {ln : Int} {tl : Tok} {sv : List Value} {se : Nat} {qv : List Value} {qe : Nat} {rest : List (Addr × Obj)} (h : ∀ p ∈ lexLed w P ln tl sv se qv qe, ∀ q ∈ rest, q.1 ≠ p.1) : P.Off rest :=
  fun q hq => ⟨h _ (.head _) q hq, h _ (.tail _ (.head _)) q hq, h _ (.tail _ (.tail _ (.head _))) q hq, h _ (.tail _ (.tail _ (.tail _ (.head _)))) q hq, h _ (.tail _ (.tail _ (.tail _ (.tail _ (.head _))))) q hq, h _ (.tail _ (.tail _ (.tail _ (.tail _ (.tail _ (.head _)))))) q hq, h _ (.tail _ (.tail _ (.tail _ (.tail _ (.tail _ (.tail _ (.head _))))))) q hq, h _ (.tail _ (.tail _ (.tail _ (.tail _ (.tail _ (.tail _ (.tail _ (.head _)))))))) q hq, h _ (.tail _ (.tail _ (.tail _ (.tail _ (.tail _ (.tail _ (.tail _ (.tail _ (.head _))))))))) q hq⟩
theorem all_cons {α : Type} {p : α → Prop} {a : α} {l : List α} (h : p a) (t : ∀ x ∈ l, p x) : ∀ x ∈ a :: l, p x := List.forall_mem_cons.mpr ⟨h, t⟩
theorem LexP.Off.to {w : World} {P : LexP} {ln : Int} {tl : Tok} {sv : List Value} {se : Nat} {qv : List Value} {qe : Nat} {rest : List (Addr × Obj)} (h : P.Off rest) : ∀ p ∈ lexLed w P ln tl sv se qv qe, ∀ q ∈ rest, q.1 ≠ p.1 :=
  all_cons (fun q hq => (h q hq).1) (all_cons (fun q hq => (h q hq).2.1) (all_cons (fun q hq => (h q hq).2.2.1) (all_cons (fun q hq => (h q hq).2.2.2.1) (all_cons (fun q hq => (h q hq).2.2.2.2.1) (all_cons (fun q hq => (h q hq).2.2.2.2.2.1) (all_cons (fun q hq => (h q hq).2.2.2.2.2.2.1) (all_cons (fun q hq => (h q hq).2.2.2.2.2.2.2.1) (all_cons (fun q hq => (h q hq).2.2.2.2.2.2.2.2) (List.forall_mem_nil _)))))))))
/-- the line behind the next sign -/
noncomputable def lnAft (rem : List Nat) (ln : Int) : Int := if rem.head? = some 10 then ln + 1 else ln
theorem one_inj {a b : Nat} (h : one a = one b) : a = b := by
  have := congrArg (fun x : Str => x.cps.toList) h
  simpa using this
theorem nl_one : Str.ofString "\n" = one 10 := by decide +kernel
theorem one_nl (c : Nat) : (one c == Str.ofString "\n") = decide (c = 10) := by
  rw [nl_one]
  by_cases h : c = 10
  · subst h; simp
  · rw [decide_eq_false h]
    have : one c ≠ one 10 := fun e => h (one_inj e)
    simpa using this

/-- the sign that is read next -/
noncomputable def chOf : List Nat → Str
  | [] => Str.ofString ""
  | c :: _ => one c
noncomputable def isWs (c : Nat) : Bool := c == 10 || c == 9 || c == 13 || c == 32
theorem ws_list : (Str.ofString "\n\t\x0d ").cps.toList = [10, 9, 13, 32] := by decide +kernel
theorem contains_ws (c : Nat) : Txt.contains (Str.ofString "\n\t\x0d ") (one c) = isWs c := by
  show (!(Builtin.Str.occurrences _ ⟨#[c]⟩ 0 _ 1).isEmpty) = _
  rw [StrLaws.found_one, ws_list]
  rw [Bool.eq_iff_iff]
  simp [isWs, or_assoc]
theorem q_one : Str.ofString "\"" = one 34 := by decide +kernel
theorem b_one : Str.ofString "\\" = one 92 := by decide +kernel
theorem one_beq (a b : Nat) : (one a == one b) = decide (a = b) := by
  by_cases h : a = b
  · subst h; simp
  · rw [decide_eq_false h]
    have : one a ≠ one b := fun e => h (one_inj e)
    simpa using this
/-- in quotes: the word, what is left, the line -/
noncomputable def lexQ : List Nat → List Nat → Int → Option (List Nat × List Nat × Int)
  | [], _, _ => none
  | c :: r, acc, ln => if c = 34 then some (acc, r, lnAft (c :: r) ln) else if c = 92 then (match r with
      | [] => none
      | c' :: r' => lexQ r' (acc ++ [c']) (lnAft (c' :: r') (lnAft (c :: r) ln))) else lexQ r (acc ++ [c]) (lnAft (c :: r) ln)
/-- plain -/
noncomputable def lexW : List Nat → List Nat → Int → Option (List Nat × List Nat × Int)
  | [], _, _ => none
  | c :: r, acc, ln => if isWs c then some (acc, r, lnAft (c :: r) ln) else if c = 92 then (match r with
      | [] => none
      | c' :: r' => lexW r' (acc ++ [c']) (lnAft (c' :: r') (lnAft (c :: r) ln))) else lexW r (acc ++ [c]) (lnAft (c :: r) ln)
/-- a word, or the end -/
noncomputable def lexT : List Nat → Int → Option (List Nat × List Nat × Int)
  | [], ln => some ([], [], ln)
  | c :: r, ln => if isWs c then lexT r (lnAft (c :: r) ln) else if c = 34 then lexQ r [] (lnAft (c :: r) ln) else if c = 92 then (match r with
      | [] => none
      | c' :: r' => lexW r' [c'] (lnAft (c' :: r') (lnAft (c :: r) ln))) else lexW r [c] (lnAft (c :: r) ln)
theorem lexQ_cons (c : Nat) (r acc : List Nat) (ln : Int) : lexQ (c :: r) acc ln = if c = 34 then some (acc, r, lnAft (c :: r) ln) else if c = 92 then (match r with
      | [] => none
      | c' :: r' => lexQ r' (acc ++ [c']) (lnAft (c' :: r') (lnAft (c :: r) ln))) else lexQ r (acc ++ [c]) (lnAft (c :: r) ln) := by cases r <;> simp only [lexQ]
theorem lexW_cons (c : Nat) (r acc : List Nat) (ln : Int) : lexW (c :: r) acc ln = if isWs c then some (acc, r, lnAft (c :: r) ln) else if c = 92 then (match r with
      | [] => none
      | c' :: r' => lexW r' (acc ++ [c']) (lnAft (c' :: r') (lnAft (c :: r) ln))) else lexW r (acc ++ [c]) (lnAft (c :: r) ln) := by cases r <;> simp only [lexW]
theorem lexT_cons (c : Nat) (r : List Nat) (ln : Int) : lexT (c :: r) ln = if isWs c then lexT r (lnAft (c :: r) ln) else if c = 34 then lexQ r [] (lnAft (c :: r) ln) else if c = 92 then (match r with
      | [] => none
      | c' :: r' => lexW r' [c'] (lnAft (c' :: r') (lnAft (c :: r) ln))) else lexW r [c] (lnAft (c :: r) ln) := by cases r <;> simp only [lexT]
structure LS where
  (rem : List Nat) (tok : Str) (ln : Int) (tl : Tok) (sv : List Value) (se : Nat) (tt : Tok)
noncomputable def lsVars (it : Nat) (P : LexP) (y : LS) : List (Str × Value) := [(Str.ofString "self", .ref P.x), (Str.ofString "fiter", .ref it), (Str.ofString "token", .str y.tok y.tt)]

end Mine

namespace Mine
theorem reset_lexmade : True := by
  w_top off
  trivial
theorem lex_ge {w : World} {P : LexP} (ok : P.Ok) {ln : Int} {tl : Tok} {sv : List Value} {se : Nat} {qv : List Value} {qe : Nat} : ∀ p ∈ lexLed w P ln tl sv se qv qe, P.ce ≤ p.1 := by
  obtain ⟨o1, o2, o3, o4, o5, o6, o7, o8⟩ := ok.ord
  simp only [lexLed, List.forall_mem_cons]
  refine ⟨?_, ?_, ?_, ?_, ?_, ?_, ?_, ?_, ?_, fun _ hq => nomatch hq⟩ <;> (show @LE.le Nat _ _ _) <;> omega
theorem lex_made {w : World} {h₀ h : Heap} {L : Addr} {x d pb f c x1 d1 sg ce pb1 : Nat} {t1 t2 t3 t4 tw u1 u2 u3 u4 u5 v1 vw tl : Tok} {ct pm : Value} {oc oC : Obj} {vs : Array Value} {tq : Tok} {sv : List Value} {se : Nat} {ps : Array Value} {rest : List (Addr × Obj)}
    (N : News h₀ L h ((pb, listOf #[] 0) :: (x, instObj 73 d) ::
   (d, dictOf [dE w (Str.ofString "lineno") t1 (.int 1 tl), dE w (Str.ofString "instream") t2 (.ref x1), dE w (Str.ofString "whitespace") t3 (.str (Str.ofString "\n\t\x0d ") tw), dE w (Str.ofString "pushback") t4 (.ref pb)] 4) ::
   (f, kla_obj (Str.ofString "<lambda>") lamQ lamPs.1 lamBs.1 lamSs.1 [(Str.ofString "signs", ce)] pm c ct) :: (c, oc) :: (pb1, listOf #[] 0) :: (x1, instObj 73 d1) ::
   (d1, dictOf [dE w (Str.ofString "lineno") u1 (.int 1 v1), dE w (Str.ofString "instream") u2 .none, dE w (Str.ofString "whitespace") u3 (.str (Str.ofString "\n\t\x0d ") vw), dE w (Str.ofString "pushback") u4 (.ref pb1), dE w (Str.ofString "read") u5 (.ref f)] 5) ::
   (sg, listOf sv.toArray se) :: (ce, oC) :: (133, tabObj ps) :: rest))
    (hord : ce < sg ∧ sg < d1 ∧ d1 < x1 ∧ x1 < c ∧ c < f ∧ f < d ∧ d < x ∧ x < pb) (hcode : oc.data = .fields vs) (hname : vs[1]? = some (.str lamQ tq)) (hcell : oC.data = .cell (some (.ref sg))) :
    ∃ P : LexP, P.Ok ∧ P.x = x ∧ P.ce = ce ∧ ∃ tl, News h₀ L h (lexLed w P 1 tl sv se [] 0 ++ ([(133, tabObj ps)] ++ rest)) := by
  refine ⟨⟨x, d, pb, f, c, x1, d1, sg, ce, pb1, t1, t2, t3, t4, tw, u1, u2, u3, u4, u5, v1, vw, ct, pm, oc, oC, vs, tq⟩, ⟨hord, hcode, hname, hcell⟩, rfl, rfl, tl, news_of N ?_⟩
  dsimp only [lexLed]
  simp only [List.cons_append, List.nil_append, List.forall_mem_cons]
  refine ⟨by simp, by simp, by simp, by simp, by simp, by simp, by simp, by simp, by simp, by simp, fun q hq => by simp [hq]⟩

end Mine
namespace Mine
theorem reset_reader : True := by
  w_top off
  trivial
namespace reader
set_option maxRecDepth 100000 in
set_option maxHeartbeats 4000000 in
noncomputable def seg9 : {p : PySem.World → PySem.Str → PySem.Tok → (List PySem.Str) → (PySem.ExcName → Option PySem.Value) → (PySem.Str → Option PySem.Value) → (PySem.Str → Option PySem.Value) → (List (PySem.Addr × PySem.Obj)) → Nat → Nat → (Option (List PySem.Code)) → PySem.Str → PySem.Scope → PySem.Addr → PySem.Value → (List (PySem.Str × PySem.Addr)) → (List PySem.Env) → PySem.Heap → PySem.Heap → PySem.Addr → (PySem.Str → Option PySem.Value) → PySem.Shared → (PySem.Result → PySem.Shared → Prop) → PySem.Heap → PySem.Addr → PySem.Heap → Nat → PySem.Obj → Prop // Hid (∀ a0 a1 a2 a3 a4 a5 a6 a7 a8 a9 a10 a11 a12 a13 a14 a15 a16 a17 a18 a19 a20 a21 a22 a23 a24 a25 a26 a27, p a0 a1 a2 a3 a4 a5 a6 a7 a8 a9 a10 a11 a12 a13 a14 a15 a16 a17 a18 a19 a20 a21 a22 a23 a24 a25 a26 a27) → ∀ (w : World) (x : Str) (t : Tok) (hx : x.cps.size ≤ 1000), Ctr (fun h => CodeHd h 137 133) PySem.Challenge.rw_wn0028_01.prog w (Mine.hd.heap_1 w.params) PySem.W.topProg 2 30 138 [.str x t] [(133, tabObj #[])] (fun v led tl => ∃ P : LexP, P.Ok ∧ v = .ref P.x ∧ LexSt w P 1 x.cps.toList [] 0 tl ∧ ∃ ps, led = [(133, tabObj ps)])} := segOf (by
   intro ht9
   intro w x t hx
   intro loose mean mg mb rest dp un gd cn cs a ccd cl outer A₀ base h₀ L m s R hC hoff B F₀ X N₀ T hk hd hu hret
   have hoff1 : ∀ q ∈ rest, q.1 ≠ 133 := hoff _ (.head _)
   simp only [List.cons_append, List.nil_append] at N₀
   k_with_none
   k_dflt ((refine' code_defC ?k1 ?k2 ?k3 ?k4 ?k5 ?kA ?kF ?kK ?k6 ?k7 ?k8 ?k9 ?kB ?kD ?_ ?c2 ?c3 ?c4; (case kA => exact rfl); (case kF => exact rfl); (case kK => assumption); (case k1 => k_asm); (case k2 => k_asm); (case k3 => k_asm); (case k4 => k_asm); (case k5 => k_asm); (case k6 => k_is); (case k7 => k_is); (case k8 => ktr_room); (case k9 => exact BindsTo.of_eq rfl); (case kB => exact rfl); (case kD => decide +kernel); (case c2 => exact rfl); (case c3 => exact rfl); (case c4 => exact rfl); k_whole; intro g9z L9z h9z tk9z cells9z FG9z F9z N9z Y9z B9z X9z T9z l19z; (try k_lt l19z); k_cells Y9z; (try simp only [List.cons_append, List.nil_append] at N9z); (try dsimp only); (try k_lift B9z); (try k_fold)))
   have hC' : CodeHd _ 137 133 := CodeHd.keeps hC (Fr.keep ‹Fr h₀ _ _ _›)
   rename_i z1 y2
   clear A₀ hC hoff B F₀ N₀ hk hu
   revert hx X T hd hret hoff1 FG9z F9z B9z X9z T9z l19z y2 N9z hC'
   exact ht9.out w x t loose mean mg mb rest dp un gd cn cs a ccd cl outer base h₀ L m s R g9z L9z h9z tk9z z1
)
noncomputable def G9 (d : PySem.World × PySem.Str × PySem.Tok × (List PySem.Str) × (PySem.ExcName → Option PySem.Value) × (PySem.Str → Option PySem.Value) × (PySem.Str → Option PySem.Value) × (List (PySem.Addr × PySem.Obj)) × Nat × Nat × (Option (List PySem.Code)) × PySem.Str × PySem.Scope × PySem.Addr × PySem.Value × (List (PySem.Str × PySem.Addr)) × (List PySem.Env) × PySem.Heap × PySem.Heap × PySem.Addr × (PySem.Str → Option PySem.Value) × PySem.Shared × (PySem.Result → PySem.Shared → Prop) × PySem.Heap × PySem.Addr × PySem.Heap × Nat × PySem.Obj) : Prop := seg9.1 d.1 d.2.1 d.2.2.1 d.2.2.2.1 d.2.2.2.2.1 d.2.2.2.2.2.1 d.2.2.2.2.2.2.1 d.2.2.2.2.2.2.2.1 d.2.2.2.2.2.2.2.2.1 d.2.2.2.2.2.2.2.2.2.1 d.2.2.2.2.2.2.2.2.2.2.1 d.2.2.2.2.2.2.2.2.2.2.2.1 d.2.2.2.2.2.2.2.2.2.2.2.2.1 d.2.2.2.2.2.2.2.2.2.2.2.2.2.1 d.2.2.2.2.2.2.2.2.2.2.2.2.2.2.1 d.2.2.2.2.2.2.2.2.2.2.2.2.2.2.2.1 d.2.2.2.2.2.2.2.2.2.2.2.2.2.2.2.2.1 d.2.2.2.2.2.2.2.2.2.2.2.2.2.2.2.2.2.1 d.2.2.2.2.2.2.2.2.2.2.2.2.2.2.2.2.2.2.1 d.2.2.2.2.2.2.2.2.2.2.2.2.2.2.2.2.2.2.2.1 d.2.2.2.2.2.2.2.2.2.2.2.2.2.2.2.2.2.2.2.2.1 d.2.2.2.2.2.2.2.2.2.2.2.2.2.2.2.2.2.2.2.2.2.1 d.2.2.2.2.2.2.2.2.2.2.2.2.2.2.2.2.2.2.2.2.2.2.1 d.2.2.2.2.2.2.2.2.2.2.2.2.2.2.2.2.2.2.2.2.2.2.2.1 d.2.2.2.2.2.2.2.2.2.2.2.2.2.2.2.2.2.2.2.2.2.2.2.2.1 d.2.2.2.2.2.2.2.2.2.2.2.2.2.2.2.2.2.2.2.2.2.2.2.2.2.1 d.2.2.2.2.2.2.2.2.2.2.2.2.2.2.2.2.2.2.2.2.2.2.2.2.2.2.1 d.2.2.2.2.2.2.2.2.2.2.2.2.2.2.2.2.2.2.2.2.2.2.2.2.2.2.2
noncomputable def tup9z : PySem.World × PySem.Str × PySem.Tok × (List PySem.Str) × (PySem.ExcName → Option PySem.Value) × (PySem.Str → Option PySem.Value) × (PySem.Str → Option PySem.Value) × (List (PySem.Addr × PySem.Obj)) × Nat × Nat × (Option (List PySem.Code)) × PySem.Str × PySem.Scope × PySem.Addr × PySem.Value × (List (PySem.Str × PySem.Addr)) × (List PySem.Env) × PySem.Heap × PySem.Heap × PySem.Addr × (PySem.Str → Option PySem.Value) × PySem.Shared × (PySem.Result → PySem.Shared → Prop) × PySem.Heap × PySem.Addr × PySem.Heap × Nat × PySem.Obj := hen (World9, (default : Str), (0 : Nat), [], (fun _ => none), (fun _ => none), (fun _ => none), [], (0 : Nat), (0 : Nat), none, (default : Str), (default : Scope), (0 : Nat), (default : Value), [], [], (default : Heap), (default : Heap), (0 : Nat), (fun _ => none), ({} : Shared), (fun _ => (fun _ => True)), (default : Heap), (0 : Nat), (default : Heap), (0 : Nat), (default : Obj)) G9
noncomputable def w : PySem.World := tup9z.1
noncomputable def x : PySem.Str := tup9z.2.1
noncomputable def t : PySem.Tok := tup9z.2.2.1
noncomputable def loose : List PySem.Str := tup9z.2.2.2.1
noncomputable def mean : PySem.ExcName → Option PySem.Value := tup9z.2.2.2.2.1
noncomputable def mg : PySem.Str → Option PySem.Value := tup9z.2.2.2.2.2.1
noncomputable def mb : PySem.Str → Option PySem.Value := tup9z.2.2.2.2.2.2.1
noncomputable def rest : List (PySem.Addr × PySem.Obj) := tup9z.2.2.2.2.2.2.2.1
noncomputable def dp : Nat := tup9z.2.2.2.2.2.2.2.2.1
noncomputable def un : Nat := tup9z.2.2.2.2.2.2.2.2.2.1
noncomputable def gd : Option (List PySem.Code) := tup9z.2.2.2.2.2.2.2.2.2.2.1
noncomputable def cn : PySem.Str := tup9z.2.2.2.2.2.2.2.2.2.2.2.1
noncomputable def cs : PySem.Scope := tup9z.2.2.2.2.2.2.2.2.2.2.2.2.1
noncomputable def a : PySem.Addr := tup9z.2.2.2.2.2.2.2.2.2.2.2.2.2.1
noncomputable def ccd : PySem.Value := tup9z.2.2.2.2.2.2.2.2.2.2.2.2.2.2.1
noncomputable def cl : List (PySem.Str × PySem.Addr) := tup9z.2.2.2.2.2.2.2.2.2.2.2.2.2.2.2.1
noncomputable def outer : List PySem.Env := tup9z.2.2.2.2.2.2.2.2.2.2.2.2.2.2.2.2.1
noncomputable def base : PySem.Heap := tup9z.2.2.2.2.2.2.2.2.2.2.2.2.2.2.2.2.2.1
noncomputable def h₀ : PySem.Heap := tup9z.2.2.2.2.2.2.2.2.2.2.2.2.2.2.2.2.2.2.1
noncomputable def L : PySem.Addr := tup9z.2.2.2.2.2.2.2.2.2.2.2.2.2.2.2.2.2.2.2.1
noncomputable def m : PySem.Str → Option PySem.Value := tup9z.2.2.2.2.2.2.2.2.2.2.2.2.2.2.2.2.2.2.2.2.1
noncomputable def s : PySem.Shared := tup9z.2.2.2.2.2.2.2.2.2.2.2.2.2.2.2.2.2.2.2.2.2.1
noncomputable def R : PySem.Result → PySem.Shared → Prop := tup9z.2.2.2.2.2.2.2.2.2.2.2.2.2.2.2.2.2.2.2.2.2.2.1
noncomputable def g9z : PySem.Heap := tup9z.2.2.2.2.2.2.2.2.2.2.2.2.2.2.2.2.2.2.2.2.2.2.2.1
noncomputable def L9z : PySem.Addr := tup9z.2.2.2.2.2.2.2.2.2.2.2.2.2.2.2.2.2.2.2.2.2.2.2.2.1
noncomputable def h9z : PySem.Heap := tup9z.2.2.2.2.2.2.2.2.2.2.2.2.2.2.2.2.2.2.2.2.2.2.2.2.2.1
noncomputable def tk9z : Nat := tup9z.2.2.2.2.2.2.2.2.2.2.2.2.2.2.2.2.2.2.2.2.2.2.2.2.2.2.1
noncomputable def z1 : PySem.Obj := tup9z.2.2.2.2.2.2.2.2.2.2.2.2.2.2.2.2.2.2.2.2.2.2.2.2.2.2.2
set_option maxRecDepth 100000 in
set_option maxHeartbeats 4000000 in
theorem main9 : seg9.1 w x t loose mean mg mb rest dp un gd cn cs a ccd cl outer base h₀ L m s R g9z L9z h9z tk9z z1 := by
   delta seg9 segOf
   dsimp -zeta only
   intro hx X T hd hret hoff1 FG9z F9z B9z X9z T9z l19z y2 N9z hC'
   k_with_none
   k_with "call type:list cons nil" => (refine' list_strK (x := x) rfl ?F ?N (by omega) ?_; (case F => k_asm); (case N => k_asm); intro a9 h9 tk9 ys9 c9 F9 N9 l9 hs9; (try k_lt l9); (try k_sweep); have hz9 : ys9.toList.length ≤ 1000 := by rw [strs_len hs9, ones_len]; exact hx)
   k_with "call builtin:list.reverse cons nil" => (refine' kl_reverse ?F ?N rfl ?U ?z ?_; (case F => k_asm); (case N => k_asm); (case U => k_upd); (case z => rw [sizeLine_eq]; omega); intro h9 F9 N9; (try k_sweep))
   k_with "call ref cons nil" => k_dflt ((refine' call_cls ?k1 ?k2 ?k3 ?k4 ?k5 ?k6 ?_; (case k1 => k_asm); (case k2 => k_asm); (case k3 => k_asm); (case k4 => k_is); (case k5 => k_is); (case k6 => k_is); k_whole; intro x9z d9z h9z F9z N9z l19z l29z; (try k_lt l19z); (try k_lt2 l29z); (try k_sweep); (refine' code_def ?k1 ?k2 ?k3 ?k4 ?k5 ?kA ?kF ?kK ?k6 ?k7 ?k8 ?k9 ?kB ?_ ?c2 ?c3 ?c4 ?c5; (case kA => exact rfl); (case kF => exact rfl); (case kK => exact rfl); (case k1 => k_asm); (case k2 => k_asm); (case k3 => k_asm); (case k4 => k_asm); (case k5 => k_asm); (case k6 => k_is); (case k7 => k_is); (case k8 => ktr_room); (case k9 => first | exact BindsTo.of_eq rfl | exact binds_K (by k_in) rfl (by k_is) rfl rfl rfl); (case c5 => decide); (case kB => exact locs rfl); (case c2 => exact rfl); (case c3 => exact rfl); (case c4 => exact rfl); k_whole; intro g9z L9z h9z FG9z F9z N9z B9z X9z T9z; (try dsimp only); (try k_lift B9z); (try k_fold))))
   k_steps
   obtain ⟨P, ok, ex, ece, tl, N9⟩ := lex_made (w := w) (by k_asm) ⟨by omega, by omega, by omega, by omega, by omega, by omega, by omega, by omega⟩ (by assumption) (by assumption) (by assumption)
   subst ex
   refine hret _ [(133, tabObj _)] (lexLed w P 1 tl _ _ [] 0) _ _ ⟨P, ok, rfl, ⟨tl, _, _, by rw [← show ones x = x.cps.toList.map one from rfl]; exact strs_rev hs9, rfl⟩, _, rfl⟩ ?_ (by k_asm) N9
   have hlow : ∀ q ∈ [(133, tabObj #[])] ++ rest, q.1 < P.ce := by
     rw [ece]; simp only [List.cons_append, List.nil_append]; (repeat' first | exact List.forall_mem_nil _ | (first | exact raw_lt (by assumption) (by walk_at "le9") | exact allLt_lt' (by walk_at "and_r") (by walk_at "le9")) | refine lt_cons ?_ ?_ | (with_reducible assumption) | omega)
   exact fun q hq p hp => Nat.lt_of_lt_of_le (hlow q hq) (lex_ge ok p hp)

set_option maxRecDepth 100000 in
set_option maxHeartbeats 4000000 in
theorem all9 : ∀ a0 a1 a2 a3 a4 a5 a6 a7 a8 a9 a10 a11 a12 a13 a14 a15 a16 a17 a18 a19 a20 a21 a22 a23 a24 a25 a26 a27, seg9.1 a0 a1 a2 a3 a4 a5 a6 a7 a8 a9 a10 a11 a12 a13 a14 a15 a16 a17 a18 a19 a20 a21 a22 a23 a24 a25 a26 a27 := fun a0 a1 a2 a3 a4 a5 a6 a7 a8 a9 a10 a11 a12 a13 a14 a15 a16 a17 a18 a19 a20 a21 a22 a23 a24 a25 a26 a27 => hen_all (G := G9) main9 (a0, a1, a2, a3, a4, a5, a6, a7, a8, a9, a10, a11, a12, a13, a14, a15, a16, a17, a18, a19, a20, a21, a22, a23, a24, a25, a26, a27)
end reader
theorem reader (w : World) (x : Str) (t : Tok) (hx : x.cps.size ≤ 1000) : Ctr (fun h => CodeHd h 137 133) PySem.Challenge.rw_wn0028_01.prog w (Mine.hd.heap_1 w.params) PySem.W.topProg 2 30 138 [.str x t] [(133, tabObj #[])] (fun v led tl => ∃ P : LexP, P.Ok ∧ v = .ref P.x ∧ LexSt w P 1 x.cps.toList [] 0 tl ∧ ∃ ps, led = [(133, tabObj ps)]) := reader.seg9.2 ⟨reader.all9⟩ w x t hx

end Mine
namespace Mine
theorem reset_read_char : True := by
  w_top off
  trivial
namespace read_char
set_option maxRecDepth 100000 in
set_option maxHeartbeats 4000000 in
noncomputable def seg9 : {p : PySem.World → Int → (List PySem.Value) → Nat → PySem.Tok → Nat → (List PySem.Str) → (PySem.ExcName → Option PySem.Value) → (PySem.Str → Option PySem.Value) → (PySem.Str → Option PySem.Value) → (List (PySem.Addr × PySem.Obj)) → Nat → Nat → (Option (List PySem.Code)) → PySem.Str → PySem.Scope → PySem.Addr → PySem.Value → (List (PySem.Str × PySem.Addr)) → (List PySem.Env) → PySem.Around → PySem.Heap → PySem.Heap → PySem.Addr → (PySem.Str → Option PySem.Value) → PySem.Shared → (PySem.Result → PySem.Shared → Prop) → Nat → Nat → Nat → Nat → Nat → Nat → Nat → Nat → Nat → Nat → PySem.Tok → PySem.Tok → PySem.Tok → PySem.Tok → PySem.Tok → PySem.Tok → PySem.Tok → PySem.Tok → PySem.Tok → PySem.Tok → PySem.Tok → PySem.Tok → PySem.Value → PySem.Value → PySem.Obj → PySem.Obj → (Array PySem.Value) → PySem.Tok → (List Nat) → (List PySem.Value) → PySem.Tok → Prop // Hid (∀ a0 a1 a2 a3 a4 a5 a6 a7 a8 a9 a10 a11 a12 a13 a14 a15 a16 a17 a18 a19 a20 a21 a22 a23 a24 a25 a26 a27 a28 a29 a30 a31 a32 a33 a34 a35 a36 a37 a38 a39 a40 a41 a42 a43 a44 a45 a46 a47 a48 a49 a50 a51 a52 a53 a54 a55 a56 a57, p a0 a1 a2 a3 a4 a5 a6 a7 a8 a9 a10 a11 a12 a13 a14 a15 a16 a17 a18 a19 a20 a21 a22 a23 a24 a25 a26 a27 a28 a29 a30 a31 a32 a33 a34 a35 a36 a37 a38 a39 a40 a41 a42 a43 a44 a45 a46 a47 a48 a49 a50 a51 a52 a53 a54 a55 a56 a57) → ∀ (w : World) (P : LexP) (ok : P.Ok) (ln : Int) (rem : List Nat) (qv : List Value) (qe : Nat) (led : List (Addr × Obj)) (st : LexSt w P ln rem qv qe led) (hr : rem.length ≤ 1000), Ctr (fun h => CodeHd h 137 133) PySem.Challenge.rw_wn0028_01.prog w (Mine.hd.heap_1 w.params) PySem.W.topProg 3 40 56 [.ref P.x] led (fun v led tl => tl = [] ∧ ∃ t, v = .str (chOf rem) t ∧ LexSt w P (lnAft rem ln) rem.tail qv qe led)} := segOf (by
   intro ht9
   intro w P ok ln rem qv qe led st hr
   obtain ⟨tl, sv, se, hs, rfl⟩ := st
   intro loose mean mg mb rest dp un gd cn cs a ccd cl outer A₀ base h₀ L m s R hpre hoff B F₀ X N₀ T hk hd hu hret
   k_with_none
   obtain ⟨x, d, pb, f, c, x1, d1, sg, ce, pb1, t1, t2, t3, t4, tw, u1, u2, u3, u4, u5, v1, vw, ct, pm, oc, oC, vs, tq⟩ := P
   obtain ⟨⟨o1, o2, o3, o4, o5, o6, o7, o8⟩, hcode, hname, hcell⟩ := ok
   dsimp only [lexLed] at *
   simp only [List.cons_append, List.nil_append, List.forall_mem_cons] at N₀ hoff
   obtain ⟨hf1, hf2, hf3, hf4, hf5, hf6, hf7, hf8, hf9, -⟩ := hoff
   k_with "call ref cons nil" => (k_dflt ((refine wpAny_call ?_; refine' kla_code ?k1 ?k2 ?k3 ?k4 ?k5 ?kA ?kF ?kK ?k6 ?k7 ?k8 ?k9 ?kB ?_ ?c2 ?c3 ?c4 ?c5; (case kA => exact rfl); (case kF => exact rfl); (case kK => exact rfl); (case k1 => k_asm); (case k2 => k_asm); (case k3 => k_asm); (case k4 => k_asm); (case k5 => k_asm); (case k6 => k_mem); (case k7 => exact codeRec_news (by k_asm) (by k_mem) (by assumption) (by assumption)); (case k8 => ktr_room); (case k9 => exact rfl); (case c5 => decide); (case kB => exact locs rfl); (case c2 => exact rfl); (case c3 => exact rfl); (case c4 => exact rfl); k_whole; intro g9z L9z h9z FG9z F9z N9z B9z X9z T9z; (try dsimp only); (try k_lift B9z); (try k_fold))); dsimp only [lamBs, lamSs])
   cases rem with
   | nil =>
     cases hs
     k_with "truthy ref" => refine truthy_nil (by is_list) ?_
     k_dflt cell_enter
     k_steps
     exact hret _ _ [] _ _ ⟨rfl, _, rfl, _, [], _, .nil, rfl⟩ (fun _ _ _ h => nomatch h) (by k_asm) (by k_asm)
   | cons ch r =>
     rw [List.map_cons, List.reverse_cons] at hs
     obtain ⟨ws, t9, rfl, hs'⟩ := strs_snoc_inv hs
     have hz : ws.length ≤ 1000 := by rw [strs_len hs']; simp at hr ⊢; omega
     revert hpre B F₀ X T hk hd hu hcode hname hcell o1 o2 o3 o4 o5 o6 o7 o8 hf1 hf2 hf3 hf4 hf5 hf6 hf7 hf8 hf9 ch hr hs' N₀ hs hret hz
     exact ht9.out w ln qv qe tl se loose mean mg mb rest dp un gd cn cs a ccd cl outer A₀ base h₀ L m s R x d pb f c x1 d1 sg ce pb1 t1 t2 t3 t4 tw u1 u2 u3 u4 u5 v1 vw ct pm oc oC vs tq r ws t9
)
noncomputable def G9 (d : PySem.World × Int × (List PySem.Value) × Nat × PySem.Tok × Nat × (List PySem.Str) × (PySem.ExcName → Option PySem.Value) × (PySem.Str → Option PySem.Value) × (PySem.Str → Option PySem.Value) × (List (PySem.Addr × PySem.Obj)) × Nat × Nat × (Option (List PySem.Code)) × PySem.Str × PySem.Scope × PySem.Addr × PySem.Value × (List (PySem.Str × PySem.Addr)) × (List PySem.Env) × PySem.Around × PySem.Heap × PySem.Heap × PySem.Addr × (PySem.Str → Option PySem.Value) × PySem.Shared × (PySem.Result → PySem.Shared → Prop) × Nat × Nat × Nat × Nat × Nat × Nat × Nat × Nat × Nat × Nat × PySem.Tok × PySem.Tok × PySem.Tok × PySem.Tok × PySem.Tok × PySem.Tok × PySem.Tok × PySem.Tok × PySem.Tok × PySem.Tok × PySem.Tok × PySem.Tok × PySem.Value × PySem.Value × PySem.Obj × PySem.Obj × (Array PySem.Value) × PySem.Tok × (List Nat) × (List PySem.Value) × PySem.Tok) : Prop := seg9.1 d.1 d.2.1 d.2.2.1 d.2.2.2.1 d.2.2.2.2.1 d.2.2.2.2.2.1 d.2.2.2.2.2.2.1 d.2.2.2.2.2.2.2.1 d.2.2.2.2.2.2.2.2.1 d.2.2.2.2.2.2.2.2.2.1 d.2.2.2.2.2.2.2.2.2.2.1 d.2.2.2.2.2.2.2.2.2.2.2.1 d.2.2.2.2.2.2.2.2.2.2.2.2.1 d.2.2.2.2.2.2.2.2.2.2.2.2.2.1 d.2.2.2.2.2.2.2.2.2.2.2.2.2.2.1 d.2.2.2.2.2.2.2.2.2.2.2.2.2.2.2.1 d.2.2.2.2.2.2.2.2.2.2.2.2.2.2.2.2.1 d.2.2.2.2.2.2.2.2.2.2.2.2.2.2.2.2.2.1 d.2.2.2.2.2.2.2.2.2.2.2.2.2.2.2.2.2.2.1 d.2.2.2.2.2.2.2.2.2.2.2.2.2.2.2.2.2.2.2.1 d.2.2.2.2.2.2.2.2.2.2.2.2.2.2.2.2.2.2.2.2.1 d.2.2.2.2.2.2.2.2.2.2.2.2.2.2.2.2.2.2.2.2.2.1 d.2.2.2.2.2.2.2.2.2.2.2.2.2.2.2.2.2.2.2.2.2.2.1 d.2.2.2.2.2.2.2.2.2.2.2.2.2.2.2.2.2.2.2.2.2.2.2.1 d.2.2.2.2.2.2.2.2.2.2.2.2.2.2.2.2.2.2.2.2.2.2.2.2.1 d.2.2.2.2.2.2.2.2.2.2.2.2.2.2.2.2.2.2.2.2.2.2.2.2.2.1 d.2.2.2.2.2.2.2.2.2.2.2.2.2.2.2.2.2.2.2.2.2.2.2.2.2.2.1 d.2.2.2.2.2.2.2.2.2.2.2.2.2.2.2.2.2.2.2.2.2.2.2.2.2.2.2.1 d.2.2.2.2.2.2.2.2.2.2.2.2.2.2.2.2.2.2.2.2.2.2.2.2.2.2.2.2.1 d.2.2.2.2.2.2.2.2.2.2.2.2.2.2.2.2.2.2.2.2.2.2.2.2.2.2.2.2.2.1 d.2.2.2.2.2.2.2.2.2.2.2.2.2.2.2.2.2.2.2.2.2.2.2.2.2.2.2.2.2.2.1 d.2.2.2.2.2.2.2.2.2.2.2.2.2.2.2.2.2.2.2.2.2.2.2.2.2.2.2.2.2.2.2.1 d.2.2.2.2.2.2.2.2.2.2.2.2.2.2.2.2.2.2.2.2.2.2.2.2.2.2.2.2.2.2.2.2.1 d.2.2.2.2.2.2.2.2.2.2.2.2.2.2.2.2.2.2.2.2.2.2.2.2.2.2.2.2.2.2.2.2.2.1 d.2.2.2.2.2.2.2.2.2.2.2.2.2.2.2.2.2.2.2.2.2.2.2.2.2.2.2.2.2.2.2.2.2.2.1 d.2.2.2.2.2.2.2.2.2.2.2.2.2.2.2.2.2.2.2.2.2.2.2.2.2.2.2.2.2.2.2.2.2.2.2.1 d.2.2.2.2.2.2.2.2.2.2.2.2.2.2.2.2.2.2.2.2.2.2.2.2.2.2.2.2.2.2.2.2.2.2.2.2.1 d.2.2.2.2.2.2.2.2.2.2.2.2.2.2.2.2.2.2.2.2.2.2.2.2.2.2.2.2.2.2.2.2.2.2.2.2.2.1 d.2.2.2.2.2.2.2.2.2.2.2.2.2.2.2.2.2.2.2.2.2.2.2.2.2.2.2.2.2.2.2.2.2.2.2.2.2.2.1 d.2.2.2.2.2.2.2.2.2.2.2.2.2.2.2.2.2.2.2.2.2.2.2.2.2.2.2.2.2.2.2.2.2.2.2.2.2.2.2.1 d.2.2.2.2.2.2.2.2.2.2.2.2.2.2.2.2.2.2.2.2.2.2.2.2.2.2.2.2.2.2.2.2.2.2.2.2.2.2.2.2.1 d.2.2.2.2.2.2.2.2.2.2.2.2.2.2.2.2.2.2.2.2.2.2.2.2.2.2.2.2.2.2.2.2.2.2.2.2.2.2.2.2.2.1 d.2.2.2.2.2.2.2.2.2.2.2.2.2.2.2.2.2.2.2.2.2.2.2.2.2.2.2.2.2.2.2.2.2.2.2.2.2.2.2.2.2.2.1 d.2.2.2.2.2.2.2.2.2.2.2.2.2.2.2.2.2.2.2.2.2.2.2.2.2.2.2.2.2.2.2.2.2.2.2.2.2.2.2.2.2.2.2.1 d.2.2.2.2.2.2.2.2.2.2.2.2.2.2.2.2.2.2.2.2.2.2.2.2.2.2.2.2.2.2.2.2.2.2.2.2.2.2.2.2.2.2.2.2.1 d.2.2.2.2.2.2.2.2.2.2.2.2.2.2.2.2.2.2.2.2.2.2.2.2.2.2.2.2.2.2.2.2.2.2.2.2.2.2.2.2.2.2.2.2.2.1 d.2.2.2.2.2.2.2.2.2.2.2.2.2.2.2.2.2.2.2.2.2.2.2.2.2.2.2.2.2.2.2.2.2.2.2.2.2.2.2.2.2.2.2.2.2.2.1 d.2.2.2.2.2.2.2.2.2.2.2.2.2.2.2.2.2.2.2.2.2.2.2.2.2.2.2.2.2.2.2.2.2.2.2.2.2.2.2.2.2.2.2.2.2.2.2.1 d.2.2.2.2.2.2.2.2.2.2.2.2.2.2.2.2.2.2.2.2.2.2.2.2.2.2.2.2.2.2.2.2.2.2.2.2.2.2.2.2.2.2.2.2.2.2.2.2.1 d.2.2.2.2.2.2.2.2.2.2.2.2.2.2.2.2.2.2.2.2.2.2.2.2.2.2.2.2.2.2.2.2.2.2.2.2.2.2.2.2.2.2.2.2.2.2.2.2.2.1 d.2.2.2.2.2.2.2.2.2.2.2.2.2.2.2.2.2.2.2.2.2.2.2.2.2.2.2.2.2.2.2.2.2.2.2.2.2.2.2.2.2.2.2.2.2.2.2.2.2.2.1 d.2.2.2.2.2.2.2.2.2.2.2.2.2.2.2.2.2.2.2.2.2.2.2.2.2.2.2.2.2.2.2.2.2.2.2.2.2.2.2.2.2.2.2.2.2.2.2.2.2.2.2.1 d.2.2.2.2.2.2.2.2.2.2.2.2.2.2.2.2.2.2.2.2.2.2.2.2.2.2.2.2.2.2.2.2.2.2.2.2.2.2.2.2.2.2.2.2.2.2.2.2.2.2.2.2.1 d.2.2.2.2.2.2.2.2.2.2.2.2.2.2.2.2.2.2.2.2.2.2.2.2.2.2.2.2.2.2.2.2.2.2.2.2.2.2.2.2.2.2.2.2.2.2.2.2.2.2.2.2.2.1 d.2.2.2.2.2.2.2.2.2.2.2.2.2.2.2.2.2.2.2.2.2.2.2.2.2.2.2.2.2.2.2.2.2.2.2.2.2.2.2.2.2.2.2.2.2.2.2.2.2.2.2.2.2.2.1 d.2.2.2.2.2.2.2.2.2.2.2.2.2.2.2.2.2.2.2.2.2.2.2.2.2.2.2.2.2.2.2.2.2.2.2.2.2.2.2.2.2.2.2.2.2.2.2.2.2.2.2.2.2.2.2.1 d.2.2.2.2.2.2.2.2.2.2.2.2.2.2.2.2.2.2.2.2.2.2.2.2.2.2.2.2.2.2.2.2.2.2.2.2.2.2.2.2.2.2.2.2.2.2.2.2.2.2.2.2.2.2.2.2.1 d.2.2.2.2.2.2.2.2.2.2.2.2.2.2.2.2.2.2.2.2.2.2.2.2.2.2.2.2.2.2.2.2.2.2.2.2.2.2.2.2.2.2.2.2.2.2.2.2.2.2.2.2.2.2.2.2.2
noncomputable def tup9z : PySem.World × Int × (List PySem.Value) × Nat × PySem.Tok × Nat × (List PySem.Str) × (PySem.ExcName → Option PySem.Value) × (PySem.Str → Option PySem.Value) × (PySem.Str → Option PySem.Value) × (List (PySem.Addr × PySem.Obj)) × Nat × Nat × (Option (List PySem.Code)) × PySem.Str × PySem.Scope × PySem.Addr × PySem.Value × (List (PySem.Str × PySem.Addr)) × (List PySem.Env) × PySem.Around × PySem.Heap × PySem.Heap × PySem.Addr × (PySem.Str → Option PySem.Value) × PySem.Shared × (PySem.Result → PySem.Shared → Prop) × Nat × Nat × Nat × Nat × Nat × Nat × Nat × Nat × Nat × Nat × PySem.Tok × PySem.Tok × PySem.Tok × PySem.Tok × PySem.Tok × PySem.Tok × PySem.Tok × PySem.Tok × PySem.Tok × PySem.Tok × PySem.Tok × PySem.Tok × PySem.Value × PySem.Value × PySem.Obj × PySem.Obj × (Array PySem.Value) × PySem.Tok × (List Nat) × (List PySem.Value) × PySem.Tok := hen (World9, (0 : Int), [], (0 : Nat), (0 : Nat), (0 : Nat), [], (fun _ => none), (fun _ => none), (fun _ => none), [], (0 : Nat), (0 : Nat), none, (default : Str), (default : Scope), (0 : Nat), (default : Value), [], [], ({} : Around), (default : Heap), (default : Heap), (0 : Nat), (fun _ => none), ({} : Shared), (fun _ => (fun _ => True)), (0 : Nat), (0 : Nat), (0 : Nat), (0 : Nat), (0 : Nat), (0 : Nat), (0 : Nat), (0 : Nat), (0 : Nat), (0 : Nat), (0 : Nat), (0 : Nat), (0 : Nat), (0 : Nat), (0 : Nat), (0 : Nat), (0 : Nat), (0 : Nat), (0 : Nat), (0 : Nat), (0 : Nat), (0 : Nat), (default : Value), (default : Value), (default : Obj), (default : Obj), #[], (0 : Nat), [], [], (0 : Nat)) G9
noncomputable def w : PySem.World := tup9z.1
noncomputable def ln : Int := tup9z.2.1
noncomputable def qv : List PySem.Value := tup9z.2.2.1
noncomputable def qe : Nat := tup9z.2.2.2.1
noncomputable def tl : PySem.Tok := tup9z.2.2.2.2.1
noncomputable def se : Nat := tup9z.2.2.2.2.2.1
noncomputable def loose : List PySem.Str := tup9z.2.2.2.2.2.2.1
noncomputable def mean : PySem.ExcName → Option PySem.Value := tup9z.2.2.2.2.2.2.2.1
noncomputable def mg : PySem.Str → Option PySem.Value := tup9z.2.2.2.2.2.2.2.2.1
noncomputable def mb : PySem.Str → Option PySem.Value := tup9z.2.2.2.2.2.2.2.2.2.1
noncomputable def rest : List (PySem.Addr × PySem.Obj) := tup9z.2.2.2.2.2.2.2.2.2.2.1
noncomputable def dp : Nat := tup9z.2.2.2.2.2.2.2.2.2.2.2.1
noncomputable def un : Nat := tup9z.2.2.2.2.2.2.2.2.2.2.2.2.1
noncomputable def gd : Option (List PySem.Code) := tup9z.2.2.2.2.2.2.2.2.2.2.2.2.2.1
noncomputable def cn : PySem.Str := tup9z.2.2.2.2.2.2.2.2.2.2.2.2.2.2.1
noncomputable def cs : PySem.Scope := tup9z.2.2.2.2.2.2.2.2.2.2.2.2.2.2.2.1
noncomputable def a : PySem.Addr := tup9z.2.2.2.2.2.2.2.2.2.2.2.2.2.2.2.2.1
noncomputable def ccd : PySem.Value := tup9z.2.2.2.2.2.2.2.2.2.2.2.2.2.2.2.2.2.1
noncomputable def cl : List (PySem.Str × PySem.Addr) := tup9z.2.2.2.2.2.2.2.2.2.2.2.2.2.2.2.2.2.2.1
noncomputable def outer : List PySem.Env := tup9z.2.2.2.2.2.2.2.2.2.2.2.2.2.2.2.2.2.2.2.1
noncomputable def A₀ : PySem.Around := tup9z.2.2.2.2.2.2.2.2.2.2.2.2.2.2.2.2.2.2.2.2.1
noncomputable def base : PySem.Heap := tup9z.2.2.2.2.2.2.2.2.2.2.2.2.2.2.2.2.2.2.2.2.2.1
noncomputable def h₀ : PySem.Heap := tup9z.2.2.2.2.2.2.2.2.2.2.2.2.2.2.2.2.2.2.2.2.2.2.1
noncomputable def L : PySem.Addr := tup9z.2.2.2.2.2.2.2.2.2.2.2.2.2.2.2.2.2.2.2.2.2.2.2.1
noncomputable def m : PySem.Str → Option PySem.Value := tup9z.2.2.2.2.2.2.2.2.2.2.2.2.2.2.2.2.2.2.2.2.2.2.2.2.1
noncomputable def s : PySem.Shared := tup9z.2.2.2.2.2.2.2.2.2.2.2.2.2.2.2.2.2.2.2.2.2.2.2.2.2.1
noncomputable def R : PySem.Result → PySem.Shared → Prop := tup9z.2.2.2.2.2.2.2.2.2.2.2.2.2.2.2.2.2.2.2.2.2.2.2.2.2.2.1
noncomputable def x : Nat := tup9z.2.2.2.2.2.2.2.2.2.2.2.2.2.2.2.2.2.2.2.2.2.2.2.2.2.2.2.1
noncomputable def d : Nat := tup9z.2.2.2.2.2.2.2.2.2.2.2.2.2.2.2.2.2.2.2.2.2.2.2.2.2.2.2.2.1
noncomputable def pb : Nat := tup9z.2.2.2.2.2.2.2.2.2.2.2.2.2.2.2.2.2.2.2.2.2.2.2.2.2.2.2.2.2.1
noncomputable def f : Nat := tup9z.2.2.2.2.2.2.2.2.2.2.2.2.2.2.2.2.2.2.2.2.2.2.2.2.2.2.2.2.2.2.1
noncomputable def c : Nat := tup9z.2.2.2.2.2.2.2.2.2.2.2.2.2.2.2.2.2.2.2.2.2.2.2.2.2.2.2.2.2.2.2.1
noncomputable def x1 : Nat := tup9z.2.2.2.2.2.2.2.2.2.2.2.2.2.2.2.2.2.2.2.2.2.2.2.2.2.2.2.2.2.2.2.2.1
noncomputable def d1 : Nat := tup9z.2.2.2.2.2.2.2.2.2.2.2.2.2.2.2.2.2.2.2.2.2.2.2.2.2.2.2.2.2.2.2.2.2.1
noncomputable def sg : Nat := tup9z.2.2.2.2.2.2.2.2.2.2.2.2.2.2.2.2.2.2.2.2.2.2.2.2.2.2.2.2.2.2.2.2.2.2.1
noncomputable def ce : Nat := tup9z.2.2.2.2.2.2.2.2.2.2.2.2.2.2.2.2.2.2.2.2.2.2.2.2.2.2.2.2.2.2.2.2.2.2.2.1
noncomputable def pb1 : Nat := tup9z.2.2.2.2.2.2.2.2.2.2.2.2.2.2.2.2.2.2.2.2.2.2.2.2.2.2.2.2.2.2.2.2.2.2.2.2.1
noncomputable def t1 : PySem.Tok := tup9z.2.2.2.2.2.2.2.2.2.2.2.2.2.2.2.2.2.2.2.2.2.2.2.2.2.2.2.2.2.2.2.2.2.2.2.2.2.1
noncomputable def t2 : PySem.Tok := tup9z.2.2.2.2.2.2.2.2.2.2.2.2.2.2.2.2.2.2.2.2.2.2.2.2.2.2.2.2.2.2.2.2.2.2.2.2.2.2.1
noncomputable def t3 : PySem.Tok := tup9z.2.2.2.2.2.2.2.2.2.2.2.2.2.2.2.2.2.2.2.2.2.2.2.2.2.2.2.2.2.2.2.2.2.2.2.2.2.2.2.1
noncomputable def t4 : PySem.Tok := tup9z.2.2.2.2.2.2.2.2.2.2.2.2.2.2.2.2.2.2.2.2.2.2.2.2.2.2.2.2.2.2.2.2.2.2.2.2.2.2.2.2.1
noncomputable def tw : PySem.Tok := tup9z.2.2.2.2.2.2.2.2.2.2.2.2.2.2.2.2.2.2.2.2.2.2.2.2.2.2.2.2.2.2.2.2.2.2.2.2.2.2.2.2.2.1
noncomputable def u1 : PySem.Tok := tup9z.2.2.2.2.2.2.2.2.2.2.2.2.2.2.2.2.2.2.2.2.2.2.2.2.2.2.2.2.2.2.2.2.2.2.2.2.2.2.2.2.2.2.1
noncomputable def u2 : PySem.Tok := tup9z.2.2.2.2.2.2.2.2.2.2.2.2.2.2.2.2.2.2.2.2.2.2.2.2.2.2.2.2.2.2.2.2.2.2.2.2.2.2.2.2.2.2.2.1
noncomputable def u3 : PySem.Tok := tup9z.2.2.2.2.2.2.2.2.2.2.2.2.2.2.2.2.2.2.2.2.2.2.2.2.2.2.2.2.2.2.2.2.2.2.2.2.2.2.2.2.2.2.2.2.1
noncomputable def u4 : PySem.Tok := tup9z.2.2.2.2.2.2.2.2.2.2.2.2.2.2.2.2.2.2.2.2.2.2.2.2.2.2.2.2.2.2.2.2.2.2.2.2.2.2.2.2.2.2.2.2.2.1
noncomputable def u5 : PySem.Tok := tup9z.2.2.2.2.2.2.2.2.2.2.2.2.2.2.2.2.2.2.2.2.2.2.2.2.2.2.2.2.2.2.2.2.2.2.2.2.2.2.2.2.2.2.2.2.2.2.1
noncomputable def v1 : PySem.Tok := tup9z.2.2.2.2.2.2.2.2.2.2.2.2.2.2.2.2.2.2.2.2.2.2.2.2.2.2.2.2.2.2.2.2.2.2.2.2.2.2.2.2.2.2.2.2.2.2.2.1
noncomputable def vw : PySem.Tok := tup9z.2.2.2.2.2.2.2.2.2.2.2.2.2.2.2.2.2.2.2.2.2.2.2.2.2.2.2.2.2.2.2.2.2.2.2.2.2.2.2.2.2.2.2.2.2.2.2.2.1
noncomputable def ct : PySem.Value := tup9z.2.2.2.2.2.2.2.2.2.2.2.2.2.2.2.2.2.2.2.2.2.2.2.2.2.2.2.2.2.2.2.2.2.2.2.2.2.2.2.2.2.2.2.2.2.2.2.2.2.1
noncomputable def pm : PySem.Value := tup9z.2.2.2.2.2.2.2.2.2.2.2.2.2.2.2.2.2.2.2.2.2.2.2.2.2.2.2.2.2.2.2.2.2.2.2.2.2.2.2.2.2.2.2.2.2.2.2.2.2.2.1
noncomputable def oc : PySem.Obj := tup9z.2.2.2.2.2.2.2.2.2.2.2.2.2.2.2.2.2.2.2.2.2.2.2.2.2.2.2.2.2.2.2.2.2.2.2.2.2.2.2.2.2.2.2.2.2.2.2.2.2.2.2.1
noncomputable def oC : PySem.Obj := tup9z.2.2.2.2.2.2.2.2.2.2.2.2.2.2.2.2.2.2.2.2.2.2.2.2.2.2.2.2.2.2.2.2.2.2.2.2.2.2.2.2.2.2.2.2.2.2.2.2.2.2.2.2.1
noncomputable def vs : Array PySem.Value := tup9z.2.2.2.2.2.2.2.2.2.2.2.2.2.2.2.2.2.2.2.2.2.2.2.2.2.2.2.2.2.2.2.2.2.2.2.2.2.2.2.2.2.2.2.2.2.2.2.2.2.2.2.2.2.1
noncomputable def tq : PySem.Tok := tup9z.2.2.2.2.2.2.2.2.2.2.2.2.2.2.2.2.2.2.2.2.2.2.2.2.2.2.2.2.2.2.2.2.2.2.2.2.2.2.2.2.2.2.2.2.2.2.2.2.2.2.2.2.2.2.1
noncomputable def r : List Nat := tup9z.2.2.2.2.2.2.2.2.2.2.2.2.2.2.2.2.2.2.2.2.2.2.2.2.2.2.2.2.2.2.2.2.2.2.2.2.2.2.2.2.2.2.2.2.2.2.2.2.2.2.2.2.2.2.2.1
noncomputable def ws : List PySem.Value := tup9z.2.2.2.2.2.2.2.2.2.2.2.2.2.2.2.2.2.2.2.2.2.2.2.2.2.2.2.2.2.2.2.2.2.2.2.2.2.2.2.2.2.2.2.2.2.2.2.2.2.2.2.2.2.2.2.2.1
noncomputable def t9 : PySem.Tok := tup9z.2.2.2.2.2.2.2.2.2.2.2.2.2.2.2.2.2.2.2.2.2.2.2.2.2.2.2.2.2.2.2.2.2.2.2.2.2.2.2.2.2.2.2.2.2.2.2.2.2.2.2.2.2.2.2.2.2
set_option maxRecDepth 100000 in
set_option maxHeartbeats 4000000 in
theorem main9 : seg9.1 w ln qv qe tl se loose mean mg mb rest dp un gd cn cs a ccd cl outer A₀ base h₀ L m s R x d pb f c x1 d1 sg ce pb1 t1 t2 t3 t4 tw u1 u2 u3 u4 u5 v1 vw ct pm oc oC vs tq r ws t9 := by
     delta seg9 segOf
     dsimp -zeta only
     intro hpre B F₀ X T hk hd hu hcode hname hcell o1 o2 o3 o4 o5 o6 o7 o8 hf1 hf2 hf3 hf4 hf5 hf6 hf7 hf8 hf9 ch hr hs' N₀ hs hret hz
     k_with_none
     k_with "call ref cons nil" => (k_dflt ((refine wpAny_call ?_; refine' kla_code ?k1 ?k2 ?k3 ?k4 ?k5 ?kA ?kF ?kK ?k6 ?k7 ?k8 ?k9 ?kB ?_ ?c2 ?c3 ?c4 ?c5; (case kA => exact rfl); (case kF => exact rfl); (case kK => exact rfl); (case k1 => k_asm); (case k2 => k_asm); (case k3 => k_asm); (case k4 => k_asm); (case k5 => k_asm); (case k6 => k_mem); (case k7 => exact codeRec_news (by k_asm) (by k_mem) (by assumption) (by assumption)); (case k8 => ktr_room); (case k9 => exact rfl); (case c5 => decide); (case kB => exact locs rfl); (case c2 => exact rfl); (case c3 => exact rfl); (case c4 => exact rfl); k_whole; intro g9z L9z h9z FG9z F9z N9z B9z X9z T9z; (try dsimp only); (try k_lift B9z); (try k_fold))); dsimp only [lamBs, lamSs])
     k_with "truthy ref" => refine truthy_snoc (by is_list) (by omega) ?_
     k_with "call builtin:list.pop cons nil" => (refine' kl_pop ?F ?N (kpa_last _ _) ?U ?z ?_; (case F => k_asm); (case N => k_asm); (case U => k_upd); (case z => rw [sizeLine_eq, List.length_append]; simp; omega); intro h9 F9 N9; (try k_sweep))
     k_dflt cell_enter
     k_steps
     · have hnl : (one ch == Str.ofString "\n") = true := by assumption
       rw [one_nl, decide_eq_true_eq] at hnl
       rw [show lnAft (ch :: r) ln = ln + 1 by rw [lnAft, if_pos (by rw [hnl]; rfl)]] at hret
       exact hret _ _ [] _ _ ⟨rfl, _, rfl, _, ws, _, hs', rfl⟩ (fun _ _ _ h => nomatch h) (by k_asm) (by k_asm)
     · have hnl : ch ≠ 10 := by
         rintro rfl
         simp only [one_nl] at *
         simp_all
       rw [show lnAft (ch :: r) ln = ln by rw [lnAft, if_neg (by intro e; exact hnl (Option.some.inj e))]] at hret
       exact hret _ _ [] _ _ ⟨rfl, _, rfl, _, ws, _, hs', rfl⟩ (fun _ _ _ h => nomatch h) (by k_asm) (by k_asm)

set_option maxRecDepth 100000 in
set_option maxHeartbeats 4000000 in
theorem all9 : ∀ a0 a1 a2 a3 a4 a5 a6 a7 a8 a9 a10 a11 a12 a13 a14 a15 a16 a17 a18 a19 a20 a21 a22 a23 a24 a25 a26 a27 a28 a29 a30 a31 a32 a33 a34 a35 a36 a37 a38 a39 a40 a41 a42 a43 a44 a45 a46 a47 a48 a49 a50 a51 a52 a53 a54 a55 a56 a57, seg9.1 a0 a1 a2 a3 a4 a5 a6 a7 a8 a9 a10 a11 a12 a13 a14 a15 a16 a17 a18 a19 a20 a21 a22 a23 a24 a25 a26 a27 a28 a29 a30 a31 a32 a33 a34 a35 a36 a37 a38 a39 a40 a41 a42 a43 a44 a45 a46 a47 a48 a49 a50 a51 a52 a53 a54 a55 a56 a57 := fun a0 a1 a2 a3 a4 a5 a6 a7 a8 a9 a10 a11 a12 a13 a14 a15 a16 a17 a18 a19 a20 a21 a22 a23 a24 a25 a26 a27 a28 a29 a30 a31 a32 a33 a34 a35 a36 a37 a38 a39 a40 a41 a42 a43 a44 a45 a46 a47 a48 a49 a50 a51 a52 a53 a54 a55 a56 a57 => hen_all (G := G9) main9 (a0, a1, a2, a3, a4, a5, a6, a7, a8, a9, a10, a11, a12, a13, a14, a15, a16, a17, a18, a19, a20, a21, a22, a23, a24, a25, a26, a27, a28, a29, a30, a31, a32, a33, a34, a35, a36, a37, a38, a39, a40, a41, a42, a43, a44, a45, a46, a47, a48, a49, a50, a51, a52, a53, a54, a55, a56, a57)
end read_char
theorem read_char (w : World) (P : LexP) (ok : P.Ok) (ln : Int) (rem : List Nat) (qv : List Value) (qe : Nat) (led : List (Addr × Obj)) (st : LexSt w P ln rem qv qe led) (hr : rem.length ≤ 1000) : Ctr (fun h => CodeHd h 137 133) PySem.Challenge.rw_wn0028_01.prog w (Mine.hd.heap_1 w.params) PySem.W.topProg 3 40 56 [.ref P.x] led (fun v led tl => tl = [] ∧ ∃ t, v = .str (chOf rem) t ∧ LexSt w P (lnAft rem ln) rem.tail qv qe led) := read_char.seg9.2 ⟨read_char.all9⟩ w P ok ln rem qv qe led st hr

end Mine
namespace Mine
theorem reset_lexnext : True := by
  w_top off
  trivial
set_option maxRecDepth 100000 in
set_option maxHeartbeats 4000000 in
theorem lex_next (w : World) (P : LexP) (ok : P.Ok) (ln : Int) (rem : List Nat) (qv : List Value) (qe : Nat) (led : List (Addr × Obj)) (st : LexSt w P ln rem qv qe led) (hr : rem.length ≤ 1000)
    {loose : List Str} {mean : ExcName → Option Value} {mg mb : Str → Option Value} {rest : List (Addr × Obj)} {dp un : Nat} {gd : Option (List Code)} {cn : Str} {cs : Scope} {a : Addr} {ccd : Value} {cl : List (Str × Addr)} {outer : List Env} {A₀ : Around} {base h₀ : Heap} {L : Addr} {m : Str → Option Value} {s : Shared} {Q : Option Value → Shared → Prop} {E : Value → Shared → Prop}
    {it mo : Addr} {te : Tok} (hC : CodeHd h₀ 137 133) (off : ∀ p ∈ led, ∀ q ∈ rest, q.1 ≠ p.1) (B : Below A₀ base outer h₀) (F : Fr h₀ L s.heap m) (X : (Mine.hd.heap_1 w.params).In h₀) (N : News h₀ L s.heap (led ++ rest)) (T : Top PySem.W.topProg loose mean mg mb h₀) (hk : cs.kind = .function)
    (hd : dp + 3 < recursionLimit) (hu : un + 41 < cLine) (hit : (it, ciObj (.ref mo) (.str (Str.ofString "") te) false) ∈ rest) (hmo : (mo, methodObj (.ref 56) (.ref P.x)) ∈ rest)
    (hend : rem = [] → ∀ led' h' tk', LexSt w P ln [] qv qe led' → Fr h₀ L h' m → (∀ l, (∀ q ∈ l, q ∈ led' ++ rest) → (∀ q ∈ l, q.1 ≠ it) → News h₀ L h' l) → Q none { s with heap := h', toks := tk' })
    (hitem : ∀ c r, rem = c :: r → ∀ t led' h' tk', LexSt w P (lnAft rem ln) r qv qe led' → Fr h₀ L h' m → News h₀ L h' (led' ++ rest) → Q (some (.str (one c) t)) { s with heap := h', toks := tk' }) :
    wpAny (model PySem.Challenge.rw_wn0028_01.prog w) (ktrTop dp un gd cn cs L a ccd cl outer) (pyNext (.ref it)) Q E s := by
  have hK := X 56 _ (by k_is)
  have up : ∀ q ∈ rest, q ∈ led ++ rest := fun q hq => List.mem_append.mpr (.inr hq)
  refine ci_next (A := ktrTop dp un gd cn cs L a ccd cl outer) rfl (N _ (up _ hit)).1 (N _ (up _ hmo)).1 (F.keep _ _ hK) rfl ?_
  refine (read_char w P ok ln rem qv qe led st hr).code (dp := dp) (un := un + 1) (gd := gd) (cn := cn) (cs := cs) (a := a) (ccd := ccd) (cl := cl) (outer := outer) hC (all := led ++ rest) pick_app off B F X N T hk hd (by omega) ?_
  · intro v led' tl h' tk' hp _ F' N'
    obtain ⟨rfl, t, rfl, st'⟩ := hp
    rw [List.nil_append] at N'
    have up' : ∀ q ∈ rest, q ∈ led' ++ rest := fun q hq => List.mem_append.mpr (.inr hq)
    refine ⟨_, _, rfl, (N' _ (up' _ hit)).1, (N' _ (up' _ hmo)).1, ⟨_, _, F'.keep _ _ hK, rfl⟩, ?_⟩
    cases rem with
    | nil =>
      refine Eq.mpr (if_pos (show Str.ofString "" = chOf [] from rfl)) ?_
      intro h'' hx _
      have z := N' _ (up' _ hit)
      refine hend rfl led' h'' tk' st' (fr_but F' (fun b o hb e => hx b o (by simpa using hb) e) (Ne.symm z.2.1) z.2.2) fun l hl hne => ?_
      exact news_but (news_of N' hl) (fun b o hb e => hx b o (by simpa using hb) e) hne
    | cons c r =>
      have hne : ¬ (Str.ofString "" = one c) := by
        intro e
        have := congrArg (fun x : Str => x.cps.size) e
        simp [ofEmpty] at this
      refine Eq.mpr (if_neg (show ¬ Str.ofString "" = chOf (c :: r) from hne)) ?_
      exact hitem c r rfl t led' h' tk' st' F' N'

end Mine
namespace Mine
theorem reset_gt : True := by
  w_top off
  trivial
set_option maxRecDepth 100000
/-- the parts of get_token: its scope, its two inner loops -/
noncomputable def gtDef : Stmt := match (PySem.Challenge.rw_wn0028_01.prog.main.body[7]? : Option Stmt) with
  | some (.ClassDef _ _ _ (_ :: _ :: d :: _) _ _ _ _ _ _ _) => d
  | _ => .Pass default
noncomputable def gtS' : Scope := match gtDef with | .FunctionDef _ _ _ _ _ _ s _ _ _ => s | _ => default
noncomputable def gtFor : List Stmt := match gtDef with | .FunctionDef _ _ (_ :: _ :: _ :: .For _ _ b _ _ :: _) _ _ _ _ _ _ _ => b | _ => []
noncomputable def gtQ' : List Stmt := match gtFor with | _ :: .If _ (.For _ _ b _ _ :: _) _ _ :: _ => b | _ => []
noncomputable def gtW' : List Stmt := match gtFor with | _ :: .If _ _ (_ :: _ :: .For _ _ b _ _ :: _) _ :: _ => b | _ => []
noncomputable def gtSs : { x : Scope // gtS' = x } := by
  refine ⟨?_, ?h⟩; rotate_left
  conv => lhs; whnf
noncomputable def gtQs : { x : List Stmt // gtQ' = x } := by
  refine ⟨?_, ?h⟩; rotate_left
  conv => lhs; whnf
noncomputable def gtWs : { x : List Stmt // gtW' = x } := by
  refine ⟨?_, ?h⟩; rotate_left
  conv => lhs; whnf

end Mine
namespace Mine
theorem reset_loopQ : True := by
  w_top off
  trivial
noncomputable def lsLed (w : World) (it mo : Nat) (te : Tok) (rest : List (Addr × Obj)) (P : LexP) (qe : Nat) (y : LS) : List (Addr × Obj) :=
  lexLed w P y.ln y.tl y.sv y.se [] qe ++ (it, ciObj (.ref mo) (.str (Str.ofString "") te) false) :: (mo, methodObj (.ref 56) (.ref P.x)) :: rest
set_option maxRecDepth 100000 in
set_option maxHeartbeats 8000000 in
theorem loopQ (w : World) (P : LexP) (ok : P.Ok) (qe : Nat) (T' R' : List Nat) (LN : Int)
    {loose : List Str} {mean : ExcName → Option Value} {mg mb : Str → Option Value} {rest : List (Addr × Obj)} {dp un : Nat} {gd : Option (List Code)} {cn : Str} {a : Addr} {ccd : Value} {outer : List Env} {A₀ : Around} {base h₀ : Heap} {L : Addr} {m : Str → Option Value} {s : Shared} {R : Result → Shared → Prop} {px : Pos}
    {it mo : Nat} {te : Tok} {all : List (Addr × Obj)} (y : LS) (hC : CodeHd h₀ 137 133) (off : P.Off rest) (hit : P.pb < it ∧ P.pb < mo) (B : Below A₀ base outer h₀) (F : Fr h₀ L s.heap m) (X : (Mine.hd.heap_1 w.params).In h₀) (N : News h₀ L s.heap all) (hall : ∀ q ∈ lsLed w it mo te rest P qe y, q ∈ all) (T : Top PySem.W.topProg loose mean mg mb h₀)
    (hd : dp + 3 < recursionLimit) (hu : un + 44 < cLine) (hb : HasB m (lsVars it P y)) (hs : StrsAre y.sv (y.rem.map one).reverse) (hz : y.rem.length + y.tok.length ≤ 1000) (hx : lexQ y.rem y.tok.cps.toList y.ln = some (T', R', LN))
    (ret : ∀ tok t led' h' tk' m', tok.cps.toList = T' → LexSt w P LN R' [] qe led' → Fr h₀ L h' m' → News h₀ L h' (led' ++ rest) → R (.ok (.ret (.str tok t))) { s with heap := h', toks := tk' }) :
    codeAny (model PySem.Challenge.rw_wn0028_01.prog w) (ktrTop dp un gd cn gtSs.1 L a ccd [] outer) (.forLoop (.Name (Str.ofString "ch") px) (.ref it) gtQs.1 [] (envX cn gtSs.1 L a ccd [])) R s := by
   k_with_none
   have ok' := ok
   obtain ⟨x, d, pb, f, c, x1, d1, sg, ce, pb1, t1, t2, t3, t4, tw, u1, u2, u3, u4, u5, v1, vw, ct, pm, oc, oC, vs, tq⟩ := P
   obtain ⟨⟨o1, o2, o3, o4, o5, o6, o7, o8⟩, hcode, hname, hcell⟩ := ok
   have off2 := (off.cons (a := mo) (o := methodObj (.ref 56) (.ref x)) ok' hit.2).cons (a := it) (o := ciObj (.ref mo) (.str (Str.ofString "") te) false) ok' hit.1
   have off3 := off2.to (w := w) (ln := 0) (tl := 0) (sv := []) (se := 0) (qv := []) (qe := 0)
   dsimp only [gtSs, gtQs, lsVars, lsLed] at *
   refine for_code (σ := LS) (env := envOf _ _ _ _ _) (lsVars it ⟨x, d, pb, f, c, x1, d1, sg, ce, pb1, t1, t2, t3, t4, tw, u1, u2, u3, u4, u5, v1, vw, ct, pm, oc, oC, vs, tq⟩) (lsLed w it mo te rest ⟨x, d, pb, f, c, x1, d1, sg, ce, pb1, t1, t2, t3, t4, tw, u1, u2, u3, u4, u5, v1, vw, ct, pm, oc, oC, vs, tq⟩ qe)
     (fun n y => StrsAre y.sv (y.rem.map one).reverse ∧ y.rem.length < n ∧ y.rem.length + y.tok.length ≤ 1000 ∧ lexQ y.rem y.tok.cps.toList y.ln = some (T', R', LN)) (y.rem.length + 1) y F N hb hall ⟨hs, by omega, hz, hx⟩ ?_
   clear hs hz hx hb hall N F y
   intro n y h tk m₁ hok F N
   obtain ⟨rem, tok, ln, tl, sv, se, tt⟩ := y
   obtain ⟨h1, h2, h3, h5⟩ := hok
   dsimp only [lsVars, lsLed, mB] at *
   refine lex_next w ⟨x, d, pb, f, c, x1, d1, sg, ce, pb1, t1, t2, t3, t4, tw, u1, u2, u3, u4, u5, v1, vw, ct, pm, oc, oC, vs, tq⟩ ok' ln rem [] qe _ ⟨tl, sv, se, h1, rfl⟩ (by omega) hC off2.to (by k_asm) F (by k_asm) N (by k_asm) rfl (by ktr_room) (by ktr_units) (it := it) (mo := mo) (te := te) (.head _) (.tail _ (.head _)) ?_ ?_
   · intro e
     subst e
     cases h5
   · intro c' r e t led' h' tk' st' F' N'
     subst e
     clear N F h1
     obtain ⟨tl, sv, se, h1, rfl⟩ := st'
     dsimp only [lexLed] at N' off3
     simp only [List.cons_append, List.nil_append, List.forall_mem_cons] at N' off3
     obtain ⟨⟨-, -, hf1⟩, ⟨-, -, hf2⟩, ⟨-, -, hf3⟩, ⟨-, -, hf4⟩, ⟨-, -, hf5⟩, ⟨-, -, hf6⟩, ⟨-, -, hf7⟩, ⟨-, -, hf8⟩, ⟨-, -, hf9⟩, -⟩ := off3
     try dsimp only
     simp only [List.length_cons] at h2 h3
     have hq : (one c').length = 1 := rfl
     have hq2 : (chOf r).length ≤ 1 := by cases r <;> first | exact Nat.zero_le _ | exact Nat.le_refl _
     k_with "compareOp In str str" => refine SB.contains ?_
     k_with "inplaceOp Add str str" => (refine SB.iadd ?_ (by rw [sizeLine_eq]; omega); intro _ _)
     k_with "call ref nil" => (refine' Ctr.use (read_char w ⟨x, d, pb, f, c, x1, d1, sg, ce, pb1, t1, t2, t3, t4, tw, u1, u2, u3, u4, u5, v1, vw, ct, pm, oc, oC, vs, tq⟩ ok' (lnAft (c' :: r) ln) r [] qe _ ⟨tl, sv, se, h1, rfl⟩ (by omega)) hC pick_app off2.to ?k1 ?k2 ?k3 ?k4 ?k5 ?kK ?kd ?ku ?_; (case k1 => k_asm); (case k2 => k_asm); (case k3 => k_asm); (case k4 => k_asm); (case k5 => k_asm); (case kK => exact rfl); (case kd => ktr_room); (case ku => ktr_units); intro v9 led9 tl9 h9 tk9 hp9 _ F9 N9; obtain ⟨rfl, t9, rfl, tl2, sv2, se2, hs2, rfl⟩ := hp9; dsimp only [lexLed] at N9; simp only [List.cons_append, List.nil_append] at N9; dsimp only; (try k_sweep))
     k_steps
     · have h34 : (one c' == Str.ofString "\"") = true := by assumption
       rw [q_one, one_beq, decide_eq_true_eq] at h34
       rw [lexQ_cons, if_pos h34] at h5
       injection h5 with h5; injection h5 with e1 h5; injection h5 with e2 e3
       subst e1 e2 e3
       exact ret tok _ _ _ _ _ rfl ⟨tl, sv, se, h1, rfl⟩ (by k_asm) (news_drop2 (a := (it, ciObj (.ref mo) (.str (Str.ofString "") te) false)) (b := (mo, methodObj (.ref 56) (.ref x))) (by k_asm))
     · have h34 : (one c' == Str.ofString "\"") = false := by assumption
       rw [q_one, one_beq, decide_eq_false_iff_not] at h34
       have h92 : (one c' == Str.ofString "\\") = true := by assumption
       rw [b_one, one_beq, decide_eq_true_eq] at h92
       cases r with
       | nil => rw [lexQ_cons, if_neg (by simpa using h34), if_pos h92] at h5; cases h5
       | cons c2 r2 =>
         rw [lexQ_cons, if_neg (by simpa using h34), if_pos h92] at h5
         dsimp only at h5
         refine TurnEnd.mk (n - 1) ⟨r2, tok ++ one c2, lnAft (c2 :: r2) (lnAft (c' :: c2 :: r2) ln), tl2, sv2, se2, _⟩ (by omega) (by k_asm) (by k_asm) ⟨rfl, rfl, rfl, trivial⟩ (fun p hp => hp) ⟨hs2, ?_, ?_, ?_⟩
         · show r2.length < n - 1
           simp only [List.length_cons] at h2; omega
         · show r2.length + (tok ++ one c2).length ≤ 1000
           rw [Str.length_append]; simp only [List.length_cons] at h3; show r2.length + (tok.length + 1) ≤ 1000; omega
         · show lexQ r2 (tok ++ one c2).cps.toList _ = _
           rw [Str.cps_append, Array.toList_append]; exact h5
     · have h34 : (one c' == Str.ofString "\"") = false := by assumption
       rw [q_one, one_beq, decide_eq_false_iff_not] at h34
       have h92 : (one c' == Str.ofString "\\") = false := by assumption
       rw [b_one, one_beq, decide_eq_false_iff_not] at h92
       rw [lexQ_cons, if_neg (by simpa using h34), if_neg h92] at h5
       refine TurnEnd.mk (n - 1) ⟨r, tok ++ one c', lnAft (c' :: r) ln, tl, sv, se, _⟩ (by omega) (by k_asm) (by k_asm) ⟨rfl, rfl, rfl, trivial⟩ (fun p hp => hp) ⟨h1, ?_, ?_, ?_⟩
       · show r.length < n - 1
         omega
       · show r.length + (tok ++ one c').length ≤ 1000
         rw [Str.length_append]; show r.length + (tok.length + 1) ≤ 1000; omega
       · show lexQ r (tok ++ one c').cps.toList _ = _
         rw [Str.cps_append, Array.toList_append]; exact h5

end Mine
namespace Mine
theorem reset_loopW : True := by
  w_top off
  trivial
set_option maxRecDepth 100000 in
set_option maxHeartbeats 8000000 in
theorem loopW (w : World) (P : LexP) (ok : P.Ok) (qe : Nat) (T' R' : List Nat) (LN : Int)
    {loose : List Str} {mean : ExcName → Option Value} {mg mb : Str → Option Value} {rest : List (Addr × Obj)} {dp un : Nat} {gd : Option (List Code)} {cn : Str} {a : Addr} {ccd : Value} {outer : List Env} {A₀ : Around} {base h₀ : Heap} {L : Addr} {m : Str → Option Value} {s : Shared} {R : Result → Shared → Prop} {px : Pos}
    {it mo : Nat} {te : Tok} {all : List (Addr × Obj)} (y : LS) (hC : CodeHd h₀ 137 133) (off : P.Off rest) (hit : P.pb < it ∧ P.pb < mo) (B : Below A₀ base outer h₀) (F : Fr h₀ L s.heap m) (X : (Mine.hd.heap_1 w.params).In h₀) (N : News h₀ L s.heap all) (hall : ∀ q ∈ lsLed w it mo te rest P qe y, q ∈ all) (T : Top PySem.W.topProg loose mean mg mb h₀)
    (hd : dp + 3 < recursionLimit) (hu : un + 44 < cLine) (hb : HasB m (lsVars it P y)) (hs : StrsAre y.sv (y.rem.map one).reverse) (hz : y.rem.length + y.tok.length ≤ 1000) (hx : lexW y.rem y.tok.cps.toList y.ln = some (T', R', LN))
    (ret : ∀ tok t led' h' tk' m', tok.cps.toList = T' → LexSt w P LN R' [] qe led' → Fr h₀ L h' m' → News h₀ L h' (led' ++ rest) → R (.ok (.ret (.str tok t))) { s with heap := h', toks := tk' }) :
    codeAny (model PySem.Challenge.rw_wn0028_01.prog w) (ktrTop dp un gd cn gtSs.1 L a ccd [] outer) (.forLoop (.Name (Str.ofString "ch") px) (.ref it) gtWs.1 [] (envX cn gtSs.1 L a ccd [])) R s := by
   k_with_none
   have ok' := ok
   obtain ⟨x, d, pb, f, c, x1, d1, sg, ce, pb1, t1, t2, t3, t4, tw, u1, u2, u3, u4, u5, v1, vw, ct, pm, oc, oC, vs, tq⟩ := P
   obtain ⟨⟨o1, o2, o3, o4, o5, o6, o7, o8⟩, hcode, hname, hcell⟩ := ok
   have off2 := (off.cons (a := mo) (o := methodObj (.ref 56) (.ref x)) ok' hit.2).cons (a := it) (o := ciObj (.ref mo) (.str (Str.ofString "") te) false) ok' hit.1
   have off3 := off2.to (w := w) (ln := 0) (tl := 0) (sv := []) (se := 0) (qv := []) (qe := 0)
   dsimp only [gtSs, gtWs, lsVars, lsLed] at *
   refine for_code (σ := LS) (env := envOf _ _ _ _ _) (lsVars it ⟨x, d, pb, f, c, x1, d1, sg, ce, pb1, t1, t2, t3, t4, tw, u1, u2, u3, u4, u5, v1, vw, ct, pm, oc, oC, vs, tq⟩) (lsLed w it mo te rest ⟨x, d, pb, f, c, x1, d1, sg, ce, pb1, t1, t2, t3, t4, tw, u1, u2, u3, u4, u5, v1, vw, ct, pm, oc, oC, vs, tq⟩ qe)
     (fun n y => StrsAre y.sv (y.rem.map one).reverse ∧ y.rem.length < n ∧ y.rem.length + y.tok.length ≤ 1000 ∧ lexW y.rem y.tok.cps.toList y.ln = some (T', R', LN)) (y.rem.length + 1) y F N hb hall ⟨hs, by omega, hz, hx⟩ ?_
   clear hs hz hx hb hall N F y
   intro n y h tk m₁ hok F N
   obtain ⟨rem, tok, ln, tl, sv, se, tt⟩ := y
   obtain ⟨h1, h2, h3, h5⟩ := hok
   dsimp only [lsVars, lsLed, mB] at *
   refine lex_next w ⟨x, d, pb, f, c, x1, d1, sg, ce, pb1, t1, t2, t3, t4, tw, u1, u2, u3, u4, u5, v1, vw, ct, pm, oc, oC, vs, tq⟩ ok' ln rem [] qe _ ⟨tl, sv, se, h1, rfl⟩ (by omega) hC off2.to (by k_asm) F (by k_asm) N (by k_asm) rfl (by ktr_room) (by ktr_units) (it := it) (mo := mo) (te := te) (.head _) (.tail _ (.head _)) ?_ ?_
   · intro e
     subst e
     cases h5
   · intro c' r e t led' h' tk' st' F' N'
     subst e
     clear N F h1
     obtain ⟨tl, sv, se, h1, rfl⟩ := st'
     dsimp only [lexLed] at N' off3
     simp only [List.cons_append, List.nil_append, List.forall_mem_cons] at N' off3
     obtain ⟨⟨-, -, hf1⟩, ⟨-, -, hf2⟩, ⟨-, -, hf3⟩, ⟨-, -, hf4⟩, ⟨-, -, hf5⟩, ⟨-, -, hf6⟩, ⟨-, -, hf7⟩, ⟨-, -, hf8⟩, ⟨-, -, hf9⟩, -⟩ := off3
     try dsimp only
     simp only [List.length_cons] at h2 h3
     have hq : (one c').length = 1 := rfl
     have hq2 : (chOf r).length ≤ 1 := by cases r <;> first | exact Nat.zero_le _ | exact Nat.le_refl _
     k_with "compareOp In str str" => refine SB.contains ?_
     k_with "inplaceOp Add str str" => (refine SB.iadd ?_ (by rw [sizeLine_eq]; omega); intro _ _)
     k_with "call ref nil" => (refine' Ctr.use (read_char w ⟨x, d, pb, f, c, x1, d1, sg, ce, pb1, t1, t2, t3, t4, tw, u1, u2, u3, u4, u5, v1, vw, ct, pm, oc, oC, vs, tq⟩ ok' (lnAft (c' :: r) ln) r [] qe _ ⟨tl, sv, se, h1, rfl⟩ (by omega)) hC pick_app off2.to ?k1 ?k2 ?k3 ?k4 ?k5 ?kK ?kd ?ku ?_; (case k1 => k_asm); (case k2 => k_asm); (case k3 => k_asm); (case k4 => k_asm); (case k5 => k_asm); (case kK => exact rfl); (case kd => ktr_room); (case ku => ktr_units); intro v9 led9 tl9 h9 tk9 hp9 _ F9 N9; obtain ⟨rfl, t9, rfl, tl2, sv2, se2, hs2, rfl⟩ := hp9; dsimp only [lexLed] at N9; simp only [List.cons_append, List.nil_append] at N9; dsimp only; (try k_sweep))
     k_steps
     · have h34 : Txt.contains (Str.ofString "\n\t\x0d ") (one c') = true := by assumption
       rw [contains_ws] at h34
       rw [lexW_cons, if_pos h34] at h5
       injection h5 with h5; injection h5 with e1 h5; injection h5 with e2 e3
       subst e1 e2 e3
       exact ret tok _ _ _ _ _ rfl ⟨tl, sv, se, h1, rfl⟩ (by k_asm) (news_drop2 (a := (it, ciObj (.ref mo) (.str (Str.ofString "") te) false)) (b := (mo, methodObj (.ref 56) (.ref x))) (by k_asm))
     · have h34 : Txt.contains (Str.ofString "\n\t\x0d ") (one c') = false := by assumption
       rw [contains_ws] at h34
       have h92 : (one c' == Str.ofString "\\") = true := by assumption
       rw [b_one, one_beq, decide_eq_true_eq] at h92
       cases r with
       | nil => rw [lexW_cons, if_neg (by simpa using h34), if_pos h92] at h5; cases h5
       | cons c2 r2 =>
         rw [lexW_cons, if_neg (by simpa using h34), if_pos h92] at h5
         dsimp only at h5
         refine TurnEnd.mk (n - 1) ⟨r2, tok ++ one c2, lnAft (c2 :: r2) (lnAft (c' :: c2 :: r2) ln), tl2, sv2, se2, _⟩ (by omega) (by k_asm) (by k_asm) ⟨rfl, rfl, rfl, trivial⟩ (fun p hp => hp) ⟨hs2, ?_, ?_, ?_⟩
         · show r2.length < n - 1
           simp only [List.length_cons] at h2; omega
         · show r2.length + (tok ++ one c2).length ≤ 1000
           rw [Str.length_append]; simp only [List.length_cons] at h3; show r2.length + (tok.length + 1) ≤ 1000; omega
         · show lexW r2 (tok ++ one c2).cps.toList _ = _
           rw [Str.cps_append, Array.toList_append]; exact h5
     · have h34 : Txt.contains (Str.ofString "\n\t\x0d ") (one c') = false := by assumption
       rw [contains_ws] at h34
       have h92 : (one c' == Str.ofString "\\") = false := by assumption
       rw [b_one, one_beq, decide_eq_false_iff_not] at h92
       rw [lexW_cons, if_neg (by simpa using h34), if_neg h92] at h5
       refine TurnEnd.mk (n - 1) ⟨r, tok ++ one c', lnAft (c' :: r) ln, tl, sv, se, _⟩ (by omega) (by k_asm) (by k_asm) ⟨rfl, rfl, rfl, trivial⟩ (fun p hp => hp) ⟨h1, ?_, ?_, ?_⟩
       · show r.length < n - 1
         omega
       · show r.length + (tok ++ one c').length ≤ 1000
         rw [Str.length_append]; show r.length + (tok.length + 1) ≤ 1000; omega
       · show lexW r (tok ++ one c').cps.toList _ = _
         rw [Str.cps_append, Array.toList_append]; exact h5

end Mine
namespace Mine
theorem reset_tok_read : True := by
  w_top off
  trivial
namespace tok_read
set_option maxRecDepth 100000 in
set_option maxHeartbeats 8000000 in
noncomputable def seg9 : {p : PySem.World → Int → (List Nat) → Nat → PySem.Tok → (List PySem.Value) → Nat → (List PySem.Str) → (PySem.ExcName → Option PySem.Value) → (PySem.Str → Option PySem.Value) → (PySem.Str → Option PySem.Value) → (List (PySem.Addr × PySem.Obj)) → Nat → Nat → (Option (List PySem.Code)) → PySem.Str → PySem.Scope → PySem.Addr → PySem.Value → (List (PySem.Str × PySem.Addr)) → (List PySem.Env) → PySem.Around → PySem.Heap → PySem.Heap → PySem.Addr → (PySem.Str → Option PySem.Value) → PySem.Shared → (PySem.Result → PySem.Shared → Prop) → Nat → Nat → Nat → Nat → Nat → Nat → Nat → Nat → Nat → Nat → PySem.Tok → PySem.Tok → PySem.Tok → PySem.Tok → PySem.Tok → PySem.Tok → PySem.Tok → PySem.Tok → PySem.Tok → PySem.Tok → PySem.Tok → PySem.Tok → PySem.Value → PySem.Value → PySem.Obj → PySem.Obj → (Array PySem.Value) → PySem.Tok → PySem.Heap → PySem.Addr → PySem.Heap → Nat → PySem.Heap → PySem.Heap → PySem.Addr → PySem.Heap → PySem.Addr → PySem.Tok → PySem.Heap → Nat → Nat → PySem.Heap → Nat → (PySem.Str → Option PySem.Value) → Int → PySem.Tok → (List PySem.Value) → Nat → PySem.Tok → Nat → PySem.Tok → PySem.Heap → Nat → PySem.Tok → (List PySem.Value) → Nat → Prop // Hid (∀ a0 a1 a2 a3 a4 a5 a6 a7 a8 a9 a10 a11 a12 a13 a14 a15 a16 a17 a18 a19 a20 a21 a22 a23 a24 a25 a26 a27 a28 a29 a30 a31 a32 a33 a34 a35 a36 a37 a38 a39 a40 a41 a42 a43 a44 a45 a46 a47 a48 a49 a50 a51 a52 a53 a54 a55 a56 a57 a58 a59 a60 a61 a62 a63 a64 a65 a66 a67 a68 a69 a70 a71 a72 a73 a74 a75 a76 a77 a78 a79 a80 a81 a82 a83, p a0 a1 a2 a3 a4 a5 a6 a7 a8 a9 a10 a11 a12 a13 a14 a15 a16 a17 a18 a19 a20 a21 a22 a23 a24 a25 a26 a27 a28 a29 a30 a31 a32 a33 a34 a35 a36 a37 a38 a39 a40 a41 a42 a43 a44 a45 a46 a47 a48 a49 a50 a51 a52 a53 a54 a55 a56 a57 a58 a59 a60 a61 a62 a63 a64 a65 a66 a67 a68 a69 a70 a71 a72 a73 a74 a75 a76 a77 a78 a79 a80 a81 a82 a83) → ∀ (w : World) (P : LexP) (ok : P.Ok) (ln : Int) (rem : List Nat) (qe : Nat) (led : List (Addr × Obj)) (st : LexSt w P ln rem [] qe led) (hr : rem.length ≤ 1000) (T' R' : List Nat) (LN : Int) (hx : lexT rem ln = some (T', R', LN)), Ctr (fun h => CodeHd h 137 133) PySem.Challenge.rw_wn0028_01.prog w (Mine.hd.heap_1 w.params) PySem.W.topProg 5 60 63 [.ref P.x] led (fun v led tl => tl = [] ∧ ∃ tk t, v = .str tk t ∧ tk.cps.toList = T' ∧ LexSt w P LN R' [] qe led)} := segOf (by
   intro ht9
   intro w P ok ln rem qe led st hr T' R' LN hx
   obtain ⟨tl, sv, se, hs, rfl⟩ := st
   intro loose mean mg mb rest dp un gd cn cs a ccd cl outer A₀ base h₀ L m s R hpre hoff B F₀ X N₀ T hk hd hu hret
   k_with_none
   have ok' := ok
   obtain ⟨x, d, pb, f, c, x1, d1, sg, ce, pb1, t1, t2, t3, t4, tw, u1, u2, u3, u4, u5, v1, vw, ct, pm, oc, oC, vs, tq⟩ := P
   obtain ⟨⟨o1, o2, o3, o4, o5, o6, o7, o8⟩, hcode, hname, hcell⟩ := ok
   have hoff' := LexP.Off.of hoff
   dsimp only [lexLed] at *
   simp only [List.cons_append, List.nil_append, List.forall_mem_cons] at N₀ hoff
   obtain ⟨hf1, hf2, hf3, hf4, hf5, hf6, hf7, hf8, hf9, -⟩ := hoff
   k_with "truthy ref" => refine truthy_nil (by is_list) ?_
   k_with "call builtin:iter cons nil" => (refine ci_make (by k_asm) (by k_asm) (by k_mem) ?_; intro it9 h9 mo9 te9 e9 e8 F9 N9 l9; clear e8; subst e9; (try k_lt l9); (try k_sweep))
   k_with "exec For Name Name cons nil" => refine stop_in ?_
   k_dflt cell_enter
   have hC' : CodeHd _ 137 133 := CodeHd.keeps hpre (Fr.keep ‹Fr h₀ _ _ _›)
   k_steps
   refine stop_out ?_
   k_with "pyIter ref" => refine stop_in ?_
   refine wpAny_For ?_
   k_steps
   refine stop_out ?_
   refine ci_self (News.get (by k_asm) (by k_mem)) ?_
   refine for_code (σ := LS) (env := envOf _ _ _ _ _) (lsVars it9 ⟨x, d, pb, f, c, x1, d1, sg, ce, pb1, t1, t2, t3, t4, tw, u1, u2, u3, u4, u5, v1, vw, ct, pm, oc, oC, vs, tq⟩) (lsLed w it9 mo9 te9 rest ⟨x, d, pb, f, c, x1, d1, sg, ce, pb1, t1, t2, t3, t4, tw, u1, u2, u3, u4, u5, v1, vw, ct, pm, oc, oC, vs, tq⟩ qe)
     (fun n y => StrsAre y.sv (y.rem.map one).reverse ∧ y.rem.length < n ∧ y.rem.length ≤ 1000 ∧ y.tok = Str.ofString "" ∧ lexT y.rem y.ln = some (T', R', LN)) (rem.length + 1) ⟨rem, _, ln, tl, sv, se, _⟩ (by k_asm) (by k_asm) ⟨rfl, rfl, rfl, trivial⟩ (fun p hp => ?_) ⟨hs, by simp, hr, rfl, hx⟩ ?_
   · exact (show ∀ p ∈ _, p ∈ _ by dsimp only [lsLed, lexLed]; simp only [List.cons_append, List.nil_append]; (repeat' first | exact List.forall_mem_nil _ | refine mem_cons_all ?_ ?_ | exact sub_refl | refine sub_tail ?_ | k_mem)) p hp
   · intro n y h tk m₁ hok F N
     obtain ⟨rem, tok, ln, tl, sv, se, tt⟩ := y
     obtain ⟨h1, h2, h3, h4, h5⟩ := hok
     dsimp only [lsVars, lsLed, mB] at *
     subst h4
     have off2 := (hoff'.cons (a := mo9) (o := methodObj (.ref 56) (.ref x)) ok' (by show @LT.lt Nat _ pb mo9; omega)).cons (a := it9) (o := ciObj (.ref mo9) (.str (Str.ofString "") te9) false) ok' (by show @LT.lt Nat _ pb it9; omega)
     refine lex_next w ⟨x, d, pb, f, c, x1, d1, sg, ce, pb1, t1, t2, t3, t4, tw, u1, u2, u3, u4, u5, v1, vw, ct, pm, oc, oC, vs, tq⟩ ok' ln rem [] qe _ ⟨tl, sv, se, h1, rfl⟩ h3 hC' off2.to (by k_asm) F (by k_asm) N (by k_asm) rfl (by ktr_room) (by ktr_units) (it := it9) (mo := mo9) (te := te9) (.head _) (.tail _ (.head _)) ?_ ?_
     · intro e led' h' tk' st' F' hN
       subst e
       obtain ⟨tl, sv, se, h1', rfl⟩ := st'
       have N' := hN (lexLed w ⟨x, d, pb, f, c, x1, d1, sg, ce, pb1, t1, t2, t3, t4, tw, u1, u2, u3, u4, u5, v1, vw, ct, pm, oc, oC, vs, tq⟩ ln tl sv se [] qe ++ rest) (fun q hq => (List.mem_append.mp hq).elim (List.mem_append_left _) fun z => List.mem_append_right _ (.tail _ (.tail _ z))) (by dsimp only [lexLed]; simp only [List.cons_append, List.nil_append]; k_all)
       dsimp only [lexLed] at N'
       simp only [List.cons_append, List.nil_append] at N'
       k_steps
       rw [lexT] at h5
       injection h5 with h5; injection h5 with e1 h5; injection h5 with e2 e3
       subst e1 e2 e3
       exact hret _ _ [] _ _ ⟨rfl, _, _, rfl, by rw [ofEmpty], tl, sv, se, h1', rfl⟩ (fun _ _ _ h => nomatch h) (by k_asm) (by k_asm)
     · intro c' r e t led' h' tk' st' F' N'
       subst e
       clear N F h1
       obtain ⟨tl, sv, se, h1, rfl⟩ := st'
       dsimp only [lexLed] at N'
       simp only [List.cons_append, List.nil_append] at N'
       rename_i z1 z2 z3 z4 z5 z6 z7 y8 y9 y10 y11 z12 z13 z14 y15 z16 y17 y18 z19 z20 z21 z22
       clear hr hx hs hpre B F₀ hk N₀ hcode hname hcell o1 o2 o3 o4 o5 o6 o7 o8 hf1 hf2 hf3 hf4 hf5 hf6 hf7 hf8 hf9 y8 y17 y18
       revert T' R' LN X T hd hu hret ok' hoff' y9 y10 y11 qk ek hC' y15 l9 off2 r F' h2 h3 h5 h1 N'
       exact ht9.out w z1 rem qe z2 z3 z4 loose mean mg mb rest dp un gd cn cs a ccd cl outer A₀ base h₀ L m s R x d pb f c x1 d1 sg ce pb1 t1 t2 t3 t4 tw u1 u2 u3 u4 u5 v1 vw ct pm oc oC vs tq z5 z6 z7 z12 z13 z14 it9 h9 mo9 te9 z16 z19 n h tk m₁ ln z20 z21 z22 tt c' t h' tk' tl sv se
)
noncomputable def G9 (d : PySem.World × Int × (List Nat) × Nat × PySem.Tok × (List PySem.Value) × Nat × (List PySem.Str) × (PySem.ExcName → Option PySem.Value) × (PySem.Str → Option PySem.Value) × (PySem.Str → Option PySem.Value) × (List (PySem.Addr × PySem.Obj)) × Nat × Nat × (Option (List PySem.Code)) × PySem.Str × PySem.Scope × PySem.Addr × PySem.Value × (List (PySem.Str × PySem.Addr)) × (List PySem.Env) × PySem.Around × PySem.Heap × PySem.Heap × PySem.Addr × (PySem.Str → Option PySem.Value) × PySem.Shared × (PySem.Result → PySem.Shared → Prop) × Nat × Nat × Nat × Nat × Nat × Nat × Nat × Nat × Nat × Nat × PySem.Tok × PySem.Tok × PySem.Tok × PySem.Tok × PySem.Tok × PySem.Tok × PySem.Tok × PySem.Tok × PySem.Tok × PySem.Tok × PySem.Tok × PySem.Tok × PySem.Value × PySem.Value × PySem.Obj × PySem.Obj × (Array PySem.Value) × PySem.Tok × PySem.Heap × PySem.Addr × PySem.Heap × Nat × PySem.Heap × PySem.Heap × PySem.Addr × PySem.Heap × PySem.Addr × PySem.Tok × PySem.Heap × Nat × Nat × PySem.Heap × Nat × (PySem.Str → Option PySem.Value) × Int × PySem.Tok × (List PySem.Value) × Nat × PySem.Tok × Nat × PySem.Tok × PySem.Heap × Nat × PySem.Tok × (List PySem.Value) × Nat) : Prop := seg9.1 d.1 d.2.1 d.2.2.1 d.2.2.2.1 d.2.2.2.2.1 d.2.2.2.2.2.1 d.2.2.2.2.2.2.1 d.2.2.2.2.2.2.2.1 d.2.2.2.2.2.2.2.2.1 d.2.2.2.2.2.2.2.2.2.1 d.2.2.2.2.2.2.2.2.2.2.1 d.2.2.2.2.2.2.2.2.2.2.2.1 d.2.2.2.2.2.2.2.2.2.2.2.2.1 d.2.2.2.2.2.2.2.2.2.2.2.2.2.1 d.2.2.2.2.2.2.2.2.2.2.2.2.2.2.1 d.2.2.2.2.2.2.2.2.2.2.2.2.2.2.2.1 d.2.2.2.2.2.2.2.2.2.2.2.2.2.2.2.2.1 d.2.2.2.2.2.2.2.2.2.2.2.2.2.2.2.2.2.1 d.2.2.2.2.2.2.2.2.2.2.2.2.2.2.2.2.2.2.1 d.2.2.2.2.2.2.2.2.2.2.2.2.2.2.2.2.2.2.2.1 d.2.2.2.2.2.2.2.2.2.2.2.2.2.2.2.2.2.2.2.2.1 d.2.2.2.2.2.2.2.2.2.2.2.2.2.2.2.2.2.2.2.2.2.1 d.2.2.2.2.2.2.2.2.2.2.2.2.2.2.2.2.2.2.2.2.2.2.1 d.2.2.2.2.2.2.2.2.2.2.2.2.2.2.2.2.2.2.2.2.2.2.2.1 d.2.2.2.2.2.2.2.2.2.2.2.2.2.2.2.2.2.2.2.2.2.2.2.2.1 d.2.2.2.2.2.2.2.2.2.2.2.2.2.2.2.2.2.2.2.2.2.2.2.2.2.1 d.2.2.2.2.2.2.2.2.2.2.2.2.2.2.2.2.2.2.2.2.2.2.2.2.2.2.1 d.2.2.2.2.2.2.2.2.2.2.2.2.2.2.2.2.2.2.2.2.2.2.2.2.2.2.2.1 d.2.2.2.2.2.2.2.2.2.2.2.2.2.2.2.2.2.2.2.2.2.2.2.2.2.2.2.2.1 d.2.2.2.2.2.2.2.2.2.2.2.2.2.2.2.2.2.2.2.2.2.2.2.2.2.2.2.2.2.1 d.2.2.2.2.2.2.2.2.2.2.2.2.2.2.2.2.2.2.2.2.2.2.2.2.2.2.2.2.2.2.1 d.2.2.2.2.2.2.2.2.2.2.2.2.2.2.2.2.2.2.2.2.2.2.2.2.2.2.2.2.2.2.2.1 d.2.2.2.2.2.2.2.2.2.2.2.2.2.2.2.2.2.2.2.2.2.2.2.2.2.2.2.2.2.2.2.2.1 d.2.2.2.2.2.2.2.2.2.2.2.2.2.2.2.2.2.2.2.2.2.2.2.2.2.2.2.2.2.2.2.2.2.1 d.2.2.2.2.2.2.2.2.2.2.2.2.2.2.2.2.2.2.2.2.2.2.2.2.2.2.2.2.2.2.2.2.2.2.1 d.2.2.2.2.2.2.2.2.2.2.2.2.2.2.2.2.2.2.2.2.2.2.2.2.2.2.2.2.2.2.2.2.2.2.2.1 d.2.2.2.2.2.2.2.2.2.2.2.2.2.2.2.2.2.2.2.2.2.2.2.2.2.2.2.2.2.2.2.2.2.2.2.2.1 d.2.2.2.2.2.2.2.2.2.2.2.2.2.2.2.2.2.2.2.2.2.2.2.2.2.2.2.2.2.2.2.2.2.2.2.2.2.1 d.2.2.2.2.2.2.2.2.2.2.2.2.2.2.2.2.2.2.2.2.2.2.2.2.2.2.2.2.2.2.2.2.2.2.2.2.2.2.1 d.2.2.2.2.2.2.2.2.2.2.2.2.2.2.2.2.2.2.2.2.2.2.2.2.2.2.2.2.2.2.2.2.2.2.2.2.2.2.2.1 d.2.2.2.2.2.2.2.2.2.2.2.2.2.2.2.2.2.2.2.2.2.2.2.2.2.2.2.2.2.2.2.2.2.2.2.2.2.2.2.2.1 d.2.2.2.2.2.2.2.2.2.2.2.2.2.2.2.2.2.2.2.2.2.2.2.2.2.2.2.2.2.2.2.2.2.2.2.2.2.2.2.2.2.1 d.2.2.2.2.2.2.2.2.2.2.2.2.2.2.2.2.2.2.2.2.2.2.2.2.2.2.2.2.2.2.2.2.2.2.2.2.2.2.2.2.2.2.1 d.2.2.2.2.2.2.2.2.2.2.2.2.2.2.2.2.2.2.2.2.2.2.2.2.2.2.2.2.2.2.2.2.2.2.2.2.2.2.2.2.2.2.2.1 d.2.2.2.2.2.2.2.2.2.2.2.2.2.2.2.2.2.2.2.2.2.2.2.2.2.2.2.2.2.2.2.2.2.2.2.2.2.2.2.2.2.2.2.2.1 d.2.2.2.2.2.2.2.2.2.2.2.2.2.2.2.2.2.2.2.2.2.2.2.2.2.2.2.2.2.2.2.2.2.2.2.2.2.2.2.2.2.2.2.2.2.1 d.2.2.2.2.2.2.2.2.2.2.2.2.2.2.2.2.2.2.2.2.2.2.2.2.2.2.2.2.2.2.2.2.2.2.2.2.2.2.2.2.2.2.2.2.2.2.1 d.2.2.2.2.2.2.2.2.2.2.2.2.2.2.2.2.2.2.2.2.2.2.2.2.2.2.2.2.2.2.2.2.2.2.2.2.2.2.2.2.2.2.2.2.2.2.2.1 d.2.2.2.2.2.2.2.2.2.2.2.2.2.2.2.2.2.2.2.2.2.2.2.2.2.2.2.2.2.2.2.2.2.2.2.2.2.2.2.2.2.2.2.2.2.2.2.2.1 d.2.2.2.2.2.2.2.2.2.2.2.2.2.2.2.2.2.2.2.2.2.2.2.2.2.2.2.2.2.2.2.2.2.2.2.2.2.2.2.2.2.2.2.2.2.2.2.2.2.1 d.2.2.2.2.2.2.2.2.2.2.2.2.2.2.2.2.2.2.2.2.2.2.2.2.2.2.2.2.2.2.2.2.2.2.2.2.2.2.2.2.2.2.2.2.2.2.2.2.2.2.1 d.2.2.2.2.2.2.2.2.2.2.2.2.2.2.2.2.2.2.2.2.2.2.2.2.2.2.2.2.2.2.2.2.2.2.2.2.2.2.2.2.2.2.2.2.2.2.2.2.2.2.2.1 d.2.2.2.2.2.2.2.2.2.2.2.2.2.2.2.2.2.2.2.2.2.2.2.2.2.2.2.2.2.2.2.2.2.2.2.2.2.2.2.2.2.2.2.2.2.2.2.2.2.2.2.2.1 d.2.2.2.2.2.2.2.2.2.2.2.2.2.2.2.2.2.2.2.2.2.2.2.2.2.2.2.2.2.2.2.2.2.2.2.2.2.2.2.2.2.2.2.2.2.2.2.2.2.2.2.2.2.1 d.2.2.2.2.2.2.2.2.2.2.2.2.2.2.2.2.2.2.2.2.2.2.2.2.2.2.2.2.2.2.2.2.2.2.2.2.2.2.2.2.2.2.2.2.2.2.2.2.2.2.2.2.2.2.1 d.2.2.2.2.2.2.2.2.2.2.2.2.2.2.2.2.2.2.2.2.2.2.2.2.2.2.2.2.2.2.2.2.2.2.2.2.2.2.2.2.2.2.2.2.2.2.2.2.2.2.2.2.2.2.2.1 d.2.2.2.2.2.2.2.2.2.2.2.2.2.2.2.2.2.2.2.2.2.2.2.2.2.2.2.2.2.2.2.2.2.2.2.2.2.2.2.2.2.2.2.2.2.2.2.2.2.2.2.2.2.2.2.2.1 d.2.2.2.2.2.2.2.2.2.2.2.2.2.2.2.2.2.2.2.2.2.2.2.2.2.2.2.2.2.2.2.2.2.2.2.2.2.2.2.2.2.2.2.2.2.2.2.2.2.2.2.2.2.2.2.2.2.1 d.2.2.2.2.2.2.2.2.2.2.2.2.2.2.2.2.2.2.2.2.2.2.2.2.2.2.2.2.2.2.2.2.2.2.2.2.2.2.2.2.2.2.2.2.2.2.2.2.2.2.2.2.2.2.2.2.2.2.1 d.2.2.2.2.2.2.2.2.2.2.2.2.2.2.2.2.2.2.2.2.2.2.2.2.2.2.2.2.2.2.2.2.2.2.2.2.2.2.2.2.2.2.2.2.2.2.2.2.2.2.2.2.2.2.2.2.2.2.2.1 d.2.2.2.2.2.2.2.2.2.2.2.2.2.2.2.2.2.2.2.2.2.2.2.2.2.2.2.2.2.2.2.2.2.2.2.2.2.2.2.2.2.2.2.2.2.2.2.2.2.2.2.2.2.2.2.2.2.2.2.2.1 d.2.2.2.2.2.2.2.2.2.2.2.2.2.2.2.2.2.2.2.2.2.2.2.2.2.2.2.2.2.2.2.2.2.2.2.2.2.2.2.2.2.2.2.2.2.2.2.2.2.2.2.2.2.2.2.2.2.2.2.2.2.1 d.2.2.2.2.2.2.2.2.2.2.2.2.2.2.2.2.2.2.2.2.2.2.2.2.2.2.2.2.2.2.2.2.2.2.2.2.2.2.2.2.2.2.2.2.2.2.2.2.2.2.2.2.2.2.2.2.2.2.2.2.2.2.1 d.2.2.2.2.2.2.2.2.2.2.2.2.2.2.2.2.2.2.2.2.2.2.2.2.2.2.2.2.2.2.2.2.2.2.2.2.2.2.2.2.2.2.2.2.2.2.2.2.2.2.2.2.2.2.2.2.2.2.2.2.2.2.2.1 d.2.2.2.2.2.2.2.2.2.2.2.2.2.2.2.2.2.2.2.2.2.2.2.2.2.2.2.2.2.2.2.2.2.2.2.2.2.2.2.2.2.2.2.2.2.2.2.2.2.2.2.2.2.2.2.2.2.2.2.2.2.2.2.2.1 d.2.2.2.2.2.2.2.2.2.2.2.2.2.2.2.2.2.2.2.2.2.2.2.2.2.2.2.2.2.2.2.2.2.2.2.2.2.2.2.2.2.2.2.2.2.2.2.2.2.2.2.2.2.2.2.2.2.2.2.2.2.2.2.2.2.1 d.2.2.2.2.2.2.2.2.2.2.2.2.2.2.2.2.2.2.2.2.2.2.2.2.2.2.2.2.2.2.2.2.2.2.2.2.2.2.2.2.2.2.2.2.2.2.2.2.2.2.2.2.2.2.2.2.2.2.2.2.2.2.2.2.2.2.1 d.2.2.2.2.2.2.2.2.2.2.2.2.2.2.2.2.2.2.2.2.2.2.2.2.2.2.2.2.2.2.2.2.2.2.2.2.2.2.2.2.2.2.2.2.2.2.2.2.2.2.2.2.2.2.2.2.2.2.2.2.2.2.2.2.2.2.2.1 d.2.2.2.2.2.2.2.2.2.2.2.2.2.2.2.2.2.2.2.2.2.2.2.2.2.2.2.2.2.2.2.2.2.2.2.2.2.2.2.2.2.2.2.2.2.2.2.2.2.2.2.2.2.2.2.2.2.2.2.2.2.2.2.2.2.2.2.2.1 d.2.2.2.2.2.2.2.2.2.2.2.2.2.2.2.2.2.2.2.2.2.2.2.2.2.2.2.2.2.2.2.2.2.2.2.2.2.2.2.2.2.2.2.2.2.2.2.2.2.2.2.2.2.2.2.2.2.2.2.2.2.2.2.2.2.2.2.2.2.1 d.2.2.2.2.2.2.2.2.2.2.2.2.2.2.2.2.2.2.2.2.2.2.2.2.2.2.2.2.2.2.2.2.2.2.2.2.2.2.2.2.2.2.2.2.2.2.2.2.2.2.2.2.2.2.2.2.2.2.2.2.2.2.2.2.2.2.2.2.2.2.1 d.2.2.2.2.2.2.2.2.2.2.2.2.2.2.2.2.2.2.2.2.2.2.2.2.2.2.2.2.2.2.2.2.2.2.2.2.2.2.2.2.2.2.2.2.2.2.2.2.2.2.2.2.2.2.2.2.2.2.2.2.2.2.2.2.2.2.2.2.2.2.2.1 d.2.2.2.2.2.2.2.2.2.2.2.2.2.2.2.2.2.2.2.2.2.2.2.2.2.2.2.2.2.2.2.2.2.2.2.2.2.2.2.2.2.2.2.2.2.2.2.2.2.2.2.2.2.2.2.2.2.2.2.2.2.2.2.2.2.2.2.2.2.2.2.2.1 d.2.2.2.2.2.2.2.2.2.2.2.2.2.2.2.2.2.2.2.2.2.2.2.2.2.2.2.2.2.2.2.2.2.2.2.2.2.2.2.2.2.2.2.2.2.2.2.2.2.2.2.2.2.2.2.2.2.2.2.2.2.2.2.2.2.2.2.2.2.2.2.2.2.1 d.2.2.2.2.2.2.2.2.2.2.2.2.2.2.2.2.2.2.2.2.2.2.2.2.2.2.2.2.2.2.2.2.2.2.2.2.2.2.2.2.2.2.2.2.2.2.2.2.2.2.2.2.2.2.2.2.2.2.2.2.2.2.2.2.2.2.2.2.2.2.2.2.2.2.1 d.2.2.2.2.2.2.2.2.2.2.2.2.2.2.2.2.2.2.2.2.2.2.2.2.2.2.2.2.2.2.2.2.2.2.2.2.2.2.2.2.2.2.2.2.2.2.2.2.2.2.2.2.2.2.2.2.2.2.2.2.2.2.2.2.2.2.2.2.2.2.2.2.2.2.2.1 d.2.2.2.2.2.2.2.2.2.2.2.2.2.2.2.2.2.2.2.2.2.2.2.2.2.2.2.2.2.2.2.2.2.2.2.2.2.2.2.2.2.2.2.2.2.2.2.2.2.2.2.2.2.2.2.2.2.2.2.2.2.2.2.2.2.2.2.2.2.2.2.2.2.2.2.2.1 d.2.2.2.2.2.2.2.2.2.2.2.2.2.2.2.2.2.2.2.2.2.2.2.2.2.2.2.2.2.2.2.2.2.2.2.2.2.2.2.2.2.2.2.2.2.2.2.2.2.2.2.2.2.2.2.2.2.2.2.2.2.2.2.2.2.2.2.2.2.2.2.2.2.2.2.2.2.1 d.2.2.2.2.2.2.2.2.2.2.2.2.2.2.2.2.2.2.2.2.2.2.2.2.2.2.2.2.2.2.2.2.2.2.2.2.2.2.2.2.2.2.2.2.2.2.2.2.2.2.2.2.2.2.2.2.2.2.2.2.2.2.2.2.2.2.2.2.2.2.2.2.2.2.2.2.2.2.1 d.2.2.2.2.2.2.2.2.2.2.2.2.2.2.2.2.2.2.2.2.2.2.2.2.2.2.2.2.2.2.2.2.2.2.2.2.2.2.2.2.2.2.2.2.2.2.2.2.2.2.2.2.2.2.2.2.2.2.2.2.2.2.2.2.2.2.2.2.2.2.2.2.2.2.2.2.2.2.2.1 d.2.2.2.2.2.2.2.2.2.2.2.2.2.2.2.2.2.2.2.2.2.2.2.2.2.2.2.2.2.2.2.2.2.2.2.2.2.2.2.2.2.2.2.2.2.2.2.2.2.2.2.2.2.2.2.2.2.2.2.2.2.2.2.2.2.2.2.2.2.2.2.2.2.2.2.2.2.2.2.2.1 d.2.2.2.2.2.2.2.2.2.2.2.2.2.2.2.2.2.2.2.2.2.2.2.2.2.2.2.2.2.2.2.2.2.2.2.2.2.2.2.2.2.2.2.2.2.2.2.2.2.2.2.2.2.2.2.2.2.2.2.2.2.2.2.2.2.2.2.2.2.2.2.2.2.2.2.2.2.2.2.2.2.1 d.2.2.2.2.2.2.2.2.2.2.2.2.2.2.2.2.2.2.2.2.2.2.2.2.2.2.2.2.2.2.2.2.2.2.2.2.2.2.2.2.2.2.2.2.2.2.2.2.2.2.2.2.2.2.2.2.2.2.2.2.2.2.2.2.2.2.2.2.2.2.2.2.2.2.2.2.2.2.2.2.2.2.1 d.2.2.2.2.2.2.2.2.2.2.2.2.2.2.2.2.2.2.2.2.2.2.2.2.2.2.2.2.2.2.2.2.2.2.2.2.2.2.2.2.2.2.2.2.2.2.2.2.2.2.2.2.2.2.2.2.2.2.2.2.2.2.2.2.2.2.2.2.2.2.2.2.2.2.2.2.2.2.2.2.2.2.2
noncomputable def tup9z : PySem.World × Int × (List Nat) × Nat × PySem.Tok × (List PySem.Value) × Nat × (List PySem.Str) × (PySem.ExcName → Option PySem.Value) × (PySem.Str → Option PySem.Value) × (PySem.Str → Option PySem.Value) × (List (PySem.Addr × PySem.Obj)) × Nat × Nat × (Option (List PySem.Code)) × PySem.Str × PySem.Scope × PySem.Addr × PySem.Value × (List (PySem.Str × PySem.Addr)) × (List PySem.Env) × PySem.Around × PySem.Heap × PySem.Heap × PySem.Addr × (PySem.Str → Option PySem.Value) × PySem.Shared × (PySem.Result → PySem.Shared → Prop) × Nat × Nat × Nat × Nat × Nat × Nat × Nat × Nat × Nat × Nat × PySem.Tok × PySem.Tok × PySem.Tok × PySem.Tok × PySem.Tok × PySem.Tok × PySem.Tok × PySem.Tok × PySem.Tok × PySem.Tok × PySem.Tok × PySem.Tok × PySem.Value × PySem.Value × PySem.Obj × PySem.Obj × (Array PySem.Value) × PySem.Tok × PySem.Heap × PySem.Addr × PySem.Heap × Nat × PySem.Heap × PySem.Heap × PySem.Addr × PySem.Heap × PySem.Addr × PySem.Tok × PySem.Heap × Nat × Nat × PySem.Heap × Nat × (PySem.Str → Option PySem.Value) × Int × PySem.Tok × (List PySem.Value) × Nat × PySem.Tok × Nat × PySem.Tok × PySem.Heap × Nat × PySem.Tok × (List PySem.Value) × Nat := hen (World9, (0 : Int), [], (0 : Nat), (0 : Nat), [], (0 : Nat), [], (fun _ => none), (fun _ => none), (fun _ => none), [], (0 : Nat), (0 : Nat), none, (default : Str), (default : Scope), (0 : Nat), (default : Value), [], [], ({} : Around), (default : Heap), (default : Heap), (0 : Nat), (fun _ => none), ({} : Shared), (fun _ => (fun _ => True)), (0 : Nat), (0 : Nat), (0 : Nat), (0 : Nat), (0 : Nat), (0 : Nat), (0 : Nat), (0 : Nat), (0 : Nat), (0 : Nat), (0 : Nat), (0 : Nat), (0 : Nat), (0 : Nat), (0 : Nat), (0 : Nat), (0 : Nat), (0 : Nat), (0 : Nat), (0 : Nat), (0 : Nat), (0 : Nat), (default : Value), (default : Value), (default : Obj), (default : Obj), #[], (0 : Nat), (default : Heap), (0 : Nat), (default : Heap), (0 : Nat), (default : Heap), (default : Heap), (0 : Nat), (default : Heap), (0 : Nat), (0 : Nat), (default : Heap), (0 : Nat), (0 : Nat), (default : Heap), (0 : Nat), (fun _ => none), (0 : Int), (0 : Nat), [], (0 : Nat), (0 : Nat), (0 : Nat), (0 : Nat), (default : Heap), (0 : Nat), (0 : Nat), [], (0 : Nat)) G9
noncomputable def w : PySem.World := tup9z.1
noncomputable def z1 : Int := tup9z.2.1
noncomputable def rem : List Nat := tup9z.2.2.1
noncomputable def qe : Nat := tup9z.2.2.2.1
noncomputable def z2 : PySem.Tok := tup9z.2.2.2.2.1
noncomputable def z3 : List PySem.Value := tup9z.2.2.2.2.2.1
noncomputable def z4 : Nat := tup9z.2.2.2.2.2.2.1
noncomputable def loose : List PySem.Str := tup9z.2.2.2.2.2.2.2.1
noncomputable def mean : PySem.ExcName → Option PySem.Value := tup9z.2.2.2.2.2.2.2.2.1
noncomputable def mg : PySem.Str → Option PySem.Value := tup9z.2.2.2.2.2.2.2.2.2.1
noncomputable def mb : PySem.Str → Option PySem.Value := tup9z.2.2.2.2.2.2.2.2.2.2.1
noncomputable def rest : List (PySem.Addr × PySem.Obj) := tup9z.2.2.2.2.2.2.2.2.2.2.2.1
noncomputable def dp : Nat := tup9z.2.2.2.2.2.2.2.2.2.2.2.2.1
noncomputable def un : Nat := tup9z.2.2.2.2.2.2.2.2.2.2.2.2.2.1
noncomputable def gd : Option (List PySem.Code) := tup9z.2.2.2.2.2.2.2.2.2.2.2.2.2.2.1
noncomputable def cn : PySem.Str := tup9z.2.2.2.2.2.2.2.2.2.2.2.2.2.2.2.1
noncomputable def cs : PySem.Scope := tup9z.2.2.2.2.2.2.2.2.2.2.2.2.2.2.2.2.1
noncomputable def a : PySem.Addr := tup9z.2.2.2.2.2.2.2.2.2.2.2.2.2.2.2.2.2.1
noncomputable def ccd : PySem.Value := tup9z.2.2.2.2.2.2.2.2.2.2.2.2.2.2.2.2.2.2.1
noncomputable def cl : List (PySem.Str × PySem.Addr) := tup9z.2.2.2.2.2.2.2.2.2.2.2.2.2.2.2.2.2.2.2.1
noncomputable def outer : List PySem.Env := tup9z.2.2.2.2.2.2.2.2.2.2.2.2.2.2.2.2.2.2.2.2.1
noncomputable def A₀ : PySem.Around := tup9z.2.2.2.2.2.2.2.2.2.2.2.2.2.2.2.2.2.2.2.2.2.1
noncomputable def base : PySem.Heap := tup9z.2.2.2.2.2.2.2.2.2.2.2.2.2.2.2.2.2.2.2.2.2.2.1
noncomputable def h₀ : PySem.Heap := tup9z.2.2.2.2.2.2.2.2.2.2.2.2.2.2.2.2.2.2.2.2.2.2.2.1
noncomputable def L : PySem.Addr := tup9z.2.2.2.2.2.2.2.2.2.2.2.2.2.2.2.2.2.2.2.2.2.2.2.2.1
noncomputable def m : PySem.Str → Option PySem.Value := tup9z.2.2.2.2.2.2.2.2.2.2.2.2.2.2.2.2.2.2.2.2.2.2.2.2.2.1
noncomputable def s : PySem.Shared := tup9z.2.2.2.2.2.2.2.2.2.2.2.2.2.2.2.2.2.2.2.2.2.2.2.2.2.2.1
noncomputable def R : PySem.Result → PySem.Shared → Prop := tup9z.2.2.2.2.2.2.2.2.2.2.2.2.2.2.2.2.2.2.2.2.2.2.2.2.2.2.2.1
noncomputable def x : Nat := tup9z.2.2.2.2.2.2.2.2.2.2.2.2.2.2.2.2.2.2.2.2.2.2.2.2.2.2.2.2.1
noncomputable def d : Nat := tup9z.2.2.2.2.2.2.2.2.2.2.2.2.2.2.2.2.2.2.2.2.2.2.2.2.2.2.2.2.2.1
noncomputable def pb : Nat := tup9z.2.2.2.2.2.2.2.2.2.2.2.2.2.2.2.2.2.2.2.2.2.2.2.2.2.2.2.2.2.2.1
noncomputable def f : Nat := tup9z.2.2.2.2.2.2.2.2.2.2.2.2.2.2.2.2.2.2.2.2.2.2.2.2.2.2.2.2.2.2.2.1
noncomputable def c : Nat := tup9z.2.2.2.2.2.2.2.2.2.2.2.2.2.2.2.2.2.2.2.2.2.2.2.2.2.2.2.2.2.2.2.2.1
noncomputable def x1 : Nat := tup9z.2.2.2.2.2.2.2.2.2.2.2.2.2.2.2.2.2.2.2.2.2.2.2.2.2.2.2.2.2.2.2.2.2.1
noncomputable def d1 : Nat := tup9z.2.2.2.2.2.2.2.2.2.2.2.2.2.2.2.2.2.2.2.2.2.2.2.2.2.2.2.2.2.2.2.2.2.2.1
noncomputable def sg : Nat := tup9z.2.2.2.2.2.2.2.2.2.2.2.2.2.2.2.2.2.2.2.2.2.2.2.2.2.2.2.2.2.2.2.2.2.2.2.1
noncomputable def ce : Nat := tup9z.2.2.2.2.2.2.2.2.2.2.2.2.2.2.2.2.2.2.2.2.2.2.2.2.2.2.2.2.2.2.2.2.2.2.2.2.1
noncomputable def pb1 : Nat := tup9z.2.2.2.2.2.2.2.2.2.2.2.2.2.2.2.2.2.2.2.2.2.2.2.2.2.2.2.2.2.2.2.2.2.2.2.2.2.1
noncomputable def t1 : PySem.Tok := tup9z.2.2.2.2.2.2.2.2.2.2.2.2.2.2.2.2.2.2.2.2.2.2.2.2.2.2.2.2.2.2.2.2.2.2.2.2.2.2.1
noncomputable def t2 : PySem.Tok := tup9z.2.2.2.2.2.2.2.2.2.2.2.2.2.2.2.2.2.2.2.2.2.2.2.2.2.2.2.2.2.2.2.2.2.2.2.2.2.2.2.1
noncomputable def t3 : PySem.Tok := tup9z.2.2.2.2.2.2.2.2.2.2.2.2.2.2.2.2.2.2.2.2.2.2.2.2.2.2.2.2.2.2.2.2.2.2.2.2.2.2.2.2.1
noncomputable def t4 : PySem.Tok := tup9z.2.2.2.2.2.2.2.2.2.2.2.2.2.2.2.2.2.2.2.2.2.2.2.2.2.2.2.2.2.2.2.2.2.2.2.2.2.2.2.2.2.1
noncomputable def tw : PySem.Tok := tup9z.2.2.2.2.2.2.2.2.2.2.2.2.2.2.2.2.2.2.2.2.2.2.2.2.2.2.2.2.2.2.2.2.2.2.2.2.2.2.2.2.2.2.1
noncomputable def u1 : PySem.Tok := tup9z.2.2.2.2.2.2.2.2.2.2.2.2.2.2.2.2.2.2.2.2.2.2.2.2.2.2.2.2.2.2.2.2.2.2.2.2.2.2.2.2.2.2.2.1
noncomputable def u2 : PySem.Tok := tup9z.2.2.2.2.2.2.2.2.2.2.2.2.2.2.2.2.2.2.2.2.2.2.2.2.2.2.2.2.2.2.2.2.2.2.2.2.2.2.2.2.2.2.2.2.1
noncomputable def u3 : PySem.Tok := tup9z.2.2.2.2.2.2.2.2.2.2.2.2.2.2.2.2.2.2.2.2.2.2.2.2.2.2.2.2.2.2.2.2.2.2.2.2.2.2.2.2.2.2.2.2.2.1
noncomputable def u4 : PySem.Tok := tup9z.2.2.2.2.2.2.2.2.2.2.2.2.2.2.2.2.2.2.2.2.2.2.2.2.2.2.2.2.2.2.2.2.2.2.2.2.2.2.2.2.2.2.2.2.2.2.1
noncomputable def u5 : PySem.Tok := tup9z.2.2.2.2.2.2.2.2.2.2.2.2.2.2.2.2.2.2.2.2.2.2.2.2.2.2.2.2.2.2.2.2.2.2.2.2.2.2.2.2.2.2.2.2.2.2.2.1
noncomputable def v1 : PySem.Tok := tup9z.2.2.2.2.2.2.2.2.2.2.2.2.2.2.2.2.2.2.2.2.2.2.2.2.2.2.2.2.2.2.2.2.2.2.2.2.2.2.2.2.2.2.2.2.2.2.2.2.1
noncomputable def vw : PySem.Tok := tup9z.2.2.2.2.2.2.2.2.2.2.2.2.2.2.2.2.2.2.2.2.2.2.2.2.2.2.2.2.2.2.2.2.2.2.2.2.2.2.2.2.2.2.2.2.2.2.2.2.2.1
noncomputable def ct : PySem.Value := tup9z.2.2.2.2.2.2.2.2.2.2.2.2.2.2.2.2.2.2.2.2.2.2.2.2.2.2.2.2.2.2.2.2.2.2.2.2.2.2.2.2.2.2.2.2.2.2.2.2.2.2.1
noncomputable def pm : PySem.Value := tup9z.2.2.2.2.2.2.2.2.2.2.2.2.2.2.2.2.2.2.2.2.2.2.2.2.2.2.2.2.2.2.2.2.2.2.2.2.2.2.2.2.2.2.2.2.2.2.2.2.2.2.2.1
noncomputable def oc : PySem.Obj := tup9z.2.2.2.2.2.2.2.2.2.2.2.2.2.2.2.2.2.2.2.2.2.2.2.2.2.2.2.2.2.2.2.2.2.2.2.2.2.2.2.2.2.2.2.2.2.2.2.2.2.2.2.2.1
noncomputable def oC : PySem.Obj := tup9z.2.2.2.2.2.2.2.2.2.2.2.2.2.2.2.2.2.2.2.2.2.2.2.2.2.2.2.2.2.2.2.2.2.2.2.2.2.2.2.2.2.2.2.2.2.2.2.2.2.2.2.2.2.1
noncomputable def vs : Array PySem.Value := tup9z.2.2.2.2.2.2.2.2.2.2.2.2.2.2.2.2.2.2.2.2.2.2.2.2.2.2.2.2.2.2.2.2.2.2.2.2.2.2.2.2.2.2.2.2.2.2.2.2.2.2.2.2.2.2.1
noncomputable def tq : PySem.Tok := tup9z.2.2.2.2.2.2.2.2.2.2.2.2.2.2.2.2.2.2.2.2.2.2.2.2.2.2.2.2.2.2.2.2.2.2.2.2.2.2.2.2.2.2.2.2.2.2.2.2.2.2.2.2.2.2.2.1
noncomputable def z5 : PySem.Heap := tup9z.2.2.2.2.2.2.2.2.2.2.2.2.2.2.2.2.2.2.2.2.2.2.2.2.2.2.2.2.2.2.2.2.2.2.2.2.2.2.2.2.2.2.2.2.2.2.2.2.2.2.2.2.2.2.2.2.1
noncomputable def z6 : PySem.Addr := tup9z.2.2.2.2.2.2.2.2.2.2.2.2.2.2.2.2.2.2.2.2.2.2.2.2.2.2.2.2.2.2.2.2.2.2.2.2.2.2.2.2.2.2.2.2.2.2.2.2.2.2.2.2.2.2.2.2.2.1
noncomputable def z7 : PySem.Heap := tup9z.2.2.2.2.2.2.2.2.2.2.2.2.2.2.2.2.2.2.2.2.2.2.2.2.2.2.2.2.2.2.2.2.2.2.2.2.2.2.2.2.2.2.2.2.2.2.2.2.2.2.2.2.2.2.2.2.2.2.1
noncomputable def z12 : Nat := tup9z.2.2.2.2.2.2.2.2.2.2.2.2.2.2.2.2.2.2.2.2.2.2.2.2.2.2.2.2.2.2.2.2.2.2.2.2.2.2.2.2.2.2.2.2.2.2.2.2.2.2.2.2.2.2.2.2.2.2.2.1
noncomputable def z13 : PySem.Heap := tup9z.2.2.2.2.2.2.2.2.2.2.2.2.2.2.2.2.2.2.2.2.2.2.2.2.2.2.2.2.2.2.2.2.2.2.2.2.2.2.2.2.2.2.2.2.2.2.2.2.2.2.2.2.2.2.2.2.2.2.2.2.1
noncomputable def z14 : PySem.Heap := tup9z.2.2.2.2.2.2.2.2.2.2.2.2.2.2.2.2.2.2.2.2.2.2.2.2.2.2.2.2.2.2.2.2.2.2.2.2.2.2.2.2.2.2.2.2.2.2.2.2.2.2.2.2.2.2.2.2.2.2.2.2.2.1
noncomputable def it9 : PySem.Addr := tup9z.2.2.2.2.2.2.2.2.2.2.2.2.2.2.2.2.2.2.2.2.2.2.2.2.2.2.2.2.2.2.2.2.2.2.2.2.2.2.2.2.2.2.2.2.2.2.2.2.2.2.2.2.2.2.2.2.2.2.2.2.2.2.1
noncomputable def h9 : PySem.Heap := tup9z.2.2.2.2.2.2.2.2.2.2.2.2.2.2.2.2.2.2.2.2.2.2.2.2.2.2.2.2.2.2.2.2.2.2.2.2.2.2.2.2.2.2.2.2.2.2.2.2.2.2.2.2.2.2.2.2.2.2.2.2.2.2.2.1
noncomputable def mo9 : PySem.Addr := tup9z.2.2.2.2.2.2.2.2.2.2.2.2.2.2.2.2.2.2.2.2.2.2.2.2.2.2.2.2.2.2.2.2.2.2.2.2.2.2.2.2.2.2.2.2.2.2.2.2.2.2.2.2.2.2.2.2.2.2.2.2.2.2.2.2.1
noncomputable def te9 : PySem.Tok := tup9z.2.2.2.2.2.2.2.2.2.2.2.2.2.2.2.2.2.2.2.2.2.2.2.2.2.2.2.2.2.2.2.2.2.2.2.2.2.2.2.2.2.2.2.2.2.2.2.2.2.2.2.2.2.2.2.2.2.2.2.2.2.2.2.2.2.1
noncomputable def z16 : PySem.Heap := tup9z.2.2.2.2.2.2.2.2.2.2.2.2.2.2.2.2.2.2.2.2.2.2.2.2.2.2.2.2.2.2.2.2.2.2.2.2.2.2.2.2.2.2.2.2.2.2.2.2.2.2.2.2.2.2.2.2.2.2.2.2.2.2.2.2.2.2.1
noncomputable def z19 : Nat := tup9z.2.2.2.2.2.2.2.2.2.2.2.2.2.2.2.2.2.2.2.2.2.2.2.2.2.2.2.2.2.2.2.2.2.2.2.2.2.2.2.2.2.2.2.2.2.2.2.2.2.2.2.2.2.2.2.2.2.2.2.2.2.2.2.2.2.2.2.1
noncomputable def n : Nat := tup9z.2.2.2.2.2.2.2.2.2.2.2.2.2.2.2.2.2.2.2.2.2.2.2.2.2.2.2.2.2.2.2.2.2.2.2.2.2.2.2.2.2.2.2.2.2.2.2.2.2.2.2.2.2.2.2.2.2.2.2.2.2.2.2.2.2.2.2.2.1
noncomputable def h : PySem.Heap := tup9z.2.2.2.2.2.2.2.2.2.2.2.2.2.2.2.2.2.2.2.2.2.2.2.2.2.2.2.2.2.2.2.2.2.2.2.2.2.2.2.2.2.2.2.2.2.2.2.2.2.2.2.2.2.2.2.2.2.2.2.2.2.2.2.2.2.2.2.2.2.1
noncomputable def tk : Nat := tup9z.2.2.2.2.2.2.2.2.2.2.2.2.2.2.2.2.2.2.2.2.2.2.2.2.2.2.2.2.2.2.2.2.2.2.2.2.2.2.2.2.2.2.2.2.2.2.2.2.2.2.2.2.2.2.2.2.2.2.2.2.2.2.2.2.2.2.2.2.2.2.1
noncomputable def m₁ : PySem.Str → Option PySem.Value := tup9z.2.2.2.2.2.2.2.2.2.2.2.2.2.2.2.2.2.2.2.2.2.2.2.2.2.2.2.2.2.2.2.2.2.2.2.2.2.2.2.2.2.2.2.2.2.2.2.2.2.2.2.2.2.2.2.2.2.2.2.2.2.2.2.2.2.2.2.2.2.2.2.1
noncomputable def ln : Int := tup9z.2.2.2.2.2.2.2.2.2.2.2.2.2.2.2.2.2.2.2.2.2.2.2.2.2.2.2.2.2.2.2.2.2.2.2.2.2.2.2.2.2.2.2.2.2.2.2.2.2.2.2.2.2.2.2.2.2.2.2.2.2.2.2.2.2.2.2.2.2.2.2.2.1
noncomputable def z20 : PySem.Tok := tup9z.2.2.2.2.2.2.2.2.2.2.2.2.2.2.2.2.2.2.2.2.2.2.2.2.2.2.2.2.2.2.2.2.2.2.2.2.2.2.2.2.2.2.2.2.2.2.2.2.2.2.2.2.2.2.2.2.2.2.2.2.2.2.2.2.2.2.2.2.2.2.2.2.2.1
noncomputable def z21 : List PySem.Value := tup9z.2.2.2.2.2.2.2.2.2.2.2.2.2.2.2.2.2.2.2.2.2.2.2.2.2.2.2.2.2.2.2.2.2.2.2.2.2.2.2.2.2.2.2.2.2.2.2.2.2.2.2.2.2.2.2.2.2.2.2.2.2.2.2.2.2.2.2.2.2.2.2.2.2.2.1
noncomputable def z22 : Nat := tup9z.2.2.2.2.2.2.2.2.2.2.2.2.2.2.2.2.2.2.2.2.2.2.2.2.2.2.2.2.2.2.2.2.2.2.2.2.2.2.2.2.2.2.2.2.2.2.2.2.2.2.2.2.2.2.2.2.2.2.2.2.2.2.2.2.2.2.2.2.2.2.2.2.2.2.2.1
noncomputable def tt : PySem.Tok := tup9z.2.2.2.2.2.2.2.2.2.2.2.2.2.2.2.2.2.2.2.2.2.2.2.2.2.2.2.2.2.2.2.2.2.2.2.2.2.2.2.2.2.2.2.2.2.2.2.2.2.2.2.2.2.2.2.2.2.2.2.2.2.2.2.2.2.2.2.2.2.2.2.2.2.2.2.2.1
noncomputable def c' : Nat := tup9z.2.2.2.2.2.2.2.2.2.2.2.2.2.2.2.2.2.2.2.2.2.2.2.2.2.2.2.2.2.2.2.2.2.2.2.2.2.2.2.2.2.2.2.2.2.2.2.2.2.2.2.2.2.2.2.2.2.2.2.2.2.2.2.2.2.2.2.2.2.2.2.2.2.2.2.2.2.1
noncomputable def t : PySem.Tok := tup9z.2.2.2.2.2.2.2.2.2.2.2.2.2.2.2.2.2.2.2.2.2.2.2.2.2.2.2.2.2.2.2.2.2.2.2.2.2.2.2.2.2.2.2.2.2.2.2.2.2.2.2.2.2.2.2.2.2.2.2.2.2.2.2.2.2.2.2.2.2.2.2.2.2.2.2.2.2.2.1
noncomputable def h' : PySem.Heap := tup9z.2.2.2.2.2.2.2.2.2.2.2.2.2.2.2.2.2.2.2.2.2.2.2.2.2.2.2.2.2.2.2.2.2.2.2.2.2.2.2.2.2.2.2.2.2.2.2.2.2.2.2.2.2.2.2.2.2.2.2.2.2.2.2.2.2.2.2.2.2.2.2.2.2.2.2.2.2.2.2.1
noncomputable def tk' : Nat := tup9z.2.2.2.2.2.2.2.2.2.2.2.2.2.2.2.2.2.2.2.2.2.2.2.2.2.2.2.2.2.2.2.2.2.2.2.2.2.2.2.2.2.2.2.2.2.2.2.2.2.2.2.2.2.2.2.2.2.2.2.2.2.2.2.2.2.2.2.2.2.2.2.2.2.2.2.2.2.2.2.2.1
noncomputable def tl : PySem.Tok := tup9z.2.2.2.2.2.2.2.2.2.2.2.2.2.2.2.2.2.2.2.2.2.2.2.2.2.2.2.2.2.2.2.2.2.2.2.2.2.2.2.2.2.2.2.2.2.2.2.2.2.2.2.2.2.2.2.2.2.2.2.2.2.2.2.2.2.2.2.2.2.2.2.2.2.2.2.2.2.2.2.2.2.1
noncomputable def sv : List PySem.Value := tup9z.2.2.2.2.2.2.2.2.2.2.2.2.2.2.2.2.2.2.2.2.2.2.2.2.2.2.2.2.2.2.2.2.2.2.2.2.2.2.2.2.2.2.2.2.2.2.2.2.2.2.2.2.2.2.2.2.2.2.2.2.2.2.2.2.2.2.2.2.2.2.2.2.2.2.2.2.2.2.2.2.2.2.1
noncomputable def se : Nat := tup9z.2.2.2.2.2.2.2.2.2.2.2.2.2.2.2.2.2.2.2.2.2.2.2.2.2.2.2.2.2.2.2.2.2.2.2.2.2.2.2.2.2.2.2.2.2.2.2.2.2.2.2.2.2.2.2.2.2.2.2.2.2.2.2.2.2.2.2.2.2.2.2.2.2.2.2.2.2.2.2.2.2.2.2
set_option maxRecDepth 100000 in
set_option maxHeartbeats 8000000 in
theorem main9 : seg9.1 w z1 rem qe z2 z3 z4 loose mean mg mb rest dp un gd cn cs a ccd cl outer A₀ base h₀ L m s R x d pb f c x1 d1 sg ce pb1 t1 t2 t3 t4 tw u1 u2 u3 u4 u5 v1 vw ct pm oc oC vs tq z5 z6 z7 z12 z13 z14 it9 h9 mo9 te9 z16 z19 n h tk m₁ ln z20 z21 z22 tt c' t h' tk' tl sv se := by
       delta seg9 segOf
       dsimp -zeta only
       intro T' R' LN X T hd hu hret ok' hoff' y9 y10 y11 qk ek hC' y15 l9 off2 r F' h2 h3 h5 h1 N'
       try dsimp only
       simp only [List.length_cons] at h2 h3
       have hq2 : (chOf r).length ≤ 1 := by cases r <;> first | exact Nat.zero_le _ | exact Nat.le_refl _
       have he0 : (Str.ofString "").length = 0 := by decide +kernel
       have hq : (one c').length = 1 := rfl
       k_with "compareOp In str str" => refine SB.contains ?_
       k_with "inplaceOp Add str str" => (refine SB.iadd ?_ (by rw [sizeLine_eq]; omega); intro _ _)
       k_with "call ref nil" => (refine' Ctr.use (read_char w ⟨x, d, pb, f, c, x1, d1, sg, ce, pb1, t1, t2, t3, t4, tw, u1, u2, u3, u4, u5, v1, vw, ct, pm, oc, oC, vs, tq⟩ ok' (lnAft (c' :: r) ln) r [] qe _ ⟨tl, sv, se, h1, rfl⟩ (by omega)) hC' pick_app off2.to ?k1 ?k2 ?k3 ?k4 ?k5 ?kK ?kd ?ku ?_; (case k1 => k_asm); (case k2 => k_asm); (case k3 => k_asm); (case k4 => k_asm); (case k5 => k_asm); (case kK => exact rfl); (case kd => ktr_room); (case ku => ktr_units); intro v9 led9 tl9 h9 tk9 hp9 _ F9 N9; obtain ⟨rfl, t9, rfl, tl2, sv2, se2, hs2, rfl⟩ := hp9; dsimp only [lexLed] at N9; simp only [List.cons_append, List.nil_append] at N9; dsimp only; (try k_sweep))
       k_steps
       · have hw : Txt.contains (Str.ofString "\n\t\x0d ") (one c') = true := by assumption
         rw [contains_ws] at hw
         rw [lexT_cons, if_pos hw] at h5
         exact TurnEnd.mk (n - 1) ⟨r, _, lnAft (c' :: r) ln, tl, sv, se, _⟩ (by omega) (by k_asm) (by k_asm) ⟨rfl, rfl, rfl, trivial⟩ (fun p hp => hp) ⟨h1, by show r.length < n - 1; omega, by show r.length ≤ 1000; omega, rfl, h5⟩
       · have hw : Txt.contains (Str.ofString "\n\t\x0d ") (one c') = false := by assumption
         have h34 : (one c' == Str.ofString "\"") = true := by assumption
         rw [contains_ws] at hw
         rw [q_one, one_beq, decide_eq_true_eq] at h34
         rw [lexT_cons, if_neg (by rw [hw]; decide), if_pos h34] at h5
         refine stop_out ?_
         refine wpAny_For ?_
         k_steps
         refine stop_out ?_
         refine ci_self (News.get (by k_asm) (by k_mem)) ?_
         refine loopQ w ⟨x, d, pb, f, c, x1, d1, sg, ce, pb1, t1, t2, t3, t4, tw, u1, u2, u3, u4, u5, v1, vw, ct, pm, oc, oC, vs, tq⟩ ok' qe T' R' LN ⟨r, Str.ofString "", lnAft (c' :: r) ln, tl, sv, se, _⟩ hC' hoff' ⟨by show @LT.lt Nat _ pb it9; omega, by show @LT.lt Nat _ pb mo9; omega⟩ (by k_asm) (by k_asm) (by k_asm) (by k_asm) (fun q hq => hq) (by k_asm) (by ktr_room) (by ktr_units) ⟨rfl, rfl, rfl, trivial⟩ h1 ?_ ?_ ?_
         · show r.length + (Str.ofString "").length ≤ 1000; omega
         · show lexQ r (Str.ofString "").cps.toList _ = _
           rw [ofEmpty]; exact h5
         · intro tok9 t9 led9 h9 tk9 m9 he9 st9 F9 N9
           obtain ⟨tl9, sv9, se9, hs9, rfl⟩ := st9
           dsimp only [lexLed] at N9
           simp only [List.cons_append, List.nil_append] at N9
           k_steps
           exact hret _ _ [] _ _ ⟨rfl, _, _, rfl, he9, tl9, sv9, se9, hs9, rfl⟩ (fun _ _ _ h => nomatch h) (by k_asm) (by k_asm)
       · skip
         have hw : Txt.contains (Str.ofString "\n\t\x0d ") (one c') = false := by assumption
         have h34 : (one c' == Str.ofString "\"") = false := by assumption
         rw [contains_ws] at hw
         rw [q_one, one_beq, decide_eq_false_iff_not] at h34
         have h92 : (one c' == Str.ofString "\\") = true := by assumption
         rw [b_one, one_beq, decide_eq_true_eq] at h92
         rw [lexT_cons, if_neg (by rw [hw]; decide), if_neg h34, if_pos h92] at h5
         cases r with
         | nil => cases h5
         | cons c2 r2 =>
           refine stop_out ?_
           refine wpAny_For ?_
           k_steps
           refine stop_out ?_
           refine ci_self (News.get (by k_asm) (by k_mem)) ?_
           refine loopW w ⟨x, d, pb, f, c, x1, d1, sg, ce, pb1, t1, t2, t3, t4, tw, u1, u2, u3, u4, u5, v1, vw, ct, pm, oc, oC, vs, tq⟩ ok' qe T' R' LN ⟨r2, Str.ofString "" ++ one c2, lnAft (c2 :: r2) (lnAft (c' :: c2 :: r2) ln), tl2, sv2, se2, _⟩ hC' hoff' ⟨by show @LT.lt Nat _ pb it9; omega, by show @LT.lt Nat _ pb mo9; omega⟩ (by k_asm) (by k_asm) (by k_asm) (by k_asm) (fun q hq => hq) (by k_asm) (by ktr_room) (by ktr_units) ⟨rfl, rfl, rfl, trivial⟩ hs2 ?_ ?_ ?_
           · show r2.length + (Str.ofString "" ++ one c2).length ≤ 1000
             rw [Str.length_append, he0]; simp only [List.length_cons] at h3; show r2.length + (0 + 1) ≤ 1000; omega
           · show lexW r2 (Str.ofString "" ++ one c2).cps.toList _ = _
             rw [Str.cps_append, Array.toList_append, ofEmpty]; exact h5
           · intro tok9 t9 led9 h9 tk9 m9 he9 st9 F9 N9
             obtain ⟨tl9, sv9, se9, hs9, rfl⟩ := st9
             dsimp only [lexLed] at N9
             simp only [List.cons_append, List.nil_append] at N9
             k_steps
             exact hret _ _ [] _ _ ⟨rfl, _, _, rfl, he9, tl9, sv9, se9, hs9, rfl⟩ (fun _ _ _ h => nomatch h) (by k_asm) (by k_asm)
       · skip
         have hw : Txt.contains (Str.ofString "\n\t\x0d ") (one c') = false := by assumption
         have h34 : (one c' == Str.ofString "\"") = false := by assumption
         rw [contains_ws] at hw
         rw [q_one, one_beq, decide_eq_false_iff_not] at h34
         have h92 : (one c' == Str.ofString "\\") = false := by assumption
         rw [b_one, one_beq, decide_eq_false_iff_not] at h92
         rw [lexT_cons, if_neg (by rw [hw]; decide), if_neg h34, if_neg h92] at h5
         refine stop_out ?_
         refine wpAny_For ?_
         k_steps
         refine stop_out ?_
         refine ci_self (News.get (by k_asm) (by k_mem)) ?_
         refine loopW w ⟨x, d, pb, f, c, x1, d1, sg, ce, pb1, t1, t2, t3, t4, tw, u1, u2, u3, u4, u5, v1, vw, ct, pm, oc, oC, vs, tq⟩ ok' qe T' R' LN ⟨r, Str.ofString "" ++ one c', lnAft (c' :: r) ln, tl, sv, se, _⟩ hC' hoff' ⟨by show @LT.lt Nat _ pb it9; omega, by show @LT.lt Nat _ pb mo9; omega⟩ (by k_asm) (by k_asm) (by k_asm) (by k_asm) (fun q hq => hq) (by k_asm) (by ktr_room) (by ktr_units) ⟨rfl, rfl, rfl, trivial⟩ h1 ?_ ?_ ?_
         · show r.length + (Str.ofString "" ++ one c').length ≤ 1000
           rw [Str.length_append, he0]; show r.length + (0 + 1) ≤ 1000; omega
         · show lexW r (Str.ofString "" ++ one c').cps.toList _ = _
           rw [Str.cps_append, Array.toList_append, ofEmpty]; exact h5
         · intro tok9 t9 led9 h9 tk9 m9 he9 st9 F9 N9
           obtain ⟨tl9, sv9, se9, hs9, rfl⟩ := st9
           dsimp only [lexLed] at N9
           simp only [List.cons_append, List.nil_append] at N9
           k_steps
           exact hret _ _ [] _ _ ⟨rfl, _, _, rfl, he9, tl9, sv9, se9, hs9, rfl⟩ (fun _ _ _ h => nomatch h) (by k_asm) (by k_asm)

set_option maxRecDepth 100000 in
set_option maxHeartbeats 8000000 in
theorem all9 : ∀ a0 a1 a2 a3 a4 a5 a6 a7 a8 a9 a10 a11 a12 a13 a14 a15 a16 a17 a18 a19 a20 a21 a22 a23 a24 a25 a26 a27 a28 a29 a30 a31 a32 a33 a34 a35 a36 a37 a38 a39 a40 a41 a42 a43 a44 a45 a46 a47 a48 a49 a50 a51 a52 a53 a54 a55 a56 a57 a58 a59 a60 a61 a62 a63 a64 a65 a66 a67 a68 a69 a70 a71 a72 a73 a74 a75 a76 a77 a78 a79 a80 a81 a82 a83, seg9.1 a0 a1 a2 a3 a4 a5 a6 a7 a8 a9 a10 a11 a12 a13 a14 a15 a16 a17 a18 a19 a20 a21 a22 a23 a24 a25 a26 a27 a28 a29 a30 a31 a32 a33 a34 a35 a36 a37 a38 a39 a40 a41 a42 a43 a44 a45 a46 a47 a48 a49 a50 a51 a52 a53 a54 a55 a56 a57 a58 a59 a60 a61 a62 a63 a64 a65 a66 a67 a68 a69 a70 a71 a72 a73 a74 a75 a76 a77 a78 a79 a80 a81 a82 a83 := fun a0 a1 a2 a3 a4 a5 a6 a7 a8 a9 a10 a11 a12 a13 a14 a15 a16 a17 a18 a19 a20 a21 a22 a23 a24 a25 a26 a27 a28 a29 a30 a31 a32 a33 a34 a35 a36 a37 a38 a39 a40 a41 a42 a43 a44 a45 a46 a47 a48 a49 a50 a51 a52 a53 a54 a55 a56 a57 a58 a59 a60 a61 a62 a63 a64 a65 a66 a67 a68 a69 a70 a71 a72 a73 a74 a75 a76 a77 a78 a79 a80 a81 a82 a83 => hen_all (G := G9) main9 (a0, a1, a2, a3, a4, a5, a6, a7, a8, a9, a10, a11, a12, a13, a14, a15, a16, a17, a18, a19, a20, a21, a22, a23, a24, a25, a26, a27, a28, a29, a30, a31, a32, a33, a34, a35, a36, a37, a38, a39, a40, a41, a42, a43, a44, a45, a46, a47, a48, a49, a50, a51, a52, a53, a54, a55, a56, a57, a58, a59, a60, a61, a62, a63, a64, a65, a66, a67, a68, a69, a70, a71, a72, a73, a74, a75, a76, a77, a78, a79, a80, a81, a82, a83)
end tok_read
theorem tok_read (w : World) (P : LexP) (ok : P.Ok) (ln : Int) (rem : List Nat) (qe : Nat) (led : List (Addr × Obj)) (st : LexSt w P ln rem [] qe led) (hr : rem.length ≤ 1000) (T' R' : List Nat) (LN : Int) (hx : lexT rem ln = some (T', R', LN)) : Ctr (fun h => CodeHd h 137 133) PySem.Challenge.rw_wn0028_01.prog w (Mine.hd.heap_1 w.params) PySem.W.topProg 5 60 63 [.ref P.x] led (fun v led tl => tl = [] ∧ ∃ tk t, v = .str tk t ∧ tk.cps.toList = T' ∧ LexSt w P LN R' [] qe led) := tok_read.seg9.2 ⟨tok_read.all9⟩ w P ok ln rem qe led st hr T' R' LN hx

end Mine
namespace Mine
theorem reset_tok_pop : True := by
  w_top off
  trivial
set_option maxRecDepth 100000 in
set_option maxHeartbeats 8000000 in
theorem tok_pop (w : World) (P : LexP) (ok : P.Ok) (ln : Int) (rem : List Nat) (v : Value) (qv : List Value) (qe : Nat) (led : List (Addr × Obj)) (st : LexSt w P ln rem (v :: qv) qe led) (hz : qv.length ≤ 1000) :
   Ctr (fun h => CodeHd h 137 133) PySem.Challenge.rw_wn0028_01.prog w (Mine.hd.heap_1 w.params) PySem.W.topProg 5 60 63 [.ref P.x] led (fun v' led tl => tl = [] ∧ v' = v ∧ ∃ qe, LexSt w P ln rem qv qe led) := by
   obtain ⟨tl, sv, se, hs, rfl⟩ := st
   intro loose mean mg mb rest dp un gd cn cs a ccd cl outer A₀ base h₀ L m s R hpre hoff B F₀ X N₀ T hk hd hu hret
   k_with_none
   obtain ⟨x, d, pb, f, c, x1, d1, sg, ce, pb1, t1, t2, t3, t4, tw, u1, u2, u3, u4, u5, v1, vw, ct, pm, oc, oC, vs, tq⟩ := P
   obtain ⟨⟨o1, o2, o3, o4, o5, o6, o7, o8⟩, hcode, hname, hcell⟩ := ok
   dsimp only [lexLed] at *
   simp only [List.cons_append, List.nil_append, List.forall_mem_cons] at N₀ hoff
   obtain ⟨hf1, hf2, hf3, hf4, hf5, hf6, hf7, hf8, hf9, -⟩ := hoff
   k_with "truthy ref" => refine truthy_cons (by is_list) (by omega) ?_
   k_with "call builtin:list.pop cons nil" => (refine' kl_popAt (k := 0) (p := []) (q := qv) (y := v) ?F ?N ?f ?k ?e ?U ?z ?_; (case F => k_asm); (case N => k_asm); (case U => k_upd); (case f => rfl); (case k => simp [seqIndex?]); (case e => rfl); (case z => rw [sizeLine_eq]; simp; omega); intro h9 F9 N9; (try dsimp only [List.nil_append, List.cons_append] at N9); (try k_sweep))
   k_dflt cell_enter
   k_steps
   exact hret _ _ [] _ _ ⟨rfl, rfl, _, tl, sv, se, hs, rfl⟩ (fun _ _ _ h => nomatch h) (by k_asm) (by k_asm)

end Mine
namespace Mine
theorem reset_push_token : True := by
  w_top off
  trivial
set_option maxRecDepth 100000 in
set_option maxHeartbeats 8000000 in
theorem push_token (w : World) (P : LexP) (ok : P.Ok) (ln : Int) (rem : List Nat) (v : Value) (qv : List Value) (qe : Nat) (led : List (Addr × Obj)) (st : LexSt w P ln rem qv qe led) (hz : qv.length ≤ 1000) :
   Ctr (fun h => CodeHd h 137 133) PySem.Challenge.rw_wn0028_01.prog w (Mine.hd.heap_1 w.params) PySem.W.topProg 5 60 70 [.ref P.x, v] led (fun v' led tl => tl = [] ∧ v' = .none ∧ ∃ qe, LexSt w P ln rem (qv ++ [v]) qe led) := by
   obtain ⟨tl, sv, se, hs, rfl⟩ := st
   intro loose mean mg mb rest dp un gd cn cs a ccd cl outer A₀ base h₀ L m s R hpre hoff B F₀ X N₀ T hk hd hu hret
   k_with_none
   obtain ⟨x, d, pb, f, c, x1, d1, sg, ce, pb1, t1, t2, t3, t4, tw, u1, u2, u3, u4, u5, v1, vw, ct, pm, oc, oC, vs, tq⟩ := P
   obtain ⟨⟨o1, o2, o3, o4, o5, o6, o7, o8⟩, hcode, hname, hcell⟩ := ok
   dsimp only [lexLed] at *
   simp only [List.cons_append, List.nil_append, List.forall_mem_cons] at N₀ hoff
   obtain ⟨hf1, hf2, hf3, hf4, hf5, hf6, hf7, hf8, hf9, -⟩ := hoff
   k_dflt cell_enter
   k_steps
   simp only [List.push_toArray] at *
   exact hret _ _ [] _ _ ⟨rfl, rfl, _, tl, sv, se, hs, rfl⟩ (fun _ _ _ h => nomatch h) (by k_asm) (by k_asm)

end Mine
namespace Mine
theorem reset_strcoll : True := by
  w_top off
  trivial
/-- what _strcoll tells -/
noncomputable def collZ (x y : Str) : Int := b2i (decide (y.cps.toList < x.cps.toList)) - b2i (decide (x.cps.toList < y.cps.toList))
set_option maxRecDepth 100000 in
set_option maxHeartbeats 4000000 in
theorem strcoll (w : World) (x y : Str) (t u : Tok) :
   CtrR PySem.Challenge.rw_wn0028_01.prog w (Mine.hd.heap_1 w.params) PySem.W.topProg 1 8 21 [.str x t, .str y u] [] (fun v tl => tl = [] ∧ ∃ tk, v = .int (collZ x y) tk) := by
   intro loose mean mg mb rest dp un gd cn cs a ccd cl outer A₀ base h₀ L m s R hled B F₀ X N₀ T hk hd hu hret
   k_with_none
   k_dflt cell_enter
   k_steps
   exact hret _ [] _ _ ⟨rfl, _, rfl⟩ (fun _ _ _ h => nomatch h) (by k_asm) (by k_asm)

end Mine
namespace Mine
theorem reset_lexown : True := by
  w_top off
  trivial
theorem LexP.Off.app {P : LexP} {rest own : List (Addr × Obj)} (h : P.Off rest) (ok : P.Ok) (ho : ∀ p ∈ own, @LT.lt Nat _ P.pb p.1) : P.Off (rest ++ own) := by
  intro q hq
  rcases List.mem_append.mp hq with hq | hq
  · exact h q hq
  · exact offs_above ok (ho q hq)
theorem own_lt {news own : List (Addr × Obj)} (hown : ∀ p ∈ own, ∀ q ∈ news, q.1 < p.1) {a : Addr} {o : Obj} (hm : (a, o) ∈ news) : ∀ p ∈ own, @LT.lt Nat _ a p.1 := fun p hp => hown p hp _ hm
theorem app_ne {rest own : List (Addr × Obj)} {a d : Nat} (h : ∀ p ∈ rest, p.1 < d) (hd : d ≤ a) (ho : ∀ p ∈ own, @LT.lt Nat _ a p.1) : ∀ p ∈ rest ++ own, p.1 ≠ a := fun p hp => by
  rcases List.mem_append.mp hp with hp | hp
  · have := h p hp
    exact Nat.ne_of_lt (Nat.lt_of_lt_of_le this hd)
  · exact Nat.ne_of_gt (ho p hp)
theorem app_ne2 {rest own : List (Addr × Obj)} {a : Nat} (h : ∀ p ∈ rest, p.1 ≠ a) (ho : ∀ p ∈ own, @LT.lt Nat _ a p.1) : ∀ p ∈ rest ++ own, p.1 ≠ a := fun p hp => by
  rcases List.mem_append.mp hp with hp | hp
  · exact h p hp
  · exact Nat.ne_of_gt (ho p hp)
theorem own_gt {news own : List (Addr × Obj)} {l a : Nat} {o : Obj} (hown : ∀ p ∈ own, p.1 = l ∨ ∀ q ∈ news, q.1 < p.1) (hl : a < l) (hm : (a, o) ∈ news) : ∀ p ∈ own, @LT.lt Nat _ a p.1 := fun p hp => by
  rcases hown p hp with e | h
  · rw [e]; exact hl
  · exact h _ hm
theorem own_ne {news own : List (Addr × Obj)} {l a : Nat} {o : Obj} (hown : ∀ p ∈ own, p.1 = l ∨ ∀ q ∈ news, q.1 < p.1) (hl : l ≠ a) (hm : (a, o) ∈ news) : ∀ p ∈ own, p.1 ≠ a := fun p hp => by
  rcases hown p hp with e | h
  · rw [e]; exact hl
  · exact Nat.ne_of_gt (h _ hm)
theorem app_ne3 {rest own : List (Addr × Obj)} {a : Nat} (h : ∀ p ∈ rest, p.1 ≠ a) (ho : ∀ p ∈ own, p.1 ≠ a) : ∀ p ∈ rest ++ own, p.1 ≠ a := fun p hp => (List.mem_append.mp hp).elim (h p) (ho p)

end Mine
namespace Mine
theorem reset_rounds : True := by
  w_top off
  trivial
theorem collZ_swap (l : List Nat) (p : Nat) (h : 1 ≤ p) (hp : p < l.length) : collZ (mkS l) (mkS (swapAt l p)) = if l.getD p 0 < l.getD (p - 1) 0 then 1 else if l.getD (p - 1) 0 < l.getD p 0 then -1 else 0 := by
  obtain ⟨h1, h2⟩ := coll_swap l p h hp
  unfold collZ
  rw [mkS_cps, mkS_cps, decide_eq_decide.mpr h1, decide_eq_decide.mpr h2]
  by_cases c1 : l.getD p 0 < l.getD (p - 1) 0
  · rw [if_pos c1, decide_eq_true c1, decide_eq_false (by omega)]; rfl
  · rw [if_neg c1, decide_eq_false c1]
    by_cases c2 : l.getD (p - 1) 0 < l.getD p 0
    · rw [if_pos c2, decide_eq_true c2]; rfl
    · rw [if_neg c2, decide_eq_false c2]; rfl
structure RG where
  (S : RS) (om : Obj) (kvs : List (Str × Value)) (wr wf wi : List Value) (kr kf ki : Nat) (tl : Tok) (sv qv : List Value) (se qe : Nat)
noncomputable def RG.Ok (w : World) (rem : List Nat) (y : RG) : Prop :=
  Obj.IsDictOf (PySem.strKind PySem.Challenge.rw_wn0028_01.prog w) y.om y.kvs ∧ y.kvs.map (·.1) = y.S.met.map mkS ∧ IntsAre y.wr (y.S.rd.map fun (n : Nat) => (n : Int)) ∧ IntsAre y.wf (y.S.fl.map fun (n : Nat) => (n : Int)) ∧ IntsAre y.wi (y.S.ri.map fun (n : Nat) => (n : Int)) ∧ StrsAre y.qv (y.S.q.map mkS) ∧ StrsAre y.sv (rem.map one).reverse
noncomputable def rgLed (w : World) (P : LexP) (ln : Int) (M Rd Fl Ri : Nat) (rest : List (Addr × Obj)) (y : RG) : List (Addr × Obj) :=
  lexLed w P ln y.tl y.sv y.se y.qv y.qe ++ ([(M, y.om), (Rd, listOf y.wr.toArray y.kr), (Fl, listOf y.wf.toArray y.kf), (Ri, listOf y.wi.toArray y.ki)] ++ rest)
theorem strs_one (x : Str) (t : Tok) (l : List Nat) (h : x = mkS l) : StrsAre [.str x t] ([l].map mkS) := by subst h; exact .cons _ _ .nil
namespace roundsA
set_option maxRecDepth 100000 in
set_option maxHeartbeats 8000000 in
noncomputable def seg9 : {p : PySem.World → Int → (List Nat) → (List Nat) → PySem.Tok → Nat → Nat → PySem.Tok → (List PySem.Value) → Nat → (List PySem.Str) → (PySem.ExcName → Option PySem.Value) → (PySem.Str → Option PySem.Value) → (PySem.Str → Option PySem.Value) → (List (PySem.Addr × PySem.Obj)) → Nat → Nat → (Option (List PySem.Code)) → PySem.Str → PySem.Scope → PySem.Addr → PySem.Value → (List (PySem.Str × PySem.Addr)) → (List PySem.Env) → PySem.Around → PySem.Heap → PySem.Heap → PySem.Addr → (PySem.Str → Option PySem.Value) → PySem.Shared → (PySem.Result → PySem.Shared → Prop) → Nat → Nat → Nat → Nat → Nat → Nat → Nat → Nat → Nat → Nat → PySem.Tok → PySem.Tok → PySem.Tok → PySem.Tok → PySem.Tok → PySem.Tok → PySem.Tok → PySem.Tok → PySem.Tok → PySem.Tok → PySem.Tok → PySem.Tok → PySem.Value → PySem.Value → PySem.Obj → PySem.Obj → (Array PySem.Value) → PySem.Tok → PySem.Heap → PySem.Addr → PySem.Heap → PySem.Addr → PySem.Heap → PySem.Obj → PySem.Heap → PySem.Obj → PySem.Heap → PySem.Addr → PySem.Heap → PySem.Heap → Nat → PySem.Addr → PySem.Heap → PySem.Heap → Nat → PySem.Addr → PySem.Heap → PySem.Heap → Nat → PySem.Heap → Nat → Nat → PySem.Tok → (List PySem.Value) → Nat → Prop // Hid (∀ a0 a1 a2 a3 a4 a5 a6 a7 a8 a9 a10 a11 a12 a13 a14 a15 a16 a17 a18 a19 a20 a21 a22 a23 a24 a25 a26 a27 a28 a29 a30 a31 a32 a33 a34 a35 a36 a37 a38 a39 a40 a41 a42 a43 a44 a45 a46 a47 a48 a49 a50 a51 a52 a53 a54 a55 a56 a57 a58 a59 a60 a61 a62 a63 a64 a65 a66 a67 a68 a69 a70 a71 a72 a73 a74 a75 a76 a77 a78 a79 a80 a81 a82 a83 a84 a85, p a0 a1 a2 a3 a4 a5 a6 a7 a8 a9 a10 a11 a12 a13 a14 a15 a16 a17 a18 a19 a20 a21 a22 a23 a24 a25 a26 a27 a28 a29 a30 a31 a32 a33 a34 a35 a36 a37 a38 a39 a40 a41 a42 a43 a44 a45 a46 a47 a48 a49 a50 a51 a52 a53 a54 a55 a56 a57 a58 a59 a60 a61 a62 a63 a64 a65 a66 a67 a68 a69 a70 a71 a72 a73 a74 a75 a76 a77 a78 a79 a80 a81 a82 a83 a84 a85) → ∀ (w : World) (P : LexP) (ok : P.Ok) (ln : Int) (rem l : List Nat) (t : Tok) (qe : Nat) (led : List (Addr × Obj)) (st : LexSt w P ln rem [] qe led) (f : Nat) (S : RS) (hS : roundsGo f ⟨[l], [l], [], [], []⟩ = some S), Ctr (fun h => CodeHd h 137 133) PySem.Challenge.rw_wn0028_01.prog w (Mine.hd.heap_1 w.params) PySem.W.topProg 8 100 145 [.ref P.x, .str (mkS l) t] led (fun v led tl => ∃ (D B Rd Fl Ri : Addr) (cB kR kF kI : Nat) (wB wR wF wI : List Value), v = .ref D ∧ tl = [(D, { cls := .type "tuple", data := .seq #[.ref B, .ref Rd, .ref Fl, .ref Ri] }), (B, listOf wB.toArray cB), (Rd, listOf wR.toArray kR), (Fl, listOf wF.toArray kF), (Ri, listOf wI.toArray kI)] ∧ StrsAre wB (S.met.map mkS) ∧ IntsAre wR (S.rd.map fun (n : Nat) => (n : Int)) ∧ IntsAre wF (S.fl.map fun (n : Nat) => (n : Int)) ∧ IntsAre wI (S.ri.map fun (n : Nat) => (n : Int)) ∧ ∃ qe, LexSt w P ln rem [] qe led)} := segOf (by
   intro ht9
   intro w P ok ln rem l t qe led st f S hS
   obtain ⟨tl, sv, se, hs, rfl⟩ := st
   intro loose mean mg mb rest dp un gd cn cs a ccd cl outer A₀ base h₀ L m s R hC hoff B F₀ X N₀ T hk hd hu hret
   k_with_none
   have ok' := ok
   obtain ⟨x, d, pb, fn, c, x1, d1, sg, ce, pb1, t1, t2, t3, t4, tw, u1, u2, u3, u4, u5, v1, vw, ct, pm, oc, oC, vs, tq⟩ := P
   obtain ⟨⟨o1, o2, o3, o4, o5, o6, o7, o8⟩, hcode, hname, hcell⟩ := ok
   have off0 := LexP.Off.of hoff
   dsimp only [lexLed] at *
   simp only [List.cons_append, List.nil_append, List.forall_mem_cons] at N₀ hoff
   obtain ⟨hf1, hf2, hf3, hf4, hf5, hf6, hf7, hf8, hf9, -⟩ := hoff
   k_with "exec While Attribute cons nil" => refine stop_in ?_
   k_with "call ref cons nil" => refine stop_in ?_
   k_with "eval Dict" => ((refine' kdn_eval (knd := PySem.strKind _ _) ?zF ?zN ?zb ?za ?zl ?ze ?zn ?_; (case zF => k_asm); (case zN => k_asm); (case zb => exact Top.nolimit (by k_asm)); (case za => rfl); (case zl => rfl); (case ze => exact List.cons_ne_nil _ _); (case zn => exact Nat.le_of_ble_eq_true rfl)); intro d' h' o' F' N' l1 lo' hd'; (try k_lt l1))
   k_with "KdnMade" => ((refine' kdn_made_str ?F ?N ?U ?d ?k ?n ?_; (case F => k_asm); (case N => k_asm); (case U => k_updF); (case d => k_asm); (case k => rfl); (case n => exact of_decide_eq_true (by first | rfl | kernel_rfl!)); intro h' o' F' N' hd'); (try dsimp only at N'))
   k_dflt cell_enter
   have hC' : CodeHd _ 137 133 := CodeHd.keeps hC (Fr.keep ‹Fr h₀ _ _ _›)
   k_steps
   refine stop_out ?_
   rename_i om hdm hfm _ Rd _ lR _ _ Fl _ lF _ _ Ri _ lI _ F9 N9
   refine' Ctr.use (push_token w ⟨x, d, pb, fn, c, x1, d1, sg, ce, pb1, t1, t2, t3, t4, tw, u1, u2, u3, u4, u5, v1, vw, ct, pm, oc, oC, vs, tq⟩ ok' ln rem (.str (mkS l) t) [] qe _ ⟨tl, sv, se, hs, rfl⟩ (by decide)) ?kC ?kP ?kO ?kB ?kF ?kX ?kN ?kT ?kK ?kd ?ku ?_
   ((case kF => k_asm); (case kN => k_asm); (case kB => k_asm); (case kX => k_asm); (case kT => k_asm); (case kC => k_asm); (case kK => first | exact rfl | assumption); (case kd => ktr_room); (case ku => ktr_units); (case kP => dsimp only [lexLed]; (repeat' first | exact Pick.nil | apply Pick.cons | exact Take.head | apply Take.tail)); (case kO => refine LexP.Off.to ?_; (repeat' first | assumption | refine LexP.Off.cons ?_ (by assumption) (by (try dsimp only); (show @LT.lt Nat _ _ _); omega))))
   intro v9 led9 tl9 h9 tk9 hp9 hlt9 F9 N9
   obtain ⟨rfl, rfl, qe9, tl2, sv2, se2, hs2, rfl⟩ := hp9
   dsimp only [lexLed] at N9
   simp only [List.cons_append, List.nil_append] at N9
   k_steps
   refine stop_out ?_
   have hrl := l1.2.2.2.2.2.2.2.2.2
   have hord : @LT.lt Nat _ pb d' ∧ @LT.lt Nat _ d' Rd ∧ @LT.lt Nat _ Rd Fl ∧ @LT.lt Nat _ Fl Ri := ⟨l1.1, lR.1, lF.1, lI.1⟩
   rename_i z1 z2 z3 y4 y5 y6 y7 z8 z9 z10 z11 z12 z13 z14 z15 z16 z17 y18 y19
   revert S hS hs hC B F₀ X T hk hd hu N₀ hret ok' hcode hname hcell o1 o2 o3 o4 o5 o6 o7 o8 off0 hf1 hf2 hf3 hf4 hf5 hf6 hf7 hf8 hf9 y4 y5 y6 y7 qk ek hC' lo' hd' l1 hdm hfm lR lF lI y18 y19 F9 hlt9 hs2 N9 hrl hord
   exact ht9.out w ln rem l t qe f tl sv se loose mean mg mb rest dp un gd cn cs a ccd cl outer A₀ base h₀ L m s R x d pb fn c x1 d1 sg ce pb1 t1 t2 t3 t4 tw u1 u2 u3 u4 u5 v1 vw ct pm oc oC vs tq z1 z2 z3 d' h' o' z8 om z9 Rd z10 z11 z12 Fl z13 z14 z15 Ri z16 z17 tk h9 tk9 qe9 tl2 sv2 se2
)
noncomputable def G9 (d : PySem.World × Int × (List Nat) × (List Nat) × PySem.Tok × Nat × Nat × PySem.Tok × (List PySem.Value) × Nat × (List PySem.Str) × (PySem.ExcName → Option PySem.Value) × (PySem.Str → Option PySem.Value) × (PySem.Str → Option PySem.Value) × (List (PySem.Addr × PySem.Obj)) × Nat × Nat × (Option (List PySem.Code)) × PySem.Str × PySem.Scope × PySem.Addr × PySem.Value × (List (PySem.Str × PySem.Addr)) × (List PySem.Env) × PySem.Around × PySem.Heap × PySem.Heap × PySem.Addr × (PySem.Str → Option PySem.Value) × PySem.Shared × (PySem.Result → PySem.Shared → Prop) × Nat × Nat × Nat × Nat × Nat × Nat × Nat × Nat × Nat × Nat × PySem.Tok × PySem.Tok × PySem.Tok × PySem.Tok × PySem.Tok × PySem.Tok × PySem.Tok × PySem.Tok × PySem.Tok × PySem.Tok × PySem.Tok × PySem.Tok × PySem.Value × PySem.Value × PySem.Obj × PySem.Obj × (Array PySem.Value) × PySem.Tok × PySem.Heap × PySem.Addr × PySem.Heap × PySem.Addr × PySem.Heap × PySem.Obj × PySem.Heap × PySem.Obj × PySem.Heap × PySem.Addr × PySem.Heap × PySem.Heap × Nat × PySem.Addr × PySem.Heap × PySem.Heap × Nat × PySem.Addr × PySem.Heap × PySem.Heap × Nat × PySem.Heap × Nat × Nat × PySem.Tok × (List PySem.Value) × Nat) : Prop := seg9.1 d.1 d.2.1 d.2.2.1 d.2.2.2.1 d.2.2.2.2.1 d.2.2.2.2.2.1 d.2.2.2.2.2.2.1 d.2.2.2.2.2.2.2.1 d.2.2.2.2.2.2.2.2.1 d.2.2.2.2.2.2.2.2.2.1 d.2.2.2.2.2.2.2.2.2.2.1 d.2.2.2.2.2.2.2.2.2.2.2.1 d.2.2.2.2.2.2.2.2.2.2.2.2.1 d.2.2.2.2.2.2.2.2.2.2.2.2.2.1 d.2.2.2.2.2.2.2.2.2.2.2.2.2.2.1 d.2.2.2.2.2.2.2.2.2.2.2.2.2.2.2.1 d.2.2.2.2.2.2.2.2.2.2.2.2.2.2.2.2.1 d.2.2.2.2.2.2.2.2.2.2.2.2.2.2.2.2.2.1 d.2.2.2.2.2.2.2.2.2.2.2.2.2.2.2.2.2.2.1 d.2.2.2.2.2.2.2.2.2.2.2.2.2.2.2.2.2.2.2.1 d.2.2.2.2.2.2.2.2.2.2.2.2.2.2.2.2.2.2.2.2.1 d.2.2.2.2.2.2.2.2.2.2.2.2.2.2.2.2.2.2.2.2.2.1 d.2.2.2.2.2.2.2.2.2.2.2.2.2.2.2.2.2.2.2.2.2.2.1 d.2.2.2.2.2.2.2.2.2.2.2.2.2.2.2.2.2.2.2.2.2.2.2.1 d.2.2.2.2.2.2.2.2.2.2.2.2.2.2.2.2.2.2.2.2.2.2.2.2.1 d.2.2.2.2.2.2.2.2.2.2.2.2.2.2.2.2.2.2.2.2.2.2.2.2.2.1 d.2.2.2.2.2.2.2.2.2.2.2.2.2.2.2.2.2.2.2.2.2.2.2.2.2.2.1 d.2.2.2.2.2.2.2.2.2.2.2.2.2.2.2.2.2.2.2.2.2.2.2.2.2.2.2.1 d.2.2.2.2.2.2.2.2.2.2.2.2.2.2.2.2.2.2.2.2.2.2.2.2.2.2.2.2.1 d.2.2.2.2.2.2.2.2.2.2.2.2.2.2.2.2.2.2.2.2.2.2.2.2.2.2.2.2.2.1 d.2.2.2.2.2.2.2.2.2.2.2.2.2.2.2.2.2.2.2.2.2.2.2.2.2.2.2.2.2.2.1 d.2.2.2.2.2.2.2.2.2.2.2.2.2.2.2.2.2.2.2.2.2.2.2.2.2.2.2.2.2.2.2.1 d.2.2.2.2.2.2.2.2.2.2.2.2.2.2.2.2.2.2.2.2.2.2.2.2.2.2.2.2.2.2.2.2.1 d.2.2.2.2.2.2.2.2.2.2.2.2.2.2.2.2.2.2.2.2.2.2.2.2.2.2.2.2.2.2.2.2.2.1 d.2.2.2.2.2.2.2.2.2.2.2.2.2.2.2.2.2.2.2.2.2.2.2.2.2.2.2.2.2.2.2.2.2.2.1 d.2.2.2.2.2.2.2.2.2.2.2.2.2.2.2.2.2.2.2.2.2.2.2.2.2.2.2.2.2.2.2.2.2.2.2.1 d.2.2.2.2.2.2.2.2.2.2.2.2.2.2.2.2.2.2.2.2.2.2.2.2.2.2.2.2.2.2.2.2.2.2.2.2.1 d.2.2.2.2.2.2.2.2.2.2.2.2.2.2.2.2.2.2.2.2.2.2.2.2.2.2.2.2.2.2.2.2.2.2.2.2.2.1 d.2.2.2.2.2.2.2.2.2.2.2.2.2.2.2.2.2.2.2.2.2.2.2.2.2.2.2.2.2.2.2.2.2.2.2.2.2.2.1 d.2.2.2.2.2.2.2.2.2.2.2.2.2.2.2.2.2.2.2.2.2.2.2.2.2.2.2.2.2.2.2.2.2.2.2.2.2.2.2.1 d.2.2.2.2.2.2.2.2.2.2.2.2.2.2.2.2.2.2.2.2.2.2.2.2.2.2.2.2.2.2.2.2.2.2.2.2.2.2.2.2.1 d.2.2.2.2.2.2.2.2.2.2.2.2.2.2.2.2.2.2.2.2.2.2.2.2.2.2.2.2.2.2.2.2.2.2.2.2.2.2.2.2.2.1 d.2.2.2.2.2.2.2.2.2.2.2.2.2.2.2.2.2.2.2.2.2.2.2.2.2.2.2.2.2.2.2.2.2.2.2.2.2.2.2.2.2.2.1 d.2.2.2.2.2.2.2.2.2.2.2.2.2.2.2.2.2.2.2.2.2.2.2.2.2.2.2.2.2.2.2.2.2.2.2.2.2.2.2.2.2.2.2.1 d.2.2.2.2.2.2.2.2.2.2.2.2.2.2.2.2.2.2.2.2.2.2.2.2.2.2.2.2.2.2.2.2.2.2.2.2.2.2.2.2.2.2.2.2.1 d.2.2.2.2.2.2.2.2.2.2.2.2.2.2.2.2.2.2.2.2.2.2.2.2.2.2.2.2.2.2.2.2.2.2.2.2.2.2.2.2.2.2.2.2.2.1 d.2.2.2.2.2.2.2.2.2.2.2.2.2.2.2.2.2.2.2.2.2.2.2.2.2.2.2.2.2.2.2.2.2.2.2.2.2.2.2.2.2.2.2.2.2.2.1 d.2.2.2.2.2.2.2.2.2.2.2.2.2.2.2.2.2.2.2.2.2.2.2.2.2.2.2.2.2.2.2.2.2.2.2.2.2.2.2.2.2.2.2.2.2.2.2.1 d.2.2.2.2.2.2.2.2.2.2.2.2.2.2.2.2.2.2.2.2.2.2.2.2.2.2.2.2.2.2.2.2.2.2.2.2.2.2.2.2.2.2.2.2.2.2.2.2.1 d.2.2.2.2.2.2.2.2.2.2.2.2.2.2.2.2.2.2.2.2.2.2.2.2.2.2.2.2.2.2.2.2.2.2.2.2.2.2.2.2.2.2.2.2.2.2.2.2.2.1 d.2.2.2.2.2.2.2.2.2.2.2.2.2.2.2.2.2.2.2.2.2.2.2.2.2.2.2.2.2.2.2.2.2.2.2.2.2.2.2.2.2.2.2.2.2.2.2.2.2.2.1 d.2.2.2.2.2.2.2.2.2.2.2.2.2.2.2.2.2.2.2.2.2.2.2.2.2.2.2.2.2.2.2.2.2.2.2.2.2.2.2.2.2.2.2.2.2.2.2.2.2.2.2.1 d.2.2.2.2.2.2.2.2.2.2.2.2.2.2.2.2.2.2.2.2.2.2.2.2.2.2.2.2.2.2.2.2.2.2.2.2.2.2.2.2.2.2.2.2.2.2.2.2.2.2.2.2.1 d.2.2.2.2.2.2.2.2.2.2.2.2.2.2.2.2.2.2.2.2.2.2.2.2.2.2.2.2.2.2.2.2.2.2.2.2.2.2.2.2.2.2.2.2.2.2.2.2.2.2.2.2.2.1 d.2.2.2.2.2.2.2.2.2.2.2.2.2.2.2.2.2.2.2.2.2.2.2.2.2.2.2.2.2.2.2.2.2.2.2.2.2.2.2.2.2.2.2.2.2.2.2.2.2.2.2.2.2.2.1 d.2.2.2.2.2.2.2.2.2.2.2.2.2.2.2.2.2.2.2.2.2.2.2.2.2.2.2.2.2.2.2.2.2.2.2.2.2.2.2.2.2.2.2.2.2.2.2.2.2.2.2.2.2.2.2.1 d.2.2.2.2.2.2.2.2.2.2.2.2.2.2.2.2.2.2.2.2.2.2.2.2.2.2.2.2.2.2.2.2.2.2.2.2.2.2.2.2.2.2.2.2.2.2.2.2.2.2.2.2.2.2.2.2.1 d.2.2.2.2.2.2.2.2.2.2.2.2.2.2.2.2.2.2.2.2.2.2.2.2.2.2.2.2.2.2.2.2.2.2.2.2.2.2.2.2.2.2.2.2.2.2.2.2.2.2.2.2.2.2.2.2.2.1 d.2.2.2.2.2.2.2.2.2.2.2.2.2.2.2.2.2.2.2.2.2.2.2.2.2.2.2.2.2.2.2.2.2.2.2.2.2.2.2.2.2.2.2.2.2.2.2.2.2.2.2.2.2.2.2.2.2.2.1 d.2.2.2.2.2.2.2.2.2.2.2.2.2.2.2.2.2.2.2.2.2.2.2.2.2.2.2.2.2.2.2.2.2.2.2.2.2.2.2.2.2.2.2.2.2.2.2.2.2.2.2.2.2.2.2.2.2.2.2.1 d.2.2.2.2.2.2.2.2.2.2.2.2.2.2.2.2.2.2.2.2.2.2.2.2.2.2.2.2.2.2.2.2.2.2.2.2.2.2.2.2.2.2.2.2.2.2.2.2.2.2.2.2.2.2.2.2.2.2.2.2.1 d.2.2.2.2.2.2.2.2.2.2.2.2.2.2.2.2.2.2.2.2.2.2.2.2.2.2.2.2.2.2.2.2.2.2.2.2.2.2.2.2.2.2.2.2.2.2.2.2.2.2.2.2.2.2.2.2.2.2.2.2.2.1 d.2.2.2.2.2.2.2.2.2.2.2.2.2.2.2.2.2.2.2.2.2.2.2.2.2.2.2.2.2.2.2.2.2.2.2.2.2.2.2.2.2.2.2.2.2.2.2.2.2.2.2.2.2.2.2.2.2.2.2.2.2.2.1 d.2.2.2.2.2.2.2.2.2.2.2.2.2.2.2.2.2.2.2.2.2.2.2.2.2.2.2.2.2.2.2.2.2.2.2.2.2.2.2.2.2.2.2.2.2.2.2.2.2.2.2.2.2.2.2.2.2.2.2.2.2.2.2.1 d.2.2.2.2.2.2.2.2.2.2.2.2.2.2.2.2.2.2.2.2.2.2.2.2.2.2.2.2.2.2.2.2.2.2.2.2.2.2.2.2.2.2.2.2.2.2.2.2.2.2.2.2.2.2.2.2.2.2.2.2.2.2.2.2.1 d.2.2.2.2.2.2.2.2.2.2.2.2.2.2.2.2.2.2.2.2.2.2.2.2.2.2.2.2.2.2.2.2.2.2.2.2.2.2.2.2.2.2.2.2.2.2.2.2.2.2.2.2.2.2.2.2.2.2.2.2.2.2.2.2.2.1 d.2.2.2.2.2.2.2.2.2.2.2.2.2.2.2.2.2.2.2.2.2.2.2.2.2.2.2.2.2.2.2.2.2.2.2.2.2.2.2.2.2.2.2.2.2.2.2.2.2.2.2.2.2.2.2.2.2.2.2.2.2.2.2.2.2.2.1 d.2.2.2.2.2.2.2.2.2.2.2.2.2.2.2.2.2.2.2.2.2.2.2.2.2.2.2.2.2.2.2.2.2.2.2.2.2.2.2.2.2.2.2.2.2.2.2.2.2.2.2.2.2.2.2.2.2.2.2.2.2.2.2.2.2.2.2.1 d.2.2.2.2.2.2.2.2.2.2.2.2.2.2.2.2.2.2.2.2.2.2.2.2.2.2.2.2.2.2.2.2.2.2.2.2.2.2.2.2.2.2.2.2.2.2.2.2.2.2.2.2.2.2.2.2.2.2.2.2.2.2.2.2.2.2.2.2.1 d.2.2.2.2.2.2.2.2.2.2.2.2.2.2.2.2.2.2.2.2.2.2.2.2.2.2.2.2.2.2.2.2.2.2.2.2.2.2.2.2.2.2.2.2.2.2.2.2.2.2.2.2.2.2.2.2.2.2.2.2.2.2.2.2.2.2.2.2.2.1 d.2.2.2.2.2.2.2.2.2.2.2.2.2.2.2.2.2.2.2.2.2.2.2.2.2.2.2.2.2.2.2.2.2.2.2.2.2.2.2.2.2.2.2.2.2.2.2.2.2.2.2.2.2.2.2.2.2.2.2.2.2.2.2.2.2.2.2.2.2.2.1 d.2.2.2.2.2.2.2.2.2.2.2.2.2.2.2.2.2.2.2.2.2.2.2.2.2.2.2.2.2.2.2.2.2.2.2.2.2.2.2.2.2.2.2.2.2.2.2.2.2.2.2.2.2.2.2.2.2.2.2.2.2.2.2.2.2.2.2.2.2.2.2.1 d.2.2.2.2.2.2.2.2.2.2.2.2.2.2.2.2.2.2.2.2.2.2.2.2.2.2.2.2.2.2.2.2.2.2.2.2.2.2.2.2.2.2.2.2.2.2.2.2.2.2.2.2.2.2.2.2.2.2.2.2.2.2.2.2.2.2.2.2.2.2.2.2.1 d.2.2.2.2.2.2.2.2.2.2.2.2.2.2.2.2.2.2.2.2.2.2.2.2.2.2.2.2.2.2.2.2.2.2.2.2.2.2.2.2.2.2.2.2.2.2.2.2.2.2.2.2.2.2.2.2.2.2.2.2.2.2.2.2.2.2.2.2.2.2.2.2.2.1 d.2.2.2.2.2.2.2.2.2.2.2.2.2.2.2.2.2.2.2.2.2.2.2.2.2.2.2.2.2.2.2.2.2.2.2.2.2.2.2.2.2.2.2.2.2.2.2.2.2.2.2.2.2.2.2.2.2.2.2.2.2.2.2.2.2.2.2.2.2.2.2.2.2.2.1 d.2.2.2.2.2.2.2.2.2.2.2.2.2.2.2.2.2.2.2.2.2.2.2.2.2.2.2.2.2.2.2.2.2.2.2.2.2.2.2.2.2.2.2.2.2.2.2.2.2.2.2.2.2.2.2.2.2.2.2.2.2.2.2.2.2.2.2.2.2.2.2.2.2.2.2.1 d.2.2.2.2.2.2.2.2.2.2.2.2.2.2.2.2.2.2.2.2.2.2.2.2.2.2.2.2.2.2.2.2.2.2.2.2.2.2.2.2.2.2.2.2.2.2.2.2.2.2.2.2.2.2.2.2.2.2.2.2.2.2.2.2.2.2.2.2.2.2.2.2.2.2.2.2.1 d.2.2.2.2.2.2.2.2.2.2.2.2.2.2.2.2.2.2.2.2.2.2.2.2.2.2.2.2.2.2.2.2.2.2.2.2.2.2.2.2.2.2.2.2.2.2.2.2.2.2.2.2.2.2.2.2.2.2.2.2.2.2.2.2.2.2.2.2.2.2.2.2.2.2.2.2.2.1 d.2.2.2.2.2.2.2.2.2.2.2.2.2.2.2.2.2.2.2.2.2.2.2.2.2.2.2.2.2.2.2.2.2.2.2.2.2.2.2.2.2.2.2.2.2.2.2.2.2.2.2.2.2.2.2.2.2.2.2.2.2.2.2.2.2.2.2.2.2.2.2.2.2.2.2.2.2.2.1 d.2.2.2.2.2.2.2.2.2.2.2.2.2.2.2.2.2.2.2.2.2.2.2.2.2.2.2.2.2.2.2.2.2.2.2.2.2.2.2.2.2.2.2.2.2.2.2.2.2.2.2.2.2.2.2.2.2.2.2.2.2.2.2.2.2.2.2.2.2.2.2.2.2.2.2.2.2.2.2.1 d.2.2.2.2.2.2.2.2.2.2.2.2.2.2.2.2.2.2.2.2.2.2.2.2.2.2.2.2.2.2.2.2.2.2.2.2.2.2.2.2.2.2.2.2.2.2.2.2.2.2.2.2.2.2.2.2.2.2.2.2.2.2.2.2.2.2.2.2.2.2.2.2.2.2.2.2.2.2.2.2.1 d.2.2.2.2.2.2.2.2.2.2.2.2.2.2.2.2.2.2.2.2.2.2.2.2.2.2.2.2.2.2.2.2.2.2.2.2.2.2.2.2.2.2.2.2.2.2.2.2.2.2.2.2.2.2.2.2.2.2.2.2.2.2.2.2.2.2.2.2.2.2.2.2.2.2.2.2.2.2.2.2.2.1 d.2.2.2.2.2.2.2.2.2.2.2.2.2.2.2.2.2.2.2.2.2.2.2.2.2.2.2.2.2.2.2.2.2.2.2.2.2.2.2.2.2.2.2.2.2.2.2.2.2.2.2.2.2.2.2.2.2.2.2.2.2.2.2.2.2.2.2.2.2.2.2.2.2.2.2.2.2.2.2.2.2.2.1 d.2.2.2.2.2.2.2.2.2.2.2.2.2.2.2.2.2.2.2.2.2.2.2.2.2.2.2.2.2.2.2.2.2.2.2.2.2.2.2.2.2.2.2.2.2.2.2.2.2.2.2.2.2.2.2.2.2.2.2.2.2.2.2.2.2.2.2.2.2.2.2.2.2.2.2.2.2.2.2.2.2.2.2.1 d.2.2.2.2.2.2.2.2.2.2.2.2.2.2.2.2.2.2.2.2.2.2.2.2.2.2.2.2.2.2.2.2.2.2.2.2.2.2.2.2.2.2.2.2.2.2.2.2.2.2.2.2.2.2.2.2.2.2.2.2.2.2.2.2.2.2.2.2.2.2.2.2.2.2.2.2.2.2.2.2.2.2.2.2.1 d.2.2.2.2.2.2.2.2.2.2.2.2.2.2.2.2.2.2.2.2.2.2.2.2.2.2.2.2.2.2.2.2.2.2.2.2.2.2.2.2.2.2.2.2.2.2.2.2.2.2.2.2.2.2.2.2.2.2.2.2.2.2.2.2.2.2.2.2.2.2.2.2.2.2.2.2.2.2.2.2.2.2.2.2.2
noncomputable def tup9z : PySem.World × Int × (List Nat) × (List Nat) × PySem.Tok × Nat × Nat × PySem.Tok × (List PySem.Value) × Nat × (List PySem.Str) × (PySem.ExcName → Option PySem.Value) × (PySem.Str → Option PySem.Value) × (PySem.Str → Option PySem.Value) × (List (PySem.Addr × PySem.Obj)) × Nat × Nat × (Option (List PySem.Code)) × PySem.Str × PySem.Scope × PySem.Addr × PySem.Value × (List (PySem.Str × PySem.Addr)) × (List PySem.Env) × PySem.Around × PySem.Heap × PySem.Heap × PySem.Addr × (PySem.Str → Option PySem.Value) × PySem.Shared × (PySem.Result → PySem.Shared → Prop) × Nat × Nat × Nat × Nat × Nat × Nat × Nat × Nat × Nat × Nat × PySem.Tok × PySem.Tok × PySem.Tok × PySem.Tok × PySem.Tok × PySem.Tok × PySem.Tok × PySem.Tok × PySem.Tok × PySem.Tok × PySem.Tok × PySem.Tok × PySem.Value × PySem.Value × PySem.Obj × PySem.Obj × (Array PySem.Value) × PySem.Tok × PySem.Heap × PySem.Addr × PySem.Heap × PySem.Addr × PySem.Heap × PySem.Obj × PySem.Heap × PySem.Obj × PySem.Heap × PySem.Addr × PySem.Heap × PySem.Heap × Nat × PySem.Addr × PySem.Heap × PySem.Heap × Nat × PySem.Addr × PySem.Heap × PySem.Heap × Nat × PySem.Heap × Nat × Nat × PySem.Tok × (List PySem.Value) × Nat := hen (World9, (0 : Int), [], [], (0 : Nat), (0 : Nat), (0 : Nat), (0 : Nat), [], (0 : Nat), [], (fun _ => none), (fun _ => none), (fun _ => none), [], (0 : Nat), (0 : Nat), none, (default : Str), (default : Scope), (0 : Nat), (default : Value), [], [], ({} : Around), (default : Heap), (default : Heap), (0 : Nat), (fun _ => none), ({} : Shared), (fun _ => (fun _ => True)), (0 : Nat), (0 : Nat), (0 : Nat), (0 : Nat), (0 : Nat), (0 : Nat), (0 : Nat), (0 : Nat), (0 : Nat), (0 : Nat), (0 : Nat), (0 : Nat), (0 : Nat), (0 : Nat), (0 : Nat), (0 : Nat), (0 : Nat), (0 : Nat), (0 : Nat), (0 : Nat), (0 : Nat), (0 : Nat), (default : Value), (default : Value), (default : Obj), (default : Obj), #[], (0 : Nat), (default : Heap), (0 : Nat), (default : Heap), (0 : Nat), (default : Heap), (default : Obj), (default : Heap), (default : Obj), (default : Heap), (0 : Nat), (default : Heap), (default : Heap), (0 : Nat), (0 : Nat), (default : Heap), (default : Heap), (0 : Nat), (0 : Nat), (default : Heap), (default : Heap), (0 : Nat), (default : Heap), (0 : Nat), (0 : Nat), (0 : Nat), [], (0 : Nat)) G9
noncomputable def w : PySem.World := tup9z.1
noncomputable def ln : Int := tup9z.2.1
noncomputable def rem : List Nat := tup9z.2.2.1
noncomputable def l : List Nat := tup9z.2.2.2.1
noncomputable def t : PySem.Tok := tup9z.2.2.2.2.1
noncomputable def qe : Nat := tup9z.2.2.2.2.2.1
noncomputable def f : Nat := tup9z.2.2.2.2.2.2.1
noncomputable def tl : PySem.Tok := tup9z.2.2.2.2.2.2.2.1
noncomputable def sv : List PySem.Value := tup9z.2.2.2.2.2.2.2.2.1
noncomputable def se : Nat := tup9z.2.2.2.2.2.2.2.2.2.1
noncomputable def loose : List PySem.Str := tup9z.2.2.2.2.2.2.2.2.2.2.1
noncomputable def mean : PySem.ExcName → Option PySem.Value := tup9z.2.2.2.2.2.2.2.2.2.2.2.1
noncomputable def mg : PySem.Str → Option PySem.Value := tup9z.2.2.2.2.2.2.2.2.2.2.2.2.1
noncomputable def mb : PySem.Str → Option PySem.Value := tup9z.2.2.2.2.2.2.2.2.2.2.2.2.2.1
noncomputable def rest : List (PySem.Addr × PySem.Obj) := tup9z.2.2.2.2.2.2.2.2.2.2.2.2.2.2.1
noncomputable def dp : Nat := tup9z.2.2.2.2.2.2.2.2.2.2.2.2.2.2.2.1
noncomputable def un : Nat := tup9z.2.2.2.2.2.2.2.2.2.2.2.2.2.2.2.2.1
noncomputable def gd : Option (List PySem.Code) := tup9z.2.2.2.2.2.2.2.2.2.2.2.2.2.2.2.2.2.1
noncomputable def cn : PySem.Str := tup9z.2.2.2.2.2.2.2.2.2.2.2.2.2.2.2.2.2.2.1
noncomputable def cs : PySem.Scope := tup9z.2.2.2.2.2.2.2.2.2.2.2.2.2.2.2.2.2.2.2.1
noncomputable def a : PySem.Addr := tup9z.2.2.2.2.2.2.2.2.2.2.2.2.2.2.2.2.2.2.2.2.1
noncomputable def ccd : PySem.Value := tup9z.2.2.2.2.2.2.2.2.2.2.2.2.2.2.2.2.2.2.2.2.2.1
noncomputable def cl : List (PySem.Str × PySem.Addr) := tup9z.2.2.2.2.2.2.2.2.2.2.2.2.2.2.2.2.2.2.2.2.2.2.1
noncomputable def outer : List PySem.Env := tup9z.2.2.2.2.2.2.2.2.2.2.2.2.2.2.2.2.2.2.2.2.2.2.2.1
noncomputable def A₀ : PySem.Around := tup9z.2.2.2.2.2.2.2.2.2.2.2.2.2.2.2.2.2.2.2.2.2.2.2.2.1
noncomputable def base : PySem.Heap := tup9z.2.2.2.2.2.2.2.2.2.2.2.2.2.2.2.2.2.2.2.2.2.2.2.2.2.1
noncomputable def h₀ : PySem.Heap := tup9z.2.2.2.2.2.2.2.2.2.2.2.2.2.2.2.2.2.2.2.2.2.2.2.2.2.2.1
noncomputable def L : PySem.Addr := tup9z.2.2.2.2.2.2.2.2.2.2.2.2.2.2.2.2.2.2.2.2.2.2.2.2.2.2.2.1
noncomputable def m : PySem.Str → Option PySem.Value := tup9z.2.2.2.2.2.2.2.2.2.2.2.2.2.2.2.2.2.2.2.2.2.2.2.2.2.2.2.2.1
noncomputable def s : PySem.Shared := tup9z.2.2.2.2.2.2.2.2.2.2.2.2.2.2.2.2.2.2.2.2.2.2.2.2.2.2.2.2.2.1
noncomputable def R : PySem.Result → PySem.Shared → Prop := tup9z.2.2.2.2.2.2.2.2.2.2.2.2.2.2.2.2.2.2.2.2.2.2.2.2.2.2.2.2.2.2.1
noncomputable def x : Nat := tup9z.2.2.2.2.2.2.2.2.2.2.2.2.2.2.2.2.2.2.2.2.2.2.2.2.2.2.2.2.2.2.2.1
noncomputable def d : Nat := tup9z.2.2.2.2.2.2.2.2.2.2.2.2.2.2.2.2.2.2.2.2.2.2.2.2.2.2.2.2.2.2.2.2.1
noncomputable def pb : Nat := tup9z.2.2.2.2.2.2.2.2.2.2.2.2.2.2.2.2.2.2.2.2.2.2.2.2.2.2.2.2.2.2.2.2.2.1
noncomputable def fn : Nat := tup9z.2.2.2.2.2.2.2.2.2.2.2.2.2.2.2.2.2.2.2.2.2.2.2.2.2.2.2.2.2.2.2.2.2.2.1
noncomputable def c : Nat := tup9z.2.2.2.2.2.2.2.2.2.2.2.2.2.2.2.2.2.2.2.2.2.2.2.2.2.2.2.2.2.2.2.2.2.2.2.1
noncomputable def x1 : Nat := tup9z.2.2.2.2.2.2.2.2.2.2.2.2.2.2.2.2.2.2.2.2.2.2.2.2.2.2.2.2.2.2.2.2.2.2.2.2.1
noncomputable def d1 : Nat := tup9z.2.2.2.2.2.2.2.2.2.2.2.2.2.2.2.2.2.2.2.2.2.2.2.2.2.2.2.2.2.2.2.2.2.2.2.2.2.1
noncomputable def sg : Nat := tup9z.2.2.2.2.2.2.2.2.2.2.2.2.2.2.2.2.2.2.2.2.2.2.2.2.2.2.2.2.2.2.2.2.2.2.2.2.2.2.1
noncomputable def ce : Nat := tup9z.2.2.2.2.2.2.2.2.2.2.2.2.2.2.2.2.2.2.2.2.2.2.2.2.2.2.2.2.2.2.2.2.2.2.2.2.2.2.2.1
noncomputable def pb1 : Nat := tup9z.2.2.2.2.2.2.2.2.2.2.2.2.2.2.2.2.2.2.2.2.2.2.2.2.2.2.2.2.2.2.2.2.2.2.2.2.2.2.2.2.1
noncomputable def t1 : PySem.Tok := tup9z.2.2.2.2.2.2.2.2.2.2.2.2.2.2.2.2.2.2.2.2.2.2.2.2.2.2.2.2.2.2.2.2.2.2.2.2.2.2.2.2.2.1
noncomputable def t2 : PySem.Tok := tup9z.2.2.2.2.2.2.2.2.2.2.2.2.2.2.2.2.2.2.2.2.2.2.2.2.2.2.2.2.2.2.2.2.2.2.2.2.2.2.2.2.2.2.1
noncomputable def t3 : PySem.Tok := tup9z.2.2.2.2.2.2.2.2.2.2.2.2.2.2.2.2.2.2.2.2.2.2.2.2.2.2.2.2.2.2.2.2.2.2.2.2.2.2.2.2.2.2.2.1
noncomputable def t4 : PySem.Tok := tup9z.2.2.2.2.2.2.2.2.2.2.2.2.2.2.2.2.2.2.2.2.2.2.2.2.2.2.2.2.2.2.2.2.2.2.2.2.2.2.2.2.2.2.2.2.1
noncomputable def tw : PySem.Tok := tup9z.2.2.2.2.2.2.2.2.2.2.2.2.2.2.2.2.2.2.2.2.2.2.2.2.2.2.2.2.2.2.2.2.2.2.2.2.2.2.2.2.2.2.2.2.2.1
noncomputable def u1 : PySem.Tok := tup9z.2.2.2.2.2.2.2.2.2.2.2.2.2.2.2.2.2.2.2.2.2.2.2.2.2.2.2.2.2.2.2.2.2.2.2.2.2.2.2.2.2.2.2.2.2.2.1
noncomputable def u2 : PySem.Tok := tup9z.2.2.2.2.2.2.2.2.2.2.2.2.2.2.2.2.2.2.2.2.2.2.2.2.2.2.2.2.2.2.2.2.2.2.2.2.2.2.2.2.2.2.2.2.2.2.2.1
noncomputable def u3 : PySem.Tok := tup9z.2.2.2.2.2.2.2.2.2.2.2.2.2.2.2.2.2.2.2.2.2.2.2.2.2.2.2.2.2.2.2.2.2.2.2.2.2.2.2.2.2.2.2.2.2.2.2.2.1
noncomputable def u4 : PySem.Tok := tup9z.2.2.2.2.2.2.2.2.2.2.2.2.2.2.2.2.2.2.2.2.2.2.2.2.2.2.2.2.2.2.2.2.2.2.2.2.2.2.2.2.2.2.2.2.2.2.2.2.2.1
noncomputable def u5 : PySem.Tok := tup9z.2.2.2.2.2.2.2.2.2.2.2.2.2.2.2.2.2.2.2.2.2.2.2.2.2.2.2.2.2.2.2.2.2.2.2.2.2.2.2.2.2.2.2.2.2.2.2.2.2.2.1
noncomputable def v1 : PySem.Tok := tup9z.2.2.2.2.2.2.2.2.2.2.2.2.2.2.2.2.2.2.2.2.2.2.2.2.2.2.2.2.2.2.2.2.2.2.2.2.2.2.2.2.2.2.2.2.2.2.2.2.2.2.2.1
noncomputable def vw : PySem.Tok := tup9z.2.2.2.2.2.2.2.2.2.2.2.2.2.2.2.2.2.2.2.2.2.2.2.2.2.2.2.2.2.2.2.2.2.2.2.2.2.2.2.2.2.2.2.2.2.2.2.2.2.2.2.2.1
noncomputable def ct : PySem.Value := tup9z.2.2.2.2.2.2.2.2.2.2.2.2.2.2.2.2.2.2.2.2.2.2.2.2.2.2.2.2.2.2.2.2.2.2.2.2.2.2.2.2.2.2.2.2.2.2.2.2.2.2.2.2.2.1
noncomputable def pm : PySem.Value := tup9z.2.2.2.2.2.2.2.2.2.2.2.2.2.2.2.2.2.2.2.2.2.2.2.2.2.2.2.2.2.2.2.2.2.2.2.2.2.2.2.2.2.2.2.2.2.2.2.2.2.2.2.2.2.2.1
noncomputable def oc : PySem.Obj := tup9z.2.2.2.2.2.2.2.2.2.2.2.2.2.2.2.2.2.2.2.2.2.2.2.2.2.2.2.2.2.2.2.2.2.2.2.2.2.2.2.2.2.2.2.2.2.2.2.2.2.2.2.2.2.2.2.1
noncomputable def oC : PySem.Obj := tup9z.2.2.2.2.2.2.2.2.2.2.2.2.2.2.2.2.2.2.2.2.2.2.2.2.2.2.2.2.2.2.2.2.2.2.2.2.2.2.2.2.2.2.2.2.2.2.2.2.2.2.2.2.2.2.2.2.1
noncomputable def vs : Array PySem.Value := tup9z.2.2.2.2.2.2.2.2.2.2.2.2.2.2.2.2.2.2.2.2.2.2.2.2.2.2.2.2.2.2.2.2.2.2.2.2.2.2.2.2.2.2.2.2.2.2.2.2.2.2.2.2.2.2.2.2.2.1
noncomputable def tq : PySem.Tok := tup9z.2.2.2.2.2.2.2.2.2.2.2.2.2.2.2.2.2.2.2.2.2.2.2.2.2.2.2.2.2.2.2.2.2.2.2.2.2.2.2.2.2.2.2.2.2.2.2.2.2.2.2.2.2.2.2.2.2.2.1
noncomputable def z1 : PySem.Heap := tup9z.2.2.2.2.2.2.2.2.2.2.2.2.2.2.2.2.2.2.2.2.2.2.2.2.2.2.2.2.2.2.2.2.2.2.2.2.2.2.2.2.2.2.2.2.2.2.2.2.2.2.2.2.2.2.2.2.2.2.2.1
noncomputable def z2 : PySem.Addr := tup9z.2.2.2.2.2.2.2.2.2.2.2.2.2.2.2.2.2.2.2.2.2.2.2.2.2.2.2.2.2.2.2.2.2.2.2.2.2.2.2.2.2.2.2.2.2.2.2.2.2.2.2.2.2.2.2.2.2.2.2.2.1
noncomputable def z3 : PySem.Heap := tup9z.2.2.2.2.2.2.2.2.2.2.2.2.2.2.2.2.2.2.2.2.2.2.2.2.2.2.2.2.2.2.2.2.2.2.2.2.2.2.2.2.2.2.2.2.2.2.2.2.2.2.2.2.2.2.2.2.2.2.2.2.2.1
noncomputable def d' : PySem.Addr := tup9z.2.2.2.2.2.2.2.2.2.2.2.2.2.2.2.2.2.2.2.2.2.2.2.2.2.2.2.2.2.2.2.2.2.2.2.2.2.2.2.2.2.2.2.2.2.2.2.2.2.2.2.2.2.2.2.2.2.2.2.2.2.2.1
noncomputable def h' : PySem.Heap := tup9z.2.2.2.2.2.2.2.2.2.2.2.2.2.2.2.2.2.2.2.2.2.2.2.2.2.2.2.2.2.2.2.2.2.2.2.2.2.2.2.2.2.2.2.2.2.2.2.2.2.2.2.2.2.2.2.2.2.2.2.2.2.2.2.1
noncomputable def o' : PySem.Obj := tup9z.2.2.2.2.2.2.2.2.2.2.2.2.2.2.2.2.2.2.2.2.2.2.2.2.2.2.2.2.2.2.2.2.2.2.2.2.2.2.2.2.2.2.2.2.2.2.2.2.2.2.2.2.2.2.2.2.2.2.2.2.2.2.2.2.1
noncomputable def z8 : PySem.Heap := tup9z.2.2.2.2.2.2.2.2.2.2.2.2.2.2.2.2.2.2.2.2.2.2.2.2.2.2.2.2.2.2.2.2.2.2.2.2.2.2.2.2.2.2.2.2.2.2.2.2.2.2.2.2.2.2.2.2.2.2.2.2.2.2.2.2.2.1
noncomputable def om : PySem.Obj := tup9z.2.2.2.2.2.2.2.2.2.2.2.2.2.2.2.2.2.2.2.2.2.2.2.2.2.2.2.2.2.2.2.2.2.2.2.2.2.2.2.2.2.2.2.2.2.2.2.2.2.2.2.2.2.2.2.2.2.2.2.2.2.2.2.2.2.2.1
noncomputable def z9 : PySem.Heap := tup9z.2.2.2.2.2.2.2.2.2.2.2.2.2.2.2.2.2.2.2.2.2.2.2.2.2.2.2.2.2.2.2.2.2.2.2.2.2.2.2.2.2.2.2.2.2.2.2.2.2.2.2.2.2.2.2.2.2.2.2.2.2.2.2.2.2.2.2.1
noncomputable def Rd : PySem.Addr := tup9z.2.2.2.2.2.2.2.2.2.2.2.2.2.2.2.2.2.2.2.2.2.2.2.2.2.2.2.2.2.2.2.2.2.2.2.2.2.2.2.2.2.2.2.2.2.2.2.2.2.2.2.2.2.2.2.2.2.2.2.2.2.2.2.2.2.2.2.2.1
noncomputable def z10 : PySem.Heap := tup9z.2.2.2.2.2.2.2.2.2.2.2.2.2.2.2.2.2.2.2.2.2.2.2.2.2.2.2.2.2.2.2.2.2.2.2.2.2.2.2.2.2.2.2.2.2.2.2.2.2.2.2.2.2.2.2.2.2.2.2.2.2.2.2.2.2.2.2.2.2.1
noncomputable def z11 : PySem.Heap := tup9z.2.2.2.2.2.2.2.2.2.2.2.2.2.2.2.2.2.2.2.2.2.2.2.2.2.2.2.2.2.2.2.2.2.2.2.2.2.2.2.2.2.2.2.2.2.2.2.2.2.2.2.2.2.2.2.2.2.2.2.2.2.2.2.2.2.2.2.2.2.2.1
noncomputable def z12 : Nat := tup9z.2.2.2.2.2.2.2.2.2.2.2.2.2.2.2.2.2.2.2.2.2.2.2.2.2.2.2.2.2.2.2.2.2.2.2.2.2.2.2.2.2.2.2.2.2.2.2.2.2.2.2.2.2.2.2.2.2.2.2.2.2.2.2.2.2.2.2.2.2.2.2.1
noncomputable def Fl : PySem.Addr := tup9z.2.2.2.2.2.2.2.2.2.2.2.2.2.2.2.2.2.2.2.2.2.2.2.2.2.2.2.2.2.2.2.2.2.2.2.2.2.2.2.2.2.2.2.2.2.2.2.2.2.2.2.2.2.2.2.2.2.2.2.2.2.2.2.2.2.2.2.2.2.2.2.2.1
noncomputable def z13 : PySem.Heap := tup9z.2.2.2.2.2.2.2.2.2.2.2.2.2.2.2.2.2.2.2.2.2.2.2.2.2.2.2.2.2.2.2.2.2.2.2.2.2.2.2.2.2.2.2.2.2.2.2.2.2.2.2.2.2.2.2.2.2.2.2.2.2.2.2.2.2.2.2.2.2.2.2.2.2.1
noncomputable def z14 : PySem.Heap := tup9z.2.2.2.2.2.2.2.2.2.2.2.2.2.2.2.2.2.2.2.2.2.2.2.2.2.2.2.2.2.2.2.2.2.2.2.2.2.2.2.2.2.2.2.2.2.2.2.2.2.2.2.2.2.2.2.2.2.2.2.2.2.2.2.2.2.2.2.2.2.2.2.2.2.2.1
noncomputable def z15 : Nat := tup9z.2.2.2.2.2.2.2.2.2.2.2.2.2.2.2.2.2.2.2.2.2.2.2.2.2.2.2.2.2.2.2.2.2.2.2.2.2.2.2.2.2.2.2.2.2.2.2.2.2.2.2.2.2.2.2.2.2.2.2.2.2.2.2.2.2.2.2.2.2.2.2.2.2.2.2.1
noncomputable def Ri : PySem.Addr := tup9z.2.2.2.2.2.2.2.2.2.2.2.2.2.2.2.2.2.2.2.2.2.2.2.2.2.2.2.2.2.2.2.2.2.2.2.2.2.2.2.2.2.2.2.2.2.2.2.2.2.2.2.2.2.2.2.2.2.2.2.2.2.2.2.2.2.2.2.2.2.2.2.2.2.2.2.2.1
noncomputable def z16 : PySem.Heap := tup9z.2.2.2.2.2.2.2.2.2.2.2.2.2.2.2.2.2.2.2.2.2.2.2.2.2.2.2.2.2.2.2.2.2.2.2.2.2.2.2.2.2.2.2.2.2.2.2.2.2.2.2.2.2.2.2.2.2.2.2.2.2.2.2.2.2.2.2.2.2.2.2.2.2.2.2.2.2.1
noncomputable def z17 : PySem.Heap := tup9z.2.2.2.2.2.2.2.2.2.2.2.2.2.2.2.2.2.2.2.2.2.2.2.2.2.2.2.2.2.2.2.2.2.2.2.2.2.2.2.2.2.2.2.2.2.2.2.2.2.2.2.2.2.2.2.2.2.2.2.2.2.2.2.2.2.2.2.2.2.2.2.2.2.2.2.2.2.2.1
noncomputable def tk : Nat := tup9z.2.2.2.2.2.2.2.2.2.2.2.2.2.2.2.2.2.2.2.2.2.2.2.2.2.2.2.2.2.2.2.2.2.2.2.2.2.2.2.2.2.2.2.2.2.2.2.2.2.2.2.2.2.2.2.2.2.2.2.2.2.2.2.2.2.2.2.2.2.2.2.2.2.2.2.2.2.2.2.1
noncomputable def h9 : PySem.Heap := tup9z.2.2.2.2.2.2.2.2.2.2.2.2.2.2.2.2.2.2.2.2.2.2.2.2.2.2.2.2.2.2.2.2.2.2.2.2.2.2.2.2.2.2.2.2.2.2.2.2.2.2.2.2.2.2.2.2.2.2.2.2.2.2.2.2.2.2.2.2.2.2.2.2.2.2.2.2.2.2.2.2.1
noncomputable def tk9 : Nat := tup9z.2.2.2.2.2.2.2.2.2.2.2.2.2.2.2.2.2.2.2.2.2.2.2.2.2.2.2.2.2.2.2.2.2.2.2.2.2.2.2.2.2.2.2.2.2.2.2.2.2.2.2.2.2.2.2.2.2.2.2.2.2.2.2.2.2.2.2.2.2.2.2.2.2.2.2.2.2.2.2.2.2.1
noncomputable def qe9 : Nat := tup9z.2.2.2.2.2.2.2.2.2.2.2.2.2.2.2.2.2.2.2.2.2.2.2.2.2.2.2.2.2.2.2.2.2.2.2.2.2.2.2.2.2.2.2.2.2.2.2.2.2.2.2.2.2.2.2.2.2.2.2.2.2.2.2.2.2.2.2.2.2.2.2.2.2.2.2.2.2.2.2.2.2.2.1
noncomputable def tl2 : PySem.Tok := tup9z.2.2.2.2.2.2.2.2.2.2.2.2.2.2.2.2.2.2.2.2.2.2.2.2.2.2.2.2.2.2.2.2.2.2.2.2.2.2.2.2.2.2.2.2.2.2.2.2.2.2.2.2.2.2.2.2.2.2.2.2.2.2.2.2.2.2.2.2.2.2.2.2.2.2.2.2.2.2.2.2.2.2.2.1
noncomputable def sv2 : List PySem.Value := tup9z.2.2.2.2.2.2.2.2.2.2.2.2.2.2.2.2.2.2.2.2.2.2.2.2.2.2.2.2.2.2.2.2.2.2.2.2.2.2.2.2.2.2.2.2.2.2.2.2.2.2.2.2.2.2.2.2.2.2.2.2.2.2.2.2.2.2.2.2.2.2.2.2.2.2.2.2.2.2.2.2.2.2.2.2.1
noncomputable def se2 : Nat := tup9z.2.2.2.2.2.2.2.2.2.2.2.2.2.2.2.2.2.2.2.2.2.2.2.2.2.2.2.2.2.2.2.2.2.2.2.2.2.2.2.2.2.2.2.2.2.2.2.2.2.2.2.2.2.2.2.2.2.2.2.2.2.2.2.2.2.2.2.2.2.2.2.2.2.2.2.2.2.2.2.2.2.2.2.2.2
namespace rounds
set_option maxRecDepth 100000 in
set_option maxHeartbeats 8000000 in
noncomputable def seg9 : {p : Mine.RS → (List (List Nat)) → Nat → Mine.RS → Nat → PySem.Tok → PySem.Heap → Nat → (PySem.Str → Option PySem.Value) → (List (PySem.Addr × PySem.Obj)) → PySem.Obj → (List (PySem.Str × PySem.Value)) → (List PySem.Value) → (List PySem.Value) → (List PySem.Value) → Nat → Nat → Nat → PySem.Tok → (List PySem.Value) → Nat → Nat → (List (List Nat)) → (List Nat) → (List Nat) → (List Nat) → (List (PySem.Addr × PySem.Obj)) → (List Nat) → (List (List Nat)) → PySem.Tok → (List PySem.Value) → Prop // Hid (∀ a0 a1 a2 a3 a4 a5 a6 a7 a8 a9 a10 a11 a12 a13 a14 a15 a16 a17 a18 a19 a20 a21 a22 a23 a24 a25 a26 a27 a28 a29 a30, p a0 a1 a2 a3 a4 a5 a6 a7 a8 a9 a10 a11 a12 a13 a14 a15 a16 a17 a18 a19 a20 a21 a22 a23 a24 a25 a26 a27 a28 a29 a30) → seg9.1 w ln rem l t qe f tl sv se loose mean mg mb rest dp un gd cn cs a ccd cl outer A₀ base h₀ L m s R x d pb fn c x1 d1 sg ce pb1 t1 t2 t3 t4 tw u1 u2 u3 u4 u5 v1 vw ct pm oc oC vs tq z1 z2 z3 d' h' o' z8 om z9 Rd z10 z11 z12 Fl z13 z14 z15 Ri z16 z17 tk h9 tk9 qe9 tl2 sv2 se2} := segOf (by
   intro ht9
   delta seg9 segOf
   dsimp -zeta only
   intro S hS hs hC B F₀ X T hk hd hu N₀ hret ok' hcode hname hcell o1 o2 o3 o4 o5 o6 o7 o8 off0 hf1 hf2 hf3 hf4 hf5 hf6 hf7 hf8 hf9 y4 y5 y6 y7 qk ek hC' lo' hd' l1 hdm hfm lR lF lI y18 y19 F9 hlt9 hs2 N9 hrl hord
   refine while_st (σ := RG) (env := envOf _ _ _ _ _) (fun y => [(Str.ofString "line", .ref x), (Str.ofString "met", .ref d'), (Str.ofString "rounds", .ref Rd), (Str.ofString "falls", .ref Fl), (Str.ofString "rises", .ref Ri)])
     (rgLed w ⟨x, d, pb, fn, c, x1, d1, sg, ce, pb1, t1, t2, t3, t4, tw, u1, u2, u3, u4, u5, v1, vw, ct, pm, oc, oC, vs, tq⟩ ln d' Rd Fl Ri rest) (fun n y => RG.Ok w rem y ∧ y.S.small ∧ roundsGo n y.S = some S) f ⟨⟨[l], [l], [], [], []⟩, om, _, [], [], [], 0, 0, 0, tl2, sv2, [.str (mkS l) t], se2, qe9⟩ (by k_asm) (by k_asm) ⟨rfl, rfl, rfl, rfl, rfl, trivial⟩ (by dsimp only [rgLed, lexLed]; simp only [List.cons_append, List.nil_append]; (repeat' first | exact List.forall_mem_nil _ | refine mem_cons_all ?_ ?_ | exact sub_refl | refine sub_tail ?_ | k_mem)) ⟨⟨hdm, rfl, .nil, .nil, .nil, .cons _ _ .nil, hs2⟩, ⟨(by show 1 ≤ 1000; decide), (by show 1 ≤ 1000; decide), (by show 0 ≤ 1000; decide), (by show 0 ≤ 1000; decide), (by show 0 ≤ 1000; decide)⟩, hS⟩ ?_
   clear N9 F9 hlt9 hs2 hs hfm hd' lI lF lR N₀ F₀ hS hdm
   intro n y h tk m₁ hok F N
   obtain ⟨⟨met, q, rd, fl, ri⟩, om, kvs, wr, wf, wi, kr, kf, ki, tl3, sv3, qv, se3, qe3⟩ := y
   obtain ⟨⟨hdm, hkm, hwr, hwf, hwi, hqv, hs3⟩, ⟨hmz, hqz, hfz, hiz, hrz⟩, hgo⟩ := hok
   dsimp only [rgLed, lexLed, mB] at *
   simp only [List.cons_append, List.nil_append] at N
   cases n with
   | zero => cases hgo
   | succ n =>
   rw [roundsGo] at hgo
   split at hgo
   · rename_i hq0
     obtain rfl : q = [] := hq0
     obtain rfl := Option.some.inj hgo
     obtain rfl : qv = [] := by cases hqv; rfl
     k_with_none
     k_with "truthy ref" => refine truthy_nil (by is_list) ?_
     k_with "call type:list cons nil" => (refine list_dict (met := met) rfl (by k_asm) (by k_asm) (by k_mem) hdm hkm lo' hmz ?_; intro a9 c9 h9 tk9 vs9 hv9 F9 N9 l9; (try k_lt l9))
     k_steps
     have hlq : ∀ q ∈ lexLed w ⟨x, d, pb, fn, c, x1, d1, sg, ce, pb1, t1, t2, t3, t4, tw, u1, u2, u3, u4, u5, v1, vw, ct, pm, oc, oC, vs, tq⟩ ln tl sv se [] qe ++ rest, @LT.lt Nat _ q.1 d' := by
       dsimp only [lexLed]
       simp only [List.cons_append, List.nil_append]
       (repeat' first | exact List.forall_mem_nil _ | (first | exact raw_lt (by assumption) (by walk_at "le9") | exact allLt_lt' (by walk_at "and_r") (by walk_at "le9")) | refine lt_cons ?_ ?_ | (with_reducible assumption) | omega)
     refine hret _ (lexLed w ⟨x, d, pb, fn, c, x1, d1, sg, ce, pb1, t1, t2, t3, t4, tw, u1, u2, u3, u4, u5, v1, vw, ct, pm, oc, oC, vs, tq⟩ ln tl3 sv3 se3 [] qe3) [_, _, _, _, _] _ _ ⟨_, _, _, _, _, _, _, _, _, _, _, _, _, rfl, rfl, hv9, hwr, hwf, hwi, _, tl3, sv3, se3, hs3, rfl⟩ (fun q hq p hp => ?_) (by k_asm) (by dsimp only [lexLed]; simp only [List.cons_append, List.nil_append]; exact news_of (by k_asm) (by (repeat' first | exact List.forall_mem_nil _ | refine mem_cons_all ?_ ?_ | exact sub_refl | refine sub_tail ?_ | k_mem)))
     have hq9 := hlq q hq
     have hp9 : @LT.lt Nat _ d' p.1 := by
       revert p
       exact List.forall_mem_cons.mpr ⟨by (show @LT.lt Nat _ _ _); omega, List.forall_mem_cons.mpr ⟨by (show @LT.lt Nat _ _ _); omega, List.forall_mem_cons.mpr ⟨by (show @LT.lt Nat _ _ _); omega, List.forall_mem_cons.mpr ⟨by (show @LT.lt Nat _ _ _); omega, List.forall_mem_cons.mpr ⟨by (show @LT.lt Nat _ _ _); omega, List.forall_mem_nil _⟩⟩⟩⟩⟩
     exact Nat.lt_trans hq9 hp9
   · rename_i hq0
     split at hgo
     · rename_i hfit
       obtain ⟨vq, qv1, rfl⟩ : ∃ vq qv1, qv = vq :: qv1 := by
         cases q with
         | nil => exact absurd rfl hq0
         | cons r q => cases hqv; exact ⟨_, _, rfl⟩
       k_with_none
       have hvl : (vq :: qv1).length = q.length := by rw [strs_len hqv, List.length_map]
       rw [List.length_cons] at hvl
       k_with "truthy ref" => refine truthy_cons (by is_list) (by omega) ?_
       k_with "call builtin:len cons nil" => refine len_list (by is_list) (by rw [List.size_toArray, List.length_cons]; omega) ?_
       k_with "call type:range cons nil" => refine stop_in ?_
       k_with "exec For Name Call cons nil" => refine stop_in ?_
       have hwrz : wr.length ≤ 1000 := by rw [hwr.length, List.length_map]; omega
       have hwfz : wf.length ≤ 1000 := by rw [hwf.length, List.length_map]; omega
       have hwiz : wi.length ≤ 1000 := by rw [hwi.length, List.length_map]; omega
       k_steps
       refine stop_out ?_
       refine wpAny_For ?_
       k_steps
       refine stop_out ?_
       obtain ⟨S', hrow, hgo'⟩ : ∃ S', rowsGo q.length ⟨met, q, rd ++ [q.length], fl, ri⟩ = some S' ∧ roundsGo n S' = some S := by
         cases e : rowsGo q.length ⟨met, q, rd ++ [q.length], fl, ri⟩ with
         | none => rw [e] at hgo; cases hgo
         | some S' => rw [e] at hgo; exact ⟨S', rfl, hgo⟩
       refine for_range1 (σ := RG) (n := q.length) (env := envOf _ _ _ _ _) (by k_asm) (by k_asm) rfl (by rw [List.size_toArray, List.length_cons, hvl]) (by omega) (fun y => [(Str.ofString "line", .ref x), (Str.ofString "met", .ref d'), (Str.ofString "rounds", .ref Rd), (Str.ofString "falls", .ref Fl), (Str.ofString "rises", .ref Ri)])
         (rgLed w ⟨x, d, pb, fn, c, x1, d1, sg, ce, pb1, t1, t2, t3, t4, tw, u1, u2, u3, u4, u5, v1, vw, ct, pm, oc, oC, vs, tq⟩ ln d' Rd Fl Ri rest) (fun i y => RG.Ok w rem y ∧ y.S.small ∧ rowsGo (q.length - i) y.S = some S') ⟨⟨met, q, rd ++ [q.length], fl, ri⟩, om, kvs, wr ++ [_], wf, wi, kr + 1, kf, ki, tl3, sv3, vq :: qv1, se3, qe3⟩ ⟨rfl, rfl, rfl, rfl, rfl, trivial⟩ (by dsimp only [rgLed, lexLed]; simp only [List.cons_append, List.nil_append]; (repeat' first | exact List.forall_mem_nil _ | refine mem_cons_all ?_ ?_ | exact sub_refl | refine sub_tail ?_ | k_mem)) ⟨⟨hdm, hkm, ?_, hwf, hwi, hqv, hs3⟩, ⟨hmz, hqz, hfz, hiz, ?_⟩, hrow⟩ ?_ ?_ ?_
       · show IntsAre (wr ++ [_]) ((rd ++ [q.length]).map _)
         rw [List.map_append]
         refine IntsAre.append hwr ?_
         rw [show (List.toArray (vq :: qv1)).size = q.length by rw [List.size_toArray, List.length_cons, hvl]]
         exact .cons _ _ .nil
       · show (rd ++ [q.length]).length ≤ 1000
         have h9 := (RS.fits_small hfit).1.2.2.2.2
         simp only [List.length_append, List.length_singleton] at *
         omega
       · intro i y _
         dsimp only [rgLed, lexLed]
         simp only [List.cons_append, List.nil_append]
         (repeat' first | exact List.forall_mem_nil _ | apply adr_cons | exact List.Mem.head _ | refine List.Mem.tail _ ?_ | refine adr_of_sub ?_ | exact sub_refl | refine sub_tail ?_)
       · clear hwr hwf hwi hqv hs3 hdm hkm hwrz hwfz hwiz hvl hmz hqz hfz hiz hrz hfit
         intro i y t9 h9 tk9 m9 own hi hok hown F N
         obtain ⟨⟨met, q2, rd, fl, ri⟩, om, kvs, wr, wf, wi, kr, kf, ki, tl4, sv4, qv, se4, qe4⟩ := y
         obtain ⟨⟨hdm, hkm, hwr, hwf, hwi, hqv, hs4⟩, ⟨hmz, hqz, hfz, hiz, hrz⟩, hro⟩ := hok
         dsimp only [rgLed, lexLed, mB] at *
         simp only [List.cons_append, List.nil_append] at N
         have opb := own_lt hown (a := pb) (by (repeat' first | exact List.Mem.head _ | refine List.Mem.tail _ ?_))
         have off2 := off0.app ok' opb
         have hn1 := app_ne (allLt_lt hrl) (Nat.le_refl _) (own_lt hown (a := d') (by (repeat' first | exact List.Mem.head _ | refine List.Mem.tail _ ?_)))
         have hn2 := app_ne (a := Rd) (allLt_lt hrl) (by omega) (own_lt hown (by (repeat' first | exact List.Mem.head _ | refine List.Mem.tail _ ?_)))
         have hn3 := app_ne (a := Fl) (allLt_lt hrl) (by omega) (own_lt hown (by (repeat' first | exact List.Mem.head _ | refine List.Mem.tail _ ?_)))
         have hn4 := app_ne (a := Ri) (allLt_lt hrl) (by omega) (own_lt hown (by (repeat' first | exact List.Mem.head _ | refine List.Mem.tail _ ?_)))
         generalize hr2 : rest ++ own = r2 at N off2 hn1 hn2 hn3 hn4
         obtain ⟨S2, hst, hro'⟩ : ∃ S2, rowStep ⟨met, q2, rd, fl, ri⟩ = some S2 ∧ rowsGo (q.length - (i + 1)) S2 = some S' := by
           rw [show q.length - i = (q.length - (i + 1)) + 1 by omega, rowsGo] at hro
           cases e : rowStep ⟨met, q2, rd, fl, ri⟩ with
           | none => rw [e] at hro; cases hro
           | some S2 => rw [e] at hro; exact ⟨S2, rfl, hro⟩
         have hsm2 := rowStep_small hst
         obtain ⟨row, q3, rfl, hft, rfl⟩ := rowStep_some hst
         have hrow1 := (RS.fits_small hft).2 row (.head _)
         obtain ⟨⟨b1, b2, b3, b4, b5⟩, -⟩ := RS.fits_small hft
         dsimp only at b1 b2 b3 b4 b5 hst
         obtain ⟨tv, qv3, rfl, hqv3⟩ : ∃ tv qv3, qv = .str (mkS row) tv :: qv3 ∧ StrsAre qv3 (q3.map mkS) := by
           cases hqv with
           | cons _ t r => exact ⟨t, _, rfl, r⟩
         have hq3 : qv3.length ≤ 1000 := by rw [strs_len hqv3, List.length_map]; simp only [List.length_cons] at b2; omega
         rename_i z1 z2 z3 z4 z5 z6 z7 z8 z9 z10 z11 z12 z13 z14 z15 y16 y17 z18
         clear hC B X T hk hret hcode hname hcell off0 hf1 hf2 hf3 hf4 hf5 hf6 hf7 hf8 hf9 y4 y18 y19 hrl h z1 m₁ z2 z3 z4 z5 z6 z7 z8 z9 tl3 sv3 se3 qe3 z10 z11 z12 z13 hq0 hgo vq qv1 z14 z15 y16 tk y17 z18 hrow hgo' hown hmz opb hro hqz b3 b4 b5
         revert hd hu ok' o1 o2 o3 o4 o5 o6 o7 o8 y5 y6 y7 qk ek hC' lo' l1 hord hi F hdm hkm hwr hwf hwi hs4 hfz hiz hrz hr2 off2 hn1 hn2 hn3 hn4 hft hro' hsm2 hst hrow1 b1 b2 hqv3 N hqv hq3
         exact ht9.out S q n S' i t9 h9 tk9 m9 own om kvs wr wf wi kr kf ki tl4 sv4 se4 qe4 met rd fl ri r2 row q3 tv qv3
       · clear hwr hwf hwi hqv hs3 hdm hkm hwrz hwfz hwiz hvl hmz hqz hfz hiz hrz hfit
         intro h8 tk8 m8 y hok F N
         obtain ⟨⟨met6, q6, rd6, fl6, ri6⟩, om, kvs, wr, wf, wi, kr, kf, ki, tl6, sv6, qv, se6, qe6⟩ := y
         obtain ⟨⟨hdm, hkm, hwr, hwf, hwi, hqv, hs6⟩, hsm, hro⟩ := hok
         rw [Nat.sub_self, rowsGo] at hro
         obtain rfl := Option.some.inj hro
         dsimp only [rgLed, lexLed, mB] at *
         simp only [List.cons_append, List.nil_append] at N
         k_with_none
         k_steps
         refine TurnEnd.mk n ⟨⟨met6, q6, rd6, fl6, ri6⟩, om, kvs, wr, wf, wi, kr, kf, ki, tl6, sv6, qv, se6, qe6⟩ (Nat.lt_succ_self _) (by k_asm) (by k_asm) (by (repeat' first | exact True.intro | refine ⟨?_, ?_⟩ | kernel_rfl | exact rfl)) (by exact fun _ h => h) ⟨⟨hdm, hkm, hwr, hwf, hwi, hqv, hs6⟩, hsm, hgo'⟩
     · cases hgo)
noncomputable def G9 (d : Mine.RS × (List (List Nat)) × Nat × Mine.RS × Nat × PySem.Tok × PySem.Heap × Nat × (PySem.Str → Option PySem.Value) × (List (PySem.Addr × PySem.Obj)) × PySem.Obj × (List (PySem.Str × PySem.Value)) × (List PySem.Value) × (List PySem.Value) × (List PySem.Value) × Nat × Nat × Nat × PySem.Tok × (List PySem.Value) × Nat × Nat × (List (List Nat)) × (List Nat) × (List Nat) × (List Nat) × (List (PySem.Addr × PySem.Obj)) × (List Nat) × (List (List Nat)) × PySem.Tok × (List PySem.Value)) : Prop := seg9.1 d.1 d.2.1 d.2.2.1 d.2.2.2.1 d.2.2.2.2.1 d.2.2.2.2.2.1 d.2.2.2.2.2.2.1 d.2.2.2.2.2.2.2.1 d.2.2.2.2.2.2.2.2.1 d.2.2.2.2.2.2.2.2.2.1 d.2.2.2.2.2.2.2.2.2.2.1 d.2.2.2.2.2.2.2.2.2.2.2.1 d.2.2.2.2.2.2.2.2.2.2.2.2.1 d.2.2.2.2.2.2.2.2.2.2.2.2.2.1 d.2.2.2.2.2.2.2.2.2.2.2.2.2.2.1 d.2.2.2.2.2.2.2.2.2.2.2.2.2.2.2.1 d.2.2.2.2.2.2.2.2.2.2.2.2.2.2.2.2.1 d.2.2.2.2.2.2.2.2.2.2.2.2.2.2.2.2.2.1 d.2.2.2.2.2.2.2.2.2.2.2.2.2.2.2.2.2.2.1 d.2.2.2.2.2.2.2.2.2.2.2.2.2.2.2.2.2.2.2.1 d.2.2.2.2.2.2.2.2.2.2.2.2.2.2.2.2.2.2.2.2.1 d.2.2.2.2.2.2.2.2.2.2.2.2.2.2.2.2.2.2.2.2.2.1 d.2.2.2.2.2.2.2.2.2.2.2.2.2.2.2.2.2.2.2.2.2.2.1 d.2.2.2.2.2.2.2.2.2.2.2.2.2.2.2.2.2.2.2.2.2.2.2.1 d.2.2.2.2.2.2.2.2.2.2.2.2.2.2.2.2.2.2.2.2.2.2.2.2.1 d.2.2.2.2.2.2.2.2.2.2.2.2.2.2.2.2.2.2.2.2.2.2.2.2.2.1 d.2.2.2.2.2.2.2.2.2.2.2.2.2.2.2.2.2.2.2.2.2.2.2.2.2.2.1 d.2.2.2.2.2.2.2.2.2.2.2.2.2.2.2.2.2.2.2.2.2.2.2.2.2.2.2.1 d.2.2.2.2.2.2.2.2.2.2.2.2.2.2.2.2.2.2.2.2.2.2.2.2.2.2.2.2.1 d.2.2.2.2.2.2.2.2.2.2.2.2.2.2.2.2.2.2.2.2.2.2.2.2.2.2.2.2.2.1 d.2.2.2.2.2.2.2.2.2.2.2.2.2.2.2.2.2.2.2.2.2.2.2.2.2.2.2.2.2.2
noncomputable def tup9z : Mine.RS × (List (List Nat)) × Nat × Mine.RS × Nat × PySem.Tok × PySem.Heap × Nat × (PySem.Str → Option PySem.Value) × (List (PySem.Addr × PySem.Obj)) × PySem.Obj × (List (PySem.Str × PySem.Value)) × (List PySem.Value) × (List PySem.Value) × (List PySem.Value) × Nat × Nat × Nat × PySem.Tok × (List PySem.Value) × Nat × Nat × (List (List Nat)) × (List Nat) × (List Nat) × (List Nat) × (List (PySem.Addr × PySem.Obj)) × (List Nat) × (List (List Nat)) × PySem.Tok × (List PySem.Value) := hen ((⟨[], [], [], [], []⟩ : RS), [], (0 : Nat), (⟨[], [], [], [], []⟩ : RS), (0 : Nat), (0 : Nat), (default : Heap), (0 : Nat), (fun _ => none), [], (default : Obj), [], [], [], [], (0 : Nat), (0 : Nat), (0 : Nat), (0 : Nat), [], (0 : Nat), (0 : Nat), [], [], [], [], [], [], [], (0 : Nat), []) G9
noncomputable def S : Mine.RS := tup9z.1
noncomputable def q : List (List Nat) := tup9z.2.1
noncomputable def n : Nat := tup9z.2.2.1
noncomputable def S' : Mine.RS := tup9z.2.2.2.1
noncomputable def i : Nat := tup9z.2.2.2.2.1
noncomputable def t9 : PySem.Tok := tup9z.2.2.2.2.2.1
noncomputable def h9 : PySem.Heap := tup9z.2.2.2.2.2.2.1
noncomputable def tk9 : Nat := tup9z.2.2.2.2.2.2.2.1
noncomputable def m9 : PySem.Str → Option PySem.Value := tup9z.2.2.2.2.2.2.2.2.1
noncomputable def own : List (PySem.Addr × PySem.Obj) := tup9z.2.2.2.2.2.2.2.2.2.1
noncomputable def om : PySem.Obj := tup9z.2.2.2.2.2.2.2.2.2.2.1
noncomputable def kvs : List (PySem.Str × PySem.Value) := tup9z.2.2.2.2.2.2.2.2.2.2.2.1
noncomputable def wr : List PySem.Value := tup9z.2.2.2.2.2.2.2.2.2.2.2.2.1
noncomputable def wf : List PySem.Value := tup9z.2.2.2.2.2.2.2.2.2.2.2.2.2.1
noncomputable def wi : List PySem.Value := tup9z.2.2.2.2.2.2.2.2.2.2.2.2.2.2.1
noncomputable def kr : Nat := tup9z.2.2.2.2.2.2.2.2.2.2.2.2.2.2.2.1
noncomputable def kf : Nat := tup9z.2.2.2.2.2.2.2.2.2.2.2.2.2.2.2.2.1
noncomputable def ki : Nat := tup9z.2.2.2.2.2.2.2.2.2.2.2.2.2.2.2.2.2.1
noncomputable def tl4 : PySem.Tok := tup9z.2.2.2.2.2.2.2.2.2.2.2.2.2.2.2.2.2.2.1
noncomputable def sv4 : List PySem.Value := tup9z.2.2.2.2.2.2.2.2.2.2.2.2.2.2.2.2.2.2.2.1
noncomputable def se4 : Nat := tup9z.2.2.2.2.2.2.2.2.2.2.2.2.2.2.2.2.2.2.2.2.1
noncomputable def qe4 : Nat := tup9z.2.2.2.2.2.2.2.2.2.2.2.2.2.2.2.2.2.2.2.2.2.1
noncomputable def met : List (List Nat) := tup9z.2.2.2.2.2.2.2.2.2.2.2.2.2.2.2.2.2.2.2.2.2.2.1
noncomputable def rd : List Nat := tup9z.2.2.2.2.2.2.2.2.2.2.2.2.2.2.2.2.2.2.2.2.2.2.2.1
noncomputable def fl : List Nat := tup9z.2.2.2.2.2.2.2.2.2.2.2.2.2.2.2.2.2.2.2.2.2.2.2.2.1
noncomputable def ri : List Nat := tup9z.2.2.2.2.2.2.2.2.2.2.2.2.2.2.2.2.2.2.2.2.2.2.2.2.2.1
noncomputable def r2 : List (PySem.Addr × PySem.Obj) := tup9z.2.2.2.2.2.2.2.2.2.2.2.2.2.2.2.2.2.2.2.2.2.2.2.2.2.2.1
noncomputable def row : List Nat := tup9z.2.2.2.2.2.2.2.2.2.2.2.2.2.2.2.2.2.2.2.2.2.2.2.2.2.2.2.1
noncomputable def q3 : List (List Nat) := tup9z.2.2.2.2.2.2.2.2.2.2.2.2.2.2.2.2.2.2.2.2.2.2.2.2.2.2.2.2.1
noncomputable def tv : PySem.Tok := tup9z.2.2.2.2.2.2.2.2.2.2.2.2.2.2.2.2.2.2.2.2.2.2.2.2.2.2.2.2.2.1
noncomputable def qv3 : List PySem.Value := tup9z.2.2.2.2.2.2.2.2.2.2.2.2.2.2.2.2.2.2.2.2.2.2.2.2.2.2.2.2.2.2
set_option maxRecDepth 100000 in
set_option maxHeartbeats 8000000 in
theorem main9 : seg9.1 S q n S' i t9 h9 tk9 m9 own om kvs wr wf wi kr kf ki tl4 sv4 se4 qe4 met rd fl ri r2 row q3 tv qv3 := by
         delta seg9 segOf
         dsimp -zeta only
         intro hd hu ok' o1 o2 o3 o4 o5 o6 o7 o8 y5 y6 y7 qk ek hC' lo' l1 hord hi F hdm hkm hwr hwf hwi hs4 hfz hiz hrz hr2 off2 hn1 hn2 hn3 hn4 hft hro' hsm2 hst hrow1 b1 b2 hqv3 N hqv hq3
         k_with_none
         k_with "call ref nil" => (refine' Ctr.use (tok_pop w ⟨x, d, pb, fn, c, x1, d1, sg, ce, pb1, t1, t2, t3, t4, tw, u1, u2, u3, u4, u5, v1, vw, ct, pm, oc, oC, vs, tq⟩ ok' ln rem (.str (mkS row) tv) qv3 qe4 _ ⟨tl4, sv4, se4, hs4, rfl⟩ hq3) ?kC ?kP ?kO ?kB ?kF ?kX ?kN ?kT ?kK ?kd ?ku ?_; ((case kF => k_asm); (case kN => k_asm); (case kB => k_asm); (case kX => k_asm); (case kT => k_asm); (case kC => k_asm); (case kK => first | exact rfl | assumption); (case kd => ktr_room); (case ku => ktr_units); (case kP => dsimp only [lexLed]; (repeat' first | exact Pick.nil | apply Pick.cons | exact Take.head | apply Take.tail)); (case kO => refine LexP.Off.to ?_; (repeat' first | assumption | refine LexP.Off.cons ?_ (by assumption) (by (try dsimp only); (show @LT.lt Nat _ _ _); omega)))); intro v9 led9 tl9 h9 tk9 hp9 hlt9 F9 N9; obtain ⟨rfl, rfl, qe9, tl5, sv5, se5, hs5, rfl⟩ := hp9; dsimp only [lexLed] at N9; simp only [List.cons_append, List.nil_append] at N9)
         k_with "call builtin:len cons nil" => refine k_lenS (l := row) (by omega) ?_
         k_with "call type:range cons nil" => refine stop_in ?_
         k_with "exec For Name Call cons nil" => refine stop_in ?_
         k_steps
         refine stop_out ?_
         refine wpAny_For ?_
         k_steps
         refine stop_out ?_
         obtain ⟨T9, hT9⟩ : ∃ T9, T9 = placeGo row (row.length - 1) 1 ⟨0, 0, met, q3⟩ := ⟨_, rfl⟩
         rw [← hT9] at hro' hsm2
         refine for_range2 (σ := RG × (Int × Tok × Nat) × (Int × Tok × Nat)) (n := row.length - 1) (env := envOf _ _ _ _ _) (by k_asm) (by k_asm) rfl (by split <;> omega) (by decide) (by omega) (fun y => [(Str.ofString "line", .ref x), (Str.ofString "met", .ref d'), (Str.ofString "rounds", .ref Rd), (Str.ofString "falls", .ref Fl), (Str.ofString "rises", .ref Ri), (Str.ofString "row", .str (mkS row) tv), (Str.ofString "fall", .int y.2.1.1 y.2.1.2.1), (Str.ofString "rise", .int y.2.2.1 y.2.2.2.1)])
           (fun y => rgLed w ⟨x, d, pb, fn, c, x1, d1, sg, ce, pb1, t1, t2, t3, t4, tw, u1, u2, u3, u4, u5, v1, vw, ct, pm, oc, oC, vs, tq⟩ ln d' Rd Fl Ri r2 y.1) (fun i y => RG.Ok w rem y.1 ∧ (y.1.S.met.length ≤ 100 + i ∧ y.1.S.q.length ≤ 100 + i) ∧ (y.1.S.rd = rd ∧ y.1.S.fl = fl ∧ y.1.S.ri = ri) ∧ (y.2.1.1 = (y.2.1.2.2 : Int) ∧ y.2.2.1 = (y.2.2.2.2 : Int)) ∧ placeGo row (row.length - 1 - i) (1 + i) ⟨y.2.1.2.2, y.2.2.2.2, y.1.S.met, y.1.S.q⟩ = T9) (⟨⟨met, q3, rd, fl, ri⟩, om, kvs, wr, wf, wi, kr, kf, ki, _, _, qv3, _, _⟩, (_, _, 0), (_, _, 0)) ⟨rfl, rfl, rfl, rfl, rfl, rfl, rfl, rfl, trivial⟩ (by dsimp only [rgLed, lexLed]; simp only [List.cons_append, List.nil_append]; (repeat' first | exact List.forall_mem_nil _ | refine mem_cons_all ?_ ?_ | exact sub_refl | refine sub_tail ?_ | k_mem)) ⟨⟨hdm, hkm, hwr, hwf, hwi, hqv3, by assumption⟩, ⟨by show met.length ≤ 100 + 0; omega, by show q3.length ≤ 100 + 0; simp only [List.length_cons] at b2; omega⟩, ⟨rfl, rfl, rfl⟩, ⟨by exact rfl, by exact rfl⟩, hT9.symm⟩ ?_ ?_ ?_
         · intro i y _
           dsimp only [rgLed, lexLed]
           simp only [List.cons_append, List.nil_append]
           (repeat' first | exact List.forall_mem_nil _ | apply adr_cons | exact List.Mem.head _ | refine List.Mem.tail _ ?_ | refine adr_of_sub ?_ | exact sub_refl | refine sub_tail ?_)
         · clear hwr hwf hwi hqv hqv3 hq3 hs4 hdm hkm hst hsm2 hft
           intro i y t9 h9 tk9 m9 own2 hi hok hown2 F N
           obtain ⟨⟨⟨met6, q6, rd6, fl6, ri6⟩, om, kvs, wr, wf, wi, kr, kf, ki, tl6, sv6, qv, se6, qe6⟩, ⟨fz, tf, fall⟩, ⟨rz, tr, rise⟩⟩ := y
           obtain ⟨⟨hdm, hkm, hwr, hwf, hwi, hqv, hs6⟩, ⟨hm6, hq6⟩, ⟨e1, e2, e3⟩, ⟨hfz7, hrz7⟩, hpl⟩ := hok
           dsimp only [rgLed, lexLed, mB] at *
           subst e1 e2 e3
           simp only [List.cons_append, List.nil_append] at N
           have opb2 := own_lt hown2 (a := pb) (by (repeat' first | exact List.Mem.head _ | refine List.Mem.tail _ ?_))
           have off3 := off2.app ok' opb2
           have hp1 := app_ne2 hn1 (own_lt hown2 (by (repeat' first | exact List.Mem.head _ | refine List.Mem.tail _ ?_)))
           have hp2 := app_ne2 hn2 (own_lt hown2 (by (repeat' first | exact List.Mem.head _ | refine List.Mem.tail _ ?_)))
           have hp3 := app_ne2 hn3 (own_lt hown2 (by (repeat' first | exact List.Mem.head _ | refine List.Mem.tail _ ?_)))
           have hp4 := app_ne2 hn4 (own_lt hown2 (by (repeat' first | exact List.Mem.head _ | refine List.Mem.tail _ ?_)))
           generalize hr3 : r2 ++ own2 = r3 at N off3 hp1 hp2 hp3 hp4
           have hX : ((row.take i ++ [row.getD (1 + i) 0]) ++ [row.getD i 0]) ++ row.drop (2 + i) = swapAt row (1 + i) := by
             rw [swapAt, show 1 + i - 1 = i by omega, show 1 + i + 1 = 2 + i by omega]; simp only [List.append_assoc]
           have hcol0 := collZ_swap row (1 + i) (by omega) (by omega)
           rw [show 1 + i - 1 = i by omega] at hcol0
           have hwrz : wr.length ≤ 1000 := by rw [hwr.length, List.length_map]; omega
           have hqvz : qv.length ≤ 1000 := by rw [strs_len hqv, List.length_map]; omega
           rw [show row.length - 1 - i = (row.length - 1 - (i + 1)) + 1 by omega, placeGo, show 1 + i + 1 = 1 + (i + 1) by omega] at hpl
           have hstep : placeStep row (1 + i) ⟨fall, rise, met6, q6⟩ = placeStep row (1 + i) ⟨fall, rise, met6, q6⟩ := rfl
           conv at hstep => rhs; rw [placeStep, show 1 + i - 1 = i by omega]
           k_with_none
           k_with "subscriptTail Name Slice str ref" => (first
             | (refine k_cut_to (l := row) i (by omega) (by omega) (by omega) (by omega) (by k_asm) (by k_asm) ?_; intro h8 t8 k8 F8 N8)
             | (refine k_cut_from (l := row) (2 + i) (by omega) (by omega) (by omega) (by omega) (by k_asm) (by k_asm) ?_; intro h8 t8 k8 F8 N8))
           k_with "subscriptTail Name Name str int" => refine k_letter (l := row) (1 + i) (by omega) (by omega) (by omega) (by omega) ?_
           k_with "subscriptTail Name BinOp str int" => refine k_letter (l := row) i (by omega) (by omega) (by omega) (by omega) ?_
           k_with "binaryOp Add str str" => (refine k_glue (by simp only [List.length_append, List.length_take, List.length_drop, List.length_singleton]; omega) (by simp only [List.length_append, List.length_take, List.length_drop, List.length_singleton]; omega) ?_; intro t8 k8)
           k_with "call ref cons nil" => (first
             | (refine' CtrR.use (strcoll w _ _ _ _) ?kl ?k1 ?k2 ?k3 ?k4 ?k5 ?kK ?kd ?ku ?_; ((case kl => (repeat' first | exact List.forall_mem_nil _ | refine mem_cons_all ?_ ?_ | exact sub_refl | refine sub_tail ?_ | k_mem)); (case k1 => k_asm); (case k2 => k_asm); (case k3 => k_asm); (case k4 => k_asm); (case k5 => k_asm); (case kK => first | exact rfl | assumption); (case kd => ktr_room); (case ku => ktr_units)); intro v9 tl9 h9 tk9 hp9 hlt9 F9 N9; obtain ⟨rfl, tk8, rfl⟩ := hp9; rw [hX, hcol0]; refine stop_in ?_)
             | (refine' Ctr.use (push_token w ⟨x, d, pb, fn, c, x1, d1, sg, ce, pb1, t1, t2, t3, t4, tw, u1, u2, u3, u4, u5, v1, vw, ct, pm, oc, oC, vs, tq⟩ ok' ln rem (.str (mkS _) _) qv qe6 _ ⟨tl6, sv6, se6, hs6, rfl⟩ hqvz) ?kC ?kP ?kO ?kB ?kF ?kX ?kN ?kT ?kK ?kd ?ku ?_; ((case kF => k_asm); (case kN => k_asm); (case kB => k_asm); (case kX => k_asm); (case kT => k_asm); (case kC => k_asm); (case kK => first | exact rfl | assumption); (case kd => ktr_room); (case ku => ktr_units); (case kP => dsimp only [lexLed]; (repeat' first | exact Pick.nil | apply Pick.cons | exact Take.head | apply Take.tail)); (case kO => refine LexP.Off.to ?_; (repeat' first | assumption | refine LexP.Off.cons ?_ (by assumption) (by (try dsimp only); (show @LT.lt Nat _ _ _); omega)))); intro v9 led9 tl9 h9 tk9 hp9 hlt9 F9 N9; obtain ⟨rfl, rfl, qe9, tl5, sv5, se5, hs5, rfl⟩ := hp9; dsimp only [lexLed] at N9; simp only [List.cons_append, List.nil_append] at N9))
           k_with "compareOp NotIn str ref" => refine dict_notin (by k_asm) (by k_mem) hdm hkm lo' ?_ ?_
           k_with "call builtin:len cons nil" => refine len_list (items := wr.toArray) (News.isList (n := kr) (by k_asm) (by k_mem)) (by rw [List.size_toArray]; omega) ?_
           k_with "setItem ref str" => (refine' kda_set (knd := PySem.strKind _ _) ?zF ?zN ?zU hdm (strKind_is _ _ _ _) ?zz ?_; (case zF => k_asm); (case zN => k_asm); (case zU => k_updF); (case zz => rw [sizeLine_eq]; have hkl := congrArg List.length hkm; simp only [List.length_map] at hkl; omega); intro h9 o9 F9 N9 hd9; (try dsimp only at N9))
           k_steps
           refine stop_out ?_
           by_cases c1 : row.getD (1 + i) 0 < row.getD i 0
           · rw [if_pos c1]
             dsimp only
             k_steps
             refine ListEnd.mkM (fun m => (⟨⟨met6, q6, rd, fl, ri⟩, om, kvs, wr, wf, wi, kr, kf, ki, tl6, sv6, qv, se6, qe6⟩, (fz + (1 + (i : Int)), tokI (m (Str.ofString "fall")), fall + (1 + i)), (rz, tokI (m (Str.ofString "rise")), rise))) (by k_asm) (by k_asm) (by (repeat' first | exact True.intro | refine ⟨?_, ?_⟩ | kernel_rfl | exact rfl)) (by dsimp only [rgLed, lexLed]; simp only [List.cons_append, List.nil_append, hr3]; (repeat' first | exact List.forall_mem_nil _ | refine mem_cons_all ?_ ?_ | exact sub_refl | refine sub_tail ?_ | k_mem)) ⟨⟨hdm, hkm, hwr, hwf, hwi, hqv, hs6⟩, ⟨by show met6.length ≤ 100 + (i + 1); omega, by show q6.length ≤ 100 + (i + 1); omega⟩, ⟨rfl, rfl, rfl⟩, ⟨by show fz + (1 + (i : Int)) = ((fall + (1 + i) : Nat) : Int); omega, by show rz = (rise : Int); omega⟩, by rw [hstep, if_pos c1] at hpl; exact hpl⟩
           · rw [if_neg c1]
             by_cases c2 : row.getD i 0 < row.getD (1 + i) 0
             · rw [if_pos c2]
               dsimp only
               k_steps
               · have hin : ((row.take i ++ [row.getD (1 + i) 0]) ++ [row.getD i 0]) ++ row.drop (2 + i) ∈ met6 := by assumption
                 rw [hX] at hin
                 refine ListEnd.mkM (fun m => (⟨⟨met6, q6, rd, fl, ri⟩, om, kvs, wr, wf, wi, kr, kf, ki, tl6, sv6, qv, se6, qe6⟩, (fz, tokI (m (Str.ofString "fall")), fall), (rz + (1 + (i : Int)), tokI (m (Str.ofString "rise")), rise + (1 + i)))) (by k_asm) (by k_asm) (by (repeat' first | exact True.intro | refine ⟨?_, ?_⟩ | kernel_rfl | exact rfl)) (by dsimp only [rgLed, lexLed]; simp only [List.cons_append, List.nil_append, hr3]; (repeat' first | exact List.forall_mem_nil _ | refine mem_cons_all ?_ ?_ | exact sub_refl | refine sub_tail ?_ | k_mem)) ⟨⟨hdm, hkm, hwr, hwf, hwi, hqv, hs6⟩, ⟨by show met6.length ≤ 100 + (i + 1); omega, by show q6.length ≤ 100 + (i + 1); omega⟩, ⟨rfl, rfl, rfl⟩, ⟨by show fz = (fall : Int); omega, by show rz + (1 + (i : Int)) = ((rise + (1 + i) : Nat) : Int); omega⟩, by rw [hstep, if_neg c1, if_pos c2, if_pos hin] at hpl; exact hpl⟩
               · have hin : ((row.take i ++ [row.getD (1 + i) 0]) ++ [row.getD i 0]) ++ row.drop (2 + i) ∉ met6 := by assumption
                 have hkn : mkS (((row.take i ++ [row.getD (1 + i) 0]) ++ [row.getD i 0]) ++ row.drop (2 + i)) ∉ kvs.map (·.1) := by rw [hkm]; exact fun q => hin (mkS_mem.mp q)
                 have hks := (stored_new (v := Value.int ((List.toArray wr).size : Int) 0) hkn)
                 rw [hX] at hin
                 refine ListEnd.mkM (σ := RG × (Int × Tok × Nat) × (Int × Tok × Nat)) (fun m => (⟨⟨met6 ++ [swapAt row (1 + i)], q6 ++ [swapAt row (1 + i)], rd, fl, ri⟩, o9, _, wr, wf, wi, kr, kf, ki, tl5, sv5, qv ++ [_], se5, qe9⟩, (fz, tokI (m (Str.ofString "fall")), fall), (rz + (1 + (i : Int)), tokI (m (Str.ofString "rise")), rise + (1 + i)))) (by k_asm) (by k_asm) (by (repeat' first | exact True.intro | refine ⟨?_, ?_⟩ | kernel_rfl | exact rfl)) (by dsimp only [rgLed, lexLed]; simp only [List.cons_append, List.nil_append, hr3]; (repeat' first | exact List.forall_mem_nil _ | refine mem_cons_all ?_ ?_ | exact sub_refl | refine sub_tail ?_ | k_mem)) ⟨⟨hd9, by show List.map _ (stored _ _ _) = _; rw [stored_new hkn, hkm, hX, List.map_append]; rfl, hwr, hwf, hwi, by rw [List.map_append]; exact hqv.append' (by rw [hX]; exact .cons _ _ .nil), hs5⟩, ⟨by simp only [List.length_append, List.length_singleton]; omega, by simp only [List.length_append, List.length_singleton]; omega⟩, ⟨rfl, rfl, rfl⟩, ⟨by show fz = (fall : Int); omega, by show rz + (1 + (i : Int)) = ((rise + (1 + i) : Nat) : Int); omega⟩, by rw [hstep, if_neg c1, if_pos c2, if_neg hin] at hpl; exact hpl⟩
             · rw [if_neg c2]
               dsimp only
               k_steps
               refine ListEnd.mkM (fun m => (⟨⟨met6, q6, rd, fl, ri⟩, om, kvs, wr, wf, wi, kr, kf, ki, tl6, sv6, qv, se6, qe6⟩, (fz, tokI (m (Str.ofString "fall")), fall), (rz, tokI (m (Str.ofString "rise")), rise))) (by k_asm) (by k_asm) (by (repeat' first | exact True.intro | refine ⟨?_, ?_⟩ | kernel_rfl | exact rfl)) (by dsimp only [rgLed, lexLed]; simp only [List.cons_append, List.nil_append, hr3]; (repeat' first | exact List.forall_mem_nil _ | refine mem_cons_all ?_ ?_ | exact sub_refl | refine sub_tail ?_ | k_mem)) ⟨⟨hdm, hkm, hwr, hwf, hwi, hqv, hs6⟩, ⟨by show met6.length ≤ 100 + (i + 1); omega, by show q6.length ≤ 100 + (i + 1); omega⟩, ⟨rfl, rfl, rfl⟩, ⟨by show fz = (fall : Int); omega, by show rz = (rise : Int); omega⟩, by rw [hstep, if_neg c1, if_neg c2] at hpl; exact hpl⟩
         · clear hwr hwf hwi hqv hqv3 hq3 hs4 hdm hkm hst hft
           intro h8 tk8 m8 y hok F N
           obtain ⟨⟨⟨met6, q6, rd6, fl6, ri6⟩, om, kvs, wr, wf, wi, kr, kf, ki, tl6, sv6, qv, se6, qe6⟩, ⟨fz, tf, fall⟩, ⟨rz, tr, rise⟩⟩ := y
           obtain ⟨⟨hdm, hkm, hwr, hwf, hwi, hqv, hs6⟩, ⟨hm6, hq6⟩, ⟨e1, e2, e3⟩, ⟨hfz7, hrz7⟩, hpl⟩ := hok
           dsimp only [rgLed, lexLed, mB] at *
           subst e1 e2 e3
           simp only [List.cons_append, List.nil_append] at N
           rw [Nat.sub_self, placeGo] at hpl
           subst hpl
           have hwfz : wf.length ≤ 1000 := by rw [hwf.length, List.length_map]; omega
           have hwiz : wi.length ≤ 1000 := by rw [hwi.length, List.length_map]; omega
           k_with_none
           k_steps
           (with_reducible rename News _ _ _ ((pb, _) :: _) => N99)
           simp only [List.push_toArray] at N99
           refine ListEnd.mk ⟨⟨met6, q6, rd, fl ++ [fall], ri ++ [rise]⟩, om, kvs, wr, wf ++ [.int fz tf], wi ++ [.int rz tr], kr, kf + 1, ki + 1, tl6, sv6, qv, se6, qe6⟩ (by k_asm) N99 (by (repeat' first | exact True.intro | refine ⟨?_, ?_⟩ | kernel_rfl | exact rfl)) (by dsimp only [rgLed, lexLed]; simp only [List.cons_append, List.nil_append, hr2]; (repeat' first | exact List.forall_mem_nil _ | refine mem_cons_all ?_ ?_ | exact sub_refl | refine sub_tail ?_ | k_mem)) ⟨⟨hdm, hkm, hwr, by rw [List.map_append]; exact IntsAre.append hwf (by rw [hfz7]; exact .cons _ _ .nil), by rw [List.map_append]; exact IntsAre.append hwi (by rw [hrz7]; exact .cons _ _ .nil), hqv, hs6⟩, hsm2, hro'⟩
set_option maxRecDepth 100000 in
set_option maxHeartbeats 8000000 in
theorem all9 : ∀ a0 a1 a2 a3 a4 a5 a6 a7 a8 a9 a10 a11 a12 a13 a14 a15 a16 a17 a18 a19 a20 a21 a22 a23 a24 a25 a26 a27 a28 a29 a30, seg9.1 a0 a1 a2 a3 a4 a5 a6 a7 a8 a9 a10 a11 a12 a13 a14 a15 a16 a17 a18 a19 a20 a21 a22 a23 a24 a25 a26 a27 a28 a29 a30 := fun a0 a1 a2 a3 a4 a5 a6 a7 a8 a9 a10 a11 a12 a13 a14 a15 a16 a17 a18 a19 a20 a21 a22 a23 a24 a25 a26 a27 a28 a29 a30 => hen_all (G := G9) main9 (a0, a1, a2, a3, a4, a5, a6, a7, a8, a9, a10, a11, a12, a13, a14, a15, a16, a17, a18, a19, a20, a21, a22, a23, a24, a25, a26, a27, a28, a29, a30)
end rounds
theorem main9 : seg9.1 w ln rem l t qe f tl sv se loose mean mg mb rest dp un gd cn cs a ccd cl outer A₀ base h₀ L m s R x d pb fn c x1 d1 sg ce pb1 t1 t2 t3 t4 tw u1 u2 u3 u4 u5 v1 vw ct pm oc oC vs tq z1 z2 z3 d' h' o' z8 om z9 Rd z10 z11 z12 Fl z13 z14 z15 Ri z16 z17 tk h9 tk9 qe9 tl2 sv2 se2 := rounds.seg9.2 ⟨rounds.all9⟩ 
set_option maxRecDepth 100000 in
set_option maxHeartbeats 8000000 in
theorem all9 : ∀ a0 a1 a2 a3 a4 a5 a6 a7 a8 a9 a10 a11 a12 a13 a14 a15 a16 a17 a18 a19 a20 a21 a22 a23 a24 a25 a26 a27 a28 a29 a30 a31 a32 a33 a34 a35 a36 a37 a38 a39 a40 a41 a42 a43 a44 a45 a46 a47 a48 a49 a50 a51 a52 a53 a54 a55 a56 a57 a58 a59 a60 a61 a62 a63 a64 a65 a66 a67 a68 a69 a70 a71 a72 a73 a74 a75 a76 a77 a78 a79 a80 a81 a82 a83 a84 a85, seg9.1 a0 a1 a2 a3 a4 a5 a6 a7 a8 a9 a10 a11 a12 a13 a14 a15 a16 a17 a18 a19 a20 a21 a22 a23 a24 a25 a26 a27 a28 a29 a30 a31 a32 a33 a34 a35 a36 a37 a38 a39 a40 a41 a42 a43 a44 a45 a46 a47 a48 a49 a50 a51 a52 a53 a54 a55 a56 a57 a58 a59 a60 a61 a62 a63 a64 a65 a66 a67 a68 a69 a70 a71 a72 a73 a74 a75 a76 a77 a78 a79 a80 a81 a82 a83 a84 a85 := fun a0 a1 a2 a3 a4 a5 a6 a7 a8 a9 a10 a11 a12 a13 a14 a15 a16 a17 a18 a19 a20 a21 a22 a23 a24 a25 a26 a27 a28 a29 a30 a31 a32 a33 a34 a35 a36 a37 a38 a39 a40 a41 a42 a43 a44 a45 a46 a47 a48 a49 a50 a51 a52 a53 a54 a55 a56 a57 a58 a59 a60 a61 a62 a63 a64 a65 a66 a67 a68 a69 a70 a71 a72 a73 a74 a75 a76 a77 a78 a79 a80 a81 a82 a83 a84 a85 => hen_all (G := G9) main9 (a0, a1, a2, a3, a4, a5, a6, a7, a8, a9, a10, a11, a12, a13, a14, a15, a16, a17, a18, a19, a20, a21, a22, a23, a24, a25, a26, a27, a28, a29, a30, a31, a32, a33, a34, a35, a36, a37, a38, a39, a40, a41, a42, a43, a44, a45, a46, a47, a48, a49, a50, a51, a52, a53, a54, a55, a56, a57, a58, a59, a60, a61, a62, a63, a64, a65, a66, a67, a68, a69, a70, a71, a72, a73, a74, a75, a76, a77, a78, a79, a80, a81, a82, a83, a84, a85)
end roundsA
theorem rounds (w : World) (P : LexP) (ok : P.Ok) (ln : Int) (rem l : List Nat) (t : Tok) (qe : Nat) (led : List (Addr × Obj)) (st : LexSt w P ln rem [] qe led) (f : Nat) (S : RS) (hS : roundsGo f ⟨[l], [l], [], [], []⟩ = some S) : Ctr (fun h => CodeHd h 137 133) PySem.Challenge.rw_wn0028_01.prog w (Mine.hd.heap_1 w.params) PySem.W.topProg 8 100 145 [.ref P.x, .str (mkS l) t] led (fun v led tl => ∃ (D B Rd Fl Ri : Addr) (cB kR kF kI : Nat) (wB wR wF wI : List Value), v = .ref D ∧ tl = [(D, { cls := .type "tuple", data := .seq #[.ref B, .ref Rd, .ref Fl, .ref Ri] }), (B, listOf wB.toArray cB), (Rd, listOf wR.toArray kR), (Fl, listOf wF.toArray kF), (Ri, listOf wI.toArray kI)] ∧ StrsAre wB (S.met.map mkS) ∧ IntsAre wR (S.rd.map fun (n : Nat) => (n : Int)) ∧ IntsAre wF (S.fl.map fun (n : Nat) => (n : Int)) ∧ IntsAre wI (S.ri.map fun (n : Nat) => (n : Int)) ∧ ∃ qe, LexSt w P ln rem [] qe led) := roundsA.seg9.2 ⟨roundsA.all9⟩ w P ok ln rem l t qe led st f S hS

end Mine
namespace Mine
theorem reset_rings : True := by
  w_top off
  trivial
structure GS where
  (os : Obj) (kvs : List (Str × Value)) (wr : List Value) (kr : Nat) (tl : Tok) (sv qv : List Value) (se qe : Nat) (seen : List (List Nat)) (rg : List Nat)
noncomputable def GS.Ok (w : World) (rem : List Nat) (y : GS) : Prop :=
  Obj.IsDictOf (PySem.strKind PySem.Challenge.rw_wn0028_01.prog w) y.os y.kvs ∧ y.kvs.map (·.1) = y.seen.map mkS ∧ IntsAre y.wr (y.rg.map fun (n : Nat) => (n : Int)) ∧ StrsAre y.sv (rem.map one).reverse
noncomputable def gsLed (w : World) (P : LexP) (ln : Int) (Sn Rg l : Nat) (its : List Value) (c : Nat) (rest : List (Addr × Obj)) (y : GS) : List (Addr × Obj) :=
  lexLed w P ln y.tl y.sv y.se y.qv y.qe ++ ([(Sn, y.os), (Rg, listOf y.wr.toArray y.kr), (l, listOf its.toArray c)] ++ rest)
namespace ringsA
set_option maxRecDepth 100000 in
set_option maxHeartbeats 8000000 in
noncomputable def seg9 : {p : PySem.World → Int → (List Nat) → Nat → (List (List Nat)) → Nat → (List PySem.Value) → Nat → (List Nat) → PySem.Tok → (List PySem.Value) → Nat → (List PySem.Str) → (PySem.ExcName → Option PySem.Value) → (PySem.Str → Option PySem.Value) → (PySem.Str → Option PySem.Value) → (List (PySem.Addr × PySem.Obj)) → Nat → Nat → (Option (List PySem.Code)) → PySem.Str → PySem.Scope → PySem.Addr → PySem.Value → (List (PySem.Str × PySem.Addr)) → (List PySem.Env) → PySem.Around → PySem.Heap → PySem.Heap → PySem.Addr → (PySem.Str → Option PySem.Value) → PySem.Shared → (PySem.Result → PySem.Shared → Prop) → Nat → Nat → Nat → Nat → Nat → Nat → Nat → Nat → Nat → Nat → PySem.Tok → PySem.Tok → PySem.Tok → PySem.Tok → PySem.Tok → PySem.Tok → PySem.Tok → PySem.Tok → PySem.Tok → PySem.Tok → PySem.Tok → PySem.Tok → PySem.Value → PySem.Value → PySem.Obj → PySem.Obj → (Array PySem.Value) → PySem.Tok → PySem.Heap → PySem.Addr → PySem.Heap → PySem.Addr → PySem.Heap → PySem.Heap → Nat → PySem.Addr → PySem.Heap → PySem.Obj → PySem.Heap → Prop // Hid (∀ a0 a1 a2 a3 a4 a5 a6 a7 a8 a9 a10 a11 a12 a13 a14 a15 a16 a17 a18 a19 a20 a21 a22 a23 a24 a25 a26 a27 a28 a29 a30 a31 a32 a33 a34 a35 a36 a37 a38 a39 a40 a41 a42 a43 a44 a45 a46 a47 a48 a49 a50 a51 a52 a53 a54 a55 a56 a57 a58 a59 a60 a61 a62 a63 a64 a65 a66 a67 a68 a69 a70 a71, p a0 a1 a2 a3 a4 a5 a6 a7 a8 a9 a10 a11 a12 a13 a14 a15 a16 a17 a18 a19 a20 a21 a22 a23 a24 a25 a26 a27 a28 a29 a30 a31 a32 a33 a34 a35 a36 a37 a38 a39 a40 a41 a42 a43 a44 a45 a46 a47 a48 a49 a50 a51 a52 a53 a54 a55 a56 a57 a58 a59 a60 a61 a62 a63 a64 a65 a66 a67 a68 a69 a70 a71) → ∀ (w : World) (P : LexP) (ok : P.Ok) (ln : Int) (rem : List Nat) (qe : Nat) (led : List (Addr × Obj)) (st : LexSt w P ln rem [] qe led) (rows : List (List Nat)) (l : Nat) (its : List Value) (c0 : Nat) (hi : StrsAre its (rows.map mkS)) (hz : rows.length ≤ 500) (hpl : P.pb < l) (RGS : List Nat) (hG : ringsGo 9 rows [] [] = some RGS), Ctr (fun h => CodeHd h 137 133) PySem.Challenge.rw_wn0028_01.prog w (Mine.hd.heap_1 w.params) PySem.W.topProg 8 100 152 [.ref P.x, .ref l] (led ++ [(l, listOf its.toArray c0)]) (fun v led tl => ∃ (Rg : Addr) (kr : Nat) (wr : List Value), v = .ref Rg ∧ tl = [(Rg, listOf wr.toArray kr)] ∧ IntsAre wr (RGS.map fun (n : Nat) => (n : Int)) ∧ ∃ lx qe, led = lx ++ [(l, listOf its.toArray c0)] ∧ LexSt w P ln rem [] qe lx)} := segOf (by
   intro ht9
   intro w P ok ln rem qe led st rows l its c0 hi hz hpl RGS hG
   obtain ⟨tl, sv, se, hs, rfl⟩ := st
   intro loose mean mg mb rest dp un gd cn cs a ccd cl outer A₀ base h₀ L m s R hC hoff B F₀ X N₀ T hk hd hu hret
   k_with_none
   have ok' := ok
   obtain ⟨x, d, pb, fn, c, x1, d1, sg, ce, pb1, t1, t2, t3, t4, tw, u1, u2, u3, u4, u5, v1, vw, ct, pm, oc, oC, vs, tq⟩ := P
   obtain ⟨⟨o1, o2, o3, o4, o5, o6, o7, o8⟩, hcode, hname, hcell⟩ := ok
   have off0 := LexP.Off.of (fun p hp => hoff p (List.mem_append_left _ hp))
   have hfl : ∀ q ∈ rest, q.1 ≠ l := hoff _ (List.mem_append_right _ (.head _))
   have off0l : LexP.Off ⟨x, d, pb, fn, c, x1, d1, sg, ce, pb1, t1, t2, t3, t4, tw, u1, u2, u3, u4, u5, v1, vw, ct, pm, oc, oC, vs, tq⟩ ((l, listOf its.toArray c0) :: rest) := off0.cons ok' hpl
   replace hpl : @LT.lt Nat _ pb l := hpl
   dsimp only [lexLed] at *
   simp only [List.cons_append, List.nil_append, List.forall_mem_cons] at N₀ hoff
   obtain ⟨hf1, hf2, hf3, hf4, hf5, hf6, hf7, hf8, hf9, -⟩ := hoff
   k_with "pyIter ref" => refine stop_in ?_
   k_with "exec For Name Name cons nil" => refine stop_in ?_
   k_dflt cell_enter
   have hC' : CodeHd _ 137 133 := CodeHd.keeps hC (Fr.keep ‹Fr h₀ _ _ _›)
   k_steps
   refine stop_out ?_
   refine wpAny_For ?_
   k_steps
   refine stop_out ?_
   rename_i Rg _ lR _ Sn _ os0 lo0 hs0 _ _ _ lS _ F9 N9
   have hrl := lR.2.2.2.2.2.2.2.2.2.2
   have hlR := lR.2.2.2.2.2.2.2.2.2.1
   have hRS := lS.1
   have hord : @LT.lt Nat _ pb l ∧ @LT.lt Nat _ l Rg ∧ @LT.lt Nat _ Rg Sn := ⟨hpl, hlR, hRS⟩
   rename_i z1 z2 z3 y4 y5 y6 y7 z8 z9 z10 y11 y12 y13 z14
   revert hi hz hG hs hC B F₀ X T hk hd hu N₀ hret ok' hcode hname hcell o1 o2 o3 o4 o5 o6 o7 o8 off0 hfl off0l hpl hf1 hf2 hf3 hf4 hf5 hf6 hf7 hf8 hf9 y4 y5 y6 y7 qk ek hC' lR lo0 hs0 y11 y12 y13 lS F9 N9 hrl hlR hRS hord
   exact ht9.out w ln rem qe rows l its c0 RGS tl sv se loose mean mg mb rest dp un gd cn cs a ccd cl outer A₀ base h₀ L m s R x d pb fn c x1 d1 sg ce pb1 t1 t2 t3 t4 tw u1 u2 u3 u4 u5 v1 vw ct pm oc oC vs tq z1 z2 z3 Rg z8 z9 tk Sn z10 os0 z14
)
noncomputable def G9 (d : PySem.World × Int × (List Nat) × Nat × (List (List Nat)) × Nat × (List PySem.Value) × Nat × (List Nat) × PySem.Tok × (List PySem.Value) × Nat × (List PySem.Str) × (PySem.ExcName → Option PySem.Value) × (PySem.Str → Option PySem.Value) × (PySem.Str → Option PySem.Value) × (List (PySem.Addr × PySem.Obj)) × Nat × Nat × (Option (List PySem.Code)) × PySem.Str × PySem.Scope × PySem.Addr × PySem.Value × (List (PySem.Str × PySem.Addr)) × (List PySem.Env) × PySem.Around × PySem.Heap × PySem.Heap × PySem.Addr × (PySem.Str → Option PySem.Value) × PySem.Shared × (PySem.Result → PySem.Shared → Prop) × Nat × Nat × Nat × Nat × Nat × Nat × Nat × Nat × Nat × Nat × PySem.Tok × PySem.Tok × PySem.Tok × PySem.Tok × PySem.Tok × PySem.Tok × PySem.Tok × PySem.Tok × PySem.Tok × PySem.Tok × PySem.Tok × PySem.Tok × PySem.Value × PySem.Value × PySem.Obj × PySem.Obj × (Array PySem.Value) × PySem.Tok × PySem.Heap × PySem.Addr × PySem.Heap × PySem.Addr × PySem.Heap × PySem.Heap × Nat × PySem.Addr × PySem.Heap × PySem.Obj × PySem.Heap) : Prop := seg9.1 d.1 d.2.1 d.2.2.1 d.2.2.2.1 d.2.2.2.2.1 d.2.2.2.2.2.1 d.2.2.2.2.2.2.1 d.2.2.2.2.2.2.2.1 d.2.2.2.2.2.2.2.2.1 d.2.2.2.2.2.2.2.2.2.1 d.2.2.2.2.2.2.2.2.2.2.1 d.2.2.2.2.2.2.2.2.2.2.2.1 d.2.2.2.2.2.2.2.2.2.2.2.2.1 d.2.2.2.2.2.2.2.2.2.2.2.2.2.1 d.2.2.2.2.2.2.2.2.2.2.2.2.2.2.1 d.2.2.2.2.2.2.2.2.2.2.2.2.2.2.2.1 d.2.2.2.2.2.2.2.2.2.2.2.2.2.2.2.2.1 d.2.2.2.2.2.2.2.2.2.2.2.2.2.2.2.2.2.1 d.2.2.2.2.2.2.2.2.2.2.2.2.2.2.2.2.2.2.1 d.2.2.2.2.2.2.2.2.2.2.2.2.2.2.2.2.2.2.2.1 d.2.2.2.2.2.2.2.2.2.2.2.2.2.2.2.2.2.2.2.2.1 d.2.2.2.2.2.2.2.2.2.2.2.2.2.2.2.2.2.2.2.2.2.1 d.2.2.2.2.2.2.2.2.2.2.2.2.2.2.2.2.2.2.2.2.2.2.1 d.2.2.2.2.2.2.2.2.2.2.2.2.2.2.2.2.2.2.2.2.2.2.2.1 d.2.2.2.2.2.2.2.2.2.2.2.2.2.2.2.2.2.2.2.2.2.2.2.2.1 d.2.2.2.2.2.2.2.2.2.2.2.2.2.2.2.2.2.2.2.2.2.2.2.2.2.1 d.2.2.2.2.2.2.2.2.2.2.2.2.2.2.2.2.2.2.2.2.2.2.2.2.2.2.1 d.2.2.2.2.2.2.2.2.2.2.2.2.2.2.2.2.2.2.2.2.2.2.2.2.2.2.2.1 d.2.2.2.2.2.2.2.2.2.2.2.2.2.2.2.2.2.2.2.2.2.2.2.2.2.2.2.2.1 d.2.2.2.2.2.2.2.2.2.2.2.2.2.2.2.2.2.2.2.2.2.2.2.2.2.2.2.2.2.1 d.2.2.2.2.2.2.2.2.2.2.2.2.2.2.2.2.2.2.2.2.2.2.2.2.2.2.2.2.2.2.1 d.2.2.2.2.2.2.2.2.2.2.2.2.2.2.2.2.2.2.2.2.2.2.2.2.2.2.2.2.2.2.2.1 d.2.2.2.2.2.2.2.2.2.2.2.2.2.2.2.2.2.2.2.2.2.2.2.2.2.2.2.2.2.2.2.2.1 d.2.2.2.2.2.2.2.2.2.2.2.2.2.2.2.2.2.2.2.2.2.2.2.2.2.2.2.2.2.2.2.2.2.1 d.2.2.2.2.2.2.2.2.2.2.2.2.2.2.2.2.2.2.2.2.2.2.2.2.2.2.2.2.2.2.2.2.2.2.1 d.2.2.2.2.2.2.2.2.2.2.2.2.2.2.2.2.2.2.2.2.2.2.2.2.2.2.2.2.2.2.2.2.2.2.2.1 d.2.2.2.2.2.2.2.2.2.2.2.2.2.2.2.2.2.2.2.2.2.2.2.2.2.2.2.2.2.2.2.2.2.2.2.2.1 d.2.2.2.2.2.2.2.2.2.2.2.2.2.2.2.2.2.2.2.2.2.2.2.2.2.2.2.2.2.2.2.2.2.2.2.2.2.1 d.2.2.2.2.2.2.2.2.2.2.2.2.2.2.2.2.2.2.2.2.2.2.2.2.2.2.2.2.2.2.2.2.2.2.2.2.2.2.1 d.2.2.2.2.2.2.2.2.2.2.2.2.2.2.2.2.2.2.2.2.2.2.2.2.2.2.2.2.2.2.2.2.2.2.2.2.2.2.2.1 d.2.2.2.2.2.2.2.2.2.2.2.2.2.2.2.2.2.2.2.2.2.2.2.2.2.2.2.2.2.2.2.2.2.2.2.2.2.2.2.2.1 d.2.2.2.2.2.2.2.2.2.2.2.2.2.2.2.2.2.2.2.2.2.2.2.2.2.2.2.2.2.2.2.2.2.2.2.2.2.2.2.2.2.1 d.2.2.2.2.2.2.2.2.2.2.2.2.2.2.2.2.2.2.2.2.2.2.2.2.2.2.2.2.2.2.2.2.2.2.2.2.2.2.2.2.2.2.1 d.2.2.2.2.2.2.2.2.2.2.2.2.2.2.2.2.2.2.2.2.2.2.2.2.2.2.2.2.2.2.2.2.2.2.2.2.2.2.2.2.2.2.2.1 d.2.2.2.2.2.2.2.2.2.2.2.2.2.2.2.2.2.2.2.2.2.2.2.2.2.2.2.2.2.2.2.2.2.2.2.2.2.2.2.2.2.2.2.2.1 d.2.2.2.2.2.2.2.2.2.2.2.2.2.2.2.2.2.2.2.2.2.2.2.2.2.2.2.2.2.2.2.2.2.2.2.2.2.2.2.2.2.2.2.2.2.1 d.2.2.2.2.2.2.2.2.2.2.2.2.2.2.2.2.2.2.2.2.2.2.2.2.2.2.2.2.2.2.2.2.2.2.2.2.2.2.2.2.2.2.2.2.2.2.1 d.2.2.2.2.2.2.2.2.2.2.2.2.2.2.2.2.2.2.2.2.2.2.2.2.2.2.2.2.2.2.2.2.2.2.2.2.2.2.2.2.2.2.2.2.2.2.2.1 d.2.2.2.2.2.2.2.2.2.2.2.2.2.2.2.2.2.2.2.2.2.2.2.2.2.2.2.2.2.2.2.2.2.2.2.2.2.2.2.2.2.2.2.2.2.2.2.2.1 d.2.2.2.2.2.2.2.2.2.2.2.2.2.2.2.2.2.2.2.2.2.2.2.2.2.2.2.2.2.2.2.2.2.2.2.2.2.2.2.2.2.2.2.2.2.2.2.2.2.1 d.2.2.2.2.2.2.2.2.2.2.2.2.2.2.2.2.2.2.2.2.2.2.2.2.2.2.2.2.2.2.2.2.2.2.2.2.2.2.2.2.2.2.2.2.2.2.2.2.2.2.1 d.2.2.2.2.2.2.2.2.2.2.2.2.2.2.2.2.2.2.2.2.2.2.2.2.2.2.2.2.2.2.2.2.2.2.2.2.2.2.2.2.2.2.2.2.2.2.2.2.2.2.2.1 d.2.2.2.2.2.2.2.2.2.2.2.2.2.2.2.2.2.2.2.2.2.2.2.2.2.2.2.2.2.2.2.2.2.2.2.2.2.2.2.2.2.2.2.2.2.2.2.2.2.2.2.2.1 d.2.2.2.2.2.2.2.2.2.2.2.2.2.2.2.2.2.2.2.2.2.2.2.2.2.2.2.2.2.2.2.2.2.2.2.2.2.2.2.2.2.2.2.2.2.2.2.2.2.2.2.2.2.1 d.2.2.2.2.2.2.2.2.2.2.2.2.2.2.2.2.2.2.2.2.2.2.2.2.2.2.2.2.2.2.2.2.2.2.2.2.2.2.2.2.2.2.2.2.2.2.2.2.2.2.2.2.2.2.1 d.2.2.2.2.2.2.2.2.2.2.2.2.2.2.2.2.2.2.2.2.2.2.2.2.2.2.2.2.2.2.2.2.2.2.2.2.2.2.2.2.2.2.2.2.2.2.2.2.2.2.2.2.2.2.2.1 d.2.2.2.2.2.2.2.2.2.2.2.2.2.2.2.2.2.2.2.2.2.2.2.2.2.2.2.2.2.2.2.2.2.2.2.2.2.2.2.2.2.2.2.2.2.2.2.2.2.2.2.2.2.2.2.2.1 d.2.2.2.2.2.2.2.2.2.2.2.2.2.2.2.2.2.2.2.2.2.2.2.2.2.2.2.2.2.2.2.2.2.2.2.2.2.2.2.2.2.2.2.2.2.2.2.2.2.2.2.2.2.2.2.2.2.1 d.2.2.2.2.2.2.2.2.2.2.2.2.2.2.2.2.2.2.2.2.2.2.2.2.2.2.2.2.2.2.2.2.2.2.2.2.2.2.2.2.2.2.2.2.2.2.2.2.2.2.2.2.2.2.2.2.2.2.1 d.2.2.2.2.2.2.2.2.2.2.2.2.2.2.2.2.2.2.2.2.2.2.2.2.2.2.2.2.2.2.2.2.2.2.2.2.2.2.2.2.2.2.2.2.2.2.2.2.2.2.2.2.2.2.2.2.2.2.2.1 d.2.2.2.2.2.2.2.2.2.2.2.2.2.2.2.2.2.2.2.2.2.2.2.2.2.2.2.2.2.2.2.2.2.2.2.2.2.2.2.2.2.2.2.2.2.2.2.2.2.2.2.2.2.2.2.2.2.2.2.2.1 d.2.2.2.2.2.2.2.2.2.2.2.2.2.2.2.2.2.2.2.2.2.2.2.2.2.2.2.2.2.2.2.2.2.2.2.2.2.2.2.2.2.2.2.2.2.2.2.2.2.2.2.2.2.2.2.2.2.2.2.2.2.1 d.2.2.2.2.2.2.2.2.2.2.2.2.2.2.2.2.2.2.2.2.2.2.2.2.2.2.2.2.2.2.2.2.2.2.2.2.2.2.2.2.2.2.2.2.2.2.2.2.2.2.2.2.2.2.2.2.2.2.2.2.2.2.1 d.2.2.2.2.2.2.2.2.2.2.2.2.2.2.2.2.2.2.2.2.2.2.2.2.2.2.2.2.2.2.2.2.2.2.2.2.2.2.2.2.2.2.2.2.2.2.2.2.2.2.2.2.2.2.2.2.2.2.2.2.2.2.2.1 d.2.2.2.2.2.2.2.2.2.2.2.2.2.2.2.2.2.2.2.2.2.2.2.2.2.2.2.2.2.2.2.2.2.2.2.2.2.2.2.2.2.2.2.2.2.2.2.2.2.2.2.2.2.2.2.2.2.2.2.2.2.2.2.2.1 d.2.2.2.2.2.2.2.2.2.2.2.2.2.2.2.2.2.2.2.2.2.2.2.2.2.2.2.2.2.2.2.2.2.2.2.2.2.2.2.2.2.2.2.2.2.2.2.2.2.2.2.2.2.2.2.2.2.2.2.2.2.2.2.2.2.1 d.2.2.2.2.2.2.2.2.2.2.2.2.2.2.2.2.2.2.2.2.2.2.2.2.2.2.2.2.2.2.2.2.2.2.2.2.2.2.2.2.2.2.2.2.2.2.2.2.2.2.2.2.2.2.2.2.2.2.2.2.2.2.2.2.2.2.1 d.2.2.2.2.2.2.2.2.2.2.2.2.2.2.2.2.2.2.2.2.2.2.2.2.2.2.2.2.2.2.2.2.2.2.2.2.2.2.2.2.2.2.2.2.2.2.2.2.2.2.2.2.2.2.2.2.2.2.2.2.2.2.2.2.2.2.2.1 d.2.2.2.2.2.2.2.2.2.2.2.2.2.2.2.2.2.2.2.2.2.2.2.2.2.2.2.2.2.2.2.2.2.2.2.2.2.2.2.2.2.2.2.2.2.2.2.2.2.2.2.2.2.2.2.2.2.2.2.2.2.2.2.2.2.2.2.2.1 d.2.2.2.2.2.2.2.2.2.2.2.2.2.2.2.2.2.2.2.2.2.2.2.2.2.2.2.2.2.2.2.2.2.2.2.2.2.2.2.2.2.2.2.2.2.2.2.2.2.2.2.2.2.2.2.2.2.2.2.2.2.2.2.2.2.2.2.2.2.1 d.2.2.2.2.2.2.2.2.2.2.2.2.2.2.2.2.2.2.2.2.2.2.2.2.2.2.2.2.2.2.2.2.2.2.2.2.2.2.2.2.2.2.2.2.2.2.2.2.2.2.2.2.2.2.2.2.2.2.2.2.2.2.2.2.2.2.2.2.2.2.1 d.2.2.2.2.2.2.2.2.2.2.2.2.2.2.2.2.2.2.2.2.2.2.2.2.2.2.2.2.2.2.2.2.2.2.2.2.2.2.2.2.2.2.2.2.2.2.2.2.2.2.2.2.2.2.2.2.2.2.2.2.2.2.2.2.2.2.2.2.2.2.2
noncomputable def tup9z : PySem.World × Int × (List Nat) × Nat × (List (List Nat)) × Nat × (List PySem.Value) × Nat × (List Nat) × PySem.Tok × (List PySem.Value) × Nat × (List PySem.Str) × (PySem.ExcName → Option PySem.Value) × (PySem.Str → Option PySem.Value) × (PySem.Str → Option PySem.Value) × (List (PySem.Addr × PySem.Obj)) × Nat × Nat × (Option (List PySem.Code)) × PySem.Str × PySem.Scope × PySem.Addr × PySem.Value × (List (PySem.Str × PySem.Addr)) × (List PySem.Env) × PySem.Around × PySem.Heap × PySem.Heap × PySem.Addr × (PySem.Str → Option PySem.Value) × PySem.Shared × (PySem.Result → PySem.Shared → Prop) × Nat × Nat × Nat × Nat × Nat × Nat × Nat × Nat × Nat × Nat × PySem.Tok × PySem.Tok × PySem.Tok × PySem.Tok × PySem.Tok × PySem.Tok × PySem.Tok × PySem.Tok × PySem.Tok × PySem.Tok × PySem.Tok × PySem.Tok × PySem.Value × PySem.Value × PySem.Obj × PySem.Obj × (Array PySem.Value) × PySem.Tok × PySem.Heap × PySem.Addr × PySem.Heap × PySem.Addr × PySem.Heap × PySem.Heap × Nat × PySem.Addr × PySem.Heap × PySem.Obj × PySem.Heap := hen (World9, (0 : Int), [], (0 : Nat), [], (0 : Nat), [], (0 : Nat), [], (0 : Nat), [], (0 : Nat), [], (fun _ => none), (fun _ => none), (fun _ => none), [], (0 : Nat), (0 : Nat), none, (default : Str), (default : Scope), (0 : Nat), (default : Value), [], [], ({} : Around), (default : Heap), (default : Heap), (0 : Nat), (fun _ => none), ({} : Shared), (fun _ => (fun _ => True)), (0 : Nat), (0 : Nat), (0 : Nat), (0 : Nat), (0 : Nat), (0 : Nat), (0 : Nat), (0 : Nat), (0 : Nat), (0 : Nat), (0 : Nat), (0 : Nat), (0 : Nat), (0 : Nat), (0 : Nat), (0 : Nat), (0 : Nat), (0 : Nat), (0 : Nat), (0 : Nat), (0 : Nat), (0 : Nat), (default : Value), (default : Value), (default : Obj), (default : Obj), #[], (0 : Nat), (default : Heap), (0 : Nat), (default : Heap), (0 : Nat), (default : Heap), (default : Heap), (0 : Nat), (0 : Nat), (default : Heap), (default : Obj), (default : Heap)) G9
noncomputable def w : PySem.World := tup9z.1
noncomputable def ln : Int := tup9z.2.1
noncomputable def rem : List Nat := tup9z.2.2.1
noncomputable def qe : Nat := tup9z.2.2.2.1
noncomputable def rows : List (List Nat) := tup9z.2.2.2.2.1
noncomputable def l : Nat := tup9z.2.2.2.2.2.1
noncomputable def its : List PySem.Value := tup9z.2.2.2.2.2.2.1
noncomputable def c0 : Nat := tup9z.2.2.2.2.2.2.2.1
noncomputable def RGS : List Nat := tup9z.2.2.2.2.2.2.2.2.1
noncomputable def tl : PySem.Tok := tup9z.2.2.2.2.2.2.2.2.2.1
noncomputable def sv : List PySem.Value := tup9z.2.2.2.2.2.2.2.2.2.2.1
noncomputable def se : Nat := tup9z.2.2.2.2.2.2.2.2.2.2.2.1
noncomputable def loose : List PySem.Str := tup9z.2.2.2.2.2.2.2.2.2.2.2.2.1
noncomputable def mean : PySem.ExcName → Option PySem.Value := tup9z.2.2.2.2.2.2.2.2.2.2.2.2.2.1
noncomputable def mg : PySem.Str → Option PySem.Value := tup9z.2.2.2.2.2.2.2.2.2.2.2.2.2.2.1
noncomputable def mb : PySem.Str → Option PySem.Value := tup9z.2.2.2.2.2.2.2.2.2.2.2.2.2.2.2.1
noncomputable def rest : List (PySem.Addr × PySem.Obj) := tup9z.2.2.2.2.2.2.2.2.2.2.2.2.2.2.2.2.1
noncomputable def dp : Nat := tup9z.2.2.2.2.2.2.2.2.2.2.2.2.2.2.2.2.2.1
noncomputable def un : Nat := tup9z.2.2.2.2.2.2.2.2.2.2.2.2.2.2.2.2.2.2.1
noncomputable def gd : Option (List PySem.Code) := tup9z.2.2.2.2.2.2.2.2.2.2.2.2.2.2.2.2.2.2.2.1
noncomputable def cn : PySem.Str := tup9z.2.2.2.2.2.2.2.2.2.2.2.2.2.2.2.2.2.2.2.2.1
noncomputable def cs : PySem.Scope := tup9z.2.2.2.2.2.2.2.2.2.2.2.2.2.2.2.2.2.2.2.2.2.1
noncomputable def a : PySem.Addr := tup9z.2.2.2.2.2.2.2.2.2.2.2.2.2.2.2.2.2.2.2.2.2.2.1
noncomputable def ccd : PySem.Value := tup9z.2.2.2.2.2.2.2.2.2.2.2.2.2.2.2.2.2.2.2.2.2.2.2.1
noncomputable def cl : List (PySem.Str × PySem.Addr) := tup9z.2.2.2.2.2.2.2.2.2.2.2.2.2.2.2.2.2.2.2.2.2.2.2.2.1
noncomputable def outer : List PySem.Env := tup9z.2.2.2.2.2.2.2.2.2.2.2.2.2.2.2.2.2.2.2.2.2.2.2.2.2.1
noncomputable def A₀ : PySem.Around := tup9z.2.2.2.2.2.2.2.2.2.2.2.2.2.2.2.2.2.2.2.2.2.2.2.2.2.2.1
noncomputable def base : PySem.Heap := tup9z.2.2.2.2.2.2.2.2.2.2.2.2.2.2.2.2.2.2.2.2.2.2.2.2.2.2.2.1
noncomputable def h₀ : PySem.Heap := tup9z.2.2.2.2.2.2.2.2.2.2.2.2.2.2.2.2.2.2.2.2.2.2.2.2.2.2.2.2.1
noncomputable def L : PySem.Addr := tup9z.2.2.2.2.2.2.2.2.2.2.2.2.2.2.2.2.2.2.2.2.2.2.2.2.2.2.2.2.2.1
noncomputable def m : PySem.Str → Option PySem.Value := tup9z.2.2.2.2.2.2.2.2.2.2.2.2.2.2.2.2.2.2.2.2.2.2.2.2.2.2.2.2.2.2.1
noncomputable def s : PySem.Shared := tup9z.2.2.2.2.2.2.2.2.2.2.2.2.2.2.2.2.2.2.2.2.2.2.2.2.2.2.2.2.2.2.2.1
noncomputable def R : PySem.Result → PySem.Shared → Prop := tup9z.2.2.2.2.2.2.2.2.2.2.2.2.2.2.2.2.2.2.2.2.2.2.2.2.2.2.2.2.2.2.2.2.1
noncomputable def x : Nat := tup9z.2.2.2.2.2.2.2.2.2.2.2.2.2.2.2.2.2.2.2.2.2.2.2.2.2.2.2.2.2.2.2.2.2.1
noncomputable def d : Nat := tup9z.2.2.2.2.2.2.2.2.2.2.2.2.2.2.2.2.2.2.2.2.2.2.2.2.2.2.2.2.2.2.2.2.2.2.1
noncomputable def pb : Nat := tup9z.2.2.2.2.2.2.2.2.2.2.2.2.2.2.2.2.2.2.2.2.2.2.2.2.2.2.2.2.2.2.2.2.2.2.2.1
noncomputable def fn : Nat := tup9z.2.2.2.2.2.2.2.2.2.2.2.2.2.2.2.2.2.2.2.2.2.2.2.2.2.2.2.2.2.2.2.2.2.2.2.2.1
noncomputable def c : Nat := tup9z.2.2.2.2.2.2.2.2.2.2.2.2.2.2.2.2.2.2.2.2.2.2.2.2.2.2.2.2.2.2.2.2.2.2.2.2.2.1
noncomputable def x1 : Nat := tup9z.2.2.2.2.2.2.2.2.2.2.2.2.2.2.2.2.2.2.2.2.2.2.2.2.2.2.2.2.2.2.2.2.2.2.2.2.2.2.1
noncomputable def d1 : Nat := tup9z.2.2.2.2.2.2.2.2.2.2.2.2.2.2.2.2.2.2.2.2.2.2.2.2.2.2.2.2.2.2.2.2.2.2.2.2.2.2.2.1
noncomputable def sg : Nat := tup9z.2.2.2.2.2.2.2.2.2.2.2.2.2.2.2.2.2.2.2.2.2.2.2.2.2.2.2.2.2.2.2.2.2.2.2.2.2.2.2.2.1
noncomputable def ce : Nat := tup9z.2.2.2.2.2.2.2.2.2.2.2.2.2.2.2.2.2.2.2.2.2.2.2.2.2.2.2.2.2.2.2.2.2.2.2.2.2.2.2.2.2.1
noncomputable def pb1 : Nat := tup9z.2.2.2.2.2.2.2.2.2.2.2.2.2.2.2.2.2.2.2.2.2.2.2.2.2.2.2.2.2.2.2.2.2.2.2.2.2.2.2.2.2.2.1
noncomputable def t1 : PySem.Tok := tup9z.2.2.2.2.2.2.2.2.2.2.2.2.2.2.2.2.2.2.2.2.2.2.2.2.2.2.2.2.2.2.2.2.2.2.2.2.2.2.2.2.2.2.2.1
noncomputable def t2 : PySem.Tok := tup9z.2.2.2.2.2.2.2.2.2.2.2.2.2.2.2.2.2.2.2.2.2.2.2.2.2.2.2.2.2.2.2.2.2.2.2.2.2.2.2.2.2.2.2.2.1
noncomputable def t3 : PySem.Tok := tup9z.2.2.2.2.2.2.2.2.2.2.2.2.2.2.2.2.2.2.2.2.2.2.2.2.2.2.2.2.2.2.2.2.2.2.2.2.2.2.2.2.2.2.2.2.2.1
noncomputable def t4 : PySem.Tok := tup9z.2.2.2.2.2.2.2.2.2.2.2.2.2.2.2.2.2.2.2.2.2.2.2.2.2.2.2.2.2.2.2.2.2.2.2.2.2.2.2.2.2.2.2.2.2.2.1
noncomputable def tw : PySem.Tok := tup9z.2.2.2.2.2.2.2.2.2.2.2.2.2.2.2.2.2.2.2.2.2.2.2.2.2.2.2.2.2.2.2.2.2.2.2.2.2.2.2.2.2.2.2.2.2.2.2.1
noncomputable def u1 : PySem.Tok := tup9z.2.2.2.2.2.2.2.2.2.2.2.2.2.2.2.2.2.2.2.2.2.2.2.2.2.2.2.2.2.2.2.2.2.2.2.2.2.2.2.2.2.2.2.2.2.2.2.2.1
noncomputable def u2 : PySem.Tok := tup9z.2.2.2.2.2.2.2.2.2.2.2.2.2.2.2.2.2.2.2.2.2.2.2.2.2.2.2.2.2.2.2.2.2.2.2.2.2.2.2.2.2.2.2.2.2.2.2.2.2.1
noncomputable def u3 : PySem.Tok := tup9z.2.2.2.2.2.2.2.2.2.2.2.2.2.2.2.2.2.2.2.2.2.2.2.2.2.2.2.2.2.2.2.2.2.2.2.2.2.2.2.2.2.2.2.2.2.2.2.2.2.2.1
noncomputable def u4 : PySem.Tok := tup9z.2.2.2.2.2.2.2.2.2.2.2.2.2.2.2.2.2.2.2.2.2.2.2.2.2.2.2.2.2.2.2.2.2.2.2.2.2.2.2.2.2.2.2.2.2.2.2.2.2.2.2.1
noncomputable def u5 : PySem.Tok := tup9z.2.2.2.2.2.2.2.2.2.2.2.2.2.2.2.2.2.2.2.2.2.2.2.2.2.2.2.2.2.2.2.2.2.2.2.2.2.2.2.2.2.2.2.2.2.2.2.2.2.2.2.2.1
noncomputable def v1 : PySem.Tok := tup9z.2.2.2.2.2.2.2.2.2.2.2.2.2.2.2.2.2.2.2.2.2.2.2.2.2.2.2.2.2.2.2.2.2.2.2.2.2.2.2.2.2.2.2.2.2.2.2.2.2.2.2.2.2.1
noncomputable def vw : PySem.Tok := tup9z.2.2.2.2.2.2.2.2.2.2.2.2.2.2.2.2.2.2.2.2.2.2.2.2.2.2.2.2.2.2.2.2.2.2.2.2.2.2.2.2.2.2.2.2.2.2.2.2.2.2.2.2.2.2.1
noncomputable def ct : PySem.Value := tup9z.2.2.2.2.2.2.2.2.2.2.2.2.2.2.2.2.2.2.2.2.2.2.2.2.2.2.2.2.2.2.2.2.2.2.2.2.2.2.2.2.2.2.2.2.2.2.2.2.2.2.2.2.2.2.2.1
noncomputable def pm : PySem.Value := tup9z.2.2.2.2.2.2.2.2.2.2.2.2.2.2.2.2.2.2.2.2.2.2.2.2.2.2.2.2.2.2.2.2.2.2.2.2.2.2.2.2.2.2.2.2.2.2.2.2.2.2.2.2.2.2.2.2.1
noncomputable def oc : PySem.Obj := tup9z.2.2.2.2.2.2.2.2.2.2.2.2.2.2.2.2.2.2.2.2.2.2.2.2.2.2.2.2.2.2.2.2.2.2.2.2.2.2.2.2.2.2.2.2.2.2.2.2.2.2.2.2.2.2.2.2.2.1
noncomputable def oC : PySem.Obj := tup9z.2.2.2.2.2.2.2.2.2.2.2.2.2.2.2.2.2.2.2.2.2.2.2.2.2.2.2.2.2.2.2.2.2.2.2.2.2.2.2.2.2.2.2.2.2.2.2.2.2.2.2.2.2.2.2.2.2.2.1
noncomputable def vs : Array PySem.Value := tup9z.2.2.2.2.2.2.2.2.2.2.2.2.2.2.2.2.2.2.2.2.2.2.2.2.2.2.2.2.2.2.2.2.2.2.2.2.2.2.2.2.2.2.2.2.2.2.2.2.2.2.2.2.2.2.2.2.2.2.2.1
noncomputable def tq : PySem.Tok := tup9z.2.2.2.2.2.2.2.2.2.2.2.2.2.2.2.2.2.2.2.2.2.2.2.2.2.2.2.2.2.2.2.2.2.2.2.2.2.2.2.2.2.2.2.2.2.2.2.2.2.2.2.2.2.2.2.2.2.2.2.2.1
noncomputable def z1 : PySem.Heap := tup9z.2.2.2.2.2.2.2.2.2.2.2.2.2.2.2.2.2.2.2.2.2.2.2.2.2.2.2.2.2.2.2.2.2.2.2.2.2.2.2.2.2.2.2.2.2.2.2.2.2.2.2.2.2.2.2.2.2.2.2.2.2.1
noncomputable def z2 : PySem.Addr := tup9z.2.2.2.2.2.2.2.2.2.2.2.2.2.2.2.2.2.2.2.2.2.2.2.2.2.2.2.2.2.2.2.2.2.2.2.2.2.2.2.2.2.2.2.2.2.2.2.2.2.2.2.2.2.2.2.2.2.2.2.2.2.2.1
noncomputable def z3 : PySem.Heap := tup9z.2.2.2.2.2.2.2.2.2.2.2.2.2.2.2.2.2.2.2.2.2.2.2.2.2.2.2.2.2.2.2.2.2.2.2.2.2.2.2.2.2.2.2.2.2.2.2.2.2.2.2.2.2.2.2.2.2.2.2.2.2.2.2.1
noncomputable def Rg : PySem.Addr := tup9z.2.2.2.2.2.2.2.2.2.2.2.2.2.2.2.2.2.2.2.2.2.2.2.2.2.2.2.2.2.2.2.2.2.2.2.2.2.2.2.2.2.2.2.2.2.2.2.2.2.2.2.2.2.2.2.2.2.2.2.2.2.2.2.2.1
noncomputable def z8 : PySem.Heap := tup9z.2.2.2.2.2.2.2.2.2.2.2.2.2.2.2.2.2.2.2.2.2.2.2.2.2.2.2.2.2.2.2.2.2.2.2.2.2.2.2.2.2.2.2.2.2.2.2.2.2.2.2.2.2.2.2.2.2.2.2.2.2.2.2.2.2.1
noncomputable def z9 : PySem.Heap := tup9z.2.2.2.2.2.2.2.2.2.2.2.2.2.2.2.2.2.2.2.2.2.2.2.2.2.2.2.2.2.2.2.2.2.2.2.2.2.2.2.2.2.2.2.2.2.2.2.2.2.2.2.2.2.2.2.2.2.2.2.2.2.2.2.2.2.2.1
noncomputable def tk : Nat := tup9z.2.2.2.2.2.2.2.2.2.2.2.2.2.2.2.2.2.2.2.2.2.2.2.2.2.2.2.2.2.2.2.2.2.2.2.2.2.2.2.2.2.2.2.2.2.2.2.2.2.2.2.2.2.2.2.2.2.2.2.2.2.2.2.2.2.2.2.1
noncomputable def Sn : PySem.Addr := tup9z.2.2.2.2.2.2.2.2.2.2.2.2.2.2.2.2.2.2.2.2.2.2.2.2.2.2.2.2.2.2.2.2.2.2.2.2.2.2.2.2.2.2.2.2.2.2.2.2.2.2.2.2.2.2.2.2.2.2.2.2.2.2.2.2.2.2.2.2.1
noncomputable def z10 : PySem.Heap := tup9z.2.2.2.2.2.2.2.2.2.2.2.2.2.2.2.2.2.2.2.2.2.2.2.2.2.2.2.2.2.2.2.2.2.2.2.2.2.2.2.2.2.2.2.2.2.2.2.2.2.2.2.2.2.2.2.2.2.2.2.2.2.2.2.2.2.2.2.2.2.1
noncomputable def os0 : PySem.Obj := tup9z.2.2.2.2.2.2.2.2.2.2.2.2.2.2.2.2.2.2.2.2.2.2.2.2.2.2.2.2.2.2.2.2.2.2.2.2.2.2.2.2.2.2.2.2.2.2.2.2.2.2.2.2.2.2.2.2.2.2.2.2.2.2.2.2.2.2.2.2.2.2.1
noncomputable def z14 : PySem.Heap := tup9z.2.2.2.2.2.2.2.2.2.2.2.2.2.2.2.2.2.2.2.2.2.2.2.2.2.2.2.2.2.2.2.2.2.2.2.2.2.2.2.2.2.2.2.2.2.2.2.2.2.2.2.2.2.2.2.2.2.2.2.2.2.2.2.2.2.2.2.2.2.2.2
namespace rings
set_option maxRecDepth 100000 in
set_option maxHeartbeats 8000000 in
noncomputable def seg9 : {p : Nat → PySem.Heap → Nat → (PySem.Str → Option PySem.Value) → (List (PySem.Addr × PySem.Obj)) → PySem.Obj → (List (PySem.Str × PySem.Value)) → (List PySem.Value) → Nat → PySem.Tok → (List PySem.Value) → Nat → Nat → PySem.Tok → (List Nat) → (List (PySem.Addr × PySem.Obj)) → Prop // Hid (∀ a0 a1 a2 a3 a4 a5 a6 a7 a8 a9 a10 a11 a12 a13 a14 a15, p a0 a1 a2 a3 a4 a5 a6 a7 a8 a9 a10 a11 a12 a13 a14 a15) → seg9.1 w ln rem qe rows l its c0 RGS tl sv se loose mean mg mb rest dp un gd cn cs a ccd cl outer A₀ base h₀ L m s R x d pb fn c x1 d1 sg ce pb1 t1 t2 t3 t4 tw u1 u2 u3 u4 u5 v1 vw ct pm oc oC vs tq z1 z2 z3 Rg z8 z9 tk Sn z10 os0 z14} := segOf (by
   intro ht9
   delta seg9 segOf
   dsimp -zeta only
   intro hi hz hG hs hC B F₀ X T hk hd hu N₀ hret ok' hcode hname hcell o1 o2 o3 o4 o5 o6 o7 o8 off0 hfl off0l hpl hf1 hf2 hf3 hf4 hf5 hf6 hf7 hf8 hf9 y4 y5 y6 y7 qk ek hC' lR lo0 hs0 y11 y12 y13 lS F9 N9 hrl hlR hRS hord
   refine for_listN (σ := GS) (env := envOf _ _ _ _ _) (c := c0) (by k_asm) N9 (by k_mem) rfl (fun y => [(Str.ofString "line", .ref x), (Str.ofString "rings", .ref Rg), (Str.ofString "seen", .ref Sn)]) (gsLed w ⟨x, d, pb, fn, c, x1, d1, sg, ce, pb1, t1, t2, t3, t4, tw, u1, u2, u3, u4, u5, v1, vw, ct, pm, oc, oC, vs, tq⟩ ln Sn Rg l its c0 rest) (fun i y => GS.Ok w rem y ∧ y.qv = [] ∧ y.rg.length ≤ i ∧ ringsGo 9 (rows.drop i) y.seen y.rg = some RGS) ⟨os0, [], [], 0, tl, sv, [], se, qe, [], []⟩ ⟨rfl, rfl, rfl, trivial⟩ (by dsimp only [gsLed, lexLed]; simp only [List.cons_append, List.nil_append]; (repeat' first | exact List.forall_mem_nil _ | refine mem_cons_all ?_ ?_ | exact sub_refl | refine sub_tail ?_ | k_mem)) ⟨⟨hs0, rfl, .nil, hs⟩, rfl, Nat.le_refl _, hG⟩ ?_ ?_ ?_
   · intro i y _
     dsimp only [gsLed, lexLed]
     simp only [List.cons_append, List.nil_append]
     (repeat' first | exact List.forall_mem_nil _ | apply adr_cons | exact List.Mem.head _ | refine List.Mem.tail _ ?_ | refine adr_of_sub ?_ | exact sub_refl | refine sub_tail ?_)
   · clear hs hs0 lS lR N₀ F₀ hG
     intro i v y h tk m₁ own hv hok hown F N
     obtain ⟨os, kvs, wr, kr, tl6, sv6, qv, se6, qe6, seen, rg⟩ := y
     obtain ⟨⟨hdm, hkm, hwr, hs6⟩, hqv0, hrgl, hgo⟩ := hok
     dsimp only [gsLed, lexLed, mB] at *
     subst hqv0
     simp only [List.cons_append, List.nil_append] at N
     obtain ⟨ys, tv, rfl, hys⟩ := strs_at hi hv
     obtain ⟨row, hrow, rfl⟩ : ∃ row, rows[i]? = some row ∧ mkS row = ys := by
       simpa [List.getElem?_map, Option.map_eq_some_iff] using hys
     have hi500 : i < 500 := by have := (List.getElem?_eq_some_iff.mp hrow).1; omega
     rw [drop_cons hrow, ringsGo] at hgo
     have off2 := off0.app ok' (own_gt hown hpl (a := pb) (by (repeat' first | exact List.Mem.head _ | refine List.Mem.tail _ ?_)))
     have hn1 := app_ne3 (allLt_ne' hrl (Nat.le_refl _)) (own_ne hown (a := Rg) (by omega) (by (repeat' first | exact List.Mem.head _ | refine List.Mem.tail _ ?_)))
     have hn2 := app_ne3 (allLt_ne' hrl (d' := Sn) (by omega)) (own_ne hown (a := Sn) (by omega) (by (repeat' first | exact List.Mem.head _ | refine List.Mem.tail _ ?_)))
     generalize hr2 : rest ++ own = r2 at N off2 hn1 hn2
     by_cases hin : row ∈ seen
     · rw [if_pos hin] at hgo
       k_with_none
       k_with "compareOp In str ref" => refine dict_in (by k_asm) (by k_mem) hdm hkm lo0 ?_ (fun h => absurd hin h)
       k_steps
       refine ListEnd.mk ⟨os, kvs, wr, kr, tl6, sv6, [], se6, qe6, seen, rg⟩ (by k_asm) (by k_asm) (by (repeat' first | exact True.intro | refine ⟨?_, ?_⟩ | kernel_rfl | exact rfl)) (by dsimp only [gsLed, lexLed]; simp only [List.cons_append, List.nil_append, hr2]; (repeat' first | exact List.forall_mem_nil _ | refine mem_cons_all ?_ ?_ | exact sub_refl | refine sub_tail ?_ | k_mem)) ⟨⟨hdm, hkm, hwr, hs6⟩, rfl, Nat.le_succ_of_le hrgl, hgo⟩
     · rw [if_neg hin] at hgo
       split at hgo
       · rename_i hlen
         obtain ⟨T, hT, hgo'⟩ : ∃ T, turnGo row 9 [] row seen 0 = some T ∧ ringsGo 9 (rows.drop (i + 1)) T.2.1 (rg ++ [row.length / T.2.2]) = some RGS := by
           cases e : turnGo row 9 [] row seen 0 with
           | none => rw [e] at hgo; cases hgo
           | some T => rw [e] at hgo; exact ⟨T, rfl, hgo⟩
         rename_i y1
         clear hi hz hC B X y1 hk hret hcode hname hcell off0 hfl off0l hf1 hf2 hf3 hf4 hf5 hf6 hf7 hf8 hf9 y4 y11 y12 y13 hrl hord hown hrow hys hv
         revert hd hu ok' o1 o2 o3 o4 o5 o6 o7 o8 hpl y5 y6 y7 qk ek hC' lo0 F9 N9 hlR hRS seen rg hdm hkm hwr hs6 hrgl F hi500 hr2 N off2 hn1 hn2 hin hlen hgo T hT hgo'
         exact ht9.out i h tk m₁ own os kvs wr kr tl6 sv6 se6 qe6 tv row r2
       · cases hgo
   · clear hs hs0 hG
     intro h9 tk9 m9 y hok F N
     obtain ⟨os, kvs, wr, kr, tl6, sv6, qv, se6, qe6, seen6, rg6⟩ := y
     obtain ⟨⟨hdm, hkm, hwr, hs6⟩, hqv0, hrgl, hgo⟩ := hok
     dsimp only [gsLed, lexLed, mB] at *
     subst hqv0
     rw [List.drop_of_length_le (by have := strs_len hi; simp only [List.length_map] at this; omega), ringsGo] at hgo
     obtain rfl := Option.some.inj hgo
     simp only [List.cons_append, List.nil_append] at N
     k_with_none
     k_steps
     have hlq : ∀ q ∈ (lexLed w ⟨x, d, pb, fn, c, x1, d1, sg, ce, pb1, t1, t2, t3, t4, tw, u1, u2, u3, u4, u5, v1, vw, ct, pm, oc, oC, vs, tq⟩ ln tl sv se [] qe ++ [(l, listOf its.toArray c0)]) ++ rest, @LT.lt Nat _ q.1 Rg := by
       dsimp only [lexLed]
       simp only [List.cons_append, List.nil_append]
       (repeat' first | exact List.forall_mem_nil _ | (first | exact raw_lt (by assumption) (by walk_at "le9") | exact allLt_lt' (by walk_at "and_r") (by walk_at "le9")) | refine lt_cons ?_ ?_ | (with_reducible assumption) | omega)
     refine hret _ (lexLed w ⟨x, d, pb, fn, c, x1, d1, sg, ce, pb1, t1, t2, t3, t4, tw, u1, u2, u3, u4, u5, v1, vw, ct, pm, oc, oC, vs, tq⟩ ln tl6 sv6 se6 [] qe6 ++ [(l, listOf its.toArray c0)]) [_] _ _ ⟨_, _, _, rfl, rfl, hwr, _, _, rfl, tl6, sv6, se6, hs6, rfl⟩ (fun q hq p hp => ?_) (by k_asm) (by dsimp only [lexLed]; simp only [List.cons_append, List.nil_append]; exact news_of (by k_asm) (by (repeat' first | exact List.forall_mem_nil _ | refine mem_cons_all ?_ ?_ | exact sub_refl | refine sub_tail ?_ | k_mem)))
     rw [List.mem_singleton.mp hp]
     exact hlq q hq)
noncomputable def G9 (d : Nat × PySem.Heap × Nat × (PySem.Str → Option PySem.Value) × (List (PySem.Addr × PySem.Obj)) × PySem.Obj × (List (PySem.Str × PySem.Value)) × (List PySem.Value) × Nat × PySem.Tok × (List PySem.Value) × Nat × Nat × PySem.Tok × (List Nat) × (List (PySem.Addr × PySem.Obj))) : Prop := seg9.1 d.1 d.2.1 d.2.2.1 d.2.2.2.1 d.2.2.2.2.1 d.2.2.2.2.2.1 d.2.2.2.2.2.2.1 d.2.2.2.2.2.2.2.1 d.2.2.2.2.2.2.2.2.1 d.2.2.2.2.2.2.2.2.2.1 d.2.2.2.2.2.2.2.2.2.2.1 d.2.2.2.2.2.2.2.2.2.2.2.1 d.2.2.2.2.2.2.2.2.2.2.2.2.1 d.2.2.2.2.2.2.2.2.2.2.2.2.2.1 d.2.2.2.2.2.2.2.2.2.2.2.2.2.2.1 d.2.2.2.2.2.2.2.2.2.2.2.2.2.2.2
noncomputable def tup9z : Nat × PySem.Heap × Nat × (PySem.Str → Option PySem.Value) × (List (PySem.Addr × PySem.Obj)) × PySem.Obj × (List (PySem.Str × PySem.Value)) × (List PySem.Value) × Nat × PySem.Tok × (List PySem.Value) × Nat × Nat × PySem.Tok × (List Nat) × (List (PySem.Addr × PySem.Obj)) := hen ((0 : Nat), (default : Heap), (0 : Nat), (fun _ => none), [], (default : Obj), [], [], (0 : Nat), (0 : Nat), [], (0 : Nat), (0 : Nat), (0 : Nat), [], []) G9
noncomputable def i : Nat := tup9z.1
noncomputable def h : PySem.Heap := tup9z.2.1
noncomputable def tk : Nat := tup9z.2.2.1
noncomputable def m₁ : PySem.Str → Option PySem.Value := tup9z.2.2.2.1
noncomputable def own : List (PySem.Addr × PySem.Obj) := tup9z.2.2.2.2.1
noncomputable def os : PySem.Obj := tup9z.2.2.2.2.2.1
noncomputable def kvs : List (PySem.Str × PySem.Value) := tup9z.2.2.2.2.2.2.1
noncomputable def wr : List PySem.Value := tup9z.2.2.2.2.2.2.2.1
noncomputable def kr : Nat := tup9z.2.2.2.2.2.2.2.2.1
noncomputable def tl6 : PySem.Tok := tup9z.2.2.2.2.2.2.2.2.2.1
noncomputable def sv6 : List PySem.Value := tup9z.2.2.2.2.2.2.2.2.2.2.1
noncomputable def se6 : Nat := tup9z.2.2.2.2.2.2.2.2.2.2.2.1
noncomputable def qe6 : Nat := tup9z.2.2.2.2.2.2.2.2.2.2.2.2.1
noncomputable def tv : PySem.Tok := tup9z.2.2.2.2.2.2.2.2.2.2.2.2.2.1
noncomputable def row : List Nat := tup9z.2.2.2.2.2.2.2.2.2.2.2.2.2.2.1
noncomputable def r2 : List (PySem.Addr × PySem.Obj) := tup9z.2.2.2.2.2.2.2.2.2.2.2.2.2.2.2
set_option maxRecDepth 100000 in
set_option maxHeartbeats 8000000 in
theorem main9 : seg9.1 i h tk m₁ own os kvs wr kr tl6 sv6 se6 qe6 tv row r2 := by
         delta seg9 segOf
         dsimp -zeta only
         intro hd hu ok' o1 o2 o3 o4 o5 o6 o7 o8 hpl y5 y6 y7 qk ek hC' lo0 F9 N9 hlR hRS seen rg hdm hkm hwr hs6 hrgl F hi500 hr2 N off2 hn1 hn2 hin hlen hgo T hT hgo'
         k_with_none
         k_with "compareOp In str ref" => refine dict_in (by k_asm) (by k_mem) hdm hkm lo0 (fun h => absurd h hin) ?_
         k_with "pyIter str" => refine stop_in ?_
         k_with "exec For Name Name cons nil" => refine stop_in ?_
         k_steps
         refine stop_out ?_
         refine wpAny_For ?_
         k_steps
         refine stop_out ?_
         refine for_strN (σ := GS) (l := row) (env := envOf _ _ _ _ _) (by k_asm) (by k_asm) rfl (fun y => [(Str.ofString "line", .ref x), (Str.ofString "rings", .ref Rg), (Str.ofString "seen", .ref Sn), (Str.ofString "row", .str (mkS row) tv)]) (gsLed w ⟨x, d, pb, fn, c, x1, d1, sg, ce, pb1, t1, t2, t3, t4, tw, u1, u2, u3, u4, u5, v1, vw, ct, pm, oc, oC, vs, tq⟩ ln Sn Rg l its c0 r2) (fun j y => GS.Ok w rem y ∧ StrsAre y.qv ((row.take j).map fun c => mkS [c]) ∧ y.seen = seen ∧ y.rg = rg) ⟨os, kvs, wr, kr, tl6, sv6, [], se6, qe6, seen, rg⟩ (by (repeat' first | exact True.intro | refine ⟨?_, ?_⟩ | kernel_rfl | exact rfl)) (by dsimp only [gsLed, lexLed]; simp only [List.cons_append, List.nil_append]; (repeat' first | exact List.forall_mem_nil _ | refine mem_cons_all ?_ ?_ | exact sub_refl | refine sub_tail ?_ | k_mem)) ⟨⟨hdm, hkm, hwr, hs6⟩, .nil, rfl, rfl⟩ ?_ ?_ ?_
         · intro i y _
           dsimp only [gsLed, lexLed]
           simp only [List.cons_append, List.nil_append]
           (repeat' first | exact List.forall_mem_nil _ | apply adr_cons | exact List.Mem.head _ | refine List.Mem.tail _ ?_ | refine adr_of_sub ?_ | exact sub_refl | refine sub_tail ?_)
         · clear hs6 hdm hkm hwr
           intro j c4 y t9 h9 tk9 m9 own2 hc4 hok hown2 F N
           obtain ⟨os, kvs, wr, kr, tl6, sv6, qv, se6, qe6, seen6, rg6⟩ := y
           obtain ⟨⟨hdm, hkm, hwr, hs6⟩, hqv, e1, e2⟩ := hok
           dsimp only [gsLed, lexLed, mB] at *
           subst e1 e2
           simp only [List.cons_append, List.nil_append] at N
           have off3 := off2.app ok' (own_lt hown2 (a := pb) (by (repeat' first | exact List.Mem.head _ | refine List.Mem.tail _ ?_)))
           have hp1 := app_ne2 hn1 (own_lt hown2 (by (repeat' first | exact List.Mem.head _ | refine List.Mem.tail _ ?_)))
           have hp2 := app_ne2 hn2 (own_lt hown2 (by (repeat' first | exact List.Mem.head _ | refine List.Mem.tail _ ?_)))
           generalize hr3 : r2 ++ own2 = r3 at N off3 hp1 hp2
           have hj8 : j < 8 := by have := (List.getElem?_eq_some_iff.mp hc4).1; omega
           have hqvz : qv.length ≤ 1000 := by rw [strs_len hqv, List.length_map, List.length_take]; omega
           k_with_none
           k_with "call ref cons nil" => (refine' Ctr.use (push_token w ⟨x, d, pb, fn, c, x1, d1, sg, ce, pb1, t1, t2, t3, t4, tw, u1, u2, u3, u4, u5, v1, vw, ct, pm, oc, oC, vs, tq⟩ ok' ln rem (.str (mkS _) _) qv qe6 _ ⟨tl6, sv6, se6, hs6, rfl⟩ hqvz) ?kC ?kP ?kO ?kB ?kF ?kX ?kN ?kT ?kK ?kd ?ku ?_; ((case kF => k_asm); (case kN => k_asm); (case kB => k_asm); (case kX => k_asm); (case kT => k_asm); (case kC => k_asm); (case kK => first | exact rfl | assumption); (case kd => ktr_room); (case ku => ktr_units); (case kP => dsimp only [lexLed]; (repeat' first | exact Pick.nil | apply Pick.cons | exact Take.head | apply Take.tail)); (case kO => refine LexP.Off.to ?_; (repeat' first | assumption | refine LexP.Off.cons ?_ (by assumption) (by (try dsimp only); (show @LT.lt Nat _ _ _); omega)))); intro v9 led9 tl9 h9 tk9 hp9 hlt9 F9 N9; obtain ⟨rfl, rfl, qe9, tl5, sv5, se5, hs5, rfl⟩ := hp9; dsimp only [lexLed] at N9; simp only [List.cons_append, List.nil_append] at N9)
           k_steps
           refine ListEnd.mk ⟨os, kvs, wr, kr, tl5, sv5, qv ++ [.str (mkS [c4]) t9], se5, qe9, seen6, rg6⟩ (by k_asm) (by k_asm) (by (repeat' first | exact True.intro | refine ⟨?_, ?_⟩ | kernel_rfl | exact rfl)) (by dsimp only [gsLed, lexLed]; simp only [List.cons_append, List.nil_append, hr3]; (repeat' first | exact List.forall_mem_nil _ | refine mem_cons_all ?_ ?_ | exact sub_refl | refine sub_tail ?_ | k_mem)) ⟨⟨hdm, hkm, hwr, hs5⟩, by rw [take_snoc hc4, List.map_append]; exact hqv.append' (.cons _ _ .nil), rfl, rfl⟩
         · clear hs6 hdm hkm hwr
           intro h9 tk9 m9 y hok F N
           obtain ⟨os, kvs, wr, kr, tl6, sv6, qv, se6, qe6, seen6, rg6⟩ := y
           obtain ⟨⟨hdm, hkm, hwr, hs6⟩, hqv, e1, e2⟩ := hok
           dsimp only [gsLed, lexLed, mB] at *
           subst e1 e2
           rw [List.take_length] at hqv
           simp only [List.cons_append, List.nil_append] at N
           k_with_none
           k_with "exec While Compare cons nil" => refine stop_in ?_
           k_steps
           refine stop_out ?_
           refine while_st (σ := GS × (List Nat × Tok) × (Int × Tok × Nat) × List Nat) (env := envOf _ _ _ _ _) (fun y => [(Str.ofString "line", .ref x), (Str.ofString "rings", .ref Rg), (Str.ofString "seen", .ref Sn), (Str.ofString "row", .str (mkS row) tv), (Str.ofString "turned", .str (mkS y.2.1.1) y.2.1.2), (Str.ofString "turns", .int y.2.2.1.1 y.2.2.1.2.1)])
             (fun y => gsLed w ⟨x, d, pb, fn, c, x1, d1, sg, ce, pb1, t1, t2, t3, t4, tw, u1, u2, u3, u4, u5, v1, vw, ct, pm, oc, oC, vs, tq⟩ ln Sn Rg l its c0 r2 y.1) (fun f y => GS.Ok w rem y.1 ∧ y.1.rg = rg6 ∧ StrsAre y.1.qv (y.2.2.2.map fun c => mkS [c]) ∧ y.2.2.2.length = row.length ∧ y.2.2.1.1 = (y.2.2.1.2.2 : Int) ∧ (y.2.2.1.2.2 = 0 → y.2.1.1 = []) ∧ y.2.2.1.2.2 + f ≤ 9 ∧ turnGo row f y.2.1.1 y.2.2.2 y.1.seen y.2.2.1.2.2 = some T) 9 (⟨os, kvs, wr, kr, tl6, sv6, qv, se6, qe6, seen6, rg6⟩, ([], _), (0, _, 0), row) (by k_asm) (by k_asm) (by exact ⟨rfl, rfl, rfl, rfl, rfl, rfl, trivial⟩) (by dsimp only [gsLed, lexLed]; simp only [List.cons_append, List.nil_append]; (repeat' first | exact List.forall_mem_nil _ | refine mem_cons_all ?_ ?_ | exact sub_refl | refine sub_tail ?_ | k_mem)) ⟨⟨hdm, hkm, hwr, hs6⟩, rfl, hqv, rfl, rfl, fun _ => rfl, Nat.le_refl 9, hT⟩ ?_
           clear hs6 hdm hkm hwr hqv hT
           intro f y h8 tk8 m8 hok F N
           obtain ⟨⟨os, kvs, wr, kr, tl6, sv6, qv, se6, qe6, seen7, rg7⟩, ⟨tu, tt⟩, ⟨nz, tn, n⟩, q⟩ := y
           obtain ⟨⟨hdm, hkm, hwr, hs6⟩, e2, hqv, hql, hnz, hn0, hn9, hT⟩ := hok
           dsimp only [gsLed, lexLed, mB] at *
           subst e2
           simp only [List.cons_append, List.nil_append] at N
           cases f with
           | zero => cases hT
           | succ f =>
           rw [turnGo] at hT
           obtain ⟨c4, q1, rfl⟩ : ∃ c4 q1, q = c4 :: q1 := by
             cases q with
             | nil => simp only [List.length_nil] at hql; omega
             | cons a b => exact ⟨a, b, rfl⟩
           obtain ⟨tc, qv1, rfl, hqv1⟩ : ∃ tc qv1, qv = .str (mkS [c4]) tc :: qv1 ∧ StrsAre qv1 (q1.map fun c => mkS [c]) := by
             cases hqv with
             | cons _ t r => exact ⟨t, _, rfl, r⟩
           simp only [List.length_cons] at hql
           have hqz1 : qv1.length ≤ 1000 := by rw [strs_len hqv1, List.length_map]; omega
           by_cases htr : tu = row
           · have hcmp : (mkS tu != mkS row) = false := by subst htr; simp
             rw [if_pos htr] at hT
             obtain rfl := Option.some.inj hT
             have hn : n ≠ 0 := fun e => by
               have := hn0 e
               rw [← htr, this] at hlen
               simp at hlen
             have hdiv : ((row.length : Int)).fdiv nz = ((row.length / n : Nat) : Int) := by
               rw [hnz, Int.fdiv_eq_ediv_of_nonneg _ (by omega)]; rfl
             have hwrz : wr.length ≤ 1000 := by rw [hwr.length, List.length_map]; omega
             k_with_none
             k_with "compareOp NotEq str str" => (refine PyProof.Rows.ne_str ?_; rw [hcmp])
             k_with "call builtin:len cons nil" => refine k_lenS (l := row) (by omega) ?_
             k_with "binaryOp FloorDiv int int" => (refine floordiv_int (by omega) ?_ (Or.inl (PyProof.noPylong_of_log2 (small_log (by omega)))); rw [hdiv])
             k_with "pyIter str" => refine stop_in ?_
             k_with "exec For Name Name cons nil" => refine stop_in ?_
             k_steps
             refine stop_out ?_
             refine wpAny_For ?_
             k_steps
             refine stop_out ?_
             (with_reducible rename News _ _ _ ((pb, _) :: _) => N99)
             simp only [List.push_toArray] at N99
             refine for_strN (σ := GS) (l := row) (env := envOf _ _ _ _ _) (by k_asm) N99 rfl (fun y => [(Str.ofString "line", .ref x), (Str.ofString "rings", .ref Rg), (Str.ofString "seen", .ref Sn), (Str.ofString "row", .str (mkS row) tv)]) (gsLed w ⟨x, d, pb, fn, c, x1, d1, sg, ce, pb1, t1, t2, t3, t4, tw, u1, u2, u3, u4, u5, v1, vw, ct, pm, oc, oC, vs, tq⟩ ln Sn Rg l its c0 r2) (fun j y => GS.Ok w rem y ∧ StrsAre y.qv (((c4 :: q1).drop j).map fun c => mkS [c]) ∧ y.seen = seen7 ∧ y.rg = rg7 ++ [row.length / n]) ⟨os, kvs, wr ++ [.int ((row.length / n : Nat) : Int) _], kr + 1, tl6, sv6, _, se6, qe6, seen7, rg7 ++ [row.length / n]⟩ (by (repeat' first | exact True.intro | refine ⟨?_, ?_⟩ | kernel_rfl | exact rfl)) (by dsimp only [gsLed, lexLed]; simp only [List.cons_append, List.nil_append]; (repeat' first | exact List.forall_mem_nil _ | refine mem_cons_all ?_ ?_ | exact sub_refl | refine sub_tail ?_ | k_mem)) ⟨⟨hdm, hkm, by rw [List.map_append]; exact IntsAre.append hwr (.cons _ _ .nil), hs6⟩, .cons _ _ hqv1, rfl, rfl⟩ ?_ ?_ ?_
             · intro i y _
               dsimp only [gsLed, lexLed]
               simp only [List.cons_append, List.nil_append]
               (repeat' first | exact List.forall_mem_nil _ | apply adr_cons | exact List.Mem.head _ | refine List.Mem.tail _ ?_ | refine adr_of_sub ?_ | exact sub_refl | refine sub_tail ?_)
             · clear hs6 hdm hkm hwr
               intro j c5 y t9 h9 tk9 m9 own2 hc5 hok hown2 F N
               obtain ⟨os, kvs, wr, kr, tl6, sv6, qv, se6, qe6, seen6, rg6⟩ := y
               obtain ⟨⟨hdm, hkm, hwr, hs6⟩, hqv, e1, e2⟩ := hok
               dsimp only [gsLed, lexLed, mB] at *
               subst e1 e2
               simp only [List.cons_append, List.nil_append] at N
               have off3 := off2.app ok' (own_lt hown2 (a := pb) (by (repeat' first | exact List.Mem.head _ | refine List.Mem.tail _ ?_)))
               have hp1 := app_ne2 hn1 (own_lt hown2 (by (repeat' first | exact List.Mem.head _ | refine List.Mem.tail _ ?_)))
               have hp2 := app_ne2 hn2 (own_lt hown2 (by (repeat' first | exact List.Mem.head _ | refine List.Mem.tail _ ?_)))
               generalize hr3 : r2 ++ own2 = r3 at N off3 hp1 hp2
               have hj8 : j < row.length := (List.getElem?_eq_some_iff.mp hc5).1
               obtain ⟨c6, hc6⟩ : ∃ c6, (c4 :: q1)[j]? = some c6 := ⟨_, List.getElem?_eq_getElem (by simp only [List.length_cons]; omega)⟩
               rw [drop_cons hc6, List.map_cons] at hqv
               obtain ⟨tc, qv1, rfl, hqv1⟩ : ∃ tc qv1, qv = .str (mkS [c6]) tc :: qv1 ∧ StrsAre qv1 (((c4 :: q1).drop (j + 1)).map fun c => mkS [c]) := by
                 cases hqv with
                 | cons _ t r => exact ⟨t, _, rfl, r⟩
               have hqz1 : qv1.length ≤ 1000 := by rw [strs_len hqv1, List.length_map, List.length_drop, List.length_cons]; omega
               k_with_none
               k_with "call ref nil" => (refine' Ctr.use (tok_pop w ⟨x, d, pb, fn, c, x1, d1, sg, ce, pb1, t1, t2, t3, t4, tw, u1, u2, u3, u4, u5, v1, vw, ct, pm, oc, oC, vs, tq⟩ ok' ln rem (.str (mkS [c6]) tc) qv1 qe6 _ ⟨tl6, sv6, se6, hs6, rfl⟩ hqz1) ?kC ?kP ?kO ?kB ?kF ?kX ?kN ?kT ?kK ?kd ?ku ?_; ((case kF => k_asm); (case kN => k_asm); (case kB => k_asm); (case kX => k_asm); (case kT => k_asm); (case kC => k_asm); (case kK => first | exact rfl | assumption); (case kd => ktr_room); (case ku => ktr_units); (case kP => dsimp only [lexLed]; (repeat' first | exact Pick.nil | apply Pick.cons | exact Take.head | apply Take.tail)); (case kO => refine LexP.Off.to ?_; (repeat' first | assumption | refine LexP.Off.cons ?_ (by assumption) (by (try dsimp only); (show @LT.lt Nat _ _ _); omega)))); intro v9 led9 tl9 h9 tk9 hp9 hlt9 F9 N9; obtain ⟨rfl, rfl, qe5, tl5, sv5, se5, hs5, rfl⟩ := hp9; dsimp only [lexLed] at N9; simp only [List.cons_append, List.nil_append] at N9)
               k_steps
               refine ListEnd.mk ⟨os, kvs, wr, kr, tl5, sv5, qv1, se5, qe5, seen6, _⟩ (by k_asm) (by k_asm) (by (repeat' first | exact True.intro | refine ⟨?_, ?_⟩ | kernel_rfl | exact rfl)) (by dsimp only [gsLed, lexLed]; simp only [List.cons_append, List.nil_append, hr3]; (repeat' first | exact List.forall_mem_nil _ | refine mem_cons_all ?_ ?_ | exact sub_refl | refine sub_tail ?_ | k_mem)) ⟨⟨hdm, hkm, hwr, hs5⟩, hqv1, rfl, rfl⟩
             · clear hs6 hdm hkm hwr
               intro h9 tk9 m9 y hok F N
               obtain ⟨os, kvs, wr, kr, tl6, sv6, qv, se6, qe6, seen6, rg6⟩ := y
               obtain ⟨⟨hdm, hkm, hwr, hs6⟩, hqv, e1, e2⟩ := hok
               dsimp only [gsLed, lexLed, mB] at *
               subst e1 e2
               rw [List.drop_of_length_le (by simp only [List.length_cons]; omega)] at hqv
               obtain rfl : qv = [] := by cases hqv; rfl
               simp only [List.cons_append, List.nil_append] at N
               k_with_none
               k_steps
               refine ListEnd.mk ⟨os, kvs, wr, kr, tl6, sv6, [], se6, qe6, seen6, _⟩ (by k_asm) (by k_asm) (by (repeat' first | exact True.intro | refine ⟨?_, ?_⟩ | kernel_rfl | exact rfl)) (by dsimp only [gsLed, lexLed]; simp only [List.cons_append, List.nil_append, hr2]; (repeat' first | exact List.forall_mem_nil _ | refine mem_cons_all ?_ ?_ | exact sub_refl | refine sub_tail ?_ | k_mem)) ⟨⟨hdm, hkm, hwr, hs6⟩, rfl, by simp only [List.length_append, List.length_singleton]; omega, hgo'⟩
           · have hcmp : (mkS tu != mkS row) = true := by
               rw [bne_iff_ne]; exact fun e => htr (mkS_inj e)
             rw [if_neg htr] at hT
             split at hT
             · rename_i hsz
               have hrot : rotL (c4 :: q1) = q1 ++ [c4] := rfl
               rw [hrot] at hT
               k_with_none
               k_with "compareOp NotEq str str" => (refine PyProof.Rows.ne_str ?_; rw [hcmp])
               k_with "call ref nil" => (refine' Ctr.use (tok_pop w ⟨x, d, pb, fn, c, x1, d1, sg, ce, pb1, t1, t2, t3, t4, tw, u1, u2, u3, u4, u5, v1, vw, ct, pm, oc, oC, vs, tq⟩ ok' ln rem (.str (mkS [c4]) tc) qv1 qe6 _ ⟨tl6, sv6, se6, hs6, rfl⟩ hqz1) ?kC ?kP ?kO ?kB ?kF ?kX ?kN ?kT ?kK ?kd ?ku ?_; ((case kF => k_asm); (case kN => k_asm); (case kB => k_asm); (case kX => k_asm); (case kT => k_asm); (case kC => k_asm); (case kK => first | exact rfl | assumption); (case kd => ktr_room); (case ku => ktr_units); (case kP => dsimp only [lexLed]; (repeat' first | exact Pick.nil | apply Pick.cons | exact Take.head | apply Take.tail)); (case kO => refine LexP.Off.to ?_; (repeat' first | assumption | refine LexP.Off.cons ?_ (by assumption) (by (try dsimp only); (show @LT.lt Nat _ _ _); omega)))); intro v9 led9 tl9 h9 tk9 hp9 hlt9 F9 N9; obtain ⟨rfl, rfl, qe5, tl5, sv5, se5, hs5, rfl⟩ := hp9; dsimp only [lexLed] at N9; simp only [List.cons_append, List.nil_append] at N9)
               k_with "call ref cons nil" => (refine' Ctr.use (push_token w ⟨x, d, pb, fn, c, x1, d1, sg, ce, pb1, t1, t2, t3, t4, tw, u1, u2, u3, u4, u5, v1, vw, ct, pm, oc, oC, vs, tq⟩ ok' ln rem (.str (mkS [c4]) tc) qv1 qe5 _ ⟨tl5, sv5, se5, hs5, rfl⟩ hqz1) ?kC ?kP ?kO ?kB ?kF ?kX ?kN ?kT ?kK ?kd ?ku ?_; ((case kF => k_asm); (case kN => k_asm); (case kB => k_asm); (case kX => k_asm); (case kT => k_asm); (case kC => k_asm); (case kK => first | exact rfl | assumption); (case kd => ktr_room); (case ku => ktr_units); (case kP => dsimp only [lexLed]; (repeat' first | exact Pick.nil | apply Pick.cons | exact Take.head | apply Take.tail)); (case kO => refine LexP.Off.to ?_; (repeat' first | assumption | refine LexP.Off.cons ?_ (by assumption) (by (try dsimp only); (show @LT.lt Nat _ _ _); omega)))); intro v9 led9 tl9 h9 tk9 hp9 hlt9 F9 N9; obtain ⟨rfl, rfl, qe7, tl7, sv7, se7, hs7, rfl⟩ := hp9; dsimp only [lexLed] at N9; simp only [List.cons_append, List.nil_append] at N9)
               k_with "call builtin:str.join cons nil" => (refine join_list (ys := (q1 ++ [c4]).map fun c => mkS [c]) (News.isList (n := qe7) (by k_asm) (by k_mem)) (by rw [List.map_append]; exact hqv1.append' (.cons _ _ .nil)) (by rw [sum_ones, List.length_map, show (Str.ofString "").length = 0 from rfl, List.length_append, List.length_singleton]; omega) ?_; intro t8 k8; rw [join_ones])
               k_with "setItem ref str" => (refine' kda_set (knd := PySem.strKind _ _) ?zF ?zN ?zU hdm (strKind_is _ _ _ _) ?zz ?_; (case zF => k_asm); (case zN => k_asm); (case zU => k_updF); (case zz => rw [sizeLine_eq]; have hkl := congrArg List.length hkm; simp only [List.length_map] at hkl; omega); intro h9 o9 F9 N9 hd9; (try dsimp only at N9))
               k_steps
               refine TurnEnd.mkM f (fun m => (⟨o9, stored kvs (mkS (q1 ++ [c4])) (.int nz tn), wr, kr, tl7, sv7, qv1 ++ [.str (mkS [c4]) tc], se7, qe7, insK seen7 (q1 ++ [c4]), rg7⟩, (q1 ++ [c4], tokS (m (Str.ofString "turned"))), (nz + 1, tokI (m (Str.ofString "turns")), n + 1), q1 ++ [c4])) (Nat.lt_succ_self _) (by k_asm) (by k_asm) (by (repeat' first | exact True.intro | refine ⟨?_, ?_⟩ | kernel_rfl | exact rfl)) (by (try dsimp only [gsLed, lexLed]); (try simp only [List.cons_append, List.nil_append]); (repeat' first | exact List.forall_mem_nil _ | refine mem_cons_all ?_ ?_ | exact sub_refl | refine sub_tail ?_ | k_mem)) ⟨⟨hd9, stored_ins hkm, hwr, hs7⟩, rfl, by rw [List.map_append]; exact hqv1.append' (.cons _ _ .nil), by simp only [List.length_append, List.length_singleton]; omega, by show nz + 1 = ((n + 1 : Nat) : Int); omega, fun h => absurd h (Nat.succ_ne_zero _), by show n + 1 + f ≤ 9; omega, hT⟩
             · cases hT
set_option maxRecDepth 100000 in
set_option maxHeartbeats 8000000 in
theorem all9 : ∀ a0 a1 a2 a3 a4 a5 a6 a7 a8 a9 a10 a11 a12 a13 a14 a15, seg9.1 a0 a1 a2 a3 a4 a5 a6 a7 a8 a9 a10 a11 a12 a13 a14 a15 := fun a0 a1 a2 a3 a4 a5 a6 a7 a8 a9 a10 a11 a12 a13 a14 a15 => hen_all (G := G9) main9 (a0, a1, a2, a3, a4, a5, a6, a7, a8, a9, a10, a11, a12, a13, a14, a15)
end rings
theorem main9 : seg9.1 w ln rem qe rows l its c0 RGS tl sv se loose mean mg mb rest dp un gd cn cs a ccd cl outer A₀ base h₀ L m s R x d pb fn c x1 d1 sg ce pb1 t1 t2 t3 t4 tw u1 u2 u3 u4 u5 v1 vw ct pm oc oC vs tq z1 z2 z3 Rg z8 z9 tk Sn z10 os0 z14 := rings.seg9.2 ⟨rings.all9⟩ 
set_option maxRecDepth 100000 in
set_option maxHeartbeats 8000000 in
theorem all9 : ∀ a0 a1 a2 a3 a4 a5 a6 a7 a8 a9 a10 a11 a12 a13 a14 a15 a16 a17 a18 a19 a20 a21 a22 a23 a24 a25 a26 a27 a28 a29 a30 a31 a32 a33 a34 a35 a36 a37 a38 a39 a40 a41 a42 a43 a44 a45 a46 a47 a48 a49 a50 a51 a52 a53 a54 a55 a56 a57 a58 a59 a60 a61 a62 a63 a64 a65 a66 a67 a68 a69 a70 a71, seg9.1 a0 a1 a2 a3 a4 a5 a6 a7 a8 a9 a10 a11 a12 a13 a14 a15 a16 a17 a18 a19 a20 a21 a22 a23 a24 a25 a26 a27 a28 a29 a30 a31 a32 a33 a34 a35 a36 a37 a38 a39 a40 a41 a42 a43 a44 a45 a46 a47 a48 a49 a50 a51 a52 a53 a54 a55 a56 a57 a58 a59 a60 a61 a62 a63 a64 a65 a66 a67 a68 a69 a70 a71 := fun a0 a1 a2 a3 a4 a5 a6 a7 a8 a9 a10 a11 a12 a13 a14 a15 a16 a17 a18 a19 a20 a21 a22 a23 a24 a25 a26 a27 a28 a29 a30 a31 a32 a33 a34 a35 a36 a37 a38 a39 a40 a41 a42 a43 a44 a45 a46 a47 a48 a49 a50 a51 a52 a53 a54 a55 a56 a57 a58 a59 a60 a61 a62 a63 a64 a65 a66 a67 a68 a69 a70 a71 => hen_all (G := G9) main9 (a0, a1, a2, a3, a4, a5, a6, a7, a8, a9, a10, a11, a12, a13, a14, a15, a16, a17, a18, a19, a20, a21, a22, a23, a24, a25, a26, a27, a28, a29, a30, a31, a32, a33, a34, a35, a36, a37, a38, a39, a40, a41, a42, a43, a44, a45, a46, a47, a48, a49, a50, a51, a52, a53, a54, a55, a56, a57, a58, a59, a60, a61, a62, a63, a64, a65, a66, a67, a68, a69, a70, a71)
end ringsA
theorem rings (w : World) (P : LexP) (ok : P.Ok) (ln : Int) (rem : List Nat) (qe : Nat) (led : List (Addr × Obj)) (st : LexSt w P ln rem [] qe led) (rows : List (List Nat)) (l : Nat) (its : List Value) (c0 : Nat) (hi : StrsAre its (rows.map mkS)) (hz : rows.length ≤ 500) (hpl : P.pb < l) (RGS : List Nat) (hG : ringsGo 9 rows [] [] = some RGS) : Ctr (fun h => CodeHd h 137 133) PySem.Challenge.rw_wn0028_01.prog w (Mine.hd.heap_1 w.params) PySem.W.topProg 8 100 152 [.ref P.x, .ref l] (led ++ [(l, listOf its.toArray c0)]) (fun v led tl => ∃ (Rg : Addr) (kr : Nat) (wr : List Value), v = .ref Rg ∧ tl = [(Rg, listOf wr.toArray kr)] ∧ IntsAre wr (RGS.map fun (n : Nat) => (n : Int)) ∧ ∃ lx qe, led = lx ++ [(l, listOf its.toArray c0)] ∧ LexSt w P ln rem [] qe lx) := ringsA.seg9.2 ⟨ringsA.all9⟩ w P ok ln rem qe led st rows l its c0 hi hz hpl RGS hG

end Mine
namespace Mine
theorem reset_quotient : True := by
  w_top off
  trivial
noncomputable def qIn : Nat → Nat → Nat × Int × Int → Nat × Int × Int
  | 0, _, st => st
  | k + 1, j, (n, a, b) => qIn k (j + 1) (n + 1, a * (16 ^ (n + 1) - 1), b * (16 ^ j - 1))
noncomputable def qOut : List Nat → Nat × Int × Int → Nat × Int × Int
  | [], st => st
  | z :: r, st => qOut r (qIn z 1 st)
noncomputable def quotF (szs : List Nat) : Int := (qOut szs (0, 1, 1)).2.1.fdiv (qOut szs (0, 1, 1)).2.2
theorem p16 (k : Nat) (h : k ≤ 10) : 1 ≤ (16 : Int) ^ k ∧ (16 : Int) ^ k ≤ 16 ^ 10 := by
  refine ⟨?_, ?_⟩
  · have : (0 : Int) < 16 ^ k := Int.pow_pos (by decide)
    omega
  · have := Nat.pow_le_pow_right (n := 16) (by decide) h
    exact_mod_cast this
theorem p16b {a : Int} (k : Nat) (h : k ≤ 10) : IntMulOk a ((16 : Int) ^ k - 1) := .of_right (intBits_le_64 (by have := p16 k h; omega) (by have := p16 k h; omega))
namespace quotient
set_option maxRecDepth 100000 in
set_option maxHeartbeats 4000000 in
noncomputable def seg9 : {p : PySem.World → (List PySem.Value) → (List Nat) → (List PySem.Str) → (PySem.ExcName → Option PySem.Value) → (PySem.Str → Option PySem.Value) → (PySem.Str → Option PySem.Value) → (List (PySem.Addr × PySem.Obj)) → Nat → Nat → (Option (List PySem.Code)) → PySem.Str → PySem.Scope → PySem.Addr → PySem.Value → (List (PySem.Str × PySem.Addr)) → (List PySem.Env) → PySem.Heap → PySem.Addr → (PySem.Str → Option PySem.Value) → PySem.Shared → (PySem.Result → PySem.Shared → Prop) → PySem.Heap → PySem.Addr → Nat → PySem.Heap → Nat → (PySem.Str → Option PySem.Value) → (List (PySem.Addr × PySem.Obj)) → Nat → Int → Int → PySem.Tok → PySem.Tok → PySem.Tok → PySem.Tok → (List (PySem.Addr × PySem.Obj)) → Prop // Hid (∀ a0 a1 a2 a3 a4 a5 a6 a7 a8 a9 a10 a11 a12 a13 a14 a15 a16 a17 a18 a19 a20 a21 a22 a23 a24 a25 a26 a27 a28 a29 a30 a31 a32 a33 a34 a35 a36, p a0 a1 a2 a3 a4 a5 a6 a7 a8 a9 a10 a11 a12 a13 a14 a15 a16 a17 a18 a19 a20 a21 a22 a23 a24 a25 a26 a27 a28 a29 a30 a31 a32 a33 a34 a35 a36) → ∀ (w : World) (l : Addr) (its : List Value) (c : Nat) (szs : List Nat) (hi : IntsAre its (szs.map fun (x : Nat) => (x : Int))) (hz : szs.length ≤ 3) (hb : ∀ a ∈ szs, 1 ≤ a ∧ a ≤ 3) (hne : (qOut szs (0, 1, 1)).2.2 ≠ 0) (hlo : (qOut szs (0, 1, 1)).2.2.natAbs.log2 < 9000), CtrR PySem.Challenge.rw_wn0028_01.prog w (Mine.hd.heap_1 w.params) PySem.W.topProg 2 30 164 [.ref l] [(l, listOf its.toArray c)] (fun v tl => tl = [] ∧ ∃ tk, v = .int (quotF szs) tk)} := segOf (by
   intro ht9
   intro w l its c szs hi hz hb hne hlo
   intro loose mean mg mb rest dp un gd cn cs aa ccd cl outer A₀ base h₀ L m s R hled B F₀ X N₀ T hk hd hu hret
   k_with_none
   have hm := hled _ (.head _)
   k_with "exec For Name Name cons nil" => refine stop_in ?_
   k_with "pyIter ref" => refine stop_in ?_
   k_dflt cell_enter
   k_steps
   refine stop_out ?_
   refine wpAny_For ?_
   k_steps
   refine stop_out ?_
   refine for_listR (σ := (Nat × Int × Int) × Tok × Tok × Tok) (env := envOf _ _ _ _ _) (by k_asm) (by k_asm) hm rfl (fun y => [(Str.ofString "above", .int y.1.2.1 y.2.1), (Str.ofString "below", .int y.1.2.2 y.2.2.1), (Str.ofString "length", .int (y.1.1 : Int) y.2.2.2)]) (fun i y => y.1.1 ≤ 3 * i ∧ qOut (szs.drop i) y.1 = qOut szs (0, 1, 1)) ((0, 1, 1), _, _, _) ⟨rfl, rfl, rfl, trivial⟩ ⟨by show 0 ≤ 3 * 0; decide, rfl⟩ ?_ ?_
   · intro i v y h tk m₁ own hv hok F N
     obtain ⟨⟨n, a, b⟩, ta, tb, tn⟩ := y
     obtain ⟨hn, hq⟩ := hok
     obtain ⟨z, tz, rfl, hz9⟩ := ints_at hi hv
     obtain ⟨x, hx, hxz⟩ : ∃ x, szs[i]? = some x ∧ (x : Int) = z := by
       simpa [List.getElem?_map, Option.map_eq_some_iff] using hz9
     have hx1 := hb x (List.mem_of_getElem? hx)
     have hi3 : i < 3 := by
       have := (List.getElem?_eq_some_iff.mp hx).1; omega
     have hd9 : szs.drop i = x :: szs.drop (i + 1) := by
       obtain ⟨h1, e⟩ := List.getElem?_eq_some_iff.mp hx
       rw [List.drop_eq_getElem_cons h1, e]
     rw [hd9, qOut] at hq
     obtain ⟨R2, hR2⟩ : ∃ R2, R2 = rest ++ own := ⟨_, rfl⟩
     rw [← hR2] at N
     dsimp only [mB] at *
     have hp1 := p16 (n + 1) (by omega)
     have hp2 := p16 (n + 2) (by omega)
     have hp3 := p16 (n + 3) (by omega)
     rename_i z1 z2 z3 y4 y5 y6 y7 z8 z9 z10 z11 y12 y13
     clear l c hi hz hb hne hlo A₀ base hled B F₀ X N₀ T hk hd hu hret hm z3 y4 y5 z8 z9 z10 z11 y12 y13 hp1 hp2 hp3
     revert y6 y7 qk ek hn z hz9 hv F x hq hx hxz hx1 hi3 hd9 N hR2
     exact ht9.out w its szs loose mean mg mb rest dp un gd cn cs aa ccd cl outer h₀ L m s R z1 z2 i h tk m₁ own n a b ta tb tn tz R2
   · intro h' tk m₁ y hok F N
     obtain ⟨⟨n, a, b⟩, ta, tb, tn⟩ := y
     obtain ⟨hn, hq⟩ := hok
     rw [show szs.drop its.length = [] by rw [IntsAre.length hi]; simp] at hq
     simp only [qOut] at hq
     dsimp only [mB] at *
     rw [← hq] at hne hlo
     k_with_none
     k_with "binaryOp FloorDiv int int" => refine floordiv_int (by exact hne) ?_ (Or.inl (PyProof.noPylong_of_log2 hlo))
     k_steps
     have e : quotF szs = a.fdiv b := by unfold quotF; rw [← hq]
     rw [e] at hret
     exact hret _ [] _ _ ⟨rfl, _, rfl⟩ (fun _ _ _ h => nomatch h) (by k_asm) (by k_asm))
noncomputable def G9 (d : PySem.World × (List PySem.Value) × (List Nat) × (List PySem.Str) × (PySem.ExcName → Option PySem.Value) × (PySem.Str → Option PySem.Value) × (PySem.Str → Option PySem.Value) × (List (PySem.Addr × PySem.Obj)) × Nat × Nat × (Option (List PySem.Code)) × PySem.Str × PySem.Scope × PySem.Addr × PySem.Value × (List (PySem.Str × PySem.Addr)) × (List PySem.Env) × PySem.Heap × PySem.Addr × (PySem.Str → Option PySem.Value) × PySem.Shared × (PySem.Result → PySem.Shared → Prop) × PySem.Heap × PySem.Addr × Nat × PySem.Heap × Nat × (PySem.Str → Option PySem.Value) × (List (PySem.Addr × PySem.Obj)) × Nat × Int × Int × PySem.Tok × PySem.Tok × PySem.Tok × PySem.Tok × (List (PySem.Addr × PySem.Obj))) : Prop := seg9.1 d.1 d.2.1 d.2.2.1 d.2.2.2.1 d.2.2.2.2.1 d.2.2.2.2.2.1 d.2.2.2.2.2.2.1 d.2.2.2.2.2.2.2.1 d.2.2.2.2.2.2.2.2.1 d.2.2.2.2.2.2.2.2.2.1 d.2.2.2.2.2.2.2.2.2.2.1 d.2.2.2.2.2.2.2.2.2.2.2.1 d.2.2.2.2.2.2.2.2.2.2.2.2.1 d.2.2.2.2.2.2.2.2.2.2.2.2.2.1 d.2.2.2.2.2.2.2.2.2.2.2.2.2.2.1 d.2.2.2.2.2.2.2.2.2.2.2.2.2.2.2.1 d.2.2.2.2.2.2.2.2.2.2.2.2.2.2.2.2.1 d.2.2.2.2.2.2.2.2.2.2.2.2.2.2.2.2.2.1 d.2.2.2.2.2.2.2.2.2.2.2.2.2.2.2.2.2.2.1 d.2.2.2.2.2.2.2.2.2.2.2.2.2.2.2.2.2.2.2.1 d.2.2.2.2.2.2.2.2.2.2.2.2.2.2.2.2.2.2.2.2.1 d.2.2.2.2.2.2.2.2.2.2.2.2.2.2.2.2.2.2.2.2.2.1 d.2.2.2.2.2.2.2.2.2.2.2.2.2.2.2.2.2.2.2.2.2.2.1 d.2.2.2.2.2.2.2.2.2.2.2.2.2.2.2.2.2.2.2.2.2.2.2.1 d.2.2.2.2.2.2.2.2.2.2.2.2.2.2.2.2.2.2.2.2.2.2.2.2.1 d.2.2.2.2.2.2.2.2.2.2.2.2.2.2.2.2.2.2.2.2.2.2.2.2.2.1 d.2.2.2.2.2.2.2.2.2.2.2.2.2.2.2.2.2.2.2.2.2.2.2.2.2.2.1 d.2.2.2.2.2.2.2.2.2.2.2.2.2.2.2.2.2.2.2.2.2.2.2.2.2.2.2.1 d.2.2.2.2.2.2.2.2.2.2.2.2.2.2.2.2.2.2.2.2.2.2.2.2.2.2.2.2.1 d.2.2.2.2.2.2.2.2.2.2.2.2.2.2.2.2.2.2.2.2.2.2.2.2.2.2.2.2.2.1 d.2.2.2.2.2.2.2.2.2.2.2.2.2.2.2.2.2.2.2.2.2.2.2.2.2.2.2.2.2.2.1 d.2.2.2.2.2.2.2.2.2.2.2.2.2.2.2.2.2.2.2.2.2.2.2.2.2.2.2.2.2.2.2.1 d.2.2.2.2.2.2.2.2.2.2.2.2.2.2.2.2.2.2.2.2.2.2.2.2.2.2.2.2.2.2.2.2.1 d.2.2.2.2.2.2.2.2.2.2.2.2.2.2.2.2.2.2.2.2.2.2.2.2.2.2.2.2.2.2.2.2.2.1 d.2.2.2.2.2.2.2.2.2.2.2.2.2.2.2.2.2.2.2.2.2.2.2.2.2.2.2.2.2.2.2.2.2.2.1 d.2.2.2.2.2.2.2.2.2.2.2.2.2.2.2.2.2.2.2.2.2.2.2.2.2.2.2.2.2.2.2.2.2.2.2.1 d.2.2.2.2.2.2.2.2.2.2.2.2.2.2.2.2.2.2.2.2.2.2.2.2.2.2.2.2.2.2.2.2.2.2.2.2
noncomputable def tup9z : PySem.World × (List PySem.Value) × (List Nat) × (List PySem.Str) × (PySem.ExcName → Option PySem.Value) × (PySem.Str → Option PySem.Value) × (PySem.Str → Option PySem.Value) × (List (PySem.Addr × PySem.Obj)) × Nat × Nat × (Option (List PySem.Code)) × PySem.Str × PySem.Scope × PySem.Addr × PySem.Value × (List (PySem.Str × PySem.Addr)) × (List PySem.Env) × PySem.Heap × PySem.Addr × (PySem.Str → Option PySem.Value) × PySem.Shared × (PySem.Result → PySem.Shared → Prop) × PySem.Heap × PySem.Addr × Nat × PySem.Heap × Nat × (PySem.Str → Option PySem.Value) × (List (PySem.Addr × PySem.Obj)) × Nat × Int × Int × PySem.Tok × PySem.Tok × PySem.Tok × PySem.Tok × (List (PySem.Addr × PySem.Obj)) := hen (World9, [], [], [], (fun _ => none), (fun _ => none), (fun _ => none), [], (0 : Nat), (0 : Nat), none, (default : Str), (default : Scope), (0 : Nat), (default : Value), [], [], (default : Heap), (0 : Nat), (fun _ => none), ({} : Shared), (fun _ => (fun _ => True)), (default : Heap), (0 : Nat), (0 : Nat), (default : Heap), (0 : Nat), (fun _ => none), [], (0 : Nat), (0 : Int), (0 : Int), (0 : Nat), (0 : Nat), (0 : Nat), (0 : Nat), []) G9
noncomputable def w : PySem.World := tup9z.1
noncomputable def its : List PySem.Value := tup9z.2.1
noncomputable def szs : List Nat := tup9z.2.2.1
noncomputable def loose : List PySem.Str := tup9z.2.2.2.1
noncomputable def mean : PySem.ExcName → Option PySem.Value := tup9z.2.2.2.2.1
noncomputable def mg : PySem.Str → Option PySem.Value := tup9z.2.2.2.2.2.1
noncomputable def mb : PySem.Str → Option PySem.Value := tup9z.2.2.2.2.2.2.1
noncomputable def rest : List (PySem.Addr × PySem.Obj) := tup9z.2.2.2.2.2.2.2.1
noncomputable def dp : Nat := tup9z.2.2.2.2.2.2.2.2.1
noncomputable def un : Nat := tup9z.2.2.2.2.2.2.2.2.2.1
noncomputable def gd : Option (List PySem.Code) := tup9z.2.2.2.2.2.2.2.2.2.2.1
noncomputable def cn : PySem.Str := tup9z.2.2.2.2.2.2.2.2.2.2.2.1
noncomputable def cs : PySem.Scope := tup9z.2.2.2.2.2.2.2.2.2.2.2.2.1
noncomputable def aa : PySem.Addr := tup9z.2.2.2.2.2.2.2.2.2.2.2.2.2.1
noncomputable def ccd : PySem.Value := tup9z.2.2.2.2.2.2.2.2.2.2.2.2.2.2.1
noncomputable def cl : List (PySem.Str × PySem.Addr) := tup9z.2.2.2.2.2.2.2.2.2.2.2.2.2.2.2.1
noncomputable def outer : List PySem.Env := tup9z.2.2.2.2.2.2.2.2.2.2.2.2.2.2.2.2.1
noncomputable def h₀ : PySem.Heap := tup9z.2.2.2.2.2.2.2.2.2.2.2.2.2.2.2.2.2.1
noncomputable def L : PySem.Addr := tup9z.2.2.2.2.2.2.2.2.2.2.2.2.2.2.2.2.2.2.1
noncomputable def m : PySem.Str → Option PySem.Value := tup9z.2.2.2.2.2.2.2.2.2.2.2.2.2.2.2.2.2.2.2.1
noncomputable def s : PySem.Shared := tup9z.2.2.2.2.2.2.2.2.2.2.2.2.2.2.2.2.2.2.2.2.1
noncomputable def R : PySem.Result → PySem.Shared → Prop := tup9z.2.2.2.2.2.2.2.2.2.2.2.2.2.2.2.2.2.2.2.2.2.1
noncomputable def z1 : PySem.Heap := tup9z.2.2.2.2.2.2.2.2.2.2.2.2.2.2.2.2.2.2.2.2.2.2.1
noncomputable def z2 : PySem.Addr := tup9z.2.2.2.2.2.2.2.2.2.2.2.2.2.2.2.2.2.2.2.2.2.2.2.1
noncomputable def i : Nat := tup9z.2.2.2.2.2.2.2.2.2.2.2.2.2.2.2.2.2.2.2.2.2.2.2.2.1
noncomputable def h : PySem.Heap := tup9z.2.2.2.2.2.2.2.2.2.2.2.2.2.2.2.2.2.2.2.2.2.2.2.2.2.1
noncomputable def tk : Nat := tup9z.2.2.2.2.2.2.2.2.2.2.2.2.2.2.2.2.2.2.2.2.2.2.2.2.2.2.1
noncomputable def m₁ : PySem.Str → Option PySem.Value := tup9z.2.2.2.2.2.2.2.2.2.2.2.2.2.2.2.2.2.2.2.2.2.2.2.2.2.2.2.1
noncomputable def own : List (PySem.Addr × PySem.Obj) := tup9z.2.2.2.2.2.2.2.2.2.2.2.2.2.2.2.2.2.2.2.2.2.2.2.2.2.2.2.2.1
noncomputable def n : Nat := tup9z.2.2.2.2.2.2.2.2.2.2.2.2.2.2.2.2.2.2.2.2.2.2.2.2.2.2.2.2.2.1
noncomputable def a : Int := tup9z.2.2.2.2.2.2.2.2.2.2.2.2.2.2.2.2.2.2.2.2.2.2.2.2.2.2.2.2.2.2.1
noncomputable def b : Int := tup9z.2.2.2.2.2.2.2.2.2.2.2.2.2.2.2.2.2.2.2.2.2.2.2.2.2.2.2.2.2.2.2.1
noncomputable def ta : PySem.Tok := tup9z.2.2.2.2.2.2.2.2.2.2.2.2.2.2.2.2.2.2.2.2.2.2.2.2.2.2.2.2.2.2.2.2.1
noncomputable def tb : PySem.Tok := tup9z.2.2.2.2.2.2.2.2.2.2.2.2.2.2.2.2.2.2.2.2.2.2.2.2.2.2.2.2.2.2.2.2.2.1
noncomputable def tn : PySem.Tok := tup9z.2.2.2.2.2.2.2.2.2.2.2.2.2.2.2.2.2.2.2.2.2.2.2.2.2.2.2.2.2.2.2.2.2.2.1
noncomputable def tz : PySem.Tok := tup9z.2.2.2.2.2.2.2.2.2.2.2.2.2.2.2.2.2.2.2.2.2.2.2.2.2.2.2.2.2.2.2.2.2.2.2.1
noncomputable def R2 : List (PySem.Addr × PySem.Obj) := tup9z.2.2.2.2.2.2.2.2.2.2.2.2.2.2.2.2.2.2.2.2.2.2.2.2.2.2.2.2.2.2.2.2.2.2.2.2
set_option maxRecDepth 100000 in
set_option maxHeartbeats 4000000 in
theorem main9 : seg9.1 w its szs loose mean mg mb rest dp un gd cn cs aa ccd cl outer h₀ L m s R z1 z2 i h tk m₁ own n a b ta tb tn tz R2 := by
     delta seg9 segOf
     dsimp -zeta only
     intro y6 y7 qk ek hn z hz9 hv F x hq hx hxz hx1 hi3 hd9 N hR2
     k_with_none
     k_with "inplaceOp Mult int int" => (refine imul_int ?_ (by first | exact p16b _ (by omega) | exact .of_right (by decide)))
     k_with "UnrEnd" => refine UnrEnd.intro (by k_asm) (by k_asm) R2 (List.forall_mem_cons.mpr ⟨by k_mem, fun p hp => List.mem_cons_of_mem _ hp⟩) (by k_all) ?_
     obtain ⟨rfl, rfl⟩ | ⟨rfl, rfl⟩ | ⟨rfl, rfl⟩ : (x = 1 ∧ z = 1) ∨ (x = 2 ∧ z = 2) ∨ (x = 3 ∧ z = 3) := by omega
     · k_steps
       refine ListEnd.mk ((n + 1, _, _), _, _, _) (by k_asm) (by k_asm) (by exact ⟨rfl, rfl, rfl, trivial⟩) (fun p hp => hR2 ▸ hp) ⟨by show n + 1 ≤ 3 * (i + 1); omega, by exact hq⟩
     · k_steps
       refine ListEnd.mk ((n + 2, _, _), _, _, _) (by k_asm) (by k_asm) (by exact ⟨rfl, rfl, rfl, trivial⟩) (fun p hp => hR2 ▸ hp) ⟨by show n + 2 ≤ 3 * (i + 1); omega, by exact hq⟩
     · k_steps
       refine ListEnd.mk ((n + 3, _, _), _, _, _) (by k_asm) (by k_asm) (by exact ⟨rfl, rfl, rfl, trivial⟩) (fun p hp => hR2 ▸ hp) ⟨by show n + 3 ≤ 3 * (i + 1); omega, by exact hq⟩
set_option maxRecDepth 100000 in
set_option maxHeartbeats 4000000 in
theorem all9 : ∀ a0 a1 a2 a3 a4 a5 a6 a7 a8 a9 a10 a11 a12 a13 a14 a15 a16 a17 a18 a19 a20 a21 a22 a23 a24 a25 a26 a27 a28 a29 a30 a31 a32 a33 a34 a35 a36, seg9.1 a0 a1 a2 a3 a4 a5 a6 a7 a8 a9 a10 a11 a12 a13 a14 a15 a16 a17 a18 a19 a20 a21 a22 a23 a24 a25 a26 a27 a28 a29 a30 a31 a32 a33 a34 a35 a36 := fun a0 a1 a2 a3 a4 a5 a6 a7 a8 a9 a10 a11 a12 a13 a14 a15 a16 a17 a18 a19 a20 a21 a22 a23 a24 a25 a26 a27 a28 a29 a30 a31 a32 a33 a34 a35 a36 => hen_all (G := G9) main9 (a0, a1, a2, a3, a4, a5, a6, a7, a8, a9, a10, a11, a12, a13, a14, a15, a16, a17, a18, a19, a20, a21, a22, a23, a24, a25, a26, a27, a28, a29, a30, a31, a32, a33, a34, a35, a36)
end quotient
theorem quotient (w : World) (l : Addr) (its : List Value) (c : Nat) (szs : List Nat) (hi : IntsAre its (szs.map fun (x : Nat) => (x : Int))) (hz : szs.length ≤ 3) (hb : ∀ a ∈ szs, 1 ≤ a ∧ a ≤ 3) (hne : (qOut szs (0, 1, 1)).2.2 ≠ 0) (hlo : (qOut szs (0, 1, 1)).2.2.natAbs.log2 < 9000) : CtrR PySem.Challenge.rw_wn0028_01.prog w (Mine.hd.heap_1 w.params) PySem.W.topProg 2 30 164 [.ref l] [(l, listOf its.toArray c)] (fun v tl => tl = [] ∧ ∃ tk, v = .int (quotF szs) tk) := quotient.seg9.2 ⟨quotient.all9⟩ w l its c szs hi hz hb hne hlo

end Mine
namespace Mine
theorem reset_counted : True := by
  w_top off
  trivial
noncomputable def cntW (rg : List Nat) : Nat → List Nat
  | 0 => []
  | i + 1 => (65 + (rg.filter fun r => i % r == 0).length) :: cntW rg i
theorem cntW_len (rg : List Nat) : ∀ i, (cntW rg i).length = i
  | 0 => rfl
  | i + 1 => by rw [cntW, List.length_cons, cntW_len rg i]
theorem cnt_mod {j r : Nat} : (j : Int).fmod (r : Int) = 0 ↔ (j % r == 0) = true := by
  rw [Int.fmod_eq_emod_of_nonneg _ (Int.natCast_nonneg r)]
  simp only [beq_iff_eq]
  omega
namespace counted
set_option maxRecDepth 100000 in
set_option maxHeartbeats 4000000 in
noncomputable def seg9 : {p : PySem.World → PySem.Addr → (List PySem.Value) → Nat → (List Nat) → Nat → PySem.Tok → (List PySem.Str) → (PySem.ExcName → Option PySem.Value) → (PySem.Str → Option PySem.Value) → (PySem.Str → Option PySem.Value) → (List (PySem.Addr × PySem.Obj)) → Nat → Nat → (Option (List PySem.Code)) → PySem.Str → PySem.Scope → PySem.Addr → PySem.Value → (List (PySem.Str × PySem.Addr)) → (List PySem.Env) → PySem.Around → PySem.Heap → PySem.Heap → PySem.Addr → (PySem.Str → Option PySem.Value) → PySem.Shared → (PySem.Result → PySem.Shared → Prop) → PySem.Heap → PySem.Addr → PySem.Heap → Nat → PySem.Obj → PySem.Heap → PySem.Addr → PySem.Heap → Nat → Nat → PySem.Heap → Nat → (PySem.Str → Option PySem.Value) → Nat → PySem.Tok → PySem.Obj → (Option PySem.Value) → PySem.Heap → PySem.Tok → Prop // Hid (∀ a0 a1 a2 a3 a4 a5 a6 a7 a8 a9 a10 a11 a12 a13 a14 a15 a16 a17 a18 a19 a20 a21 a22 a23 a24 a25 a26 a27 a28 a29 a30 a31 a32 a33 a34 a35 a36 a37 a38 a39 a40 a41 a42 a43 a44 a45 a46, p a0 a1 a2 a3 a4 a5 a6 a7 a8 a9 a10 a11 a12 a13 a14 a15 a16 a17 a18 a19 a20 a21 a22 a23 a24 a25 a26 a27 a28 a29 a30 a31 a32 a33 a34 a35 a36 a37 a38 a39 a40 a41 a42 a43 a44 a45 a46) → ∀ (w : World) (l : Addr) (its : List Value) (c : Nat) (rg : List Nat) (hi : IntsAre its (rg.map fun (x : Nat) => (x : Int))) (hz : rg.length ≤ 100) (hb : ∀ r ∈ rg, 1 ≤ r) (n : Nat) (u : Tok) (hn : n ≤ 8), CtrR PySem.Challenge.rw_wn0028_01.prog w (Mine.hd.heap_1 w.params) PySem.W.topProg 2 30 157 [.ref l, .int (n : Int) u] [(l, listOf its.toArray c)] (fun v tl => tl = [] ∧ ∃ tk, v = .str (mkS (cntW rg n)) tk)} := segOf (by
   intro ht9
   intro w l its c rg hi hz hb n u hn
   intro loose mean mg mb rest dp un gd cn cs aa ccd cl outer A₀ base h₀ L m s R hled B F₀ X N₀ T hk hd hu hret
   k_with_none
   have hm := hled _ (.head _)
   k_with "call type:range cons nil" => refine stop_in ?_
   k_with "exec For Name Call cons nil" => refine stop_in ?_
   k_dflt ((refine' code_defC ?k1 ?k2 ?k3 ?k4 ?k5 ?kA ?kF ?kK ?k6 ?k7 ?k8 ?k9 ?kB ?kD ?_ ?c2 ?c3 ?c4; (case kA => exact rfl); (case kF => exact rfl); (case kK => assumption); (case k1 => k_asm); (case k2 => k_asm); (case k3 => k_asm); (case k4 => k_asm); (case k5 => k_asm); (case k6 => k_is); (case k7 => k_is); (case k8 => ktr_room); (case k9 => exact BindsTo.of_eq rfl); (case kB => exact rfl); (case kD => decide +kernel); (case c2 => exact rfl); (case c3 => exact rfl); (case c4 => exact rfl); k_whole; intro g9z L9z h9z tk9z cells9z FG9z F9z N9z Y9z B9z X9z T9z l19z; (try k_lt l19z); k_cells Y9z; (try simp only [List.cons_append, List.nil_append] at N9z); (try dsimp only); (try k_lift B9z); (try k_fold)))
   k_steps
   refine stop_out ?_
   refine wpAny_For ?_
   k_steps
   refine stop_out ?_
   rename_i o9 d9 _ F9 N9
   refine range_start n rfl (by omega) (by k_asm) (by k_asm) ?_
   intro it h1 tk1 F1 N1 l1
   have hL : @LT.lt Nat _ L9z it := Nat.lt_of_succ_lt (l1 _ (.head _))
   have hL2 : @LT.lt Nat _ (L9z + 1) it := l1 _ (.head _)
   refine for_code (σ := Nat × List Nat × Tok × Obj × Option Value) (env := envOfC _ _ _ _ _) (fun y => [(Str.ofString "rings", .ref l), (Str.ofString "word", .str (mkS y.2.1) y.2.2.1)]) (fun y => (it, rIter (y.1 : Int) ((n : Int) - (y.1 : Int))) :: (L9z + 1, y.2.2.2.1) :: rest) (fun k y => (y.1 ≤ n ∧ y.1 + k = n + 1) ∧ y.2.1 = cntW rg y.1 ∧ y.2.2.2.1.data = .cell y.2.2.2.2) (n + 1) (0, [], _, o9, _) F1 N1 (by exact ⟨rfl, rfl, trivial⟩) (by show ∀ p ∈ (it, rIter 0 ((n : Int) - 0)) :: (L9z + 1, o9) :: rest, p ∈ (it, rIter 0 (n : Int)) :: (L9z + 1, o9) :: rest; rw [Int.sub_zero]; exact fun _ h => h) ⟨⟨Nat.zero_le _, Nat.zero_add _⟩, rfl, d9⟩ ?_
   clear N9 F9 N1 F1
   intro k y h tk m₁ hok F N
   obtain ⟨j, wd, tw, oc9, cv⟩ := y
   obtain ⟨hj, hw, hcv⟩ := hok
   dsimp only at hj hw hcv N
   subst hw
   refine range_next rfl (by k_asm) N (List.forall_mem_cons.mpr ⟨by (show @Ne Nat _ _); omega, raw_ne l19z (by omega)⟩) ?_ ?_
   · intro hlt h2 t2 F2 N2
     dsimp only [mB] at *
     rename_i z1
     clear hled B X N₀ T hk hd hu hret FG9z B9z d9 l1 hL
     revert hi hz hb hn F₀ hm X9z T9z l19z hL2 N hj hcv F hlt F2 N2
     exact ht9.out w l its c rg n u loose mean mg mb rest dp un gd cn cs aa ccd cl outer A₀ base h₀ L m s R g9z L9z h9z tk9z o9 z1 it h1 tk1 k h tk m₁ j tw oc9 cv h2 t2
   · intro hge h2 F2 N2
     have hge' : (n : Int) - (j : Int) ≤ 0 := hge
     obtain ⟨hj1, hj2⟩ := hj
     obtain rfl : j = n := by omega
     dsimp only [mB] at *
     k_with_none
     k_steps
     exact hret _ [] _ _ ⟨rfl, _, rfl⟩ (fun _ _ _ h => nomatch h) (by k_asm) (news_of (by k_asm) (by (repeat' first | exact sub_refl | refine sub_tail ?_))))
noncomputable def G9 (d : PySem.World × PySem.Addr × (List PySem.Value) × Nat × (List Nat) × Nat × PySem.Tok × (List PySem.Str) × (PySem.ExcName → Option PySem.Value) × (PySem.Str → Option PySem.Value) × (PySem.Str → Option PySem.Value) × (List (PySem.Addr × PySem.Obj)) × Nat × Nat × (Option (List PySem.Code)) × PySem.Str × PySem.Scope × PySem.Addr × PySem.Value × (List (PySem.Str × PySem.Addr)) × (List PySem.Env) × PySem.Around × PySem.Heap × PySem.Heap × PySem.Addr × (PySem.Str → Option PySem.Value) × PySem.Shared × (PySem.Result → PySem.Shared → Prop) × PySem.Heap × PySem.Addr × PySem.Heap × Nat × PySem.Obj × PySem.Heap × PySem.Addr × PySem.Heap × Nat × Nat × PySem.Heap × Nat × (PySem.Str → Option PySem.Value) × Nat × PySem.Tok × PySem.Obj × (Option PySem.Value) × PySem.Heap × PySem.Tok) : Prop := seg9.1 d.1 d.2.1 d.2.2.1 d.2.2.2.1 d.2.2.2.2.1 d.2.2.2.2.2.1 d.2.2.2.2.2.2.1 d.2.2.2.2.2.2.2.1 d.2.2.2.2.2.2.2.2.1 d.2.2.2.2.2.2.2.2.2.1 d.2.2.2.2.2.2.2.2.2.2.1 d.2.2.2.2.2.2.2.2.2.2.2.1 d.2.2.2.2.2.2.2.2.2.2.2.2.1 d.2.2.2.2.2.2.2.2.2.2.2.2.2.1 d.2.2.2.2.2.2.2.2.2.2.2.2.2.2.1 d.2.2.2.2.2.2.2.2.2.2.2.2.2.2.2.1 d.2.2.2.2.2.2.2.2.2.2.2.2.2.2.2.2.1 d.2.2.2.2.2.2.2.2.2.2.2.2.2.2.2.2.2.1 d.2.2.2.2.2.2.2.2.2.2.2.2.2.2.2.2.2.2.1 d.2.2.2.2.2.2.2.2.2.2.2.2.2.2.2.2.2.2.2.1 d.2.2.2.2.2.2.2.2.2.2.2.2.2.2.2.2.2.2.2.2.1 d.2.2.2.2.2.2.2.2.2.2.2.2.2.2.2.2.2.2.2.2.2.1 d.2.2.2.2.2.2.2.2.2.2.2.2.2.2.2.2.2.2.2.2.2.2.1 d.2.2.2.2.2.2.2.2.2.2.2.2.2.2.2.2.2.2.2.2.2.2.2.1 d.2.2.2.2.2.2.2.2.2.2.2.2.2.2.2.2.2.2.2.2.2.2.2.2.1 d.2.2.2.2.2.2.2.2.2.2.2.2.2.2.2.2.2.2.2.2.2.2.2.2.2.1 d.2.2.2.2.2.2.2.2.2.2.2.2.2.2.2.2.2.2.2.2.2.2.2.2.2.2.1 d.2.2.2.2.2.2.2.2.2.2.2.2.2.2.2.2.2.2.2.2.2.2.2.2.2.2.2.1 d.2.2.2.2.2.2.2.2.2.2.2.2.2.2.2.2.2.2.2.2.2.2.2.2.2.2.2.2.1 d.2.2.2.2.2.2.2.2.2.2.2.2.2.2.2.2.2.2.2.2.2.2.2.2.2.2.2.2.2.1 d.2.2.2.2.2.2.2.2.2.2.2.2.2.2.2.2.2.2.2.2.2.2.2.2.2.2.2.2.2.2.1 d.2.2.2.2.2.2.2.2.2.2.2.2.2.2.2.2.2.2.2.2.2.2.2.2.2.2.2.2.2.2.2.1 d.2.2.2.2.2.2.2.2.2.2.2.2.2.2.2.2.2.2.2.2.2.2.2.2.2.2.2.2.2.2.2.2.1 d.2.2.2.2.2.2.2.2.2.2.2.2.2.2.2.2.2.2.2.2.2.2.2.2.2.2.2.2.2.2.2.2.2.1 d.2.2.2.2.2.2.2.2.2.2.2.2.2.2.2.2.2.2.2.2.2.2.2.2.2.2.2.2.2.2.2.2.2.2.1 d.2.2.2.2.2.2.2.2.2.2.2.2.2.2.2.2.2.2.2.2.2.2.2.2.2.2.2.2.2.2.2.2.2.2.2.1 d.2.2.2.2.2.2.2.2.2.2.2.2.2.2.2.2.2.2.2.2.2.2.2.2.2.2.2.2.2.2.2.2.2.2.2.2.1 d.2.2.2.2.2.2.2.2.2.2.2.2.2.2.2.2.2.2.2.2.2.2.2.2.2.2.2.2.2.2.2.2.2.2.2.2.2.1 d.2.2.2.2.2.2.2.2.2.2.2.2.2.2.2.2.2.2.2.2.2.2.2.2.2.2.2.2.2.2.2.2.2.2.2.2.2.2.1 d.2.2.2.2.2.2.2.2.2.2.2.2.2.2.2.2.2.2.2.2.2.2.2.2.2.2.2.2.2.2.2.2.2.2.2.2.2.2.2.1 d.2.2.2.2.2.2.2.2.2.2.2.2.2.2.2.2.2.2.2.2.2.2.2.2.2.2.2.2.2.2.2.2.2.2.2.2.2.2.2.2.1 d.2.2.2.2.2.2.2.2.2.2.2.2.2.2.2.2.2.2.2.2.2.2.2.2.2.2.2.2.2.2.2.2.2.2.2.2.2.2.2.2.2.1 d.2.2.2.2.2.2.2.2.2.2.2.2.2.2.2.2.2.2.2.2.2.2.2.2.2.2.2.2.2.2.2.2.2.2.2.2.2.2.2.2.2.2.1 d.2.2.2.2.2.2.2.2.2.2.2.2.2.2.2.2.2.2.2.2.2.2.2.2.2.2.2.2.2.2.2.2.2.2.2.2.2.2.2.2.2.2.2.1 d.2.2.2.2.2.2.2.2.2.2.2.2.2.2.2.2.2.2.2.2.2.2.2.2.2.2.2.2.2.2.2.2.2.2.2.2.2.2.2.2.2.2.2.2.1 d.2.2.2.2.2.2.2.2.2.2.2.2.2.2.2.2.2.2.2.2.2.2.2.2.2.2.2.2.2.2.2.2.2.2.2.2.2.2.2.2.2.2.2.2.2.1 d.2.2.2.2.2.2.2.2.2.2.2.2.2.2.2.2.2.2.2.2.2.2.2.2.2.2.2.2.2.2.2.2.2.2.2.2.2.2.2.2.2.2.2.2.2.2
noncomputable def tup9z : PySem.World × PySem.Addr × (List PySem.Value) × Nat × (List Nat) × Nat × PySem.Tok × (List PySem.Str) × (PySem.ExcName → Option PySem.Value) × (PySem.Str → Option PySem.Value) × (PySem.Str → Option PySem.Value) × (List (PySem.Addr × PySem.Obj)) × Nat × Nat × (Option (List PySem.Code)) × PySem.Str × PySem.Scope × PySem.Addr × PySem.Value × (List (PySem.Str × PySem.Addr)) × (List PySem.Env) × PySem.Around × PySem.Heap × PySem.Heap × PySem.Addr × (PySem.Str → Option PySem.Value) × PySem.Shared × (PySem.Result → PySem.Shared → Prop) × PySem.Heap × PySem.Addr × PySem.Heap × Nat × PySem.Obj × PySem.Heap × PySem.Addr × PySem.Heap × Nat × Nat × PySem.Heap × Nat × (PySem.Str → Option PySem.Value) × Nat × PySem.Tok × PySem.Obj × (Option PySem.Value) × PySem.Heap × PySem.Tok := hen (World9, (0 : Nat), [], (0 : Nat), [], (0 : Nat), (0 : Nat), [], (fun _ => none), (fun _ => none), (fun _ => none), [], (0 : Nat), (0 : Nat), none, (default : Str), (default : Scope), (0 : Nat), (default : Value), [], [], ({} : Around), (default : Heap), (default : Heap), (0 : Nat), (fun _ => none), ({} : Shared), (fun _ => (fun _ => True)), (default : Heap), (0 : Nat), (default : Heap), (0 : Nat), (default : Obj), (default : Heap), (0 : Nat), (default : Heap), (0 : Nat), (0 : Nat), (default : Heap), (0 : Nat), (fun _ => none), (0 : Nat), (0 : Nat), (default : Obj), none, (default : Heap), (0 : Nat)) G9
noncomputable def w : PySem.World := tup9z.1
noncomputable def l : PySem.Addr := tup9z.2.1
noncomputable def its : List PySem.Value := tup9z.2.2.1
noncomputable def c : Nat := tup9z.2.2.2.1
noncomputable def rg : List Nat := tup9z.2.2.2.2.1
noncomputable def n : Nat := tup9z.2.2.2.2.2.1
noncomputable def u : PySem.Tok := tup9z.2.2.2.2.2.2.1
noncomputable def loose : List PySem.Str := tup9z.2.2.2.2.2.2.2.1
noncomputable def mean : PySem.ExcName → Option PySem.Value := tup9z.2.2.2.2.2.2.2.2.1
noncomputable def mg : PySem.Str → Option PySem.Value := tup9z.2.2.2.2.2.2.2.2.2.1
noncomputable def mb : PySem.Str → Option PySem.Value := tup9z.2.2.2.2.2.2.2.2.2.2.1
noncomputable def rest : List (PySem.Addr × PySem.Obj) := tup9z.2.2.2.2.2.2.2.2.2.2.2.1
noncomputable def dp : Nat := tup9z.2.2.2.2.2.2.2.2.2.2.2.2.1
noncomputable def un : Nat := tup9z.2.2.2.2.2.2.2.2.2.2.2.2.2.1
noncomputable def gd : Option (List PySem.Code) := tup9z.2.2.2.2.2.2.2.2.2.2.2.2.2.2.1
noncomputable def cn : PySem.Str := tup9z.2.2.2.2.2.2.2.2.2.2.2.2.2.2.2.1
noncomputable def cs : PySem.Scope := tup9z.2.2.2.2.2.2.2.2.2.2.2.2.2.2.2.2.1
noncomputable def aa : PySem.Addr := tup9z.2.2.2.2.2.2.2.2.2.2.2.2.2.2.2.2.2.1
noncomputable def ccd : PySem.Value := tup9z.2.2.2.2.2.2.2.2.2.2.2.2.2.2.2.2.2.2.1
noncomputable def cl : List (PySem.Str × PySem.Addr) := tup9z.2.2.2.2.2.2.2.2.2.2.2.2.2.2.2.2.2.2.2.1
noncomputable def outer : List PySem.Env := tup9z.2.2.2.2.2.2.2.2.2.2.2.2.2.2.2.2.2.2.2.2.1
noncomputable def A₀ : PySem.Around := tup9z.2.2.2.2.2.2.2.2.2.2.2.2.2.2.2.2.2.2.2.2.2.1
noncomputable def base : PySem.Heap := tup9z.2.2.2.2.2.2.2.2.2.2.2.2.2.2.2.2.2.2.2.2.2.2.1
noncomputable def h₀ : PySem.Heap := tup9z.2.2.2.2.2.2.2.2.2.2.2.2.2.2.2.2.2.2.2.2.2.2.2.1
noncomputable def L : PySem.Addr := tup9z.2.2.2.2.2.2.2.2.2.2.2.2.2.2.2.2.2.2.2.2.2.2.2.2.1
noncomputable def m : PySem.Str → Option PySem.Value := tup9z.2.2.2.2.2.2.2.2.2.2.2.2.2.2.2.2.2.2.2.2.2.2.2.2.2.1
noncomputable def s : PySem.Shared := tup9z.2.2.2.2.2.2.2.2.2.2.2.2.2.2.2.2.2.2.2.2.2.2.2.2.2.2.1
noncomputable def R : PySem.Result → PySem.Shared → Prop := tup9z.2.2.2.2.2.2.2.2.2.2.2.2.2.2.2.2.2.2.2.2.2.2.2.2.2.2.2.1
noncomputable def g9z : PySem.Heap := tup9z.2.2.2.2.2.2.2.2.2.2.2.2.2.2.2.2.2.2.2.2.2.2.2.2.2.2.2.2.1
noncomputable def L9z : PySem.Addr := tup9z.2.2.2.2.2.2.2.2.2.2.2.2.2.2.2.2.2.2.2.2.2.2.2.2.2.2.2.2.2.1
noncomputable def h9z : PySem.Heap := tup9z.2.2.2.2.2.2.2.2.2.2.2.2.2.2.2.2.2.2.2.2.2.2.2.2.2.2.2.2.2.2.1
noncomputable def tk9z : Nat := tup9z.2.2.2.2.2.2.2.2.2.2.2.2.2.2.2.2.2.2.2.2.2.2.2.2.2.2.2.2.2.2.2.1
noncomputable def o9 : PySem.Obj := tup9z.2.2.2.2.2.2.2.2.2.2.2.2.2.2.2.2.2.2.2.2.2.2.2.2.2.2.2.2.2.2.2.2.1
noncomputable def z1 : PySem.Heap := tup9z.2.2.2.2.2.2.2.2.2.2.2.2.2.2.2.2.2.2.2.2.2.2.2.2.2.2.2.2.2.2.2.2.2.1
noncomputable def it : PySem.Addr := tup9z.2.2.2.2.2.2.2.2.2.2.2.2.2.2.2.2.2.2.2.2.2.2.2.2.2.2.2.2.2.2.2.2.2.2.1
noncomputable def h1 : PySem.Heap := tup9z.2.2.2.2.2.2.2.2.2.2.2.2.2.2.2.2.2.2.2.2.2.2.2.2.2.2.2.2.2.2.2.2.2.2.2.1
noncomputable def tk1 : Nat := tup9z.2.2.2.2.2.2.2.2.2.2.2.2.2.2.2.2.2.2.2.2.2.2.2.2.2.2.2.2.2.2.2.2.2.2.2.2.1
noncomputable def k : Nat := tup9z.2.2.2.2.2.2.2.2.2.2.2.2.2.2.2.2.2.2.2.2.2.2.2.2.2.2.2.2.2.2.2.2.2.2.2.2.2.1
noncomputable def h : PySem.Heap := tup9z.2.2.2.2.2.2.2.2.2.2.2.2.2.2.2.2.2.2.2.2.2.2.2.2.2.2.2.2.2.2.2.2.2.2.2.2.2.2.1
noncomputable def tk : Nat := tup9z.2.2.2.2.2.2.2.2.2.2.2.2.2.2.2.2.2.2.2.2.2.2.2.2.2.2.2.2.2.2.2.2.2.2.2.2.2.2.2.1
noncomputable def m₁ : PySem.Str → Option PySem.Value := tup9z.2.2.2.2.2.2.2.2.2.2.2.2.2.2.2.2.2.2.2.2.2.2.2.2.2.2.2.2.2.2.2.2.2.2.2.2.2.2.2.2.1
noncomputable def j : Nat := tup9z.2.2.2.2.2.2.2.2.2.2.2.2.2.2.2.2.2.2.2.2.2.2.2.2.2.2.2.2.2.2.2.2.2.2.2.2.2.2.2.2.2.1
noncomputable def tw : PySem.Tok := tup9z.2.2.2.2.2.2.2.2.2.2.2.2.2.2.2.2.2.2.2.2.2.2.2.2.2.2.2.2.2.2.2.2.2.2.2.2.2.2.2.2.2.2.1
noncomputable def oc9 : PySem.Obj := tup9z.2.2.2.2.2.2.2.2.2.2.2.2.2.2.2.2.2.2.2.2.2.2.2.2.2.2.2.2.2.2.2.2.2.2.2.2.2.2.2.2.2.2.2.1
noncomputable def cv : Option PySem.Value := tup9z.2.2.2.2.2.2.2.2.2.2.2.2.2.2.2.2.2.2.2.2.2.2.2.2.2.2.2.2.2.2.2.2.2.2.2.2.2.2.2.2.2.2.2.2.1
noncomputable def h2 : PySem.Heap := tup9z.2.2.2.2.2.2.2.2.2.2.2.2.2.2.2.2.2.2.2.2.2.2.2.2.2.2.2.2.2.2.2.2.2.2.2.2.2.2.2.2.2.2.2.2.2.1
noncomputable def t2 : PySem.Tok := tup9z.2.2.2.2.2.2.2.2.2.2.2.2.2.2.2.2.2.2.2.2.2.2.2.2.2.2.2.2.2.2.2.2.2.2.2.2.2.2.2.2.2.2.2.2.2.2
set_option maxRecDepth 100000 in
set_option maxHeartbeats 4000000 in
theorem main9 : seg9.1 w l its c rg n u loose mean mg mb rest dp un gd cn cs aa ccd cl outer A₀ base h₀ L m s R g9z L9z h9z tk9z o9 z1 it h1 tk1 k h tk m₁ j tw oc9 cv h2 t2 := by
     delta seg9 segOf
     dsimp -zeta only
     intro hi hz hb hn F₀ hm X9z T9z l19z hL2 N hj hcv F hlt F2 N2
     k_with_none
     k_with "eval ListComp" => refine stop_in ?_
     k_steps
     refine stop_out ?_
     rename_i h4 o4 F4 N4 d4
     clear N F N2 F2
     refine LCt.ListComp_T (F₀ := by k_asm) (by with_unfolding_all rfl) (by decide) (by rfl) (by decide) (by rfl) ?_
     k_steps
     have hl5 : its.length = rg.length := by have := hi.length; rwa [List.length_map] at this
     refine LCt.CompSrcT.ledger (by rfl) (by k_asm) (by k_asm) (List.mem_cons_of_mem _ (List.mem_cons_of_mem _ hm)) ?zZ (fun g => compRestT_ind (fun i ys news => news = (it, rIter ((j : Int) + 1) ((n : Int) - (j : Int) - 1)) :: (L9z + 1, o4) :: rest ∧ ys.length = ((rg.take i).filter fun r => j % r == 0).length) ?zT ?zF _ 0 [] _ (Nat.zero_add _).symm ⟨rfl, rfl⟩)
     case zZ => rw [List.size_toArray, hl5, sizeLine_eq]; omega
     case zT =>
       intro i ys news v I oI C oC D m₂ h tk E' hi' hjj hP hC hx F' N' off ne
       obtain ⟨rfl, hs⟩ := hjj
       obtain ⟨kz, tz, rfl, hkz⟩ := ints_at hi (by simpa using hP)
       rw [List.getElem?_map] at hkz
       obtain ⟨r, hr, rfl⟩ : ∃ r : Nat, rg[i]? = some r ∧ kz = (r : Int) := by
         cases hq : rg[i]? with
         | none => rw [hq] at hkz; cases hkz
         | some r => rw [hq] at hkz; cases hkz; exact ⟨r, rfl, rfl⟩
       have hr1 : 1 ≤ r := hb r (List.mem_of_getElem? hr)
       k_with "binaryOp Mod int int" => (refine mod_int' (by omega) ?_)
       k_steps
       · rename_i gg1
         have hm0 : (j % r == 0) = true := cnt_mod.mp gg1
         refine CompEnd.intro (by k_asm) (by k_asm) _ (fun p hp => hp) off (.inr ⟨_, List.mem_cons_of_mem _ (List.mem_cons_of_mem _ hm), rfl, _, rfl⟩) ⟨rfl, ?_⟩
         rw [List.take_add_one, hr, List.filter_append, List.length_append, List.length_append, hs]
         simp [hm0]
       · rename_i gg1
         have hm0 : (j % r == 0) = false := by
           cases hq0 : (j % r == 0) with
           | false => rfl
           | true => exact absurd (cnt_mod.mpr hq0) gg1
         refine CompEnd.intro (by k_asm) (by k_asm) _ (fun p hp => hp) off (.inr ⟨_, List.mem_cons_of_mem _ (List.mem_cons_of_mem _ hm), rfl, _, rfl⟩) ⟨rfl, ?_⟩
         rw [List.take_add_one, hr, List.filter_append, List.length_append, hs]
         simp [hm0]
     case zF =>
       intro ys news hjj
       obtain ⟨rfl, hs⟩ := hjj
       rw [List.size_toArray, hl5, List.take_length] at hs
       have hq7 := List.length_filter_le (fun r => j % r == 0) rg
       k_with "binaryOp Add str str" => (refine k_glue (by simp only [List.length_singleton]; omega) (by rw [cntW_len]; omega) ?_; intro t8 k8)
       k_steps
       have N5 := ‹News g9z L9z _ ((_, lst ys) :: _)›
       refine len_list (items := ys.toArray) (⟨lst ys, N5.get List.mem_cons_self, rfl, _, rfl⟩) (by rw [List.size_toArray]; omega) ?_
       k_steps
       have he : ∀ z : Nat, z = 65 + ys.length → ([z] : List Nat) ++ cntW rg j = cntW rg (j + 1) := by
         intro z hz9; rw [hz9, hs]; rfl
       rename_i h7 F7 N7
       rw [he _ (by rw [List.size_toArray]; omega)] at F7
       have hlt' : (0 : Int) < (n : Int) - (j : Int) := hlt
       obtain ⟨hj1, hj2⟩ := hj
       have hr8 : rIter ((j + 1 : Nat) : Int) ((n : Int) - ((j + 1 : Nat) : Int)) = rIter ((j : Int) + 1) ((n : Int) - (j : Int) - 1) := by
         rw [show ((j + 1 : Nat) : Int) = (j : Int) + 1 by omega, show (n : Int) - ((j : Int) + 1) = (n : Int) - (j : Int) - 1 by omega]
       refine TurnEnd.mk (k - 1) (j + 1, cntW rg (j + 1), t8, o4, _) (by omega) F7 N7 (by exact ⟨rfl, rfl, trivial⟩) ?_ ⟨⟨by show j + 1 ≤ n; omega, by show j + 1 + (k - 1) = n + 1; omega⟩, rfl, d4⟩
       dsimp only
       rw [hr8]
       exact fun p hp => List.mem_cons_of_mem _ hp
set_option maxRecDepth 100000 in
set_option maxHeartbeats 4000000 in
theorem all9 : ∀ a0 a1 a2 a3 a4 a5 a6 a7 a8 a9 a10 a11 a12 a13 a14 a15 a16 a17 a18 a19 a20 a21 a22 a23 a24 a25 a26 a27 a28 a29 a30 a31 a32 a33 a34 a35 a36 a37 a38 a39 a40 a41 a42 a43 a44 a45 a46, seg9.1 a0 a1 a2 a3 a4 a5 a6 a7 a8 a9 a10 a11 a12 a13 a14 a15 a16 a17 a18 a19 a20 a21 a22 a23 a24 a25 a26 a27 a28 a29 a30 a31 a32 a33 a34 a35 a36 a37 a38 a39 a40 a41 a42 a43 a44 a45 a46 := fun a0 a1 a2 a3 a4 a5 a6 a7 a8 a9 a10 a11 a12 a13 a14 a15 a16 a17 a18 a19 a20 a21 a22 a23 a24 a25 a26 a27 a28 a29 a30 a31 a32 a33 a34 a35 a36 a37 a38 a39 a40 a41 a42 a43 a44 a45 a46 => hen_all (G := G9) main9 (a0, a1, a2, a3, a4, a5, a6, a7, a8, a9, a10, a11, a12, a13, a14, a15, a16, a17, a18, a19, a20, a21, a22, a23, a24, a25, a26, a27, a28, a29, a30, a31, a32, a33, a34, a35, a36, a37, a38, a39, a40, a41, a42, a43, a44, a45, a46)
end counted
theorem counted (w : World) (l : Addr) (its : List Value) (c : Nat) (rg : List Nat) (hi : IntsAre its (rg.map fun (x : Nat) => (x : Int))) (hz : rg.length ≤ 100) (hb : ∀ r ∈ rg, 1 ≤ r) (n : Nat) (u : Tok) (hn : n ≤ 8) : CtrR PySem.Challenge.rw_wn0028_01.prog w (Mine.hd.heap_1 w.params) PySem.W.topProg 2 30 157 [.ref l, .int (n : Int) u] [(l, listOf its.toArray c)] (fun v tl => tl = [] ∧ ∃ tk, v = .str (mkS (cntW rg n)) tk) := counted.seg9.2 ⟨counted.all9⟩ w l its c rg hi hz hb n u hn

end Mine
namespace Mine
theorem reset_law1a : True := by
  w_top off
  trivial
noncomputable abbrev lawEnv (cn : Str) (L fa : Addr) (cd : Value) : Env := envX cn lawSs.1 L fa cd [(Str.ofString "rises", L + 3), (Str.ofString "falls", L + 2), (Str.ofString "line", L + 1)]
noncomputable abbrev lawTop (cn : Str) (L fa : Addr) (cd : Value) : Around := ktrTop (1 + claimMargin + 1) (4 + 3) (some []) cn lawSs.1 L fa cd [(Str.ofString "rises", L + 3), (Str.ofString "falls", L + 2), (Str.ofString "line", L + 1)] []
theorem firstF_mem (n : Nat) : firstF n ∈ [0, 1, 2, 3] := by
  unfold firstF
  have : n % 8 < 8 := Nat.mod_lt _ (by decide)
  generalize n % 8 = k at this
  revert k; decide
theorem moreF_mem (n : Nat) : moreF n ∈ [0, 1, 2, 127] := by
  unfold moreF
  have : n % 4 < 4 := Nat.mod_lt _ (by decide)
  generalize n % 4 = k at this
  revert k; decide
noncomputable def shapes : List (List Nat) := [[1],[1,1],[1,1,1],[1,1,2],[1,2],[1,2,1],[1,2,2],[2],[2,1],[2,2],[3],[3,1],[3,2],[3,3]]
theorem shape1 : ∀ y ∈ [0, 1, 2, 127], ∀ z ∈ [0, 1, 2, 127], (sizesGo [] [1, y, z]).take 3 ∈ shapes := by decide +kernel
theorem shape2 : ∀ x ∈ [2, 3], ∀ y ∈ [0, 1, 2, 127], ∀ z ∈ [0, 1, 2, 127], (sizesGo [] [x, y, z]).take 2 ∈ shapes := by decide +kernel
theorem len4 : ∀ x ∈ [1, 2, 3], ∀ y ∈ [0, 1, 2, 127], ∀ z ∈ [0, 1, 2, 127], (sizesGo [] [x, y, z]).length ≤ 4 := by decide +kernel
theorem four_le {y : Nat} (h : y ∈ [0, 1, 2, 127]) : y ≤ 127 := by
  revert h y; decide
theorem three_le {x : Nat} (h : x ∈ [0, 1, 2, 3]) : x ≤ 3 := by
  revert h x; decide
/-- what the told list is when the ruler is not refused -/
theorem ncast {x : Nat} (n : Nat) (h : x ≠ n) : (x : Int) ≠ (n : Int) := fun e => h (Int.ofNat.inj e)
theorem told_ints {x y z : Nat} {ws : List Value} (hP : ToldIs (x : Int) y z ws) (h0 : x ≠ 0) (h1 : x ≠ 127) : IntsAre ws ((sizesGo [] [x, y, z]).map fun (a : Nat) => (a : Int)) := by
  obtain ⟨_, _, h⟩ := hP
  obtain ⟨p1, p2, p3⟩ := h (ncast 127 h1) (ncast 0 h0)
  rw [sizesGo, if_neg h1, if_neg h0, sizesGo]
  by_cases hy : y = 127
  · rw [if_pos hy]; exact p1 (congrArg Int.ofNat hy)
  · by_cases hy0 : y = 0
    · rw [if_neg hy, if_pos hy0]; exact p2 (congrArg Int.ofNat hy0)
    · obtain ⟨q1, q2, q3⟩ := p3 (ncast 127 hy) (ncast 0 hy0)
      rw [if_neg hy, if_neg hy0, sizesGo]
      by_cases hz : z = 127
      · rw [if_pos hz]; exact q1 (congrArg Int.ofNat hz)
      · by_cases hz0 : z = 0
        · rw [if_neg hz, if_pos hz0]; exact q2 (congrArg Int.ofNat hz0)
        · rw [if_neg hz, if_neg hz0]; exact q3 (ncast 127 hz) (ncast 0 hz0)
/-- what stands behind the reading: the rounds, and the rest of the law -/
noncomputable abbrev LawTail (w : World) (cn : Str) (L fa : Addr) (cd : Value) (h₀ : Heap) (oR oF : Obj) (dr : Drawn) (os : OsState) (Q : Flow → Shared → Prop) (E : Value → Shared → Prop) : Prop :=
  ∀ (szs : List Nat) (b : Nat) (P : LexP) {ln : Int} {qe : Nat} {led : List (Addr × Obj)} {ls : Nat} {its : List Value} {ci : Nat} {g' : Array GenState} {h' : Heap} {tk' : Nat} {m' : Str → Option Value} {tf : Tok} {oL : Obj} {ps : Array Value},
    szs ∈ shapes → IntsAre its (szs.map fun (x : Nat) => (x : Int)) → AllBare g' → P.Ok → LexSt w P ln [] [] qe led → oL.data = .cell (some (.ref P.x)) → @LT.lt Nat _ (L + 3) ls → @LT.lt Nat _ ls P.ce →
    Fr h₀ L h' m' → m' (Str.ofString "sizes") = some (.ref ls) → (∃ tz, m' (Str.ofString "length") = some (.int ((figsF b 0 0 szs).length : Int) tz)) → News h₀ L h' (led ++ [(ls, listOf its.toArray ci), (L + 3, oR), (L + 2, oF), (L + 1, oL), (133, tabObj ps)]) →
    wpAny (model PySem.Challenge.rw_wn0028_01.prog w) (lawTop cn L fa cd) (call (.ref 145) [.ref P.x, .str (mkS ((figsF b 0 0 szs).map (65 + ·))) tf]) (fun v s₁ => wpAny (model PySem.Challenge.rw_wn0028_01.prog w) (lawTop cn L fa cd) (assign lawTs.1 (lawEnv cn L fa cd) v) (fun _ s' => wpAny (model PySem.Challenge.rw_wn0028_01.prog w) (lawTop cn L fa cd) (execs (lawBs.1.drop 15) (lawEnv cn L fa cd)) Q E s') E s₁) E ⟨h', g', dr, tk', os⟩
namespace law_run
set_option maxRecDepth 100000 in
set_option maxHeartbeats 8000000 in
noncomputable def seg9 : {p : PySem.World → PySem.Str → PySem.Addr → PySem.Value → PySem.Heap → Nat → Nat → (List PySem.Value) → (List Int) → (List PySem.Str) → (PySem.ExcName → Option PySem.Value) → (PySem.Str → Option PySem.Value) → (PySem.Str → Option PySem.Value) → PySem.Obj → PySem.Obj → PySem.Obj → PySem.Shared → (PySem.Flow → PySem.Shared → Prop) → (PySem.Value → PySem.Shared → Prop) → Prop // Hid (∀ a0 a1 a2 a3 a4 a5 a6 a7 a8 a9 a10 a11 a12 a13 a14 a15 a16 a17 a18, p a0 a1 a2 a3 a4 a5 a6 a7 a8 a9 a10 a11 a12 a13 a14 a15 a16 a17 a18) → ∀ (w : World) (cn : Str) (fa : Addr) (cd : Value) (h₀ : Heap) (L l : Nat) (vs : List Value) (ns : List Int) (hI : IntsAre vs ns) (hz : ns.length ≤ 63) (loose : List Str) (mean : ExcName → Option Value) (mg mb : Str → Option Value) (oR oF oL : Obj) (s : Shared) (Q E) (dR : oR.data = .cell none) (dF : oF.data = .cell none) (dL : oL.data = .cell none) (C : CodeHd h₀ 137 133) (B : Below callerA h₀ [] h₀) (F : Fr h₀ L s.heap (mB [(Str.ofString "script", .ref l)] (fun _ => none))) (X : (Mine.hd.heap_1 w.params).In h₀) (N : News h₀ L s.heap [(L + 3, oR), (L + 2, oF), (L + 1, oL), (133, tabObj #[])]) (T : Top PySem.W.topProg loose mean mg mb h₀) (hl : h₀.IsList l vs.toArray) (hT : 133 < L) (hgs : s.gens = #[]) (tail : ∀ (szs : List Nat) {ls : Nat} {its : List Value} {ci : Nat} {lt kt a b c : Nat} {t1 t2 t3 : Tok} {g' : Array GenState} {h' : Heap} {tk' : Nat} {m' : Str → Option Value}, szs ∈ shapes → IntsAre its (szs.map fun (x : Nat) => (x : Int)) → AllBare g' → c < 10 ^ 9 → L + 3 < lt → lt < ls →
      Fr h₀ L h' (mB [(Str.ofString "sizes", .ref ls), (Str.ofString "totals", .ref lt)] m') → News h₀ L h' [(ls, listOf its.toArray ci), (lt, listOf [.int (a : Int) t1, .int (b : Int) t2, .int (c : Int) t3].toArray kt), (L + 3, oR), (L + 2, oF), (L + 1, oL), (133, tabObj #[])] →
      wpAny (model PySem.Challenge.rw_wn0028_01.prog w) (lawTop cn L fa cd) (call (.ref 112) [.int (b : Int) t2, .ref ls]) (fun v s₁ => wpAny (model PySem.Challenge.rw_wn0028_01.prog w) (lawTop cn L fa cd) (storeName (lawEnv cn L fa cd) (Str.ofString "figures") v) (fun _ s' => wpAny (model PySem.Challenge.rw_wn0028_01.prog w) (lawTop cn L fa cd) (execs (lawBs.1.drop 7) (lawEnv cn L fa cd)) Q E s') E s₁) E ⟨h', g', s.drawn, tk', s.os⟩), wpAny (model PySem.Challenge.rw_wn0028_01.prog w) (lawTop cn L fa cd) (execs lawBs.1 (lawEnv cn L fa cd)) Q E s} := segOf (by
  intro ht9
  intro w cn fa cd h₀ L l vs ns hI hz loose mean mg mb oR oF oL s Q E dR dF dL C B F X N T hl hT hgs tail
  dsimp only [mB] at F

  clear dR dF dL C hT
  revert hI hz B F X N T hl hgs tail
  exact ht9.out w cn fa cd h₀ L l vs ns loose mean mg mb oR oF oL s Q E
)
noncomputable def G9 (d : PySem.World × PySem.Str × PySem.Addr × PySem.Value × PySem.Heap × Nat × Nat × (List PySem.Value) × (List Int) × (List PySem.Str) × (PySem.ExcName → Option PySem.Value) × (PySem.Str → Option PySem.Value) × (PySem.Str → Option PySem.Value) × PySem.Obj × PySem.Obj × PySem.Obj × PySem.Shared × (PySem.Flow → PySem.Shared → Prop) × (PySem.Value → PySem.Shared → Prop)) : Prop := seg9.1 d.1 d.2.1 d.2.2.1 d.2.2.2.1 d.2.2.2.2.1 d.2.2.2.2.2.1 d.2.2.2.2.2.2.1 d.2.2.2.2.2.2.2.1 d.2.2.2.2.2.2.2.2.1 d.2.2.2.2.2.2.2.2.2.1 d.2.2.2.2.2.2.2.2.2.2.1 d.2.2.2.2.2.2.2.2.2.2.2.1 d.2.2.2.2.2.2.2.2.2.2.2.2.1 d.2.2.2.2.2.2.2.2.2.2.2.2.2.1 d.2.2.2.2.2.2.2.2.2.2.2.2.2.2.1 d.2.2.2.2.2.2.2.2.2.2.2.2.2.2.2.1 d.2.2.2.2.2.2.2.2.2.2.2.2.2.2.2.2.1 d.2.2.2.2.2.2.2.2.2.2.2.2.2.2.2.2.2.1 d.2.2.2.2.2.2.2.2.2.2.2.2.2.2.2.2.2.2
noncomputable def tup9z : PySem.World × PySem.Str × PySem.Addr × PySem.Value × PySem.Heap × Nat × Nat × (List PySem.Value) × (List Int) × (List PySem.Str) × (PySem.ExcName → Option PySem.Value) × (PySem.Str → Option PySem.Value) × (PySem.Str → Option PySem.Value) × PySem.Obj × PySem.Obj × PySem.Obj × PySem.Shared × (PySem.Flow → PySem.Shared → Prop) × (PySem.Value → PySem.Shared → Prop) := hen (World9, (default : Str), (0 : Nat), (default : Value), (default : Heap), (0 : Nat), (0 : Nat), [], [], [], (fun _ => none), (fun _ => none), (fun _ => none), (default : Obj), (default : Obj), (default : Obj), ({} : Shared), (fun _ => (fun _ => True)), (fun _ => (fun _ => True))) G9
noncomputable def w : PySem.World := tup9z.1
noncomputable def cn : PySem.Str := tup9z.2.1
noncomputable def fa : PySem.Addr := tup9z.2.2.1
noncomputable def cd : PySem.Value := tup9z.2.2.2.1
noncomputable def h₀ : PySem.Heap := tup9z.2.2.2.2.1
noncomputable def L : Nat := tup9z.2.2.2.2.2.1
noncomputable def l : Nat := tup9z.2.2.2.2.2.2.1
noncomputable def vs : List PySem.Value := tup9z.2.2.2.2.2.2.2.1
noncomputable def ns : List Int := tup9z.2.2.2.2.2.2.2.2.1
noncomputable def loose : List PySem.Str := tup9z.2.2.2.2.2.2.2.2.2.1
noncomputable def mean : PySem.ExcName → Option PySem.Value := tup9z.2.2.2.2.2.2.2.2.2.2.1
noncomputable def mg : PySem.Str → Option PySem.Value := tup9z.2.2.2.2.2.2.2.2.2.2.2.1
noncomputable def mb : PySem.Str → Option PySem.Value := tup9z.2.2.2.2.2.2.2.2.2.2.2.2.1
noncomputable def oR : PySem.Obj := tup9z.2.2.2.2.2.2.2.2.2.2.2.2.2.1
noncomputable def oF : PySem.Obj := tup9z.2.2.2.2.2.2.2.2.2.2.2.2.2.2.1
noncomputable def oL : PySem.Obj := tup9z.2.2.2.2.2.2.2.2.2.2.2.2.2.2.2.1
noncomputable def s : PySem.Shared := tup9z.2.2.2.2.2.2.2.2.2.2.2.2.2.2.2.2.1
noncomputable def Q : PySem.Flow → PySem.Shared → Prop := tup9z.2.2.2.2.2.2.2.2.2.2.2.2.2.2.2.2.2.1
noncomputable def E : PySem.Value → PySem.Shared → Prop := tup9z.2.2.2.2.2.2.2.2.2.2.2.2.2.2.2.2.2.2
set_option maxRecDepth 100000 in
set_option maxHeartbeats 8000000 in
theorem main9 : seg9.1 w cn fa cd h₀ L l vs ns loose mean mg mb oR oF oL s Q E := by
  delta seg9 segOf
  dsimp -zeta only
  intro hI hz B F X N T hl hgs tail
  k_with_none
  k_with "call ref cons nil" => refine stop_in ?_
  k_with "subscriptTail Name Constant ref int" => (with_unfolding_all refine' item_litK ?k1 ?k2 ?k3 ?k4 ?_ ?k6; (case k1 => is_list); (case k2 => decide); (case k3 => decide); (case k4 => rfl); (case k6 => with_unfolding_all rfl); k_whole)
  dsimp only [lawEnv, lawTop, lawBs, lawSs]
  k_steps
  refine stop_out ?_
  refine' Ctr.use (totals w l vs ns hI hz) hl Pick.nil (fun _ h => nomatch h) ?k1 ?k2 ?k3 ?k4 ?k5 ?kK ?kd ?ku ?_
  case k1 => k_asm
  case k2 => k_asm
  case k3 => k_asm
  case k4 => k_asm
  case k5 => k_asm
  case kK => exact rfl
  case kd => ktr_room
  case ku => ktr_units
  intro v9 led9 tl9 h9 tk9 hp9 hlt9 F9 N9
  obtain ⟨rfl, lt, wt, kt, a, b, c, rfl, rfl, hit, hc⟩ := hp9
  simp only [List.cons_append, List.nil_append] at N9
  cases hit with | cons _ t1 hit =>
  cases hit with | cons _ t2 hit =>
  cases hit with | cons _ t3 hit =>
  cases hit
  clear F N
  have l9 : @LT.lt Nat _ (L + 3) lt := hlt9 _ (.head _) _ (.head _)
  k_steps
  refine stop_out ?_
  refine' CtrR.use (ruler w a _) ?kl ?k1 ?k2 ?k3 ?k4 ?k5 ?kK ?kd ?ku ?_
  ((case k1 => k_asm); (case k2 => k_asm); (case k3 => k_asm); (case k4 => k_asm); (case k5 => k_asm); (case kl => (repeat' first | exact List.forall_mem_nil _ | refine mem_cons_all ?_ ?_ | exact sub_refl | refine sub_tail ?_ | k_mem)); (case kK => first | exact rfl | assumption); (case kd => ktr_room); (case ku => ktr_units))
  intro v8 tl8 h8 tk8 hp8 hlt8 F8 N8
  obtain ⟨lr, wr, kr, rfl, rfl, hir⟩ := hp8
  simp only [List.cons_append, List.nil_append] at N8
  cases hir with | cons _ u1 hir =>
  cases hir with | cons _ u2 hir =>
  cases hir with | cons _ u3 hir =>
  cases hir
  have l8 : @LT.lt Nat _ lt lr := hlt8 _ (.head _) _ (.head _)
  k_steps
  refine stop_out ?_
  have hx' := firstF_mem a
  have hy' := moreF_mem (a / 8)
  have hz' := moreF_mem (a / 32)
  generalize firstF a = x at *
  generalize moreF (a / 8) = y at *
  generalize moreF (a / 32) = z at *
  rename_i h7 F7 N7
  have hx := three_le hx'
  have hy := four_le hy'
  have hz9 := four_le hz'
  refine told w cn lawSs.1 rfl L fa cd _ _ _ _ _ _ loose mean mg mb _ h₀ _ ⟨h7, s.gens, s.drawn, _, s.os⟩ _ _ lr (x : Int) (y : Int) (z : Int) u1 u2 u3 kr (by omega) (by omega) (by omega) ?m F7 X N7 T hgs ?_
  case m => exact .head _
  intro at' wt' kt' h6 g6 tk6 hb6 hP6 hne6 F6 N6
  clear hlt9 hlt8
  k_with_none
  k_with "call ref cons nil" => refine stop_in ?_
  k_with "subscriptTail Name Constant ref int" => (with_unfolding_all refine' item_litK ?k1 ?k2 ?k3 ?k4 ?_ ?k6; (case k1 => is_list); (case k2 => decide); (case k3 => decide); (case k4 => rfl); (case k6 => with_unfolding_all rfl); k_whole)
  k_steps
  refine stop_out ?_
  rename_i h5 F5 N5
  have n1 : @Ne Nat lr at' := hne6 _ (.head _)
  have n2 : @Ne Nat lt at' := hne6 _ (.tail _ (.head _))
  have n3 : @Ne Nat (L + 3) at' := hne6 _ (.tail _ (.tail _ (.head _)))
  have n4 : @Ne Nat (L + 2) at' := hne6 _ (.tail _ (.tail _ (.tail _ (.head _))))
  have n5 : @Ne Nat (L + 1) at' := hne6 _ (.tail _ (.tail _ (.tail _ (.tail _ (.head _)))))
  have n6 : @Ne Nat 133 at' := hne6 _ (.tail _ (.tail _ (.tail _ (.tail _ (.tail _ (.head _))))))
  clear hne6
  obtain ⟨wl, rfl⟩ : ∃ wl : List Value, wt' = wl.toArray := ⟨wt'.toList, by simp⟩
  have hx7 : x ≠ 127 := by omega
  refine' CtrR.use (sizes w lr x y z u1 u2 u3 kr hx7) ?kl ?k1 ?k2 ?k3 ?k4 ?k5 ?kK ?kd ?ku ?_
  ((case k1 => k_asm); (case k2 => k_asm); (case k3 => k_asm); (case k4 => k_asm); (case k5 => k_asm); (case kl => (repeat' first | exact List.forall_mem_nil _ | refine mem_cons_all ?_ ?_ | exact sub_refl | refine sub_tail ?_ | k_mem)); (case kK => first | exact rfl | assumption); (case kd => ktr_room); (case ku => ktr_units))
  intro v4 tl4 h4 tk4 hp4 hlt4 F4 N4
  obtain ⟨lz, wz, kz, rfl, rfl, hz0, hz1⟩ := hp4
  simp only [List.cons_append, List.nil_append] at N4
  have m1 : @LT.lt Nat _ at' lz := hlt4 _ (.head _) _ (.head _)
  have m2 : @LT.lt Nat _ lr lz := hlt4 _ (.tail _ (.head _)) _ (.head _)
  clear hlt4 N5 F5
  simp only [List.toList_toArray] at hP6
  by_cases hx0 : x = 0
  · subst hx0
    obtain ⟨tw, rfl⟩ := hP6.2.1 rfl
    obtain ⟨tz, rfl⟩ := hz0 rfl
    refine ne_strs (ys := [Str.ofString "invalid grouping"]) (N4.isList (.tail _ (.head _))) (.cons _ _ .nil) (N4.isList (.head _)) (.cons _ _ .nil) (by decide +kernel) (by units_room) ?_
    rw [show ((0 : Nat) : Int) = 0 from rfl] at N4
    k_steps
    refine stop_out ?_
    rename_i ls _ _ hF FE NE
    have mE : @LT.lt Nat _ lz ls := by (try omega); (try assumption)
    refine' tail [2, 1] ?q1 ?q2 hb6 hc l9 ?q3 ?q4 ?q5
    case q5 => refine news_of NE ?_; (repeat' first | exact List.forall_mem_nil _ | refine mem_cons_all ?_ ?_ | exact sub_refl | refine sub_tail ?_ | k_mem)
    case q1 => decide
    case q2 => exact .cons _ _ (.cons _ _ .nil)
    case q3 => omega
    case q4 => exact fr_mB FE (by exact ⟨rfl, rfl, trivial⟩)
  have hw6 := told_ints hP6 hx0 hx7
  have hw7 := hz1 hx0
  refine ne_intsK (N4.isList (.tail _ (.head _))) hw6 (N4.isList (.head _)) hw7 (by units_room) ?_
  rw [decide_eq_true rfl]
  have hlen : (sizesGo [] [x, y, z]).length ≤ 4 := by
    have hx'' : x ∈ [1, 2, 3] := by
      simp only [List.mem_cons, List.not_mem_nil, or_false]; omega
    exact len4 x hx'' y hy' z hz'
  clear hz0 hz1
  obtain rfl | rfl | rfl : x = 1 ∨ x = 2 ∨ x = 3 := by omega
  · rw [show ((1 : Nat) : Int) = 1 from rfl] at N4
    k_steps
    refine stop_out ?_
    rename_i ls _ hI9 _ _ l1 hF FE NE
    rw [← List.map_take] at hI9
    refine' tail ((sizesGo [] [1, y, z]).take 3) ?q1 ?q2 hb6 hc l9 ?q3 ?q4 ?q5
    case q5 => refine news_of NE ?_; (repeat' first | exact List.forall_mem_nil _ | refine mem_cons_all ?_ ?_ | exact sub_refl | refine sub_tail ?_ | k_mem)
    case q1 => exact shape1 y hy' z hz'
    case q2 => exact hI9
    case q3 => omega
    case q4 => exact fr_mB FE (by exact ⟨rfl, rfl, trivial⟩)
  · rw [show ((2 : Nat) : Int) = 2 from rfl] at N4
    k_steps
    refine stop_out ?_
    rename_i ls _ hI9 _ _ l1 hF FE NE
    rw [← List.map_take] at hI9
    refine' tail ((sizesGo [] [2, y, z]).take 2) ?q1 ?q2 hb6 hc l9 ?q3 ?q4 ?q5
    case q5 => refine news_of NE ?_; (repeat' first | exact List.forall_mem_nil _ | refine mem_cons_all ?_ ?_ | exact sub_refl | refine sub_tail ?_ | k_mem)
    case q1 => exact shape2 2 (by decide) y hy' z hz'
    case q2 => exact hI9
    case q3 => omega
    case q4 => exact fr_mB FE (by exact ⟨rfl, rfl, trivial⟩)
  · rw [show ((3 : Nat) : Int) = 3 from rfl] at N4
    k_steps
    refine stop_out ?_
    rename_i ls _ hI9 _ _ l1 hF FE NE
    rw [← List.map_take] at hI9
    refine' tail ((sizesGo [] [3, y, z]).take 2) ?q1 ?q2 hb6 hc l9 ?q3 ?q4 ?q5
    case q5 => refine news_of NE ?_; (repeat' first | exact List.forall_mem_nil _ | refine mem_cons_all ?_ ?_ | exact sub_refl | refine sub_tail ?_ | k_mem)
    case q1 => exact shape2 3 (by decide) y hy' z hz'
    case q2 => exact hI9
    case q3 => omega
    case q4 => exact fr_mB FE (by exact ⟨rfl, rfl, trivial⟩)

set_option maxRecDepth 100000 in
set_option maxHeartbeats 8000000 in
theorem all9 : ∀ a0 a1 a2 a3 a4 a5 a6 a7 a8 a9 a10 a11 a12 a13 a14 a15 a16 a17 a18, seg9.1 a0 a1 a2 a3 a4 a5 a6 a7 a8 a9 a10 a11 a12 a13 a14 a15 a16 a17 a18 := fun a0 a1 a2 a3 a4 a5 a6 a7 a8 a9 a10 a11 a12 a13 a14 a15 a16 a17 a18 => hen_all (G := G9) main9 (a0, a1, a2, a3, a4, a5, a6, a7, a8, a9, a10, a11, a12, a13, a14, a15, a16, a17, a18)
end law_run
theorem law_run (w : World) (cn : Str) (fa : Addr) (cd : Value) (h₀ : Heap) (L l : Nat) (vs : List Value) (ns : List Int) (hI : IntsAre vs ns) (hz : ns.length ≤ 63) (loose : List Str) (mean : ExcName → Option Value) (mg mb : Str → Option Value) (oR oF oL : Obj) (s : Shared) (Q E)
    (dR : oR.data = .cell none) (dF : oF.data = .cell none) (dL : oL.data = .cell none)
    (C : CodeHd h₀ 137 133) (B : Below callerA h₀ [] h₀) (F : Fr h₀ L s.heap (mB [(Str.ofString "script", .ref l)] (fun _ => none))) (X : (Mine.hd.heap_1 w.params).In h₀)
    (N : News h₀ L s.heap [(L + 3, oR), (L + 2, oF), (L + 1, oL), (133, tabObj #[])]) (T : Top PySem.W.topProg loose mean mg mb h₀) (hl : h₀.IsList l vs.toArray) (hT : 133 < L) (hgs : s.gens = #[])
    (tail : ∀ (szs : List Nat) {ls : Nat} {its : List Value} {ci : Nat} {lt kt a b c : Nat} {t1 t2 t3 : Tok} {g' : Array GenState} {h' : Heap} {tk' : Nat} {m' : Str → Option Value}, szs ∈ shapes → IntsAre its (szs.map fun (x : Nat) => (x : Int)) → AllBare g' → c < 10 ^ 9 → L + 3 < lt → lt < ls →
      Fr h₀ L h' (mB [(Str.ofString "sizes", .ref ls), (Str.ofString "totals", .ref lt)] m') → News h₀ L h' [(ls, listOf its.toArray ci), (lt, listOf [.int (a : Int) t1, .int (b : Int) t2, .int (c : Int) t3].toArray kt), (L + 3, oR), (L + 2, oF), (L + 1, oL), (133, tabObj #[])] →
      wpAny (model PySem.Challenge.rw_wn0028_01.prog w) (lawTop cn L fa cd) (call (.ref 112) [.int (b : Int) t2, .ref ls]) (fun v s₁ => wpAny (model PySem.Challenge.rw_wn0028_01.prog w) (lawTop cn L fa cd) (storeName (lawEnv cn L fa cd) (Str.ofString "figures") v) (fun _ s' => wpAny (model PySem.Challenge.rw_wn0028_01.prog w) (lawTop cn L fa cd) (execs (lawBs.1.drop 7) (lawEnv cn L fa cd)) Q E s') E s₁) E ⟨h', g', s.drawn, tk', s.os⟩) : wpAny (model PySem.Challenge.rw_wn0028_01.prog w) (lawTop cn L fa cd) (execs lawBs.1 (lawEnv cn L fa cd)) Q E s := law_run.seg9.2 ⟨law_run.all9⟩ w cn fa cd h₀ L l vs ns hI hz loose mean mg mb oR oF oL s Q E dR dF dL C B F X N T hl hT hgs tail

end Mine
namespace Mine
theorem reset_lawR : True := by
  w_top off
  trivial
/-- how many line feeds -/
noncomputable def cntN (l : List Nat) : Nat := (l.filter (· == 10)).length
theorem cntN_cons (c : Nat) (r : List Nat) : cntN (c :: r) = (if c = 10 then 1 else 0) + cntN r := by
  unfold cntN
  by_cases h : c = 10
  · subst h; simp; omega
  · rw [List.filter_cons_of_neg (by simpa using h), if_neg h, Nat.zero_add]
theorem lnAft_cons (c : Nat) (r : List Nat) (ln : Int) : lnAft (c :: r) ln + cntN r = ln + cntN (c :: r) := by
  rw [cntN_cons]
  unfold lnAft
  by_cases h : c = 10
  · subst h; simp; omega
  · simp [h]
noncomputable def wsOf (ch : Nat) : Nat := ([9, 10, 13, 32] : List Nat).getD (ch / 4) 0
theorem wsOf_ws (ch : Nat) (h : ch < 16) : isWs (wsOf ch) = true := by
  revert h; revert ch; decide
/-- what is left to read: the words, perhaps a blank ahead -/
noncomputable def Left (rem S : List Nat) : Prop := rem = S ∨ ∃ w, isWs w = true ∧ rem = w :: S
theorem lex_end {rem : List Nat} (h : Left rem []) (ln : Int) : lexT rem ln = some ([], [], ln + cntN rem) := by
  rcases h with rfl | ⟨w, hw, rfl⟩
  · simp [lexT, cntN]
  · rw [lexT_cons, hw, if_pos rfl]
    have := lnAft_cons w [] ln
    rw [← this]
    simp [lexT, cntN]
theorem LexP.Off.low {P : LexP} (ok : P.Ok) {rest : List (Addr × Obj)} (h : ∀ q ∈ rest, @LT.lt Nat _ q.1 P.ce) : P.Off rest :=
  fun q hq => offs_below ok (h q hq)
theorem off3_mem {I C D : Addr} : ∀ {l r : List (Addr × Obj)}, Off3 I C D (l ++ r) → ∀ p ∈ l, @Ne Nat p.1 I ∧ @Ne Nat p.1 C ∧ @Ne Nat p.1 D
  | [], _, _, _, h => nomatch h
  | q :: l, r, h, p, hp => by
    rcases List.mem_cons.mp hp with rfl | hp
    · exact h.1
    · exact off3_mem (l := l) h.2 p hp
/-- a comprehension's own three objects are none of the lexer's -/
theorem LexP.Off.of3 {w : World} {P : LexP} {ln : Int} {tl : Tok} {sv : List Value} {se : Nat} {qv : List Value} {qe : Nat} {rest : List (Addr × Obj)} {I C D : Addr} {oI oC oD : Obj} (off : Off3 I C D (lexLed w P ln tl sv se qv qe ++ rest)) (h : P.Off rest) : P.Off ((I, oI) :: (C, oC) :: (D, oD) :: rest) := by
  refine LexP.Off.of (w := w) (ln := ln) (tl := tl) (sv := sv) (se := se) (qv := qv) (qe := qe) fun p hp q hq => ?_
  have h3 := off3_mem off p hp
  rcases List.mem_cons.mp hq with rfl | hq
  · exact fun e => h3.1 e.symm
  · rcases List.mem_cons.mp hq with rfl | hq
    · exact fun e => h3.2.1 e.symm
    · rcases List.mem_cons.mp hq with rfl | hq
      · exact fun e => h3.2.2 e.symm
      · exact LexP.Off.to h p hp q hq
theorem str_of_list {y : Str} {l : List Nat} (h : y.cps.toList = l) : y = mkS l := by
  obtain ⟨⟨l'⟩⟩ := y
  subst h
  rfl
theorem left_len {rem S : List Nat} (h : Left rem S) : rem.length ≤ S.length + 1 := by
  rcases h with rfl | ⟨w, _, rfl⟩
  · exact Nat.le_succ _
  · exact Nat.le_refl _
theorem cnt_cntN : ∀ l : List Nat, PyProof.Rows.cnt 10 l = (cntN l : Int)
  | [] => rfl
  | c :: r => by
    rw [PyProof.Rows.cnt_cons, cnt_cntN r, cntN_cons]
    by_cases h : c = 10
    · simp [h]
    · simp [h]
theorem count_nl (x : Str) : Txt.count x (Str.ofString "\n") = (cntN x.cps.toList : Int) := by
  rw [show (Str.ofString "\n") = (⟨#[10]⟩ : Str) from rfl, PyProof.Rows.count_cnt, cnt_cntN]

end Mine
namespace Mine
theorem reset_law1p : True := by
  w_top off
  trivial
theorem shape_small : ∀ szs ∈ shapes, szs.length ≤ 3 ∧ ∀ a ∈ szs, 1 ≤ a ∧ a ≤ 3 := by decide +kernel
theorem figs_aux (b : Nat) : ∀ (szs : List Nat) (i f : Nat), (∀ a ∈ szs, 1 ≤ a ∧ a ≤ 3) → (figsF b f i szs).length = szs.sum ∧ ∀ k ∈ figsF b f i szs, f + 1 ≤ k ∧ k ≤ f + 5 * szs.length
  | [], _, _, _ => ⟨rfl, fun _ h => nomatch h⟩
  | a :: r, i, f, h => by
    have hd : b / 5 ^ i % 5 < 5 := Nat.mod_lt _ (by decide)
    obtain ⟨h1, h2⟩ := figs_aux b r (i + 1) (f + (1 + b / 5 ^ i % 5)) fun x hx => h x (.tail _ hx)
    refine ⟨?_, fun k hk => ?_⟩
    · rw [figsF, List.length_append, List.length_replicate, h1, List.sum_cons]
    · rw [figsF] at hk
      rcases List.mem_append.mp hk with hk | hk
      · obtain rfl := (List.mem_replicate.mp hk).2
        rw [List.length_cons]; omega
      · have := h2 k hk
        rw [List.length_cons]; omega
theorem shape_sum : ∀ szs ∈ shapes, 1 ≤ szs.sum ∧ szs.sum ≤ 6 := by decide +kernel
theorem figs_ok (szs : List Nat) (hs : szs ∈ shapes) (b : Nat) : (1 ≤ (figsF b 0 0 szs).length ∧ (figsF b 0 0 szs).length ≤ 6) ∧ ∀ k ∈ figsF b 0 0 szs, 1 ≤ k ∧ k ≤ 15 := by
  obtain ⟨h1, h2⟩ := shape_small szs hs
  obtain ⟨h3, h4⟩ := figs_aux b szs 0 0 h2
  refine ⟨by rw [h3]; exact shape_sum szs hs, fun k hk => ?_⟩
  have := h4 k hk
  omega
noncomputable def numN (ns : List Nat) : Nat := ns.foldl (fun a n => 16 * a + n) 0
theorem num16_nat (ns : List Nat) (k : Nat) : num16 (k : Int) (ns.map fun (x : Nat) => (x : Int)) = ((ns.foldl (fun a n => 16 * a + n) k : Nat) : Int) := by
  induction ns generalizing k with
  | nil => rfl
  | cons a r ih =>
    have := ih (16 * k + a)
    unfold num16 at this ⊢
    rw [List.map_cons, List.foldl_cons, List.foldl_cons, ← this]
    congr 1
noncomputable def numR (l : List Nat) : Nat := l.foldr (fun d a => 16 * a + d) 0
theorem numN_rev (ns : List Nat) : numN ns = numR ns.reverse := by
  unfold numN numR
  rw [List.foldr_reverse]
theorem numR_lt : ∀ l : List Nat, (∀ k ∈ l, 1 ≤ k ∧ k ≤ 15) → numR l < 16 ^ l.length
  | [], _ => by decide
  | d :: r, h => by
    have h1 := numR_lt r fun k hk => h k (.tail _ hk)
    have h2 := h d (.head _)
    show 16 * numR r + d < 16 ^ (r.length + 1)
    rw [Nat.pow_succ]; omega
theorem apF_numR : ∀ (l : List Nat) (J : Nat) (acc : List UInt8), (∀ k ∈ l, 1 ≤ k ∧ k ≤ 15) → l.length ≤ J → apF J (numR l) acc = (l.reverse.map fun d => UInt8.ofNat (65 + d)) ++ acc
  | [], J, acc, _, _ => by
    show apF J 0 acc = acc
    cases J with
    | zero => rfl
    | succ j => rw [apF, if_pos rfl]
  | d :: r, J, acc, h, hJ => by
    have h2 := h d (.head _)
    cases J with
    | zero => simp at hJ
    | succ j =>
      have e : numR (d :: r) = 16 * numR r + d := rfl
      rw [apF, if_neg (by rw [e]; omega), e, show (16 * numR r + d) / 16 = numR r by omega, show (16 * numR r + d) % 16 = d by omega, apF_numR r j _ (fun k hk => h k (.tail _ hk)) (by simpa using hJ)]
      simp
/-- the word of a number with these figures -/
theorem word_figs (fg : List Nat) (h : ∀ k ∈ fg, 1 ≤ k ∧ k ≤ 15) (hl : fg.length ≤ 10) (n : Int) (hn : n = -(num16 0 (fg.map fun (x : Nat) => (x : Int)))) : n.natAbs < 16 ^ 10 ∧ (apF 10 n.natAbs []).map (·.toNat) = fg.map (65 + ·) := by
  have e1 := num16_nat fg 0
  have e2 : n.natAbs = numR fg.reverse := by
    rw [hn, show (0 : Int) = ((0 : Nat) : Int) from rfl, e1, ← numN_rev]
    unfold numN
    omega
  have h' : ∀ k ∈ fg.reverse, 1 ≤ k ∧ k ≤ 15 := fun k hk => h k (List.mem_reverse.mp hk)
  rw [e2]
  refine ⟨?_, ?_⟩
  · have := numR_lt fg.reverse h'
    rw [List.length_reverse] at this
    exact Nat.lt_of_lt_of_le this (Nat.pow_le_pow_right (by decide) hl)
  · rw [apF_numR _ _ _ h' (by rw [List.length_reverse]; exact hl), List.reverse_reverse, List.append_nil, List.map_map]
    refine List.map_congr_left fun k hk => ?_
    have := h k hk
    show (UInt8.ofNat (65 + k)).toNat = 65 + k
    rw [UInt8.toNat_ofNat']
    omega
theorem lex_letter {rem S : List Nat} {c ch : Nat} (hc : 66 ≤ c ∧ c ≤ 80) (hch : ch < 16) (h : Left rem (spell1 c ch ++ S)) (ln : Int) : ∃ rem' ln', lexT rem ln = some ([c], rem', ln') ∧ Left rem' S ∧ ln' + cntN rem' = ln + cntN rem := by
  have core : ∀ ln : Int, ∃ rem' ln', lexT (spell1 c ch ++ S) ln = some ([c], rem', ln') ∧ Left rem' S ∧ ln' + cntN rem' = ln + cntN (spell1 c ch ++ S) := by
    intro ln
    have w1 := wsOf_ws ch hch
    have i1 : isWs c = false := by
      unfold isWs
      simp only [Bool.or_eq_false_iff, beq_eq_false_iff_ne, ne_eq]
      omega
    have i2 : isWs 34 = false := rfl
    have i3 : isWs 92 = false := rfl
    have c10 : ¬ c = 10 := by omega
    have c34 : ¬ c = 34 := by omega
    have c92 : ¬ c = 92 := by omega
    have l1 : ∀ (r : List Nat) (ln : Int), lnAft (c :: r) ln = ln := fun r ln => by simp [lnAft, c10]
    have l2 : ∀ (r : List Nat) (ln : Int), lnAft (34 :: r) ln = ln := fun r ln => by simp [lnAft]
    have l3 : ∀ (r : List Nat) (ln : Int), lnAft (92 :: r) ln = ln := fun r ln => by simp [lnAft]
    have k1 : ∀ r, cntN (c :: r) = cntN r := fun r => by rw [cntN_cons, if_neg c10, Nat.zero_add]
    have k2 : ∀ r, cntN (34 :: r) = cntN r := fun r => by rw [cntN_cons, if_neg (by decide), Nat.zero_add]
    have k3 : ∀ r, cntN (92 :: r) = cntN r := fun r => by rw [cntN_cons, if_neg (by decide), Nat.zero_add]
    unfold spell1
    rw [show ([9, 10, 13, 32] : List Nat).getD (ch / 4) 0 = wsOf ch from rfl]
    by_cases q : ch % 4 > 1
    · refine ⟨wsOf ch :: S, ln, ?_, .inr ⟨_, w1, rfl⟩, ?_⟩
      · by_cases b : ch % 2 = 1
        · simp only [if_pos q, if_pos b, List.cons_append, List.nil_append, List.append_assoc, lexT_cons, lexQ_cons, i2, l1, l2, l3, Bool.false_eq_true, if_false, if_true]
          simp [c34, c92, l1, l2, l3, lexQ_cons]
        · simp only [if_pos q, if_neg b, List.cons_append, List.nil_append, List.append_assoc, lexT_cons, lexQ_cons, i2, l1, l2, l3, Bool.false_eq_true, if_false, if_true]
          simp [c34, c92, l1, l2, l3, lexQ_cons]
      · by_cases b : ch % 2 = 1
        · simp only [if_pos q, if_pos b, List.cons_append, List.nil_append, List.append_assoc, k1, k2, k3]
        · simp only [if_pos q, if_neg b, List.cons_append, List.nil_append, List.append_assoc, k1, k2, k3]
    · refine ⟨S, lnAft (wsOf ch :: S) ln, ?_, .inl rfl, ?_⟩
      · by_cases b : ch % 2 = 1
        · simp only [if_neg q, if_pos b, List.cons_append, List.nil_append, List.append_assoc, lexT_cons, lexW_cons, i3, l1, l2, l3, w1, Bool.false_eq_true, if_false, if_true]
          simp
        · simp only [if_neg q, if_neg b, List.cons_append, List.nil_append, List.append_assoc, lexT_cons, lexW_cons, i1, l1, l2, l3, w1, Bool.false_eq_true, if_false, if_true]
          simp [c34, c92]
      · rw [lnAft_cons]
        by_cases b : ch % 2 = 1
        · simp only [if_neg q, if_pos b, List.cons_append, List.nil_append, List.append_assoc, k1, k2, k3]
        · simp only [if_neg q, if_neg b, List.cons_append, List.nil_append, List.append_assoc, k1, k2, k3]
  rcases h with rfl | ⟨w, hw, rfl⟩
  · exact core ln
  · obtain ⟨r', l', e, hl, hn⟩ := core (lnAft (w :: (spell1 c ch ++ S)) ln)
    refine ⟨r', l', ?_, hl, ?_⟩
    · rw [lexT_cons, hw, if_pos rfl, e]
    · rw [hn, lnAft_cons]
theorem ints_small {fg : List Nat} (h : ∀ k ∈ fg, 1 ≤ k ∧ k ≤ 15) : ∀ k ∈ fg.map (fun (x : Nat) => (x : Int)), 0 ≤ k ∧ k < 16 := by
  intro k hk
  obtain ⟨x, hx, rfl⟩ := List.mem_map.mp hk
  have := h x hx
  omega
/-- the letters, one by one -/
noncomputable def LettersJ (w : World) (P : LexP) (c : Nat) (text l : List Nat) (R : List (Addr × Obj)) (i : Nat) (ys : List Value) (news : List (Addr × Obj)) : Prop :=
  ∃ rem ln tl sv se qe, StrsAre sv (rem.map one).reverse ∧ news = lexLed w P ln tl sv se [] qe ++ R ∧ Left rem (spellN c i (l.drop i)) ∧ ln + cntN rem = 1 + cntN text ∧ StrsAre ys ((l.take i).map one)
theorem letters_ok {x : List Nat} {fg : List Nat} (h : x = fg.map (65 + ·)) (hd : ∀ k ∈ fg, 1 ≤ k ∧ k ≤ 15) : ∀ y ∈ x.map one, PyData.strOk y = true := by
  intro y hy
  subst h
  obtain ⟨c, hc, rfl⟩ := List.mem_map.mp hy
  obtain ⟨k, hk, rfl⟩ := List.mem_map.mp hc
  have := hd k hk
  show (#[65 + k] : Array Nat).all (· < 0x110000) = true
  simp
  omega
theorem apF_ge : ∀ (f n : Nat) (acc : List UInt8), (∀ o ∈ acc, 65 ≤ o.toNat) → ∀ o ∈ apF f n acc, 65 ≤ o.toNat
  | 0, _, _, h => h
  | f + 1, n, acc, h => by
    rw [apF]
    split
    · exact h
    · refine apF_ge f _ _ fun o ho => ?_
      rcases List.mem_cons.mp ho with rfl | ho
      · rw [UInt8.toNat_ofNat']
        have : n % 16 < 16 := Nat.mod_lt _ (by decide)
        omega
      · exact h o ho
theorem pow16_ne {n : Nat} (h : 1 ≤ n) : (16 : Int) ^ ((n : Int)).toNat - 1 ≠ 0 := by
  rw [Int.toNat_natCast]
  have h1 : (16 : Nat) ^ 1 ≤ 16 ^ n := Nat.pow_le_pow_right (by decide) h
  have h2 : ((16 : Nat) : Int) ^ n = ((16 ^ n : Nat) : Int) := by norm_cast
  have h3 : (16 : Int) ^ n = ((16 ^ n : Nat) : Int) := h2
  rw [h3]
  omega
theorem rest_word {k : Int} (h : k.natAbs < 16 ^ 20) (h0 : 0 ≤ k) (n : Nat) : (-(k.fmod ((16 : Int) ^ ((n : Int)).toNat - 1))).natAbs = k.natAbs % (16 ^ n - 1) ∧ (-(k.fmod ((16 : Int) ^ ((n : Int)).toNat - 1))).natAbs < 16 ^ 20 := by
  rw [Int.toNat_natCast]
  have h2 : ((16 : Nat) : Int) ^ n = ((16 ^ n : Nat) : Int) := by norm_cast
  have h3 : (16 : Int) ^ n = ((16 ^ n : Nat) : Int) := h2
  have h4 : 0 < 16 ^ n := Nat.pow_pos (by decide)
  have h5 : (16 : Int) ^ n - 1 = ((16 ^ n - 1 : Nat) : Int) := by rw [h3]; omega
  have e : (-(k.fmod ((16 : Int) ^ n - 1))).natAbs = k.natAbs % (16 ^ n - 1) := by
    rw [h5, Int.fmod_eq_emod_of_nonneg _ (Int.natCast_nonneg _), Int.natAbs_neg]
    obtain ⟨j, rfl⟩ := Int.eq_ofNat_of_zero_le h0
    rw [← Int.natCast_emod]
    simp only [Int.natAbs_natCast]
  rw [e]
  exact ⟨rfl, Nat.lt_of_le_of_lt (Nat.mod_le _ _) h⟩

end Mine
namespace Mine
theorem reset_law1b : True := by
  w_top off
  trivial
namespace law_read
set_option maxRecDepth 100000 in
set_option maxHeartbeats 8000000 in
noncomputable def seg9 : {p : PySem.World → PySem.Str → PySem.Addr → PySem.Value → PySem.Heap → Nat → (List PySem.Str) → (PySem.ExcName → Option PySem.Value) → (PySem.Str → Option PySem.Value) → (PySem.Str → Option PySem.Value) → PySem.Obj → PySem.Obj → PySem.Obj → PySem.Drawn → PySem.OsState → (PySem.Flow → PySem.Shared → Prop) → (PySem.Value → PySem.Shared → Prop) → (List Nat) → Nat → (List PySem.Value) → Nat → Nat → Nat → Nat → Nat → Nat → PySem.Tok → PySem.Tok → PySem.Tok → (Array PySem.GenState) → PySem.Heap → Nat → (PySem.Str → Option PySem.Value) → PySem.Heap → Nat → PySem.Addr → (List PySem.Value) → Nat → Prop // Hid (∀ a0 a1 a2 a3 a4 a5 a6 a7 a8 a9 a10 a11 a12 a13 a14 a15 a16 a17 a18 a19 a20 a21 a22 a23 a24 a25 a26 a27 a28 a29 a30 a31 a32 a33 a34 a35 a36 a37, p a0 a1 a2 a3 a4 a5 a6 a7 a8 a9 a10 a11 a12 a13 a14 a15 a16 a17 a18 a19 a20 a21 a22 a23 a24 a25 a26 a27 a28 a29 a30 a31 a32 a33 a34 a35 a36 a37) → ∀ (w : World) (cn : Str) (fa : Addr) (cd : Value) (h₀ : Heap) (L : Nat) (loose : List Str) (mean : ExcName → Option Value) (mg mb : Str → Option Value) (oR oF oL : Obj) (dr : Drawn) (os : OsState) (Q E) (dR : oR.data = .cell none) (dF : oF.data = .cell none) (dL : oL.data = .cell none) (C : CodeHd h₀ 137 133) (B : Below callerA h₀ [] h₀) (X : (Mine.hd.heap_1 w.params).In h₀) (T : Top PySem.W.topProg loose mean mg mb h₀) (hT : 133 < L) (szs : List Nat) (ls : Nat) (its : List Value) (ci : Nat) (lt kt a b c : Nat) (t1 t2 t3 : Tok) (g' : Array GenState) (h' : Heap) (tk' : Nat) (m' : Str → Option Value) (hsz : szs ∈ shapes) (hits : IntsAre its (szs.map fun (x : Nat) => (x : Int))) (hb9 : AllBare g') (hc : c < 10 ^ 9) (l1 : L + 3 < lt) (l2 : lt < ls) (F : Fr h₀ L h' (mB [(Str.ofString "sizes", .ref ls), (Str.ofString "totals", .ref lt)] m')) (N : News h₀ L h' [(ls, listOf its.toArray ci), (lt, listOf [.int (a : Int) t1, .int (b : Int) t2, .int (c : Int) t3].toArray kt), (L + 3, oR), (L + 2, oF), (L + 1, oL), (133, tabObj #[])]) (tail : LawTail w cn L fa cd h₀ oR oF dr os Q E), wpAny (model PySem.Challenge.rw_wn0028_01.prog w) (lawTop cn L fa cd) (call (.ref 112) [.int (b : Int) t2, .ref ls]) (fun v s₁ => wpAny (model PySem.Challenge.rw_wn0028_01.prog w) (lawTop cn L fa cd) (storeName (lawEnv cn L fa cd) (Str.ofString "figures") v) (fun _ s' => wpAny (model PySem.Challenge.rw_wn0028_01.prog w) (lawTop cn L fa cd) (execs (lawBs.1.drop 7) (lawEnv cn L fa cd)) Q E s') E s₁) E ⟨h', g', dr, tk', os⟩} := segOf (by
  intro ht9
  intro w cn fa cd h₀ L loose mean mg mb oR oF oL dr os Q E dR dF dL C B X T hT szs ls its ci lt kt a b c t1 t2 t3 g' h' tk' m' hsz hits hb9 hc l1 l2 F N tail
  dsimp only [mB] at F
  dsimp only [lawEnv, lawTop, lawBs, lawSs, List.drop]
  have hz3 : szs.length ≤ 3 ∧ ∀ a ∈ szs, 1 ≤ a ∧ a ≤ 3 := shape_small szs hsz
  refine' CtrR.use (figures w b t2 ls its ci szs hits (by omega) hz3.2) ?kl ?k1 ?k2 ?k3 ?k4 ?k5 ?kK ?kd ?ku ?_
  ((case k1 => k_asm); (case k2 => k_asm); (case k3 => k_asm); (case k4 => k_asm); (case k5 => k_asm); (case kl => (repeat' first | exact List.forall_mem_nil _ | refine mem_cons_all ?_ ?_ | exact sub_refl | refine sub_tail ?_ | k_mem)); (case kK => first | exact rfl | assumption); (case kd => ktr_room); (case ku => ktr_units))
  intro v9 tl9 h9 tk9 hp9 hlt9 F9 N9
  obtain ⟨lf, wf, kf, rfl, rfl, hif⟩ := hp9
  simp only [List.cons_append, List.nil_append] at N9
  have l9 : @LT.lt Nat _ ls lf := hlt9 _ (.head _) _ (.head _)
  obtain ⟨hfl, hfd⟩ := figs_ok szs hsz b
  generalize hfg : figsF b 0 0 szs = fg at hif hfl hfd
  clear N F hlt9
  clear dR dF hz3
  revert dL C B X T hT hsz hits hb9 hc l1 l2 tail F9 N9 l9 fg hfg hif hfl hfd
  exact ht9.out w cn fa cd h₀ L loose mean mg mb oR oF oL dr os Q E szs ls its ci lt kt a b c t1 t2 t3 g' h' tk' m' h9 tk9 lf wf kf
)
noncomputable def G9 (d : PySem.World × PySem.Str × PySem.Addr × PySem.Value × PySem.Heap × Nat × (List PySem.Str) × (PySem.ExcName → Option PySem.Value) × (PySem.Str → Option PySem.Value) × (PySem.Str → Option PySem.Value) × PySem.Obj × PySem.Obj × PySem.Obj × PySem.Drawn × PySem.OsState × (PySem.Flow → PySem.Shared → Prop) × (PySem.Value → PySem.Shared → Prop) × (List Nat) × Nat × (List PySem.Value) × Nat × Nat × Nat × Nat × Nat × Nat × PySem.Tok × PySem.Tok × PySem.Tok × (Array PySem.GenState) × PySem.Heap × Nat × (PySem.Str → Option PySem.Value) × PySem.Heap × Nat × PySem.Addr × (List PySem.Value) × Nat) : Prop := seg9.1 d.1 d.2.1 d.2.2.1 d.2.2.2.1 d.2.2.2.2.1 d.2.2.2.2.2.1 d.2.2.2.2.2.2.1 d.2.2.2.2.2.2.2.1 d.2.2.2.2.2.2.2.2.1 d.2.2.2.2.2.2.2.2.2.1 d.2.2.2.2.2.2.2.2.2.2.1 d.2.2.2.2.2.2.2.2.2.2.2.1 d.2.2.2.2.2.2.2.2.2.2.2.2.1 d.2.2.2.2.2.2.2.2.2.2.2.2.2.1 d.2.2.2.2.2.2.2.2.2.2.2.2.2.2.1 d.2.2.2.2.2.2.2.2.2.2.2.2.2.2.2.1 d.2.2.2.2.2.2.2.2.2.2.2.2.2.2.2.2.1 d.2.2.2.2.2.2.2.2.2.2.2.2.2.2.2.2.2.1 d.2.2.2.2.2.2.2.2.2.2.2.2.2.2.2.2.2.2.1 d.2.2.2.2.2.2.2.2.2.2.2.2.2.2.2.2.2.2.2.1 d.2.2.2.2.2.2.2.2.2.2.2.2.2.2.2.2.2.2.2.2.1 d.2.2.2.2.2.2.2.2.2.2.2.2.2.2.2.2.2.2.2.2.2.1 d.2.2.2.2.2.2.2.2.2.2.2.2.2.2.2.2.2.2.2.2.2.2.1 d.2.2.2.2.2.2.2.2.2.2.2.2.2.2.2.2.2.2.2.2.2.2.2.1 d.2.2.2.2.2.2.2.2.2.2.2.2.2.2.2.2.2.2.2.2.2.2.2.2.1 d.2.2.2.2.2.2.2.2.2.2.2.2.2.2.2.2.2.2.2.2.2.2.2.2.2.1 d.2.2.2.2.2.2.2.2.2.2.2.2.2.2.2.2.2.2.2.2.2.2.2.2.2.2.1 d.2.2.2.2.2.2.2.2.2.2.2.2.2.2.2.2.2.2.2.2.2.2.2.2.2.2.2.1 d.2.2.2.2.2.2.2.2.2.2.2.2.2.2.2.2.2.2.2.2.2.2.2.2.2.2.2.2.1 d.2.2.2.2.2.2.2.2.2.2.2.2.2.2.2.2.2.2.2.2.2.2.2.2.2.2.2.2.2.1 d.2.2.2.2.2.2.2.2.2.2.2.2.2.2.2.2.2.2.2.2.2.2.2.2.2.2.2.2.2.2.1 d.2.2.2.2.2.2.2.2.2.2.2.2.2.2.2.2.2.2.2.2.2.2.2.2.2.2.2.2.2.2.2.1 d.2.2.2.2.2.2.2.2.2.2.2.2.2.2.2.2.2.2.2.2.2.2.2.2.2.2.2.2.2.2.2.2.1 d.2.2.2.2.2.2.2.2.2.2.2.2.2.2.2.2.2.2.2.2.2.2.2.2.2.2.2.2.2.2.2.2.2.1 d.2.2.2.2.2.2.2.2.2.2.2.2.2.2.2.2.2.2.2.2.2.2.2.2.2.2.2.2.2.2.2.2.2.2.1 d.2.2.2.2.2.2.2.2.2.2.2.2.2.2.2.2.2.2.2.2.2.2.2.2.2.2.2.2.2.2.2.2.2.2.2.1 d.2.2.2.2.2.2.2.2.2.2.2.2.2.2.2.2.2.2.2.2.2.2.2.2.2.2.2.2.2.2.2.2.2.2.2.2.1 d.2.2.2.2.2.2.2.2.2.2.2.2.2.2.2.2.2.2.2.2.2.2.2.2.2.2.2.2.2.2.2.2.2.2.2.2.2
noncomputable def tup9z : PySem.World × PySem.Str × PySem.Addr × PySem.Value × PySem.Heap × Nat × (List PySem.Str) × (PySem.ExcName → Option PySem.Value) × (PySem.Str → Option PySem.Value) × (PySem.Str → Option PySem.Value) × PySem.Obj × PySem.Obj × PySem.Obj × PySem.Drawn × PySem.OsState × (PySem.Flow → PySem.Shared → Prop) × (PySem.Value → PySem.Shared → Prop) × (List Nat) × Nat × (List PySem.Value) × Nat × Nat × Nat × Nat × Nat × Nat × PySem.Tok × PySem.Tok × PySem.Tok × (Array PySem.GenState) × PySem.Heap × Nat × (PySem.Str → Option PySem.Value) × PySem.Heap × Nat × PySem.Addr × (List PySem.Value) × Nat := hen (World9, (default : Str), (0 : Nat), (default : Value), (default : Heap), (0 : Nat), [], (fun _ => none), (fun _ => none), (fun _ => none), (default : Obj), (default : Obj), (default : Obj), ({} : Drawn), ({} : OsState), (fun _ => (fun _ => True)), (fun _ => (fun _ => True)), [], (0 : Nat), [], (0 : Nat), (0 : Nat), (0 : Nat), (0 : Nat), (0 : Nat), (0 : Nat), (0 : Nat), (0 : Nat), (0 : Nat), #[], (default : Heap), (0 : Nat), (fun _ => none), (default : Heap), (0 : Nat), (0 : Nat), [], (0 : Nat)) G9
noncomputable def w : PySem.World := tup9z.1
noncomputable def cn : PySem.Str := tup9z.2.1
noncomputable def fa : PySem.Addr := tup9z.2.2.1
noncomputable def cd : PySem.Value := tup9z.2.2.2.1
noncomputable def h₀ : PySem.Heap := tup9z.2.2.2.2.1
noncomputable def L : Nat := tup9z.2.2.2.2.2.1
noncomputable def loose : List PySem.Str := tup9z.2.2.2.2.2.2.1
noncomputable def mean : PySem.ExcName → Option PySem.Value := tup9z.2.2.2.2.2.2.2.1
noncomputable def mg : PySem.Str → Option PySem.Value := tup9z.2.2.2.2.2.2.2.2.1
noncomputable def mb : PySem.Str → Option PySem.Value := tup9z.2.2.2.2.2.2.2.2.2.1
noncomputable def oR : PySem.Obj := tup9z.2.2.2.2.2.2.2.2.2.2.1
noncomputable def oF : PySem.Obj := tup9z.2.2.2.2.2.2.2.2.2.2.2.1
noncomputable def oL : PySem.Obj := tup9z.2.2.2.2.2.2.2.2.2.2.2.2.1
noncomputable def dr : PySem.Drawn := tup9z.2.2.2.2.2.2.2.2.2.2.2.2.2.1
noncomputable def os : PySem.OsState := tup9z.2.2.2.2.2.2.2.2.2.2.2.2.2.2.1
noncomputable def Q : PySem.Flow → PySem.Shared → Prop := tup9z.2.2.2.2.2.2.2.2.2.2.2.2.2.2.2.1
noncomputable def E : PySem.Value → PySem.Shared → Prop := tup9z.2.2.2.2.2.2.2.2.2.2.2.2.2.2.2.2.1
noncomputable def szs : List Nat := tup9z.2.2.2.2.2.2.2.2.2.2.2.2.2.2.2.2.2.1
noncomputable def ls : Nat := tup9z.2.2.2.2.2.2.2.2.2.2.2.2.2.2.2.2.2.2.1
noncomputable def its : List PySem.Value := tup9z.2.2.2.2.2.2.2.2.2.2.2.2.2.2.2.2.2.2.2.1
noncomputable def ci : Nat := tup9z.2.2.2.2.2.2.2.2.2.2.2.2.2.2.2.2.2.2.2.2.1
noncomputable def lt : Nat := tup9z.2.2.2.2.2.2.2.2.2.2.2.2.2.2.2.2.2.2.2.2.2.1
noncomputable def kt : Nat := tup9z.2.2.2.2.2.2.2.2.2.2.2.2.2.2.2.2.2.2.2.2.2.2.1
noncomputable def a : Nat := tup9z.2.2.2.2.2.2.2.2.2.2.2.2.2.2.2.2.2.2.2.2.2.2.2.1
noncomputable def b : Nat := tup9z.2.2.2.2.2.2.2.2.2.2.2.2.2.2.2.2.2.2.2.2.2.2.2.2.1
noncomputable def c : Nat := tup9z.2.2.2.2.2.2.2.2.2.2.2.2.2.2.2.2.2.2.2.2.2.2.2.2.2.1
noncomputable def t1 : PySem.Tok := tup9z.2.2.2.2.2.2.2.2.2.2.2.2.2.2.2.2.2.2.2.2.2.2.2.2.2.2.1
noncomputable def t2 : PySem.Tok := tup9z.2.2.2.2.2.2.2.2.2.2.2.2.2.2.2.2.2.2.2.2.2.2.2.2.2.2.2.1
noncomputable def t3 : PySem.Tok := tup9z.2.2.2.2.2.2.2.2.2.2.2.2.2.2.2.2.2.2.2.2.2.2.2.2.2.2.2.2.1
noncomputable def g' : Array PySem.GenState := tup9z.2.2.2.2.2.2.2.2.2.2.2.2.2.2.2.2.2.2.2.2.2.2.2.2.2.2.2.2.2.1
noncomputable def h' : PySem.Heap := tup9z.2.2.2.2.2.2.2.2.2.2.2.2.2.2.2.2.2.2.2.2.2.2.2.2.2.2.2.2.2.2.1
noncomputable def tk' : Nat := tup9z.2.2.2.2.2.2.2.2.2.2.2.2.2.2.2.2.2.2.2.2.2.2.2.2.2.2.2.2.2.2.2.1
noncomputable def m' : PySem.Str → Option PySem.Value := tup9z.2.2.2.2.2.2.2.2.2.2.2.2.2.2.2.2.2.2.2.2.2.2.2.2.2.2.2.2.2.2.2.2.1
noncomputable def h9 : PySem.Heap := tup9z.2.2.2.2.2.2.2.2.2.2.2.2.2.2.2.2.2.2.2.2.2.2.2.2.2.2.2.2.2.2.2.2.2.1
noncomputable def tk9 : Nat := tup9z.2.2.2.2.2.2.2.2.2.2.2.2.2.2.2.2.2.2.2.2.2.2.2.2.2.2.2.2.2.2.2.2.2.2.1
noncomputable def lf : PySem.Addr := tup9z.2.2.2.2.2.2.2.2.2.2.2.2.2.2.2.2.2.2.2.2.2.2.2.2.2.2.2.2.2.2.2.2.2.2.2.1
noncomputable def wf : List PySem.Value := tup9z.2.2.2.2.2.2.2.2.2.2.2.2.2.2.2.2.2.2.2.2.2.2.2.2.2.2.2.2.2.2.2.2.2.2.2.2.1
noncomputable def kf : Nat := tup9z.2.2.2.2.2.2.2.2.2.2.2.2.2.2.2.2.2.2.2.2.2.2.2.2.2.2.2.2.2.2.2.2.2.2.2.2.2
set_option maxRecDepth 100000 in
set_option maxHeartbeats 8000000 in
theorem main9 : seg9.1 w cn fa cd h₀ L loose mean mg mb oR oF oL dr os Q E szs ls its ci lt kt a b c t1 t2 t3 g' h' tk' m' h9 tk9 lf wf kf := by
  delta seg9 segOf
  dsimp -zeta only
  intro dL C B X T hT hsz hits hb9 hc l1 l2 tail F9 N9 l9 fg hfg hif hfl hfd
  k_with_none
  k_with "call ref cons nil" => refine stop_in ?_
  k_with "subscriptTail Name Constant ref int" => (with_unfolding_all refine' item_litK ?k1 ?k2 ?k3 ?k4 ?_ ?k6; (case k1 => is_list); (case k2 => decide); (case k3 => decide); (case k4 => rfl); (case k6 => with_unfolding_all rfl); k_whole)
  k_steps
  refine stop_out ?_
  refine' CtrR.use (number w lf wf kf _ hif (by rw [List.length_map]; omega) (ints_small hfd)) ?kl ?k1 ?k2 ?k3 ?k4 ?k5 ?kK ?kd ?ku ?_
  ((case k1 => k_asm); (case k2 => k_asm); (case k3 => k_asm); (case k4 => k_asm); (case k5 => k_asm); (case kl => (repeat' first | exact List.forall_mem_nil _ | refine mem_cons_all ?_ ?_ | exact sub_refl | refine sub_tail ?_ | k_mem)); (case kK => first | exact rfl | assumption); (case kd => ktr_room); (case ku => ktr_units))
  intro v8 tl8 h8 tk8 hp8 hlt8 F8 N8
  obtain ⟨rfl, tq8, rfl⟩ := hp8
  simp only [List.nil_append] at N8
  clear hlt8
  k_steps
  refine stop_out ?_
  obtain ⟨hw1, hw2⟩ := word_figs fg hfd (by omega) _ rfl
  refine' CtrR.use (word w _ _ 10 hw1 (by decide)) ?kl ?k1 ?k2 ?k3 ?k4 ?k5 ?kK ?kd ?ku ?_
  ((case k1 => k_asm); (case k2 => k_asm); (case k3 => k_asm); (case k4 => k_asm); (case k5 => k_asm); (case kl => (repeat' first | exact List.forall_mem_nil _ | refine mem_cons_all ?_ ?_ | exact sub_refl | refine sub_tail ?_ | k_mem)); (case kK => first | exact rfl | assumption); (case kd => ktr_room); (case ku => ktr_units))
  intro v7 tl7 h7 tk7 hp7 hlt7 F7 N7
  obtain ⟨rfl, fs, tf, rfl, hfs⟩ := hp7
  simp only [List.nil_append] at N7
  rw [hw2] at hfs
  clear hlt7
  k_steps
  refine stop_out ?_
  have hfz : fs.cps.size = fg.length := by rw [← Array.length_toList, hfs, List.length_map]
  refine' CtrR.use (spelled w fs tf c t3 (by omega) hc) ?kl ?k1 ?k2 ?k3 ?k4 ?k5 ?kK ?kd ?ku ?_
  ((case k1 => k_asm); (case k2 => k_asm); (case k3 => k_asm); (case k4 => k_asm); (case k5 => k_asm); (case kl => (repeat' first | exact List.forall_mem_nil _ | refine mem_cons_all ?_ ?_ | exact sub_refl | refine sub_tail ?_ | k_mem)); (case kK => first | exact rfl | assumption); (case kd => ktr_room); (case ku => ktr_units))
  intro v6 tl6 h6 tk6 hp6 hlt6 F6 N6
  obtain ⟨rfl, tx, tt, rfl, htx⟩ := hp6
  simp only [List.nil_append] at N6
  clear hlt6
  k_steps
  refine stop_out ?_
  have htz : tx.cps.size ≤ 1000 := by
    have := spellN_len c fs.cps.toList 0
    rw [← htx, Array.length_toList, Array.length_toList] at this
    omega
  refine' Ctr.use (reader w tx tt htz) C ?kpk ?koff ?k1 ?k2 ?k3 ?k4 ?k5 ?kK ?kd ?ku ?_
  case k1 => k_asm
  case k2 => k_asm
  case k3 => k_asm
  case k4 => k_asm
  case k5 => k_asm
  case kpk => (repeat' first | exact Pick.nil | apply Pick.cons | exact Take.head | apply Take.tail)
  case koff =>
    intro p hp
    obtain rfl := List.mem_singleton.mp hp
    (repeat' first | exact List.forall_mem_nil _ | assumption | (refine List.forall_mem_cons.mpr ⟨by (show @Ne Nat _ _); omega, ?_⟩))
  case kK => exact rfl
  case kd => ktr_room
  case ku => ktr_units
  intro v5 led5 tl5 h5 tk5 hp5 hlt5 F5 N5
  obtain ⟨P, ok, rfl, st5, ps5, rfl⟩ := hp5
  have hlow : @LT.lt Nat _ lf P.ce := by
    obtain ⟨_, _, _, _, rfl⟩ := st5
    exact hlt5 _ (.tail _ (.head _)) (P.ce, P.oC) (by simp [lexLed])
  clear hlt5
  obtain ⟨tl5, sv5, se5, hs5, rfl⟩ := st5
  have ok' := ok
  obtain ⟨x, d, pb, fn, cc, x1, d1, sg, ce, pb1, q1, q2, q3, q4, tw, u1, u2, u3, u4, u5, v1, vw, ct, pm, oc, oC, vs, tq⟩ := P
  obtain ⟨⟨o1, o2, o3, o4, o5, o6, o7, o8⟩, hcode, hname, hcell⟩ := ok
  dsimp only [lexLed] at *
  simp only [List.cons_append, List.nil_append] at N5
  k_with_none
  k_with "exec Assign cons ListComp" => refine stop_in ?_
  k_steps
  refine stop_out ?_
  rename_i h4 oL4 F4 N4 d4
  have off5 : LexP.Off ⟨x, d, pb, fn, cc, x1, d1, sg, ce, pb1, q1, q2, q3, q4, tw, u1, u2, u3, u4, u5, v1, vw, ct, pm, oc, oC, vs, tq⟩ [(L + 1, oL4), (133, tabObj ps5), (lf, listOf wf.toArray kf), (ls, listOf its.toArray ci), (lt, listOf [.int (a : Int) t1, .int (b : Int) t2, .int (c : Int) t3].toArray kt), (L + 3, oR), (L + 2, oF)] := by
    refine LexP.Off.low ok' ?_
    dsimp only
    (repeat' first | exact List.forall_mem_nil _ | (first | exact raw_lt (by assumption) (by walk_at "le9") | exact allLt_lt' (by walk_at "and_r") (by walk_at "le9")) | refine lt_cons ?_ ?_ | (with_reducible assumption) | omega)
  have hC4 : CodeHd h₀ 137 133 := C

  refine Assign_ListComp_S (env := envX _ _ _ _ _ _) (by k_asm) (by rfl) (by with_unfolding_all rfl) (by decide) (by rfl) (by decide) (by rfl) (by rfl) (by rfl) ?_
  k_with_none
  k_steps
  refine SrcT.text rfl (by k_asm) (news_of (l' := lexLed w ⟨x, d, pb, fn, cc, x1, d1, sg, ce, pb1, q1, q2, q3, q4, tw, u1, u2, u3, u4, u5, v1, vw, ct, pm, oc, oC, vs, tq⟩ 1 tl5 sv5 se5 [] 0 ++ [(L + 1, oL4), (133, tabObj ps5), (lf, listOf wf.toArray kf), (ls, listOf its.toArray ci), (lt, listOf [.int (a : Int) t1, .int (b : Int) t2, .int (c : Int) t3].toArray kt), (L + 3, oR), (L + 2, oF)]) (by k_asm) ?zS) ?zZ (fun g => compRest_ind (LettersJ w ⟨x, d, pb, fn, cc, x1, d1, sg, ce, pb1, q1, q2, q3, q4, tw, u1, u2, u3, u4, u5, v1, vw, ct, pm, oc, oC, vs, tq⟩ c tx.cps.toList fs.cps.toList [(L + 1, oL4), (133, tabObj ps5), (lf, listOf wf.toArray kf), (ls, listOf its.toArray ci), (lt, listOf [.int (a : Int) t1, .int (b : Int) t2, .int (c : Int) t3].toArray kt), (L + 3, oR), (L + 2, oF)]) ?zT ?zF _ 0 [] _ (Nat.zero_add _).symm ?zI)
  case zS => dsimp only [lexLed]; simp only [List.cons_append, List.nil_append]; (repeat' first | exact List.forall_mem_nil _ | refine mem_cons_all ?_ ?_ | exact sub_refl | refine sub_tail ?_ | k_mem)
  case zZ => rw [sizeLine_eq, hfz]; omega
  case zI => exact ⟨_, 1, _, _, _, _, hs5, rfl, .inl (by rw [htx]; rfl), rfl, .nil⟩
  case zT =>
    intro i ys news v I oI C' oC' D m₂ h tk E' hi hj hP hC hx' F' N' off ne
    obtain ⟨rem, ln, tl, sv, se, qe, hs, rfl, hl, hn, hy⟩ := hj
    have hil : i < fg.length := by omega
    have hdr : fs.cps.toList.drop i = (65 + fg[i]) :: fs.cps.toList.drop (i + 1) := by
      have hi2 : i < fs.cps.toList.length := by rw [Array.length_toList]; exact hi
      rw [List.drop_eq_getElem_cons hi2]
      congr 1
      simp only [hfs, List.getElem_map]
    have hk := hfd fg[i] (List.getElem_mem hil)
    have hlen : rem.length ≤ 1000 := by
      have h1 := left_len hl
      have h2 := spellN_len c (fs.cps.toList.drop i) i
      have h3 : (fs.cps.toList.drop i).length ≤ fg.length := by rw [List.length_drop, hfs, List.length_map]; omega
      omega
    rw [hdr, spellN] at hl
    obtain ⟨rem', ln', e1, e2, e3⟩ := lex_letter (by omega) (Nat.mod_lt _ (by decide)) hl ln
    have off9 := LexP.Off.of3 (oI := oI) (oC := oC') (oD := lst ys) off off5
    dsimp only [lexLed] at N'
    simp only [List.cons_append, List.nil_append] at N'
    k_with "call ref cons nil" => refine stop_in ?_
    k_with "call ref" => refine stop_in ?_
    k_steps
    refine stop_out ?_
    refine' Ctr.use (tok_read w ⟨x, d, pb, fn, cc, x1, d1, sg, ce, pb1, q1, q2, q3, q4, tw, u1, u2, u3, u4, u5, v1, vw, ct, pm, oc, oC, vs, tq⟩ ok' ln rem qe _ ⟨tl, sv, se, hs, rfl⟩ hlen _ _ _ e1) ?kC ?kP ?kO ?kB ?kF ?kX ?kN ?kT ?kK ?kd ?ku ?_
    ((case kF => k_asm); (case kN => k_asm); (case kB => k_asm); (case kX => k_asm); (case kT => k_asm); (case kC => k_asm); (case kK => first | exact rfl | assumption); (case kd => ktr_room); (case ku => ktr_units); (case kP => dsimp only [lexLed]; (repeat' first | exact Pick.nil | apply Pick.cons | exact Take.head | apply Take.tail)); (case kO => refine LexP.Off.to ?_; (repeat' first | assumption | refine LexP.Off.cons ?_ (by assumption) (by (try dsimp only); (show @LT.lt Nat _ _ _); omega))))
    intro v9 led9 tl9 h9 tk9 hp9 hlt9 F9 N9
    obtain ⟨rfl, ty, tt9, rfl, hty, tl2, sv2, se2, hs2, rfl⟩ := hp9
    dsimp only [lexLed] at N9
    simp only [List.cons_append, List.nil_append] at N9
    k_steps
    obtain rfl := str_of_list hty
    refine CompEnd.intro (by k_asm) (by k_asm) (lexLed w ⟨x, d, pb, fn, cc, x1, d1, sg, ce, pb1, q1, q2, q3, q4, tw, u1, u2, u3, u4, u5, v1, vw, ct, pm, oc, oC, vs, tq⟩ ln' tl2 sv2 se2 [] qe ++ [(L + 1, oL4), (133, tabObj ps5), (lf, listOf wf.toArray kf), (ls, listOf its.toArray ci), (lt, listOf [.int (a : Int) t1, .int (b : Int) t2, .int (c : Int) t3].toArray kt), (L + 3, oR), (L + 2, oF)]) (by dsimp only [lexLed]; simp only [List.cons_append, List.nil_append]; (repeat' first | exact List.forall_mem_nil _ | refine mem_cons_all ?_ ?_ | exact sub_refl | refine sub_tail ?_ | k_mem)) off trivial ⟨rem', ln', _, _, _, _, hs2, rfl, e2, e3.trans hn, ?_⟩
    rw [List.take_add_one, show fs.cps.toList[i]? = some (65 + fg[i]) by simp only [hfs, List.getElem?_map, List.getElem?_eq_getElem hil, Option.map_some], List.map_append]
    exact KStt.strs_snoc hy
  case zF =>
    intro ys news hj
    obtain ⟨rem, ln, tl, sv, se, qe, hs, rfl, hl, hn, hy⟩ := hj
    rw [show fs.cps.toList.drop fs.cps.size = [] by rw [← Array.length_toList, List.drop_length]] at hl
    rw [show fs.cps.toList.take fs.cps.size = fs.cps.toList by rw [← Array.length_toList, List.take_length]] at hy
    intro D h tk FD ND offD
    dsimp only [lexLed] at ND
    simp only [List.cons_append, List.nil_append] at ND
    k_with_none
    k_with "eval ListComp" => refine stop_in ?_
    k_steps
    refine stop_out ?_
    k_with_none
    refine LCg.ListComp_U (F₀ := by k_asm) (by with_unfolding_all rfl) (by decide) (by rfl) (by decide) (by rfl) ?_
    k_with "CompSrc" => refine stop_in ?_
    k_steps
    refine stop_out ?_
    k_with_none
    have hlf : wf.length = fg.length := by have := hif.length; rwa [List.length_map] at this
    refine LCg.CompSrc.ledger (ax := lf) (its := wf.toArray) (k := kf) (news := (D, lst ys) :: (lexLed w ⟨x, d, pb, fn, cc, x1, d1, sg, ce, pb1, q1, q2, q3, q4, tw, u1, u2, u3, u4, u5, v1, vw, ct, pm, oc, oC, vs, tq⟩ ln tl sv se [] qe ++ [(L + 1, oL4), (133, tabObj ps5), (lf, listOf wf.toArray kf), (ls, listOf its.toArray ci), (lt, listOf [.int (a : Int) t1, .int (b : Int) t2, .int (c : Int) t3].toArray kt), (L + 3, oR), (L + 2, oF)])) (by rfl) (by k_asm) (news_of (by k_asm) (by dsimp only [lexLed]; simp only [List.cons_append, List.nil_append]; (repeat' first | exact List.forall_mem_nil _ | refine mem_cons_all ?_ ?_ | exact sub_refl | refine sub_tail ?_ | k_mem))) ?zM ?zY (fun g => compRest_ind (fun i zs news => news = (D, lst ys) :: (lexLed w ⟨x, d, pb, fn, cc, x1, d1, sg, ce, pb1, q1, q2, q3, q4, tw, u1, u2, u3, u4, u5, v1, vw, ct, pm, oc, oC, vs, tq⟩ ln tl sv se [] qe ++ [(L + 1, oL4), (133, tabObj ps5), (lf, listOf wf.toArray kf), (ls, listOf its.toArray ci), (lt, listOf [.int (a : Int) t1, .int (b : Int) t2, .int (c : Int) t3].toArray kt), (L + 3, oR), (L + 2, oF)]) ∧ StrsAre zs ((fg.take i).map fun k => one (65 + k))) ?zU ?zG _ 0 [] _ (Nat.zero_add _).symm ⟨rfl, .nil⟩)
    case zM => dsimp only [lexLed]; simp only [List.cons_append, List.nil_append]; k_mem
    case zY => rw [List.size_toArray, hlf, sizeLine_eq]; omega
    case zU =>
      intro i zs news v I oI C' oC' D' m₂ h tk E' hi hj hP hC hx' F' N' off ne
      obtain ⟨rfl, hz⟩ := hj
      obtain ⟨kz, tz, rfl, hkz⟩ := ints_at hif (by simpa using hP)
      have hil : i < fg.length := by rw [List.size_toArray, hlf] at hi; exact hi
      rw [List.getElem?_map, List.getElem?_eq_getElem hil, Option.map_some] at hkz
      obtain rfl := Option.some.inj hkz
      have hk := hfd fg[i] (List.getElem_mem hil)
      have hg : fg[i]? = some fg[i] := List.getElem?_eq_getElem hil
      generalize fg[i] = f at *
      dsimp only [lexLed] at N'
      simp only [List.cons_append, List.nil_append] at N'
      k_steps
      refine CompEnd.intro (by k_asm) (by k_asm) ((D, lst ys) :: (lexLed w ⟨x, d, pb, fn, cc, x1, d1, sg, ce, pb1, q1, q2, q3, q4, tw, u1, u2, u3, u4, u5, v1, vw, ct, pm, oc, oC, vs, tq⟩ ln tl sv se [] qe ++ [(L + 1, oL4), (133, tabObj ps5), (lf, listOf wf.toArray kf), (ls, listOf its.toArray ci), (lt, listOf [.int (a : Int) t1, .int (b : Int) t2, .int (c : Int) t3].toArray kt), (L + 3, oR), (L + 2, oF)])) (by dsimp only [lexLed]; simp only [List.cons_append, List.nil_append]; (repeat' first | exact List.forall_mem_nil _ | refine mem_cons_all ?_ ?_ | exact sub_refl | refine sub_tail ?_ | k_mem)) off (.inr ⟨_, (by dsimp only [lexLed]; simp only [List.cons_append, List.nil_append]; k_mem : (lf, listOf wf.toArray kf) ∈ _), rfl, _, rfl⟩) ⟨rfl, ?_⟩
      rw [List.take_add_one, hg, List.map_append, show ((65 : Int) + (f : Int)).toNat = 65 + f by omega]
      exact KStt.strs_snoc hz
    case zG =>
      intro zs news hj
      obtain ⟨rfl, hz⟩ := hj
      rw [List.size_toArray, hlf, List.take_length] at hz
      intro D2 h tk F2 N2 offE
      dsimp only [lexLed] at N2
      simp only [List.cons_append, List.nil_append] at N2
      refine ne_strs (N2.isList (.tail _ (.head _))) hy (N2.isList (.head _)) (by rw [hfs, List.map_map]; exact hz) (letters_ok hfs hfd) (by units_room) ?_
      have N3 := news_of (l' := lexLed w ⟨x, d, pb, fn, cc, x1, d1, sg, ce, pb1, q1, q2, q3, q4, tw, u1, u2, u3, u4, u5, v1, vw, ct, pm, oc, oC, vs, tq⟩ ln tl sv se [] qe ++ [(L + 1, oL4), (133, tabObj ps5), (lf, listOf wf.toArray kf), (ls, listOf its.toArray ci), (lt, listOf [.int (a : Int) t1, .int (b : Int) t2, .int (c : Int) t3].toArray kt), (L + 3, oR), (L + 2, oF)]) N2 (by dsimp only [lexLed]; simp only [List.cons_append, List.nil_append]; (repeat' first | exact List.forall_mem_nil _ | refine mem_cons_all ?_ ?_ | exact sub_refl | refine sub_tail ?_ | k_mem))
      dsimp only [lexLed] at N3
      simp only [List.cons_append, List.nil_append] at N3
      dsimp only at F2
      clear N2 ND FD offE offD
      k_with "call ref cons nil" => refine stop_in ?_
      k_with "call ref" => refine stop_in ?_
      k_steps
      refine stop_out ?_
      have e1 := lex_end hl ln
      have hlen : rem.length ≤ 1000 := by
        have := left_len hl
        simp only [spellN, List.length_nil] at this
        omega
      refine' Ctr.use (tok_read w ⟨x, d, pb, fn, cc, x1, d1, sg, ce, pb1, q1, q2, q3, q4, tw, u1, u2, u3, u4, u5, v1, vw, ct, pm, oc, oC, vs, tq⟩ ok' ln rem qe _ ⟨tl, sv, se, hs, rfl⟩ hlen _ _ _ e1) ?kC ?kP ?kO ?kB ?kF ?kX ?kN ?kT ?kK ?kd ?ku ?_
      ((case kF => k_asm); (case kN => k_asm); (case kB => k_asm); (case kX => k_asm); (case kT => k_asm); (case kC => k_asm); (case kK => first | exact rfl | assumption); (case kd => ktr_room); (case ku => ktr_units); (case kP => dsimp only [lexLed]; (repeat' first | exact Pick.nil | apply Pick.cons | exact Take.head | apply Take.tail)); (case kO => refine LexP.Off.to ?_; (repeat' first | assumption | refine LexP.Off.cons ?_ (by assumption) (by (try dsimp only); (show @LT.lt Nat _ _ _); omega))))
      intro v9 led9 tl9 h9 tk9 hp9 hlt9 F9 N9
      obtain ⟨rfl, ty, tt9, rfl, hty, tl2, sv2, se2, hs2, rfl⟩ := hp9
      obtain rfl := str_of_list hty
      dsimp only [lexLed] at N9
      simp only [List.cons_append, List.nil_append] at N9
      k_with_none
      k_with "call ref cons nil" => refine stop_in ?_
      k_with "ite" => refine stop_in ?_
      k_steps
      refine stop_out ?_
      rw [show (mkS [] != Str.ofString "") = false from by decide +kernel, if_neg Bool.false_ne_true]
      k_steps
      refine stop_out ?_
      rw [count_nl, hn, bne_self_eq_false, if_neg Bool.false_ne_true]
      k_steps
      refine stop_out ?_
      rw [if_neg Bool.false_ne_true]
      k_with_none
      k_with "call ref cons nil" => refine stop_in ?_
      k_steps
      refine stop_out ?_
      obtain rfl := str_of_list hfs
      subst hfg
      refine' tail (ln := ln + (cntN rem : Int)) (qe := qe) szs b ⟨x, d, pb, fn, cc, x1, d1, sg, ce, pb1, q1, q2, q3, q4, tw, u1, u2, u3, u4, u5, v1, vw, ct, pm, oc, oC, vs, tq⟩ hsz hits hb9 ok' ⟨tl2, sv2, se2, hs2, rfl⟩ d4 ?q1 ?q2 F9 rfl ?q3 ?q4
      case q1 => omega
      case q2 => dsimp only; omega
      case q3 =>
        rw [show (figsF b 0 0 szs).length = ((figsF b 0 0 szs).map fun (x : Nat) => (x : Int)).length from (List.length_map ..).symm]
        exact ⟨_, rfl⟩
      case q4 =>
        refine news_of N9 ?_
        dsimp only [lexLed]
        simp only [List.cons_append, List.nil_append]
        (repeat' first | exact List.forall_mem_nil _ | refine mem_cons_all ?_ ?_ | exact sub_refl | refine sub_tail ?_ | k_mem)

set_option maxRecDepth 100000 in
set_option maxHeartbeats 8000000 in
theorem all9 : ∀ a0 a1 a2 a3 a4 a5 a6 a7 a8 a9 a10 a11 a12 a13 a14 a15 a16 a17 a18 a19 a20 a21 a22 a23 a24 a25 a26 a27 a28 a29 a30 a31 a32 a33 a34 a35 a36 a37, seg9.1 a0 a1 a2 a3 a4 a5 a6 a7 a8 a9 a10 a11 a12 a13 a14 a15 a16 a17 a18 a19 a20 a21 a22 a23 a24 a25 a26 a27 a28 a29 a30 a31 a32 a33 a34 a35 a36 a37 := fun a0 a1 a2 a3 a4 a5 a6 a7 a8 a9 a10 a11 a12 a13 a14 a15 a16 a17 a18 a19 a20 a21 a22 a23 a24 a25 a26 a27 a28 a29 a30 a31 a32 a33 a34 a35 a36 a37 => hen_all (G := G9) main9 (a0, a1, a2, a3, a4, a5, a6, a7, a8, a9, a10, a11, a12, a13, a14, a15, a16, a17, a18, a19, a20, a21, a22, a23, a24, a25, a26, a27, a28, a29, a30, a31, a32, a33, a34, a35, a36, a37)
end law_read
theorem law_read (w : World) (cn : Str) (fa : Addr) (cd : Value) (h₀ : Heap) (L : Nat) (loose : List Str) (mean : ExcName → Option Value) (mg mb : Str → Option Value) (oR oF oL : Obj) (dr : Drawn) (os : OsState) (Q E)
    (dR : oR.data = .cell none) (dF : oF.data = .cell none) (dL : oL.data = .cell none)
    (C : CodeHd h₀ 137 133) (B : Below callerA h₀ [] h₀) (X : (Mine.hd.heap_1 w.params).In h₀) (T : Top PySem.W.topProg loose mean mg mb h₀) (hT : 133 < L)
    (szs : List Nat) (ls : Nat) (its : List Value) (ci : Nat) (lt kt a b c : Nat) (t1 t2 t3 : Tok) (g' : Array GenState) (h' : Heap) (tk' : Nat) (m' : Str → Option Value) (hsz : szs ∈ shapes) (hits : IntsAre its (szs.map fun (x : Nat) => (x : Int))) (hb9 : AllBare g') (hc : c < 10 ^ 9) (l1 : L + 3 < lt) (l2 : lt < ls)
    (F : Fr h₀ L h' (mB [(Str.ofString "sizes", .ref ls), (Str.ofString "totals", .ref lt)] m')) (N : News h₀ L h' [(ls, listOf its.toArray ci), (lt, listOf [.int (a : Int) t1, .int (b : Int) t2, .int (c : Int) t3].toArray kt), (L + 3, oR), (L + 2, oF), (L + 1, oL), (133, tabObj #[])])
    (tail : LawTail w cn L fa cd h₀ oR oF dr os Q E) : wpAny (model PySem.Challenge.rw_wn0028_01.prog w) (lawTop cn L fa cd) (call (.ref 112) [.int (b : Int) t2, .ref ls]) (fun v s₁ => wpAny (model PySem.Challenge.rw_wn0028_01.prog w) (lawTop cn L fa cd) (storeName (lawEnv cn L fa cd) (Str.ofString "figures") v) (fun _ s' => wpAny (model PySem.Challenge.rw_wn0028_01.prog w) (lawTop cn L fa cd) (execs (lawBs.1.drop 7) (lawEnv cn L fa cd)) Q E s') E s₁) E ⟨h', g', dr, tk', os⟩ := law_read.seg9.2 ⟨law_read.all9⟩ w cn fa cd h₀ L loose mean mg mb oR oF oL dr os Q E dR dF dL C B X T hT szs ls its ci lt kt a b c t1 t2 t3 g' h' tk' m' hsz hits hb9 hc l1 l2 F N tail

end Mine
namespace Mine
theorem reset_law1g : True := by
  w_top off
  trivial
noncomputable def digs (n : Nat) : List Nat := ((apF 20 n []).map fun o => o.toNat - 65).reverse
noncomputable def cntP (l : List Nat) (n : Nat) : List Nat := (List.range n).map fun i => (l.filter (· == i)).length
theorem digs_ints (n : Nat) : ((apF 20 n []).map fun o => (o.toNat : Int) - 65).reverse = (digs n).map fun (x : Nat) => (x : Int) := by
  unfold digs
  rw [List.map_reverse, List.map_map]
  congr 1
  refine List.map_congr_left fun o ho => ?_
  have := apF_ge 20 n [] (fun _ h => nomatch h) o ho
  show (o.toNat : Int) - 65 = ((o.toNat - 65 : Nat) : Int)
  omega
/-- the law's last three questions, of rows alone -/
noncomputable def caseOk (szs figs : List Nat) : Bool :=
  let l := figs.map (65 + ·)
  let q := (quotF szs).natAbs
  match roundsGo 20 ⟨[l], [l], [], [], []⟩ with
  | none => false
  | some S => S.rd == digs q && (cntP S.fl (digs q).length == digs q) && (cntP S.ri (digs q).length == digs q) && decide (S.met.length ≤ 100) && (match ringsGo 9 S.met [] [] with
    | none => false
    | some G => let rest := (apF 20 (q % (16 ^ l.length - 1)) []).map (·.toNat)
      List.replicate (l.length - rest.length) 65 ++ rest == cntW G l.length && decide (rest.length ≤ l.length) && decide (G.length ≤ 100) && G.all (1 ≤ ·))
theorem case_parts {szs figs : List Nat} (h : caseOk szs figs = true) : ∃ S G, roundsGo 20 ⟨[figs.map (65 + ·)], [figs.map (65 + ·)], [], [], []⟩ = some S ∧ ringsGo 9 S.met [] [] = some G ∧ S.rd = digs (quotF szs).natAbs ∧
    cntP S.fl (digs (quotF szs).natAbs).length = digs (quotF szs).natAbs ∧ cntP S.ri (digs (quotF szs).natAbs).length = digs (quotF szs).natAbs ∧ S.met.length ≤ 100 ∧
    List.replicate (figs.length - (apF 20 ((quotF szs).natAbs % (16 ^ figs.length - 1)) []).length) 65 ++ (apF 20 ((quotF szs).natAbs % (16 ^ figs.length - 1)) []).map (·.toNat) = cntW G figs.length ∧
    (apF 20 ((quotF szs).natAbs % (16 ^ figs.length - 1)) []).length ≤ figs.length ∧ G.length ≤ 100 ∧ ∀ r ∈ G, 1 ≤ r := by
  unfold caseOk at h
  dsimp only at h
  split at h
  · cases h
  · rename_i S hS
    simp only [Bool.and_eq_true] at h
    obtain ⟨⟨⟨⟨h1, h2⟩, h3⟩, h4⟩, h5⟩ := h
    split at h5
    · cases h5
    · rename_i G hG
      simp only [Bool.and_eq_true, List.length_map, List.all_eq_true, decide_eq_true_eq] at h5
      obtain ⟨⟨⟨h6, h7⟩, h8⟩, h9⟩ := h5
      exact ⟨S, G, hS, hG, beq_iff_eq.mp h1, beq_iff_eq.mp h2, beq_iff_eq.mp h3, of_decide_eq_true h4, beq_iff_eq.mp h6, h7, h8, h9⟩
/-- the figures under the names 1, 2, 3 -/
noncomputable def gF (b : Nat) : Nat → Nat
  | 0 => 0
  | i + 1 => gF b i + (1 + b / 5 ^ i % 5)
theorem gF_lt (b : Nat) : ∀ (k i : Nat), gF b i < gF b (i + k + 1)
  | 0, i => by rw [gF]; omega
  | k + 1, i => by
    have := gF_lt b k i
    rw [show i + (k + 1) + 1 = (i + k + 1) + 1 by omega, gF]
    omega
noncomputable def upF (g : Nat → Nat) (x : Nat) : Nat := if x < 65 then x else 65 + g (x - 65)
theorem up_mon (b : Nat) : Mon (upF (gF b)) := by
  refine ⟨rfl, fun x y h => ?_⟩
  unfold upF
  by_cases hx : x < 65
  · rw [if_pos hx]
    by_cases hy : y < 65
    · rw [if_pos hy]; exact h
    · rw [if_neg hy]; omega
  · have hy : ¬ y < 65 := by omega
    rw [if_neg hx, if_neg hy]
    have := gF_lt b (y - x - 1) (x - 65)
    rw [show x - 65 + (y - x - 1) + 1 = y - 65 by omega] at this
    omega
theorem figs_under (b : Nat) : ∀ (szs : List Nat) (i : Nat), figsF b (gF b i) i szs = (figsF 0 i i szs).map (gF b)
  | [], _ => rfl
  | a :: r, i => by
    have := figs_under b r (i + 1)
    rw [figsF, figsF, Nat.zero_div, Nat.zero_mod, List.map_append, List.map_replicate]
    rw [show i + (1 + 0) = i + 1 from rfl, ← this]
    rfl
theorem case_under (szs fg : List Nat) (b : Nat) : caseOk szs (fg.map (gF b)) = caseOk szs fg := by
  have M := up_mon b
  have e : (fg.map (gF b)).map (65 + ·) = (fg.map (65 + ·)).map (upF (gF b)) := by
    rw [List.map_map, List.map_map]
    refine List.map_congr_left fun x _ => ?_
    show 65 + gF b x = upF (gF b) (65 + x)
    unfold upF
    rw [if_neg (by omega), show 65 + x - 65 = x by omega]
  unfold caseOk
  dsimp only
  rw [e]
  generalize fg.map (65 + ·) = l
  have hr := M.rounds 20 ⟨[l], [l], [], [], []⟩
  simp only [RS.under, List.map_cons, List.map_nil] at hr
  rw [hr, List.length_map]
  cases roundsGo 20 ⟨[l], [l], [], [], []⟩ with
  | none => rfl
  | some S =>
    have := M.rings 9 S.met [] []
    rw [List.map_nil] at this
    simp only [Option.map_some, RS.under, List.length_map, this]
theorem case_small : ∀ szs ∈ shapes, caseOk szs (figsF 0 0 0 szs) = true := by decide +kernel
theorem case_ok : ∀ szs ∈ shapes, ∀ b, caseOk szs (figsF b 0 0 szs) = true := by
  intro szs h b
  have := figs_under b szs 0
  rw [show gF b 0 = 0 from rfl] at this
  rw [this, case_under]
  exact case_small szs h

end Mine
namespace Mine
theorem reset_law1d : True := by
  w_top off
  trivial
namespace law_last
set_option maxRecDepth 100000 in
set_option maxHeartbeats 8000000 in
noncomputable def seg9 : {p : PySem.World → PySem.Str → PySem.Addr → PySem.Value → PySem.Heap → Nat → (List PySem.Str) → (PySem.ExcName → Option PySem.Value) → (PySem.Str → Option PySem.Value) → (PySem.Str → Option PySem.Value) → PySem.Obj → PySem.Obj → PySem.Obj → PySem.Drawn → PySem.OsState → (PySem.Flow → PySem.Shared → Prop) → (PySem.Value → PySem.Shared → Prop) → Int → Nat → Nat → (List PySem.Value) → Nat → (List (List Nat)) → (List Nat) → Nat → Nat → Int → PySem.Tok → (Array PySem.Value) → (Array PySem.GenState) → PySem.Heap → Nat → (PySem.Str → Option PySem.Value) → PySem.Tok → PySem.Tok → (List PySem.Value) → Nat → Nat → Nat → Nat → Nat → Nat → Nat → Nat → Nat → Nat → Nat → PySem.Tok → PySem.Tok → PySem.Tok → PySem.Tok → PySem.Tok → PySem.Tok → PySem.Tok → PySem.Tok → PySem.Tok → PySem.Tok → PySem.Tok → PySem.Tok → PySem.Value → PySem.Value → PySem.Obj → PySem.Obj → (Array PySem.Value) → PySem.Tok → PySem.Heap → Nat → PySem.Tok → Prop // Hid (∀ a0 a1 a2 a3 a4 a5 a6 a7 a8 a9 a10 a11 a12 a13 a14 a15 a16 a17 a18 a19 a20 a21 a22 a23 a24 a25 a26 a27 a28 a29 a30 a31 a32 a33 a34 a35 a36 a37 a38 a39 a40 a41 a42 a43 a44 a45 a46 a47 a48 a49 a50 a51 a52 a53 a54 a55 a56 a57 a58 a59 a60 a61 a62 a63 a64 a65 a66 a67, p a0 a1 a2 a3 a4 a5 a6 a7 a8 a9 a10 a11 a12 a13 a14 a15 a16 a17 a18 a19 a20 a21 a22 a23 a24 a25 a26 a27 a28 a29 a30 a31 a32 a33 a34 a35 a36 a37 a38 a39 a40 a41 a42 a43 a44 a45 a46 a47 a48 a49 a50 a51 a52 a53 a54 a55 a56 a57 a58 a59 a60 a61 a62 a63 a64 a65 a66 a67) → ∀ (w : World) (cn : Str) (fa : Addr) (cd : Value) (h₀ : Heap) (L : Nat) (loose : List Str) (mean : ExcName → Option Value) (mg mb : Str → Option Value) (oR oF oL : Obj) (dr : Drawn) (os : OsState) (Q : Flow → Shared → Prop) (E : Value → Shared → Prop) (C : CodeHd h₀ 137 133) (B : Below callerA h₀ [] h₀) (X : (Mine.hd.heap_1 w.params).In h₀) (T : Top PySem.W.topProg loose mean mg mb h₀) (hT : 133 < L) (hret : ∀ {h' : Heap} {g' : Array GenState} {tk' : Nat} {m' : Str → Option Value} {ps : Array Value} {led : List (Addr × Obj)}, AllBare g' → Fr h₀ L h' m' → News h₀ L h' led → (133, tabObj ps) ∈ led → Q (.ret (.bool true)) ⟨h', g', dr, tk', os⟩) (P : LexP) (ok : P.Ok) (ln : Int) (qe : Nat) (led : List (Addr × Obj)) (st : LexSt w P ln [] [] qe led) (hoL : oL.data = .cell (some (.ref P.x))) (Br : Nat) (wB : List Value) (cB : Nat) (met : List (List Nat)) (hB : StrsAre wB (met.map mkS)) (hpb : @LT.lt Nat _ P.pb Br) (hlo : @LT.lt Nat _ (L + 3) P.ce) (G : List Nat) (hG : ringsGo 9 met [] [] = some G) (q n : Nat) (hn : n ≤ 6) (c4 : met.length ≤ 100) (c5 : List.replicate (n - (apF 20 (q % (16 ^ n - 1)) []).length) 65 ++ (apF 20 (q % (16 ^ n - 1)) []).map (·.toNat) = cntW G n) (c6 : (apF 20 (q % (16 ^ n - 1)) []).length ≤ n) (c7 : G.length ≤ 100) (c8 : ∀ r ∈ G, 1 ≤ r) (z : Int) (tz : Tok) (hz : z.natAbs = q % (16 ^ n - 1)) (hz2 : z.natAbs < 16 ^ 20) (ps : Array Value) (g' : Array GenState) (h' : Heap) (tk' : Nat) (m' : Str → Option Value) (hbg : AllBare g') (F : Fr h₀ L h' m') (hm1 : m' (Str.ofString "rows") = some (.ref Br)) (hm2 : ∃ tz, m' (Str.ofString "length") = some (.int (n : Int) tz)) (N : News h₀ L h' ((Br, listOf wB.toArray cB) :: (led ++ [(L + 3, oR), (L + 2, oF), (L + 1, oL), (133, tabObj ps)]))), wpAny (model PySem.Challenge.rw_wn0028_01.prog w) (lawTop cn L fa cd) (call (.ref 124) [.int z tz]) (fun v s₁ => wpAny (model PySem.Challenge.rw_wn0028_01.prog w) (lawTop cn L fa cd) (storeName (lawEnv cn L fa cd) (Str.ofString "rest") v) (fun _ s' => wpAny (model PySem.Challenge.rw_wn0028_01.prog w) (lawTop cn L fa cd) (execs (lawBs.1.drop 21) (lawEnv cn L fa cd)) Q E s') E s₁) E ⟨h', g', dr, tk', os⟩} := segOf (by
  intro ht9
  intro w cn fa cd h₀ L loose mean mg mb oR oF oL dr os Q E C B X T hT hret P ok ln qe led st hoL Br wB cB met hB hpb hlo G hG q n hn c4 c5 c6 c7 c8 z tz hz hz2 ps g' h' tk' m' hbg F hm1 hm2 N
  obtain ⟨tn, hm2⟩ := hm2
  have F1 := fr_mB (ps := [(Str.ofString "rows", .ref Br), (Str.ofString "length", .int (n : Int) tn)]) F ⟨hm1, hm2, trivial⟩
  dsimp only [mB] at F1
  clear F hm1 hm2
  dsimp only [lawEnv, lawTop, lawBs, lawSs, List.drop]
  obtain ⟨tl, sv, se, hs, rfl⟩ := st
  have ok' := ok
  obtain ⟨x, d, pb, fn, cc, x1, d1, sg, ce, pb1, q1, q2, q3, q4, tw, u1, u2, u3, u4, u5, v1, vw, ct, pm, oc, oC, vs, tq⟩ := P
  obtain ⟨⟨o1, o2, o3, o4, o5, o6, o7, o8⟩, hcode, hname, hcell⟩ := ok
  dsimp only [lexLed] at *
  simp only [List.cons_append, List.nil_append] at N
  refine' CtrR.use (word w z tz 20 hz2 (by decide)) ?kl ?k1 ?k2 ?k3 ?k4 ?k5 ?kK ?kd ?ku ?_
  ((case k1 => k_asm); (case k2 => k_asm); (case k3 => k_asm); (case k4 => k_asm); (case k5 => k_asm); (case kl => (repeat' first | exact List.forall_mem_nil _ | refine mem_cons_all ?_ ?_ | exact sub_refl | refine sub_tail ?_ | k_mem)); (case kK => first | exact rfl | assumption); (case kd => ktr_room); (case ku => ktr_units))
  intro v7 tl7 h7 tk7 hp7 hlt7 F7 N7
  obtain ⟨rfl, fs, tf7, rfl, hfs⟩ := hp7
  simp only [List.nil_append] at N7
  clear hlt7
  rw [hz] at hfs
  obtain rfl := str_of_list hfs
  have off5 : LexP.Off ⟨x, d, pb, fn, cc, x1, d1, sg, ce, pb1, q1, q2, q3, q4, tw, u1, u2, u3, u4, u5, v1, vw, ct, pm, oc, oC, vs, tq⟩ [(L + 3, oR), (L + 2, oF), (L + 1, oL), (133, tabObj ps)] := by
    refine LexP.Off.low ok' ?_
    dsimp only
    (repeat' first | exact List.forall_mem_nil _ | (first | exact raw_lt (by assumption) (by walk_at "le9") | exact allLt_lt' (by walk_at "and_r") (by walk_at "le9")) | refine lt_cons ?_ ?_ | (with_reducible assumption) | omega)
  clear hz hz2 F1 N hcode hname hcell hfs
  revert C B X T hT hret hB hG hn c4 c5 c6 c7 c8 hbg hs hoL hpb hlo ok' o1 o2 o3 o4 o5 o6 o7 o8 F7 N7 off5
  exact ht9.out w cn fa cd h₀ L loose mean mg mb oR oF oL dr os Q E ln qe Br wB cB met G q n z tz ps g' h' tk' m' tn tl sv se x d pb fn cc x1 d1 sg ce pb1 q1 q2 q3 q4 tw u1 u2 u3 u4 u5 v1 vw ct pm oc oC vs tq h7 tk7 tf7
)
noncomputable def G9 (d : PySem.World × PySem.Str × PySem.Addr × PySem.Value × PySem.Heap × Nat × (List PySem.Str) × (PySem.ExcName → Option PySem.Value) × (PySem.Str → Option PySem.Value) × (PySem.Str → Option PySem.Value) × PySem.Obj × PySem.Obj × PySem.Obj × PySem.Drawn × PySem.OsState × (PySem.Flow → PySem.Shared → Prop) × (PySem.Value → PySem.Shared → Prop) × Int × Nat × Nat × (List PySem.Value) × Nat × (List (List Nat)) × (List Nat) × Nat × Nat × Int × PySem.Tok × (Array PySem.Value) × (Array PySem.GenState) × PySem.Heap × Nat × (PySem.Str → Option PySem.Value) × PySem.Tok × PySem.Tok × (List PySem.Value) × Nat × Nat × Nat × Nat × Nat × Nat × Nat × Nat × Nat × Nat × Nat × PySem.Tok × PySem.Tok × PySem.Tok × PySem.Tok × PySem.Tok × PySem.Tok × PySem.Tok × PySem.Tok × PySem.Tok × PySem.Tok × PySem.Tok × PySem.Tok × PySem.Value × PySem.Value × PySem.Obj × PySem.Obj × (Array PySem.Value) × PySem.Tok × PySem.Heap × Nat × PySem.Tok) : Prop := seg9.1 d.1 d.2.1 d.2.2.1 d.2.2.2.1 d.2.2.2.2.1 d.2.2.2.2.2.1 d.2.2.2.2.2.2.1 d.2.2.2.2.2.2.2.1 d.2.2.2.2.2.2.2.2.1 d.2.2.2.2.2.2.2.2.2.1 d.2.2.2.2.2.2.2.2.2.2.1 d.2.2.2.2.2.2.2.2.2.2.2.1 d.2.2.2.2.2.2.2.2.2.2.2.2.1 d.2.2.2.2.2.2.2.2.2.2.2.2.2.1 d.2.2.2.2.2.2.2.2.2.2.2.2.2.2.1 d.2.2.2.2.2.2.2.2.2.2.2.2.2.2.2.1 d.2.2.2.2.2.2.2.2.2.2.2.2.2.2.2.2.1 d.2.2.2.2.2.2.2.2.2.2.2.2.2.2.2.2.2.1 d.2.2.2.2.2.2.2.2.2.2.2.2.2.2.2.2.2.2.1 d.2.2.2.2.2.2.2.2.2.2.2.2.2.2.2.2.2.2.2.1 d.2.2.2.2.2.2.2.2.2.2.2.2.2.2.2.2.2.2.2.2.1 d.2.2.2.2.2.2.2.2.2.2.2.2.2.2.2.2.2.2.2.2.2.1 d.2.2.2.2.2.2.2.2.2.2.2.2.2.2.2.2.2.2.2.2.2.2.1 d.2.2.2.2.2.2.2.2.2.2.2.2.2.2.2.2.2.2.2.2.2.2.2.1 d.2.2.2.2.2.2.2.2.2.2.2.2.2.2.2.2.2.2.2.2.2.2.2.2.1 d.2.2.2.2.2.2.2.2.2.2.2.2.2.2.2.2.2.2.2.2.2.2.2.2.2.1 d.2.2.2.2.2.2.2.2.2.2.2.2.2.2.2.2.2.2.2.2.2.2.2.2.2.2.1 d.2.2.2.2.2.2.2.2.2.2.2.2.2.2.2.2.2.2.2.2.2.2.2.2.2.2.2.1 d.2.2.2.2.2.2.2.2.2.2.2.2.2.2.2.2.2.2.2.2.2.2.2.2.2.2.2.2.1 d.2.2.2.2.2.2.2.2.2.2.2.2.2.2.2.2.2.2.2.2.2.2.2.2.2.2.2.2.2.1 d.2.2.2.2.2.2.2.2.2.2.2.2.2.2.2.2.2.2.2.2.2.2.2.2.2.2.2.2.2.2.1 d.2.2.2.2.2.2.2.2.2.2.2.2.2.2.2.2.2.2.2.2.2.2.2.2.2.2.2.2.2.2.2.1 d.2.2.2.2.2.2.2.2.2.2.2.2.2.2.2.2.2.2.2.2.2.2.2.2.2.2.2.2.2.2.2.2.1 d.2.2.2.2.2.2.2.2.2.2.2.2.2.2.2.2.2.2.2.2.2.2.2.2.2.2.2.2.2.2.2.2.2.1 d.2.2.2.2.2.2.2.2.2.2.2.2.2.2.2.2.2.2.2.2.2.2.2.2.2.2.2.2.2.2.2.2.2.2.1 d.2.2.2.2.2.2.2.2.2.2.2.2.2.2.2.2.2.2.2.2.2.2.2.2.2.2.2.2.2.2.2.2.2.2.2.1 d.2.2.2.2.2.2.2.2.2.2.2.2.2.2.2.2.2.2.2.2.2.2.2.2.2.2.2.2.2.2.2.2.2.2.2.2.1 d.2.2.2.2.2.2.2.2.2.2.2.2.2.2.2.2.2.2.2.2.2.2.2.2.2.2.2.2.2.2.2.2.2.2.2.2.2.1 d.2.2.2.2.2.2.2.2.2.2.2.2.2.2.2.2.2.2.2.2.2.2.2.2.2.2.2.2.2.2.2.2.2.2.2.2.2.2.1 d.2.2.2.2.2.2.2.2.2.2.2.2.2.2.2.2.2.2.2.2.2.2.2.2.2.2.2.2.2.2.2.2.2.2.2.2.2.2.2.1 d.2.2.2.2.2.2.2.2.2.2.2.2.2.2.2.2.2.2.2.2.2.2.2.2.2.2.2.2.2.2.2.2.2.2.2.2.2.2.2.2.1 d.2.2.2.2.2.2.2.2.2.2.2.2.2.2.2.2.2.2.2.2.2.2.2.2.2.2.2.2.2.2.2.2.2.2.2.2.2.2.2.2.2.1 d.2.2.2.2.2.2.2.2.2.2.2.2.2.2.2.2.2.2.2.2.2.2.2.2.2.2.2.2.2.2.2.2.2.2.2.2.2.2.2.2.2.2.1 d.2.2.2.2.2.2.2.2.2.2.2.2.2.2.2.2.2.2.2.2.2.2.2.2.2.2.2.2.2.2.2.2.2.2.2.2.2.2.2.2.2.2.2.1 d.2.2.2.2.2.2.2.2.2.2.2.2.2.2.2.2.2.2.2.2.2.2.2.2.2.2.2.2.2.2.2.2.2.2.2.2.2.2.2.2.2.2.2.2.1 d.2.2.2.2.2.2.2.2.2.2.2.2.2.2.2.2.2.2.2.2.2.2.2.2.2.2.2.2.2.2.2.2.2.2.2.2.2.2.2.2.2.2.2.2.2.1 d.2.2.2.2.2.2.2.2.2.2.2.2.2.2.2.2.2.2.2.2.2.2.2.2.2.2.2.2.2.2.2.2.2.2.2.2.2.2.2.2.2.2.2.2.2.2.1 d.2.2.2.2.2.2.2.2.2.2.2.2.2.2.2.2.2.2.2.2.2.2.2.2.2.2.2.2.2.2.2.2.2.2.2.2.2.2.2.2.2.2.2.2.2.2.2.1 d.2.2.2.2.2.2.2.2.2.2.2.2.2.2.2.2.2.2.2.2.2.2.2.2.2.2.2.2.2.2.2.2.2.2.2.2.2.2.2.2.2.2.2.2.2.2.2.2.1 d.2.2.2.2.2.2.2.2.2.2.2.2.2.2.2.2.2.2.2.2.2.2.2.2.2.2.2.2.2.2.2.2.2.2.2.2.2.2.2.2.2.2.2.2.2.2.2.2.2.1 d.2.2.2.2.2.2.2.2.2.2.2.2.2.2.2.2.2.2.2.2.2.2.2.2.2.2.2.2.2.2.2.2.2.2.2.2.2.2.2.2.2.2.2.2.2.2.2.2.2.2.1 d.2.2.2.2.2.2.2.2.2.2.2.2.2.2.2.2.2.2.2.2.2.2.2.2.2.2.2.2.2.2.2.2.2.2.2.2.2.2.2.2.2.2.2.2.2.2.2.2.2.2.2.1 d.2.2.2.2.2.2.2.2.2.2.2.2.2.2.2.2.2.2.2.2.2.2.2.2.2.2.2.2.2.2.2.2.2.2.2.2.2.2.2.2.2.2.2.2.2.2.2.2.2.2.2.2.1 d.2.2.2.2.2.2.2.2.2.2.2.2.2.2.2.2.2.2.2.2.2.2.2.2.2.2.2.2.2.2.2.2.2.2.2.2.2.2.2.2.2.2.2.2.2.2.2.2.2.2.2.2.2.1 d.2.2.2.2.2.2.2.2.2.2.2.2.2.2.2.2.2.2.2.2.2.2.2.2.2.2.2.2.2.2.2.2.2.2.2.2.2.2.2.2.2.2.2.2.2.2.2.2.2.2.2.2.2.2.1 d.2.2.2.2.2.2.2.2.2.2.2.2.2.2.2.2.2.2.2.2.2.2.2.2.2.2.2.2.2.2.2.2.2.2.2.2.2.2.2.2.2.2.2.2.2.2.2.2.2.2.2.2.2.2.2.1 d.2.2.2.2.2.2.2.2.2.2.2.2.2.2.2.2.2.2.2.2.2.2.2.2.2.2.2.2.2.2.2.2.2.2.2.2.2.2.2.2.2.2.2.2.2.2.2.2.2.2.2.2.2.2.2.2.1 d.2.2.2.2.2.2.2.2.2.2.2.2.2.2.2.2.2.2.2.2.2.2.2.2.2.2.2.2.2.2.2.2.2.2.2.2.2.2.2.2.2.2.2.2.2.2.2.2.2.2.2.2.2.2.2.2.2.1 d.2.2.2.2.2.2.2.2.2.2.2.2.2.2.2.2.2.2.2.2.2.2.2.2.2.2.2.2.2.2.2.2.2.2.2.2.2.2.2.2.2.2.2.2.2.2.2.2.2.2.2.2.2.2.2.2.2.2.1 d.2.2.2.2.2.2.2.2.2.2.2.2.2.2.2.2.2.2.2.2.2.2.2.2.2.2.2.2.2.2.2.2.2.2.2.2.2.2.2.2.2.2.2.2.2.2.2.2.2.2.2.2.2.2.2.2.2.2.2.1 d.2.2.2.2.2.2.2.2.2.2.2.2.2.2.2.2.2.2.2.2.2.2.2.2.2.2.2.2.2.2.2.2.2.2.2.2.2.2.2.2.2.2.2.2.2.2.2.2.2.2.2.2.2.2.2.2.2.2.2.2.1 d.2.2.2.2.2.2.2.2.2.2.2.2.2.2.2.2.2.2.2.2.2.2.2.2.2.2.2.2.2.2.2.2.2.2.2.2.2.2.2.2.2.2.2.2.2.2.2.2.2.2.2.2.2.2.2.2.2.2.2.2.2.1 d.2.2.2.2.2.2.2.2.2.2.2.2.2.2.2.2.2.2.2.2.2.2.2.2.2.2.2.2.2.2.2.2.2.2.2.2.2.2.2.2.2.2.2.2.2.2.2.2.2.2.2.2.2.2.2.2.2.2.2.2.2.2.1 d.2.2.2.2.2.2.2.2.2.2.2.2.2.2.2.2.2.2.2.2.2.2.2.2.2.2.2.2.2.2.2.2.2.2.2.2.2.2.2.2.2.2.2.2.2.2.2.2.2.2.2.2.2.2.2.2.2.2.2.2.2.2.2.1 d.2.2.2.2.2.2.2.2.2.2.2.2.2.2.2.2.2.2.2.2.2.2.2.2.2.2.2.2.2.2.2.2.2.2.2.2.2.2.2.2.2.2.2.2.2.2.2.2.2.2.2.2.2.2.2.2.2.2.2.2.2.2.2.2.1 d.2.2.2.2.2.2.2.2.2.2.2.2.2.2.2.2.2.2.2.2.2.2.2.2.2.2.2.2.2.2.2.2.2.2.2.2.2.2.2.2.2.2.2.2.2.2.2.2.2.2.2.2.2.2.2.2.2.2.2.2.2.2.2.2.2.1 d.2.2.2.2.2.2.2.2.2.2.2.2.2.2.2.2.2.2.2.2.2.2.2.2.2.2.2.2.2.2.2.2.2.2.2.2.2.2.2.2.2.2.2.2.2.2.2.2.2.2.2.2.2.2.2.2.2.2.2.2.2.2.2.2.2.2.1 d.2.2.2.2.2.2.2.2.2.2.2.2.2.2.2.2.2.2.2.2.2.2.2.2.2.2.2.2.2.2.2.2.2.2.2.2.2.2.2.2.2.2.2.2.2.2.2.2.2.2.2.2.2.2.2.2.2.2.2.2.2.2.2.2.2.2.2
noncomputable def tup9z : PySem.World × PySem.Str × PySem.Addr × PySem.Value × PySem.Heap × Nat × (List PySem.Str) × (PySem.ExcName → Option PySem.Value) × (PySem.Str → Option PySem.Value) × (PySem.Str → Option PySem.Value) × PySem.Obj × PySem.Obj × PySem.Obj × PySem.Drawn × PySem.OsState × (PySem.Flow → PySem.Shared → Prop) × (PySem.Value → PySem.Shared → Prop) × Int × Nat × Nat × (List PySem.Value) × Nat × (List (List Nat)) × (List Nat) × Nat × Nat × Int × PySem.Tok × (Array PySem.Value) × (Array PySem.GenState) × PySem.Heap × Nat × (PySem.Str → Option PySem.Value) × PySem.Tok × PySem.Tok × (List PySem.Value) × Nat × Nat × Nat × Nat × Nat × Nat × Nat × Nat × Nat × Nat × Nat × PySem.Tok × PySem.Tok × PySem.Tok × PySem.Tok × PySem.Tok × PySem.Tok × PySem.Tok × PySem.Tok × PySem.Tok × PySem.Tok × PySem.Tok × PySem.Tok × PySem.Value × PySem.Value × PySem.Obj × PySem.Obj × (Array PySem.Value) × PySem.Tok × PySem.Heap × Nat × PySem.Tok := hen (World9, (default : Str), (0 : Nat), (default : Value), (default : Heap), (0 : Nat), [], (fun _ => none), (fun _ => none), (fun _ => none), (default : Obj), (default : Obj), (default : Obj), ({} : Drawn), ({} : OsState), (fun _ => (fun _ => True)), (fun _ => (fun _ => True)), (0 : Int), (0 : Nat), (0 : Nat), [], (0 : Nat), [], [], (0 : Nat), (0 : Nat), (0 : Int), (0 : Nat), #[], #[], (default : Heap), (0 : Nat), (fun _ => none), (0 : Nat), (0 : Nat), [], (0 : Nat), (0 : Nat), (0 : Nat), (0 : Nat), (0 : Nat), (0 : Nat), (0 : Nat), (0 : Nat), (0 : Nat), (0 : Nat), (0 : Nat), (0 : Nat), (0 : Nat), (0 : Nat), (0 : Nat), (0 : Nat), (0 : Nat), (0 : Nat), (0 : Nat), (0 : Nat), (0 : Nat), (0 : Nat), (0 : Nat), (default : Value), (default : Value), (default : Obj), (default : Obj), #[], (0 : Nat), (default : Heap), (0 : Nat), (0 : Nat)) G9
noncomputable def w : PySem.World := tup9z.1
noncomputable def cn : PySem.Str := tup9z.2.1
noncomputable def fa : PySem.Addr := tup9z.2.2.1
noncomputable def cd : PySem.Value := tup9z.2.2.2.1
noncomputable def h₀ : PySem.Heap := tup9z.2.2.2.2.1
noncomputable def L : Nat := tup9z.2.2.2.2.2.1
noncomputable def loose : List PySem.Str := tup9z.2.2.2.2.2.2.1
noncomputable def mean : PySem.ExcName → Option PySem.Value := tup9z.2.2.2.2.2.2.2.1
noncomputable def mg : PySem.Str → Option PySem.Value := tup9z.2.2.2.2.2.2.2.2.1
noncomputable def mb : PySem.Str → Option PySem.Value := tup9z.2.2.2.2.2.2.2.2.2.1
noncomputable def oR : PySem.Obj := tup9z.2.2.2.2.2.2.2.2.2.2.1
noncomputable def oF : PySem.Obj := tup9z.2.2.2.2.2.2.2.2.2.2.2.1
noncomputable def oL : PySem.Obj := tup9z.2.2.2.2.2.2.2.2.2.2.2.2.1
noncomputable def dr : PySem.Drawn := tup9z.2.2.2.2.2.2.2.2.2.2.2.2.2.1
noncomputable def os : PySem.OsState := tup9z.2.2.2.2.2.2.2.2.2.2.2.2.2.2.1
noncomputable def Q : PySem.Flow → PySem.Shared → Prop := tup9z.2.2.2.2.2.2.2.2.2.2.2.2.2.2.2.1
noncomputable def E : PySem.Value → PySem.Shared → Prop := tup9z.2.2.2.2.2.2.2.2.2.2.2.2.2.2.2.2.1
noncomputable def ln : Int := tup9z.2.2.2.2.2.2.2.2.2.2.2.2.2.2.2.2.2.1
noncomputable def qe : Nat := tup9z.2.2.2.2.2.2.2.2.2.2.2.2.2.2.2.2.2.2.1
noncomputable def Br : Nat := tup9z.2.2.2.2.2.2.2.2.2.2.2.2.2.2.2.2.2.2.2.1
noncomputable def wB : List PySem.Value := tup9z.2.2.2.2.2.2.2.2.2.2.2.2.2.2.2.2.2.2.2.2.1
noncomputable def cB : Nat := tup9z.2.2.2.2.2.2.2.2.2.2.2.2.2.2.2.2.2.2.2.2.2.1
noncomputable def met : List (List Nat) := tup9z.2.2.2.2.2.2.2.2.2.2.2.2.2.2.2.2.2.2.2.2.2.2.1
noncomputable def G : List Nat := tup9z.2.2.2.2.2.2.2.2.2.2.2.2.2.2.2.2.2.2.2.2.2.2.2.1
noncomputable def q : Nat := tup9z.2.2.2.2.2.2.2.2.2.2.2.2.2.2.2.2.2.2.2.2.2.2.2.2.1
noncomputable def n : Nat := tup9z.2.2.2.2.2.2.2.2.2.2.2.2.2.2.2.2.2.2.2.2.2.2.2.2.2.1
noncomputable def z : Int := tup9z.2.2.2.2.2.2.2.2.2.2.2.2.2.2.2.2.2.2.2.2.2.2.2.2.2.2.1
noncomputable def tz : PySem.Tok := tup9z.2.2.2.2.2.2.2.2.2.2.2.2.2.2.2.2.2.2.2.2.2.2.2.2.2.2.2.1
noncomputable def ps : Array PySem.Value := tup9z.2.2.2.2.2.2.2.2.2.2.2.2.2.2.2.2.2.2.2.2.2.2.2.2.2.2.2.2.1
noncomputable def g' : Array PySem.GenState := tup9z.2.2.2.2.2.2.2.2.2.2.2.2.2.2.2.2.2.2.2.2.2.2.2.2.2.2.2.2.2.1
noncomputable def h' : PySem.Heap := tup9z.2.2.2.2.2.2.2.2.2.2.2.2.2.2.2.2.2.2.2.2.2.2.2.2.2.2.2.2.2.2.1
noncomputable def tk' : Nat := tup9z.2.2.2.2.2.2.2.2.2.2.2.2.2.2.2.2.2.2.2.2.2.2.2.2.2.2.2.2.2.2.2.1
noncomputable def m' : PySem.Str → Option PySem.Value := tup9z.2.2.2.2.2.2.2.2.2.2.2.2.2.2.2.2.2.2.2.2.2.2.2.2.2.2.2.2.2.2.2.2.1
noncomputable def tn : PySem.Tok := tup9z.2.2.2.2.2.2.2.2.2.2.2.2.2.2.2.2.2.2.2.2.2.2.2.2.2.2.2.2.2.2.2.2.2.1
noncomputable def tl : PySem.Tok := tup9z.2.2.2.2.2.2.2.2.2.2.2.2.2.2.2.2.2.2.2.2.2.2.2.2.2.2.2.2.2.2.2.2.2.2.1
noncomputable def sv : List PySem.Value := tup9z.2.2.2.2.2.2.2.2.2.2.2.2.2.2.2.2.2.2.2.2.2.2.2.2.2.2.2.2.2.2.2.2.2.2.2.1
noncomputable def se : Nat := tup9z.2.2.2.2.2.2.2.2.2.2.2.2.2.2.2.2.2.2.2.2.2.2.2.2.2.2.2.2.2.2.2.2.2.2.2.2.1
noncomputable def x : Nat := tup9z.2.2.2.2.2.2.2.2.2.2.2.2.2.2.2.2.2.2.2.2.2.2.2.2.2.2.2.2.2.2.2.2.2.2.2.2.2.1
noncomputable def d : Nat := tup9z.2.2.2.2.2.2.2.2.2.2.2.2.2.2.2.2.2.2.2.2.2.2.2.2.2.2.2.2.2.2.2.2.2.2.2.2.2.2.1
noncomputable def pb : Nat := tup9z.2.2.2.2.2.2.2.2.2.2.2.2.2.2.2.2.2.2.2.2.2.2.2.2.2.2.2.2.2.2.2.2.2.2.2.2.2.2.2.1
noncomputable def fn : Nat := tup9z.2.2.2.2.2.2.2.2.2.2.2.2.2.2.2.2.2.2.2.2.2.2.2.2.2.2.2.2.2.2.2.2.2.2.2.2.2.2.2.2.1
noncomputable def cc : Nat := tup9z.2.2.2.2.2.2.2.2.2.2.2.2.2.2.2.2.2.2.2.2.2.2.2.2.2.2.2.2.2.2.2.2.2.2.2.2.2.2.2.2.2.1
noncomputable def x1 : Nat := tup9z.2.2.2.2.2.2.2.2.2.2.2.2.2.2.2.2.2.2.2.2.2.2.2.2.2.2.2.2.2.2.2.2.2.2.2.2.2.2.2.2.2.2.1
noncomputable def d1 : Nat := tup9z.2.2.2.2.2.2.2.2.2.2.2.2.2.2.2.2.2.2.2.2.2.2.2.2.2.2.2.2.2.2.2.2.2.2.2.2.2.2.2.2.2.2.2.1
noncomputable def sg : Nat := tup9z.2.2.2.2.2.2.2.2.2.2.2.2.2.2.2.2.2.2.2.2.2.2.2.2.2.2.2.2.2.2.2.2.2.2.2.2.2.2.2.2.2.2.2.2.1
noncomputable def ce : Nat := tup9z.2.2.2.2.2.2.2.2.2.2.2.2.2.2.2.2.2.2.2.2.2.2.2.2.2.2.2.2.2.2.2.2.2.2.2.2.2.2.2.2.2.2.2.2.2.1
noncomputable def pb1 : Nat := tup9z.2.2.2.2.2.2.2.2.2.2.2.2.2.2.2.2.2.2.2.2.2.2.2.2.2.2.2.2.2.2.2.2.2.2.2.2.2.2.2.2.2.2.2.2.2.2.1
noncomputable def q1 : PySem.Tok := tup9z.2.2.2.2.2.2.2.2.2.2.2.2.2.2.2.2.2.2.2.2.2.2.2.2.2.2.2.2.2.2.2.2.2.2.2.2.2.2.2.2.2.2.2.2.2.2.2.1
noncomputable def q2 : PySem.Tok := tup9z.2.2.2.2.2.2.2.2.2.2.2.2.2.2.2.2.2.2.2.2.2.2.2.2.2.2.2.2.2.2.2.2.2.2.2.2.2.2.2.2.2.2.2.2.2.2.2.2.1
noncomputable def q3 : PySem.Tok := tup9z.2.2.2.2.2.2.2.2.2.2.2.2.2.2.2.2.2.2.2.2.2.2.2.2.2.2.2.2.2.2.2.2.2.2.2.2.2.2.2.2.2.2.2.2.2.2.2.2.2.1
noncomputable def q4 : PySem.Tok := tup9z.2.2.2.2.2.2.2.2.2.2.2.2.2.2.2.2.2.2.2.2.2.2.2.2.2.2.2.2.2.2.2.2.2.2.2.2.2.2.2.2.2.2.2.2.2.2.2.2.2.2.1
noncomputable def tw : PySem.Tok := tup9z.2.2.2.2.2.2.2.2.2.2.2.2.2.2.2.2.2.2.2.2.2.2.2.2.2.2.2.2.2.2.2.2.2.2.2.2.2.2.2.2.2.2.2.2.2.2.2.2.2.2.2.1
noncomputable def u1 : PySem.Tok := tup9z.2.2.2.2.2.2.2.2.2.2.2.2.2.2.2.2.2.2.2.2.2.2.2.2.2.2.2.2.2.2.2.2.2.2.2.2.2.2.2.2.2.2.2.2.2.2.2.2.2.2.2.2.1
noncomputable def u2 : PySem.Tok := tup9z.2.2.2.2.2.2.2.2.2.2.2.2.2.2.2.2.2.2.2.2.2.2.2.2.2.2.2.2.2.2.2.2.2.2.2.2.2.2.2.2.2.2.2.2.2.2.2.2.2.2.2.2.2.1
noncomputable def u3 : PySem.Tok := tup9z.2.2.2.2.2.2.2.2.2.2.2.2.2.2.2.2.2.2.2.2.2.2.2.2.2.2.2.2.2.2.2.2.2.2.2.2.2.2.2.2.2.2.2.2.2.2.2.2.2.2.2.2.2.2.1
noncomputable def u4 : PySem.Tok := tup9z.2.2.2.2.2.2.2.2.2.2.2.2.2.2.2.2.2.2.2.2.2.2.2.2.2.2.2.2.2.2.2.2.2.2.2.2.2.2.2.2.2.2.2.2.2.2.2.2.2.2.2.2.2.2.2.1
noncomputable def u5 : PySem.Tok := tup9z.2.2.2.2.2.2.2.2.2.2.2.2.2.2.2.2.2.2.2.2.2.2.2.2.2.2.2.2.2.2.2.2.2.2.2.2.2.2.2.2.2.2.2.2.2.2.2.2.2.2.2.2.2.2.2.2.1
noncomputable def v1 : PySem.Tok := tup9z.2.2.2.2.2.2.2.2.2.2.2.2.2.2.2.2.2.2.2.2.2.2.2.2.2.2.2.2.2.2.2.2.2.2.2.2.2.2.2.2.2.2.2.2.2.2.2.2.2.2.2.2.2.2.2.2.2.1
noncomputable def vw : PySem.Tok := tup9z.2.2.2.2.2.2.2.2.2.2.2.2.2.2.2.2.2.2.2.2.2.2.2.2.2.2.2.2.2.2.2.2.2.2.2.2.2.2.2.2.2.2.2.2.2.2.2.2.2.2.2.2.2.2.2.2.2.2.1
noncomputable def ct : PySem.Value := tup9z.2.2.2.2.2.2.2.2.2.2.2.2.2.2.2.2.2.2.2.2.2.2.2.2.2.2.2.2.2.2.2.2.2.2.2.2.2.2.2.2.2.2.2.2.2.2.2.2.2.2.2.2.2.2.2.2.2.2.2.1
noncomputable def pm : PySem.Value := tup9z.2.2.2.2.2.2.2.2.2.2.2.2.2.2.2.2.2.2.2.2.2.2.2.2.2.2.2.2.2.2.2.2.2.2.2.2.2.2.2.2.2.2.2.2.2.2.2.2.2.2.2.2.2.2.2.2.2.2.2.2.1
noncomputable def oc : PySem.Obj := tup9z.2.2.2.2.2.2.2.2.2.2.2.2.2.2.2.2.2.2.2.2.2.2.2.2.2.2.2.2.2.2.2.2.2.2.2.2.2.2.2.2.2.2.2.2.2.2.2.2.2.2.2.2.2.2.2.2.2.2.2.2.2.1
noncomputable def oC : PySem.Obj := tup9z.2.2.2.2.2.2.2.2.2.2.2.2.2.2.2.2.2.2.2.2.2.2.2.2.2.2.2.2.2.2.2.2.2.2.2.2.2.2.2.2.2.2.2.2.2.2.2.2.2.2.2.2.2.2.2.2.2.2.2.2.2.2.1
noncomputable def vs : Array PySem.Value := tup9z.2.2.2.2.2.2.2.2.2.2.2.2.2.2.2.2.2.2.2.2.2.2.2.2.2.2.2.2.2.2.2.2.2.2.2.2.2.2.2.2.2.2.2.2.2.2.2.2.2.2.2.2.2.2.2.2.2.2.2.2.2.2.2.1
noncomputable def tq : PySem.Tok := tup9z.2.2.2.2.2.2.2.2.2.2.2.2.2.2.2.2.2.2.2.2.2.2.2.2.2.2.2.2.2.2.2.2.2.2.2.2.2.2.2.2.2.2.2.2.2.2.2.2.2.2.2.2.2.2.2.2.2.2.2.2.2.2.2.2.1
noncomputable def h7 : PySem.Heap := tup9z.2.2.2.2.2.2.2.2.2.2.2.2.2.2.2.2.2.2.2.2.2.2.2.2.2.2.2.2.2.2.2.2.2.2.2.2.2.2.2.2.2.2.2.2.2.2.2.2.2.2.2.2.2.2.2.2.2.2.2.2.2.2.2.2.2.1
noncomputable def tk7 : Nat := tup9z.2.2.2.2.2.2.2.2.2.2.2.2.2.2.2.2.2.2.2.2.2.2.2.2.2.2.2.2.2.2.2.2.2.2.2.2.2.2.2.2.2.2.2.2.2.2.2.2.2.2.2.2.2.2.2.2.2.2.2.2.2.2.2.2.2.2.1
noncomputable def tf7 : PySem.Tok := tup9z.2.2.2.2.2.2.2.2.2.2.2.2.2.2.2.2.2.2.2.2.2.2.2.2.2.2.2.2.2.2.2.2.2.2.2.2.2.2.2.2.2.2.2.2.2.2.2.2.2.2.2.2.2.2.2.2.2.2.2.2.2.2.2.2.2.2.2
set_option maxRecDepth 100000 in
set_option maxHeartbeats 8000000 in
theorem main9 : seg9.1 w cn fa cd h₀ L loose mean mg mb oR oF oL dr os Q E ln qe Br wB cB met G q n z tz ps g' h' tk' m' tn tl sv se x d pb fn cc x1 d1 sg ce pb1 q1 q2 q3 q4 tw u1 u2 u3 u4 u5 v1 vw ct pm oc oC vs tq h7 tk7 tf7 := by
  delta seg9 segOf
  dsimp -zeta only
  intro C B X T hT hret hB hG hn c4 c5 c6 c7 c8 hbg hs hoL hpb hlo ok' o1 o2 o3 o4 o5 o6 o7 o8 F7 N7 off5
  k_with_none
  k_with "call ref cons nil" => refine stop_in ?_
  k_steps
  refine stop_out ?_
  refine' Ctr.use (rings w ⟨x, d, pb, fn, cc, x1, d1, sg, ce, pb1, q1, q2, q3, q4, tw, u1, u2, u3, u4, u5, v1, vw, ct, pm, oc, oC, vs, tq⟩ ok' ln [] qe _ ⟨tl, sv, se, hs, rfl⟩ met Br wB cB hB (by omega) hpb G hG) ?kC ?kP ?kO ?kB ?kF ?kX ?kN ?kT ?kK ?kd ?ku ?_
  case kF => k_asm
  case kN => k_asm
  case kB => k_asm
  case kX => k_asm
  case kT => k_asm
  case kC => k_asm
  case kK => exact rfl
  case kd => ktr_room
  case ku => ktr_units
  case kP => dsimp only [lexLed]; simp only [List.cons_append, List.nil_append]; (repeat' first | exact Pick.nil | apply Pick.cons | exact Take.head | apply Take.tail)
  case kO =>
    intro p hp
    rcases List.mem_append.mp hp with hp | hp
    · exact LexP.Off.to off5 p hp
    · obtain rfl := List.mem_singleton.mp hp
      dsimp only
      (repeat' first | exact List.forall_mem_nil _ | assumption | (refine List.forall_mem_cons.mpr ⟨by (show @Ne Nat _ _); omega, ?_⟩))
  intro v9 led9 tl9 h9 tk9 hp9 hlt9 F9 N9
  obtain ⟨Rg, kr, wr, rfl, rfl, hir, lx, qe9, rfl, tl2, sv2, se2, hs2, rfl⟩ := hp9
  dsimp only [lexLed] at N9
  simp only [List.cons_append, List.nil_append] at N9
  have y1 : @LT.lt Nat _ pb Rg := hlt9 (pb, _) (List.mem_append_left _ (List.mem_append_left _ (by dsimp only [lexLed]; exact .head _))) _ (.head _)
  clear hlt9
  k_with "call builtin:len cons nil" => refine k_lenS (by rw [List.length_map]; omega) ?_
  k_with "binaryOp Mult str int" => refine stop_in ?_
  k_steps
  refine stop_out ?_
  rw [List.length_map]
  refine KXi.mul (n := 1) rfl (by decide) (by omega) (by omega) ?_
  intro t9 k9 _ _
  rw [show Txt.mul (Str.ofString "A") ((n : Int) - ((apF 20 (q % (16 ^ n - 1)) []).length : Int)) = mkS (List.replicate (n - (apF 20 (q % (16 ^ n - 1)) []).length) 65) from by
    rw [show Str.ofString "A" = (⟨#[65]⟩ : Str) from rfl]
    refine str_of_list ?_
    rw [mul_one_list]
    congr 1
    omega]
  k_with_none
  k_with "call ref cons nil" => refine stop_in ?_
  k_with "binaryOp Add str str" => (refine k_glue (by rw [List.length_replicate]; omega) (by rw [List.length_map]; omega) ?_; intro t8 k8)
  k_steps
  refine stop_out ?_
  rw [c5]
  refine' CtrR.use (counted w Rg wr kr G hir c7 c8 n _ (by omega)) ?kl ?k1 ?k2 ?k3 ?k4 ?k5 ?kK ?kd ?ku ?_
  ((case k1 => k_asm); (case k2 => k_asm); (case k3 => k_asm); (case k4 => k_asm); (case k5 => k_asm); (case kl => (repeat' first | exact List.forall_mem_nil _ | refine mem_cons_all ?_ ?_ | exact sub_refl | refine sub_tail ?_ | k_mem)); (case kK => first | exact rfl | assumption); (case kd => ktr_room); (case ku => ktr_units))
  intro v6 tl6 h6 tk6 hp6 hlt6 F6 N6
  obtain ⟨rfl, tc6, rfl⟩ := hp6
  simp only [List.nil_append] at N6
  k_with_none
  k_steps
  rw [beq_self_eq_true]
  refine hret (ps := ps) hbg F6 N6 ?_
  repeat (first | exact List.Mem.head _ | apply List.Mem.tail)

set_option maxRecDepth 100000 in
set_option maxHeartbeats 8000000 in
theorem all9 : ∀ a0 a1 a2 a3 a4 a5 a6 a7 a8 a9 a10 a11 a12 a13 a14 a15 a16 a17 a18 a19 a20 a21 a22 a23 a24 a25 a26 a27 a28 a29 a30 a31 a32 a33 a34 a35 a36 a37 a38 a39 a40 a41 a42 a43 a44 a45 a46 a47 a48 a49 a50 a51 a52 a53 a54 a55 a56 a57 a58 a59 a60 a61 a62 a63 a64 a65 a66 a67, seg9.1 a0 a1 a2 a3 a4 a5 a6 a7 a8 a9 a10 a11 a12 a13 a14 a15 a16 a17 a18 a19 a20 a21 a22 a23 a24 a25 a26 a27 a28 a29 a30 a31 a32 a33 a34 a35 a36 a37 a38 a39 a40 a41 a42 a43 a44 a45 a46 a47 a48 a49 a50 a51 a52 a53 a54 a55 a56 a57 a58 a59 a60 a61 a62 a63 a64 a65 a66 a67 := fun a0 a1 a2 a3 a4 a5 a6 a7 a8 a9 a10 a11 a12 a13 a14 a15 a16 a17 a18 a19 a20 a21 a22 a23 a24 a25 a26 a27 a28 a29 a30 a31 a32 a33 a34 a35 a36 a37 a38 a39 a40 a41 a42 a43 a44 a45 a46 a47 a48 a49 a50 a51 a52 a53 a54 a55 a56 a57 a58 a59 a60 a61 a62 a63 a64 a65 a66 a67 => hen_all (G := G9) main9 (a0, a1, a2, a3, a4, a5, a6, a7, a8, a9, a10, a11, a12, a13, a14, a15, a16, a17, a18, a19, a20, a21, a22, a23, a24, a25, a26, a27, a28, a29, a30, a31, a32, a33, a34, a35, a36, a37, a38, a39, a40, a41, a42, a43, a44, a45, a46, a47, a48, a49, a50, a51, a52, a53, a54, a55, a56, a57, a58, a59, a60, a61, a62, a63, a64, a65, a66, a67)
end law_last
theorem law_last (w : World) (cn : Str) (fa : Addr) (cd : Value) (h₀ : Heap) (L : Nat) (loose : List Str) (mean : ExcName → Option Value) (mg mb : Str → Option Value) (oR oF oL : Obj) (dr : Drawn) (os : OsState) (Q : Flow → Shared → Prop) (E : Value → Shared → Prop)
    (C : CodeHd h₀ 137 133) (B : Below callerA h₀ [] h₀) (X : (Mine.hd.heap_1 w.params).In h₀) (T : Top PySem.W.topProg loose mean mg mb h₀) (hT : 133 < L)
    (hret : ∀ {h' : Heap} {g' : Array GenState} {tk' : Nat} {m' : Str → Option Value} {ps : Array Value} {led : List (Addr × Obj)}, AllBare g' → Fr h₀ L h' m' → News h₀ L h' led → (133, tabObj ps) ∈ led → Q (.ret (.bool true)) ⟨h', g', dr, tk', os⟩)
    (P : LexP) (ok : P.Ok) {ln : Int} {qe : Nat} {led : List (Addr × Obj)} (st : LexSt w P ln [] [] qe led) (hoL : oL.data = .cell (some (.ref P.x))) (Br : Nat) (wB : List Value) (cB : Nat) (met : List (List Nat)) (hB : StrsAre wB (met.map mkS)) (hpb : @LT.lt Nat _ P.pb Br) (hlo : @LT.lt Nat _ (L + 3) P.ce)
    (G : List Nat) (hG : ringsGo 9 met [] [] = some G) (q n : Nat) (hn : n ≤ 6) (c4 : met.length ≤ 100)
    (c5 : List.replicate (n - (apF 20 (q % (16 ^ n - 1)) []).length) 65 ++ (apF 20 (q % (16 ^ n - 1)) []).map (·.toNat) = cntW G n)
    (c6 : (apF 20 (q % (16 ^ n - 1)) []).length ≤ n) (c7 : G.length ≤ 100) (c8 : ∀ r ∈ G, 1 ≤ r) (z : Int) (tz : Tok) (hz : z.natAbs = q % (16 ^ n - 1)) (hz2 : z.natAbs < 16 ^ 20)
    {ps : Array Value} {g' : Array GenState} {h' : Heap} {tk' : Nat} {m' : Str → Option Value} (hbg : AllBare g') (F : Fr h₀ L h' m') (hm1 : m' (Str.ofString "rows") = some (.ref Br)) (hm2 : ∃ tz, m' (Str.ofString "length") = some (.int (n : Int) tz))
    (N : News h₀ L h' ((Br, listOf wB.toArray cB) :: (led ++ [(L + 3, oR), (L + 2, oF), (L + 1, oL), (133, tabObj ps)]))) : wpAny (model PySem.Challenge.rw_wn0028_01.prog w) (lawTop cn L fa cd) (call (.ref 124) [.int z tz]) (fun v s₁ => wpAny (model PySem.Challenge.rw_wn0028_01.prog w) (lawTop cn L fa cd) (storeName (lawEnv cn L fa cd) (Str.ofString "rest") v) (fun _ s' => wpAny (model PySem.Challenge.rw_wn0028_01.prog w) (lawTop cn L fa cd) (execs (lawBs.1.drop 21) (lawEnv cn L fa cd)) Q E s') E s₁) E ⟨h', g', dr, tk', os⟩ := law_last.seg9.2 ⟨law_last.all9⟩ w cn fa cd h₀ L loose mean mg mb oR oF oL dr os Q E C B X T hT hret P ok ln qe led st hoL Br wB cB met hB hpb hlo G hG q n hn c4 c5 c6 c7 c8 z tz hz hz2 ps g' h' tk' m' hbg F hm1 hm2 N

end Mine
namespace Mine
theorem reset_law1c : True := by
  w_top off
  trivial
theorem quot_small : ∀ szs ∈ shapes, (quotF szs).natAbs < 16 ^ 20 ∧ 0 ≤ quotF szs ∧ (qOut szs (0, 1, 1)).2.2 ≠ 0 ∧ (qOut szs (0, 1, 1)).2.2.natAbs.log2 < 9000 := by decide +kernel
namespace law_end
set_option maxRecDepth 100000 in
set_option maxHeartbeats 8000000 in
noncomputable def seg9 : {p : PySem.World → PySem.Str → PySem.Addr → PySem.Value → PySem.Heap → Nat → (List PySem.Str) → (PySem.ExcName → Option PySem.Value) → (PySem.Str → Option PySem.Value) → (PySem.Str → Option PySem.Value) → PySem.Obj → PySem.Obj → PySem.Drawn → PySem.OsState → (PySem.Flow → PySem.Shared → Prop) → (PySem.Value → PySem.Shared → Prop) → (List Nat) → Nat → Int → Nat → Nat → (List PySem.Value) → Nat → (Array PySem.GenState) → PySem.Heap → Nat → (PySem.Str → Option PySem.Value) → PySem.Tok → PySem.Obj → (Array PySem.Value) → PySem.Tok → Mine.RS → (List Nat) → (List Nat) → PySem.Tok → (List PySem.Value) → Nat → Nat → Nat → Nat → Nat → Nat → Nat → Nat → Nat → Nat → Nat → PySem.Tok → PySem.Tok → PySem.Tok → PySem.Tok → PySem.Tok → PySem.Tok → PySem.Tok → PySem.Tok → PySem.Tok → PySem.Tok → PySem.Tok → PySem.Tok → PySem.Value → PySem.Value → PySem.Obj → PySem.Obj → (Array PySem.Value) → PySem.Tok → PySem.Heap → Nat → PySem.Addr → PySem.Addr → PySem.Addr → PySem.Addr → PySem.Addr → Nat → Nat → Nat → Nat → (List PySem.Value) → (List PySem.Value) → (List PySem.Value) → (List PySem.Value) → Nat → PySem.Tok → (List PySem.Value) → Nat → Prop // Hid (∀ a0 a1 a2 a3 a4 a5 a6 a7 a8 a9 a10 a11 a12 a13 a14 a15 a16 a17 a18 a19 a20 a21 a22 a23 a24 a25 a26 a27 a28 a29 a30 a31 a32 a33 a34 a35 a36 a37 a38 a39 a40 a41 a42 a43 a44 a45 a46 a47 a48 a49 a50 a51 a52 a53 a54 a55 a56 a57 a58 a59 a60 a61 a62 a63 a64 a65 a66 a67 a68 a69 a70 a71 a72 a73 a74 a75 a76 a77 a78 a79 a80 a81 a82 a83, p a0 a1 a2 a3 a4 a5 a6 a7 a8 a9 a10 a11 a12 a13 a14 a15 a16 a17 a18 a19 a20 a21 a22 a23 a24 a25 a26 a27 a28 a29 a30 a31 a32 a33 a34 a35 a36 a37 a38 a39 a40 a41 a42 a43 a44 a45 a46 a47 a48 a49 a50 a51 a52 a53 a54 a55 a56 a57 a58 a59 a60 a61 a62 a63 a64 a65 a66 a67 a68 a69 a70 a71 a72 a73 a74 a75 a76 a77 a78 a79 a80 a81 a82 a83) → ∀ (w : World) (cn : Str) (fa : Addr) (cd : Value) (h₀ : Heap) (L : Nat) (loose : List Str) (mean : ExcName → Option Value) (mg mb : Str → Option Value) (oR oF : Obj) (dr : Drawn) (os : OsState) (Q : Flow → Shared → Prop) (E : Value → Shared → Prop) (dR : oR.data = .cell none) (dF : oF.data = .cell none) (C : CodeHd h₀ 137 133) (B : Below callerA h₀ [] h₀) (X : (Mine.hd.heap_1 w.params).In h₀) (T : Top PySem.W.topProg loose mean mg mb h₀) (hT : 133 < L) (hret : ∀ {h' : Heap} {g' : Array GenState} {tk' : Nat} {m' : Str → Option Value} {ps : Array Value} {led : List (Addr × Obj)}, AllBare g' → Fr h₀ L h' m' → News h₀ L h' led → (133, tabObj ps) ∈ led → Q (.ret (.bool true)) ⟨h', g', dr, tk', os⟩), LawTail w cn L fa cd h₀ oR oF dr os Q E} := segOf (by
  intro ht9
  intro w cn fa cd h₀ L loose mean mg mb oR oF dr os Q E dR dF C B X T hT hret
  intro szs b P ln qe led ls its ci g' h' tk' m' tf oL ps hsz hits hbg ok st hoL l1 l2 F hm1 hm2 N
  obtain ⟨tz, hm2⟩ := hm2
  obtain ⟨S, G, hS, hG, c1, c2, c3, c4, c5, c6, c7, c8⟩ := case_parts (case_ok szs hsz b)
  obtain ⟨k1, k2, k3, k4⟩ := quot_small szs hsz
  obtain ⟨hz1, hz2⟩ := shape_small szs hsz
  obtain ⟨f1, f2⟩ := figs_ok szs hsz b
  have F1 := fr_mB (ps := [(Str.ofString "sizes", .ref ls), (Str.ofString "length", .int ((figsF b 0 0 szs).length : Int) tz)]) F ⟨hm1, hm2, trivial⟩
  dsimp only [mB] at F1
  clear F hm1 hm2
  have off : P.Off [(ls, listOf its.toArray ci), (L + 3, oR), (L + 2, oF), (L + 1, oL), (133, tabObj ps)] := by
    refine LexP.Off.low ok ?_
    (repeat' first | exact List.forall_mem_nil _ | (first | exact raw_lt (by assumption) (by walk_at "le9") | exact allLt_lt' (by walk_at "and_r") (by walk_at "le9")) | refine lt_cons ?_ ?_ | (with_reducible assumption) | omega)
  have hCC : CodeHd h₀ 137 133 := C
  dsimp only [lawEnv, lawTop, lawBs, lawSs, lawTs, List.drop]
  generalize hfg : figsF b 0 0 szs = fg at *
  obtain ⟨tl, sv, se, hs, rfl⟩ := st
  have ok' := ok
  obtain ⟨x, d, pb, fn, cc, x1, d1, sg, ce, pb1, q1, q2, q3, q4, tw, u1, u2, u3, u4, u5, v1, vw, ct, pm, oc, oC, vs, tq⟩ := P
  obtain ⟨⟨o1, o2, o3, o4, o5, o6, o7, o8⟩, hcode, hname, hcell⟩ := ok
  dsimp only [lexLed] at *
  simp only [List.cons_append, List.nil_append] at N
  refine' Ctr.use (rounds w ⟨x, d, pb, fn, cc, x1, d1, sg, ce, pb1, q1, q2, q3, q4, tw, u1, u2, u3, u4, u5, v1, vw, ct, pm, oc, oC, vs, tq⟩ ok' ln [] _ tf qe _ ⟨tl, sv, se, hs, rfl⟩ 20 S hS) ?kC ?kP ?kO ?kB ?kF ?kX ?kN ?kT ?kK ?kd ?ku ?_
  ((case kF => k_asm); (case kN => k_asm); (case kB => k_asm); (case kX => k_asm); (case kT => k_asm); (case kC => k_asm); (case kK => first | exact rfl | assumption); (case kd => ktr_room); (case ku => ktr_units); (case kP => dsimp only [lexLed]; (repeat' first | exact Pick.nil | apply Pick.cons | exact Take.head | apply Take.tail)); (case kO => refine LexP.Off.to ?_; (repeat' first | assumption | refine LexP.Off.cons ?_ (by assumption) (by (try dsimp only); (show @LT.lt Nat _ _ _); omega))))
  intro v9 led9 tl9 h9 tk9 hp9 hlt9 F9 N9
  obtain ⟨D, Br, Rd, Fl, Ri, cB, kR, kF, kI, wB, wR, wF, wI, rfl, rfl, hB, hR, hF, hI, qe9, tl2, sv2, se2, hs2, rfl⟩ := hp9
  have y1 : @LT.lt Nat _ pb D := hlt9 (pb, _) (List.mem_append_left _ (by dsimp only [lexLed]; exact .head _)) _ (.head _)
  have ypb := hlt9 (pb, _) (List.mem_append_left _ (by dsimp only [lexLed]; exact .head _))
  have y2 : @LT.lt Nat _ pb Br := ypb _ (.tail _ (.head _))
  have y3 : @LT.lt Nat _ pb Rd := ypb _ (.tail _ (.tail _ (.head _)))
  have y4 : @LT.lt Nat _ pb Fl := ypb _ (.tail _ (.tail _ (.tail _ (.head _))))
  have y5 : @LT.lt Nat _ pb Ri := ypb _ (.tail _ (.tail _ (.tail _ (.tail _ (.head _)))))
  clear ypb hlt9
  dsimp only [lexLed] at N9
  simp only [List.cons_append, List.nil_append] at N9
  clear hsz hCC hfg hS f2 F1 hs N hcode hname hcell
  revert dR dF C B X T hT hret hits hbg l1 hG c1 c2 c3 c4 c7 c8 k1 k2 k3 k4 hz1 hz2 c5 c6 f1 hoL l2 off ok' o1 o2 o3 o4 o5 o6 o7 o8 F9 hB hR hF hI hs2 N9 y1 y2 y3 y4 y5
  exact ht9.out w cn fa cd h₀ L loose mean mg mb oR oF dr os Q E szs b ln qe ls its ci g' h' tk' m' tf oL ps tz S G fg tl sv se x d pb fn cc x1 d1 sg ce pb1 q1 q2 q3 q4 tw u1 u2 u3 u4 u5 v1 vw ct pm oc oC vs tq h9 tk9 D Br Rd Fl Ri cB kR kF kI wB wR wF wI qe9 tl2 sv2 se2
)
noncomputable def G9 (d : PySem.World × PySem.Str × PySem.Addr × PySem.Value × PySem.Heap × Nat × (List PySem.Str) × (PySem.ExcName → Option PySem.Value) × (PySem.Str → Option PySem.Value) × (PySem.Str → Option PySem.Value) × PySem.Obj × PySem.Obj × PySem.Drawn × PySem.OsState × (PySem.Flow → PySem.Shared → Prop) × (PySem.Value → PySem.Shared → Prop) × (List Nat) × Nat × Int × Nat × Nat × (List PySem.Value) × Nat × (Array PySem.GenState) × PySem.Heap × Nat × (PySem.Str → Option PySem.Value) × PySem.Tok × PySem.Obj × (Array PySem.Value) × PySem.Tok × Mine.RS × (List Nat) × (List Nat) × PySem.Tok × (List PySem.Value) × Nat × Nat × Nat × Nat × Nat × Nat × Nat × Nat × Nat × Nat × Nat × PySem.Tok × PySem.Tok × PySem.Tok × PySem.Tok × PySem.Tok × PySem.Tok × PySem.Tok × PySem.Tok × PySem.Tok × PySem.Tok × PySem.Tok × PySem.Tok × PySem.Value × PySem.Value × PySem.Obj × PySem.Obj × (Array PySem.Value) × PySem.Tok × PySem.Heap × Nat × PySem.Addr × PySem.Addr × PySem.Addr × PySem.Addr × PySem.Addr × Nat × Nat × Nat × Nat × (List PySem.Value) × (List PySem.Value) × (List PySem.Value) × (List PySem.Value) × Nat × PySem.Tok × (List PySem.Value) × Nat) : Prop := seg9.1 d.1 d.2.1 d.2.2.1 d.2.2.2.1 d.2.2.2.2.1 d.2.2.2.2.2.1 d.2.2.2.2.2.2.1 d.2.2.2.2.2.2.2.1 d.2.2.2.2.2.2.2.2.1 d.2.2.2.2.2.2.2.2.2.1 d.2.2.2.2.2.2.2.2.2.2.1 d.2.2.2.2.2.2.2.2.2.2.2.1 d.2.2.2.2.2.2.2.2.2.2.2.2.1 d.2.2.2.2.2.2.2.2.2.2.2.2.2.1 d.2.2.2.2.2.2.2.2.2.2.2.2.2.2.1 d.2.2.2.2.2.2.2.2.2.2.2.2.2.2.2.1 d.2.2.2.2.2.2.2.2.2.2.2.2.2.2.2.2.1 d.2.2.2.2.2.2.2.2.2.2.2.2.2.2.2.2.2.1 d.2.2.2.2.2.2.2.2.2.2.2.2.2.2.2.2.2.2.1 d.2.2.2.2.2.2.2.2.2.2.2.2.2.2.2.2.2.2.2.1 d.2.2.2.2.2.2.2.2.2.2.2.2.2.2.2.2.2.2.2.2.1 d.2.2.2.2.2.2.2.2.2.2.2.2.2.2.2.2.2.2.2.2.2.1 d.2.2.2.2.2.2.2.2.2.2.2.2.2.2.2.2.2.2.2.2.2.2.1 d.2.2.2.2.2.2.2.2.2.2.2.2.2.2.2.2.2.2.2.2.2.2.2.1 d.2.2.2.2.2.2.2.2.2.2.2.2.2.2.2.2.2.2.2.2.2.2.2.2.1 d.2.2.2.2.2.2.2.2.2.2.2.2.2.2.2.2.2.2.2.2.2.2.2.2.2.1 d.2.2.2.2.2.2.2.2.2.2.2.2.2.2.2.2.2.2.2.2.2.2.2.2.2.2.1 d.2.2.2.2.2.2.2.2.2.2.2.2.2.2.2.2.2.2.2.2.2.2.2.2.2.2.2.1 d.2.2.2.2.2.2.2.2.2.2.2.2.2.2.2.2.2.2.2.2.2.2.2.2.2.2.2.2.1 d.2.2.2.2.2.2.2.2.2.2.2.2.2.2.2.2.2.2.2.2.2.2.2.2.2.2.2.2.2.1 d.2.2.2.2.2.2.2.2.2.2.2.2.2.2.2.2.2.2.2.2.2.2.2.2.2.2.2.2.2.2.1 d.2.2.2.2.2.2.2.2.2.2.2.2.2.2.2.2.2.2.2.2.2.2.2.2.2.2.2.2.2.2.2.1 d.2.2.2.2.2.2.2.2.2.2.2.2.2.2.2.2.2.2.2.2.2.2.2.2.2.2.2.2.2.2.2.2.1 d.2.2.2.2.2.2.2.2.2.2.2.2.2.2.2.2.2.2.2.2.2.2.2.2.2.2.2.2.2.2.2.2.2.1 d.2.2.2.2.2.2.2.2.2.2.2.2.2.2.2.2.2.2.2.2.2.2.2.2.2.2.2.2.2.2.2.2.2.2.1 d.2.2.2.2.2.2.2.2.2.2.2.2.2.2.2.2.2.2.2.2.2.2.2.2.2.2.2.2.2.2.2.2.2.2.2.1 d.2.2.2.2.2.2.2.2.2.2.2.2.2.2.2.2.2.2.2.2.2.2.2.2.2.2.2.2.2.2.2.2.2.2.2.2.1 d.2.2.2.2.2.2.2.2.2.2.2.2.2.2.2.2.2.2.2.2.2.2.2.2.2.2.2.2.2.2.2.2.2.2.2.2.2.1 d.2.2.2.2.2.2.2.2.2.2.2.2.2.2.2.2.2.2.2.2.2.2.2.2.2.2.2.2.2.2.2.2.2.2.2.2.2.2.1 d.2.2.2.2.2.2.2.2.2.2.2.2.2.2.2.2.2.2.2.2.2.2.2.2.2.2.2.2.2.2.2.2.2.2.2.2.2.2.2.1 d.2.2.2.2.2.2.2.2.2.2.2.2.2.2.2.2.2.2.2.2.2.2.2.2.2.2.2.2.2.2.2.2.2.2.2.2.2.2.2.2.1 d.2.2.2.2.2.2.2.2.2.2.2.2.2.2.2.2.2.2.2.2.2.2.2.2.2.2.2.2.2.2.2.2.2.2.2.2.2.2.2.2.2.1 d.2.2.2.2.2.2.2.2.2.2.2.2.2.2.2.2.2.2.2.2.2.2.2.2.2.2.2.2.2.2.2.2.2.2.2.2.2.2.2.2.2.2.1 d.2.2.2.2.2.2.2.2.2.2.2.2.2.2.2.2.2.2.2.2.2.2.2.2.2.2.2.2.2.2.2.2.2.2.2.2.2.2.2.2.2.2.2.1 d.2.2.2.2.2.2.2.2.2.2.2.2.2.2.2.2.2.2.2.2.2.2.2.2.2.2.2.2.2.2.2.2.2.2.2.2.2.2.2.2.2.2.2.2.1 d.2.2.2.2.2.2.2.2.2.2.2.2.2.2.2.2.2.2.2.2.2.2.2.2.2.2.2.2.2.2.2.2.2.2.2.2.2.2.2.2.2.2.2.2.2.1 d.2.2.2.2.2.2.2.2.2.2.2.2.2.2.2.2.2.2.2.2.2.2.2.2.2.2.2.2.2.2.2.2.2.2.2.2.2.2.2.2.2.2.2.2.2.2.1 d.2.2.2.2.2.2.2.2.2.2.2.2.2.2.2.2.2.2.2.2.2.2.2.2.2.2.2.2.2.2.2.2.2.2.2.2.2.2.2.2.2.2.2.2.2.2.2.1 d.2.2.2.2.2.2.2.2.2.2.2.2.2.2.2.2.2.2.2.2.2.2.2.2.2.2.2.2.2.2.2.2.2.2.2.2.2.2.2.2.2.2.2.2.2.2.2.2.1 d.2.2.2.2.2.2.2.2.2.2.2.2.2.2.2.2.2.2.2.2.2.2.2.2.2.2.2.2.2.2.2.2.2.2.2.2.2.2.2.2.2.2.2.2.2.2.2.2.2.1 d.2.2.2.2.2.2.2.2.2.2.2.2.2.2.2.2.2.2.2.2.2.2.2.2.2.2.2.2.2.2.2.2.2.2.2.2.2.2.2.2.2.2.2.2.2.2.2.2.2.2.1 d.2.2.2.2.2.2.2.2.2.2.2.2.2.2.2.2.2.2.2.2.2.2.2.2.2.2.2.2.2.2.2.2.2.2.2.2.2.2.2.2.2.2.2.2.2.2.2.2.2.2.2.1 d.2.2.2.2.2.2.2.2.2.2.2.2.2.2.2.2.2.2.2.2.2.2.2.2.2.2.2.2.2.2.2.2.2.2.2.2.2.2.2.2.2.2.2.2.2.2.2.2.2.2.2.2.1 d.2.2.2.2.2.2.2.2.2.2.2.2.2.2.2.2.2.2.2.2.2.2.2.2.2.2.2.2.2.2.2.2.2.2.2.2.2.2.2.2.2.2.2.2.2.2.2.2.2.2.2.2.2.1 d.2.2.2.2.2.2.2.2.2.2.2.2.2.2.2.2.2.2.2.2.2.2.2.2.2.2.2.2.2.2.2.2.2.2.2.2.2.2.2.2.2.2.2.2.2.2.2.2.2.2.2.2.2.2.1 d.2.2.2.2.2.2.2.2.2.2.2.2.2.2.2.2.2.2.2.2.2.2.2.2.2.2.2.2.2.2.2.2.2.2.2.2.2.2.2.2.2.2.2.2.2.2.2.2.2.2.2.2.2.2.2.1 d.2.2.2.2.2.2.2.2.2.2.2.2.2.2.2.2.2.2.2.2.2.2.2.2.2.2.2.2.2.2.2.2.2.2.2.2.2.2.2.2.2.2.2.2.2.2.2.2.2.2.2.2.2.2.2.2.1 d.2.2.2.2.2.2.2.2.2.2.2.2.2.2.2.2.2.2.2.2.2.2.2.2.2.2.2.2.2.2.2.2.2.2.2.2.2.2.2.2.2.2.2.2.2.2.2.2.2.2.2.2.2.2.2.2.2.1 d.2.2.2.2.2.2.2.2.2.2.2.2.2.2.2.2.2.2.2.2.2.2.2.2.2.2.2.2.2.2.2.2.2.2.2.2.2.2.2.2.2.2.2.2.2.2.2.2.2.2.2.2.2.2.2.2.2.2.1 d.2.2.2.2.2.2.2.2.2.2.2.2.2.2.2.2.2.2.2.2.2.2.2.2.2.2.2.2.2.2.2.2.2.2.2.2.2.2.2.2.2.2.2.2.2.2.2.2.2.2.2.2.2.2.2.2.2.2.2.1 d.2.2.2.2.2.2.2.2.2.2.2.2.2.2.2.2.2.2.2.2.2.2.2.2.2.2.2.2.2.2.2.2.2.2.2.2.2.2.2.2.2.2.2.2.2.2.2.2.2.2.2.2.2.2.2.2.2.2.2.2.1 d.2.2.2.2.2.2.2.2.2.2.2.2.2.2.2.2.2.2.2.2.2.2.2.2.2.2.2.2.2.2.2.2.2.2.2.2.2.2.2.2.2.2.2.2.2.2.2.2.2.2.2.2.2.2.2.2.2.2.2.2.2.1 d.2.2.2.2.2.2.2.2.2.2.2.2.2.2.2.2.2.2.2.2.2.2.2.2.2.2.2.2.2.2.2.2.2.2.2.2.2.2.2.2.2.2.2.2.2.2.2.2.2.2.2.2.2.2.2.2.2.2.2.2.2.2.1 d.2.2.2.2.2.2.2.2.2.2.2.2.2.2.2.2.2.2.2.2.2.2.2.2.2.2.2.2.2.2.2.2.2.2.2.2.2.2.2.2.2.2.2.2.2.2.2.2.2.2.2.2.2.2.2.2.2.2.2.2.2.2.2.1 d.2.2.2.2.2.2.2.2.2.2.2.2.2.2.2.2.2.2.2.2.2.2.2.2.2.2.2.2.2.2.2.2.2.2.2.2.2.2.2.2.2.2.2.2.2.2.2.2.2.2.2.2.2.2.2.2.2.2.2.2.2.2.2.2.1 d.2.2.2.2.2.2.2.2.2.2.2.2.2.2.2.2.2.2.2.2.2.2.2.2.2.2.2.2.2.2.2.2.2.2.2.2.2.2.2.2.2.2.2.2.2.2.2.2.2.2.2.2.2.2.2.2.2.2.2.2.2.2.2.2.2.1 d.2.2.2.2.2.2.2.2.2.2.2.2.2.2.2.2.2.2.2.2.2.2.2.2.2.2.2.2.2.2.2.2.2.2.2.2.2.2.2.2.2.2.2.2.2.2.2.2.2.2.2.2.2.2.2.2.2.2.2.2.2.2.2.2.2.2.1 d.2.2.2.2.2.2.2.2.2.2.2.2.2.2.2.2.2.2.2.2.2.2.2.2.2.2.2.2.2.2.2.2.2.2.2.2.2.2.2.2.2.2.2.2.2.2.2.2.2.2.2.2.2.2.2.2.2.2.2.2.2.2.2.2.2.2.2.1 d.2.2.2.2.2.2.2.2.2.2.2.2.2.2.2.2.2.2.2.2.2.2.2.2.2.2.2.2.2.2.2.2.2.2.2.2.2.2.2.2.2.2.2.2.2.2.2.2.2.2.2.2.2.2.2.2.2.2.2.2.2.2.2.2.2.2.2.2.1 d.2.2.2.2.2.2.2.2.2.2.2.2.2.2.2.2.2.2.2.2.2.2.2.2.2.2.2.2.2.2.2.2.2.2.2.2.2.2.2.2.2.2.2.2.2.2.2.2.2.2.2.2.2.2.2.2.2.2.2.2.2.2.2.2.2.2.2.2.2.1 d.2.2.2.2.2.2.2.2.2.2.2.2.2.2.2.2.2.2.2.2.2.2.2.2.2.2.2.2.2.2.2.2.2.2.2.2.2.2.2.2.2.2.2.2.2.2.2.2.2.2.2.2.2.2.2.2.2.2.2.2.2.2.2.2.2.2.2.2.2.2.1 d.2.2.2.2.2.2.2.2.2.2.2.2.2.2.2.2.2.2.2.2.2.2.2.2.2.2.2.2.2.2.2.2.2.2.2.2.2.2.2.2.2.2.2.2.2.2.2.2.2.2.2.2.2.2.2.2.2.2.2.2.2.2.2.2.2.2.2.2.2.2.2.1 d.2.2.2.2.2.2.2.2.2.2.2.2.2.2.2.2.2.2.2.2.2.2.2.2.2.2.2.2.2.2.2.2.2.2.2.2.2.2.2.2.2.2.2.2.2.2.2.2.2.2.2.2.2.2.2.2.2.2.2.2.2.2.2.2.2.2.2.2.2.2.2.2.1 d.2.2.2.2.2.2.2.2.2.2.2.2.2.2.2.2.2.2.2.2.2.2.2.2.2.2.2.2.2.2.2.2.2.2.2.2.2.2.2.2.2.2.2.2.2.2.2.2.2.2.2.2.2.2.2.2.2.2.2.2.2.2.2.2.2.2.2.2.2.2.2.2.2.1 d.2.2.2.2.2.2.2.2.2.2.2.2.2.2.2.2.2.2.2.2.2.2.2.2.2.2.2.2.2.2.2.2.2.2.2.2.2.2.2.2.2.2.2.2.2.2.2.2.2.2.2.2.2.2.2.2.2.2.2.2.2.2.2.2.2.2.2.2.2.2.2.2.2.2.1 d.2.2.2.2.2.2.2.2.2.2.2.2.2.2.2.2.2.2.2.2.2.2.2.2.2.2.2.2.2.2.2.2.2.2.2.2.2.2.2.2.2.2.2.2.2.2.2.2.2.2.2.2.2.2.2.2.2.2.2.2.2.2.2.2.2.2.2.2.2.2.2.2.2.2.2.1 d.2.2.2.2.2.2.2.2.2.2.2.2.2.2.2.2.2.2.2.2.2.2.2.2.2.2.2.2.2.2.2.2.2.2.2.2.2.2.2.2.2.2.2.2.2.2.2.2.2.2.2.2.2.2.2.2.2.2.2.2.2.2.2.2.2.2.2.2.2.2.2.2.2.2.2.2.1 d.2.2.2.2.2.2.2.2.2.2.2.2.2.2.2.2.2.2.2.2.2.2.2.2.2.2.2.2.2.2.2.2.2.2.2.2.2.2.2.2.2.2.2.2.2.2.2.2.2.2.2.2.2.2.2.2.2.2.2.2.2.2.2.2.2.2.2.2.2.2.2.2.2.2.2.2.2.1 d.2.2.2.2.2.2.2.2.2.2.2.2.2.2.2.2.2.2.2.2.2.2.2.2.2.2.2.2.2.2.2.2.2.2.2.2.2.2.2.2.2.2.2.2.2.2.2.2.2.2.2.2.2.2.2.2.2.2.2.2.2.2.2.2.2.2.2.2.2.2.2.2.2.2.2.2.2.2.1 d.2.2.2.2.2.2.2.2.2.2.2.2.2.2.2.2.2.2.2.2.2.2.2.2.2.2.2.2.2.2.2.2.2.2.2.2.2.2.2.2.2.2.2.2.2.2.2.2.2.2.2.2.2.2.2.2.2.2.2.2.2.2.2.2.2.2.2.2.2.2.2.2.2.2.2.2.2.2.2.1 d.2.2.2.2.2.2.2.2.2.2.2.2.2.2.2.2.2.2.2.2.2.2.2.2.2.2.2.2.2.2.2.2.2.2.2.2.2.2.2.2.2.2.2.2.2.2.2.2.2.2.2.2.2.2.2.2.2.2.2.2.2.2.2.2.2.2.2.2.2.2.2.2.2.2.2.2.2.2.2.2.1 d.2.2.2.2.2.2.2.2.2.2.2.2.2.2.2.2.2.2.2.2.2.2.2.2.2.2.2.2.2.2.2.2.2.2.2.2.2.2.2.2.2.2.2.2.2.2.2.2.2.2.2.2.2.2.2.2.2.2.2.2.2.2.2.2.2.2.2.2.2.2.2.2.2.2.2.2.2.2.2.2.2.1 d.2.2.2.2.2.2.2.2.2.2.2.2.2.2.2.2.2.2.2.2.2.2.2.2.2.2.2.2.2.2.2.2.2.2.2.2.2.2.2.2.2.2.2.2.2.2.2.2.2.2.2.2.2.2.2.2.2.2.2.2.2.2.2.2.2.2.2.2.2.2.2.2.2.2.2.2.2.2.2.2.2.2.1 d.2.2.2.2.2.2.2.2.2.2.2.2.2.2.2.2.2.2.2.2.2.2.2.2.2.2.2.2.2.2.2.2.2.2.2.2.2.2.2.2.2.2.2.2.2.2.2.2.2.2.2.2.2.2.2.2.2.2.2.2.2.2.2.2.2.2.2.2.2.2.2.2.2.2.2.2.2.2.2.2.2.2.2
noncomputable def tup9z : PySem.World × PySem.Str × PySem.Addr × PySem.Value × PySem.Heap × Nat × (List PySem.Str) × (PySem.ExcName → Option PySem.Value) × (PySem.Str → Option PySem.Value) × (PySem.Str → Option PySem.Value) × PySem.Obj × PySem.Obj × PySem.Drawn × PySem.OsState × (PySem.Flow → PySem.Shared → Prop) × (PySem.Value → PySem.Shared → Prop) × (List Nat) × Nat × Int × Nat × Nat × (List PySem.Value) × Nat × (Array PySem.GenState) × PySem.Heap × Nat × (PySem.Str → Option PySem.Value) × PySem.Tok × PySem.Obj × (Array PySem.Value) × PySem.Tok × Mine.RS × (List Nat) × (List Nat) × PySem.Tok × (List PySem.Value) × Nat × Nat × Nat × Nat × Nat × Nat × Nat × Nat × Nat × Nat × Nat × PySem.Tok × PySem.Tok × PySem.Tok × PySem.Tok × PySem.Tok × PySem.Tok × PySem.Tok × PySem.Tok × PySem.Tok × PySem.Tok × PySem.Tok × PySem.Tok × PySem.Value × PySem.Value × PySem.Obj × PySem.Obj × (Array PySem.Value) × PySem.Tok × PySem.Heap × Nat × PySem.Addr × PySem.Addr × PySem.Addr × PySem.Addr × PySem.Addr × Nat × Nat × Nat × Nat × (List PySem.Value) × (List PySem.Value) × (List PySem.Value) × (List PySem.Value) × Nat × PySem.Tok × (List PySem.Value) × Nat := hen (World9, (default : Str), (0 : Nat), (default : Value), (default : Heap), (0 : Nat), [], (fun _ => none), (fun _ => none), (fun _ => none), (default : Obj), (default : Obj), ({} : Drawn), ({} : OsState), (fun _ => (fun _ => True)), (fun _ => (fun _ => True)), [], (0 : Nat), (0 : Int), (0 : Nat), (0 : Nat), [], (0 : Nat), #[], (default : Heap), (0 : Nat), (fun _ => none), (0 : Nat), (default : Obj), #[], (0 : Nat), (⟨[], [], [], [], []⟩ : RS), [], [], (0 : Nat), [], (0 : Nat), (0 : Nat), (0 : Nat), (0 : Nat), (0 : Nat), (0 : Nat), (0 : Nat), (0 : Nat), (0 : Nat), (0 : Nat), (0 : Nat), (0 : Nat), (0 : Nat), (0 : Nat), (0 : Nat), (0 : Nat), (0 : Nat), (0 : Nat), (0 : Nat), (0 : Nat), (0 : Nat), (0 : Nat), (0 : Nat), (default : Value), (default : Value), (default : Obj), (default : Obj), #[], (0 : Nat), (default : Heap), (0 : Nat), (0 : Nat), (0 : Nat), (0 : Nat), (0 : Nat), (0 : Nat), (0 : Nat), (0 : Nat), (0 : Nat), (0 : Nat), [], [], [], [], (0 : Nat), (0 : Nat), [], (0 : Nat)) G9
noncomputable def w : PySem.World := tup9z.1
noncomputable def cn : PySem.Str := tup9z.2.1
noncomputable def fa : PySem.Addr := tup9z.2.2.1
noncomputable def cd : PySem.Value := tup9z.2.2.2.1
noncomputable def h₀ : PySem.Heap := tup9z.2.2.2.2.1
noncomputable def L : Nat := tup9z.2.2.2.2.2.1
noncomputable def loose : List PySem.Str := tup9z.2.2.2.2.2.2.1
noncomputable def mean : PySem.ExcName → Option PySem.Value := tup9z.2.2.2.2.2.2.2.1
noncomputable def mg : PySem.Str → Option PySem.Value := tup9z.2.2.2.2.2.2.2.2.1
noncomputable def mb : PySem.Str → Option PySem.Value := tup9z.2.2.2.2.2.2.2.2.2.1
noncomputable def oR : PySem.Obj := tup9z.2.2.2.2.2.2.2.2.2.2.1
noncomputable def oF : PySem.Obj := tup9z.2.2.2.2.2.2.2.2.2.2.2.1
noncomputable def dr : PySem.Drawn := tup9z.2.2.2.2.2.2.2.2.2.2.2.2.1
noncomputable def os : PySem.OsState := tup9z.2.2.2.2.2.2.2.2.2.2.2.2.2.1
noncomputable def Q : PySem.Flow → PySem.Shared → Prop := tup9z.2.2.2.2.2.2.2.2.2.2.2.2.2.2.1
noncomputable def E : PySem.Value → PySem.Shared → Prop := tup9z.2.2.2.2.2.2.2.2.2.2.2.2.2.2.2.1
noncomputable def szs : List Nat := tup9z.2.2.2.2.2.2.2.2.2.2.2.2.2.2.2.2.1
noncomputable def b : Nat := tup9z.2.2.2.2.2.2.2.2.2.2.2.2.2.2.2.2.2.1
noncomputable def ln : Int := tup9z.2.2.2.2.2.2.2.2.2.2.2.2.2.2.2.2.2.2.1
noncomputable def qe : Nat := tup9z.2.2.2.2.2.2.2.2.2.2.2.2.2.2.2.2.2.2.2.1
noncomputable def ls : Nat := tup9z.2.2.2.2.2.2.2.2.2.2.2.2.2.2.2.2.2.2.2.2.1
noncomputable def its : List PySem.Value := tup9z.2.2.2.2.2.2.2.2.2.2.2.2.2.2.2.2.2.2.2.2.2.1
noncomputable def ci : Nat := tup9z.2.2.2.2.2.2.2.2.2.2.2.2.2.2.2.2.2.2.2.2.2.2.1
noncomputable def g' : Array PySem.GenState := tup9z.2.2.2.2.2.2.2.2.2.2.2.2.2.2.2.2.2.2.2.2.2.2.2.1
noncomputable def h' : PySem.Heap := tup9z.2.2.2.2.2.2.2.2.2.2.2.2.2.2.2.2.2.2.2.2.2.2.2.2.1
noncomputable def tk' : Nat := tup9z.2.2.2.2.2.2.2.2.2.2.2.2.2.2.2.2.2.2.2.2.2.2.2.2.2.1
noncomputable def m' : PySem.Str → Option PySem.Value := tup9z.2.2.2.2.2.2.2.2.2.2.2.2.2.2.2.2.2.2.2.2.2.2.2.2.2.2.1
noncomputable def tf : PySem.Tok := tup9z.2.2.2.2.2.2.2.2.2.2.2.2.2.2.2.2.2.2.2.2.2.2.2.2.2.2.2.1
noncomputable def oL : PySem.Obj := tup9z.2.2.2.2.2.2.2.2.2.2.2.2.2.2.2.2.2.2.2.2.2.2.2.2.2.2.2.2.1
noncomputable def ps : Array PySem.Value := tup9z.2.2.2.2.2.2.2.2.2.2.2.2.2.2.2.2.2.2.2.2.2.2.2.2.2.2.2.2.2.1
noncomputable def tz : PySem.Tok := tup9z.2.2.2.2.2.2.2.2.2.2.2.2.2.2.2.2.2.2.2.2.2.2.2.2.2.2.2.2.2.2.1
noncomputable def S : Mine.RS := tup9z.2.2.2.2.2.2.2.2.2.2.2.2.2.2.2.2.2.2.2.2.2.2.2.2.2.2.2.2.2.2.2.1
noncomputable def G : List Nat := tup9z.2.2.2.2.2.2.2.2.2.2.2.2.2.2.2.2.2.2.2.2.2.2.2.2.2.2.2.2.2.2.2.2.1
noncomputable def fg : List Nat := tup9z.2.2.2.2.2.2.2.2.2.2.2.2.2.2.2.2.2.2.2.2.2.2.2.2.2.2.2.2.2.2.2.2.2.1
noncomputable def tl : PySem.Tok := tup9z.2.2.2.2.2.2.2.2.2.2.2.2.2.2.2.2.2.2.2.2.2.2.2.2.2.2.2.2.2.2.2.2.2.2.1
noncomputable def sv : List PySem.Value := tup9z.2.2.2.2.2.2.2.2.2.2.2.2.2.2.2.2.2.2.2.2.2.2.2.2.2.2.2.2.2.2.2.2.2.2.2.1
noncomputable def se : Nat := tup9z.2.2.2.2.2.2.2.2.2.2.2.2.2.2.2.2.2.2.2.2.2.2.2.2.2.2.2.2.2.2.2.2.2.2.2.2.1
noncomputable def x : Nat := tup9z.2.2.2.2.2.2.2.2.2.2.2.2.2.2.2.2.2.2.2.2.2.2.2.2.2.2.2.2.2.2.2.2.2.2.2.2.2.1
noncomputable def d : Nat := tup9z.2.2.2.2.2.2.2.2.2.2.2.2.2.2.2.2.2.2.2.2.2.2.2.2.2.2.2.2.2.2.2.2.2.2.2.2.2.2.1
noncomputable def pb : Nat := tup9z.2.2.2.2.2.2.2.2.2.2.2.2.2.2.2.2.2.2.2.2.2.2.2.2.2.2.2.2.2.2.2.2.2.2.2.2.2.2.2.1
noncomputable def fn : Nat := tup9z.2.2.2.2.2.2.2.2.2.2.2.2.2.2.2.2.2.2.2.2.2.2.2.2.2.2.2.2.2.2.2.2.2.2.2.2.2.2.2.2.1
noncomputable def cc : Nat := tup9z.2.2.2.2.2.2.2.2.2.2.2.2.2.2.2.2.2.2.2.2.2.2.2.2.2.2.2.2.2.2.2.2.2.2.2.2.2.2.2.2.2.1
noncomputable def x1 : Nat := tup9z.2.2.2.2.2.2.2.2.2.2.2.2.2.2.2.2.2.2.2.2.2.2.2.2.2.2.2.2.2.2.2.2.2.2.2.2.2.2.2.2.2.2.1
noncomputable def d1 : Nat := tup9z.2.2.2.2.2.2.2.2.2.2.2.2.2.2.2.2.2.2.2.2.2.2.2.2.2.2.2.2.2.2.2.2.2.2.2.2.2.2.2.2.2.2.2.1
noncomputable def sg : Nat := tup9z.2.2.2.2.2.2.2.2.2.2.2.2.2.2.2.2.2.2.2.2.2.2.2.2.2.2.2.2.2.2.2.2.2.2.2.2.2.2.2.2.2.2.2.2.1
noncomputable def ce : Nat := tup9z.2.2.2.2.2.2.2.2.2.2.2.2.2.2.2.2.2.2.2.2.2.2.2.2.2.2.2.2.2.2.2.2.2.2.2.2.2.2.2.2.2.2.2.2.2.1
noncomputable def pb1 : Nat := tup9z.2.2.2.2.2.2.2.2.2.2.2.2.2.2.2.2.2.2.2.2.2.2.2.2.2.2.2.2.2.2.2.2.2.2.2.2.2.2.2.2.2.2.2.2.2.2.1
noncomputable def q1 : PySem.Tok := tup9z.2.2.2.2.2.2.2.2.2.2.2.2.2.2.2.2.2.2.2.2.2.2.2.2.2.2.2.2.2.2.2.2.2.2.2.2.2.2.2.2.2.2.2.2.2.2.2.1
noncomputable def q2 : PySem.Tok := tup9z.2.2.2.2.2.2.2.2.2.2.2.2.2.2.2.2.2.2.2.2.2.2.2.2.2.2.2.2.2.2.2.2.2.2.2.2.2.2.2.2.2.2.2.2.2.2.2.2.1
noncomputable def q3 : PySem.Tok := tup9z.2.2.2.2.2.2.2.2.2.2.2.2.2.2.2.2.2.2.2.2.2.2.2.2.2.2.2.2.2.2.2.2.2.2.2.2.2.2.2.2.2.2.2.2.2.2.2.2.2.1
noncomputable def q4 : PySem.Tok := tup9z.2.2.2.2.2.2.2.2.2.2.2.2.2.2.2.2.2.2.2.2.2.2.2.2.2.2.2.2.2.2.2.2.2.2.2.2.2.2.2.2.2.2.2.2.2.2.2.2.2.2.1
noncomputable def tw : PySem.Tok := tup9z.2.2.2.2.2.2.2.2.2.2.2.2.2.2.2.2.2.2.2.2.2.2.2.2.2.2.2.2.2.2.2.2.2.2.2.2.2.2.2.2.2.2.2.2.2.2.2.2.2.2.2.1
noncomputable def u1 : PySem.Tok := tup9z.2.2.2.2.2.2.2.2.2.2.2.2.2.2.2.2.2.2.2.2.2.2.2.2.2.2.2.2.2.2.2.2.2.2.2.2.2.2.2.2.2.2.2.2.2.2.2.2.2.2.2.2.1
noncomputable def u2 : PySem.Tok := tup9z.2.2.2.2.2.2.2.2.2.2.2.2.2.2.2.2.2.2.2.2.2.2.2.2.2.2.2.2.2.2.2.2.2.2.2.2.2.2.2.2.2.2.2.2.2.2.2.2.2.2.2.2.2.1
noncomputable def u3 : PySem.Tok := tup9z.2.2.2.2.2.2.2.2.2.2.2.2.2.2.2.2.2.2.2.2.2.2.2.2.2.2.2.2.2.2.2.2.2.2.2.2.2.2.2.2.2.2.2.2.2.2.2.2.2.2.2.2.2.2.1
noncomputable def u4 : PySem.Tok := tup9z.2.2.2.2.2.2.2.2.2.2.2.2.2.2.2.2.2.2.2.2.2.2.2.2.2.2.2.2.2.2.2.2.2.2.2.2.2.2.2.2.2.2.2.2.2.2.2.2.2.2.2.2.2.2.2.1
noncomputable def u5 : PySem.Tok := tup9z.2.2.2.2.2.2.2.2.2.2.2.2.2.2.2.2.2.2.2.2.2.2.2.2.2.2.2.2.2.2.2.2.2.2.2.2.2.2.2.2.2.2.2.2.2.2.2.2.2.2.2.2.2.2.2.2.1
noncomputable def v1 : PySem.Tok := tup9z.2.2.2.2.2.2.2.2.2.2.2.2.2.2.2.2.2.2.2.2.2.2.2.2.2.2.2.2.2.2.2.2.2.2.2.2.2.2.2.2.2.2.2.2.2.2.2.2.2.2.2.2.2.2.2.2.2.1
noncomputable def vw : PySem.Tok := tup9z.2.2.2.2.2.2.2.2.2.2.2.2.2.2.2.2.2.2.2.2.2.2.2.2.2.2.2.2.2.2.2.2.2.2.2.2.2.2.2.2.2.2.2.2.2.2.2.2.2.2.2.2.2.2.2.2.2.2.1
noncomputable def ct : PySem.Value := tup9z.2.2.2.2.2.2.2.2.2.2.2.2.2.2.2.2.2.2.2.2.2.2.2.2.2.2.2.2.2.2.2.2.2.2.2.2.2.2.2.2.2.2.2.2.2.2.2.2.2.2.2.2.2.2.2.2.2.2.2.1
noncomputable def pm : PySem.Value := tup9z.2.2.2.2.2.2.2.2.2.2.2.2.2.2.2.2.2.2.2.2.2.2.2.2.2.2.2.2.2.2.2.2.2.2.2.2.2.2.2.2.2.2.2.2.2.2.2.2.2.2.2.2.2.2.2.2.2.2.2.2.1
noncomputable def oc : PySem.Obj := tup9z.2.2.2.2.2.2.2.2.2.2.2.2.2.2.2.2.2.2.2.2.2.2.2.2.2.2.2.2.2.2.2.2.2.2.2.2.2.2.2.2.2.2.2.2.2.2.2.2.2.2.2.2.2.2.2.2.2.2.2.2.2.1
noncomputable def oC : PySem.Obj := tup9z.2.2.2.2.2.2.2.2.2.2.2.2.2.2.2.2.2.2.2.2.2.2.2.2.2.2.2.2.2.2.2.2.2.2.2.2.2.2.2.2.2.2.2.2.2.2.2.2.2.2.2.2.2.2.2.2.2.2.2.2.2.2.1
noncomputable def vs : Array PySem.Value := tup9z.2.2.2.2.2.2.2.2.2.2.2.2.2.2.2.2.2.2.2.2.2.2.2.2.2.2.2.2.2.2.2.2.2.2.2.2.2.2.2.2.2.2.2.2.2.2.2.2.2.2.2.2.2.2.2.2.2.2.2.2.2.2.2.1
noncomputable def tq : PySem.Tok := tup9z.2.2.2.2.2.2.2.2.2.2.2.2.2.2.2.2.2.2.2.2.2.2.2.2.2.2.2.2.2.2.2.2.2.2.2.2.2.2.2.2.2.2.2.2.2.2.2.2.2.2.2.2.2.2.2.2.2.2.2.2.2.2.2.2.1
noncomputable def h9 : PySem.Heap := tup9z.2.2.2.2.2.2.2.2.2.2.2.2.2.2.2.2.2.2.2.2.2.2.2.2.2.2.2.2.2.2.2.2.2.2.2.2.2.2.2.2.2.2.2.2.2.2.2.2.2.2.2.2.2.2.2.2.2.2.2.2.2.2.2.2.2.1
noncomputable def tk9 : Nat := tup9z.2.2.2.2.2.2.2.2.2.2.2.2.2.2.2.2.2.2.2.2.2.2.2.2.2.2.2.2.2.2.2.2.2.2.2.2.2.2.2.2.2.2.2.2.2.2.2.2.2.2.2.2.2.2.2.2.2.2.2.2.2.2.2.2.2.2.1
noncomputable def D : PySem.Addr := tup9z.2.2.2.2.2.2.2.2.2.2.2.2.2.2.2.2.2.2.2.2.2.2.2.2.2.2.2.2.2.2.2.2.2.2.2.2.2.2.2.2.2.2.2.2.2.2.2.2.2.2.2.2.2.2.2.2.2.2.2.2.2.2.2.2.2.2.2.1
noncomputable def Br : PySem.Addr := tup9z.2.2.2.2.2.2.2.2.2.2.2.2.2.2.2.2.2.2.2.2.2.2.2.2.2.2.2.2.2.2.2.2.2.2.2.2.2.2.2.2.2.2.2.2.2.2.2.2.2.2.2.2.2.2.2.2.2.2.2.2.2.2.2.2.2.2.2.2.1
noncomputable def Rd : PySem.Addr := tup9z.2.2.2.2.2.2.2.2.2.2.2.2.2.2.2.2.2.2.2.2.2.2.2.2.2.2.2.2.2.2.2.2.2.2.2.2.2.2.2.2.2.2.2.2.2.2.2.2.2.2.2.2.2.2.2.2.2.2.2.2.2.2.2.2.2.2.2.2.2.1
noncomputable def Fl : PySem.Addr := tup9z.2.2.2.2.2.2.2.2.2.2.2.2.2.2.2.2.2.2.2.2.2.2.2.2.2.2.2.2.2.2.2.2.2.2.2.2.2.2.2.2.2.2.2.2.2.2.2.2.2.2.2.2.2.2.2.2.2.2.2.2.2.2.2.2.2.2.2.2.2.2.1
noncomputable def Ri : PySem.Addr := tup9z.2.2.2.2.2.2.2.2.2.2.2.2.2.2.2.2.2.2.2.2.2.2.2.2.2.2.2.2.2.2.2.2.2.2.2.2.2.2.2.2.2.2.2.2.2.2.2.2.2.2.2.2.2.2.2.2.2.2.2.2.2.2.2.2.2.2.2.2.2.2.2.1
noncomputable def cB : Nat := tup9z.2.2.2.2.2.2.2.2.2.2.2.2.2.2.2.2.2.2.2.2.2.2.2.2.2.2.2.2.2.2.2.2.2.2.2.2.2.2.2.2.2.2.2.2.2.2.2.2.2.2.2.2.2.2.2.2.2.2.2.2.2.2.2.2.2.2.2.2.2.2.2.2.1
noncomputable def kR : Nat := tup9z.2.2.2.2.2.2.2.2.2.2.2.2.2.2.2.2.2.2.2.2.2.2.2.2.2.2.2.2.2.2.2.2.2.2.2.2.2.2.2.2.2.2.2.2.2.2.2.2.2.2.2.2.2.2.2.2.2.2.2.2.2.2.2.2.2.2.2.2.2.2.2.2.2.1
noncomputable def kF : Nat := tup9z.2.2.2.2.2.2.2.2.2.2.2.2.2.2.2.2.2.2.2.2.2.2.2.2.2.2.2.2.2.2.2.2.2.2.2.2.2.2.2.2.2.2.2.2.2.2.2.2.2.2.2.2.2.2.2.2.2.2.2.2.2.2.2.2.2.2.2.2.2.2.2.2.2.2.1
noncomputable def kI : Nat := tup9z.2.2.2.2.2.2.2.2.2.2.2.2.2.2.2.2.2.2.2.2.2.2.2.2.2.2.2.2.2.2.2.2.2.2.2.2.2.2.2.2.2.2.2.2.2.2.2.2.2.2.2.2.2.2.2.2.2.2.2.2.2.2.2.2.2.2.2.2.2.2.2.2.2.2.2.1
noncomputable def wB : List PySem.Value := tup9z.2.2.2.2.2.2.2.2.2.2.2.2.2.2.2.2.2.2.2.2.2.2.2.2.2.2.2.2.2.2.2.2.2.2.2.2.2.2.2.2.2.2.2.2.2.2.2.2.2.2.2.2.2.2.2.2.2.2.2.2.2.2.2.2.2.2.2.2.2.2.2.2.2.2.2.2.1
noncomputable def wR : List PySem.Value := tup9z.2.2.2.2.2.2.2.2.2.2.2.2.2.2.2.2.2.2.2.2.2.2.2.2.2.2.2.2.2.2.2.2.2.2.2.2.2.2.2.2.2.2.2.2.2.2.2.2.2.2.2.2.2.2.2.2.2.2.2.2.2.2.2.2.2.2.2.2.2.2.2.2.2.2.2.2.2.1
noncomputable def wF : List PySem.Value := tup9z.2.2.2.2.2.2.2.2.2.2.2.2.2.2.2.2.2.2.2.2.2.2.2.2.2.2.2.2.2.2.2.2.2.2.2.2.2.2.2.2.2.2.2.2.2.2.2.2.2.2.2.2.2.2.2.2.2.2.2.2.2.2.2.2.2.2.2.2.2.2.2.2.2.2.2.2.2.2.1
noncomputable def wI : List PySem.Value := tup9z.2.2.2.2.2.2.2.2.2.2.2.2.2.2.2.2.2.2.2.2.2.2.2.2.2.2.2.2.2.2.2.2.2.2.2.2.2.2.2.2.2.2.2.2.2.2.2.2.2.2.2.2.2.2.2.2.2.2.2.2.2.2.2.2.2.2.2.2.2.2.2.2.2.2.2.2.2.2.2.1
noncomputable def qe9 : Nat := tup9z.2.2.2.2.2.2.2.2.2.2.2.2.2.2.2.2.2.2.2.2.2.2.2.2.2.2.2.2.2.2.2.2.2.2.2.2.2.2.2.2.2.2.2.2.2.2.2.2.2.2.2.2.2.2.2.2.2.2.2.2.2.2.2.2.2.2.2.2.2.2.2.2.2.2.2.2.2.2.2.2.1
noncomputable def tl2 : PySem.Tok := tup9z.2.2.2.2.2.2.2.2.2.2.2.2.2.2.2.2.2.2.2.2.2.2.2.2.2.2.2.2.2.2.2.2.2.2.2.2.2.2.2.2.2.2.2.2.2.2.2.2.2.2.2.2.2.2.2.2.2.2.2.2.2.2.2.2.2.2.2.2.2.2.2.2.2.2.2.2.2.2.2.2.2.1
noncomputable def sv2 : List PySem.Value := tup9z.2.2.2.2.2.2.2.2.2.2.2.2.2.2.2.2.2.2.2.2.2.2.2.2.2.2.2.2.2.2.2.2.2.2.2.2.2.2.2.2.2.2.2.2.2.2.2.2.2.2.2.2.2.2.2.2.2.2.2.2.2.2.2.2.2.2.2.2.2.2.2.2.2.2.2.2.2.2.2.2.2.2.1
noncomputable def se2 : Nat := tup9z.2.2.2.2.2.2.2.2.2.2.2.2.2.2.2.2.2.2.2.2.2.2.2.2.2.2.2.2.2.2.2.2.2.2.2.2.2.2.2.2.2.2.2.2.2.2.2.2.2.2.2.2.2.2.2.2.2.2.2.2.2.2.2.2.2.2.2.2.2.2.2.2.2.2.2.2.2.2.2.2.2.2.2
set_option maxRecDepth 100000 in
set_option maxHeartbeats 8000000 in
theorem main9 : seg9.1 w cn fa cd h₀ L loose mean mg mb oR oF dr os Q E szs b ln qe ls its ci g' h' tk' m' tf oL ps tz S G fg tl sv se x d pb fn cc x1 d1 sg ce pb1 q1 q2 q3 q4 tw u1 u2 u3 u4 u5 v1 vw ct pm oc oC vs tq h9 tk9 D Br Rd Fl Ri cB kR kF kI wB wR wF wI qe9 tl2 sv2 se2 := by
  delta seg9 segOf
  dsimp -zeta only
  intro dR dF C B X T hT hret hits hbg l1 hG c1 c2 c3 c4 c7 c8 k1 k2 k3 k4 hz1 hz2 c5 c6 f1 hoL l2 off ok' o1 o2 o3 o4 o5 o6 o7 o8 F9 hB hR hF hI hs2 N9 y1 y2 y3 y4 y5
  k_with_none
  k_with "call ref cons nil" => refine stop_in ?_
  k_steps
  refine stop_out ?_
  rename_i oF' dF' _ oR' _ _ dR'
  refine' CtrR.use (quotient w ls its ci szs hits hz1 hz2 k3 k4) ?kl ?k1 ?k2 ?k3 ?k4 ?k5 ?kK ?kd ?ku ?_
  ((case k1 => k_asm); (case k2 => k_asm); (case k3 => k_asm); (case k4 => k_asm); (case k5 => k_asm); (case kl => (repeat' first | exact List.forall_mem_nil _ | refine mem_cons_all ?_ ?_ | exact sub_refl | refine sub_tail ?_ | k_mem)); (case kK => first | exact rfl | assumption); (case kd => ktr_room); (case ku => ktr_units))
  intro v8 tl8 h8 tk8 hp8 hlt8 F8 N8
  obtain ⟨rfl, tq8, rfl⟩ := hp8
  simp only [List.nil_append] at N8
  clear hlt8
  k_with_none
  k_with "call ref cons nil" => refine stop_in ?_
  k_with "exec Assign cons ListComp" => refine stop_in ?_
  k_steps
  refine stop_out ?_
  k_with_none
  k_with "call ref cons nil" => refine stop_in ?_
  refine Assign_ListComp_S (env := envX _ _ _ _ _ _) (by k_asm) (by rfl) (by with_unfolding_all rfl) (by decide) (by rfl) (by decide) (by rfl) (by rfl) (by rfl) ?_
  k_steps
  refine stop_out ?_
  refine' CtrR.use (word w (quotF szs) _ 20 k1 (by decide)) ?kl ?k1 ?k2 ?k3 ?k4 ?k5 ?kK ?kd ?ku ?_
  ((case k1 => k_asm); (case k2 => k_asm); (case k3 => k_asm); (case k4 => k_asm); (case k5 => k_asm); (case kl => (repeat' first | exact List.forall_mem_nil _ | refine mem_cons_all ?_ ?_ | exact sub_refl | refine sub_tail ?_ | k_mem)); (case kK => first | exact rfl | assumption); (case kd => ktr_room); (case ku => ktr_units))
  intro v7 tl7 h7 tk7 hp7 hlt7 F7 N7
  obtain ⟨rfl, fs, tf7, rfl, hfs⟩ := hp7
  simp only [List.nil_append] at N7
  clear hlt7
  have hfz : fs.cps.size = (apF 20 (quotF szs).natAbs []).length := by rw [← Array.length_toList, hfs, List.length_map]
  have hql := apF_len 20 (quotF szs).natAbs []
  simp only [List.length_nil] at hql
  k_with_none
  refine SrcT.text rfl (by k_asm) (news_of (l' := ((Br, listOf wB.toArray cB) :: (Rd, listOf wR.toArray kR) :: (Fl, listOf wF.toArray kF) :: (Ri, listOf wI.toArray kI) :: (lexLed w ⟨x, d, pb, fn, cc, x1, d1, sg, ce, pb1, q1, q2, q3, q4, tw, u1, u2, u3, u4, u5, v1, vw, ct, pm, oc, oC, vs, tq⟩ ln tl2 sv2 se2 [] qe9 ++ [(ls, listOf its.toArray ci), (L + 3, oR'), (L + 2, oF'), (L + 1, oL), (133, tabObj ps)]))) (by k_asm) ?zS) ?zZ (fun g => compRest_ind (fun i ys news => news = ((Br, listOf wB.toArray cB) :: (Rd, listOf wR.toArray kR) :: (Fl, listOf wF.toArray kF) :: (Ri, listOf wI.toArray kI) :: (lexLed w ⟨x, d, pb, fn, cc, x1, d1, sg, ce, pb1, q1, q2, q3, q4, tw, u1, u2, u3, u4, u5, v1, vw, ct, pm, oc, oC, vs, tq⟩ ln tl2 sv2 se2 [] qe9 ++ [(ls, listOf its.toArray ci), (L + 3, oR'), (L + 2, oF'), (L + 1, oL), (133, tabObj ps)])) ∧ IntsAre ys (((apF 20 (quotF szs).natAbs []).take i).map fun o => (o.toNat : Int) - 65)) ?zT ?zF _ 0 [] _ (Nat.zero_add _).symm ⟨rfl, .nil⟩)
  case zS => dsimp only [lexLed]; simp only [List.cons_append, List.nil_append]; (repeat' first | exact List.forall_mem_nil _ | refine mem_cons_all ?_ ?_ | exact sub_refl | refine sub_tail ?_ | k_mem)
  case zZ => rw [sizeLine_eq, hfz]; omega
  case zT =>
    intro i ys news v I oI C' oC' D' m₂ h tk E' hi hj hP hC hx' F' N' off ne
    obtain ⟨rfl, hy⟩ := hj
    obtain ⟨c, t, hc, rfl⟩ := hP
    dsimp only [lexLed] at N'
    simp only [List.cons_append, List.nil_append] at N'
    have hc' : ((apF 20 (quotF szs).natAbs [])[i]?).map (·.toNat) = some c := by
      rw [← List.getElem?_map, ← hfs, Array.getElem?_toList]; exact hc
    obtain ⟨o, ho, rfl⟩ := Option.map_eq_some_iff.mp hc'
    k_steps
    refine CompEnd.intro (by k_asm) (by k_asm) ((Br, listOf wB.toArray cB) :: (Rd, listOf wR.toArray kR) :: (Fl, listOf wF.toArray kF) :: (Ri, listOf wI.toArray kI) :: (lexLed w ⟨x, d, pb, fn, cc, x1, d1, sg, ce, pb1, q1, q2, q3, q4, tw, u1, u2, u3, u4, u5, v1, vw, ct, pm, oc, oC, vs, tq⟩ ln tl2 sv2 se2 [] qe9 ++ [(ls, listOf its.toArray ci), (L + 3, oR'), (L + 2, oF'), (L + 1, oL), (133, tabObj ps)])) (by dsimp only [lexLed]; simp only [List.cons_append, List.nil_append]; (repeat' first | exact List.forall_mem_nil _ | refine mem_cons_all ?_ ?_ | exact sub_refl | refine sub_tail ?_ | k_mem)) off trivial ⟨rfl, ?_⟩
    rw [List.take_add_one, ho, List.map_append]
    exact hy.append (.cons _ _ .nil)
  case zF =>
    intro ys news hj
    obtain ⟨rfl, hy⟩ := hj
    rw [hfz, List.take_length] at hy
    intro Cn h tk FD ND offD
    dsimp only [lexLed] at ND
    simp only [List.cons_append, List.nil_append] at ND
    try dsimp only at FD
    k_with_none
    have offA := off1_all offD
    dsimp only [lexLed] at offD offA
    simp only [Off1, List.cons_append, List.nil_append] at offD offA
    have hyz : ys.length ≤ 20 := by rw [hy.length, List.length_map]; omega
    k_with "call builtin:list.reverse cons nil" => refine stop_in ?_
    k_steps
    refine stop_out ?_
    refine' kl_reverse (its := ys.toArray) (l := ys.reverse) (n := ys.length) (by k_asm) (by k_asm) (by simp) ?U ?z ?_
    case U => exact Upd.head offA
    case z => rw [sizeLine_eq, List.toList_toArray]; omega
    intro h9 F9 N9
    k_with_none
    k_with "compareOp NotEq ref ref" => refine stop_in ?_
    k_steps
    refine stop_out ?_
    have hcn : IntsAre ys.reverse ((digs (quotF szs).natAbs).map fun (n : Nat) => (n : Int)) := by
      rw [← digs_ints]
      exact hy.reverse
    refine ne_intsK (News.isList N9 (.tail _ (.tail _ (.head _)))) hR (News.isList N9 (.head _)) hcn (by units_room) ?_
    rw [c1, decide_eq_true rfl]
    have hcz : ys.reverse.length = (digs (quotF szs).natAbs).length := by have := hcn.length; rwa [List.length_map] at this
    have hcy : (digs (quotF szs).natAbs).length ≤ 20 := by rw [← hcz, List.length_reverse]; exact hyz
    clear N7 ND
    k_with_none
    k_with "call builtin:len cons nil" => refine len_list (by is_list) (by rw [List.size_toArray, List.length_reverse]; omega) ?_
    k_with "call type:range cons nil" => refine stop_in ?_
    k_steps
    refine stop_out ?_
    refine comp_range (digs (quotF szs).natAbs).length (by rw [List.size_toArray, hcz]) (by omega) rfl (by k_asm) (news_of (l' := ((Cn, listOf ys.reverse.toArray ys.length) :: (Br, listOf wB.toArray cB) :: (Rd, listOf wR.toArray kR) :: (Fl, listOf wF.toArray kF) :: (Ri, listOf wI.toArray kI) :: (lexLed w ⟨x, d, pb, fn, cc, x1, d1, sg, ce, pb1, q1, q2, q3, q4, tw, u1, u2, u3, u4, u5, v1, vw, ct, pm, oc, oC, vs, tq⟩ ln tl2 sv2 se2 [] qe9 ++ [(ls, listOf its.toArray ci), (L + 3, oR'), (L + 2, oF'), (L + 1, oL), (133, tabObj ps)]))) (by k_asm) ?zSa) (fun g tk => compRest_ind (fun i zs news => news = ((Cn, listOf ys.reverse.toArray ys.length) :: (Br, listOf wB.toArray cB) :: (Rd, listOf wR.toArray kR) :: (Fl, listOf wF.toArray kF) :: (Ri, listOf wI.toArray kI) :: (lexLed w ⟨x, d, pb, fn, cc, x1, d1, sg, ce, pb1, q1, q2, q3, q4, tw, u1, u2, u3, u4, u5, v1, vw, ct, pm, oc, oC, vs, tq⟩ ln tl2 sv2 se2 [] qe9 ++ [(ls, listOf its.toArray ci), (L + 3, oR'), (L + 2, oF'), (L + 1, oL), (133, tabObj ps)])) ∧ IntsAre zs ((List.range i).map fun j => ((S.fl.filter (· == j)).length : Int))) ?zTa ?zFa _ 0 [] _ (Nat.zero_add _).symm ⟨rfl, .nil⟩)
    case zSa => dsimp only [lexLed]; simp only [List.cons_append, List.nil_append]; (repeat' first | exact List.forall_mem_nil _ | refine mem_cons_all ?_ ?_ | exact sub_refl | refine sub_tail ?_ | k_mem)
    case zTa =>
      intro i zs news v I oI C' oC' D' m₂ h tk E' hi hj hP hC hx' F' N' off ne
      obtain ⟨rfl, hz⟩ := hj
      obtain ⟨t, rfl⟩ := hP
      dsimp only [lexLed] at N'
      simp only [List.cons_append, List.nil_append] at N'
      k_with_none
      k_with "call builtin:list.count" => refine count_list_ints (by is_list) hF ?_
      k_steps
      refine CompEnd.intro (by k_asm) (by k_asm) ((Cn, listOf ys.reverse.toArray ys.length) :: (Br, listOf wB.toArray cB) :: (Rd, listOf wR.toArray kR) :: (Fl, listOf wF.toArray kF) :: (Ri, listOf wI.toArray kI) :: (lexLed w ⟨x, d, pb, fn, cc, x1, d1, sg, ce, pb1, q1, q2, q3, q4, tw, u1, u2, u3, u4, u5, v1, vw, ct, pm, oc, oC, vs, tq⟩ ln tl2 sv2 se2 [] qe9 ++ [(ls, listOf its.toArray ci), (L + 3, oR'), (L + 2, oF'), (L + 1, oL), (133, tabObj ps)])) (by dsimp only [lexLed]; simp only [List.cons_append, List.nil_append]; (repeat' first | exact List.forall_mem_nil _ | refine mem_cons_all ?_ ?_ | exact sub_refl | refine sub_tail ?_ | k_mem)) off trivial ⟨rfl, ?_⟩
      rw [count_cast, List.range_succ, List.map_append]
      exact hz.append (.cons _ _ .nil)
    intro zs news hj
    obtain ⟨rfl, hz⟩ := hj
    intro DD h tk FD ND offD
    dsimp only [lexLed] at ND
    simp only [List.cons_append, List.nil_append] at ND
    try dsimp only at FD
    k_with_none
    k_with "compareOp NotEq ref ref" => refine stop_in ?_
    k_steps
    refine stop_out ?_
    refine ne_intsK (News.isList ND (.head _)) hz (News.isList ND (.tail _ (.head _))) hcn (by units_room) ?_
    rw [show ((List.range (digs (quotF szs).natAbs).length).map fun j => ((S.fl.filter (· == j)).length : Int)) = (digs (quotF szs).natAbs).map fun (n : Nat) => (n : Int) from by
      conv => rhs; rw [← c2]
      unfold cntP
      rw [List.map_map]
      rfl, decide_eq_true rfl]
    have N11 := news_of (l' := ((Cn, listOf ys.reverse.toArray ys.length) :: (Br, listOf wB.toArray cB) :: (Rd, listOf wR.toArray kR) :: (Fl, listOf wF.toArray kF) :: (Ri, listOf wI.toArray kI) :: (lexLed w ⟨x, d, pb, fn, cc, x1, d1, sg, ce, pb1, q1, q2, q3, q4, tw, u1, u2, u3, u4, u5, v1, vw, ct, pm, oc, oC, vs, tq⟩ ln tl2 sv2 se2 [] qe9 ++ [(ls, listOf its.toArray ci), (L + 3, oR'), (L + 2, oF'), (L + 1, oL), (133, tabObj ps)]))) ND (by dsimp only [lexLed]; simp only [List.cons_append, List.nil_append]; (repeat' first | exact List.forall_mem_nil _ | refine mem_cons_all ?_ ?_ | exact sub_refl | refine sub_tail ?_ | k_mem))
    dsimp only [lexLed] at N11
    simp only [List.cons_append, List.nil_append] at N11
    clear ND offD
    k_with_none
    k_with "call builtin:len cons nil" => refine len_list (by is_list) (by rw [List.size_toArray, List.length_reverse]; omega) ?_
    k_with "call type:range cons nil" => refine stop_in ?_
    k_steps
    refine stop_out ?_
    refine comp_range (digs (quotF szs).natAbs).length (by rw [List.size_toArray, hcz]) (by omega) rfl (by k_asm) (news_of (l' := ((Cn, listOf ys.reverse.toArray ys.length) :: (Br, listOf wB.toArray cB) :: (Rd, listOf wR.toArray kR) :: (Fl, listOf wF.toArray kF) :: (Ri, listOf wI.toArray kI) :: (lexLed w ⟨x, d, pb, fn, cc, x1, d1, sg, ce, pb1, q1, q2, q3, q4, tw, u1, u2, u3, u4, u5, v1, vw, ct, pm, oc, oC, vs, tq⟩ ln tl2 sv2 se2 [] qe9 ++ [(ls, listOf its.toArray ci), (L + 3, oR'), (L + 2, oF'), (L + 1, oL), (133, tabObj ps)]))) (by k_asm) ?zSb) (fun g tk => compRest_ind (fun i zs news => news = ((Cn, listOf ys.reverse.toArray ys.length) :: (Br, listOf wB.toArray cB) :: (Rd, listOf wR.toArray kR) :: (Fl, listOf wF.toArray kF) :: (Ri, listOf wI.toArray kI) :: (lexLed w ⟨x, d, pb, fn, cc, x1, d1, sg, ce, pb1, q1, q2, q3, q4, tw, u1, u2, u3, u4, u5, v1, vw, ct, pm, oc, oC, vs, tq⟩ ln tl2 sv2 se2 [] qe9 ++ [(ls, listOf its.toArray ci), (L + 3, oR'), (L + 2, oF'), (L + 1, oL), (133, tabObj ps)])) ∧ IntsAre zs ((List.range i).map fun j => ((S.ri.filter (· == j)).length : Int))) ?zTb ?zFb _ 0 [] _ (Nat.zero_add _).symm ⟨rfl, .nil⟩)
    case zSb => dsimp only [lexLed]; simp only [List.cons_append, List.nil_append]; (repeat' first | exact List.forall_mem_nil _ | refine mem_cons_all ?_ ?_ | exact sub_refl | refine sub_tail ?_ | k_mem)
    case zTb =>
      intro i zs news v I oI C' oC' D' m₂ h tk E' hi hj hP hC hx' F' N' off ne
      obtain ⟨rfl, hz⟩ := hj
      obtain ⟨t, rfl⟩ := hP
      dsimp only [lexLed] at N'
      simp only [List.cons_append, List.nil_append] at N'
      k_with_none
      k_with "call builtin:list.count" => refine count_list_ints (by is_list) hI ?_
      k_steps
      refine CompEnd.intro (by k_asm) (by k_asm) ((Cn, listOf ys.reverse.toArray ys.length) :: (Br, listOf wB.toArray cB) :: (Rd, listOf wR.toArray kR) :: (Fl, listOf wF.toArray kF) :: (Ri, listOf wI.toArray kI) :: (lexLed w ⟨x, d, pb, fn, cc, x1, d1, sg, ce, pb1, q1, q2, q3, q4, tw, u1, u2, u3, u4, u5, v1, vw, ct, pm, oc, oC, vs, tq⟩ ln tl2 sv2 se2 [] qe9 ++ [(ls, listOf its.toArray ci), (L + 3, oR'), (L + 2, oF'), (L + 1, oL), (133, tabObj ps)])) (by dsimp only [lexLed]; simp only [List.cons_append, List.nil_append]; (repeat' first | exact List.forall_mem_nil _ | refine mem_cons_all ?_ ?_ | exact sub_refl | refine sub_tail ?_ | k_mem)) off trivial ⟨rfl, ?_⟩
      rw [count_cast, List.range_succ, List.map_append]
      exact hz.append (.cons _ _ .nil)
    intro zs news hj
    obtain ⟨rfl, hz⟩ := hj
    intro DD h tk FD ND offD
    dsimp only [lexLed] at ND
    simp only [List.cons_append, List.nil_append] at ND
    try dsimp only at FD
    k_with_none
    k_with "compareOp NotEq ref ref" => refine stop_in ?_
    k_steps
    refine stop_out ?_
    refine ne_intsK (News.isList ND (.head _)) hz (News.isList ND (.tail _ (.head _))) hcn (by units_room) ?_
    rw [show ((List.range (digs (quotF szs).natAbs).length).map fun j => ((S.ri.filter (· == j)).length : Int)) = (digs (quotF szs).natAbs).map fun (n : Nat) => (n : Int) from by
      conv => rhs; rw [← c3]
      unfold cntP
      rw [List.map_map]
      rfl, decide_eq_true rfl]
    have N12 := news_of (l' := ((Cn, listOf ys.reverse.toArray ys.length) :: (Br, listOf wB.toArray cB) :: (Rd, listOf wR.toArray kR) :: (Fl, listOf wF.toArray kF) :: (Ri, listOf wI.toArray kI) :: (lexLed w ⟨x, d, pb, fn, cc, x1, d1, sg, ce, pb1, q1, q2, q3, q4, tw, u1, u2, u3, u4, u5, v1, vw, ct, pm, oc, oC, vs, tq⟩ ln tl2 sv2 se2 [] qe9 ++ [(ls, listOf its.toArray ci), (L + 3, oR'), (L + 2, oF'), (L + 1, oL), (133, tabObj ps)]))) ND (by dsimp only [lexLed]; simp only [List.cons_append, List.nil_append]; (repeat' first | exact List.forall_mem_nil _ | refine mem_cons_all ?_ ?_ | exact sub_refl | refine sub_tail ?_ | k_mem))
    dsimp only [lexLed] at N12
    simp only [List.cons_append, List.nil_append] at N12
    clear ND offD
    k_with_none
    k_with "call ref cons nil" => refine stop_in ?_
    have hne : (16 : Int) ^ ((fg.length : Int)).toNat - 1 ≠ 0 := pow16_ne f1.1
    k_with "binaryOp Mod int int" => (refine mod_int' hne ?_)
    k_steps
    refine stop_out ?_
    obtain ⟨r1, r2⟩ := rest_word k1 k2 fg.length
    refine law_last w cn fa cd h₀ L loose mean mg mb oR' oF' oL dr os Q E C B X T hT (fun a b c e => hret a b c e) ⟨x, d, pb, fn, cc, x1, d1, sg, ce, pb1, q1, q2, q3, q4, tw, u1, u2, u3, u4, u5, v1, vw, ct, pm, oc, oC, vs, tq⟩ ok' (ln := ln) (qe := qe9) ⟨tl2, sv2, se2, hs2, rfl⟩ hoL Br wB cB S.met hB y2 (by dsimp only; omega) G hG (quotF szs).natAbs fg.length f1.2 c4 c5 c6 c7 c8 _ _ r1 r2 (ps := ps) hbg (by k_asm) rfl ⟨_, rfl⟩ (news_of N12 ?_)
    dsimp only [lexLed]; simp only [List.cons_append, List.nil_append]; (repeat' first | exact List.forall_mem_nil _ | refine mem_cons_all ?_ ?_ | exact sub_refl | refine sub_tail ?_ | k_mem)

set_option maxRecDepth 100000 in
set_option maxHeartbeats 8000000 in
theorem all9 : ∀ a0 a1 a2 a3 a4 a5 a6 a7 a8 a9 a10 a11 a12 a13 a14 a15 a16 a17 a18 a19 a20 a21 a22 a23 a24 a25 a26 a27 a28 a29 a30 a31 a32 a33 a34 a35 a36 a37 a38 a39 a40 a41 a42 a43 a44 a45 a46 a47 a48 a49 a50 a51 a52 a53 a54 a55 a56 a57 a58 a59 a60 a61 a62 a63 a64 a65 a66 a67 a68 a69 a70 a71 a72 a73 a74 a75 a76 a77 a78 a79 a80 a81 a82 a83, seg9.1 a0 a1 a2 a3 a4 a5 a6 a7 a8 a9 a10 a11 a12 a13 a14 a15 a16 a17 a18 a19 a20 a21 a22 a23 a24 a25 a26 a27 a28 a29 a30 a31 a32 a33 a34 a35 a36 a37 a38 a39 a40 a41 a42 a43 a44 a45 a46 a47 a48 a49 a50 a51 a52 a53 a54 a55 a56 a57 a58 a59 a60 a61 a62 a63 a64 a65 a66 a67 a68 a69 a70 a71 a72 a73 a74 a75 a76 a77 a78 a79 a80 a81 a82 a83 := fun a0 a1 a2 a3 a4 a5 a6 a7 a8 a9 a10 a11 a12 a13 a14 a15 a16 a17 a18 a19 a20 a21 a22 a23 a24 a25 a26 a27 a28 a29 a30 a31 a32 a33 a34 a35 a36 a37 a38 a39 a40 a41 a42 a43 a44 a45 a46 a47 a48 a49 a50 a51 a52 a53 a54 a55 a56 a57 a58 a59 a60 a61 a62 a63 a64 a65 a66 a67 a68 a69 a70 a71 a72 a73 a74 a75 a76 a77 a78 a79 a80 a81 a82 a83 => hen_all (G := G9) main9 (a0, a1, a2, a3, a4, a5, a6, a7, a8, a9, a10, a11, a12, a13, a14, a15, a16, a17, a18, a19, a20, a21, a22, a23, a24, a25, a26, a27, a28, a29, a30, a31, a32, a33, a34, a35, a36, a37, a38, a39, a40, a41, a42, a43, a44, a45, a46, a47, a48, a49, a50, a51, a52, a53, a54, a55, a56, a57, a58, a59, a60, a61, a62, a63, a64, a65, a66, a67, a68, a69, a70, a71, a72, a73, a74, a75, a76, a77, a78, a79, a80, a81, a82, a83)
end law_end
theorem law_end (w : World) (cn : Str) (fa : Addr) (cd : Value) (h₀ : Heap) (L : Nat) (loose : List Str) (mean : ExcName → Option Value) (mg mb : Str → Option Value) (oR oF : Obj) (dr : Drawn) (os : OsState) (Q : Flow → Shared → Prop) (E : Value → Shared → Prop)
    (dR : oR.data = .cell none) (dF : oF.data = .cell none)
    (C : CodeHd h₀ 137 133) (B : Below callerA h₀ [] h₀) (X : (Mine.hd.heap_1 w.params).In h₀) (T : Top PySem.W.topProg loose mean mg mb h₀) (hT : 133 < L)
    (hret : ∀ {h' : Heap} {g' : Array GenState} {tk' : Nat} {m' : Str → Option Value} {ps : Array Value} {led : List (Addr × Obj)}, AllBare g' → Fr h₀ L h' m' → News h₀ L h' led → (133, tabObj ps) ∈ led → Q (.ret (.bool true)) ⟨h', g', dr, tk', os⟩) : LawTail w cn L fa cd h₀ oR oF dr os Q E := law_end.seg9.2 ⟨law_end.all9⟩ w cn fa cd h₀ L loose mean mg mb oR oF dr os Q E dR dF C B X T hT hret

end Mine
namespace Mine
theorem reset_lawP : True := by
  w_top off
  trivial
theorem law_post {M : Model} {A : Around} {cd : Code} {s s₁ : Shared} {cw : ClaimW} {cl : Str → Option Addr} {mean : ExcName → Option Value} {args : List WData} {tabs : List (Addr × Addr)} (hT : TabsAt tabs s₁.heap) (hr : ∀ x, cw.raises args x = false) (hp : cw.post args (.bool true) args = true)
    (h : codeAny M A cd (fun r s' => r = .ok (.ret (.bool true)) ∧ (∀ b o, (ghostOf s₁.heap tabs).get? b = some o → s'.heap.get? b = some o) ∧ GrownAll tabs s'.heap ∧ s'.os = s₁.os ∧ AllBare s'.gens) s) : codeAny M A cd (GoodWG cw cl mean args s₁) s :=
  codeAny_mono h fun r s' ⟨hr1, hk, hgr, hos, hg⟩ => by
    subst hr1
    refine ⟨.inl ⟨_, _, [], rfl, hr, ReadsW.bool true, hp, fun _ => ⟨List.nodup_nil, fun _ hm => nomatch hm⟩⟩, ⟨fun b o e => ?_, fun b o e => ?_⟩, hos, hg⟩
    · by_cases hb : b ∈ tabs.map (·.2)
      · obtain ⟨q, hq, rfl⟩ := List.mem_map.mp hb
        obtain ⟨c1, c2⟩ := hT q hq
        rw [e] at c2
        obtain rfl := Option.some.inj c2
        obtain ⟨ps, hP⟩ := hgr.get q hq
        exact .inr (.inl ⟨(c1.tab e).isCodeTable, rfl, #[], ps, rfl, by rw [Array.empty_append]; exact hP⟩)
      · exact .inl (hk b o (ghost_ne e hb))
    · by_cases hb : b ∈ tabs.map (·.2)
      · obtain ⟨q, hq, rfl⟩ := List.mem_map.mp hb
        obtain ⟨ps, hP⟩ := hgr.get q hq
        exact ⟨_, hP⟩
      · exact ⟨o, hk b o (ghost_ne e hb)⟩

end Mine
namespace Mine
theorem reset_law1 : True := by
  w_top off
  trivial
set_option maxRecDepth 100000 in
set_option maxHeartbeats 8000000 in
theorem law1 : PySem.Challenge.rw_wn0028_01.Holds := by
  refine hd ?_
  intro w s₀ s₁ mg mb G Y fa o pm cd doc dV kV ho hd hcd hD hmg hg args vals as hpre hlay hrd hwl hlo
  have KX := km_in_of Y
  have hT8 := km_tabs_of Y
  have X := (Ground.X G).1
  have V := (Ground.X G).2
  refine Ground.open G ?_
  intro T B D TE TW
  try (refine guard_noD D (by decide +kernel) ?_; clear D)
  have hT9 : TabsAt [(137, 133)] s₁.heap := List.forall_mem_cons.mpr ⟨⟨codeHd_of_K (c := 137) (P := 133) KX (by kernel_rfl), hT8 133 (by k_mem)⟩, fun _ h => nomatch h⟩
  clear hmg
  wrow_args hpre hlay hrd hwl hlo
  all_goals (
    first | refine callC_kw (enter_call ?_) | refine enter_call ?_
    w_top on
    refine law_post hT9 (fun _ => rfl) (by wrow_post) ?_
    w_call any ho hd hcd hD T F
    clear hd
    kn_ghosts F T
    k_drop
    skip)
  rename_i ns hs hlay0 hL1 hr1 hl2 wa wb l vs wc hL ra w1 r0 hI hr hc1 hc2 h1 tk1 oR oF oL dR dF dL X0 X' T' B' F' N' l0
  have hz : ns.length ≤ 63 := by omega
  have hret : ∀ {h' : Heap} {g' : Array GenState} {m' : Str → Option Value} {ps : Array Value} {led : List (Addr × Obj)}, AllBare g' → Fr (ghostOf s₁.heap [(137, 133)]) s₁.heap.objs.size h' m' → News (ghostOf s₁.heap [(137, 133)]) s₁.heap.objs.size h' led → (133, tabObj ps) ∈ led → (Except.ok (Flow.ret (.bool true)) : Except Value Flow) = .ok (.ret (.bool true)) ∧ (∀ b o, (ghostOf s₁.heap [(137, 133)]).get? b = some o → h'.get? b = some o) ∧ GrownAll [(137, 133)] h' ∧ s₁.os = s₁.os ∧ AllBare g' :=
    fun a b c e => ⟨rfl, b.keep, ⟨⟨_, (c _ e).1⟩, trivial⟩, rfl, a⟩
  clear hs hL1 hL w1 r0 hc1 hc2
  have F9 : Fr (ghostOf s₁.heap [(137, 133)]) s₁.heap.objs.size h1 (mB [(Str.ofString "script", .ref l)] (fun _ => none)) := F'
  have dR' : oR.data = .cell none := dR
  have dF' : oF.data = .cell none := dF
  have dL' : oL.data = .cell none := dL
  have N9 : News (ghostOf s₁.heap [(137, 133)]) s₁.heap.objs.size h1 [(s₁.heap.objs.size + 3, oR), (s₁.heap.objs.size + 2, oF), (s₁.heap.objs.size + 1, oL), (133, tabObj #[])] := N'
  have T9 : Top PySem.W.topProg _ (ExcName.means s₀.heap) mg mb (ghostOf s₁.heap [(137, 133)]) := T'
  clear F' dR dF dL N' X0
  refine law_run w (Str.ofString "law") fa cd (ghostOf s₁.heap [(137, 133)]) s₁.heap.objs.size l vs ns hI hz _ _ mg mb oR oF oL ⟨h1, s₁.gens, s₁.drawn, tk1, s₁.os⟩ _ _ dR' dF' dL' codeHd B' F9 X' N9 T9 lifted l0 hg ?_
  intro szs ls its ci lt kt a b c t1 t2 t3 g' h' tk' m' hsz hits hb hc l1 l2 F N
  exact law_read w (Str.ofString "law") fa cd (ghostOf s₁.heap [(137, 133)]) s₁.heap.objs.size _ _ mg mb oR oF oL s₁.drawn s₁.os _ _ dR' dF' dL' codeHd B' X' T9 l0 szs ls its ci lt kt a b c t1 t2 t3 g' h' tk' m' hsz hits hb hc l1 l2 F N
    (law_end w (Str.ofString "law") fa cd (ghostOf s₁.heap [(137, 133)]) s₁.heap.objs.size _ _ mg mb oR oF s₁.drawn s₁.os _ _ dR' dF' codeHd B' X' T9 l0 (fun a b c e => hret a b c e))

end Mine
set_option maxRecDepth 100000 in
set_option maxHeartbeats 8000000 in
theorem PySem.Challenge.cw_wn0028_01_holds : PySem.Challenge.rw_wn0028_01.Holds := by
  exact Mine.law1
