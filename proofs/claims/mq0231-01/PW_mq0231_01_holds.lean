import PyProof.Rows.All
import Wide.All
import OpenK.AllK
import Wide.FinOn
import PySem.Challenge.RW_mq0231_01
set_option Elab.async false
set_option rowWalk.seconds 0
set_option compiler.extract_closed false
section
open PySem PySem.W PyProof.Rows
set_option Elab.async false
namespace Mine
set_option maxRecDepth 100000 in
set_option maxHeartbeats 8000000 in
open_top hd for PySem.Challenge.rw_mq0231_01
end Mine
end
section
open PySem PySem.W PyProof.Rows
set_option Elab.async false
set_option maxRecDepth 100000
namespace Mine
open PySem PySem.W PySem.Spec PySem.Calls PyProof.Rows

/-- a def's contract: called at f with vs while the ledger holds news, it hands back r with Post r tl, tl what it made; k: the room it wants -/
def Tell (w : World) (k : Nat) (f : Addr) (vs : List Value) (news : List (Addr × Obj)) (Post : Value → List (Addr × Obj) → Prop) : Prop :=
  ∀ (p : Program) (loose : List Str) (mean : ExcName → Option Value) (mg mb : Str → Option Value)
    (dp un : Nat) (gd : Option (List Code)) (cn : Str) (cs : Scope) (a : Addr) (ccd : Value) (cl : List (Str × Addr)) (outer : List Env) (A₀ : Around) (base h₀ : Heap) (L : Addr) (m : Str → Option Value) (s : Shared)
    (Q E : Value → Shared → Prop),
    Below A₀ base outer h₀ → Fr h₀ L s.heap m → (hd.heap_39 w.params).In h₀ → News h₀ L s.heap news → Top p loose mean mg mb h₀ → cs.kind = .function →
    dp + k < recursionLimit → un + 8 * k < cLine →
    (∀ r tl h' tk', Fr h₀ L h' m → News h₀ L h' (tl ++ news) → (∀ q ∈ news, ∀ p ∈ tl, q.1 < p.1) → Post r tl → Q r { s with heap := h', toks := tk' }) →
    wpAny (model PySem.Challenge.rw_mq0231_01.row.prog w) (ktrTop dp un gd cn cs L a ccd cl outer) (call (.ref f) vs) Q E s

theorem Tell.use {w : World} {k : Nat} {f : Addr} {vs : List Value} {news : List (Addr × Obj)} {Post : Value → List (Addr × Obj) → Prop}
    {p : Program} {loose : List Str} {mean : ExcName → Option Value} {mg mb : Str → Option Value}
    {dp un : Nat} {gd : Option (List Code)} {cn : Str} {cs : Scope} {a : Addr} {ccd : Value} {cl : List (Str × Addr)} {outer : List Env} {A₀ : Around} {base h₀ : Heap} {L : Addr} {m : Str → Option Value} {s : Shared}
    {Q E : Value → Shared → Prop} (C : Tell w k f vs news Post)
    (B : Below A₀ base outer h₀) (F : Fr h₀ L s.heap m) (X : (hd.heap_39 w.params).In h₀) (N : News h₀ L s.heap news) (T : Top p loose mean mg mb h₀) (hk : cs.kind = .function)
    (hd : dp + k < recursionLimit) (hu : un + 8 * k < cLine)
    (hret : ∀ r tl h' tk', Fr h₀ L h' m → News h₀ L h' (tl ++ news) → (∀ q ∈ news, ∀ p ∈ tl, q.1 < p.1) → Post r tl → Q r { s with heap := h', toks := tk' }) :
    wpAny (model PySem.Challenge.rw_mq0231_01.row.prog w) (ktrTop dp un gd cn cs L a ccd cl outer) (call (.ref f) vs) Q E s :=
  C p loose mean mg mb dp un gd cn cs a ccd cl outer A₀ base h₀ L m s Q E B F X N T hk hd hu hret

/-- the same, the ledger behind the call told as a whole -/
def TellU (w : World) (k : Nat) (f : Addr) (vs : List Value) (news : List (Addr × Obj)) (Post : Value → List (Addr × Obj) → Prop) : Prop :=
  ∀ (p : Program) (loose : List Str) (mean : ExcName → Option Value) (mg mb : Str → Option Value)
    (dp un : Nat) (gd : Option (List Code)) (cn : Str) (cs : Scope) (a : Addr) (ccd : Value) (cl : List (Str × Addr)) (outer : List Env) (A₀ : Around) (base h₀ : Heap) (L : Addr) (m : Str → Option Value) (s : Shared)
    (Q E : Value → Shared → Prop),
    Below A₀ base outer h₀ → Fr h₀ L s.heap m → (hd.heap_39 w.params).In h₀ → News h₀ L s.heap news → Top p loose mean mg mb h₀ → cs.kind = .function →
    dp + k < recursionLimit → un + 8 * k < cLine →
    (∀ r led h' tk', Fr h₀ L h' m → News h₀ L h' led → (∀ p ∈ news, p ∈ led) → Post r led → Q r { s with heap := h', toks := tk' }) →
    wpAny (model PySem.Challenge.rw_mq0231_01.row.prog w) (ktrTop dp un gd cn cs L a ccd cl outer) (call (.ref f) vs) Q E s
theorem TellU.use {w : World} {k : Nat} {f : Addr} {vs : List Value} {news : List (Addr × Obj)} {Post : Value → List (Addr × Obj) → Prop}
    {p : Program} {loose : List Str} {mean : ExcName → Option Value} {mg mb : Str → Option Value}
    {dp un : Nat} {gd : Option (List Code)} {cn : Str} {cs : Scope} {a : Addr} {ccd : Value} {cl : List (Str × Addr)} {outer : List Env} {A₀ : Around} {base h₀ : Heap} {L : Addr} {m : Str → Option Value} {s : Shared}
    {Q E : Value → Shared → Prop} (C : TellU w k f vs news Post)
    (B : Below A₀ base outer h₀) (F : Fr h₀ L s.heap m) (X : (hd.heap_39 w.params).In h₀) (N : News h₀ L s.heap news) (T : Top p loose mean mg mb h₀) (hk : cs.kind = .function)
    (hd : dp + k < recursionLimit) (hu : un + 8 * k < cLine)
    (hret : ∀ r led h' tk', Fr h₀ L h' m → News h₀ L h' led → (∀ p ∈ news, p ∈ led) → Post r led → Q r { s with heap := h', toks := tk' }) :
    wpAny (model PySem.Challenge.rw_mq0231_01.row.prog w) (ktrTop dp un gd cn cs L a ccd cl outer) (call (.ref f) vs) Q E s :=
  C p loose mean mg mb dp un gd cn cs a ccd cl outer A₀ base h₀ L m s Q E B F X N T hk hd hu hret

theorem ord_nil {news : List (Addr × Obj)} : ∀ q ∈ news, ∀ p ∈ ([] : List (Addr × Obj)), q.1 < p.1 := fun _ _ _ h => nomatch h
theorem ord_one {news : List (Addr × Obj)} {a : Addr} {o : Obj} (h : ∀ p ∈ news, p.1 < a) : ∀ q ∈ news, ∀ p ∈ [(a, o)], q.1 < p.1 := by
  intro q hq p hp
  rw [List.mem_singleton.mp hp]
  exact h q hq
theorem ord_cons {news tl : List (Addr × Obj)} {a : Addr} {o : Obj} (h : ∀ p ∈ news, p.1 < a) (k : ∀ q ∈ news, ∀ p ∈ tl, q.1 < p.1) : ∀ q ∈ news, ∀ p ∈ (a, o) :: tl, q.1 < p.1 := by
  intro q hq p hp
  rcases List.mem_cons.mp hp with rfl | hp
  · exact h q hq
  · exact k q hq p hp

theorem ord_at {news : List (Addr × Obj)} {a : Addr} {o : Obj} (h : ∀ q ∈ news, ∀ p ∈ [(a, o)], q.1 < p.1) : ∀ p ∈ news, p.1 < a := fun q hq => h q hq _ (.head _)
abbrev tupOf (vs : Array Value) : Obj := { cls := .type "tuple", data := .seq vs }

/- what colorsys reckons, on bits -/
def lumaF (r g b : UInt64) : UInt64 := Float64.add (Float64.add (Float64.mul 4599075939470750515 r) (Float64.mul 4603489467105573601 g)) (Float64.mul 4592590756007337001 b)
def warmF (r g b : UInt64) : UInt64 := Float64.sub (Float64.mul 4604840546993784750 (Float64.sub r (lumaF r g b))) (Float64.mul 4598535507515466056 (Float64.sub b (lumaF r g b)))
def coolF (r g b : UInt64) : UInt64 := Float64.add (Float64.mul 4602318531202457272 (Float64.sub r (lumaF r g b))) (Float64.mul 4601057523306793533 (Float64.sub b (lumaF r g b)))
def redF (y i q : UInt64) : UInt64 := Float64.add (Float64.add y (Float64.mul 4606703976345377586 i)) (Float64.mul 4603791717925830846 q)
def greenF (y i q : UInt64) : UInt64 := Float64.sub (Float64.sub y (Float64.mul 4598621754083818298 i)) (Float64.mul 4603901015759978483 q)
def blueF (y i q : UInt64) : UInt64 := Float64.add (Float64.sub y (Float64.mul 4607671262177584182 i)) (Float64.mul 4610375502138591871 q)
end Mine
end
section
open PySem PySem.W PyProof.Rows
set_option Elab.async false
set_option maxRecDepth 100000
namespace Mine
theorem fresh_C1 : True := by
  w_top off
  exact trivial
open PySem PySem.W PySem.Spec PySem.Calls PyProof.Rows
set_option maxHeartbeats 4000000 in
theorem tell_yiq (w : World) (r g b : UInt64) (t1 t2 t3 : Tok) (news : List (Addr × Obj)) : Tell w 5 21 [.float r t1, .float g t2, .float b t3] news
    (fun v tl => ∃ D u1 u2 u3, v = .ref D ∧ tl = [(D, tupOf #[.float (lumaF r g b) u1, .float (warmF r g b) u2, .float (coolF r g b) u3])]) := by
  unfold Tell
  k_fill
  intro p loose mean mg mb dp un gd cn cs a ccd cl outer A₀ base h₀ L m s Q E B F X N T hk hd hu hret
  refine wpAny_call ?_
  k_dflt ktr_enter
  k_steps
  exact hret _ [_] _ _ (by k_asm) (by k_asm) (ord_one (by assumption)) ⟨_, _, _, _, rfl, rfl⟩
set_option maxHeartbeats 4000000 in
theorem tell_term (w : World) (x : Int) (t1 : Tok) (news : List (Addr × Obj)) : Tell w 5 38 [.int x t1] news (fun v tl => v = .bool (decide (x < 256)) ∧ tl = []) := by
  unfold Tell
  k_fill
  intro p loose mean mg mb dp un gd cn cs a ccd cl outer A₀ base h₀ L m s Q E B F X N T hk hd hu hret
  refine wpAny_call ?_
  k_dflt ktr_enter
  k_steps
  exact hret _ [] _ _ (by k_asm) (by k_asm) ord_nil ⟨by first | rfl | (congr), rfl⟩
set_option maxHeartbeats 4000000 in
theorem tell_nont (w : World) (x : Int) (t1 : Tok) (news : List (Addr × Obj)) : Tell w 5 45 [.int x t1] news (fun v tl => v = .bool (decide (x ≥ 256)) ∧ tl = []) := by
  unfold Tell
  k_fill
  intro p loose mean mg mb dp un gd cn cs a ccd cl outer A₀ base h₀ L m s Q E B F X N T hk hd hu hret
  refine wpAny_call ?_
  k_dflt ktr_enter
  k_steps
  exact hret _ [] _ _ (by k_asm) (by k_asm) ord_nil ⟨by first | rfl | (congr), rfl⟩
set_option maxHeartbeats 4000000 in
theorem tell_eof (w : World) (x : Int) (t1 : Tok) (news : List (Addr × Obj)) : Tell w 5 52 [.int x t1] news (fun v tl => v = .bool (decide (x = 0)) ∧ tl = []) := by
  unfold Tell
  k_fill
  intro p loose mean mg mb dp un gd cn cs a ccd cl outer A₀ base h₀ L m s Q E B F X N T hk hd hu hret
  refine wpAny_call ?_
  k_dflt ktr_enter
  k_steps
  exact hret _ [] _ _ (by k_asm) (by k_asm) ord_nil ⟨by first | rfl | (congr), rfl⟩
end Mine
end
section
open PySem PySem.W PyProof.Rows
set_option Elab.async false
set_option maxRecDepth 100000
namespace Mine
theorem fresh_C2 : True := by
  w_top off
  exact trivial
open PySem PySem.W PySem.Spec PySem.Calls PyProof.Rows
def lowAt (v c : UInt64) : UInt64 := if (Float64.cmp v c == some Ordering.lt) = true then c else v
def highAt (v c : UInt64) : UInt64 := if (Float64.cmp v c == some Ordering.gt) = true then c else v
def clip (x : UInt64) : UInt64 := highAt (lowAt x 0) 4607182418800017408
section
variable {prog : Program} {w : World} {A : Around} {E : Value → Shared → Prop} {s : Shared} {name : Str} {scope : Scope} {L a : Addr} {cd : Value} {h₀ : Heap} {m : Str → Option Value} {news : List (Addr × Obj)} {x : Str} {p1 p2 p3 p4 p5 p6 p7 : Pos} {k k' : Nat} {c v : UInt64} {t : Tok} {Q : Flow → Shared → Prop}
theorem same_map (hv : m x = some (.float v t)) : m = fun y => if y = x then some (.float v t) else m y := by
  funext y
  by_cases e : y = x
  · subst e; simp [hv]
  · simp [e]
theorem if_low (F : Fr h₀ L s.heap m) (N : News h₀ L s.heap news) (hv : m x = some (.float v t))
    (h : ∀ h' t' tk', Fr h₀ L h' (fun y => if y = x then some (.float (lowAt v c) t') else m y) → News h₀ L h' news → Q .next { s with heap := h', toks := tk' })
    (hk : scope.kind = .function := by rfl) (hl : (envOf name scope L a cd).kindOf x = some .local := by rfl) (hd : (x == ("__debug__" : Str)) = false := by decide) :
    wpAny (model prog w) A (exec (.If (.Compare (.Name x p1) [.Lt] [.Constant (.float c) k p2] p3) [.Assign [.Name x p4] (.Constant (.float c) k' p5) p6] [] p7) (envOf name scope L a cd)) Q E s := by
  refine wpAny_If (wpAny_isTrue_Compare1 (ld F hv (wpAny_Constant_float (AutoFloatOps.lt_0 (wpAny_truthy_bool ?_))) hk hl hd))
  split
  · rename_i hc
    refine wpAny_execs_cons (wpAny_Assign_Name (wpAny_Constant_float (stN (name := name) (a := a) (cd := cd) (s := { s with toks := s.toks + 1 + 1 }) F N (fun h' F' N' => wpAny_execs_nil ?_) hk hl)))
    refine h h' (s.toks + 1) _ ?_ N'
    unfold lowAt; rw [if_pos hc]; exact F'
  · rename_i hc
    refine wpAny_execs_nil (h s.heap t _ ?_ N)
    unfold lowAt; rw [if_neg hc, ← same_map hv]; exact F
theorem if_high (F : Fr h₀ L s.heap m) (N : News h₀ L s.heap news) (hv : m x = some (.float v t))
    (h : ∀ h' t' tk', Fr h₀ L h' (fun y => if y = x then some (.float (highAt v c) t') else m y) → News h₀ L h' news → Q .next { s with heap := h', toks := tk' })
    (hk : scope.kind = .function := by rfl) (hl : (envOf name scope L a cd).kindOf x = some .local := by rfl) (hd : (x == ("__debug__" : Str)) = false := by decide) :
    wpAny (model prog w) A (exec (.If (.Compare (.Name x p1) [.Gt] [.Constant (.float c) k p2] p3) [.Assign [.Name x p4] (.Constant (.float c) k' p5) p6] [] p7) (envOf name scope L a cd)) Q E s := by
  refine wpAny_If (wpAny_isTrue_Compare1 (ld F hv (wpAny_Constant_float (AutoFloatOps.gt_0 (wpAny_truthy_bool ?_))) hk hl hd))
  split
  · rename_i hc
    refine wpAny_execs_cons (wpAny_Assign_Name (wpAny_Constant_float (stN (name := name) (a := a) (cd := cd) (s := { s with toks := s.toks + 1 + 1 }) F N (fun h' F' N' => wpAny_execs_nil ?_) hk hl)))
    refine h h' (s.toks + 1) _ ?_ N'
    unfold highAt; rw [if_pos hc]; exact F'
  · rename_i hc
    refine wpAny_execs_nil (h s.heap t _ ?_ N)
    unfold highAt; rw [if_neg hc, ← same_map hv]; exact F
end
local macro_rules | `(tactic| walk_at "exec If") => `(tactic| (k_here; (with_reducible show wpAny _ _ (exec (Stmt.If (PySem.Expr.Compare (PySem.Expr.Name _ _) [CmpOp.Lt] [PySem.Expr.Constant (Const.float _) _ _] _) [Stmt.Assign [PySem.Expr.Name _ _] (PySem.Expr.Constant (Const.float _) _ _) _] [] _) _) _ _ _); k_dflt (refine' if_low ?k1 ?k2 ?k3 ?_ ?k5 ?k6 ?k7; (case k1 => k_asm); (case k2 => k_asm); (case k3 => rfl); (case k5 => rfl); (case k6 => rfl); (case k7 => decide); k_whole; intro h' t' tk' F' N'); (try dsimp only); (try k_sweep)))
local macro_rules | `(tactic| walk_at "exec If") => `(tactic| (k_here; (with_reducible show wpAny _ _ (exec (Stmt.If (PySem.Expr.Compare (PySem.Expr.Name _ _) [CmpOp.Gt] [PySem.Expr.Constant (Const.float _) _ _] _) [Stmt.Assign [PySem.Expr.Name _ _] (PySem.Expr.Constant (Const.float _) _ _) _] [] _) _) _ _ _); k_dflt (refine' if_high ?k1 ?k2 ?k3 ?_ ?k5 ?k6 ?k7; (case k1 => k_asm); (case k2 => k_asm); (case k3 => rfl); (case k5 => rfl); (case k6 => rfl); (case k7 => decide); k_whole; intro h' t' tk' F' N'); (try dsimp only); (try k_sweep)))
set_option maxHeartbeats 16000000 in
theorem tell_rgb (w : World) (y i q : UInt64) (t1 t2 t3 : Tok) (news : List (Addr × Obj)) : Tell w 5 28 [.float y t1, .float i t2, .float q t3] news
    (fun v tl => ∃ D u1 u2 u3, v = .ref D ∧ tl = [(D, tupOf #[.float (clip (redF y i q)) u1, .float (clip (greenF y i q)) u2, .float (clip (blueF y i q)) u3])]) := by
  unfold Tell
  k_fill
  intro p loose mean mg mb dp un gd cn cs a ccd cl outer A₀ base h₀ L m s Q E B F X N T hk hd hu hret
  refine wpAny_call ?_
  k_dflt ktr_enter
  k_steps
  exact hret _ [_] _ _ (by k_asm) (by k_asm) (ord_one (by assumption)) ⟨_, _, _, _, rfl, rfl⟩
end Mine
end
section
open PySem PySem.W PyProof.Rows
set_option Elab.async false
set_option maxRecDepth 100000
namespace Mine
theorem fresh_C3 : True := by
  w_top off
  exact trivial
open PySem PySem.W PySem.Spec PySem.Calls PyProof.Rows
local macro_rules | `(tactic| walk_at "call ref") => `(tactic| (k_here; (with_reducible show wpAny _ _ (call (Value.ref 45) [Value.int _ _]) _ _ _); k_dflt (refine' Tell.use (tell_nont _ _ _ _) ?k1 ?k2 ?k3 ?k4 ?k5 ?kK ?kd ?ku ?_; (case k1 => k_asm); (case k2 => k_asm); (case k3 => k_asm); (case k4 => k_asm); (case k5 => k_asm); (case kK => exact rfl); (case kd => ktr_room); (case ku => ktr_units); k_whole); intro r9 tl9 h9 tk9 F9 N9 l9 P9; (obtain ⟨e9, e8⟩ := P9); subst e9; subst e8; (try simp only [List.nil_append] at N9); (try dsimp only); (try k_fold)))
local macro_rules | `(tactic| walk_at "call ref") => `(tactic| (k_here; (with_reducible show wpAny _ _ (call (Value.ref 38) [Value.int _ _]) _ _ _); k_dflt (refine' Tell.use (tell_term _ _ _ _) ?k1 ?k2 ?k3 ?k4 ?k5 ?kK ?kd ?ku ?_; (case k1 => k_asm); (case k2 => k_asm); (case k3 => k_asm); (case k4 => k_asm); (case k5 => k_asm); (case kK => exact rfl); (case kd => ktr_room); (case ku => ktr_units); k_whole); intro r9 tl9 h9 tk9 F9 N9 l9 P9; (obtain ⟨e9, e8⟩ := P9); subst e9; subst e8; (try simp only [List.nil_append] at N9); (try dsimp only); (try k_fold)))
local macro_rules | `(tactic| walk_at "call ref") => `(tactic| (k_here; (with_reducible show wpAny _ _ (call (Value.ref 52) [Value.int _ _]) _ _ _); k_dflt (refine' Tell.use (tell_eof _ _ _ _) ?k1 ?k2 ?k3 ?k4 ?k5 ?kK ?kd ?ku ?_; (case k1 => k_asm); (case k2 => k_asm); (case k3 => k_asm); (case k4 => k_asm); (case k5 => k_asm); (case kK => exact rfl); (case kd => ktr_room); (case ku => ktr_units); k_whole); intro r9 tl9 h9 tk9 F9 N9 l9 P9; (obtain ⟨e9, e8⟩ := P9); subst e9; subst e8; (try simp only [List.nil_append] at N9); (try dsimp only); (try k_fold)))
def ShownOk (x : Int) (l : UInt64) : Prop :=
  (255 < x → (Float64.cmp l 4607182418800017408 == some Ordering.eq) = true) ∧ (x < 0 → (Float64.cmp l 0 == some Ordering.eq) = true) ∧
  (¬ 255 < x → ¬ x < 0 → (Flt.toInt Float64.nearestOf (Float64.mul (Float64.ofInt 255) l) == x) = true)
theorem sh1 {x : Int} (h : (decide (x ≥ 256) != decide (255 < x)) = true) : False := by
  by_cases q : 255 < x
  · have : x ≥ 256 := by omega
    simp [q, this] at h
  · have : ¬ x ≥ 256 := by omega
    simp [q] at h; omega
theorem sh2 {x : Int} (h : (decide (x < 256) == decide (255 < x)) = true) : False := by
  by_cases q : 255 < x
  · have : ¬ x < 256 := by omega
    simp [q] at h; omega
  · have : x < 256 := by omega
    simp [q, this] at h
theorem sh3 {x : Int} (h : x < 0) : (!decide (x = 0)) = true := by
  have : x ≠ 0 := by omega
  simp [this]
theorem sh4 {x : Int} : (decide (x = 0) == (x == 0)) = true := by
  by_cases q : x = 0 <;> simp [q]
set_option maxHeartbeats 4000000 in
theorem tell_shown (w : World) (x : Int) (l : UInt64) (t1 t2 : Tok) (news : List (Addr × Obj)) (hl : Float64.isFinite (Float64.mul (Float64.ofInt 255) l) = true) (hs : ShownOk x l) :
    Tell w 15 83 [.int x t1, .float l t2] news (fun v tl => v = .bool true ∧ tl = []) := by
  unfold Tell
  k_fill
  intro p loose mean mg mb dp un gd cn cs a ccd cl outer A₀ base h₀ L m s Q E B F X N T hk hd hu hret
  refine wpAny_call ?_
  k_dflt ktr_enter
  k_steps
  all_goals (refine hret _ [] _ _ (by k_asm) (by k_asm) ord_nil ⟨congrArg Value.bool ?_, rfl⟩; first
    | exact (sh1 (by assumption)).elim
    | exact (sh2 (by assumption)).elim
    | exact hs.1 (by assumption)
    | exact hs.2.1 (by assumption)
    | exact sh3 (by assumption)
    | exact hs.2.2 (by assumption) (by assumption)
    | exact sh4)
end Mine
end
section
open PySem PySem.W PyProof.Rows
set_option Elab.async false
set_option maxRecDepth 100000
namespace Mine
open PySem PySem.W PySem.Spec PySem.Calls PyProof.Rows PyProof.Rows.LCg

/-- all that the heap holds beyond the base, but the frame L and the place C -/
def restOf (h₀ : Heap) (L C : Addr) (h : Heap) : List (Addr × Obj) :=
  (List.range h.objs.size).filterMap fun a => if a ≠ L ∧ a ≠ C ∧ (h₀.get? a).isNone = true then (h.get? a).map fun o => (a, o) else none
theorem mem_restOf {h₀ h : Heap} {L C a : Addr} {o : Obj} (e : h.get? a = some o) (hL : a ≠ L) (hC : a ≠ C) (h0 : h₀.get? a = none) : (a, o) ∈ restOf h₀ L C h := by
  unfold restOf
  rw [List.mem_filterMap]
  exact ⟨a, List.mem_range.mpr (Heap.lt_size e), by simp [hL, hC, h0, e]⟩
theorem restOf_mem {h₀ h : Heap} {L C : Addr} {p : Addr × Obj} (hp : p ∈ restOf h₀ L C h) : h.get? p.1 = some p.2 ∧ p.1 ≠ L ∧ p.1 ≠ C ∧ h₀.get? p.1 = none := by
  unfold restOf at hp
  rw [List.mem_filterMap] at hp
  obtain ⟨a, _, e⟩ := hp
  split at e
  · rename_i hc
    cases q : h.get? a with
    | none => rw [q] at e; cases e
    | some o =>
      rw [q] at e
      cases e
      exact ⟨q, hc.1, hc.2.1, by simpa using hc.2.2⟩
  · cases e

/-- behind a step of a block whose names lie at C: the frame and the ledger stand, tl was made -/
def KeptC (h₀ : Heap) (L : Addr) (m : Str → Option Value) (C : Addr) (oC : Obj) (led : List (Addr × Obj)) (s s' : Shared) : Prop :=
  ∃ h' tk' tl, s' = { s with heap := h', toks := tk' } ∧ Fr h₀ L h' m ∧ News h₀ L h' (tl ++ (C, oC) :: led)

/-- the end of a block's step that hands on a -/
def EndC {α : Type} (P : α → Prop) (h₀ : Heap) (L : Addr) (m : Str → Option Value) (C : Addr) (oC : Obj) (led : List (Addr × Obj)) (s : Shared) (a : α) (s' : Shared) : Prop := P a ∧ KeptC h₀ L m C oC led s s'
theorem kept_all {h₀ h h' : Heap} {L C : Addr} {m : Str → Option Value} {oC : Obj} {tl : List (Addr × Obj)} (F' : Fr h₀ L h' m) (N' : News h₀ L h' (tl ++ (C, oC) :: restOf h₀ L C h)) (F : Fr h₀ L h m) (eC : h.get? C = some oC) :
    ∀ b o, b ≠ L → h.get? b = some o → h'.get? b = some o := by
  intro b o hL e
  by_cases hC : b = C
  · subst hC
    have q : oC = o := Option.some.inj (eC.symm.trans e)
    subst q
    exact (N' (b, oC) (List.mem_append_right _ (.head _))).1
  · cases q : h₀.get? b with
    | some o₀ =>
      have := F.keep b o₀ q
      rw [e] at this
      cases this
      exact F'.keep b o q
    | none => exact (N' (b, o) (List.mem_append_right _ (.tail _ (mem_restOf e hL hC q)))).1

section
variable {prog : Program} {w : World} {A : Around} {E : Value → Shared → Prop} {s : Shared} {h₀ : Heap} {L : Addr} {m : Str → Option Value} {env : Env}

theorem compLoop_go {elt iter : Expr} {ifs : List Expr} {target : Expr} {scope : Scope} {pos : Pos} {it acc : Value} {env : Env} {R : Result → Shared → Prop} (I : Nat → Shared → Prop)
    (turn : ∀ n s, I n s → wpAny (model prog w) A (pyNext it) (fun r s₁ => match r with
      | none => R (.ok .next) s₁
      | some v => wpAny (model prog w) A (letOwnedTupleGo target it v) (fun _ s₁' => wpAny (model prog w) A (assign target env v) (fun _ s₂ =>
          wpAny (model prog w) A (forIn ifs true fun c r => if r = true then do let ok ← isTrue c env (eval c env); pure (ForInStep.yield ok) else pure (ForInStep.yield r)) (fun ok s₃ =>
            if ok = true then wpAny (model prog w) A (eval elt env) (fun x s₄ =>
              wpAny (model prog w) A (call (.builtin "list.append") [acc, x]) (fun _ s₅ => ∃ m, m < n ∧ I m s₅) (notedBy (model prog w) A env fun e s' => R (.error e) s') s₄) (notedBy (model prog w) A env fun e s' => R (.error e) s') s₃
            else ∃ m, m < n ∧ I m s₃) (notedBy (model prog w) A env fun e s' => R (.error e) s') s₂)
          (notedBy (model prog w) A env fun e s' => R (.error e) s') s₁') (notedBy (model prog w) A env fun e s' => R (.error e) s') s₁) (notedBy (model prog w) A env fun e s' => R (.error e) s') s)
    (n : Nat) (h : I n s) : codeAny (model prog w) A (.compLoop (.ListComp elt [⟨target, iter, ifs, 0⟩] scope pos) 0 it acc env) R s := by
  refine codeAny_loop rfl I (fun n s hI => ?_) n h
  show wpAny _ A ((compTurn (.ListComp elt [⟨target, iter, ifs, 0⟩] scope pos) 0 it acc env).onRaise (fun x => do noteFrame x env; theTreesLotGoes x)) _ _ s
  refine wpAny_noted ?_
  rw [compTurn_list]
  refine wpAny_bind (wpAny_standAt (wpAny_bind (wpAny_mono (turn n s hI) (fun r s₁ h₁ => ?_) fun _ _ h' => h')))
  cases r with
  | none => exact wpAny_pure h₁
  | some v =>
    refine wpAny_bind (wpAny_mono h₁ (fun _ s₁' h₁' => ?_) fun _ _ h' => h')
    refine wpAny_bind (wpAny_mono h₁' (fun _ s₂ h₂ => wpAny_bind (wpAny_mono h₂ (fun ok s₃ h₃ => ?_) fun _ _ h' => h')) fun _ _ h' => h')
    cases ok with
    | false => exact wpAny_pure ⟨rfl, h₃⟩
    | true =>
      exact wpAny_bind (wpAny_bind (wpAny_mono h₃ (fun x s₄ h₄ => wpAny_bind (wpAny_mono h₄ (fun _ s₅ h₅ => wpAny_pure (wpAny_pure ⟨rfl, h₅⟩)) fun _ _ h' => h')) fun _ _ h' => h'))

/-- one turn of a block over pairs -/
def PairTurn (prog : Program) (w : World) (A : Around) (h₀ : Heap) (L : Addr) (m : Str → Option Value) (env : Env) (elt : Expr) (ifs : List Expr) (x x₂ : Str) (scope : Scope) (cl : List (Str × Addr)) (pass : Bool) (Pt : Nat → Array Value → Prop) (R : Nat → Value → Prop) (news : List (Addr × Obj)) (s : Shared) : Prop :=
  ∀ i v₁ v₂ C oC m₂ h tk led (E' : Value → Shared → Prop), Pt i #[v₁, v₂] → NsObj oC m₂ → m₂ x = some v₁ → m₂ x₂ = some v₂ → Fr h₀ L h m → News h₀ L h ((C, oC) :: led) → (∀ p ∈ led, p.1 ≠ C) → (∀ p ∈ news, p ∈ led) →
    wpAny (model prog w) A (forIn ifs true fun c r => if r = true then do let ok ← isTrue c (compEnvC scope cl C env) (eval c (compEnvC scope cl C env)); pure (ForInStep.yield ok) else pure (ForInStep.yield r)) (EndC (fun ok => ok = pass) h₀ L m C oC led { s with heap := h, toks := tk }) E' { s with heap := h, toks := tk } ∧
    (pass = true → wpAny (model prog w) A (eval elt (compEnvC scope cl C env)) (EndC (R i) h₀ L m C oC led { s with heap := h, toks := tk }) E' { s with heap := h, toks := tk })

theorem block_pairs {elt iter : Expr} {ifs : List Expr} {x x₂ : Str} {px px₂ tp : Pos} {tk} {scope : Scope} {cl : List (Str × Addr)} {pos : Pos} {s₂ : Shared} {I : Addr} {fp wr : List Addr} {n : Nat} {Pt : Nat → Array Value → Prop} {St : Nat → Heap → Prop} {Mid : Nat → Addr → Heap → Prop} {news : List (Addr × Obj)}
    {pass : Bool} {R : Nat → Value → Prop} {RR : Value → Addr → Result → Shared → Prop}
    (W : WalksU prog w A I fp wr n Pt St Mid) (hsz : n ≤ sizeLine) (hpt : ∀ i vals, Pt i vals → ∃ a b, vals = #[a, b])
    (hcell : ∀ y ∈ scope.names, y.2 ≠ .cell) (hkind : scope.kind = .function) (hx : scope.names.lookup x = some .local) (hx₂ : scope.names.lookup x₂ = some .local) (hxx : x ≠ x₂) (hh : A.handled = none) (hst : St 0 s₂.heap) (hfp : ∀ b ∈ fp, b < s₂.heap.objs.size)
    (F : Fr h₀ L s₂.heap m) (N : News h₀ L s₂.heap news) (hLf : L ∉ fp) (hwr : ∀ b ∈ wr, h₀.get? b = none) (off : ∀ p ∈ news, p.1 ∉ wr)
    (turn : PairTurn prog w A h₀ L m env elt ifs x x₂ scope cl pass Pt R news s₂)
    (hRR : ∀ D C h tk m' ys, Fr h₀ L h m → News h₀ L h ((D, lst ys) :: news) → (∀ p ∈ news, p.1 < D) → h.Ns C m' → h₀.get? C = none → h₀.get? D = none → C ≠ L → D ≠ L → C ≠ D → (∀ p ∈ news, p.1 ≠ C) → ys.length = (if pass then n else 0) → (∀ j y, ys[j]? = some y → R j y) → RR (.ref D) C (.ok .next) { s₂ with heap := h, toks := tk }) :
    wpAny (model prog w) A (newList []) (fun acc s₃ => wpAny (model prog w) A (newFunctionEnv scope env.globals cl [] env.qual none .none (some env)) (fun cenv s₄ =>
      codeAny (model prog w) A (.compStart (.ListComp elt [⟨.Tuple [.Name x px, .Name x₂ px₂] tk tp, iter, ifs, 0⟩] scope pos) 0 (.ref I) acc { cenv with scope := relabel scope env }) (RR acc cenv.locals) s₄) E s₃) E s₂ := by
  refine wpAny_newObj_type (wpAny_newFunctionEnv hcell (by intro y hy; simp at hy) (fun h₁ hns₁ hsb₁ => ?_) hkind)
  dsimp only at hns₁ hsb₁ ⊢
  generalize hH2 : s₂.heap.push { cls := .type "list", dict := none, data := .seq ([] : List Value).toArray } = H2 at hns₁ hsb₁ ⊢
  have hC : H2.objs.size = s₂.heap.objs.size + 1 := by rw [← hH2, Heap.size_push]
  generalize hD : s₂.heap.objs.size = D at *
  generalize hCn : H2.objs.size = C at *
  have hDltC : D < C := hC ▸ Nat.lt_succ_self _
  have hDC : D ≠ C := Nat.ne_of_lt hDltC
  have lt2 : ∀ b o, s₂.heap.get? b = some o → b < D := fun b o e => hD ▸ Heap.lt_size e
  have old : ∀ b o, s₂.heap.get? b = some o → h₁.get? b = some o := fun b o e => hsb₁.extBut b o (Nat.ne_of_lt (Nat.lt_trans (lt2 b o e) hDltC)) (Heap.get?_push_of_some _ (hH2 ▸ Heap.get?_push_of_some _ e))
  have hacc : h₁.get? D = some (lst []) := hsb₁.extBut _ _ hDC (Heap.get?_push_of_some _ (hH2 ▸ hD ▸ Heap.get?_push_size _ rfl))
  have hst₁ : St 0 h₁ := W.frame _ _ _ hst fun b _ o e => old b o e
  have fresh₀ : ∀ a, D ≤ a → h₀.get? a = none := fun a ha => by
    cases e : h₀.get? a with
    | none => rfl
    | some o' => exact absurd (lt2 a o' (F.keep a o' e)) (Nat.not_lt.mpr ha)
  have hD₀ : h₀.get? D = none := fresh₀ _ (Nat.le_refl _)
  have hC₀ : h₀.get? C = none := fresh₀ _ (Nat.le_of_lt hDltC)
  have hLlt : L < D := hD ▸ F.ns.lt
  have hDL : D ≠ L := Nat.ne_of_gt hLlt
  have hCL : C ≠ L := Nat.ne_of_gt (Nat.lt_trans hLlt hDltC)
  have hCf : C ∉ fp := fun hm => absurd (Nat.lt_trans (hfp _ hm) hDltC) (Nat.lt_irrefl _)
  have hDf : D ∉ fp := fun hm => absurd (hfp _ hm) (Nat.lt_irrefl _)
  have hDw : D ∉ wr := fun hm => hDf (W.sub _ hm)
  have hCw : C ∉ wr := fun hm => hCf (W.sub _ hm)
  have hLw : L ∉ wr := fun hm => hLf (W.sub _ hm)
  have nlt : ∀ p ∈ news, p.1 < D := fun p hp => lt2 _ _ (N p hp).1
  have nC : ∀ p ∈ news, p.1 ≠ C := fun p hp => Nat.ne_of_lt (Nat.lt_trans (nlt p hp) hDltC)
  have nD : ∀ p ∈ news, p.1 ≠ D := fun p hp => Nat.ne_of_lt (nlt p hp)
  have old₀ : ∀ b o, h₀.get? b = some o → b ∉ wr := fun b o e hb => by rw [hwr b hb] at e; cases e
  have loop : ∀ s₃ : Shared, s₃ = { s₂ with heap := h₁, toks := s₂.toks + ([] : List (Str × Value)).length } →
      codeAny (model prog w) A (.compLoop (.ListComp elt [⟨.Tuple [.Name x px, .Name x₂ px₂] tk tp, iter, ifs, 0⟩] scope pos) 0 (.ref I) (.ref D) (compEnvC scope cl C env)) (RR (.ref D) C) s₃ := by
    rintro s₃ rfl
    refine compLoop_go
      (fun k s' => ∃ h' tk i ys m', s' = { s₂ with heap := h', toks := tk } ∧ i ≤ n ∧ k = n + 1 - i ∧ ys.length = (if pass then i else 0) ∧ (∀ j y, ys[j]? = some y → R j y) ∧ St i h' ∧ Fr h₀ L h' m ∧ h'.Ns C m' ∧ h'.get? D = some (lst ys) ∧ News h₀ L h' news) ?_ (n + 1)
      ⟨h₁, _, 0, [], _, rfl, Nat.zero_le _, rfl, by cases pass <;> rfl, by intro j y e; simp at e, hst₁, F.keeps old, hns₁, hacc, N.grown old⟩
    rintro k s' ⟨h', tk, i, ys, m', rfl, hi, rfl, hyl, hR, hst', F', hn', hD', N'⟩
    by_cases hlt : i < n
    · refine W.item i _ _ _ hlt hst' fun T vals h₂ tk₂ hP hT hM hk₂ => ?_
      refine W.go _ _ _ i T _ _ _ hM fun h₃ hst₃ hk₃ => ?_
      have hTw := W.apart i T _ hM
      obtain ⟨v₁, v₂, rfl⟩ := hpt i vals hP
      have keep : ∀ b o, b ∉ wr → h'.get? b = some o → h₃.get? b = some o := fun b o hb e => hk₃ b o hb (hk₂ b o hb e)
      have F₃ : Fr h₀ L h₃ m := ⟨F'.ns.at' fun o e => keep _ o hLw e, fun b o e => keep b o (old₀ b o e) (F'.keep b o e), F'.above⟩
      have N₃ : News h₀ L h₃ news := fun p hp => ⟨keep _ _ (off p hp) (N' p hp).1, (N' p hp).2⟩
      have hn₃ : h₃.Ns C m' := hn'.at' fun o e => keep _ o hCw e
      have hD₃ : h₃.get? D = some (lst ys) := keep _ _ hDw hD'
      have hT₃ : IsTup h₃ T #[v₁, v₂] := by
        obtain ⟨o, ho, hr⟩ := hT
        exact ⟨o, hk₃ T o hTw ho, hr⟩
      refine assign_Tuple_tuple hh hT₃ rfl rfl fun h₅ he => ?_
      have he' : ∀ b o, h₃.get? b = some o → h₅.get? b = some o := fun b o e => he b o (Nat.ne_of_lt (Heap.lt_size e)) e
      refine assignInOrder_cons (wpAny_assign_Name (wpAny_storeName_local (lookup_relabel_local hx) (hn₃.at' fun o e => he' _ o e) (fun h₆ hn₆ hs₆ => ?_) (by simp [compEnvC, relabel, hkind])))
      refine assignInOrder_cons (wpAny_assign_Name (wpAny_storeName_local (lookup_relabel_local hx₂) hn₆ (fun h₇ hn₇ hs₇ => ?_) (by simp [compEnvC, relabel, hkind])))
      refine assignInOrder_nil ?_
      have up : ∀ b o, b ≠ C → h₃.get? b = some o → h₇.get? b = some o := fun b o hb e => hs₇.extBut b o hb (hs₆.extBut b o hb (he' b o e))
      have hst₇ : St (i + 1) h₇ := W.frame _ _ _ hst₃ fun b hb o e => up b o (fun q => hCf (q ▸ hb)) e
      have F₇ : Fr h₀ L h₇ m := ((F₃.keeps he').change hs₆ hCL hC₀).change hs₇ hCL hC₀
      have N₇ : News h₀ L h₇ news := fun p hp => ⟨up _ _ (nC p hp) (N₃ p hp).1, (N₃ p hp).2⟩
      have hD₇ : h₇.get? D = some (lst ys) := up _ _ hDC hD₃
      obtain ⟨oC, heC, hoC⟩ := ns_obj hn₇
      have led : ∀ h : Heap, Fr h₀ L h m → h.get? C = some oC → News h₀ L h ((C, oC) :: restOf h₀ L C h) := fun h _ e p hp => by
        rcases List.mem_cons.mp hp with rfl | hp
        · exact ⟨e, hCL, hC₀⟩
        · have := restOf_mem hp
          exact ⟨this.1, this.2.1, this.2.2.2⟩
      have sub : ∀ h : Heap, News h₀ L h news → ∀ p ∈ news, p ∈ restOf h₀ L C h := fun h Nh p hp => mem_restOf (Nh p hp).1 (Nh p hp).2.1 (nC p hp) (Nh p hp).2.2
      refine wpAny_mono ((turn i v₁ v₂ C oC _ h₇ _ (restOf h₀ L C h₇) _ hP hoC (by simp [hxx]) (by simp) F₇ (led h₇ F₇ heC) (fun p hp => (restOf_mem hp).2.2.1) (sub h₇ N₇)).1) (fun ok s₈ h₈ => ?_) fun _ _ e => e
      obtain ⟨rfl, h₈, tk₈, tl₈, rfl, F₈, N₈⟩ := h₈
      have all₈ := kept_all F₈ N₈ F₇ heC
      have hst₈ : St (i + 1) h₈ := W.frame _ _ _ hst₇ fun b hb o e => all₈ b o (fun q => hLf (q ▸ hb)) e
      have NN₈ : News h₀ L h₈ news := fun p hp => ⟨all₈ _ _ (N₇ p hp).2.1 (N₇ p hp).1, (N₇ p hp).2⟩
      have hD₈ := all₈ _ _ hDL hD₇
      have hC₈ := all₈ _ _ hCL heC
      cases ok with
      | false =>
        rw [if_neg (by simp)]
        exact ⟨n + 1 - (i + 1), by omega, h₈, tk₈, i + 1, ys, _, rfl, hlt, rfl, by simpa using hyl, hR, hst₈, F₈, hoC.ns hC₈, hD₈, NN₈⟩
      | true =>
        rw [if_pos rfl]
        refine wpAny_mono ((turn i v₁ v₂ C oC _ h₈ _ (restOf h₀ L C h₈) _ hP hoC (by simp [hxx]) (by simp) F₈ (led h₈ F₈ hC₈) (fun p hp => (restOf_mem hp).2.2.1) (sub h₈ NN₈)).2 rfl) (fun y s₉ h₉ => ?_) fun _ _ e => e
        obtain ⟨hy, h₉, tk₉, tl₉, rfl, F₉, N₉⟩ := h₉
        have all₉ := kept_all F₉ N₉ F₈ hC₈
        have hst₉ : St (i + 1) h₉ := W.frame _ _ _ hst₈ fun b hb o e => all₉ b o (fun q => hLf (q ▸ hb)) e
        have NN₉ : News h₀ L h₉ news := fun p hp => ⟨all₉ _ _ (NN₈ p hp).2.1 (NN₈ p hp).1, (NN₈ p hp).2⟩
        have hD₉ := all₉ _ _ hDL hD₈
        have hC₉ := all₉ _ _ hCL hC₈
        have hyl' : ys.length = i := by simpa using hyl
        refine append_at (hsz := by show ys.toArray.size ≤ sizeLine; rw [List.size_toArray, hyl']; omega) hD₉ fun h₅' hs₅ hD₅ => ?_
        refine ⟨n + 1 - (i + 1), by omega, h₅', tk₉, i + 1, ys ++ [y], _, rfl, hlt, rfl, by simp [hyl'], ?_, W.frame _ _ _ hst₉ fun b hb o e => hs₅.extBut b o (fun q => hDf (q ▸ hb)) e, F₉.change hs₅ hDL hD₀,
          (hoC.ns hC₉).sameBut hs₅ (Ne.symm hDC), hD₅.trans (congrArg some (lst_snoc ys y)), fun p hp => ⟨hs₅.extBut _ _ (nD p hp) (NN₉ p hp).1, (NN₉ p hp).2⟩⟩
        intro j y' e
        by_cases hj : j < ys.length
        · rw [List.getElem?_append_left hj] at e
          exact hR j y' e
        · rw [List.getElem?_append_right (by omega)] at e
          have hj2 : j - ys.length = 0 := by
            cases q : j - ys.length with
            | zero => rfl
            | succ k => rw [q] at e; simp at e
          rw [hj2] at e
          simp at e
          subst e
          have : j = i := by omega
          subst this
          exact hy
    · obtain rfl : i = n := Nat.le_antisymm hi (Nat.not_lt.mp hlt)
      refine W.done _ _ _ hst' fun h₂ tk₂ hk₂ => ?_
      refine hRR D C h₂ tk₂ m' ys ⟨F'.ns.at' fun o e => hk₂ _ o hLw e, fun b o e => hk₂ b o (old₀ b o e) (F'.keep b o e), F'.above⟩ (fun p hp => ?_) nlt (hn'.at' fun o e => hk₂ _ o hCw e) hC₀ hD₀ hCL hDL (Ne.symm hDC) nC hyl hR
      rcases List.mem_cons.mp hp with rfl | hp
      · exact ⟨hk₂ _ _ hDw hD', hDL, hD₀⟩
      · exact ⟨hk₂ _ _ (off p hp) (N' p hp).1, (N' p hp).2⟩
  exact codeAny_compStart_list (loop _ rfl) (W.self 0 _ _ _ hst₁ (loop _ rfl))

abbrev ZipSt (z TI TO i1 i2 l1 l2 : Addr) (xs ys : Array Value) (h : Heap) : Prop :=
  IsZip h z TI TO .none ∧ IsPair h TI (.ref i1) (.ref i2) ∧ (∃ a b, IsPair h TO a b) ∧ h.IsListIter i1 l1 0 ∧ h.IsListIter i2 l2 0 ∧ h.IsList l1 xs ∧ h.IsList l2 ys

/-- where the block's iterable is a zip of two lists -/
def ZipSrc (prog : Program) (w : World) (A : Around) (h₀ : Heap) (L : Addr) (m : Str → Option Value) (env : Env) (elt : Expr) (ifs : List Expr) (x x₂ : Str) (scope : Scope) (cl : List (Str × Addr)) (Fin : Shared → Addr → List Value → List (Addr × Obj) → Prop) (xv : Value) (s₁ : Shared) : Prop :=
  ∃ z TI TO i1 i2 l1 l2 xs ys news pass R, xv = .ref z ∧ A.handled = none ∧ ZipApart z TI TO i1 i2 l1 l2 ∧ ZipSt z TI TO i1 i2 l1 l2 xs ys s₁.heap ∧ Fr h₀ L s₁.heap m ∧ News h₀ L s₁.heap news ∧ (∀ p ∈ news, p.1 ∉ [z, TO, i1, i2]) ∧ L ∉ [z, TI, TO, i1, i2, l1, l2] ∧ (∀ b ∈ [z, TO, i1, i2], h₀.get? b = none) ∧ min xs.size ys.size ≤ sizeLine ∧
    PairTurn prog w A h₀ L m env elt ifs x x₂ scope cl pass (fun i vals => ∃ a b, xs[i]? = some a ∧ ys[i]? = some b ∧ vals = #[a, b]) R news s₁ ∧
    ∀ D vs, (∀ p ∈ news, p.1 < D) → vs.length = (if pass then min xs.size ys.size else 0) → (∀ j y, vs[j]? = some y → R j y) → Fin s₁ D vs news

/-- the zip's two lists, at its making -/
theorem zip_src {elt : Expr} {ifs : List Expr} {x x₂ : Str} {scope : Scope} {cl : List (Str × Addr)} {Fin : Shared → Addr → List Value → List (Addr × Obj) → Prop} {l1 l2 : Addr} {xs ys : Array Value} {news : List (Addr × Obj)} (pass : Bool) (R : Nat → Value → Prop)
    (hh : A.handled = none) (F : Fr h₀ L s.heap m) (N : News h₀ L s.heap news) (hl1 : s.heap.IsList l1 xs) (hl2 : s.heap.IsList l2 ys) (n1 : L ≠ l1) (n2 : L ≠ l2) (hsz : min xs.size ys.size ≤ sizeLine)
    (turn : PairTurn prog w A h₀ L m env elt ifs x x₂ scope cl pass (fun i vals => ∃ a b, xs[i]? = some a ∧ ys[i]? = some b ∧ vals = #[a, b]) R news s)
    (fin : ∀ D vs h', (∀ p ∈ news, p.1 < D) → vs.length = (if pass then min xs.size ys.size else 0) → (∀ j y, vs[j]? = some y → R j y) → Fin { s with heap := h' } D vs news) :
    wpAny (model prog w) A (call (.type "zip") [.ref l1, .ref l2]) (ZipSrc prog w A h₀ L m env elt ifs x x₂ scope cl Fin) E s := by
  refine zip_rows F hl1 hl2 fun h' z TI TO i1 i2 D hst F' hk z1 z2 z3 z4 zL => ?_
  have fr : ∀ b, s.heap.objs.size ≤ b → s.heap.get? b = none := fun b hb => by
    cases e : s.heap.get? b with
    | none => rfl
    | some o => exact absurd (Heap.lt_size e) (Nat.not_lt.mpr hb)
  have fr₀ : ∀ b, s.heap.objs.size ≤ b → h₀.get? b = none := fun b hb => by
    cases e : h₀.get? b with
    | none => rfl
    | some o => have := F.keep b o e; rw [fr b hb] at this; cases this
  refine ⟨z, TI, TO, i1, i2, l1, l2, xs, ys, news, pass, R, rfl, hh, D, hst, F', N.grown hk, fun p hp hm => ?_, fun hm => ?_, fun b hb => ?_, hsz, turn, fun D' vs a b c => fin D' vs h' a b c⟩
  · have := Heap.lt_size (N p hp).1
    simp only [List.mem_cons, List.not_mem_nil, or_false] at hm
    rcases hm with e | e | e | e
    · exact absurd this (Nat.not_lt.mpr (e ▸ z1))
    · exact absurd this (Nat.not_lt.mpr (e ▸ z2))
    · exact absurd this (Nat.not_lt.mpr (e ▸ z3))
    · exact absurd this (Nat.not_lt.mpr (e ▸ z4))
  · simp only [List.mem_cons, List.not_mem_nil, or_false] at hm
    rcases hm with e | e | e | e | e | e | e
    · exact absurd zL.1 (e ▸ Nat.lt_irrefl _)
    · obtain ⟨_, hTI, _⟩ := hst
      have q : h'.Ns L m := F'.ns
      obtain ⟨o, es, ep, ho, hd, _⟩ := q
      rw [e] at ho
      rw [hTI] at ho
      cases ho
      cases hd
    · exact absurd zL.2.1 (e ▸ Nat.lt_irrefl _)
    · exact absurd zL.2.2.1 (e ▸ Nat.lt_irrefl _)
    · exact absurd zL.2.2.2 (e ▸ Nat.lt_irrefl _)
    · exact n1 e
    · exact n2 e
  · simp only [List.mem_cons, List.not_mem_nil, or_false] at hb
    rcases hb with rfl | rfl | rfl | rfl
    · exact fr₀ _ z1
    · exact fr₀ _ z2
    · exact fr₀ _ z3
    · exact fr₀ _ z4

/-- a stop of our own -/
def Halt (P : Prop) : Prop := P
theorem Halt.out {P : Prop} (h : Halt P) : P := h

theorem ListComp_Z {elt iter : Expr} {ifs : List Expr} {x x₂ : Str} {px px₂ tp : Pos} {tk} {scope : Scope} {cl : List (Str × Addr)} {pos : Pos} {Q : Value → Shared → Prop} (_F₀ : Fr h₀ L s.heap m)
    (hclos : closureFor scope env = pure cl) (hcell : ∀ y ∈ scope.names, y.2 ≠ .cell) (hkind : scope.kind = .function)
    (hnames : ∀ y ∈ scope.names, y.2 = .local → scope.names.lookup y.1 = some .local) (hx : scope.names.lookup x = some .local) (hx₂ : scope.names.lookup x₂ = some .local) (hxx : x ≠ x₂)
    (h : wpAny (model prog w) A (eval iter env) (ZipSrc prog w A h₀ L m env elt ifs x x₂ scope cl (fun s₁ D vs news => ∀ h' tk', Fr h₀ L h' m → News h₀ L h' ((D, lst vs) :: news) → Q (.ref D) { s₁ with heap := h', toks := tk' })) E s)
    (hs : ∀ x, foldedSetIterable iter env x = pure x := by intro _; rfl) :
    wpAny (model prog w) A (eval (.ListComp elt [⟨.Tuple [.Name x px, .Name x₂ px₂] tk tp, iter, ifs, 0⟩] scope pos) env) Q E s := by
  rw [eval_ListComp]
  refine wpAny_comprehension_free (use := none) rfl hs hclos hkind hnames (wpAny_mono h (fun xv s₁ h₁ => ?_) fun _ _ e => e)
  obtain ⟨z, TI, TO, i1, i2, l1, l2, xs, ys, news, pass, R, rfl, hh, D, hst, F, N, off, hLf, hwr, hsz, turn, fin⟩ := h₁
  have W := (WalksT.zip2 (prog := prog) (w := w) hh z TI TO i1 i2 l1 l2 D xs ys).toU
  refine W.self 0 _ _ _ hst ?_
  refine block_pairs W hsz (fun i vals hv => by obtain ⟨a, b, _, _, e⟩ := hv; exact ⟨a, b, e⟩) hcell hkind hx hx₂ hxx hh hst (fun b hb => ?_) F N hLf hwr off turn ?_
  · obtain ⟨hz, hTI, ⟨ta, tb, hTO⟩, ⟨o1, h1, _, _⟩, ⟨o2, h2, _, _⟩, ⟨ol1, hl1, _, _⟩, ⟨ol2, hl2, _, _⟩⟩ := hst
    simp only [List.mem_cons, List.not_mem_nil, or_false] at hb
    rcases hb with rfl | rfl | rfl | rfl | rfl | rfl | rfl
    · exact Heap.lt_size hz
    · exact Heap.lt_size hTI
    · exact Heap.lt_size hTO
    · exact Heap.lt_size h1
    · exact Heap.lt_size h2
    · exact Heap.lt_size hl1
    · exact Heap.lt_size hl2
  · intro D' C h tk m' vs F' N' lt hn hC₀ hD₀ hCL hDL hCD offC hlen hR
    refine ⟨m', hn, fun h'' hs'' => fin D' vs lt hlen hR h'' tk (F'.change hs'' hCL hC₀) (fun p hp => ?_)⟩
    refine ⟨hs''.extBut _ _ ?_ (N' p hp).1, (N' p hp).2⟩
    rcases List.mem_cons.mp hp with rfl | hp
    · exact Ne.symm hCD
    · exact offC p hp

theorem Assign_ListComp_Z {elt iter : Expr} {ifs : List Expr} {x x₂ y : Str} {px px₂ tp py : Pos} {tk} {scope : Scope} {cl : List (Str × Addr)} {pos spos : Pos} {Q : Flow → Shared → Prop} (_F₀ : Fr h₀ L s.heap m) (hLe : env.locals = L)
    (hsw : swapsWith (.ListComp elt [⟨.Tuple [.Name x px, .Name x₂ px₂] tk tp, iter, ifs, 0⟩] scope pos) (some (.Name y py)) spos.line env = pure true)
    (hclos : closureFor scope env = pure cl) (hcell : ∀ z ∈ scope.names, z.2 ≠ .cell) (hkind : scope.kind = .function)
    (hnames : ∀ z ∈ scope.names, z.2 = .local → scope.names.lookup z.1 = some .local) (hx : scope.names.lookup x = some .local) (hx₂ : scope.names.lookup x₂ = some .local) (hxx : x ≠ x₂)
    (hy : env.kindOf y = some .local) (hp : (env.scope.kind == .class || (env.scope.kind == .module && env.locals != env.globals)) = false)
    (h : wpAny (model prog w) A (eval iter env) (ZipSrc prog w A h₀ L m env elt ifs x x₂ scope cl (fun s₁ D vs news => ∀ h' tk', Fr h₀ L h' (fun z => if z = y then some (.ref D) else m z) → News h₀ L h' ((D, lst vs) :: news) → Q .next { s₁ with heap := h', toks := tk' })) E s)
    (hs : ∀ x, foldedSetIterable iter env x = pure x := by intro _; rfl) :
    wpAny (model prog w) A (exec (.Assign [.Name y py] (.ListComp elt [⟨.Tuple [.Name x px, .Name x₂ px₂] tk tp, iter, ifs, 0⟩] scope pos) spos) env) Q E s := by
  subst hLe
  rw [exec_Assign_Name_used _ _ _ _ hsw]
  refine wpAny_bind (wpAny_standAt (wpAny_bind ?_))
  show wpAny _ A (do let _ ← comprehension (.ListComp elt [⟨.Tuple [.Name x px, .Name x₂ px₂] tk tp, iter, ifs, 0⟩] scope pos) scope env _ (newList []) false (eval iter env) (some (assign (.Name y py) env))) _ _ s
  refine wpAny_bind (wpAny_mono (wpAny_comprehension_free (use := some (assign (.Name y py) env)) (Q := fun _ s' => Q .next s') rfl hs hclos hkind hnames
    (wpAny_mono h (fun xv s₁ h₁ => ?_) fun _ _ e => e)) (fun _ s' hq => wpAny_pure (wpAny_pure hq)) fun _ _ e => e)
  obtain ⟨z, TI, TO, i1, i2, l1, l2, xs, ys, news, pass, R, rfl, hh, D, hst, F, N, off, hLf, hwr, hsz, turn, fin⟩ := h₁
  have W := (WalksT.zip2 (prog := prog) (w := w) hh z TI TO i1 i2 l1 l2 D xs ys).toU
  refine W.self 0 _ _ _ hst ?_
  refine block_pairs W hsz (fun i vals hv => by obtain ⟨a, b, _, _, e⟩ := hv; exact ⟨a, b, e⟩) hcell hkind hx hx₂ hxx hh hst (fun b hb => ?_) F N hLf hwr off turn ?_
  · obtain ⟨hz, hTI, ⟨ta, tb, hTO⟩, ⟨o1, h1, _, _⟩, ⟨o2, h2, _, _⟩, ⟨ol1, hl1, _, _⟩, ⟨ol2, hl2, _, _⟩⟩ := hst
    simp only [List.mem_cons, List.not_mem_nil, or_false] at hb
    rcases hb with rfl | rfl | rfl | rfl | rfl | rfl | rfl
    · exact Heap.lt_size hz
    · exact Heap.lt_size hTI
    · exact Heap.lt_size hTO
    · exact Heap.lt_size h1
    · exact Heap.lt_size h2
    · exact Heap.lt_size hl1
    · exact Heap.lt_size hl2
  · intro D' C h tk m' vs F' N' lt hn hC₀ hD₀ hCL hDL hCD offC hlen hR
    show wpAny _ A (assign (.Name y py) env (.ref D')) _ _ _
    refine wpAny_assign_Name (wpAny_storeName_local hy F'.ns (fun h₂ hn₂ hs₂ => ?_) hp)
    have F₂ := F'.set hn₂ hs₂
    refine ⟨m', hn.sameBut hs₂ hCL, fun h'' hs'' => fin D' vs lt hlen hR h'' _ (F₂.change hs'' hCL hC₀) (fun p hp => ?_)⟩
    have zz : h₂.get? p.1 = some p.2 := hs₂.extBut _ _ (N' p hp).2.1 (N' p hp).1
    refine ⟨hs''.extBut _ _ ?_ zz, (N' p hp).2⟩
    rcases List.mem_cons.mp hp with rfl | hp
    · exact Ne.symm hCD
    · exact offC p hp
end
end Mine
end
section
open PySem PySem.W PyProof.Rows
set_option Elab.async false
set_option maxRecDepth 100000
namespace Mine
open PySem PySem.W PySem.Spec PySem.Calls PyProof.Rows PyProof.Rows.LCg
section
variable {prog : Program} {w : World} {A : Around} {E : Value → Shared → Prop} {s : Shared} {h₀ : Heap} {L : Addr} {m : Str → Option Value} {env : Env}
/-- one turn of a block over single names -/
def OneTurn (prog : Program) (w : World) (A : Around) (h₀ : Heap) (L : Addr) (m : Str → Option Value) (env : Env) (elt : Expr) (x : Str) (scope : Scope) (cl : List (Str × Addr)) (n : Nat) (P : Nat → Value → Prop) (R : Nat → Value → Prop) (news : List (Addr × Obj)) (s : Shared) : Prop :=
  ∀ i v C oC m₂ h tk led (E' : Value → Shared → Prop), i < n → P i v → NsObj oC m₂ → m₂ x = some v → Fr h₀ L h m → News h₀ L h ((C, oC) :: led) → (∀ p ∈ led, p.1 ≠ C) → (∀ p ∈ news, p ∈ led) →
    wpAny (model prog w) A (eval elt (compEnvC scope cl C env)) (EndC (R i) h₀ L m C oC led { s with heap := h, toks := tk }) E' { s with heap := h, toks := tk }

theorem block_one {elt iter : Expr} {x : Str} {px : Pos} {scope : Scope} {cl : List (Str × Addr)} {pos : Pos} {s₂ : Shared} {I : Addr} {fp wr : List Addr} {n : Nat} {P : Nat → Value → Prop} {St : Nat → Heap → Prop} {news : List (Addr × Obj)}
    {R : Nat → Value → Prop} {RR : Value → Addr → Result → Shared → Prop}
    (W : Walks prog w A I fp wr n P St) (hsz : n ≤ sizeLine)
    (hcell : ∀ y ∈ scope.names, y.2 ≠ .cell) (hkind : scope.kind = .function) (hx : scope.names.lookup x = some .local) (hst : St 0 s₂.heap) (hfp : ∀ b ∈ fp, b < s₂.heap.objs.size)
    (F : Fr h₀ L s₂.heap m) (N : News h₀ L s₂.heap news) (hLf : L ∉ fp) (hwr : ∀ b ∈ wr, h₀.get? b = none) (off : ∀ p ∈ news, p.1 ∉ wr)
    (turn : OneTurn prog w A h₀ L m env elt x scope cl n P R news s₂)
    (hRR : ∀ D C h tk m' ys, Fr h₀ L h m → News h₀ L h ((D, lst ys) :: news) → (∀ p ∈ news, p.1 < D) → h.Ns C m' → h₀.get? C = none → h₀.get? D = none → C ≠ L → D ≠ L → C ≠ D → (∀ p ∈ news, p.1 ≠ C) → ys.length = n → (∀ j y, ys[j]? = some y → R j y) → RR (.ref D) C (.ok .next) { s₂ with heap := h, toks := tk }) :
    wpAny (model prog w) A (newList []) (fun acc s₃ => wpAny (model prog w) A (newFunctionEnv scope env.globals cl [] env.qual none .none (some env)) (fun cenv s₄ =>
      codeAny (model prog w) A (.compStart (.ListComp elt [⟨.Name x px, iter, [], 0⟩] scope pos) 0 (.ref I) acc { cenv with scope := relabel scope env }) (RR acc cenv.locals) s₄) E s₃) E s₂ := by
  refine wpAny_newObj_type (wpAny_newFunctionEnv hcell (by intro y hy; simp at hy) (fun h₁ hns₁ hsb₁ => ?_) hkind)
  dsimp only at hns₁ hsb₁ ⊢
  generalize hH2 : s₂.heap.push { cls := .type "list", dict := none, data := .seq ([] : List Value).toArray } = H2 at hns₁ hsb₁ ⊢
  have hC : H2.objs.size = s₂.heap.objs.size + 1 := by rw [← hH2, Heap.size_push]
  generalize hD : s₂.heap.objs.size = D at *
  generalize hCn : H2.objs.size = C at *
  have hDltC : D < C := hC ▸ Nat.lt_succ_self _
  have hDC : D ≠ C := Nat.ne_of_lt hDltC
  have lt2 : ∀ b o, s₂.heap.get? b = some o → b < D := fun b o e => hD ▸ Heap.lt_size e
  have old : ∀ b o, s₂.heap.get? b = some o → h₁.get? b = some o := fun b o e => hsb₁.extBut b o (Nat.ne_of_lt (Nat.lt_trans (lt2 b o e) hDltC)) (Heap.get?_push_of_some _ (hH2 ▸ Heap.get?_push_of_some _ e))
  have hacc : h₁.get? D = some (lst []) := hsb₁.extBut _ _ hDC (Heap.get?_push_of_some _ (hH2 ▸ hD ▸ Heap.get?_push_size _ rfl))
  have hst₁ : St 0 h₁ := W.frame _ _ _ hst fun b _ o e => old b o e
  have fresh₀ : ∀ a, D ≤ a → h₀.get? a = none := fun a ha => by
    cases e : h₀.get? a with
    | none => rfl
    | some o' => exact absurd (lt2 a o' (F.keep a o' e)) (Nat.not_lt.mpr ha)
  have hD₀ : h₀.get? D = none := fresh₀ _ (Nat.le_refl _)
  have hC₀ : h₀.get? C = none := fresh₀ _ (Nat.le_of_lt hDltC)
  have hLlt : L < D := hD ▸ F.ns.lt
  have hDL : D ≠ L := Nat.ne_of_gt hLlt
  have hCL : C ≠ L := Nat.ne_of_gt (Nat.lt_trans hLlt hDltC)
  have hCf : C ∉ fp := fun hm => absurd (Nat.lt_trans (hfp _ hm) hDltC) (Nat.lt_irrefl _)
  have hDf : D ∉ fp := fun hm => absurd (hfp _ hm) (Nat.lt_irrefl _)
  have hDw : D ∉ wr := fun hm => hDf (W.sub _ hm)
  have hCw : C ∉ wr := fun hm => hCf (W.sub _ hm)
  have hLw : L ∉ wr := fun hm => hLf (W.sub _ hm)
  have nlt : ∀ p ∈ news, p.1 < D := fun p hp => lt2 _ _ (N p hp).1
  have nC : ∀ p ∈ news, p.1 ≠ C := fun p hp => Nat.ne_of_lt (Nat.lt_trans (nlt p hp) hDltC)
  have nD : ∀ p ∈ news, p.1 ≠ D := fun p hp => Nat.ne_of_lt (nlt p hp)
  have old₀ : ∀ b o, h₀.get? b = some o → b ∉ wr := fun b o e hb => by rw [hwr b hb] at e; cases e
  have loop : ∀ s₃ : Shared, s₃ = { s₂ with heap := h₁, toks := s₂.toks + ([] : List (Str × Value)).length } →
      codeAny (model prog w) A (.compLoop (.ListComp elt [⟨.Name x px, iter, [], 0⟩] scope pos) 0 (.ref I) (.ref D) (compEnvC scope cl C env)) (RR (.ref D) C) s₃ := by
    rintro s₃ rfl
    refine compLoop_go
      (fun k s' => ∃ h' tk i ys m', s' = { s₂ with heap := h', toks := tk } ∧ i ≤ n ∧ k = n + 1 - i ∧ ys.length = i ∧ (∀ j y, ys[j]? = some y → R j y) ∧ St i h' ∧ Fr h₀ L h' m ∧ h'.Ns C m' ∧ h'.get? D = some (lst ys) ∧ News h₀ L h' news) ?_ (n + 1)
      ⟨h₁, _, 0, [], _, rfl, Nat.zero_le _, rfl, rfl, by intro j y e; simp at e, hst₁, F.keeps old, hns₁, hacc, N.grown old⟩
    rintro k s' ⟨h', tk, i, ys, m', rfl, hi, rfl, hyl, hR, hst', F', hn', hD', N'⟩
    by_cases hlt : i < n
    · refine W.item i _ _ _ hlt hst' fun v h₃ tk₃ hP hst₃ keep => ?_
      refine wpAny_pure ?_
      have F₃ : Fr h₀ L h₃ m := ⟨F'.ns.at' fun o e => keep _ o hLw e, fun b o e => keep b o (old₀ b o e) (F'.keep b o e), F'.above⟩
      have N₃ : News h₀ L h₃ news := fun p hp => ⟨keep _ _ (off p hp) (N' p hp).1, (N' p hp).2⟩
      have hn₃ : h₃.Ns C m' := hn'.at' fun o e => keep _ o hCw e
      have hD₃ : h₃.get? D = some (lst ys) := keep _ _ hDw hD'
      refine wpAny_assign_Name (wpAny_storeName_local (lookup_relabel_local hx) hn₃ (fun h₇ hn₇ hs₇ => ?_) (by simp [compEnvC, relabel, hkind]))
      have up : ∀ b o, b ≠ C → h₃.get? b = some o → h₇.get? b = some o := fun b o hb e => hs₇.extBut b o hb e
      have hst₇ : St (i + 1) h₇ := W.frame _ _ _ hst₃ fun b hb o e => up b o (fun q => hCf (q ▸ hb)) e
      have F₈ : Fr h₀ L h₇ m := F₃.change hs₇ hCL hC₀
      have NN₈ : News h₀ L h₇ news := fun p hp => ⟨up _ _ (nC p hp) (N₃ p hp).1, (N₃ p hp).2⟩
      have hD₈ : h₇.get? D = some (lst ys) := up _ _ hDC hD₃
      obtain ⟨oC, hC₈, hoC⟩ := ns_obj hn₇
      have led : News h₀ L h₇ ((C, oC) :: restOf h₀ L C h₇) := fun p hp => by
        rcases List.mem_cons.mp hp with rfl | hp
        · exact ⟨hC₈, hCL, hC₀⟩
        · have := restOf_mem hp
          exact ⟨this.1, this.2.1, this.2.2.2⟩
      have sub : ∀ p ∈ news, p ∈ restOf h₀ L C h₇ := fun p hp => mem_restOf (NN₈ p hp).1 (NN₈ p hp).2.1 (nC p hp) (NN₈ p hp).2.2
      refine wpAny_tests_nil ?_
      rw [if_pos rfl]
      refine wpAny_mono (turn i v C oC _ h₇ _ (restOf h₀ L C h₇) _ hlt hP hoC (by simp) F₈ led (fun p hp => (restOf_mem hp).2.2.1) sub) (fun y s₉ h₉ => ?_) fun _ _ e => e
      obtain ⟨hy, h₉, tk₉, tl₉, rfl, F₉, N₉⟩ := h₉
      have all₉ := kept_all F₉ N₉ F₈ hC₈
      have hst₉ : St (i + 1) h₉ := W.frame _ _ _ hst₇ fun b hb o e => all₉ b o (fun q => hLf (q ▸ hb)) e
      have NN₉ : News h₀ L h₉ news := fun p hp => ⟨all₉ _ _ (NN₈ p hp).2.1 (NN₈ p hp).1, (NN₈ p hp).2⟩
      have hD₉ := all₉ _ _ hDL hD₈
      have hC₉ := all₉ _ _ hCL hC₈
      refine append_at (hsz := by show ys.toArray.size ≤ sizeLine; rw [List.size_toArray, hyl]; omega) hD₉ fun h₅' hs₅ hD₅ => ?_
      refine ⟨n + 1 - (i + 1), by omega, h₅', tk₉, i + 1, ys ++ [y], _, rfl, hlt, rfl, by simp [hyl], ?_, W.frame _ _ _ hst₉ fun b hb o e => hs₅.extBut b o (fun q => hDf (q ▸ hb)) e, F₉.change hs₅ hDL hD₀,
        (hoC.ns hC₉).sameBut hs₅ (Ne.symm hDC), hD₅.trans (congrArg some (lst_snoc ys y)), fun p hp => ⟨hs₅.extBut _ _ (nD p hp) (NN₉ p hp).1, (NN₉ p hp).2⟩⟩
      intro j y' e
      by_cases hj : j < ys.length
      · rw [List.getElem?_append_left hj] at e
        exact hR j y' e
      · rw [List.getElem?_append_right (by omega)] at e
        have hj2 : j - ys.length = 0 := by
          cases q : j - ys.length with
          | zero => rfl
          | succ k => rw [q] at e; simp at e
        rw [hj2] at e
        simp at e
        subst e
        have : j = i := by omega
        subst this
        exact hy
    · obtain rfl : i = n := Nat.le_antisymm hi (Nat.not_lt.mp hlt)
      refine W.done _ _ _ hst' fun h₂ tk₂ hk₂ => ?_
      refine hRR D C h₂ tk₂ m' ys ⟨F'.ns.at' fun o e => hk₂ _ o hLw e, fun b o e => hk₂ b o (old₀ b o e) (F'.keep b o e), F'.above⟩ (fun p hp => ?_) nlt (hn'.at' fun o e => hk₂ _ o hCw e) hC₀ hD₀ hCL hDL (Ne.symm hDC) nC hyl hR
      rcases List.mem_cons.mp hp with rfl | hp
      · exact ⟨hk₂ _ _ hDw hD', hDL, hD₀⟩
      · exact ⟨hk₂ _ _ (off p hp) (N' p hp).1, (N' p hp).2⟩
  exact codeAny_compStart_list (loop _ rfl) (W.self 0 _ _ _ hst₁ (loop _ rfl))

/-- the iterable is a list, or a range by ones -/
def OneSrc (prog : Program) (w : World) (A : Around) (h₀ : Heap) (L : Addr) (m : Str → Option Value) (env : Env) (elt : Expr) (x : Str) (scope : Scope) (cl : List (Str × Addr)) (Fin : Shared → Addr → List Value → List (Addr × Obj) → Prop) (xv : Value) (s₁ : Shared) : Prop :=
  (∃ ax its news R, xv = .ref ax ∧ A.handled = none ∧ Fr h₀ L s₁.heap m ∧ News h₀ L s₁.heap news ∧ s₁.heap.IsList ax its ∧ L ≠ ax ∧ its.size ≤ sizeLine ∧
    OneTurn prog w A h₀ L m env elt x scope cl its.size (fun i v => its[i]? = some v) R news s₁ ∧
    ∀ D vs, (∀ p ∈ news, p.1 < D) → vs.length = its.size → (∀ j y, vs[j]? = some y → R j y) → Fin s₁ D vs news) ∨
  (∃ r a b t u v n news R, xv = .ref r ∧ A.handled = none ∧ Fr h₀ L s₁.heap m ∧ News h₀ L s₁.heap news ∧ IsRange s₁.heap r a b 1 t u v ∧ Builtin.Range.small a b 1 = true ∧ Builtin.Range.rangeSize a b 1 = ((n : Nat) : Int) ∧ n ≤ sizeLine ∧
    OneTurn prog w A h₀ L m env elt x scope cl n (fun i v => ∃ t, v = .int (a + (i : Int)) t) R news s₁ ∧
    ∀ D vs, (∀ p ∈ news, p.1 < D) → vs.length = n → (∀ j y, vs[j]? = some y → R j y) → Fin s₁ D vs news)

theorem OneSrc.ledger {elt : Expr} {x : Str} {scope : Scope} {cl : List (Str × Addr)} {Fin : Shared → Addr → List Value → List (Addr × Obj) → Prop} {ax : Addr} {its : Array Value} {k : Nat} {news : List (Addr × Obj)} {s₁ : Shared} (R : Nat → Value → Prop)
    (hh : A.handled = none) (F : Fr h₀ L s₁.heap m) (N : News h₀ L s₁.heap news) (hm : (ax, listOf its k) ∈ news) (hsz : its.size ≤ sizeLine)
    (turn : OneTurn prog w A h₀ L m env elt x scope cl its.size (fun i v => its[i]? = some v) R news s₁)
    (fin : ∀ D vs, (∀ p ∈ news, p.1 < D) → vs.length = its.size → (∀ j y, vs[j]? = some y → R j y) → Fin s₁ D vs news) : OneSrc prog w A h₀ L m env elt x scope cl Fin (.ref ax) s₁ :=
  .inl ⟨ax, its, news, R, rfl, hh, F, N, ⟨_, (N _ hm).1, rfl, k, rfl⟩, Ne.symm (N _ hm).2.1, hsz, turn, fin⟩
theorem OneSrc.range {elt : Expr} {x : Str} {scope : Scope} {cl : List (Str × Addr)} {Fin : Shared → Addr → List Value → List (Addr × Obj) → Prop} {r : Addr} {a b : Int} {t u v : Tok} {n : Nat} {news : List (Addr × Obj)} {s₁ : Shared} (R : Nat → Value → Prop)
    (hh : A.handled = none) (F : Fr h₀ L s₁.heap m) (N : News h₀ L s₁.heap news) (hr : IsRange s₁.heap r a b 1 t u v) (hsm : Builtin.Range.small a b 1 = true) (hn : Builtin.Range.rangeSize a b 1 = ((n : Nat) : Int)) (hsz : n ≤ sizeLine)
    (turn : OneTurn prog w A h₀ L m env elt x scope cl n (fun i v => ∃ t, v = .int (a + (i : Int)) t) R news s₁)
    (fin : ∀ D vs, (∀ p ∈ news, p.1 < D) → vs.length = n → (∀ j y, vs[j]? = some y → R j y) → Fin s₁ D vs news) : OneSrc prog w A h₀ L m env elt x scope cl Fin (.ref r) s₁ :=
  .inr ⟨r, a, b, t, u, v, n, news, R, rfl, hh, F, N, hr, hsm, hn, hsz, turn, fin⟩

theorem one_start {elt iter : Expr} {x : Str} {px : Pos} {scope : Scope} {cl : List (Str × Addr)} {pos : Pos} {Fin : Shared → Addr → List Value → List (Addr × Obj) → Prop} {xv : Value} {s₁ : Shared} {RR : Value → Addr → Result → Shared → Prop}
    (hcell : ∀ y ∈ scope.names, y.2 ≠ .cell) (hkind : scope.kind = .function) (hx : scope.names.lookup x = some .local)
    (h₁ : OneSrc prog w A h₀ L m env elt x scope cl Fin xv s₁)
    (hRR : ∀ D C h tk m' ys news, Fr h₀ L h m → News h₀ L h ((D, lst ys) :: news) → h.Ns C m' → h₀.get? C = none → C ≠ L → C ≠ D → (∀ p ∈ news, p.1 ≠ C) → Fin s₁ D ys news → RR (.ref D) C (.ok .next) { s₁ with heap := h, toks := tk }) :
    wpAny (model prog w) A (pyIter xv) (fun it s₂ => wpAny (model prog w) A (newList []) (fun acc s₃ => wpAny (model prog w) A (newFunctionEnv scope env.globals cl [] env.qual none .none (some env)) (fun cenv s₄ =>
      codeAny (model prog w) A (.compStart (.ListComp elt [⟨.Name x px, iter, [], 0⟩] scope pos) 0 it acc { cenv with scope := relabel scope env }) (RR acc cenv.locals) s₄) E s₃) E s₂) E s₁ := by
  rcases h₁ with ⟨ax, its, news, R, rfl, hh, F, N, hl, hLa, hsz, turn, fin⟩ | ⟨r, a, b, t, u, v, n, news, R, rfl, hh, F, N, hr, hsm, hn, hsz, turn, fin⟩
  · have hlt : ax < s₁.heap.objs.size := by obtain ⟨_, e, _⟩ := hl; exact Heap.lt_size e
    refine wpAny_pyIter_list hl ?_
    have up : ∀ b o, s₁.heap.get? b = some o → (s₁.heap.push { cls := .type "list_iterator", data := .fields #[.ref ax, .int 0 0] }).get? b = some o := fun b o e => Heap.get?_push_of_some _ e
    refine block_one (Walks.list hh s₁.heap.objs.size ax (Nat.ne_of_lt hlt) its) hsz hcell hkind hx ⟨⟨_, Heap.get?_push_size _ rfl, rfl, rfl⟩, hl.push _⟩ (fun b hb => ?_) (F.keeps up) (N.grown up) (fun hm => ?_) (fun b hb => ?_) (fun p hp hI => ?_) turn ?_
    · show b < (s₁.heap.push _).objs.size
      rw [Heap.size_push]
      rcases List.mem_cons.mp hb with rfl | hb
      · exact Nat.lt_succ_self _
      · rw [List.mem_singleton.mp hb]; exact Nat.lt_succ_of_lt hlt
    · rcases List.mem_cons.mp hm with e | hm
      · exact absurd F.ns.lt (e ▸ Nat.lt_irrefl _)
      · exact hLa (List.mem_singleton.mp hm)
    · rw [List.mem_singleton.mp hb]; exact next_is_new F
    · exact absurd (Heap.lt_size (N p hp).1) ((List.mem_singleton.mp hI) ▸ Nat.lt_irrefl _)
    · intro D C h tk m' ys F' N' lt hn' hC₀ _ hCL _ hCD offC hlen hR
      exact hRR D C h tk m' ys news F' N' hn' hC₀ hCL hCD offC (fin D ys lt hlen hR)
  · refine wpAny_pyIter_range hr hsm ?_
    refine block_one (range_walks hh a n) hsz hcell hkind hx (by show IsRangeIter _ _ _ _ _; rw [hn]; simpa using Heap.get?_push_size _ rfl) (fun b hb => ?_)
      (F.keeps fun _ _ e => Heap.get?_push_of_some _ e) (N.grown fun _ _ e => Heap.get?_push_of_some _ e) (fun hm => ?_) (fun b hb => ?_) (fun p hp hI => ?_) turn ?_
    · rw [List.mem_singleton.mp hb]
      show s₁.heap.objs.size < (s₁.heap.push _).objs.size
      rw [Heap.size_push]; exact Nat.lt_succ_self _
    · exact absurd F.ns.lt ((List.mem_singleton.mp hm) ▸ Nat.lt_irrefl _)
    · rw [List.mem_singleton.mp hb]; exact next_is_new F
    · exact absurd (Heap.lt_size (N p hp).1) ((List.mem_singleton.mp hI) ▸ Nat.lt_irrefl _)
    · intro D C h tk m' ys F' N' lt hn' hC₀ _ hCL _ hCD offC hlen hR
      exact hRR D C h tk m' ys news F' N' hn' hC₀ hCL hCD offC (fin D ys lt hlen hR)

theorem ListComp_N {elt iter : Expr} {x : Str} {px : Pos} {scope : Scope} {cl : List (Str × Addr)} {pos : Pos} {Q : Value → Shared → Prop} (_F₀ : Fr h₀ L s.heap m)
    (hclos : closureFor scope env = pure cl) (hcell : ∀ y ∈ scope.names, y.2 ≠ .cell) (hkind : scope.kind = .function)
    (hnames : ∀ y ∈ scope.names, y.2 = .local → scope.names.lookup y.1 = some .local) (hx : scope.names.lookup x = some .local)
    (h : wpAny (model prog w) A (eval iter env) (OneSrc prog w A h₀ L m env elt x scope cl (fun s₁ D vs news => ∀ h' tk', Fr h₀ L h' m → News h₀ L h' ((D, lst vs) :: news) → Q (.ref D) { s₁ with heap := h', toks := tk' })) E s)
    (hs : ∀ x, foldedSetIterable iter env x = pure x := by intro _; rfl) :
    wpAny (model prog w) A (eval (.ListComp elt [⟨.Name x px, iter, [], 0⟩] scope pos) env) Q E s := by
  rw [eval_ListComp]
  refine wpAny_comprehension_free (use := none) rfl hs hclos hkind hnames (wpAny_mono h (fun xv s₁ h₁ => ?_) fun _ _ e => e)
  refine one_start hcell hkind hx h₁ ?_
  intro D C h tk m' ys news F' N' hn' hC₀ hCL hCD offC fin
  refine ⟨m', hn', fun h'' hs'' => fin h'' tk (F'.change hs'' hCL hC₀) (fun p hp => ?_)⟩
  refine ⟨hs''.extBut _ _ ?_ (N' p hp).1, (N' p hp).2⟩
  rcases List.mem_cons.mp hp with rfl | hp
  · exact Ne.symm hCD
  · exact offC p hp

theorem Assign_ListComp_N {elt iter : Expr} {x y : Str} {px py : Pos} {scope : Scope} {cl : List (Str × Addr)} {pos spos : Pos} {Q : Flow → Shared → Prop} (_F₀ : Fr h₀ L s.heap m) (hLe : env.locals = L)
    (hsw : swapsWith (.ListComp elt [⟨.Name x px, iter, [], 0⟩] scope pos) (some (.Name y py)) spos.line env = pure true)
    (hclos : closureFor scope env = pure cl) (hcell : ∀ z ∈ scope.names, z.2 ≠ .cell) (hkind : scope.kind = .function)
    (hnames : ∀ z ∈ scope.names, z.2 = .local → scope.names.lookup z.1 = some .local) (hx : scope.names.lookup x = some .local)
    (hy : env.kindOf y = some .local) (hp : (env.scope.kind == .class || (env.scope.kind == .module && env.locals != env.globals)) = false)
    (h : wpAny (model prog w) A (eval iter env) (OneSrc prog w A h₀ L m env elt x scope cl (fun s₁ D vs news => ∀ h' tk', Fr h₀ L h' (fun z => if z = y then some (.ref D) else m z) → News h₀ L h' ((D, lst vs) :: news) → Q .next { s₁ with heap := h', toks := tk' })) E s)
    (hs : ∀ x, foldedSetIterable iter env x = pure x := by intro _; rfl) :
    wpAny (model prog w) A (exec (.Assign [.Name y py] (.ListComp elt [⟨.Name x px, iter, [], 0⟩] scope pos) spos) env) Q E s := by
  subst hLe
  rw [exec_Assign_Name_used _ _ _ _ hsw]
  refine wpAny_bind (wpAny_standAt (wpAny_bind ?_))
  show wpAny _ A (do let _ ← comprehension (.ListComp elt [⟨.Name x px, iter, [], 0⟩] scope pos) scope env _ (newList []) false (eval iter env) (some (assign (.Name y py) env))) _ _ s
  refine wpAny_bind (wpAny_mono (wpAny_comprehension_free (use := some (assign (.Name y py) env)) (Q := fun _ s' => Q .next s') rfl hs hclos hkind hnames
    (wpAny_mono h (fun xv s₁ h₁ => ?_) fun _ _ e => e)) (fun _ s' hq => wpAny_pure (wpAny_pure hq)) fun _ _ e => e)
  refine one_start hcell hkind hx h₁ ?_
  intro D' C h tk m' ys news F' N' hn' hC₀ hCL hCD offC fin
  show wpAny _ A (assign (.Name y py) env (.ref D')) _ _ _
  refine wpAny_assign_Name (wpAny_storeName_local hy F'.ns (fun h₂ hn₂ hs₂ => ?_) hp)
  have F₂ := F'.set hn₂ hs₂
  refine ⟨m', hn'.sameBut hs₂ hCL, fun h'' hs'' => fin h'' _ (F₂.change hs'' hCL hC₀) (fun p hp => ?_)⟩
  have zz : h₂.get? p.1 = some p.2 := hs₂.extBut _ _ (N' p hp).2.1 (N' p hp).1
  refine ⟨hs''.extBut _ _ ?_ zz, (N' p hp).2⟩
  rcases List.mem_cons.mp hp with rfl | hp
  · exact Ne.symm hCD
  · exact offC p hp
end
end Mine
end
section
open PySem PySem.W PyProof.Rows
set_option Elab.async false
set_option maxRecDepth 100000
namespace Mine
open PySem PySem.W PySem.Spec PySem.Calls PyProof.Rows PyProof.Rows.LCg
section
variable {prog : Program} {w : World} {A : Around} {E : Value → Shared → Prop} {s : Shared} {h₀ : Heap} {L l : Addr} {news : List (Addr × Obj)}
theorem item_led {value slice : PySem.Expr} {its : Array Value} {n : Nat} {k : Int} {u : Tok} {v : Value} {Q : Value → Shared → Prop}
    (N : News h₀ L s.heap news) (hm : (l, listOf its n) ∈ news) (h0 : 0 ≤ k) (hhi : k < 2 ^ 63) (hx : its[k.toNat]? = some v) (h : Q v s)
    (hs : subscripted slice false (.ref l) (.int k u) = operate [.ref l, .int k u] (getItem (.ref l) (.int k u)) := by with_unfolding_all rfl) :
    wpAny (model prog w) A (subscriptTail value slice (.ref l) (.int k u)) Q E s :=
  have hl : s.heap.IsList l its := ⟨_, (N _ hm).1, rfl, n, rfl⟩
  tail_any hl.typeIs slot_list_getitem.lookup (wpAny_getItem_list hl h0 hhi hx h) hs
theorem list_led {its : Array Value} {n : Nat} (N : News h₀ L s.heap news) (hm : (l, listOf its n) ∈ news) : s.heap.IsList l its := ⟨_, (N _ hm).1, rfl, n, rfl⟩
theorem ne_led {o : Obj} (N : News h₀ L s.heap news) (hm : (l, o) ∈ news) : L ≠ l := Ne.symm (N _ hm).2.1
end
section
variable {prog : Program} {w : World} {A : Around} {E : Value → Shared → Prop} {s : Shared} {h₀ : Heap} {L : Addr} {m : Str → Option Value} {env : Env}
theorem zip_led {elt : PySem.Expr} {ifs : List PySem.Expr} {x x₂ : Str} {scope : Scope} {cl : List (Str × Addr)} {Fin : Shared → Addr → List Value → List (Addr × Obj) → Prop} {l1 l2 : Addr} {xs ys : Array Value} {n1 n2 : Nat} {news : List (Addr × Obj)} (pass : Bool) (R : Nat → Value → Prop)
    (hh : A.handled = none) (F : Fr h₀ L s.heap m) (N : News h₀ L s.heap news) (hm1 : (l1, listOf xs n1) ∈ news) (hm2 : (l2, listOf ys n2) ∈ news) (hsz : min xs.size ys.size ≤ sizeLine)
    (turn : PairTurn prog w A h₀ L m env elt ifs x x₂ scope cl pass (fun i vals => ∃ a b, xs[i]? = some a ∧ ys[i]? = some b ∧ vals = #[a, b]) R news s)
    (fin : ∀ D vs h', (∀ p ∈ news, p.1 < D) → vs.length = (if pass then min xs.size ys.size else 0) → (∀ j y, vs[j]? = some y → R j y) → Fin { s with heap := h' } D vs news) :
    Halt (wpAny (model prog w) A (call (.type "zip") [.ref l1, .ref l2]) (ZipSrc prog w A h₀ L m env elt ifs x x₂ scope cl Fin) E s) :=
  zip_src pass R hh F N (list_led N hm1) (list_led N hm2) (ne_led N hm1) (ne_led N hm2) hsz turn fin
end
theorem led_tail {h₀ h : Heap} {L : Addr} {q : Addr × Obj} {l : List (Addr × Obj)} (N : News h₀ L h (q :: l)) : News h₀ L h l := fun p hp => N p (.tail _ hp)
theorem three_of {vs : List Value} {R : Nat → Value → Prop} (hlen : vs.length = 3) (hR : ∀ j y, vs[j]? = some y → R j y) : ∃ a b c, vs = [a, b, c] ∧ R 0 a ∧ R 1 b ∧ R 2 c := by
  match vs, hlen with
  | [a, b, c], _ => exact ⟨a, b, c, rfl, hR 0 a rfl, hR 1 b rfl, hR 2 c rfl⟩
/-- an item of three -/
theorem of_three {a b c v : Value} {j : Nat} (h : (#[a, b, c] : Array Value)[j]? = some v) : (j = 0 ∧ v = a) ∨ (j = 1 ∧ v = b) ∨ (j = 2 ∧ v = c) := by
  match j with
  | 0 => left; exact ⟨rfl, (Option.some.inj h).symm⟩
  | 1 => right; left; exact ⟨rfl, (Option.some.inj h).symm⟩
  | 2 => right; right; exact ⟨rfl, (Option.some.inj h).symm⟩
  | j + 3 => simp at h
def rnd (k : Int) (x : UInt64) : Int := Flt.toInt Float64.nearestOf (Float64.mul (Float64.ofInt k) x)
end Mine
end
section
open PySem PySem.W PyProof.Rows
set_option Elab.async false
set_option maxRecDepth 100000
namespace Mine
theorem fresh_C5 : True := by
  w_top off
  exact trivial
open PySem PySem.W PySem.Spec PySem.Calls PyProof.Rows PyProof.Rows.LCg
local macro_rules | `(tactic| walk_at "eval ListComp") => `(tactic| (k_here; (with_reducible show wpAny _ _ (eval (PySem.Expr.ListComp _ [⟨PySem.Expr.Name _ _, _, [], _⟩] _ _) _) _ _ _); k_dflt (refine ListComp_N (by k_asm) (by with_unfolding_all rfl) (by decide) (by rfl) (by decide) (by rfl) ?_)))
local macro_rules | `(tactic| walk_at "eval ListComp") => `(tactic| (k_here; (with_reducible show wpAny _ _ (eval (PySem.Expr.ListComp _ [⟨PySem.Expr.Tuple [_, _] _ _, _, _, _⟩] _ _) _) _ _ _); k_dflt (refine ListComp_Z (by k_asm) (by with_unfolding_all rfl) (by decide) (by rfl) (by decide) (by rfl) (by rfl) (by decide) ?_)))
local macro_rules | `(tactic| walk_at "call type:zip") => `(tactic| (k_here; (with_reducible show wpAny _ _ (call (Value.type "zip") _) (ZipSrc _ _ _ _ _ _ _ _ _ _ _ _ _ _) _ _); refine Halt.out ?_))
local macro_rules | `(tactic| k_mem) => `(tactic| first | (with_reducible assumption) | exact List.Mem.head _ | (refine' List.mem_cons_of_mem _ ?_; k_mem) | (refine' List.mem_append.mpr (Or.inl ?_); k_mem) | (refine' List.mem_append.mpr (Or.inr ?_); k_mem))
local macro_rules | `(tactic| walk_at "subscriptTail") => `(tactic| (k_here; (with_reducible show wpAny _ _ (subscriptTail _ _ (Value.ref _) (Value.int _ _)) _ _ _); k_dflt (refine' item_led ?k1 ?k2 ?k3 ?k4 ?k5 ?_ ?k7; (case k1 => k_asm); (case k2 => k_mem); (case k3 => decide); (case k4 => decide); (case k5 => rfl); (case k7 => with_unfolding_all rfl); k_whole)))
local macro_rules | `(tactic| walk_at "call ref") => `(tactic| (k_here; (with_reducible show wpAny _ _ (call (Value.ref 83) [Value.int _ _, Value.float _ _]) _ _ _); k_dflt (refine' Tell.use (tell_shown _ _ _ _ _ _ ?p1 ?p2) ?k1 ?k2 ?k3 ?k4 ?k5 ?kK ?kd ?ku ?_; (case p1 => assumption); (case p2 => assumption); (case k1 => k_asm); (case k2 => k_asm); (case k3 => k_asm); (case k4 => k_asm); (case k5 => k_asm); (case kK => exact rfl); (case kd => ktr_room); (case ku => ktr_units); k_whole); intro r9 tl9 h9 tk9 F9 N9 l9 P9; (obtain ⟨e9, e8⟩ := P9); subst e9; subst e8; (try simp only [List.nil_append] at N9); (try dsimp only); (try k_fold)))
set_option maxHeartbeats 4000000 in
theorem tell_right (w : World) (r g b : Int) (t1 t2 t3 : Tok) (y i q r' g' b' : UInt64) (u1 u2 u3 u4 u5 u6 : Tok) (a1 a2 a3 a4 : Addr) (n1 n2 n3 n4 : Nat) (news : List (Addr × Obj))
   (h1 : (a1, listOf #[.int r t1, .int g t2, .int b t3] n1) ∈ news) (h2 : (a2, listOf #[.ref a3, .ref a4] n2) ∈ news) (h3 : (a3, listOf #[.float y u1, .float i u2, .float q u3] n3) ∈ news) (h4 : (a4, listOf #[.float r' u4, .float g' u5, .float b' u6] n4) ∈ news)
   (fy : Float64.isFinite (Float64.mul (Float64.ofInt 2550000) y) = true) (fi : Float64.isFinite (Float64.mul (Float64.ofInt 2550000) i) = true) (fq : Float64.isFinite (Float64.mul (Float64.ofInt 2550000) q) = true)
   (ey : rnd 2550000 y = 3000 * r + 5900 * g + 1100 * b) (ei : rnd 2550000 i = 5990 * r - 2773 * g - 3217 * b) (eq : rnd 2550000 q = 2130 * r - 5251 * g + 3121 * b)
   (fr : Float64.isFinite (Float64.mul (Float64.ofInt 255) r') = true) (fg : Float64.isFinite (Float64.mul (Float64.ofInt 255) g') = true) (fb : Float64.isFinite (Float64.mul (Float64.ofInt 255) b') = true)
   (sr : ShownOk r r') (sg : ShownOk g g') (sb : ShownOk b b') :
   Tell w 25 88 [.ref a1, .ref a2] news (fun v tl => v = .bool true ∧ tl = []) := by
  unfold Tell
  k_fill
  intro p loose mean mg mb dp un gd cn cs a ccd cl outer A₀ base h₀ L m s Q E B F X N T hk hd hu hret
  refine wpAny_call ?_
  k_dflt ktr_enter
  k_steps
  refine OneSrc.ledger (fun j v => ∃ x t t', (#[Value.float y u1, Value.float i u2, Value.float q u3] : Array Value)[j]? = some (.float x t) ∧ v = .int (rnd 2550000 x) t') rfl (by k_asm) (by k_asm) (by k_mem) (Nat.le_of_ble_eq_true rfl) ?_ ?_
  · intro j v C oC m₂ h tk led E' hj hP hoC hx F' N' off sub
    have hv : ∃ x t, v = .float x t ∧ Float64.isFinite (Float64.mul (Float64.ofInt 2550000) x) = true := by
      rcases of_three hP with ⟨_, rfl⟩ | ⟨_, rfl⟩ | ⟨_, rfl⟩
      · exact ⟨_, _, rfl, fy⟩
      · exact ⟨_, _, rfl, fi⟩
      · exact ⟨_, _, rfl, fq⟩
    obtain ⟨x, t, rfl, hf⟩ := hv
    k_steps
    exact ⟨⟨_, _, _, hP, rfl⟩, _, _, [], rfl, by k_asm, by k_asm⟩
  · intro D vs lt hlen hR
    obtain ⟨va, vb, vc, rfl, ⟨xa, ta, ta', ea, rfl⟩, ⟨xb, tb, tb', eb, rfl⟩, ⟨xc, tc, tc', ec, rfl⟩⟩ := three_of hlen hR
    cases ea
    cases eb
    cases ec
    rw [ey, ei, eq]
    intro h' tk' F' N'
    (try dsimp only)
    k_steps
    refine zip_led false (fun _ _ => True) rfl (by k_asm) (by k_asm) (by k_mem) (by k_mem) (Nat.le_of_ble_eq_true rfl) ?_ ?_
    · intro j v₁ v₂ C oC m₂ h tk led E' hP hoC hx hx₂ F' N' off sub
      obtain ⟨va, vb, ha, hb, e⟩ := hP
      cases e
      refine ⟨wpAny_tests_one ?_, fun e => nomatch e⟩
      have hv : ∃ x t l u, v₁ = .int x t ∧ v₂ = .float l u ∧ Float64.isFinite (Float64.mul (Float64.ofInt 255) l) = true ∧ ShownOk x l := by
        rcases of_three ha with ⟨rfl, rfl⟩ | ⟨rfl, rfl⟩ | ⟨rfl, rfl⟩
        · cases hb
          exact ⟨_, _, _, _, rfl, rfl, fr, sr⟩
        · cases hb
          exact ⟨_, _, _, _, rfl, rfl, fg, sg⟩
        · cases hb
          exact ⟨_, _, _, _, rfl, rfl, fb, sb⟩
      obtain ⟨x, t, l, u, rfl, rfl, hf, hs⟩ := hv
      clear hlen hR
      k_steps
      exact ⟨rfl, _, _, [], rfl, by k_asm, by k_asm⟩
    · intro D vs h' lt hlen hR h'' tk' F' N'
      have e : vs = [] := List.length_eq_zero_iff.mp hlen
      subst e
      (try dsimp only)
      k_steps
      exact hret _ [] _ _ (by k_asm) (led_tail (led_tail (led_tail (led_tail (by assumption))))) ord_nil ⟨rfl, rfl⟩
end Mine
end
section
open PySem PySem.W PyProof.Rows
set_option Elab.async false
set_option maxRecDepth 100000
namespace Mine
open PySem PySem.W PySem.Spec PySem.Calls PyProof.Rows PyProof.Rows.LCg
section
variable {prog : Program} {w : World} {A : Around} {E : Value → Shared → Prop} {s : Shared} {h₀ : Heap} {m : Str → Option Value} {env : Env} {news : List (Addr × Obj)}
/-- the end of a turn: the iterator lies at I, own is what it leans on -/
def TurnEnd (h₀ : Heap) (L I : Addr) (own : List (Addr × Obj)) (Jn : (Str → Option Value) → List (Addr × Obj) → Prop) (s₁ : Shared) (f : Flow) (s₂ : Shared) : Prop :=
  f = .next ∧ ∃ h' tk m' nx, s₂ = { s₁ with heap := h', toks := tk } ∧ Fr h₀ L h' m' ∧ News h₀ L h' (own ++ nx) ∧ (∀ p ∈ nx, p.1 ≠ I) ∧ Jn m' nx
theorem loop_led {target : PySem.Expr} {body : List Stmt} {Q : Flow → Shared → Prop} {l : Addr} {its : Array Value} {k : Nat} {m₀ : Str → Option Value} (J : Nat → (Str → Option Value) → List (Addr × Obj) → Prop)
    (hh : A.handled = none) (F : Fr h₀ env.locals s.heap m₀) (N : News h₀ env.locals s.heap news) (hm : (l, listOf its k) ∈ news) (h0 : J 0 m₀ news)
    (turn : ∀ i v m₁ nx (s₁ : Shared) own I oI, its[i]? = some v → J i m₁ nx → (I, oI) ∈ own → (∀ p ∈ nx, p.1 ≠ I) → (∀ q ∈ own, q.1 = I ∨ q.1 = l) → Fr h₀ env.locals s₁.heap m₁ → News h₀ env.locals s₁.heap (own ++ nx) →
      wpAny (model prog w) A (assign target env v) (fun _ s₃ => wpAny (model prog w) A (execs body env) (TurnEnd h₀ env.locals I own (J (i + 1)) s₁) E s₃) E s₁)
    (done : ∀ m₁ nx h tk, J its.size m₁ nx → Fr h₀ env.locals h m₁ → News h₀ env.locals h nx → Q .next { s with heap := h, toks := tk }) :
    Halt (wpAny (model prog w) A (pyIter (.ref l)) (fun it s₂ => LoopAtT prog w A h₀ env target body Q E it s₂) E s) := by
  show wpAny (model prog w) A (pyIter (.ref l)) (fun it s₂ => LoopAtT prog w A h₀ env target body Q E it s₂) E s
  have hls : s.heap.IsList l its := ⟨_, (N _ hm).1, rfl, k, rfl⟩
  have hlt : l < s.heap.objs.size := Heap.lt_size (N _ hm).1
  refine wpAny_pyIter_list hls ?_
  have W := Walks.list (prog := prog) (w := w) hh s.heap.objs.size l (Nat.ne_of_lt hlt) its
  refine ⟨s.heap.objs.size, _, _, its.size, _, _, m₀, news, J, rfl, W, ?_, ?_, ?_, ⟨⟨_, Heap.get?_push_size _ rfl, rfl, rfl⟩, hls.at fun o e => Heap.get?_push_of_some _ e⟩, F.push _, (fun p hp => ⟨Heap.get?_push_of_some _ (N p hp).1, (N p hp).2⟩), (fun i s' v Q' st hQ' => letGo_listiter st.1 hQ'), h0, ?_, ?_⟩
  · intro hm'
    rcases List.mem_cons.mp hm' with e | hm'
    · exact absurd F.ns.lt (e ▸ Nat.lt_irrefl _)
    · exact (N _ hm).2.1 (List.mem_singleton.mp hm').symm
  · intro b hb
    rw [List.mem_singleton.mp hb]
    exact next_is_new F
  · intro p hp hI
    exact absurd (Heap.lt_size (N p hp).1) ((List.mem_singleton.mp hI) ▸ Nat.lt_irrefl _)
  · intro i v m₁ news₁ s₁ own hi hP hJ hoff hsub hown hall hst F₁ N₁
    obtain ⟨oI, hoI, _⟩ := hst.1
    have hI : (s.heap.objs.size, oI) ∈ own := hall _ (.head _) (next_is_new F) oI hoI
    refine wpAny_mono (turn i v m₁ news₁ s₁ own s.heap.objs.size oI hP hJ hI (fun p hp e => hoff p hp (e ▸ .head _)) (fun q hq => (List.mem_cons.mp (hsub q hq)).imp id List.mem_singleton.mp) F₁ N₁) (fun _ s₃ h₃ => wpAny_mono h₃ (fun f s₄ h₄ => ?_) fun _ _ e => e) fun _ _ e => e
    obtain ⟨rfl, h', tk, m', nx, e, F', N', ho, hj⟩ := h₄
    exact ⟨rfl, h', tk, m', nx, e, F', N', fun p hp hm' => ho p hp (List.mem_singleton.mp hm'), hj⟩
  · intro h' tk m' nx F' N' _ hJ
    exact done m' nx h' tk hJ F' N'
variable {L : Addr}
theorem add_led {l b : Addr} {vs : List Value} {v : Value} {n n2 : Nat} {Q : Value → Shared → Prop} (F : Fr h₀ L s.heap m) (N : News h₀ L s.heap news) (hm1 : (l, listOf vs.toArray n) ∈ news) (hm2 : (b, listOf #[v] n2) ∈ news) (hsz : vs.length + 1 ≤ sizeLine)
    (h : ∀ D h', Fr h₀ L h' m → News h₀ L h' ((D, listOf (vs ++ [v]).toArray 0) :: news) → (∀ p ∈ news, p.1 < D) → Q (.ref D) { s with heap := h' }) :
    wpAny (model prog w) A (binaryOp .Add (.ref l) (.ref b)) Q E s :=
  add_lists (vs := vs) (ws := [v]) F N ⟨_, (N _ hm1).1, rfl, n, rfl⟩ ⟨_, (N _ hm2).1, rfl, n2, rfl⟩ (fun h' F' N' => h _ h' F' N' fun p hp => Heap.lt_size (N p hp).1) hsz
end
theorem led_sub {h₀ h : Heap} {L : Addr} {l l' : List (Addr × Obj)} (N : News h₀ L h l) (k : ∀ p ∈ l', p ∈ l) : News h₀ L h l' := fun p hp => N p (k p hp)
theorem led_front {h₀ h : Heap} {L c : Addr} {o : Obj} {l : List (Addr × Obj)} (N : News h₀ L h l) (hm : (c, o) ∈ l) : ∃ tl, News h₀ L h ((c, o) :: tl) ∧ (∀ p ∈ tl, p.1 ≠ c) ∧ (∀ p ∈ l, p.1 ≠ c → p ∈ tl) := by
  refine ⟨l.filter fun p => decide (p.1 ≠ c), fun p hp => ?_, fun p hp => ?_, fun p hp e => ?_⟩
  · rcases List.mem_cons.mp hp with rfl | hp
    · exact N _ hm
    · exact N p (List.mem_filter.mp hp).1
  · simpa using (List.mem_filter.mp hp).2
  · exact List.mem_filter.mpr ⟨hp, by simpa using e⟩
/-- place by place -/
inductive All2 {α β : Type} (R : α → β → Prop) : List α → List β → Prop
  | nil : All2 R [] []
  | cons {a b l l'} : R a b → All2 R l l' → All2 R (a :: l) (b :: l')
theorem All2.mono {α β : Type} {R S : α → β → Prop} (h : ∀ a b, R a b → S a b) : ∀ {l : List α} {l' : List β}, All2 R l l' → All2 S l l'
  | _, _, .nil => .nil
  | _, _, .cons a r => .cons (h _ _ a) (r.mono h)
theorem All2.snoc {α β : Type} {R : α → β → Prop} {a : α} {b : β} (h : R a b) : ∀ {l : List α} {l' : List β}, All2 R l l' → All2 R (l ++ [a]) (l' ++ [b])
  | _, _, .nil => .cons h .nil
  | _, _, .cons a r => .cons a (r.snoc h)
theorem All2.length {α β : Type} {R : α → β → Prop} : ∀ {l : List α} {l' : List β}, All2 R l l' → l.length = l'.length
  | _, _, .nil => rfl
  | _, _, .cons _ r => congrArg (· + 1) r.length
theorem All2.get {α β : Type} {R : α → β → Prop} : ∀ {l : List α} {l' : List β}, All2 R l l' → ∀ {i : Nat} {a : α}, l[i]? = some a → ∃ b, l'[i]? = some b ∧ R a b
  | _, _, .nil, i, a, e => by simp at e
  | _, _, .cons h r, 0, a, e => ⟨_, rfl, (Option.some.inj e) ▸ h⟩
  | _, _, .cons h r, i + 1, a, e => r.get e
end Mine
end
section
open PySem PySem.W PyProof.Rows
set_option Elab.async false
set_option maxRecDepth 100000
namespace Mine
theorem fresh_C4 : True := by
  w_top off
  exact trivial
open PySem PySem.W PySem.Spec PySem.Calls PyProof.Rows PyProof.Rows.LCg
/-- the 48 operators, by their numbers -/
def ops : List Str := ["(", ")", "[", "]", ":", ",", ";", "+", "-", "*", "/", "|", "&", "<", ">", "=", ".", "%", "{", "}", "==", "!=", "<=", ">=", "~", "^", "<<", ">>", "**", "+=", "-=", "*=", "/=", "%=", "&=", "|=", "^=", "<<=", ">>=", "**=", "//", "//=", "@", "@=", "->", "...", ":=", "!"].map Str.ofString
theorem ops_split : Txt.split (Str.ofString "( ) [ ] : , ; + - * / | & < > = . % { } == != <= >= ~ ^ << >> ** " ++ Str.ofString "+= -= *= /= %= &= |= ^= <<= >>= **= // //= @ @= -> ... := !") (Str.ofString " ") = ops := by decide +kernel
theorem ops_length : ops.length = 48 := rfl
set_option maxHeartbeats 4000000 in
theorem tell_ops (w : World) (news : List (Addr × Obj)) : Tell w 5 59 [] news (fun v tl => ∃ D l, (v = .ref D ∧ tl = [(D, listOf (strValues l).toArray 0)]) ∧ l.map (·.1) = ops) := by
  unfold Tell
  k_fill
  intro p loose mean mg mb dp un gd cn cs a ccd cl outer A₀ base h₀ L m s Q E B F X N T hk hd hu hret
  refine wpAny_call ?_
  k_dflt ktr_enter
  k_steps
  exact hret _ [_] _ _ (by k_asm) (by k_asm) (ord_one (by assumption)) ⟨_, _, ⟨rfl, rfl⟩, by rw [← ops_split]; assumption⟩
end Mine
end
section
open PySem PySem.W PyProof.Rows
set_option Elab.async false
set_option maxRecDepth 100000
namespace Mine
theorem fresh_C6 : True := by
  w_top off
  exact trivial
open PySem PySem.W PySem.Spec PySem.Calls PyProof.Rows PyProof.Rows.LCg
structure Light where
  word : Str
  r : Int
  g : Int
  b : Int
inductive LightIn (news : List (Addr × Obj)) : Value → Light → Prop
  | mk {a c : Addr} {n n' : Nat} {x : Str} {t t1 t2 t3 : Tok} {r g b : Int} : (a, listOf #[.str x t, .ref c] n) ∈ news → (c, listOf #[.int r t1, .int g t2, .int b t3] n') ∈ news → LightIn news (.ref a) ⟨x, r, g, b⟩
theorem LightIn.mono {news news' : List (Addr × Obj)} (hs : ∀ p ∈ news, p ∈ news') {v : Value} {d : Light} (h : LightIn news v d) : LightIn news' v d := by
  cases h with
  | mk h1 h2 => exact .mk (hs _ h1) (hs _ h2)
def wholeOf (x : Int) : Int := 11259375 + Int.fdiv x 48 * 1315423911
def octOf (x : Int) (k : Nat) : Int := Int.fmod (Int.fdiv (wholeOf x) (256 ^ k)) 256
def lightOf (x : Int) : Light := ⟨ops.getD (Int.fmod x 48).toNat Str.empty, octOf x 0, octOf x 1, octOf x 2⟩
def fixedLights : List Light := [⟨Str.ofString "~", 255, 255, 0⟩, ⟨Str.ofString "~", 1, 0, 0⟩, ⟨Str.ofString "}", 64, 64, 1⟩, ⟨Str.ofString "^=", 20, 0, 8⟩, ⟨Str.ofString "~", 0, 10, 0⟩]
theorem shuffle4 {h₀ h : Heap} {L : Addr} {x1 x2 x3 x4 c : Addr × Obj} {own tl : List (Addr × Obj)} (N : News h₀ L h (x1 :: x2 :: x3 :: x4 :: c :: (own ++ tl))) : News h₀ L h (own ++ (c :: x1 :: x2 :: x3 :: x4 :: tl)) :=
  led_sub N (by intro p hp; simp only [List.mem_append, List.mem_cons] at hp ⊢; grind)
theorem map_two {m : Str → Option Value} {a b : Str} {va vb : Value} (ha : m a = some va) (hb : m b = some vb) : m = fun y => if y = a then some va else if y = b then some vb else m y := by
  funext y
  by_cases e : y = a
  · subst e; simp [ha]
  · by_cases e2 : y = b
    · subst e2; simp [e, hb]
    · simp [e, e2]
theorem fmod_lt48 (x : Int) : 0 ≤ Int.fmod x 48 ∧ Int.fmod x 48 < 48 := ⟨Int.fmod_nonneg_of_pos x (by decide), Int.fmod_lt_of_pos x (by decide)⟩
theorem ops_at {l : List (Str × Tok)} (hl : l.map (·.1) = ops) {k : Nat} (hk : k < 48) : ∃ t, (strValues l).toArray[k]? = some (.str (ops.getD k Str.empty) t) := by
  have hn : l.length = 48 := by rw [← ops_length, ← hl, List.length_map]
  have hk' : k < l.length := by omega
  refine ⟨l[k].2, ?_⟩
  have e : ops.getD k Str.empty = l[k].1 := by
    rw [← hl, List.getD_eq_getElem?_getD, List.getElem?_map, List.getElem?_eq_getElem hk']
    rfl
  rw [e]
  simp [strValues, hk']
theorem item_ops {prog : Program} {w : World} {A : Around} {E : Value → Shared → Prop} {s : Shared} {h₀ : Heap} {L nm : Addr} {news : List (Addr × Obj)} {value slice : PySem.Expr} {l : List (Str × Tok)} {n : Nat} {x : Int} {u : Tok} {Q : Value → Shared → Prop}
    (N : News h₀ L s.heap news) (hm : (nm, listOf (strValues l).toArray n) ∈ news) (hl : l.map (·.1) = ops) (h : ∀ t, Q (.str (ops.getD (Int.fmod x 48).toNat Str.empty) t) s)
    (hs : subscripted slice false (.ref nm) (.int (Int.fmod x 48) u) = operate [.ref nm, .int (Int.fmod x 48) u] (getItem (.ref nm) (.int (Int.fmod x 48) u)) := by with_unfolding_all rfl) :
    wpAny (model prog w) A (subscriptTail value slice (.ref nm) (.int (Int.fmod x 48) u)) Q E s := by
  have hb := fmod_lt48 x
  obtain ⟨t, ht⟩ := ops_at hl (k := (Int.fmod x 48).toNat) (by omega)
  exact item_led N hm hb.1 (Int.lt_trans hb.2 (by decide)) ht (h t) hs
def JLights (c : Addr) (l : List (Str × Tok)) (ns : List Int) (news : List (Addr × Obj)) (i : Nat) (m : Str → Option Value) (nx : List (Addr × Obj)) : Prop :=
  ∃ oc v0 tl la vs k nm, nx = (c, oc) :: tl ∧ oc.data = .cell v0 ∧ (∀ p ∈ tl, p.1 ≠ c) ∧ m (Str.ofString "lights") = some (.ref la) ∧ m (Str.ofString "names") = some (.ref nm) ∧ (nm, listOf (strValues l).toArray 0) ∈ tl ∧ (la, listOf (List.toArray vs) k) ∈ tl ∧ All2 (LightIn tl) vs (fixedLights ++ (ns.take i).map lightOf) ∧ (∀ p ∈ news, p ∈ tl)
local macro_rules | `(tactic| walk_at "eval ListComp") => `(tactic| (k_here; (with_reducible show wpAny _ _ (eval (PySem.Expr.ListComp _ [⟨PySem.Expr.Name _ _, _, [], _⟩] _ _) _) _ _ _); k_dflt (refine ListComp_N (by k_asm) (by with_unfolding_all rfl) (by decide) (by rfl) (by decide) (by rfl) ?_)))
local macro_rules | `(tactic| k_mem) => `(tactic| first | (with_reducible assumption) | exact List.Mem.head _ | (refine' List.mem_cons_of_mem _ ?_; k_mem) | (refine' List.mem_append.mpr (Or.inl ?_); k_mem) | (refine' List.mem_append.mpr (Or.inr ?_); k_mem))
local macro_rules | `(tactic| k_all) => `(tactic| assumption)
local macro_rules | `(tactic| walk_at "subscriptTail") => `(tactic| (k_here; (with_reducible show wpAny _ _ (subscriptTail _ _ (Value.ref _) (Value.int (Int.fmod _ 48) _)) _ _ _); k_dflt (refine' item_ops ?k1 ?k2 ?k3 ?_ ?k7; (case k1 => k_asm); (case k2 => k_mem); (case k3 => assumption); (case k7 => with_unfolding_all rfl); k_whole); intro t9))
local macro_rules | `(tactic| walk_at "binaryOp Add ref ref") => `(tactic| (k_here; (with_reducible show wpAny _ _ (binaryOp _ (Value.ref _) (Value.ref _)) _ _ _); k_dflt (refine' add_led ?F ?N ?a ?b ?z ?_; (case F => k_asm); (case N => k_asm); (case a => k_mem); (case b => k_mem); (case z => assumption)); intro D' h' F' N' l1; (try k_lt l1); (try k_sweep)))
local macro_rules | `(tactic| walk_at "exec For Name Name cons nil") => `(tactic| (k_here; (with_reducible show wpAny _ _ (exec (Stmt.For _ _ _ [] _) _) _ _ _); k_dflt (refine For_invTF (by k_asm) ?_ (by intro _; rfl))))
local macro_rules | `(tactic| walk_at "pyIter ref") => `(tactic| (k_here; (with_reducible show wpAny _ _ (pyIter (Value.ref _)) (fun it s₂ => LoopAtT _ _ _ _ _ _ _ _ _ it s₂) _ _); refine Halt.out ?_))
local macro_rules | `(tactic| walk_at "call ref") => `(tactic| (k_here; (with_reducible show wpAny _ _ (call (Value.ref 59) _) _ _ _); k_dflt (refine' Tell.use (tell_ops _ _) ?k1 ?k2 ?k3 ?k4 ?k5 ?kK ?kd ?ku ?_; (case k1 => k_asm); (case k2 => k_asm); (case k3 => k_asm); (case k4 => k_asm); (case k5 => k_asm); (case kK => exact rfl); (case kd => ktr_room); (case ku => ktr_units); k_whole); intro r9 tl9 h9 tk9 F9 N9 l9 P9; (obtain ⟨D9, ls9, ⟨e9, e8⟩, ho9⟩ := P9); subst e9; subst e8; (have l8 := ord_at l9); (clear l9); (try k_lt l8); (try simp only [List.nil_append, List.cons_append] at N9); (try dsimp only); (try k_fold)))
set_option maxHeartbeats 8000000 in
theorem tell_lights (w : World) (a0 : Addr) (k0 : Nat) (vs : List Value) (ns : List Int) (news : List (Addr × Obj)) (h0 : (a0, listOf vs.toArray k0) ∈ news) (hI : IntsAre vs ns) (hlen : ns.length ≤ 63) :
    TellU w 15 64 [.ref a0] news (fun v led => ∃ la us k, v = .ref la ∧ (la, listOf (List.toArray us) k) ∈ led ∧ All2 (LightIn led) us (fixedLights ++ ns.map lightOf)) := by
  unfold TellU
  k_fill
  intro p loose mean mg mb dp un gd cn cs a ccd cl outer A₀ base h₀ L m s Q E B F X N T hk hd hu hret
  refine wpAny_call ?_
  k_dflt (refine' code_defC ?k1 ?k2 ?k3 ?k4 ?k5 ?kA ?kF ?kK ?k6 ?k7 ?k8 ?k9 ?kB ?kD ?_ ?c2 ?c3 ?c4; (case kA => exact rfl); (case kF => exact rfl); (case kK => assumption); (case k1 => k_asm); (case k2 => k_asm); (case k3 => k_asm); (case k4 => k_asm); (case k5 => k_asm); (case k6 => k_is); (case k7 => k_is); (case k8 => ktr_room); (case k9 => exact BindsTo.of_eq rfl); (case kB => exact rfl); (case kD => decide +kernel); (case c2 => exact rfl); (case c3 => exact rfl); (case c4 => exact rfl); k_whole)
  intro g' L' h' tk' cells' FG' F' N' Y' B' X' T' l1
  k_cells Y'
  (try simp only [List.cons_append, List.nil_append] at N')
  (try dsimp only)
  (try k_fold)
  k_steps
  obtain ⟨tl, N2, off2, sub2⟩ := led_front (c := L' + 1) (by assumption) (by k_mem)
  refine loop_led (JLights (L' + 1) _ ns news) rfl (by k_asm) N2 (List.mem_cons_of_mem _ (sub2 _ (by k_mem) (Nat.ne_of_lt (Nat.lt_succ_of_lt (l1 _ h0))))) ⟨_, _, tl, _, _, _, _, rfl, by assumption, off2, rfl, rfl, sub2 _ (by k_mem) (by k_ne), sub2 _ (by k_mem) (by k_ne), ?_, fun p hp => sub2 p (by k_mem) (Nat.ne_of_lt (Nat.lt_succ_of_lt (l1 p hp)))⟩ ?_ ?_
  · exact .cons (.mk (sub2 _ (by k_mem) (by k_ne)) (sub2 _ (by k_mem) (by k_ne))) (.cons (.mk (sub2 _ (by k_mem) (by k_ne)) (sub2 _ (by k_mem) (by k_ne))) (.cons (.mk (sub2 _ (by k_mem) (by k_ne)) (sub2 _ (by k_mem) (by k_ne))) (.cons (.mk (sub2 _ (by k_mem) (by k_ne)) (sub2 _ (by k_mem) (by k_ne))) (.cons (.mk (sub2 _ (by k_mem) (by k_ne)) (sub2 _ (by k_mem) (by k_ne))) .nil))))
  · rintro i v m₁ nx s₁ own I oI hv ⟨oc, v0, tl', la, ws, kk, nm, rfl, hoc, off', e1, e2, hn, hl, hA, hs⟩ hIo offI hown F1 N1
    obtain ⟨x, t, rfl, hx⟩ := hI.at i v (by simpa using hv)
    have N3 : News g' L' s₁.heap ((L' + 1, oc) :: (own ++ tl')) := led_sub N1 (by intro p hp; simp only [List.mem_append, List.mem_cons] at hp ⊢; grind)
    have off3 : ∀ p ∈ own ++ tl', p.1 ≠ L' + 1 := by
      intro p hp
      rcases List.mem_append.mp hp with hp | hp
      · rcases hown p hp with e | e
        · rw [e]; exact Ne.symm (offI _ (.head _))
        · rw [e]; exact Nat.ne_of_lt (Nat.lt_succ_of_lt (l1 _ h0))
      · exact off' p hp
    rw [map_two e1 e2] at F1
    have hn3 : (nm, listOf (strValues _).toArray 0) ∈ own ++ tl' := List.mem_append_right _ hn
    have hl3 : (la, listOf (List.toArray ws) kk) ∈ own ++ tl' := List.mem_append_right _ hl
    clear N1 N2
    refine wpAny_assign_Name ?_
    have hsz : ws.length + 1 ≤ sizeLine := by
      have := hA.length
      simp only [fixedLights, List.length_append, List.length_cons, List.length_nil, List.length_map, List.length_take] at this
      rw [sizeLine_eq]
      omega
    k_steps
    refine OneSrc.range (n := 3) (fun j y => ∃ t', y = .int (octOf x j) t') rfl (by k_asm) (by k_asm) (by assumption) (by decide) (by decide) (Nat.le_of_ble_eq_true rfl) ?_ ?_
    · intro j v C oC m₂ h tk led E' hj hP hoC hx2 F' N' offc subc
      obtain ⟨t9, rfl⟩ := hP
      have hc : ∃ oo tt, (L' + 1, oo) ∈ led ∧ oo.data = Data.cell (some (.int (wholeOf x) tt)) := ⟨_, _, subc _ (by k_mem), by assumption⟩
      obtain ⟨oo, tt, hc, hcd⟩ := hc
      have h3 : j = 0 ∨ j = 1 ∨ j = 2 := by omega
      rcases h3 with rfl | rfl | rfl
      · replace hx2 : m₂ (Str.ofString "k") = some (.int 0 t9) := hx2
        k_steps
        exact ⟨⟨_, rfl⟩, _, _, [], rfl, by k_asm, by k_asm⟩
      · replace hx2 : m₂ (Str.ofString "k") = some (.int 1 t9) := hx2
        k_steps
        exact ⟨⟨_, rfl⟩, _, _, [], rfl, by k_asm, by k_asm⟩
      · replace hx2 : m₂ (Str.ofString "k") = some (.int 2 t9) := hx2
        k_steps
        exact ⟨⟨_, rfl⟩, _, _, [], rfl, by k_asm, by k_asm⟩
    · intro D vs3 lt3 hlen3 hR3
      obtain ⟨va, vb, vc, rfl, ⟨ta, rfl⟩, ⟨tb, rfl⟩, ⟨tc, rfl⟩⟩ := three_of hlen3 hR3
      intro h' tk' F' N'
      (try dsimp only)
      have hID : @LT.lt Nat _ I D := lt3 _ (List.mem_cons_of_mem _ (List.mem_append_left _ hIo))
      have hcD : @LT.lt Nat _ (L' + 1) D := lt3 _ (.head _)
      have hcI := offI _ (.head _)
      k_steps
      refine ⟨rfl, _, _, _, _, rfl, by k_asm, shuffle4 (by assumption), ?_, ?_⟩
      · intro p hp
        simp only [List.mem_cons] at hp
        rcases hp with rfl | rfl | rfl | rfl | rfl | hp
        · exact hcI
        · k_ne
        · k_ne
        · k_ne
        · k_ne
        · exact offI p (.tail _ hp)
      · refine ⟨_, _, _, _, _, _, _, rfl, by assumption, ?_, rfl, rfl, List.mem_cons_of_mem _ (List.mem_cons_of_mem _ (List.mem_cons_of_mem _ (List.mem_cons_of_mem _ hn))), .head _, ?_, fun p hp => List.mem_cons_of_mem _ (List.mem_cons_of_mem _ (List.mem_cons_of_mem _ (List.mem_cons_of_mem _ (hs p hp))))⟩
        · intro p hp
          simp only [List.mem_cons] at hp
          rcases hp with rfl | rfl | rfl | rfl | hp
          · k_ne
          · k_ne
          · k_ne
          · k_ne
          · exact off' p hp
        · have et : (ns.take (i + 1)).map lightOf = (ns.take i).map lightOf ++ [lightOf x] := by rw [List.take_add_one, hx]; simp
          rw [et, ← List.append_assoc]
          exact (hA.mono fun _ _ => LightIn.mono fun p hp => List.mem_cons_of_mem _ (List.mem_cons_of_mem _ (List.mem_cons_of_mem _ (List.mem_cons_of_mem _ hp)))).snoc (LightIn.mk (.tail _ (.tail _ (.head _))) (.tail _ (.tail _ (.tail _ (.head _)))))
  · rintro m₁ nx h tk ⟨oc, v0, tl', la, ws, kk, nm, rfl, hoc, off', e1, e2, hn, hl, hA, hs⟩ F1 N1
    rw [map_two e1 e2] at F1
    have N3 := led_tail N1
    clear N1 N2
    have en : ns.take (List.toArray vs).size = ns := List.take_of_length_le (by rw [List.size_toArray, hI.length]; exact Nat.le_refl _)
    rw [en] at hA
    k_steps
    exact hret _ tl' _ _ (by k_asm) (by k_asm) hs ⟨_, _, _, rfl, hl, hA⟩
end Mine
end
section
open PySem PySem.W PyProof.Rows
set_option Elab.async false
set_option maxRecDepth 100000
namespace Mine
open PySem PySem.W PySem.Spec PySem.Calls PyProof.Rows PyProof.Rows.LCg
/-- an operator's number -/
def tokNum (x : Str) : Int := ((ops.idxOf x : Nat) : Int) + 7
set_option maxHeartbeats 8000000 in
theorem tok_at (P : Params) {x : Str} (hx : x ∈ ops) : ∃ t, nsIn (hd.heap_39 P) 29 x = some (some (.int (tokNum x) t)) := by
  simp only [ops, List.map_cons, List.map_nil, List.mem_cons, List.not_mem_nil, or_false] at hx
  repeat' (rcases hx with rfl | hx)
  all_goals first | exact ⟨_, rfl⟩ | (subst hx; exact ⟨_, rfl⟩)
set_option maxHeartbeats 8000000 in
theorem item_tok {prog : Program} {w : World} {A : Around} {E : Value → Shared → Prop} {s : Shared} {h₀ : Heap} {L : Addr} {m : Str → Option Value} {value slice : PySem.Expr} {x : Str} {t : Tok} {Q : Value → Shared → Prop}
    (F : Fr h₀ L s.heap m) (X : (hd.heap_39 w.params).In h₀) (hx : x ∈ ops) (h : ∀ t', Q (.int (tokNum x) t') { s with toks := s.toks + 1 })
    (hs : subscripted slice false (.ref 29) (.str x t) = operate [.ref 29, .str x t] (getItem (.ref 29) (.str x t)) := by with_unfolding_all rfl) :
    wpAny (model prog w) A (subscriptTail value slice (.ref 29) (.str x t)) Q E s := by
  obtain ⟨t', e⟩ := tok_at w.params hx
  refine topItem_K F X (by rfl) ?_ e (h t') hs
  k_keys
/-- an octet's 255th part, as / rounds it -/
def part255 (o : Int) : UInt64 := Float64.ofFrac (decide (o < 0) != decide ((255 : Int) < 0)) o.natAbs (255 : Int).natAbs
theorem part_fin : ∀ n : Nat, n < 256 → Float64.isInf (Float64.ofFrac false n 255) = false := by decide +kernel
theorem part_of {o : Int} (h : 0 ≤ o ∧ o ≤ 255) : part255 o = Float64.ofFrac false o.natAbs 255 := by
  unfold part255
  have : decide (o < 0) = false := by simp; omega
  rw [this]
  rfl
section
variable {prog : Program} {w : World} {A : Around} {E : Value → Shared → Prop} {s : Shared} {Q : Value → Shared → Prop} {t u : Tok}
theorem div255 {o : Int} (ho : 0 ≤ o ∧ o ≤ 255) (h : Q (.float (part255 o) s.toks) { s with toks := s.toks + 1 }) : wpAny (model prog w) A (binaryOp .Div (.int o t) (.int 255 u)) Q E s := by
  refine AutoIntOps.truediv_2 (by decide) ?_ h
  show ¬ Float64.isInf (part255 o) = true
  rw [part_of ho, part_fin _ (by omega)]
  decide
theorem tok_bounds {x : Str} (hx : x ∈ ops) : -23 ≤ tokNum x - 30 ∧ tokNum x - 30 ≤ 24 := by
  have h : ops.idxOf x < ops.length := List.idxOf_lt_length_iff.mpr hx
  rw [ops_length] at h
  unfold tokNum
  omega
theorem mul_wt {x : Str} {a : UInt64} (hx : x ∈ ops) (h : Q (.float (Float64.mul (Float64.ofInt (tokNum x - 30)) a) s.toks) { s with toks := s.toks + 1 }) : wpAny (model prog w) A (binaryOp .Mult (.int (tokNum x - 30) u) (.float a t)) Q E s := by
  have hb := tok_bounds hx
  refine mul_if_fits (Nat.lt_of_le_of_lt (m := 30) (by omega) ?_) h
  exact Nat.lt_of_lt_of_le (by decide : 30 < 2 ^ 10) (Nat.pow_le_pow_right (by decide) (by decide))
variable {h₀ : Heap} {L l : Addr} {news : List (Addr × Obj)} {value slice : PySem.Expr} {a b c : Value} {n : Nat}
theorem item3_0 (N : News h₀ L s.heap news) (hm : (l, listOf #[a, b, c] n) ∈ news) (h : Q a s) (hs : subscripted slice false (.ref l) (.int 0 u) = operate [.ref l, .int 0 u] (getItem (.ref l) (.int 0 u)) := by with_unfolding_all rfl) :
    wpAny (model prog w) A (subscriptTail value slice (.ref l) (.int 0 u)) Q E s := item_led N hm (by decide) (by decide) rfl h hs
theorem item3_1 (N : News h₀ L s.heap news) (hm : (l, listOf #[a, b, c] n) ∈ news) (h : Q b s) (hs : subscripted slice false (.ref l) (.int 1 u) = operate [.ref l, .int 1 u] (getItem (.ref l) (.int 1 u)) := by with_unfolding_all rfl) :
    wpAny (model prog w) A (subscriptTail value slice (.ref l) (.int 1 u)) Q E s := item_led N hm (by decide) (by decide) rfl h hs
theorem item3_2 (N : News h₀ L s.heap news) (hm : (l, listOf #[a, b, c] n) ∈ news) (h : Q c s) (hs : subscripted slice false (.ref l) (.int 2 u) = operate [.ref l, .int 2 u] (getItem (.ref l) (.int 2 u)) := by with_unfolding_all rfl) :
    wpAny (model prog w) A (subscriptTail value slice (.ref l) (.int 2 u)) Q E s := item_led N hm (by decide) (by decide) rfl h hs
end
theorem ops_pos : ∀ x ∈ ops, 1 ≤ x.length := by decide +kernel
theorem last_of {prog : Program} {w : World} {A : Around} {E : Value → Shared → Prop} {s : Shared} {Q : Value → Shared → Prop} {t u : Tok} {value slice : PySem.Expr} {x : Str} (hx : x ∈ ops) (h : Q (.str (Txt.item x (-1)) s.toks) { s with toks := s.toks + 1 })
    (hs : subscripted slice false (.str x t) (.int (-1) u) = operate [.str x t, .int (-1) u] (getItem (.str x t) (.int (-1) u)) := by with_unfolding_all rfl)
    (ht : ∀ r, letTemporaryGo value (.str x t) r = pure () := by intro _; with_unfolding_all rfl) :
    wpAny (model prog w) A (subscriptTail value slice (.str x t) (.int (-1) u)) Q E s := by
  have hl := ops_pos x hx
  exact item_str (by decide) (by omega) (by omega) (fun _ => h) hs ht
/-- an operator that ends with = -/
def setting (x : Str) : Bool := Txt.item x (-1) == Str.ofString "="
end Mine
end
section
open PySem PySem.W PyProof.Rows
set_option Elab.async false
set_option maxRecDepth 100000
namespace Mine
theorem fresh_C7 : True := by
  w_top off
  exact trivial
open PySem PySem.W PySem.Spec PySem.Calls PyProof.Rows PyProof.Rows.LCg
structure Tri where
  y : UInt64
  i : UInt64
  q : UInt64
inductive ToldIn (news : List (Addr × Obj)) : Value → Tri × Tri → Prop
  | mk {a b c : Addr} {n1 n2 n3 : Nat} {t1 t2 t3 u1 u2 u3 : Tok} {s r : Tri} : (a, listOf #[.ref b, .ref c] n1) ∈ news → (b, listOf #[.float s.y t1, .float s.i t2, .float s.q t3] n2) ∈ news → (c, listOf #[.float r.y u1, .float r.i u2, .float r.q u3] n3) ∈ news → ToldIn news (.ref a) (s, r)
theorem ToldIn.mono {news news' : List (Addr × Obj)} (hs : ∀ p ∈ news, p ∈ news') {v : Value} {d : Tri × Tri} (h : ToldIn news v d) : ToldIn news' v d := by
  cases h with
  | mk h1 h2 h3 => exact .mk (hs _ h1) (hs _ h2) (hs _ h3)
theorem map_four {m : Str → Option Value} {a b c d : Str} {va vb vc vd : Value} (ha : m a = some va) (hb : m b = some vb) (hc : m c = some vc) (hd : m d = some vd) : m = fun y => if y = a then some va else if y = b then some vb else if y = c then some vc else if y = d then some vd else m y := by
  funext y
  by_cases e : y = a
  · subst e; simp [ha]
  · by_cases e2 : y = b
    · subst e2; simp [e, hb]
    · by_cases e3 : y = c
      · subst e3; simp [e, e2, hc]
      · by_cases e4 : y = d
        · subst e4; simp [e, e2, e3, hd]
        · simp [e, e2, e3, e4]
/- the desk, light by light -/
def stepY (s : Tri) (l : Light) : Tri := ⟨Float64.add s.y (Float64.mul (Float64.ofInt (tokNum l.word - 30)) (lumaF (part255 l.r) (part255 l.g) (part255 l.b))), Float64.add s.i (Float64.mul (Float64.ofInt (tokNum l.word - 30)) (warmF (part255 l.r) (part255 l.g) (part255 l.b))), Float64.add s.q (Float64.mul (Float64.ofInt (tokNum l.word - 30)) (coolF (part255 l.r) (part255 l.g) (part255 l.b)))⟩
def scr (s : Tri) : Tri := ⟨clip (redF s.y s.i s.q), clip (greenF s.y s.i s.q), clip (blueF s.y s.i s.q)⟩
def backY (r : Tri) : Tri := ⟨lumaF r.y r.i r.q, warmF r.y r.i r.q, coolF r.y r.i r.q⟩
def nextY (s : Tri) (l : Light) : Tri := if setting l.word = true then backY (scr (stepY s l)) else stepY s l
def deskF (st : Tri × List (Tri × Tri)) (l : Light) : Tri × List (Tri × Tri) := (nextY st.1 l, st.2 ++ [(stepY st.1 l, scr (stepY st.1 l))])
def deskOf (ls : List Light) : Tri × List (Tri × Tri) := ls.foldl deskF (⟨0, 0, 0⟩, [])
theorem deskF_set {s : Tri} {told : List (Tri × Tri)} {l : Light} (h : setting l.word = true) : deskF (s, told) l = (backY (scr (stepY s l)), told ++ [(stepY s l, scr (stepY s l))]) := Prod.ext (if_pos h) rfl
theorem deskF_not {s : Tri} {told : List (Tri × Tri)} {l : Light} (h : setting l.word = false) : deskF (s, told) l = (stepY s l, told ++ [(stepY s l, scr (stepY s l))]) := Prod.ext (if_neg (by rw [h]; decide)) rfl
theorem deskOf_snoc (ls : List Light) (l : Light) : deskOf (ls ++ [l]) = deskF (deskOf ls) l := by unfold deskOf; rw [List.foldl_append]; rfl
theorem deskOf_take {ls : List Light} {i : Nat} {l : Light} (h : ls[i]? = some l) : deskOf (ls.take (i + 1)) = deskF (deskOf (ls.take i)) l := by
  rw [List.take_add_one, h]
  exact deskOf_snoc _ _
theorem deskOf_len (ls : List Light) : (deskOf ls).2.length = ls.length := by
  suffices h : ∀ (ls : List Light) st, (ls.foldl deskF st).2.length = st.2.length + ls.length by
    have := h ls (⟨0, 0, 0⟩, [])
    simpa [deskOf] using this
  intro ls
  induction ls with
  | nil => intro st; rfl
  | cons l r ih => intro st; rw [List.foldl_cons, ih]; simp [deskF]; omega
theorem shuffle9 {h₀ h : Heap} {L : Addr} {x1 x2 x3 x4 x5 x6 x7 x8 x9 : Addr × Obj} {own tl : List (Addr × Obj)} (N : News h₀ L h (x1 :: x2 :: x3 :: x4 :: x5 :: x6 :: x7 :: x8 :: x9 :: (own ++ tl))) : News h₀ L h (own ++ (x1 :: x2 :: x3 :: x4 :: x5 :: x6 :: x7 :: x8 :: x9 :: tl)) :=
  led_sub N (by intro p hp; simp only [List.mem_append, List.mem_cons] at hp ⊢; grind)
theorem shuffle8 {h₀ h : Heap} {L : Addr} {x1 x2 x3 x4 x5 x6 x7 x8 : Addr × Obj} {own tl : List (Addr × Obj)} (N : News h₀ L h (x1 :: x2 :: x3 :: x4 :: x5 :: x6 :: x7 :: x8 :: (own ++ tl))) : News h₀ L h (own ++ (x1 :: x2 :: x3 :: x4 :: x5 :: x6 :: x7 :: x8 :: tl)) :=
  led_sub N (by intro p hp; simp only [List.mem_append, List.mem_cons] at hp ⊢; grind)
theorem sub9 {x1 x2 x3 x4 x5 x6 x7 x8 x9 : Addr × Obj} {tl : List (Addr × Obj)} : ∀ p ∈ tl, p ∈ (x1 :: x2 :: x3 :: x4 :: x5 :: x6 :: x7 :: x8 :: x9 :: tl) := by intro p hp; simp only [List.mem_cons]; grind
theorem sub8 {x1 x2 x3 x4 x5 x6 x7 x8 : Addr × Obj} {tl : List (Addr × Obj)} : ∀ p ∈ tl, p ∈ (x1 :: x2 :: x3 :: x4 :: x5 :: x6 :: x7 :: x8 :: tl) := by intro p hp; simp only [List.mem_cons]; grind
def JDesk (ls : List Light) (news : List (Addr × Obj)) (i : Nat) (m : Str → Option Value) (nx : List (Addr × Obj)) : Prop :=
  ∃ y iq q told t1 t2 t3 ta vs k, deskOf (ls.take i) = (⟨y, iq, q⟩, told) ∧ m (Str.ofString "y") = some (.float y t1) ∧ m (Str.ofString "i") = some (.float iq t2) ∧ m (Str.ofString "q") = some (.float q t3) ∧ m (Str.ofString "told") = some (.ref ta) ∧ (ta, listOf (List.toArray vs) k) ∈ nx ∧ All2 (ToldIn nx) vs told ∧ (∀ p ∈ news, p ∈ nx)
local macro_rules | `(tactic| k_mem) => `(tactic| first | (with_reducible assumption) | exact List.Mem.head _ | (refine' List.mem_cons_of_mem _ ?_; k_mem) | (refine' List.mem_append.mpr (Or.inl ?_); k_mem) | (refine' List.mem_append.mpr (Or.inr ?_); k_mem))
local macro_rules | `(tactic| walk_at "exec For Tuple Name cons nil") => `(tactic| (k_here; (with_reducible show wpAny _ _ (exec (Stmt.For _ _ _ [] _) _) _ _ _); k_dflt (refine For_invTF (by k_asm) ?_ (by intro _; rfl))))
local macro_rules | `(tactic| walk_at "pyIter ref") => `(tactic| (k_here; (with_reducible show wpAny _ _ (pyIter (Value.ref _)) (fun it s₂ => LoopAtT _ _ _ _ _ _ _ _ _ it s₂) _ _); refine Halt.out ?_))
local macro_rules | `(tactic| walk_at "binaryOp Add ref ref") => `(tactic| (k_here; (with_reducible show wpAny _ _ (binaryOp _ (Value.ref _) (Value.ref _)) _ _ _); k_dflt (refine' add_led ?F ?N ?a ?b ?z ?_; (case F => k_asm); (case N => k_asm); (case a => k_mem); (case b => k_mem); (case z => assumption)); intro D' h' F' N' l1; (try k_lt l1); (try k_sweep)))
local macro_rules | `(tactic| walk_at "subscriptTail") => `(tactic| (k_here; (with_reducible show wpAny _ _ (subscriptTail _ _ (Value.ref _) (Value.int 0 _)) _ _ _); k_dflt (refine' item3_0 ?k1 ?k2 ?_ ?k7; (case k1 => k_asm); (case k2 => k_mem); (case k7 => with_unfolding_all rfl); k_whole)))
local macro_rules | `(tactic| walk_at "subscriptTail") => `(tactic| (k_here; (with_reducible show wpAny _ _ (subscriptTail _ _ (Value.ref _) (Value.int 1 _)) _ _ _); k_dflt (refine' item3_1 ?k1 ?k2 ?_ ?k7; (case k1 => k_asm); (case k2 => k_mem); (case k7 => with_unfolding_all rfl); k_whole)))
local macro_rules | `(tactic| walk_at "subscriptTail") => `(tactic| (k_here; (with_reducible show wpAny _ _ (subscriptTail _ _ (Value.ref _) (Value.int 2 _)) _ _ _); k_dflt (refine' item3_2 ?k1 ?k2 ?_ ?k7; (case k1 => k_asm); (case k2 => k_mem); (case k7 => with_unfolding_all rfl); k_whole)))
local macro_rules | `(tactic| walk_at "binaryOp Div int int") => `(tactic| (k_here; k_dflt (refine' div255 ?k1 ?_; (case k1 => assumption); k_whole)))
local macro_rules | `(tactic| walk_at "binaryOp Mult int float") => `(tactic| (k_here; (with_reducible show wpAny _ _ (binaryOp _ (Value.int (tokNum _ - 30) _) (Value.float _ _)) _ _ _); k_dflt (refine' mul_wt ?k1 ?_; (case k1 => assumption); k_whole)))
local macro_rules | `(tactic| walk_at "call ref") => `(tactic| (k_here; (with_reducible show wpAny _ _ (call (Value.ref 21) [Value.float _ _, Value.float _ _, Value.float _ _]) _ _ _); k_dflt (refine' Tell.use (tell_yiq _ _ _ _ _ _ _ _) ?k1 ?k2 ?k3 ?k4 ?k5 ?kK ?kd ?ku ?_; (case k1 => k_asm); (case k2 => k_asm); (case k3 => k_asm); (case k4 => k_asm); (case k5 => k_asm); (case kK => exact rfl); (case kd => ktr_room); (case ku => ktr_units); k_whole); intro r9 tl9 h9 tk9 F9 N9 l9 P9; (obtain ⟨D9, u1, u2, u3, e9, e8⟩ := P9); subst e9; subst e8; (have l8 := ord_at l9); (clear l9); (try k_lt l8); (try simp only [List.nil_append, List.cons_append] at N9); (try dsimp only); (try k_fold)))
local macro_rules | `(tactic| walk_at "call ref") => `(tactic| (k_here; (with_reducible show wpAny _ _ (call (Value.ref 28) [Value.float _ _, Value.float _ _, Value.float _ _]) _ _ _); k_dflt (refine' Tell.use (tell_rgb _ _ _ _ _ _ _ _) ?k1 ?k2 ?k3 ?k4 ?k5 ?kK ?kd ?ku ?_; (case k1 => k_asm); (case k2 => k_asm); (case k3 => k_asm); (case k4 => k_asm); (case k5 => k_asm); (case kK => exact rfl); (case kd => ktr_room); (case ku => ktr_units); k_whole); intro r9 tl9 h9 tk9 F9 N9 l9 P9; (obtain ⟨D9, u1, u2, u3, e9, e8⟩ := P9); subst e9; subst e8; (have l8 := ord_at l9); (clear l9); (try k_lt l8); (try simp only [List.nil_append, List.cons_append] at N9); (try dsimp only); (try k_fold)))
local macro_rules | `(tactic| walk_at "subscriptTail Name Name ref str") => `(tactic| (k_here; (with_reducible show wpAny _ _ (subscriptTail _ _ (Value.ref 29) (Value.str _ _)) _ _ _); k_dflt (refine' item_tok ?k1 ?k2 ?k3 ?_ ?k7; (case k1 => k_asm); (case k2 => k_asm); (case k3 => assumption); (case k7 => with_unfolding_all rfl); k_whole); intro t9))
local macro_rules | `(tactic| walk_at "subscriptTail Name UnaryOp str int") => `(tactic| (k_here; k_dflt (refine' last_of ?k1 ?_ ?k2 ?k3; (case k1 => assumption); (case k2 => with_unfolding_all rfl); (case k3 => (intro _; with_unfolding_all rfl)); k_whole)))
set_option maxHeartbeats 8000000 in
theorem tell_desk (w : World) (a0 : Addr) (k0 : Nat) (us : List Value) (ls : List Light) (news : List (Addr × Obj)) (h0 : (a0, listOf us.toArray k0) ∈ news) (hA : All2 (LightIn news) us ls) (hlen : ls.length ≤ 100) (hw : ∀ l ∈ ls, l.word ∈ ops ∧ (0 ≤ l.r ∧ l.r ≤ 255) ∧ (0 ≤ l.g ∧ l.g ≤ 255) ∧ (0 ≤ l.b ∧ l.b ≤ 255)) :
    TellU w 15 71 [.ref a0] news (fun v led => ∃ ta vs k, v = .ref ta ∧ (ta, listOf (List.toArray vs) k) ∈ led ∧ All2 (ToldIn led) vs (deskOf ls).2) := by
  unfold TellU
  k_fill
  intro p loose mean mg mb dp un gd cn cs a ccd cl outer A₀ base h₀ L m s Q E B F X N T hk hd hu hret
  refine wpAny_call ?_
  k_dflt ktr_enter
  k_steps
  refine loop_led (JDesk ls news) rfl (by k_asm) (by k_asm) (by k_mem) ⟨_, _, _, _, _, _, _, _, [], _, rfl, rfl, rfl, rfl, rfl, by k_mem, .nil, fun p hp => by k_mem⟩ ?_ ?_
  · rintro i v m₁ nx s₁ own I oI hv ⟨y, iq, q, told, t1, t2, t3, ta, vs, k, hst, e1, e2, e3, e4, ht, hT, hs⟩ hIo offI hown F1 N1
    rw [map_four e1 e2 e3 e4] at F1
    obtain ⟨lt, hlt, hL⟩ := hA.get (i := i) (a := v) (by simpa using hv)
    have hstep := deskOf_take hlt
    rw [hst] at hstep
    obtain ⟨hop, hr, hg, hb⟩ := hw _ (List.mem_of_getElem? hlt)
    have hsz : vs.length + 1 ≤ sizeLine := by
      have h1 := hT.length
      have h2 := deskOf_len (ls.take i)
      rw [hst] at h2
      simp only [List.length_take] at h2
      rw [sizeLine_eq]
      omega
    cases hL with
    | mk hl1 hl2 =>
      have hl1' := List.mem_append_right own (hs _ hl1)
      have hl2' := List.mem_append_right own (hs _ hl2)
      have ht' := List.mem_append_right own ht
      dsimp only at hop hr hg hb
      k_steps
      · rename ∀ p ∈ own ++ nx, p.1 < _ => hlt9
        have hID := ltN (hlt9 _ (List.mem_append_left _ hIo))
        refine ⟨rfl, _, _, _, _, rfl, by k_asm, shuffle9 (by assumption), ?_, ?_⟩
        · intro p hp
          simp only [List.mem_cons] at hp
          rcases hp with rfl | rfl | rfl | rfl | rfl | rfl | rfl | rfl | rfl | hp
          all_goals first | exact offI p hp | k_ne
        · rename (Txt.item _ (-1) == Str.ofString "=") = true => hset
          have hn := hstep.trans (deskF_set hset)
          refine ⟨_, _, _, _, _, _, _, _, _, _, hn, rfl, rfl, rfl, rfl, .tail _ (.head _), (hT.mono fun _ _ => ToldIn.mono sub9).snoc (.mk (.tail _ (.tail _ (.tail _ (.head _)))) (.tail _ (.tail _ (.tail _ (.tail _ (.tail _ (.head _)))))) (.tail _ (.tail _ (.tail _ (.tail _ (.head _)))))), fun p hp => sub9 p (hs p hp)⟩
      · rename ∀ p ∈ own ++ nx, p.1 < _ => hlt9
        have hID := ltN (hlt9 _ (List.mem_append_left _ hIo))
        refine ⟨rfl, _, _, _, _, rfl, by k_asm, shuffle8 (by assumption), ?_, ?_⟩
        · intro p hp
          simp only [List.mem_cons] at hp
          rcases hp with rfl | rfl | rfl | rfl | rfl | rfl | rfl | rfl | hp
          all_goals first | exact offI p hp | k_ne
        · rename (Txt.item _ (-1) == Str.ofString "=") = false => hset
          have hn := hstep.trans (deskF_not hset)
          refine ⟨_, _, _, _, _, _, _, _, _, _, hn, rfl, rfl, rfl, rfl, .head _, (hT.mono fun _ _ => ToldIn.mono sub8).snoc (.mk (.tail _ (.tail _ (.head _))) (.tail _ (.tail _ (.tail _ (.tail _ (.head _))))) (.tail _ (.tail _ (.tail _ (.head _))))), fun p hp => sub8 p (hs p hp)⟩
  · rintro m₁ nx h tk ⟨y, iq, q, told, t1, t2, t3, ta, vs, k, hst, e1, e2, e3, e4, ht, hT, hs⟩ F1 N1
    rw [map_four e1 e2 e3 e4] at F1
    have en : ls.take (List.toArray us).size = ls := List.take_of_length_le (by rw [List.size_toArray, hA.length]; exact Nat.le_refl _)
    rw [en] at hst
    k_steps
    exact hret _ nx _ _ (by k_asm) (by k_asm) hs ⟨_, _, _, rfl, ht, by rw [hst]; exact hT⟩
end Mine
end
section
open PySem PySem.W PyProof.Rows
set_option Elab.async false
set_option maxRecDepth 100000
namespace Mine
open PySem PySem.W PySem.Spec PySem.Calls PyProof.Rows PyProof.Rows.LCg
theorem strs_are : ∀ l : List (Str × Tok), StrsAre (strValues l) (l.map (·.1))
  | [] => .nil
  | p :: r => .cons p.1 p.2 (strs_are r)
theorem strOf_at (x : Str) : ∀ (l : List (Str × Tok)) (j : Nat) (h : j < (strValues l).toArray.size) (h' : j < (l.map (·.1)).length), isStrOf x (strValues l).toArray[j] = ((l.map (·.1))[j] == x) := by
  intro l j h h'
  simp [strValues, isStrOf]
theorem ne_before {x : Str} : ∀ {ns : List Str} {j : Nat}, j < ns.idxOf x → ∀ h : j < ns.length, (ns[j] == x) = false
  | [], _, _, h => absurd h (Nat.not_lt_zero _)
  | n :: r, 0, h, _ => by
    cases e : n == x with
    | false => exact e
    | true => rw [List.idxOf_cons, e] at h; exact absurd h (Nat.not_lt_zero _)
  | n :: r, j + 1, h, h2 => by
    cases e : n == x with
    | true => rw [List.idxOf_cons, e] at h; exact absurd h (Nat.not_lt_zero _)
    | false =>
      have h' : j < r.idxOf x := by
        rw [List.idxOf_cons, e] at h
        exact Nat.lt_of_succ_lt_succ h
      exact ne_before h' (Nat.lt_of_succ_lt_succ h2)
theorem index_ops {prog : Program} {w : World} {A : Around} {E : Value → Shared → Prop} {s : Shared} {h₀ : Heap} {L nm : Addr} {news : List (Addr × Obj)} {l : List (Str × Tok)} {n : Nat} {x : Str} {t : Tok} {Q : Value → Shared → Prop}
    (N : News h₀ L s.heap news) (hm : (nm, listOf (strValues l).toArray n) ∈ news) (hl : l.map (·.1) = ops) (hx : x ∈ ops) (h : Q (.int (ops.idxOf x : Nat) s.toks) { s with toks := s.toks + 1 }) :
    wpAny (model prog w) A (call (.builtin "list.index") [.ref nm, .str x t]) Q E s := by
  have ho := (N _ hm).1
  have hj : ops.idxOf x < ops.length := List.idxOf_lt_length_iff.mpr hx
  have hlen : (strValues l).length = ops.length := by rw [← hl, List.length_map]; simp [strValues]
  have h48 := ops_length
  refine call_meets PySem.F.slot_list_index ⟨_, ho, rfl⟩ PySem.F.entry_list_index (PySem.F.args_list_index_2 _ _)
    (SeqAt.list_indexAt nm (strValues l).toArray n none #[] (.str x t) (isStrOf x) (ops.idxOf x) (by simpa [hlen] using hj) (by omega) ?_ ?_) ⟨ho, fun y hy => (eq_isStrOf x t (strs_are l) y (by simpa using hy)).at _ _, h⟩
  · rw [strOf_at x l _ _ (by rw [hl]; exact hj)]
    have e : (l.map (·.1))[ops.idxOf x]'(by rw [hl]; exact hj) = ops[ops.idxOf x] := by simp only [hl]
    rw [e, List.getElem_idxOf hj]
    simp
  · intro j hjs hlt
    have hj' : j < ops.length := by omega
    rw [strOf_at x l _ _ (by rw [hl]; exact hj')]
    have e : (l.map (·.1))[j]'(by rw [hl]; exact hj') = ops[j] := by simp only [hl]
    rw [e]
    exact ne_before hlt hj'
end Mine
end
section
open PySem PySem.W PyProof.Rows
set_option Elab.async false
set_option maxRecDepth 100000
namespace Mine
theorem fresh_C8 : True := by
  w_top off
  exact trivial
open PySem PySem.W PySem.Spec PySem.Calls PyProof.Rows PyProof.Rows.LCg
structure Sum3 where
  r : Int
  g : Int
  b : Int
inductive SumIn (news : List (Addr × Obj)) : Value → Sum3 → Prop
  | mk {a : Addr} {n : Nat} {t1 t2 t3 : Tok} {s : Sum3} : (a, listOf #[.int s.r t1, .int s.g t2, .int s.b t3] n) ∈ news → SumIn news (.ref a) s
theorem SumIn.mono {news news' : List (Addr × Obj)} (hs : ∀ p ∈ news, p ∈ news') {v : Value} {d : Sum3} (h : SumIn news v d) : SumIn news' v d := by
  cases h with
  | mk h1 => exact .mk (hs _ h1)
def wtOf (x : Str) : Int := ((ops.idxOf x : Nat) : Int) - 23
def stepS (s : Sum3) (l : Light) : Sum3 := ⟨s.r + wtOf l.word * l.r, s.g + wtOf l.word * l.g, s.b + wtOf l.word * l.b⟩
def clampI (x : Int) : Int := min 255 (max 0 x)
def nextS (s : Sum3) (l : Light) : Sum3 := if setting l.word = true then ⟨clampI (stepS s l).r, clampI (stepS s l).g, clampI (stepS s l).b⟩ else stepS s l
def sumF (st : Sum3 × List Sum3) (l : Light) : Sum3 × List Sum3 := (nextS st.1 l, st.2 ++ [stepS st.1 l])
def sumsOf (ls : List Light) : Sum3 × List Sum3 := ls.foldl sumF (⟨0, 0, 0⟩, [])
theorem sumF_set {s : Sum3} {due : List Sum3} {l : Light} (h : setting l.word = true) : sumF (s, due) l = (⟨clampI (stepS s l).r, clampI (stepS s l).g, clampI (stepS s l).b⟩, due ++ [stepS s l]) := Prod.ext (if_pos h) rfl
theorem sumF_not {s : Sum3} {due : List Sum3} {l : Light} (h : setting l.word = false) : sumF (s, due) l = (stepS s l, due ++ [stepS s l]) := Prod.ext (if_neg (by rw [h]; decide)) rfl
theorem sumsOf_take {ls : List Light} {i : Nat} {l : Light} (h : ls[i]? = some l) : sumsOf (ls.take (i + 1)) = sumF (sumsOf (ls.take i)) l := by
  rw [List.take_add_one, h]
  unfold sumsOf; rw [List.foldl_append]; rfl
theorem sumsOf_len (ls : List Light) : (sumsOf ls).2.length = ls.length := by
  suffices h : ∀ (ls : List Light) st, (ls.foldl sumF st).2.length = st.2.length + ls.length by
    have := h ls (⟨0, 0, 0⟩, [])
    simpa [sumsOf] using this
  intro ls
  induction ls with
  | nil => intro st; rfl
  | cons l r ih => intro st; rw [List.foldl_cons, ih]; simp [sumF]; omega
theorem mul_idx {prog : Program} {w : World} {A : Around} {E : Value → Shared → Prop} {s : Shared} {Q : Value → Shared → Prop} {t u : Tok} {x : Str} {b : Int} (hx : x ∈ ops) (h : Q (.int ((((ops.idxOf x : Nat) : Int) - 23) * b) s.toks) { s with toks := s.toks + 1 }) :
    wpAny (model prog w) A (binaryOp .Mult (.int (((ops.idxOf x : Nat) : Int) - 23) t) (.int b u)) Q E s := by
  have hj : ops.idxOf x < ops.length := List.idxOf_lt_length_iff.mpr hx
  have h48 := ops_length
  exact mul_int h (IntMulOk.of_left (intBits_le_64 (by omega) (by omega)))
theorem shuffle3 {h₀ h : Heap} {L : Addr} {x1 x2 x3 c : Addr × Obj} {own tl : List (Addr × Obj)} (N : News h₀ L h (x1 :: x2 :: x3 :: c :: (own ++ tl))) : News h₀ L h (own ++ (c :: x1 :: x2 :: x3 :: tl)) :=
  led_sub N (by intro p hp; simp only [List.mem_append, List.mem_cons] at hp ⊢; grind)
theorem sub3 {x1 x2 x3 : Addr × Obj} {tl : List (Addr × Obj)} : ∀ p ∈ tl, p ∈ (x1 :: x2 :: x3 :: tl) := by intro p hp; simp only [List.mem_cons]; grind
theorem sub4 {x1 x2 x3 x4 : Addr × Obj} {tl : List (Addr × Obj)} : ∀ p ∈ tl, p ∈ (x1 :: x2 :: x3 :: x4 :: tl) := by intro p hp; simp only [List.mem_cons]; grind
theorem clamp_if (x : Int) : (if (if x > 0 then x else 0) < 255 then (if x > 0 then x else 0) else 255) = clampI x := by
  unfold clampI
  by_cases h : x > 0
  · simp only [h, if_true]
    by_cases h2 : x < 255
    · simp only [h2, if_true]; omega
    · simp only [h2, if_false]; omega
  · simp only [h, if_false]
    omega
def pickS (s : Sum3) : Nat → Int
  | 0 => s.r
  | 1 => s.g
  | _ => s.b
def JSums (c cN : Addr) (l : List (Str × Tok)) (ls : List Light) (news : List (Addr × Obj)) (i : Nat) (m : Str → Option Value) (nx : List (Addr × Obj)) : Prop :=
  ∃ oc v0 tl oN nm sa da S due t1 t2 t3 n vs k, nx = (c, oc) :: tl ∧ oc.data = .cell v0 ∧ (∀ p ∈ tl, p.1 ≠ c) ∧ (cN, oN) ∈ tl ∧ oN.data = Data.cell (some (.ref nm)) ∧ (nm, listOf (strValues l).toArray 0) ∈ tl ∧ m (Str.ofString "sums") = some (.ref sa) ∧ m (Str.ofString "due") = some (.ref da) ∧ sumsOf (ls.take i) = (S, due) ∧
    (sa, listOf #[.int S.r t1, .int S.g t2, .int S.b t3] n) ∈ tl ∧ (da, listOf (List.toArray vs) k) ∈ tl ∧ All2 (SumIn tl) vs due ∧ (∀ p ∈ news, p ∈ tl)
local macro_rules | `(tactic| k_mem) => `(tactic| first | (with_reducible assumption) | exact List.Mem.head _ | (refine' List.mem_cons_of_mem _ ?_; k_mem) | (refine' List.mem_append.mpr (Or.inl ?_); k_mem) | (refine' List.mem_append.mpr (Or.inr ?_); k_mem))
local macro_rules | `(tactic| k_all) => `(tactic| first | assumption | exact List.forall_mem_nil _ | (refine' List.forall_mem_cons.mpr ⟨?a, ?b⟩; (case a => first | assumption | k_ne); (case b => k_all)))
local macro_rules | `(tactic| k_updF) => `(tactic| first | (refine' UpdF.head ?a; (case a => k_all)) | (refine' UpdF.tail ?a ?b; (case a => first | assumption | k_ne); (case b => k_updF)))
local macro_rules | `(tactic| walk_at "exec For Tuple Name cons nil") => `(tactic| (k_here; (with_reducible show wpAny _ _ (exec (Stmt.For _ _ _ [] _) _) _ _ _); k_dflt (refine For_invTF (by k_asm) ?_ (by intro _; rfl))))
local macro_rules | `(tactic| walk_at "pyIter ref") => `(tactic| (k_here; (with_reducible show wpAny _ _ (pyIter (Value.ref _)) (fun it s₂ => LoopAtT _ _ _ _ _ _ _ _ _ it s₂) _ _); refine Halt.out ?_))
local macro_rules | `(tactic| walk_at "binaryOp Add ref ref") => `(tactic| (k_here; (with_reducible show wpAny _ _ (binaryOp _ (Value.ref _) (Value.ref _)) _ _ _); k_dflt (refine' add_led ?F ?N ?a ?b ?z ?_; (case F => k_asm); (case N => k_asm); (case a => k_mem); (case b => k_mem); (case z => assumption)); intro D' h' F' N' l1; (try k_lt l1); (try k_sweep)))
local macro_rules | `(tactic| walk_at "call ref") => `(tactic| (k_here; (with_reducible show wpAny _ _ (call (Value.ref 59) _) _ _ _); k_dflt (refine' Tell.use (tell_ops _ _) ?k1 ?k2 ?k3 ?k4 ?k5 ?kK ?kd ?ku ?_; (case k1 => k_asm); (case k2 => k_asm); (case k3 => k_asm); (case k4 => k_asm); (case k5 => k_asm); (case kK => exact rfl); (case kd => ktr_room); (case ku => ktr_units); k_whole); intro r9 tl9 h9 tk9 F9 N9 l9 P9; (obtain ⟨D9, ls9, ⟨e9, e8⟩, ho9⟩ := P9); subst e9; subst e8; (have l8 := ord_at l9); (clear l9); (try k_lt l8); (try simp only [List.nil_append, List.cons_append] at N9); (try dsimp only); (try k_fold)))
local macro_rules | `(tactic| walk_at "exec Assign cons ListComp") => `(tactic| (k_here; (with_reducible show wpAny _ _ (exec (Stmt.Assign _ (PySem.Expr.ListComp _ [⟨PySem.Expr.Name _ _, _, [], _⟩] _ _) _) _) _ _ _); k_dflt (refine Assign_ListComp_N (by k_asm) (by rfl) (by with_unfolding_all rfl) (by with_unfolding_all rfl) (by decide) (by rfl) (by decide) (by rfl) (by rfl) (by rfl) ?_)))
local macro_rules | `(tactic| walk_at "exec Assign cons ListComp") => `(tactic| (k_here; (with_reducible show wpAny _ _ (exec (Stmt.Assign _ (PySem.Expr.ListComp _ [⟨PySem.Expr.Tuple [_, _] _ _, _, _, _⟩] _ _) _) _) _ _ _); k_dflt (refine Assign_ListComp_Z (by k_asm) (by rfl) (by with_unfolding_all rfl) (by with_unfolding_all rfl) (by decide) (by rfl) (by decide) (by rfl) (by rfl) (by decide) (by rfl) (by rfl) ?_)))
local macro_rules | `(tactic| walk_at "call type:zip") => `(tactic| (k_here; (with_reducible show wpAny _ _ (call (Value.type "zip") _) (ZipSrc _ _ _ _ _ _ _ _ _ _ _ _ _ _) _ _); refine Halt.out ?_))
local macro_rules | `(tactic| walk_at "call builtin:list.index") => `(tactic| (k_here; k_dflt (refine' index_ops ?k1 ?k2 ?k3 ?k4 ?_; (case k1 => k_asm); (case k2 => k_mem); (case k3 => assumption); (case k4 => assumption); k_whole)))
local macro_rules | `(tactic| walk_at "subscriptTail Name UnaryOp str int") => `(tactic| (k_here; k_dflt (refine' last_of ?k1 ?_ ?k2 ?k3; (case k1 => assumption); (case k2 => with_unfolding_all rfl); (case k3 => (intro _; with_unfolding_all rfl)); k_whole)))
local macro_rules | `(tactic| walk_at "binaryOp Mult int int") => `(tactic| (k_here; k_dflt (refine' mul_idx ?k1 ?_; (case k1 => assumption); k_whole)))
set_option maxHeartbeats 8000000 in
theorem tell_sums (w : World) (a0 : Addr) (k0 : Nat) (us : List Value) (ls : List Light) (news : List (Addr × Obj)) (h0 : (a0, listOf us.toArray k0) ∈ news) (hA : All2 (LightIn news) us ls) (hlen : ls.length ≤ 100) (hw : ∀ l ∈ ls, l.word ∈ ops) :
    TellU w 15 76 [.ref a0] news (fun v led => ∃ ta vs k, v = .ref ta ∧ (ta, listOf (List.toArray vs) k) ∈ led ∧ All2 (SumIn led) vs (sumsOf ls).2) := by
  unfold TellU
  k_fill
  intro p loose mean mg mb dp un gd cn cs a ccd cl outer A₀ base h₀ L m s Q E B F X N T hk hd hu hret
  refine wpAny_call ?_
  k_dflt (refine' code_defC ?k1 ?k2 ?k3 ?k4 ?k5 ?kA ?kF ?kK ?k6 ?k7 ?k8 ?k9 ?kB ?kD ?_ ?c2 ?c3 ?c4; (case kA => exact rfl); (case kF => exact rfl); (case kK => assumption); (case k1 => k_asm); (case k2 => k_asm); (case k3 => k_asm); (case k4 => k_asm); (case k5 => k_asm); (case k6 => k_is); (case k7 => k_is); (case k8 => ktr_room); (case k9 => exact BindsTo.of_eq rfl); (case kB => exact rfl); (case kD => decide +kernel); (case c2 => exact rfl); (case c3 => exact rfl); (case c4 => exact rfl); k_whole)
  intro g' L' h' tk' cells' FG' F' N' Y' B' X' T' l1
  k_cells Y'
  (try simp only [List.cons_append, List.nil_append] at N')
  have offA : ∀ p ∈ news, p.1 ≠ L' + 1 := fun p hp => Nat.ne_of_lt (Nat.lt_succ_of_lt (l1 p hp))
  have offB : ∀ p ∈ news, p.1 ≠ L' + 1 + 1 := fun p hp => Nat.ne_of_lt (Nat.lt_succ_of_lt (Nat.lt_succ_of_lt (l1 p hp)))
  (try dsimp only)
  (try k_fold)
  k_steps
  obtain ⟨tl, N2, off2, sub2⟩ := led_front (c := L' + 1 + 1) (by assumption) (by k_mem)
  refine loop_led (JSums (L' + 1 + 1) (L' + 1) _ ls news) rfl (by k_asm) N2 (List.mem_cons_of_mem _ (sub2 _ (by k_mem) (offB _ h0))) ⟨_, _, tl, _, _, _, _, ⟨0, 0, 0⟩, [], _, _, _, _, [], _, rfl, by assumption, off2, sub2 _ (by k_mem) (by k_ne), by assumption, sub2 _ (by k_mem) (by k_ne), rfl, rfl, rfl, sub2 _ (by k_mem) (by k_ne), sub2 _ (by k_mem) (by k_ne), .nil, fun p hp => sub2 p (by k_mem) (offB p hp)⟩ ?_ ?_
  · rintro i v m₁ nx s₁ own I oI hv ⟨oc, v0, tl', oN, nm, sa, da, S, due, t1, t2, t3, n, vs, k, rfl, hoc, off', hN, hNd, hn, e1, e2, hst, hsa, hda, hT, hs⟩ hIo offI hown F1 N1
    obtain ⟨lt, hlt, hL⟩ := hA.get (i := i) (a := v) (by simpa using hv)
    have hstep := sumsOf_take hlt
    rw [hst] at hstep
    have hop := hw _ (List.mem_of_getElem? hlt)
    have hsz : vs.length + 1 ≤ sizeLine := by
      have h1 := hT.length
      have h2 := sumsOf_len (ls.take i)
      rw [hst] at h2
      simp only [List.length_take] at h2
      rw [sizeLine_eq]
      omega
    have N3 : News g' L' s₁.heap ((L' + 1 + 1, oc) :: (own ++ tl')) := led_sub N1 (by intro p hp; simp only [List.mem_append, List.mem_cons] at hp ⊢; grind)
    have off3 : ∀ p ∈ own ++ tl', p.1 ≠ L' + 1 + 1 := by
      intro p hp
      rcases List.mem_append.mp hp with hp | hp
      · rcases hown p hp with e | e
        · rw [e]; exact Ne.symm (offI _ (.head _))
        · rw [e]; exact offB _ h0
      · exact off' p hp
    rw [map_two e1 e2] at F1
    cases hL with
    | @mk aL cL nL nL' xw tw tr tg tb rr gg bb hl1 hl2 =>
      have hl1' := List.mem_append_right own (hs _ hl1)
      have hl2' := List.mem_append_right own (hs _ hl2)
      have hn3 := List.mem_append_right own hn
      have hN3 := List.mem_append_right own hN
      have hsa3 := List.mem_append_right own hsa
      have hda3 := List.mem_append_right own hda
      dsimp only at hop
      clear N1 N2
      k_steps
      refine zip_led true (fun j y => ∃ t', y = .int (pickS (stepS S ⟨xw, rr, gg, bb⟩) j) t') rfl (by k_asm) (by k_asm) (by k_mem) (by k_mem) (Nat.le_of_ble_eq_true rfl) ?_ ?_
      · intro j v₁ v₂ C oC m₂ h tk led E' hP hoC hx hx₂ F' N' off sub
        obtain ⟨va, vb, ha, hb, e⟩ := hP
        cases e
        refine ⟨wpAny_tests_nil ⟨rfl, _, _, [], rfl, F', N'⟩, fun _ => ?_⟩
        have hc : ∃ oo, (L' + 1 + 1, oo) ∈ led ∧ oo.data = Data.cell (some (.str xw tw)) := ⟨_, sub _ (by k_mem), by assumption⟩
        obtain ⟨oo, hc, hcd⟩ := hc
        have hN4 := sub _ (List.mem_cons_of_mem _ hN3)
        have hn4 := sub _ (List.mem_cons_of_mem _ hn3)
        rcases of_three ha with ⟨rfl, rfl⟩ | ⟨rfl, rfl⟩ | ⟨rfl, rfl⟩
        · obtain rfl : Value.int rr tr = v₂ := Option.some.inj hb
          k_steps
          exact ⟨⟨_, rfl⟩, _, _, [], rfl, by k_asm, by k_asm⟩
        · obtain rfl : Value.int gg tg = v₂ := Option.some.inj hb
          k_steps
          exact ⟨⟨_, rfl⟩, _, _, [], rfl, by k_asm, by k_asm⟩
        · obtain rfl : Value.int bb tb = v₂ := Option.some.inj hb
          k_steps
          exact ⟨⟨_, rfl⟩, _, _, [], rfl, by k_asm, by k_asm⟩
      · intro D vs3 h' lt3 hlen3 hR3
        obtain ⟨va, vb, vc, rfl, ⟨ta, rfl⟩, ⟨tb9, rfl⟩, ⟨tc, rfl⟩⟩ := three_of hlen3 hR3
        have hID : @LT.lt Nat _ I D := lt3 _ (List.mem_cons_of_mem _ (List.mem_append_left _ hIo))
        have hcD : @LT.lt Nat _ (L' + 1 + 1) D := lt3 _ (.head _)
        have hcI := offI _ (.head _)
        intro h'' tk' F' N'
        (try dsimp only)
        k_steps
        · refine OneSrc.ledger (fun j y => ∃ t', y = .int (clampI (pickS (stepS S ⟨xw, rr, gg, bb⟩) j)) t') rfl (by k_asm) (by k_asm) (by k_mem) (Nat.le_of_ble_eq_true rfl) ?_ ?_
          · intro j v C oC m₂ h tk led E' hj hP hoC hx F' N' off sub
            have hv : ∃ t, v = .int (pickS (stepS S ⟨xw, rr, gg, bb⟩) j) t := by
              rcases of_three hP with ⟨rfl, rfl⟩ | ⟨rfl, rfl⟩ | ⟨rfl, rfl⟩
              · exact ⟨_, rfl⟩
              · exact ⟨_, rfl⟩
              · exact ⟨_, rfl⟩
            obtain ⟨t, rfl⟩ := hv
            k_steps
            exact ⟨⟨_, congrArg (fun z => Value.int z _) (clamp_if _)⟩, _, _, [], rfl, by k_asm, by k_asm⟩
          · intro D2 vs2 lt2 hlen2 hR2
            obtain ⟨va, vb, vc, rfl, ⟨tA, rfl⟩, ⟨tB, rfl⟩, ⟨tC, rfl⟩⟩ := three_of hlen2 hR2
            have hID2 : @LT.lt Nat _ I D2 := lt2 (I, oI) (by k_mem)
            have hcD2 : @LT.lt Nat _ (L' + 1 + 1) D2 := lt2 (L' + 1 + 1, _) (by k_mem)
            intro h'' tk' F' N'
            (try dsimp only)
            k_steps
            refine ⟨rfl, _, _, _, _, rfl, by k_asm, shuffle4 (by assumption), ?_, ?_⟩
            · intro p hp
              simp only [List.mem_cons] at hp
              rcases hp with rfl | rfl | rfl | rfl | rfl | hp
              · exact hcI
              · k_ne
              · k_ne
              · k_ne
              · k_ne
              · exact offI p (.tail _ hp)
            · rename (Txt.item _ (-1) == Str.ofString "=") = true => hset
              have hnx := hstep.trans (sumF_set hset)
              refine ⟨_, _, _, oN, nm, _, _, _, _, _, _, _, _, _, _, rfl, by assumption, ?_, sub4 _ hN, hNd, sub4 _ hn, rfl, rfl, hnx, .head _, .tail _ (.head _), (hT.mono fun _ _ => SumIn.mono sub4).snoc (.mk (.tail _ (.tail _ (.tail _ (.head _))))), fun p hp => sub4 p (hs p hp)⟩
              intro p hp
              simp only [List.mem_cons] at hp
              rcases hp with rfl | rfl | rfl | rfl | hp
              · k_ne
              · k_ne
              · k_ne
              · k_ne
              · exact off' p hp
        · refine ⟨rfl, _, _, _, _, rfl, by k_asm, shuffle3 (by assumption), ?_, ?_⟩
          · intro p hp
            simp only [List.mem_cons] at hp
            rcases hp with rfl | rfl | rfl | rfl | hp
            · exact hcI
            · k_ne
            · k_ne
            · k_ne
            · exact offI p (.tail _ hp)
          · rename (Txt.item _ (-1) == Str.ofString "=") = false => hset
            have hnx := hstep.trans (sumF_not hset)
            refine ⟨_, _, _, oN, nm, _, _, _, _, _, _, _, _, _, _, rfl, by assumption, ?_, sub3 _ hN, hNd, sub3 _ hn, rfl, rfl, hnx, .tail _ (.tail _ (.head _)), .head _, (hT.mono fun _ _ => SumIn.mono sub3).snoc (.mk (.tail _ (.tail _ (.head _)))), fun p hp => sub3 p (hs p hp)⟩
            intro p hp
            simp only [List.mem_cons] at hp
            rcases hp with rfl | rfl | rfl | hp
            · k_ne
            · k_ne
            · k_ne
            · exact off' p hp
  · rintro m₁ nx h tk ⟨oc, v0, tl', oN, nm, sa, da, S, due, t1, t2, t3, n, vs, k, rfl, hoc, off', hN, hNd, hn, e1, e2, hst, hsa, hda, hT, hs⟩ F1 N1
    rw [map_two e1 e2] at F1
    have N3 := led_tail N1
    clear N1 N2
    have en : ls.take (List.toArray us).size = ls := List.take_of_length_le (by rw [List.size_toArray, hA.length]; exact Nat.le_refl _)
    rw [en] at hst
    k_steps
    exact hret _ tl' _ _ (by k_asm) (by k_asm) hs ⟨_, _, _, rfl, hda, by rw [hst]; exact hT⟩
end Mine
end
section
open PySem PySem.W PyProof.Rows
set_option Elab.async false
set_option maxRecDepth 100000
namespace Mine
open PySem PySem.W PySem.Spec PySem.Calls PyProof.Rows PyProof.Rows.LCg
/-- what _law_right asks of one light -/
structure RightOk (s : Sum3) (d : Tri × Tri) : Prop where
  fy : Float64.isFinite (Float64.mul (Float64.ofInt 2550000) d.1.y) = true
  fi : Float64.isFinite (Float64.mul (Float64.ofInt 2550000) d.1.i) = true
  fq : Float64.isFinite (Float64.mul (Float64.ofInt 2550000) d.1.q) = true
  ey : rnd 2550000 d.1.y = 3000 * s.r + 5900 * s.g + 1100 * s.b
  ei : rnd 2550000 d.1.i = 5990 * s.r - 2773 * s.g - 3217 * s.b
  eq : rnd 2550000 d.1.q = 2130 * s.r - 5251 * s.g + 3121 * s.b
  fr : Float64.isFinite (Float64.mul (Float64.ofInt 255) d.2.y) = true
  fg : Float64.isFinite (Float64.mul (Float64.ofInt 255) d.2.i) = true
  fb : Float64.isFinite (Float64.mul (Float64.ofInt 255) d.2.q) = true
  sr : ShownOk s.r d.2.y
  sg : ShownOk s.g d.2.i
  sb : ShownOk s.b d.2.q
def lightsOf (ns : List Int) : List Light := fixedLights ++ ns.map lightOf
theorem getD_mem {k : Nat} (h : k < 48) : ops.getD k Str.empty ∈ ops := by
  have h' : k < ops.length := by rw [ops_length]; exact h
  rw [List.getD_eq_getElem?_getD, List.getElem?_eq_getElem h']
  exact List.getElem_mem h'
theorem fixed_ok : ∀ l ∈ fixedLights, l.word ∈ ops ∧ (0 ≤ l.r ∧ l.r ≤ 255) ∧ (0 ≤ l.g ∧ l.g ≤ 255) ∧ (0 ≤ l.b ∧ l.b ≤ 255) := by
  intro l hl
  simp only [fixedLights, List.mem_cons, List.not_mem_nil, or_false] at hl
  rcases hl with rfl | rfl | rfl | rfl | rfl <;> exact ⟨by decide +kernel, by decide, by decide, by decide⟩
theorem lights_ok (ns : List Int) : ∀ l ∈ lightsOf ns, l.word ∈ ops ∧ (0 ≤ l.r ∧ l.r ≤ 255) ∧ (0 ≤ l.g ∧ l.g ≤ 255) ∧ (0 ≤ l.b ∧ l.b ≤ 255) := by
  intro l hl
  rcases List.mem_append.mp hl with h | h
  · exact fixed_ok l h
  · obtain ⟨x, _, rfl⟩ := List.mem_map.mp h
    have hb := fmod_lt48 x
    have ho : ∀ k, 0 ≤ octOf x k ∧ octOf x k ≤ 255 := fun k => by
      have h1 := Int.fmod_nonneg_of_pos (Int.fdiv (wholeOf x) (256 ^ k)) (show (0 : Int) < 256 by decide)
      have h2 := Int.fmod_lt_of_pos (Int.fdiv (wholeOf x) (256 ^ k)) (show (0 : Int) < 256 by decide)
      unfold octOf
      omega
    exact ⟨getD_mem (by omega), ho 0, ho 1, ho 2⟩
abbrev zipObj (TI TO : Addr) : Obj := { cls := .type "zip", dict := none, data := .fields #[.none, .bool false, .bool false, .ref TI, .ref TO], slots := #[] }
abbrev iterObj (o : Obj) (l : Addr) : Prop := o.cls = .type "list_iterator" ∧ o.data = .fields #[.ref l, .int 0 0]
theorem zip_made {prog : Program} {w : World} {A : Around} {E : Value → Shared → Prop} {s : Shared} {h₀ : Heap} {L : Addr} {m : Str → Option Value} {l1 l2 : Addr} {xs ys : Array Value} {n1 n2 : Nat} {news : List (Addr × Obj)} {Q : Value → Shared → Prop}
    (F : Fr h₀ L s.heap m) (N : News h₀ L s.heap news) (hm1 : (l1, listOf xs n1) ∈ news) (hm2 : (l2, listOf ys n2) ∈ news)
    (k : ∀ h' z TI TO i1 i2 o1 o2, ZipApart z TI TO i1 i2 l1 l2 → iterObj o1 l1 → iterObj o2 l2 → Fr h₀ L h' m → News h₀ L h' ((z, zipObj TI TO) :: (TI, tupOf #[.ref i1, .ref i2]) :: (TO, tupOf #[.none, .none]) :: (i1, o1) :: (i2, o2) :: news) → (∀ p ∈ news, p.1 ∉ [z, TO, i1, i2]) → Q (.ref z) { s with heap := h' }) :
    Halt (wpAny (model prog w) A (call (.type "zip") [.ref l1, .ref l2]) Q E s) := by
  show wpAny (model prog w) A (call (.type "zip") [.ref l1, .ref l2]) Q E s
  have a1 := Heap.lt_size (N _ hm1).1
  have a2 := Heap.lt_size (N _ hm2).1
  refine call_zip_2 (list_led N hm1) (list_led N hm2) fun h' hz hTI hTO ⟨o1, ho1, hi1⟩ ⟨o2, ho2, hi2⟩ _ hk => ?_
  have fr₀ : ∀ b, s.heap.objs.size ≤ b → h₀.get? b = none := fun b hb => by
    cases e : h₀.get? b with
    | none => rfl
    | some o => exact absurd (Heap.lt_size (F.keep b o e)) (Nat.not_lt.mpr hb)
  have hL := F.ns.lt
  have neL : ∀ b, s.heap.objs.size ≤ b → b ≠ L := fun b hb => Nat.ne_of_gt (Nat.lt_of_lt_of_le hL hb)
  refine k h' _ _ _ _ _ o1 o2 (zipApart_new a1 a2) hi1 hi2 (F.keeps hk) (fun p hp => ?_) fun p hp hm => ?_
  · simp only [List.mem_cons] at hp
    rcases hp with rfl | rfl | rfl | rfl | rfl | hp
    · exact ⟨hz, neL _ (Nat.le_add_right _ 4), fr₀ _ (Nat.le_add_right _ 4)⟩
    · exact ⟨hTI, neL _ (Nat.le_add_right _ 2), fr₀ _ (Nat.le_add_right _ 2)⟩
    · exact ⟨hTO, neL _ (Nat.le_add_right _ 3), fr₀ _ (Nat.le_add_right _ 3)⟩
    · exact ⟨ho1, neL _ (Nat.le_refl _), fr₀ _ (Nat.le_refl _)⟩
    · exact ⟨ho2, neL _ (Nat.le_add_right _ 1), fr₀ _ (Nat.le_add_right _ 1)⟩
    · exact ⟨hk _ _ (N p hp).1, (N p hp).2⟩
  · have := Heap.lt_size (N p hp).1
    simp only [List.mem_cons, List.not_mem_nil, or_false] at hm
    rcases hm with e | e | e | e
    · exact absurd this (Nat.not_lt.mpr (e ▸ Nat.le_add_right _ 4))
    · exact absurd this (Nat.not_lt.mpr (e ▸ Nat.le_add_right _ 3))
    · exact absurd this (Nat.not_lt.mpr (e ▸ Nat.le_refl _))
    · exact absurd this (Nat.not_lt.mpr (e ▸ Nat.le_add_right _ 1))
theorem zipSrc_led {prog : Program} {w : World} {A : Around} {h₀ : Heap} {L : Addr} {m : Str → Option Value} {env : Env} {elt : PySem.Expr} {ifs : List PySem.Expr} {x x₂ : Str} {scope : Scope} {cl : List (Str × Addr)} {Fin : Shared → Addr → List Value → List (Addr × Obj) → Prop} {s₁ : Shared}
    {z TI TO i1 i2 l1 l2 : Addr} {o1 o2 : Obj} {xs ys : Array Value} {n1 n2 : Nat} {news : List (Addr × Obj)} (pass : Bool) (R : Nat → Value → Prop) (hh : A.handled = none) (hap : ZipApart z TI TO i1 i2 l1 l2) (hi1 : iterObj o1 l1) (hi2 : iterObj o2 l2)
    (F : Fr h₀ L s₁.heap m) (N : News h₀ L s₁.heap ((z, zipObj TI TO) :: (TI, tupOf #[.ref i1, .ref i2]) :: (TO, tupOf #[.none, .none]) :: (i1, o1) :: (i2, o2) :: news)) (hm1 : (l1, listOf xs n1) ∈ news) (hm2 : (l2, listOf ys n2) ∈ news) (off : ∀ p ∈ news, p.1 ∉ [z, TO, i1, i2]) (hsz : min xs.size ys.size ≤ sizeLine)
    (turn : PairTurn prog w A h₀ L m env elt ifs x x₂ scope cl pass (fun i vals => ∃ a b, xs[i]? = some a ∧ ys[i]? = some b ∧ vals = #[a, b]) R news s₁)
    (fin : ∀ D vs, (∀ p ∈ news, p.1 < D) → vs.length = (if pass then min xs.size ys.size else 0) → (∀ j y, vs[j]? = some y → R j y) → Fin s₁ D vs news) :
    ZipSrc prog w A h₀ L m env elt ifs x x₂ scope cl Fin (.ref z) s₁ := by
  have hz := N (z, zipObj TI TO) (.head _)
  have hTI := N (TI, tupOf #[.ref i1, .ref i2]) (.tail _ (.head _))
  have hTO := N (TO, tupOf #[.none, .none]) (.tail _ (.tail _ (.head _)))
  have h1 := N (i1, o1) (.tail _ (.tail _ (.tail _ (.head _))))
  have h2 := N (i2, o2) (.tail _ (.tail _ (.tail _ (.tail _ (.head _)))))
  have N' : News h₀ L s₁.heap news := fun p hp => N p (.tail _ (.tail _ (.tail _ (.tail _ (.tail _ hp)))))
  refine ⟨z, TI, TO, i1, i2, l1, l2, xs, ys, news, pass, R, rfl, hh, hap, ⟨hz.1, hTI.1, ⟨_, _, hTO.1⟩, ⟨o1, h1.1, hi1⟩, ⟨o2, h2.1, hi2⟩, list_led N' hm1, list_led N' hm2⟩, F, N', off, fun hm => ?_, fun b hb => ?_, hsz, turn, fin⟩
  · simp only [List.mem_cons, List.not_mem_nil, or_false] at hm
    rcases hm with e | e | e | e | e | e | e
    · exact hz.2.1 e.symm
    · exact hTI.2.1 e.symm
    · exact hTO.2.1 e.symm
    · exact h1.2.1 e.symm
    · exact h2.2.1 e.symm
    · exact (N' _ hm1).2.1 e.symm
    · exact (N' _ hm2).2.1 e.symm
  · simp only [List.mem_cons, List.not_mem_nil, or_false] at hb
    rcases hb with rfl | rfl | rfl | rfl
    · exact hz.2.2
    · exact hTO.2.2
    · exact h1.2.2
    · exact h2.2.2
theorem all2_pair {α β : Type} {R : α → β → Prop} : ∀ {l : List α} {l' : List β} {i : Nat} {a : α} {b : β}, All2 R l l' → l[i]? = some a → l'[i]? = some b → R a b
  | _, _, 0, _, _, .cons h _, e, f => (Option.some.inj e) ▸ (Option.some.inj f) ▸ h
  | _, _, i + 1, _, _, .cons _ r, e, f => all2_pair r e f
end Mine
end
section
open PySem PySem.W PyProof.Rows
set_option Elab.async false
set_option maxRecDepth 100000
namespace Mine
theorem fresh_C10 : True := by
  w_top off
  exact trivial
open PySem PySem.W PySem.Spec PySem.Calls PyProof.Rows PyProof.Rows.LCg
local macro_rules | `(tactic| k_mem) => `(tactic| first | (with_reducible assumption) | exact List.Mem.head _ | (refine' List.mem_cons_of_mem _ ?_; k_mem) | (refine' List.mem_append.mpr (Or.inl ?_); k_mem) | (refine' List.mem_append.mpr (Or.inr ?_); k_mem))
local macro_rules | `(tactic| walk_at "eval ListComp") => `(tactic| (k_here; (with_reducible show wpAny _ _ (eval (PySem.Expr.ListComp _ [⟨PySem.Expr.Tuple [_, _] _ _, _, _, _⟩] _ _) _) _ _ _); k_dflt (refine ListComp_Z (by k_asm) (by with_unfolding_all rfl) (by decide) (by rfl) (by decide) (by rfl) (by rfl) (by decide) ?_)))
local macro_rules | `(tactic| walk_at "call type:zip") => `(tactic| (k_here; (with_reducible show wpAny _ _ (call (Value.type "zip") _) _ _ _); refine Halt.out ?_))
local macro_rules | `(tactic| walk_at "call ref") => `(tactic| (k_here; (with_reducible show wpAny _ _ (call (Value.ref 64) _) _ _ _); refine Halt.out ?_))
local macro_rules | `(tactic| walk_at "call ref") => `(tactic| (k_here; (with_reducible show wpAny _ _ (call (Value.ref 71) _) _ _ _); refine Halt.out ?_))
local macro_rules | `(tactic| walk_at "call ref") => `(tactic| (k_here; (with_reducible show wpAny _ _ (call (Value.ref 76) _) _ _ _); refine Halt.out ?_))
local macro_rules | `(tactic| walk_at "call ref") => `(tactic| (k_here; (with_reducible show wpAny _ _ (call (Value.ref 88) _) _ _ _); refine Halt.out ?_))
theorem take20 {vs : List Value} {ws : List Int} (h : IntsAre vs (List.take 20 ws)) : ∃ ns : List Int, IntsAre vs ns ∧ ns.length ≤ 20 := ⟨_, h, List.length_take_le 20 _⟩
set_option maxHeartbeats 8000000 in
theorem law_of (H : ∀ ns : List Int, ns.length ≤ 20 → All2 RightOk (sumsOf (lightsOf ns)).2 (deskOf (lightsOf ns)).2) : PySem.Challenge.rw_mq0231_01.Holds := hd (by
  k_go0
  all_goals try k_fold
  k_steps
  show wpAny _ _ _ _ _ _
  rename IntsAre _ (List.take 20 _) => hI
  obtain ⟨ns, hIn, hn20⟩ := take20 hI
  have hH := H ns hn20
  have hok := lights_ok ns
  have hlen : (lightsOf ns).length ≤ 100 := by
    simp only [lightsOf, fixedLights, List.length_append, List.length_cons, List.length_nil, List.length_map]
    omega
  k_dflt (refine' TellU.use (tell_lights _ _ _ _ _ _ ?h0 hIn (Nat.le_trans hn20 (by decide))) ?k1 ?k2 ?k3 ?k4 ?k5 ?kK ?kd ?ku ?_; (case k1 => k_asm); (case k2 => k_asm); (case k3 => k_asm); (case k4 => k_asm); (case k5 => k_asm); (case kK => exact rfl); (case kd => ktr_room); (case ku => ktr_units))
  (case h0 => k_mem)
  intro r1 led1 h1 tk1 F1 N1 sub1 P1
  obtain ⟨la, us, k1, rfl, hla, hA⟩ := P1
  (try dsimp only)
  (try k_fold)
  k_steps
  show wpAny _ _ _ _ _ _
  k_dflt (refine' TellU.use (tell_sums _ la k1 us (lightsOf ns) led1 hla hA hlen (fun l hl => (hok l hl).1)) ?k1 ?k2 ?k3 ?k4 ?k5 ?kK ?kd ?ku ?_; (case k1 => k_asm); (case k2 => k_asm); (case k3 => k_asm); (case k4 => k_asm); (case k5 => k_asm); (case kK => exact rfl); (case kd => ktr_room); (case ku => ktr_units))
  intro r2 led2 h2 tk2 F2 N2 sub2 P2
  obtain ⟨sa, vs, k2, rfl, hsa, hS⟩ := P2
  (try dsimp only)
  (try k_fold)
  k_steps
  show wpAny _ _ _ _ _ _
  k_dflt (refine' TellU.use (tell_desk _ la k1 us (lightsOf ns) led2 (sub2 _ hla) (hA.mono fun _ _ => LightIn.mono sub2) hlen hok) ?k1 ?k2 ?k3 ?k4 ?k5 ?kK ?kd ?ku ?_; (case k1 => k_asm); (case k2 => k_asm); (case k3 => k_asm); (case k4 => k_asm); (case k5 => k_asm); (case kK => exact rfl); (case kd => ktr_room); (case ku => ktr_units))
  intro r3 led3 h3 tk3 F3 N3 sub3 P3
  obtain ⟨da, ts, k3, rfl, hda, hD⟩ := P3
  have hS3 := hS.mono fun _ _ => SumIn.mono sub3
  have hsa3 := sub3 _ hsa
  (try dsimp only)
  (try k_fold)
  k_steps
  refine zip_made (by k_asm) (by k_asm) hsa3 hda ?_
  intro h4 z TI TO i1 i2 o1 o2 hap hi1 hi2 F4 N4 off4
  (try dsimp only)
  (try k_fold)
  k_steps
  refine zipSrc_led false (fun _ _ => True) rfl hap hi1 hi2 (by k_asm) (by k_asm) hsa3 hda off4 ?_ ?_ ?_
  · have e1 := hS.length
    have e2 := sumsOf_len (lightsOf ns)
    rw [sizeLine_eq, List.size_toArray, List.size_toArray]
    omega
  · intro j v₁ v₂ C oC m₂ h tk led E' hP hoC hx hx₂ F' N' off sub
    obtain ⟨va, vb, ha, hb, e⟩ := hP
    cases e
    refine ⟨wpAny_tests_one ?_, fun e => nomatch e⟩
    obtain ⟨sj, hsj, hSj⟩ := hS3.get (i := j) (a := v₁) (by simpa using ha)
    obtain ⟨dj, hdj, hDj⟩ := hD.get (i := j) (a := v₂) (by simpa using hb)
    have ok := all2_pair hH hsj hdj
    cases hSj with
    | mk q1 =>
      cases hDj with
      | mk q2 q3 q4 =>
        k_steps
        show wpAny _ _ _ _ _ _
        k_dflt (refine' Tell.use (tell_right _ _ _ _ _ _ _ _ _ _ _ _ _ _ _ _ _ _ _ _ _ _ _ _ _ _ _ _ (List.mem_cons_of_mem _ (sub _ q1)) (List.mem_cons_of_mem _ (sub _ q2)) (List.mem_cons_of_mem _ (sub _ q3)) (List.mem_cons_of_mem _ (sub _ q4)) ok.fy ok.fi ok.fq ok.ey ok.ei ok.eq ok.fr ok.fg ok.fb ok.sr ok.sg ok.sb) ?k1 ?k2 ?k3 ?k4 ?k5 ?kK ?kd ?ku ?_; (case k1 => k_asm); (case k2 => k_asm); (case k3 => k_asm); (case k4 => k_asm); (case k5 => k_asm); (case kK => exact rfl); (case kd => ktr_room); (case ku => ktr_units))
        intro r9 tl9 h9 tk9 F9 N9 l9 P9
        obtain ⟨rfl, rfl⟩ := P9
        (try simp only [List.nil_append] at N9)
        (try dsimp only)
        (try k_fold)
        k_steps
        exact ⟨rfl, _, _, [], rfl, by k_asm, by k_asm⟩
  · intro D vs5 lt5 hlen5 hR5 h5 tk5 F5 N5
    have e : vs5 = [] := List.length_eq_zero_iff.mp hlen5
    subst e
    (try dsimp only)
    k_steps)
end Mine
end
section
open PySem
set_option Elab.async false
namespace Mine
open PySem.Float64
/-- a finite double -/
def Fn (x : UInt64) : Prop := ∃ a m e, decode x = .fin a m e
theorem Fn.fin {x : UInt64} (h : Fn x) : isFinite x = true := by
  obtain ⟨a, m, e, h⟩ := h
  unfold isFinite; rw [h]
theorem rep : ∀ (k q : Nat), q ≤ 2 ^ 53 → ∃ t, V t = q * 2 ^ k
  | 0, q, h => ⟨0 * 2 ^ 52 + q, V_at h (.inr rfl)⟩
  | k + 1, q, h => by
    by_cases h2 : 2 ^ 52 ≤ q
    · exact ⟨_, V_at h (.inl h2)⟩
    · obtain ⟨t, ht⟩ := rep k (2 * q) (by omega)
      exact ⟨t, by rw [ht, Nat.pow_succ]; ac_rfl⟩
theorem dist_le {W Y X : Nat} (h : Float64.dist W Y ≤ X) : W ≤ Y + X ∧ Y ≤ W + X := by unfold Float64.dist at h; omega
theorem dist_at {W X Z R : Nat} (hdm : Z + R = W + X) (hmod : R < 2 * X) : Float64.dist W Z ≤ X := by unfold Float64.dist; omega
theorem near_q {W X : Nat} (h : W ≤ 2 ^ 54 * X) (hX : 0 < X) : (W + X) / (2 * X) ≤ 2 ^ 53 := by
  refine Nat.le_of_lt_succ ?_
  rw [Nat.div_lt_iff_lt_mul (Nat.mul_pos (by decide) hX)]
  omega
/-- a rounded quotient lies near: g the half step, 2^54 g the bound -/
theorem near {r : UInt64} {neg : Bool} {W D : Nat} (h : Right r neg W D) (hD : 0 < D) (k : Nat) (hk : k ≤ 1900) (hW : W ≤ D * (2 ^ 54 * 2 ^ k)) :
    Fn r ∧ ∃ t, val r = sgn neg t ∧ W ≤ D * t + D * 2 ^ k ∧ D * t ≤ W + D * 2 ^ k := by
  obtain ⟨t, rfl, hle, hinf, hnear⟩ := h
  have hk1 : 2 ^ (k + 1) = 2 * 2 ^ k := by rw [Nat.pow_succ, Nat.mul_comm]
  have hlt : t < infMag := by
    rcases Nat.lt_or_ge t infMag with h | h
    · exact h
    · exfalso
      have h1 := hinf.mp (Nat.le_antisymm hle h)
      have hb : 2 ^ k ≤ 2 ^ 1900 := Nat.pow_le_pow_right (by decide) hk
      have h2 : 2 * W ≤ D * (2 ^ 55 * 2 ^ 1900) := by
        calc 2 * W ≤ 2 * (D * (2 ^ 54 * 2 ^ k)) := Nat.mul_le_mul_left 2 hW
          _ = D * (2 ^ 55 * 2 ^ k) := by rw [show (2 : Nat) ^ 55 = 2 * 2 ^ 54 from by decide]; ac_rfl
          _ ≤ D * (2 ^ 55 * 2 ^ 1900) := Nat.mul_le_mul_left _ (Nat.mul_le_mul_left _ hb)
      have h3 : 2 ^ 55 * 2 ^ 1900 < (2 ^ 54 - 1) * 2 ^ 2045 := by
        have e : (2 : Nat) ^ 2045 = 2 ^ 145 * 2 ^ 1900 := by rw [← Nat.pow_add]
        rw [e, ← Nat.mul_assoc]
        exact Nat.mul_lt_mul_of_pos_right (by decide) (Nat.two_pow_pos _)
      exact absurd (Nat.le_trans h1 h2) (Nat.not_le.mpr (Nat.mul_lt_mul_of_pos_left h3 hD))
  obtain ⟨m, e, hd, hv⟩ := decode_pack neg hlt
  refine ⟨⟨_, _, _, hd⟩, V t, val_pack neg hlt, ?_⟩
  have hG : 0 < 2 ^ k := Nat.two_pow_pos k
  generalize hg : 2 ^ k = G at *
  have hDG : 0 < D * G := Nat.mul_pos hD hG
  obtain ⟨q, hq⟩ : ∃ q, q = (W + D * G) / (2 * (D * G)) := ⟨_, rfl⟩
  have hdm := Nat.div_add_mod (W + D * G) (2 * (D * G))
  have hmod := Nat.mod_lt (W + D * G) (Nat.mul_pos (by decide) hDG : 0 < 2 * (D * G))
  rw [← hq] at hdm
  have hq53 : q ≤ 2 ^ 53 := by
    rw [hq]
    have e : D * (2 ^ 54 * G) = 2 ^ 54 * (D * G) := by ac_rfl
    exact near_q (e ▸ hW) hDG
  obtain ⟨t', ht'⟩ := rep (k + 1) q hq53
  have hn := (hnear hlt t').1
  rw [ht', hk1] at hn
  have e2 : D * (q * (2 * G)) = 2 * (D * G) * q := by ac_rfl
  rw [e2] at hn
  generalize 2 * (D * G) * q = Z at *
  generalize hY : D * V t = Y at *
  exact dist_le (Nat.le_trans hn (dist_at hdm hmod))
theorem val_zero (b : Bool) : val (Float64.zero b) = 0 := by
  have := val_pack b (t := 0) (by decide)
  unfold Float64.zero
  rw [this]
  have : V 0 = 0 := by decide
  rw [this]
  cases b <;> rfl
theorem fn_zero (b : Bool) : Fn (Float64.zero b) := by
  obtain ⟨m, e, hd, _⟩ := decode_pack b (t := 0) (by decide)
  exact ⟨_, _, _, hd⟩
theorem sgn_self (s : Int) : sgn (decide (s < 0)) s.natAbs = s := by
  by_cases hs : s < 0
  · rw [decide_eq_true hs]; unfold sgn; simp only [if_true]; omega
  · rw [decide_eq_false hs]; unfold sgn; simp only [Bool.false_eq_true, if_false]; omega
theorem sgn_sub {b : Bool} {t n g : Nat} (h1 : n ≤ 1 * t + 1 * g) (h2 : 1 * t ≤ n + 1 * g) : sgn b t - sgn b n ≤ g ∧ sgn b n - sgn b t ≤ g := by
  rw [Nat.one_mul, Nat.one_mul] at h1
  rw [Nat.one_mul, Nat.one_mul] at h2
  cases b
  · show (t : Int) - (n : Int) ≤ g ∧ (n : Int) - (t : Int) ≤ g
    omega
  · show -(t : Int) - -(n : Int) ≤ g ∧ -(n : Int) - -(t : Int) ≤ g
    omega
theorem sgn_near {s : Int} {t g : Nat} (h1 : s.natAbs ≤ 1 * t + 1 * g) (h2 : 1 * t ≤ s.natAbs + 1 * g) : sgn (decide (s < 0)) t - s ≤ g ∧ s - sgn (decide (s < 0)) t ≤ g := by
  have h := sgn_sub (b := decide (s < 0)) h1 h2
  rw [sgn_self] at h
  exact h
theorem near_int {r : UInt64} {s : Int} {g : Nat} {k : Nat} (hg : g = 2 ^ k) (hk : k ≤ 1900) (hb : s.natAbs ≤ 2 ^ 54 * g) (h : Right r (decide (s < 0)) s.natAbs 1) : Fn r ∧ val r - s ≤ g ∧ s - val r ≤ g := by
  subst hg
  obtain ⟨hf, t, hv, h1, h2⟩ := near h (by decide) k hk (by rw [Nat.one_mul]; exact hb)
  refine ⟨hf, ?_⟩
  rw [hv]
  generalize 2 ^ k = g at *
  exact sgn_near h1 h2
theorem add_near {x y : UInt64} {g : Nat} {k : Nat} (hx : Fn x) (hy : Fn y) (hg : g = 2 ^ k) (hk : k ≤ 1900) (hb : (val x + val y).natAbs ≤ 2 ^ 54 * g) : Fn (Float64.add x y) ∧ val (Float64.add x y) - (val x + val y) ≤ g ∧ (val x + val y) - val (Float64.add x y) ≤ g := by
  obtain ⟨a, m, e, hx⟩ := hx
  obtain ⟨b, n, f, hy⟩ := hy
  have h := add_right hx hy
  by_cases h0 : val x + val y = 0
  · rw [h.1 h0, val_zero, h0]
    rw [Int.sub_self]; exact ⟨fn_zero _, Int.natCast_nonneg _, Int.natCast_nonneg _⟩
  · exact near_int hg hk hb (h.2 h0)
theorem sub_near {x y : UInt64} {g : Nat} {k : Nat} (hx : Fn x) (hy : Fn y) (hg : g = 2 ^ k) (hk : k ≤ 1900) (hb : (val x - val y).natAbs ≤ 2 ^ 54 * g) : Fn (Float64.sub x y) ∧ val (Float64.sub x y) - (val x - val y) ≤ g ∧ (val x - val y) - val (Float64.sub x y) ≤ g := by
  obtain ⟨a, m, e, hx⟩ := hx
  obtain ⟨b, n, f, hy⟩ := hy
  have h := sub_right hx hy
  by_cases h0 : val x - val y = 0
  · rw [h.1 h0, val_zero, h0]
    rw [Int.sub_self]; exact ⟨fn_zero _, Int.natCast_nonneg _, Int.natCast_nonneg _⟩
  · exact near_int hg hk hb (h.2 h0)
theorem sgn_eq {x : UInt64} {a : Bool} {m : Nat} {e : Int} (h : decode x = .fin a m e) : val x = if a then -((val x).natAbs : Int) else ((val x).natAbs : Int) := by
  have e1 := val_eq h
  have e2 := val_natAbs h
  rw [e2]
  rw [e1]
  unfold sgn
  rfl
theorem sgn_mul2 (a b : Bool) (p q : Nat) : (if a then -(p : Int) else (p : Int)) * (if b then -(q : Int) else (q : Int)) = sgn (a != b) (p * q) := by
  cases a <;> cases b <;> simp [sgn, Int.natCast_mul, Int.neg_mul, Int.mul_neg]
/-- a product, in the doubles' own unit -/
theorem mul_near {x y : UInt64} {g : Nat} {k : Nat} (hx : Fn x) (hy : Fn y) (hg : g = 2 ^ k) (hk : k ≤ 1900) (hb : (val x * val y).natAbs ≤ 2 ^ 1074 * (2 ^ 54 * g)) :
    Fn (Float64.mul x y) ∧ 2 ^ 1074 * val (Float64.mul x y) - val x * val y ≤ 2 ^ 1074 * g ∧ val x * val y - 2 ^ 1074 * val (Float64.mul x y) ≤ 2 ^ 1074 * g := by
  subst hg
  obtain ⟨a, m, e, hx⟩ := hx
  obtain ⟨b, n, f, hy⟩ := hy
  have h := mul_right hx hy
  rw [Int.natAbs_mul] at hb
  obtain ⟨hf, t, hv, h1, h2⟩ := near h (Nat.two_pow_pos _) k hk hb
  refine ⟨hf, ?_⟩
  have ea := sgn_eq hx
  have eb := sgn_eq hy
  rw [hv]
  generalize (val x).natAbs = p at *
  generalize (val y).natAbs = q at *
  have eP : ((2 : Int) ^ 1074) = (((2 : Nat) ^ 1074 : Nat) : Int) := by simp
  rw [eP]
  generalize (2 : Nat) ^ 1074 = P at *
  generalize 2 ^ k = g at *
  have e1 : val x * val y = sgn (a != b) (p * q) := by rw [ea, eb]; exact sgn_mul2 a b p q
  have e2 : (P : Int) * sgn (a != b) t = sgn (a != b) (P * t) := by rw [Nat.mul_comm, sgn_mul, Int.mul_comm]
  rw [e1, e2, ← Int.natCast_mul]
  exact sgn_sub (by rw [Nat.one_mul, Nat.one_mul]; exact h1) (by rw [Nat.one_mul, Nat.one_mul]; exact h2)
/-- half an ulp below 4096 -/
theorem uN_ex : ∃ n : Nat, n = 2 ^ 1032 := ⟨_, rfl⟩
noncomputable def uN : Nat := Classical.choose uN_ex
theorem uN_eq : uN = 2 ^ 1032 := Classical.choose_spec uN_ex
theorem U_eqN : (2 : Nat) ^ 1074 = 4398046511104 * uN := by
  rw [uN_eq, show (4398046511104 : Nat) = 2 ^ 42 from by decide, ← Nat.pow_add]
theorem U_eq : (2 : Int) ^ 1074 = 4398046511104 * (uN : Int) := by
  have h : (((2 : Nat) ^ 1074 : Nat) : Int) = ((4398046511104 * uN : Nat) : Int) := by rw [U_eqN]
  rw [Int.natCast_mul] at h
  rw [show (4398046511104 : Int) = ((4398046511104 : Nat) : Int) from rfl, ← h]
  simp
theorem uN_pos : 0 < uN := by rw [uN_eq]; exact Nat.two_pow_pos _
theorem val_scaled {c : UInt64} {a : Bool} {m s : Nat} (hc : decode c = .fin a m (-(s : Int))) (hs : s ≤ 1074) : val c = sgn a m * ((2 ^ (1074 - s) : Nat) : Int) := by
  rw [val_eq hc, sgn_mul]
  have : (-(s : Int) + 1074).toNat = 1074 - s := by omega
  rw [this]
theorem mulc_u {A B C D : Int} (h1 : A - B ≤ D) (h2 : ((B - C).natAbs : Int) ≤ D) : A - C ≤ 2 * D := by omega
theorem mulc_l {A B C D : Int} (h1 : B - A ≤ D) (h2 : ((B - C).natAbs : Int) ≤ D) : C - A ≤ 2 * D := by omega
theorem mulc {c x : UInt64} {a : Bool} {m s : Nat} (p : Int) (q : Nat) (hc : decode c = .fin a m (-(s : Int))) (hs : s ≤ 1074) (hm : m ≤ 2 * 2 ^ s) (hq : 0 < q) (hpq : ((q : Int) * sgn a m - p * ((2 ^ s : Nat) : Int)).natAbs * 2 ^ 53 ≤ q * 2 ^ s)
    (hx : Fn x) (hb : (val x).natAbs ≤ 9007199254740992 * uN) : Fn (Float64.mul c x) ∧ (q : Int) * val (Float64.mul c x) - p * val x ≤ 2 * q * uN ∧ p * val x - (q : Int) * val (Float64.mul c x) ≤ 2 * q * uN := by
  have hv := val_scaled hc hs
  have eU : (2 : Nat) ^ 1074 = 2 ^ s * 2 ^ (1074 - s) := by rw [← Nat.pow_add]; congr 1; omega
  have eUi : (2 : Int) ^ 1074 = ((2 ^ s : Nat) : Int) * ((2 ^ (1074 - s) : Nat) : Int) := by
    have h : (((2 : Nat) ^ 1074 : Nat) : Int) = ((2 ^ s * 2 ^ (1074 - s) : Nat) : Int) := by rw [eU]
    rw [Int.natCast_mul] at h
    rw [← h]; simp
  have hP : 0 < 2 ^ (1074 - s) := Nat.two_pow_pos _
  have hT : 0 < 2 ^ s := Nat.two_pow_pos _
  have hbb : (val c * val x).natAbs ≤ 2 ^ 1074 * (2 ^ 54 * uN) := by
    rw [Int.natAbs_mul, hv, Int.natAbs_mul, sgn_natAbs, Int.natAbs_natCast, eU]
    calc m * 2 ^ (1074 - s) * (val x).natAbs ≤ (2 * 2 ^ s) * 2 ^ (1074 - s) * (9007199254740992 * uN) := Nat.mul_le_mul (Nat.mul_le_mul_right _ hm) hb
      _ = 2 ^ s * 2 ^ (1074 - s) * ((2 * 9007199254740992) * uN) := by ac_rfl
      _ = 2 ^ s * 2 ^ (1074 - s) * (2 ^ 54 * uN) := by rw [show (2 * 9007199254740992 : Nat) = 2 ^ 54 from by decide]
  obtain ⟨hf, h1, h2⟩ := mul_near ⟨_, _, _, hc⟩ hx uN_eq (by decide) hbb
  refine ⟨hf, ?_⟩
  generalize val (Float64.mul c x) = v at *
  rw [hv, eUi] at h1 h2
  clear hbb hv eU eUi hc
  generalize sgn a m = M at *
  generalize 2 ^ (1074 - s) = P at *
  generalize 2 ^ s = T at *
  generalize val x = X at *
  generalize uN = g at *
  have hPi : (0 : Int) < (P : Int) := by exact_mod_cast hP
  have hTi : (0 : Int) < (T : Int) := by exact_mod_cast hT
  have k1 : (T : Int) * v - M * X ≤ T * g := by
    refine Int.le_of_mul_le_mul_left (a := (P : Int)) ?_ hPi
    have e1 : (P : Int) * ((T : Int) * v - M * X) = (T : Int) * P * v - M * P * X := by rw [Int.mul_sub]; congr 1 <;> ac_rfl
    have e2 : (P : Int) * ((T : Int) * g) = T * P * g := by ac_rfl
    rw [e1, e2]; exact h1
  have k2 : M * X - (T : Int) * v ≤ T * g := by
    refine Int.le_of_mul_le_mul_left (a := (P : Int)) ?_ hPi
    have e1 : (P : Int) * (M * X - (T : Int) * v) = M * P * X - (T : Int) * P * v := by rw [Int.mul_sub]; congr 1 <;> ac_rfl
    have e2 : (P : Int) * ((T : Int) * g) = T * P * g := by ac_rfl
    rw [e1, e2]; exact h2
  have hd : (((q : Int) * M - p * T) * X).natAbs ≤ q * T * g := by
    rw [Int.natAbs_mul]
    calc ((q : Int) * M - p * T).natAbs * X.natAbs ≤ ((q : Int) * M - p * T).natAbs * (9007199254740992 * g) := Nat.mul_le_mul_left _ hb
      _ = ((q : Int) * M - p * T).natAbs * 2 ^ 53 * g := by rw [show (9007199254740992 : Nat) = 2 ^ 53 from by decide]; ac_rfl
      _ ≤ q * T * g := Nat.mul_le_mul_right _ hpq
  have hdi : ((((q : Int) * M - p * T) * X).natAbs : Int) ≤ (q : Int) * T * g := by exact_mod_cast hd
  have m1 : (q : Int) * ((T : Int) * v - M * X) ≤ q * (T * g) := Int.mul_le_mul_of_nonneg_left k1 (Int.natCast_nonneg _)
  have m2 : (q : Int) * (M * X - (T : Int) * v) ≤ q * (T * g) := Int.mul_le_mul_of_nonneg_left k2 (Int.natCast_nonneg _)
  have e3 : (q : Int) * ((T : Int) * v - M * X) = T * ((q : Int) * v) - q * M * X := by rw [Int.mul_sub]; congr 1 <;> ac_rfl
  have e4 : (q : Int) * (M * X - (T : Int) * v) = q * M * X - T * ((q : Int) * v) := by rw [Int.mul_sub]; congr 1 <;> ac_rfl
  have e5 : ((q : Int) * M - p * T) * X = q * M * X - T * (p * X) := by rw [Int.sub_mul]; congr 1; ac_rfl
  have e6 : (q : Int) * (T * g) = T * (q * g) := by ac_rfl
  have e7 : (q : Int) * T * g = T * (q * g) := by ac_rfl
  rw [e3, e6] at m1
  rw [e4, e6] at m2
  rw [e5, e7] at hdi
  constructor
  · refine Int.le_of_mul_le_mul_left (a := (T : Int)) ?_ hTi
    have e8 : (T : Int) * ((q : Int) * v - p * X) = T * ((q : Int) * v) - T * (p * X) := Int.mul_sub ..
    have e9 : (T : Int) * (2 * (q : Int) * g) = 2 * (T * (q * g)) := by ac_rfl
    rw [e8, e9]
    exact mulc_u m1 hdi
  · refine Int.le_of_mul_le_mul_left (a := (T : Int)) ?_ hTi
    have e8 : (T : Int) * (p * X - (q : Int) * v) = T * (p * X) - T * ((q : Int) * v) := Int.mul_sub ..
    have e9 : (T : Int) * (2 * (q : Int) * g) = 2 * (T * (q * g)) := by ac_rfl
    rw [e8, e9]
    exact mulc_l m2 hdi
end Mine
end
section
open PySem
set_option Elab.async false
namespace Mine
open PySem.Float64
/- linear facts by a reflected sum: small terms for the kernel -/
def lAll (ctx : Int.Internal.Linear.Context) : List (Nat × Int.Internal.Linear.Expr × Int.Internal.Linear.Expr) → Prop
  | [] => True
  | (_, a, b) :: t => a.denote ctx ≤ b.denote ctx ∧ lAll ctx t
def lSum : List (Nat × Int.Internal.Linear.Expr × Int.Internal.Linear.Expr) → Int.Internal.Linear.Expr
  | [] => .num 0
  | (k, a, b) :: t => .add (.mulL k (.sub a b)) (lSum t)
def lOk (es : List (Nat × Int.Internal.Linear.Expr × Int.Internal.Linear.Expr)) (k : Nat) (l r : Int.Internal.Linear.Expr) : Bool :=
  match (Int.Internal.Linear.Expr.sub (.mulL k (.sub l r)) (lSum es)).norm with
  | .num c => decide (c ≤ 0) && decide (0 < k)
  | _ => false
theorem lSum_le (ctx : Int.Internal.Linear.Context) : ∀ es, lAll ctx es → (lSum es).denote ctx ≤ 0
  | [], _ => Int.le_refl 0
  | (k, a, b) :: t, h => by
    have h1 : a.denote ctx - b.denote ctx ≤ 0 := Int.sub_nonpos_of_le h.1
    have h2 : (k : Int) * (a.denote ctx - b.denote ctx) ≤ (k : Int) * 0 := Int.mul_le_mul_of_nonneg_left h1 (Int.natCast_nonneg k)
    rw [Int.mul_zero] at h2
    exact Int.add_le_add h2 (lSum_le ctx t h.2)
theorem lin (ctx : Int.Internal.Linear.Context) (es : List (Nat × Int.Internal.Linear.Expr × Int.Internal.Linear.Expr)) (k : Nat) (l r : Int.Internal.Linear.Expr) (h : lOk es k l r = true) (H : lAll ctx es) : l.denote ctx ≤ r.denote ctx := by
  have hs := lSum_le ctx es H
  unfold lOk at h
  split at h
  · next c e =>
    rw [Bool.and_eq_true, decide_eq_true_eq, decide_eq_true_eq] at h
    have hn := Int.Internal.Linear.Expr.denote_norm ctx (Int.Internal.Linear.Expr.sub (.mulL k (.sub l r)) (lSum es))
    rw [e] at hn
    have hn' : c = (k : Int) * (l.denote ctx - r.denote ctx) - (lSum es).denote ctx := hn
    have hk : (0 : Int) < (k : Int) := by omega
    have h3 : (k : Int) * (l.denote ctx - r.denote ctx) ≤ (k : Int) * 0 := by rw [Int.mul_zero]; omega
    have h4 := Int.le_of_mul_le_mul_left h3 hk
    omega
  · exact absurd h (by decide)
/- two-sided bounds -/
theorem abs2 {x : Int} {n : Nat} (h : x.natAbs ≤ n) : -(n : Int) ≤ x ∧ x ≤ n := by omega
theorem of_abs2 {x : Int} {n : Nat} (h1 : -(n : Int) ≤ x) (h2 : x ≤ n) : x.natAbs ≤ n := by omega
theorem of_absU {x : Int} {k : Nat} (h1 : -((k : Int) * uN) ≤ x) (h2 : x ≤ (k : Int) * uN) : x.natAbs ≤ k * uN := by
  refine of_abs2 ?_ ?_ <;> rw [Int.natCast_mul] <;> assumption
theorem absU {x : Int} {k : Nat} (h : x.natAbs ≤ k * uN) : -((k : Int) * uN) ≤ x ∧ x ≤ (k : Int) * uN := by
  rw [← Int.natCast_mul]; exact abs2 h
theorem u0 : (0 : Int) ≤ uN := Int.natCast_nonneg _
/-- a double within k steps of 0 -/
def Bd (k : Int) (x : UInt64) : Prop := Fn x ∧ -(k * uN) ≤ val x ∧ val x ≤ k * uN
theorem k_mono {k l : Int} (h : k ≤ l) : k * uN ≤ l * uN := Int.mul_le_mul_of_nonneg_right h u0
theorem Bd.mono {k l : Int} {x : UInt64} (h : Bd k x) (hk : k ≤ l) : Bd l x :=
  ⟨h.1, Int.le_trans (Int.neg_le_neg (k_mono hk)) h.2.1, Int.le_trans h.2.2 (k_mono hk)⟩
theorem near_bd {k : Int} {s v : Int} (h1 : -(k * uN) ≤ s) (h2 : s ≤ k * uN) (e1 : v - s ≤ uN) (e2 : s - v ≤ uN) : -((k + 1) * uN) ≤ v ∧ v ≤ (k + 1) * uN := by
  rw [Int.add_mul, Int.one_mul]
  generalize k * (uN : Int) = a at *
  omega
theorem to_abs {k : Int} {s : Int} (h1 : -(k * uN) ≤ s) (h2 : s ≤ k * uN) (hk : k ≤ 18014398509481984) : s.natAbs ≤ 18014398509481984 * uN :=
  of_absU (k := 18014398509481984) (Int.le_trans (Int.neg_le_neg (k_mono hk)) h1) (Int.le_trans h2 (k_mono hk))
theorem Bd.add {k l : Int} {x y : UInt64} (hx : Bd k x) (hy : Bd l y) (h : k + l ≤ 18014398509481984) :
    Bd (k + l + 1) (Float64.add x y) ∧ val (Float64.add x y) - (val x + val y) ≤ uN ∧ (val x + val y) - val (Float64.add x y) ≤ uN := by
  have h1 : -((k + l) * (uN : Int)) ≤ val x + val y := by rw [Int.add_mul, Int.neg_add]; exact Int.add_le_add hx.2.1 hy.2.1
  have h2 : val x + val y ≤ (k + l) * (uN : Int) := by rw [Int.add_mul]; exact Int.add_le_add hx.2.2 hy.2.2
  obtain ⟨f, e1, e2⟩ := add_near hx.1 hy.1 uN_eq (by decide) (to_abs h1 h2 h)
  exact ⟨⟨f, near_bd h1 h2 e1 e2⟩, e1, e2⟩
theorem Bd.sub {k l : Int} {x y : UInt64} (hx : Bd k x) (hy : Bd l y) (h : k + l ≤ 18014398509481984) :
    Bd (k + l + 1) (Float64.sub x y) ∧ val (Float64.sub x y) - (val x - val y) ≤ uN ∧ (val x - val y) - val (Float64.sub x y) ≤ uN := by
  have h1 : -((k + l) * (uN : Int)) ≤ val x - val y := by rw [Int.add_mul, Int.neg_add]; exact Int.sub_le_sub hx.2.1 hy.2.2
  have h2 : val x - val y ≤ (k + l) * (uN : Int) := by
    have := Int.sub_le_sub hx.2.2 hy.2.1
    rw [Int.sub_neg] at this
    rw [Int.add_mul]; exact this
  obtain ⟨f, e1, e2⟩ := sub_near hx.1 hy.1 uN_eq (by decide) (to_abs h1 h2 h)
  exact ⟨⟨f, near_bd h1 h2 e1 e2⟩, e1, e2⟩
/-- times a constant near p / q; j the bound of p / q -/
theorem mulk {c x : UInt64} {a : Bool} {m s : Nat} {k : Int} (p q e j : Nat) (he : 2 * q = e) (hc : decode c = .fin a m (-(s : Int))) (hs : s ≤ 1074) (hm : m ≤ 2 * 2 ^ s) (hq : 0 < q) (hpq : ((q : Int) * sgn a m - (p : Int) * ((2 ^ s : Nat) : Int)).natAbs * 2 ^ 53 ≤ q * 2 ^ s) (hj : p ≤ j * q)
    (hx : Bd k x) (hk : k ≤ 9007199254740992) : Bd (j * k + 2) (Float64.mul c x) ∧ (q : Int) * val (Float64.mul c x) - (p : Int) * val x ≤ (e : Int) * uN ∧ (p : Int) * val x - (q : Int) * val (Float64.mul c x) ≤ (e : Int) * uN := by
  subst he
  obtain ⟨fx, b1, b2⟩ := hx
  obtain ⟨f, e1, e2⟩ := mulc (p : Int) q hc hs hm hq hpq fx (of_absU (k := 9007199254740992) (Int.le_trans (Int.neg_le_neg (k_mono hk)) b1) (Int.le_trans b2 (k_mono hk)))
  have hqi : (0 : Int) < q := by omega
  have k0 : 0 ≤ k * (uN : Int) := by omega
  have hp : (p : Int) * (k * uN) ≤ (q : Int) * (j * k * uN) := by
    calc (p : Int) * (k * uN) ≤ ((j * q : Nat) : Int) * (k * uN) := Int.mul_le_mul_of_nonneg_right (by omega) k0
      _ = (q : Int) * (j * k * uN) := by rw [Int.natCast_mul]; ac_rfl
  have c1 : (p : Int) * val x ≤ p * (k * uN) := Int.mul_le_mul_of_nonneg_left b2 (by omega)
  have c2 : (p : Int) * -(k * uN) ≤ p * val x := Int.mul_le_mul_of_nonneg_left b1 (by omega)
  rw [Int.mul_neg] at c2
  have ee : 2 * (q : Int) * uN = q * (2 * uN) := by ac_rfl
  refine ⟨⟨f, ?_, ?_⟩, by simpa using e1, by simpa using e2⟩
  · refine Int.le_of_mul_le_mul_left (a := (q : Int)) ?_ hqi
    rw [ee] at e1 e2
    rw [Int.mul_neg, Int.add_mul, Int.mul_add]
    generalize (q : Int) * val (Float64.mul c x) = v at *
    omega
  · refine Int.le_of_mul_le_mul_left (a := (q : Int)) ?_ hqi
    rw [ee] at e1 e2
    rw [Int.add_mul, Int.mul_add]
    generalize (q : Int) * val (Float64.mul c x) = v at *
    omega
end Mine
end
section
open PySem
set_option Elab.async false
namespace Mine
theorem luma_u {m1 r u m2 g m3 b a1 a2 : Int} (h0 : 10 * m1 - 3 * r ≤ 20 * u) (h1 : 100 * m2 - 59 * g ≤ 200 * u) (h2 : 100 * m3 - 11 * b ≤ 200 * u) (h3 : a1 - (m1 + m2) ≤ u) (h4 : a2 - (a1 + m3) ≤ u) : 10000 * a2 - (3000 * r + 5900 * g + 1100 * b) ≤ 80000 * u :=
  lin (.branch 4 (.branch 2 (.branch 1 (.leaf m1) (.leaf r)) (.branch 3 (.leaf u) (.leaf m2))) (.branch 6 (.branch 5 (.leaf g) (.leaf m3)) (.branch 7 (.leaf b) (.branch 8 (.leaf a1) (.leaf a2))))) [(1000, (.sub (.mulL 10 (.var 0)) (.mulL 3 (.var 1))), (.mulL 20 (.var 2))), (100, (.sub (.mulL 100 (.var 3)) (.mulL 59 (.var 4))), (.mulL 200 (.var 2))), (100, (.sub (.mulL 100 (.var 5)) (.mulL 11 (.var 6))), (.mulL 200 (.var 2))), (10000, (.sub (.var 7) (.add (.var 0) (.var 3))), (.var 2)), (10000, (.sub (.var 8) (.add (.var 7) (.var 5))), (.var 2))] 1 (.sub (.mulL 10000 (.var 8)) (.add (.add (.mulL 3000 (.var 1)) (.mulL 5900 (.var 4))) (.mulL 1100 (.var 6)))) (.mulL 80000 (.var 2)) (by kernel_rfl) ⟨h0, h1, h2, h3, h4, trivial⟩
theorem luma_l {r m1 u g m2 b m3 a1 a2 : Int} (h0 : 3 * r - 10 * m1 ≤ 20 * u) (h1 : 59 * g - 100 * m2 ≤ 200 * u) (h2 : 11 * b - 100 * m3 ≤ 200 * u) (h3 : m1 + m2 - a1 ≤ u) (h4 : a1 + m3 - a2 ≤ u) : 3000 * r + 5900 * g + 1100 * b - 10000 * a2 ≤ 80000 * u :=
  lin (.branch 4 (.branch 2 (.branch 1 (.leaf r) (.leaf m1)) (.branch 3 (.leaf u) (.leaf g))) (.branch 6 (.branch 5 (.leaf m2) (.leaf b)) (.branch 7 (.leaf m3) (.branch 8 (.leaf a1) (.leaf a2))))) [(1000, (.sub (.mulL 3 (.var 0)) (.mulL 10 (.var 1))), (.mulL 20 (.var 2))), (100, (.sub (.mulL 59 (.var 3)) (.mulL 100 (.var 4))), (.mulL 200 (.var 2))), (100, (.sub (.mulL 11 (.var 5)) (.mulL 100 (.var 6))), (.mulL 200 (.var 2))), (10000, (.sub (.add (.var 1) (.var 4)) (.var 7)), (.var 2)), (10000, (.sub (.add (.var 7) (.var 6)) (.var 8)), (.var 2))] 1 (.sub (.add (.add (.mulL 3000 (.var 0)) (.mulL 5900 (.var 3))) (.mulL 1100 (.var 5))) (.mulL 10000 (.var 8))) (.mulL 80000 (.var 2)) (by kernel_rfl) ⟨h0, h1, h2, h3, h4, trivial⟩
theorem warm_u {l b r g u s1 s2 m1 m2 a : Int} (h0 : 3000 * r + 5900 * g + 1100 * b - 10000 * l ≤ 80000 * u) (h1 : s1 - (r - l) ≤ u) (h2 : b - l - s2 ≤ u) (h3 : 100 * m1 - 74 * s1 ≤ 200 * u) (h4 : 27 * s2 - 100 * m2 ≤ 200 * u) (h5 : a - (m1 - m2) ≤ u) (h6 : 0 ≤ u) : 10000 * a - (5990 * r - 2773 * g - 3217 * b) ≤ 150000 * u :=
  lin (.branch 5 (.branch 2 (.branch 1 (.leaf l) (.leaf b)) (.branch 3 (.leaf r) (.branch 4 (.leaf g) (.leaf u)))) (.branch 7 (.branch 6 (.leaf s1) (.leaf s2)) (.branch 8 (.leaf m1) (.branch 9 (.leaf m2) (.leaf a))))) [(47, (.sub (.add (.add (.mulL 3000 (.var 2)) (.mulL 5900 (.var 3))) (.mulL 1100 (.var 1))) (.mulL 10000 (.var 0))), (.mulL 80000 (.var 4))), (740000, (.sub (.var 5) (.sub (.var 2) (.var 0))), (.var 4)), (270000, (.sub (.sub (.var 1) (.var 0)) (.var 6)), (.var 4)), (10000, (.sub (.mulL 100 (.var 7)) (.mulL 74 (.var 5))), (.mulL 200 (.var 4))), (10000, (.sub (.mulL 27 (.var 6)) (.mulL 100 (.var 8))), (.mulL 200 (.var 4))), (1000000, (.sub (.var 9) (.sub (.var 7) (.var 8))), (.var 4)), (5230000, (.num 0), (.var 4))] 100 (.sub (.mulL 10000 (.var 9)) (.sub (.sub (.mulL 5990 (.var 2)) (.mulL 2773 (.var 3))) (.mulL 3217 (.var 1)))) (.mulL 150000 (.var 4)) (by kernel_rfl) ⟨h0, h1, h2, h3, h4, h5, h6, trivial⟩
theorem warm_l {l b r g u s1 s2 m1 m2 a : Int} (h0 : 10000 * l - (3000 * r + 5900 * g + 1100 * b) ≤ 80000 * u) (h1 : r - l - s1 ≤ u) (h2 : s2 - (b - l) ≤ u) (h3 : 74 * s1 - 100 * m1 ≤ 200 * u) (h4 : 100 * m2 - 27 * s2 ≤ 200 * u) (h5 : m1 - m2 - a ≤ u) (h6 : 0 ≤ u) : 5990 * r - 2773 * g - 3217 * b - 10000 * a ≤ 150000 * u :=
  lin (.branch 5 (.branch 2 (.branch 1 (.leaf l) (.leaf b)) (.branch 3 (.leaf r) (.branch 4 (.leaf g) (.leaf u)))) (.branch 7 (.branch 6 (.leaf s1) (.leaf s2)) (.branch 8 (.leaf m1) (.branch 9 (.leaf m2) (.leaf a))))) [(47, (.sub (.mulL 10000 (.var 0)) (.add (.add (.mulL 3000 (.var 2)) (.mulL 5900 (.var 3))) (.mulL 1100 (.var 1)))), (.mulL 80000 (.var 4))), (740000, (.sub (.sub (.var 2) (.var 0)) (.var 5)), (.var 4)), (270000, (.sub (.var 6) (.sub (.var 1) (.var 0))), (.var 4)), (10000, (.sub (.mulL 74 (.var 5)) (.mulL 100 (.var 7))), (.mulL 200 (.var 4))), (10000, (.sub (.mulL 100 (.var 8)) (.mulL 27 (.var 6))), (.mulL 200 (.var 4))), (1000000, (.sub (.sub (.var 7) (.var 8)) (.var 9)), (.var 4)), (5230000, (.num 0), (.var 4))] 100 (.sub (.sub (.sub (.mulL 5990 (.var 2)) (.mulL 2773 (.var 3))) (.mulL 3217 (.var 1))) (.mulL 10000 (.var 9))) (.mulL 150000 (.var 4)) (by kernel_rfl) ⟨h0, h1, h2, h3, h4, h5, h6, trivial⟩
theorem cool_u {l b r g u s1 s2 m1 m2 a : Int} (h0 : 3000 * r + 5900 * g + 1100 * b - 10000 * l ≤ 80000 * u) (h1 : s1 - (r - l) ≤ u) (h2 : s2 - (b - l) ≤ u) (h3 : 100 * m1 - 48 * s1 ≤ 200 * u) (h4 : 100 * m2 - 41 * s2 ≤ 200 * u) (h5 : a - (m1 + m2) ≤ u) (h6 : 0 ≤ u) : 10000 * a - (2130 * r - 5251 * g + 3121 * b) ≤ 150000 * u :=
  lin (.branch 5 (.branch 2 (.branch 1 (.leaf l) (.leaf b)) (.branch 3 (.leaf r) (.branch 4 (.leaf g) (.leaf u)))) (.branch 7 (.branch 6 (.leaf s1) (.leaf s2)) (.branch 8 (.leaf m1) (.branch 9 (.leaf m2) (.leaf a))))) [(89, (.sub (.add (.add (.mulL 3000 (.var 2)) (.mulL 5900 (.var 3))) (.mulL 1100 (.var 1))) (.mulL 10000 (.var 0))), (.mulL 80000 (.var 4))), (480000, (.sub (.var 5) (.sub (.var 2) (.var 0))), (.var 4)), (410000, (.sub (.var 6) (.sub (.var 1) (.var 0))), (.var 4)), (10000, (.sub (.mulL 100 (.var 7)) (.mulL 48 (.var 5))), (.mulL 200 (.var 4))), (10000, (.sub (.mulL 100 (.var 8)) (.mulL 41 (.var 6))), (.mulL 200 (.var 4))), (1000000, (.sub (.var 9) (.add (.var 7) (.var 8))), (.var 4)), (1990000, (.num 0), (.var 4))] 100 (.sub (.mulL 10000 (.var 9)) (.add (.sub (.mulL 2130 (.var 2)) (.mulL 5251 (.var 3))) (.mulL 3121 (.var 1)))) (.mulL 150000 (.var 4)) (by kernel_rfl) ⟨h0, h1, h2, h3, h4, h5, h6, trivial⟩
theorem cool_l {l b r g u s1 s2 m1 m2 a : Int} (h0 : 10000 * l - (3000 * r + 5900 * g + 1100 * b) ≤ 80000 * u) (h1 : r - l - s1 ≤ u) (h2 : b - l - s2 ≤ u) (h3 : 48 * s1 - 100 * m1 ≤ 200 * u) (h4 : 41 * s2 - 100 * m2 ≤ 200 * u) (h5 : m1 + m2 - a ≤ u) (h6 : 0 ≤ u) : 2130 * r - 5251 * g + 3121 * b - 10000 * a ≤ 150000 * u :=
  lin (.branch 5 (.branch 2 (.branch 1 (.leaf l) (.leaf b)) (.branch 3 (.leaf r) (.branch 4 (.leaf g) (.leaf u)))) (.branch 7 (.branch 6 (.leaf s1) (.leaf s2)) (.branch 8 (.leaf m1) (.branch 9 (.leaf m2) (.leaf a))))) [(89, (.sub (.mulL 10000 (.var 0)) (.add (.add (.mulL 3000 (.var 2)) (.mulL 5900 (.var 3))) (.mulL 1100 (.var 1)))), (.mulL 80000 (.var 4))), (480000, (.sub (.sub (.var 2) (.var 0)) (.var 5)), (.var 4)), (410000, (.sub (.sub (.var 1) (.var 0)) (.var 6)), (.var 4)), (10000, (.sub (.mulL 48 (.var 5)) (.mulL 100 (.var 7))), (.mulL 200 (.var 4))), (10000, (.sub (.mulL 41 (.var 6)) (.mulL 100 (.var 8))), (.mulL 200 (.var 4))), (1000000, (.sub (.add (.var 7) (.var 8)) (.var 9)), (.var 4)), (1990000, (.num 0), (.var 4))] 100 (.sub (.add (.sub (.mulL 2130 (.var 2)) (.mulL 5251 (.var 3))) (.mulL 3121 (.var 1))) (.mulL 10000 (.var 9))) (.mulL 150000 (.var 4)) (by kernel_rfl) ⟨h0, h1, h2, h3, h4, h5, h6, trivial⟩
theorem red_u {m1 i u m2 q a1 y a2 : Int} (h0 : 433 * m1 - 410 * i ≤ 866 * u) (h1 : 433 * m2 - 270 * q ≤ 866 * u) (h2 : a1 - (y + m1) ≤ u) (h3 : a2 - (a1 + m2) ≤ u) : 433 * a2 - (433 * y + 410 * i + 270 * q) ≤ 2598 * u :=
  lin (.branch 4 (.branch 2 (.branch 1 (.leaf m1) (.leaf i)) (.branch 3 (.leaf u) (.leaf m2))) (.branch 6 (.branch 5 (.leaf q) (.leaf a1)) (.branch 7 (.leaf y) (.leaf a2)))) [(1, (.sub (.mulL 433 (.var 0)) (.mulL 410 (.var 1))), (.mulL 866 (.var 2))), (1, (.sub (.mulL 433 (.var 3)) (.mulL 270 (.var 4))), (.mulL 866 (.var 2))), (433, (.sub (.var 5) (.add (.var 6) (.var 0))), (.var 2)), (433, (.sub (.var 7) (.add (.var 5) (.var 3))), (.var 2))] 1 (.sub (.mulL 433 (.var 7)) (.add (.add (.mulL 433 (.var 6)) (.mulL 410 (.var 1))) (.mulL 270 (.var 4)))) (.mulL 2598 (.var 2)) (by kernel_rfl) ⟨h0, h1, h2, h3, trivial⟩
theorem red_l {i m1 u q m2 a1 y a2 : Int} (h0 : 410 * i - 433 * m1 ≤ 866 * u) (h1 : 270 * q - 433 * m2 ≤ 866 * u) (h2 : y + m1 - a1 ≤ u) (h3 : a1 + m2 - a2 ≤ u) : 433 * y + 410 * i + 270 * q - 433 * a2 ≤ 2598 * u :=
  lin (.branch 4 (.branch 2 (.branch 1 (.leaf i) (.leaf m1)) (.branch 3 (.leaf u) (.leaf q))) (.branch 6 (.branch 5 (.leaf m2) (.leaf a1)) (.branch 7 (.leaf y) (.leaf a2)))) [(1, (.sub (.mulL 410 (.var 0)) (.mulL 433 (.var 1))), (.mulL 866 (.var 2))), (1, (.sub (.mulL 270 (.var 3)) (.mulL 433 (.var 4))), (.mulL 866 (.var 2))), (433, (.sub (.add (.var 6) (.var 1)) (.var 5)), (.var 2)), (433, (.sub (.add (.var 5) (.var 4)) (.var 7)), (.var 2))] 1 (.sub (.add (.add (.mulL 433 (.var 6)) (.mulL 410 (.var 0))) (.mulL 270 (.var 3))) (.mulL 433 (.var 7))) (.mulL 2598 (.var 2)) (by kernel_rfl) ⟨h0, h1, h2, h3, trivial⟩
theorem green_u {i m1 u q m2 a1 y a2 : Int} (h0 : 7020 * i - 25547 * m1 ≤ 51094 * u) (h1 : 16240 * q - 25547 * m2 ≤ 51094 * u) (h2 : a1 - (y - m1) ≤ u) (h3 : a2 - (a1 - m2) ≤ u) : 25547 * a2 - (25547 * y - 7020 * i - 16240 * q) ≤ 153282 * u :=
  lin (.branch 4 (.branch 2 (.branch 1 (.leaf i) (.leaf m1)) (.branch 3 (.leaf u) (.leaf q))) (.branch 6 (.branch 5 (.leaf m2) (.leaf a1)) (.branch 7 (.leaf y) (.leaf a2)))) [(1, (.sub (.mulL 7020 (.var 0)) (.mulL 25547 (.var 1))), (.mulL 51094 (.var 2))), (1, (.sub (.mulL 16240 (.var 3)) (.mulL 25547 (.var 4))), (.mulL 51094 (.var 2))), (25547, (.sub (.var 5) (.sub (.var 6) (.var 1))), (.var 2)), (25547, (.sub (.var 7) (.sub (.var 5) (.var 4))), (.var 2))] 1 (.sub (.mulL 25547 (.var 7)) (.sub (.sub (.mulL 25547 (.var 6)) (.mulL 7020 (.var 0))) (.mulL 16240 (.var 3)))) (.mulL 153282 (.var 2)) (by kernel_rfl) ⟨h0, h1, h2, h3, trivial⟩
theorem green_l {m1 i u m2 q a1 y a2 : Int} (h0 : 25547 * m1 - 7020 * i ≤ 51094 * u) (h1 : 25547 * m2 - 16240 * q ≤ 51094 * u) (h2 : y - m1 - a1 ≤ u) (h3 : a1 - m2 - a2 ≤ u) : 25547 * y - 7020 * i - 16240 * q - 25547 * a2 ≤ 153282 * u :=
  lin (.branch 4 (.branch 2 (.branch 1 (.leaf m1) (.leaf i)) (.branch 3 (.leaf u) (.leaf m2))) (.branch 6 (.branch 5 (.leaf q) (.leaf a1)) (.branch 7 (.leaf y) (.leaf a2)))) [(1, (.sub (.mulL 25547 (.var 0)) (.mulL 7020 (.var 1))), (.mulL 51094 (.var 2))), (1, (.sub (.mulL 25547 (.var 3)) (.mulL 16240 (.var 4))), (.mulL 51094 (.var 2))), (25547, (.sub (.sub (.var 6) (.var 0)) (.var 5)), (.var 2)), (25547, (.sub (.sub (.var 5) (.var 3)) (.var 7)), (.var 2))] 1 (.sub (.sub (.sub (.mulL 25547 (.var 6)) (.mulL 7020 (.var 1))) (.mulL 16240 (.var 4))) (.mulL 25547 (.var 7))) (.mulL 153282 (.var 2)) (by kernel_rfl) ⟨h0, h1, h2, h3, trivial⟩
theorem blue_u {i m1 u m2 q a1 y a2 : Int} (h0 : 480 * i - 433 * m1 ≤ 866 * u) (h1 : 433 * m2 - 740 * q ≤ 866 * u) (h2 : a1 - (y - m1) ≤ u) (h3 : a2 - (a1 + m2) ≤ u) : 433 * a2 - (433 * y - 480 * i + 740 * q) ≤ 2598 * u :=
  lin (.branch 4 (.branch 2 (.branch 1 (.leaf i) (.leaf m1)) (.branch 3 (.leaf u) (.leaf m2))) (.branch 6 (.branch 5 (.leaf q) (.leaf a1)) (.branch 7 (.leaf y) (.leaf a2)))) [(1, (.sub (.mulL 480 (.var 0)) (.mulL 433 (.var 1))), (.mulL 866 (.var 2))), (1, (.sub (.mulL 433 (.var 3)) (.mulL 740 (.var 4))), (.mulL 866 (.var 2))), (433, (.sub (.var 5) (.sub (.var 6) (.var 1))), (.var 2)), (433, (.sub (.var 7) (.add (.var 5) (.var 3))), (.var 2))] 1 (.sub (.mulL 433 (.var 7)) (.add (.sub (.mulL 433 (.var 6)) (.mulL 480 (.var 0))) (.mulL 740 (.var 4)))) (.mulL 2598 (.var 2)) (by kernel_rfl) ⟨h0, h1, h2, h3, trivial⟩
theorem blue_l {m1 i u q m2 a1 y a2 : Int} (h0 : 433 * m1 - 480 * i ≤ 866 * u) (h1 : 740 * q - 433 * m2 ≤ 866 * u) (h2 : y - m1 - a1 ≤ u) (h3 : a1 + m2 - a2 ≤ u) : 433 * y - 480 * i + 740 * q - 433 * a2 ≤ 2598 * u :=
  lin (.branch 4 (.branch 2 (.branch 1 (.leaf m1) (.leaf i)) (.branch 3 (.leaf u) (.leaf q))) (.branch 6 (.branch 5 (.leaf m2) (.leaf a1)) (.branch 7 (.leaf y) (.leaf a2)))) [(1, (.sub (.mulL 433 (.var 0)) (.mulL 480 (.var 1))), (.mulL 866 (.var 2))), (1, (.sub (.mulL 740 (.var 3)) (.mulL 433 (.var 4))), (.mulL 866 (.var 2))), (433, (.sub (.sub (.var 6) (.var 0)) (.var 5)), (.var 2)), (433, (.sub (.add (.var 5) (.var 4)) (.var 7)), (.var 2))] 1 (.sub (.add (.sub (.mulL 433 (.var 6)) (.mulL 480 (.var 1))) (.mulL 740 (.var 3))) (.mulL 433 (.var 7))) (.mulL 2598 (.var 2)) (by kernel_rfl) ⟨h0, h1, h2, h3, trivial⟩
theorem sum_y_u {R q y i z G B : Int} (h0 : 255 * (433 * y + 410 * i + 270 * q) - 433 * (4398046511104 * R) ≤ 110415 * z) (h1 : 255 * (25547 * y - 7020 * i - 16240 * q) - 25547 * (4398046511104 * G) ≤ 6514485 * z) (h2 : 255 * (433 * y - 480 * i + 740 * q) - 433 * (4398046511104 * B) ≤ 110415 * z) : 2550000 * y - 4398046511104 * (3000 * R + 5900 * G + 1100 * B) ≤ 2550000 * z :=
  lin (.branch 3 (.branch 1 (.leaf R) (.branch 2 (.leaf q) (.leaf y))) (.branch 5 (.branch 4 (.leaf i) (.leaf z)) (.branch 6 (.leaf G) (.leaf B)))) [(3000, (.sub (.mulL 255 (.add (.add (.mulL 433 (.var 2)) (.mulL 410 (.var 3))) (.mulL 270 (.var 1)))) (.mulL 433 (.mulL 4398046511104 (.var 0)))), (.mulL 110415 (.var 4))), (100, (.sub (.mulL 255 (.sub (.sub (.mulL 25547 (.var 2)) (.mulL 7020 (.var 3))) (.mulL 16240 (.var 1)))) (.mulL 25547 (.mulL 4398046511104 (.var 5)))), (.mulL 6514485 (.var 4))), (1100, (.sub (.mulL 255 (.add (.sub (.mulL 433 (.var 2)) (.mulL 480 (.var 3))) (.mulL 740 (.var 1)))) (.mulL 433 (.mulL 4398046511104 (.var 6)))), (.mulL 110415 (.var 4)))] 433 (.sub (.mulL 2550000 (.var 2)) (.mulL 4398046511104 (.add (.add (.mulL 3000 (.var 0)) (.mulL 5900 (.var 5))) (.mulL 1100 (.var 6))))) (.mulL 2550000 (.var 4)) (by kernel_rfl) ⟨h0, h1, h2, trivial⟩
theorem sum_y_l {R q y i z G B : Int} (h0 : 433 * (4398046511104 * R) - 255 * (433 * y + 410 * i + 270 * q) ≤ 110415 * z) (h1 : 25547 * (4398046511104 * G) - 255 * (25547 * y - 7020 * i - 16240 * q) ≤ 6514485 * z) (h2 : 433 * (4398046511104 * B) - 255 * (433 * y - 480 * i + 740 * q) ≤ 110415 * z) : 4398046511104 * (3000 * R + 5900 * G + 1100 * B) - 2550000 * y ≤ 2550000 * z :=
  lin (.branch 3 (.branch 1 (.leaf R) (.branch 2 (.leaf q) (.leaf y))) (.branch 5 (.branch 4 (.leaf i) (.leaf z)) (.branch 6 (.leaf G) (.leaf B)))) [(3000, (.sub (.mulL 433 (.mulL 4398046511104 (.var 0))) (.mulL 255 (.add (.add (.mulL 433 (.var 2)) (.mulL 410 (.var 3))) (.mulL 270 (.var 1))))), (.mulL 110415 (.var 4))), (100, (.sub (.mulL 25547 (.mulL 4398046511104 (.var 5))) (.mulL 255 (.sub (.sub (.mulL 25547 (.var 2)) (.mulL 7020 (.var 3))) (.mulL 16240 (.var 1))))), (.mulL 6514485 (.var 4))), (1100, (.sub (.mulL 433 (.mulL 4398046511104 (.var 6))) (.mulL 255 (.add (.sub (.mulL 433 (.var 2)) (.mulL 480 (.var 3))) (.mulL 740 (.var 1))))), (.mulL 110415 (.var 4)))] 433 (.sub (.mulL 4398046511104 (.add (.add (.mulL 3000 (.var 0)) (.mulL 5900 (.var 5))) (.mulL 1100 (.var 6)))) (.mulL 2550000 (.var 2))) (.mulL 2550000 (.var 4)) (by kernel_rfl) ⟨h0, h1, h2, trivial⟩
theorem mid_y_u {y B R G z u : Int} (h0 : 2550000 * y - 4398046511104 * (3000 * R + 5900 * G + 1100 * B) ≤ 2550000 * z) (h1 : z ≤ 60000 * u) (h2 : R ≤ 153000 * u) (h3 : G ≤ 153000 * u) (h4 : B ≤ 153000 * u) (h5 : 0 ≤ u) : y ≤ 3298534883328000 * u :=
  lin (.branch 3 (.branch 1 (.leaf y) (.branch 2 (.leaf B) (.leaf R))) (.branch 4 (.leaf G) (.branch 5 (.leaf z) (.leaf u)))) [(1, (.sub (.mulL 2550000 (.var 0)) (.mulL 4398046511104 (.add (.add (.mulL 3000 (.var 2)) (.mulL 5900 (.var 3))) (.mulL 1100 (.var 1))))), (.mulL 2550000 (.var 4))), (2550000, (.var 4), (.mulL 60000 (.var 5))), (13194139533312000, (.var 2), (.mulL 153000 (.var 5))), (25948474415513600, (.var 3), (.mulL 153000 (.var 5))), (4837851162214400, (.var 1), (.mulL 153000 (.var 5))), (1682252790344280000000, (.num 0), (.var 5))] 2550000 (.var 0) (.mulL 3298534883328000 (.var 5)) (by kernel_rfl) ⟨h0, h1, h2, h3, h4, h5, trivial⟩
theorem mid_y_l {y B R G z u : Int} (h0 : 4398046511104 * (3000 * R + 5900 * G + 1100 * B) - 2550000 * y ≤ 2550000 * z) (h1 : z ≤ 60000 * u) (h2 : -(153000 * u) ≤ R) (h3 : -(153000 * u) ≤ G) (h4 : -(153000 * u) ≤ B) (h5 : 0 ≤ u) : -(3298534883328000 * u) ≤ y :=
  lin (.branch 3 (.branch 1 (.leaf y) (.branch 2 (.leaf B) (.leaf R))) (.branch 4 (.leaf G) (.branch 5 (.leaf z) (.leaf u)))) [(1, (.sub (.mulL 4398046511104 (.add (.add (.mulL 3000 (.var 2)) (.mulL 5900 (.var 3))) (.mulL 1100 (.var 1)))) (.mulL 2550000 (.var 0))), (.mulL 2550000 (.var 4))), (2550000, (.var 4), (.mulL 60000 (.var 5))), (13194139533312000, (.neg (.mulL 153000 (.var 5))), (.var 2)), (25948474415513600, (.neg (.mulL 153000 (.var 5))), (.var 3)), (4837851162214400, (.neg (.mulL 153000 (.var 5))), (.var 1)), (1682252790344280000000, (.num 0), (.var 5))] 2550000 (.neg (.mulL 3298534883328000 (.var 5))) (.var 0) (by kernel_rfl) ⟨h0, h1, h2, h3, h4, h5, trivial⟩
theorem sum_i_u {R q y i z G B : Int} (h0 : 255 * (433 * y + 410 * i + 270 * q) - 433 * (4398046511104 * R) ≤ 110415 * z) (h1 : 25547 * (4398046511104 * G) - 255 * (25547 * y - 7020 * i - 16240 * q) ≤ 6514485 * z) (h2 : 433 * (4398046511104 * B) - 255 * (433 * y - 480 * i + 740 * q) ≤ 110415 * z) : 2550000 * i - 4398046511104 * (5990 * R - 2773 * G - 3217 * B) ≤ 3054900 * z :=
  lin (.branch 3 (.branch 1 (.leaf R) (.branch 2 (.leaf q) (.leaf y))) (.branch 5 (.branch 4 (.leaf i) (.leaf z)) (.branch 6 (.leaf G) (.leaf B)))) [(5990, (.sub (.mulL 255 (.add (.add (.mulL 433 (.var 2)) (.mulL 410 (.var 3))) (.mulL 270 (.var 1)))) (.mulL 433 (.mulL 4398046511104 (.var 0)))), (.mulL 110415 (.var 4))), (47, (.sub (.mulL 25547 (.mulL 4398046511104 (.var 5))) (.mulL 255 (.sub (.sub (.mulL 25547 (.var 2)) (.mulL 7020 (.var 3))) (.mulL 16240 (.var 1))))), (.mulL 6514485 (.var 4))), (3217, (.sub (.mulL 433 (.mulL 4398046511104 (.var 6))) (.mulL 255 (.add (.sub (.mulL 433 (.var 2)) (.mulL 480 (.var 3))) (.mulL 740 (.var 1))))), (.mulL 110415 (.var 4)))] 433 (.sub (.mulL 2550000 (.var 3)) (.mulL 4398046511104 (.sub (.sub (.mulL 5990 (.var 0)) (.mulL 2773 (.var 5))) (.mulL 3217 (.var 6))))) (.mulL 3054900 (.var 4)) (by kernel_rfl) ⟨h0, h1, h2, trivial⟩
theorem sum_i_l {R q y i z G B : Int} (h0 : 433 * (4398046511104 * R) - 255 * (433 * y + 410 * i + 270 * q) ≤ 110415 * z) (h1 : 255 * (25547 * y - 7020 * i - 16240 * q) - 25547 * (4398046511104 * G) ≤ 6514485 * z) (h2 : 255 * (433 * y - 480 * i + 740 * q) - 433 * (4398046511104 * B) ≤ 110415 * z) : 4398046511104 * (5990 * R - 2773 * G - 3217 * B) - 2550000 * i ≤ 3054900 * z :=
  lin (.branch 3 (.branch 1 (.leaf R) (.branch 2 (.leaf q) (.leaf y))) (.branch 5 (.branch 4 (.leaf i) (.leaf z)) (.branch 6 (.leaf G) (.leaf B)))) [(5990, (.sub (.mulL 433 (.mulL 4398046511104 (.var 0))) (.mulL 255 (.add (.add (.mulL 433 (.var 2)) (.mulL 410 (.var 3))) (.mulL 270 (.var 1))))), (.mulL 110415 (.var 4))), (47, (.sub (.mulL 255 (.sub (.sub (.mulL 25547 (.var 2)) (.mulL 7020 (.var 3))) (.mulL 16240 (.var 1)))) (.mulL 25547 (.mulL 4398046511104 (.var 5)))), (.mulL 6514485 (.var 4))), (3217, (.sub (.mulL 255 (.add (.sub (.mulL 433 (.var 2)) (.mulL 480 (.var 3))) (.mulL 740 (.var 1)))) (.mulL 433 (.mulL 4398046511104 (.var 6)))), (.mulL 110415 (.var 4)))] 433 (.sub (.mulL 4398046511104 (.sub (.sub (.mulL 5990 (.var 0)) (.mulL 2773 (.var 5))) (.mulL 3217 (.var 6)))) (.mulL 2550000 (.var 3))) (.mulL 3054900 (.var 4)) (by kernel_rfl) ⟨h0, h1, h2, trivial⟩
theorem mid_i_u {i B R G z u : Int} (h0 : 2550000 * i - 4398046511104 * (5990 * R - 2773 * G - 3217 * B) ≤ 3054900 * z) (h1 : z ≤ 60000 * u) (h2 : R ≤ 153000 * u) (h3 : -(153000 * u) ≤ G) (h4 : -(153000 * u) ≤ B) (h5 : 0 ≤ u) : i ≤ 3298534883328000 * u :=
  lin (.branch 3 (.branch 1 (.leaf i) (.branch 2 (.leaf B) (.leaf R))) (.branch 4 (.leaf G) (.branch 5 (.leaf z) (.leaf u)))) [(1, (.sub (.mulL 2550000 (.var 0)) (.mulL 4398046511104 (.sub (.sub (.mulL 5990 (.var 2)) (.mulL 2773 (.var 3))) (.mulL 3217 (.var 1))))), (.mulL 3054900 (.var 4))), (3054900, (.var 4), (.mulL 60000 (.var 5))), (26344298601512960, (.var 2), (.mulL 153000 (.var 5))), (12195782975291392, (.neg (.mulL 153000 (.var 5))), (.var 3)), (14148515626221568, (.neg (.mulL 153000 (.var 5))), (.var 1)), (349908580240140240000, (.num 0), (.var 5))] 2550000 (.var 0) (.mulL 3298534883328000 (.var 5)) (by kernel_rfl) ⟨h0, h1, h2, h3, h4, h5, trivial⟩
theorem mid_i_l {i B R G z u : Int} (h0 : 4398046511104 * (5990 * R - 2773 * G - 3217 * B) - 2550000 * i ≤ 3054900 * z) (h1 : z ≤ 60000 * u) (h2 : -(153000 * u) ≤ R) (h3 : G ≤ 153000 * u) (h4 : B ≤ 153000 * u) (h5 : 0 ≤ u) : -(3298534883328000 * u) ≤ i :=
  lin (.branch 3 (.branch 1 (.leaf i) (.branch 2 (.leaf B) (.leaf R))) (.branch 4 (.leaf G) (.branch 5 (.leaf z) (.leaf u)))) [(1, (.sub (.mulL 4398046511104 (.sub (.sub (.mulL 5990 (.var 2)) (.mulL 2773 (.var 3))) (.mulL 3217 (.var 1)))) (.mulL 2550000 (.var 0))), (.mulL 3054900 (.var 4))), (3054900, (.var 4), (.mulL 60000 (.var 5))), (26344298601512960, (.neg (.mulL 153000 (.var 5))), (.var 2)), (12195782975291392, (.var 3), (.mulL 153000 (.var 5))), (14148515626221568, (.var 1), (.mulL 153000 (.var 5))), (349908580240140240000, (.num 0), (.var 5))] 2550000 (.neg (.mulL 3298534883328000 (.var 5))) (.var 0) (by kernel_rfl) ⟨h0, h1, h2, h3, h4, h5, trivial⟩
theorem sum_q_u {R q y i z G B : Int} (h0 : 255 * (433 * y + 410 * i + 270 * q) - 433 * (4398046511104 * R) ≤ 110415 * z) (h1 : 25547 * (4398046511104 * G) - 255 * (25547 * y - 7020 * i - 16240 * q) ≤ 6514485 * z) (h2 : 255 * (433 * y - 480 * i + 740 * q) - 433 * (4398046511104 * B) ≤ 110415 * z) : 2550000 * q - 4398046511104 * (2130 * R - 5251 * G + 3121 * B) ≤ 2678010 * z :=
  lin (.branch 3 (.branch 1 (.leaf R) (.branch 2 (.leaf q) (.leaf y))) (.branch 5 (.branch 4 (.leaf i) (.leaf z)) (.branch 6 (.leaf G) (.leaf B)))) [(2130, (.sub (.mulL 255 (.add (.add (.mulL 433 (.var 2)) (.mulL 410 (.var 3))) (.mulL 270 (.var 1)))) (.mulL 433 (.mulL 4398046511104 (.var 0)))), (.mulL 110415 (.var 4))), (89, (.sub (.mulL 25547 (.mulL 4398046511104 (.var 5))) (.mulL 255 (.sub (.sub (.mulL 25547 (.var 2)) (.mulL 7020 (.var 3))) (.mulL 16240 (.var 1))))), (.mulL 6514485 (.var 4))), (3121, (.sub (.mulL 255 (.add (.sub (.mulL 433 (.var 2)) (.mulL 480 (.var 3))) (.mulL 740 (.var 1)))) (.mulL 433 (.mulL 4398046511104 (.var 6)))), (.mulL 110415 (.var 4)))] 433 (.sub (.mulL 2550000 (.var 1)) (.mulL 4398046511104 (.add (.sub (.mulL 2130 (.var 0)) (.mulL 5251 (.var 5))) (.mulL 3121 (.var 6))))) (.mulL 2678010 (.var 4)) (by kernel_rfl) ⟨h0, h1, h2, trivial⟩
theorem sum_q_l {R q y i z G B : Int} (h0 : 433 * (4398046511104 * R) - 255 * (433 * y + 410 * i + 270 * q) ≤ 110415 * z) (h1 : 255 * (25547 * y - 7020 * i - 16240 * q) - 25547 * (4398046511104 * G) ≤ 6514485 * z) (h2 : 433 * (4398046511104 * B) - 255 * (433 * y - 480 * i + 740 * q) ≤ 110415 * z) : 4398046511104 * (2130 * R - 5251 * G + 3121 * B) - 2550000 * q ≤ 2678010 * z :=
  lin (.branch 3 (.branch 1 (.leaf R) (.branch 2 (.leaf q) (.leaf y))) (.branch 5 (.branch 4 (.leaf i) (.leaf z)) (.branch 6 (.leaf G) (.leaf B)))) [(2130, (.sub (.mulL 433 (.mulL 4398046511104 (.var 0))) (.mulL 255 (.add (.add (.mulL 433 (.var 2)) (.mulL 410 (.var 3))) (.mulL 270 (.var 1))))), (.mulL 110415 (.var 4))), (89, (.sub (.mulL 255 (.sub (.sub (.mulL 25547 (.var 2)) (.mulL 7020 (.var 3))) (.mulL 16240 (.var 1)))) (.mulL 25547 (.mulL 4398046511104 (.var 5)))), (.mulL 6514485 (.var 4))), (3121, (.sub (.mulL 433 (.mulL 4398046511104 (.var 6))) (.mulL 255 (.add (.sub (.mulL 433 (.var 2)) (.mulL 480 (.var 3))) (.mulL 740 (.var 1))))), (.mulL 110415 (.var 4)))] 433 (.sub (.mulL 4398046511104 (.add (.sub (.mulL 2130 (.var 0)) (.mulL 5251 (.var 5))) (.mulL 3121 (.var 6)))) (.mulL 2550000 (.var 1))) (.mulL 2678010 (.var 4)) (by kernel_rfl) ⟨h0, h1, h2, trivial⟩
theorem mid_q_u {q B R G z u : Int} (h0 : 2550000 * q - 4398046511104 * (2130 * R - 5251 * G + 3121 * B) ≤ 2678010 * z) (h1 : z ≤ 60000 * u) (h2 : R ≤ 153000 * u) (h3 : -(153000 * u) ≤ G) (h4 : B ≤ 153000 * u) (h5 : 0 ≤ u) : q ≤ 3298534883328000 * u :=
  lin (.branch 3 (.branch 1 (.leaf q) (.branch 2 (.leaf B) (.leaf R))) (.branch 4 (.leaf G) (.branch 5 (.leaf z) (.leaf u)))) [(1, (.sub (.mulL 2550000 (.var 0)) (.mulL 4398046511104 (.add (.sub (.mulL 2130 (.var 2)) (.mulL 5251 (.var 3))) (.mulL 3121 (.var 1))))), (.mulL 2678010 (.var 4))), (2678010, (.var 4), (.mulL 60000 (.var 5))), (9367839068651520, (.var 2), (.mulL 153000 (.var 5))), (23094142229807104, (.neg (.mulL 153000 (.var 5))), (.var 3)), (13726303161155584, (.var 1), (.mulL 153000 (.var 5))), (1344456430004745576000, (.num 0), (.var 5))] 2550000 (.var 0) (.mulL 3298534883328000 (.var 5)) (by kernel_rfl) ⟨h0, h1, h2, h3, h4, h5, trivial⟩
theorem mid_q_l {q B R G z u : Int} (h0 : 4398046511104 * (2130 * R - 5251 * G + 3121 * B) - 2550000 * q ≤ 2678010 * z) (h1 : z ≤ 60000 * u) (h2 : -(153000 * u) ≤ R) (h3 : G ≤ 153000 * u) (h4 : -(153000 * u) ≤ B) (h5 : 0 ≤ u) : -(3298534883328000 * u) ≤ q :=
  lin (.branch 3 (.branch 1 (.leaf q) (.branch 2 (.leaf B) (.leaf R))) (.branch 4 (.leaf G) (.branch 5 (.leaf z) (.leaf u)))) [(1, (.sub (.mulL 4398046511104 (.add (.sub (.mulL 2130 (.var 2)) (.mulL 5251 (.var 3))) (.mulL 3121 (.var 1)))) (.mulL 2550000 (.var 0))), (.mulL 2678010 (.var 4))), (2678010, (.var 4), (.mulL 60000 (.var 5))), (9367839068651520, (.neg (.mulL 153000 (.var 5))), (.var 2)), (23094142229807104, (.var 3), (.mulL 153000 (.var 5))), (13726303161155584, (.neg (.mulL 153000 (.var 5))), (.var 1)), (1344456430004745576000, (.num 0), (.var 5))] 2550000 (.neg (.mulL 3298534883328000 (.var 5))) (.var 0) (by kernel_rfl) ⟨h0, h1, h2, h3, h4, h5, trivial⟩
theorem comp_u {a y m u p n : Int} (h0 : a - (y + m) ≤ u) (h1 : m - p ≤ u) (h2 : 2550000 * p - 4398046511104 * n ≤ 24 * (43350000 * u)) : 2550000 * (a - y) - 4398046511104 * n ≤ 1045500000 * u :=
  lin (.branch 3 (.branch 1 (.leaf a) (.branch 2 (.leaf y) (.leaf m))) (.branch 4 (.leaf u) (.branch 5 (.leaf p) (.leaf n)))) [(2550000, (.sub (.var 0) (.add (.var 1) (.var 2))), (.var 3)), (2550000, (.sub (.var 2) (.var 4)), (.var 3)), (1, (.sub (.mulL 2550000 (.var 4)) (.mulL 4398046511104 (.var 5))), (.mulL 24 (.mulL 43350000 (.var 3))))] 1 (.sub (.mulL 2550000 (.sub (.var 0) (.var 1))) (.mulL 4398046511104 (.var 5))) (.mulL 1045500000 (.var 3)) (by kernel_rfl) ⟨h0, h1, h2, trivial⟩
theorem comp_l {a y m u p n : Int} (h0 : y + m - a ≤ u) (h1 : p - m ≤ u) (h2 : 4398046511104 * n - 2550000 * p ≤ 24 * (43350000 * u)) : 4398046511104 * n - 2550000 * (a - y) ≤ 1045500000 * u :=
  lin (.branch 3 (.branch 1 (.leaf a) (.branch 2 (.leaf y) (.leaf m))) (.branch 4 (.leaf u) (.branch 5 (.leaf p) (.leaf n)))) [(2550000, (.sub (.add (.var 1) (.var 2)) (.var 0)), (.var 3)), (2550000, (.sub (.var 4) (.var 2)), (.var 3)), (1, (.sub (.mulL 4398046511104 (.var 5)) (.mulL 2550000 (.var 4))), (.mulL 24 (.mulL 43350000 (.var 3))))] 1 (.sub (.mulL 4398046511104 (.var 5)) (.mulL 2550000 (.sub (.var 0) (.var 1)))) (.mulL 1045500000 (.var 3)) (by kernel_rfl) ⟨h0, h1, h2, trivial⟩
theorem comp_b_u {v n u : Int} (h0 : 2550000 * v - 4398046511104 * n ≤ 43350000 * u) (h1 : n ≤ 4000000 * u) (h2 : 0 ≤ u) : v ≤ 8000000000000 * u :=
  lin (.branch 1 (.leaf v) (.branch 2 (.leaf n) (.leaf u))) [(1, (.sub (.mulL 2550000 (.var 0)) (.mulL 4398046511104 (.var 1))), (.mulL 43350000 (.var 2))), (4398046511104, (.var 1), (.mulL 4000000 (.var 2))), (2807813955540650000, (.num 0), (.var 2))] 2550000 (.var 0) (.mulL 8000000000000 (.var 2)) (by kernel_rfl) ⟨h0, h1, h2, trivial⟩
theorem comp_b_l {n v u : Int} (h0 : 4398046511104 * n - 2550000 * v ≤ 43350000 * u) (h1 : -(4000000 * u) ≤ n) (h2 : 0 ≤ u) : -(8000000000000 * u) ≤ v :=
  lin (.branch 1 (.leaf n) (.branch 2 (.leaf v) (.leaf u))) [(1, (.sub (.mulL 4398046511104 (.var 0)) (.mulL 2550000 (.var 1))), (.mulL 43350000 (.var 2))), (4398046511104, (.neg (.mulL 4000000 (.var 2))), (.var 0)), (2807813955540650000, (.num 0), (.var 2))] 2550000 (.neg (.mulL 8000000000000 (.var 2))) (.var 1) (by kernel_rfl) ⟨h0, h1, h2, trivial⟩
theorem part_y_u {v d a b u R G B : Int} (h0 : 10000 * v - (3000 * a + 5900 * b + 1100 * d) ≤ 80000 * u) (h1 : 255 * a - 4398046511104 * R ≤ 255 * u) (h2 : 255 * b - 4398046511104 * G ≤ 255 * u) (h3 : 255 * d - 4398046511104 * B ≤ 255 * u) (h4 : 0 ≤ u) : 2550000 * v - 4398046511104 * (3000 * R + 5900 * G + 1100 * B) ≤ 43350000 * u :=
  lin (.branch 4 (.branch 2 (.branch 1 (.leaf v) (.leaf d)) (.branch 3 (.leaf a) (.leaf b))) (.branch 6 (.branch 5 (.leaf u) (.leaf R)) (.branch 7 (.leaf G) (.leaf B)))) [(255, (.sub (.mulL 10000 (.var 0)) (.add (.add (.mulL 3000 (.var 2)) (.mulL 5900 (.var 3))) (.mulL 1100 (.var 1)))), (.mulL 80000 (.var 4))), (3000, (.sub (.mulL 255 (.var 2)) (.mulL 4398046511104 (.var 5))), (.mulL 255 (.var 4))), (5900, (.sub (.mulL 255 (.var 3)) (.mulL 4398046511104 (.var 6))), (.mulL 255 (.var 4))), (1100, (.sub (.mulL 255 (.var 1)) (.mulL 4398046511104 (.var 7))), (.mulL 255 (.var 4))), (20400000, (.num 0), (.var 4))] 1 (.sub (.mulL 2550000 (.var 0)) (.mulL 4398046511104 (.add (.add (.mulL 3000 (.var 5)) (.mulL 5900 (.var 6))) (.mulL 1100 (.var 7))))) (.mulL 43350000 (.var 4)) (by kernel_rfl) ⟨h0, h1, h2, h3, h4, trivial⟩
theorem part_y_l {v d a b u R G B : Int} (h0 : 3000 * a + 5900 * b + 1100 * d - 10000 * v ≤ 80000 * u) (h1 : 4398046511104 * R - 255 * a ≤ 255 * u) (h2 : 4398046511104 * G - 255 * b ≤ 255 * u) (h3 : 4398046511104 * B - 255 * d ≤ 255 * u) (h4 : 0 ≤ u) : 4398046511104 * (3000 * R + 5900 * G + 1100 * B) - 2550000 * v ≤ 43350000 * u :=
  lin (.branch 4 (.branch 2 (.branch 1 (.leaf v) (.leaf d)) (.branch 3 (.leaf a) (.leaf b))) (.branch 6 (.branch 5 (.leaf u) (.leaf R)) (.branch 7 (.leaf G) (.leaf B)))) [(255, (.sub (.add (.add (.mulL 3000 (.var 2)) (.mulL 5900 (.var 3))) (.mulL 1100 (.var 1))) (.mulL 10000 (.var 0))), (.mulL 80000 (.var 4))), (3000, (.sub (.mulL 4398046511104 (.var 5)) (.mulL 255 (.var 2))), (.mulL 255 (.var 4))), (5900, (.sub (.mulL 4398046511104 (.var 6)) (.mulL 255 (.var 3))), (.mulL 255 (.var 4))), (1100, (.sub (.mulL 4398046511104 (.var 7)) (.mulL 255 (.var 1))), (.mulL 255 (.var 4))), (20400000, (.num 0), (.var 4))] 1 (.sub (.mulL 4398046511104 (.add (.add (.mulL 3000 (.var 5)) (.mulL 5900 (.var 6))) (.mulL 1100 (.var 7)))) (.mulL 2550000 (.var 0))) (.mulL 43350000 (.var 4)) (by kernel_rfl) ⟨h0, h1, h2, h3, h4, trivial⟩
theorem num_y_u {R u G B : Int} (h0 : R ≤ 255 * u) (h1 : G ≤ 255 * u) (h2 : B ≤ 255 * u) (h3 : 0 ≤ u) : 3000 * R + 5900 * G + 1100 * B ≤ 4000000 * u :=
  lin (.branch 2 (.branch 1 (.leaf R) (.leaf u)) (.branch 3 (.leaf G) (.leaf B))) [(3000, (.var 0), (.mulL 255 (.var 1))), (5900, (.var 2), (.mulL 255 (.var 1))), (1100, (.var 3), (.mulL 255 (.var 1))), (1450000, (.num 0), (.var 1))] 1 (.add (.add (.mulL 3000 (.var 0)) (.mulL 5900 (.var 2))) (.mulL 1100 (.var 3))) (.mulL 4000000 (.var 1)) (by kernel_rfl) ⟨h0, h1, h2, h3, trivial⟩
theorem num_y_l {R G B u : Int} (h0 : 0 ≤ R) (h1 : 0 ≤ G) (h2 : 0 ≤ B) (h3 : 0 ≤ u) : -(4000000 * u) ≤ 3000 * R + 5900 * G + 1100 * B :=
  lin (.branch 2 (.branch 1 (.leaf R) (.leaf G)) (.branch 3 (.leaf B) (.leaf u))) [(3000, (.num 0), (.var 0)), (5900, (.num 0), (.var 1)), (1100, (.num 0), (.var 2)), (4000000, (.num 0), (.var 3))] 1 (.neg (.mulL 4000000 (.var 3))) (.add (.add (.mulL 3000 (.var 0)) (.mulL 5900 (.var 1))) (.mulL 1100 (.var 2))) (by kernel_rfl) ⟨h0, h1, h2, h3, trivial⟩
theorem part_i_u {v d a b u R G B : Int} (h0 : 10000 * v - (5990 * a - 2773 * b - 3217 * d) ≤ 150000 * u) (h1 : 255 * a - 4398046511104 * R ≤ 255 * u) (h2 : 4398046511104 * G - 255 * b ≤ 255 * u) (h3 : 4398046511104 * B - 255 * d ≤ 255 * u) (h4 : 0 ≤ u) : 2550000 * v - 4398046511104 * (5990 * R - 2773 * G - 3217 * B) ≤ 43350000 * u :=
  lin (.branch 4 (.branch 2 (.branch 1 (.leaf v) (.leaf d)) (.branch 3 (.leaf a) (.leaf b))) (.branch 6 (.branch 5 (.leaf u) (.leaf R)) (.branch 7 (.leaf G) (.leaf B)))) [(255, (.sub (.mulL 10000 (.var 0)) (.sub (.sub (.mulL 5990 (.var 2)) (.mulL 2773 (.var 3))) (.mulL 3217 (.var 1)))), (.mulL 150000 (.var 4))), (5990, (.sub (.mulL 255 (.var 2)) (.mulL 4398046511104 (.var 5))), (.mulL 255 (.var 4))), (2773, (.sub (.mulL 4398046511104 (.var 6)) (.mulL 255 (.var 3))), (.mulL 255 (.var 4))), (3217, (.sub (.mulL 4398046511104 (.var 7)) (.mulL 255 (.var 1))), (.mulL 255 (.var 4))), (2045100, (.num 0), (.var 4))] 1 (.sub (.mulL 2550000 (.var 0)) (.mulL 4398046511104 (.sub (.sub (.mulL 5990 (.var 5)) (.mulL 2773 (.var 6))) (.mulL 3217 (.var 7))))) (.mulL 43350000 (.var 4)) (by kernel_rfl) ⟨h0, h1, h2, h3, h4, trivial⟩
theorem part_i_l {v d a b u R G B : Int} (h0 : 5990 * a - 2773 * b - 3217 * d - 10000 * v ≤ 150000 * u) (h1 : 4398046511104 * R - 255 * a ≤ 255 * u) (h2 : 255 * b - 4398046511104 * G ≤ 255 * u) (h3 : 255 * d - 4398046511104 * B ≤ 255 * u) (h4 : 0 ≤ u) : 4398046511104 * (5990 * R - 2773 * G - 3217 * B) - 2550000 * v ≤ 43350000 * u :=
  lin (.branch 4 (.branch 2 (.branch 1 (.leaf v) (.leaf d)) (.branch 3 (.leaf a) (.leaf b))) (.branch 6 (.branch 5 (.leaf u) (.leaf R)) (.branch 7 (.leaf G) (.leaf B)))) [(255, (.sub (.sub (.sub (.mulL 5990 (.var 2)) (.mulL 2773 (.var 3))) (.mulL 3217 (.var 1))) (.mulL 10000 (.var 0))), (.mulL 150000 (.var 4))), (5990, (.sub (.mulL 4398046511104 (.var 5)) (.mulL 255 (.var 2))), (.mulL 255 (.var 4))), (2773, (.sub (.mulL 255 (.var 3)) (.mulL 4398046511104 (.var 6))), (.mulL 255 (.var 4))), (3217, (.sub (.mulL 255 (.var 1)) (.mulL 4398046511104 (.var 7))), (.mulL 255 (.var 4))), (2045100, (.num 0), (.var 4))] 1 (.sub (.mulL 4398046511104 (.sub (.sub (.mulL 5990 (.var 5)) (.mulL 2773 (.var 6))) (.mulL 3217 (.var 7)))) (.mulL 2550000 (.var 0))) (.mulL 43350000 (.var 4)) (by kernel_rfl) ⟨h0, h1, h2, h3, h4, trivial⟩
theorem num_i_u {R u G B : Int} (h0 : R ≤ 255 * u) (h1 : 0 ≤ G) (h2 : 0 ≤ B) (h3 : 0 ≤ u) : 5990 * R - 2773 * G - 3217 * B ≤ 4000000 * u :=
  lin (.branch 2 (.branch 1 (.leaf R) (.leaf u)) (.branch 3 (.leaf G) (.leaf B))) [(5990, (.var 0), (.mulL 255 (.var 1))), (2773, (.num 0), (.var 2)), (3217, (.num 0), (.var 3)), (2472550, (.num 0), (.var 1))] 1 (.sub (.sub (.mulL 5990 (.var 0)) (.mulL 2773 (.var 2))) (.mulL 3217 (.var 3))) (.mulL 4000000 (.var 1)) (by kernel_rfl) ⟨h0, h1, h2, h3, trivial⟩
theorem num_i_l {R G u B : Int} (h0 : 0 ≤ R) (h1 : G ≤ 255 * u) (h2 : B ≤ 255 * u) (h3 : 0 ≤ u) : -(4000000 * u) ≤ 5990 * R - 2773 * G - 3217 * B :=
  lin (.branch 2 (.branch 1 (.leaf R) (.leaf G)) (.branch 3 (.leaf u) (.leaf B))) [(5990, (.num 0), (.var 0)), (2773, (.var 1), (.mulL 255 (.var 2))), (3217, (.var 3), (.mulL 255 (.var 2))), (2472550, (.num 0), (.var 2))] 1 (.neg (.mulL 4000000 (.var 2))) (.sub (.sub (.mulL 5990 (.var 0)) (.mulL 2773 (.var 1))) (.mulL 3217 (.var 3))) (by kernel_rfl) ⟨h0, h1, h2, h3, trivial⟩
theorem part_q_u {v d a b u R G B : Int} (h0 : 10000 * v - (2130 * a - 5251 * b + 3121 * d) ≤ 150000 * u) (h1 : 255 * a - 4398046511104 * R ≤ 255 * u) (h2 : 4398046511104 * G - 255 * b ≤ 255 * u) (h3 : 255 * d - 4398046511104 * B ≤ 255 * u) (h4 : 0 ≤ u) : 2550000 * v - 4398046511104 * (2130 * R - 5251 * G + 3121 * B) ≤ 43350000 * u :=
  lin (.branch 4 (.branch 2 (.branch 1 (.leaf v) (.leaf d)) (.branch 3 (.leaf a) (.leaf b))) (.branch 6 (.branch 5 (.leaf u) (.leaf R)) (.branch 7 (.leaf G) (.leaf B)))) [(255, (.sub (.mulL 10000 (.var 0)) (.add (.sub (.mulL 2130 (.var 2)) (.mulL 5251 (.var 3))) (.mulL 3121 (.var 1)))), (.mulL 150000 (.var 4))), (2130, (.sub (.mulL 255 (.var 2)) (.mulL 4398046511104 (.var 5))), (.mulL 255 (.var 4))), (5251, (.sub (.mulL 4398046511104 (.var 6)) (.mulL 255 (.var 3))), (.mulL 255 (.var 4))), (3121, (.sub (.mulL 255 (.var 1)) (.mulL 4398046511104 (.var 7))), (.mulL 255 (.var 4))), (2421990, (.num 0), (.var 4))] 1 (.sub (.mulL 2550000 (.var 0)) (.mulL 4398046511104 (.add (.sub (.mulL 2130 (.var 5)) (.mulL 5251 (.var 6))) (.mulL 3121 (.var 7))))) (.mulL 43350000 (.var 4)) (by kernel_rfl) ⟨h0, h1, h2, h3, h4, trivial⟩
theorem part_q_l {v d a b u R G B : Int} (h0 : 2130 * a - 5251 * b + 3121 * d - 10000 * v ≤ 150000 * u) (h1 : 4398046511104 * R - 255 * a ≤ 255 * u) (h2 : 255 * b - 4398046511104 * G ≤ 255 * u) (h3 : 4398046511104 * B - 255 * d ≤ 255 * u) (h4 : 0 ≤ u) : 4398046511104 * (2130 * R - 5251 * G + 3121 * B) - 2550000 * v ≤ 43350000 * u :=
  lin (.branch 4 (.branch 2 (.branch 1 (.leaf v) (.leaf d)) (.branch 3 (.leaf a) (.leaf b))) (.branch 6 (.branch 5 (.leaf u) (.leaf R)) (.branch 7 (.leaf G) (.leaf B)))) [(255, (.sub (.add (.sub (.mulL 2130 (.var 2)) (.mulL 5251 (.var 3))) (.mulL 3121 (.var 1))) (.mulL 10000 (.var 0))), (.mulL 150000 (.var 4))), (2130, (.sub (.mulL 4398046511104 (.var 5)) (.mulL 255 (.var 2))), (.mulL 255 (.var 4))), (5251, (.sub (.mulL 255 (.var 3)) (.mulL 4398046511104 (.var 6))), (.mulL 255 (.var 4))), (3121, (.sub (.mulL 4398046511104 (.var 7)) (.mulL 255 (.var 1))), (.mulL 255 (.var 4))), (2421990, (.num 0), (.var 4))] 1 (.sub (.mulL 4398046511104 (.add (.sub (.mulL 2130 (.var 5)) (.mulL 5251 (.var 6))) (.mulL 3121 (.var 7)))) (.mulL 2550000 (.var 0))) (.mulL 43350000 (.var 4)) (by kernel_rfl) ⟨h0, h1, h2, h3, h4, trivial⟩
theorem num_q_u {R u G B : Int} (h0 : R ≤ 255 * u) (h1 : 0 ≤ G) (h2 : B ≤ 255 * u) (h3 : 0 ≤ u) : 2130 * R - 5251 * G + 3121 * B ≤ 4000000 * u :=
  lin (.branch 2 (.branch 1 (.leaf R) (.leaf u)) (.branch 3 (.leaf G) (.leaf B))) [(2130, (.var 0), (.mulL 255 (.var 1))), (5251, (.num 0), (.var 2)), (3121, (.var 3), (.mulL 255 (.var 1))), (2660995, (.num 0), (.var 1))] 1 (.add (.sub (.mulL 2130 (.var 0)) (.mulL 5251 (.var 2))) (.mulL 3121 (.var 3))) (.mulL 4000000 (.var 1)) (by kernel_rfl) ⟨h0, h1, h2, h3, trivial⟩
theorem num_q_l {R G u B : Int} (h0 : 0 ≤ R) (h1 : G ≤ 255 * u) (h2 : 0 ≤ B) (h3 : 0 ≤ u) : -(4000000 * u) ≤ 2130 * R - 5251 * G + 3121 * B :=
  lin (.branch 2 (.branch 1 (.leaf R) (.leaf G)) (.branch 3 (.leaf u) (.leaf B))) [(2130, (.num 0), (.var 0)), (5251, (.var 1), (.mulL 255 (.var 2))), (3121, (.num 0), (.var 3)), (2660995, (.num 0), (.var 2))] 1 (.neg (.mulL 4000000 (.var 2))) (.add (.sub (.mulL 2130 (.var 0)) (.mulL 5251 (.var 1))) (.mulL 3121 (.var 3))) (by kernel_rfl) ⟨h0, h1, h2, h3, trivial⟩
theorem step_red_u {R q y i z Y D A C u I Q : Int} (h0 : 255 * (433 * y + 410 * i + 270 * q) - 433 * (4398046511104 * R) ≤ 110415 * z) (h1 : 2550000 * (Y - y) - 4398046511104 * (3000 * A + 5900 * C + 1100 * D) ≤ 1045500000 * u) (h2 : 2550000 * (I - i) - 4398046511104 * (5990 * A - 2773 * C - 3217 * D) ≤ 1045500000 * u) (h3 : 2550000 * (Q - q) - 4398046511104 * (2130 * A - 5251 * C + 3121 * D) ≤ 1045500000 * u) (h4 : 0 ≤ u) : 255 * (433 * Y + 410 * I + 270 * Q) - 433 * (4398046511104 * (R + A)) ≤ 110415 * (z + 1700 * u) :=
  lin (.branch 6 (.branch 3 (.branch 1 (.leaf R) (.branch 2 (.leaf q) (.leaf y))) (.branch 4 (.leaf i) (.branch 5 (.leaf z) (.leaf Y)))) (.branch 9 (.branch 7 (.leaf D) (.branch 8 (.leaf A) (.leaf C))) (.branch 10 (.leaf u) (.branch 11 (.leaf I) (.leaf Q))))) [(10000, (.sub (.mulL 255 (.add (.add (.mulL 433 (.var 2)) (.mulL 410 (.var 3))) (.mulL 270 (.var 1)))) (.mulL 433 (.mulL 4398046511104 (.var 0)))), (.mulL 110415 (.var 4))), (433, (.sub (.mulL 2550000 (.sub (.var 5) (.var 2))) (.mulL 4398046511104 (.add (.add (.mulL 3000 (.var 7)) (.mulL 5900 (.var 8))) (.mulL 1100 (.var 6))))), (.mulL 1045500000 (.var 9))), (410, (.sub (.mulL 2550000 (.sub (.var 10) (.var 3))) (.mulL 4398046511104 (.sub (.sub (.mulL 5990 (.var 7)) (.mulL 2773 (.var 8))) (.mulL 3217 (.var 6))))), (.mulL 1045500000 (.var 9))), (270, (.sub (.mulL 2550000 (.sub (.var 11) (.var 1))) (.mulL 4398046511104 (.add (.sub (.mulL 2130 (.var 7)) (.mulL 5251 (.var 8))) (.mulL 3121 (.var 6))))), (.mulL 1045500000 (.var 9))), (713413500000, (.num 0), (.var 9))] 10000 (.sub (.mulL 255 (.add (.add (.mulL 433 (.var 5)) (.mulL 410 (.var 10))) (.mulL 270 (.var 11)))) (.mulL 433 (.mulL 4398046511104 (.add (.var 0) (.var 7))))) (.mulL 110415 (.add (.var 4) (.mulL 1700 (.var 9)))) (by kernel_rfl) ⟨h0, h1, h2, h3, h4, trivial⟩
theorem step_red_l {R q y i z Y D A C u I Q : Int} (h0 : 433 * (4398046511104 * R) - 255 * (433 * y + 410 * i + 270 * q) ≤ 110415 * z) (h1 : 4398046511104 * (3000 * A + 5900 * C + 1100 * D) - 2550000 * (Y - y) ≤ 1045500000 * u) (h2 : 4398046511104 * (5990 * A - 2773 * C - 3217 * D) - 2550000 * (I - i) ≤ 1045500000 * u) (h3 : 4398046511104 * (2130 * A - 5251 * C + 3121 * D) - 2550000 * (Q - q) ≤ 1045500000 * u) (h4 : 0 ≤ u) : 433 * (4398046511104 * (R + A)) - 255 * (433 * Y + 410 * I + 270 * Q) ≤ 110415 * (z + 1700 * u) :=
  lin (.branch 6 (.branch 3 (.branch 1 (.leaf R) (.branch 2 (.leaf q) (.leaf y))) (.branch 4 (.leaf i) (.branch 5 (.leaf z) (.leaf Y)))) (.branch 9 (.branch 7 (.leaf D) (.branch 8 (.leaf A) (.leaf C))) (.branch 10 (.leaf u) (.branch 11 (.leaf I) (.leaf Q))))) [(10000, (.sub (.mulL 433 (.mulL 4398046511104 (.var 0))) (.mulL 255 (.add (.add (.mulL 433 (.var 2)) (.mulL 410 (.var 3))) (.mulL 270 (.var 1))))), (.mulL 110415 (.var 4))), (433, (.sub (.mulL 4398046511104 (.add (.add (.mulL 3000 (.var 7)) (.mulL 5900 (.var 8))) (.mulL 1100 (.var 6)))) (.mulL 2550000 (.sub (.var 5) (.var 2)))), (.mulL 1045500000 (.var 9))), (410, (.sub (.mulL 4398046511104 (.sub (.sub (.mulL 5990 (.var 7)) (.mulL 2773 (.var 8))) (.mulL 3217 (.var 6)))) (.mulL 2550000 (.sub (.var 10) (.var 3)))), (.mulL 1045500000 (.var 9))), (270, (.sub (.mulL 4398046511104 (.add (.sub (.mulL 2130 (.var 7)) (.mulL 5251 (.var 8))) (.mulL 3121 (.var 6)))) (.mulL 2550000 (.sub (.var 11) (.var 1)))), (.mulL 1045500000 (.var 9))), (713413500000, (.num 0), (.var 9))] 10000 (.sub (.mulL 433 (.mulL 4398046511104 (.add (.var 0) (.var 7)))) (.mulL 255 (.add (.add (.mulL 433 (.var 5)) (.mulL 410 (.var 10))) (.mulL 270 (.var 11))))) (.mulL 110415 (.add (.var 4) (.mulL 1700 (.var 9)))) (by kernel_rfl) ⟨h0, h1, h2, h3, h4, trivial⟩
theorem scr_red_u {R q y i z v u : Int} (h0 : 255 * (433 * y + 410 * i + 270 * q) - 433 * (4398046511104 * R) ≤ 110415 * z) (h1 : 433 * v - (433 * y + 410 * i + 270 * q) ≤ 2598 * u) : 255 * v - 4398046511104 * R ≤ 255 * z + 1530 * u :=
  lin (.branch 3 (.branch 1 (.leaf R) (.branch 2 (.leaf q) (.leaf y))) (.branch 5 (.branch 4 (.leaf i) (.leaf z)) (.branch 6 (.leaf v) (.leaf u)))) [(1, (.sub (.mulL 255 (.add (.add (.mulL 433 (.var 2)) (.mulL 410 (.var 3))) (.mulL 270 (.var 1)))) (.mulL 433 (.mulL 4398046511104 (.var 0)))), (.mulL 110415 (.var 4))), (255, (.sub (.mulL 433 (.var 5)) (.add (.add (.mulL 433 (.var 2)) (.mulL 410 (.var 3))) (.mulL 270 (.var 1)))), (.mulL 2598 (.var 6)))] 433 (.sub (.mulL 255 (.var 5)) (.mulL 4398046511104 (.var 0))) (.add (.mulL 255 (.var 4)) (.mulL 1530 (.var 6))) (by kernel_rfl) ⟨h0, h1, trivial⟩
theorem scr_red_l {R q y i z v u : Int} (h0 : 433 * (4398046511104 * R) - 255 * (433 * y + 410 * i + 270 * q) ≤ 110415 * z) (h1 : 433 * y + 410 * i + 270 * q - 433 * v ≤ 2598 * u) : 4398046511104 * R - 255 * v ≤ 255 * z + 1530 * u :=
  lin (.branch 3 (.branch 1 (.leaf R) (.branch 2 (.leaf q) (.leaf y))) (.branch 5 (.branch 4 (.leaf i) (.leaf z)) (.branch 6 (.leaf v) (.leaf u)))) [(1, (.sub (.mulL 433 (.mulL 4398046511104 (.var 0))) (.mulL 255 (.add (.add (.mulL 433 (.var 2)) (.mulL 410 (.var 3))) (.mulL 270 (.var 1))))), (.mulL 110415 (.var 4))), (255, (.sub (.add (.add (.mulL 433 (.var 2)) (.mulL 410 (.var 3))) (.mulL 270 (.var 1))) (.mulL 433 (.var 5))), (.mulL 2598 (.var 6)))] 433 (.sub (.mulL 4398046511104 (.var 0)) (.mulL 255 (.var 5))) (.add (.mulL 255 (.var 4)) (.mulL 1530 (.var 6))) (by kernel_rfl) ⟨h0, h1, trivial⟩
theorem back_red_u {u Y d a b I Q R z : Int} (h0 : 0 ≤ u) (h1 : 10000 * Y - (3000 * a + 5900 * b + 1100 * d) ≤ 80000 * u) (h2 : 10000 * I - (5990 * a - 2773 * b - 3217 * d) ≤ 150000 * u) (h3 : 10000 * Q - (2130 * a - 5251 * b + 3121 * d) ≤ 150000 * u) (h4 : 255 * a - 4398046511104 * R ≤ 255 * z + 1530 * u) : 255 * (433 * Y + 410 * I + 270 * Q) - 433 * (4398046511104 * R) ≤ 110415 * (z + 100 * u) :=
  lin (.branch 4 (.branch 2 (.branch 1 (.leaf u) (.leaf Y)) (.branch 3 (.leaf d) (.leaf a))) (.branch 6 (.branch 5 (.leaf b) (.leaf I)) (.branch 7 (.leaf Q) (.branch 8 (.leaf R) (.leaf z))))) [(13789380000, (.num 0), (.var 0)), (22083, (.sub (.mulL 10000 (.var 1)) (.add (.add (.mulL 3000 (.var 3)) (.mulL 5900 (.var 4))) (.mulL 1100 (.var 2)))), (.mulL 80000 (.var 0))), (20910, (.sub (.mulL 10000 (.var 5)) (.sub (.sub (.mulL 5990 (.var 3)) (.mulL 2773 (.var 4))) (.mulL 3217 (.var 2)))), (.mulL 150000 (.var 0))), (13770, (.sub (.mulL 10000 (.var 6)) (.add (.sub (.mulL 2130 (.var 3)) (.mulL 5251 (.var 4))) (.mulL 3121 (.var 2)))), (.mulL 150000 (.var 0))), (866000, (.sub (.mulL 255 (.var 3)) (.mulL 4398046511104 (.var 7))), (.add (.mulL 255 (.var 8)) (.mulL 1530 (.var 0))))] 2000 (.sub (.mulL 255 (.add (.add (.mulL 433 (.var 1)) (.mulL 410 (.var 5))) (.mulL 270 (.var 6)))) (.mulL 433 (.mulL 4398046511104 (.var 7)))) (.mulL 110415 (.add (.var 8) (.mulL 100 (.var 0)))) (by kernel_rfl) ⟨h0, h1, h2, h3, h4, trivial⟩
theorem back_red_l {u Y d a b I Q R z : Int} (h0 : 0 ≤ u) (h1 : 3000 * a + 5900 * b + 1100 * d - 10000 * Y ≤ 80000 * u) (h2 : 5990 * a - 2773 * b - 3217 * d - 10000 * I ≤ 150000 * u) (h3 : 2130 * a - 5251 * b + 3121 * d - 10000 * Q ≤ 150000 * u) (h4 : 4398046511104 * R - 255 * a ≤ 255 * z + 1530 * u) : 433 * (4398046511104 * R) - 255 * (433 * Y + 410 * I + 270 * Q) ≤ 110415 * (z + 100 * u) :=
  lin (.branch 4 (.branch 2 (.branch 1 (.leaf u) (.leaf Y)) (.branch 3 (.leaf d) (.leaf a))) (.branch 6 (.branch 5 (.leaf b) (.leaf I)) (.branch 7 (.leaf Q) (.branch 8 (.leaf R) (.leaf z))))) [(13789380000, (.num 0), (.var 0)), (22083, (.sub (.add (.add (.mulL 3000 (.var 3)) (.mulL 5900 (.var 4))) (.mulL 1100 (.var 2))) (.mulL 10000 (.var 1))), (.mulL 80000 (.var 0))), (20910, (.sub (.sub (.sub (.mulL 5990 (.var 3)) (.mulL 2773 (.var 4))) (.mulL 3217 (.var 2))) (.mulL 10000 (.var 5))), (.mulL 150000 (.var 0))), (13770, (.sub (.add (.sub (.mulL 2130 (.var 3)) (.mulL 5251 (.var 4))) (.mulL 3121 (.var 2))) (.mulL 10000 (.var 6))), (.mulL 150000 (.var 0))), (866000, (.sub (.mulL 4398046511104 (.var 7)) (.mulL 255 (.var 3))), (.add (.mulL 255 (.var 8)) (.mulL 1530 (.var 0))))] 2000 (.sub (.mulL 433 (.mulL 4398046511104 (.var 7))) (.mulL 255 (.add (.add (.mulL 433 (.var 1)) (.mulL 410 (.var 5))) (.mulL 270 (.var 6))))) (.mulL 110415 (.add (.var 8) (.mulL 100 (.var 0)))) (by kernel_rfl) ⟨h0, h1, h2, h3, h4, trivial⟩
theorem step_green_u {G q y i z Y D A C u I Q : Int} (h0 : 255 * (25547 * y - 7020 * i - 16240 * q) - 25547 * (4398046511104 * G) ≤ 6514485 * z) (h1 : 2550000 * (Y - y) - 4398046511104 * (3000 * A + 5900 * C + 1100 * D) ≤ 1045500000 * u) (h2 : 4398046511104 * (5990 * A - 2773 * C - 3217 * D) - 2550000 * (I - i) ≤ 1045500000 * u) (h3 : 4398046511104 * (2130 * A - 5251 * C + 3121 * D) - 2550000 * (Q - q) ≤ 1045500000 * u) (h4 : 0 ≤ u) : 255 * (25547 * Y - 7020 * I - 16240 * Q) - 25547 * (4398046511104 * (G + C)) ≤ 6514485 * (z + 1700 * u) :=
  lin (.branch 6 (.branch 3 (.branch 1 (.leaf G) (.branch 2 (.leaf q) (.leaf y))) (.branch 4 (.leaf i) (.branch 5 (.leaf z) (.leaf Y)))) (.branch 9 (.branch 7 (.leaf D) (.branch 8 (.leaf A) (.leaf C))) (.branch 10 (.leaf u) (.branch 11 (.leaf I) (.leaf Q))))) [(10000, (.sub (.mulL 255 (.sub (.sub (.mulL 25547 (.var 2)) (.mulL 7020 (.var 3))) (.mulL 16240 (.var 1)))) (.mulL 25547 (.mulL 4398046511104 (.var 0)))), (.mulL 6514485 (.var 4))), (25547, (.sub (.mulL 2550000 (.sub (.var 5) (.var 2))) (.mulL 4398046511104 (.add (.add (.mulL 3000 (.var 7)) (.mulL 5900 (.var 8))) (.mulL 1100 (.var 6))))), (.mulL 1045500000 (.var 9))), (7020, (.sub (.mulL 4398046511104 (.sub (.sub (.mulL 5990 (.var 7)) (.mulL 2773 (.var 8))) (.mulL 3217 (.var 6)))) (.mulL 2550000 (.sub (.var 10) (.var 3)))), (.mulL 1045500000 (.var 9))), (16240, (.sub (.mulL 4398046511104 (.add (.sub (.mulL 2130 (.var 7)) (.mulL 5251 (.var 8))) (.mulL 3121 (.var 6)))) (.mulL 2550000 (.sub (.var 11) (.var 1)))), (.mulL 1045500000 (.var 9))), (59718526500000, (.num 0), (.var 9))] 10000 (.sub (.mulL 255 (.sub (.sub (.mulL 25547 (.var 5)) (.mulL 7020 (.var 10))) (.mulL 16240 (.var 11)))) (.mulL 25547 (.mulL 4398046511104 (.add (.var 0) (.var 8))))) (.mulL 6514485 (.add (.var 4) (.mulL 1700 (.var 9)))) (by kernel_rfl) ⟨h0, h1, h2, h3, h4, trivial⟩
theorem step_green_l {G q y i z Y D A C u I Q : Int} (h0 : 25547 * (4398046511104 * G) - 255 * (25547 * y - 7020 * i - 16240 * q) ≤ 6514485 * z) (h1 : 4398046511104 * (3000 * A + 5900 * C + 1100 * D) - 2550000 * (Y - y) ≤ 1045500000 * u) (h2 : 2550000 * (I - i) - 4398046511104 * (5990 * A - 2773 * C - 3217 * D) ≤ 1045500000 * u) (h3 : 2550000 * (Q - q) - 4398046511104 * (2130 * A - 5251 * C + 3121 * D) ≤ 1045500000 * u) (h4 : 0 ≤ u) : 25547 * (4398046511104 * (G + C)) - 255 * (25547 * Y - 7020 * I - 16240 * Q) ≤ 6514485 * (z + 1700 * u) :=
  lin (.branch 6 (.branch 3 (.branch 1 (.leaf G) (.branch 2 (.leaf q) (.leaf y))) (.branch 4 (.leaf i) (.branch 5 (.leaf z) (.leaf Y)))) (.branch 9 (.branch 7 (.leaf D) (.branch 8 (.leaf A) (.leaf C))) (.branch 10 (.leaf u) (.branch 11 (.leaf I) (.leaf Q))))) [(10000, (.sub (.mulL 25547 (.mulL 4398046511104 (.var 0))) (.mulL 255 (.sub (.sub (.mulL 25547 (.var 2)) (.mulL 7020 (.var 3))) (.mulL 16240 (.var 1))))), (.mulL 6514485 (.var 4))), (25547, (.sub (.mulL 4398046511104 (.add (.add (.mulL 3000 (.var 7)) (.mulL 5900 (.var 8))) (.mulL 1100 (.var 6)))) (.mulL 2550000 (.sub (.var 5) (.var 2)))), (.mulL 1045500000 (.var 9))), (7020, (.sub (.mulL 2550000 (.sub (.var 10) (.var 3))) (.mulL 4398046511104 (.sub (.sub (.mulL 5990 (.var 7)) (.mulL 2773 (.var 8))) (.mulL 3217 (.var 6))))), (.mulL 1045500000 (.var 9))), (16240, (.sub (.mulL 2550000 (.sub (.var 11) (.var 1))) (.mulL 4398046511104 (.add (.sub (.mulL 2130 (.var 7)) (.mulL 5251 (.var 8))) (.mulL 3121 (.var 6))))), (.mulL 1045500000 (.var 9))), (59718526500000, (.num 0), (.var 9))] 10000 (.sub (.mulL 25547 (.mulL 4398046511104 (.add (.var 0) (.var 8)))) (.mulL 255 (.sub (.sub (.mulL 25547 (.var 5)) (.mulL 7020 (.var 10))) (.mulL 16240 (.var 11))))) (.mulL 6514485 (.add (.var 4) (.mulL 1700 (.var 9)))) (by kernel_rfl) ⟨h0, h1, h2, h3, h4, trivial⟩
theorem scr_green_u {G q y i z v u : Int} (h0 : 255 * (25547 * y - 7020 * i - 16240 * q) - 25547 * (4398046511104 * G) ≤ 6514485 * z) (h1 : 25547 * v - (25547 * y - 7020 * i - 16240 * q) ≤ 153282 * u) : 255 * v - 4398046511104 * G ≤ 255 * z + 1530 * u :=
  lin (.branch 3 (.branch 1 (.leaf G) (.branch 2 (.leaf q) (.leaf y))) (.branch 5 (.branch 4 (.leaf i) (.leaf z)) (.branch 6 (.leaf v) (.leaf u)))) [(1, (.sub (.mulL 255 (.sub (.sub (.mulL 25547 (.var 2)) (.mulL 7020 (.var 3))) (.mulL 16240 (.var 1)))) (.mulL 25547 (.mulL 4398046511104 (.var 0)))), (.mulL 6514485 (.var 4))), (255, (.sub (.mulL 25547 (.var 5)) (.sub (.sub (.mulL 25547 (.var 2)) (.mulL 7020 (.var 3))) (.mulL 16240 (.var 1)))), (.mulL 153282 (.var 6)))] 25547 (.sub (.mulL 255 (.var 5)) (.mulL 4398046511104 (.var 0))) (.add (.mulL 255 (.var 4)) (.mulL 1530 (.var 6))) (by kernel_rfl) ⟨h0, h1, trivial⟩
theorem scr_green_l {G q y i z v u : Int} (h0 : 25547 * (4398046511104 * G) - 255 * (25547 * y - 7020 * i - 16240 * q) ≤ 6514485 * z) (h1 : 25547 * y - 7020 * i - 16240 * q - 25547 * v ≤ 153282 * u) : 4398046511104 * G - 255 * v ≤ 255 * z + 1530 * u :=
  lin (.branch 3 (.branch 1 (.leaf G) (.branch 2 (.leaf q) (.leaf y))) (.branch 5 (.branch 4 (.leaf i) (.leaf z)) (.branch 6 (.leaf v) (.leaf u)))) [(1, (.sub (.mulL 25547 (.mulL 4398046511104 (.var 0))) (.mulL 255 (.sub (.sub (.mulL 25547 (.var 2)) (.mulL 7020 (.var 3))) (.mulL 16240 (.var 1))))), (.mulL 6514485 (.var 4))), (255, (.sub (.sub (.sub (.mulL 25547 (.var 2)) (.mulL 7020 (.var 3))) (.mulL 16240 (.var 1))) (.mulL 25547 (.var 5))), (.mulL 153282 (.var 6)))] 25547 (.sub (.mulL 4398046511104 (.var 0)) (.mulL 255 (.var 5))) (.add (.mulL 255 (.var 4)) (.mulL 1530 (.var 6))) (by kernel_rfl) ⟨h0, h1, trivial⟩
theorem back_green_u {u Y d a b I Q G z : Int} (h0 : 0 ≤ u) (h1 : 10000 * Y - (3000 * a + 5900 * b + 1100 * d) ≤ 80000 * u) (h2 : 5990 * a - 2773 * b - 3217 * d - 10000 * I ≤ 150000 * u) (h3 : 2130 * a - 5251 * b + 3121 * d - 10000 * Q ≤ 150000 * u) (h4 : 255 * b - 4398046511104 * G ≤ 255 * z + 1530 * u) : 255 * (25547 * Y - 7020 * I - 16240 * Q) - 25547 * (4398046511104 * G) ≤ 6514485 * (z + 100 * u) :=
  lin (.branch 4 (.branch 2 (.branch 1 (.leaf u) (.leaf Y)) (.branch 3 (.leaf d) (.leaf a))) (.branch 6 (.branch 5 (.leaf b) (.leaf I)) (.branch 7 (.leaf Q) (.branch 8 (.leaf G) (.leaf z))))) [(942552420000, (.num 0), (.var 0)), (1302897, (.sub (.mulL 10000 (.var 1)) (.add (.add (.mulL 3000 (.var 3)) (.mulL 5900 (.var 4))) (.mulL 1100 (.var 2)))), (.mulL 80000 (.var 0))), (358020, (.sub (.sub (.sub (.mulL 5990 (.var 3)) (.mulL 2773 (.var 4))) (.mulL 3217 (.var 2))) (.mulL 10000 (.var 5))), (.mulL 150000 (.var 0))), (828240, (.sub (.add (.sub (.mulL 2130 (.var 3)) (.mulL 5251 (.var 4))) (.mulL 3121 (.var 2))) (.mulL 10000 (.var 6))), (.mulL 150000 (.var 0))), (51094000, (.sub (.mulL 255 (.var 4)) (.mulL 4398046511104 (.var 7))), (.add (.mulL 255 (.var 8)) (.mulL 1530 (.var 0))))] 2000 (.sub (.mulL 255 (.sub (.sub (.mulL 25547 (.var 1)) (.mulL 7020 (.var 5))) (.mulL 16240 (.var 6)))) (.mulL 25547 (.mulL 4398046511104 (.var 7)))) (.mulL 6514485 (.add (.var 8) (.mulL 100 (.var 0)))) (by kernel_rfl) ⟨h0, h1, h2, h3, h4, trivial⟩
theorem back_green_l {u Y d a b I Q G z : Int} (h0 : 0 ≤ u) (h1 : 3000 * a + 5900 * b + 1100 * d - 10000 * Y ≤ 80000 * u) (h2 : 10000 * I - (5990 * a - 2773 * b - 3217 * d) ≤ 150000 * u) (h3 : 10000 * Q - (2130 * a - 5251 * b + 3121 * d) ≤ 150000 * u) (h4 : 4398046511104 * G - 255 * b ≤ 255 * z + 1530 * u) : 25547 * (4398046511104 * G) - 255 * (25547 * Y - 7020 * I - 16240 * Q) ≤ 6514485 * (z + 100 * u) :=
  lin (.branch 4 (.branch 2 (.branch 1 (.leaf u) (.leaf Y)) (.branch 3 (.leaf d) (.leaf a))) (.branch 6 (.branch 5 (.leaf b) (.leaf I)) (.branch 7 (.leaf Q) (.branch 8 (.leaf G) (.leaf z))))) [(942552420000, (.num 0), (.var 0)), (1302897, (.sub (.add (.add (.mulL 3000 (.var 3)) (.mulL 5900 (.var 4))) (.mulL 1100 (.var 2))) (.mulL 10000 (.var 1))), (.mulL 80000 (.var 0))), (358020, (.sub (.mulL 10000 (.var 5)) (.sub (.sub (.mulL 5990 (.var 3)) (.mulL 2773 (.var 4))) (.mulL 3217 (.var 2)))), (.mulL 150000 (.var 0))), (828240, (.sub (.mulL 10000 (.var 6)) (.add (.sub (.mulL 2130 (.var 3)) (.mulL 5251 (.var 4))) (.mulL 3121 (.var 2)))), (.mulL 150000 (.var 0))), (51094000, (.sub (.mulL 4398046511104 (.var 7)) (.mulL 255 (.var 4))), (.add (.mulL 255 (.var 8)) (.mulL 1530 (.var 0))))] 2000 (.sub (.mulL 25547 (.mulL 4398046511104 (.var 7))) (.mulL 255 (.sub (.sub (.mulL 25547 (.var 1)) (.mulL 7020 (.var 5))) (.mulL 16240 (.var 6))))) (.mulL 6514485 (.add (.var 8) (.mulL 100 (.var 0)))) (by kernel_rfl) ⟨h0, h1, h2, h3, h4, trivial⟩
theorem step_blue_u {B q y i z Y D A C u I Q : Int} (h0 : 255 * (433 * y - 480 * i + 740 * q) - 433 * (4398046511104 * B) ≤ 110415 * z) (h1 : 2550000 * (Y - y) - 4398046511104 * (3000 * A + 5900 * C + 1100 * D) ≤ 1045500000 * u) (h2 : 4398046511104 * (5990 * A - 2773 * C - 3217 * D) - 2550000 * (I - i) ≤ 1045500000 * u) (h3 : 2550000 * (Q - q) - 4398046511104 * (2130 * A - 5251 * C + 3121 * D) ≤ 1045500000 * u) (h4 : 0 ≤ u) : 255 * (433 * Y - 480 * I + 740 * Q) - 433 * (4398046511104 * (B + D)) ≤ 110415 * (z + 1700 * u) :=
  lin (.branch 6 (.branch 3 (.branch 1 (.leaf B) (.branch 2 (.leaf q) (.leaf y))) (.branch 4 (.leaf i) (.branch 5 (.leaf z) (.leaf Y)))) (.branch 9 (.branch 7 (.leaf D) (.branch 8 (.leaf A) (.leaf C))) (.branch 10 (.leaf u) (.branch 11 (.leaf I) (.leaf Q))))) [(10000, (.sub (.mulL 255 (.add (.sub (.mulL 433 (.var 2)) (.mulL 480 (.var 3))) (.mulL 740 (.var 1)))) (.mulL 433 (.mulL 4398046511104 (.var 0)))), (.mulL 110415 (.var 4))), (433, (.sub (.mulL 2550000 (.sub (.var 5) (.var 2))) (.mulL 4398046511104 (.add (.add (.mulL 3000 (.var 7)) (.mulL 5900 (.var 8))) (.mulL 1100 (.var 6))))), (.mulL 1045500000 (.var 9))), (480, (.sub (.mulL 4398046511104 (.sub (.sub (.mulL 5990 (.var 7)) (.mulL 2773 (.var 8))) (.mulL 3217 (.var 6)))) (.mulL 2550000 (.sub (.var 10) (.var 3)))), (.mulL 1045500000 (.var 9))), (740, (.sub (.mulL 2550000 (.sub (.var 11) (.var 1))) (.mulL 4398046511104 (.add (.sub (.mulL 2130 (.var 7)) (.mulL 5251 (.var 8))) (.mulL 3121 (.var 6))))), (.mulL 1045500000 (.var 9))), (148843500000, (.num 0), (.var 9))] 10000 (.sub (.mulL 255 (.add (.sub (.mulL 433 (.var 5)) (.mulL 480 (.var 10))) (.mulL 740 (.var 11)))) (.mulL 433 (.mulL 4398046511104 (.add (.var 0) (.var 6))))) (.mulL 110415 (.add (.var 4) (.mulL 1700 (.var 9)))) (by kernel_rfl) ⟨h0, h1, h2, h3, h4, trivial⟩
theorem step_blue_l {B q y i z Y D A C u I Q : Int} (h0 : 433 * (4398046511104 * B) - 255 * (433 * y - 480 * i + 740 * q) ≤ 110415 * z) (h1 : 4398046511104 * (3000 * A + 5900 * C + 1100 * D) - 2550000 * (Y - y) ≤ 1045500000 * u) (h2 : 2550000 * (I - i) - 4398046511104 * (5990 * A - 2773 * C - 3217 * D) ≤ 1045500000 * u) (h3 : 4398046511104 * (2130 * A - 5251 * C + 3121 * D) - 2550000 * (Q - q) ≤ 1045500000 * u) (h4 : 0 ≤ u) : 433 * (4398046511104 * (B + D)) - 255 * (433 * Y - 480 * I + 740 * Q) ≤ 110415 * (z + 1700 * u) :=
  lin (.branch 6 (.branch 3 (.branch 1 (.leaf B) (.branch 2 (.leaf q) (.leaf y))) (.branch 4 (.leaf i) (.branch 5 (.leaf z) (.leaf Y)))) (.branch 9 (.branch 7 (.leaf D) (.branch 8 (.leaf A) (.leaf C))) (.branch 10 (.leaf u) (.branch 11 (.leaf I) (.leaf Q))))) [(10000, (.sub (.mulL 433 (.mulL 4398046511104 (.var 0))) (.mulL 255 (.add (.sub (.mulL 433 (.var 2)) (.mulL 480 (.var 3))) (.mulL 740 (.var 1))))), (.mulL 110415 (.var 4))), (433, (.sub (.mulL 4398046511104 (.add (.add (.mulL 3000 (.var 7)) (.mulL 5900 (.var 8))) (.mulL 1100 (.var 6)))) (.mulL 2550000 (.sub (.var 5) (.var 2)))), (.mulL 1045500000 (.var 9))), (480, (.sub (.mulL 2550000 (.sub (.var 10) (.var 3))) (.mulL 4398046511104 (.sub (.sub (.mulL 5990 (.var 7)) (.mulL 2773 (.var 8))) (.mulL 3217 (.var 6))))), (.mulL 1045500000 (.var 9))), (740, (.sub (.mulL 4398046511104 (.add (.sub (.mulL 2130 (.var 7)) (.mulL 5251 (.var 8))) (.mulL 3121 (.var 6)))) (.mulL 2550000 (.sub (.var 11) (.var 1)))), (.mulL 1045500000 (.var 9))), (148843500000, (.num 0), (.var 9))] 10000 (.sub (.mulL 433 (.mulL 4398046511104 (.add (.var 0) (.var 6)))) (.mulL 255 (.add (.sub (.mulL 433 (.var 5)) (.mulL 480 (.var 10))) (.mulL 740 (.var 11))))) (.mulL 110415 (.add (.var 4) (.mulL 1700 (.var 9)))) (by kernel_rfl) ⟨h0, h1, h2, h3, h4, trivial⟩
theorem scr_blue_u {B q y i z v u : Int} (h0 : 255 * (433 * y - 480 * i + 740 * q) - 433 * (4398046511104 * B) ≤ 110415 * z) (h1 : 433 * v - (433 * y - 480 * i + 740 * q) ≤ 2598 * u) : 255 * v - 4398046511104 * B ≤ 255 * z + 1530 * u :=
  lin (.branch 3 (.branch 1 (.leaf B) (.branch 2 (.leaf q) (.leaf y))) (.branch 5 (.branch 4 (.leaf i) (.leaf z)) (.branch 6 (.leaf v) (.leaf u)))) [(1, (.sub (.mulL 255 (.add (.sub (.mulL 433 (.var 2)) (.mulL 480 (.var 3))) (.mulL 740 (.var 1)))) (.mulL 433 (.mulL 4398046511104 (.var 0)))), (.mulL 110415 (.var 4))), (255, (.sub (.mulL 433 (.var 5)) (.add (.sub (.mulL 433 (.var 2)) (.mulL 480 (.var 3))) (.mulL 740 (.var 1)))), (.mulL 2598 (.var 6)))] 433 (.sub (.mulL 255 (.var 5)) (.mulL 4398046511104 (.var 0))) (.add (.mulL 255 (.var 4)) (.mulL 1530 (.var 6))) (by kernel_rfl) ⟨h0, h1, trivial⟩
theorem scr_blue_l {B q y i z v u : Int} (h0 : 433 * (4398046511104 * B) - 255 * (433 * y - 480 * i + 740 * q) ≤ 110415 * z) (h1 : 433 * y - 480 * i + 740 * q - 433 * v ≤ 2598 * u) : 4398046511104 * B - 255 * v ≤ 255 * z + 1530 * u :=
  lin (.branch 3 (.branch 1 (.leaf B) (.branch 2 (.leaf q) (.leaf y))) (.branch 5 (.branch 4 (.leaf i) (.leaf z)) (.branch 6 (.leaf v) (.leaf u)))) [(1, (.sub (.mulL 433 (.mulL 4398046511104 (.var 0))) (.mulL 255 (.add (.sub (.mulL 433 (.var 2)) (.mulL 480 (.var 3))) (.mulL 740 (.var 1))))), (.mulL 110415 (.var 4))), (255, (.sub (.add (.sub (.mulL 433 (.var 2)) (.mulL 480 (.var 3))) (.mulL 740 (.var 1))) (.mulL 433 (.var 5))), (.mulL 2598 (.var 6)))] 433 (.sub (.mulL 4398046511104 (.var 0)) (.mulL 255 (.var 5))) (.add (.mulL 255 (.var 4)) (.mulL 1530 (.var 6))) (by kernel_rfl) ⟨h0, h1, trivial⟩
theorem back_blue_u {u Y d a b I Q B z : Int} (h0 : 0 ≤ u) (h1 : 10000 * Y - (3000 * a + 5900 * b + 1100 * d) ≤ 80000 * u) (h2 : 5990 * a - 2773 * b - 3217 * d - 10000 * I ≤ 150000 * u) (h3 : 10000 * Q - (2130 * a - 5251 * b + 3121 * d) ≤ 150000 * u) (h4 : 255 * d - 4398046511104 * B ≤ 255 * z + 1530 * u) : 255 * (433 * Y - 480 * I + 740 * Q) - 433 * (4398046511104 * B) ≤ 110415 * (z + 100 * u) :=
  lin (.branch 4 (.branch 2 (.branch 1 (.leaf u) (.leaf Y)) (.branch 3 (.leaf d) (.leaf a))) (.branch 6 (.branch 5 (.leaf b) (.leaf I)) (.branch 7 (.leaf Q) (.branch 8 (.leaf B) (.leaf z))))) [(9658380000, (.num 0), (.var 0)), (22083, (.sub (.mulL 10000 (.var 1)) (.add (.add (.mulL 3000 (.var 3)) (.mulL 5900 (.var 4))) (.mulL 1100 (.var 2)))), (.mulL 80000 (.var 0))), (24480, (.sub (.sub (.sub (.mulL 5990 (.var 3)) (.mulL 2773 (.var 4))) (.mulL 3217 (.var 2))) (.mulL 10000 (.var 5))), (.mulL 150000 (.var 0))), (37740, (.sub (.mulL 10000 (.var 6)) (.add (.sub (.mulL 2130 (.var 3)) (.mulL 5251 (.var 4))) (.mulL 3121 (.var 2)))), (.mulL 150000 (.var 0))), (866000, (.sub (.mulL 255 (.var 2)) (.mulL 4398046511104 (.var 7))), (.add (.mulL 255 (.var 8)) (.mulL 1530 (.var 0))))] 2000 (.sub (.mulL 255 (.add (.sub (.mulL 433 (.var 1)) (.mulL 480 (.var 5))) (.mulL 740 (.var 6)))) (.mulL 433 (.mulL 4398046511104 (.var 7)))) (.mulL 110415 (.add (.var 8) (.mulL 100 (.var 0)))) (by kernel_rfl) ⟨h0, h1, h2, h3, h4, trivial⟩
theorem back_blue_l {u Y d a b I Q B z : Int} (h0 : 0 ≤ u) (h1 : 3000 * a + 5900 * b + 1100 * d - 10000 * Y ≤ 80000 * u) (h2 : 10000 * I - (5990 * a - 2773 * b - 3217 * d) ≤ 150000 * u) (h3 : 2130 * a - 5251 * b + 3121 * d - 10000 * Q ≤ 150000 * u) (h4 : 4398046511104 * B - 255 * d ≤ 255 * z + 1530 * u) : 433 * (4398046511104 * B) - 255 * (433 * Y - 480 * I + 740 * Q) ≤ 110415 * (z + 100 * u) :=
  lin (.branch 4 (.branch 2 (.branch 1 (.leaf u) (.leaf Y)) (.branch 3 (.leaf d) (.leaf a))) (.branch 6 (.branch 5 (.leaf b) (.leaf I)) (.branch 7 (.leaf Q) (.branch 8 (.leaf B) (.leaf z))))) [(9658380000, (.num 0), (.var 0)), (22083, (.sub (.add (.add (.mulL 3000 (.var 3)) (.mulL 5900 (.var 4))) (.mulL 1100 (.var 2))) (.mulL 10000 (.var 1))), (.mulL 80000 (.var 0))), (24480, (.sub (.mulL 10000 (.var 5)) (.sub (.sub (.mulL 5990 (.var 3)) (.mulL 2773 (.var 4))) (.mulL 3217 (.var 2)))), (.mulL 150000 (.var 0))), (37740, (.sub (.add (.sub (.mulL 2130 (.var 3)) (.mulL 5251 (.var 4))) (.mulL 3121 (.var 2))) (.mulL 10000 (.var 6))), (.mulL 150000 (.var 0))), (866000, (.sub (.mulL 4398046511104 (.var 7)) (.mulL 255 (.var 2))), (.add (.mulL 255 (.var 8)) (.mulL 1530 (.var 0))))] 2000 (.sub (.mulL 433 (.mulL 4398046511104 (.var 7))) (.mulL 255 (.add (.sub (.mulL 433 (.var 1)) (.mulL 480 (.var 5))) (.mulL 740 (.var 6))))) (.mulL 110415 (.add (.var 8) (.mulL 100 (.var 0)))) (by kernel_rfl) ⟨h0, h1, h2, h3, h4, trivial⟩
end Mine
end
section
open PySem
set_option Elab.async false
namespace Mine
open PySem.Float64
theorem c30 {k : Int} {x : UInt64} (hx : Bd k x) (hk : k ≤ 9007199254740992) : Bd (1 * k + 2) (Float64.mul 4599075939470750515 x) ∧ 10 * val (Float64.mul 4599075939470750515 x) - 3 * val x ≤ 20 * uN ∧ 3 * val x - 10 * val (Float64.mul 4599075939470750515 x) ≤ 20 * uN :=
  mulk (c := 4599075939470750515) (a := false) (m := 5404319552844595) (s := 54) 3 10 20 1 rfl (by kernel_rfl) (by decide) (by decide) (by decide) (by decide) (by decide) hx hk
theorem c59 {k : Int} {x : UInt64} (hx : Bd k x) (hk : k ≤ 9007199254740992) : Bd (1 * k + 2) (Float64.mul 4603489467105573601 x) ∧ 100 * val (Float64.mul 4603489467105573601 x) - 59 * val x ≤ 200 * uN ∧ 59 * val x - 100 * val (Float64.mul 4603489467105573601 x) ≤ 200 * uN :=
  mulk (c := 4603489467105573601) (a := false) (m := 5314247560297185) (s := 53) 59 100 200 1 rfl (by kernel_rfl) (by decide) (by decide) (by decide) (by decide) (by decide) hx hk
theorem c11 {k : Int} {x : UInt64} (hx : Bd k x) (hk : k ≤ 9007199254740992) : Bd (1 * k + 2) (Float64.mul 4592590756007337001 x) ∧ 100 * val (Float64.mul 4592590756007337001 x) - 11 * val x ≤ 200 * uN ∧ 11 * val x - 100 * val (Float64.mul 4592590756007337001 x) ≤ 200 * uN :=
  mulk (c := 4592590756007337001) (a := false) (m := 7926335344172073) (s := 56) 11 100 200 1 rfl (by kernel_rfl) (by decide) (by decide) (by decide) (by decide) (by decide) hx hk
theorem c74 {k : Int} {x : UInt64} (hx : Bd k x) (hk : k ≤ 9007199254740992) : Bd (1 * k + 2) (Float64.mul 4604840546993784750 x) ∧ 100 * val (Float64.mul 4604840546993784750 x) - 74 * val x ≤ 200 * uN ∧ 74 * val x - 100 * val (Float64.mul 4604840546993784750 x) ≤ 200 * uN :=
  mulk (c := 4604840546993784750) (a := false) (m := 6665327448508334) (s := 53) 74 100 200 1 rfl (by kernel_rfl) (by decide) (by decide) (by decide) (by decide) (by decide) hx hk
theorem c27 {k : Int} {x : UInt64} (hx : Bd k x) (hk : k ≤ 9007199254740992) : Bd (1 * k + 2) (Float64.mul 4598535507515466056 x) ∧ 100 * val (Float64.mul 4598535507515466056 x) - 27 * val x ≤ 200 * uN ∧ 27 * val x - 100 * val (Float64.mul 4598535507515466056 x) ≤ 200 * uN :=
  mulk (c := 4598535507515466056) (a := false) (m := 4863887597560136) (s := 54) 27 100 200 1 rfl (by kernel_rfl) (by decide) (by decide) (by decide) (by decide) (by decide) hx hk
theorem c48 {k : Int} {x : UInt64} (hx : Bd k x) (hk : k ≤ 9007199254740992) : Bd (1 * k + 2) (Float64.mul 4602318531202457272 x) ∧ 100 * val (Float64.mul 4602318531202457272 x) - 48 * val x ≤ 200 * uN ∧ 48 * val x - 100 * val (Float64.mul 4602318531202457272 x) ≤ 200 * uN :=
  mulk (c := 4602318531202457272) (a := false) (m := 8646911284551352) (s := 54) 48 100 200 1 rfl (by kernel_rfl) (by decide) (by decide) (by decide) (by decide) (by decide) hx hk
theorem c41 {k : Int} {x : UInt64} (hx : Bd k x) (hk : k ≤ 9007199254740992) : Bd (1 * k + 2) (Float64.mul 4601057523306793533 x) ∧ 100 * val (Float64.mul 4601057523306793533 x) - 41 * val x ≤ 200 * uN ∧ 41 * val x - 100 * val (Float64.mul 4601057523306793533 x) ≤ 200 * uN :=
  mulk (c := 4601057523306793533) (a := false) (m := 7385903388887613) (s := 54) 41 100 200 1 rfl (by kernel_rfl) (by decide) (by decide) (by decide) (by decide) (by decide) hx hk
theorem cr1 {k : Int} {x : UInt64} (hx : Bd k x) (hk : k ≤ 9007199254740992) : Bd (1 * k + 2) (Float64.mul 4606703976345377586 x) ∧ 433 * val (Float64.mul 4606703976345377586 x) - 410 * val x ≤ 866 * uN ∧ 410 * val x - 433 * val (Float64.mul 4606703976345377586 x) ≤ 866 * uN :=
  mulk (c := 4606703976345377586) (a := false) (m := 8528756800101170) (s := 53) 410 433 866 1 rfl (by kernel_rfl) (by decide) (by decide) (by decide) (by decide) (by decide) hx hk
theorem cr2 {k : Int} {x : UInt64} (hx : Bd k x) (hk : k ≤ 9007199254740992) : Bd (1 * k + 2) (Float64.mul 4603791717925830846 x) ∧ 433 * val (Float64.mul 4603791717925830846 x) - 270 * val x ≤ 866 * uN ∧ 270 * val x - 433 * val (Float64.mul 4603791717925830846 x) ≤ 866 * uN :=
  mulk (c := 4603791717925830846) (a := false) (m := 5616498380554430) (s := 53) 270 433 866 1 rfl (by kernel_rfl) (by decide) (by decide) (by decide) (by decide) (by decide) hx hk
theorem cg1 {k : Int} {x : UInt64} (hx : Bd k x) (hk : k ≤ 9007199254740992) : Bd (1 * k + 2) (Float64.mul 4598621754083818298 x) ∧ 25547 * val (Float64.mul 4598621754083818298 x) - 7020 * val x ≤ 51094 * uN ∧ 7020 * val x - 25547 * val (Float64.mul 4598621754083818298 x) ≤ 51094 * uN :=
  mulk (c := 4598621754083818298) (a := false) (m := 4950134165912378) (s := 54) 7020 25547 51094 1 rfl (by kernel_rfl) (by decide) (by decide) (by decide) (by decide) (by decide) hx hk
theorem cg2 {k : Int} {x : UInt64} (hx : Bd k x) (hk : k ≤ 9007199254740992) : Bd (1 * k + 2) (Float64.mul 4603901015759978483 x) ∧ 25547 * val (Float64.mul 4603901015759978483 x) - 16240 * val x ≤ 51094 * uN ∧ 16240 * val x - 25547 * val (Float64.mul 4603901015759978483 x) ≤ 51094 * uN :=
  mulk (c := 4603901015759978483) (a := false) (m := 5725796214702067) (s := 53) 16240 25547 51094 1 rfl (by kernel_rfl) (by decide) (by decide) (by decide) (by decide) (by decide) hx hk
theorem cb1 {k : Int} {x : UInt64} (hx : Bd k x) (hk : k ≤ 9007199254740992) : Bd (2 * k + 2) (Float64.mul 4607671262177584182 x) ∧ 433 * val (Float64.mul 4607671262177584182 x) - 480 * val x ≤ 866 * uN ∧ 480 * val x - 433 * val (Float64.mul 4607671262177584182 x) ≤ 866 * uN :=
  mulk (c := 4607671262177584182) (a := false) (m := 4992443004937270) (s := 52) 480 433 866 2 rfl (by kernel_rfl) (by decide) (by decide) (by decide) (by decide) (by decide) hx hk
theorem cb2 {k : Int} {x : UInt64} (hx : Bd k x) (hk : k ≤ 9007199254740992) : Bd (2 * k + 2) (Float64.mul 4610375502138591871 x) ∧ 433 * val (Float64.mul 4610375502138591871 x) - 740 * val x ≤ 866 * uN ∧ 740 * val x - 433 * val (Float64.mul 4610375502138591871 x) ≤ 866 * uN :=
  mulk (c := 4610375502138591871) (a := false) (m := 7696682965944959) (s := 52) 740 433 866 2 rfl (by kernel_rfl) (by decide) (by decide) (by decide) (by decide) (by decide) hx hk
end Mine
end
section
open PySem
set_option Elab.async false
namespace Mine
open PySem.Float64
/-- x's value lies within 8 U -/
abbrev Small (x : UInt64) : Prop := Bd 35184372088832 x
theorem luma_near {r g b : UInt64} (hr : Small r) (hg : Small g) (hb : Small b) :
    Bd 105553116266504 (lumaF r g b) ∧ 10000 * val (lumaF r g b) - (3000 * val r + 5900 * val g + 1100 * val b) ≤ 80000 * uN ∧ (3000 * val r + 5900 * val g + 1100 * val b) - 10000 * val (lumaF r g b) ≤ 80000 * uN := by
  obtain ⟨m1, p1, q1⟩ := c30 hr (by decide)
  obtain ⟨m2, p2, q2⟩ := c59 hg (by decide)
  obtain ⟨m3, p3, q3⟩ := c11 hb (by decide)
  obtain ⟨a1, p4, q4⟩ := m1.add m2 (by decide)
  obtain ⟨a2, p5, q5⟩ := a1.add m3 (by decide)
  exact ⟨a2.mono (by decide), (luma_u p1 p2 p3 p4 p5), (luma_l q1 q2 q3 q4 q5)⟩
theorem warm_near {r g b : UInt64} (hr : Small r) (hg : Small g) (hb : Small b) :
    Fn (warmF r g b) ∧ 10000 * val (warmF r g b) - (5990 * val r - 2773 * val g - 3217 * val b) ≤ 150000 * uN ∧ (5990 * val r - 2773 * val g - 3217 * val b) - 10000 * val (warmF r g b) ≤ 150000 * uN := by
  obtain ⟨f0, p0, q0⟩ := luma_near hr hg hb
  obtain ⟨s1, p1, q1⟩ := hr.sub f0 (by decide)
  obtain ⟨s2, p2, q2⟩ := hb.sub f0 (by decide)
  obtain ⟨m1, p3, q3⟩ := c74 s1 (by decide)
  obtain ⟨m2, p4, q4⟩ := c27 s2 (by decide)
  obtain ⟨a1, p5, q5⟩ := m1.sub m2 (by decide)
  exact ⟨a1.1, (warm_u q0 p1 q2 p3 q4 p5 u0), (warm_l p0 q1 p2 q3 p4 q5 u0)⟩
theorem cool_near {r g b : UInt64} (hr : Small r) (hg : Small g) (hb : Small b) :
    Fn (coolF r g b) ∧ 10000 * val (coolF r g b) - (2130 * val r - 5251 * val g + 3121 * val b) ≤ 150000 * uN ∧ (2130 * val r - 5251 * val g + 3121 * val b) - 10000 * val (coolF r g b) ≤ 150000 * uN := by
  obtain ⟨f0, p0, q0⟩ := luma_near hr hg hb
  obtain ⟨s1, p1, q1⟩ := hr.sub f0 (by decide)
  obtain ⟨s2, p2, q2⟩ := hb.sub f0 (by decide)
  obtain ⟨m1, p3, q3⟩ := c48 s1 (by decide)
  obtain ⟨m2, p4, q4⟩ := c41 s2 (by decide)
  obtain ⟨a1, p5, q5⟩ := m1.add m2 (by decide)
  exact ⟨a1.1, (cool_u q0 p1 p2 p3 p4 p5 u0), (cool_l p0 q1 q2 q3 q4 q5 u0)⟩
/-- within 750 U -/
abbrev Mid (x : UInt64) : Prop := Bd 3298534883328000 x
theorem red_near {y i q : UInt64} (hy : Mid y) (hi : Mid i) (hq : Mid q) :
    Fn (redF y i q) ∧ 433 * val (redF y i q) - (433 * val y + 410 * val i + 270 * val q) ≤ 2598 * uN ∧ (433 * val y + 410 * val i + 270 * val q) - 433 * val (redF y i q) ≤ 2598 * uN := by
  obtain ⟨m1, p1, q1⟩ := cr1 hi (by decide)
  obtain ⟨m2, p2, q2⟩ := cr2 hq (by decide)
  obtain ⟨a1, p3, q3⟩ := hy.add m1 (by decide)
  obtain ⟨a2, p4, q4⟩ := a1.add m2 (by decide)
  exact ⟨a2.1, (red_u p1 p2 p3 p4), (red_l q1 q2 q3 q4)⟩
theorem green_near {y i q : UInt64} (hy : Mid y) (hi : Mid i) (hq : Mid q) :
    Fn (greenF y i q) ∧ 25547 * val (greenF y i q) - (25547 * val y - 7020 * val i - 16240 * val q) ≤ 153282 * uN ∧ (25547 * val y - 7020 * val i - 16240 * val q) - 25547 * val (greenF y i q) ≤ 153282 * uN := by
  obtain ⟨m1, p1, q1⟩ := cg1 hi (by decide)
  obtain ⟨m2, p2, q2⟩ := cg2 hq (by decide)
  obtain ⟨a1, p3, q3⟩ := hy.sub m1 (by decide)
  obtain ⟨a2, p4, q4⟩ := a1.sub m2 (by decide)
  exact ⟨a2.1, (green_u q1 q2 p3 p4), (green_l p1 p2 q3 q4)⟩
theorem blue_near {y i q : UInt64} (hy : Mid y) (hi : Mid i) (hq : Mid q) :
    Fn (blueF y i q) ∧ 433 * val (blueF y i q) - (433 * val y - 480 * val i + 740 * val q) ≤ 2598 * uN ∧ (433 * val y - 480 * val i + 740 * val q) - 433 * val (blueF y i q) ≤ 2598 * uN := by
  obtain ⟨m1, p1, q1⟩ := cb1 hi (by decide)
  obtain ⟨m2, p2, q2⟩ := cb2 hq (by decide)
  obtain ⟨a1, p3, q3⟩ := hy.sub m1 (by decide)
  obtain ⟨a2, p4, q4⟩ := a1.add m2 (by decide)
  exact ⟨a2.1, (blue_u q1 p2 p3 p4), (blue_l p1 q2 q3 q4)⟩
end Mine
end
section
open PySem
set_option Elab.async false
namespace Mine
open PySem.Float64
theorem dist_zero {a b : Nat} (h : Float64.dist a b ≤ Float64.dist a a) : b = a := by
  have h0 : Float64.dist a a = 0 := by unfold Float64.dist; rw [Nat.sub_self]
  rw [h0] at h
  have h1 := dist_le h
  omega
theorem ofInt_val {i : Int} (h : i.natAbs ≤ 2 ^ 53) : Fn (Float64.ofInt i) ∧ val (Float64.ofInt i) = i * 2 ^ 1074 := by
  obtain ⟨t, e, hle, hinf, hnear⟩ := ofInt_right i
  obtain ⟨t', ht'⟩ := rep 1074 i.natAbs h
  have hlt : t < infMag := by
    rcases Nat.lt_or_ge t infMag with h2 | h2
    · exact h2
    · exfalso
      have h1 := hinf.mp (Nat.le_antisymm hle h2)
      have h3 : 2 * (i.natAbs * 2 ^ 1074) ≤ 2 ^ 54 * 2 ^ 1074 := by
        rw [← Nat.mul_assoc]
        exact Nat.mul_le_mul_right _ (Nat.le_trans (Nat.mul_le_mul_left 2 h) (by decide))
      have h4 : 2 ^ 54 * 2 ^ 1074 < (2 ^ 54 - 1) * 2 ^ 2045 := by
        have e : (2 : Nat) ^ 2045 = 2 ^ 971 * 2 ^ 1074 := by rw [← Nat.pow_add]
        rw [e, ← Nat.mul_assoc]
        refine Nat.mul_lt_mul_of_pos_right ?_ (Nat.two_pow_pos _)
        calc (2 : Nat) ^ 54 < (2 ^ 54 - 1) * 2 ^ 10 := by decide
          _ ≤ (2 ^ 54 - 1) * 2 ^ 971 := Nat.mul_le_mul_left _ (Nat.pow_le_pow_right (by decide) (by decide))
      rw [Nat.one_mul] at h1
      exact absurd (Nat.le_trans h1 h3) (Nat.not_le.mpr h4)
  obtain ⟨m, f, hd, _⟩ := decode_pack (decide (i < 0)) hlt
  have hn := (hnear hlt t').1
  rw [ht', Nat.one_mul, Nat.one_mul] at hn
  have hV : V t = i.natAbs * 2 ^ 1074 := dist_zero hn
  refine ⟨⟨_, _, _, e ▸ hd⟩, ?_⟩
  rw [e, val_pack _ hlt, hV]
  have eP : ((2 : Int) ^ 1074) = (((2 : Nat) ^ 1074 : Nat) : Int) := by simp
  rw [eP, sgn_mul, sgn_self]
/-- a whole number times a double -/
theorem mulw {w : Int} {x : UInt64} {g k : Nat} (hw : w.natAbs ≤ 2 ^ 53) (hx : Fn x) (hg : g = 2 ^ k) (hk : k ≤ 1900) (hb : (w * val x).natAbs ≤ 2 ^ 54 * g) :
    Fn (Float64.mul (Float64.ofInt w) x) ∧ val (Float64.mul (Float64.ofInt w) x) - w * val x ≤ g ∧ w * val x - val (Float64.mul (Float64.ofInt w) x) ≤ g := by
  obtain ⟨fw, hv⟩ := ofInt_val hw
  have e : val (Float64.ofInt w) * val x = 2 ^ 1074 * (w * val x) := by rw [hv, Int.mul_comm w, Int.mul_assoc]
  have eP : ((2 : Int) ^ 1074) = (((2 : Nat) ^ 1074 : Nat) : Int) := by simp
  obtain ⟨hf, h1, h2⟩ := mul_near fw hx hg hk (by
    rw [e, Int.natAbs_mul, eP, Int.natAbs_natCast]
    exact Nat.mul_le_mul_left _ hb)
  refine ⟨hf, ?_⟩
  rw [e] at h1 h2
  have hP : (0 : Int) < 2 ^ 1074 := by rw [eP]; exact_mod_cast Nat.two_pow_pos 1074
  generalize val (Float64.mul (Float64.ofInt w) x) = v at *
  generalize w * val x = z at *
  generalize (2 : Int) ^ 1074 = P at *
  constructor
  · refine Int.le_of_mul_le_mul_left (a := P) ?_ hP
    rw [Int.mul_sub]; exact h1
  · refine Int.le_of_mul_le_mul_left (a := P) ?_ hP
    rw [Int.mul_sub]; exact h2
theorem part_near {o : Int} (ho : 0 ≤ o ∧ o ≤ 255) : Small (part255 o) ∧ 255 * val (part255 o) - 4398046511104 * (o * uN) ≤ 255 * uN ∧ 4398046511104 * (o * uN) - 255 * val (part255 o) ≤ 255 * uN := by
  rw [part_of ho]
  have hR : Right (Float64.ofFrac false o.natAbs 255) false (o.natAbs * 2 ^ 1074) 255 := ofFrac_right (by decide) rfl (by decide)
  have hn : o.natAbs ≤ 255 := by omega
  have hW : o.natAbs * 2 ^ 1074 ≤ 255 * (2 ^ 54 * 2 ^ 1032) := by
    rw [U_eqN, ← uN_eq]
    calc o.natAbs * (4398046511104 * uN) ≤ 255 * (4398046511104 * uN) := Nat.mul_le_mul_right _ hn
      _ ≤ 255 * (2 ^ 54 * uN) := Nat.mul_le_mul_left _ (Nat.mul_le_mul_right _ (by decide))
  obtain ⟨hf, t, hv, h1, h2⟩ := near hR (by decide) 1032 (by decide) hW
  have e0 : sgn false t = (t : Int) := rfl
  rw [e0] at hv
  rw [U_eqN, ← uN_eq] at h1 h2
  have e1 : o.natAbs * (4398046511104 * uN) = 4398046511104 * (o.natAbs * uN) := by ac_rfl
  rw [e1] at h1 h2
  have e2 : ((o.natAbs * uN : Nat) : Int) = o * uN := by
    rw [Int.natCast_mul, Int.natAbs_of_nonneg ho.1]
  have hle : o.natAbs * uN ≤ 255 * uN := Nat.mul_le_mul_right _ hn
  rw [← e2]
  clear e0 e1 e2 hW hR hn ho
  generalize o.natAbs * uN = X at *
  unfold Small Bd
  rw [hv]
  clear hv
  exact ⟨⟨hf, by clear hle h1 h2; omega, by clear h1; omega⟩, by clear hle h1; omega, by clear hle h2; omega⟩
theorem n24 {w : Int} (hw : -24 ≤ w ∧ w ≤ 24) : w.natAbs ≤ 24 := by omega
theorem nabs {d e : Int} (h1 : d ≤ e) (h2 : -d ≤ e) : d.natAbs ≤ e.natAbs := by omega
theorem times24 {w X N e : Int} (hw : -24 ≤ w ∧ w ≤ 24) (h1 : X - N ≤ e) (h2 : N - X ≤ e) : w * X - w * N ≤ 24 * e ∧ w * N - w * X ≤ 24 * e := by
  have he : 0 ≤ e := by clear hw; omega
  have h : (w * (X - N)).natAbs ≤ 24 * e.natAbs := by
    rw [Int.natAbs_mul]
    exact Nat.mul_le_mul (n24 hw) (nabs h1 (by rw [Int.neg_sub]; exact h2))
  have h3 := abs2 h
  rw [Int.mul_sub, Int.natCast_mul, Int.natAbs_of_nonneg he] at h3
  clear hw h1 h2 h he
  generalize w * X = a at *
  generalize w * N = b at *
  exact ⟨h3.2, by have := h3.1; clear h3; omega⟩
end Mine
end
section
open PySem
set_option Elab.async false
namespace Mine
open PySem.Float64
theorem dec_zero : decode 0 = .fin false 0 (-((1074 : Nat) : Int)) := by kernel_rfl
theorem dec_one : decode 4607182418800017408 = .fin false 4503599627370496 (-((52 : Nat) : Int)) := by kernel_rfl
theorem v_zero : val 0 = 0 := by
  rw [val_scaled dec_zero (by decide)]
  have : sgn false 0 = 0 := rfl
  rw [this, Int.zero_mul]
theorem v_one : val 4607182418800017408 = 4398046511104 * (uN : Int) := by
  rw [val_scaled dec_one (by decide), ← U_eq]
  have e0 : sgn false 4503599627370496 = ((2 ^ 52 : Nat) : Int) := by decide
  rw [e0, ← Int.natCast_mul, ← Nat.pow_add]
  have : 52 + (1074 - 52) = 1074 := by decide
  rw [this]
  simp
theorem clip_spec {v : UInt64} (hv : Fn v) : Fn (clip v) ∧ (val v < 0 → clip v = 0) ∧ (0 ≤ val v → val v ≤ 4398046511104 * uN → clip v = v) ∧ (4398046511104 * uN < val v → clip v = 4607182418800017408) := by
  obtain ⟨a, m, e, hd⟩ := hv
  have hu := uN_pos
  have k0 : Float64.cmp v 0 = some (compare (val v) 0) := by rw [cmp_right hd dec_zero, v_zero]
  have k1 : Float64.cmp v 4607182418800017408 = some (compare (val v) (4398046511104 * uN)) := by rw [cmp_right hd dec_one, v_one]
  have k2 : Float64.cmp 0 4607182418800017408 = some (compare 0 (4398046511104 * (uN : Int))) := by rw [cmp_right dec_zero dec_one, v_zero, v_one]
  have z : 0 < 4398046511104 * (uN : Int) := by omega
  have h1 : val v < 0 → clip v = 0 := fun h => by
    have l : lowAt v 0 = 0 := by unfold lowAt; rw [k0, Int.compare_eq_lt.mpr h]; rfl
    unfold clip
    rw [l]
    unfold highAt
    rw [k2, Int.compare_eq_lt.mpr z]
    rfl
  have lo : 0 ≤ val v → lowAt v 0 = v := fun h => by
    unfold lowAt
    rw [k0]
    rcases Int.lt_or_eq_of_le h with h | h
    · rw [Int.compare_eq_gt.mpr h]; rfl
    · rw [← h]; rfl
  have h2 : 0 ≤ val v → val v ≤ 4398046511104 * uN → clip v = v := fun h h' => by
    unfold clip
    rw [lo h]
    unfold highAt
    rw [k1]
    rcases Int.lt_or_eq_of_le h' with h' | h'
    · rw [Int.compare_eq_lt.mpr h']; rfl
    · rw [h', Int.compare_eq_eq.mpr rfl]; rfl
  have h3 : 4398046511104 * uN < val v → clip v = 4607182418800017408 := fun h => by
    unfold clip
    rw [lo (by omega)]
    unfold highAt
    rw [k1, Int.compare_eq_gt.mpr h]
    rfl
  refine ⟨?_, h1, h2, h3⟩
  rcases Int.lt_or_le (val v) 0 with h | h
  · rw [h1 h]; exact ⟨_, _, _, dec_zero⟩
  · rcases Int.lt_or_le (4398046511104 * uN) (val v) with h' | h'
    · rw [h3 h']; exact ⟨_, _, _, dec_one⟩
    · rw [h2 h h']; exact ⟨_, _, _, hd⟩
theorem dist_lt {n a d X : Nat} (h : 2 * Float64.dist n a < d) (hX : X + d ≤ a ∨ a + d ≤ X) (hn : Float64.dist n X ≤ Float64.dist n a) : False := by
  have h1 := dist_le (Nat.le_refl (Float64.dist n a))
  have h2 := dist_le (Nat.le_refl (Float64.dist n X))
  generalize Float64.dist n a = A at *
  generalize Float64.dist n X = B at *
  rcases hX with hX | hX <;> omega
theorem halfEven_is {n d N : Nat} (hd : 0 < d) (h : 2 * Float64.dist n (d * N) < d) : halfEven n d = N := by
  have hn := halfEven_nearest n d hd N
  generalize halfEven n d = H at *
  rcases Nat.lt_trichotomy H N with k | k | k
  · exact (dist_lt h (.inl (Nat.mul_le_mul_left d k)) hn).elim
  · exact k
  · exact (dist_lt h (.inr (Nat.mul_le_mul_left d k)) hn).elim
theorem dist_two {A X P : Nat} (h1 : 2 * ((A : Int) - (X : Int)) < (P : Int)) (h2 : 2 * ((X : Int) - (A : Int)) < (P : Int)) : 2 * Float64.dist A X < P := by
  unfold Float64.dist; omega
theorem sign_up {N : Int} {A P : Nat} (h : 2 * ((A : Int) - N * (P : Int)) < (P : Int)) (hP : 0 < P) : 0 ≤ N := by
  rcases Int.lt_or_le N 0 with k | k
  · exfalso
    have := Int.mul_le_mul_of_nonneg_right (show N ≤ -1 from Int.le_of_lt_add_one k) (Int.natCast_nonneg P)
    generalize N * (P : Int) = y at *
    clear k
    omega
  · exact k
theorem round_is {x : UInt64} {N : Int} (hx : Fn x) (h1 : 2 * (val x - N * 2 ^ 1074) < 2 ^ 1074) (h2 : 2 * (N * 2 ^ 1074 - val x) < 2 ^ 1074) : Flt.toInt Float64.nearestOf x = N := by
  obtain ⟨a, m, e, hd⟩ := hx
  have hr : Flt.toInt Float64.nearestOf x = sgn a (halfEven (shift m 1 e).1 (shift m 1 e).2) := by
    unfold Flt.toInt
    rw [hd]
    rfl
  have hs := shift_one m e 1074 (decode_ge hd)
  have hp := shift_pos m 1 e (by decide)
  have hA := val_natAbs hd
  have hS := sgn_eq hd
  have ec : ((1074 : Nat) : Int) = 1074 := rfl
  rw [ec] at hs
  rw [← hA] at hs
  rw [hr]
  have eP : ((2 : Int) ^ 1074) = (((2 : Nat) ^ 1074 : Nat) : Int) := by simp
  rw [eP] at h1 h2
  have hP : 0 < (2 : Nat) ^ 1074 := Nat.two_pow_pos _
  generalize (shift m 1 e).1 = n at *
  generalize (shift m 1 e).2 = d at *
  generalize (2 : Nat) ^ 1074 = P at *
  generalize (val x).natAbs = A at *
  have hN : 2 * Float64.dist A (N.natAbs * P) < P ∧ (a = false → 0 ≤ N) ∧ (a = true → N ≤ 0) := by
    cases a with
    | false =>
      simp only [Bool.false_eq_true, if_false] at hS
      rw [hS] at h1 h2
      have h0 := sign_up h1 hP
      refine ⟨?_, fun _ => h0, fun k => nomatch k⟩
      rw [← Int.natAbs_of_nonneg h0, ← Int.natCast_mul] at h1 h2
      exact dist_two h1 h2
    | true =>
      simp only [if_true] at hS
      rw [hS] at h1 h2
      have h0 : 0 ≤ -N := sign_up (N := -N) (A := A) (by rw [Int.neg_mul]; clear hS hd hr hs hp ec hA; generalize N * (P : Int) = y at *; omega) hP
      refine ⟨?_, fun k => (nomatch k), fun _ => by clear hS h1 h2 hd hr hs hp ec hA hP; omega⟩
      have e1 : N * (P : Int) = -((N.natAbs * P : Nat) : Int) := by
        rw [Int.natCast_mul, ← Int.natAbs_neg, Int.natAbs_of_nonneg h0, Int.neg_mul, Int.neg_neg]
      rw [e1] at h1 h2
      exact dist_two (by clear hS hd hr hs hp ec hA h1; omega) (by clear hS hd hr hs hp ec hA h2; omega)
  have hH : halfEven n d = N.natAbs := by
    refine halfEven_is hp ?_
    have hPd : Float64.dist n (d * N.natAbs) * P = d * Float64.dist A (N.natAbs * P) := by
      unfold Float64.dist
      rw [Nat.add_mul, Nat.mul_add, Nat.sub_mul, Nat.sub_mul, Nat.mul_sub, Nat.mul_sub]
      have e1 : n * P = d * A := by rw [hs]; ac_rfl
      have e2 : d * N.natAbs * P = d * (N.natAbs * P) := by ac_rfl
      rw [e1, e2]
    have h3 : d * (2 * Float64.dist A (N.natAbs * P)) < d * P := Nat.mul_lt_mul_of_pos_left hN.1 hp
    have h4 : (2 * Float64.dist n (d * N.natAbs)) * P < d * P := by
      have : (2 * Float64.dist n (d * N.natAbs)) * P = d * (2 * Float64.dist A (N.natAbs * P)) := by
        rw [Nat.mul_assoc, hPd]; ac_rfl
      rw [this]; exact h3
    exact Nat.lt_of_mul_lt_mul_right h4
  rw [hH]
  cases a with
  | false =>
    have := hN.2.1 rfl
    show ((N.natAbs : Nat) : Int) = N
    omega
  | true =>
    have := hN.2.2 rfl
    show -((N.natAbs : Nat) : Int) = N
    omega
end Mine
end
section
open PySem
set_option Elab.async false
namespace Mine
open PySem.Float64
/-- the desk's state near the sums: z the reach in rgb -/
structure Inv (z : Int) (n : Nat) (s : Tri) (S : Sum3) : Prop where
  fy : Fn s.y
  fi : Fn s.i
  fq : Fn s.q
  r1 : 255 * (433 * val s.y + 410 * val s.i + 270 * val s.q) - 433 * (4398046511104 * (S.r * uN)) ≤ 110415 * z
  r2 : 433 * (4398046511104 * (S.r * uN)) - 255 * (433 * val s.y + 410 * val s.i + 270 * val s.q) ≤ 110415 * z
  g1 : 255 * (25547 * val s.y - 7020 * val s.i - 16240 * val s.q) - 25547 * (4398046511104 * (S.g * uN)) ≤ 6514485 * z
  g2 : 25547 * (4398046511104 * (S.g * uN)) - 255 * (25547 * val s.y - 7020 * val s.i - 16240 * val s.q) ≤ 6514485 * z
  b1 : 255 * (433 * val s.y - 480 * val s.i + 740 * val s.q) - 433 * (4398046511104 * (S.b * uN)) ≤ 110415 * z
  b2 : 433 * (4398046511104 * (S.b * uN)) - 255 * (433 * val s.y - 480 * val s.i + 740 * val s.q) ≤ 110415 * z
  sr : S.r.natAbs ≤ 6120 * n
  sg : S.g.natAbs ≤ 6120 * n
  sb : S.b.natAbs ≤ 6120 * n
theorem lin_y {y i q R G B z : Int} (r1 : 255 * (433 * y + 410 * i + 270 * q) - 433 * (4398046511104 * R) ≤ 110415 * z) (r2 : 433 * (4398046511104 * R) - 255 * (433 * y + 410 * i + 270 * q) ≤ 110415 * z)
    (g1 : 255 * (25547 * y - 7020 * i - 16240 * q) - 25547 * (4398046511104 * G) ≤ 6514485 * z) (g2 : 25547 * (4398046511104 * G) - 255 * (25547 * y - 7020 * i - 16240 * q) ≤ 6514485 * z)
    (b1 : 255 * (433 * y - 480 * i + 740 * q) - 433 * (4398046511104 * B) ≤ 110415 * z) (b2 : 433 * (4398046511104 * B) - 255 * (433 * y - 480 * i + 740 * q) ≤ 110415 * z) :
    (2550000 * y - 4398046511104 * (3000 * R + 5900 * G + 1100 * B) ≤ 2550000 * z ∧ 4398046511104 * (3000 * R + 5900 * G + 1100 * B) - 2550000 * y ≤ 2550000 * z) ∧
    (2550000 * i - 4398046511104 * (5990 * R - 2773 * G - 3217 * B) ≤ 3054900 * z ∧ 4398046511104 * (5990 * R - 2773 * G - 3217 * B) - 2550000 * i ≤ 3054900 * z) ∧
    (2550000 * q - 4398046511104 * (2130 * R - 5251 * G + 3121 * B) ≤ 2678010 * z ∧ 4398046511104 * (2130 * R - 5251 * G + 3121 * B) - 2550000 * q ≤ 2678010 * z) :=
  ⟨⟨(sum_y_u r1 g1 b1), (sum_y_l r2 g2 b2)⟩, ⟨(sum_i_u r1 g2 b2), (sum_i_l r2 g1 b1)⟩, ⟨(sum_q_u r1 g2 b1), (sum_q_l r2 g1 b2)⟩⟩
theorem times_u {R : Int} {n : Nat} (h : R.natAbs ≤ 6120 * n) (hn : n ≤ 25) : -(153000 * (uN : Int)) ≤ R * uN ∧ R * (uN : Int) ≤ 153000 * uN := by
  have h1 : (R * (uN : Int)).natAbs ≤ 153000 * uN := by
    rw [Int.natAbs_mul, Int.natAbs_natCast]
    exact Nat.mul_le_mul_right _ (Nat.le_trans h (Nat.mul_le_mul_left 6120 hn))
  exact absU (k := 153000) h1
theorem Inv.mid {z : Int} {n : Nat} {s : Tri} {S : Sum3} (h : Inv z n s S) (hn : n ≤ 25) (hz : 0 ≤ z ∧ z ≤ 60000 * uN) : Mid s.y ∧ Mid s.i ∧ Mid s.q := by
  obtain ⟨r1, r2⟩ := times_u h.sr hn
  obtain ⟨g1, g2⟩ := times_u h.sg hn
  obtain ⟨b1, b2⟩ := times_u h.sb hn
  obtain ⟨⟨y1, y2⟩, ⟨i1, i2⟩, ⟨q1, q2⟩⟩ := lin_y h.r1 h.r2 h.g1 h.g2 h.b1 h.b2
  have zu := hz.2
  exact ⟨⟨h.fy, (mid_y_l y2 zu r1 g1 b1 u0), (mid_y_u y1 zu r2 g2 b2 u0)⟩, ⟨h.fi, (mid_i_l i2 zu r1 g2 b2 u0), (mid_i_u i1 zu r2 g1 b1 u0)⟩, ⟨h.fq, (mid_q_l q2 zu r1 g2 b1 u0), (mid_q_u q1 zu r2 g1 b2 u0)⟩⟩
theorem wt_eq (x : Str) : tokNum x - 30 = wtOf x := by unfold tokNum wtOf; omega
/-- one more light, on one of the three sums -/
theorem comp_step {w N : Int} {y v : UInt64} (hw : -24 ≤ w ∧ w ≤ 24) (hy : Mid y) (hv : Fn v) (h1 : 2550000 * val v - 4398046511104 * N ≤ 43350000 * uN) (h2 : 4398046511104 * N - 2550000 * val v ≤ 43350000 * uN) (n1 : -(4000000 * (uN : Int)) ≤ N) (n2 : N ≤ 4000000 * uN) :
    Fn (Float64.add y (Float64.mul (Float64.ofInt w) v)) ∧ 2550000 * (val (Float64.add y (Float64.mul (Float64.ofInt w) v)) - val y) - 4398046511104 * (w * N) ≤ 1045500000 * uN ∧ 4398046511104 * (w * N) - 2550000 * (val (Float64.add y (Float64.mul (Float64.ofInt w) v)) - val y) ≤ 1045500000 * uN := by
  obtain ⟨t1, t2⟩ := times24 hw h1 h2
  rw [Int.mul_left_comm w, Int.mul_left_comm w] at t1 t2
  have hvb : (val v).natAbs ≤ 8000000000000 * uN := of_absU (k := 8000000000000) (comp_b_l h2 n1 u0) (comp_b_u h1 n2 u0)
  have hwv : (w * val v).natAbs ≤ 192000000000000 * uN := by
    rw [Int.natAbs_mul]
    calc w.natAbs * (val v).natAbs ≤ 24 * (8000000000000 * uN) := Nat.mul_le_mul (n24 hw) hvb
      _ = 192000000000000 * uN := by rw [← Nat.mul_assoc]
  obtain ⟨fm, m1, m2⟩ := mulw (Nat.le_trans (n24 hw) (by decide)) hv uN_eq (by decide) (Nat.le_trans hwv (Nat.mul_le_mul_right _ (by decide)))
  obtain ⟨w1, w2⟩ := absU hwv
  have bm : Bd 192000000000001 (Float64.mul (Float64.ofInt w) v) := ⟨fm, near_bd (k := 192000000000000) w1 w2 m1 m2⟩
  obtain ⟨ba, a1, a2⟩ := hy.add bm (by decide)
  exact ⟨ba.1, (comp_u a1 m1 t1), (comp_l a2 m2 t2)⟩
theorem wab {w T o : Int} {n : Nat} (hw : -24 ≤ w ∧ w ≤ 24) (hT : T.natAbs ≤ 6120 * n) (ho : 0 ≤ o ∧ o ≤ 255) : (T + w * o).natAbs ≤ 6120 * (n + 1) := by
  have h : (w * o).natAbs ≤ 24 * 255 := by
    rw [Int.natAbs_mul]
    exact Nat.mul_le_mul (n24 hw) (by omega)
  exact Nat.le_trans (Int.natAbs_add_le _ _) (Nat.add_le_add hT h)
theorem our {o : Int} (h : 0 ≤ o ∧ o ≤ 255) : 0 ≤ o * (uN : Int) ∧ o * (uN : Int) ≤ 255 * uN := ⟨Int.mul_nonneg h.1 u0, Int.mul_le_mul_of_nonneg_right h.2 u0⟩
theorem more_u (S w o : Int) : (S + w * o) * (uN : Int) = S * uN + w * (o * uN) := by rw [Int.add_mul, Int.mul_assoc]
theorem dy (w a b c : Int) : w * (3000 * a + 5900 * b + 1100 * c) = 3000 * (w * a) + 5900 * (w * b) + 1100 * (w * c) := by
  rw [Int.mul_add, Int.mul_add, Int.mul_left_comm, Int.mul_left_comm _ 5900, Int.mul_left_comm _ 1100]
theorem di (w a b c : Int) : w * (5990 * a - 2773 * b - 3217 * c) = 5990 * (w * a) - 2773 * (w * b) - 3217 * (w * c) := by
  rw [Int.mul_sub, Int.mul_sub, Int.mul_left_comm, Int.mul_left_comm _ 2773, Int.mul_left_comm _ 3217]
theorem dq (w a b c : Int) : w * (2130 * a - 5251 * b + 3121 * c) = 2130 * (w * a) - 5251 * (w * b) + 3121 * (w * c) := by
  rw [Int.mul_add, Int.mul_sub, Int.mul_left_comm, Int.mul_left_comm _ 5251, Int.mul_left_comm _ 3121]
theorem Inv.step {z : Int} {n : Nat} {s : Tri} {S : Sum3} {l : Light} (h : Inv z n s S) (hn : n ≤ 24) (hz : 0 ≤ z ∧ z ≤ 60000 * uN) (hop : l.word ∈ ops) (hr : 0 ≤ l.r ∧ l.r ≤ 255) (hg : 0 ≤ l.g ∧ l.g ≤ 255) (hb : 0 ≤ l.b ∧ l.b ≤ 255) : Inv (z + 1700 * uN) (n + 1) (stepY s l) (stepS S l) := by
  obtain ⟨my, mi, mq⟩ := h.mid (Nat.le_trans hn (by decide)) hz
  have hw : -24 ≤ wtOf l.word ∧ wtOf l.word ≤ 24 := by
    have hw := tok_bounds hop
    rw [← wt_eq l.word]
    clear hz hn h my mi mq hr hg hb
    omega
  obtain ⟨s1, p1, q1⟩ := part_near hr
  obtain ⟨s2, p2, q2⟩ := part_near hg
  obtain ⟨s3, p3, q3⟩ := part_near hb
  obtain ⟨f1, l1, l2⟩ := luma_near s1 s2 s3
  obtain ⟨f2, w1, w2⟩ := warm_near s1 s2 s3
  obtain ⟨f3, c1, c2⟩ := cool_near s1 s2 s3
  have br := our hr
  have bg := our hg
  have bb := our hb
  obtain ⟨F1, y1, y2⟩ := comp_step hw my f1.1 (part_y_u l1 p1 p2 p3 u0) (part_y_l l2 q1 q2 q3 u0) (num_y_l br.1 bg.1 bb.1 u0) (num_y_u br.2 bg.2 bb.2 u0)
  obtain ⟨F2, i1, i2⟩ := comp_step hw mi f2 (part_i_u w1 p1 q2 q3 u0) (part_i_l w2 q1 p2 p3 u0) (num_i_l br.1 bg.2 bb.2 u0) (num_i_u br.2 bg.1 bb.1 u0)
  obtain ⟨F3, k1, k2⟩ := comp_step hw mq f3 (part_q_u c1 p1 q2 p3 u0) (part_q_l c2 q1 p2 q3 u0) (num_q_l br.1 bg.2 bb.1 u0) (num_q_u br.2 bg.1 bb.2 u0)
  rw [dy] at y1 y2
  rw [di] at i1 i2
  rw [dq] at k1 k2
  obtain ⟨fy, fi, fq, r1, r2, g1, g2, b1, b2, sr, sg, sb⟩ := h
  have ew : tokNum l.word - 30 = wtOf l.word := wt_eq l.word
  have ey : (stepY s l).y = Float64.add s.y (Float64.mul (Float64.ofInt (wtOf l.word)) (lumaF (part255 l.r) (part255 l.g) (part255 l.b))) := by rw [← ew]; rfl
  have ei : (stepY s l).i = Float64.add s.i (Float64.mul (Float64.ofInt (wtOf l.word)) (warmF (part255 l.r) (part255 l.g) (part255 l.b))) := by rw [← ew]; rfl
  have eq : (stepY s l).q = Float64.add s.q (Float64.mul (Float64.ofInt (wtOf l.word)) (coolF (part255 l.r) (part255 l.g) (part255 l.b))) := by rw [← ew]; rfl
  have hS1 : (stepS S l).r * (uN : Int) = S.r * uN + wtOf l.word * (l.r * uN) := more_u ..
  have hS2 : (stepS S l).g * (uN : Int) = S.g * uN + wtOf l.word * (l.g * uN) := more_u ..
  have hS3 : (stepS S l).b * (uN : Int) = S.b * uN + wtOf l.word * (l.b * uN) := more_u ..
  rw [← ey] at F1 y1 y2
  rw [← ei] at F2 i1 i2
  rw [← eq] at F3 k1 k2
  refine ⟨F1, F2, F3, ?_, ?_, ?_, ?_, ?_, ?_, wab hw sr hr, wab hw sg hg, wab hw sb hb⟩
  · rw [hS1]; exact (step_red_u r1 y1 i1 k1 u0)
  · rw [hS1]; exact (step_red_l r2 y2 i2 k2 u0)
  · rw [hS2]; exact (step_green_u g1 y1 i2 k2 u0)
  · rw [hS2]; exact (step_green_l g2 y2 i1 k1 u0)
  · rw [hS3]; exact (step_blue_u b1 y1 i2 k1 u0)
  · rw [hS3]; exact (step_blue_l b2 y2 i1 k2 u0)
end Mine
end
section
open PySem
set_option Elab.async false
namespace Mine
open PySem.Float64
theorem clip_bd {v : UInt64} (hv : Fn v) : Small (clip v) := by
  obtain ⟨hf, k1, k2, k3⟩ := clip_spec hv
  have hu := u0
  refine ⟨hf, ?_⟩
  rcases Int.lt_or_le (val v) 0 with n0 | n0
  · rw [k1 n0, v_zero]
    clear k1 k2 k3 n0
    omega
  · rcases Int.lt_or_le (4398046511104 * uN) (val v) with n1 | n1
    · rw [k3 n1, v_one]
      clear k1 k2 k3 n0 n1
      omega
    · rw [k2 n0 n1]
      clear k1 k2 k3
      omega
theorem clip_lo {x R b u : Int} (h2 : 4398046511104 * (R * u) - 255 * x ≤ b) (hb : 2 * b < 4398046511104 * u) (hu : 0 ≤ u) (n0 : x < 0) : R ≤ 0 := by
  rcases Int.lt_or_le 0 R with k | k
  · exfalso
    have := Int.mul_le_mul_of_nonneg_right (show 1 ≤ R from k) hu
    rw [Int.one_mul] at this
    generalize R * u = y at *
    clear k
    omega
  · exact k
theorem clip_hi {x R b u : Int} (h1 : 255 * x - 4398046511104 * (R * u) ≤ b) (hb : 2 * b < 4398046511104 * u) (hu : 0 ≤ u) (n1 : 4398046511104 * u < x) : 255 ≤ R := by
  rcases Int.lt_or_le R 255 with k | k
  · exfalso
    have := Int.mul_le_mul_of_nonneg_right (show R ≤ 254 from Int.le_of_lt_add_one k) hu
    generalize R * u = y at *
    clear k
    omega
  · exact k
theorem clip_in {x R b u : Int} (h1 : 255 * x - 4398046511104 * (R * u) ≤ b) (h2 : 4398046511104 * (R * u) - 255 * x ≤ b) (hb : 2 * b < 4398046511104 * u) (hu : 0 ≤ u) (n0 : 0 ≤ x) (n1 : x ≤ 4398046511104 * u) : 0 ≤ R ∧ R ≤ 255 := by
  constructor
  · rcases Int.lt_or_le R 0 with k | k
    · exfalso
      have := Int.mul_le_mul_of_nonneg_right (show R ≤ -1 from Int.le_of_lt_add_one k) hu
      generalize R * u = y at *
      clear k h2 n1
      omega
    · exact k
  · rcases Int.lt_or_le 255 R with k | k
    · exfalso
      have := Int.mul_le_mul_of_nonneg_right (show 256 ≤ R from k) hu
      generalize R * u = y at *
      clear k h1 n0
      omega
    · exact k
theorem clip_b0 {x y b : Int} (h1 : x - y ≤ b) (h2 : y - x ≤ b) : 0 ≤ b := by omega
theorem c_zero {R : Int} (h : R ≤ 0) : clampI R = 0 := by unfold clampI; omega
theorem c_full {R : Int} (h : 255 ≤ R) : clampI R = 255 := by unfold clampI; omega
theorem c_same {R : Int} (h0 : 0 ≤ R) (h1 : R ≤ 255) : clampI R = R := by unfold clampI; omega
theorem clip_near {v : UInt64} {R b : Int} (hv : Fn v) (h1 : 255 * val v - 4398046511104 * (R * uN) ≤ b) (h2 : 4398046511104 * (R * uN) - 255 * val v ≤ b) (hb : 2 * b < 4398046511104 * uN) :
    Small (clip v) ∧ 255 * val (clip v) - 4398046511104 * (clampI R * uN) ≤ b ∧ 4398046511104 * (clampI R * uN) - 255 * val (clip v) ≤ b ∧ (255 < R → clip v = 4607182418800017408) ∧ (R < 0 → clip v = 0) := by
  have hu := u0
  have hb0 := clip_b0 h1 h2
  refine ⟨clip_bd hv, ?_⟩
  obtain ⟨hf, k1, k2, k3⟩ := clip_spec hv
  rcases Int.lt_or_le (val v) 0 with n0 | n0
  · have e := k1 n0
    have hR := clip_lo h2 hb hu n0
    rw [e, v_zero, c_zero hR, Int.zero_mul]
    exact ⟨hb0, hb0, fun k => absurd (Int.lt_of_lt_of_le k hR) (by decide), fun _ => rfl⟩
  · rcases Int.lt_or_le (4398046511104 * uN) (val v) with n1 | n1
    · have e := k3 n1
      have hR := clip_hi h1 hb hu n1
      rw [e, v_one, c_full hR, Int.mul_left_comm, Int.sub_self]
      exact ⟨hb0, hb0, fun _ => rfl, fun k => absurd (Int.lt_of_le_of_lt hR k) (by decide)⟩
    · have e := k2 n0 n1
      have hR := clip_in h1 h2 hb hu n0 n1
      rw [e, c_same hR.1 hR.2]
      exact ⟨h1, h2, fun k => absurd (Int.lt_of_lt_of_le k hR.2) (by decide), fun k => absurd k (Int.not_lt.mpr hR.1)⟩
theorem shown_lin {v m R b u : Int} (hb : 4 * b < 4398046511104 * u) (p1 : 255 * v - 4398046511104 * R ≤ b) (m1 : m - 255 * v ≤ u) (hu : 0 ≤ u) : 2 * (m - 4398046511104 * R) < 4398046511104 * u := by omega
theorem shown_lin' {v m R b u : Int} (hb : 4 * b < 4398046511104 * u) (p1 : 4398046511104 * R - 255 * v ≤ b) (m1 : 255 * v - m ≤ u) (hu : 0 ≤ u) : 2 * (4398046511104 * R - m) < 4398046511104 * u := by omega
theorem bd_times {k : Int} {v : UInt64} {w n : Nat} (h : Bd k v) (hk : w * k ≤ n) : ((w : Int) * val v).natAbs ≤ n * uN := by
  obtain ⟨_, b1, b2⟩ := h
  have c1 : (w : Int) * val v ≤ w * (k * uN) := Int.mul_le_mul_of_nonneg_left b2 (Int.natCast_nonneg _)
  have c2 : (w : Int) * -(k * uN) ≤ w * val v := Int.mul_le_mul_of_nonneg_left b1 (Int.natCast_nonneg _)
  rw [Int.mul_neg] at c2
  rw [← Int.mul_assoc] at c1 c2
  have c3 : w * k * uN ≤ (n : Int) * uN := k_mono hk
  exact of_absU (Int.le_trans (Int.neg_le_neg c3) c2) (Int.le_trans c1 c3)
theorem two_b {b u : Int} (h : 4 * b < 4398046511104 * u) (hb : 0 ≤ b) : 2 * b < 4398046511104 * u := by omega
theorem shown_of {v : UInt64} {R b : Int} (hv : Fn v) (h1 : 255 * val v - 4398046511104 * (R * uN) ≤ b) (h2 : 4398046511104 * (R * uN) - 255 * val v ≤ b) (hb : 4 * b < 4398046511104 * uN) :
    Float64.isFinite (Float64.mul (Float64.ofInt 255) (clip v)) = true ∧ ShownOk R (clip v) := by
  obtain ⟨sc, p1, p2, p3, p4⟩ := clip_near hv h1 h2 (two_b hb (clip_b0 h1 h2))
  obtain ⟨fm, m1, m2⟩ := mulw (w := 255) (x := clip v) (by decide) sc.1 uN_eq (by decide) (bd_times (w := 255) (n := 2 ^ 54) sc (by decide))
  refine ⟨fm.fin, fun k => ?_, fun k => ?_, fun ka kb => ?_⟩
  · rw [p3 k]; decide +kernel
  · rw [p4 k]; decide +kernel
  · rw [c_same (Int.not_lt.mp kb) (Int.not_lt.mp ka)] at p1 p2
    have e : R * (2 : Int) ^ 1074 = 4398046511104 * (R * uN) := by rw [U_eq]; exact Int.mul_left_comm ..
    have hr := round_is (N := R) fm (by rw [e, U_eq]; exact shown_lin hb p1 m1 u0) (by rw [e, U_eq]; exact shown_lin' hb p2 m2 u0)
    rw [hr]
    simp
theorem Inv.screen {z : Int} {n : Nat} {s : Tri} {S : Sum3} (h : Inv z n s S) (hn : n ≤ 25) (hz : 0 ≤ z ∧ z ≤ 60000 * uN) :
    (Fn (redF s.y s.i s.q) ∧ 255 * val (redF s.y s.i s.q) - 4398046511104 * (S.r * uN) ≤ 255 * z + 1530 * uN ∧ 4398046511104 * (S.r * uN) - 255 * val (redF s.y s.i s.q) ≤ 255 * z + 1530 * uN) ∧
    (Fn (greenF s.y s.i s.q) ∧ 255 * val (greenF s.y s.i s.q) - 4398046511104 * (S.g * uN) ≤ 255 * z + 1530 * uN ∧ 4398046511104 * (S.g * uN) - 255 * val (greenF s.y s.i s.q) ≤ 255 * z + 1530 * uN) ∧
    (Fn (blueF s.y s.i s.q) ∧ 255 * val (blueF s.y s.i s.q) - 4398046511104 * (S.b * uN) ≤ 255 * z + 1530 * uN ∧ 4398046511104 * (S.b * uN) - 255 * val (blueF s.y s.i s.q) ≤ 255 * z + 1530 * uN) := by
  obtain ⟨my, mi, mq⟩ := h.mid hn hz
  obtain ⟨fy, fi, fq, r1, r2, g1, g2, b1, b2, sr, sg, sb⟩ := h
  refine ⟨?_, ?_, ?_⟩
  · obtain ⟨f1, e1, e2⟩ := red_near my mi mq
    exact ⟨f1, (scr_red_u r1 e1), (scr_red_l r2 e2)⟩
  · obtain ⟨f1, e1, e2⟩ := green_near my mi mq
    exact ⟨f1, (scr_green_u g1 e1), (scr_green_l g2 e2)⟩
  · obtain ⟨f1, e1, e2⟩ := blue_near my mi mq
    exact ⟨f1, (scr_blue_u b1 e1), (scr_blue_l b2 e2)⟩
theorem small_z {z u : Int} (hz : z ≤ 60000 * u) (h0 : 0 < u) : 4 * (255 * z + 1530 * u) < 4398046511104 * u := by omega
theorem uNi_pos : (0 : Int) < uN := by have := uN_pos; omega
theorem clamp_le (x : Int) : (clampI x).natAbs ≤ 255 := by unfold clampI; omega
theorem Inv.back {z : Int} {n : Nat} {s : Tri} {S : Sum3} (h : Inv z n s S) (hn : n ≤ 25) (hz : 0 ≤ z ∧ z ≤ 60000 * uN) (h1 : 1 ≤ n) : Inv (z + 100 * uN) n (backY (scr s)) ⟨clampI S.r, clampI S.g, clampI S.b⟩ := by
  obtain ⟨⟨f1, a1, a2⟩, ⟨f2, c1, c2⟩, ⟨f3, d1, d2⟩⟩ := h.screen hn hz
  have hb := two_b (small_z hz.2 uNi_pos) (clip_b0 a1 a2)
  obtain ⟨s1, p1, p2, _⟩ := clip_near f1 a1 a2 hb
  obtain ⟨s2, q1, q2, _⟩ := clip_near f2 c1 c2 hb
  obtain ⟨s3, t1, t2, _⟩ := clip_near f3 d1 d2 hb
  obtain ⟨e1, y1, y2⟩ := luma_near s1 s2 s3
  obtain ⟨e2, i1, i2⟩ := warm_near s1 s2 s3
  obtain ⟨e3, k1, k2⟩ := cool_near s1 s2 s3
  have cb : ∀ x : Int, (clampI x).natAbs ≤ 6120 * n := fun x => Nat.le_trans (clamp_le x) (Nat.le_trans (by decide) (Nat.mul_le_mul_left 6120 h1))
  have ey : (backY (scr s)).y = lumaF (clip (redF s.y s.i s.q)) (clip (greenF s.y s.i s.q)) (clip (blueF s.y s.i s.q)) := rfl
  have ei : (backY (scr s)).i = warmF (clip (redF s.y s.i s.q)) (clip (greenF s.y s.i s.q)) (clip (blueF s.y s.i s.q)) := rfl
  have eq : (backY (scr s)).q = coolF (clip (redF s.y s.i s.q)) (clip (greenF s.y s.i s.q)) (clip (blueF s.y s.i s.q)) := rfl
  rw [← ey] at e1 y1 y2
  rw [← ei] at e2 i1 i2
  rw [← eq] at e3 k1 k2
  exact ⟨e1.1, e2, e3, (back_red_u u0 y1 i1 k1 p1), (back_red_l u0 y2 i2 k2 p2), (back_green_u u0 y1 i2 k2 q1), (back_green_l u0 y2 i1 k1 q2), (back_blue_u u0 y1 i2 k1 t1), (back_blue_l u0 y2 i1 k2 t2), cb _, cb _, cb _⟩
theorem rnd_lin {x m N e u P : Int} (h1 : 2550000 * x - 4398046511104 * N ≤ e) (he : e ≤ 1000000000000 * u) (m1 : m - 2550000 * x ≤ 1048576 * u) (hu : 0 < u) (hP : P = 4398046511104 * u) : 2 * (m - 4398046511104 * N) < P := by omega
theorem rnd_lin' {x m N e u P : Int} (h2 : 4398046511104 * N - 2550000 * x ≤ e) (he : e ≤ 1000000000000 * u) (m2 : 2550000 * x - m ≤ 1048576 * u) (hu : 0 < u) (hP : P = 4398046511104 * u) : 2 * (4398046511104 * N - m) < P := by omega
theorem rnd_of {x : UInt64} {N e : Int} (hx : Mid x) (h1 : 2550000 * val x - 4398046511104 * (N * uN) ≤ e) (h2 : 4398046511104 * (N * uN) - 2550000 * val x ≤ e) (he : e ≤ 1000000000000 * uN) :
    Float64.isFinite (Float64.mul (Float64.ofInt 2550000) x) = true ∧ rnd 2550000 x = N := by
  have eg : 1048576 * uN = 2 ^ 1052 := by rw [uN_eq, show (1048576 : Nat) = 2 ^ 20 from by decide, ← Nat.pow_add]
  obtain ⟨fm, m1, m2⟩ := mulw (w := 2550000) (by decide) hx.1 eg (by decide) (by
    rw [← Nat.mul_assoc]
    exact bd_times (w := 2550000) (n := 2 ^ 54 * 1048576) hx (by decide))
  refine ⟨fm.fin, ?_⟩
  have e : N * (2 : Int) ^ 1074 = 4398046511104 * (N * uN) := by rw [U_eq]; exact Int.mul_left_comm ..
  rw [Int.natCast_mul] at m1 m2
  exact round_is fm (by rw [e]; exact rnd_lin h1 he m1 uNi_pos U_eq) (by rw [e]; exact rnd_lin' h2 he m2 uNi_pos U_eq)
theorem big_z {z u k : Int} (hz : z ≤ 60000 * u) (h0 : 0 ≤ u) (hk : 0 ≤ k) (hk2 : k ≤ 3054900) : k * z ≤ 1000000000000 * u := by
  have h1 : k * z ≤ k * (60000 * u) := Int.mul_le_mul_of_nonneg_left hz hk
  have h2 : k * (60000 * u) ≤ 3054900 * (60000 * u) := Int.mul_le_mul_of_nonneg_right hk2 (Int.mul_nonneg (by decide) h0)
  clear hz hk hk2
  omega
theorem Inv.right {z : Int} {n : Nat} {s : Tri} {S : Sum3} (h : Inv z n s S) (hn : n ≤ 25) (hz : 0 ≤ z ∧ z ≤ 60000 * uN) : RightOk S (s, scr s) := by
  obtain ⟨my, mi, mq⟩ := h.mid hn hz
  obtain ⟨⟨f1, a1, a2⟩, ⟨f2, c1, c2⟩, ⟨f3, d1, d2⟩⟩ := h.screen hn hz
  obtain ⟨⟨y1, y2⟩, ⟨i1, i2⟩, ⟨q1, q2⟩⟩ := lin_y h.r1 h.r2 h.g1 h.g2 h.b1 h.b2
  have ey : 3000 * (S.r * (uN : Int)) + 5900 * (S.g * uN) + 1100 * (S.b * uN) = (3000 * S.r + 5900 * S.g + 1100 * S.b) * uN := by
    rw [Int.add_mul, Int.add_mul, Int.mul_assoc, Int.mul_assoc, Int.mul_assoc]
  have ei : 5990 * (S.r * (uN : Int)) - 2773 * (S.g * uN) - 3217 * (S.b * uN) = (5990 * S.r - 2773 * S.g - 3217 * S.b) * uN := by
    rw [Int.sub_mul, Int.sub_mul, Int.mul_assoc, Int.mul_assoc, Int.mul_assoc]
  have eq : 2130 * (S.r * (uN : Int)) - 5251 * (S.g * uN) + 3121 * (S.b * uN) = (2130 * S.r - 5251 * S.g + 3121 * S.b) * uN := by
    rw [Int.add_mul, Int.sub_mul, Int.mul_assoc, Int.mul_assoc, Int.mul_assoc]
  rw [ey] at y1 y2
  rw [ei] at i1 i2
  rw [eq] at q1 q2
  have hb := small_z hz.2 uNi_pos
  obtain ⟨g1, r1⟩ := rnd_of my y1 y2 (big_z hz.2 u0 (by decide) (by decide))
  obtain ⟨g2, r2⟩ := rnd_of mi i1 i2 (big_z hz.2 u0 (by decide) (by decide))
  obtain ⟨g3, r3⟩ := rnd_of mq q1 q2 (big_z hz.2 u0 (by decide) (by decide))
  obtain ⟨k1, o1⟩ := shown_of f1 a1 a2 hb
  obtain ⟨k2, o2⟩ := shown_of f2 c1 c2 hb
  obtain ⟨k3, o3⟩ := shown_of f3 d1 d2 hb
  exact ⟨g1, g2, g3, r1, r2, r3, k1, k2, k3, o1, o2, o3⟩
end Mine
end
section
open PySem
set_option Elab.async false
namespace Mine
open PySem.Float64
theorem Inv.mono {z z' : Int} {n : Nat} {s : Tri} {S : Sum3} (h : Inv z n s S) (hz : z ≤ z') : Inv z' n s S := by
  obtain ⟨fy, fi, fq, r1, r2, g1, g2, b1, b2, sr, sg, sb⟩ := h
  have e1 : 110415 * z ≤ 110415 * z' := Int.mul_le_mul_of_nonneg_left hz (by decide)
  have e2 : 6514485 * z ≤ 6514485 * z' := Int.mul_le_mul_of_nonneg_left hz (by decide)
  exact ⟨fy, fi, fq, Int.le_trans r1 e1, Int.le_trans r2 e1, Int.le_trans g1 e2, Int.le_trans g2 e2, Int.le_trans b1 e1, Int.le_trans b2 e1, sr, sg, sb⟩
theorem inv_zero : Inv 0 0 ⟨0, 0, 0⟩ ⟨0, 0, 0⟩ := by
  have f : Fn 0 := ⟨_, _, _, dec_zero⟩
  refine ⟨f, f, f, ?_, ?_, ?_, ?_, ?_, ?_, by decide, by decide, by decide⟩
  all_goals (dsimp only; rw [v_zero, Int.zero_mul]; decide)
theorem z_range {Z u : Int} (h : 0 ≤ Z ∧ Z ≤ 24 * u) (hu : 0 ≤ u) : (0 ≤ 1800 * Z ∧ 1800 * Z ≤ 60000 * u) ∧ (0 ≤ 1800 * Z + 1700 * u ∧ 1800 * Z + 1700 * u ≤ 60000 * u) := by omega
theorem z_next {Z u : Int} (hu : 0 ≤ u) : 1800 * Z + 1700 * u ≤ 1800 * (Z + u) ∧ 1800 * Z + 1700 * u + 100 * u ≤ 1800 * (Z + u) := by omega
theorem plain_law {ls : List Light} (hok : ∀ l ∈ ls, l.word ∈ ops ∧ (0 ≤ l.r ∧ l.r ≤ 255) ∧ (0 ≤ l.g ∧ l.g ≤ 255) ∧ (0 ≤ l.b ∧ l.b ≤ 255)) (hlen : ls.length ≤ 25) :
    ∀ i, i ≤ ls.length → Inv (1800 * ((i : Int) * uN)) i (deskOf (ls.take i)).1 (sumsOf (ls.take i)).1 ∧ All2 RightOk (sumsOf (ls.take i)).2 (deskOf (ls.take i)).2 := by
  intro i
  induction i with
  | zero =>
    intro _
    refine ⟨?_, .nil⟩
    have e : (1800 * (((0 : Nat) : Int) * (uN : Int))) = 0 := by simp
    rw [e]
    exact inv_zero
  | succ i ih =>
    intro hi
    obtain ⟨hinv, hall⟩ := ih (Nat.le_of_succ_le hi)
    have hl : i < ls.length := hi
    have hget : ls[i]? = some ls[i] := List.getElem?_eq_getElem hl
    obtain ⟨hop, hr, hg, hb⟩ := hok _ (List.getElem_mem hl)
    generalize ls[i] = l at *
    rw [deskOf_take hget, sumsOf_take hget]
    have hi25 : i ≤ 24 := Nat.le_of_succ_le_succ (Nat.le_trans hi hlen)
    have zb : 0 ≤ (i : Int) * (uN : Int) ∧ (i : Int) * (uN : Int) ≤ 24 * uN := ⟨Int.mul_nonneg (Int.natCast_nonneg _) u0, Int.mul_le_mul_of_nonneg_right (Int.ofNat_le.mpr hi25) u0⟩
    have ez : ((i + 1 : Nat) : Int) * (uN : Int) = (i : Int) * uN + uN := by
      rw [Int.natCast_add, Int.add_mul]; simp
    rw [ez]
    generalize (i : Int) * (uN : Int) = Z at *
    obtain ⟨z1, z2⟩ := z_range zb u0
    have hst := hinv.step hi25 z1 hop hr hg hb
    have hi26 : i + 1 ≤ 25 := Nat.succ_le_succ hi25
    have hrt := hst.right hi26 z2
    obtain ⟨z3, z4⟩ := z_next (Z := Z) (u := uN) u0
    refine ⟨?_, ?_⟩
    · show Inv _ _ (nextY (deskOf (ls.take i)).1 l) (nextS (sumsOf (ls.take i)).1 l)
      unfold nextY nextS
      cases hs : setting l.word with
      | true =>
        rw [if_pos rfl, if_pos rfl]
        exact (hst.back hi26 z2 (Nat.succ_le_succ (Nat.zero_le i))).mono z4
      | false =>
        rw [if_neg (by decide), if_neg (by decide)]
        exact hst.mono z3
    · exact hall.snoc hrt
theorem plain_ok (ns : List Int) (hn : ns.length ≤ 20) : All2 RightOk (sumsOf (lightsOf ns)).2 (deskOf (lightsOf ns)).2 := by
  have hlen : (lightsOf ns).length ≤ 25 := by
    simp only [lightsOf, fixedLights, List.length_append, List.length_cons, List.length_nil, List.length_map]
    omega
  have h := (plain_law (lights_ok ns) hlen _ (Nat.le_refl _)).2
  rw [List.take_length] at h
  exact h
end Mine
end
set_option maxRecDepth 100000 in
set_option maxHeartbeats 8000000 in
theorem PySem.Challenge.cw_mq0231_01_holds : PySem.Challenge.rw_mq0231_01.Holds := by
  exact Mine.law_of Mine.plain_ok
