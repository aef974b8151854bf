import PyProof.Rows.All
import Wide.All
import OpenK.AllK
import Wide.FinOn
import Lean
import PySem.Challenge.RW_ge0002_01
open PySem PySem.W PyProof.Rows
set_option Elab.async false
set_option maxRecDepth 100000
namespace Mine
section
set_option maxHeartbeats 8000000
open_top topH for PySem.Challenge.rw_ge0002_01
end
open PySem.Calls PySem.Spec
section
set_option maxHeartbeats 8000000

abbrev Led := List (Addr × Obj)

/-- what a caller of the text's own defs has at hand -/
structure At (w : World) (p : Program) (loose : List Str) (mean : ExcName → Option Value) (mg mb : Str → Option Value) (A₀ : Around) (base : Heap) (outer : List Env) (h₀ : Heap) (L : Addr) (m : Str → Option Value) (cs : Scope) (h : Heap) (news : Led) : Prop where
  B : Below A₀ base outer h₀
  F : Fr h₀ L h m
  X : (topH.heap_39 w.params).In h₀
  T : Top p loose mean mg mb h₀
  hk : cs.kind = .function
  H1 : CodeHd base 27 23
  H2 : CodeHd base 20 16
  N : News h₀ L h news

/-- `oc`, at `c`, is the code object named `q` -/
structure Inner (q : Str) (c : Nat) (oc : Obj) : Prop where
  lt : @LT.lt Nat _ 78 c
  cd : ∃ (vs : Array Value) (t : Tok), oc.data = .fields vs ∧ vs[1]? = some (.str q t)

/-- a contract: under a ledger that begins with `hd`, the call hands back a value and adds `tl` to the ledger -/
def Con (w : World) (k : Nat) (f : Addr) (vs : List Value) (hd : Led) (Out : Led → Value → Prop) : Prop :=
  ∀ (p : Program) (loose : List Str) (mean : ExcName → Option Value) (mg mb : Str → Option Value) (dp un : Nat) (gd : Option (List Code)) (cn : Str) (cs : Scope) (a : Addr) (ccd : Value) (cl : List (Str × Addr)) (outer : List Env) (A₀ : Around) (base h₀ : Heap) (L : Addr) (m : Str → Option Value) (s : Shared) (Q E : Value → Shared → Prop) (news : Led),
    At w p loose mean mg mb A₀ base outer h₀ L m cs s.heap (hd ++ news) → dp + k < recursionLimit → un + 8 * k < cLine →
    (∀ v tl h' tk', Out tl v → (∀ q ∈ hd ++ news, ∀ r ∈ tl, @LT.lt Nat _ q.1 r.1) → Fr h₀ L h' m → News h₀ L h' (tl ++ (hd ++ news)) → Q v { s with heap := h', toks := tk' }) →
    wpAny (model PySem.Challenge.rw_ge0002_01.prog w) (ktrTop dp un gd cn cs L a ccd cl outer) (call (.ref f) vs) Q E s

/-- every address of the ledger's tail lies below L -/
structure Low (L : Addr) (news : Led) : Prop where
  lt : ∀ p ∈ news, @LT.lt Nat _ p.1 L
theorem Low.ne {L d : Nat} {news : Led} (h : Low L news) (hl : @LE.le Nat _ L d) : ∀ p ∈ news, p.1 ≠ d := fun p hp => Nat.ne_of_lt (Nat.lt_of_lt_of_le (h.lt p hp) hl)
theorem drop_tl {h₀ h : Heap} {L : Addr} {tl news : Led} (N : News h₀ L h (tl ++ news)) : News h₀ L h news := fun p hp => N p (List.mem_append_right _ hp)

theorem Con.use {w : World} {k : Nat} {f : Addr} {vs : List Value} {hd led : Led} {Out : Led → Value → Prop} (C : Con w k f vs hd Out) {p : Program} {loose : List Str} {mean : ExcName → Option Value} {mg mb : Str → Option Value} {dp un : Nat} {gd : Option (List Code)} {cn : Str} {cs : Scope} {a : Addr} {ccd : Value} {cl : List (Str × Addr)} {outer : List Env} {A₀ : Around} {base h₀ : Heap} {L : Addr} {m : Str → Option Value} {s : Shared} {Q E : Value → Shared → Prop}
    (B : Below A₀ base outer h₀) (F : Fr h₀ L s.heap m) (X : (topH.heap_39 w.params).In h₀) (T : Top p loose mean mg mb h₀) (hk : cs.kind = .function) (H1 : CodeHd base 27 23) (H2 : CodeHd base 20 16) (N : News h₀ L s.heap led)
    (hs : ∀ p ∈ hd, p ∈ led) (room : dp + k < recursionLimit) (units : un + 8 * k < cLine)
    (h : ∀ v tl h' tk', Out tl v → (∀ q ∈ led, ∀ r ∈ tl, @LT.lt Nat _ q.1 r.1) → Fr h₀ L h' m → News h₀ L h' (tl ++ led) → Q v { s with heap := h', toks := tk' }) :
    wpAny (model PySem.Challenge.rw_ge0002_01.prog w) (ktrTop dp un gd cn cs L a ccd cl outer) (call (.ref f) vs) Q E s :=
  C p loose mean mg mb dp un gd cn cs a ccd cl outer A₀ base h₀ L m s Q E led ⟨B, F, X, T, hk, H1, H2, fun p hp => N p ((List.mem_append.mp hp).elim (hs p) id)⟩ room units
    fun v tl h' tk' ho hlt F' N' => h v tl h' tk' ho (fun q hq => hlt q (List.mem_append_right _ hq)) F' fun p hp => N' p ((List.mem_append.mp hp).elim (List.mem_append_left _) fun z => List.mem_append_right _ (List.mem_append_right _ z))
section
variable {prog : Program} {w : World} {A : Around} {E : Value → Shared → Prop} {s : Shared} {h₀ : Heap} {L : Addr} {m : Str → Option Value} {news : Led}
theorem mul_lit {l : Addr} {items vs : Array Value} {n : Nat} {x : Int} {u : Tok} {Q : Value → Shared → Prop} (F : Fr h₀ L s.heap m) (N : News h₀ L s.heap news) (hm : (l, listOf items n) ∈ news)
    (hlo : -(2 ^ 63 : Int) ≤ x) (hhi : x < 2 ^ 63) (hsz : items.size * x.toNat ≤ 2 ^ 24) (e : List.foldl (fun x1 x2 => x1 ++ x2) #[] (List.replicate (if items.isEmpty = true then 0 else x.toNat) items) = vs)
    (h : ∀ l' h', Fr h₀ L h' m → News h₀ L h' ((l', listOf vs 0) :: news) → (∀ p ∈ news, p.1 < l') → Q (.ref l') { s with heap := h' }) :
    wpAny (model prog w) A (binaryOp .Mult (.ref l) (.int x u)) Q E s := by
  subst e
  exact mul_list F N (N _ hm).1 hlo hhi hsz fun h' F' N' => h _ h' F' N' fun p hp => Heap.lt_size (N p hp).1
end
theorem Con.mono {w : World} {k : Nat} {f : Addr} {vs : List Value} {hd : Led} {Out Out' : Led → Value → Prop} (C : Con w k f vs hd Out) (h : ∀ tl v, Out tl v → Out' tl v) : Con w k f vs hd Out' := by
  intro p loose mean mg mb dp un gd cn cs a ccd cl outer A₀ base h₀ L m s Q E news hat room units ret
  exact C p loose mean mg mb dp un gd cn cs a ccd cl outer A₀ base h₀ L m s Q E news hat room units fun v tl h' tk' ho => ret v tl h' tk' (h _ _ ho)
theorem sub2 {x y : Addr × Obj} {led : Led} (h1 : x ∈ led) (h2 : y ∈ led) : ∀ p ∈ [x, y], p ∈ led := fun p hp => by
  simp only [List.mem_cons, List.not_mem_nil, or_false] at hp
  rcases hp with rfl | rfl <;> assumption
theorem sub3 {x y z : Addr × Obj} {led : Led} (h1 : x ∈ led) (h2 : y ∈ led) (h3 : z ∈ led) : ∀ p ∈ [x, y, z], p ∈ led := fun p hp => by
  simp only [List.mem_cons, List.not_mem_nil, or_false] at hp
  rcases hp with rfl | rfl | rfl <;> assumption
theorem sub4 {x y z u : Addr × Obj} {led : Led} (h1 : x ∈ led) (h2 : y ∈ led) (h3 : z ∈ led) (h4 : u ∈ led) : ∀ p ∈ [x, y, z, u], p ∈ led := fun p hp => by
  simp only [List.mem_cons, List.not_mem_nil, or_false] at hp
  rcases hp with rfl | rfl | rfl | rfl <;> assumption
theorem lt_of_one {led : Led} {l : Addr} {o : Obj} (h : ∀ q ∈ led, ∀ r ∈ [(l, o)], @LT.lt Nat _ q.1 r.1) : ∀ q ∈ led, q.1 < l := fun q hq => h q hq _ (.head _)
theorem ret_one {h₀ h' : Heap} {L : Addr} {m : Str → Option Value} {news led hd : Led} {s : Shared} {Q : Value → Shared → Prop} {Out : Led → Value → Prop} {l : Addr} {o : Obj} {tk' : Nat}
    (ret : ∀ v tl h' tk', Out tl v → (∀ q ∈ hd ++ news, ∀ r ∈ tl, @LT.lt Nat _ q.1 r.1) → Fr h₀ L h' m → News h₀ L h' (tl ++ (hd ++ news)) → Q v { s with heap := h', toks := tk' })
    (F : Fr h₀ L h' m) (N : News h₀ L h' led) (hm : (l, o) ∈ led) (hs : ∀ p ∈ hd ++ news, p ∈ led) (hlt : ∀ q ∈ hd ++ news, @LT.lt Nat _ q.1 l) (ho : Out [(l, o)] (.ref l)) : Q (.ref l) { s with heap := h', toks := tk' } :=
  ret _ _ _ _ ho (fun q hq r hr => by cases List.mem_singleton.mp hr; exact hlt q hq) F fun p hp => by
    rcases List.mem_append.mp hp with hp | hp
    · cases List.mem_singleton.mp hp; exact N _ hm
    · exact N _ (hs _ hp)
theorem ret_none {h₀ h' : Heap} {L : Addr} {m : Str → Option Value} {news led hd : Led} {s : Shared} {Q : Value → Shared → Prop} {Out : Led → Value → Prop} {v : Value} {tk' : Nat}
    (ret : ∀ v tl h' tk', Out tl v → (∀ q ∈ hd ++ news, ∀ r ∈ tl, @LT.lt Nat _ q.1 r.1) → Fr h₀ L h' m → News h₀ L h' (tl ++ (hd ++ news)) → Q v { s with heap := h', toks := tk' })
    (F : Fr h₀ L h' m) (N : News h₀ L h' led) (hs : ∀ p ∈ hd ++ news, p ∈ led) (ho : Out [] v) : Q v { s with heap := h', toks := tk' } :=
  ret _ _ _ _ ho (fun _ _ _ hr => nomatch hr) F fun p hp => N _ (hs _ hp)
end
section
theorem linesC2 : True := by
  w_top off
  exact trivial
set_option maxHeartbeats 8000000
local macro_rules | `(tactic| k_room) => `(tactic| ktr_room)
local macro_rules | `(tactic| k_all) => `(tactic| (refine Low.ne (by assumption) ?_; (try dsimp only); omega))
local macro_rules | `(tactic| k_mem) => `(tactic| assumption)

theorem c_d2i (w : World) (c d ne : Nat) (oc : Obj) (d0 d1 d2 d3 : Int) (t0 t1 t2 t3 tn : Tok) (I : Inner "_digits2int.<locals>.inner" c oc)
  (hb0 : 0 ≤ d0 ∧ d0 ≤ 1) (hb1 : 0 ≤ d1 ∧ d1 ≤ 1) (hb2 : 0 ≤ d2 ∧ d2 ≤ 1) (hb3 : 0 ≤ d3 ∧ d3 ≤ 1) :
  Con w 9 28 [.ref d, .int 1 tn] [(d, listOf #[.int d0 t0, .int d1 t1, .int d2 t2, .int d3 t3] ne), (23, tabObj #[rawInt 20, rawInt 4, .ref c]), (c, oc)]
    (fun tl v => tl = [] ∧ ∃ t, v = .int (d0 + 2 * d1 + 4 * d2 + 8 * d3) t) := by
  intro p loose mean mg mb dp un gd cn cs a ccd cl outer A₀ base h₀ L m s Q E news hat room units ret
  obtain ⟨B, F, X, T, hk, H1, H2, N⟩ := hat
  obtain ⟨hc, vs, t, hdc, hvc⟩ := I
  simp only [List.cons_append, List.nil_append] at N
  revert X; k_fill; intro X
  refine wpAny_call ?_
  k_dflt (refine' code_defC ?k1 ?k2 ?k3 ?k4 ?k5 ?kA ?kF ?kK ?k6 ?k7 ?k8 ?k9 ?kB ?kD ?_ ?c2 ?c3 ?c4; (case kA => exact rfl); (case kF => exact rfl); (case kK => assumption); (case k1 => k_asm); (case k2 => k_asm); (case k3 => k_asm); (case k4 => k_asm); (case k5 => k_asm); (case k6 => k_is); (case k7 => k_is); (case k8 => ktr_room); (case k9 => exact BindsTo.of_eq rfl); (case kB => exact rfl); (case kD => decide +kernel); (case c2 => exact rfl); (case c3 => exact rfl); (case c4 => exact rfl); k_whole; intro g' L' h' tk' cells' FG' F' N' Y' B' X' T' l1; have O' := Low.mk (fun p hp => l1 p (.tail _ (.tail _ (.tail _ hp)))); (try k_lt l1); k_cells Y'; (try simp only [List.cons_append, List.nil_append] at N'); (try dsimp only); (try k_lift B'); (try k_fold))
  k_steps
  refine ret _ [] _ _ ⟨rfl, _, congrArg (fun x => Value.int x _) ?ev⟩ (fun _ _ _ h => nomatch h) (by assumption) (cb_drop (by assumption) ?es)
  case ev => (show (d3 * 2 ^ 1 + d2) * 2 ^ 2 + (d1 * 2 ^ 1 + d0) = _; omega)
  case es => (intro p hp; simp only [List.nil_append, List.cons_append, List.mem_cons] at hp ⊢; rcases hp with h | h | h | h <;> simp [h])
end
section
theorem linesC3x0 : True := by
  w_top off
  (k_with "mine 0" => k_here; k_dflt (refine' mul_lit ?k1 ?k2 ?k3 ?k4 ?k5 ?k6 ?k7 ?_; (case k1 => k_asm); (case k2 => k_asm); (case k3 => k_mem); (case k4 => decide); (case k5 => decide); (case k6 => exact Nat.le_of_ble_eq_true rfl); (case k7 => exact rfl); k_whole))
  exact trivial
set_option maxHeartbeats 8000000
set_option linter.unusedVariables false
local macro_rules | `(tactic| k_room) => `(tactic| ktr_room)
local macro_rules | `(tactic| k_all) => `(tactic| (refine Low.ne (by assumption) ?_; (try dsimp only); omega))
local macro_rules | `(tactic| k_mem) => `(tactic| assumption)
local macro_rules | `(tactic| walk_at "binaryOp Mult ref int") => `(tactic| (k_extra "mine 0"; intro l' h' F' N' l1; (try k_lt l1)))

theorem c_i2d0 (w : World) (c : Nat) (oc : Obj) (ta tn : Tok) (I : Inner "_int2digits.<locals>.inner" c oc) :
  Con w 9 21 [.int 0 ta, .int 1 tn] [(16, tabObj #[rawInt 5, rawInt 4, .ref c]), (c, oc)]
    (fun tl v => ∃ l n, v = .ref l ∧ tl = [(l, listOf #[] n)]) := by
  intro p loose mean mg mb dp un gd cn cs a ccd cl outer A₀ base h₀ L m s Q E news hat room units ret
  obtain ⟨B, F, X, T, hk, H1, H2, N⟩ := hat
  obtain ⟨hc, vs, t, hdc, hvc⟩ := I
  simp only [List.cons_append, List.nil_append] at N
  revert X; k_fill; intro X
  refine wpAny_call ?_
  k_dflt (refine' code_defC ?k1 ?k2 ?k3 ?k4 ?k5 ?kA ?kF ?kK ?k6 ?k7 ?k8 ?k9 ?kB ?kD ?_ ?c2 ?c3 ?c4; (case kA => exact rfl); (case kF => exact rfl); (case kK => assumption); (case k1 => k_asm); (case k2 => k_asm); (case k3 => k_asm); (case k4 => k_asm); (case k5 => k_asm); (case k6 => k_is); (case k7 => k_is); (case k8 => ktr_room); (case k9 => exact BindsTo.of_eq rfl); (case kB => exact rfl); (case kD => decide +kernel); (case c2 => exact rfl); (case c3 => exact rfl); (case c4 => exact rfl); k_whole; intro g' L' h' tk' cells' FG' F' N' Y' B' X' T' l1; have O' := Low.mk (fun p hp => l1 p (.tail _ (.tail _ hp))); (try k_lt l1); k_cells Y'; (try simp only [List.cons_append, List.nil_append] at N'); (try dsimp only); (try k_lift B'); (try k_fold))
  k_steps
  refine' ret_one ret ?zF ?zN ?zm ?zs ?zl ?zo
  case zF => assumption
  case zN => assumption
  case zm => k_dflt k_mem
  case zs => (intro p hp; simp only [List.nil_append, List.cons_append, List.mem_cons] at hp ⊢; rcases hp with h | h | h <;> simp [h])
  case zl => (intro q hq; simp only [List.nil_append, List.cons_append, List.mem_cons] at hq; rcases hq with rfl | rfl | hq <;> first | (dsimp only; omega) | exact Nat.lt_of_lt_of_le (O'.lt _ (by assumption)) (by omega))
  case zo => exact ⟨_, _, rfl, rfl⟩
end
section
local macro_rules | `(tactic| walk_at "mine pad") => `(tactic| skip)
theorem linesC3x1 : True := by
  w_top off
  exact trivial
set_option maxHeartbeats 8000000
set_option linter.unusedVariables false
local macro_rules | `(tactic| k_room) => `(tactic| ktr_room)
local macro_rules | `(tactic| k_all) => `(tactic| (refine Low.ne (by assumption) ?_; (try dsimp only); omega))
local macro_rules | `(tactic| k_mem) => `(tactic| assumption)
local macro_rules | `(tactic| walk_at "binaryOp Mult ref int") => `(tactic| (k_extra "mine 0"; intro l' h' F' N' l1; (try k_lt l1)))

theorem c_i2d1 (w : World) (c : Nat) (oc : Obj) (ta tn : Tok) (I : Inner "_int2digits.<locals>.inner" c oc) :
  Con w 9 21 [.int 1 ta, .int 1 tn] [(16, tabObj #[rawInt 5, rawInt 4, .ref c]), (c, oc)]
    (fun tl v => ∃ l n t0, v = .ref l ∧ tl = [(l, listOf #[.int 1 t0] n)]) := by
  intro p loose mean mg mb dp un gd cn cs a ccd cl outer A₀ base h₀ L m s Q E news hat room units ret
  obtain ⟨B, F, X, T, hk, H1, H2, N⟩ := hat
  obtain ⟨hc, vs, t, hdc, hvc⟩ := I
  simp only [List.cons_append, List.nil_append] at N
  revert X; k_fill; intro X
  refine wpAny_call ?_
  k_dflt (refine' code_defC ?k1 ?k2 ?k3 ?k4 ?k5 ?kA ?kF ?kK ?k6 ?k7 ?k8 ?k9 ?kB ?kD ?_ ?c2 ?c3 ?c4; (case kA => exact rfl); (case kF => exact rfl); (case kK => assumption); (case k1 => k_asm); (case k2 => k_asm); (case k3 => k_asm); (case k4 => k_asm); (case k5 => k_asm); (case k6 => k_is); (case k7 => k_is); (case k8 => ktr_room); (case k9 => exact BindsTo.of_eq rfl); (case kB => exact rfl); (case kD => decide +kernel); (case c2 => exact rfl); (case c3 => exact rfl); (case c4 => exact rfl); k_whole; intro g' L' h' tk' cells' FG' F' N' Y' B' X' T' l1; have O' := Low.mk (fun p hp => l1 p (.tail _ (.tail _ hp))); (try k_lt l1); k_cells Y'; (try simp only [List.cons_append, List.nil_append] at N'); (try dsimp only); (try k_lift B'); (try k_fold))
  k_steps
  refine' ret_one ret ?zF ?zN ?zm ?zs ?zl ?zo
  case zF => assumption
  case zN => assumption
  case zm => k_dflt k_mem
  case zs => (intro p hp; simp only [List.nil_append, List.cons_append, List.mem_cons] at hp ⊢; rcases hp with h | h | h <;> simp [h])
  case zl => (intro q hq; simp only [List.nil_append, List.cons_append, List.mem_cons] at hq; rcases hq with rfl | rfl | hq <;> first | (dsimp only; omega) | exact Nat.lt_of_lt_of_le (O'.lt _ (by assumption)) (by omega))
  case zo => exact ⟨_, _, _, rfl, rfl⟩
end
section
theorem linesC3x2 : True := by
  w_top off
  exact trivial
set_option maxHeartbeats 8000000
set_option linter.unusedVariables false
local macro_rules | `(tactic| k_room) => `(tactic| ktr_room)
local macro_rules | `(tactic| k_all) => `(tactic| (refine Low.ne (by assumption) ?_; (try dsimp only); omega))
local macro_rules | `(tactic| k_mem) => `(tactic| assumption)
local macro_rules | `(tactic| walk_at "binaryOp Mult ref int") => `(tactic| (k_extra "mine 0"; intro l' h' F' N' l1; (try k_lt l1)))

theorem c_i2d2 (w : World) (c : Nat) (oc : Obj) (ta tn : Tok) (I : Inner "_int2digits.<locals>.inner" c oc) :
  Con w 9 21 [.int 2 ta, .int 1 tn] [(16, tabObj #[rawInt 5, rawInt 4, .ref c]), (c, oc)]
    (fun tl v => ∃ l n t0 t1, v = .ref l ∧ tl = [(l, listOf #[.int 0 t0, .int 1 t1] n)]) := by
  intro p loose mean mg mb dp un gd cn cs a ccd cl outer A₀ base h₀ L m s Q E news hat room units ret
  obtain ⟨B, F, X, T, hk, H1, H2, N⟩ := hat
  obtain ⟨hc, vs, t, hdc, hvc⟩ := I
  simp only [List.cons_append, List.nil_append] at N
  revert X; k_fill; intro X
  refine wpAny_call ?_
  k_dflt (refine' code_defC ?k1 ?k2 ?k3 ?k4 ?k5 ?kA ?kF ?kK ?k6 ?k7 ?k8 ?k9 ?kB ?kD ?_ ?c2 ?c3 ?c4; (case kA => exact rfl); (case kF => exact rfl); (case kK => assumption); (case k1 => k_asm); (case k2 => k_asm); (case k3 => k_asm); (case k4 => k_asm); (case k5 => k_asm); (case k6 => k_is); (case k7 => k_is); (case k8 => ktr_room); (case k9 => exact BindsTo.of_eq rfl); (case kB => exact rfl); (case kD => decide +kernel); (case c2 => exact rfl); (case c3 => exact rfl); (case c4 => exact rfl); k_whole; intro g' L' h' tk' cells' FG' F' N' Y' B' X' T' l1; have O' := Low.mk (fun p hp => l1 p (.tail _ (.tail _ hp))); (try k_lt l1); k_cells Y'; (try simp only [List.cons_append, List.nil_append] at N'); (try dsimp only); (try k_lift B'); (try k_fold))
  k_steps
  refine' ret_one ret ?zF ?zN ?zm ?zs ?zl ?zo
  case zF => assumption
  case zN => assumption
  case zm => k_dflt k_mem
  case zs => (intro p hp; simp only [List.nil_append, List.cons_append, List.mem_cons] at hp ⊢; rcases hp with h | h | h <;> simp [h])
  case zl => (intro q hq; simp only [List.nil_append, List.cons_append, List.mem_cons] at hq; rcases hq with rfl | rfl | hq <;> first | (dsimp only; omega) | exact Nat.lt_of_lt_of_le (O'.lt _ (by assumption)) (by omega))
  case zo => exact ⟨_, _, _, _, rfl, rfl⟩
end
section
local macro_rules | `(tactic| walk_at "mine pad") => `(tactic| skip)
theorem linesC3x3 : True := by
  w_top off
  exact trivial
set_option maxHeartbeats 8000000
set_option linter.unusedVariables false
local macro_rules | `(tactic| k_room) => `(tactic| ktr_room)
local macro_rules | `(tactic| k_all) => `(tactic| (refine Low.ne (by assumption) ?_; (try dsimp only); omega))
local macro_rules | `(tactic| k_mem) => `(tactic| assumption)
local macro_rules | `(tactic| walk_at "binaryOp Mult ref int") => `(tactic| (k_extra "mine 0"; intro l' h' F' N' l1; (try k_lt l1)))

theorem c_i2d3 (w : World) (c : Nat) (oc : Obj) (ta tn : Tok) (I : Inner "_int2digits.<locals>.inner" c oc) :
  Con w 9 21 [.int 3 ta, .int 1 tn] [(16, tabObj #[rawInt 5, rawInt 4, .ref c]), (c, oc)]
    (fun tl v => ∃ l n t0 t1, v = .ref l ∧ tl = [(l, listOf #[.int 1 t0, .int 1 t1] n)]) := by
  intro p loose mean mg mb dp un gd cn cs a ccd cl outer A₀ base h₀ L m s Q E news hat room units ret
  obtain ⟨B, F, X, T, hk, H1, H2, N⟩ := hat
  obtain ⟨hc, vs, t, hdc, hvc⟩ := I
  simp only [List.cons_append, List.nil_append] at N
  revert X; k_fill; intro X
  refine wpAny_call ?_
  k_dflt (refine' code_defC ?k1 ?k2 ?k3 ?k4 ?k5 ?kA ?kF ?kK ?k6 ?k7 ?k8 ?k9 ?kB ?kD ?_ ?c2 ?c3 ?c4; (case kA => exact rfl); (case kF => exact rfl); (case kK => assumption); (case k1 => k_asm); (case k2 => k_asm); (case k3 => k_asm); (case k4 => k_asm); (case k5 => k_asm); (case k6 => k_is); (case k7 => k_is); (case k8 => ktr_room); (case k9 => exact BindsTo.of_eq rfl); (case kB => exact rfl); (case kD => decide +kernel); (case c2 => exact rfl); (case c3 => exact rfl); (case c4 => exact rfl); k_whole; intro g' L' h' tk' cells' FG' F' N' Y' B' X' T' l1; have O' := Low.mk (fun p hp => l1 p (.tail _ (.tail _ hp))); (try k_lt l1); k_cells Y'; (try simp only [List.cons_append, List.nil_append] at N'); (try dsimp only); (try k_lift B'); (try k_fold))
  k_steps
  refine' ret_one ret ?zF ?zN ?zm ?zs ?zl ?zo
  case zF => assumption
  case zN => assumption
  case zm => k_dflt k_mem
  case zs => (intro p hp; simp only [List.nil_append, List.cons_append, List.mem_cons] at hp ⊢; rcases hp with h | h | h <;> simp [h])
  case zl => (intro q hq; simp only [List.nil_append, List.cons_append, List.mem_cons] at hq; rcases hq with rfl | rfl | hq <;> first | (dsimp only; omega) | exact Nat.lt_of_lt_of_le (O'.lt _ (by assumption)) (by omega))
  case zo => exact ⟨_, _, _, _, rfl, rfl⟩
end
section
set_option linter.unusedVariables false
abbrev rangeOf (n : Int) (t u v : Tok) : Obj := { cls := .type "range", data := .fields #[.int 0 t, .int n u, .int 1 v] }
section
variable {prog : Program} {w : World} {A : Around} {E : Value → Shared → Prop} {s : Shared} {h₀ : Heap} {L : Addr} {m : Str → Option Value} {news : Led}
theorem range1_N {n : Int} {t : Tok} {Q : Value → Shared → Prop} (F : Fr h₀ L s.heap m) (N : News h₀ L s.heap news)
    (h : ∀ r h' u v, Fr h₀ L h' m → News h₀ L h' ((r, rangeOf n u t v) :: news) → (∀ p ∈ news, p.1 < r) → Q (.ref r) { s with heap := h', toks := s.toks + 1 + 1 }) :
    wpAny (model prog w) A (call (.type "range") [.int n t]) Q E s :=
  call_range_1 (h _ _ _ _ (F.push _) (N.push F _) fun p hp => Heap.lt_size (N p hp).1)
/-- the int i is handed back, nothing stored -/
def IntIs (i : Int) (s₃ : Shared) (y : Value) (s₄ : Shared) : Prop := ∃ u tk, y = .int i u ∧ s₄ = { s₃ with toks := tk }
/-- a list comprehension over range(4), its element an int that the place tells, nothing stored -/
theorem comp4_end {r : Addr} {u₁ u₂ u₃ : Tok} {env : Env} {scope : Scope} {cl : List (Str × Addr)} {x : Str} {elt : Expr} {bit : Nat → Int} {Q : Value → Shared → Prop}
    (hh : A.handled = none) (F : Fr h₀ L s.heap m) (N : News h₀ L s.heap news) (hm : (r, rangeOf 4 u₁ u₂ u₃) ∈ news)
    (helt : ∀ (i : Nat), i < 4 → ∀ (C : Addr) (s₃ : Shared) (m₃ : Str → Option Value) (t : Tok) (E' : Value → Shared → Prop), Fr h₀ L s₃.heap m → News h₀ L s₃.heap news → s₃.heap.Ns C m₃ → m₃ x = some (.int (i : Int) t) →
      wpAny (model prog w) A (eval elt (compEnvC scope cl C env)) (IntIs (bit i) s₃) E' s₃)
    (h : ∀ D h' tk t0 t1 t2 t3 n, Fr h₀ L h' m → News h₀ L h' ((D, listOf #[.int (bit 0) t0, .int (bit 1) t1, .int (bit 2) t2, .int (bit 3) t3] n) :: news) → Q (.ref D) { s with heap := h', toks := tk }) :
    wpAny (model prog w) A (pyIter (.ref r)) (fun it s₂ => ∃ I fp wr n P St, it = .ref I ∧ Walks prog w A I fp wr n P St ∧ n ≤ sizeLine ∧ St 0 s₂.heap ∧ (∀ b ∈ fp, b < s₂.heap.objs.size) ∧
      QuietOnC prog w A env scope cl x [] elt wr P (fun _ => true) (fun v y => ∃ (i : Nat) (t u : Tok), v = .int (i : Int) t ∧ y = .int (bit i) u) s₂ ∧
      (∀ D h' tk ys (vs : List Value), s₂.heap.get? D = none → h'.IsList D ys → h'.PlainList D ys → vs.length = n → (∀ j v, vs[j]? = some v → P j v) → Paired (fun v y => ∃ (i : Nat) (t u : Tok), v = .int (i : Int) t ∧ y = .int (bit i) u) (vs.filter fun _ => true) ys.toList →
        (∀ b o, b ∉ wr → s₂.heap.get? b = some o → h'.get? b = some o) → Q (.ref D) { s₂ with heap := h', toks := tk })) E s := by
  refine wpAny_pyIter_range (a := 0) (b := 4) (c := 1) (N _ hm).1 (by decide) ?_
  have F₂ := F.push { cls := .type "range_iterator", data := .fields #[rawInt 0, rawInt (Builtin.Range.rangeSize 0 4 1), rawInt 1] }
  have N₂ : News h₀ L (s.heap.push { cls := .type "range_iterator", data := .fields #[rawInt 0, rawInt (Builtin.Range.rangeSize 0 4 1), rawInt 1] }) news := fun p hp => (N.push F _) p (.tail _ hp)
  have hI : ∀ p ∈ news, p.1 ≠ s.heap.objs.size := fun p hp => Nat.ne_of_lt (Heap.lt_size (N p hp).1)
  have hLI : L ≠ s.heap.objs.size := Nat.ne_of_lt F.ns.lt
  have hbI : ∀ b o, h₀.get? b = some o → b ≠ s.heap.objs.size := fun b o e => Nat.ne_of_lt (Nat.lt_trans (Nat.lt_of_lt_of_le (Heap.lt_size e) F.above) F.ns.lt)
  have W := Walks.range (prog := prog) (w := w) hh s.heap.objs.size 0 1 4
  have W' : Walks prog w A s.heap.objs.size [s.heap.objs.size] [s.heap.objs.size] 4 (fun i v => i < 4 ∧ ∃ t, v = .int (i : Int) t) (fun i h => IsRangeIter h s.heap.objs.size (0 + (i : Nat) * 1) ((4 : Nat) - (i : Nat)) 1) :=
    ⟨W.sub, W.frame, fun i s Q E hi st hQ => W.item i s Q E hi st fun v h' tk ⟨t, ht⟩ => hQ v h' tk ⟨hi, t, by rw [ht, Int.mul_one, Int.zero_add]⟩, W.done, W.self⟩
  have tr : ∀ H : Heap, (∀ b o, b ∉ [s.heap.objs.size] → (s.heap.push { cls := .type "range_iterator", data := .fields #[rawInt 0, rawInt (Builtin.Range.rangeSize 0 4 1), rawInt 1] }).get? b = some o → H.get? b = some o) → Fr h₀ L H m ∧ News h₀ L H news := fun H hk =>
    ⟨⟨F₂.ns.at' fun o e => hk _ o (fun q => hLI (List.mem_singleton.mp q)) e, fun b o e => hk b o (fun q => hbI b o e (List.mem_singleton.mp q)) (F₂.keep b o e), F.above⟩,
      fun p hp => ⟨hk _ _ (fun q => hI p hp (List.mem_singleton.mp q)) (N₂ p hp).1, (N p hp).2⟩⟩
  refine ⟨s.heap.objs.size, _, _, 4, _, _, rfl, W', by decide, Heap.get?_push_size _ rfl, fun b hb => ?_, ⟨?_, ?_⟩, ?_⟩
  · rw [List.mem_singleton.mp hb, Heap.size_push]; exact Nat.lt_succ_self _
  · intro C i v s₃ m₃ E' _ _ _ _ _ _
    exact wpAny_pure ⟨rfl, s₃.heap, s₃.toks, rfl, fun _ _ e => e⟩
  · rintro C i v s₃ m₃ E' hC ⟨hi, t, rfl⟩ _ hn hmx hk _
    obtain ⟨F₃, N₃⟩ := tr _ hk
    refine wpAny_mono (helt i hi C s₃ m₃ t E' F₃ N₃ hn hmx) (fun y s₄ hy => ?_) fun _ _ e => e
    obtain ⟨u, tk, rfl, rfl⟩ := hy
    exact ⟨⟨i, t, u, rfl, rfl⟩, s₃.heap, tk, rfl, fun _ _ e => e⟩
  · intro D h' tk ys vs hD hl hpl hlen hP hF hk
    obtain ⟨F₃, N₃⟩ := tr _ hk
    obtain ⟨n, hn⟩ := hpl
    match vs, hlen, hP, hF with
    | [v0, v1, v2, v3], _, hP, hF =>
      obtain ⟨_, a0, e0⟩ := hP 0 v0 rfl
      obtain ⟨_, a1, e1⟩ := hP 1 v1 rfl
      obtain ⟨_, a2, e2⟩ := hP 2 v2 rfl
      obtain ⟨_, a3, e3⟩ := hP 3 v3 rfl
      subst e0 e1 e2 e3
      generalize hY : ys.toList = Y at hF
      simp only [List.filter_cons, if_true, List.filter_nil] at hF
      cases hF with
      | cons f0 hF =>
      cases hF with
      | cons f1 hF =>
      cases hF with
      | cons f2 hF =>
      cases hF with
      | cons f3 hF =>
      cases hF with
      | nil =>
        obtain ⟨i0, _, u0, g0, rfl⟩ := f0
        obtain ⟨i1, _, u1, g1, rfl⟩ := f1
        obtain ⟨i2, _, u2, g2, rfl⟩ := f2
        obtain ⟨i3, _, u3, g3, rfl⟩ := f3
        simp only [Value.int.injEq] at g0 g1 g2 g3
        have q0 : i0 = 0 := by omega
        have q1 : i1 = 1 := by omega
        have q2 : i2 = 2 := by omega
        have q3 : i3 = 3 := by omega
        subst q0 q1 q2 q3
        have hys : ys = #[.int (bit 0) u0, .int (bit 1) u1, .int (bit 2) u2, .int (bit 3) u3] := Array.ext' hY
        subst hys
        refine h D h' tk u0 u1 u2 u3 n F₃ fun p hp => ?_
        rcases List.mem_cons.mp hp with rfl | hp
        · refine ⟨hn, ?_, ?_⟩
          · intro e
            obtain ⟨oL, _, _, hoL, _⟩ := F₂.ns
            rw [← e] at hoL
            rw [hD] at hoL; cases hoL
          · cases q : h₀.get? D with
            | none => rfl
            | some o => rw [F₂.keep _ _ q] at hD; cases hD
        · exact N₃ p hp
end
end
section
set_option linter.unusedVariables false
section
variable {prog : Program} {w : World} {A : Around} {s : Shared} {h₀ : Heap} {env : Env}

/-- the end of a turn: the iterator as it stood, the word at the next number -/
def TurnEnd (h₀ : Heap) (L I : Addr) (oI : Obj) (Jn : (Str → Option Value) → Led → Prop) (s₁ : Shared) (Qr : Value → Shared → Prop) (Qb : Shared → Prop) (f : Flow) (s₃ : Shared) : Prop :=
  match f with
  | .ret v => Qr v s₃
  | .brk => Qb s₃
  | _ => ∃ h' tk m₂ news₂, s₃ = { s₁ with heap := h', toks := tk } ∧ Fr h₀ L h' m₂ ∧ News h₀ L h' ((I, oI) :: news₂) ∧ (∀ p ∈ news₂, p.1 ≠ I) ∧ Jn m₂ news₂

theorem for_own {R : Result → Shared → Prop} {target : Expr} {body : List Stmt} {I : Addr} {fp : List Addr} {n : Nat} {P : Nat → Value → Prop} {St : Nat → Heap → Prop} {m : Str → Option Value} {news : Led} (W : Walks prog w A I fp [I] n P St) (Bo : Addr → Obj)
    (J : Nat → (Str → Option Value) → Led → Prop)
    (hgo : ∀ i (s' : Shared) v (Q' : Unit → Shared → Prop) (E' : Value → Shared → Prop), St i s'.heap → Q' () s' → wpAny (model prog w) A (letOwnedTupleGo target (.ref I) v) Q' E' s')
    (hIs : ∀ i h, St i h → ∃ o, h.get? I = some o) (hLI : env.locals ≠ I) (hI0 : h₀.get? I = none)
    (hfp : ∀ i m₁ news₁ h₁, J i m₁ news₁ → Fr h₀ env.locals h₁ m₁ → News h₀ env.locals h₁ news₁ → ∀ b ∈ fp, b ≠ I → h₁.get? b = some (Bo b))
    (hst : St 0 s.heap) (F : Fr h₀ env.locals s.heap m) (N : News h₀ env.locals s.heap news) (hnI : ∀ p ∈ news, p.1 ≠ I) (h0 : J 0 m news)
    (step : ∀ i v m₁ news₁ h₁ tk₁ oI, i < n → P i v → J i m₁ news₁ → (∀ p ∈ news₁, p.1 ≠ I) → Fr h₀ env.locals h₁ m₁ → News h₀ env.locals h₁ ((I, oI) :: news₁) →
      wpAny (model prog w) A (assign target env v) (fun _ s₂ => wpAny (model prog w) A (execs body env) (TurnEnd h₀ env.locals I oI (J (i + 1)) s (fun v s' => R (.ok (.ret v)) s') fun s' => R (.ok .next) s') (notedBy (model prog w) A env fun e s' => R (.error e) s') s₂)
        (notedBy (model prog w) A env fun e s' => R (.error e) s') { s with heap := h₁, toks := tk₁ })
    (done : ∀ h' tk m' news', Fr h₀ env.locals h' m' → News h₀ env.locals h' news' → (∀ p ∈ news', p.1 ≠ I) → J n m' news' → R (.ok .next) { s with heap := h', toks := tk }) :
    codeAny (model prog w) A (.forLoop target (.ref I) body [] env) R s := by
  have old : ∀ b o, h₀.get? b = some o → b ≠ I := fun b o e hb => by rw [hb, hI0] at e; cases e
  refine codeAny_forLoop_any
    (fun k s' => ∃ h' tk m' news' i, s' = { s with heap := h', toks := tk } ∧ St i h' ∧ Fr h₀ env.locals h' m' ∧ News h₀ env.locals h' news' ∧ (∀ p ∈ news', p.1 ≠ I) ∧ J i m' news' ∧ i ≤ n ∧ k = n + 1 - i) ?_ (n + 1)
    ⟨s.heap, s.toks, m, news, 0, rfl, hst, F, N, hnI, h0, Nat.zero_le _, rfl⟩
  rintro k s' ⟨h', tk, m', news', i, rfl, hst', F', N', hn', hJ, hi, rfl⟩
  have next : ∀ h₁ : Heap, (∀ b o, b ∉ [I] → h'.get? b = some o → h₁.get? b = some o) → Fr h₀ env.locals h₁ m' ∧ News h₀ env.locals h₁ news' := fun h₁ hk₁ =>
    ⟨⟨F'.ns.at' fun o e => hk₁ _ o (fun q => hLI (List.mem_singleton.mp q)) e, fun b o e => hk₁ b o (fun q => old b o e (List.mem_singleton.mp q)) (F'.keep b o e), F'.above⟩,
      fun p hp => ⟨hk₁ _ _ (fun q => hn' p hp (List.mem_singleton.mp q)) (N' p hp).1, (N' p hp).2⟩⟩
  by_cases hlt : i < n
  · refine W.item i _ _ _ hlt hst' fun v h₁ tk₁ hP hst₁ hk₁ => ?_
    obtain ⟨F₁, N₁⟩ := next h₁ hk₁
    obtain ⟨oI, hoI⟩ := hIs _ _ hst₁
    refine hgo (i + 1) _ v _ _ hst₁ ?_
    have N₂ : News h₀ env.locals h₁ ((I, oI) :: news') := fun p hp => by
      rcases List.mem_cons.mp hp with rfl | hp
      · exact ⟨hoI, Ne.symm hLI, hI0⟩
      · exact N₁ p hp
    refine wpAny_mono (step i v m' news' h₁ tk₁ oI hlt hP hJ hn' F₁ N₂) (fun _ s₂ h₂ => wpAny_mono h₂ (fun f s₃ h₃ => ?_) fun _ _ e => e) fun _ _ e => e
    have fin : (∃ h' tk m₂ news₂, s₃ = { s with heap := h', toks := tk } ∧ Fr h₀ env.locals h' m₂ ∧ News h₀ env.locals h' ((I, oI) :: news₂) ∧ (∀ p ∈ news₂, p.1 ≠ I) ∧ J (i + 1) m₂ news₂) →
        ∃ m, m < n + 1 - i ∧ ∃ h' tk m' news' i, s₃ = { s with heap := h', toks := tk } ∧ St i h' ∧ Fr h₀ env.locals h' m' ∧ News h₀ env.locals h' news' ∧ (∀ p ∈ news', p.1 ≠ I) ∧ J i m' news' ∧ i ≤ n ∧ m = n + 1 - i := by
      rintro ⟨h₃', tk₃, m₂, news₂, rfl, F₃, N₃, hn₃, hJ₃⟩
      have N₃' : News h₀ env.locals h₃' news₂ := fun p hp => N₃ p (.tail _ hp)
      refine ⟨n + 1 - (i + 1), by omega, h₃', tk₃, m₂, news₂, i + 1, rfl, ?_, F₃, N₃', hn₃, hJ₃, hlt, rfl⟩
      refine W.frame _ _ _ hst₁ fun b hb o e => ?_
      by_cases hbI : b = I
      · subst hbI
        rw [hoI] at e; cases e
        exact (N₃ _ (.head _)).1
      · have e1 := hfp i m' news' h₁ hJ F₁ N₁ b hb hbI
        rw [e1] at e; cases e
        exact hfp (i + 1) m₂ news₂ h₃' hJ₃ F₃ N₃' b hb hbI
    cases f with
    | ret v => exact h₃
    | brk => exact h₃
    | cont => exact fin h₃
    | next => exact fin h₃
  · have hin : i = n := by omega
    subst hin
    refine W.done _ _ _ hst' fun h₁ tk₁ hk₁ => wpAny_execs_nil ?_
    obtain ⟨F₁, N₁⟩ := next h₁ hk₁
    exact done h₁ tk₁ m' news' F₁ N₁ hn' hJ

/-- what a for over an iterator wants -/
def ForAt (prog : Program) (w : World) (A : Around) (h₀ : Heap) (env : Env) (target : Expr) (body : List Stmt) (Q : Flow → Shared → Prop) (E : Value → Shared → Prop) (it : Value) (s₂ : Shared) : Prop :=
  ∃ (I : Addr) (fp : List Addr) (n : Nat) (P : Nat → Value → Prop) (St : Nat → Heap → Prop) (m : Str → Option Value) (news : Led) (Bo : Addr → Obj) (J : Nat → (Str → Option Value) → Led → Prop),
    it = .ref I ∧ Walks prog w A I fp [I] n P St ∧
    (∀ i (s' : Shared) v (Q' : Unit → Shared → Prop) (E' : Value → Shared → Prop), St i s'.heap → Q' () s' → wpAny (model prog w) A (letOwnedTupleGo target (.ref I) v) Q' E' s') ∧
    (∀ i h, St i h → ∃ o, h.get? I = some o) ∧ env.locals ≠ I ∧ h₀.get? I = none ∧
    (∀ i m₁ news₁ h₁, J i m₁ news₁ → Fr h₀ env.locals h₁ m₁ → News h₀ env.locals h₁ news₁ → ∀ b ∈ fp, b ≠ I → h₁.get? b = some (Bo b)) ∧
    St 0 s₂.heap ∧ Fr h₀ env.locals s₂.heap m ∧ News h₀ env.locals s₂.heap news ∧ (∀ p ∈ news, p.1 ≠ I) ∧ J 0 m news ∧
    (∀ i v m₁ news₁ h₁ tk₁ oI, i < n → P i v → J i m₁ news₁ → (∀ p ∈ news₁, p.1 ≠ I) → Fr h₀ env.locals h₁ m₁ → News h₀ env.locals h₁ ((I, oI) :: news₁) →
      wpAny (model prog w) A (assign target env v) (fun _ s₃ => wpAny (model prog w) A (execs body env) (TurnEnd h₀ env.locals I oI (J (i + 1)) s₂ (fun v s' => Q (.ret v) s') fun s' => Q .next s') E s₃) E { s₂ with heap := h₁, toks := tk₁ }) ∧
    ∀ h' tk m' news', Fr h₀ env.locals h' m' → News h₀ env.locals h' news' → (∀ p ∈ news', p.1 ≠ I) → J n m' news' → Q .next { s₂ with heap := h', toks := tk }

theorem For_own {E : Value → Shared → Prop} {Q : Flow → Shared → Prop} {target iter : Expr} {pos : Pos} {body : List Stmt} {m₀ : Str → Option Value} (_F : Fr h₀ env.locals s.heap m₀)
    (h : wpAny (model prog w) A (eval iter env) (fun xv s₁ => wpAny (model prog w) A (pyIter xv) (fun it s₂ => ForAt prog w A h₀ env target body Q E it s₂) E s₁) E s)
    (hs : ∀ x, foldedSetIterable iter env x = pure x := by intro _; rfl)
    (hE : PassesOwn (model prog w) A env E := by passes_own) :
    wpAny (model prog w) A (exec (.For target iter body [] pos) env) Q E s := by
  refine wpAny_For (wpAny_mono h (fun xv s₁ h₁ => wpAny_mono h₁ (fun it s₂ h₂ => ?_) fun _ _ e => e) fun _ _ e => e) hs
  obtain ⟨I, fp, n, P, St, m, news, Bo, J, rfl, W, hgo, hIs, hLI, hI0, hfp, hst, F, N, hnI, h0, step, done⟩ := h₂
  exact for_own (R := fun r s' => match r with | .ok f => Q f s' | .error e => cameBackBy (model prog w) A env E e s') W Bo J hgo hIs hLI hI0 hfp hst F N hnI h0
    (fun i v m₁ news₁ h₁ tk₁ oI a b c d e f => wpAny_passesOwn hE (wpAny_mono (step i v m₁ news₁ h₁ tk₁ oI a b c d e f) (fun _ _ z => wpAny_passesOwn hE z) fun _ _ z => z)) done
end
end
section
set_option linter.unusedVariables false
/-- the object's names are m -/
def NsO (o : Obj) (m : Str → Option Value) : Prop := ∃ es ep, o.data = .dict es ep ∧ StrKeys es ∧ ∀ name, nsFind es name = m name
theorem NsO.ns {o : Obj} {m : Str → Option Value} {h : Heap} {C : Addr} (x : NsO o m) (e : h.get? C = some o) : h.Ns C m := let ⟨es, ep, a, b, c⟩ := x; ⟨o, es, ep, e, a, b, c⟩
theorem ns_obj {h : Heap} {C : Addr} {m : Str → Option Value} (x : h.Ns C m) : ∃ o, h.get? C = some o ∧ NsO o m := let ⟨o, es, ep, e, a, b, c⟩ := x; ⟨o, e, es, ep, a, b, c⟩
structure Off (I C D : Addr) (led : Led) : Prop where
  ci : C ≠ I
  di : D ≠ I
  cd : C ≠ D
  i : ∀ p ∈ led, p.1 ≠ I
  c : ∀ p ∈ led, p.1 ≠ C
  d : ∀ p ∈ led, p.1 ≠ D
section
variable {prog : Program} {w : World} {A : Around} {s : Shared} {h₀ : Heap}
/-- the end of a comprehension's turn -/
def CEnd (h₀ : Heap) (L I C D : Addr) (oI : Obj) (m : Str → Option Value) (ys : Array Value) (n : Nat) (Jn : (Str → Option Value) → Led → Prop) (s₁ s₃ : Shared) : Prop :=
  ∃ h' tk oC mC led, s₃ = { s₁ with heap := h', toks := tk } ∧ Fr h₀ L h' m ∧ News h₀ L h' ((C, oC) :: (I, oI) :: (D, listOf ys n) :: led) ∧ NsO oC mC ∧ Off I C D led ∧ Jn mC led

abbrev testsOf (ifs : List Expr) (env : Env) : Sem Bool := forIn ifs true fun c r => if r = true then do let ok ← isTrue c env (eval c env); pure (ForInStep.yield ok) else pure (ForInStep.yield r)

/-- how a comprehension's innermost loop c goes round -/
def LoopRule (prog : Program) (w : World) (A : Around) (c : Code) (target : Expr) (ifs : List Expr) (elt : Expr) (it acc : Value) (env : Env) : Prop :=
  ∀ (R : Result → Shared → Prop) (I : Nat → Shared → Prop),
    (∀ n s, I n s → wpAny (model prog w) A (pyNext it) (fun r s₁ => match r with
      | none => R (.ok .next) s₁
      | some v => wpAny (model prog w) A (assign target env v) (fun _ s₂ =>
          wpAny (model prog w) A (testsOf ifs env) (fun ok s₃ =>
            if ok = true then wpAny (model prog w) A (eval elt env) (fun x s₄ =>
              wpAny (model prog w) A (call (.builtin "list.append") [acc, x]) (fun _ s₅ => ∃ m, m < n ∧ I m s₅) (notedBy (model prog w) A env fun e s' => R (.error e) s') s₄) (notedBy (model prog w) A env fun e s' => R (.error e) s') s₃
            else ∃ m, m < n ∧ I m s₃) (notedBy (model prog w) A env fun e s' => R (.error e) s') s₂) (notedBy (model prog w) A env fun e s' => R (.error e) s') s₁) (notedBy (model prog w) A env fun e s' => R (.error e) s') s) →
    ∀ n s, I n s → codeAny (model prog w) A c R s
theorem loopRule_one {elt iter : Expr} {x : Str} {px : Pos} {ifs : List Expr} {scope : Scope} {pos : Pos} {it acc : Value} {env : Env} :
    LoopRule prog w A (.compLoop (.ListComp elt [⟨.Name x px, iter, ifs, 0⟩] scope pos) 0 it acc env) (.Name x px) ifs elt it acc env := fun R I turn n s h => codeAny_compLoop_tests I turn n h

theorem comp_own {R : Result → Shared → Prop} {c : Code} {elt : Expr} {x : Str} {px : Pos} {ifs : List Expr} {I D L : Addr} {cenv : Env} {m₀ : Str → Option Value} {ys₀ : Array Value} {n₀ : Nat} {fp : List Addr} {N : Nat} {P : Nat → Value → Prop} {St : Nat → Heap → Prop} {m : Str → Option Value} {news : Led} {oC : Obj}
    (hrule : LoopRule prog w A c (.Name x px) ifs elt (.ref I) (.ref D) cenv) (W : Walks prog w A I fp [I] N P St) (Bo : Addr → Obj) (J : Nat → (Str → Option Value) → Array Value → Led → Prop)
    (hx : cenv.kindOf x = some .local) (hp : (cenv.scope.kind == .class || (cenv.scope.kind == .module && cenv.locals != cenv.globals)) = false)
    (hIs : ∀ i h, St i h → ∃ o, h.get? I = some o) (hLI : L ≠ I) (hI0 : h₀.get? I = none)
    (hfp : ∀ i mC ys led h₁, J i mC ys led → Fr h₀ L h₁ m → News h₀ L h₁ led → ∀ b ∈ fp, b ≠ I → h₁.get? b = some (Bo b)) (hfC : ∀ b ∈ fp, b ≠ I → b ≠ cenv.locals ∧ b ≠ D)
    (hsz : ys₀.size + N ≤ sizeLine)
    (hst : St 0 s.heap) (F : Fr h₀ L s.heap m) (Nw : News h₀ L s.heap ((cenv.locals, oC) :: (D, listOf ys₀ n₀) :: news)) (hO : NsO oC m₀) (hoff : Off I cenv.locals D news) (h0 : J 0 m₀ ys₀ news)
    (step : ∀ i v mC oC ys n led h₁ tk₁ oI, i < N → P i v → J i mC ys led → Off I cenv.locals D led → NsO oC (fun z => if z = x then some v else mC z) → Fr h₀ L h₁ m → News h₀ L h₁ ((cenv.locals, oC) :: (I, oI) :: (D, listOf ys n) :: led) →
      wpAny (model prog w) A (testsOf ifs cenv) (fun ok s₃ => if ok = true then wpAny (model prog w) A (eval elt cenv) (fun y s₄ => CEnd h₀ L I cenv.locals D oI m ys n (fun mC led => J (i + 1) mC (ys.push y) led) s s₄) (notedBy (model prog w) A cenv fun e s' => R (.error e) s') s₃
        else CEnd h₀ L I cenv.locals D oI m ys n (fun mC led => J (i + 1) mC ys led) s s₃) (notedBy (model prog w) A cenv fun e s' => R (.error e) s') { s with heap := h₁, toks := tk₁ })
    (done : ∀ h' tk oC mC ys n led, Fr h₀ L h' m → News h₀ L h' ((cenv.locals, oC) :: (D, listOf ys n) :: led) → NsO oC mC → Off I cenv.locals D led → J N mC ys led → R (.ok .next) { s with heap := h', toks := tk }) :
    codeAny (model prog w) A c R s := by
  have old : ∀ b o, h₀.get? b = some o → b ≠ I := fun b o e hb => by rw [hb, hI0] at e; cases e
  refine hrule R
    (fun k s' => ∃ h' tk mC oC ys n led i, s' = { s with heap := h', toks := tk } ∧ St i h' ∧ Fr h₀ L h' m ∧ News h₀ L h' ((cenv.locals, oC) :: (D, listOf ys n) :: led) ∧ NsO oC mC ∧ Off I cenv.locals D led ∧ J i mC ys led ∧ ys.size ≤ ys₀.size + i ∧ i ≤ N ∧ k = N + 1 - i) ?_ (N + 1) s
    ⟨s.heap, s.toks, _, oC, ys₀, n₀, news, 0, rfl, hst, F, Nw, hO, hoff, h0, Nat.le_refl _, Nat.zero_le _, rfl⟩
  rintro k s' ⟨h', tk, mC, oC', ys, n, led, i, rfl, hst', F', N', hO', hoff', hJ, hys, hi, rfl⟩
  by_cases hlt : i < N
  · refine W.item i _ _ _ hlt hst' fun v h₁ tk₁ hP hst₁ hk₁ => ?_
    have hkI : ∀ b o, b ≠ I → h'.get? b = some o → h₁.get? b = some o := fun b o hb e => hk₁ b o (fun q => hb (List.mem_singleton.mp q)) e
    have hC₁ := hkI _ _ hoff'.ci (N' _ (.head _)).1
    refine wpAny_assign_Name (wpAny_storeName_local hx (hO'.ns hC₁) (fun h₂ hn₂ hs₂ => ?_) hp)
    obtain ⟨oC₂, hoC₂, hO₂⟩ := ns_obj hn₂
    have hne : ∀ b, b ≠ cenv.locals → h₂.get? b = h₁.get? b := hs₂.2
    have hCL := (N' _ (.head _)).2.1
    have hC0 := (N' _ (.head _)).2.2
    have F₂ : Fr h₀ L h₂ m := ⟨F'.ns.at' fun o e => (hne L (Ne.symm hCL)).trans (hkI L o hLI e), fun b o e => (hne b (fun q => by rw [q] at e; exact nomatch e.symm.trans hC0)).trans (hkI b o (old b o e) (F'.keep b o e)), F'.above⟩
    have hst₂ : St (i + 1) h₂ := W.frame _ _ _ hst₁ fun b hb o e => (hne b (by
      by_cases hbI : b = I
      · rw [hbI]; exact Ne.symm hoff'.ci
      · exact (hfC b hb hbI).1)).trans e
    obtain ⟨oI, hoI⟩ := hIs _ _ hst₂
    have N₂ : News h₀ L h₂ ((cenv.locals, oC₂) :: (I, oI) :: (D, listOf ys n) :: led) := fun p hp => by
      rcases List.mem_cons.mp hp with rfl | hp
      · exact ⟨hoC₂, hCL, hC0⟩
      rcases List.mem_cons.mp hp with rfl | hp
      · exact ⟨hoI, Ne.symm hLI, hI0⟩
      rcases List.mem_cons.mp hp with rfl | hp
      · have z := N' _ (.tail _ (.head _))
        exact ⟨(hne _ (Ne.symm hoff'.cd)).trans (hkI _ _ hoff'.di z.1), z.2⟩
      · have z := N' _ (.tail _ (.tail _ hp))
        exact ⟨(hne _ (hoff'.c p hp)).trans (hkI _ _ (hoff'.i p hp) z.1), z.2⟩
    have fin : ∀ ys' s₃, ys'.size ≤ ys₀.size + (i + 1) → (∃ h' tk oC mC led n', s₃ = { s with heap := h', toks := tk } ∧ Fr h₀ L h' m ∧ News h₀ L h' ((cenv.locals, oC) :: (I, oI) :: (D, listOf ys' n') :: led) ∧ NsO oC mC ∧ Off I cenv.locals D led ∧ J (i + 1) mC ys' led) →
        ∃ m_1, m_1 < N + 1 - i ∧ ∃ h' tk mC oC ys n led i, s₃ = { s with heap := h', toks := tk } ∧ St i h' ∧ Fr h₀ L h' m ∧ News h₀ L h' ((cenv.locals, oC) :: (D, listOf ys n) :: led) ∧ NsO oC mC ∧ Off I cenv.locals D led ∧ J i mC ys led ∧ ys.size ≤ ys₀.size + i ∧ i ≤ N ∧ m_1 = N + 1 - i := by
      rintro ys' s₃ hys' ⟨h₃, tk₃, oC₃, mC₃, led₃, n₃, rfl, F₃, N₃, hO₃, hoff₃, hJ₃⟩
      have Nl : News h₀ L h₃ led₃ := fun p hp => N₃ p (.tail _ (.tail _ (.tail _ hp)))
      refine ⟨N + 1 - (i + 1), by omega, h₃, tk₃, mC₃, oC₃, ys', n₃, led₃, i + 1, rfl, ?_, F₃, fun p hp => ?_, hO₃, hoff₃, hJ₃, hys', hlt, rfl⟩
      · refine W.frame _ _ _ hst₂ fun b hb o e => ?_
        by_cases hbI : b = I
        · rw [hbI] at e ⊢
          rw [hoI] at e; cases e
          exact (N₃ _ (.tail _ (.head _))).1
        · have e1 := hfp i mC ys led h₂ hJ F₂ (fun p hp => N₂ p (.tail _ (.tail _ (.tail _ hp)))) b hb hbI
          rw [e1] at e; cases e
          exact hfp (i + 1) mC₃ ys' led₃ h₃ hJ₃ F₃ Nl b hb hbI
      · rcases List.mem_cons.mp hp with rfl | hp
        · exact N₃ _ (.head _)
        rcases List.mem_cons.mp hp with rfl | hp
        · exact N₃ _ (.tail _ (.tail _ (.head _)))
        · exact Nl p hp
    refine wpAny_mono (step i v mC oC₂ ys n led h₂ _ oI hlt hP hJ hoff' hO₂ F₂ N₂) (fun ok s₃ h₃ => ?_) fun _ _ e => e
    cases ok with
    | false =>
      simp only [Bool.false_eq_true, if_false] at h₃ ⊢
      obtain ⟨h₃', tk₃, oC₃, mC₃, led₃, rfl, F₃, N₃, hO₃, hoff₃, hJ₃⟩ := h₃
      exact fin ys _ (by omega) ⟨h₃', tk₃, oC₃, mC₃, led₃, n, rfl, F₃, N₃, hO₃, hoff₃, hJ₃⟩
    | true =>
      simp only [if_true] at h₃ ⊢
      refine wpAny_mono h₃ (fun y s₄ h₄ => ?_) fun _ _ e => e
      obtain ⟨h₄', tk₄, oC₄, mC₄, led₄, rfl, F₄, N₄, hO₄, hoff₄, hJ₄⟩ := h₄
      have zD := N₄ _ (.tail _ (.tail _ (.head _)))
      refine append_at (hsz := by omega) zD.1 fun h₅ hs₅ ho₅ => ?_
      refine fin (ys.push y) _ (by rw [Array.size_push]; omega) ⟨h₅, tk₄, oC₄, mC₄, led₄, n + 1, rfl, F₄.change hs₅ zD.2.1 zD.2.2, fun p hp => ?_, hO₄, hoff₄, hJ₄⟩
      rcases List.mem_cons.mp hp with rfl | hp
      · have z := N₄ _ (.head _); exact ⟨(hs₅.2 _ hoff₄.cd).trans z.1, z.2⟩
      rcases List.mem_cons.mp hp with rfl | hp
      · have z := N₄ _ (.tail _ (.head _)); exact ⟨(hs₅.2 _ (Ne.symm hoff₄.di)).trans z.1, z.2⟩
      rcases List.mem_cons.mp hp with rfl | hp
      · exact ⟨ho₅, zD.2⟩
      · have z := N₄ _ (.tail _ (.tail _ (.tail _ hp))); exact ⟨(hs₅.2 _ (hoff₄.d p hp)).trans z.1, z.2⟩
  · have hin : i = N := by omega
    subst hin
    refine W.done _ _ _ hst' fun h₁ tk₁ hk₁ => ?_
    have hkI : ∀ b o, b ≠ I → h'.get? b = some o → h₁.get? b = some o := fun b o hb e => hk₁ b o (fun q => hb (List.mem_singleton.mp q)) e
    refine done h₁ tk₁ oC' mC ys n led ⟨F'.ns.at' fun o e => hkI L o hLI e, fun b o e => hkI b o (old b o e) (F'.keep b o e), F'.above⟩ (fun p hp => ?_) hO' hoff' hJ
    have z := N' p hp
    refine ⟨hkI _ _ ?_ z.1, z.2⟩
    rcases List.mem_cons.mp hp with rfl | hp
    · exact hoff'.ci
    rcases List.mem_cons.mp hp with rfl | hp
    · exact hoff'.di
    · exact hoff'.i p hp
end
end
section
set_option linter.unusedVariables false
section
variable {prog : Program} {w : World} {A : Around} {s : Shared} {h₀ : Heap}
/-- what a list comprehension over an iterator wants -/
def CompAt (prog : Program) (w : World) (A : Around) (h₀ : Heap) (L : Addr) (m : Str → Option Value) (env : Env) (scope : Scope) (cl : List (Str × Addr)) (elt : Expr) (x : Str) (ifs : List Expr) (Q : Value → Shared → Prop) (it : Value) (s₂ : Shared) : Prop :=
  ∃ (I : Addr) (fp : List Addr) (N : Nat) (P : Nat → Value → Prop) (St : Nat → Heap → Prop) (news : Led) (Bo : Addr → Obj) (J : Nat → (Str → Option Value) → Array Value → Led → Prop),
    it = .ref I ∧ Walks prog w A I fp [I] N P St ∧ (∀ i h, St i h → ∃ o, h.get? I = some o) ∧ L ≠ I ∧ h₀.get? I = none ∧
    (∀ i mC ys led h₁, J i mC ys led → Fr h₀ L h₁ m → News h₀ L h₁ led → ∀ b ∈ fp, b ≠ I → h₁.get? b = some (Bo b)) ∧ (∀ b ∈ fp, b < s₂.heap.objs.size) ∧ I < s₂.heap.objs.size ∧ N ≤ sizeLine ∧
    St 0 s₂.heap ∧ Fr h₀ L s₂.heap m ∧ News h₀ L s₂.heap news ∧ (∀ p ∈ news, p.1 ≠ I) ∧ J 0 (fun _ => none) #[] news ∧
    (∀ C D i v mC oC ys n led h₁ tk₁ oI E', s₂.heap.objs.size ≤ C → s₂.heap.objs.size ≤ D → i < N → P i v → J i mC ys led → Off I C D led → NsO oC (fun z => if z = x then some v else mC z) → Fr h₀ L h₁ m →
      News h₀ L h₁ ((C, oC) :: (I, oI) :: (D, listOf ys n) :: led) →
      wpAny (model prog w) A (testsOf ifs (compEnvC scope cl C env)) (fun ok s₃ => if ok = true then wpAny (model prog w) A (eval elt (compEnvC scope cl C env)) (fun y s₄ => CEnd h₀ L I C D oI m ys n (fun mC led => J (i + 1) mC (ys.push y) led) s₂ s₄) E' s₃
        else CEnd h₀ L I C D oI m ys n (fun mC led => J (i + 1) mC ys led) s₂ s₃) E' { s₂ with heap := h₁, toks := tk₁ }) ∧
    ∀ D h' tk mC ys n led, s₂.heap.objs.size ≤ D → Fr h₀ L h' m → News h₀ L h' ((D, listOf ys n) :: led) → (∀ p ∈ led, p.1 ≠ D) → J N mC ys led → Q (.ref D) { s₂ with heap := h', toks := tk }

theorem ListComp_own {E : Value → Shared → Prop} {env : Env} {L : Addr} {m : Str → Option Value} {elt iter : Expr} {x : Str} {px : Pos} {ifs : List Expr} {scope : Scope} {cl : List (Str × Addr)} {pos : Pos} {Q : Value → Shared → Prop}
    (_F : Fr h₀ L s.heap m) (hclos : closureFor scope env = pure cl) (hcell : ∀ y ∈ scope.names, y.2 ≠ .cell) (hkind : scope.kind = .function)
    (hnames : ∀ y ∈ scope.names, y.2 = .local → scope.names.lookup y.1 = some .local) (hx : scope.names.lookup x = some .local)
    (h : wpAny (model prog w) A (eval iter env) (fun xv s₁ => wpAny (model prog w) A (pyIter xv) (fun it s₂ => CompAt prog w A h₀ L m env scope cl elt x ifs Q it s₂) E s₁) E s)
    (hs : ∀ x, foldedSetIterable iter env x = pure x := by intro _; rfl) :
    wpAny (model prog w) A (eval (.ListComp elt [⟨.Name x px, iter, ifs, 0⟩] scope pos) env) Q E s := by
  rw [eval_ListComp]
  refine wpAny_comprehension_free (use := none) rfl hs hclos hkind hnames (wpAny_mono h (fun xv s₁ h₁ => wpAny_mono h₁ (fun it s₂ h₂ => ?_) fun _ _ e => e) fun _ _ e => e)
  obtain ⟨I, fp, N, P, St, news, Bo, J, rfl, W, hIs, hLI, hI0, hfp, hfb, hIb, hsz, hst, F, Nw, hnI, h0, step, done⟩ := h₂
  refine wpAny_newObj_type (wpAny_newFunctionEnv hcell (by intro y hy; simp at hy) (fun h₁ hns₁ hsb₁ => ?_) hkind)
  dsimp only at hns₁ hsb₁ ⊢
  have F₁ := F.push { cls := .type "list", data := .seq ([] : List Value).toArray }
  have N₁ := News.push F Nw { cls := .type "list", data := .seq ([] : List Value).toArray }
  generalize hH2 : s₂.heap.push { cls := .type "list", dict := none, data := .seq ([] : List Value).toArray } = H2 at hns₁ hsb₁ F₁ N₁ ⊢
  have hC : H2.objs.size = s₂.heap.objs.size + 1 := by rw [← hH2, Heap.size_push]
  have hltC : ∀ b, b < s₂.heap.objs.size → b ≠ H2.objs.size := fun b hb => by rw [hC]; exact Nat.ne_of_lt (Nat.lt_succ_of_lt hb)
  have hDC : s₂.heap.objs.size ≠ H2.objs.size := by rw [hC]; exact Nat.ne_of_lt (Nat.lt_succ_self _)
  have F₂ := F₁.push { cls := Value.none, data := .dict #[] }
  have up : ∀ b o, b ≠ H2.objs.size → H2.get? b = some o → h₁.get? b = some o := fun b o hb e => (hsb₁.extBut b o hb (Heap.get?_push_of_some _ e))
  have hLlt := F.ns.lt
  have F₃ : Fr h₀ L h₁ m := ⟨F₁.ns.at' fun o e => up L o (hltC _ hLlt) e, fun b o e => up b o (Nat.ne_of_lt (Nat.lt_of_lt_of_le (Nat.lt_of_lt_of_le (Heap.lt_size e) F.above) (by rw [hC]; exact Nat.le_succ_of_le (Nat.le_of_lt hLlt)))) (F₁.keep b o e), F.above⟩
  obtain ⟨oC, hoC, hO⟩ := ns_obj hns₁
  have hC0 : h₀.get? H2.objs.size = none := by
    cases q : h₀.get? H2.objs.size with
    | none => rfl
    | some o => exact absurd (Heap.lt_size (F₁.keep _ _ q)) (Nat.lt_irrefl _)
  have N₃ : News h₀ L h₁ ((H2.objs.size, oC) :: (s₂.heap.objs.size, listOf #[] 0) :: news) := fun p hp => by
    rcases List.mem_cons.mp hp with rfl | hp
    · exact ⟨hoC, Ne.symm (hltC _ hLlt), hC0⟩
    · have z := N₁ p hp
      refine ⟨up _ _ ?_ z.1, z.2⟩
      have := Heap.lt_size z.1
      exact Nat.ne_of_lt this
  have hoff : Off I H2.objs.size s₂.heap.objs.size news := ⟨Ne.symm (hltC _ hIb), Nat.ne_of_gt hIb, Ne.symm hDC, hnI, fun p hp => hltC _ (Heap.lt_size (Nw p hp).1), fun p hp => Nat.ne_of_lt (Heap.lt_size (Nw p hp).1)⟩
  have hst₁ : St 0 h₁ := W.frame _ _ _ hst fun b hb o e => up b o (hltC _ (hfb b hb)) (hH2 ▸ Heap.get?_push_of_some _ e)
  have loop : ∀ s₃ : Shared, s₃ = { s₂ with heap := h₁, toks := s₂.toks + ([] : List (Str × Value)).length } →
      codeAny (model prog w) A (.compLoop (.ListComp elt [⟨.Name x px, iter, ifs, 0⟩] scope pos) 0 (.ref I) (.ref s₂.heap.objs.size) (compEnvC scope cl H2.objs.size env)) (compPost (model prog w) A E none Q (.ref s₂.heap.objs.size) H2.objs.size) s₃ := by
    rintro s₃ rfl
    refine comp_own (cenv := compEnvC scope cl H2.objs.size env) (L := L) (m := m) (oC := oC) loopRule_one W Bo J (lookup_relabel_local hx) (by simp [compEnvC, relabel, hkind]) hIs hLI hI0 hfp
      (fun b hb _ => ⟨hltC _ (hfb b hb), Nat.ne_of_lt (hfb b hb)⟩) (by simpa using hsz) hst₁ F₃ N₃ hO hoff h0 ?_ ?_
    · intro i v mC oC' ys n led h₂ tk₂ oI a1 a2 a3 a4 a5 a6 a7
      exact step _ _ i v mC oC' ys n led h₂ tk₂ oI _ (by show s₂.heap.objs.size ≤ H2.objs.size; rw [hC]; exact Nat.le_succ _) (Nat.le_refl _) a1 a2 a3 a4 a5 a6 a7
    · intro h' tk oC' mC ys n led F' N' hO' hoff' hJ
      have zC := N' _ (.head _)
      refine ⟨mC, hO'.ns zC.1, fun h'' hs'' => ?_⟩
      exact done _ h'' tk mC ys n led (Nat.le_refl _) (F'.change hs'' zC.2.1 zC.2.2) (fun p hp => by
        have z := N' p (.tail _ hp)
        refine ⟨(hs''.2 _ ?_).trans z.1, z.2⟩
        rcases List.mem_cons.mp hp with rfl | hp
        · exact Ne.symm hoff'.cd
        · exact hoff'.c p hp) (hoff'.d) hJ
  exact codeAny_compStart_list (loop _ rfl) (W.self 0 _ _ _ hst₁ (loop _ rfl))
end
end
section
set_option linter.unusedVariables false
abbrev tupOf (vs : Array Value) : Obj := { cls := .type "tuple", data := .seq vs }
theorem letGo_listiter {prog : Program} {w : World} {A : Around} {E : Value → Shared → Prop} {target : Expr} {I l : Addr} {i : Nat} {v : Value} {Q' : Unit → Shared → Prop} {s' : Shared} (hit : s'.heap.IsListIter I l i) (h : Q' () s') :
    wpAny (model prog w) A (letOwnedTupleGo target (.ref I) v) Q' E s' := by
  obtain ⟨o, ho, hc, hd⟩ := hit
  unfold letOwnedTupleGo
  cases target <;> first
    | exact wpAny_pure h
    | (cases v <;> first
        | exact wpAny_pure h
        | (refine wpAny_bind (wpAny_load ho ?_)
           rw [hc, hd]
           exact wpAny_pure h))
theorem letGo_rangeiter {prog : Program} {w : World} {A : Around} {E : Value → Shared → Prop} {target : Expr} {I : Addr} {x l st : Int} {v : Value} {Q' : Unit → Shared → Prop} {s' : Shared} (hit : IsRangeIter s'.heap I x l st) (h : Q' () s') :
    wpAny (model prog w) A (letOwnedTupleGo target (.ref I) v) Q' E s' := by
  unfold letOwnedTupleGo
  cases target <;> first
    | exact wpAny_pure h
    | (cases v <;> first
        | exact wpAny_pure h
        | (refine wpAny_bind (wpAny_load hit ?_)
           exact wpAny_pure h))
section
variable {prog : Program} {w : World} {A : Around} {s : Shared} {h₀ : Heap}

/-- an iterator that has just been made, and what it reads -/
structure Fresh (prog : Program) (w : World) (A : Around) (h₀ : Heap) (L : Addr) (m : Str → Option Value) (news : Led) (s₂ : Shared) (I : Addr) (fp : List Addr) (N : Nat) (P : Nat → Value → Prop) (St : Nat → Heap → Prop) : Prop where
  W : Walks prog w A I fp [I] N P St
  hIs : ∀ i h, St i h → ∃ o, h.get? I = some o
  hgo : ∀ target i (s' : Shared) v (Q' : Unit → Shared → Prop) (E' : Value → Shared → Prop), St i s'.heap → Q' () s' → wpAny (model prog w) A (letOwnedTupleGo target (.ref I) v) Q' E' s'
  hLI : L ≠ I
  hI0 : h₀.get? I = none
  fb : ∀ b ∈ fp, b < s₂.heap.objs.size
  Ib : I < s₂.heap.objs.size
  st : St 0 s₂.heap
  F : Fr h₀ L s₂.heap m
  N : News h₀ L s₂.heap news
  nI : ∀ p ∈ news, p.1 ≠ I

theorem fresh_I {L : Addr} {m : Str → Option Value} {news : Led} (F : Fr h₀ L s.heap m) (N : News h₀ L s.heap news) : L ≠ s.heap.objs.size ∧ h₀.get? s.heap.objs.size = none ∧ ∀ p ∈ news, p.1 ≠ s.heap.objs.size :=
  ⟨Nat.ne_of_lt F.ns.lt, by
    cases q : h₀.get? s.heap.objs.size with
    | none => rfl
    | some o => exact absurd (Heap.lt_size (F.keep _ _ q)) (Nat.lt_irrefl _), fun p hp => Nat.ne_of_lt (Heap.lt_size (N p hp).1)⟩

theorem iter_list {E : Value → Shared → Prop} {Q : Value → Shared → Prop} {L : Addr} {m : Str → Option Value} {news : Led} {l : Addr} {items : Array Value} {ne : Nat} (hh : A.handled = none) (F : Fr h₀ L s.heap m) (N : News h₀ L s.heap news) (hl : (l, listOf items ne) ∈ news)
    (h : ∀ I h' (St : Nat → Heap → Prop), Fresh prog w A h₀ L m news { s with heap := h' } I [I, l] items.size (fun i v => items[i]? = some v) St → Q (.ref I) { s with heap := h' }) :
    wpAny (model prog w) A (pyIter (.ref l)) Q E s := by
  obtain ⟨h1, h2, h3⟩ := fresh_I F N
  refine wpAny_pyIter_list (News.isList N hl) ?_
  refine h _ _ _ ⟨Walks.list hh _ _ (h3 _ hl) items, fun i h st => let ⟨o, ho, _⟩ := st.1; ⟨o, ho⟩, fun target i s' v Q' E' st hq => letGo_listiter st.1 hq, h1, h2, fun b hb => ?_, by rw [Heap.size_push]; exact Nat.lt_succ_self _,
    ⟨⟨_, Heap.get?_push_size _ rfl, rfl, rfl⟩, (News.isList N hl).at fun o e => Heap.get?_push_of_some _ e⟩, F.push _, fun p hp => (N.push F _) p (.tail _ hp), h3⟩
  rw [Heap.size_push]
  rcases List.mem_cons.mp hb with rfl | hb
  · exact Nat.lt_succ_self _
  · rw [List.mem_singleton.mp hb]; exact Nat.lt_succ_of_lt (Heap.lt_size (N _ hl).1)

theorem iter_tup {E : Value → Shared → Prop} {Q : Value → Shared → Prop} {L : Addr} {m : Str → Option Value} {news : Led} {l : Addr} {items : Array Value} (hh : A.handled = none) (F : Fr h₀ L s.heap m) (N : News h₀ L s.heap news) (hl : (l, tupOf items) ∈ news)
    (h : ∀ I h' (St : Nat → Heap → Prop), Fresh prog w A h₀ L m news { s with heap := h' } I [I, l] items.size (fun i v => items[i]? = some v) St → Q (.ref I) { s with heap := h' }) :
    wpAny (model prog w) A (pyIter (.ref l)) Q E s := by
  obtain ⟨h1, h2, h3⟩ := fresh_I F N
  have ht : s.heap.IsTuple l items := ⟨_, (N _ hl).1, rfl, 0, rfl⟩
  refine wpAny_pyIter_tuple ht ?_
  refine h _ _ _ ⟨Walks.tuple hh _ _ (h3 _ hl) items, fun i h st => let ⟨o, ho, _⟩ := st.1; ⟨o, ho⟩, fun target i s' v Q' E' st hq => letGo_tupleiter st.1 hq, h1, h2, fun b hb => ?_, by rw [Heap.size_push]; exact Nat.lt_succ_self _,
    ⟨⟨_, Heap.get?_push_size _ rfl, rfl, rfl⟩, ht.at fun o e => Heap.get?_push_of_some _ e⟩, F.push _, fun p hp => (N.push F _) p (.tail _ hp), h3⟩
  rw [Heap.size_push]
  rcases List.mem_cons.mp hb with rfl | hb
  · exact Nat.lt_succ_self _
  · rw [List.mem_singleton.mp hb]; exact Nat.lt_succ_of_lt (Heap.lt_size (N _ hl).1)

theorem iter_range {E : Value → Shared → Prop} {Q : Value → Shared → Prop} {L : Addr} {m : Str → Option Value} {news : Led} {r : Addr} {n : Int} {t u v : Tok} (hk : -(2 ^ 20) < n ∧ n < 2 ^ 20) (hh : A.handled = none) (F : Fr h₀ L s.heap m) (N : News h₀ L s.heap news) (hl : (r, rangeOf n t u v) ∈ news)
    (h : ∀ I h' (St : Nat → Heap → Prop), Fresh prog w A h₀ L m news { s with heap := h' } I [I] n.toNat (fun i v => ∃ t, v = .int (i : Int) t) St → Q (.ref I) { s with heap := h' }) :
    wpAny (model prog w) A (pyIter (.ref r)) Q E s := by
  obtain ⟨h1, h2, h3⟩ := fresh_I F N
  refine wpAny_pyIter_range (a := 0) (b := n) (c := 1) (N _ hl).1 (small_one (by omega) (by omega) (by omega) (by omega)) ?_
  have W := Walks.range (prog := prog) (w := w) hh s.heap.objs.size 0 1 n.toNat
  have W' : Walks prog w A s.heap.objs.size [s.heap.objs.size] [s.heap.objs.size] n.toNat (fun i v => ∃ t, v = .int (i : Int) t) (fun i h => IsRangeIter h s.heap.objs.size (0 + (i : Nat) * 1) ((n.toNat : Nat) - (i : Nat)) 1) :=
    ⟨W.sub, W.frame, fun i s Q E hi st hQ => W.item i s Q E hi st fun v h' tk ⟨t, ht⟩ => hQ v h' tk ⟨t, by rw [ht, Int.mul_one, Int.zero_add]⟩, W.done, W.self⟩
  refine h _ _ _ ⟨W', fun i h st => ⟨_, st⟩, fun target i s' v Q' E' st hq => letGo_rangeiter st hq, h1, h2, fun b hb => ?_, by rw [Heap.size_push]; exact Nat.lt_succ_self _, ?_, F.push _, fun p hp => (N.push F _) p (.tail _ hp), h3⟩
  · rw [List.mem_singleton.mp hb, Heap.size_push]; exact Nat.lt_succ_self _
  · have e : Builtin.Range.rangeSize 0 n 1 = (n.toNat : Int) := by rw [rangeSize_one]; split <;> omega
    show IsRangeIter _ _ _ _ _
    rw [e]
    simpa using Heap.get?_push_size s.heap (o := { cls := .type "range_iterator", data := .fields #[rawInt 0, rawInt (n.toNat : Int), rawInt 1] }) rfl

/-- a for over a fresh iterator: the word J over the frame's names and the ledger -/
theorem forAt_of {E : Value → Shared → Prop} {Q : Flow → Shared → Prop} {env : Env} {target : Expr} {body : List Stmt} {m : Str → Option Value} {news : Led} {I : Addr} {fp : List Addr} {N : Nat} {P : Nat → Value → Prop} {St : Nat → Heap → Prop} {h' : Heap}
    (Z : Fresh prog w A h₀ env.locals m news { s with heap := h' } I fp N P St) (Bo : Addr → Obj) (J : Nat → (Str → Option Value) → Led → Prop) (hfp : ∀ b ∈ fp, b ≠ I → ∀ i m₁ led, J i m₁ led → (b, Bo b) ∈ led) (h0 : J 0 m news)
    (step : ∀ i v m₁ led h₁ tk₁ oI, i < N → P i v → J i m₁ led → (∀ p ∈ led, p.1 ≠ I) → Fr h₀ env.locals h₁ m₁ → News h₀ env.locals h₁ ((I, oI) :: led) →
      wpAny (model prog w) A (assign target env v) (fun _ s₃ => wpAny (model prog w) A (execs body env) (TurnEnd h₀ env.locals I oI (J (i + 1)) s (fun v s' => Q (.ret v) s') fun s' => Q .next s') E s₃) E { s with heap := h₁, toks := tk₁ })
    (done : ∀ h' tk m' led, Fr h₀ env.locals h' m' → News h₀ env.locals h' led → J N m' led → Q .next { s with heap := h', toks := tk }) :
    ForAt prog w A h₀ env target body Q E (.ref I) { s with heap := h' } :=
  ⟨I, fp, N, P, St, m, news, Bo, J, rfl, Z.W, Z.hgo target, Z.hIs, Z.hLI, Z.hI0, fun i m₁ led h₁ hJ _ N₁ b hb hbI => (N₁ _ (hfp b hb hbI i m₁ led hJ)).1, Z.st, Z.F, Z.N, Z.nI, h0,
    fun i v m₁ led h₁ tk₁ oI a b c d e f => step i v m₁ led h₁ tk₁ oI a b c d e f, fun h' tk m' led a b _ c => done h' tk m' led a b c⟩

theorem compAt_of {Q : Value → Shared → Prop} {env : Env} {scope : Scope} {cl : List (Str × Addr)} {elt : Expr} {x : Str} {ifs : List Expr} {L : Addr} {m : Str → Option Value} {news : Led} {I : Addr} {fp : List Addr} {N : Nat} {P : Nat → Value → Prop} {St : Nat → Heap → Prop} {h' : Heap}
    (Z : Fresh prog w A h₀ L m news { s with heap := h' } I fp N P St) (hsz : N ≤ sizeLine) (Bo : Addr → Obj) (J : Nat → (Str → Option Value) → Array Value → Led → Prop) (hfp : ∀ b ∈ fp, b ≠ I → ∀ i mC ys led, J i mC ys led → (b, Bo b) ∈ led) (h0 : J 0 (fun _ => none) #[] news)
    (step : ∀ C D i v mC oC ys n led h₁ tk₁ oI E', i < N → P i v → J i mC ys led → Off I C D led → NsO oC (fun z => if z = x then some v else mC z) → Fr h₀ L h₁ m → News h₀ L h₁ ((C, oC) :: (I, oI) :: (D, listOf ys n) :: led) →
      wpAny (model prog w) A (testsOf ifs (compEnvC scope cl C env)) (fun ok s₃ => if ok = true then wpAny (model prog w) A (eval elt (compEnvC scope cl C env)) (fun y s₄ => CEnd h₀ L I C D oI m ys n (fun mC led => J (i + 1) mC (ys.push y) led) s s₄) E' s₃
        else CEnd h₀ L I C D oI m ys n (fun mC led => J (i + 1) mC ys led) s s₃) E' { s with heap := h₁, toks := tk₁ })
    (done : ∀ D h' tk mC ys n led, (∀ p ∈ news, @LT.lt Nat _ p.1 D) → (∀ p ∈ led, p.1 ≠ D) → Fr h₀ L h' m → News h₀ L h' ((D, listOf ys n) :: led) → J N mC ys led → Q (.ref D) { s with heap := h', toks := tk }) :
    CompAt prog w A h₀ L m env scope cl elt x ifs Q (.ref I) { s with heap := h' } :=
  ⟨I, fp, N, P, St, news, Bo, J, rfl, Z.W, Z.hIs, Z.hLI, Z.hI0, fun i mC ys led h₁ hJ _ N₁ b hb hbI => (N₁ _ (hfp b hb hbI i mC ys led hJ)).1, Z.fb, Z.Ib, hsz, Z.st, Z.F, Z.N, Z.nI, h0,
    fun C D i v mC oC ys n led h₁ tk₁ oI E' _ _ a b c d e f g => step C D i v mC oC ys n led h₁ tk₁ oI E' a b c d e f g, fun D h' tk mC ys n led z a b c d => done D h' tk mC ys n led (fun p hp => Nat.lt_of_lt_of_le (Heap.lt_size (Z.N p hp).1) z) c a b d⟩
end
end
section
set_option linter.unusedVariables false
theorem adjust_upto (b n : Nat) (hb : b ≤ n) : Builtin.Slice.sliceAdjust none (some (b : Int)) 1 (n : Int) = (0, (b : Int)) := by
  unfold Builtin.Slice.sliceAdjust
  have h1 : ¬ ((1 : Int) < 0) := by omega
  have h2 : ¬ ((b : Int) < 0) := by omega
  simp only [h1, h2, if_false]
  congr 1
  omega
theorem places_upto (b : Nat) : Builtin.Slice.slicePlaces 0 (b : Int) 1 = b := by
  unfold Builtin.Slice.slicePlaces
  have h1 : (1 : Int) > 0 := by omega
  simp only [h1, if_true, Int.ediv_one]
  split <;> omega
theorem pick_upto (xs : Array Value) (b : Nat) (hb : b ≤ xs.size) : ((List.range b).filterMap fun (k : Nat) => xs[((0 : Int) + (k : Int) * 1).toNat]?).toArray = (xs.toList.take b).toArray := by
  have e : (fun (k : Nat) => xs[((0 : Int) + (k : Int) * 1).toNat]?) = fun k => xs.toList[k]? := by
    funext k
    have : ((0 : Int) + (k : Int) * 1).toNat = k := by omega
    rw [this, Array.getElem?_toList]
  rw [e]
  have hb' : b ≤ xs.toList.length := by simpa using hb
  generalize xs.toList = l at hb'
  clear e hb
  congr 1
  induction b with
  | zero => rfl
  | succ b ih =>
    rw [List.range_succ, List.filterMap_append, ih (by omega), List.take_add_one]
    congr 1
    all_goals (cases l[b]? <;> rfl)
section
variable {prog : Program} {w : World} {A : Around} {E : Value → Shared → Prop} {s : Shared} {h₀ : Heap} {L : Addr} {m : Str → Option Value} {news : Led}
theorem applied_upto {sl : Addr} {b n : Nat} {u : Tok} {Q : Int × Int × Nat → Shared → Prop} (hs : s.heap.IsSliceOf sl .none (.int b u) .none) (hb : b ≤ n) (h : Q (0, 1, b) s) :
    wpAny (model prog w) A (Builtin.Slice.sliceApplied (.ref sl) (pure (n : Int))) Q E s := by
  obtain ⟨os, hos, hcs, hds⟩ := id hs
  unfold Builtin.Slice.sliceApplied Builtin.Slice.sliceFields
  refine wpAny_bind (wpAny_bind (wpAny_field hos hds (x := .none) rfl (wpAny_bind (wpAny_field hos hds (x := .int b u) rfl (wpAny_bind (wpAny_field hos hds (x := .none) rfl (wpAny_pure ?_)))))))
  refine wpAny_bind (slicePart_none ?_)
  show wpAny _ _ (if ((1 : Int) == 0) = true then _ else _) _ _ s
  rw [if_neg (by decide)]
  refine wpAny_bind (slicePart_none (wpAny_bind (slicePart_int (wpAny_bind (wpAny_pure ?_)))))
  show wpAny _ _ (match Builtin.Slice.sliceAdjust none (some (b : Int)) 1 (n : Int) with | (lo, hi) => pure (lo, (1 : Int), Builtin.Slice.slicePlaces lo hi 1)) _ _ s
  rw [adjust_upto b n hb]
  show wpAny _ _ (pure ((0 : Int), (1 : Int), Builtin.Slice.slicePlaces 0 (b : Int) 1)) _ _ s
  rw [places_upto b]
  exact wpAny_pure h
theorem getItem_upto {t sl : Addr} {items : Array Value} {b : Nat} {u : Tok} {Q : Value → Shared → Prop} (ht : IsTup s.heap t items) (hs : s.heap.IsSliceOf sl .none (.int b u) .none) (hb : b < items.size)
    (h : Q (.ref s.heap.objs.size) { s with heap := s.heap.push { cls := .type "tuple", data := .seq (items.toList.take b).toArray } })
    (hsz : items.size ≤ sizeLine) : wpAny (model prog w) A (getItem (.ref t) (.ref sl)) Q E s := by
  have htake : sizeOk (.seq (items.toList.take b).toArray) := by
    show (items.toList.take b).toArray.size ≤ sizeLine
    rw [List.size_toArray, List.length_take, Array.length_toList]
    omega
  obtain ⟨os, hos, hcs, hds⟩ := id hs
  have hTs : s.TypeIs (.ref sl) "slice" := ⟨os, hos, hcs⟩
  unfold getItem
  try with_reducible refine wpAny_holding ?_
  first | refine wpAny_bind (wpAny_pure ?_) | skip
  refine wpAny_bind (wpAny_sequenceKey ht.typeIs (by decide) ?_)
  refine wpAny_bind (wpAny_callSpecial?_slot (name := Str.ofString "__getitem__") ht.typeIs slot_tuple_getitem
    (wpAny_call_entry slot_tuple_getitem ht.typeIs entry_tuple_getitem ?_ (args_tuple_getitem _ _)))
  show wpAny _ _ (Builtin.Tuple.tupleItemsOf (.ref t) >>= _) _ _ s
  refine wpAny_bind (tupleItemsOf_ ht ?_)
  refine wpAny_bind (wpAny_typeOf hTs ?_)
  rw [if_pos (by decide)]
  refine wpAny_bind (applied_upto hs (Nat.le_of_lt hb) ?_)
  have hno : ¬ (((0 : Int) == 0 && (1 : Int) == 1 && b == items.size) = true) := by
    have : (b == items.size) = false := by rw [beq_eq_false_iff_ne]; omega
    rw [this]; simp
  show wpAny _ _ (if ((0 : Int) == 0 && (1 : Int) == 1 && b == items.size) = true then _ else _) _ _ s
  rw [if_neg hno, pick_upto items b (Nat.le_of_lt hb)]
  first
    | exact wpAny_bind (m := Builtin.Tuple.tupleExact _) (wpAny_newObj_type (wpAny_pure ⟨_, rfl, wpAny_pure h⟩) htake)
    | exact wpAny_bind (m := Builtin.Tuple.tupleExact _) (wpAny_newObj_type (wpAny_bind (wpAny_pure (wpAny_pure ⟨_, rfl, wpAny_pure h⟩))) htake)
    | exact wpAny_bind (wpAny_bind (m := Builtin.Tuple.tupleExact _) (wpAny_newObj_type (wpAny_pure (wpAny_pure ⟨_, rfl, wpAny_pure h⟩)) htake))
    | exact wpAny_bind (wpAny_bind (m := Builtin.Tuple.tupleExact _) (wpAny_newObj_type (wpAny_pure ⟨_, rfl, wpAny_pure h⟩) htake))

theorem tup_upto {value slice : PySem.Expr} {t : Addr} {items : Array Value} {b : Nat} {k : Int} {u : Tok} {Q : Value → Shared → Prop} (F : Fr h₀ L s.heap m) (N : News h₀ L s.heap news) (ht : (t, tupOf items) ∈ news) (hk : k = (b : Int)) (hb : b < items.size) (hsz : items.size ≤ 2 ^ 20)
    (hs : subscripted slice false (.ref t) (.ref s.heap.objs.size) = operate [.ref s.heap.objs.size, .ref t] (getItem (.ref t) (.ref s.heap.objs.size)))
    (hg : ∀ r, letTemporaryGo value (.ref t) r = pure ())
    (h : ∀ D h', Fr h₀ L h' m → News h₀ L h' ((D, tupOf (items.toList.take b).toArray) :: news) → (∀ p ∈ news, p.1 < D) → Q (.ref D) { s with heap := h' }) :
    wpAny (model prog w) A (subscriptTail value slice (.ref t) (.ref s.heap.objs.size)) Q E { s with heap := s.heap.push { cls := .type "slice", data := .fields #[.none, .int k u, .none] } } := by
  subst hk
  have ht' : IsTup (s.heap.push { cls := .type "slice", data := .fields #[.none, .int (b : Int) u, .none] }) t items := ⟨_, Heap.get?_push_of_some _ (N _ ht).1, rfl, 0, rfl⟩
  refine subscriptTail_ops (s := { s with heap := s.heap.push { cls := .type "slice", data := .fields #[.none, .int (b : Int) u, .none] } }) ht'.typeIs slot_tuple_getitem.lookup
    (getItem_upto ht' (Heap.IsSliceOf.new ..) hb ?_ (by have : sizeLine = 2 ^ 24 := rfl; omega)) hs hg
  have N0 : News h₀ L (s.heap.push { cls := .type "slice", data := .fields #[.none, .int (b : Int) u, .none] }) news := N.grown fun _ _ e => Heap.get?_push_of_some _ e
  exact h _ _ ((F.push _).push _) (News.push (F.push _) N0 _) fun p hp => Heap.lt_size (N0 p hp).1
theorem tup_from {value slice : PySem.Expr} {t : Addr} {items : Array Value} {a : Nat} {k : Int} {u : Tok} {Q : Value → Shared → Prop} (F : Fr h₀ L s.heap m) (N : News h₀ L s.heap news) (ht : (t, tupOf items) ∈ news) (hk : k = (a : Int)) (h1 : 1 ≤ a) (ha : a ≤ items.size) (hsz : items.size ≤ 2 ^ 20)
    (hs : subscripted slice false (.ref t) (.ref s.heap.objs.size) = operate [.ref s.heap.objs.size, .ref t] (getItem (.ref t) (.ref s.heap.objs.size)))
    (hg : ∀ r, letTemporaryGo value (.ref t) r = pure ())
    (h : ∀ D h', Fr h₀ L h' m → News h₀ L h' ((D, tupOf (items.toList.drop a).toArray) :: news) → (∀ p ∈ news, p.1 < D) → Q (.ref D) { s with heap := h' }) :
    wpAny (model prog w) A (subscriptTail value slice (.ref t) (.ref s.heap.objs.size)) Q E { s with heap := s.heap.push { cls := .type "slice", data := .fields #[.int k u, .none, .none] } } := by
  subst hk
  exact slice_tuple_from F N ⟨_, (N _ ht).1, rfl, 0, rfl⟩ h1 ha (fun h' F' N' => h _ h' F' N' fun p hp => Nat.lt_succ_of_lt (Heap.lt_size (N p hp).1)) hs hg (by have : sizeLine = 2 ^ 24 := rfl; omega)
end
end
section
set_option linter.unusedVariables false
section
variable {prog : Program} {w : World} {A : Around} {s : Shared} {h₀ : Heap} {R : Result → Shared → Prop} {elt iter₀ iter : Expr} {x₀ x : Str} {p₀ px : Pos} {scope : Scope} {pos : Pos}
theorem turn_in (it acc : Value) (env : Env) : compTurn (.ListComp elt [⟨.Name x₀ p₀, iter₀, [], 0⟩, ⟨.Name x px, iter, [], 0⟩] scope pos) 1 it acc env = (standAt iter.pos >>= fun _ => pyNext it >>= fun r => match r with
      | none => pure (.done .next)
      | some v => letOwnedTupleGo (.Name x px) it v >>= fun _ => assign (.Name x px) env v >>= fun _ =>
        testsOf [] env >>= fun ok => (if ok = true then (eval elt env >>= fun x => call (.builtin "list.append") [acc, x] >>= fun _ => pure ()) else pure ()) >>= fun _ =>
          again (.compLoop (.ListComp elt [⟨.Name x₀ p₀, iter₀, [], 0⟩, ⟨.Name x px, iter, [], 0⟩] scope pos) 1 it acc env)) := by rfl
theorem turn_out (it acc : Value) (env : Env) : compTurn (.ListComp elt [⟨.Name x₀ p₀, iter₀, [], 0⟩, ⟨.Name x px, iter, [], 0⟩] scope pos) 0 it acc env = (standAt iter₀.pos >>= fun _ => pyNext it >>= fun r => match r with
      | none => pure (.done .next)
      | some v => letOwnedTupleGo (.Name x₀ p₀) it v >>= fun _ => assign (.Name x₀ p₀) env v >>= fun _ =>
        eval iter env >>= fun y => standAt iter.pos >>= fun _ => foldedSetIterable iter env y >>= fun y => holding [y] (pyIter y) >>= fun it' =>
          runOwn (.compStart (.ListComp elt [⟨.Name x₀ p₀, iter₀, [], 0⟩, ⟨.Name x px, iter, [], 0⟩] scope pos) 1 it' acc env) env >>= fun _ =>
          again (.compLoop (.ListComp elt [⟨.Name x₀ p₀, iter₀, [], 0⟩, ⟨.Name x px, iter, [], 0⟩] scope pos) 0 it acc env)) := by rfl
theorem loopRule_in {it acc : Value} {env : Env} :
    LoopRule prog w A (.compLoop (.ListComp elt [⟨.Name x₀ p₀, iter₀, [], 0⟩, ⟨.Name x px, iter, [], 0⟩] scope pos) 1 it acc env) (.Name x px) [] elt it acc env := by
  intro R I turn n s h
  refine codeAny_loop rfl I (fun n s hI => ?_) n h
  show wpAny _ A ((compTurn (.ListComp elt [⟨.Name x₀ p₀, iter₀, [], 0⟩, ⟨.Name x px, iter, [], 0⟩] scope pos) 1 it acc env).onRaise (fun x => do noteFrame x env; theTreesLotGoes x)) _ _ s
  refine wpAny_noted ?_
  rw [turn_in]
  refine wpAny_bind (wpAny_standAt (wpAny_bind (wpAny_mono (turn n s hI) (fun r s₁ h₁ => ?_) fun _ _ h' => h')))
  cases r with
  | none => exact wpAny_pure h₁
  | some v =>
    refine wpAny_bind (wpAny_of_eq rfl ?_)
    refine wpAny_bind (wpAny_mono h₁ (fun _ s₂ h₂ => ?_) fun _ _ h' => h')
    refine wpAny_bind (wpAny_mono h₂ (fun ok s₃ h₃ => ?_) fun _ _ h' => h')
    cases ok with
    | false => exact wpAny_bind (wpAny_pure (wpAny_pure ⟨rfl, h₃⟩))
    | true => exact wpAny_bind (wpAny_bind (wpAny_mono h₃ (fun x s₄ h₄ => wpAny_bind (wpAny_mono h₄ (fun _ s₅ h₅ => wpAny_pure (wpAny_pure ⟨rfl, h₅⟩)) fun _ _ h' => h')) fun _ _ h' => h'))
theorem start_in {it acc : Value} {env : Env}
    (h0 : codeAny (model prog w) A (.compLoop (.ListComp elt [⟨.Name x₀ p₀, iter₀, [], 0⟩, ⟨.Name x px, iter, [], 0⟩] scope pos) 1 it acc env) R s)
    (h : wpAny (model prog w) A (pyIter it) (fun it' s' => codeAny (model prog w) A (.compLoop (.ListComp elt [⟨.Name x₀ p₀, iter₀, [], 0⟩, ⟨.Name x px, iter, [], 0⟩] scope pos) 1 it' acc env) R s')
      (notedBy (model prog w) A env fun x s' => R (.error x) s') s) :
    codeAny (model prog w) A (.compStart (.ListComp elt [⟨.Name x₀ p₀, iter₀, [], 0⟩, ⟨.Name x px, iter, [], 0⟩] scope pos) 1 it acc env) R s := by
  refine codeAny_of_tree ?_
  show wpAny _ _ ((compStart (.ListComp elt [⟨.Name x₀ p₀, iter₀, [], 0⟩, ⟨.Name x px, iter, [], 0⟩] scope pos) 1 it acc env).onRaise (fun x => do noteFrame x env; standAt theWindowsPlace)) _ _ s
  refine wpAny_notedAt ?_
  unfold compStart
  show wpAny _ _ (ask >>= _) _ _ s
  refine wpAny_bind (wpAny_askSetting (wpAny_ite ?_))
  split
  · first
      | exact wpAny_bind (wpAny_pure (wpAny_pure (And.intro rfl h0)))
      | exact wpAny_pure (And.intro rfl h0)
  · first
      | exact wpAny_bind (wpAny_rule (wpAny_bind (wpAny_standAt (wpAny_bind (wpAny_mono h (fun it' s' h' => wpAny_pure (And.intro rfl h')) fun _ _ x => x)))))
      | (refine wpAny_bind (wpAny_rule ?_); show wpAny _ _ (standAt iter.pos >>= _) _ _ s; exact wpAny_bind (wpAny_standAt (wpAny_bind (wpAny_mono h (fun it' s' h' => wpAny_pure (And.intro rfl h')) fun _ _ x => x))))

theorem start_go {I : Addr} {acc : Value} {env : Env} (hself : ∀ (Q : Value → Shared → Prop) (E : Value → Shared → Prop), Q (.ref I) s → wpAny (model prog w) A (pyIter (.ref I)) Q E s)
    (h : codeAny (model prog w) A (.compLoop (.ListComp elt [⟨.Name x₀ p₀, iter₀, [], 0⟩, ⟨.Name x px, iter, [], 0⟩] scope pos) 1 (.ref I) acc env) R s) :
    codeAny (model prog w) A (.compStart (.ListComp elt [⟨.Name x₀ p₀, iter₀, [], 0⟩, ⟨.Name x px, iter, [], 0⟩] scope pos) 1 (.ref I) acc env) R s := start_in h (hself _ _ h)
/-- the outer turn: its end -/
def OEnd (h₀ : Heap) (L I C D : Addr) (oI : Obj) (m : Str → Option Value) (Jn : (Str → Option Value) → Array Value → Led → Prop) (s₁ : Shared) (r : Result) (s₃ : Shared) : Prop :=
  ∃ h' tk oC mC ys n led, r = .ok .next ∧ s₃ = { s₁ with heap := h', toks := tk } ∧ Fr h₀ L h' m ∧ News h₀ L h' ((C, oC) :: (I, oI) :: (D, listOf ys n) :: led) ∧ NsO oC mC ∧ Off I C D led ∧ Jn mC ys led

theorem comp_out {I D L : Addr} {cenv : Env} {m₀ : Str → Option Value} {ys₀ : Array Value} {n₀ : Nat} {fp : List Addr} {N : Nat} {P : Nat → Value → Prop} {St : Nat → Heap → Prop} {m : Str → Option Value} {news : Led} {oC : Obj}
    (W : Walks prog w A I fp [I] N P St) (Bo : Addr → Obj) (J : Nat → (Str → Option Value) → Array Value → Led → Prop)
    (hx : cenv.kindOf x₀ = some .local) (hp : (cenv.scope.kind == .class || (cenv.scope.kind == .module && cenv.locals != cenv.globals)) = false)
    (hIs : ∀ i h, St i h → ∃ o, h.get? I = some o) (hLI : L ≠ I) (hI0 : h₀.get? I = none)
    (hfp : ∀ i mC ys led h₁, J i mC ys led → Fr h₀ L h₁ m → News h₀ L h₁ led → ∀ b ∈ fp, b ≠ I → h₁.get? b = some (Bo b)) (hfC : ∀ b ∈ fp, b ≠ I → b ≠ cenv.locals ∧ b ≠ D)
    (hsi : ∀ y, foldedSetIterable iter cenv y = pure y)
    (hst : St 0 s.heap) (F : Fr h₀ L s.heap m) (Nw : News h₀ L s.heap ((cenv.locals, oC) :: (D, listOf ys₀ n₀) :: news)) (hO : NsO oC m₀) (hoff : Off I cenv.locals D news) (h0 : J 0 m₀ ys₀ news)
    (step : ∀ i v mC oC ys n led h₁ tk₁ oI E', i < N → P i v → J i mC ys led → Off I cenv.locals D led → NsO oC (fun z => if z = x₀ then some v else mC z) → Fr h₀ L h₁ m → News h₀ L h₁ ((cenv.locals, oC) :: (I, oI) :: (D, listOf ys n) :: led) →
      wpAny (model prog w) A (eval iter cenv) (fun y s₃ => wpAny (model prog w) A (pyIter y) (fun it' s₄ => codeAny (model prog w) A (.compStart (.ListComp elt [⟨.Name x₀ p₀, iter₀, [], 0⟩, ⟨.Name x px, iter, [], 0⟩] scope pos) 1 it' (.ref D) cenv)
        (OEnd h₀ L I cenv.locals D oI m (J (i + 1)) s) s₄) E' s₃) E' { s with heap := h₁, toks := tk₁ })
    (done : ∀ h' tk oC mC ys n led, Fr h₀ L h' m → News h₀ L h' ((cenv.locals, oC) :: (D, listOf ys n) :: led) → NsO oC mC → Off I cenv.locals D led → J N mC ys led → R (.ok .next) { s with heap := h', toks := tk }) :
    codeAny (model prog w) A (.compLoop (.ListComp elt [⟨.Name x₀ p₀, iter₀, [], 0⟩, ⟨.Name x px, iter, [], 0⟩] scope pos) 0 (.ref I) (.ref D) cenv) R s := by
  have old : ∀ b o, h₀.get? b = some o → b ≠ I := fun b o e hb => by rw [hb, hI0] at e; cases e
  refine codeAny_loop rfl (fun k s' => ∃ h' tk mC oC ys n led i, s' = { s with heap := h', toks := tk } ∧ St i h' ∧ Fr h₀ L h' m ∧ News h₀ L h' ((cenv.locals, oC) :: (D, listOf ys n) :: led) ∧ NsO oC mC ∧ Off I cenv.locals D led ∧ J i mC ys led ∧ i ≤ N ∧ k = N + 1 - i) ?_ (N + 1)
    ⟨s.heap, s.toks, _, oC, ys₀, n₀, news, 0, rfl, hst, F, Nw, hO, hoff, h0, Nat.zero_le _, rfl⟩
  rintro k s' ⟨h', tk, mC, oC', ys, n, led, i, rfl, hst', F', N', hO', hoff', hJ, hi, rfl⟩
  show wpAny _ A ((compTurn (.ListComp elt [⟨.Name x₀ p₀, iter₀, [], 0⟩, ⟨.Name x px, iter, [], 0⟩] scope pos) 0 (.ref I) (.ref D) cenv).onRaise (fun x => do noteFrame x cenv; theTreesLotGoes x)) _ _ _
  refine wpAny_noted ?_
  rw [turn_out]
  refine wpAny_bind (wpAny_standAt (wpAny_bind ?_))
  by_cases hlt : i < N
  · refine W.item i _ _ _ hlt hst' fun v h₁ tk₁ hP hst₁ hk₁ => ?_
    have hkI : ∀ b o, b ≠ I → h'.get? b = some o → h₁.get? b = some o := fun b o hb e => hk₁ b o (fun q => hb (List.mem_singleton.mp q)) e
    have hC₁ := hkI _ _ hoff'.ci (N' _ (.head _)).1
    refine wpAny_bind (wpAny_of_eq rfl (wpAny_bind ?_))
    refine wpAny_assign_Name (wpAny_storeName_local hx (hO'.ns hC₁) (fun h₂ hn₂ hs₂ => ?_) hp)
    obtain ⟨oC₂, hoC₂, hO₂⟩ := ns_obj hn₂
    have hne : ∀ b, b ≠ cenv.locals → h₂.get? b = h₁.get? b := hs₂.2
    have hCL := (N' _ (.head _)).2.1
    have hC0 := (N' _ (.head _)).2.2
    have F₂ : Fr h₀ L h₂ m := ⟨F'.ns.at' fun o e => (hne L (Ne.symm hCL)).trans (hkI L o hLI e), fun b o e => (hne b (fun q => by rw [q] at e; exact nomatch e.symm.trans hC0)).trans (hkI b o (old b o e) (F'.keep b o e)), F'.above⟩
    have hst₂ : St (i + 1) h₂ := W.frame _ _ _ hst₁ fun b hb o e => (hne b (by
      by_cases hbI : b = I
      · rw [hbI]; exact Ne.symm hoff'.ci
      · exact (hfC b hb hbI).1)).trans e
    obtain ⟨oI, hoI⟩ := hIs _ _ hst₂
    have N₂ : News h₀ L h₂ ((cenv.locals, oC₂) :: (I, oI) :: (D, listOf ys n) :: led) := fun p hp => by
      rcases List.mem_cons.mp hp with rfl | hp
      · exact ⟨hoC₂, hCL, hC0⟩
      rcases List.mem_cons.mp hp with rfl | hp
      · exact ⟨hoI, Ne.symm hLI, hI0⟩
      rcases List.mem_cons.mp hp with rfl | hp
      · have z := N' _ (.tail _ (.head _))
        exact ⟨(hne _ (Ne.symm hoff'.cd)).trans (hkI _ _ hoff'.di z.1), z.2⟩
      · have z := N' _ (.tail _ (.tail _ hp))
        exact ⟨(hne _ (hoff'.c p hp)).trans (hkI _ _ (hoff'.i p hp) z.1), z.2⟩
    refine wpAny_bind (wpAny_mono (step i v mC oC₂ ys n led h₂ _ oI _ hlt hP hJ hoff' hO₂ F₂ N₂) (fun y s₃ h₃ => ?_) fun _ _ e => e)
    refine wpAny_bind (wpAny_standAt (wpAny_bind (wpAny_of_eq (hsi y) (wpAny_bind (wpAny_holding (wpAny_mono h₃ (fun it' s₄ h₄ => ?_) fun _ _ e => e))))))
    refine wpAny_bind (wpAny_runOwn (codeAny_mono h₄ fun r s₅ h₅ => ?_))
    obtain ⟨h₃', tk₃, oC₃, mC₃, ys₃, n₃, led₃, rfl, rfl, F₃, N₃, hO₃, hoff₃, hJ₃⟩ := h₅
    refine wpAny_pure ⟨rfl, ?_⟩
    have Nl : News h₀ L h₃' led₃ := fun p hp => N₃ p (.tail _ (.tail _ (.tail _ hp)))
    refine ⟨N + 1 - (i + 1), by omega, h₃', tk₃, mC₃, oC₃, ys₃, n₃, led₃, i + 1, rfl, ?_, F₃, fun p hp => ?_, hO₃, hoff₃, hJ₃, hlt, rfl⟩
    · refine W.frame _ _ _ hst₂ fun b hb o e => ?_
      by_cases hbI : b = I
      · rw [hbI] at e ⊢
        rw [hoI] at e; cases e
        exact (N₃ _ (.tail _ (.head _))).1
      · have e1 := hfp i mC ys led h₂ hJ F₂ (fun p hp => N₂ p (.tail _ (.tail _ (.tail _ hp)))) b hb hbI
        rw [e1] at e; cases e
        exact hfp (i + 1) mC₃ ys₃ led₃ h₃' hJ₃ F₃ Nl b hb hbI
    · rcases List.mem_cons.mp hp with rfl | hp
      · exact N₃ _ (.head _)
      rcases List.mem_cons.mp hp with rfl | hp
      · exact N₃ _ (.tail _ (.tail _ (.head _)))
      · exact Nl p hp
  · have hin : i = N := by omega
    subst hin
    refine W.done _ _ _ hst' fun h₁ tk₁ hk₁ => ?_
    have hkI : ∀ b o, b ≠ I → h'.get? b = some o → h₁.get? b = some o := fun b o hb e => hk₁ b o (fun q => hb (List.mem_singleton.mp q)) e
    refine wpAny_pure (done h₁ tk₁ oC' mC ys n led ⟨F'.ns.at' fun o e => hkI L o hLI e, fun b o e => hkI b o (old b o e) (F'.keep b o e), F'.above⟩ (fun p hp => ?_) hO' hoff' hJ)
    have z := N' p hp
    refine ⟨hkI _ _ ?_ z.1, z.2⟩
    rcases List.mem_cons.mp hp with rfl | hp
    · exact hoff'.ci
    rcases List.mem_cons.mp hp with rfl | hp
    · exact hoff'.di
    · exact hoff'.i p hp
end
end
section
set_option linter.unusedVariables false
section
variable {prog : Program} {w : World} {A : Around} {s : Shared} {h₀ : Heap}
/-- what a comprehension of two clauses wants of its outer iterator -/
def CompAt2 (prog : Program) (w : World) (A : Around) (h₀ : Heap) (L : Addr) (m : Str → Option Value) (env : Env) (scope : Scope) (cl : List (Str × Addr)) (e : Expr) (iter : Expr) (x₀ : Str) (Q : Value → Shared → Prop) (it : Value) (s₂ : Shared) : Prop :=
  ∃ (I : Addr) (fp : List Addr) (N : Nat) (P : Nat → Value → Prop) (St : Nat → Heap → Prop) (news : Led) (Bo : Addr → Obj) (J : Nat → (Str → Option Value) → Array Value → Led → Prop),
    it = .ref I ∧ Walks prog w A I fp [I] N P St ∧ (∀ i h, St i h → ∃ o, h.get? I = some o) ∧ L ≠ I ∧ h₀.get? I = none ∧
    (∀ i mC ys led h₁, J i mC ys led → Fr h₀ L h₁ m → News h₀ L h₁ led → ∀ b ∈ fp, b ≠ I → h₁.get? b = some (Bo b)) ∧ (∀ b ∈ fp, b < s₂.heap.objs.size) ∧ I < s₂.heap.objs.size ∧
    St 0 s₂.heap ∧ Fr h₀ L s₂.heap m ∧ News h₀ L s₂.heap news ∧ (∀ p ∈ news, p.1 ≠ I) ∧ J 0 (fun _ => none) #[] news ∧
    (∀ C D i v mC oC ys n led h₁ tk₁ oI E', i < N → P i v → J i mC ys led → Off I C D led → NsO oC (fun z => if z = x₀ then some v else mC z) → Fr h₀ L h₁ m →
      News h₀ L h₁ ((C, oC) :: (I, oI) :: (D, listOf ys n) :: led) →
      wpAny (model prog w) A (eval iter (compEnvC scope cl C env)) (fun y s₃ => wpAny (model prog w) A (pyIter y) (fun it' s₄ => codeAny (model prog w) A (.compStart e 1 it' (.ref D) (compEnvC scope cl C env))
        (OEnd h₀ L I C D oI m (J (i + 1)) s₂) s₄) E' s₃) E' { s₂ with heap := h₁, toks := tk₁ }) ∧
    ∀ D h' tk mC ys n led, s₂.heap.objs.size ≤ D → Fr h₀ L h' m → News h₀ L h' ((D, listOf ys n) :: led) → (∀ p ∈ led, p.1 ≠ D) → J N mC ys led → Q (.ref D) { s₂ with heap := h', toks := tk }

theorem ListComp_two {E : Value → Shared → Prop} {env : Env} {L : Addr} {m : Str → Option Value} {elt iter₀ iter : Expr} {x₀ x : Str} {p₀ px : Pos} {scope : Scope} {cl : List (Str × Addr)} {pos : Pos} {Q : Value → Shared → Prop}
    (_F : Fr h₀ L s.heap m) (hclos : closureFor scope env = pure cl) (hcell : ∀ y ∈ scope.names, y.2 ≠ .cell) (hkind : scope.kind = .function)
    (hnames : ∀ y ∈ scope.names, y.2 = .local → scope.names.lookup y.1 = some .local) (hx : scope.names.lookup x₀ = some .local)
    (h : wpAny (model prog w) A (eval iter₀ env) (fun xv s₁ => wpAny (model prog w) A (pyIter xv) (fun it s₂ => CompAt2 prog w A h₀ L m env scope cl (.ListComp elt [⟨.Name x₀ p₀, iter₀, [], 0⟩, ⟨.Name x px, iter, [], 0⟩] scope pos) iter x₀ Q it s₂) E s₁) E s)
    (hs : ∀ x, foldedSetIterable iter₀ env x = pure x := by intro _; rfl) (hsi : ∀ env y, foldedSetIterable iter env y = pure y := by intro _ _; rfl) :
    wpAny (model prog w) A (eval (.ListComp elt [⟨.Name x₀ p₀, iter₀, [], 0⟩, ⟨.Name x px, iter, [], 0⟩] scope pos) env) Q E s := by
  rw [eval_ListComp]
  refine wpAny_comprehension_free (use := none) rfl hs hclos hkind hnames (wpAny_mono h (fun xv s₁ h₁ => wpAny_mono h₁ (fun it s₂ h₂ => ?_) fun _ _ e => e) fun _ _ e => e)
  obtain ⟨I, fp, N, P, St, news, Bo, J, rfl, W, hIs, hLI, hI0, hfp, hfb, hIb, hst, F, Nw, hnI, h0, step, done⟩ := h₂
  refine wpAny_newObj_type (wpAny_newFunctionEnv hcell (by intro y hy; simp at hy) (fun h₁ hns₁ hsb₁ => ?_) hkind)
  dsimp only at hns₁ hsb₁ ⊢
  have F₁ := F.push { cls := .type "list", data := .seq ([] : List Value).toArray }
  have N₁ := News.push F Nw { cls := .type "list", data := .seq ([] : List Value).toArray }
  generalize hH2 : s₂.heap.push { cls := .type "list", dict := none, data := .seq ([] : List Value).toArray } = H2 at hns₁ hsb₁ F₁ N₁ ⊢
  have hC : H2.objs.size = s₂.heap.objs.size + 1 := by rw [← hH2, Heap.size_push]
  have hltC : ∀ b, b < s₂.heap.objs.size → b ≠ H2.objs.size := fun b hb => by rw [hC]; exact Nat.ne_of_lt (Nat.lt_succ_of_lt hb)
  have hDC : s₂.heap.objs.size ≠ H2.objs.size := by rw [hC]; exact Nat.ne_of_lt (Nat.lt_succ_self _)
  have F₂ := F₁.push { cls := Value.none, data := .dict #[] }
  have up : ∀ b o, b ≠ H2.objs.size → H2.get? b = some o → h₁.get? b = some o := fun b o hb e => (hsb₁.extBut b o hb (Heap.get?_push_of_some _ e))
  have hLlt := F.ns.lt
  have F₃ : Fr h₀ L h₁ m := ⟨F₁.ns.at' fun o e => up L o (hltC _ hLlt) e, fun b o e => up b o (Nat.ne_of_lt (Nat.lt_of_lt_of_le (Nat.lt_of_lt_of_le (Heap.lt_size e) F.above) (by rw [hC]; exact Nat.le_succ_of_le (Nat.le_of_lt hLlt)))) (F₁.keep b o e), F.above⟩
  obtain ⟨oC, hoC, hO⟩ := ns_obj hns₁
  have hC0 : h₀.get? H2.objs.size = none := by
    cases q : h₀.get? H2.objs.size with
    | none => rfl
    | some o => exact absurd (Heap.lt_size (F₁.keep _ _ q)) (Nat.lt_irrefl _)
  have N₃ : News h₀ L h₁ ((H2.objs.size, oC) :: (s₂.heap.objs.size, listOf #[] 0) :: news) := fun p hp => by
    rcases List.mem_cons.mp hp with rfl | hp
    · exact ⟨hoC, Ne.symm (hltC _ hLlt), hC0⟩
    · have z := N₁ p hp
      refine ⟨up _ _ ?_ z.1, z.2⟩
      have := Heap.lt_size z.1
      exact Nat.ne_of_lt this
  have hoff : Off I H2.objs.size s₂.heap.objs.size news := ⟨Ne.symm (hltC _ hIb), Nat.ne_of_gt hIb, Ne.symm hDC, hnI, fun p hp => hltC _ (Heap.lt_size (Nw p hp).1), fun p hp => Nat.ne_of_lt (Heap.lt_size (Nw p hp).1)⟩
  have hst₁ : St 0 h₁ := W.frame _ _ _ hst fun b hb o e => up b o (hltC _ (hfb b hb)) (hH2 ▸ Heap.get?_push_of_some _ e)
  have loop : ∀ s₃ : Shared, s₃ = { s₂ with heap := h₁, toks := s₂.toks + ([] : List (Str × Value)).length } →
      codeAny (model prog w) A (.compLoop (.ListComp elt [⟨.Name x₀ p₀, iter₀, [], 0⟩, ⟨.Name x px, iter, [], 0⟩] scope pos) 0 (.ref I) (.ref s₂.heap.objs.size) (compEnvC scope cl H2.objs.size env)) (compPost (model prog w) A E none Q (.ref s₂.heap.objs.size) H2.objs.size) s₃ := by
    rintro s₃ rfl
    refine comp_out (cenv := compEnvC scope cl H2.objs.size env) (L := L) (m := m) (oC := oC) W Bo J (lookup_relabel_local hx) (by simp [compEnvC, relabel, hkind]) hIs hLI hI0 hfp
      (fun b hb _ => ⟨hltC _ (hfb b hb), Nat.ne_of_lt (hfb b hb)⟩) (hsi _) hst₁ F₃ N₃ hO hoff h0 ?_ ?_
    · intro i v mC oC' ys n led h₂ tk₂ oI E' a1 a2 a3 a4 a5 a6 a7
      exact step _ _ i v mC oC' ys n led h₂ tk₂ oI E' a1 a2 a3 a4 a5 a6 a7
    · intro h' tk oC' mC ys n led F' N' hO' hoff' hJ
      have zC := N' _ (.head _)
      refine ⟨mC, hO'.ns zC.1, fun h'' hs'' => ?_⟩
      exact done _ h'' tk mC ys n led (Nat.le_refl _) (F'.change hs'' zC.2.1 zC.2.2) (fun p hp => by
        have z := N' p (.tail _ hp)
        refine ⟨(hs''.2 _ ?_).trans z.1, z.2⟩
        rcases List.mem_cons.mp hp with rfl | hp
        · exact Ne.symm hoff'.cd
        · exact hoff'.c p hp) (hoff'.d) hJ
  exact codeAny_compStart_list (loop _ rfl) (W.self 0 _ _ _ hst₁ (loop _ rfl))

theorem compAt2_of {Q : Value → Shared → Prop} {env : Env} {scope : Scope} {cl : List (Str × Addr)} {e iter : Expr} {x₀ : Str} {L : Addr} {m : Str → Option Value} {news : Led} {I : Addr} {fp : List Addr} {N : Nat} {P : Nat → Value → Prop} {St : Nat → Heap → Prop} {h' : Heap}
    (Z : Fresh prog w A h₀ L m news { s with heap := h' } I fp N P St) (Bo : Addr → Obj) (J : Nat → (Str → Option Value) → Array Value → Led → Prop) (hfp : ∀ b ∈ fp, b ≠ I → ∀ i mC ys led, J i mC ys led → (b, Bo b) ∈ led) (h0 : J 0 (fun _ => none) #[] news)
    (step : ∀ C D i v mC oC ys n led h₁ tk₁ oI E', i < N → P i v → J i mC ys led → Off I C D led → NsO oC (fun z => if z = x₀ then some v else mC z) → Fr h₀ L h₁ m → News h₀ L h₁ ((C, oC) :: (I, oI) :: (D, listOf ys n) :: led) →
      wpAny (model prog w) A (eval iter (compEnvC scope cl C env)) (fun y s₃ => wpAny (model prog w) A (pyIter y) (fun it' s₄ => codeAny (model prog w) A (.compStart e 1 it' (.ref D) (compEnvC scope cl C env))
        (OEnd h₀ L I C D oI m (J (i + 1)) s) s₄) E' s₃) E' { s with heap := h₁, toks := tk₁ })
    (done : ∀ D h' tk mC ys n led, (∀ p ∈ news, @LT.lt Nat _ p.1 D) → (∀ p ∈ led, p.1 ≠ D) → Fr h₀ L h' m → News h₀ L h' ((D, listOf ys n) :: led) → J N mC ys led → Q (.ref D) { s with heap := h', toks := tk }) :
    CompAt2 prog w A h₀ L m env scope cl e iter x₀ Q (.ref I) { s with heap := h' } :=
  ⟨I, fp, N, P, St, news, Bo, J, rfl, Z.W, Z.hIs, Z.hLI, Z.hI0, fun i mC ys led h₁ hJ _ N₁ b hb hbI => (N₁ _ (hfp b hb hbI i mC ys led hJ)).1, Z.fb, Z.Ib, Z.st, Z.F, Z.N, Z.nI, h0,
    fun C D i v mC oC ys n led h₁ tk₁ oI E' a b c d e f g => step C D i v mC oC ys n led h₁ tk₁ oI E' a b c d e f g, fun D h' tk mC ys n led z a b c d => done D h' tk mC ys n led (fun p hp => Nat.lt_of_lt_of_le (Heap.lt_size (Z.N p hp).1) z) c a b d⟩
end
end
section
set_option linter.unusedVariables false
theorem Jin {J F : Nat → (Str → Option Value) → Led → Prop} (h : J = F) {i : Nat} {m : Str → Option Value} {led : Led} (x : F i m led) : J i m led := h ▸ x
section
variable {prog : Program} {w : World} {A : Around} {s s₁ : Shared} {h₀ : Heap} {env : Env} {E : Value → Shared → Prop}
/-- a turn's walk, its end as a letter -/
theorem turn_gen {target : Expr} {v : Value} {body : List Stmt} {I : Addr} {oI : Obj} {L : Addr} {Jn : (Str → Option Value) → Led → Prop} {Qr : Value → Shared → Prop} {Qb : Shared → Prop}
    (h : ∀ (QT : Flow → Shared → Prop), (∀ h' tk m₂ news₂, Fr h₀ L h' m₂ → News h₀ L h' ((I, oI) :: news₂) → (∀ p ∈ news₂, p.1 ≠ I) → Jn m₂ news₂ → QT .next { s with heap := h', toks := tk }) →
      wpAny (model prog w) A (assign target env v) (fun _ s₃ => wpAny (model prog w) A (execs body env) QT E s₃) E s₁) :
    wpAny (model prog w) A (assign target env v) (fun _ s₃ => wpAny (model prog w) A (execs body env) (TurnEnd h₀ L I oI Jn s Qr Qb) E s₃) E s₁ :=
  h _ fun h' tk m₂ news₂ a b c d => ⟨h', tk, m₂, news₂, rfl, a, b, c, d⟩
/-- a walk that raises nothing, its end as a letter -/
theorem wp_gen {α : Type} {x : Sem α} {Q : α → Shared → Prop}
    (h : ∀ (Q' : α → Shared → Prop), (∀ v s', Q v s' → Q' v s') → wpAny (model prog w) A x Q' (fun _ _ => False) s) : wpAny (model prog w) A x Q E s :=
  wpAny_mono (h Q fun _ _ h => h) (fun _ _ h => h) fun _ _ h => h.elim
end
end
section
set_option linter.unusedVariables false
/-- the values are tuples of the ledger's, of these ints -/
inductive TupsAre (led : Led) : List Value → List (List Int) → Prop
  | nil : TupsAre led [] []
  | cons {T : Addr} {vs vals : List Value} {ns : List Int} {lls : List (List Int)} : (T, tupOf vs.toArray) ∈ led → IntsAre vs ns → TupsAre led vals lls → TupsAre led (.ref T :: vals) (ns :: lls)
theorem TupsAre.mono {led led' : Led} (hs : ∀ p ∈ led, p ∈ led') : ∀ {vals lls}, TupsAre led vals lls → TupsAre led' vals lls
  | _, _, .nil => .nil
  | _, _, .cons a b c => .cons (hs _ a) b (c.mono hs)
theorem TupsAre.append {led : Led} : ∀ {a b} {x y}, TupsAre led a x → TupsAre led b y → TupsAre led (a ++ b) (x ++ y)
  | _, _, _, _, .nil, h => h
  | _, _, _, _, .cons p q r, h => .cons p q (r.append h)
theorem TupsAre.snoc {led : Led} {a x} {T : Addr} {vs : List Value} {ns : List Int} (h : TupsAre led a x) (hm : (T, tupOf vs.toArray) ∈ led) (hi : IntsAre vs ns) : TupsAre led (a ++ [.ref T]) (x ++ [ns]) := h.append (.cons hm hi .nil)
theorem TupsAre.length {led : Led} : ∀ {a x}, TupsAre led a x → a.length = x.length
  | _, _, .nil => rfl
  | _, _, .cons _ _ c => by simp [c.length]
theorem TupsAre.get {led : Led} : ∀ {a x}, TupsAre led a x → ∀ (i : Nat) (hi : i < x.length), ∃ T vs, a[i]? = some (.ref T) ∧ (T, tupOf vs.toArray) ∈ led ∧ IntsAre vs x[i]
  | _, _, .cons p q r, 0, _ => ⟨_, _, rfl, p, q⟩
  | _, _, .cons p q r, i + 1, h => by
    obtain ⟨T, vs, a, b, c⟩ := r.get i (by simpa using h)
    exact ⟨T, vs, by simpa using a, b, by simpa using c⟩
theorem Off.mk' {I C D : Addr} {led : Led} (h1 : C ≠ I) (h2 : D ≠ I) (h3 : C ≠ D) (h : ∀ p ∈ led, p.1 ≠ I ∧ p.1 ≠ C ∧ p.1 ≠ D) : Off I C D led := ⟨h1, h2, h3, fun p hp => (h p hp).1, fun p hp => (h p hp).2.1, fun p hp => (h p hp).2.2⟩
/-- all of tl was made after all of base -/
def Gt (base tl : Led) : Prop := ∀ q ∈ base, ∀ r ∈ tl, @LT.lt Nat _ q.1 r.1
theorem Gt.nil {base : Led} : Gt base [] := fun _ _ _ h => nomatch h
theorem Gt.cons {base tl : Led} {T : Addr} {o : Obj} (h : Gt base tl) (hT : ∀ q ∈ base, @LT.lt Nat _ q.1 T) : Gt base ((T, o) :: tl) := fun q hq r hr => by
  rcases List.mem_cons.mp hr with rfl | hr
  · exact hT q hq
  · exact h q hq r hr
def szOf (m : Int) (size : Int) : List (List Int) := (List.range (m - size + 1).toNat).map fun (k : Nat) => [(k : Int), m - size - (k : Int)]
def leftOf (m : Int) : List (List Int) := szOf m 1 ++ szOf m 2
def outs (m : Int) (i : Nat) : List (List Int) := if i = 0 then [] else if i = 1 then szOf m 1 else leftOf m
theorem outs_succ (m : Int) {i : Nat} (hi : i < 2) : outs m i ++ ((List.range (m - ((i : Int) + 1) + 1).toNat).map fun k : Nat => [(k : Int), m - ((i : Int) + 1) - (k : Int)]) = outs m (i + 1) := by
  have h2 : i = 0 ∨ i = 1 := by omega
  rcases h2 with rfl | rfl <;> rfl
theorem outs_len {m : Int} (h : 0 ≤ m ∧ m ≤ 4) (i : Nat) : (outs m i).length ≤ 9 := by
  unfold outs leftOf szOf
  split
  · simp
  · split
    · simp only [List.length_map, List.length_range]; omega
    · simp only [List.length_append, List.length_map, List.length_range]; omega
theorem szOf_succ {m size : Int} {j : Nat} : (List.range (j + 1)).map (fun k : Nat => [(k : Int), m - size - (k : Int)]) = (List.range j).map (fun k : Nat => [(k : Int), m - size - (k : Int)]) ++ [[(j : Int), m - size - (j : Int)]] := by
  rw [List.range_succ, List.map_append]; rfl
section
variable {M : Model} {A : Around} {E : Value → Shared → Prop} {s : Shared} {h₀ : Heap} {L C : Addr} {news : Led} {scope : Scope} {cl : List (Str × Addr)} {env : Env} {x : Str} {pos : Pos} {v : Value} {oC : Obj} {mC : Str → Option Value} {Q : Value → Shared → Prop}
/-- a local name of a comprehension's own -/
theorem nameC (N : News h₀ L s.heap news) (hm : (C, oC) ∈ news) (hO : NsO oC mC) (hv : mC x = some v) (h : Q v s)
    (hk : (compEnvC scope cl C env).scope.kind = .function) (hx : (compEnvC scope cl C env).kindOf x = some .local) (hd : (x == ("__debug__" : Str)) = false := by decide) :
    wpAny M A (eval (.Name x pos) (compEnvC scope cl C env)) Q E s := wpAny_Name (wpAny_loadName_local hk hx (hO.ns (N _ hm).1) hv h) hd
theorem newTup_N {vs : List Value} {m : Str → Option Value} (F : Fr h₀ L s.heap m) (N : News h₀ L s.heap news) (h : ∀ T h', Fr h₀ L h' m → News h₀ L h' ((T, tupOf vs.toArray) :: news) → (∀ p ∈ news, p.1 < T) → Q (.ref T) { s with heap := h' }) (hsz : vs.length ≤ sizeLine) :
    wpAny M A (newTuple vs) Q E s := newTuple_N F N (fun h' F' N' => h _ h' F' N' fun p hp => Heap.lt_size (N p hp).1) hsz
end
end
section
set_option linter.unusedVariables false
theorem nm_hit {x : Str} {v : Value} {m : Str → Option Value} : (fun y => if y = x then some v else m y) x = some v := if_pos rfl
theorem nm_miss {x y : Str} {v w : Option Value} {m : Str → Option Value} (h : ¬ y = x) (e : m y = w) : (fun z => if z = x then v else m z) y = w := (if_neg h).trans e
theorem all_of_allLt {d : Addr} (l : Led) (h : AllLt d l) : ∀ p ∈ l, @LT.lt Nat _ p.1 d := by
  induction l with
  | nil => intro p hp; cases hp
  | cons q r ih =>
    intro p hp
    have h1 := And.left h
    have h2 := And.right h
    rcases List.mem_cons.mp hp with e | hp
    · rw [e]; exact h1
    · exact ih h2 p hp
theorem Fresh.sub {prog : Program} {w : World} {A : Around} {h₀ : Heap} {L : Addr} {m : Str → Option Value} {news news' : Led} {s₂ : Shared} {I : Addr} {fp : List Addr} {N : Nat} {P : Nat → Value → Prop} {St : Nat → Heap → Prop}
    (Z : Fresh prog w A h₀ L m news s₂ I fp N P St) (hs : ∀ p ∈ news', p ∈ news) : Fresh prog w A h₀ L m news' s₂ I fp N P St :=
  ⟨Z.W, Z.hIs, Z.hgo, Z.hLI, Z.hI0, Z.fb, Z.Ib, Z.st, Z.F, fun p hp => Z.N p (hs p hp), fun p hp => Z.nI p (hs p hp)⟩
theorem leftOf_pair {m : Int} : ∀ l ∈ leftOf m, ∃ p q : Int, l = [p, q] := fun l hl => by
  rcases List.mem_append.mp hl with h | h <;> (obtain ⟨k, _, rfl⟩ := List.mem_map.mp h; exact ⟨_, _, rfl⟩)
theorem intsAre_two {vs : List Value} {p q : Int} (h : IntsAre vs [p, q]) : ∃ a b, vs = [.int p a, .int q b] := by
  cases h with
  | cons _ a h => cases h with
    | cons _ b h => cases h; exact ⟨a, b, rfl⟩
def insI (x : Int) : List Int → List Int
  | [] => [x]
  | y :: r => if x ≤ y then x :: y :: r else y :: insI x r
def sortI : List Int → List Int
  | [] => []
  | x :: r => insI x (sortI r)
theorem insI_perm (x : Int) : ∀ l, (insI x l).Perm (x :: l)
  | [] => .refl _
  | y :: r => by
    unfold insI
    split
    · exact .refl _
    · exact ((insI_perm x r).cons y).trans (.swap x y r)
theorem sortI_perm : ∀ l, (sortI l).Perm l
  | [] => .refl _
  | x :: r => (insI_perm x (sortI r)).trans ((sortI_perm r).cons x)
theorem insI_sorted (x : Int) : ∀ l, l.Pairwise (· ≤ ·) → (insI x l).Pairwise (· ≤ ·)
  | [], _ => by simp [insI]
  | y :: r, h => by
    unfold insI
    split
    · rename_i hxy
      refine List.Pairwise.cons (fun z hz => ?_) h
      rcases List.mem_cons.mp hz with rfl | hz
      · exact hxy
      · exact Int.le_trans hxy ((List.pairwise_cons.mp h).1 z hz)
    · rename_i hxy
      refine List.Pairwise.cons (fun z hz => ?_) (insI_sorted x r (List.pairwise_cons.mp h).2)
      rcases List.mem_cons.mp ((insI_perm x r).mem_iff.mp hz) with rfl | hz
      · omega
      · exact (List.pairwise_cons.mp h).1 z hz
theorem sortI_sorted : ∀ l, (sortI l).Pairwise (· ≤ ·)
  | [] => .nil
  | x :: r => insI_sorted x _ (sortI_sorted r)
theorem sortI_eq {a b : List Int} (hp : a.Perm b) (hs : a.Pairwise (· ≤ ·)) : a = sortI b :=
  List.Perm.eq_of_pairwise (fun x y _ _ h1 h2 => Int.le_antisymm h1 h2) hs (sortI_sorted b) (hp.trans (sortI_perm b).symm)
def mv (xs : List Int) (k : Nat) (p : List Int) : List Int := sortI (((xs.take k ++ p) ++ xs.drop (k + 1)).filter fun x => decide (x > 0))
def movesAt (xs : List Int) (k : Nat) : List (List Int) := (leftOf (xs.getD k 0)).map (mv xs k)
def movesTo (xs : List Int) (i : Nat) : List (List Int) := (List.range i).flatMap (movesAt xs)
def moves (xs : List Int) : List (List Int) := movesTo xs xs.length
theorem movesTo_succ (xs : List Int) (i : Nat) : movesTo xs (i + 1) = movesTo xs i ++ movesAt xs i := by
  unfold movesTo; rw [List.range_succ, List.flatMap_append]; simp
theorem leftOf_len {m : Int} (h : 0 ≤ m ∧ m ≤ 4) : (leftOf m).length ≤ 9 := outs_len h 2
theorem movesTo_len {xs : List Int} (hr : ∀ x ∈ xs, 0 ≤ x ∧ x ≤ 4) : ∀ i, (movesTo xs i).length ≤ 9 * i
  | 0 => by simp [movesTo]
  | i + 1 => by
    rw [movesTo_succ, List.length_append, movesAt, List.length_map]
    have h1 := movesTo_len hr i
    have h2 : (leftOf (xs.getD i 0)).length ≤ 9 := by
      by_cases hi : i < xs.length
      · rw [show xs.getD i 0 = xs[i] by simp [hi]]; exact leftOf_len (hr _ (List.getElem_mem hi))
      · rw [show xs.getD i 0 = 0 by simp [hi]]; exact leftOf_len ⟨Int.le_refl _, by decide⟩
    omega
theorem take_succ_map {α β : Type} (f : α → β) (l : List α) (j : Nat) (hj : j < l.length) : (l.take (j + 1)).map f = (l.take j).map f ++ [f l[j]] := by
  rw [List.take_add_one, List.getElem?_eq_getElem hj, List.map_append]; rfl
theorem intsAre_take {vs : List Value} {ns : List Int} (h : IntsAre vs ns) (k : Nat) : IntsAre (vs.take k) (ns.take k) := by
  induction h generalizing k with
  | nil => simp; exact .nil
  | cons n t _ ih =>
    cases k with
    | zero => exact .nil
    | succ k => exact .cons n t (ih k)
theorem intsAre_drop {vs : List Value} {ns : List Int} (h : IntsAre vs ns) (k : Nat) : IntsAre (vs.drop k) (ns.drop k) := by
  induction h generalizing k with
  | nil => simp; exact .nil
  | cons n t h ih =>
    cases k with
    | zero => exact .cons n t h
    | succ k => exact ih k
section
variable {prog : Program} {w : World} {A : Around} {E : Value → Shared → Prop} {s : Shared} {h₀ : Heap} {L : Addr} {m : Str → Option Value} {news : Led}
theorem len_tup_N {t : Addr} {vs : List Value} {ns : List Int} {Q : Value → Shared → Prop} (N : News h₀ L s.heap news) (ht : (t, tupOf vs.toArray) ∈ news) (hi : IntsAre vs ns) (hz : ns.length ≤ 100) (h : Q (.int (ns.length : Int) (s.toks + 1)) { s with toks := s.toks + 1 + 1 }) :
    wpAny (model prog w) A (call (.builtin "len") [.ref t]) Q E s := by
  have e := hi.length
  refine P.len_tuple (items := vs.toArray) (n := 0) (N _ ht).1 (by rw [List.size_toArray]; omega) ?_
  rw [List.size_toArray, e]
  exact h
theorem item_tup_N {value slice : PySem.Expr} {t : Addr} {vs : List Value} {ns : List Int} {i : Nat} {u : Tok} {Q : Value → Shared → Prop} (N : News h₀ L s.heap news) (ht : (t, tupOf vs.toArray) ∈ news) (hi : IntsAre vs ns) (hj : i < ns.length)
    (hs : subscripted slice false (.ref t) (.int (i : Int) u) = operate [.ref t, .int (i : Int) u] (getItem (.ref t) (.int (i : Int) u))) (hg : ∀ r, letTemporaryGo value (.ref t) r = pure ()) (hz : ns.length ≤ 100) (h : ∀ t, Q (.int (ns.getD i 0) t) s) :
    wpAny (model prog w) A (subscriptTail value slice (.ref t) (.int (i : Int) u)) Q E s := by
  have e := hi.length
  obtain ⟨t', hx⟩ := hi.get i ns[i] (by simp [hj])
  have hT : IsTup s.heap t vs.toArray := ⟨_, (N _ ht).1, rfl, 0, rfl⟩
  refine item_tuple (j := i) hT (by omega) (by omega) ?_ (by simpa using hx) ?_ hs hg
  · unfold seqIndex?
    simp only [List.size_toArray]
    have : ¬ ((i : Int) < 0) := by omega
    simp [this]; omega
  · have := h t'
    rw [show ns.getD i 0 = ns[i] by simp [hj]] at this
    exact this
theorem tup_add_N {t b : Addr} {vs ws : List Value} {Q : Value → Shared → Prop} (F : Fr h₀ L s.heap m) (N : News h₀ L s.heap news) (ht : (t, tupOf vs.toArray) ∈ news) (hb : (b, tupOf ws.toArray) ∈ news) (hz : vs.length + ws.length ≤ 1000)
    (h : ∀ D h', Fr h₀ L h' m → News h₀ L h' ((D, tupOf (vs ++ ws).toArray) :: news) → Q (.ref D) { s with heap := h' }) : wpAny (model prog w) A (binaryOp .Add (.ref t) (.ref b)) Q E s := by
  have ht' : IsTup s.heap t vs.toArray := ⟨_, (N _ ht).1, rfl, 0, rfl⟩
  have hb' : IsTup s.heap b ws.toArray := ⟨_, (N _ hb).1, rfl, 0, rfl⟩
  have both : ∀ D o, (D, o) ∈ news → News h₀ L s.heap ((D, o) :: news) := fun D o hm p hp => by
    rcases List.mem_cons.mp hp with rfl | hp
    · exact N _ hm
    · exact N p hp
  refine add_tuples F N ht' hb' (fun e => ?_) (fun _ e => ?_) (fun _ _ h' F' N' => h _ h' F' N') (by have : sizeLine = 2 ^ 24 := rfl; omega)
  · subst e; exact h b s.heap F (both _ _ hb)
  · subst e; refine h t s.heap F (both _ _ ?_); rw [List.append_nil]; exact ht
theorem sorted_N' {l : Addr} {vs : List Value} {ns : List Int} {n : Nat} {Q : Value → Shared → Prop} (F : Fr h₀ L s.heap m) (N : News h₀ L s.heap news) (hl : (l, listOf vs.toArray n) ∈ news) (hi : IntsAre vs ns) (h64 : ns.length < 64)
    (h : ∀ D vs' c h', Fr h₀ L h' m → News h₀ L h' ((D, listOf vs'.toArray c) :: news) → IntsAre vs' (sortI ns) → vs'.length ≤ 1000 → Q (.ref D) { s with heap := h' }) :
    wpAny (model prog w) A (call (.builtin "sorted") [.ref l]) Q E s :=
  kso_sorted F N (News.isList N hl) hi h64 fun D vs' ns' c h' F' N' _ hI _ hp hs _ => h D vs' c h' F' N' (by rw [← sortI_eq hp hs]; exact hI) (by rw [hI.length, hp.length_eq]; omega)
theorem tuple_N {l : Addr} {vs : List Value} {n : Nat} {Q : Value → Shared → Prop} (F : Fr h₀ L s.heap m) (N : News h₀ L s.heap news) (hl : (l, listOf vs.toArray n) ∈ news) (hz : vs.length ≤ 1000)
    (h : ∀ D h', Fr h₀ L h' m → News h₀ L h' ((D, tupOf vs.toArray) :: news) → (∀ p ∈ news, p.1 < D) → Q (.ref D) { s with heap := h' }) :
    wpAny (model prog w) A (call (.type "tuple") [.ref l]) Q E s :=
  kde_tupleOf F N (News.isList N hl) (by rw [List.size_toArray]; omega) (by simp) h
theorem append_N {D : Addr} {its : Array Value} {n : Nat} {x : Value} {Q : Value → Shared → Prop} (F : Fr h₀ L s.heap m) (N : News h₀ L s.heap news) (hm : (D, listOf its n) ∈ news) (hz : its.size ≤ sizeLine)
    (h : ∀ h', Fr h₀ L h' m → (∀ led : Led, (∀ p ∈ led, p ∈ news ∧ p.1 ≠ D) → News h₀ L h' ((D, listOf (its.push x) (n + 1)) :: led)) → Q .none { s with heap := h' }) :
    wpAny (model prog w) A (call (.builtin "list.append") [.ref D, x]) Q E s := by
  have z := N _ hm
  refine append_at (hsz := hz) z.1 fun h' hs ho => h h' (F.change hs z.2.1 z.2.2) fun led hl p hp => ?_
  rcases List.mem_cons.mp hp with rfl | hp
  · exact ⟨ho, z.2⟩
  · obtain ⟨a, b⟩ := hl p hp
    exact ⟨(hs.2 _ b).trans (N p a).1, (N p a).2⟩
end
end
section
set_option linter.unusedVariables false
section
variable {prog : Program} {w : World} {A : Around} {s : Shared} {h₀ : Heap}
/-- the end of a turn of a comprehension that makes nothing -/
def SEnd (h₁ : Heap) (s : Shared) (J : Prop) (s₄ : Shared) : Prop := (∃ tk, s₄ = { s with heap := h₁, toks := tk }) ∧ J
/-- a comprehension whose test and element make nothing -/
theorem compAt_same {Q : Value → Shared → Prop} {env : Env} {scope : Scope} {cl : List (Str × Addr)} {elt : Expr} {x : Str} {ifs : List Expr} {L : Addr} {m : Str → Option Value} {news : Led} {I : Addr} {fp : List Addr} {N : Nat} {P : Nat → Value → Prop} {St : Nat → Heap → Prop} {h' : Heap}
    (Z : Fresh prog w A h₀ L m news { s with heap := h' } I fp N P St) (hsz : N ≤ sizeLine) (Bo : Addr → Obj) (hfp : ∀ b ∈ fp, b ≠ I → (b, Bo b) ∈ news) (J : Nat → Array Value → Prop) (h0 : J 0 #[])
    (step : ∀ C D i v mC oC ys n h₁ tk₁ oI E', i < N → P i v → J i ys → mC x = some v → NsO oC mC → Fr h₀ L h₁ m → News h₀ L h₁ ((C, oC) :: (I, oI) :: (D, listOf ys n) :: news) →
      wpAny (model prog w) A (testsOf ifs (compEnvC scope cl C env)) (fun ok s₃ => if ok = true then wpAny (model prog w) A (eval elt (compEnvC scope cl C env)) (fun y s₄ => SEnd h₁ s (J (i + 1) (ys.push y)) s₄) E' s₃
        else SEnd h₁ s (J (i + 1) ys) s₃) E' { s with heap := h₁, toks := tk₁ })
    (done : ∀ D h' tk ys n, (∀ p ∈ news, @LT.lt Nat _ p.1 D) → Fr h₀ L h' m → News h₀ L h' ((D, listOf ys n) :: news) → J N ys → Q (.ref D) { s with heap := h', toks := tk }) :
    CompAt prog w A h₀ L m env scope cl elt x ifs Q (.ref I) { s with heap := h' } := by
  refine compAt_of Z hsz Bo (fun i mC ys led => led = news ∧ J i ys) (fun b hb hbI i mC ys led hJ => hJ.1 ▸ hfp b hb hbI) ⟨rfl, h0⟩ ?_ ?_
  · rintro C D i v mC oC ys n led h₁ tk₁ oI E' hi hP ⟨rfl, hJ⟩ hoff hO F₁ N₁
    refine wpAny_mono (step C D i v _ oC ys n h₁ tk₁ oI E' hi hP hJ nm_hit hO F₁ N₁) (fun ok s₃ z => ?_) fun _ _ e => e
    have fin : ∀ s₄ (ys' : Array Value), SEnd h₁ s (J (i + 1) ys') s₄ → CEnd h₀ L I C D oI m ys n (fun mC led' => led' = led ∧ J (i + 1) ys') s s₄ := by
      rintro s₄ ys' ⟨⟨tk, rfl⟩, hj⟩
      exact ⟨h₁, tk, oC, _, led, rfl, F₁, N₁, hO, hoff, rfl, hj⟩
    cases ok with
    | true => rw [if_pos rfl] at z ⊢; exact wpAny_mono z (fun y s₄ z => fin s₄ _ z) fun _ _ e => e
    | false => rw [if_neg (by decide)] at z ⊢; exact fin _ _ z
  · rintro D h' tk mC ys n led hlt hne F' N' ⟨rfl, hJ⟩
    exact done D h' tk ys n hlt F' N' hJ
/-- the turn's word of a filter and a map over ints -/
theorem filt_step {vs : List Value} {ns : List Int} {f : Int → Bool} {g : Int → Int} (hi : IntsAre vs ns) {i : Nat} {v : Value} (hP : vs[i]? = some v) : ∃ t, v = .int (ns.getD i 0) t ∧
    (∀ (ys : Array Value) (t' : Tok), f (ns.getD i 0) = true → IntsAre ys.toList (((ns.take i).filter f).map g) → IntsAre (ys.push (.int (g (ns.getD i 0)) t')).toList (((ns.take (i + 1)).filter f).map g)) ∧
    (∀ (ys : Array Value), f (ns.getD i 0) = false → IntsAre ys.toList (((ns.take i).filter f).map g) → IntsAre ys.toList (((ns.take (i + 1)).filter f).map g)) := by
  obtain ⟨t, rfl⟩ := hi.int_at i v hP
  have hl : i < ns.length := by
    rw [← hi.length]
    exact (List.getElem?_eq_some_iff.mp hP).1
  have e1 : ns.take (i + 1) = ns.take i ++ [ns.getD i 0] := by rw [List.take_add_one, List.getElem?_eq_getElem hl]; simp [hl]
  refine ⟨t, rfl, fun ys t' hf h => ?_, fun ys hf h => ?_⟩
  · rw [e1, List.filter_append, List.map_append, Array.toList_push]
    refine IntsAre.append h ?_
    simp only [List.filter_cons, hf, if_true, List.filter_nil, List.map_cons, List.map_nil]
    exact .cons _ _ .nil
  · rw [e1, List.filter_append, List.map_append]
    simp only [List.filter_cons, hf, List.filter_nil, List.map_nil, Bool.false_eq_true, if_false, List.append_nil]
    exact h
end
end
section
set_option linter.unusedVariables false
section
variable {prog : Program} {w : World} {A : Around} {s : Shared} {h₀ : Heap} {env : Env}
/-- the end of a while's turn: the word at a lesser number -/
def WEnd (h₀ : Heap) (L : Addr) (J : Nat → (Str → Option Value) → Led → Prop) (n : Nat) (s₁ : Shared) (Q : Flow → Shared → Prop) (f : Flow) (s₃ : Shared) : Prop :=
  match f with
  | .ret v => Q (.ret v) s₃
  | .brk => Q .next s₃
  | _ => ∃ h' tk m₂ led, s₃ = { s₁ with heap := h', toks := tk } ∧ Fr h₀ L h' m₂ ∧ News h₀ L h' led ∧ ∃ n', n' < n ∧ J n' m₂ led
theorem While_own {E : Value → Shared → Prop} {Q : Flow → Shared → Prop} {test : Expr} {body orelse : List Stmt} {pos : Pos} {m : Str → Option Value} {news : Led} (J : Nat → (Str → Option Value) → Led → Prop) (n : Nat)
    (F : Fr h₀ env.locals s.heap m) (N : News h₀ env.locals s.heap news) (h0 : J n m news)
    (turn : ∀ n m₁ led h₁ tk₁, J n m₁ led → Fr h₀ env.locals h₁ m₁ → News h₀ env.locals h₁ led →
      wpAny (model prog w) A (isTrue test env (eval test env)) (fun b s₂ => WhlIf b (wpAny (model prog w) A (execs body env) (WEnd h₀ env.locals J n s Q) E s₂) (wpAny (model prog w) A (execs orelse env) Q E s₂)) E { s with heap := h₁, toks := tk₁ })
    (hE : PassesOwn (model prog w) A env E) :
    wpAny (model prog w) A (exec (.While test body orelse pos) env) Q E s := by
  refine wpAny_While ?_
  refine codeAny_whileLoop (fun k s' => ∃ h' tk m' led, s' = { s with heap := h', toks := tk } ∧ Fr h₀ env.locals h' m' ∧ News h₀ env.locals h' led ∧ J k m' led) ?_ n ⟨s.heap, s.toks, m, news, rfl, F, N, h0⟩
  rintro k s' ⟨h', tk, m', led, rfl, F', N', hJ⟩
  refine wpAny_passesOwn hE (wpAny_mono (turn k m' led h' tk hJ F' N') (fun b s₂ z => ?_) fun _ _ e => e)
  cases b with
  | true =>
    simp only [WhlIf, if_true] at z ⊢
    refine wpAny_passesOwn hE (wpAny_mono z (fun f s₃ z => ?_) fun _ _ e => e)
    have fin : (∃ h' tk m₂ led, s₃ = { s with heap := h', toks := tk } ∧ Fr h₀ env.locals h' m₂ ∧ News h₀ env.locals h' led ∧ ∃ n', n' < k ∧ J n' m₂ led) → ∃ m, m < k ∧ ∃ h' tk m' led, s₃ = { s with heap := h', toks := tk } ∧ Fr h₀ env.locals h' m' ∧ News h₀ env.locals h' led ∧ J m m' led := by
      rintro ⟨h₂, tk₂, m₂, led₂, e, F₂, N₂, n', hn, hj⟩
      exact ⟨n', hn, h₂, tk₂, m₂, led₂, e, F₂, N₂, hj⟩
    cases f with
    | ret v => exact z
    | brk => exact z
    | cont => exact fin z
    | next => exact fin z
  | false =>
    simp only [WhlIf, Bool.false_eq_true, if_false] at z ⊢
    exact wpAny_passesOwn hE z
end
/-- bisect_left's own search -/
def bisI (ns : List Int) (x : Int) : Nat → Nat → Nat → Nat
  | 0, lo, _ => lo
  | f + 1, lo, hi => if lo < hi then (if ns.getD ((lo + hi) / 2) 0 < x then bisI ns x f ((lo + hi) / 2 + 1) hi else bisI ns x f lo ((lo + hi) / 2)) else lo
def bis (ns : List Int) (x : Int) : Nat := bisI ns x (ns.length + 1) 0 ns.length
theorem bisI_done {ns : List Int} {x : Int} {f lo hi : Nat} (h : ¬ lo < hi) : bisI ns x f lo hi = lo := by
  cases f with
  | zero => rfl
  | succ f => unfold bisI; rw [if_neg h]
theorem bisI_up {ns : List Int} {x : Int} {f lo hi : Nat} (h : lo < hi) (hx : ns.getD ((lo + hi) / 2) 0 < x) (r : Nat) (hr : bisI ns x (f + 1) lo hi = r) : bisI ns x f ((lo + hi) / 2 + 1) hi = r := by
  unfold bisI at hr; rwa [if_pos h, if_pos hx] at hr
theorem bisI_dn {ns : List Int} {x : Int} {f lo hi : Nat} (h : lo < hi) (hx : ¬ ns.getD ((lo + hi) / 2) 0 < x) (r : Nat) (hr : bisI ns x (f + 1) lo hi = r) : bisI ns x f lo ((lo + hi) / 2) = r := by
  unfold bisI at hr; rwa [if_pos h, if_neg hx] at hr
end
section
theorem linesC4 : True := by
  w_top off
  exact trivial
set_option maxHeartbeats 8000000
set_option linter.unusedVariables false
def Digs (a : Int) (vs : Array Value) : Prop :=
  vs.size ≤ 2 ∧ ∀ z0 z1 z2 z3 : Tok, ∃ t0 t1 t2 t3 : Tok, (vs ++ #[.int 0 z0, .int 0 z1, .int 0 z2, .int 0 z3])[0]? = some (.int (a % 2) t0) ∧ (vs ++ #[.int 0 z0, .int 0 z1, .int 0 z2, .int 0 z3])[1]? = some (.int (a / 2) t1) ∧
    (vs ++ #[.int 0 z0, .int 0 z1, .int 0 z2, .int 0 z3])[2]? = some (.int 0 t2) ∧ (vs ++ #[.int 0 z0, .int 0 z1, .int 0 z2, .int 0 z3])[3]? = some (.int 0 t3)

theorem c_i2d (w : World) (a : Int) (ha : 0 ≤ a ∧ a ≤ 3) (c : Nat) (oc : Obj) (ta tn : Tok) (I : Inner "_int2digits.<locals>.inner" c oc) :
  Con w 9 21 [.int a ta, .int 1 tn] [(16, tabObj #[rawInt 5, rawInt 4, .ref c]), (c, oc)]
    (fun tl v => ∃ l n vs, v = .ref l ∧ tl = [(l, listOf vs n)] ∧ Digs a vs) := by
  have h : a = 0 ∨ a = 1 ∨ a = 2 ∨ a = 3 := by omega
  rcases h with rfl | rfl | rfl | rfl
  · exact (c_i2d0 w c oc ta tn I).mono fun tl v ⟨l, n, hv, ht⟩ => ⟨l, n, _, hv, ht, by decide, fun z0 z1 z2 z3 => ⟨_, _, _, _, rfl, rfl, rfl, rfl⟩⟩
  · exact (c_i2d1 w c oc ta tn I).mono fun tl v ⟨l, n, t0, hv, ht⟩ => ⟨l, n, _, hv, ht, Nat.le_of_ble_eq_true rfl, fun z0 z1 z2 z3 => ⟨_, _, _, _, rfl, rfl, rfl, rfl⟩⟩
  · exact (c_i2d2 w c oc ta tn I).mono fun tl v ⟨l, n, t0, t1, hv, ht⟩ => ⟨l, n, _, hv, ht, Nat.le_of_ble_eq_true rfl, fun z0 z1 z2 z3 => ⟨_, _, _, _, rfl, rfl, rfl, rfl⟩⟩
  · exact (c_i2d3 w c oc ta tn I).mono fun tl v ⟨l, n, t0, t1, hv, ht⟩ => ⟨l, n, _, hv, ht, Nat.le_of_ble_eq_true rfl, fun z0 z1 z2 z3 => ⟨_, _, _, _, rfl, rfl, rfl, rfl⟩⟩
section
variable {prog : Program} {w : World} {A : Around} {E : Value → Shared → Prop} {s : Shared} {h₀ : Heap} {L : Addr} {m : Str → Option Value} {news : Led}
structure Four (a : Int) (ws : Array Value) (t0 t1 t2 t3 : Tok) : Prop where
  sz : ws.size ≤ 6
  i0 : ws[0]? = some (.int (a % 2) t0)
  i1 : ws[1]? = some (.int (a / 2) t1)
  i2 : ws[2]? = some (.int 0 t2)
  i3 : ws[3]? = some (.int 0 t3)
theorem add_digs {l b : Addr} {n k : Nat} {vs : Array Value} {a : Int} {z0 z1 z2 z3 : Tok} {Q : Value → Shared → Prop} (F : Fr h₀ L s.heap m) (N : News h₀ L s.heap news) (h1 : (l, listOf vs n) ∈ news)
    (h2 : (b, listOf #[.int 0 z0, .int 0 z1, .int 0 z2, .int 0 z3] k) ∈ news) (D : Digs a vs)
    (h : ∀ l' h' ws t0 t1 t2 t3, Fr h₀ L h' m → News h₀ L h' ((l', listOf ws 0) :: news) → (∀ p ∈ news, p.1 < l') → Four a ws t0 t1 t2 t3 → Q (.ref l') { s with heap := h' }) :
    wpAny (model prog w) A (binaryOp .Add (.ref l) (.ref b)) Q E s := by
  obtain ⟨hsz, hd⟩ := D
  obtain ⟨t0, t1, t2, t3, i0, i1, i2, i3⟩ := hd z0 z1 z2 z3
  refine add_arrays (its := vs) (its2 := #[.int 0 z0, .int 0 z1, .int 0 z2, .int 0 z3]) F N (News.isList N h1) (News.isList N h2) (fun h' F' N' => ?_) (by show vs.size + 4 ≤ 2 ^ 24; omega)
  have e : (vs.toList ++ (#[.int 0 z0, .int 0 z1, .int 0 z2, .int 0 z3] : Array Value).toList).toArray = vs ++ #[.int 0 z0, .int 0 z1, .int 0 z2, .int 0 z3] := by simp
  rw [e] at N'
  exact h _ h' _ t0 t1 t2 t3 F' N' (fun p hp => Heap.lt_size (N p hp).1) ⟨by rw [Array.size_append]; show vs.size + 4 ≤ 6; omega, i0, i1, i2, i3⟩
def dig (a : Int) (i : Nat) : Int := if i = 0 then a % 2 else if i = 1 then a / 2 else 0
theorem Four.get {a : Int} {ws : Array Value} {t0 t1 t2 t3 : Tok} (D : Four a ws t0 t1 t2 t3) {i : Nat} (hi : i < 4) : ∃ t, ws[i]? = some (.int (dig a i) t) := by
  have hi4 : i = 0 ∨ i = 1 ∨ i = 2 ∨ i = 3 := by omega
  rcases hi4 with rfl | rfl | rfl | rfl
  · exact ⟨_, D.i0⟩
  · exact ⟨_, D.i1⟩
  · exact ⟨_, D.i2⟩
  · exact ⟨_, D.i3⟩
theorem item4 {value slice : PySem.Expr} {l : Addr} {n : Nat} {ws : Array Value} {a : Int} {t0 t1 t2 t3 u : Tok} {i : Nat} {Q : Value → Shared → Prop} (hi : i < 4) (N : News h₀ L s.heap news) (hm : (l, listOf ws n) ∈ news)
    (D : Four a ws t0 t1 t2 t3) (h : ∀ t, Q (.int (dig a i) t) s)
    (hs : subscripted slice false (.ref l) (.int (i : Int) u) = operate [.ref l, .int (i : Int) u] (getItem (.ref l) (.int (i : Int) u)) := by with_unfolding_all rfl) :
    wpAny (model prog w) A (subscriptTail value slice (.ref l) (.int (i : Int) u)) Q E s := by
  obtain ⟨t, ht⟩ := D.get hi
  have hl := News.isList N hm
  exact tail_any hl.typeIs slot_list_getitem.lookup (wpAny_getItem_list hl (by omega) (by omega) (by simpa using ht) (h t)) hs
end
end
section
theorem linesC5 : True := by
  w_top off
  (k_with "mine 1" => k_here; k_dflt (refine' Con.use (c_i2d _ _ ?zA _ _ _ _ ?zI) ?zB ?zF ?zX ?zT ?zK ?z1 ?z2 ?zN ?zS ?zR ?zU ?_; (case zB => k_asm); (case zF => k_asm); (case zX => k_asm); (case zT => k_asm); (case zK => exact rfl); (case z1 => k_asm); (case z2 => k_asm); (case zN => k_asm); (case zA => assumption); (case zI => assumption); (case zS => (refine' sub2 ?y1 ?y2; (case y1 => k_mem); (case y2 => k_mem))); (case zR => ktr_room); (case zU => ktr_units)))
  (k_with "mine 2" => k_here; k_dflt (refine' add_digs ?k1 ?k2 ?k3 ?k4 ?k5 ?_; (case k1 => k_asm); (case k2 => k_asm); (case k3 => k_mem); (case k4 => k_mem); (case k5 => assumption)))
  (k_with "mine 3" => k_here; k_dflt (refine' range1_N ?k1 ?k2 ?_; (case k1 => k_asm); (case k2 => k_asm)))
  (k_with "mine 4" => k_here; k_dflt (refine' item4 (i := _) ?y1 ?y2 ?y3 ?y4 ?_ ?y5; (case y2 => k_asm); (case y3 => k_mem); (case y4 => assumption); (case y1 => decide); (case y5 => with_unfolding_all rfl)); k_dflt (intro _))
  (k_with "mine 5" => k_here; k_dflt (refine' Con.use (c_d2i _ _ _ _ _ _ _ _ _ _ _ _ _ _ ?zI ?y0 ?y1 ?y2 ?y3) ?zB ?zF ?zX ?zT ?zK ?z1 ?z2 ?zN ?zS ?zR ?zU ?_; (case zB => k_asm); (case zF => k_asm); (case zX => k_asm); (case zT => k_asm); (case zK => exact rfl); (case z1 => k_asm); (case z2 => k_asm); (case zN => k_asm); (case zI => assumption); (case zS => (refine' sub3 ?y4 ?y5 ?y6; (case y4 => k_mem); (case y5 => k_mem); (case y6 => k_mem))); (case y0 => exact bits_01 _ _ _); (case y1 => exact bits_01 _ _ _); (case y2 => exact bits_01 _ _ _); (case y3 => exact bits_01 _ _ _); (case zR => ktr_room); (case zU => ktr_units)))
  exact trivial
set_option maxHeartbeats 8000000
set_option linter.unusedVariables false
local macro_rules | `(tactic| k_room) => `(tactic| ktr_room)
local macro_rules | `(tactic| k_all) => `(tactic| (refine Low.ne (by assumption) ?_; (try dsimp only); omega))
local macro_rules | `(tactic| k_mem) => `(tactic| assumption)
local macro_rules | `(tactic| walk_at "binaryOp Mult ref int") => `(tactic| (k_extra "mine 0"; intro l' h' F' N' l1; (try k_lt l1)))
local macro_rules | `(tactic| walk_at "call ref") => `(tactic| (k_extra "mine 1"; k_dflt (intro v' tl' h' tk' ho' hl' F' N'; obtain ⟨l', n', vs', hv', ht', hd'⟩ := ho'; subst hv' ht'; (have l1 := lt_of_one hl'); clear hl'; (try k_lt l1); (try simp only [List.cons_append, List.nil_append] at N'))))
local macro_rules | `(tactic| walk_at "binaryOp Add ref ref") => `(tactic| (k_extra "mine 2"; k_dflt (intro l' h' ws' u0 u1 u2 u3 F' N' l1 f4'; (try k_lt l1))))
local macro_rules | `(tactic| walk_at "call type:range") => `(tactic| (k_extra "mine 3"; k_dflt (intro r' h' u' v' F' N' l1; (try k_lt l1))))
local macro_rules | `(tactic| walk_at "subscriptTail Name Name ref int") => `(tactic| k_extra "mine 4")
def bitsOf (a b : Int) (i : Nat) : Int := if (dig a i != dig b i) = true then 1 else 0
theorem bits_01 (a b : Int) (i : Nat) : 0 ≤ bitsOf a b i ∧ bitsOf a b i ≤ 1 := by unfold bitsOf; split <;> decide
local macro_rules | `(tactic| walk_at "call ref") => `(tactic| (k_extra "mine 5"; k_dflt (intro v' tl' h' tk' ho' hl' F' N'; obtain ⟨ht', t', hv'⟩ := ho'; subst hv' ht'; clear hl'; (try simp only [List.cons_append, List.nil_append] at N'))))
theorem c_both (w : World) (a₀ b : Int) (ha : 0 ≤ a₀ ∧ a₀ ≤ 3) (hb : 0 ≤ b ∧ b ≤ 3) (c1 c2 : Nat) (oc1 oc2 : Obj) (ta tb : Tok) (I1 : Inner "_int2digits.<locals>.inner" c1 oc1) (I2 : Inner "_digits2int.<locals>.inner" c2 oc2) :
  Con w 14 51 [.int a₀ ta, .int b tb] [(16, tabObj #[rawInt 5, rawInt 4, .ref c1]), (c1, oc1), (23, tabObj #[rawInt 20, rawInt 4, .ref c2]), (c2, oc2)]
    (fun tl v => tl = [] ∧ ∃ t, v = .int (bitsOf a₀ b 0 + 2 * bitsOf a₀ b 1 + 4 * bitsOf a₀ b 2 + 8 * bitsOf a₀ b 3) t) := by
  intro p loose mean mg mb dp un gd cn cs a ccd cl outer A₀ base h₀ L m s Q E news hat room units ret
  obtain ⟨B, F, X, T, hk, H1, H2, N⟩ := hat
  have hc1 := I1.lt
  have hc2 := I2.lt
  simp only [List.cons_append, List.nil_append] at N
  revert X; k_fill; intro X
  refine wpAny_call ?_
  k_dflt (refine' code_defC ?k1 ?k2 ?k3 ?k4 ?k5 ?kA ?kF ?kK ?k6 ?k7 ?k8 ?k9 ?kB ?kD ?_ ?c2 ?c3 ?c4; (case kA => exact rfl); (case kF => exact rfl); (case kK => assumption); (case k1 => k_asm); (case k2 => k_asm); (case k3 => k_asm); (case k4 => k_asm); (case k5 => k_asm); (case k6 => k_is); (case k7 => k_is); (case k8 => ktr_room); (case k9 => exact BindsTo.of_eq rfl); (case kB => exact rfl); (case kD => decide +kernel); (case c2 => exact rfl); (case c3 => exact rfl); (case c4 => exact rfl); k_whole; intro g' L' h' tk' cells' FG' F' N' Y' B' X' T' l1; have O' := Low.mk (fun p hp => l1 p (.tail _ (.tail _ (.tail _ (.tail _ hp))))); (try k_lt l1); k_cells Y'; (try simp only [List.cons_append, List.nil_append] at N'); (try dsimp only); (try k_lift B'); (try k_fold))
  iterate 62 walk1
  k_fold
  k_dflt (refine wpAny_ListComp_free (fun _ => true) (fun v y => ∃ (i : Nat) (t u : Tok), v = .int (i : Int) t ∧ y = .int (bitsOf a₀ b i) u) (by with_unfolding_all rfl) (by decide) rfl (by decide) rfl ?_)
  k_steps
  k_dflt (refine' comp4_end (bit := bitsOf a₀ b) ?zh ?zF ?zN ?zm ?ze ?zq)
  case zh => exact rfl
  case zF => k_asm
  case zN => k_asm
  case zm => k_dflt k_mem
  case ze =>
    intro i hi C s₃ m₃ tk₃ E' F₃ N₃ hn₃ hm₃
    have hi4 : i = 0 ∨ i = 1 ∨ i = 2 ∨ i = 3 := by omega
    rcases hi4 with rfl | rfl | rfl | rfl <;> (k_steps; exact ⟨_, _, rfl, rfl⟩)
  case zq =>
    intro D h' tk t0 t1 t2 t3 n F' N'
    k_unfold
    k_steps
    refine' ret_none ret ?zF ?zN ?zs ?zo
    case zF => assumption
    case zN => assumption
    case zs => (intro p hp; simp only [List.nil_append, List.cons_append, List.mem_cons] at hp ⊢; rcases hp with h | h | h | h | h <;> simp [h])
    case zo => exact ⟨rfl, _, rfl⟩
end
section
theorem linesC6 : True := by
  w_top off
  (k_with "mine 6" => k_here; k_dflt (refine' nameC ?y1 ?y2 ?y3 ?y4 ?_ ?y5 ?y6 ?y7; (case y5 => rfl); (case y6 => rfl); (case y1 => k_asm); (case y3 => assumption); (case y2 => k_mem); (case y4 => assumption); (case y7 => decide); k_whole))
  (k_with "mine 7" => k_here; k_dflt (refine' newTup_N ?y1 ?y2 ?_ ?y3; (case y1 => k_asm); (case y2 => k_asm); (case y3 => exact Nat.le_of_ble_eq_true rfl)); k_dflt (intro _ _ _ _ _))
  exact trivial
set_option maxHeartbeats 8000000
set_option linter.unusedVariables false
local macro_rules | `(tactic| k_room) => `(tactic| ktr_room)
local macro_rules | `(tactic| k_all) => `(tactic| (refine Low.ne (by assumption) ?_; (try dsimp only); omega))
local macro_rules | `(tactic| k_mem) => `(tactic| assumption)
local macro_rules | `(tactic| walk_at "call type:range") => `(tactic| (k_extra "mine 3"; k_dflt (intro r' h' u' v' F' N' l1; (try k_lt l1))))
local macro_rules | `(tactic| walk_at "eval Name") => `(tactic| k_extra "mine 6")
local macro_rules | `(tactic| walk_at "newTuple") => `(tactic| k_extra "mine 7")
theorem c_left (w : World) (many : Int) (hm : 0 ≤ many ∧ many ≤ 4) (tm : Tok) :
  Con w 4 56 [.int many tm] [] (fun tl v => ∃ l n ys tl', v = .ref l ∧ tl = (l, listOf ys n) :: tl' ∧ TupsAre tl' ys.toList (leftOf many)) := by
  intro p loose mean mg mb dp un gd cn cs a ccd cl outer A₀ base h₀ L m s Q E news hat room units ret
  obtain ⟨B, F, X, T, hk, H1, H2, N⟩ := hat
  simp only [List.cons_append, List.nil_append] at N
  revert X; k_fill; intro X
  refine wpAny_call ?_
  k_dflt (refine' code_defC ?k1 ?k2 ?k3 ?k4 ?k5 ?kA ?kF ?kK ?k6 ?k7 ?k8 ?k9 ?kB ?kD ?_ ?c2 ?c3 ?c4; (case kA => exact rfl); (case kF => exact rfl); (case kK => assumption); (case k1 => k_asm); (case k2 => k_asm); (case k3 => k_asm); (case k4 => k_asm); (case k5 => k_asm); (case k6 => k_is); (case k7 => k_is); (case k8 => ktr_room); (case k9 => exact BindsTo.of_eq rfl); (case kB => exact rfl); (case kD => decide +kernel); (case c2 => exact rfl); (case c3 => exact rfl); (case c4 => exact rfl); k_whole; intro g' L' h' tk' cells' FG' F' N' Y' B' X' T' l1; have O' := Low.mk l1; clear l1; k_cells Y'; (try simp only [List.cons_append, List.nil_append] at N'); (try dsimp only); (try k_lift B'); (try k_fold))
  iterate 2 walk1
  k_fold
  k_dflt (refine ListComp_two F' (by with_unfolding_all rfl) (by decide) rfl (by decide) rfl ?_)
  k_steps
  rename News _ _ _ _ => NN
  rename Fr _ _ _ _ => FF
  rename Obj => oc1
  rename_i li hi l1x
  have hcell : (L' + 1, oc1) ∈ (li, listOf #[.int 1 tk', .int 2 (tk' + 1)] 0) :: (L' + 1, oc1) :: news := .tail _ (.head _)
  have hlist : (li, listOf #[.int 1 tk', .int 2 (tk' + 1)] 0) ∈ (li, listOf #[.int 1 tk', .int 2 (tk' + 1)] 0) :: (L' + 1, oc1) :: news := .head _
  have hnews : ∀ q ∈ news, q ∈ (li, listOf #[.int 1 tk', .int 2 (tk' + 1)] 0) :: (L' + 1, oc1) :: news := fun q hq => .tail _ (.tail _ hq)
  have NN : News g' L' hi ((li, listOf #[.int 1 tk', .int 2 (tk' + 1)] 0) :: (L' + 1, oc1) :: news) := NN
  generalize (li, listOf #[.int 1 tk', .int 2 (tk' + 1)] 0) :: (L' + 1, oc1) :: news = nb at NN hcell hlist hnews
  refine iter_list rfl FF NN hlist ?_
  intro I h₂ St Z
  refine compAt2_of Z (fun _ => listOf #[.int 1 tk', .int 2 (tk' + 1)] 0) (fun i mC ys led => ∃ tl, led = tl ++ nb ∧ TupsAre tl ys.toList (outs many i) ∧ Gt nb tl) ?hfp ?h0 ?step ?done
  case hfp =>
    rintro b hb hbI i mC ys led ⟨tl, rfl, _, _⟩
    rcases List.mem_cons.mp hb with rfl | hb
    · exact absurd rfl hbI
    · rw [List.mem_singleton.mp hb]; exact List.mem_append_right _ hlist
  case h0 => exact ⟨[], rfl, .nil, .nil⟩
  case step =>
    rintro C D i v mC oC ys n led h₁ tk₁ oI E' hiN hP ⟨tl, rfl, hT, hG⟩ hoff hO F₁ N₁
    have hi2 : i < 2 := hiN
    have hv : ∃ t, v = .int ((i : Int) + 1) t := by
      have h2 : i = 0 ∨ i = 1 := by omega
      rcases h2 with rfl | rfl
      · exact ⟨_, (Option.some.inj hP).symm⟩
      · exact ⟨_, (Option.some.inj hP).symm⟩
    obtain ⟨ts, rfl⟩ := hv
    have hcell' : (L' + 1, oc1) ∈ tl ++ nb := List.mem_append_right _ hcell
    obtain ⟨mC', hmC⟩ : ∃ m', m' = (fun z => if z = Str.ofString "size" then some (Value.int ((i : Int) + 1) ts) else mC z) := ⟨_, rfl⟩
    have hms : mC' (Str.ofString "size") = some (.int ((i : Int) + 1) ts) := by rw [hmC]; simp
    rw [← hmC] at hO
    clear hmC
    show wpAny _ _ _ _ _ _
    k_steps
    dsimp only
    rename News _ _ _ _ => N3
    rename Fr _ _ _ _ => F3
    rename_i r h3 u3 v3 l3
    refine iter_range (by omega) rfl F3 N3 (.head _) ?_
    intro I2 h4 St2 Z2
    have hne : ∀ p ∈ tl ++ nb, p ∈ (r, rangeOf (many - ((i : Int) + 1) + 1) u3 (tk₁ + 1) v3) :: (C, oC) :: (I, oI) :: (D, listOf ys n) :: (tl ++ nb) := fun p hp => .tail _ (.tail _ (.tail _ (.tail _ hp)))
    have hI2C : C ≠ I2 := Z2.nI _ (.tail _ (.head _))
    have hI2I : I ≠ I2 := Z2.nI _ (.tail _ (.tail _ (.head _)))
    have hI2D : D ≠ I2 := Z2.nI _ (.tail _ (.tail _ (.tail _ (.head _))))
    refine start_go (fun Q E q => Z2.W.self 0 _ Q E Z2.st q) ?_
    refine comp_own (ys₀ := ys) (n₀ := n) (news := (I, oI) :: (tl ++ nb)) loopRule_in Z2.W (fun _ => oI) (fun j mC2 ys2 led2 => mC2 (Str.ofString "size") = some (.int ((i : Int) + 1) ts) ∧ ∃ tl2, led2 = tl2 ++ ((I, oI) :: (tl ++ nb)) ∧ TupsAre (tl2 ++ tl) ys2.toList (outs many i ++ (List.range j).map fun k : Nat => [(k : Int), many - ((i : Int) + 1) - (k : Int)]) ∧ Gt nb tl2 ∧ ∀ q ∈ tl2, q.1 ≠ I) rfl rfl Z2.hIs Z2.hLI Z2.hI0 ?hfp ?hfC ?hsz Z2.st Z2.F ?zN hO ?hoff ?h0 ?step2 ?done2
    case hfp => rintro j mC2 ys2 led2 h₁ _ _ _ b hb hbI; exact absurd (List.mem_singleton.mp hb) hbI
    case hfC => intro b hb hbI; exact absurd (List.mem_singleton.mp hb) hbI
    case hsz =>
      have e1 := hT.length
      have e2 := outs_len hm i
      rw [Array.length_toList] at e1
      have e3 : sizeLine = 2 ^ 24 := rfl
      omega
    case zN =>
      intro p hp
      rcases List.mem_cons.mp hp with rfl | hp
      · exact Z2.N _ (.tail _ (.head _))
      rcases List.mem_cons.mp hp with rfl | hp
      · exact Z2.N _ (.tail _ (.tail _ (.tail _ (.head _))))
      rcases List.mem_cons.mp hp with rfl | hp
      · exact Z2.N _ (.tail _ (.tail _ (.head _)))
      · exact Z2.N _ (.tail _ (.tail _ (.tail _ (.tail _ hp))))
    case hoff =>
      refine .mk' hI2C hI2D hoff.cd fun q hq => ⟨?_, ?_, ?_⟩
      · exact Z2.nI q (.tail _ (.tail _ (by rcases List.mem_cons.mp hq with rfl | hq; exact .head _; exact .tail _ (.tail _ hq))))
      · rcases List.mem_cons.mp hq with rfl | hq
        · exact Ne.symm hoff.ci
        · exact hoff.c q hq
      · rcases List.mem_cons.mp hq with rfl | hq
        · exact Ne.symm hoff.di
        · exact hoff.d q hq
    case h0 => exact ⟨hms, [], rfl, by simpa using hT, .nil, fun _ h => nomatch h⟩
    case step2 =>
      rintro j v mC2 oC2 ys2 n2 led2 h₅ tk₅ oI2 hjN ⟨t5, rfl⟩ ⟨hs2, tl2, rfl, hT2, hG2, hI2⟩ hoff2 hO2 F₅ N₅
      refine wpAny_pure ?_
      simp only [if_true]
      obtain ⟨mC3, hmC3⟩ : ∃ m', m' = (fun z => if z = Str.ofString "k" then some (Value.int (j : Int) t5) else mC2 z) := ⟨_, rfl⟩
      have hk3 : mC3 (Str.ofString "k") = some (.int (j : Int) t5) := by rw [hmC3]; simp
      have hs3 : mC3 (Str.ofString "size") = some (.int ((i : Int) + 1) ts) := by rw [hmC3]; simp only [show (Str.ofString "size" = Str.ofString "k") = False by simp [Str.ofString]; decide, if_false]; exact hs2
      rw [← hmC3] at hO2
      clear hmC3
      have hcell2 : (L' + 1, oc1) ∈ tl2 ++ ((I, oI) :: (tl ++ nb)) := List.mem_append_right _ (.tail _ hcell')
      show wpAny _ _ _ _ _ _
      k_steps
      dsimp only
      rename News _ _ _ _ => N6
      rename Fr _ _ _ _ => F6
      rename_i T6 h6 l6
      have hnb : ∀ q ∈ nb, q ∈ (C, oC2) :: (I2, oI2) :: (D, listOf ys2 n2) :: (tl2 ++ ((I, oI) :: (tl ++ nb))) := fun q hq => .tail _ (.tail _ (.tail _ (List.mem_append_right _ (.tail _ (List.mem_append_right _ hq)))))
      have hTC : T6 ≠ C := Nat.ne_of_gt (l6 _ (.head _))
      have hTI2 : T6 ≠ I2 := Nat.ne_of_gt (l6 _ (.tail _ (.head _)))
      have hTD : T6 ≠ D := Nat.ne_of_gt (l6 _ (.tail _ (.tail _ (.head _))))
      have hTI : T6 ≠ I := Nat.ne_of_gt (l6 _ (.tail _ (.tail _ (.tail _ (List.mem_append_right _ (.head _))))))
      refine ⟨h6, _, oC2, mC3, ((T6, tupOf #[.int (j : Int) t5, .int (many - ((i : Int) + 1) - (j : Int)) (tk₅ + 1)]) :: tl2) ++ ((I, oI) :: (tl ++ nb)), rfl, F6, ?_, hO2, ?_, hs3, _, rfl, ?_, ?_, ?_⟩
      · intro p hp
        rcases List.mem_cons.mp hp with rfl | hp
        · exact N6 _ (.tail _ (.head _))
        rcases List.mem_cons.mp hp with rfl | hp
        · exact N6 _ (.tail _ (.tail _ (.head _)))
        rcases List.mem_cons.mp hp with rfl | hp
        · exact N6 _ (.tail _ (.tail _ (.tail _ (.head _))))
        rcases List.mem_cons.mp hp with rfl | hp
        · exact N6 _ (.head _)
        · exact N6 _ (.tail _ (.tail _ (.tail _ (.tail _ hp))))
      · refine .mk' hoff2.ci hoff2.di hoff2.cd fun q hq => ?_
        rcases List.mem_cons.mp hq with rfl | hq
        · exact ⟨hTI2, hTC, hTD⟩
        · exact ⟨hoff2.i q hq, hoff2.c q hq, hoff2.d q hq⟩
      · rw [Array.toList_push, szOf_succ, ← List.append_assoc]
        exact (hT2.mono fun q hq => .tail _ hq).snoc (.head _) (.cons _ _ (.cons _ _ .nil))
      · exact hG2.cons fun q hq => l6 q (hnb q hq)
      · intro q hq
        rcases List.mem_cons.mp hq with rfl | hq
        · exact hTI
        · exact hI2 q hq
    case done2 =>
      rintro h7 tk7 oC7 mC7 ys7 n7 led7 F7 N7 hO7 hoff7 ⟨hs7, tl7, rfl, hT7, hG7, hI7⟩
      refine ⟨h7, tk7, oC7, mC7, ys7, n7, tl7 ++ (tl ++ nb), rfl, rfl, F7, ?_, hO7, ?_, tl7 ++ tl, (List.append_assoc _ _ _).symm, ?_, ?_⟩
      · intro p hp
        rcases List.mem_cons.mp hp with rfl | hp
        · exact N7 _ (.head _)
        rcases List.mem_cons.mp hp with rfl | hp
        · exact N7 _ (.tail _ (.tail _ (List.mem_append_right _ (.head _))))
        rcases List.mem_cons.mp hp with rfl | hp
        · exact N7 _ (.tail _ (.head _))
        rcases List.mem_append.mp hp with hp | hp
        · exact N7 _ (.tail _ (.tail _ (List.mem_append_left _ hp)))
        · exact N7 _ (.tail _ (.tail _ (List.mem_append_right _ (.tail _ hp))))
      · refine .mk' hoff.ci hoff.di hoff.cd fun q hq => ?_
        rcases List.mem_append.mp hq with hq | hq
        · exact ⟨hI7 q hq, hoff7.c q (List.mem_append_left _ hq), hoff7.d q (List.mem_append_left _ hq)⟩
        · exact ⟨hoff.i q hq, hoff.c q hq, hoff.d q hq⟩
      · rw [outs_succ many hi2] at hT7; exact hT7
      · intro q hq r hr
        rcases List.mem_append.mp hr with hr | hr
        · exact hG7 q hq r hr
        · exact hG q hq r hr
  case done =>
    rintro D h8 tk8 mC8 ys8 n8 led8 hlt hne F8 N8 ⟨tl8, rfl, hT8, hG8⟩
    k_unfold
    k_steps
    rename News _ _ _ _ => N9
    rename Fr h₀ L _ _ => F9
    refine ret _ ((D, listOf ys8 n8) :: tl8) _ _ ⟨D, n8, ys8, tl8, rfl, rfl, hT8⟩ ?_ F9 (fun q hq => N9 q ?_)
    · intro q hq r hr
      have hq' := hnews q (by simpa using hq)
      rcases List.mem_cons.mp hr with rfl | hr
      · exact hlt q hq'
      · exact hG8 q hq' r hr
    · rcases List.mem_cons.mp hq with rfl | hq
      · exact .head _
      rcases List.mem_append.mp hq with hq | hq
      · exact .tail _ (List.mem_append_left _ hq)
      · exact .tail _ (List.mem_append_right _ (hnews q (by simpa using hq)))
end
section
theorem linesC7 : True := by
  w_top off
  (k_with "mine 8" => k_here; k_dflt (refine' range1_N ?k1 ?k2 ?_; (case k1 => k_asm); (case k2 => k_asm)); k_dflt (intro _ _ _ _ _ _ _))
  (k_with "mine 9" => k_here; k_dflt (refine' For_own ?y1 ?_ ?y2 ?y3; (case y1 => k_asm); (case y2 => (intro _; rfl)); (case y3 => passes_own)))
  (k_with "mine 10" => k_here; k_dflt (refine' len_tup_N ?y1 ?y2 ?y3 ?y4 ?_; (case y1 => k_asm); (case y2 => k_mem); (case y3 => assumption); (case y4 => assumption)))
  (k_with "mine 11" => k_here; k_dflt (refine' ld ?k1 ?k2 ?_; (case k1 => k_asm); (case k2 => (first | assumption | exact nm_hit | exact nm_miss (by decide) (by assumption) | exact nm_miss (by decide) nm_hit | exact nm_miss (by decide) (nm_miss (by decide) (by assumption)) | exact nm_miss (by decide) (nm_miss (by decide) nm_hit))); k_whole))
  (k_with "mine 12" => k_here; k_dflt (refine' item_tup_N ?y1 ?y2 ?y3 ?y4 ?y5 ?y6 ?y7 ?_; (case y1 => k_asm); (case y2 => k_mem); (case y3 => assumption); (case y4 => assumption); (case y5 => with_unfolding_all rfl); (case y6 => (intro _; with_unfolding_all rfl)); (case y7 => assumption)); k_dflt (intro _))
  (k_with "mine 13" => k_here; k_dflt (refine' Con.use (c_left _ _ ?zA _) ?zB ?zF ?zX ?zT ?zK ?z1 ?z2 ?zN ?zS ?zR ?zU ?_; (case zB => k_asm); (case zF => k_asm); (case zX => k_asm); (case zT => k_asm); (case zK => exact rfl); (case z1 => k_asm); (case z2 => k_asm); (case zN => k_asm); (case zA => assumption); (case zS => exact fun _ h => nomatch h); (case zR => ktr_room); (case zU => ktr_units)))
  (k_with "mine 14" => k_here; k_dflt (refine' ListComp_own ?y1 ?y2 ?y3 ?y4 ?y5 ?y6 ?_ ?y7; (case y1 => k_asm); (case y2 => with_unfolding_all rfl); (case y3 => decide); (case y4 => rfl); (case y5 => decide); (case y6 => rfl); (case y7 => (intro _; rfl))))
  (k_with "mine 15" => k_here; k_dflt (refine' tup_upto ?y1 ?y2 ?y3 ?y4 ?y5 ?y6 ?y7 ?y8 ?_; (case y1 => k_asm); (case y2 => k_asm); (case y3 => k_mem); (case y4 => exact rfl); (case y5 => (rw [List.size_toArray]; omega)); (case y6 => (rw [List.size_toArray]; omega)); (case y7 => with_unfolding_all rfl); (case y8 => (intro _; with_unfolding_all rfl))); k_dflt (intro _ _ _ _ _))
  (k_with "mine 16" => k_here; k_dflt (refine' tup_from ?y1 ?y2 ?y3 ?y4 ?y9 ?y5 ?y6 ?y7 ?y8 ?_; (case y1 => k_asm); (case y2 => k_asm); (case y3 => k_mem); (case y4 => exact (Int.natCast_succ _).symm); (case y9 => exact Nat.succ_le_succ (Nat.zero_le _)); (case y5 => (rw [List.size_toArray]; omega)); (case y6 => (rw [List.size_toArray]; omega)); (case y7 => with_unfolding_all rfl); (case y8 => (intro _; with_unfolding_all rfl))); k_dflt (intro _ _ _ _ _))
  (k_with "mine 17" => k_here; k_dflt (refine' tup_add_N ?y1 ?y2 ?y3 ?y4 ?y5 ?_; (case y1 => k_asm); (case y2 => k_asm); (case y3 => k_mem); (case y4 => k_mem); (case y5 => (simp only [List.length_append, List.length_take, List.length_drop, List.length_cons, List.length_nil]; omega))); k_dflt (intro _ _ _ _))
  (k_with "mine 18" => k_here; k_dflt (refine' sorted_N' ?y1 ?y2 ?y3 ?y4 ?y5 ?_; (case y1 => k_asm); (case y2 => k_asm); (case y3 => k_mem); (case y4 => assumption); (case y5 => assumption)); k_dflt (intro _ _ _ _ _ _ _ _))
  (k_with "mine 19" => k_here; k_dflt (refine' tuple_N ?y1 ?y2 ?y3 ?y4 ?_; (case y1 => k_asm); (case y2 => k_asm); (case y3 => k_mem); (case y4 => assumption)); k_dflt (intro _ _ _ _ _))
  (k_with "mine 20" => k_here; k_dflt (refine' append_N ?y1 ?y2 ?y3 ?y4 ?_; (case y1 => k_asm); (case y2 => k_asm); (case y3 => k_mem); (case y4 => assumption)); k_dflt (intro _ _ _))
  exact trivial
set_option maxHeartbeats 8000000
set_option linter.unusedVariables false
local macro_rules | `(tactic| k_room) => `(tactic| ktr_room)
local macro_rules | `(tactic| k_all) => `(tactic| (refine Low.ne (by assumption) ?_; (try dsimp only); omega))
local macro_rules | `(tactic| k_mem) => `(tactic| assumption)
local macro_rules | `(tactic| walk_at "call type:range") => `(tactic| k_extra "mine 8")
local macro_rules | `(tactic| walk_at "newTuple") => `(tactic| k_extra "mine 7")
local macro_rules | `(tactic| walk_at "exec For") => `(tactic| k_extra "mine 9")
local macro_rules | `(tactic| walk_at "exec For Name Call cons nil") => `(tactic| k_extra "mine 9")
local macro_rules | `(tactic| walk_at "exec For Tuple Call cons nil") => `(tactic| k_extra "mine 9")
local macro_rules | `(tactic| walk_at "call builtin:len") => `(tactic| k_extra "mine 10")
local macro_rules | `(tactic| walk_at "eval Name") => `(tactic| k_extra "mine 11")
local macro_rules | `(tactic| walk_at "subscriptTail Name Name ref int") => `(tactic| k_extra "mine 12")
local macro_rules | `(tactic| walk_at "call ref") => `(tactic| (k_extra "mine 13"; k_dflt (intro v' tl' h' tk' ho' hl' F' N'; obtain ⟨l', n', ys', tl1', hv', ht', hd'⟩ := ho'; subst hv' ht'; (try simp only [List.cons_append, List.nil_append] at N'))))
local macro_rules | `(tactic| walk_at "eval ListComp") => `(tactic| k_extra "mine 14")
local macro_rules | `(tactic| walk_at "subscriptTail Name Slice ref ref") => `(tactic| k_extra "mine 15")
local macro_rules | `(tactic| walk_at "subscriptTail Name Slice ref ref") => `(tactic| k_extra "mine 16")
local macro_rules | `(tactic| walk_at "binaryOp Add ref ref") => `(tactic| k_extra "mine 17")
local macro_rules | `(tactic| walk_at "eval Name") => `(tactic| k_extra "mine 6")
local macro_rules | `(tactic| walk_at "call builtin:sorted") => `(tactic| k_extra "mine 18")
local macro_rules | `(tactic| walk_at "call type:tuple") => `(tactic| k_extra "mine 19")
local macro_rules | `(tactic| walk_at "call builtin:list.append") => `(tactic| k_extra "mine 20")
theorem c_next (w : World) (t : Addr) (vs : List Value) (xs : List Int) (hi : IntsAre vs xs) (hlen : xs.length ≤ 12) (hr : ∀ x ∈ xs, 0 ≤ x ∧ x ≤ 4) :
  Con w 8 68 [.ref t] [(t, tupOf vs.toArray)] (fun tl v => ∃ l n ys tl', v = .ref l ∧ tl = (l, listOf ys n) :: tl' ∧ TupsAre tl' ys.toList (moves xs)) := by
  intro p loose mean mg mb dp un gd cn cs a ccd cl outer A₀ base h₀ L m s Q E news hat room units ret
  obtain ⟨B, F, X, T, hk, H1, H2, N⟩ := hat
  simp only [List.cons_append, List.nil_append] at N
  have h100 : xs.length ≤ 100 := by omega
  revert X; k_fill; intro X
  refine wpAny_call ?_
  k_dflt cell_enter
  k_steps
  rename News _ _ _ _ => NN
  rename Fr _ _ _ _ => FF
  rename_i g' L' hz FG' B' X' T' tkz l0 hA l0lt hB FB NB r hC u1 v1 rlt
  have hl0 : ∀ q ∈ (t, tupOf vs.toArray) :: news, @LT.lt Nat _ q.1 l0 := fun q hq => by
    rcases List.mem_cons.mp hq with rfl | hq
    · exact l0lt.1
    · exact all_of_allLt _ l0lt.2 q hq
  have htn : (t, tupOf vs.toArray) ∈ (t, tupOf vs.toArray) :: news := .head _
  have hnews : ∀ q ∈ (t, tupOf vs.toArray) :: news, q ∈ (t, tupOf vs.toArray) :: news := fun q hq => hq
  clear rlt l0lt NB N
  generalize hnb : (t, tupOf vs.toArray) :: news = nb at NN hl0 htn
  have hnews : ∀ q ∈ (t, tupOf vs.toArray) :: news, q ∈ nb := fun q hq => hnb ▸ hq
  refine iter_range (by omega) rfl FF NN (.head _) ?_
  intro I h₂ St Z
  obtain ⟨J1x, hJ1x⟩ : ∃ J : Nat → (Str → Option Value) → Led → Prop, J = (fun i m₁ led => m₁ (Str.ofString "rows") = some (.ref t) ∧ m₁ (Str.ofString "found") = some (.ref l0) ∧
    ∃ items ne tl, led = (l0, listOf items ne) :: (tl ++ nb) ∧ TupsAre tl items.toList (movesTo xs i) ∧ Gt nb tl ∧ ∀ q ∈ tl, q.1 ≠ l0) := ⟨_, rfl⟩
  refine forAt_of (Z.sub (news' := (l0, listOf #[] 0) :: nb) fun p hp => .tail _ hp) (fun _ => listOf #[] 0) J1x ?hfp ?h0 ?step ?done
  case hfp => intro b hb hbI; exact absurd (List.mem_singleton.mp hb) hbI
  case h0 => rw [hJ1x]; exact ⟨rfl, rfl, #[], 0, [], rfl, .nil, .nil, fun _ h => nomatch h⟩
  case step =>
    rintro i v m₁ led h₁ tk₁ oI hiN ⟨tv, rfl⟩ hj hnI F₁ N₁
    refine turn_gen ?_
    intro QT1 hQT1
    rw [hJ1x] at hj
    obtain ⟨hrows, hfound, items, ne, tl, rfl, hT, hG, hl⟩ := hj
    have hi' : i < xs.length := by omega
    have hx4 : 0 ≤ xs.getD i 0 ∧ xs.getD i 0 ≤ 4 := by
      rw [show xs.getD i 0 = xs[i] by simp [hi']]
      exact hr _ (List.getElem_mem hi')
    have htn' : (t, tupOf vs.toArray) ∈ tl ++ nb := List.mem_append_right _ htn
    show wpAny _ _ _ _ _ _
    k_steps
    rename News _ _ _ _ => N3
    rename Fr _ _ _ _ => F3
    rename_i hx1 Fx Nx tx hx2 tkx lv nv yv tlv hTv hlv
    refine iter_list rfl F3 N3 (.head _) ?_
    intro I2 h4 St2 Z2
    have hvs : vs.length = xs.length := hi.length
    obtain ⟨J2x, hJ2x⟩ : ∃ J : Nat → (Str → Option Value) → Led → Prop, J = (fun j m₂ led2 => m₂ (Str.ofString "rows") = some (.ref t) ∧ m₂ (Str.ofString "found") = some (.ref l0) ∧ m₂ (Str.ofString "k") = some (.int (i : Int) tv) ∧
      ∃ items2 ne2 tl2, led2 = (l0, listOf items2 ne2) :: (tl2 ++ ((lv, listOf yv nv) :: (tlv ++ ((I, oI) :: (tl ++ nb))))) ∧ TupsAre (tl2 ++ tl) items2.toList (movesTo xs i ++ ((leftOf (xs.getD i 0)).take j).map (mv xs i)) ∧ Gt nb tl2 ∧ ∀ q ∈ tl2, q.1 ≠ l0 ∧ q.1 ≠ I) := ⟨_, rfl⟩
    refine forAt_of (Z2.sub (news' := (l0, listOf items ne) :: ([] ++ ((lv, listOf yv nv) :: (tlv ++ ((I, oI) :: (tl ++ nb)))))) ?hsub) (fun _ => listOf yv nv) J2x ?hfp2 ?h02 ?step2 ?done2
    case hsub =>
      intro q hq
      simp only [List.mem_cons, List.mem_append, List.not_mem_nil, false_or] at hq ⊢
      rcases hq with h | h | h | h | h | h <;> simp [h]
    case hfp2 =>
      intro b hb hbI j m₂ led2 hj
      rw [hJ2x] at hj
      obtain ⟨_, _, _, items2, ne2, tl2, rfl, _⟩ := hj
      rcases List.mem_cons.mp hb with rfl | hb
      · exact absurd rfl hbI
      · rw [List.mem_singleton.mp hb]; exact .tail _ (List.mem_append_right _ (.head _))
    case h02 => rw [hJ2x]; exact ⟨nm_miss (by decide) hrows, nm_miss (by decide) hfound, nm_hit, items, ne, [], rfl, by simpa using hT, .nil, fun _ h => nomatch h⟩
    case step2 =>
      intro j v m₂ led2 h₅ tk₅ oI2 hjN hP hj hnI2 F₅ N₅
      refine turn_gen ?_
      intro QT2 hQT2
      rw [hJ2x] at hj
      obtain ⟨hr2, hf2, hk2, items2, ne2, tl2, rfl, hT2, hG2, hl2⟩ := hj
      have hjl : j < (leftOf (xs.getD i 0)).length := by rw [← hTv.length, Array.length_toList]; exact hjN
      obtain ⟨T, vs2, hg2, hm2, hI2⟩ := hTv.get j hjl
      obtain ⟨pp, qq, hpq⟩ := leftOf_pair _ (List.getElem_mem hjl)
      rw [hpq] at hI2
      obtain ⟨ta, tb, rfl⟩ := intsAre_two hI2
      have hv : v = .ref T := by
        rw [Array.getElem?_toList, hP] at hg2
        exact Option.some.inj hg2
      subst hv
      have hm5 : (T, tupOf [Value.int pp ta, Value.int qq tb].toArray) ∈ tl2 ++ ((lv, listOf yv nv) :: (tlv ++ ((I, oI) :: (tl ++ nb)))) := List.mem_append_right _ (.tail _ (List.mem_append_left _ hm2))
      have htn5 : (t, tupOf vs.toArray) ∈ tl2 ++ ((lv, listOf yv nv) :: (tlv ++ ((I, oI) :: (tl ++ nb)))) := List.mem_append_right _ (.tail _ (List.mem_append_right _ (.tail _ (List.mem_append_right _ htn))))
      show wpAny _ _ _ _ _ _
      k_steps
      rename News _ _ _ _ => N6
      rename Fr _ _ _ _ => F6
      have hI3 := ((intsAre_take hi i).append (.cons pp ta (.cons qq tb .nil))).append (intsAre_drop hi (i + 1))
      refine iter_tup rfl F6 N6 (.head _) ?_
      intro I3 h6 St3 Z3
      refine compAt_same Z3 ?hsz3 (fun _ => tupOf (List.take i vs ++ [Value.int pp ta, Value.int qq tb] ++ List.drop (i + 1) vs).toArray) ?hfp3 (fun k ys => IntsAre ys.toList (((((xs.take i ++ [pp, qq]) ++ xs.drop (i + 1)).take k).filter fun x => decide (x > 0)).map id)) .nil ?step3 ?done3
      case hsz3 =>
        have e3 : sizeLine = 2 ^ 24 := rfl
        simp only [List.size_toArray, List.length_append, List.length_take, List.length_drop, List.length_cons, List.length_nil]
        omega
      case hfp3 =>
        intro b hb hbI
        rcases List.mem_cons.mp hb with rfl | hb
        · exact absurd rfl hbI
        · rw [List.mem_singleton.mp hb]; exact .head _
      case step3 =>
        rintro C D k v mC oC ys n h₇ tk₇ oI3 E' hkN hP3 hJ3 hx3 hO3 F₇ N₇
        obtain ⟨t3, rfl, hyes, hno⟩ := filt_step (f := fun x => decide (x > 0)) (g := id) hI3 (by simpa using hP3)
        generalize ((xs.take i ++ [pp, qq]) ++ xs.drop (i + 1)).getD k 0 = row at hx3 hyes hno
        show wpAny _ _ _ _ _ _
        k_steps
        · exact ⟨⟨_, rfl⟩, hyes _ _ (decide_eq_true (by assumption)) hJ3⟩
        · exact ⟨⟨_, rfl⟩, hno _ (decide_eq_false (by assumption)) hJ3⟩
      case done3 =>
        rintro D3 h8 tk8 ⟨ys3⟩ n3 hlt3 F8 N8 hJ3
        have hl3 := hI3.length
        rw [List.size_toArray, hl3, List.take_length, List.map_id] at hJ3
        have h64 : ((xs.take i ++ [pp, qq] ++ xs.drop (i + 1)).filter fun x => decide (x > 0)).length < 64 := by
          refine Nat.lt_of_le_of_lt (List.length_filter_le _ _) ?_
          simp only [List.length_append, List.length_take, List.length_drop, List.length_cons, List.length_nil]
          omega
        have hzi : items2.size ≤ sizeLine := by
          have e1 := hT2.length
          have e2 := movesTo_len hr i
          have e3 := leftOf_len hx4
          have e4 : sizeLine = 2 ^ 24 := rfl
          simp only [Array.length_toList, List.length_append, List.length_map, List.length_take] at e1
          omega
        k_steps
        dsimp only
        rename Fr _ _ _ _ => F9
        rename ∀ led : Led, _ → News _ _ _ _ => HN
        rename_i Ds vs9 cs9 hs9 Fs Ns hI9 hz9 T9 h10 F10 N10 l10 h11
        have hR : ∀ p ∈ (lv, listOf yv nv) :: (tlv ++ ((I, oI) :: (tl ++ nb))), p.1 ≠ l0 := fun p hp => by
          have hlt0 : ∀ r ∈ (lv, listOf yv nv) :: tlv, @LT.lt Nat _ l0 r.1 := fun r hr => hlv (l0, listOf items ne) (by simp) r hr
          rcases List.mem_cons.mp hp with rfl | hp
          · exact Nat.ne_of_gt (hlt0 _ (.head _))
          rcases List.mem_append.mp hp with hp | hp
          · exact Nat.ne_of_gt (hlt0 _ (.tail _ hp))
          rcases List.mem_cons.mp hp with rfl | hp
          · exact Ne.symm (hnI _ (.head _))
          rcases List.mem_append.mp hp with hp | hp
          · exact hl p hp
          · exact Nat.ne_of_lt (hl0 p hp)
        have hlt9 : ∀ p ∈ (I2, oI2) :: (l0, listOf items2 ne2) :: (tl2 ++ ((lv, listOf yv nv) :: (tlv ++ ((I, oI) :: (tl ++ nb))))), @LT.lt Nat _ p.1 T9 := fun p hp => l10 p (by repeat (first | exact hp | refine List.Mem.tail _ ?_))
        have hsub : ∀ led : Led, (∀ p ∈ led, p ∈ (T9, tupOf vs9.toArray) :: (I2, oI2) :: (l0, listOf items2 ne2) :: (tl2 ++ ((lv, listOf yv nv) :: (tlv ++ ((I, oI) :: (tl ++ nb))))) ∧ p.1 ≠ l0) → News g' L' h11 ((l0, listOf (items2.push (.ref T9)) (ne2 + 1)) :: led) := fun led hled => HN led fun p hp => by
          obtain ⟨a, b⟩ := hled p hp
          refine ⟨?_, b⟩
          rcases List.mem_cons.mp a with rfl | a
          · exact .head _
          · repeat (first | exact a | refine List.Mem.tail _ ?_)
        have hnbR : ∀ q ∈ nb, q ∈ (lv, listOf yv nv) :: (tlv ++ ((I, oI) :: (tl ++ nb))) := fun q hq => .tail _ (List.mem_append_right _ (.tail _ (List.mem_append_right _ hq)))
        have hIR : (I, oI) ∈ (lv, listOf yv nv) :: (tlv ++ ((I, oI) :: (tl ++ nb))) := .tail _ (List.mem_append_right _ (.head _))
        clear HN l10
        generalize (lv, listOf yv nv) :: (tlv ++ ((I, oI) :: (tl ++ nb))) = rest at hR hlt9 hsub hnI2 hnbR hIR hJ2x
        have hTI2 : T9 ≠ I2 := Nat.ne_of_gt (hlt9 _ (.head _))
        have hTl : T9 ≠ l0 := Nat.ne_of_gt (hlt9 _ (.tail _ (.head _)))
        have hTI : T9 ≠ I := Nat.ne_of_gt (hlt9 _ (.tail _ (.tail _ (List.mem_append_right _ hIR))))
        have hIl : I2 ≠ l0 := Ne.symm (hnI2 _ (.head _))
        have NF := hsub ((I2, oI2) :: (((T9, tupOf vs9.toArray) :: tl2) ++ rest)) fun p hp => by
          rcases List.mem_cons.mp hp with rfl | hp
          · exact ⟨.tail _ (.head _), hIl⟩
          rcases List.mem_cons.mp hp with rfl | hp
          · exact ⟨.head _, hTl⟩
          refine ⟨.tail _ (.tail _ (.tail _ hp)), ?_⟩
          rcases List.mem_append.mp hp with hp | hp
          · exact (hl2 p hp).1
          · exact hR p hp
        refine hQT2 h11 _ _ ((l0, listOf (items2.push (.ref T9)) (ne2 + 1)) :: (((T9, tupOf vs9.toArray) :: tl2) ++ rest)) F9 ?_ ?_ (Jin hJ2x ⟨by exact (if_neg (by decide)).trans ((if_neg (by decide)).trans hr2), by exact (if_neg (by decide)).trans ((if_neg (by decide)).trans hf2), by exact (if_neg (by decide)).trans ((if_neg (by decide)).trans hk2), _, _, (T9, tupOf vs9.toArray) :: tl2, rfl, ?_, ?_, ?_⟩)
        · intro p hp
          rcases List.mem_cons.mp hp with rfl | hp
          · exact NF _ (.tail _ (.head _))
          rcases List.mem_cons.mp hp with rfl | hp
          · exact NF _ (.head _)
          · exact NF _ (.tail _ (.tail _ hp))
        · intro p hp
          rcases List.mem_cons.mp hp with rfl | hp
          · exact Ne.symm hIl
          rcases List.mem_cons.mp hp with rfl | hp
          · exact hTI2
          · exact hnI2 p (.tail _ hp)
        · rw [Array.toList_push, take_succ_map (mv xs i) _ _ hjl, hpq, ← List.append_assoc]
          exact (hT2.mono fun q hq => .tail _ hq).snoc (.head _) hI9
        · exact hG2.cons fun q hq => hlt9 q (.tail _ (.tail _ (List.mem_append_right _ (hnbR q hq))))
        · intro q hq
          rcases List.mem_cons.mp hq with rfl | hq
          · exact ⟨hTl, hTI⟩
          · exact hl2 q hq
    case done2 =>
      intro h9 tk9 m9 led9 F9 N9 hj
      rw [hJ2x] at hj
      obtain ⟨hr9, hf9, hk9, items9, ne9, tl9, rfl, hT9, hG9, hl9⟩ := hj
      k_steps
      refine hQT1 h9 tk9 m9 ((l0, listOf items9 ne9) :: ((tl9 ++ tl) ++ nb)) F9 ?_ ?_ (Jin hJ1x ⟨hr9, hf9, items9, ne9, tl9 ++ tl, rfl, ?_, ?_, ?_⟩)
      · intro p hp
        rcases List.mem_cons.mp hp with rfl | hp
        · exact N9 _ (.tail _ (List.mem_append_right _ (.tail _ (List.mem_append_right _ (.head _)))))
        rcases List.mem_cons.mp hp with rfl | hp
        · exact N9 _ (.head _)
        rw [List.append_assoc] at hp
        rcases List.mem_append.mp hp with hp | hp
        · exact N9 _ (.tail _ (List.mem_append_left _ hp))
        · exact N9 _ (.tail _ (List.mem_append_right _ (.tail _ (List.mem_append_right _ (.tail _ hp)))))
      · intro p hp
        rcases List.mem_cons.mp hp with rfl | hp
        · exact hnI (l0, listOf items ne) (.head _)
        rw [List.append_assoc] at hp
        rcases List.mem_append.mp hp with hp | hp
        · exact (hl9 p hp).2
        · exact hnI p (.tail _ hp)
      · rw [movesTo_succ]
        have e := hTv.length
        rw [Array.length_toList] at e
        rw [e, List.take_length] at hT9
        exact hT9
      · intro q hq r hr
        rcases List.mem_append.mp hr with hr | hr
        · exact hG9 q hq r hr
        · exact hG q hq r hr
      · intro q hq
        rcases List.mem_append.mp hq with hq | hq
        · exact (hl9 q hq).1
        · exact hl q hq
  case done =>
    intro h9 tk9 m9 led9 F9 N9 hj
    rw [hJ1x] at hj
    obtain ⟨hr9, hf9, items9, ne9, tl9, rfl, hT9, hG9, hl9⟩ := hj
    k_steps
    rename News h₀ L _ _ => N10
    rename Fr h₀ L _ _ => F10
    refine ret _ ((l0, listOf items9 ne9) :: tl9) _ _ ⟨l0, ne9, items9, tl9, rfl, rfl, ?_⟩ ?_ F10 (fun q hq => N10 q ?_)
    · simpa [moves] using hT9
    · intro q hq r hr
      have hq' := hnews q (by simpa using hq)
      rcases List.mem_cons.mp hr with rfl | hr
      · exact hl0 q hq'
      · exact hG9 q hq' r hr
    · rcases List.mem_cons.mp hq with rfl | hq
      · exact .head _
      rcases List.mem_append.mp hq with hq | hq
      · exact .tail _ (List.mem_append_left _ hq)
      · exact .tail _ (List.mem_append_right _ (hnews q (by simpa using hq)))
end
section
set_option maxHeartbeats 8000000
/-- a contract whose call changes one object of the ledger -/
def ConX (w : World) (k : Nat) (f : Addr) (vs : List Value) (P : Nat) (o : Obj) (kp : Led) (Out : Obj → Led → Value → Prop) : Prop :=
  ∀ (p : Program) (loose : List Str) (mean : ExcName → Option Value) (mg mb : Str → Option Value) (dp un : Nat) (gd : Option (List Code)) (cn : Str) (cs : Scope) (a : Addr) (ccd : Value) (cl : List (Str × Addr)) (outer : List Env) (A₀ : Around) (base h₀ : Heap) (L : Addr) (m : Str → Option Value) (s : Shared) (Q E : Value → Shared → Prop) (news : Led),
    At w p loose mean mg mb A₀ base outer h₀ L m cs s.heap ((P, o) :: news) → (∀ q ∈ news, @Ne Nat q.1 P) → (∀ p ∈ kp, p ∈ news) → dp + k < recursionLimit → un + 8 * k < cLine →
    (∀ v new tl h' tk', Out new tl v → (∀ q ∈ news, ∀ r ∈ tl, @LT.lt Nat _ q.1 r.1) → Fr h₀ L h' m → News h₀ L h' ((P, new) :: (tl ++ news)) → Q v { s with heap := h', toks := tk' }) →
    wpAny (model PySem.Challenge.rw_ge0002_01.prog w) (ktrTop dp un gd cn cs L a ccd cl outer) (call (.ref f) vs) Q E s
theorem ConX.use {w : World} {k : Nat} {f : Addr} {vs : List Value} {P : Nat} {o : Obj} {kp led : Led} {g : Obj → Led} {Out : Obj → Led → Value → Prop} (C : ConX w k f vs P o kp Out) {p : Program} {loose : List Str} {mean : ExcName → Option Value} {mg mb : Str → Option Value} {dp un : Nat} {gd : Option (List Code)} {cn : Str} {cs : Scope} {a : Addr} {ccd : Value} {cl : List (Str × Addr)} {outer : List Env} {A₀ : Around} {base h₀ : Heap} {L : Addr} {m : Str → Option Value} {s : Shared} {Q E : Value → Shared → Prop}
    (B : Below A₀ base outer h₀) (F : Fr h₀ L s.heap m) (X : (topH.heap_39 w.params).In h₀) (T : Top p loose mean mg mb h₀) (hk : cs.kind = .function) (H1 : CodeHd base 27 23) (H2 : CodeHd base 20 16) (N : News h₀ L s.heap led) (U : UpdF P o led g)
    (hs : ∀ p ∈ kp, p ∈ led ∧ @Ne Nat p.1 P) (room : dp + k < recursionLimit) (units : un + 8 * k < cLine)
    (h : ∀ v new tl h' tk', Out new tl v → (∀ q ∈ led, q = (P, o) ∨ ∀ r ∈ tl, @LT.lt Nat _ q.1 r.1) → Fr h₀ L h' m → News h₀ L h' (tl ++ g new) → Q v { s with heap := h', toks := tk' }) :
    wpAny (model PySem.Challenge.rw_ge0002_01.prog w) (ktrTop dp un gd cn cs L a ccd cl outer) (call (.ref f) vs) Q E s := by
  obtain ⟨own, rest, rfl, hgr, h1, h2⟩ := U.split
  refine C p loose mean mg mb dp un gd cn cs a ccd cl outer A₀ base h₀ L m s Q E (own ++ rest) ⟨B, F, X, T, hk, H1, H2, fun p hp => N p ?_⟩ ?_ ?_ room units ?_
  · simp only [List.mem_cons, List.mem_append] at hp ⊢
    rcases hp with h | h | h <;> simp [h]
  · intro q hq
    rcases List.mem_append.mp hq with hq | hq
    · exact h1 q hq
    · exact h2 q hq
  · intro p hp
    obtain ⟨a, b⟩ := hs p hp
    simp only [List.mem_cons, List.mem_append] at a ⊢
    rcases a with h | h | h
    · exact .inl h
    · exact absurd (h ▸ rfl) b
    · exact .inr h
  · intro v new tl h' tk' ho hlt F' N'
    refine h v new tl h' tk' ho (fun q hq => ?_) F' fun q hq => N' q ?_
    · simp only [List.mem_cons, List.mem_append] at hq
      rcases hq with h | h | h
      · exact .inr (hlt q (List.mem_append_left _ h))
      · exact .inl h
      · exact .inr (hlt q (List.mem_append_right _ h))
    · rw [hgr] at hq
      simp only [List.mem_cons, List.mem_append] at hq ⊢
      rcases hq with h | h | h | h <;> simp [h]
theorem h78 {w : World} {h : Heap} (X : (topH.heap_39 w.params).In h) : @LT.lt Nat _ 78 h.objs.size := Heap.lt_size (X 78 _ (by with_unfolding_all rfl))
end
section
theorem linesC8 : True := by
  w_top off
  exact trivial
set_option maxHeartbeats 8000000
set_option linter.unusedVariables false
local macro_rules | `(tactic| k_room) => `(tactic| ktr_room)
local macro_rules | `(tactic| k_all) => `(tactic| (refine Low.ne (by assumption) ?_; (try dsimp only); omega))
local macro_rules | `(tactic| k_all) => `(tactic| assumption)
local macro_rules | `(tactic| k_mem) => `(tactic| assumption)
local macro_rules | `(tactic| walk_at "binaryOp Mult ref int") => `(tactic| (k_extra "mine 0"; intro l' h' F' N' l1; (try k_lt l1)))

theorem c_i2dF (w : World) (ta tn : Tok) :
  ConX w 9 21 [.int 0 ta, .int 1 tn] 16 (tabObj #[]) [] (fun new tl v => ∃ l c oc, v = .ref l ∧ new = tabObj #[rawInt 5, rawInt 4, .ref c] ∧ tl = [(l, listOf #[] 0), (c, oc)] ∧ @LT.lt Nat _ 78 l ∧ @LT.lt Nat _ l c ∧ Inner "_int2digits.<locals>.inner" c oc) := by
  intro p loose mean mg mb dp un gd cn cs a ccd cl outer A₀ base h₀ L m s Q E news hat hap hkp room units ret
  obtain ⟨B, F, X, T, hk, H1, H2, N⟩ := hat
  revert X; k_fill; intro X
  refine wpAny_call ?_
  k_dflt (refine' code_defC ?k1 ?k2 ?k3 ?k4 ?k5 ?kA ?kF ?kK ?k6 ?k7 ?k8 ?k9 ?kB ?kD ?_ ?c2 ?c3 ?c4; (case kA => exact rfl); (case kF => exact rfl); (case kK => assumption); (case k1 => k_asm); (case k2 => k_asm); (case k3 => k_asm); (case k4 => k_asm); (case k5 => k_asm); (case k6 => k_is); (case k7 => k_is); (case k8 => ktr_room); (case k9 => exact BindsTo.of_eq rfl); (case kB => exact rfl); (case kD => decide +kernel); (case c2 => exact rfl); (case c3 => exact rfl); (case c4 => exact rfl); k_whole; intro g' L' h' tk' cells' FG' F' N' Y' B' X' T' l1; have O' := Low.mk (fun p hp => l1 p (.tail _ hp)); (try k_lt l1); k_cells Y'; (try simp only [List.cons_append, List.nil_append] at N'); (try dsimp only); (try k_lift B'); (try k_fold))
  k_steps
  rename News h₀ L _ _ => kN
  rename Fr h₀ L _ _ => kF
  rename _ ∧ _ ∧ _ ∧ _ ∧ _ ∧ _ ∧ AllLt _ news => lc
  rename _ ∧ _ ∧ _ ∧ _ ∧ _ ∧ AllLt _ news => ll
  rename _ = Data.fields _ => hd1
  rename _ = some (Value.str _ _) => hd2
  have hg := h78 X'
  rename Fr g' L' _ _ => FF
  have hL := FF.above
  have hlc := all_of_allLt _ lc.2.2.2.2.2.2
  have hll := all_of_allLt _ ll.2.2.2.2.2
  refine ret _ _ [(_, listOf #[] 0), (_, _)] _ _ ⟨_, _, _, rfl, rfl, rfl, Nat.lt_of_le_of_lt ?_ ll.2.1, lc.1, ⟨Nat.lt_of_le_of_lt ?_ lc.2.2.1, _, _, hd1, hd2⟩⟩ ?_ kF fun p hp => kN p ?_
  · exact Nat.le_trans (Nat.le_of_lt hg) (Nat.le_trans hL (by omega))
  · exact Nat.le_trans (Nat.le_of_lt hg) (Nat.le_trans hL (by omega))
  · intro q hq r hr
    simp only [List.mem_cons, List.not_mem_nil, or_false] at hr
    rcases hr with rfl | rfl
    · exact hll q hq
    · exact hlc q hq
  · simp only [List.cons_append, List.nil_append, List.mem_cons] at hp ⊢
    rcases hp with h | h | h | h
    · simp [h]
    · subst h; exact .inr (.inr (.inl rfl))
    · simp [h]
    · simp [h]
end
section
local macro_rules | `(tactic| walk_at "mine pad") => `(tactic| skip)
theorem linesC9 : True := by
  w_top off
  exact trivial
set_option maxHeartbeats 8000000
set_option linter.unusedVariables false
local macro_rules | `(tactic| k_room) => `(tactic| ktr_room)
local macro_rules | `(tactic| k_all) => `(tactic| (refine Low.ne (by assumption) ?_; (try dsimp only); omega))
local macro_rules | `(tactic| k_all) => `(tactic| assumption)
local macro_rules | `(tactic| k_mem) => `(tactic| assumption)
local macro_rules | `(tactic| walk_at "binaryOp Mult ref int") => `(tactic| (k_extra "mine 0"; intro l' h' F' N' l1; (try k_lt l1)))

theorem c_d2iF (w : World) (d ne : Nat) (hd23 : @Ne Nat d 23) (d0 d1 d2 d3 : Int) (t0 t1 t2 t3 tn : Tok)
  (hb0 : 0 ≤ d0 ∧ d0 ≤ 1) (hb1 : 0 ≤ d1 ∧ d1 ≤ 1) (hb2 : 0 ≤ d2 ∧ d2 ≤ 1) (hb3 : 0 ≤ d3 ∧ d3 ≤ 1) :
  ConX w 9 28 [.ref d, .int 1 tn] 23 (tabObj #[]) [(d, listOf #[.int d0 t0, .int d1 t1, .int d2 t2, .int d3 t3] ne)] (fun new tl v => ∃ t c oc, v = .int (d0 + 2 * d1 + 4 * d2 + 8 * d3) t ∧ new = tabObj #[rawInt 20, rawInt 4, .ref c] ∧ tl = [(c, oc)] ∧ Inner "_digits2int.<locals>.inner" c oc) := by
  intro p loose mean mg mb dp un gd cn cs a ccd cl outer A₀ base h₀ L m s Q E news hat hap hkp room units ret
  have hdm : (d, listOf #[.int d0 t0, .int d1 t1, .int d2 t2, .int d3 t3] ne) ∈ news := hkp _ (.head _)
  obtain ⟨B, F, X, T, hk, H1, H2, N⟩ := hat
  have N : News h₀ L s.heap ((d, listOf #[.int d0 t0, .int d1 t1, .int d2 t2, .int d3 t3] ne) :: (23, tabObj #[]) :: news) := fun p hp => N p (by
    rcases List.mem_cons.mp hp with h | h
    · exact .tail _ (h ▸ hdm)
    · exact h)
  revert X; k_fill; intro X
  refine wpAny_call ?_
  k_dflt (refine' code_defC ?k1 ?k2 ?k3 ?k4 ?k5 ?kA ?kF ?kK ?k6 ?k7 ?k8 ?k9 ?kB ?kD ?_ ?c2 ?c3 ?c4; (case kA => exact rfl); (case kF => exact rfl); (case kK => assumption); (case k1 => k_asm); (case k2 => k_asm); (case k3 => k_asm); (case k4 => k_asm); (case k5 => k_asm); (case k6 => k_is); (case k7 => k_is); (case k8 => ktr_room); (case k9 => exact BindsTo.of_eq rfl); (case kB => exact rfl); (case kD => decide +kernel); (case c2 => exact rfl); (case c3 => exact rfl); (case c4 => exact rfl); k_whole; intro g' L' h' tk' cells' FG' F' N' Y' B' X' T' l1; have O' := Low.mk (fun p hp => l1 p (.tail _ (.tail _ hp))); (try k_lt l1); k_cells Y'; (try simp only [List.cons_append, List.nil_append] at N'); (try dsimp only); (try k_lift B'); (try k_fold))
  k_steps
  rename News h₀ L _ _ => kN
  rename Fr h₀ L _ _ => kF
  rename _ ∧ _ ∧ _ ∧ _ ∧ _ ∧ AllLt _ news => lc
  rename _ = Data.fields _ => hd1
  rename _ = some (Value.str _ _) => hd2
  have hg := h78 X'
  rename Fr g' L' _ _ => FF
  have hL := FF.above
  have hlc := all_of_allLt _ lc.2.2.2.2.2
  refine ret _ _ [(_, _)] _ _ ⟨_, _, _, congrArg (fun x => Value.int x _) ?ev, rfl, rfl, ⟨Nat.lt_of_le_of_lt ?_ lc.2.2.1, _, _, hd1, hd2⟩⟩ ?_ kF fun p hp => kN p ?_
  case ev => (show (d3 * 2 ^ 1 + d2) * 2 ^ 2 + (d1 * 2 ^ 1 + d0) = _; omega)
  · exact Nat.le_trans (Nat.le_of_lt hg) (Nat.le_trans hL (by omega))
  · intro q hq r hr
    rw [List.mem_singleton.mp hr]
    exact hlc q hq
  · simp only [List.cons_append, List.nil_append, List.mem_cons] at hp ⊢
    rcases hp with h | h | h <;> simp [h]
end
section
theorem linesC10 : True := by
  w_top off
  (k_with "mine 21" => k_here; k_dflt (refine' ConX.use (c_i2dF _ _ _) ?zB ?zF ?zX ?zT ?zK ?z1 ?z2 ?zN ?zV ?zS ?zR ?zU ?_; (case zB => k_asm); (case zF => k_asm); (case zX => k_asm); (case zT => k_asm); (case zK => exact rfl); (case z1 => k_asm); (case z2 => k_asm); (case zN => k_asm); (case zV => k_updF); (case zS => exact fun _ h => nomatch h); (case zR => ktr_room); (case zU => ktr_units)))
  (k_with "mine 22" => k_here; k_dflt (refine' ConX.use (c_d2iF _ _ _ ?zD _ _ _ _ _ _ _ _ _ ?y0 ?y1 ?y2 ?y3) ?zB ?zF ?zX ?zT ?zK ?z1 ?z2 ?zN ?zV ?zS ?zR ?zU ?_; (case zB => k_asm); (case zF => k_asm); (case zX => k_asm); (case zT => k_asm); (case zK => exact rfl); (case z1 => k_asm); (case z2 => k_asm); (case zN => k_asm); (case zV => k_updF); (case zD => assumption); (case zS => (intro p hp; cases List.mem_singleton.mp hp; refine' ⟨?zs1, ?zs2⟩; (case zs1 => k_mem); (case zs2 => assumption))); (case y0 => exact bits_01 _ _ _); (case y1 => exact bits_01 _ _ _); (case y2 => exact bits_01 _ _ _); (case y3 => exact bits_01 _ _ _); (case zR => ktr_room); (case zU => ktr_units)))
  exact trivial
set_option maxHeartbeats 8000000
set_option linter.unusedVariables false
theorem lt_of_x {led tl : Led} {P : Nat} {o : Obj} (h : ∀ q ∈ led, q = (P, o) ∨ ∀ r ∈ tl, @LT.lt Nat _ q.1 r.1) {l : Addr} {ol : Obj} (hr : (l, ol) ∈ tl) (hP : @LT.lt Nat _ P l) : ∀ q ∈ led, q.1 < l := fun q hq => by
  rcases h q hq with rfl | z
  · exact hP
  · exact z _ hr
local macro_rules | `(tactic| k_room) => `(tactic| ktr_room)
local macro_rules | `(tactic| k_all) => `(tactic| (refine Low.ne (by assumption) ?_; (try dsimp only); omega))
local macro_rules | `(tactic| k_all) => `(tactic| assumption)
local macro_rules | `(tactic| k_mem) => `(tactic| assumption)
local macro_rules | `(tactic| walk_at "binaryOp Mult ref int") => `(tactic| (k_extra "mine 0"; intro l' h' F' N' l1; (try k_lt l1)))
local macro_rules | `(tactic| walk_at "call ref") => `(tactic| (k_extra "mine 1"; k_dflt (intro v' tl' h' tk' ho' hl' F' N'; obtain ⟨l', n', vs', hv', ht', hd'⟩ := ho'; subst hv' ht'; (have l1 := lt_of_one hl'); clear hl'; (try k_lt l1); (try simp only [List.cons_append, List.nil_append] at N'))))
local macro_rules | `(tactic| walk_at "binaryOp Add ref ref") => `(tactic| (k_extra "mine 2"; k_dflt (intro l' h' ws' u0 u1 u2 u3 F' N' l1 f4'; (try k_lt l1))))
local macro_rules | `(tactic| walk_at "call type:range") => `(tactic| (k_extra "mine 3"; k_dflt (intro r' h' u' v' F' N' l1; (try k_lt l1))))
local macro_rules | `(tactic| walk_at "subscriptTail Name Name ref int") => `(tactic| k_extra "mine 4")
local macro_rules | `(tactic| walk_at "call ref") => `(tactic| (k_extra "mine 21"; k_dflt (intro v' o' tl' h' tk' ho' hl' F' N'; obtain ⟨l', c', oc', hv', hn', ht', g1', g2', I'⟩ := ho'; subst hv' ht' hn'; (have l1 := lt_of_x hl' (.head _) (Nat.lt_trans (by decide) g1')); (have l2 := lt_of_x hl' (.tail _ (.head _)) (Nat.lt_trans (by decide) (Nat.lt_trans g1' g2'))); clear hl'; (try k_lt l1); (try k_lt l2); (try dsimp only at N'); (try simp only [List.cons_append, List.nil_append] at N'))))
local macro_rules | `(tactic| walk_at "call ref") => `(tactic| (k_extra "mine 22"; k_dflt (intro v' o' tl' h' tk' ho' hl' F' N'; obtain ⟨t', c', oc', hv', hn', ht', I'⟩ := ho'; subst hv' ht' hn'; (have l1 := lt_of_x hl' (.head _) (Nat.lt_trans (by decide) I'.lt)); clear hl'; (try k_lt l1); (try dsimp only at N'); (try simp only [List.cons_append, List.nil_append] at N'))))
theorem c_bothF (w : World) (ta tb : Tok) (p : Program) (loose : List Str) (mean : ExcName → Option Value) (mg mb : Str → Option Value) (dp un : Nat) (gd : Option (List Code)) (cn : Str) (cs : Scope) (a : Addr) (ccd : Value) (cl : List (Str × Addr)) (outer : List Env) (A₀ : Around) (base h₀ : Heap) (L : Addr) (m : Str → Option Value) (s : Shared) (Q E : Value → Shared → Prop) (news : Led)
    (hat : At w p loose mean mg mb A₀ base outer h₀ L m cs s.heap ((16, tabObj #[]) :: (23, tabObj #[]) :: news)) (ap1 : ∀ q ∈ news, @Ne Nat q.1 16) (ap2 : ∀ q ∈ news, @Ne Nat q.1 23) (room : dp + 14 < recursionLimit) (units : un + 8 * 14 < cLine)
    (ret : ∀ t c1 oc1 c2 oc2 h' tk', Inner "_int2digits.<locals>.inner" c1 oc1 → Inner "_digits2int.<locals>.inner" c2 oc2 → (∀ q ∈ news, @LT.lt Nat _ q.1 c1 ∧ @LT.lt Nat _ q.1 c2) → Fr h₀ L h' m →
      News h₀ L h' ((16, tabObj #[rawInt 5, rawInt 4, .ref c1]) :: (c1, oc1) :: (23, tabObj #[rawInt 20, rawInt 4, .ref c2]) :: (c2, oc2) :: news) → Q (.int 0 t) { s with heap := h', toks := tk' }) :
    wpAny (model PySem.Challenge.rw_ge0002_01.prog w) (ktrTop dp un gd cn cs L a ccd cl outer) (call (.ref 51) [.int 0 ta, .int 0 tb]) Q E s := by
  obtain ⟨B, F, X, T, hk, H1, H2, N⟩ := hat
  have g78 := h78 X
  have gL := F.above
  have h00 : (0 : Int) ≤ 0 ∧ (0 : Int) ≤ 3 := by decide
  have D00 : Digs 0 #[] := by simp [Digs]
  revert X; k_fill; intro X
  refine wpAny_call ?_
  k_dflt (refine' code_defC ?k1 ?k2 ?k3 ?k4 ?k5 ?kA ?kF ?kK ?k6 ?k7 ?k8 ?k9 ?kB ?kD ?_ ?c2 ?c3 ?c4; (case kA => exact rfl); (case kF => exact rfl); (case kK => assumption); (case k1 => k_asm); (case k2 => k_asm); (case k3 => k_asm); (case k4 => k_asm); (case k5 => k_asm); (case k6 => k_is); (case k7 => k_is); (case k8 => ktr_room); (case k9 => exact BindsTo.of_eq rfl); (case kB => exact rfl); (case kD => decide +kernel); (case c2 => exact rfl); (case c3 => exact rfl); (case c4 => exact rfl); k_whole; intro g' L' h' tk' cells' FG' F' N' Y' B' X' T' l1; have O' := Low.mk (fun p hp => l1 p (.tail _ (.tail _ hp))); (try k_lt l1); k_cells Y'; (try simp only [List.cons_append, List.nil_append] at N'); (try dsimp only); (try k_lift B'); (try k_fold))
  iterate 62 walk1
  k_fold
  k_dflt (refine wpAny_ListComp_free (fun _ => true) (fun v y => ∃ (i : Nat) (t u : Tok), v = .int (i : Int) t ∧ y = .int (bitsOf 0 0 i) u) (by with_unfolding_all rfl) (by decide) rfl (by decide) rfl ?_)
  k_steps
  k_dflt (refine' comp4_end (bit := bitsOf 0 0) ?zh ?zF ?zN ?zm ?ze ?zq)
  case zh => exact rfl
  case zF => k_asm
  case zN => k_asm
  case zm => k_dflt k_mem
  case ze =>
    intro i hi C s₃ m₃ tk₃ E' F₃ N₃ hn₃ hm₃
    have hi4 : i = 0 ∨ i = 1 ∨ i = 2 ∨ i = 3 := by omega
    rcases hi4 with rfl | rfl | rfl | rfl <;> (k_steps; exact ⟨_, _, rfl, rfl⟩)
  case zq =>
    intro D h' tk t0 t1 t2 t3 n F' N'
    k_unfold
    have hD : @Ne Nat D 23 := fun e => by
      subst e
      have z1 := (N' _ (.head _)).1
      have z2 := (N' (23, tabObj #[]) (by simp)).1
      rw [z1] at z2
      cases z2
    k_steps
    rename News h₀ L _ _ => kN
    rename Fr h₀ L _ _ => kF
    rename _ ∧ _ ∧ _ ∧ _ ∧ AllLt _ news => la
    rename D < _ ∧ _ => lc
    rename Inner "_digits2int.<locals>.inner" _ _ => J2
    rename Inner "_int2digits.<locals>.inner" _ _ => J1
    repeat (obtain ⟨_, lc⟩ := lc)
    have hla := all_of_allLt _ la.2.2.2.2
    have hlc := all_of_allLt _ lc
    refine ret _ _ _ _ _ _ _ J1 J2 (fun q hq => ⟨hla q hq, hlc q hq⟩) kF fun p hp => kN p ?_
    simp only [List.mem_cons] at hp ⊢
    rcases hp with h | h | h | h | h <;> simp [h]
end
section
theorem linesC11 : True := by
  w_top off
  (k_with "mine 23" => k_here; k_dflt (refine' item_list_ints ?y1 ?y2 ?y3 ?y4 ?y5 ?_ ?y6 ?y7; (case y1 => (refine' News.isList ?z1 ?z2; (case z1 => k_asm); (case z2 => k_mem))); (case y2 => assumption); (case y3 => omega); (case y4 => omega); (case y5 => omega); (case y6 => with_unfolding_all rfl); (case y7 => (intro _; with_unfolding_all rfl))); k_dflt (intro _))
  exact trivial
set_option maxHeartbeats 8000000
set_option linter.unusedVariables false
local macro_rules | `(tactic| k_room) => `(tactic| ktr_room)
local macro_rules | `(tactic| k_all) => `(tactic| (refine Low.ne (by assumption) ?_; (try dsimp only); omega))
local macro_rules | `(tactic| k_mem) => `(tactic| assumption)
local macro_rules | `(tactic| walk_at "eval Name") => `(tactic| k_extra "mine 11")
local macro_rules | `(tactic| walk_at "subscriptTail Name Name ref int") => `(tactic| k_extra "mine 23")
theorem c_bis (w : World) (l : Addr) (vs : List Value) (ns : List Int) (c : Nat) (x : Int) (tx : Tok) (hi : IntsAre vs ns) (hlen : ns.length ≤ 100) :
  Con w 4 46 [.ref l, .int x tx] [(l, listOf vs.toArray c)] (fun tl v => tl = [] ∧ ∃ t, v = .int (bis ns x : Int) t) := by
  intro p loose mean mg mb dp un gd cn cs a ccd cl outer A₀ base h₀ L m s Q E news hat room units ret
  obtain ⟨B, F, X, T, hk, H1, H2, N⟩ := hat
  simp only [List.cons_append, List.nil_append] at N
  revert X; k_fill; intro X
  refine wpAny_call ?_
  k_dflt (refine' code_def ?k1 ?k2 ?k3 ?k4 ?k5 ?kA ?kF ?kK ?k6 ?k7 ?k8 ?k9 ?kB ?_ ?c2 ?c3 ?c4 ?c5; (case kA => exact rfl); (case kF => exact rfl); (case kK => assumption); (case k1 => k_asm); (case k2 => k_asm); (case k3 => k_asm); (case k4 => k_asm); (case k5 => k_asm); (case k6 => k_is); (case k7 => k_is); (case k8 => ktr_room); (case k9 => exact kp_binds (fun a o e => F.keep a o (X a o e)) (fun S => by with_unfolding_all rfl)); (case c5 => decide); (case kB => exact locs rfl); (case c2 => exact rfl); (case c3 => exact rfl); (case c4 => exact rfl); k_whole; intro g' L' h' FG' F' N' B' X' T'; (try dsimp only); (try k_lift B'); (try k_fold))
  iterate 40 walk1
  rename Fr _ _ _ _ => F1
  rename News _ _ _ _ => N1
  refine While_own (fun n m₁ led => led = (l, listOf vs.toArray c) :: news ∧ m₁ (Str.ofString "a") = some (.ref l) ∧ m₁ (Str.ofString "x") = some (.int x tx) ∧ ∃ (lo hh : Nat) (tl th : Tok), m₁ (Str.ofString "lo") = some (.int (lo : Int) tl) ∧ m₁ (Str.ofString "hi") = some (.int (hh : Int) th) ∧ hh ≤ ns.length ∧ hh - lo < n ∧ bisI ns x n lo hh = bis ns x) (ns.length + 1) F1 N1 ⟨rfl, rfl, rfl, 0, ns.length, _, _, rfl, rfl, Nat.le_refl _, by omega, rfl⟩ ?_ (by passes_own)
  rintro n m₁ led h₁ tk₁ ⟨rfl, ha, hx, lo, hh, tl, th, hlo, hhi, hle, hn, hb⟩ F2 N2
  k_steps
  by_cases hlt : lo < hh
  · refine .yes (decide_eq_true (by omega)) ?_
    k_steps
    · rename Fr g' _ _ _ => F3
      rename News g' _ _ _ => N3
      rename ns.getD _ 0 < x => hc
      have e : ((lo : Int) + (hh : Int)).fdiv 2 = (((lo + hh) / 2 : Nat) : Int) := by rw [Int.fdiv_eq_ediv_of_nonneg _ (by decide)]; omega
      rw [e, Int.toNat_natCast] at hc
      obtain ⟨n', rfl⟩ : ∃ n', n = n' + 1 := ⟨n - 1, by omega⟩
      exact ⟨_, _, _, _, rfl, F3, N3, n', Nat.lt_succ_self _, rfl, (if_neg (by decide)).trans ((if_neg (by decide)).trans ha), (if_neg (by decide)).trans ((if_neg (by decide)).trans hx), (lo + hh) / 2 + 1, hh, _, th,
        (if_pos rfl).trans (congrArg (fun z => some (Value.int z _)) (by rw [e]; omega)), (if_neg (by decide)).trans ((if_neg (by decide)).trans hhi), hle, by omega, bisI_up hlt hc _ hb⟩
    · rename Fr g' _ _ _ => F3
      rename News g' _ _ _ => N3
      rename ¬ (ns.getD _ 0 < x) => hc
      have e : ((lo : Int) + (hh : Int)).fdiv 2 = (((lo + hh) / 2 : Nat) : Int) := by rw [Int.fdiv_eq_ediv_of_nonneg _ (by decide)]; omega
      rw [e, Int.toNat_natCast] at hc
      obtain ⟨n', rfl⟩ : ∃ n', n = n' + 1 := ⟨n - 1, by omega⟩
      exact ⟨_, _, _, _, rfl, F3, N3, n', Nat.lt_succ_self _, rfl, (if_neg (by decide)).trans ((if_neg (by decide)).trans ha), (if_neg (by decide)).trans ((if_neg (by decide)).trans hx), lo, (lo + hh) / 2, tl, _,
        (if_neg (by decide)).trans ((if_neg (by decide)).trans hlo), (if_pos rfl).trans (congrArg (fun z => some (Value.int z _)) e), by omega, by omega, bisI_dn hlt hc _ hb⟩
  · refine .no (decide_eq_false (by omega)) ?_
    k_steps
    rename News h₀ L _ _ => kN
    rename Fr h₀ L _ _ => kF
    refine' ret_none ret kF kN (fun p hp => hp) ⟨rfl, tl, ?_⟩
    rw [← hb, bisI_done hlt]
end
section
theorem linesC12 : True := by
  w_top off
  (k_with "mine 24" => k_here; k_dflt (refine' Con.use (c_bis4 _ _ _ _ _ _ _ _ ?zI ?zL) ?zB ?zF ?zX ?zT ?zK ?z1 ?z2 ?zN ?zS ?zR ?zU ?_; (case zB => k_asm); (case zF => k_asm); (case zX => k_asm); (case zT => k_asm); (case zK => exact rfl); (case z1 => k_asm); (case z2 => k_asm); (case zN => k_asm); (case zI => assumption); (case zL => assumption); (case zS => (intro p hp; cases List.mem_singleton.mp hp; k_mem)); (case zR => ktr_room); (case zU => ktr_units)))
  exact trivial
set_option maxHeartbeats 8000000
set_option linter.unusedVariables false
local macro_rules | `(tactic| k_room) => `(tactic| ktr_room)
local macro_rules | `(tactic| k_all) => `(tactic| (refine Low.ne (by assumption) ?_; (try dsimp only); omega))
local macro_rules | `(tactic| k_mem) => `(tactic| assumption)
local macro_rules | `(tactic| walk_at "eval Name") => `(tactic| k_extra "mine 11")
local macro_rules | `(tactic| walk_at "subscriptTail Name Name ref int") => `(tactic| k_extra "mine 23")
theorem c_bis4 (w : World) (l : Addr) (vs : List Value) (ns : List Int) (c : Nat) (x : Int) (tx t0 : Tok) (hi : IntsAre vs ns) (hlen : ns.length ≤ 100) :
  Con w 4 46 [.ref l, .int x tx, .int 0 t0, .none] [(l, listOf vs.toArray c)] (fun tl v => tl = [] ∧ ∃ t, v = .int (bis ns x : Int) t) := by
  intro p loose mean mg mb dp un gd cn cs a ccd cl outer A₀ base h₀ L m s Q E news hat room units ret
  obtain ⟨B, F, X, T, hk, H1, H2, N⟩ := hat
  simp only [List.cons_append, List.nil_append] at N
  revert X; k_fill; intro X
  refine wpAny_call ?_
  k_dflt (refine' code_def ?k1 ?k2 ?k3 ?k4 ?k5 ?kA ?kF ?kK ?k6 ?k7 ?k8 ?k9 ?kB ?_ ?c2 ?c3 ?c4 ?c5; (case kA => exact rfl); (case kF => exact rfl); (case kK => assumption); (case k1 => k_asm); (case k2 => k_asm); (case k3 => k_asm); (case k4 => k_asm); (case k5 => k_asm); (case k6 => k_is); (case k7 => k_is); (case k8 => ktr_room); (case k9 => exact kp_binds (fun a o e => F.keep a o (X a o e)) (fun S => by with_unfolding_all rfl)); (case c5 => decide); (case kB => exact locs rfl); (case c2 => exact rfl); (case c3 => exact rfl); (case c4 => exact rfl); k_whole; intro g' L' h' FG' F' N' B' X' T'; (try dsimp only); (try k_lift B'); (try k_fold))
  iterate 40 walk1
  rename Fr _ _ _ _ => F1
  rename News _ _ _ _ => N1
  refine While_own (fun n m₁ led => led = (l, listOf vs.toArray c) :: news ∧ m₁ (Str.ofString "a") = some (.ref l) ∧ m₁ (Str.ofString "x") = some (.int x tx) ∧ ∃ (lo hh : Nat) (tl th : Tok), m₁ (Str.ofString "lo") = some (.int (lo : Int) tl) ∧ m₁ (Str.ofString "hi") = some (.int (hh : Int) th) ∧ hh ≤ ns.length ∧ hh - lo < n ∧ bisI ns x n lo hh = bis ns x) (ns.length + 1) F1 N1 ⟨rfl, rfl, rfl, 0, ns.length, _, _, rfl, rfl, Nat.le_refl _, by omega, rfl⟩ ?_ (by passes_own)
  rintro n m₁ led h₁ tk₁ ⟨rfl, ha, hx, lo, hh, tl, th, hlo, hhi, hle, hn, hb⟩ F2 N2
  k_steps
  by_cases hlt : lo < hh
  · refine .yes (decide_eq_true (by omega)) ?_
    k_steps
    · rename Fr g' _ _ _ => F3
      rename News g' _ _ _ => N3
      rename ns.getD _ 0 < x => hc
      have e : ((lo : Int) + (hh : Int)).fdiv 2 = (((lo + hh) / 2 : Nat) : Int) := by rw [Int.fdiv_eq_ediv_of_nonneg _ (by decide)]; omega
      rw [e, Int.toNat_natCast] at hc
      obtain ⟨n', rfl⟩ : ∃ n', n = n' + 1 := ⟨n - 1, by omega⟩
      exact ⟨_, _, _, _, rfl, F3, N3, n', Nat.lt_succ_self _, rfl, (if_neg (by decide)).trans ((if_neg (by decide)).trans ha), (if_neg (by decide)).trans ((if_neg (by decide)).trans hx), (lo + hh) / 2 + 1, hh, _, th,
        (if_pos rfl).trans (congrArg (fun z => some (Value.int z _)) (by rw [e]; omega)), (if_neg (by decide)).trans ((if_neg (by decide)).trans hhi), hle, by omega, bisI_up hlt hc _ hb⟩
    · rename Fr g' _ _ _ => F3
      rename News g' _ _ _ => N3
      rename ¬ (ns.getD _ 0 < x) => hc
      have e : ((lo : Int) + (hh : Int)).fdiv 2 = (((lo + hh) / 2 : Nat) : Int) := by rw [Int.fdiv_eq_ediv_of_nonneg _ (by decide)]; omega
      rw [e, Int.toNat_natCast] at hc
      obtain ⟨n', rfl⟩ : ∃ n', n = n' + 1 := ⟨n - 1, by omega⟩
      exact ⟨_, _, _, _, rfl, F3, N3, n', Nat.lt_succ_self _, rfl, (if_neg (by decide)).trans ((if_neg (by decide)).trans ha), (if_neg (by decide)).trans ((if_neg (by decide)).trans hx), lo, (lo + hh) / 2, tl, _,
        (if_neg (by decide)).trans ((if_neg (by decide)).trans hlo), (if_pos rfl).trans (congrArg (fun z => some (Value.int z _)) e), by omega, by omega, bisI_dn hlt hc _ hb⟩
  · refine .no (decide_eq_false (by omega)) ?_
    k_steps
    rename News h₀ L _ _ => kN
    rename Fr h₀ L _ _ => kF
    refine' ret_none ret kF kN (fun p hp => hp) ⟨rfl, tl, ?_⟩
    rw [← hb, bisI_done hlt]
theorem bisI_le {ns : List Int} {x : Int} : ∀ f lo hi, lo ≤ hi → bisI ns x f lo hi ≤ hi
  | 0, lo, hi, h => h
  | f + 1, lo, hi, h => by
    unfold bisI
    split
    · split
      · exact bisI_le f _ hi (by omega)
      · exact Nat.le_trans (bisI_le f lo _ (by omega)) (by omega)
    · exact h
theorem bis_le (ns : List Int) (x : Int) : bis ns x ≤ ns.length := bisI_le _ _ _ (Nat.zero_le _)
def insB (ns : List Int) (x : Int) : List Int := ns.take (bis ns x) ++ x :: ns.drop (bis ns x)
theorem ins_ints {vs : List Value} {ns : List Int} {x : Int} {tx : Tok} (hi : IntsAre vs ns) : IntsAre (kl_ins vs (bis ns x : Int) (.int x tx)) (insB ns x) := by
  have e := hi.length
  have h := bis_le ns x
  have e2 : (if ((bis ns x : Nat) : Int) < 0 then (((bis ns x : Nat) : Int) + (vs.length : Int)).toNat else min ((bis ns x : Nat) : Int).toNat vs.length) = bis ns x := by
    rw [if_neg (by omega), Int.toNat_natCast]; omega
  unfold kl_ins insB
  rw [e2]
  exact IntsAre.append (intsAre_take hi _) (.cons _ _ (intsAre_drop hi _))
theorem insB_len (ns : List Int) (x : Int) : (insB ns x).length = ns.length + 1 := by
  have h := bis_le ns x
  unfold insB
  rw [List.length_append, List.length_take, List.length_cons, List.length_drop]; omega
theorem bis_fit (ns : List Int) (x : Int) (h : ns.length ≤ 100) : Builtin.List.listFitsIndex (bis ns x : Int) = true := by
  have := bis_le ns x
  unfold Builtin.List.listFitsIndex
  simp
  omega
local macro_rules | `(tactic| k_all) => `(tactic| assumption)
local macro_rules | `(tactic| walk_at "call ref") => `(tactic| (k_extra "mine 24"; k_dflt (intro v' tl' h' tk' ho' hl' F' N'; obtain ⟨ht', t', hv'⟩ := ho'; subst hv' ht'; clear hl'; (try simp only [List.cons_append, List.nil_append] at N'))))
theorem c_ins (w : World) (l : Nat) (vs : List Value) (ns : List Int) (c : Nat) (x : Int) (tx : Tok) (hi : IntsAre vs ns) (hlen : ns.length ≤ 100) :
  ConX w 8 37 [.ref l, .int x tx] l (listOf vs.toArray c) [] (fun new tl v => v = .none ∧ tl = [] ∧ ∃ vs', new = listOf vs'.toArray (c + 1) ∧ IntsAre vs' (insB ns x)) := by
  intro p loose mean mg mb dp un gd cn cs a ccd cl outer A₀ base h₀ L m s Q E news hat hap hkp room units ret
  obtain ⟨B, F, X, T, hk, H1, H2, N⟩ := hat
  revert X; k_fill; intro X
  refine wpAny_call ?_
  k_dflt (refine' code_def ?k1 ?k2 ?k3 ?k4 ?k5 ?kA ?kF ?kK ?k6 ?k7 ?k8 ?k9 ?kB ?_ ?c2 ?c3 ?c4 ?c5; (case kA => exact rfl); (case kF => exact rfl); (case kK => assumption); (case k1 => k_asm); (case k2 => k_asm); (case k3 => k_asm); (case k4 => k_asm); (case k5 => k_asm); (case k6 => k_is); (case k7 => k_is); (case k8 => ktr_room); (case k9 => exact kp_binds (fun a o e => F.keep a o (X a o e)) (fun S => by with_unfolding_all rfl)); (case c5 => decide); (case kB => exact locs rfl); (case c2 => exact rfl); (case c3 => exact rfl); (case c4 => exact rfl); k_whole; intro g' L' h' FG' F' N' B' X' T'; (try dsimp only); (try k_lift B'); (try k_fold))
  k_steps
  have hzl : vs.toArray.toList.length ≤ sizeLine := by
    have e := hi.length
    have e3 : sizeLine = 2 ^ 24 := rfl
    simp only [List.toList_toArray]
    omega
  k_dflt (refine' kl_insert ?F ?N (bis_fit ns x hlen) rfl ?U hzl ?_; (case F => k_asm); (case N => k_asm); (case U => k_upd))
  intro h9 F9 N9
  k_steps
  rename News h₀ L _ _ => kN
  rename Fr h₀ L _ _ => kF
  exact ret _ _ [] _ _ ⟨rfl, rfl, _, rfl, ins_ints hi⟩ (fun _ _ _ h => nomatch h) kF kN
end
section
theorem linesC13 : True := by
  w_top off
  (k_with "mine 25" => k_here; k_dflt (refine' Con.use (c_both _ _ _ ?zA ?zC _ _ _ _ _ _ ?zI ?zJ) ?zB ?zF ?zX ?zT ?zK ?z1 ?z2 ?zN ?zS ?zR ?zU ?_; (case zB => k_asm); (case zF => k_asm); (case zX => k_asm); (case zT => k_asm); (case zK => exact rfl); (case z1 => k_asm); (case z2 => k_asm); (case zN => k_asm); (case zA => assumption); (case zC => assumption); (case zI => assumption); (case zJ => assumption); (case zS => (refine' sub4 ?y1 ?y2 ?y3 ?y4; (case y1 => k_mem); (case y2 => k_mem); (case y3 => k_mem); (case y4 => k_mem))); (case zR => ktr_room); (case zU => ktr_units)))
  (k_with "mine 26" => k_here; k_dflt (refine' ConX.use (c_ins _ _ _ _ _ _ _ ?zI ?zL) ?zB ?zF ?zX ?zT ?zK ?z1 ?z2 ?zN ?zV ?zS ?zR ?zU ?_; (case zB => k_asm); (case zF => k_asm); (case zX => k_asm); (case zT => k_asm); (case zK => exact rfl); (case z1 => k_asm); (case z2 => k_asm); (case zN => k_asm); (case zV => k_updF); (case zI => assumption); (case zL => assumption); (case zS => exact fun _ h => nomatch h); (case zR => ktr_room); (case zU => ktr_units)))
  (k_with "mine 27" => k_here; k_dflt (refine' Con.use (c_bis _ _ _ _ _ _ _ ?zI ?zL) ?zB ?zF ?zX ?zT ?zK ?z1 ?z2 ?zN ?zS ?zR ?zU ?_; (case zB => k_asm); (case zF => k_asm); (case zX => k_asm); (case zT => k_asm); (case zK => exact rfl); (case z1 => k_asm); (case z2 => k_asm); (case zN => k_asm); (case zI => assumption); (case zL => assumption); (case zS => (intro p hp; cases List.mem_singleton.mp hp; k_mem)); (case zR => ktr_room); (case zU => ktr_units)))
  (k_with "mine 28" => k_here; k_dflt (refine' item_list_ints ?y1 ?y2 ?y3 ?y4 ?y5 ?_ ?y6 ?y7; (case y1 => (refine' News.isList ?z1 ?z2; (case z1 => k_asm); (case z2 => k_mem))); (case y2 => assumption); (case y3 => first | assumption | omega); (case y4 => first | assumption | omega); (case y5 => omega); (case y6 => with_unfolding_all rfl); (case y7 => (intro _; with_unfolding_all rfl))); k_dflt (intro _))
  (k_with "mine 29" => k_here; k_dflt (refine' len_list_N ?y1 ?y2 ?y3 ?y4 ?_; (case y1 => k_asm); (case y2 => k_mem); (case y3 => assumption); (case y4 => assumption)))
  exact trivial
set_option maxHeartbeats 8000000
set_option linter.unusedVariables false
def nums : List Int := [0, 1, 2, 3, 1]
def xorv (a b : Int) : Int := bitsOf a b 0 + 2 * bitsOf a b 1 + 4 * bitsOf a b 2 + 8 * bitsOf a b 3
def numAt (i : Nat) (x : Int) : Int := (nums.take i).getD x.toNat 0
def pairV (i : Nat) (l : List Int) : Int := xorv (numAt i (l.getD 0 0)) (numAt i (l.getD 1 0))
def thereAt (i j : Nat) : List Int := ((leftOf (i : Int)).take j).foldl (fun acc l => insB acc (pairV i l)) []
theorem thereAt_succ {i j : Nat} (hj : j < (leftOf (i : Int)).length) : thereAt i (j + 1) = insB (thereAt i j) (pairV i (leftOf (i : Int))[j]) := by
  unfold thereAt
  rw [List.take_add_one, List.getElem?_eq_getElem hj, List.foldl_append]; rfl
theorem thereAt_len (i : Nat) : ∀ j, (thereAt i j).length ≤ j
  | 0 => by simp [thereAt]
  | j + 1 => by
    by_cases hj : j < (leftOf (i : Int)).length
    · rw [thereAt_succ hj, insB_len]; exact Nat.succ_le_succ (thereAt_len i j)
    · have e : thereAt i (j + 1) = thereAt i j := by
        unfold thereAt
        rw [List.take_of_length_le (by omega), List.take_of_length_le (by omega)]
      rw [e]; exact Nat.le_succ_of_le (thereAt_len i j)
def thN (i : Nat) : List Int := thereAt i (leftOf (i : Int)).length
def more (ns : List Int) (k : Int) : Bool := decide (((bis ns k : Nat) : Int) < ns.length) && decide (ns.getD (bis ns k) 0 = k)
theorem more_ok : ∀ i : Nat, i < 5 → ∀ k : Nat, k < 5 → (k : Int) ≤ nums.getD i 0 → more (thN i) k = decide ((k : Int) < nums.getD i 0) := by decide +kernel
theorem nums_01 : ∀ i : Nat, i < 6 → ∀ x : Nat, x < 6 → 0 ≤ numAt i (x : Int) ∧ numAt i (x : Int) ≤ 3 := by decide +kernel
theorem pair_ok : ∀ i : Nat, i < 5 → ∀ l ∈ leftOf (i : Int), 0 ≤ l.getD 0 0 ∧ l.getD 0 0 < i ∧ 0 ≤ l.getD 1 0 ∧ l.getD 1 0 < i := by decide +kernel
theorem left_cnt : ∀ i : Nat, i < 5 → (leftOf (i : Int)).length ≤ 9 ∧ (i = 0 → leftOf (i : Int) = []) ∧ (i = 1 → leftOf (i : Int) = [[0, 0]]) := by decide +kernel
abbrev tab1 (c : Nat) : Obj := tabObj #[rawInt 5, rawInt 4, .ref c]
abbrev tab2 (c : Nat) : Obj := tabObj #[rawInt 20, rawInt 4, .ref c]
/-- the tables: empty, or filled -/
inductive Tabs : Bool → Led → Prop
  | empty : Tabs false [(16, tabObj #[]), (23, tabObj #[])]
  | full {c1 c2 : Nat} {oc1 oc2 : Obj} : Inner "_int2digits.<locals>.inner" c1 oc1 → Inner "_digits2int.<locals>.inner" c2 oc2 → Tabs true [(16, tab1 c1), (c1, oc1), (23, tab2 c2), (c2, oc2)]
theorem bothF_use {w : World} {ta tb : Tok} {led : Led} {p : Program} {loose : List Str} {mean : ExcName → Option Value} {mg mb : Str → Option Value} {dp un : Nat} {gd : Option (List Code)} {cn : Str} {cs : Scope} {a : Addr} {ccd : Value} {cl : List (Str × Addr)} {outer : List Env} {A₀ : Around} {base h₀ : Heap} {L : Addr} {m : Str → Option Value} {s : Shared} {Q E : Value → Shared → Prop}
    (B : Below A₀ base outer h₀) (F : Fr h₀ L s.heap m) (X : (topH.heap_39 w.params).In h₀) (T : Top p loose mean mg mb h₀) (hk : cs.kind = .function) (H1 : CodeHd base 27 23) (H2 : CodeHd base 20 16) (N : News h₀ L s.heap led) (rest : Led)
    (hs : ∀ p ∈ (16, tabObj #[]) :: (23, tabObj #[]) :: rest, p ∈ led) (ap1 : ∀ q ∈ rest, @Ne Nat q.1 16) (ap2 : ∀ q ∈ rest, @Ne Nat q.1 23) (room : dp + 14 < recursionLimit) (units : un + 8 * 14 < cLine)
    (h : ∀ t c1 oc1 c2 oc2 h' tk', Inner "_int2digits.<locals>.inner" c1 oc1 → Inner "_digits2int.<locals>.inner" c2 oc2 → (∀ q ∈ rest, @LT.lt Nat _ q.1 c1 ∧ @LT.lt Nat _ q.1 c2) → Fr h₀ L h' m →
      News h₀ L h' ((16, tab1 c1) :: (c1, oc1) :: (23, tab2 c2) :: (c2, oc2) :: rest) → Q (.int 0 t) { s with heap := h', toks := tk' }) :
    wpAny (model PySem.Challenge.rw_ge0002_01.prog w) (ktrTop dp un gd cn cs L a ccd cl outer) (call (.ref 51) [.int 0 ta, .int 0 tb]) Q E s :=
  c_bothF w ta tb p loose mean mg mb dp un gd cn cs a ccd cl outer A₀ base h₀ L m s Q E rest ⟨B, F, X, T, hk, H1, H2, fun p hp => N p (hs p hp)⟩ ap1 ap2 room units h
local macro_rules | `(tactic| k_room) => `(tactic| ktr_room)
local macro_rules | `(tactic| k_all) => `(tactic| (refine Low.ne (by assumption) ?_; (try dsimp only); omega))
local macro_rules | `(tactic| k_mem) => `(tactic| assumption)
local macro_rules | `(tactic| walk_at "call type:range") => `(tactic| k_extra "mine 8")
local macro_rules | `(tactic| walk_at "newTuple") => `(tactic| k_extra "mine 7")
local macro_rules | `(tactic| walk_at "exec For") => `(tactic| k_extra "mine 9")
local macro_rules | `(tactic| walk_at "exec For Name Call cons nil") => `(tactic| k_extra "mine 9")
local macro_rules | `(tactic| walk_at "exec For Tuple Call cons nil") => `(tactic| k_extra "mine 9")
local macro_rules | `(tactic| walk_at "eval Name") => `(tactic| k_extra "mine 11")
local macro_rules | `(tactic| walk_at "call builtin:list.append") => `(tactic| k_extra "mine 20")
local macro_rules | `(tactic| walk_at "call ref") => `(tactic| (k_extra "mine 13"; k_dflt (intro v' tl' h' tk' ho' hl' F' N'; obtain ⟨l', n', ys', tl1', hv', ht', hd'⟩ := ho'; subst hv' ht'; (try simp only [List.cons_append, List.nil_append] at N'))))
local macro_rules | `(tactic| walk_at "call ref") => `(tactic| (k_extra "mine 25"; k_dflt (intro v' tl' h' tk' ho' hl' F' N'; obtain ⟨ht', t', hv'⟩ := ho'; subst hv' ht'; clear hl'; (try simp only [List.cons_append, List.nil_append] at N'))))
local macro_rules | `(tactic| walk_at "call ref") => `(tactic| (k_extra "mine 26"; k_dflt (intro v' o' tl' h' tk' ho' hl' F' N'; obtain ⟨hv', ht', vs', hn', hi'⟩ := ho'; subst hv' ht' hn'; clear hl'; (try dsimp only at N'); (try simp only [List.cons_append, List.nil_append] at N'))))
local macro_rules | `(tactic| walk_at "call ref") => `(tactic| (k_extra "mine 27"; k_dflt (intro v' tl' h' tk' ho' hl' F' N'; obtain ⟨ht', t', hv'⟩ := ho'; subst hv' ht'; clear hl'; (try simp only [List.cons_append, List.nil_append] at N'))))
local macro_rules | `(tactic| k_all) => `(tactic| assumption)
local macro_rules | `(tactic| walk_at "subscriptTail Name Name ref int") => `(tactic| k_extra "mine 28")
theorem len_list_N {prog : Program} {w : World} {A : Around} {E : Value → Shared → Prop} {s : Shared} {h₀ : Heap} {L : Addr} {news : Led} {t : Addr} {vs : List Value} {c : Nat} {ns : List Int} {Q : Value → Shared → Prop} (N : News h₀ L s.heap news) (ht : (t, listOf vs.toArray c) ∈ news) (hi : IntsAre vs ns) (hz : ns.length ≤ 100) (h : Q (.int (ns.length : Int) (s.toks + 1)) { s with toks := s.toks + 1 + 1 }) :
    wpAny (model prog w) A (call (.builtin "len") [.ref t]) Q E s := by
  have e := hi.length
  refine PyProof.Rows.len_list (items := vs.toArray) (News.isList N ht) (by rw [List.size_toArray]; omega) ?_
  rw [List.size_toArray, e]
  exact h
local macro_rules | `(tactic| walk_at "call builtin:len") => `(tactic| k_extra "mine 29")
theorem c_nums (w : World) (tb : Tok) (p : Program) (loose : List Str) (mean : ExcName → Option Value) (mg mb : Str → Option Value) (dp un : Nat) (gd : Option (List Code)) (cn : Str) (cs : Scope) (a : Addr) (ccd : Value) (cl : List (Str × Addr)) (outer : List Env) (A₀ : Around) (base h₀ : Heap) (L : Addr) (m : Str → Option Value) (s : Shared) (Q E : Value → Shared → Prop) (news : Led)
    (hat : At w p loose mean mg mb A₀ base outer h₀ L m cs s.heap ((16, tabObj #[]) :: (23, tabObj #[]) :: news)) (ap1 : ∀ q ∈ news, @Ne Nat q.1 16) (ap2 : ∀ q ∈ news, @Ne Nat q.1 23) (room : dp + 24 < recursionLimit) (units : un + 8 * 24 < cLine)
    (ret : ∀ lf vf nf T h' tk', Tabs true T → IntsAre vf nums → Fr h₀ L h' m → News h₀ L h' ((lf, listOf vf.toArray nf) :: (T ++ news)) → Q (.ref lf) { s with heap := h', toks := tk' }) :
    wpAny (model PySem.Challenge.rw_ge0002_01.prog w) (ktrTop dp un gd cn cs L a ccd cl outer) (call (.ref 63) [.int 4 tb]) Q E s := by
  obtain ⟨B, F, X, T, hk, H1, H2, N⟩ := hat
  revert X; k_fill; intro X
  refine wpAny_call ?_
  k_dflt cell_enter
  k_steps
  rename News _ _ _ _ => NN
  rename Fr _ _ _ _ => FF
  rename_i g' L' hz FG' B' X' T' tkz lf hA lflt hB FB NB r hC u1 v1 rlt
  have hlf : ∀ q ∈ news, @LT.lt Nat _ q.1 lf := all_of_allLt _ lflt.2.2
  have hlf16 : @LT.lt Nat _ 16 lf := lflt.1
  have hlf23 : @LT.lt Nat _ 23 lf := lflt.2.1
  clear rlt lflt NB N
  have hnum : (4 + 1 : Int).toNat = 5 := rfl
  refine iter_range (by decide) rfl FF NN (.head _) ?_
  rw [hnum]
  intro I h₂ St Z
  obtain ⟨J1x, hJ1x⟩ : ∃ J : Nat → (Str → Option Value) → Led → Prop, J = (fun i m₁ led => m₁ (Str.ofString "found") = some (.ref lf) ∧
    ∃ vf nf TT, led = (lf, listOf vf.toArray nf) :: (TT ++ news) ∧ IntsAre vf (nums.take i) ∧ Tabs (decide (2 ≤ i)) TT ∧ ∀ q ∈ TT, q.1 ≠ lf) := ⟨_, rfl⟩
  refine forAt_of (Z.sub (news' := (lf, listOf #[] 0) :: ([(16, tabObj #[]), (23, tabObj #[])] ++ news)) fun p hp => .tail _ hp) (fun _ => listOf #[] 0) J1x ?hfp ?h0 ?step ?done
  case hfp => intro b hb hbI; exact absurd (List.mem_singleton.mp hb) hbI
  case h0 => rw [hJ1x]; exact ⟨rfl, [], 0, _, rfl, .nil, .empty, fun q hq => by
    rcases List.mem_cons.mp hq with rfl | hq
    · exact Nat.ne_of_lt hlf16
    · rw [List.mem_singleton.mp hq]; exact Nat.ne_of_lt hlf23⟩
  case step =>
    rintro i v m₁ led h₁ tk₁ oI hiN ⟨tv, rfl⟩ hj hnI F₁ N₁
    refine turn_gen ?_
    intro QT1 hQT1
    rw [hJ1x] at hj
    obtain ⟨hfound, vf, nf, TT, rfl, hVf, hTabs, hTl⟩ := hj
    have hm4 : (0 : Int) ≤ (i : Int) ∧ (i : Int) ≤ 4 := by omega
    show wpAny _ _ _ _ _ _
    k_steps
    rename News _ _ _ _ => N3
    rename Fr _ _ _ _ => F3
    rename_i hx1 tkx lt hx2 ltlt hx3 Fx Nx hx4 tkz' lv nv yv tlv hTv hlv
    have hlt0 := all_of_allLt _ ltlt.2.2
    have hltI : I ≠ lt := Nat.ne_of_lt ltlt.1
    have hltf : lf ≠ lt := Nat.ne_of_lt ltlt.2.1
    clear ltlt
    have h16T : ∃ o o', (16, o) ∈ TT ∧ (23, o') ∈ TT := by
      have hTabs := hTabs
      generalize decide (2 ≤ i) = bb at hTabs
      cases hTabs with
      | empty => exact ⟨_, _, .head _, .tail _ (.head _)⟩
      | full _ _ => exact ⟨_, _, .head _, .tail _ (.tail _ (.head _))⟩
    obtain ⟨o16, o23, h16T, h23T⟩ := h16T
    have hI16 : @Ne Nat I 16 := Ne.symm (hnI _ (.tail _ (List.mem_append_left _ h16T)))
    have hI23 : @Ne Nat I 23 := Ne.symm (hnI _ (.tail _ (List.mem_append_left _ h23T)))
    have hlt16 : @Ne Nat lt 16 := Nat.ne_of_gt (hlt0 _ (List.mem_append_left _ h16T))
    have hlt23 : @Ne Nat lt 23 := Nat.ne_of_gt (hlt0 _ (List.mem_append_left _ h23T))
    have hbig : ∀ r ∈ (lv, listOf yv nv) :: tlv, @LT.lt Nat _ lt r.1 ∧ @LT.lt Nat _ lf r.1 ∧ @LT.lt Nat _ I r.1 ∧ @LT.lt Nat _ 16 r.1 ∧ @LT.lt Nat _ 23 r.1 := fun r hr =>
      ⟨hlv _ (.head _) r hr, hlv (lf, listOf vf.toArray nf) (.tail _ (.tail _ (.head _))) r hr, hlv (I, oI) (.tail _ (.head _)) r hr, hlv (16, o16) (.tail _ (.tail _ (.tail _ (List.mem_append_left _ h16T)))) r hr, hlv (23, o23) (.tail _ (.tail _ (.tail _ (List.mem_append_left _ h23T)))) r hr⟩
    obtain ⟨R, hRe⟩ : ∃ R, R = (lv, listOf yv nv) :: (tlv ++ ((I, oI) :: news)) := ⟨_, rfl⟩
    have hR : ∀ q ∈ R, @Ne Nat q.1 lt ∧ @Ne Nat q.1 lf ∧ @Ne Nat q.1 16 ∧ @Ne Nat q.1 23 := fun q hq => by
      rw [hRe, ← List.cons_append] at hq
      rcases List.mem_append.mp hq with hq | hq
      · obtain ⟨a, b, _, c, d⟩ := hbig q hq
        exact ⟨Nat.ne_of_gt a, Nat.ne_of_gt b, Nat.ne_of_gt c, Nat.ne_of_gt d⟩
      rcases List.mem_cons.mp hq with rfl | hq
      · exact ⟨hltI, Ne.symm (hnI _ (.head _)), hI16, hI23⟩
      · exact ⟨Nat.ne_of_lt (hlt0 q (List.mem_append_right _ hq)), Nat.ne_of_lt (hlf q hq), ap1 q hq, ap2 q hq⟩
    have hlvR : (lv, listOf yv nv) ∈ R := hRe ▸ .head _
    have htlvR : ∀ q ∈ tlv, q ∈ R := fun q hq => hRe ▸ .tail _ (List.mem_append_left _ hq)
    have hIR : (I, oI) ∈ R := hRe ▸ .tail _ (List.mem_append_right _ (.head _))
    have hnR : ∀ q ∈ news, q ∈ R := fun q hq => hRe ▸ .tail _ (List.mem_append_right _ (.tail _ hq))
    refine iter_list rfl F3 N3 (.head _) ?_
    intro I2 h4 St2 Z2
    obtain ⟨J2x, hJ2x⟩ : ∃ J : Nat → (Str → Option Value) → Led → Prop, J = (fun j m₂ led2 => m₂ (Str.ofString "found") = some (.ref lf) ∧ m₂ (Str.ofString "there") = some (.ref lt) ∧
      ∃ vt nt T2, led2 = (lt, listOf vt.toArray nt) :: ((lf, listOf vf.toArray nf) :: (T2 ++ R)) ∧ IntsAre vt (thereAt i j) ∧ Tabs (decide (2 ≤ i ∨ (i = 1 ∧ 1 ≤ j))) T2 ∧ ∀ q ∈ T2, q.1 ≠ lf ∧ q.1 ≠ lt ∧ q.1 ≠ I) := ⟨_, rfl⟩
    refine forAt_of (Z2.sub (news' := (lt, listOf #[] 0) :: ((lf, listOf vf.toArray nf) :: (TT ++ R))) ?hsub) (fun _ => listOf yv nv) J2x ?hfp2 ?h02 ?step2 ?done2
    case hsub =>
      intro q hq
      rw [hRe] at hq
      simp only [List.mem_cons, List.mem_append] at hq ⊢
      rcases hq with h | h | h | h | h | h | h <;> simp [h]
    case hfp2 =>
      intro b hb hbI j m₂ led2 hj
      rw [hJ2x] at hj
      obtain ⟨_, _, vt, nt, T2, rfl, _⟩ := hj
      rcases List.mem_cons.mp hb with rfl | hb
      · exact absurd rfl hbI
      · rw [List.mem_singleton.mp hb]; exact .tail _ (.tail _ (List.mem_append_right _ hlvR))
    case h02 =>
      rw [hJ2x]
      refine ⟨(if_neg (by decide)).trans ((if_neg (by decide)).trans hfound), nm_hit, [], 0, TT, rfl, .nil, ?_, fun q hq => ⟨hTl q hq, Nat.ne_of_lt (hlt0 q (List.mem_append_left _ hq)), hnI q (.tail _ (List.mem_append_left _ hq))⟩⟩
      rw [show decide (2 ≤ i ∨ (i = 1 ∧ 1 ≤ 0)) = decide (2 ≤ i) by simp]
      exact hTabs
    case step2 =>
      intro j v m₂ led2 h₅ tk₅ oI2 hjN hP hj hnI2 F₅ N₅
      refine turn_gen ?_
      intro QT2 hQT2
      rw [hJ2x] at hj
      obtain ⟨hf2, ht2, vt, nt, T2, rfl, hVt, hT2, hT2l⟩ := hj
      have hjl : j < (leftOf (i : Int)).length := by rw [← hTv.length, Array.length_toList]; exact hjN
      obtain ⟨T, vs2, hg2, hm2, hI2⟩ := hTv.get j hjl
      obtain ⟨pp, qq, hpq⟩ := leftOf_pair _ (List.getElem_mem hjl)
      have hpo := pair_ok i hiN _ (List.getElem_mem hjl)
      have hsucc := thereAt_succ (i := i) hjl
      rw [hpq] at hI2 hpo hsucc
      obtain ⟨ta, tb', rfl⟩ := intsAre_two hI2
      have hv : v = .ref T := by
        rw [Array.getElem?_toList, hP] at hg2
        exact Option.some.inj hg2
      subst hv
      obtain ⟨hp0, hp1, hq0, hq1⟩ := hpo
      have hp0 : 0 ≤ pp := hp0
      have hp1' : pp < i := hp1
      have hq0 : 0 ≤ qq := hq0
      have hq1' : qq < i := hq1
      have hnl : (nums.take i).length = i := by rw [List.length_take]; show min i 5 = i; omega
      have hp1 : pp < ((nums.take i).length : Int) := by rw [hnl]; exact hp1'
      have hq1 : qq < ((nums.take i).length : Int) := by rw [hnl]; exact hq1'
      have hAp : 0 ≤ (nums.take i).getD pp.toNat 0 ∧ (nums.take i).getD pp.toNat 0 ≤ 3 := by
        have := nums_01 i (by omega) pp.toNat (by omega)
        unfold numAt at this
        rw [Int.toNat_natCast] at this
        exact this
      have hAq : 0 ≤ (nums.take i).getD qq.toNat 0 ∧ (nums.take i).getD qq.toNat 0 ≤ 3 := by
        have := nums_01 i (by omega) qq.toNat (by omega)
        unfold numAt at this
        rw [Int.toNat_natCast] at this
        exact this
      have h100 : (thereAt i j).length ≤ 100 := by
        have e1 := thereAt_len i j
        have e2 := (left_cnt i hiN).1
        omega
      generalize hb : decide (2 ≤ i ∨ (i = 1 ∧ 1 ≤ j)) = b at hT2
      cases hT2 with
      | full J1 J2 =>
        rename_i c1 c2 oc1 oc2
        have hm5 : (T, tupOf [Value.int pp ta, Value.int qq tb'].toArray) ∈ (I2, oI2) :: (lf, listOf vf.toArray nf) :: ([(16, tab1 c1), (c1, oc1), (23, tab2 c2), (c2, oc2)] ++ R) := .tail _ (.tail _ (List.mem_append_right _ (htlvR _ hm2)))
        have hlfm : (lf, listOf vf.toArray nf) ∈ (I2, oI2) :: (lf, listOf vf.toArray nf) :: ([(16, tab1 c1), (c1, oc1), (23, tab2 c2), (c2, oc2)] ++ R) := .tail _ (.head _)
        have h16m : (16, tab1 c1) ∈ (I2, oI2) :: (lf, listOf vf.toArray nf) :: ([(16, tab1 c1), (c1, oc1), (23, tab2 c2), (c2, oc2)] ++ R) := .tail _ (.tail _ (.head _))
        have hc1m : (c1, oc1) ∈ (I2, oI2) :: (lf, listOf vf.toArray nf) :: ([(16, tab1 c1), (c1, oc1), (23, tab2 c2), (c2, oc2)] ++ R) := .tail _ (.tail _ (.tail _ (.head _)))
        have h23m : (23, tab2 c2) ∈ (I2, oI2) :: (lf, listOf vf.toArray nf) :: ([(16, tab1 c1), (c1, oc1), (23, tab2 c2), (c2, oc2)] ++ R) := .tail _ (.tail _ (.tail _ (.tail _ (.head _))))
        have hc2m : (c2, oc2) ∈ (I2, oI2) :: (lf, listOf vf.toArray nf) :: ([(16, tab1 c1), (c1, oc1), (23, tab2 c2), (c2, oc2)] ++ R) := .tail _ (.tail _ (.tail _ (.tail _ (.tail _ (.head _)))))
        have hap : ∀ q ∈ (I2, oI2) :: (lf, listOf vf.toArray nf) :: ([(16, tab1 c1), (c1, oc1), (23, tab2 c2), (c2, oc2)] ++ R), q.1 ≠ lt := fun q hq => by
          rcases List.mem_cons.mp hq with rfl | hq
          · exact Ne.symm (hnI2 _ (.head _))
          rcases List.mem_cons.mp hq with rfl | hq
          · exact hltf
          rcases List.mem_append.mp hq with hq | hq
          · exact (hT2l q hq).2.1
          · exact (hR q hq).1
        have N6 : News g' L' h₅ ((lt, listOf vt.toArray nt) :: ((I2, oI2) :: (lf, listOf vf.toArray nf) :: ([(16, tab1 c1), (c1, oc1), (23, tab2 c2), (c2, oc2)] ++ R))) := fun p hp => by
          rcases List.mem_cons.mp hp with rfl | hp
          · exact N₅ _ (.tail _ (.head _))
          rcases List.mem_cons.mp hp with rfl | hp
          · exact N₅ _ (.head _)
          · exact N₅ _ (.tail _ (.tail _ hp))
        clear N₅ Nx
        obtain ⟨rest, hrest⟩ : ∃ r, r = (I2, oI2) :: (lf, listOf vf.toArray nf) :: ([(16, tab1 c1), (c1, oc1), (23, tab2 c2), (c2, oc2)] ++ R) := ⟨_, rfl⟩
        rw [← hrest] at hm5 hlfm h16m hc1m h23m hc2m hap N6
        show wpAny _ _ _ _ _ _
        k_steps
        rename Fr _ _ _ _ => F9
        rename News _ _ _ _ => N9
        rename IntsAre _ (insB _ _) => hI9
        subst hrest
        refine hQT2 _ _ _ ((lt, _) :: ((lf, listOf vf.toArray nf) :: ([(16, tab1 c1), (c1, oc1), (23, tab2 c2), (c2, oc2)] ++ R))) F9 ?_ ?_ (Jin hJ2x ⟨(if_neg (by decide)).trans ((if_neg (by decide)).trans hf2), (if_neg (by decide)).trans ((if_neg (by decide)).trans ht2), _, nt + 1, _, rfl, hsucc ▸ hI9, ?_, hT2l⟩)
        · intro p hp
          rcases List.mem_cons.mp hp with rfl | hp
          · exact N9 _ (.tail _ (.head _))
          rcases List.mem_cons.mp hp with rfl | hp
          · exact N9 _ (.head _)
          · exact N9 _ (.tail _ (.tail _ hp))
        · intro p hp
          rcases List.mem_cons.mp hp with rfl | hp
          · exact hnI2 (lt, listOf vt.toArray nt) (.head _)
          · exact hnI2 p (.tail _ hp)
        · rw [show decide (2 ≤ i ∨ (i = 1 ∧ 1 ≤ j + 1)) = true from decide_eq_true (by have := of_decide_eq_true hb; omega)]
          exact .full J1 J2
      | empty =>
        have hb' := of_decide_eq_false hb
        have hi0 : i ≠ 0 := fun e => by
          have := (left_cnt i hiN).2.1 e
          rw [this] at hjl
          exact absurd hjl (Nat.not_lt_zero _)
        obtain rfl : i = 1 := by omega
        obtain rfl : j = 0 := by omega
        have e00 : [pp, qq] = [0, 0] := hpq.symm.trans rfl
        obtain ⟨rfl, rfl⟩ : pp = 0 ∧ qq = 0 := by simpa using e00
        obtain ⟨led6, hled6⟩ : ∃ r, r = (I2, oI2) :: (lt, listOf vt.toArray nt) :: ((lf, listOf vf.toArray nf) :: ([(16, tabObj #[]), (23, tabObj #[])] ++ R)) := ⟨_, rfl⟩
        have hm5 : (T, tupOf [Value.int 0 ta, Value.int 0 tb'].toArray) ∈ led6 := hled6 ▸ .tail _ (.tail _ (.tail _ (List.mem_append_right _ (htlvR _ hm2))))
        have hlfm : (lf, listOf vf.toArray nf) ∈ led6 := hled6 ▸ .tail _ (.tail _ (.head _))
        have hs6 : ∀ p ∈ (16, tabObj #[]) :: (23, tabObj #[]) :: (I2, oI2) :: (lt, listOf vt.toArray nt) :: (lf, listOf vf.toArray nf) :: R, p ∈ led6 := fun p hp => by
          rw [hled6]
          simp only [List.mem_cons, List.mem_append] at hp ⊢
          rcases hp with h | h | h | h | h | h <;> simp [h]
        have hI216 : @Ne Nat I2 16 := Ne.symm (hnI2 (16, tabObj #[]) (.tail _ (.tail _ (.head _))))
        have hI223 : @Ne Nat I2 23 := Ne.symm (hnI2 (23, tabObj #[]) (.tail _ (.tail _ (.tail _ (.head _)))))
        rw [← hled6] at N₅
        show wpAny _ _ _ _ _ _
        iterate 32 walk1
        k_dflt (refine' bothF_use ?zB ?zF ?zX ?zT ?zK ?z1 ?z2 ?zN ((I2, oI2) :: (lt, listOf vt.toArray nt) :: (lf, listOf vf.toArray nf) :: R) hs6 ?zP ?zQ ?zR ?zU ?_; (case zB => k_asm); (case zF => k_asm); (case zX => k_asm); (case zT => k_asm); (case zK => exact rfl); (case z1 => k_asm); (case z2 => k_asm); (case zN => k_asm); (case zR => ktr_room); (case zU => ktr_units))
        case zP =>
          intro q hq
          rcases List.mem_cons.mp hq with rfl | hq
          · exact hI216
          rcases List.mem_cons.mp hq with rfl | hq
          · exact hlt16
          rcases List.mem_cons.mp hq with rfl | hq
          · exact Nat.ne_of_gt hlf16
          · exact (hR q hq).2.2.1
        case zQ =>
          intro q hq
          rcases List.mem_cons.mp hq with rfl | hq
          · exact hI223
          rcases List.mem_cons.mp hq with rfl | hq
          · exact hlt23
          rcases List.mem_cons.mp hq with rfl | hq
          · exact Nat.ne_of_gt hlf23
          · exact (hR q hq).2.2.2
        intro t9 c1 oc1 c2 oc2 h9 tk9 J1 J2 hcc F9 N9
        have hap : ∀ q ∈ (I2, oI2) :: (lf, listOf vf.toArray nf) :: ([(16, tab1 c1), (c1, oc1), (23, tab2 c2), (c2, oc2)] ++ R), q.1 ≠ lt := fun q hq => by
          rcases List.mem_cons.mp hq with rfl | hq
          · exact Ne.symm (hnI2 (lt, listOf vt.toArray nt) (.head _))
          rcases List.mem_cons.mp hq with rfl | hq
          · exact hltf
          rcases List.mem_append.mp hq with hq | hq
          · simp only [List.mem_cons, List.not_mem_nil, or_false] at hq
            have z := hcc (lt, listOf vt.toArray nt) (.tail _ (.head _))
            rcases hq with rfl | rfl | rfl | rfl
            · exact Ne.symm hlt16
            · exact Nat.ne_of_gt z.1
            · exact Ne.symm hlt23
            · exact Nat.ne_of_gt z.2
          · exact (hR q hq).1
        have N7 : News g' L' h9 ((lt, listOf vt.toArray nt) :: ((I2, oI2) :: (lf, listOf vf.toArray nf) :: ([(16, tab1 c1), (c1, oc1), (23, tab2 c2), (c2, oc2)] ++ R))) := fun p hp => N9 p (by
          simp only [List.mem_cons, List.mem_append, List.not_mem_nil, or_false] at hp ⊢
          rcases hp with h | h | h | (h | h | h | h) | h <;> simp [h])
        have hcf := hcc (lf, listOf vf.toArray nf) (.tail _ (.tail _ (.head _)))
        have hct := hcc (lt, listOf vt.toArray nt) (.tail _ (.head _))
        have hci := hcc (I2, oI2) (.head _)
        have hcI := hcc (I, oI) (.tail _ (.tail _ (.tail _ hIR)))
        clear N9
        obtain ⟨rest, hrest⟩ : ∃ r, r = (I2, oI2) :: (lf, listOf vf.toArray nf) :: ([(16, tab1 c1), (c1, oc1), (23, tab2 c2), (c2, oc2)] ++ R) := ⟨_, rfl⟩
        rw [← hrest] at hap N7
        k_steps
        rename Fr _ _ _ _ => F9
        rename News _ _ _ _ => N9
        rename IntsAre _ (insB _ _) => hI9
        subst hrest
        refine hQT2 _ _ _ ((lt, _) :: ((lf, listOf vf.toArray nf) :: ([(16, tab1 c1), (c1, oc1), (23, tab2 c2), (c2, oc2)] ++ R))) F9 ?_ ?_ (Jin hJ2x ⟨(if_neg (by decide)).trans ((if_neg (by decide)).trans hf2), (if_neg (by decide)).trans ((if_neg (by decide)).trans ht2), _, nt + 1, _, rfl, hsucc ▸ hI9, .full J1 J2, ?_⟩)
        · intro p hp
          rcases List.mem_cons.mp hp with rfl | hp
          · exact N9 _ (.tail _ (.head _))
          rcases List.mem_cons.mp hp with rfl | hp
          · exact N9 _ (.head _)
          · exact N9 _ (.tail _ (.tail _ hp))
        · intro p hp
          rcases List.mem_cons.mp hp with rfl | hp
          · exact hnI2 (lt, listOf vt.toArray nt) (.head _)
          rcases List.mem_cons.mp hp with rfl | hp
          · exact hnI2 _ (.tail _ (.head _))
          rcases List.mem_append.mp hp with hp | hp
          · simp only [List.mem_cons, List.not_mem_nil, or_false] at hp
            rcases hp with rfl | rfl | rfl | rfl
            · exact Ne.symm hI216
            · exact Nat.ne_of_gt hci.1
            · exact Ne.symm hI223
            · exact Nat.ne_of_gt hci.2
          · exact hnI2 p (.tail _ (.tail _ (List.mem_append_right _ hp)))
        · intro q hq
          simp only [List.mem_cons, List.not_mem_nil, or_false] at hq
          rcases hq with rfl | rfl | rfl | rfl
          · exact ⟨Nat.ne_of_lt hlf16, Ne.symm hlt16, Ne.symm hI16⟩
          · exact ⟨Nat.ne_of_gt hcf.1, Nat.ne_of_gt hct.1, Nat.ne_of_gt hcI.1⟩
          · exact ⟨Nat.ne_of_lt hlf23, Ne.symm hlt23, Ne.symm hI23⟩
          · exact ⟨Nat.ne_of_gt hcf.2, Nat.ne_of_gt hct.2, Nat.ne_of_gt hcI.2⟩
    case done2 =>
      intro h9 tk9 m9 led9 F9 N9 hj
      rw [hJ2x] at hj
      obtain ⟨hf9, ht9, vt, nt, T2, rfl, hVt, hT2, hT2l⟩ := hj
      have hyl : yv.size = (leftOf (i : Int)).length := by rw [← hTv.length, Array.length_toList]
      rw [hyl] at hVt
      have hVt : IntsAre vt (thN i) := hVt
      have h100 : (thN i).length ≤ 100 := by
        have e1 := thereAt_len i (leftOf (i : Int)).length
        have e2 := (left_cnt i hiN).1
        show (thereAt i _).length ≤ 100
        omega
      have hltm : (lt, listOf vt.toArray nt) ∈ (lt, listOf vt.toArray nt) :: (lf, listOf vf.toArray nf) :: (T2 ++ R) := .head _
      have hlfm : (lf, listOf vf.toArray nf) ∈ (lt, listOf vt.toArray nt) :: (lf, listOf vf.toArray nf) :: (T2 ++ R) := .tail _ (.head _)
      obtain ⟨led9, hled9⟩ : ∃ r, r = (lt, listOf vt.toArray nt) :: (lf, listOf vf.toArray nf) :: (T2 ++ R) := ⟨_, rfl⟩
      rw [← hled9] at hltm hlfm N9
      have hmore := more_ok i hiN
      have hm5 : 0 ≤ nums.getD i 0 ∧ nums.getD i 0 < 4 := by
        have : i = 0 ∨ i = 1 ∨ i = 2 ∨ i = 3 ∨ i = 4 := by omega
        rcases this with rfl | rfl | rfl | rfl | rfl <;> decide
      iterate 5 walk1
      rename Fr _ _ _ _ => F10
      rename News _ _ _ _ => N10
      refine While_own (fun n m₁ led => led = led9 ∧ m₁ (Str.ofString "found") = some (.ref lf) ∧ m₁ (Str.ofString "there") = some (.ref lt) ∧ ∃ (k : Nat) (tk : Tok), m₁ (Str.ofString "number") = some (.int (k : Int) tk) ∧ (k : Int) ≤ nums.getD i 0 ∧ n = (nums.getD i 0).toNat - k) (nums.getD i 0).toNat F10 N10 ⟨rfl, (if_neg (by decide)).trans hf9, (if_neg (by decide)).trans ht9, 0, _, if_pos rfl, hm5.1, rfl⟩ ?_ (by passes_own)
      rintro n m₁ led h₁ tk₁ ⟨rfl, hf, ht, k, tn, hk, hkm, hn⟩ F11 N11
      have hmk := hmore k (by omega) hkm
      have hzi : vf.toArray.size ≤ sizeLine := by
        have e := hVf.length
        have e3 : sizeLine = 2 ^ 24 := rfl
        rw [List.length_take] at e
        have e4 : nums.length = 5 := rfl
        rw [List.size_toArray]
        omega
      k_steps
      · rename Fr g' _ _ _ => F12
        rename News g' _ _ _ => N12
        have hkl : (k : Int) < nums.getD i 0 := by
          apply of_decide_eq_true
          rw [← hmk]
          unfold more
          rw [Bool.and_eq_true]
          exact ⟨decide_eq_true (by assumption), decide_eq_true (by assumption)⟩
        exact ⟨_, _, _, _, rfl, F12, N12, (nums.getD i 0).toNat - (k + 1), by omega, rfl, (if_neg (by decide)).trans hf, (if_neg (by decide)).trans ht, k + 1, _, (if_pos rfl).trans (congrArg (fun z => some (Value.int z _)) (Int.natCast_succ k).symm), by omega, rfl⟩
      · have hkl : (k : Int) = nums.getD i 0 := by
          have : ¬ (k : Int) < nums.getD i 0 := by
            apply of_decide_eq_false
            rw [← hmk]
            unfold more
            rw [Bool.and_eq_false_iff]
            exact .inr (decide_eq_false (by assumption))
          omega
        k_steps
        rename Fr g' _ _ _ => F12
        rename ∀ led : Led, _ → News _ _ _ _ => HN
        have HN := HN ((I, oI) :: (T2 ++ news)) fun p hp => by
          rw [hled9]
          rcases List.mem_cons.mp hp with rfl | hp
          · exact ⟨.tail _ (.tail _ (List.mem_append_right _ hIR)), Ne.symm (hnI (lf, listOf vf.toArray nf) (.head _))⟩
          rcases List.mem_append.mp hp with hp | hp
          · exact ⟨.tail _ (.tail _ (List.mem_append_left _ hp)), (hT2l p hp).1⟩
          · exact ⟨.tail _ (.tail _ (List.mem_append_right _ (hnR p hp))), Nat.ne_of_lt (hlf p hp)⟩
        rw [List.push_toArray] at HN
        refine hQT1 _ _ _ ((lf, listOf (vf ++ [Value.int (k : Int) tn]).toArray (nf + 1)) :: (T2 ++ news)) F12 ?_ ?_ (Jin hJ1x ⟨hf, _, _, T2, rfl, ?_, ?_, fun q hq => (hT2l q hq).1⟩)
        · intro p hp
          rcases List.mem_cons.mp hp with rfl | hp
          · exact HN _ (.tail _ (.head _))
          rcases List.mem_cons.mp hp with rfl | hp
          · exact HN _ (.head _)
          · exact HN _ (.tail _ (.tail _ hp))
        · intro p hp
          rcases List.mem_cons.mp hp with rfl | hp
          · exact hnI (lf, listOf vf.toArray nf) (.head _)
          rcases List.mem_append.mp hp with hp | hp
          · exact (hT2l p hp).2.2
          · exact hnI p (.tail _ (List.mem_append_right _ hp))
        · have e1 : nums.take (i + 1) = nums.take i ++ [nums.getD i 0] := by
            have hl : i < nums.length := hiN
            rw [List.take_add_one, List.getElem?_eq_getElem hl]; simp [hl]
          rw [e1, ← hkl]
          exact IntsAre.append hVf (.cons _ _ .nil)
        · have e2 : decide (2 ≤ i ∨ (i = 1 ∧ 1 ≤ yv.size)) = decide (2 ≤ i + 1) := by
            apply decide_eq_decide.mpr
            constructor
            · intro h; omega
            · intro h
              by_cases h1 : i = 1
              · right
                refine ⟨h1, ?_⟩
                rw [hyl, (left_cnt i hiN).2.2 h1]
                decide
              · left; omega
          rw [← e2]
          exact hT2
      · have hkl : (k : Int) = nums.getD i 0 := by
          have : ¬ (k : Int) < nums.getD i 0 := by
            apply of_decide_eq_false
            rw [← hmk]
            unfold more
            rw [Bool.and_eq_false_iff]
            exact .inl (decide_eq_false (by assumption))
          omega
        k_steps
        rename Fr g' _ _ _ => F12
        rename ∀ led : Led, _ → News _ _ _ _ => HN
        have HN := HN ((I, oI) :: (T2 ++ news)) fun p hp => by
          rw [hled9]
          rcases List.mem_cons.mp hp with rfl | hp
          · exact ⟨.tail _ (.tail _ (List.mem_append_right _ hIR)), Ne.symm (hnI (lf, listOf vf.toArray nf) (.head _))⟩
          rcases List.mem_append.mp hp with hp | hp
          · exact ⟨.tail _ (.tail _ (List.mem_append_left _ hp)), (hT2l p hp).1⟩
          · exact ⟨.tail _ (.tail _ (List.mem_append_right _ (hnR p hp))), Nat.ne_of_lt (hlf p hp)⟩
        rw [List.push_toArray] at HN
        refine hQT1 _ _ _ ((lf, listOf (vf ++ [Value.int (k : Int) tn]).toArray (nf + 1)) :: (T2 ++ news)) F12 ?_ ?_ (Jin hJ1x ⟨hf, _, _, T2, rfl, ?_, ?_, fun q hq => (hT2l q hq).1⟩)
        · intro p hp
          rcases List.mem_cons.mp hp with rfl | hp
          · exact HN _ (.tail _ (.head _))
          rcases List.mem_cons.mp hp with rfl | hp
          · exact HN _ (.head _)
          · exact HN _ (.tail _ (.tail _ hp))
        · intro p hp
          rcases List.mem_cons.mp hp with rfl | hp
          · exact hnI (lf, listOf vf.toArray nf) (.head _)
          rcases List.mem_append.mp hp with hp | hp
          · exact (hT2l p hp).2.2
          · exact hnI p (.tail _ (List.mem_append_right _ hp))
        · have e1 : nums.take (i + 1) = nums.take i ++ [nums.getD i 0] := by
            have hl : i < nums.length := hiN
            rw [List.take_add_one, List.getElem?_eq_getElem hl]; simp [hl]
          rw [e1, ← hkl]
          exact IntsAre.append hVf (.cons _ _ .nil)
        · have e2 : decide (2 ≤ i ∨ (i = 1 ∧ 1 ≤ yv.size)) = decide (2 ≤ i + 1) := by
            apply decide_eq_decide.mpr
            constructor
            · intro h; omega
            · intro h
              by_cases h1 : i = 1
              · right
                refine ⟨h1, ?_⟩
                rw [hyl, (left_cnt i hiN).2.2 h1]
                decide
              · left; omega
          rw [← e2]
          exact hT2
  case done =>
    intro h9 tk9 m9 led9 F9 N9 hj
    rw [hJ1x] at hj
    obtain ⟨hf9, vf, nf, TT, rfl, hVf, hT9, hTl⟩ := hj
    k_steps
    rename News h₀ L _ _ => N10
    rename Fr h₀ L _ _ => F10
    exact ret _ vf nf TT _ _ hT9 hVf F10 N10
end
section
set_option maxHeartbeats 8000000
def posS : List (List Int) := [[4, 4, 4], [3, 4, 4], [1, 2, 4, 4], [2, 4, 4], [1, 1, 4, 4], [1, 4, 4], [3, 3, 4], [1, 2, 3, 4], [2, 3, 4], [1, 1, 3, 4], [1, 1, 2, 2, 4], [1, 2, 2, 4], [1, 1, 1, 2, 4], [4, 4], [2, 2, 4], [1, 1, 2, 4], [1, 1, 1, 1, 4], [1, 3, 4], [1, 2, 4], [1, 1, 1, 4], [3, 3, 3], [1, 2, 3, 3], [2, 3, 3], [1, 1, 3, 3], [1, 1, 2, 2, 3], [1, 2, 2, 3], [1, 1, 1, 2, 3], [3, 4], [2, 2, 3], [1, 1, 2, 3], [1, 1, 1, 1, 3], [1, 1, 1, 2, 2, 2], [1, 1, 2, 2, 2], [1, 1, 1, 1, 2, 2], [1, 2, 2, 2], [1, 1, 1, 2, 2], [1, 1, 1, 1, 1, 2], [2, 4], [1, 1, 4], [2, 2, 2], [1, 1, 2, 2], [1, 1, 1, 1, 2], [1, 1, 1, 1, 1, 1], [1, 3, 3], [1, 2, 3], [1, 1, 1, 3], [1, 4], [1, 2, 2], [1, 1, 1, 2], [1, 1, 1, 1, 1], [3, 3], [2, 3], [1, 1, 3], [4], [2, 2], [1, 1, 2], [1, 1, 1, 1], [1, 3], [1, 2], [1, 1, 1], [3], [2], [1, 1], [1], []]
def nim (xs : List Int) : Int := xs.foldl (fun a r => xorv a (nums.getD r.toNat 0)) 0
def win (xs : List Int) : Bool := decide (nim xs ≠ 0)
def total (xs : List Int) : Nat := (xs.foldl (· + ·) 0).toNat
def goodP (p : List Int) : Bool :=
  decide (p.length ≤ 12) && p.all (fun x => decide (0 ≤ x) && decide (x ≤ 4)) && decide (total p ≤ 12) &&
  (moves p).all (fun q => posS.contains q && decide (total q < total p)) &&
  ((moves p).any (fun q => !win q) == win p) &&
  !((moves p).map nim).contains (nim p) && (decide (nim p = 0) || ((moves p).map nim).contains 0)
theorem posS_good : posS.all goodP = true := by decide +kernel
end
section
set_option linter.unusedVariables false
theorem nodup_len {α : Type} [DecidableEq α] : ∀ (l S : List α), l.Nodup → (∀ k ∈ l, k ∈ S) → l.length ≤ S.length
  | [], _, _, _ => Nat.zero_le _
  | k :: r, S, hn, hs => by
    rw [List.nodup_cons] at hn
    have h1 : k ∈ S := hs k (.head _)
    have h2 := nodup_len r (S.erase k) hn.2 fun x hx => (List.mem_erase_of_ne (fun (e : x = k) => hn.1 (by rw [← e]; exact hx))).mpr (hs x (.tail _ hx))
    rw [List.length_erase_of_mem h1] at h2
    have h3 : 0 < S.length := List.length_pos_of_mem h1
    rw [List.length_cons]; omega
theorem posS_len : posS.length ≤ 100 := by decide
abbrev Ent := List Int × Addr × Value
abbrev TK (prog : Program) (w : World) := tupleKind (intKind prog w)
/-- the entries of the dict of positions: tuples of the key ledger, each with its win -/
structure KXs (K : Led) (xs : List Ent) : Prop where
  nd : (xs.map (·.1)).Nodup
  all : ∀ x ∈ xs, x.1 ∈ posS ∧ x.2.2 = .bool (win x.1) ∧ ∃ vs, (x.2.1, tupOf vs.toArray) ∈ K ∧ IntsAre vs x.1
theorem KXs.mono {K K' : Led} {xs : List Ent} (h : KXs K xs) (hs : ∀ p ∈ K, p ∈ K') : KXs K' xs := ⟨h.nd, fun x hx => let ⟨a, b, vs, c, d⟩ := h.all x hx; ⟨a, b, vs, hs _ c, d⟩⟩
theorem KXs.len {K : Led} {xs : List Ent} (h : KXs K xs) : xs.length ≤ 100 := by
  have := nodup_len (xs.map (·.1)) posS h.nd fun k hk => by
    obtain ⟨x, hx, rfl⟩ := List.mem_map.mp hk
    exact (h.all x hx).1
  rw [List.length_map] at this
  exact Nat.le_trans this posS_len
def IsD (prog : Program) (w : World) (o : Obj) (xs : List Ent) : Prop := o.ExactDict ∧ ∃ es ep, o.data = .dict es ep ∧ es.toList = xs.map (entryOfKey (TK prog w))
theorem atKey_mem {xs : List Ent} {k : List Int} {p : Addr × Value} (h : atKey xs k = some p) : (k, p) ∈ xs := by
  unfold atKey at h
  obtain ⟨x, hx, rfl⟩ := Option.map_eq_some_iff.mp h
  have h1 := List.find?_some hx
  have h2 := List.mem_of_find?_eq_some hx
  have h3 : x.1 = k := of_decide_eq_true h1
  rw [← h3]; exact h2
theorem atKey_of_mem {xs : List Ent} {x : Ent} (h : x ∈ xs) : (atKey xs x.1).isSome := by
  unfold atKey
  rw [Option.isSome_map, List.find?_isSome]
  exact ⟨x, h, decide_eq_true rfl⟩
theorem itemsAre_of {prog : Program} {w : World} : ∀ {vs : List Value} {ns : List Int}, IntsAre vs ns → PySem.ItemsAre (intKind prog w) ns vs
  | _, _, .nil => .nil
  | _, _, .cons n t h => .cons (by show Value.isInt n (.int n t) = true; simp [Value.isInt]) (itemsAre_of h)
section
variable {prog : Program} {w : World} {A : Around} {E : Value → Shared → Prop} {s : Shared} {h₀ h : Heap} {L : Addr} {m : Str → Option Value} {led K : Led} {d t : Addr} {o : Obj} {xs : List Ent} {vs : List Value} {ns : List Int}
theorem IsD.at (D : IsD prog w o xs) (X : KXs K xs) (N : News h₀ L h led) (hd : (d, o) ∈ led) (hK : ∀ p ∈ K, p ∈ led) : h.DictOfH (TK prog w) d xs :=
  let ⟨hc, es, ep, hdat, he⟩ := D
  ⟨o, es, ep, (N _ hd).1, hc, hdat, he, fun x hx => let ⟨_, _, vs, hm, hi⟩ := X.all x hx; ⟨_, vs.toArray, 0, (N _ (hK _ hm)).1, rfl, rfl, itemsAre_of hi⟩, X.nd⟩
theorem key_of (N : News h₀ L h led) (ht : (t, tupOf vs.toArray) ∈ led) (hi : IntsAre vs ns) : (TK prog w).is h ns t := ⟨_, vs.toArray, 0, (N _ ht).1, rfl, rfl, itemsAre_of hi⟩
theorem notin_K {Q : Value → Shared → Prop} (N : News h₀ L s.heap led) (hd : (d, o) ∈ led) (D : IsD prog w o xs) (X : KXs K xs) (hK : ∀ p ∈ K, p ∈ led) (ht : (t, tupOf vs.toArray) ∈ led) (hi : IntsAre vs ns) (hs : (d == sysModules) = false) (hu : A.units + 1 < cLine)
    (h : ∀ tk, Q (.bool (!(atKey xs ns).isSome)) { s with toks := tk }) : wpAny (model prog w) A (compareOp .NotIn (.ref t) (.ref d)) Q E s :=
  wpAny_notIn_heap (knd := TK prog w) (tupleKind_room_in1 hu) (key_of N ht hi) hs (D.at X N hd hK) (h _)
theorem item_K {value slice : PySem.Expr} {Q : Value → Shared → Prop} (N : News h₀ L s.heap led) (hd : (d, o) ∈ led) (D : IsD prog w o xs) (X : KXs K xs) (hK : ∀ p ∈ K, p ∈ led) (ht : (t, tupOf vs.toArray) ∈ led) (hi : IntsAre vs ns) (hu : A.units + 1 < cLine) (hp : (atKey xs ns).isSome)
    (hs : subscripted slice false (.ref d) (.ref t) = operate [.ref d, .ref t] (getItem (.ref d) (.ref t))) (hg : ∀ r, letTemporaryGo value (.ref d) r = pure ()) (h : ∀ tk, Q (.bool (win ns)) { s with toks := tk }) :
    wpAny (model prog w) A (subscriptTail value slice (.ref d) (.ref t)) Q E s := by
  obtain ⟨p, hp⟩ := Option.isSome_iff_exists.mp hp
  have H := D.at X N hd hK
  have e := (X.all _ (atKey_mem hp)).2.1
  refine subscriptTail_builtin H.typeIs slot_dict_getitem.lookup (wpAny_getItem_heap (knd := TK prog w) (tupleKind_room_in1 hu) (key_of N ht hi) H hp ?_) hs hg
  rw [show p.2 = .bool (win ns) from e]
  exact h _
theorem set_K {b : Bool} {Q : Unit → Shared → Prop} (F : Fr h₀ L s.heap m) (N : News h₀ L s.heap ((d, o) :: led)) (hne : ∀ q ∈ led, q.1 ≠ d) (D : IsD prog w o xs) (X : KXs K xs) (hK : ∀ p ∈ K, p ∈ led) (ht : (t, tupOf vs.toArray) ∈ led) (hi : IntsAre vs ns) (hu : A.units + 1 < cLine) (hp : ns ∈ posS) (hb : b = win ns)
    (h : ∀ h' o' xs' tk, Fr h₀ L h' m → News h₀ L h' ((d, o') :: led) → IsD prog w o' xs' → KXs ((t, tupOf vs.toArray) :: K) xs' → (atKey xs' ns).isSome → Q () { s with heap := h', toks := tk }) :
    wpAny (model prog w) A (setItem (.ref d) (.ref t) (.bool b)) Q E s := by
  subst hb
  have H := D.at X N (.head _) fun p hp => .tail _ (hK p hp)
  have z := N _ (List.mem_cons_self (a := (d, o)) (l := led))
  refine wpAny_setItem_heap (hsz := Nat.le_trans X.len (by decide)) (knd := TK prog w) (tupleKind_room_in1 hu) (key_of N (.tail _ ht) hi) H fun h' hm hs => ?_
  obtain ⟨o', es', ep', ho', hc', hd', he', _, hn'⟩ := hm
  refine h h' o' _ _ (F.change hs z.2.1 z.2.2) (fun p hp => ?_) ⟨hc', es', ep', hd', he'⟩ ⟨hn', fun x hx => ?_⟩ ?_
  · rcases List.mem_cons.mp hp with rfl | hp
    · exact ⟨ho', z.2⟩
    · have y := N p (.tail _ hp)
      exact ⟨(hs.2 _ (hne p hp)).trans y.1, y.2⟩
  · unfold storedH at hx
    split at hx
    · obtain ⟨y, hy, rfl⟩ := List.mem_map.mp hx
      obtain ⟨a, c, ws, e, f⟩ := X.all y hy
      unfold putAt
      split
      · rename_i hyk
        exact ⟨a, by rw [← hyk], ws, .tail _ e, f⟩
      · exact ⟨a, c, ws, .tail _ e, f⟩
    · rcases List.mem_append.mp hx with hx | hx
      · obtain ⟨a, c, ws, e, f⟩ := X.all x hx
        exact ⟨a, c, ws, .tail _ e, f⟩
      · rw [List.mem_singleton.mp hx]
        exact ⟨hp, rfl, vs, .head _, hi⟩
  · unfold storedH
    split
    · rename_i hsome
      obtain ⟨p, hp⟩ := Option.isSome_iff_exists.mp hsome
      have := atKey_of_mem (List.mem_map.mpr ⟨_, atKey_mem hp, rfl⟩ : putAt ns (.bool (win ns)) (ns, p) ∈ xs.map (putAt ns (.bool (win ns))))
      have e : (putAt ns (.bool (win ns)) (ns, p)).1 = ns := by unfold putAt; split <;> rfl
      rw [e] at this
      exact this
    · exact atKey_of_mem (x := (ns, t, .bool (win ns))) (List.mem_append_right _ (.head _))
end
end
section
set_option linter.unusedVariables false
structure Good (p : List Int) : Prop where
  len : p.length ≤ 12
  ran : ∀ x ∈ p, 0 ≤ x ∧ x ≤ 4
  tot : total p ≤ 12
  mem : ∀ q ∈ moves p, q ∈ posS
  dec : ∀ q ∈ moves p, total q < total p
  win : (moves p).any (fun q => !win q) = win p
  out : nim p ∉ (moves p).map nim
  zero : nim p ≠ 0 → 0 ∈ (moves p).map nim
theorem good {p : List Int} (h : p ∈ posS) : Good p := by
  have g := List.all_eq_true.mp posS_good p h
  unfold goodP at g
  simp only [Bool.and_eq_true, decide_eq_true_eq, List.all_eq_true, beq_iff_eq, Bool.not_eq_true', Bool.or_eq_true, List.contains_iff_mem, List.elem_eq_contains] at g
  obtain ⟨⟨⟨⟨⟨⟨g1, g2⟩, g3⟩, g4⟩, g5⟩, g6⟩, g7⟩ := g
  refine ⟨g1, g2, g3, fun q hq => (g4 q hq).1, fun q hq => (g4 q hq).2, g5, fun hm => ?_, fun hn => ?_⟩
  · have := List.contains_iff_mem.mpr hm
    rw [this] at g6
    cases g6
  · rcases g7 with g7 | g7
    · exact absurd g7 hn
    · exact g7
theorem filter_any (f : List Int → Bool) : ∀ l : List (List Int), (!(l.filter f).isEmpty) = l.any f
  | [] => rfl
  | a :: r => by cases h : f a <;> simp [List.filter_cons, h, filter_any f r]
theorem datAll_ints {K : Led} : ∀ {vs : List Value} {ns : List Int}, IntsAre vs ns → DatAll K vs (ns.map Dat.int)
  | _, _, .nil => .nil
  | _, _, .cons n t h => .cons (.int n t) (datAll_ints h)
theorem datAll_tups {K : Led} : ∀ {vals : List Value} {lls : List (List Int)}, TupsAre K vals lls → DatAll K vals (lls.map fun ns => Dat.tuple (ns.map Dat.int))
  | _, _, .nil => .nil
  | _, _, .cons a b c => .cons (.tuple a (datAll_ints b)) (datAll_tups c)
section
variable {prog : Program} {w : World} {A : Around} {E : Value → Shared → Prop} {s : Shared} {h₀ h : Heap} {L : Addr} {m : Str → Option Value} {led K : Led} {d t : Addr} {o : Obj} {xs : List Ent} {vs : List Value} {ns : List Int}
theorem ne_nil_K {D e : Addr} {ys : Array Value} {n n2 : Nat} {lls : List (List Int)} {Q : Value → Shared → Prop} (N : News h₀ L s.heap led) (hl : (D, listOf ys n) ∈ led) (hT : TupsAre K ys.toList lls) (hK : ∀ p ∈ K, p ∈ led) (he : (e, listOf #[] n2) ∈ led) (hu : A.units + 64 < cLine) {b : Bool} (hb : (!lls.isEmpty) = b)
    (h : Q (.bool b) s) : wpAny (model prog w) A (compareOp .NotEq (.ref D) (.ref e)) Q E s := by
  subst hb
  refine kqd_ne (xs := ys.toList) (ys := []) (ds := lls.map fun ns => Dat.tuple (ns.map Dat.int)) (es := []) N hl rfl (by simp; rfl) (datAll_tups hT) hK he rfl rfl (.nil (news := led)) (fun _ h => h) (fun d hd => ?_) (fun _ h => nomatch h) hu ?_
  · obtain ⟨ns, _, rfl⟩ := List.mem_map.mp hd
    unfold kqdOk
    rw [List.all_eq_true]
    intro x hx
    obtain ⟨i, _, rfl⟩ := List.mem_map.mp hx
    rfl
  · cases lls with
    | nil => simpa using h
    | cons a r => simpa using h
theorem notin_yes {Q : Value → Shared → Prop} (N : News h₀ L s.heap led) (hd : (d, o) ∈ led) (D : IsD prog w o xs) (X : KXs K xs) (hK : ∀ p ∈ K, p ∈ led) (ht : (t, tupOf vs.toArray) ∈ led) (hi : IntsAre vs ns) (hs : (d == sysModules) = false) (hu : A.units + 1 < cLine) (hb : (atKey xs ns).isSome = true)
    (h : ∀ tk, Q (.bool false) { s with toks := tk }) : wpAny (model prog w) A (compareOp .NotIn (.ref t) (.ref d)) Q E s :=
  notin_K N hd D X hK ht hi hs hu fun tk => by rw [hb]; exact h tk
theorem notin_no {Q : Value → Shared → Prop} (N : News h₀ L s.heap led) (hd : (d, o) ∈ led) (D : IsD prog w o xs) (X : KXs K xs) (hK : ∀ p ∈ K, p ∈ led) (ht : (t, tupOf vs.toArray) ∈ led) (hi : IntsAre vs ns) (hs : (d == sysModules) = false) (hu : A.units + 1 < cLine) (hb : (atKey xs ns).isSome = false)
    (h : ∀ tk, Q (.bool true) { s with toks := tk }) : wpAny (model prog w) A (compareOp .NotIn (.ref t) (.ref d)) Q E s :=
  notin_K N hd D X hK ht hi hs hu fun tk => by rw [hb]; exact h tk
end
end
section
theorem linesC14 : True := by
  w_top off
  (k_with "mine 30" => k_here; k_dflt (refine' Con.use (c_next _ _ _ _ ?zI ?zL ?zA) ?zB ?zF ?zX ?zT ?zK ?z1 ?z2 ?zN ?zS ?zR ?zU ?_; (case zB => k_asm); (case zF => k_asm); (case zX => k_asm); (case zT => k_asm); (case zK => exact rfl); (case z1 => k_asm); (case z2 => k_asm); (case zN => k_asm); (case zI => assumption); (case zL => assumption); (case zA => assumption); (case zS => (intro p hp; cases List.mem_singleton.mp hp; k_mem)); (case zR => ktr_room); (case zU => ktr_units)))
  (k_with "mine 31" => k_here; k_dflt (refine' item_K ?y1 ?y2 ?y3 ?y4 ?y5 ?y6 ?y7 ?y9 ?y0 ?z1 ?z2 ?_; (case y1 => k_asm); (case y3 => assumption); (case y2 => k_mem); (case y4 => assumption); (case y5 => (intro p hp; (refine List.Mem.tail _ ?_); revert hp; revert p; assumption)); (case y6 => k_mem); (case y7 => assumption); (case y9 => ktr_units); (case y0 => assumption); (case z1 => with_unfolding_all rfl); (case z2 => (intro _; with_unfolding_all rfl))); intro _)
  exact trivial
set_option maxHeartbeats 1000000
set_option linter.unusedVariables false
local macro_rules | `(tactic| k_room) => `(tactic| ktr_room)
local macro_rules | `(tactic| k_all) => `(tactic| (refine Low.ne (by assumption) ?_; (try dsimp only); omega))
local macro_rules | `(tactic| k_mem) => `(tactic| assumption)
local macro_rules | `(tactic| walk_at "eval ListComp") => `(tactic| k_extra "mine 14")
local macro_rules | `(tactic| walk_at "eval Name") => `(tactic| (k_here; (with_reducible show wpAny _ _ (eval _ (compEnvC _ _ _ _)) _ _ _); k_dflt (refine' nameC ?y1 ?y2 ?y3 ?y4 ?_ ?y5 ?y6 ?y7; (case y5 => rfl); (case y6 => rfl); (case y1 => k_asm); (case y3 => assumption); (case y2 => k_mem); (case y4 => assumption); (case y7 => decide); k_whole)))
local macro_rules | `(tactic| walk_at "call ref") => `(tactic| (k_extra "mine 30"; k_dflt (intro v' tl' h' tk' ho' hl' F' N'; obtain ⟨l', n', ys', tl1', hv', ht', hd'⟩ := ho'; subst hv' ht'; (try simp only [List.cons_append, List.nil_append] at N'))))
local macro_rules | `(tactic| walk_at "compareOp NotIn ref ref") => `(tactic| (k_here; k_dflt (first
  | (refine' notin_yes ?y1 ?y2 ?y3 ?y4 ?y5 ?y6 ?y7 ?y8 ?y9 ?y0 ?_; (case y0 => assumption); (case y1 => k_asm); (case y3 => assumption); (case y2 => k_mem); (case y4 => assumption); (case y5 => (intro p hp; (refine List.Mem.tail _ ?_); revert hp; revert p; assumption)); (case y6 => k_mem); (case y7 => assumption); (case y8 => assumption); (case y9 => ktr_units))
  | (refine' notin_no ?y1 ?y2 ?y3 ?y4 ?y5 ?y6 ?y7 ?y8 ?y9 ?y0 ?_; (case y0 => assumption); (case y1 => k_asm); (case y3 => assumption); (case y2 => k_mem); (case y4 => assumption); (case y5 => (intro p hp; (refine List.Mem.tail _ ?_); revert hp; revert p; assumption)); (case y6 => k_mem); (case y7 => assumption); (case y8 => assumption); (case y9 => ktr_units))); intro tk'))
local macro_rules | `(tactic| walk_at "subscriptTail Name Name ref ref") => `(tactic| k_extra "mine 31")
/-- the contract of _law_wins at totals up to σ -/
def WinsC (w : World) (σ : Nat) : Prop :=
  ∀ (ns : List Int) (hp : ns ∈ posS) (hσ : total ns ≤ σ) (t : Addr) (vs : List Value) (d : Addr) (o : Obj) (xs : List Ent) (K : Led) (hi : IntsAre vs ns) (hds : (d == sysModules) = false)
    (p : Program) (loose : List Str) (mean : ExcName → Option Value) (mg mb : Str → Option Value) (dp un : Nat) (gd : Option (List Code)) (cn : Str) (cs : Scope) (a : Addr) (ccd : Value) (cl : List (Str × Addr)) (outer : List Env) (A₀ : Around) (base h₀ : Heap) (L : Addr) (m : Str → Option Value) (s : Shared) (Q E : Value → Shared → Prop) (news : Led)
    (hat : At w p loose mean mg mb A₀ base outer h₀ L m cs s.heap ((d, o) :: news)) (hne : ∀ q ∈ news, q.1 ≠ d) (ht : (t, tupOf vs.toArray) ∈ news) (D : IsD PySem.Challenge.rw_ge0002_01.prog w o xs) (X : KXs K xs) (hK : ∀ p ∈ K, p ∈ news)
    (room : dp + (16 + 4 * σ) < recursionLimit) (units : un + 8 * (16 + 4 * σ) < cLine)
    (ret : ∀ o' xs' K' tl h' tk', IsD PySem.Challenge.rw_ge0002_01.prog w o' xs' → KXs K' xs' → (atKey xs' ns).isSome = true → (∀ p ∈ K', p ∈ K ∨ p = (t, tupOf vs.toArray) ∨ p ∈ tl) → Gt news tl → (∀ r ∈ tl, r.1 ≠ d) → Fr h₀ L h' m →
      News h₀ L h' ((d, o') :: (tl ++ news)) → Q (.bool (win ns)) { s with heap := h', toks := tk' }),
    wpAny (model PySem.Challenge.rw_ge0002_01.prog w) (ktrTop dp un gd cn cs L a ccd cl outer) (call (.ref 73) [.ref t, .ref d]) Q E s
theorem WinsC.use {w : World} {σ : Nat} (C : WinsC w σ) {ns : List Int} {t : Addr} {vs : List Value} {d : Addr} {o : Obj} {xs : List Ent} {K : Led} {led : Led} {p : Program} {loose : List Str} {mean : ExcName → Option Value} {mg mb : Str → Option Value} {dp un : Nat} {gd : Option (List Code)} {cn : Str} {cs : Scope} {a : Addr} {ccd : Value} {cl : List (Str × Addr)} {outer : List Env} {A₀ : Around} {base h₀ : Heap} {L : Addr} {m : Str → Option Value} {s : Shared} {Q E : Value → Shared → Prop}
    (B : Below A₀ base outer h₀) (F : Fr h₀ L s.heap m) (X : (topH.heap_39 w.params).In h₀) (T : Top p loose mean mg mb h₀) (hk : cs.kind = .function) (H1 : CodeHd base 27 23) (H2 : CodeHd base 20 16) (N : News h₀ L s.heap led) (news : Led) (hs : ∀ p ∈ (d, o) :: news, p ∈ led)
    (hp : ns ∈ posS) (hσ : total ns ≤ σ) (hi : IntsAre vs ns) (hds : (d == sysModules) = false) (hne : ∀ q ∈ news, q.1 ≠ d) (ht : (t, tupOf vs.toArray) ∈ news) (D : IsD PySem.Challenge.rw_ge0002_01.prog w o xs) (X1 : KXs K xs) (hK : ∀ p ∈ K, p ∈ news)
    (room : dp + (16 + 4 * σ) < recursionLimit) (units : un + 8 * (16 + 4 * σ) < cLine)
    (ret : ∀ o' xs' K' tl h' tk', IsD PySem.Challenge.rw_ge0002_01.prog w o' xs' → KXs K' xs' → (atKey xs' ns).isSome = true → (∀ p ∈ K', p ∈ K ∨ p = (t, tupOf vs.toArray) ∨ p ∈ tl) → Gt news tl → (∀ r ∈ tl, r.1 ≠ d) → Fr h₀ L h' m →
      News h₀ L h' ((d, o') :: (tl ++ news)) → Q (.bool (win ns)) { s with heap := h', toks := tk' }) :
    wpAny (model PySem.Challenge.rw_ge0002_01.prog w) (ktrTop dp un gd cn cs L a ccd cl outer) (call (.ref 73) [.ref t, .ref d]) Q E s :=
  C ns hp hσ t vs d o xs K hi hds p loose mean mg mb dp un gd cn cs a ccd cl outer A₀ base h₀ L m s Q E news ⟨B, F, X, T, hk, H1, H2, fun p hp => N p (hs p hp)⟩ hne ht D X1 hK room units ret
theorem c_wins (w : World) : ∀ (σ : Nat), WinsC w σ := by
  intro σ
  induction σ using Nat.strongRecOn with
  | _ σ ih =>
  intro ns hp hσ t vs d o xs K hi hds p loose mean mg mb dp un gd cn cs a ccd cl outer A₀ base h₀ L m s Q E news hat hne ht D X0 hK room units ret
  obtain ⟨B, F, X, T, hk, H1, H2, N⟩ := hat
  have g := good hp
  have g1 := g.len
  have g2 := g.ran
  revert X; k_fill; intro X
  refine wpAny_call ?_
  k_dflt (refine' code_defC ?k1 ?k2 ?k3 ?k4 ?k5 ?kA ?kF ?kK ?k6 ?k7 ?k8 ?k9 ?kB ?kD ?_ ?c2 ?c3 ?c4; (case kA => exact rfl); (case kF => exact rfl); (case kK => assumption); (case k1 => k_asm); (case k2 => k_asm); (case k3 => k_asm); (case k4 => k_asm); (case k5 => k_asm); (case k6 => k_is); (case k7 => k_is); (case k8 => ktr_room); (case k9 => exact BindsTo.of_eq rfl); (case kB => exact rfl); (case kD => decide +kernel); (case c2 => exact rfl); (case c3 => exact rfl); (case c4 => exact rfl); k_whole; intro g' L' h' tk' cells' FG' F' N' Y' B' X' T' l1; have O' := Low.mk l1; clear l1; k_cells Y'; (try simp only [List.cons_append, List.nil_append] at N'); (try dsimp only); (try k_lift B'); (try k_fold))
  rename_i oc1 hoc1
  have hll : ∀ q ∈ (d, o) :: news, @LT.lt Nat _ q.1 L' := O'.lt
  have hdL : @LT.lt Nat _ d L' := hll _ (.head _)
  have hneb : ∀ q ∈ (L' + 1, oc1) :: news, q.1 ≠ d := fun q hq => by
    rcases List.mem_cons.mp hq with rfl | hq
    · exact Nat.ne_of_gt (Nat.lt_succ_of_lt hdL)
    · exact hne q hq
  have hKb : ∀ p ∈ K, p ∈ (L' + 1, oc1) :: news := fun p hp => .tail _ (hK p hp)
  have htb : (t, tupOf vs.toArray) ∈ (L' + 1, oc1) :: news := .tail _ ht
  have hcell : (L' + 1, oc1) ∈ (L' + 1, oc1) :: news := .head _
  have hnews : ∀ q ∈ news, q ∈ (L' + 1, oc1) :: news := fun q hq => .tail _ hq
  have hltb : ∀ q ∈ (L' + 1, oc1) :: news, @LE.le Nat _ q.1 (L' + 1) := fun q hq => by
    rcases List.mem_cons.mp hq with rfl | hq
    · exact Nat.le_refl _
    · exact Nat.le_succ_of_le (Nat.le_of_lt (hll q (.tail _ hq)))
  have N6 : News g' L' h' ((d, o) :: ((L' + 1, oc1) :: news)) := fun p hp => N' p (by
    simp only [List.mem_cons] at hp ⊢
    rcases hp with h | h | h <;> simp [h])
  clear N' N
  generalize hnb : (L' + 1, oc1) :: news = nb at *
  cases hat : (atKey xs ns).isSome with
  | true =>
    k_steps
    rename News h₀ L _ _ => kN
    rename Fr h₀ L _ _ => kF
    refine ret o xs K [] _ _ D X0 hat (fun p hp => .inl hp) Gt.nil (fun _ h => nomatch h) kF fun p hp => kN p ?_
    rw [← hnb]
    simp only [List.nil_append, List.mem_cons] at hp ⊢
    rcases hp with h | h <;> simp [h]
  | false =>
    k_steps
    rename News _ _ _ _ => N7
    rename Fr _ _ _ _ => F7
    rename_i h7 tk7 lv nv yv tlv hTv hlv
    have hlvG : Gt nb ((lv, listOf yv nv) :: tlv) := fun q hq r hr => hlv q (.tail _ hq) r hr
    have hlvd : ∀ r ∈ (lv, listOf yv nv) :: tlv, r.1 ≠ d := fun r hr => Nat.ne_of_gt (hlv (d, o) (.head _) r hr)
    obtain ⟨nb2, hnb2⟩ : ∃ r, r = (lv, listOf yv nv) :: (tlv ++ nb) := ⟨_, rfl⟩
    have hne2 : ∀ q ∈ nb2, q.1 ≠ d := fun q hq => by
      rw [hnb2, ← List.cons_append] at hq
      rcases List.mem_append.mp hq with hq | hq
      · exact hlvd q hq
      · exact hneb q hq
    have hlvm : (lv, listOf yv nv) ∈ nb2 := hnb2 ▸ .head _
    have htlvm : ∀ q ∈ tlv, q ∈ nb2 := fun q hq => hnb2 ▸ .tail _ (List.mem_append_left _ hq)
    have hnbm : ∀ q ∈ nb, q ∈ nb2 := fun q hq => hnb2 ▸ .tail _ (List.mem_append_right _ hq)
    have hcell2 : (L' + 1, oc1) ∈ nb2 := hnbm _ hcell
    refine iter_list rfl F7 N7 (.head _) ?_
    intro I h₂ St Z
    refine compAt_of (Z.sub (news' := (d, o) :: ([] ++ nb2)) ?hsub) ?hsz (fun _ => listOf yv nv) (fun i mC ysA led => ∃ o' xs' K' tl, led = (d, o') :: (tl ++ nb2) ∧ IsD PySem.Challenge.rw_ge0002_01.prog w o' xs' ∧ KXs K' xs' ∧ (∀ p ∈ K', p ∈ K ∨ p ∈ tl ∨ p ∈ tlv) ∧ Gt nb2 tl ∧ (∀ r ∈ tl, r.1 ≠ d) ∧
      TupsAre tlv ysA.toList (((moves ns).take i).filter fun q => !win q)) ?hfp ?h0 ?step ?done
    case hsub =>
      intro q hq
      rw [hnb2] at hq
      simp only [List.mem_cons, List.mem_append, List.nil_append] at hq ⊢
      rcases hq with h | h | h | h <;> simp [h]
    case hsz =>
      have e := hTv.length
      have e2 := movesTo_len g2 ns.length
      have e3 : sizeLine = 2 ^ 24 := rfl
      rw [Array.length_toList] at e
      have e4 : (moves ns).length ≤ 9 * ns.length := e2
      omega
    case hfp =>
      rintro b hb hbI i mC ysA led ⟨_, _, _, tl, rfl, _⟩
      rcases List.mem_cons.mp hb with rfl | hb
      · exact absurd rfl hbI
      · rw [List.mem_singleton.mp hb]; exact .tail _ (List.mem_append_right _ hlvm)
    case h0 => exact ⟨o, xs, K, [], rfl, D, X0, fun p hp => .inl hp, Gt.nil, fun _ h => (nomatch h), TupsAre.nil⟩
    case step =>
      rintro C DD i v mC oC ysA n led h₁ tk₁ oI E' hiN hP ⟨o', xs', K', tl, rfl, D', X1, hK', hG, htd, hTy⟩ hoff hO F₁ N₁
      have hil : i < (moves ns).length := by rw [← hTv.length, Array.length_toList]; exact hiN
      obtain ⟨T, vs2, hg2, hm2, hI2⟩ := hTv.get i hil
      have hv : v = .ref T := by
        rw [Array.getElem?_toList, hP] at hg2
        exact Option.some.inj hg2
      subst hv
      have hqm : (moves ns)[i] ∈ moves ns := List.getElem_mem hil
      have hqS := g.mem _ hqm
      have hqd := g.dec _ hqm
      have htk : (moves ns).take (i + 1) = (moves ns).take i ++ [(moves ns)[i]] := by rw [List.take_add_one, List.getElem?_eq_getElem hil]; rfl
      generalize (moves ns)[i] = q at hI2 hqS hqd htk
      obtain ⟨mC', hmC⟩ : ∃ m', m' = (fun z => if z = Str.ofString "after" then some (Value.ref T) else mC z) := ⟨_, rfl⟩
      have hms : mC' (Str.ofString "after") = some (.ref T) := by rw [hmC]; simp
      rw [← hmC] at hO
      clear hmC
      have hcell3 : (L' + 1, oc1) ∈ tl ++ nb2 := List.mem_append_right _ hcell2
      have hTm3 : (T, tupOf vs2.toArray) ∈ tl ++ nb2 := List.mem_append_right _ (htlvm _ hm2)
      have hoffd : ∀ r ∈ (C, oC) :: (I, oI) :: (DD, listOf ysA n) :: (tl ++ nb2), r.1 ≠ d := fun r hr => by
        rcases List.mem_cons.mp hr with rfl | hr
        · exact Ne.symm (hoff.c (d, o') (.head _))
        rcases List.mem_cons.mp hr with rfl | hr
        · exact Ne.symm (hoff.i (d, o') (.head _))
        rcases List.mem_cons.mp hr with rfl | hr
        · exact Ne.symm (hoff.d (d, o') (.head _))
        rcases List.mem_append.mp hr with hr | hr
        · exact htd r hr
        · exact hne2 r hr
      show wpAny _ _ _ _ _ _
      iterate 13 walk1
      k_dflt (refine' WinsC.use (ih (total q) (by omega)) (ns := q) (vs := vs2) (o := o') (xs := xs') (K := K') ?zB ?zF ?zX ?zT ?zK ?z1 ?z2 ?zN ((C, oC) :: (I, oI) :: (DD, listOf ysA n) :: (tl ++ nb2)) ?zS hqS (Nat.le_refl _) hI2 hds hoffd ?zM D' X1 ?zP ?zR ?zU ?_; (case zB => k_asm); (case zF => k_asm); (case zX => k_asm); (case zT => k_asm); (case zK => exact rfl); (case z1 => k_asm); (case z2 => k_asm); (case zN => k_asm); (case zR => ktr_room); (case zU => ktr_units))
      case zS =>
        intro p hp
        simp only [List.mem_cons] at hp ⊢
        rcases hp with h | h | h | h | h <;> simp [h]
      case zM => exact .tail _ (.tail _ (.tail _ hTm3))
      case zP =>
        intro p hp
        refine .tail _ (.tail _ (.tail _ ?_))
        rcases hK' p hp with h | h | h
        · exact List.mem_append_right _ (hnbm _ (hKb p h))
        · exact List.mem_append_left _ h
        · exact List.mem_append_right _ (htlvm _ h)
      intro o3 xs3 K3 tl3 h9 tk9 D3 X3 hat3 hK3 hG3 htd3 F9 N9
      have NF : News g' L' h9 ((C, oC) :: (I, oI) :: (DD, listOf ysA n) :: ((d, o3) :: ((tl3 ++ tl) ++ nb2))) := fun p hp => N9 p (by
        simp only [List.mem_cons, List.mem_append] at hp ⊢
        rcases hp with h | h | h | h | (h | h) | h <;> simp [h])
      have hoffF : Off I C DD ((d, o3) :: ((tl3 ++ tl) ++ nb2)) := .mk' hoff.ci hoff.di hoff.cd fun p hp => by
        rcases List.mem_cons.mp hp with rfl | hp
        · exact ⟨hoff.i (d, o') (.head _), hoff.c (d, o') (.head _), hoff.d (d, o') (.head _)⟩
        rcases List.mem_append.mp hp with hp | hp
        · rcases List.mem_append.mp hp with hp | hp
          · exact ⟨Nat.ne_of_gt (hG3 _ (.tail _ (.head _)) p hp), Nat.ne_of_gt (hG3 _ (.head _) p hp), Nat.ne_of_gt (hG3 _ (.tail _ (.tail _ (.head _))) p hp)⟩
          · exact ⟨hoff.i p (.tail _ (List.mem_append_left _ hp)), hoff.c p (.tail _ (List.mem_append_left _ hp)), hoff.d p (.tail _ (List.mem_append_left _ hp))⟩
        · exact ⟨hoff.i p (.tail _ (List.mem_append_right _ hp)), hoff.c p (.tail _ (List.mem_append_right _ hp)), hoff.d p (.tail _ (List.mem_append_right _ hp))⟩
      have hKF : ∀ p ∈ K3, p ∈ K ∨ p ∈ tl3 ++ tl ∨ p ∈ tlv := fun p hp => by
        rcases hK3 p hp with h | h | h
        · rcases hK' p h with h | h | h
          · exact .inl h
          · exact .inr (.inl (List.mem_append_right _ h))
          · exact .inr (.inr h)
        · exact .inr (.inr (h ▸ hm2))
        · exact .inr (.inl (List.mem_append_left _ h))
      have hGF : Gt nb2 (tl3 ++ tl) := fun p hp r hr => by
        rcases List.mem_append.mp hr with hr | hr
        · exact hG3 p (.tail _ (.tail _ (.tail _ (List.mem_append_right _ hp)))) r hr
        · exact hG p hp r hr
      have hdF : ∀ r ∈ tl3 ++ tl, r.1 ≠ d := fun r hr => by
        rcases List.mem_append.mp hr with hr | hr
        · exact htd3 r hr
        · exact htd r hr
      clear N9 N₁
      cases hwq : win q with
      | true =>
        k_steps
        refine ⟨h9, _, oC, mC', (d, o3) :: ((tl3 ++ tl) ++ nb2), rfl, F9, NF, hO, hoffF, o3, xs3, K3, tl3 ++ tl, rfl, D3, X3, hKF, hGF, hdF, ?_⟩
        rw [htk, List.filter_append]
        simpa [hwq] using hTy
      | false =>
        k_steps
        refine ⟨h9, _, oC, mC', (d, o3) :: ((tl3 ++ tl) ++ nb2), rfl, F9, NF, hO, hoffF, o3, xs3, K3, tl3 ++ tl, rfl, D3, X3, hKF, hGF, hdF, ?_⟩
        rw [htk, List.filter_append, Array.toList_push]
        have e : [q].filter (fun q => !win q) = [q] := by simp [hwq]
        rw [e]
        exact hTy.snoc hm2 hI2
    case done =>
      rintro DD h8 tk8 mC8 ys8 n8 led8 hlt8 hne8 F8 N8 ⟨o8, xs8, K8, tl8, rfl, D8, X8, hK8, hG8, htd8, hT8⟩
      have e := hTv.length
      rw [Array.length_toList] at e
      rw [e, List.take_length] at hT8
      obtain ⟨b, hbw⟩ : ∃ b, b = win ns := ⟨_, rfl⟩
      have hb : (!((moves ns).filter fun q => !win q).isEmpty) = b := by
        rw [hbw, ← g.win, filter_any]
      obtain ⟨lls, hlls⟩ : ∃ l, l = (moves ns).filter fun q => !win q := ⟨_, rfl⟩
      rw [← hlls] at hT8 hb
      rw [← hbw] at ret
      clear hlls ih
      have hcell8 : (L' + 1, oc1) ∈ tl8 ++ nb2 := List.mem_append_right _ hcell2
      have htb8 : (t, tupOf vs.toArray) ∈ tl8 ++ nb2 := List.mem_append_right _ (hnbm _ htb)
      have hmt : ∀ p ∈ tlv, p ∈ (DD, listOf ys8 n8) :: (d, o8) :: (tl8 ++ nb2) := fun p hp => .tail _ (.tail _ (List.mem_append_right _ (htlvm p hp)))
      iterate 3 walk1
      k_dflt (refine' ne_nil_K ?y1 ?y2 ?y3 ?y4 ?y5 ?y6 ?y7 ?_)
      (case y1 => k_asm)
      (case y3 => exact hT8)
      (case y7 => exact hb)
      (case y2 => k_dflt k_mem)
      (case y4 => (intro p hp; exact .tail _ (hmt p hp)))
      (case y5 => k_dflt k_mem)
      (case y6 => ktr_units)
      iterate 2 walk1
      rename News _ _ _ _ => N10
      rename Fr _ _ _ _ => F10
      have NS : News g' L' _ ((d, o8) :: (tl8 ++ nb2)) := fun p hp => N10 p (.tail _ (.tail _ hp))
      have hneS : ∀ q ∈ tl8 ++ nb2, q.1 ≠ d := fun q hq => by
        rcases List.mem_append.mp hq with hq | hq
        · exact htd8 q hq
        · exact hne2 q hq
      have hKS : ∀ p ∈ K8, p ∈ tl8 ++ nb2 := fun p hp => by
        rcases hK8 p hp with h | h | h
        · exact List.mem_append_right _ (hnbm _ (hKb p h))
        · exact List.mem_append_left _ h
        · exact List.mem_append_right _ (htlvm p h)
      k_dflt (refine' set_K (led := tl8 ++ nb2) F10 NS hneS D8 X8 hKS htb8 hi ?hu hp hbw ?_; (case hu => ktr_units))
      clear N10 NS F10
      intro h9 o9 xs9 tk9 F9 N9 D9 X9 hat9
      have hKS9 : ∀ p ∈ (t, tupOf vs.toArray) :: K8, p ∈ tl8 ++ nb2 := fun p hp => by
        rcases List.mem_cons.mp hp with rfl | hp
        · exact htb8
        · exact hKS p hp
      clear D8 X8 hat D X0
      k_steps
      rename News h₀ L _ _ => kN
      rename Fr h₀ L _ _ => kF
      rw [hbw] at ret
      refine ret o9 xs9 ((t, tupOf vs.toArray) :: K8) (tl8 ++ ((lv, listOf yv nv) :: tlv)) _ _ D9 X9 hat9 (fun p hp => ?_) (fun q hq r hr => ?_) (fun r hr => ?_) kF fun p hp => kN p ?_
      · rcases List.mem_cons.mp hp with rfl | hp
        · exact .inr (.inl rfl)
        rcases hK8 p hp with h | h | h
        · exact .inl h
        · exact .inr (.inr (List.mem_append_left _ h))
        · exact .inr (.inr (List.mem_append_right _ (.tail _ h)))
      · rcases List.mem_append.mp hr with hr | hr
        · exact hG8 q (hnbm _ (hnews q hq)) r hr
        · exact hlvG q (hnews q hq) r hr
      · rcases List.mem_append.mp hr with hr | hr
        · exact htd8 r hr
        · exact hlvd r hr
      · rcases List.mem_cons.mp hp with rfl | hp
        · exact .head _
        refine .tail _ ?_
        rcases List.mem_append.mp hp with hp | hp
        · rcases List.mem_append.mp hp with hp | hp
          · exact List.mem_append_left _ hp
          · rw [hnb2]
            refine List.mem_append_right _ ?_
            rcases List.mem_cons.mp hp with rfl | hp
            · exact .head _
            · exact .tail _ (List.mem_append_left _ hp)
        · exact List.mem_append_right _ (hnbm _ (hnews p hp))
end
section
set_option maxHeartbeats 1000000
set_option linter.unusedVariables false
/-- a plain dict with these entries -/
def DX (h : Heap) (d : Addr) (es : Array DictEntry) (ep : Nat) : Prop := ∃ o, h.get? d = some o ∧ o.ExactDict ∧ o.data = .dict es ep
theorem DX.at {h h' : Heap} {d : Addr} {es : Array DictEntry} {ep : Nat} (x : DX h d es ep) (e : ∀ o, h.get? d = some o → h'.get? d = some o) : DX h' d es ep := let ⟨o, ho, r⟩ := x; ⟨o, e _ ho, r⟩
section
variable {prog : Program} {w : World} {A : Around} {E : Value → Shared → Prop} {s : Shared} {d it : Addr} {es : Array DictEntry} {ep i : Nat}
/-- iter of such a dict: a fresh iterator at place 0 -/
theorem dx_iter {Q : Value → Shared → Prop} (hd : (d == sysModules) = false) (X : DX s.heap d es ep)
    (hQ : Q (.ref s.heap.objs.size) { s with heap := s.heap.push { cls := .type "dict_keyiterator", data := .fields #[.ref d, .int 0 0, .int es.size 0, .int ep 0] } }) :
    wpAny (model prog w) A (pyIter (.ref d)) Q E s := by
  obtain ⟨oD, gD, cD, eD⟩ := X
  have tD : s.TypeIs (.ref d) "dict" := ⟨oD, gD, cD.1⟩
  refine wpAny_pyIter_slot tD F.slot_dict_iter (wpAny_call_entry F.slot_dict_iter tD F.entry_dict_iter ?body (F.args_dict_iter_1 _))
  case body =>
    unfold Builtin.«dict.__iter__» Builtin.Dict.dictSlotNone
    refine wpAny_bind (wpAny_bind (wpAny_notOrdered_dict tD (wpAny_pure (a := Value.ref d) ?_)))
    change wpAny _ _ (Builtin.Dict.showsAll d >>= _) _ _ s
    unfold Builtin.Dict.showsAll
    rw [hd, if_neg Bool.false_ne_true]
    refine wpAny_bind (wpAny_pure (wpAny_bind (wpAny_dictEntries gD eD (wpAny_bind (wpAny_dictEpoch gD eD ?_)))))
    refine wpAny_bind (wpAny_newObj_type (wpAny_pure ⟨_, rfl, "dict_keyiterator", _, ⟨_, Heap.get?_push_size _ rfl, rfl⟩, F.slot_dict_keyiterator_next.lookup, ?_⟩))
    simpa [rawInt] using hQ
/-- one pull at the iterator: the entry at its place, or the end -/
theorem dx_pull {Q : Option Value → Shared → Prop} (hh : A.handled = none) (hit : s.heap.IsKeyIter it d i es.size ep) (X : DX s.heap d es ep)
    (more : ∀ (hi : i < es.size) h', h'.IsKeyIter it d (i + 1) es.size ep → Heap.SameBut it s.heap h' → Q (some es[i].key) { s with heap := h' })
    (over : es.size ≤ i → ∀ h', Heap.ExtBut it s.heap h' → Q none { s with heap := h' }) : wpAny (model prog w) A (pyNext (.ref it)) Q E s := by
  have tI := hit.typeIs
  obtain ⟨oI, gI, cI, eI⟩ := hit
  obtain ⟨oD, gD, -, eD⟩ := X
  unfold pyNext
  refine wpAny_bind (wpAny_attempt (wpAny_callSpecial?_slot (name := Str.ofString "__next__") tI F.slot_dict_keyiterator_next (wpAny_call_entry F.slot_dict_keyiterator_next tI F.entry_dict_keyiterator_next ?body (F.args_dict_keyiterator_next_1 _))))
  case body =>
    refine wpAny_bind (wpAny_pure (wpAny_bind (wpAny_bind ?_)))
    refine wpAny_bind (wpAny_typeNameOfWhole_keyiter tI (wpAny_pure (wpAny_bind (wpAny_fieldsOf gI eI ?_))))
    simp only [show Builtin.Dict_items.ownsTuple "dict_keyiterator" = false from by decide, Bool.false_eq_true, if_false]
    change wpAny _ _ (ite (false = true) _ _) _ _ s
    rw [if_neg Bool.false_ne_true]
    refine wpAny_bind (wpAny_pure (wpAny_bind (wpAny_dictEntries gD eD ?_)))
    rw [if_neg (by simp)]
    refine wpAny_bind (wpAny_pure (wpAny_bind (wpAny_dictEpoch gD eD ?_)))
    rw [if_neg (by simp)]
    refine wpAny_pure ?_
    have ge0 : ¬ ((i : Int) < 0) := by omega
    by_cases hi : i < es.size
    · simp only [ge0, if_false, Int.toNat_natCast, Array.getElem?_eq_getElem hi]
      refine wpAny_bind (wpAny_bind (wpAny_typeNameOfWhole_keyiter tI (wpAny_pure ?_)))
      refine wpAny_bind (wpAny_isOneOf_keyiter tI ?_)
      change wpAny _ _ (setField (.ref it) 1 (rawInt ((i : Int) + 1)) >>= _) _ _ s
      refine wpAny_bind (wpAny_setField gI eI (by simp) ?_)
      have same : Heap.SameBut it s.heap (s.heap.update it (Obj.mapFields (·.setIfInBounds 1 (rawInt ((i : Int) + 1))))) := Heap.SameBut.update ..
      have next : (s.heap.update it (Obj.mapFields (·.setIfInBounds 1 (rawInt ((i : Int) + 1))))).IsKeyIter it d (i + 1) es.size ep := by
        refine ⟨_, Heap.get?_update_self _ gI (Obj.isFreed_of_fields (Obj.data_mapFields eI _)), (Obj.cls_mapFields ..).trans cI, ?_⟩
        rw [Obj.data_mapFields eI]
        simp [rawInt]
      generalize s.heap.update it (Obj.mapFields (·.setIfInBounds 1 (rawInt ((i : Int) + 1)))) = H at same next ⊢
      refine wpAny_bind (wpAny_holding (wpAny_bind (wpAny_isOneOf_keyiter (s := { s with heap := H }) next.typeIs ?_)))
      change wpAny _ _ (pure es[i].key) _ _ _
      exact wpAny_pure (wpAny_pure ⟨_, rfl, wpAny_pure (more hi H next same)⟩)
    · have hle : es.size ≤ i := Nat.le_of_not_lt hi
      simp only [ge0, if_false, Int.toNat_natCast, Array.getElem?_eq_none hle]
      refine wpAny_bind (wpAny_bind (wpAny_typeNameOfWhole_keyiter tI (wpAny_pure ?_)))
      change wpAny _ _ (setField (.ref it) 0 .none >>= _) _ _ s
      refine wpAny_bind (wpAny_setField gI eI (by simp) ?_)
      have same : Heap.ExtBut it s.heap (s.heap.update it (Obj.mapFields (·.setIfInBounds 0 Value.none))) := (Heap.SameBut.update ..).extBut
      generalize s.heap.update it (Obj.mapFields (·.setIfInBounds 0 Value.none)) = H at same ⊢
      refine wpAny_bind ?_
      unfold newExc newTuple
      refine wpAny_bind (wpAny_newObj_type ?_ (by size_fits))
      refine wpAny_bind (m := firstArgMember _ _) (wpAny_of_eq (a := Value.none) (by first | rfl | (simp only [firstArgMember]; rfl)) ?_)
      refine wpAny_newObj_type ?_ (by size_fits)
      refine wpAny_raiseNew_none hh ?_
      refine wpAny_bind (wpAny_isInstance (T := "StopIteration") (b := true) ⟨_, Heap.get?_push_size _ rfl, rfl⟩ isSubtype_stop ?_)
      exact wpAny_pure (over hle _ ((same.push _).push _))
theorem dx_walks (hh : A.handled = none) (I d : Addr) (hne : d ≠ I) (es : Array DictEntry) (ep : Nat) :
    Walks prog w A I [I, d] [I] es.size (fun i v => ∃ hi : i < es.size, v = es[i].key) (fun i h => h.IsKeyIter I d i es.size ep ∧ DX h d es ep) where
  sub := fun b hb => by simp at hb; simp [hb]
  frame := fun _ _ _ st hk => ⟨st.1.at fun o e => hk I (by simp) o e, st.2.at fun o e => hk d (by simp) o e⟩
  item := fun i s Q E hi st hQ => dx_pull hh st.1 st.2 (fun _ h' hit' hs' => hQ _ h' s.toks ⟨hi, rfl⟩ ⟨hit', st.2.at fun o e => hs'.extBut d o hne e⟩ fun b o hb e => hs'.extBut b o (fun h => hb (by simp [h])) e) fun hle => absurd hi (Nat.not_lt.mpr hle)
  done := fun s Q E st hQ => dx_pull hh st.1 st.2 (fun hi => absurd hi (Nat.lt_irrefl _)) fun _ h' he' => hQ h' s.toks fun b o hb e => he' b o (fun h => hb (by simp [h])) e
  self := fun _ _ _ _ st hQ => wpAny_pyIter_keyiter st.1 hQ
theorem letGo_keyiter {target : PySem.Expr} {I : Addr} {n : Nat} {v : Value} {Q' : Unit → Shared → Prop} {s' : Shared} (hit : s'.heap.IsKeyIter I d i n ep) (h : Q' () s') :
    wpAny (model prog w) A (letOwnedTupleGo target (.ref I) v) Q' E s' := by
  obtain ⟨o, ho, hc, hd⟩ := hit
  unfold letOwnedTupleGo
  cases target <;> first
    | exact wpAny_pure h
    | (cases v <;> first
        | exact wpAny_pure h
        | (refine wpAny_bind (wpAny_load ho ?_)
           rw [hc, hd]
           exact wpAny_pure h))
theorem iter_dict {h₀ : Heap} {Q : Value → Shared → Prop} {L : Addr} {m : Str → Option Value} {news : Led} {o : Obj} (hh : A.handled = none) (F : Fr h₀ L s.heap m) (N : News h₀ L s.heap news) (hl : (d, o) ∈ news) (hd : (d == sysModules) = false) (hc : o.ExactDict) (hdat : o.data = .dict es ep)
    (h : ∀ I h' (St : Nat → Heap → Prop), Fresh prog w A h₀ L m news { s with heap := h' } I [I, d] es.size (fun i v => ∃ hi : i < es.size, v = es[i].key) St → Q (.ref I) { s with heap := h' }) :
    wpAny (model prog w) A (pyIter (.ref d)) Q E s := by
  obtain ⟨h1, h2, h3⟩ := fresh_I F N
  have X : DX s.heap d es ep := ⟨o, (N _ hl).1, hc, hdat⟩
  refine dx_iter hd X ?_
  refine h _ _ _ ⟨dx_walks hh _ _ (h3 _ hl) es ep, fun i h st => let ⟨o, ho, _⟩ := st.1; ⟨o, ho⟩, fun target i s' v Q' E' st hq => letGo_keyiter st.1 hq, h1, h2, fun b hb => ?_, by rw [Heap.size_push]; exact Nat.lt_succ_self _,
    ⟨⟨_, Heap.get?_push_size _ rfl, rfl, rfl⟩, X.at fun o e => Heap.get?_push_of_some _ e⟩, F.push _, fun p hp => (N.push F _) p (.tail _ hp), h3⟩
  rw [Heap.size_push]
  rcases List.mem_cons.mp hb with rfl | hb
  · exact Nat.lt_succ_self _
  · rw [List.mem_singleton.mp hb]; exact Nat.lt_succ_of_lt (Heap.lt_size (N _ hl).1)
end
end
section
theorem linesC15 : True := by
  w_top off
  (k_with "mine 32" => k_here; k_dflt (refine' ne_nums ?y1 ?y2 ?y3 ?y4 ?y5 ?y6 ?_; (case y1 => k_asm); (case y2 => k_mem); (case y3 => assumption); (case y4 => k_mem); (case y5 => exact .cons _ _ (.cons _ _ (.cons _ _ (.cons _ _ (.cons _ _ .nil))))); (case y6 => ktr_units)))
  (k_with "mine 33" => k_here; k_dflt (refine' in_no ?y1 ?y2 ?y3 ?y4 ?_; (case y1 => k_asm); (case y2 => k_mem); (case y3 => assumption); (case y4 => assumption)))
  (k_with "mine 34" => k_here; k_dflt (refine' notin_zero ?y1 ?y2 ?y3 ?y4 ?y5 ?_; (case y1 => k_asm); (case y2 => k_mem); (case y3 => assumption); (case y4 => assumption); (case y5 => assumption)))
  exact trivial
set_option maxHeartbeats 2000000
set_option linter.unusedVariables false
theorem nums_03 : ∀ k : Nat, k < 5 → 0 ≤ nums.getD k 0 ∧ nums.getD k 0 ≤ 3 := by decide
theorem xor_03 : ∀ a : Nat, a < 4 → ∀ b : Nat, b < 4 → 0 ≤ xorv (a : Int) (b : Int) ∧ xorv (a : Int) (b : Int) ≤ 3 := by decide
theorem xor_03' {a b : Int} (ha : 0 ≤ a ∧ a ≤ 3) (hb : 0 ≤ b ∧ b ≤ 3) : 0 ≤ xorv a b ∧ xorv a b ≤ 3 := by
  have := xor_03 a.toNat (by omega) b.toNat (by omega)
  rw [Int.toNat_of_nonneg ha.1, Int.toNat_of_nonneg hb.1] at this
  exact this
theorem nim_snoc (l : List Int) (x : Int) : nim (l ++ [x]) = xorv (nim l) (nums.getD x.toNat 0) := by unfold nim; rw [List.foldl_append]; rfl
theorem nim_03 : ∀ (n : Nat) (l : List Int), l.length = n → (∀ x ∈ l, 0 ≤ x ∧ x ≤ 4) → 0 ≤ nim l ∧ nim l ≤ 3
  | 0, l, h, _ => by rw [List.length_eq_zero_iff.mp h]; decide
  | n + 1, l, h, hr => by
    have hne : l ≠ [] := fun e => by rw [e] at h; cases h
    rw [← List.dropLast_concat_getLast hne, nim_snoc]
    have hx := hr _ (List.getLast_mem hne)
    exact xor_03' (nim_03 n _ (by rw [List.length_dropLast]; omega) fun x hx => hr x (List.dropLast_subset _ hx)) (nums_03 _ (by omega))
def rowsP (l : List Int) : List Int := (l.filter fun n => decide (n.fmod 5 > 0)).map fun n => n.fmod 5
theorem rowsP_eq (l : List Int) : rowsP l = (l.map fun n => n.fmod 5).filter fun r => decide (r > 0) := by
  unfold rowsP; rw [List.filter_map]; rfl
theorem res5 (n : Int) : ∃ k : Nat, k < 5 ∧ n.fmod 5 = (k : Int) := by
  have h1 := Int.fmod_nonneg_of_pos n (b := 5) (by decide)
  have h2 := Int.fmod_lt_of_pos n (b := 5) (by decide)
  exact ⟨(n.fmod 5).toNat, by omega, by omega⟩
theorem rows3 : ∀ a : Nat, a < 5 → ∀ b : Nat, b < 5 → ∀ c : Nat, c < 5 → sortI (([(a : Int), (b : Int), (c : Int)]).filter fun r => decide (r > 0)) ∈ posS := by decide +kernel
theorem rows2 : ∀ a : Nat, a < 5 → ∀ b : Nat, b < 5 → sortI (([(a : Int), (b : Int)]).filter fun r => decide (r > 0)) ∈ posS := by decide +kernel
theorem rows1 : ∀ a : Nat, a < 5 → sortI (([(a : Int)]).filter fun r => decide (r > 0)) ∈ posS := by decide +kernel
theorem rows_pos : ∀ l : List Int, l.length ≤ 3 → sortI (rowsP l) ∈ posS
  | [], _ => by decide +kernel
  | [a], _ => by
    obtain ⟨x, hx, ex⟩ := res5 a
    rw [rowsP_eq]; simp only [List.map_cons, List.map_nil, ex]; exact rows1 x hx
  | [a, b], _ => by
    obtain ⟨x, hx, ex⟩ := res5 a
    obtain ⟨y, hy, ey⟩ := res5 b
    rw [rowsP_eq]; simp only [List.map_cons, List.map_nil, ex, ey]; exact rows2 x hx y hy
  | [a, b, c], _ => by
    obtain ⟨x, hx, ex⟩ := res5 a
    obtain ⟨y, hy, ey⟩ := res5 b
    obtain ⟨z, hz, ez⟩ := res5 c
    rw [rowsP_eq]; simp only [List.map_cons, List.map_nil, ex, ey, ez]; exact rows3 x hx y hy z hz
  | a :: b :: c :: d :: r, h => by simp at h
theorem nums_use {w : World} {tb : Tok} {led : Led} {p : Program} {loose : List Str} {mean : ExcName → Option Value} {mg mb : Str → Option Value} {dp un : Nat} {gd : Option (List Code)} {cn : Str} {cs : Scope} {a : Addr} {ccd : Value} {cl : List (Str × Addr)} {outer : List Env} {A₀ : Around} {base h₀ : Heap} {L : Addr} {m : Str → Option Value} {s : Shared} {Q E : Value → Shared → Prop}
    (B : Below A₀ base outer h₀) (F : Fr h₀ L s.heap m) (X : (topH.heap_39 w.params).In h₀) (T : Top p loose mean mg mb h₀) (hk : cs.kind = .function) (H1 : CodeHd base 27 23) (H2 : CodeHd base 20 16) (N : News h₀ L s.heap led) (rest : Led)
    (hs : ∀ p ∈ (16, tabObj #[]) :: (23, tabObj #[]) :: rest, p ∈ led) (ap1 : ∀ q ∈ rest, @Ne Nat q.1 16) (ap2 : ∀ q ∈ rest, @Ne Nat q.1 23) (room : dp + 24 < recursionLimit) (units : un + 8 * 24 < cLine)
    (h : ∀ lf vf nf TT h' tk', Tabs true TT → IntsAre vf nums → Fr h₀ L h' m → News h₀ L h' ((lf, listOf vf.toArray nf) :: (TT ++ rest)) → Q (.ref lf) { s with heap := h', toks := tk' }) :
    wpAny (model PySem.Challenge.rw_ge0002_01.prog w) (ktrTop dp un gd cn cs L a ccd cl outer) (call (.ref 63) [.int 4 tb]) Q E s :=
  c_nums w tb p loose mean mg mb dp un gd cn cs a ccd cl outer A₀ base h₀ L m s Q E rest ⟨B, F, X, T, hk, H1, H2, fun p hp => N p (hs p hp)⟩ ap1 ap2 room units h
local macro_rules | `(tactic| k_room) => `(tactic| ktr_room)
local macro_rules | `(tactic| k_mem) => `(tactic| assumption)
local macro_rules | `(tactic| walk_at "exec For") => `(tactic| k_extra "mine 9")
local macro_rules | `(tactic| walk_at "exec For Name Call cons nil") => `(tactic| k_extra "mine 9")
local macro_rules | `(tactic| walk_at "exec For Tuple Call cons nil") => `(tactic| k_extra "mine 9")
local macro_rules | `(tactic| walk_at "eval ListComp") => `(tactic| k_extra "mine 14")
local macro_rules | `(tactic| walk_at "call builtin:sorted") => `(tactic| k_extra "mine 18")
local macro_rules | `(tactic| walk_at "call type:tuple") => `(tactic| k_extra "mine 19")
local macro_rules | `(tactic| walk_at "eval Name") => `(tactic| k_extra "mine 11")
local macro_rules | `(tactic| walk_at "eval Name") => `(tactic| (k_here; (with_reducible show wpAny _ _ (eval _ (compEnvC _ _ _ _)) _ _ _); k_dflt (refine' nameC ?y1 ?y2 ?y3 ?y4 ?_ ?y5 ?y6 ?y7; (case y5 => rfl); (case y6 => rfl); (case y1 => k_asm); (case y3 => assumption); (case y2 => k_mem); (case y4 => assumption); (case y7 => decide); k_whole)))
theorem ne_nums {prog : Program} {w : World} {A : Around} {E : Value → Shared → Prop} {s : Shared} {h₀ : Heap} {L : Addr} {led : Led} {a b : Addr} {vs us : List Value} {n n2 : Nat} {Q : Value → Shared → Prop} (N : News h₀ L s.heap led) (hl : (a, listOf vs.toArray n) ∈ led) (hi : IntsAre vs nums) (he : (b, listOf us.toArray n2) ∈ led) (hj : IntsAre us nums) (hu : A.units + 64 < cLine) (h : Q (.bool false) s) :
    wpAny (model prog w) A (compareOp .NotEq (.ref a) (.ref b)) Q E s :=
  ke_ne_ints (News.isList N hl) (News.isList N he) hi hj hu (by simpa using h)
local macro_rules | `(tactic| walk_at "compareOp NotEq ref ref") => `(tactic| k_extra "mine 32")
local macro_rules | `(tactic| walk_at "exec For Name Name cons nil") => `(tactic| k_extra "mine 9")
local macro_rules | `(tactic| walk_at "exec For Name Call cons nil") => `(tactic| k_extra "mine 9")
local macro_rules | `(tactic| walk_at "exec For Name Subscript cons nil") => `(tactic| k_extra "mine 9")
local macro_rules | `(tactic| walk_at "subscriptTail Name Name ref ref") => `(tactic| k_extra "mine 31")
local macro_rules | `(tactic| walk_at "call ref") => `(tactic| (k_extra "mine 25"; k_dflt (intro v' tl' h' tk' ho' hl' F' N'; obtain ⟨ht', t', hv'⟩ := ho'; subst hv' ht'; clear hl'; (try simp only [List.cons_append, List.nil_append] at N'))))
local macro_rules | `(tactic| walk_at "subscriptTail Name Name ref int") => `(tactic| k_extra "mine 28")
local macro_rules | `(tactic| walk_at "call ref") => `(tactic| (k_extra "mine 30"; k_dflt (intro v' tl' h' tk' ho' hl' F' N'; obtain ⟨l', n', ys', tl1', hv', ht', hd'⟩ := ho'; subst hv' ht'; (try simp only [List.cons_append, List.nil_append] at N'))))
local macro_rules | `(tactic| walk_at "call builtin:list.append") => `(tactic| k_extra "mine 20")
theorem in_no {prog : Program} {w : World} {A : Around} {E : Value → Shared → Prop} {s : Shared} {h₀ : Heap} {L : Addr} {led : Led} {l : Addr} {items : Array Value} {n : Nat} {ns : List Int} {k : Int} {t : Tok} {Q : Value → Shared → Prop} (N : News h₀ L s.heap led) (hl : (l, listOf items n) ∈ led) (hi : IntsAre items.toList ns) (hk : k ∉ ns) (h : Q (.bool false) s) :
    wpAny (model prog w) A (compareOp .In (.int k t) (.ref l)) Q E s := by
  refine in_list_ints (vs := items.toList) (News.isList N hl) hi ?_
  rw [show (ns.any (· == k)) = false from by
    rw [Bool.eq_false_iff]
    intro e
    obtain ⟨x, hx, hxk⟩ := List.any_eq_true.mp e
    exact hk (eq_of_beq hxk ▸ hx)]
  exact h
theorem notin_zero {prog : Program} {w : World} {A : Around} {E : Value → Shared → Prop} {s : Shared} {h₀ : Heap} {L : Addr} {led : Led} {l : Addr} {items : Array Value} {n : Nat} {ns : List Int} {k : Int} {t : Tok} {np : Int} {Q : Value → Shared → Prop} (N : News h₀ L s.heap led) (hl : (l, listOf items n) ∈ led) (hi : IntsAre items.toList ns) (hz : np ≠ 0 → k ∈ ns) (hc : np ≠ 0) (h : Q (.bool false) s) :
    wpAny (model prog w) A (compareOp .NotIn (.int k t) (.ref l)) Q E s := by
  refine notin_list_ints (vs := items.toList) (News.isList N hl) hi ?_
  rw [show (ns.any (· == k)) = true from List.any_eq_true.mpr ⟨k, hz hc, by simp⟩]
  exact h
local macro_rules | `(tactic| walk_at "compareOp In int ref") => `(tactic| k_extra "mine 33")
local macro_rules | `(tactic| walk_at "compareOp NotIn int ref") => `(tactic| k_extra "mine 34")
theorem law_holds : PySem.Challenge.rw_ge0002_01.Holds := by
  refine topH ?_
  w_strict k_go0
  all_goals try k_fold
  refine wp_gen ?_
  intro QL hQL
  k_steps
  rename News _ _ _ _ => N0
  rename Fr _ _ _ _ => F0
  rename IntsAre _ (List.take 3 _) => hI3
  rename List Value => ws
  rename List Int => script
  rename World => ww
  rename Addr => D0
  refine iter_list rfl F0 N0 (.head _) ?_
  intro I h6 St Z
  have hlen3 : (script.take 3).length ≤ 3 := by rw [List.length_take]; omega
  have hwl := hI3.length
  refine compAt_same Z ?hsz (fun _ => listOf ws.toArray 0) ?hfp (fun k ys => IntsAre ys.toList ((((script.take 3).take k).filter fun n => decide (n.fmod 5 > 0)).map fun n => n.fmod 5)) .nil ?step ?done
  case hsz =>
    have e3 : sizeLine = 2 ^ 24 := rfl
    rw [List.size_toArray]
    omega
  case hfp =>
    intro b hb hbI
    rcases List.mem_cons.mp hb with rfl | hb
    · exact absurd rfl hbI
    · rw [List.mem_singleton.mp hb]; exact .head _
  case step =>
    rintro C D k v mC oC ys n h₇ tk₇ oI3 E' hkN hP3 hJ3 hx3 hO3 F₇ N₇
    obtain ⟨t3, rfl, hyes, hno⟩ := filt_step (f := fun n => decide (n.fmod 5 > 0)) (g := fun n => n.fmod 5) hI3 (by simpa using hP3)
    generalize (script.take 3).getD k 0 = row at hx3 hyes hno
    show wpAny _ _ _ _ _ _
    k_steps
    · exact ⟨⟨_, rfl⟩, hyes _ _ (decide_eq_true (by assumption)) hJ3⟩
    · exact ⟨⟨_, rfl⟩, hno _ (decide_eq_false (by assumption)) hJ3⟩
  case done =>
    rintro D3 h8 tk8 ⟨ys3⟩ n3 hlt3 F8 N8 hJ3
    rw [List.size_toArray, hwl, List.take_length] at hJ3
    have hrp := rows_pos (script.take 3) hlen3
    have h64 : (rowsP (script.take 3)).length < 64 := by
      unfold rowsP
      rw [List.length_map]
      exact Nat.lt_of_le_of_lt (List.length_filter_le _ _) (by omega)
    have hJ3 : IntsAre ys3 (rowsP (script.take 3)) := hJ3
    generalize rowsP (script.take 3) = ns0 at hJ3 h64 hrp
    iterate 17 walk1
    rename News _ _ _ _ => N9
    rename Fr _ _ _ _ => F9
    rename_i D1 vs1 c1 hh1 hI1 hz1 T9 hh2 l9 hh3
    have hT16 : @Ne Nat T9 16 := Nat.ne_of_gt (l9 (16, tabObj #[]) (by simp))
    have hT23 : @Ne Nat T9 23 := Nat.ne_of_gt (l9 (23, tabObj #[]) (by simp))
    clear l9 hlt3
    k_dflt (refine' nums_use ?zB ?zF ?zX ?zT ?zK ?z1 ?z2 ?zN [(T9, tupOf vs1.toArray)] ?zS ?zP ?zQ ?zR ?zU ?_; (case zB => k_asm); (case zF => k_asm); (case zX => k_asm); (case zT => k_asm); (case zK => exact rfl); (case z1 => k_asm); (case z2 => k_asm); (case zN => k_asm); (case zR => ktr_room); (case zU => ktr_units))
    case zS => (intro p hp; simp only [List.mem_cons, List.not_mem_nil, or_false] at hp ⊢; rcases hp with h | h | h <;> simp [h])
    case zP => (intro q hq; rw [List.mem_singleton.mp hq]; exact hT16)
    case zQ => (intro q hq; rw [List.mem_singleton.mp hq]; exact hT23)
    clear N9 F9
    intro lf vf nf TT h10 tk10 hTT hVf F10 N10
    cases hTT with
    | full J1 J2 =>
    rename_i c1 c2 oc1 oc2
    have hlfm : (lf, listOf vf.toArray nf) ∈ (lf, listOf vf.toArray nf) :: ([(16, tab1 c1), (c1, oc1), (23, tab2 c2), (c2, oc2)] ++ [(T9, tupOf vs1.toArray)]) := .head _
    have h16m : (16, tab1 c1) ∈ (lf, listOf vf.toArray nf) :: ([(16, tab1 c1), (c1, oc1), (23, tab2 c2), (c2, oc2)] ++ [(T9, tupOf vs1.toArray)]) := .tail _ (.head _)
    have hc1m : (c1, oc1) ∈ (lf, listOf vf.toArray nf) :: ([(16, tab1 c1), (c1, oc1), (23, tab2 c2), (c2, oc2)] ++ [(T9, tupOf vs1.toArray)]) := .tail _ (.tail _ (.head _))
    have h23m : (23, tab2 c2) ∈ (lf, listOf vf.toArray nf) :: ([(16, tab1 c1), (c1, oc1), (23, tab2 c2), (c2, oc2)] ++ [(T9, tupOf vs1.toArray)]) := .tail _ (.tail _ (.tail _ (.head _)))
    have hc2m : (c2, oc2) ∈ (lf, listOf vf.toArray nf) :: ([(16, tab1 c1), (c1, oc1), (23, tab2 c2), (c2, oc2)] ++ [(T9, tupOf vs1.toArray)]) := .tail _ (.tail _ (.tail _ (.tail _ (.head _))))
    have hT9m : (T9, tupOf vs1.toArray) ∈ (lf, listOf vf.toArray nf) :: ([(16, tab1 c1), (c1, oc1), (23, tab2 c2), (c2, oc2)] ++ [(T9, tupOf vs1.toArray)]) := .tail _ (.tail _ (.tail _ (.tail _ (.tail _ (.head _)))))
    obtain ⟨nb, hnb⟩ : ∃ r, r = (lf, listOf vf.toArray nf) :: ([(16, tab1 c1), (c1, oc1), (23, tab2 c2), (c2, oc2)] ++ [(T9, tupOf vs1.toArray)]) := ⟨_, rfl⟩
    rw [← hnb] at hlfm h16m hc1m h23m hc2m hT9m N10
    clear hnb Z
    iterate 46 walk1
    rename News _ _ _ _ => N11
    rename Fr _ _ _ _ => F11
    rename_i dd hx5 od ltd lod hsd fsd hid fid D4 hx4 l14 hx3 hx2 hx1 tkx l5 hx0 l15
    have hisd : IsD PySem.Challenge.rw_ge0002_01.prog ww od [] := by
      obtain ⟨es, ep, hc, hdat, _, hpp, _⟩ := hid
      exact ⟨hc, es, ep, hdat, List.length_eq_zero_iff.mp hpp.length⟩
    have hned : ∀ q ∈ nb, q.1 ≠ dd := fun q hq => Nat.ne_of_lt (ltd q hq)
    have htot := (good hrp).tot
    k_dflt (refine' WinsC.use (c_wins ww 12) (ns := sortI ns0) (vs := vs1) (o := od) (xs := []) (K := []) ?zB ?zF ?zX ?zT ?zK ?z1 ?z2 ?zN nb ?zS hrp htot hI1 lod hned hT9m hisd ⟨.nil, fun _ h => nomatch h⟩ (fun _ h => nomatch h) ?zR ?zU ?_; (case zB => k_asm); (case zF => k_asm); (case zX => k_asm); (case zT => k_asm); (case zK => exact rfl); (case z1 => k_asm); (case z2 => k_asm); (case zN => k_asm); (case zR => ktr_room); (case zU => ktr_units))
    case zS => (intro p hp; simp only [List.mem_cons] at hp ⊢; rcases hp with h | h <;> simp [h])
    clear N11 F11 l14 l15 hsd fsd hid fid
    intro o9 xs9 K9 tl9 h9 tk9 D9 X9 hat9 hK9 hG9 htd9 F9 N9
    obtain ⟨nb2, hnb2⟩ : ∃ r, r = tl9 ++ nb := ⟨_, rfl⟩
    have up : ∀ q ∈ nb, q ∈ nb2 := fun q hq => hnb2 ▸ List.mem_append_right _ hq
    have hK9m : ∀ q ∈ K9, q ∈ nb2 := fun q hq => by
      rcases hK9 q hq with h | h | h
      · exact nomatch h
      · rw [h]; exact up _ hT9m
      · exact hnb2 ▸ List.mem_append_left _ h
    have hlf2 := up _ hlfm
    have h162 := up _ h16m
    have hc12 := up _ hc1m
    have h232 := up _ h23m
    have hc22 := up _ hc2m
    have hT92 := up _ hT9m
    have hne2 : ∀ q ∈ nb2, q.1 ≠ dd := fun q hq => by
      rw [hnb2] at hq
      rcases List.mem_append.mp hq with hq | hq
      · exact htd9 q hq
      · exact hned q hq
    rw [← hnb2] at N9
    clear hlfm h16m hc1m h23m hc2m hT9m up hnb2
    obtain ⟨wv, hwv⟩ : ∃ b, b = win (sortI ns0) := ⟨_, rfl⟩
    rw [← hwv]
    iterate 5 walk1
    rename News _ _ _ _ => N12
    rename Fr _ _ _ _ => F12
    have D9' := D9
    obtain ⟨hc9, es, ep, hdat9, hes⟩ := D9'
    refine iter_dict rfl F12 N12 (.head _) lod hc9 hdat9 ?_
    intro I2 h12 St2 Z2
    obtain ⟨J2, hJ2⟩ : ∃ J : Nat → (Str → Option Value) → Led → Prop, J = (fun i m₁ led => led = (dd, o9) :: nb2 ∧ m₁ (Str.ofString "rows") = some (.ref T9) ∧ m₁ (Str.ofString "numbers") = some (.ref lf) ∧ m₁ (Str.ofString "known") = some (.ref dd) ∧ m₁ (Str.ofString "wins") = some (.bool wv)) := ⟨_, rfl⟩
    refine forAt_of Z2 (fun _ => o9) J2 ?hfp2 ?h02 ?step2 ?done2
    case hfp2 =>
      intro b hb hbI i m₁ led hj
      rw [hJ2] at hj
      obtain ⟨rfl, _⟩ := hj
      rcases List.mem_cons.mp hb with rfl | hb
      · exact absurd rfl hbI
      · rw [List.mem_singleton.mp hb]; exact .head _
    case h02 => rw [hJ2]; exact ⟨rfl, rfl, rfl, rfl, rfl⟩
    case step2 =>
      rintro i v m₁ led h₁ tk₁ oI hiN ⟨hi0, rfl⟩ hj hnI F₁ N₁
      refine turn_gen ?_
      intro QT2 hQT2
      rw [hJ2] at hj
      obtain ⟨rfl, hm1, hm2, hm3, hm4⟩ := hj
      have hx : ∃ x : Ent, x ∈ xs9 ∧ es[i].key = .ref x.2.1 := by
        have h1 : es[i] ∈ es.toList := by simp
        rw [hes] at h1
        obtain ⟨x, hxm, hxe⟩ := List.mem_map.mp h1
        exact ⟨x, hxm, by rw [← hxe]; rfl⟩
      obtain ⟨x, hxm, hxk⟩ := hx
      rw [hxk]
      obtain ⟨hxS, hxw, pv, hpm, hpi⟩ := X9.all x hxm
      have hpm2 := hK9m _ hpm
      have hat := atKey_of_mem hxm
      obtain ⟨pos, tpos, vpos⟩ := x
      have gp := good hxS
      have N₂ : News _ _ h₁ ((dd, o9) :: (I2, oI) :: nb2) := fun p hp => N₁ p (by
        simp only [List.mem_cons] at hp ⊢
        rcases hp with h | h | h <;> simp [h])
      clear N₁
      show wpAny _ _ _ _ _ _
      iterate 10 walk1
      rename News _ _ _ _ => N14
      rename Fr _ _ _ _ => F14
      refine iter_tup rfl F14 N14 (.tail _ (.tail _ hpm2)) ?_
      intro I4 h14 St4 Z4
      obtain ⟨J3, hJ3⟩ : ∃ J : Nat → (Str → Option Value) → Led → Prop, J = (fun j m₂ led => led = (dd, o9) :: (I2, oI) :: nb2 ∧ m₂ (Str.ofString "rows") = some (.ref T9) ∧ m₂ (Str.ofString "numbers") = some (.ref lf) ∧ m₂ (Str.ofString "known") = some (.ref dd) ∧ m₂ (Str.ofString "wins") = some (.bool wv) ∧
        m₂ (Str.ofString "position") = some (.ref tpos) ∧ ∃ tn, m₂ (Str.ofString "number") = some (.int (nim (pos.take j)) tn)) := ⟨_, rfl⟩
      refine forAt_of Z4 (fun _ => tupOf pv.toArray) J3 ?hfp3 ?h03 ?step3 ?done3
      case hfp3 =>
        intro b hb hbI j m₂ led hj
        rw [hJ3] at hj
        obtain ⟨rfl, _⟩ := hj
        rcases List.mem_cons.mp hb with rfl | hb
        · exact absurd rfl hbI
        · rw [List.mem_singleton.mp hb]; exact .tail _ (.tail _ hpm2)
      case h03 => rw [hJ3]; exact ⟨rfl, (if_neg (by decide)).trans ((if_neg (by decide)).trans hm1), (if_neg (by decide)).trans ((if_neg (by decide)).trans hm2), (if_neg (by decide)).trans ((if_neg (by decide)).trans hm3), (if_neg (by decide)).trans ((if_neg (by decide)).trans hm4), (if_neg (by decide)).trans (if_pos rfl), _, if_pos rfl⟩
      case step3 =>
        intro j v m₂ led h₂ tk₂ oI4 hjN hP hj hnI4 F₃ N₃
        refine turn_gen ?_
        intro QT3 hQT3
        rw [hJ3] at hj
        obtain ⟨rfl, hn1, hn2, hn3, hn4, hn5, tn, hn6⟩ := hj
        obtain ⟨tv, rfl⟩ := hpi.int_at j v (by simpa using hP)
        have hjl : j < pos.length := by rw [← hpi.length]; simpa using hjN
        have hrow := gp.ran (pos.getD j 0) (by rw [show pos.getD j 0 = pos[j] by simp [hjl]]; exact List.getElem_mem hjl)
        have hnim := nim_03 _ (pos.take j) rfl fun x hx => gp.ran x (List.mem_of_mem_take hx)
        have hsn : nim (pos.take (j + 1)) = xorv (nim (pos.take j)) (nums.getD (pos.getD j 0).toNat 0) := by
          rw [List.take_add_one, List.getElem?_eq_getElem hjl, ← nim_snoc]; simp [hjl]
        have hnr := nums_03 (pos.getD j 0).toNat (by omega)
        generalize pos.getD j 0 = row at hrow hsn hnr
        generalize nim (pos.take j) = nj at hnim hsn hn6
        have hr1 : 0 ≤ row := hrow.1
        have hr2 : row < (nums.length : Int) := by show row < 5; omega
        show wpAny _ _ _ _ _ _
        k_steps
        rename News _ _ _ _ => N15
        rename Fr _ _ _ _ => F15
        refine hQT3 _ _ _ ((dd, o9) :: (I2, oI) :: nb2) F15 N15 hnI4 ?_
        rw [hJ3]
        exact ⟨rfl, (if_neg (by decide)).trans ((if_neg (by decide)).trans hn1), (if_neg (by decide)).trans ((if_neg (by decide)).trans hn2), (if_neg (by decide)).trans ((if_neg (by decide)).trans hn3), (if_neg (by decide)).trans ((if_neg (by decide)).trans hn4), (if_neg (by decide)).trans ((if_neg (by decide)).trans hn5), _, (if_pos rfl).trans (congrArg (fun z => some (Value.int z _)) hsn.symm)⟩
      case done3 =>
        intro h15 tk15 m15 led15 F15 N15 hj
        rw [hJ3] at hj
        obtain ⟨rfl, hn1, hn2, hn3, hn4, hn5, tn, hn6⟩ := hj
        rw [List.size_toArray, hpi.length, List.take_length] at hn6
        obtain ⟨np, hnp⟩ : ∃ z, z = nim pos := ⟨_, rfl⟩
        have hwp : win pos = decide (np ≠ 0) := by rw [hnp]; rfl
        rw [← hnp] at hn6
        have hKI : ∀ p ∈ K9, p ∈ (I2, oI) :: nb2 := fun p hp => .tail _ (hK9m p hp)
        have hatp : (atKey xs9 pos).isSome = true := hat
        have hpi' : IntsAre pv pos := hpi
        show wpAny _ _ _ _ _ _
        iterate 9 walk1
        have hwp2 : win (pos, tpos, vpos).fst = decide (np ≠ 0) := hwp
        have hp12 : pos.length ≤ 12 := gp.len
        have hp4 : ∀ x ∈ pos, 0 ≤ x ∧ x ≤ 4 := gp.ran
        have hpm3 : (tpos, tupOf pv.toArray) ∈ nb2 := hpm2
        rw [hwp2]
        iterate 5 walk1
        · exact absurd (by assumption : (decide (np ≠ 0) != (np != 0)) = true) (by by_cases h : np = 0 <;> simp [h])
        k_steps
        rename News _ _ _ _ => N16
        rename Fr _ _ _ _ => F16
        rename_i l0 hx1 Fx1 Nx1 l0lt hx2 Fx2 Nx2 hx3 tkx3 lv nv yv tlv hTv hlv
        clear Nx1 Fx1 Nx2 Fx2
        refine iter_list rfl F16 N16 (.head _) ?_
        intro I5 h16 St5 Z5
        have hlt0 : ∀ q ∈ (dd, o9) :: (I2, oI) :: nb2, @LT.lt Nat _ q.1 l0 := fun q hq => by
          rcases List.mem_cons.mp hq with rfl | hq
          · exact l0lt.1
          rcases List.mem_cons.mp hq with rfl | hq
          · exact l0lt.2.1
          · exact all_of_allLt _ l0lt.2.2 q hq
        have hgt0 : ∀ r ∈ (lv, listOf yv nv) :: tlv, @LT.lt Nat _ l0 r.1 := fun r hr => hlv _ (.head _) r hr
        obtain ⟨nb3, hnb3⟩ : ∃ r, r = (lv, listOf yv nv) :: (tlv ++ ((dd, o9) :: (I2, oI) :: nb2)) := ⟨_, rfl⟩
        have up2 : ∀ q ∈ (dd, o9) :: (I2, oI) :: nb2, q ∈ nb3 := fun q hq => hnb3 ▸ .tail _ (List.mem_append_right _ hq)
        have hlf3 := up2 _ (.tail _ (.tail _ hlf2))
        have h163 := up2 _ (.tail _ (.tail _ h162))
        have hc13 := up2 _ (.tail _ (.tail _ hc12))
        have h233 := up2 _ (.tail _ (.tail _ h232))
        have hc23 := up2 _ (.tail _ (.tail _ hc22))
        have htl3 : ∀ q ∈ tlv, q ∈ nb3 := fun q hq => hnb3 ▸ .tail _ (List.mem_append_left _ hq)
        have hlv3 : (lv, listOf yv nv) ∈ nb3 := hnb3 ▸ .head _
        have hne3 : ∀ q ∈ nb3, q.1 ≠ l0 := fun q hq => by
          rw [hnb3, ← List.cons_append] at hq
          rcases List.mem_append.mp hq with hq | hq
          · exact Nat.ne_of_gt (hgt0 q hq)
          · exact Nat.ne_of_lt (hlt0 q hq)
        obtain ⟨J5, hJ5⟩ : ∃ J : Nat → (Str → Option Value) → Led → Prop, J = (fun j m₂ led => m₂ (Str.ofString "rows") = some (.ref T9) ∧ m₂ (Str.ofString "numbers") = some (.ref lf) ∧ m₂ (Str.ofString "known") = some (.ref dd) ∧ m₂ (Str.ofString "wins") = some (.bool wv) ∧
          m₂ (Str.ofString "number") = some (.int np tn) ∧ m₂ (Str.ofString "left") = some (.ref l0) ∧ ∃ items ne, led = (l0, listOf items ne) :: nb3 ∧ IntsAre items.toList (((moves pos).take j).map nim)) := ⟨_, rfl⟩
        refine forAt_of (Z5.sub (news' := (l0, listOf #[] 0) :: nb3) ?hsub5) (fun _ => listOf yv nv) J5 ?hfp5 ?h05 ?step5 ?done5
        case hsub5 =>
          intro q hq
          rw [hnb3] at hq
          simp only [List.mem_cons, List.mem_append] at hq ⊢
          rcases hq with h | h | h | h | h | h <;> simp [h]
        case hfp5 =>
          intro b hb hbI j m₂ led2 hj
          rw [hJ5] at hj
          obtain ⟨_, _, _, _, _, _, items2, ne2, rfl, _⟩ := hj
          rcases List.mem_cons.mp hb with rfl | hb
          · exact absurd rfl hbI
          · rw [List.mem_singleton.mp hb]; exact .tail _ hlv3
        case h05 => rw [hJ5]; exact ⟨(if_neg (by decide)).trans hn1, (if_neg (by decide)).trans hn2, (if_neg (by decide)).trans hn3, (if_neg (by decide)).trans hn4, (if_neg (by decide)).trans hn6, if_pos rfl, #[], 0, rfl, .nil⟩
        case step5 =>
          intro j v m₂ led2 h₅ tk₅ oI5 hjN hP hj hnI5 F₅ N₅
          refine turn_gen ?_
          intro QT5 hQT5
          rw [hJ5] at hj
          obtain ⟨hr1, hr2, hr3, hr4, hr5, hr6, items, ne, rfl, hIt⟩ := hj
          have hjl : j < (moves pos).length := by rw [← hTv.length, Array.length_toList]; exact hjN
          obtain ⟨T, vs2, hg2, hm2, hI2⟩ := hTv.get j hjl
          have hv : v = .ref T := by
            rw [Array.getElem?_toList, hP] at hg2
            exact Option.some.inj hg2
          subst hv
          have htk : ((moves pos).take (j + 1)).map nim = ((moves pos).take j).map nim ++ [nim (moves pos)[j]] := take_succ_map nim _ _ hjl
          have hqS := gp.mem _ (List.getElem_mem hjl)
          generalize (moves pos)[j] = q at hI2 hqS htk
          have gq := good hqS
          have hTm3 : (T, tupOf vs2.toArray) ∈ nb3 := htl3 _ hm2
          show wpAny _ _ _ _ _ _
          iterate 10 walk1
          rename News _ _ _ _ => N17
          rename Fr _ _ _ _ => F17
          refine iter_tup rfl F17 N17 (.tail _ (.tail _ hTm3)) ?_
          intro I6 h18 St6 Z6
          obtain ⟨J6, hJ6⟩ : ∃ J : Nat → (Str → Option Value) → Led → Prop, J = (fun k m₃ led => led = (I5, oI5) :: (l0, listOf items ne) :: nb3 ∧ m₃ (Str.ofString "rows") = some (.ref T9) ∧ m₃ (Str.ofString "numbers") = some (.ref lf) ∧ m₃ (Str.ofString "known") = some (.ref dd) ∧ m₃ (Str.ofString "wins") = some (.bool wv) ∧
            m₃ (Str.ofString "number") = some (.int np tn) ∧ m₃ (Str.ofString "left") = some (.ref l0) ∧ ∃ t2, m₃ (Str.ofString "there") = some (.int (nim (q.take k)) t2)) := ⟨_, rfl⟩
          refine forAt_of Z6 (fun _ => tupOf vs2.toArray) J6 ?hfp6 ?h06 ?step6 ?done6
          case hfp6 =>
            intro b hb hbI k m₃ led3 hj
            rw [hJ6] at hj
            obtain ⟨rfl, _⟩ := hj
            rcases List.mem_cons.mp hb with rfl | hb
            · exact absurd rfl hbI
            · rw [List.mem_singleton.mp hb]; exact .tail _ (.tail _ hTm3)
          case h06 => rw [hJ6]; exact ⟨rfl, (if_neg (by decide)).trans ((if_neg (by decide)).trans hr1), (if_neg (by decide)).trans ((if_neg (by decide)).trans hr2), (if_neg (by decide)).trans ((if_neg (by decide)).trans hr3), (if_neg (by decide)).trans ((if_neg (by decide)).trans hr4), (if_neg (by decide)).trans ((if_neg (by decide)).trans hr5), (if_neg (by decide)).trans ((if_neg (by decide)).trans hr6), _, if_pos rfl⟩
          case step6 =>
            intro k v m₃ led3 h₆ tk₆ oI6 hkN hP6 hj hnI6 F₆ N₆
            refine turn_gen ?_
            intro QT6 hQT6
            rw [hJ6] at hj
            obtain ⟨rfl, hu1, hu2, hu3, hu4, hu5, hu6, tu, hu7⟩ := hj
            obtain ⟨tv, rfl⟩ := hI2.int_at k v (by simpa using hP6)
            have hkl : k < q.length := by rw [← hI2.length]; simpa using hkN
            have hrow := gq.ran (q.getD k 0) (by rw [show q.getD k 0 = q[k] by simp [hkl]]; exact List.getElem_mem hkl)
            have hnim := nim_03 _ (q.take k) rfl fun x hx => gq.ran x (List.mem_of_mem_take hx)
            have hsn : nim (q.take (k + 1)) = xorv (nim (q.take k)) (nums.getD (q.getD k 0).toNat 0) := by
              rw [List.take_add_one, List.getElem?_eq_getElem hkl, ← nim_snoc]; simp [hkl]
            have hnr := nums_03 (q.getD k 0).toNat (by omega)
            generalize q.getD k 0 = row at hrow hsn hnr
            generalize nim (q.take k) = nj at hnim hsn hu7
            have hr1 : 0 ≤ row := hrow.1
            have hr2 : row < (nums.length : Int) := by show row < 5; omega
            show wpAny _ _ _ _ _ _
            k_steps
            rename News _ _ _ _ => N18
            rename Fr _ _ _ _ => F18
            refine hQT6 _ _ _ ((I5, oI5) :: (l0, listOf items ne) :: nb3) F18 N18 hnI6 ?_
            rw [hJ6]
            exact ⟨rfl, (if_neg (by decide)).trans ((if_neg (by decide)).trans hu1), (if_neg (by decide)).trans ((if_neg (by decide)).trans hu2), (if_neg (by decide)).trans ((if_neg (by decide)).trans hu3), (if_neg (by decide)).trans ((if_neg (by decide)).trans hu4), (if_neg (by decide)).trans ((if_neg (by decide)).trans hu5), (if_neg (by decide)).trans ((if_neg (by decide)).trans hu6), _, (if_pos rfl).trans (congrArg (fun z => some (Value.int z _)) hsn.symm)⟩
          case done6 =>
            intro h19 tk19 m19 led19 F19 N19 hj
            rw [hJ6] at hj
            obtain ⟨rfl, hu1, hu2, hu3, hu4, hu5, hu6, tu, hu7⟩ := hj
            rw [List.size_toArray, hI2.length, List.take_length] at hu7
            have hzi : items.size ≤ sizeLine := by
              have e1 := hIt.length
              have e2 := movesTo_len hp4 pos.length
              have e3 : sizeLine = 2 ^ 24 := rfl
              have e4 : (moves pos).length ≤ 9 * pos.length := e2
              simp only [Array.length_toList, List.length_map, List.length_take] at e1
              omega
            have hIl : I5 ≠ l0 := fun e => hnI5 _ (.head _) e.symm
            show wpAny _ _ _ _ _ _
            k_steps
            rename ∀ led : Led, _ → News _ _ _ _ => HN
            rename Fr _ _ _ _ => F20
            have NF := HN ((I5, oI5) :: nb3) fun p hp => by
              rcases List.mem_cons.mp hp with rfl | hp
              · exact ⟨.head _, hIl⟩
              · exact ⟨.tail _ (.tail _ hp), hne3 p hp⟩
            refine hQT5 _ _ _ ((l0, listOf (items.push (.int (nim q) tu)) (ne + 1)) :: nb3) F20 ?_ ?_ ?_
            · intro p hp
              rcases List.mem_cons.mp hp with rfl | hp
              · exact NF _ (.tail _ (.head _))
              rcases List.mem_cons.mp hp with rfl | hp
              · exact NF _ (.head _)
              · exact NF _ (.tail _ (.tail _ hp))
            · intro p hp
              rcases List.mem_cons.mp hp with rfl | hp
              · exact Ne.symm hIl
              · exact hnI5 p (.tail _ hp)
            · rw [hJ5]
              refine ⟨hu1, hu2, hu3, hu4, hu5, hu6, _, _, rfl, ?_⟩
              rw [htk, Array.toList_push]
              exact hIt.append (.cons _ _ .nil)
        case done5 =>
          intro h20 tk20 m20 led20 F20 N20 hj
          rw [hJ5] at hj
          obtain ⟨hr1, hr2, hr3, hr4, hr5, hr6, items, ne, rfl, hIt⟩ := hj
          have e := hTv.length
          rw [Array.length_toList] at e
          rw [e, List.take_length] at hIt
          have hout : np ∉ (moves pos).map nim := hnp ▸ gp.out
          have hzero : np ≠ 0 → 0 ∈ (moves pos).map nim := hnp ▸ gp.zero
          show wpAny _ _ _ _ _ _
          k_steps
          all_goals
            rename News _ _ _ _ => NZ
            rename Fr _ _ _ _ => FZ
            refine hQT2 _ _ _ ((dd, o9) :: nb2) FZ (fun p hp => NZ p (.tail _ (up2 p ?_))) hnI (by rw [hJ2]; exact ⟨rfl, hr1, hr2, hr3, hr4⟩)
            simp only [List.mem_cons] at hp ⊢
            rcases hp with h | h | h <;> simp [h]
    case done2 =>
      intro h13 tk13 m13 led13 F13 N13 hj
      rw [hJ2] at hj
      obtain ⟨rfl, hm1, hm2, hm3, hm4⟩ := hj
      show wpAny _ _ _ _ _ _
      k_steps
      refine hQL _ _ ?_
      k_steps
end
end Mine
theorem PySem.Challenge.cw_ge0002_01_holds : PySem.Challenge.rw_ge0002_01.Holds :=
  Mine.law_holds
