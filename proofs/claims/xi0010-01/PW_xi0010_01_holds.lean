import PyProof.Rows.All
import Wide.All
import OpenK.AllK
import Wide.FinOn
import Lean
import PySem.Challenge.RW_xi0010_01
open PySem PySem.W PyProof.Rows PySem.Spec PySem.Calls
set_option Elab.async false
set_option maxRecDepth 100000
set_option maxHeartbeats 8000000
namespace Mine
abbrev PRG : Program := Challenge.rw_xi0010_01.row.prog
/-- what stands in the heap behind the top: the namespaces, the defs and their codes -/
def pst (i : Nat) : Stmt := PRG.main.body.getD i (.Pass ⟨0, 0, 0, 0⟩)
def mkF {st : Stmt} {n : Str} {p : Arguments} {b : List Stmt} {d : List PySem.Expr} {r : Option PySem.Expr} {t : List TypeParam} {s : Scope} {ts : Option Scope} {bn : Str} {pos : Pos} (_ : st = .FunctionDef n p b d r t s ts bn pos) (pm : String) (pt : Nat) (c : Addr) : Obj :=
  { cls := .type "function", data := .func { name := n, qualname := n, params := p, body := .stmts b, scope := s, globals := 3, closure := [], defaults := .none, kwdefaults := .none, pyModule := .str (Str.ofString pm) pt, code := .ref c } }
def mkC (x : String) (t : Nat) (line args : Int) (b : Nat) (u : Int) : Obj :=
  { cls := .type "code", data := .fields #[.str (Str.ofString x) t, .str (Str.ofString x) (t + 1), .str (Str.ofString "/claim/cut.py") (t + 2), .int line 0, .int args 0, .int 0 0, .int 0 0, .int 3 0, .ref b, .bool true, .int 181 0, .ref (b + 1), .none, .ref (b + 2), .ref (b + 3), .ref (b + 4), .int u 0, .int line 0, .str (Str.ofString "/claim/cut.py") (u.toNat + 1)] }
def mkE (P : Params) (x : String) (t : Nat) (v : Value) : DictEntry := { hash := PyData.keyHash P (Str.ofString x), key := .str (Str.ofString x) t, val := v }
noncomputable def KK : Params → Frag := fun P =>
  (nat_lit 2, { cls := .none, data := .dict #[] }) ::
  (nat_lit 3, { cls := .type "dict", data := .dict #[mkE P "__name__" 165 (.str (Str.ofString "law_xi0010_01") 320), mkE P "__doc__" 166 (.none), mkE P "__package__" 167 (.none), mkE P "__loader__" 168 (.builtin "__main__.__loader__#opaque"), mkE P "__spec__" 169 (.none), mkE P "__annotations__" 170 (.ref 6), mkE P "__builtins__" 171 (.ref 4), mkE P "__file__" 173 (.str (Str.ofString "/claim/cut.py") 172), mkE P "__cached__" 174 (.none), mkE P "_DIV_LIMIT" 190 (.int 4000 189), mkE P "_div2n1n" 207 (.ref 21), mkE P "_div3n2n" 221 (.ref 28), mkE P "_int2digits" 232 (.ref 35), mkE P "_digits2int" 243 (.ref 42), mkE P "_divmod_pos" 258 (.ref 49), mkE P "_strcoll" 268 (.ref 56), mkE P "_strip_padding" 278 (.ref 63), mkE P "add" 288 (.ref 70), mkE P "lshift" 296 (.ref 77), mkE P "mul" 304 (.ref 84), mkE P "neg" 311 (.ref 91), mkE P "isub" 319 (.ref 98), mkE P "_law_cells" 330 (.ref 105), mkE P "_law_word" 339 (.ref 112), mkE P "_law_sides" 354 (.ref 119), mkE P "_law_last" 371 (.ref 126), mkE P "_law_page" 382 (.ref 133), mkE P "_law_told" 391 (.ref 140), mkE P "law" 420 (.ref 147)] 29 }) ::
  (nat_lit 20, mkC "_div2n1n" 191 3 3 15 205) ::
  (nat_lit 21, mkF (st := pst 2) rfl "cpy313._pylong" 187 20) ::
  (nat_lit 27, mkC "_div3n2n" 208 19 6 22 219) ::
  (nat_lit 28, mkF (st := pst 3) rfl "cpy313._pylong" 187 27) ::
  (nat_lit 34, mkC "_int2digits" 222 29 2 29 230) ::
  (nat_lit 35, mkF (st := pst 4) rfl "cpy313._pylong" 187 34) ::
  (nat_lit 41, mkC "_digits2int" 233 45 2 36 241) ::
  (nat_lit 42, mkF (st := pst 5) rfl "cpy313._pylong" 187 41) ::
  (nat_lit 48, mkC "_divmod_pos" 244 54 2 43 256) ::
  (nat_lit 49, mkF (st := pst 6) rfl "cpy313._pylong" 187 48) ::
  (nat_lit 55, mkC "_strcoll" 261 66 2 50 266) ::
  (nat_lit 56, mkF (st := pst 8) rfl "cpy313.locale" 259 55) ::
  (nat_lit 62, mkC "_strip_padding" 269 68 2 57 276) ::
  (nat_lit 63, mkF (st := pst 9) rfl "cpy313.locale" 259 62) ::
  (nat_lit 69, mkC "add" 281 79 2 64 286) ::
  (nat_lit 70, mkF (st := pst 11) rfl "cpy313.operator" 279 69) ::
  (nat_lit 76, mkC "lshift" 289 81 2 71 294) ::
  (nat_lit 77, mkF (st := pst 12) rfl "cpy313.operator" 279 76) ::
  (nat_lit 83, mkC "mul" 297 83 2 78 302) ::
  (nat_lit 84, mkF (st := pst 13) rfl "cpy313.operator" 279 83) ::
  (nat_lit 90, mkC "neg" 305 85 1 85 309) ::
  (nat_lit 91, mkF (st := pst 14) rfl "cpy313.operator" 279 90) ::
  (nat_lit 97, mkC "isub" 312 87 2 92 317) ::
  (nat_lit 98, mkF (st := pst 15) rfl "cpy313.operator" 279 97) ::
  (nat_lit 104, mkC "_law_cells" 322 91 1 99 328) ::
  (nat_lit 105, mkF (st := pst 17) rfl "law_xi0010_01" 320 104) ::
  (nat_lit 111, mkC "_law_word" 331 96 1 106 337) ::
  (nat_lit 112, mkF (st := pst 18) rfl "law_xi0010_01" 320 111) ::
  (nat_lit 118, mkC "_law_sides" 340 101 2 113 352) ::
  (nat_lit 119, mkF (st := pst 19) rfl "law_xi0010_01" 320 118) ::
  (nat_lit 125, mkC "_law_last" 355 113 5 120 369) ::
  (nat_lit 126, mkF (st := pst 20) rfl "law_xi0010_01" 320 125) ::
  (nat_lit 132, mkC "_law_page" 372 131 1 127 380) ::
  (nat_lit 133, mkF (st := pst 21) rfl "law_xi0010_01" 320 132) ::
  (nat_lit 139, mkC "_law_told" 383 140 2 134 389) ::
  (nat_lit 140, mkF (st := pst 22) rfl "law_xi0010_01" 320 139) ::
  (nat_lit 146, mkC "law" 392 143 1 141 418) ::
  (nat_lit 147, mkF (st := pst 23) rfl "law_xi0010_01" 320 146) ::
  []
abbrev asK : List Addr := [2, 3, 20, 21, 27, 28, 34, 35, 41, 42, 48, 49, 55, 56, 62, 63, 69, 70, 76, 77, 83, 84, 90, 91, 97, 98, 104, 105, 111, 112, 118, 119, 125, 126, 132, 133, 139, 140, 146, 147]
theorem asK_is : ∀ P, asK = (KK P).map (·.1) := fun P => by kernel_rfl
noncomputable abbrev hkK : Hook := kmHook KK asK asK_is [37, 30]
/-- the text without the lines that a later one undoes -/
noncomputable def qv : Program := view PRG [1, 2, 3, 4, 5, 6, 8, 9, 11, 12, 13, 14, 15, 17, 18, 19, 20, 21, 22, 23]
theorem top_left : LeftO PRG qv [] (fun s => xlAt qv [] s && recOk (RowW.records Challenge.rw_xi0010_01.row.toRowW) s) hkK.obs hkK.val 1500 := fun w => by kernel_rfl
end Mine
namespace Mine
/-- the looks at the row and at the law, one by one -/
theorem said_row : Challenge.rw_xi0010_01.row.wellSaid = true := by
  unfold OpenRow.wellSaid OpenRow.partSaid looksOpen
  repeat' with_reducible refine look_both ?_ ?_
  all_goals decide +kernel
theorem said_well : Challenge.rw_xi0010_01.wellSaid = true := by
  unfold OpenLaw.wellSaid
  repeat' with_reducible refine look_both ?_ ?_
  all_goals first | with_reducible exact said_row | decide +kernel
end Mine
namespace Mine
open Builtin.Int (intBits)
structure Shl (a n v : Int) : Prop where
  hn : 0 ≤ n
  hs : (intBits a : Int) + n ≤ 2 ^ 27
  he : a * 2 ^ n.toNat = v
structure Shr (a n v : Int) : Prop where
  hn : 0 ≤ n
  he : a.fdiv (2 ^ n.toNat) = v
structure Mul (a b v : Int) : Prop where
  hm : IntMulOk a b
  he : a * b = v
structure And2 (a b v : Int) : Prop where
  he : Builtin.bitAnd a b = v
structure Or2 (a b v : Int) : Prop where
  he : Builtin.bitOr a b = v
structure Xor2 (a b v : Int) : Prop where
  he : Builtin.bitXor a b = v
structure Fdv (a b v : Int) : Prop where
  hb : b ≠ 0
  hp : Builtin.divisionGoesByPylong a b = false
  he : a.fdiv b = v
section
variable {prog : Program} {w : World} {A : Around} {E : Value → Shared → Prop} {s : Shared} {a b n v : Int} {t u : Tok} {Q : Value → Shared → Prop}
theorem r_shl (f : Shl a n v) (h : Q (.int v s.toks) { s with toks := s.toks + 1 }) : wpAny (model prog w) A (binaryOp .LShift (.int a t) (.int n u)) Q E s := lshift_int f.hn f.hs (by rw [f.he]; exact h)
theorem r_ishl (f : Shl a n v) (h : Q (.int v s.toks) { s with toks := s.toks + 1 }) : wpAny (model prog w) A (inplaceOp .LShift (.int a t) (.int n u)) Q E s := ilshift_int f.hn f.hs (by rw [f.he]; exact h)
theorem r_shr (f : Shr a n v) (h : Q (.int v s.toks) { s with toks := s.toks + 1 }) : wpAny (model prog w) A (binaryOp .RShift (.int a t) (.int n u)) Q E s := rshift_int f.hn (by rw [f.he]; exact h)
theorem r_ishr (f : Shr a n v) (h : Q (.int v s.toks) { s with toks := s.toks + 1 }) : wpAny (model prog w) A (inplaceOp .RShift (.int a t) (.int n u)) Q E s := irshift_int f.hn (by rw [f.he]; exact h)
theorem r_mul (f : Mul a b v) (h : Q (.int v s.toks) { s with toks := s.toks + 1 }) : wpAny (model prog w) A (binaryOp .Mult (.int a t) (.int b u)) Q E s := P.mul_int (by rw [f.he]; exact h) f.hm
theorem r_and (f : And2 a b v) (h : Q (.int v s.toks) { s with toks := s.toks + 1 }) : wpAny (model prog w) A (binaryOp .BitAnd (.int a t) (.int b u)) Q E s := and_int (by rw [f.he]; exact h)
theorem r_or (f : Or2 a b v) (h : Q (.int v s.toks) { s with toks := s.toks + 1 }) : wpAny (model prog w) A (binaryOp .BitOr (.int a t) (.int b u)) Q E s := or_int (by rw [f.he]; exact h)
theorem r_xor (f : Xor2 a b v) (h : Q (.int v s.toks) { s with toks := s.toks + 1 }) : wpAny (model prog w) A (binaryOp .BitXor (.int a t) (.int b u)) Q E s := xor_int (by rw [f.he]; exact h)
theorem r_fdiv (f : Fdv a b v) (h : Q (.int v s.toks) { s with toks := s.toks + 1 }) : wpAny (model prog w) A (binaryOp .FloorDiv (.int a t) (.int b u)) Q E s := floordiv_int f.hb (by rw [f.he]; exact h) (.inl f.hp)
theorem r_divmod {h₀ : Heap} {L : Addr} {m : Str → Option Value} {news : List (Addr × Obj)} (F : Fr h₀ L s.heap m) (N : News h₀ L s.heap news) (hb : b ≠ 0) (hp : Builtin.divisionGoesByPylong a b = false)
    (h : ∀ h', Fr h₀ L h' m → (∀ p ∈ news, p.1 < s.heap.objs.size) → News h₀ L h' ((s.heap.objs.size, { cls := .type "tuple", data := .seq #[.int (a.fdiv b) s.toks, .int (a.fmod b) (s.toks + 1)] }) :: news) →
      Q (.ref s.heap.objs.size) { s with toks := s.toks + 1 + 1, heap := h' }) :
    wpAny (model prog w) A (call (.builtin "divmod") [.int a t, .int b u]) Q E s := divmod_N F N hb (fun h' F' N' => h h' F' (fun p hp => Heap.lt_size (N p hp).1) N') (.inl hp)
end
theorem all_ne {d e : Addr} : ∀ {l : List (Addr × Obj)}, AllLt d l → @LE.le Nat _ d e → ∀ p ∈ l, p.1 ≠ e
  | [], _, _, _, h => nomatch h
  | q :: r, h, hd, p, hp => by
    rcases List.mem_cons.mp hp with rfl | hp
    · exact Nat.ne_of_lt (Nat.lt_of_lt_of_le h.1 hd)
    · exact all_ne h.2 hd p hp
end Mine
local macro_rules | `(tactic| walk_at $s:str) => `(tactic| k_extra $s)
local macro_rules | `(tactic| walk_at "call builtin:divmod") => `(tactic| ((with_reducible show wpAny _ _ (call (Value.builtin _) [Value.int _ _, Value.int _ _]) _ _ _); refine Mine.r_divmod (by assumption) (by assumption) (by omega) (by assumption) ?_; intro _ _ ll _; (try k_lt ll)))
local macro_rules | `(tactic| walk_at "binaryOp LShift int int") => `(tactic| refine Mine.r_shl (by assumption) ?_)
local macro_rules | `(tactic| walk_at "inplaceOp LShift int int") => `(tactic| refine Mine.r_ishl (by assumption) ?_)
local macro_rules | `(tactic| walk_at "binaryOp RShift int int") => `(tactic| refine Mine.r_shr (by assumption) ?_)
local macro_rules | `(tactic| walk_at "inplaceOp RShift int int") => `(tactic| refine Mine.r_ishr (by assumption) ?_)
local macro_rules | `(tactic| walk_at "binaryOp BitAnd int int") => `(tactic| refine Mine.r_and (by assumption) ?_)
local macro_rules | `(tactic| walk_at "binaryOp BitOr int int") => `(tactic| refine Mine.r_or (by assumption) ?_)
local macro_rules | `(tactic| walk_at "binaryOp Mult int int") => `(tactic| refine Mine.r_mul (by assumption) ?_)
local macro_rules | `(tactic| walk_at "binaryOp BitXor int int") => `(tactic| refine Mine.r_xor (by assumption) ?_)
local macro_rules | `(tactic| walk_at "binaryOp FloorDiv int int") => `(tactic| refine Mine.r_fdiv (by assumption) ?_)
local macro_rules | `(tactic| k_all) => `(tactic| first | assumption | exact Mine.all_ne (by assumption) (by first | exact Nat.le_refl _ | omega) | exact List.forall_mem_nil _ | exact List.forall_mem_cons.mpr ⟨by k_ne, by k_all⟩)
local macro_rules | `(tactic| k_mem) => `(tactic| first | assumption | (refine List.mem_cons_of_mem _ ?_; assumption) | (refine List.mem_cons_of_mem _ (List.mem_cons_of_mem _ ?_); assumption))
local macro_rules | `(tactic| walk_at "subscriptTail Name Name str int") => `(tactic| k_extra "subscriptTail")
local macro_rules | `(tactic| walk_at "subscriptTail Name BinOp str int") => `(tactic| k_extra "subscriptTail")
local macro_rules | `(tactic| walk_at "subscriptTail Constant BinOp str int") => `(tactic| k_extra "subscriptTail")
local macro_rules | `(tactic| walk_at "subscriptTail Constant IfExp str int") => `(tactic| k_extra "subscriptTail")
local macro_rules | `(tactic| walk_at "subscriptTail Name Slice str ref") => `(tactic| k_extra "subscriptTail")
namespace Mine
abbrev Led := List (Addr × Obj)
/-- the walk is told what the written part holds -/
theorem filled : Challenge.rw_xi0010_01.prog = Challenge.rw_xi0010_01.prog ∧ KK = KK := by
  k_fill
  exact ⟨rfl, rfl⟩

/-- what a call of the def at f with vs gives back: Out says it of the value and the ledger behind the call -/
def Con (w : World) (f : Addr) (dd uu : Nat) (news : Led) (vs : List Value) (Out : Value → Led → Prop) : Prop :=
  ∀ (p : Program) (loose : List Str) (mean : ExcName → Option Value) (mg mb : Str → Option Value) (dp un : Nat) (gd : Option (List Code)) (cn : Str) (cs : Scope) (a : Addr) (ccd : Value) (cl : List (Str × Addr))
    (outer : List Env) (A₀ : Around) (base h₀ : Heap) (L : Addr) (m : Str → Option Value) (s : Shared) (Q E : Value → Shared → Prop),
    Below A₀ base outer h₀ → Fr h₀ L s.heap m → (KK w.params).In h₀ → News h₀ L s.heap news → Top p loose mean mg mb h₀ → cs.kind = .function → dp + dd < recursionLimit → un + uu < cLine →
    (∀ r news' h' tk', Fr h₀ L h' m → News h₀ L h' news' → Out r news' → Q r { s with heap := h', toks := tk' }) →
    wpAny (model PRG w) (ktrTop dp un gd cn cs L a ccd cl outer) (call (.ref f) vs) Q E s

abbrev tupO (vs : List Value) : Obj := { cls := .type "tuple", data := .seq vs.toArray }
abbrev lstO (vs : List Value) : Obj := { cls := .type "list", data := .seq vs.toArray }

abbrev outInt (news : Led) (x : Int) : Value → Led → Prop := fun r news' => news' = news ∧ ∃ t, r = .int x t
abbrev outPair (news : Led) (x y : Int) : Value → Led → Prop := fun r news' => ∃ q t u, r = .ref q ∧ news' = (q, tupO [.int x t, .int y u]) :: news ∧ ∀ p ∈ news, p.1 < q

theorem con_use {w : World} {f : Addr} {dd uu : Nat} {news : Led} {vs : List Value} {Out : Value → Led → Prop} {p : Program} {loose : List Str} {mean : ExcName → Option Value} {mg mb : Str → Option Value} {dp un : Nat} {gd : Option (List Code)} {cn : Str} {cs : Scope} {a : Addr} {ccd : Value} {cl : List (Str × Addr)}
    {outer : List Env} {A₀ : Around} {base h₀ : Heap} {L : Addr} {m : Str → Option Value} {s : Shared} {Q E : Value → Shared → Prop}
    (C : Con w f dd uu news vs Out) (B : Below A₀ base outer h₀) (F : Fr h₀ L s.heap m) (X : (KK w.params).In h₀) (N : News h₀ L s.heap news) (T : Top p loose mean mg mb h₀) (hk : cs.kind = .function) (hd : dp + dd < recursionLimit) (hu : un + uu < cLine)
    (ret : let g' := s.gens; let d' := s.drawn; let o' := s.os; ∀ r news' h' tk', Fr h₀ L h' m → News h₀ L h' news' → Out r news' → Q r ⟨h', g', d', tk', o'⟩) :
    wpAny (model PRG w) (ktrTop dp un gd cn cs L a ccd cl outer) (call (.ref f) vs) Q E s := C _ _ _ _ _ _ _ _ _ _ _ _ _ _ _ _ _ _ _ _ _ _ B F X N T hk hd hu ret
theorem ret_pair {h₀ h' : Heap} {L : Addr} {m : Str → Option Value} {s : Shared} {Q : Value → Shared → Prop} {news extra : Led} {x y x' y' : Int} {t u : Tok} {D : Addr} {tk' : Nat}
    (hret : ∀ r news' h' tk', Fr h₀ L h' m → News h₀ L h' news' → outPair news x y r news' → Q r { s with heap := h', toks := tk' })
    (F : Fr h₀ L h' m) (N : News h₀ L h' ((D, tupO [.int x' t, .int y' u]) :: extra)) (hs : ∀ p ∈ news, p ∈ extra) (hl : ∀ p ∈ news, p.1 < D) (e : x' = x ∧ y' = y) : Q (.ref D) { s with heap := h', toks := tk' } := by
  obtain ⟨rfl, rfl⟩ := e
  exact hret _ ((D, tupO [.int x' t, .int y' u]) :: news) _ _ F (fun p hp => N p ((List.mem_cons.mp hp).elim (fun e => e ▸ .head _) fun h => .tail _ (hs p h))) ⟨D, t, u, rfl, rfl, hl⟩
theorem ret_int {h₀ h' : Heap} {L : Addr} {m : Str → Option Value} {s : Shared} {Q : Value → Shared → Prop} {news extra : Led} {x x' : Int} {t : Tok} {tk' : Nat}
    (hret : ∀ r news' h' tk', Fr h₀ L h' m → News h₀ L h' news' → outInt news x r news' → Q r { s with heap := h', toks := tk' })
    (F : Fr h₀ L h' m) (N : News h₀ L h' extra) (hs : ∀ p ∈ news, p ∈ extra) (e : x' = x) : Q (.int x' t) { s with heap := h', toks := tk' } := by
  subst e
  exact hret _ news _ _ F (fun p hp => N p (hs p hp)) ⟨rfl, t, rfl⟩
/-- a name is stored: the frame's map and the count get names of their own (a smaller proof) -/
theorem r_store {w : World} {A : Around} {E : Value → Shared → Prop} {s : Shared} {h₀ : Heap} {L a : Addr} {m : Str → Option Value} {cn : Str} {cs : Scope} {ccd : Value} {cl : List (Str × Addr)} {x : Str} {v : Value} {Q : Unit → Shared → Prop} {news : Led} (F : Fr h₀ L s.heap m) (N : News h₀ L s.heap news)
    (h : let m' : Str → Option Value := fun y => if y = x then some v else m y; let g' := s.gens; let d' := s.drawn; let o' := s.os; ∀ h' tk, Fr h₀ L h' m' → News h₀ L h' news → Q () ⟨h', g', d', tk, o'⟩)
    (hk : cs.kind = .function) (hx : (envX cn cs L a ccd cl).kindOf x = some .local) : wpAny (model PRG w) A (storeName (envX cn cs L a ccd cl) x v) Q E s := storeX_L F N (fun h' F' N' => h h' _ F' N') hk hx
theorem r_store0 {w : World} {A : Around} {E : Value → Shared → Prop} {s : Shared} {h₀ : Heap} {L a : Addr} {m : Str → Option Value} {cn : Str} {cs : Scope} {ccd : Value} {cl : List (Str × Addr)} {x : Str} {v : Value} {Q : Unit → Shared → Prop} {news : Led} (F : Fr h₀ L s.heap m) (N : News h₀ L s.heap news)
    (h : let g' := s.gens; let d' := s.drawn; let o' := s.os; ∀ h' tk, Fr h₀ L h' (fun y => if y = x then some v else m y) → News h₀ L h' news → Q () ⟨h', g', d', tk, o'⟩)
    (hk : cs.kind = .function) (hx : (envX cn cs L a ccd cl).kindOf x = some .local) : wpAny (model PRG w) A (storeName (envX cn cs L a ccd cl) x v) Q E s := storeX_L F N (fun h' F' N' => h h' _ F' N') hk hx
theorem name_fr {h₀ h : Heap} {L : Addr} {m : Str → Option Value} {P : Prop} (F : Fr h₀ L h m) (k : let m' := m; Fr h₀ L h m' → P) : P := k F
theorem fold_state {prog : Program} {w : World} {A : Around} {β : Type} {t : Sem β} {Q : β → Shared → Prop} {E : Value → Shared → Prop} {s : Shared} (h : let g' := s.gens; let d' := s.drawn; let o' := s.os; ∀ tk, wpAny (model prog w) A t Q E ⟨s.heap, g', d', tk, o'⟩) : wpAny (model prog w) A t Q E s := h s.toks
end Mine
namespace Mine
open Builtin.Int (intBits)
theorem bits_lt {x : Int} {k : Nat} (h0 : 0 ≤ x) (h : x < 2 ^ k) : intBits x ≤ k := by
  refine intBits_le_iff.mpr ?_
  have e : ((2 ^ k : Nat) : Int) = (2 : Int) ^ k := kbt_cast k
  omega
theorem lt_bits (x : Int) : x < 2 ^ intBits x := by
  have h := intBits_le_iff.mp (Nat.le_refl (intBits x))
  have e : ((2 ^ intBits x : Nat) : Int) = (2 : Int) ^ intBits x := kbt_cast _
  omega
theorem bits_ge {x : Int} (h0 : 0 < x) : 1 ≤ intBits x ∧ (2 : Int) ^ (intBits x - 1) ≤ x := by
  have h1 : ¬ intBits x ≤ 0 := fun h => by
    have := intBits_le_iff.mp h
    simp at this; omega
  refine ⟨by omega, ?_⟩
  have h2 : ¬ intBits x ≤ intBits x - 1 := by omega
  rw [intBits_le_iff] at h2
  have e : ((2 ^ (intBits x - 1) : Nat) : Int) = (2 : Int) ^ (intBits x - 1) := kbt_cast _
  omega
theorem pow_le_of {i j : Nat} (h : i ≤ j) : (2 : Int) ^ i ≤ 2 ^ j := by
  have := Nat.pow_le_pow_right (n := 2) (by decide) h
  rw [← kbt_cast, ← kbt_cast]
  exact_mod_cast this
theorem mk_shl {a n : Int} {k : Nat} (hn : 0 ≤ n) (h1 : n ≤ 100000) (ha : intBits a ≤ k) (hk : k ≤ 100000) : Shl a n (a * 2 ^ n.toNat) := ⟨hn, by omega, rfl⟩
theorem mk_mul {a b : Int} {i j : Nat} (ha : intBits a ≤ i) (hb : intBits b ≤ j) (h : i + j ≤ 100000) : Mul a b (a * b) := ⟨IntMulOk.of_le ha hb (by omega), rfl⟩
theorem mk_shr {a n : Int} (hn : 0 ≤ n) : Shr a n (a / 2 ^ n.toNat) := ⟨hn, Int.fdiv_eq_ediv_of_nonneg _ (Int.le_of_lt (kbt_pos _))⟩
theorem mk_mask (a : Int) (k : Nat) : And2 a (2 ^ k - 1) (a % 2 ^ k) := ⟨kbt_mask a k⟩
theorem dbl (a : Int) (k : Nat) : a * 2 ^ (k + 1) = 2 * (a * 2 ^ k) := by rw [Int.pow_succ]; grind
theorem and_low (a : Int) : ∀ (k : Nat) (x : Int), 0 ≤ x → x < 2 ^ k → Builtin.bitAnd (a * 2 ^ k) x = 0
  | 0, x, h0, h1 => by
    have : x = 0 := by simp at h1; omega
    rw [this, bitAnd_zero]
  | k + 1, x, h0, h1 => by
    have hp : (2 : Int) ^ (k + 1) = 2 * 2 ^ k := by rw [Int.pow_succ]; omega
    rw [kbt_halves, dbl, show 2 * (a * 2 ^ k) / 2 = a * 2 ^ k from by omega, and_low a k (x / 2) (by omega) (by omega), if_neg (by omega)]
    rfl
theorem and_high (a : Int) : ∀ (k : Nat) (x : Int), 0 ≤ x → x < 2 ^ k → Builtin.bitAnd (a * 2 ^ k + x) (a * 2 ^ k) = a * 2 ^ k
  | 0, x, h0, h1 => by
    have : x = 0 := by simp at h1; omega
    rw [this, Int.add_zero, bitAnd_self]
  | k + 1, x, h0, h1 => by
    have hp : (2 : Int) ^ (k + 1) = 2 * 2 ^ k := by rw [Int.pow_succ]; omega
    rw [kbt_halves, dbl, show 2 * (a * 2 ^ k) / 2 = a * 2 ^ k from by omega, show (2 * (a * 2 ^ k) + x) / 2 = a * 2 ^ k + x / 2 from by omega, and_high a k (x / 2) (by omega) (by omega), if_neg (by omega)]
    omega
theorem mk_or {a x : Int} (k : Nat) (h0 : 0 ≤ x) (h1 : x < 2 ^ k) : Or2 (a * 2 ^ k) x (a * 2 ^ k + x) := by
  constructor
  rw [bitOr_and, and_low a k x h0 h1]
  omega
theorem mk_xor {a x : Int} (k : Nat) (h0 : 0 ≤ x) (h1 : x < 2 ^ k) : Xor2 (a * 2 ^ k + x) (a * 2 ^ k) x := by
  constructor
  rw [bitXor_and, and_high a k x h0 h1]
  omega
theorem div_uniq {b q r q' r' : Int} (h : q * b + r = q' * b + r') (h0 : 0 ≤ r) (h1 : r < b) (h2 : 0 ≤ r') (h3 : r' < b) : q = q' ∧ r = r' := by
  have a1 := kbt_unique (a := q * b + r) (b := b) (q := q) (r := r) (by omega) (by rw [Int.mul_comm b q]; omega) h0 h1
  have a2 := kbt_unique (a := q * b + r) (b := b) (q := q') (r := r') (by omega) (by rw [Int.mul_comm b q', h]; omega) h2 h3
  omega
/-- below a product -/
theorem lt_of_mul {x y p : Int} (hp : 0 < p) (h : x * p < y * p) : x < y := Int.lt_of_mul_lt_mul_right h (Int.le_of_lt hp)

structure D3a (a12 a3 b b1 b2 q r P : Int) : Prop where
  e : a12 * P + a3 = q * b + r
  m : a12 * P + a3 = (P - 1) * b + ((a12 - b1 * P + b1) * P + a3 - (P - 1) * b2)
  lt : (a12 - b1 * P + b1) * P + a3 - (P - 1) * b2 < b
theorem d3a {a12 a3 b b1 b2 q r P : Int} (hP : 0 < P) (hb : b = b1 * P + b2) (h1 : a12 < b) (h3 : a3 < P) (e : a12 * P + a3 = q * b + r) : D3a a12 a3 b b1 b2 q r P := by
  have m : a12 * P + a3 = (P - 1) * b + ((a12 - b1 * P + b1) * P + a3 - (P - 1) * b2) := by subst hb; grind
  refine ⟨e, m, ?_⟩
  have h4 : (a12 + 1) * P ≤ b * P := Int.mul_le_mul_of_nonneg_right (by omega) (by omega)
  have h5 : (P - 1) * b + b = b * P := by grind
  have h6 : (a12 + 1) * P = a12 * P + P := by grind
  omega
theorem d3b {a12 a3 b b1 b2 q0 r0 P : Int} (hP : 0 < P) (hb : b = b1 * P + b2) (h2 : 0 ≤ b2) (h3 : a3 < P) (e : a12 = q0 * b1 + r0) (hq : 0 ≤ q0) (hr : r0 < b1) :
    a12 * P + a3 = q0 * b + (r0 * P + a3 - q0 * b2) ∧ r0 * P + a3 - q0 * b2 < b := by
  constructor
  · subst hb e; grind
  · have h4 : (r0 + 1) * P ≤ b1 * P := Int.mul_le_mul_of_nonneg_right (by omega) (by omega)
    have h5 : (r0 + 1) * P = r0 * P + P := by grind
    have h6 : 0 ≤ q0 * b2 := Int.mul_nonneg hq h2
    omega
end Mine
namespace Mine
def Div2 (w : World) (N : Int) (d : Nat) : Prop :=
  ∀ (news : Led) (a b n q r : Int) (ta tb tn : Tok), 1 ≤ n → n ≤ N → 0 ≤ a → a < b * 2 ^ n.toNat → 2 ^ (n.toNat - 1) ≤ b → b < 2 ^ n.toNat → a = q * b + r → 0 ≤ r → r < b →
    Con w 21 d (8 * d) news [.int a ta, .int b tb, .int n tn] (outPair news q r)
def Div3 (w : World) (N : Int) (d : Nat) : Prop :=
  ∀ (news : Led) (a12 a3 b b1 b2 n q r : Int) (t1 t2 t3 t4 t5 t6 : Tok), 1 ≤ n → n ≤ N → 0 ≤ a12 → 0 ≤ a3 → a3 < 2 ^ n.toNat → b = b1 * 2 ^ n.toNat + b2 → 0 ≤ b2 → b2 < 2 ^ n.toNat → 2 ^ (n.toNat - 1) ≤ b1 → b1 < 2 ^ n.toNat →
    a12 < b → a12 * 2 ^ n.toNat + a3 = q * b + r → 0 ≤ r → r < b →
    Con w 28 d (8 * d) news [.int a12 t1, .int a3 t2, .int b t3, .int b1 t4, .int b2 t5, .int n t6] (outPair news q r)

theorem div3_of (w : World) (N : Int) (d : Nat) (hN : N ≤ 9000) (IH : Div2 w N d) : Div3 w N (d + 2) := by
  intro news a12 a3 b b1 b2 n q r t1 t2 t3 t4 t5 t6 h1 h2 h3 h4 h5 h6 h7 h8 h9 h10 h11 h12 h13 h14
  have IHc : a12 < b1 * 2 ^ n.toNat → ∀ news t1 t2 t3, Con w 21 d (8 * d) news [.int a12 t1, .int b1 t2, .int n t3] (outPair news (a12 / b1) (a12 % b1)) := fun hlt news t1 t2 t3 =>
    IH news a12 b1 n _ _ t1 t2 t3 h1 h2 h3 hlt h9 h10 (by have := Int.mul_ediv_add_emod a12 b1; grind) (Int.emod_nonneg _ (by have := kbt_pos (n.toNat - 1); omega)) (Int.emod_lt_of_pos _ (by have := kbt_pos (n.toNat - 1); omega))
  have fV : Shr a12 n (a12 / 2 ^ n.toNat) := mk_shr (by omega)
  have f1 : Shl 1 n (2 ^ n.toNat) := by have := mk_shl (a := 1) (n := n) (k := 1) (by omega) (by omega) (by decide) (by omega); rwa [Int.one_mul] at this
  have hP := kbt_pos n.toNat
  have hP2 : (2 : Int) ^ n.toNat * 2 ^ n.toNat = 2 ^ (n.toNat + n.toNat) := (Int.pow_add _ _ _).symm
  have hbP : b < 2 ^ (n.toNat + n.toNat) := by
    have : (b1 + 1) * 2 ^ n.toNat ≤ 2 ^ n.toNat * 2 ^ n.toNat := Int.mul_le_mul_of_nonneg_right (by omega) (by omega)
    have : (b1 + 1) * 2 ^ n.toNat = b1 * 2 ^ n.toNat + 2 ^ n.toNat := by grind
    omega
  have fb1 : Shl b1 n (b1 * 2 ^ n.toNat) := mk_shl (by omega) (by omega) (bits_lt (by have := kbt_pos (n.toNat - 1); omega) h10) (by omega)
  have fr : ∀ r0 : Int, 0 ≤ r0 → r0 < 2 ^ (n.toNat + n.toNat + 1) → Shl r0 n (r0 * 2 ^ n.toNat) := fun r0 g1 g2 => mk_shl (by omega) (by omega) (bits_lt g1 g2) (by omega)
  have hPs : (2 : Int) ^ (n.toNat + n.toNat + 1) = 2 * 2 ^ (n.toNat + n.toNat) := by rw [Int.pow_succ]; omega
  have fo : ∀ r0 : Int, Or2 (r0 * 2 ^ n.toNat) a3 (r0 * 2 ^ n.toNat + a3) := fun r0 => mk_or n.toNat h4 h5
  have fm : ∀ x : Int, 0 ≤ x → x < 2 ^ (n.toNat + n.toNat) → Mul x b2 (x * b2) := fun x g1 g2 => mk_mul (bits_lt g1 g2) (bits_lt h7 h8) (by omega)
  have hPP : (2 : Int) ^ n.toNat ≤ 2 ^ (n.toNat + n.toNat) := pow_le_of (by omega)
  have hb1 : 0 < b1 := by have := kbt_pos (n.toNat - 1); omega
  generalize (2 : Int) ^ (n.toNat - 1) = P1 at *
  generalize (2 : Int) ^ (n.toNat + n.toNat + 1) = P3 at *
  generalize (2 : Int) ^ (n.toNat + n.toNat) = P2 at *
  generalize (2 : Int) ^ n.toNat = P at *
  have hb0 : 0 ≤ b1 * P := Int.mul_nonneg (by omega) (by omega)
  have hq := Int.mul_ediv_add_emod a12 P
  have hq1 := Int.emod_nonneg a12 (show P ≠ 0 by omega)
  have hq2 := Int.emod_lt_of_pos a12 hP
  have hcomm : P * (a12 / P) = (a12 / P) * P := Int.mul_comm _ _
  clear IH
  by_cases hc : a12 / P = b1
  · have D := d3a hP h6 h11 h5 h12
    have g := D.m; have g2 := D.lt; clear D
    have fr0 := fr (a12 - b1 * P + b1) (by rw [hc] at hcomm hq; omega) (by omega)
    have fo0 := fo (a12 - b1 * P + b1)
    have fm0 := fm (P - 1) (by omega) (by omega)
    clear fr fo fm IHc
    unfold Con
    intro p loose mean mg mb dp un gd cn cs a0 ccd cl outer A₀ base h₀ L m s Q E B F X N T hk hdp hun hret
    skip
    w_top off
    k_with_none
    k_with "exec While Compare cons nil" => k_while (fun (_ : List Int) q' r' => a12 * P + a3 = q' * b + r' ∧ r' < b) (fun _ _ r' => (-r').toNat) "q" "r"
    k_with "state" => (first | exact ⟨g, g2⟩ | (refine ⟨?_, by omega⟩; simp only [Int.sub_mul, Int.one_mul]; omega))
    refine wpAny_call ?_
    k_dflt ktr_enter
    ((rename Fr _ _ _ _ => F0'); refine name_fr F0' ?_; clear F0'; intro mE' FE')
    k_steps
    all_goals (try exact absurd hc (by assumption))
    all_goals (refine ret_pair hret (by assumption) (by assumption) (by intro p9 hp9; repeat (first | exact hp9 | refine List.Mem.tail _ ?_)) (ktn_ltOf (by first | assumption | exact And.right (by assumption) | exact And.right (And.right (by assumption)) | exact And.right (And.right (And.right (by assumption))) | exact And.right (And.right (And.right (And.right (by assumption)))) | exact And.right (And.right (And.right (And.right (And.right (by assumption))))) | exact allLt_of (by assumption))) (div_uniq (b := b) (by omega) (by omega) (by omega) (by omega) (by omega)))
  · have hlt : a12 / P < b1 := by
      have : a12 / P ≤ b1 := by
        have : (a12 / P) * P < (b1 + 1) * P := by
          have : (b1 + 1) * P = b1 * P + P := by grind
          omega
        have := lt_of_mul hP this
        omega
      omega
    have hlt2 : a12 < b1 * P := by
      have : (a12 / P + 1) * P ≤ b1 * P := Int.mul_le_mul_of_nonneg_right (by omega) (by omega)
      have : (a12 / P + 1) * P = a12 / P * P + P := by grind
      omega
    have C2 := IHc hlt2
    have e0 := Int.mul_ediv_add_emod a12 b1
    have e1 := Int.emod_nonneg a12 (show b1 ≠ 0 by omega)
    have e2 := Int.emod_lt_of_pos a12 hb1
    have e3 : 0 ≤ a12 / b1 := Int.ediv_nonneg h3 (by omega)
    have e4 : a12 / b1 < P2 := by
      have := Int.ediv_le_self (b := b1) h3
      omega
    have D := d3b (a12 := a12) (q0 := a12 / b1) (r0 := a12 % b1) hP h6 h7 h5 (by have := Int.mul_comm b1 (a12 / b1); omega) e3 e2
    generalize a12 / b1 = q0 at *
    generalize a12 % b1 = r0 at *
    have fr0 := fr r0 (by omega) (by omega)
    have fo0 := fo r0
    have fm0 := fm q0 (by omega) (by omega)
    have g := D.1; have g2 := D.2; clear D
    clear fr fo fm IHc
    unfold Con
    intro p loose mean mg mb dp un gd cn cs a0 ccd cl outer A₀ base h₀ L m s Q E B F X N T hk hdp hun hret
    skip
    w_top off
    k_with_none
    k_with "call ref" => (k_dflt (refine' con_use (C2 _ _ _ _) ?k1 ?k2 ?k3 ?k4 ?k5 ?k6 ?k7 ?k8 ?_; (case k1 => k_asm); (case k2 => k_asm); (case k3 => k_asm); (case k4 => k_asm); (case k5 => k_asm); (case k6 => first | exact rfl | assumption); (case k7 => ktr_room); (case k8 => ktr_units); intro gS9 dS9 oS9 r9 n9 h9 tk9 F9 N9 O9; obtain ⟨q9, t9, u9, e9, m9, l9⟩ := O9; subst e9; subst m9; (try k_lt l9); (try dsimp only); (try k_fold)))
    k_with "exec While Compare cons nil" => k_while (fun (_ : List Int) q' r' => a12 * P + a3 = q' * b + r' ∧ r' < b) (fun _ _ r' => (-r').toNat) "q" "r"
    k_with "state" => (first | exact ⟨g, g2⟩ | (refine ⟨?_, by omega⟩; simp only [Int.sub_mul, Int.one_mul]; omega))
    refine wpAny_call ?_
    k_dflt ktr_enter
    ((rename Fr _ _ _ _ => F0'); refine name_fr F0' ?_; clear F0'; intro mE' FE')
    k_steps
    all_goals (refine ret_pair hret (by assumption) (by assumption) (by intro p9 hp9; repeat (first | exact hp9 | refine List.Mem.tail _ ?_)) (ktn_ltOf (by first | assumption | exact And.right (by assumption) | exact And.right (And.right (by assumption)) | exact And.right (And.right (And.right (by assumption))) | exact And.right (And.right (And.right (And.right (by assumption)))) | exact And.right (And.right (And.right (And.right (And.right (by assumption))))) | exact allLt_of (by assumption))) (div_uniq (b := b) (by omega) (by omega) (by omega) (by omega) (by omega)))
end Mine
namespace Mine
open Builtin.Int (intBits)
theorem fdiv_uniq {a b q r : Int} (hb : 0 < b) (e : a = q * b + r) (h0 : 0 ≤ r) (h1 : r < b) : a.fdiv b = q ∧ a.fmod b = r := by
  have := kbt_unique (a := a) (b := b) (q := q) (r := r) (by omega) (by rw [Int.mul_comm b q]; omega) h0 h1
  rw [Int.fdiv_eq_ediv_of_nonneg _ (by omega), Int.fmod_eq_emod_of_nonneg _ (by omega)]
  omega
theorem noPy {a b : Int} (h0 : 0 < b) (h : b < 2 ^ 9000) : Builtin.divisionGoesByPylong a b = false := by
  refine PyProof.noPylong_of_log2 ?_
  have e : ((2 ^ 9000 : Nat) : Int) = (2 : Int) ^ 9000 := kbt_cast _
  rw [Nat.log2_lt (by omega)]
  generalize (2 : Int) ^ 9000 = X at *
  generalize (2 : Nat) ^ 9000 = Y at *
  omega
theorem div2_small (w : World) (d : Nat) (hd : 1 ≤ d) (news : Led) (a b n q r : Int) (ta tb tn : Tok) (h1 : 0 < b) (hp : Builtin.divisionGoesByPylong a b = false) (h2 : (intBits a : Int) - n ≤ 4000) (h3 : a = q * b + r) (h4 : 0 ≤ r) (h5 : r < b) :
    Con w 21 d (8 * d) news [.int a ta, .int b tb, .int n tn] (outPair news q r) := by
  have hb : b ≠ 0 := by omega
  have hfin := fdiv_uniq h1 h3 h4 h5
  clear h3 h4 h5
  unfold Con
  intro p loose mean mg mb dp un gd cn cs a0 ccd cl outer A₀ base h₀ L m s Q E B F X N T hk hdp hun hret
  skip
  w_top off
  k_with_none
  refine wpAny_call ?_
  k_dflt ktr_enter
  ((rename Fr _ _ _ _ => F0'); refine name_fr F0' ?_; clear F0'; intro mE' FE')
  k_steps
  all_goals (refine ret_pair hret (by assumption) (by assumption) (by intro p9 hp9; repeat (first | exact hp9 | refine List.Mem.tail _ ?_)) (ktn_ltOf (by first | assumption | exact And.right (by assumption) | exact And.right (And.right (by assumption)) | exact And.right (And.right (And.right (by assumption))) | exact And.right (And.right (And.right (And.right (by assumption)))) | exact And.right (And.right (And.right (And.right (And.right (by assumption))))) | exact allLt_of (by assumption))) hfin)
end Mine
namespace Mine
open Builtin.Int (intBits)
/-- the numbers of a two-by-one division in halves -/
structure Halves (a b P : Int) (q r b1 b2 ah a3 a4 q1 r1 q2 r2 : Int) : Prop where
  eb : b = b1 * P + b2
  b20 : 0 ≤ b2
  b2P : b2 < P
  ah0 : 0 ≤ ah
  ahb : ah < b
  a30 : 0 ≤ a3
  a3P : a3 < P
  a40 : 0 ≤ a4
  a4P : a4 < P
  e1 : ah * P + a3 = q1 * b + r1
  r10 : 0 ≤ r1
  r1b : r1 < b
  e2 : r1 * P + a4 = q2 * b + r2
  r20 : 0 ≤ r2
  r2b : r2 < b
  q10 : 0 ≤ q1
  q1P : q1 < P
  q20 : 0 ≤ q2
  q2P : q2 < P
  eq : q1 * P + q2 = q ∧ r2 = r
theorem quo_bounds {x b P a3 q r : Int} (hP : 0 < P) (hb : 0 < b) (h0 : 0 ≤ x) (h1 : x < b) (h2 : 0 ≤ a3) (h3 : a3 < P) (e : x * P + a3 = q * b + r) (r0 : 0 ≤ r) (rb : r < b) : 0 ≤ q ∧ q < P := by
  have h4 : (x + 1) * P ≤ b * P := Int.mul_le_mul_of_nonneg_right (by omega) (by omega)
  have h5 : (x + 1) * P = x * P + P := by grind
  have h6 : 0 ≤ x * P := Int.mul_nonneg h0 (by omega)
  constructor
  · have : (-1) * b < q * b := by omega
    have := lt_of_mul hb this
    omega
  · have : q * b < P * b := by rw [Int.mul_comm P b]; omega
    exact lt_of_mul hb this
theorem halves {a b P q r : Int} (hP : 0 < P) (h0 : 0 ≤ a) (hb : 0 < b) (hab : a < b * (P * P)) (e : a = q * b + r) (r0 : 0 ≤ r) (rb : r < b) :
    Halves a b P q r (b / P) (b % P) (a / (P * P)) (a / P % P) (a % P) ((a / (P * P) * P + a / P % P) / b) ((a / (P * P) * P + a / P % P) % b)
      (((a / (P * P) * P + a / P % P) % b * P + a % P) / b) (((a / (P * P) * P + a / P % P) % b * P + a % P) % b) := by
  have hPP : 0 < P * P := Int.mul_pos hP hP
  have ea : a / P * P + a % P = a := by have := Int.mul_ediv_add_emod a P; rw [Int.mul_comm]; exact this
  have eb : b / P * P + b % P = b := by have := Int.mul_ediv_add_emod b P; rw [Int.mul_comm]; exact this
  have ea2 : a / (P * P) * P + a / P % P = a / P := by
    have := Int.mul_ediv_add_emod (a / P) P
    rw [Int.ediv_ediv_of_nonneg (by omega), Int.mul_comm] at this
    exact this
  have ah0 : 0 ≤ a / (P * P) := Int.ediv_nonneg h0 (by omega)
  have ahb : a / (P * P) < b := Int.ediv_lt_of_lt_mul hPP hab
  have a30 := Int.emod_nonneg (a / P) (show P ≠ 0 by omega)
  have a3P := Int.emod_lt_of_pos (a / P) hP
  have a40 := Int.emod_nonneg a (show P ≠ 0 by omega)
  have a4P := Int.emod_lt_of_pos a hP
  have b20 := Int.emod_nonneg b (show P ≠ 0 by omega)
  have b2P := Int.emod_lt_of_pos b hP
  generalize a / (P * P) = ah at *
  generalize a / P % P = a3 at *
  generalize a % P = a4 at *
  generalize b / P = b1 at *
  generalize b % P = b2 at *
  have e1 := Int.mul_ediv_add_emod (ah * P + a3) b
  have r10 := Int.emod_nonneg (ah * P + a3) (show b ≠ 0 by omega)
  have r1b := Int.emod_lt_of_pos (ah * P + a3) hb
  generalize (ah * P + a3) / b = q1 at *
  generalize (ah * P + a3) % b = r1 at *
  have e2 := Int.mul_ediv_add_emod (r1 * P + a4) b
  have r20 := Int.emod_nonneg (r1 * P + a4) (show b ≠ 0 by omega)
  have r2b := Int.emod_lt_of_pos (r1 * P + a4) hb
  generalize (r1 * P + a4) / b = q2 at *
  generalize (r1 * P + a4) % b = r2 at *
  have e1' : ah * P + a3 = q1 * b + r1 := by rw [Int.mul_comm q1 b]; omega
  have e2' : r1 * P + a4 = q2 * b + r2 := by rw [Int.mul_comm q2 b]; omega
  have B1 := quo_bounds hP hb ah0 ahb a30 a3P e1' r10 r1b
  have B2 := quo_bounds hP hb r10 r1b a40 a4P e2' r20 r2b
  refine ⟨eb.symm, b20, b2P, ah0, ahb, a30, a3P, a40, a4P, e1', r10, r1b, e2', r20, r2b, B1.1, B1.2, B2.1, B2.2, ?_⟩
  refine div_uniq (b := b) ?_ r20 r2b r0 rb
  rw [← e, ← ea, ← ea2, e1']
  have : (q1 * b + r1) * P + a4 = q1 * P * b + (r1 * P + a4) := by grind
  rw [this, e2']
  grind
theorem mul_lt_pow {b P Q : Int} (hP : 0 < P) (h1 : Q * P ≤ b) (h2 : b < P * P) : Q ≤ b / P ∧ b / P < P :=
  ⟨Int.le_ediv_of_mul_le hP h1, Int.ediv_lt_of_lt_mul hP h2⟩
end Mine
namespace Mine
open Builtin.Int (intBits)
theorem div2_even (w : World) (N : Int) (d : Nat) (hN : N ≤ 4500) (IH : Div3 w N d) (news : Led) (a b n q r P P' : Int) (h : Nat) (ta tb tn : Tok) (h1 : 1 ≤ h) (hh : (h : Int) ≤ N) (hn : n = 2 * h) (eP : (2 : Int) ^ h = P) (eP' : (2 : Int) ^ (h - 1) = P')
    (h0 : 0 ≤ a) (hab : a < b * (P * P)) (hb1 : P' * P ≤ b) (hb2 : b < P * P) (hbig : 4000 < (intBits a : Int) - n) (e : a = q * b + r) (r0 : 0 ≤ r) (rb : r < b) :
    Con w 21 (d + 1) (8 * (d + 1)) news [.int a ta, .int b tb, .int n tn] (outPair news q r) := by
  have hP : 0 < P := by have := kbt_pos h; omega
  have hP' : 0 < P' := by have := kbt_pos (h - 1); omega
  have hb0 : 0 < b := by have := Int.mul_pos hP' hP; omega
  have H := halves hP h0 hb0 hab e r0 rb
  have M := mul_lt_pow hP hb1 hb2
  have en : n.toNat = h + h := by omega
  have eh : (h : Int).toNat = h := by omega
  have ePP : (2 : Int) ^ n.toNat = P * P := by rw [en, Int.pow_add, eP]
  have g1 : And2 n 1 0 := by have := mk_mask n 1; rw [show (2 : Int) ^ 1 - 1 = 1 from rfl, show n % 2 ^ 1 = 0 from by omega] at this; exact this
  have g2 : Shr n 1 h := by have := mk_shr (a := n) (n := 1) (by decide); rw [show n / 2 ^ (1 : Int).toNat = h from by rw [show (2 : Int) ^ (1 : Int).toNat = 2 from rfl]; omega] at this; exact this
  have g3 : Shl 1 h P := by have := mk_shl (a := 1) (n := h) (k := 1) (by omega) (by omega) (by decide) (by omega); rwa [Int.one_mul, eh, eP] at this
  have g4 : Shr b h (b / P) := by have := mk_shr (a := b) (n := h) (by omega); rwa [eh, eP] at this
  have g5 : And2 b (P - 1) (b % P) := by have := mk_mask b h; rwa [eP] at this
  have g6 : Shr a n (a / (P * P)) := by have := mk_shr (a := a) (n := n) (by omega); rwa [ePP] at this
  have g7 : Shr a h (a / P) := by have := mk_shr (a := a) (n := h) (by omega); rwa [eh, eP] at this
  have g8 : And2 (a / P) (P - 1) (a / P % P) := by have := mk_mask (a / P) h; rwa [eP] at this
  have g9 : And2 a (P - 1) (a % P) := by have := mk_mask a h; rwa [eP] at this
  generalize a / (P * P) = ah at *
  generalize a / P % P = a3 at *
  generalize a % P = a4 at *
  generalize b % P = b2 at *
  generalize (ah * P + a3) / b = q1 at *
  generalize (ah * P + a3) % b = r1 at *
  generalize (r1 * P + a4) / b = q2 at *
  generalize (r1 * P + a4) % b = r2 at *
  generalize b / P = b1 at *
  generalize a / P = aP at *
  obtain ⟨eb, b20, b2P, ah0, ahb, a30, a3P, a40, a4P, e1, r10, r1b, e2, r20, r2b, q10, q1P, q20, q2P, heq⟩ := H
  have C1 : ∀ news t1 t2 t3 t4 t5 t6, Con w 28 d (8 * d) news [.int ah t1, .int a3 t2, .int b t3, .int b1 t4, .int b2 t5, .int h t6] (outPair news q1 r1) := fun news t1 t2 t3 t4 t5 t6 =>
    IH news ah a3 b b1 b2 h q1 r1 t1 t2 t3 t4 t5 t6 (by omega) hh ah0 a30 (by rw [eh, eP]; exact a3P) (by rw [eh, eP]; exact eb) b20 (by rw [eh, eP]; exact b2P) (by rw [eh, eP']; exact M.1) (by rw [eh, eP]; exact M.2) ahb (by rw [eh, eP]; exact e1) r10 r1b
  have C2 : ∀ news t1 t2 t3 t4 t5 t6, Con w 28 d (8 * d) news [.int r1 t1, .int a4 t2, .int b t3, .int b1 t4, .int b2 t5, .int h t6] (outPair news q2 r2) := fun news t1 t2 t3 t4 t5 t6 =>
    IH news r1 a4 b b1 b2 h q2 r2 t1 t2 t3 t4 t5 t6 (by omega) hh r10 a40 (by rw [eh, eP]; exact a4P) (by rw [eh, eP]; exact eb) b20 (by rw [eh, eP]; exact b2P) (by rw [eh, eP']; exact M.1) (by rw [eh, eP]; exact M.2) r1b (by rw [eh, eP]; exact e2) r20 r2b
  have g10 : Shl q1 h (q1 * P) := by have := mk_shl (a := q1) (n := h) (k := h) (by omega) (by omega) (bits_lt q10 (by rw [eP]; exact q1P)) (by omega); rwa [eh, eP] at this
  have g11 : Or2 (q1 * P) q2 (q1 * P + q2) := by have := mk_or (a := q1) (x := q2) h q20 (by rw [eP]; exact q2P); rwa [eP] at this
  clear IH en eh ePP
  unfold Con
  intro p loose mean mg mb dp un gd cn cs a0 ccd cl outer A₀ base h₀ L m s Q E B F X N T hk hdp hun hret
  skip
  w_top off
  k_with_none
  k_with "call ref" => (k_dflt (first | (refine' con_use (C1 _ _ _ _ _ _ _) ?k1 ?k2 ?k3 ?k4 ?k5 ?k6 ?k7 ?k8 ?_; (case k1 => k_asm); (case k2 => k_asm); (case k3 => k_asm); (case k4 => k_asm); (case k5 => k_asm); (case k6 => first | exact rfl | assumption); (case k7 => ktr_room); (case k8 => ktr_units); intro gS9 dS9 oS9 r9 n9 h9 tk9 F9 N9 O9; obtain ⟨q9, t9, u9, e9, m9, l9⟩ := O9; subst e9; subst m9; (try k_lt l9); (try dsimp only); (try k_fold)) | (refine' con_use (C2 _ _ _ _ _ _ _) ?k1 ?k2 ?k3 ?k4 ?k5 ?k6 ?k7 ?k8 ?_; (case k1 => k_asm); (case k2 => k_asm); (case k3 => k_asm); (case k4 => k_asm); (case k5 => k_asm); (case k6 => first | exact rfl | assumption); (case k7 => ktr_room); (case k8 => ktr_units); intro gS9 dS9 oS9 r9 n9 h9 tk9 F9 N9 O9; obtain ⟨q9, t9, u9, e9, m9, l9⟩ := O9; subst e9; subst m9; (try k_lt l9); (try dsimp only); (try k_fold))))
  refine wpAny_call ?_
  k_dflt ktr_enter
  ((rename Fr _ _ _ _ => F0'); refine name_fr F0' ?_; clear F0'; intro mE' FE')
  k_steps
  all_goals (refine ret_pair hret (by assumption) (by assumption) (by intro p9 hp9; repeat (first | exact hp9 | refine List.Mem.tail _ ?_)) (ktn_ltOf (by first | assumption | exact And.right (by assumption) | exact And.right (And.right (by assumption)) | exact And.right (And.right (And.right (by assumption))) | exact And.right (And.right (And.right (And.right (by assumption)))) | exact And.right (And.right (And.right (And.right (And.right (by assumption))))) | exact allLt_of (by assumption))) heq)
theorem div2_odd (w : World) (N : Int) (d : Nat) (hN : N ≤ 4500) (IH : Div3 w N d) (news : Led) (a b n q r P P' : Int) (h : Nat) (ta tb tn : Tok) (h1 : 1 ≤ h) (hh : (h : Int) ≤ N) (hn : n + 1 = 2 * h) (eP : (2 : Int) ^ h = P) (eP' : (2 : Int) ^ (h - 1) = P')
    (h0 : 0 ≤ a) (ha2 : (intBits a : Int) ≤ 20000) (hb3 : (intBits b : Int) ≤ 20000) (hab : 2 * a < (2 * b) * (P * P)) (hb1 : P' * P ≤ 2 * b) (hb2 : 2 * b < P * P) (hbig : 4000 < (intBits a : Int) - n) (e : a = q * b + r) (r0 : 0 ≤ r) (rb : r < b) :
    Con w 21 (d + 1) (8 * (d + 1)) news [.int a ta, .int b tb, .int n tn] (outPair news q r) := by
  have hP : 0 < P := by have := kbt_pos h; omega
  have hP' : 0 < P' := by have := kbt_pos (h - 1); omega
  have hb0 : 0 < 2 * b := by have := Int.mul_pos hP' hP; omega
  have fa : Shl a 1 (2 * a) := by have := mk_shl (a := a) (n := 1) (k := 20000) (by omega) (by omega) (by omega) (by omega); rwa [show a * 2 ^ (1 : Int).toNat = 2 * a from by rw [show (2 : Int) ^ (1 : Int).toNat = 2 from rfl]; omega] at this
  have fb : Shl b 1 (2 * b) := by have := mk_shl (a := b) (n := 1) (k := 20000) (by omega) (by omega) (by omega) (by omega); rwa [show b * 2 ^ (1 : Int).toNat = 2 * b from by rw [show (2 : Int) ^ (1 : Int).toNat = 2 from rfl]; omega] at this
  have fr : Shr (2 * r) 1 r := by have := mk_shr (a := 2 * r) (n := 1) (by decide); rwa [show 2 * r / 2 ^ (1 : Int).toNat = r from by rw [show (2 : Int) ^ (1 : Int).toNat = 2 from rfl]; omega] at this
  have e' : 2 * a = q * (2 * b) + 2 * r := by rw [e]; grind
  have a0 : 0 ≤ 2 * a := by omega
  have r0' : 0 ≤ 2 * r := by omega
  have rb' : 2 * r < 2 * b := by omega
  generalize hA : 2 * a = A at *
  generalize hB : 2 * b = B' at *
  generalize hR : 2 * r = R at *
  have H := halves hP a0 hb0 hab e' r0' rb'
  have M := mul_lt_pow hP hb1 hb2
  have en : (n + 1).toNat = h + h := by omega
  have eh : (h : Int).toNat = h := by omega
  have ePP : (2 : Int) ^ (n + 1).toNat = P * P := by rw [en, Int.pow_add, eP]
  have g1 : And2 n 1 1 := by have := mk_mask n 1; rw [show (2 : Int) ^ 1 - 1 = 1 from rfl, show n % 2 ^ 1 = 1 from by omega] at this; exact this
  have g2 : Shr (n + 1) 1 h := by have := mk_shr (a := n + 1) (n := 1) (by decide); rw [show (n + 1) / 2 ^ (1 : Int).toNat = h from by rw [show (2 : Int) ^ (1 : Int).toNat = 2 from rfl]; omega] at this; exact this
  have g3 : Shl 1 h P := by have := mk_shl (a := 1) (n := h) (k := 1) (by omega) (by omega) (by decide) (by omega); rwa [Int.one_mul, eh, eP] at this
  have g4 : Shr B' h (B' / P) := by have := mk_shr (a := B') (n := h) (by omega); rwa [eh, eP] at this
  have g5 : And2 B' (P - 1) (B' % P) := by have := mk_mask B' h; rwa [eP] at this
  have g6 : Shr A (n + 1) (A / (P * P)) := by have := mk_shr (a := A) (n := n + 1) (by omega); rwa [ePP] at this
  have g7 : Shr A h (A / P) := by have := mk_shr (a := A) (n := h) (by omega); rwa [eh, eP] at this
  have g8 : And2 (A / P) (P - 1) (A / P % P) := by have := mk_mask (A / P) h; rwa [eP] at this
  have g9 : And2 A (P - 1) (A % P) := by have := mk_mask A h; rwa [eP] at this
  generalize A / (P * P) = ah at *
  generalize A / P % P = a3 at *
  generalize A % P = a4 at *
  generalize B' % P = b2 at *
  generalize (ah * P + a3) / B' = q1 at *
  generalize (ah * P + a3) % B' = r1 at *
  generalize (r1 * P + a4) / B' = q2 at *
  generalize (r1 * P + a4) % B' = r2 at *
  generalize B' / P = b1 at *
  generalize A / P = aP at *
  obtain ⟨eb, b20, b2P, ah0, ahb, a30, a3P, a40, a4P, e1, r10, r1b, e2, r20, r2b, q10, q1P, q20, q2P, heq⟩ := H
  have C1 : ∀ news t1 t2 t3 t4 t5 t6, Con w 28 d (8 * d) news [.int ah t1, .int a3 t2, .int B' t3, .int b1 t4, .int b2 t5, .int h t6] (outPair news q1 r1) := fun news t1 t2 t3 t4 t5 t6 =>
    IH news ah a3 B' b1 b2 h q1 r1 t1 t2 t3 t4 t5 t6 (by omega) hh ah0 a30 (by rw [eh, eP]; exact a3P) (by rw [eh, eP]; exact eb) b20 (by rw [eh, eP]; exact b2P) (by rw [eh, eP']; exact M.1) (by rw [eh, eP]; exact M.2) ahb (by rw [eh, eP]; exact e1) r10 r1b
  have C2 : ∀ news t1 t2 t3 t4 t5 t6, Con w 28 d (8 * d) news [.int r1 t1, .int a4 t2, .int B' t3, .int b1 t4, .int b2 t5, .int h t6] (outPair news q2 r2) := fun news t1 t2 t3 t4 t5 t6 =>
    IH news r1 a4 B' b1 b2 h q2 r2 t1 t2 t3 t4 t5 t6 (by omega) hh r10 a40 (by rw [eh, eP]; exact a4P) (by rw [eh, eP]; exact eb) b20 (by rw [eh, eP]; exact b2P) (by rw [eh, eP']; exact M.1) (by rw [eh, eP]; exact M.2) r1b (by rw [eh, eP]; exact e2) r20 r2b
  have g10 : Shl q1 h (q1 * P) := by have := mk_shl (a := q1) (n := h) (k := h) (by omega) (by omega) (bits_lt q10 (by rw [eP]; exact q1P)) (by omega); rwa [eh, eP] at this
  have g11 : Or2 (q1 * P) q2 (q1 * P + q2) := by have := mk_or (a := q1) (x := q2) h q20 (by rw [eP]; exact q2P); rwa [eP] at this
  obtain ⟨heq, rR⟩ := heq
  subst rR
  clear IH en eh ePP
  unfold Con
  intro p loose mean mg mb dp un gd cn cs a0 ccd cl outer A₀ base h₀ L m s Q E B F X N T hk hdp hun hret
  skip
  w_top off
  k_with_none
  k_with "call ref" => (k_dflt (first | (refine' con_use (C1 _ _ _ _ _ _ _) ?k1 ?k2 ?k3 ?k4 ?k5 ?k6 ?k7 ?k8 ?_; (case k1 => k_asm); (case k2 => k_asm); (case k3 => k_asm); (case k4 => k_asm); (case k5 => k_asm); (case k6 => first | exact rfl | assumption); (case k7 => ktr_room); (case k8 => ktr_units); intro gS9 dS9 oS9 r9 n9 h9 tk9 F9 N9 O9; obtain ⟨q9, t9, u9, e9, m9, l9⟩ := O9; subst e9; subst m9; (try k_lt l9); (try dsimp only); (try k_fold)) | (refine' con_use (C2 _ _ _ _ _ _ _) ?k1 ?k2 ?k3 ?k4 ?k5 ?k6 ?k7 ?k8 ?_; (case k1 => k_asm); (case k2 => k_asm); (case k3 => k_asm); (case k4 => k_asm); (case k5 => k_asm); (case k6 => first | exact rfl | assumption); (case k7 => ktr_room); (case k8 => ktr_units); intro gS9 dS9 oS9 r9 n9 h9 tk9 F9 N9 O9; obtain ⟨q9, t9, u9, e9, m9, l9⟩ := O9; subst e9; subst m9; (try k_lt l9); (try dsimp only); (try k_fold))))
  refine wpAny_call ?_
  k_dflt ktr_enter
  ((rename Fr _ _ _ _ => F0'); refine name_fr F0' ?_; clear F0'; intro mE' FE')
  k_steps
  all_goals (refine ret_pair hret (by assumption) (by assumption) (by intro p9 hp9; repeat (first | exact hp9 | refine List.Mem.tail _ ?_)) (ktn_ltOf (by first | assumption | exact And.right (by assumption) | exact And.right (And.right (by assumption)) | exact And.right (And.right (And.right (by assumption))) | exact And.right (And.right (And.right (And.right (by assumption)))) | exact And.right (And.right (And.right (And.right (And.right (by assumption))))) | exact allLt_of (by assumption))) ⟨heq, rfl⟩)
end Mine
namespace Mine
open Builtin.Int (intBits)
theorem bits_le {x : Int} {k : Nat} (h0 : 0 ≤ x) (h : x < 2 ^ k) : (intBits x : Int) ≤ k := by have := bits_lt h0 h; omega
theorem div2_case (w : World) (N : Int) (d : Nat) (hN : N ≤ 4500) (IH : (∀ n : Int, n ≤ 2 * N → 4000 < n → Div3 w N d) ) : Div2 w (2 * N) (d + 1) := by
  intro news a b n q r ta tb tn h1 h2 h3 h4 h5 h6 h7 h8 h9
  have hp := kbt_pos n.toNat
  have hp1 := kbt_pos (n.toNat - 1)
  have hb0 : 0 < b := by omega
  have hb9 : b < 2 ^ 9000 := by have := pow_le_of (show n.toNat ≤ 9000 by omega); omega
  have e2 : (2 : Int) ^ n.toNat * 2 ^ n.toNat = 2 ^ (n.toNat + n.toNat) := (Int.pow_add _ _ _).symm
  have ha : a < 2 ^ (n.toNat + n.toNat) := by
    have := Int.mul_lt_mul_of_pos_right h6 hp
    omega
  have ha2 := bits_le h3 ha
  have hb2 := bits_le (by omega) h6
  by_cases hs : (intBits a : Int) - n ≤ 4000
  · exact div2_small w (d + 1) (by omega) news a b n q r ta tb tn hb0 (noPy hb0 hb9) hs h7 h8 h9
  · have IH := IH n h2 (by omega)
    have s : (2 : Int) ^ n.toNat = 2 * 2 ^ (n.toNat - 1) := by
      have : n.toNat = (n.toNat - 1) + 1 := by omega
      rw [this, Int.pow_succ]
      have : n.toNat - 1 + 1 - 1 = n.toNat - 1 := by omega
      rw [this]; omega
    by_cases hpar : n % 2 = 0
    · have eh : n.toNat = n.toNat / 2 + n.toNat / 2 := by omega
      have eh1 : n.toNat - 1 = (n.toNat / 2 - 1) + n.toNat / 2 := by omega
      have ep : (2 : Int) ^ n.toNat = 2 ^ (n.toNat / 2) * 2 ^ (n.toNat / 2) := by rw [← Int.pow_add, ← eh]
      have ep1 : (2 : Int) ^ (n.toNat - 1) = 2 ^ (n.toNat / 2 - 1) * 2 ^ (n.toNat / 2) := by rw [← Int.pow_add, ← eh1]
      exact div2_even w N d hN IH news a b n q r _ _ (n.toNat / 2) ta tb tn (by omega) (by omega) (by omega) rfl rfl h3 (by rw [← ep]; exact h4) (by rw [← ep1]; exact h5) (by rw [← ep]; exact h6) (by omega) h7 h8 h9
    · have eh : n.toNat + 1 = (n.toNat + 1) / 2 + (n.toNat + 1) / 2 := by omega
      have eh1 : n.toNat = ((n.toNat + 1) / 2 - 1) + (n.toNat + 1) / 2 := by omega
      have ep : (2 : Int) ^ (n.toNat + 1) = 2 ^ ((n.toNat + 1) / 2) * 2 ^ ((n.toNat + 1) / 2) := by rw [← Int.pow_add, ← eh]
      have ep1 : (2 : Int) ^ n.toNat = 2 ^ ((n.toNat + 1) / 2 - 1) * 2 ^ ((n.toNat + 1) / 2) := by rw [← Int.pow_add, ← eh1]
      have es : (2 : Int) ^ (n.toNat + 1) = 2 * 2 ^ n.toNat := by rw [Int.pow_succ]; omega
      refine div2_odd w N d hN IH news a b n q r _ _ ((n.toNat + 1) / 2) ta tb tn (by omega) (by omega) (by omega) rfl rfl h3 (by omega) (by omega) ?_ ?_ ?_ (by omega) h7 h8 h9
      · rw [← ep, es]
        have : b * (2 * 2 ^ n.toNat) = 2 * (b * 2 ^ n.toNat) := by grind
        have : 2 * b * (2 * 2 ^ n.toNat) = 2 * (2 * (b * 2 ^ n.toNat)) := by grind
        omega
      · rw [← ep1]; omega
      · rw [← ep, es]; omega
theorem con_mono {w : World} {f : Addr} {dd uu dd' uu' : Nat} {news : Led} {vs : List Value} {Out : Value → Led → Prop} (h : Con w f dd uu news vs Out) (h1 : dd ≤ dd') (h2 : uu ≤ uu') : Con w f dd' uu' news vs Out :=
  fun _ _ _ _ _ _ _ _ _ _ _ _ _ _ _ _ _ _ _ _ _ _ B F X N T hk hd hu ret => h _ _ _ _ _ _ _ _ _ _ _ _ _ _ _ _ _ _ _ _ _ _ B F X N T hk (by omega) (by omega) ret
theorem div2_9000 (w : World) : Div2 w 9000 7 := by
  have a1 : Div2 w 4000 1 := div2_case w 2000 0 (by omega) (fun n h1 h2 => absurd h2 (by omega))
  have a2 : Div3 w 4000 3 := div3_of w 4000 1 (by omega) a1
  have a3 : Div2 w 8000 4 := div2_case w 4000 3 (by omega) (fun _ _ _ => a2)
  have a4 : Div3 w 8000 6 := div3_of w 8000 4 (by omega) a3
  have a5 : Div3 w 4500 6 := fun news a12 a3 b b1 b2 n q r t1 t2 t3 t4 t5 t6 h1 h2 => a4 news a12 a3 b b1 b2 n q r t1 t2 t3 t4 t5 t6 h1 (by omega)
  exact div2_case w 4500 6 (by omega) (fun _ _ _ => a5)
end Mine
namespace Mine
open Builtin.Int (intBits)
def defBody : Stmt → List Stmt
  | .FunctionDef _ _ b _ _ _ _ _ _ _ => b
  | _ => []
abbrev grabA {st : Stmt} {n : Str} {p : Arguments} {b : List Stmt} {d : List PySem.Expr} {r : Option PySem.Expr} {t : List TypeParam} {s : Scope} {ts : Option Scope} {bn : Str} {pos : Pos} (_ : st = .FunctionDef n p b d r t s ts bn pos) : Arguments := p
abbrev grabB {st : Stmt} {n : Str} {p : Arguments} {b : List Stmt} {d : List PySem.Expr} {r : Option PySem.Expr} {t : List TypeParam} {s : Scope} {ts : Option Scope} {bn : Str} {pos : Pos} (_ : st = .FunctionDef n p b d r t s ts bn pos) : List Stmt := b
abbrev grabS {st : Stmt} {n : Str} {p : Arguments} {b : List Stmt} {d : List PySem.Expr} {r : Option PySem.Expr} {t : List TypeParam} {s : Scope} {ts : Option Scope} {bn : Str} {pos : Pos} (_ : st = .FunctionDef n p b d r t s ts bn pos) : Scope := s
/-- the inner defs -/
def st1 : Stmt := (defBody (PRG.main.body.getD 4 (.Pass ⟨0, 0, 0, 0⟩))).getD 1 (.Pass ⟨0, 0, 0, 0⟩)
def st2 : Stmt := (defBody (PRG.main.body.getD 5 (.Pass ⟨0, 0, 0, 0⟩))).getD 0 (.Pass ⟨0, 0, 0, 0⟩)
abbrev in1A : Arguments := grabA (st := st1) rfl
abbrev in1B : List Stmt := grabB (st := st1) rfl
abbrev in1S : Scope := grabS (st := st1) rfl
abbrev in2A : Arguments := grabA (st := st2) rfl
abbrev in2B : List Stmt := grabB (st := st2) rfl
abbrev in2S : Scope := grabS (st := st2) rfl
theorem codeHd1 {w : World} {h : Heap} (X : (KK w.params).In h) : CodeHd h 34 30 := by
  refine ⟨_, _, _, _, _, _, _, _, _, X 34 _ rfl, rfl, rfl, rfl, rfl, rfl, rfl, rfl, rfl, by decide⟩
theorem codeHd2 {w : World} {h : Heap} (X : (KK w.params).In h) : CodeHd h 41 37 := by
  refine ⟨_, _, _, _, _, _, _, _, _, X 41 _ rfl, rfl, rfl, rfl, rfl, rfl, rfl, rfl, rfl, by decide⟩

theorem lt41 {w : World} {h₀ h : Heap} {L : Addr} {m : Str → Option Value} (F : Fr h₀ L h m) (X : (KK w.params).In h₀) : @LT.lt Nat _ 41 L := Nat.lt_of_lt_of_le (Heap.lt_size (X 41 _ rfl)) F.above
/-- the digits, lowest first, k of them, by n bits -/
def digs (P : Int) : Nat → Int → List Int
  | 0, _ => []
  | k + 1, x => x % P :: digs P k (x / P)
theorem digs_len (P : Int) : ∀ k x, (digs P k x).length = k
  | 0, _ => rfl
  | k + 1, x => by rw [digs, List.length_cons, digs_len P k]
theorem digs_one {P x : Int} (h0 : 0 ≤ x) (h1 : x < P) : digs P 1 x = [x] := by
  rw [digs, digs, Int.emod_eq_of_lt h0 h1]
theorem digs_add {P : Int} (hP : 0 < P) : ∀ (i j : Nat) (x : Int), digs P (i + j) x = digs P i (x % P ^ i) ++ digs P j (x / P ^ i)
  | 0, j, x => by simp [digs]
  | i + 1, j, x => by
    have hPi : (0 : Int) < P ^ i := Int.pow_pos hP
    rw [show i + 1 + j = (i + j) + 1 from by omega, digs, digs_add hP i j (x / P), digs, List.cons_append]
    have e1 : x % P ^ (i + 1) % P = x % P := Int.emod_emod_of_dvd x ⟨P ^ i, by rw [Int.pow_succ]; exact Int.mul_comm _ _⟩
    have e2 : x % P ^ (i + 1) / P = x / P % P ^ i := by
      have hx := Int.mul_ediv_add_emod x (P ^ (i + 1))
      have h1 := Int.emod_nonneg x (show P ^ (i + 1) ≠ 0 from by have : (0 : Int) < P ^ (i + 1) := Int.pow_pos hP; omega)
      have h2 := Int.emod_lt_of_pos x (show (0 : Int) < P ^ (i + 1) from Int.pow_pos hP)
      have hs : P ^ (i + 1) = P * P ^ i := by rw [Int.pow_succ]; exact Int.mul_comm _ _
      have h3 : x / P = P ^ i * (x / P ^ (i + 1)) + x % P ^ (i + 1) / P := by
        have : x = P * (P ^ i * (x / P ^ (i + 1))) + x % P ^ (i + 1) := by rw [← Int.mul_assoc, ← hs]; exact hx.symm
        conv => lhs; rw [this]
        rw [Int.add_comm, Int.add_mul_ediv_left _ _ (by omega), Int.add_comm]
      have h4 : 0 ≤ x % P ^ (i + 1) / P := Int.ediv_nonneg h1 (by omega)
      have h5 : x % P ^ (i + 1) / P < P ^ i := Int.ediv_lt_of_lt_mul hP (by rw [Int.mul_comm, ← hs]; exact h2)
      rw [h3, Int.add_comm, Int.add_mul_emod_self_left, Int.emod_eq_of_lt h4 h5]
    have e3 : x / P / P ^ i = x / P ^ (i + 1) := by
      rw [Int.ediv_ediv_of_nonneg (by omega), Int.pow_succ, Int.mul_comm]
    rw [e1, e2, e3]

def Inner1 (w : World) (k : Nat) : Prop :=
  ∀ (fixed : Led) (D f c' cA cI cN : Addr) (oc oA oI oN : Obj) (cvs : Array Value) (t9 nt tx tl tr : Tok) (name qual : Str) (doc pm ctv : Value) (vs : List Value) (ns : List Int) (cap : Nat) (x n L R : Int),
    (f, fnMade name qual in1A in1B in1S [(Str.ofString "n", cN), (Str.ofString "inner", cI), (Str.ofString "a_digits", cA)] doc pm c' ctv) ∈ fixed → (c', oc) ∈ fixed → oc.data = .fields cvs → cvs[1]? = some (.str qual t9) →
    (cA, oA) ∈ fixed → oA.data = .cell (some (.ref D)) → (cI, oI) ∈ fixed → oI.data = .cell (some (.ref f)) → (cN, oN) ∈ fixed → oN.data = .cell (some (.int n nt)) → (∀ p ∈ fixed, p.1 ≠ D) →
    IntsAre vs ns → 0 ≤ L → R = L + k → 1 ≤ k → R ≤ ns.length → ns.length ≤ 256 → 1 ≤ n → n ≤ 9000 → 0 ≤ x → (intBits x : Int) ≤ 50000 → x < (2 ^ n.toNat) ^ k →
    Con w f k (8 * k) ((D, W.listOf vs.toArray cap) :: fixed) [.int x tx, .int L tl, .int R tr]
      (fun r news' => r = .none ∧ ∃ vs', news' = (D, W.listOf vs'.toArray cap) :: fixed ∧ IntsAre vs' (ns.take L.toNat ++ digs (2 ^ n.toNat) k x ++ ns.drop (L.toNat + k)))
end Mine
namespace Mine
open Builtin.Int (intBits)
theorem bits_mono {x y : Int} (h0 : 0 ≤ x) (h : x ≤ y) : intBits x ≤ intBits y := by
  have := lt_bits y
  exact bits_lt h0 (by omega)
theorem take_eq1 {ns : List Int} {x P : Int} {L : Nat} (h : L < ns.length) (h0 : 0 ≤ x) (h1 : x < P) : ns.set L x = ns.take L ++ digs P 1 x ++ ns.drop (L + 1) := by
  rw [digs_one h0 h1, List.set_eq_take_append_cons_drop, if_pos h, List.append_assoc]; rfl
theorem take_eq2 {ns : List Int} {x P : Int} (hP : 0 < P) {L i j : Nat} (h : L + (i + j) ≤ ns.length) :
    (ns.take L ++ digs P i (x % P ^ i) ++ ns.drop (L + i)).take (L + i) ++ digs P j (x / P ^ i) ++ (ns.take L ++ digs P i (x % P ^ i) ++ ns.drop (L + i)).drop (L + i + j) = ns.take L ++ digs P (i + j) x ++ ns.drop (L + (i + j)) := by
  have e1 : (ns.take L ++ digs P i (x % P ^ i)).length = L + i := by rw [List.length_append, List.length_take, digs_len]; omega
  rw [List.take_left' e1, List.drop_append, e1, show L + i + j - (L + i) = j from by omega, List.drop_drop, List.drop_of_length_le (by omega), List.nil_append, digs_add hP, show L + i + j = L + (i + j) from by omega]
  simp only [List.append_assoc]
theorem inner1_leaf (w : World) : Inner1 w 1 := by
  intro fixed D f c' cA cI cN oc oA oI oN cvs t9 nt tx tl tr name qual doc pm ctv vs ns cap x n L R hf hc hcd hcv hA hAd hI hId hN hNd hne hints h1 h2 h3 h4 h5 h6 h7 h8 h9 h10
  have hR : L + 1 = R := h2.symm
  have hset := take_eq1 (ns := ns) (x := x) (P := 2 ^ n.toNat) (L := L.toNat) (by omega) h8 (by rw [Int.pow_succ, Int.pow_zero, Int.one_mul] at h10; exact h10)
  clear h2 h10
  unfold Con
  intro p loose mean mg mb dp un gd cn cs a0 ccd cl outer A₀ base h₀ L m s Q E B F X N T hk hdp hun hret
  skip
  w_top off
  k_with_none
  refine wpAny_call ?_
  k_dflt (refine' code_nest ?k1 ?k2 ?k3 ?k4 ?k5 ?kA ?kF ?kK ?k6 ?k7 ?k8 ?k9 ?kB ?_ ?c2 ?c3 ?c4 ?c5; (case kA => exact rfl); (case kF => exact rfl); (case kK => assumption); (case k1 => k_asm); (case k2 => k_asm); (case k3 => k_asm); (case k4 => k_asm); (case k5 => k_asm); (case k6 => k_mem); (case k7 => exact codeRec_news (by k_asm) (by k_mem) (by assumption) (by assumption)); (case k8 => ktr_room); (case k9 => exact BindsTo.of_eq rfl); (case c5 => decide); (case kB => exact locs rfl); (case c2 => exact rfl); (case c3 => exact rfl); (case c4 => exact rfl); k_whole; intro g' L' h' FG' F' N' B' X' T'; (try dsimp only); (have C1' := codeHd1 X'); (have C2' := codeHd2 X'); (try k_fold))
  k_steps
  all_goals (try exact absurd hR (by assumption))
  exact hret _ _ _ _ (by assumption) (by assumption) ⟨rfl, _, rfl, by rw [← hset]; exact ints_set hints _⟩
theorem inner1_step (w : World) (i j : Nat) (hi : 1 ≤ i) (hj : 1 ≤ j) (hij : i = (i + j) / 2) (I1 : Inner1 w i) (I2 : Inner1 w j) : Inner1 w (i + j) := by
  intro fixed D f c' cA cI cN oc oA oI oN cvs t9 nt tx tl tr name qual doc pm ctv vs ns cap x n L R hf hc hcd hcv hA hAd hI hId hN hNd hne hints h1 h2 h3 h4 h5 h6 h7 h8 h9 h10
  have hR : ¬ L + 1 = R := by omega
  have hP : (0 : Int) < 2 ^ n.toNat := kbt_pos _
  have ePi : (2 : Int) ^ ((i : Int) * n).toNat = (2 ^ n.toNat) ^ i := by
    rw [← Int.pow_mul]
    congr 1
    rw [Int.toNat_mul (by omega) (by omega), Int.toNat_natCast, Nat.mul_comm]
  have hPi : (0 : Int) < (2 ^ n.toNat) ^ i := Int.pow_pos hP
  have hin : 0 ≤ (i : Int) * n := Int.mul_nonneg (by omega) (by omega)
  have hin2 : (i : Int) * n ≤ i * 9000 := Int.mul_le_mul_of_nonneg_left h7 (by omega)
  have g1 : Shr (L + R) 1 (L + i) := by have := mk_shr (a := L + R) (n := 1) (by decide); rwa [show (L + R) / 2 ^ (1 : Int).toNat = L + i from by rw [show (2 : Int) ^ (1 : Int).toNat = 2 from rfl]; omega] at this
  have g2 : Mul (L + i - L) n (i * n) := by
    rw [show L + (i : Int) - L = i from by omega]
    exact mk_mul (i := 10) (j := 20) (bits_lt (by omega) (by have : (2 : Int) ^ 10 = 1024 := rfl; omega)) (bits_lt (by omega) (by have : (2 : Int) ^ 20 = 1048576 := rfl; omega)) (by omega)
  have g3 : Shr x (i * n) (x / (2 ^ n.toNat) ^ i) := by have := mk_shr (a := x) hin; rwa [ePi] at this
  have hU0 : 0 ≤ x / (2 ^ n.toNat) ^ i := Int.ediv_nonneg h8 (by omega)
  have hU1 : x / (2 ^ n.toNat) ^ i ≤ x := Int.ediv_le_self _ h8
  have hl0 := Int.emod_nonneg x (show (2 ^ n.toNat : Int) ^ i ≠ 0 by omega)
  have hl1 := Int.emod_lt_of_pos x hPi
  have hsum := Int.mul_ediv_add_emod x ((2 ^ n.toNat) ^ i)
  have hl2 : x % (2 ^ n.toNat) ^ i ≤ x := by have := Int.mul_nonneg (show (0 : Int) ≤ (2 ^ n.toNat) ^ i by omega) hU0; omega
  have g4 : Shl (x / (2 ^ n.toNat) ^ i) (i * n) (x / (2 ^ n.toNat) ^ i * (2 ^ n.toNat) ^ i) := by
    refine ⟨hin, ?_, by rw [ePi]⟩
    have := bits_mono hU0 hU1
    omega
  have g5 : Xor2 x (x / (2 ^ n.toNat) ^ i * (2 ^ n.toNat) ^ i) (x % (2 ^ n.toNat) ^ i) := by
    have := mk_xor (a := x / (2 ^ n.toNat) ^ i) (x := x % (2 ^ n.toNat) ^ i) ((i : Int) * n).toNat hl0 (by rw [ePi]; exact hl1)
    rw [ePi, Int.mul_comm (x / _), hsum, Int.mul_comm] at this
    exact this
  have b1 := bits_mono hl0 hl2
  have b2 := bits_mono hU0 hU1
  have hPij : (2 ^ n.toNat : Int) ^ (i + j) = (2 ^ n.toNat) ^ j * (2 ^ n.toNat) ^ i := by rw [Int.pow_add, Int.mul_comm]
  have C1 : ∀ t1 t2 t3, Con w f i (8 * i) ((D, W.listOf vs.toArray cap) :: fixed) [.int (x % (2 ^ n.toNat) ^ i) t1, .int L t2, .int (L + i) t3] _ := fun t1 t2 t3 =>
    I1 fixed D f c' cA cI cN oc oA oI oN cvs t9 nt t1 t2 t3 name qual doc pm ctv vs ns cap (x % (2 ^ n.toNat) ^ i) n L (L + i) hf hc hcd hcv hA hAd hI hId hN hNd hne hints h1 rfl hi (by omega) h5 h6 h7 hl0 (by omega) hl1
  have C2 : ∀ vs1, IntsAre vs1 _ → ∀ t1 t2 t3, Con w f j (8 * j) ((D, W.listOf vs1.toArray cap) :: fixed) [.int (x / (2 ^ n.toNat) ^ i) t1, .int (L + i) t2, .int R t3] _ := fun vs1 hv1 t1 t2 t3 =>
    I2 fixed D f c' cA cI cN oc oA oI oN cvs t9 nt t1 t2 t3 name qual doc pm ctv vs1 (ns.take L.toNat ++ digs (2 ^ n.toNat) i (x % (2 ^ n.toNat) ^ i) ++ ns.drop (L.toNat + i)) cap (x / (2 ^ n.toNat) ^ i) n (L + i) R hf hc hcd hcv hA hAd hI hId hN hNd hne hv1 (by omega) (by omega) hj
      (by simp only [List.length_append, List.length_take, List.length_drop, digs_len]; omega) (by simp only [List.length_append, List.length_take, List.length_drop, digs_len]; omega) h6 h7 hU0 (by omega) (Int.ediv_lt_of_lt_mul hPi (by rw [← hPij]; exact h10))
  have hend := take_eq2 (ns := ns) (x := x) hP (L := L.toNat) (i := i) (j := j) (by omega)
  rw [show L.toNat + i + j = (L + i).toNat + j from by omega, show (ns.take L.toNat ++ digs (2 ^ n.toNat) i (x % (2 ^ n.toNat) ^ i) ++ ns.drop (L.toNat + i)).take (L.toNat + i) = (ns.take L.toNat ++ digs (2 ^ n.toNat) i (x % (2 ^ n.toNat) ^ i) ++ ns.drop (L.toNat + i)).take (L + i).toNat from by rw [show L.toNat + i = (L + i).toNat from by omega]] at hend
  rw [← hend]
  clear hend hPij b1 b2 hl2 hsum hl1 hl0 hU0 hU1 hin2 hin hPi ePi hP h10 h9 h8
  generalize x / (2 ^ n.toNat) ^ i = U at *
  generalize x % (2 ^ n.toNat) ^ i = Lo at *
  generalize U * (2 ^ n.toNat) ^ i = UP at *
  generalize (ns.take L.toNat ++ digs (2 ^ n.toNat) i Lo ++ ns.drop (L.toNat + i)) = ns1 at *
  unfold Con
  intro p loose mean mg mb dp un gd cn cs a0 ccd cl outer A₀ base h₀ L m s Q E B F X N T hk hdp hun hret
  skip
  w_top off
  k_with_none
  k_with "call ref" => (k_dflt (first | (refine' con_use (C1 _ _ _) ?k1 ?k2 ?k3 ?k4 ?k5 ?k6 ?k7 ?k8 ?_; (case k1 => k_asm); (case k2 => k_asm); (case k3 => k_asm); (case k4 => k_asm); (case k5 => k_asm); (case k6 => first | exact rfl | assumption); (case k7 => ktr_room); (case k8 => ktr_units); intro gS9 dS9 oS9 r9 n9 h9 tk9 F9 N9 O9; obtain ⟨e9, vs1, m9, i9⟩ := O9; subst e9; subst m9; (try dsimp only); (try k_fold)) | (refine' con_use (C2 _ i9 _ _ _) ?k1 ?k2 ?k3 ?k4 ?k5 ?k6 ?k7 ?k8 ?_; (case k1 => k_asm); (case k2 => k_asm); (case k3 => k_asm); (case k4 => k_asm); (case k5 => k_asm); (case k6 => first | exact rfl | assumption); (case k7 => ktr_room); (case k8 => ktr_units); intro gS9 dS9 oS9 r9 n9 h9 tk9 F9 N9 O9; obtain ⟨e9, vs2, m9, j9⟩ := O9; subst e9; subst m9; (try dsimp only); (try k_fold))))
  refine wpAny_call ?_
  k_dflt (refine' code_nest ?k1 ?k2 ?k3 ?k4 ?k5 ?kA ?kF ?kK ?k6 ?k7 ?k8 ?k9 ?kB ?_ ?c2 ?c3 ?c4 ?c5; (case kA => exact rfl); (case kF => exact rfl); (case kK => assumption); (case k1 => k_asm); (case k2 => k_asm); (case k3 => k_asm); (case k4 => k_asm); (case k5 => k_asm); (case k6 => k_mem); (case k7 => exact codeRec_news (by k_asm) (by k_mem) (by assumption) (by assumption)); (case k8 => ktr_room); (case k9 => exact BindsTo.of_eq rfl); (case c5 => decide); (case kB => exact locs rfl); (case c2 => exact rfl); (case c3 => exact rfl); (case c4 => exact rfl); k_whole; intro g' L' h' FG' F' N' B' X' T'; (try dsimp only); (have C1' := codeHd1 X'); (have C2' := codeHd2 X'); (try k_fold))
  k_steps
  all_goals (try exact absurd (by assumption) hR)
  exact hret _ _ _ _ (by assumption) (by assumption) ⟨rfl, _, rfl, by assumption⟩
theorem inner1_all (w : World) : ∀ k, 1 ≤ k → Inner1 w k := by
  have all : ∀ n, ∀ k, k < n → 1 ≤ k → Inner1 w k := by
    intro n
    induction n with
    | zero => intro k h; omega
    | succ n ih =>
      intro k h h1
      by_cases hk : k = 1
      · subst hk; exact inner1_leaf w
      · have e : k = k / 2 + (k - k / 2) := by omega
        rw [e]
        exact inner1_step w (k / 2) (k - k / 2) (by omega) (by omega) (by omega) (ih _ (by omega) (by omega)) (ih _ (by omega) (by omega))
  exact fun k => all _ k (Nat.lt_succ_self k)
end Mine
namespace Mine
open Builtin.Int (intBits)
theorem ints_zeros (t : Tok) : ∀ k : Nat, IntsAre (List.replicate k (.int 0 t)) (List.replicate k 0)
  | 0 => .nil
  | k + 1 => .cons 0 t (ints_zeros t k)
theorem r_zeros {w : World} {A : Around} {E : Value → Shared → Prop} {s : Shared} {h₀ : Heap} {L l : Addr} {m : Str → Option Value} {news : Led} {t u : Tok} {k c : Nat} {Q : Value → Shared → Prop}
    (F : Fr h₀ L s.heap m) (N : News h₀ L s.heap news) (hm : (l, W.listOf #[Value.int 0 t] c) ∈ news) (hk : k ≤ 256)
    (h : ∀ D h', Fr h₀ L h' m → News h₀ L h' ((D, W.listOf (List.replicate k (Value.int 0 t)).toArray 0) :: news) → (∀ p ∈ news, p.1 < D) → (List.replicate k (Value.int 0 t)).toArray.size = k → Q (.ref D) { s with heap := h' }) :
    wpAny (model PRG w) A (binaryOp .Mult (.ref l) (.int (k : Int) u)) Q E s := by
  refine KMa.mul (vs := [.int 0 t]) (ws := List.replicate k (Value.int 0 t)) F N (News.isList N hm) (by omega) (by omega) (by simp; omega) ?_ (fun D h' F' N' l' => h D h' F' N' l' (by simp))
  rw [Int.toNat_natCast]
  clear h hm hk
  induction k with
  | zero => rfl
  | succ k ih => rw [List.replicate_succ, List.flatten_cons, ih]; rfl
theorem perm2 {h₀ h : Heap} {L : Addr} {a d : Addr × Obj} {r : Led} (N : News h₀ L h (a :: d :: r)) : News h₀ L h (d :: a :: r) := fun p hp => N p (by simp only [List.mem_cons] at hp ⊢; rcases hp with h | h | h <;> simp [h])
theorem perm3 {h₀ h : Heap} {L : Addr} {a b d : Addr × Obj} {r : Led} (N : News h₀ L h (a :: b :: d :: r)) : News h₀ L h (d :: a :: b :: r) := fun p hp => N p (by simp only [List.mem_cons] at hp ⊢; rcases hp with h | h | h | h <;> simp [h])
abbrev sc1 : Scope := grabS (st := PRG.main.body.getD 4 (.Pass ⟨0, 0, 0, 0⟩)) rfl
abbrev sc2 : Scope := grabS (st := PRG.main.body.getD 5 (.Pass ⟨0, 0, 0, 0⟩)) rfl
theorem ints_fin {vs : List Value} {d : List Int} {k : Nat} (h : IntsAre vs ((List.replicate k 0).take (0 : Int).toNat ++ d ++ (List.replicate k 0).drop ((0 : Int).toNat + k))) : IntsAre vs d := by simpa using h
def q1 : Str := qualnameIn (envOfC (Str.ofString "_int2digits") sc1 0 35 (.ref 34)) (Str.ofString "inner") (Str.ofString "inner")
def q2 : Str := qualnameIn (envOfC (Str.ofString "_digits2int") sc2 0 42 (.ref 41)) (Str.ofString "inner") (Str.ofString "inner")
theorem qual1 (L' : Addr) : qualnameIn (envOfC (Str.ofString "_int2digits") sc1 L' 35 (.ref 34)) (Str.ofString "inner") (Str.ofString "inner") = q1 := rfl
theorem qual2 (L' : Addr) : qualnameIn (envOfC (Str.ofString "_digits2int") sc2 L' 42 (.ref 41)) (Str.ofString "inner") (Str.ofString "inner") = q2 := rfl
abbrev fullTab (ln : Int) (c : Addr) : Obj := tabObj #[rawInt ln, rawInt 4, .ref c]

theorem ret_i2d {h₀ h' : Heap} {L : Addr} {m : Str → Option Value} {s : Shared} {Q : Value → Shared → Prop} {Out : Value → Led → Prop} {tk' : Nat} {nw nw' : Led} {r : Value}
    (hret : ∀ r news' h' tk', Fr h₀ L h' m → News h₀ L h' news' → Out r news' → Q r { s with heap := h', toks := tk' })
    (F : Fr h₀ L h' m) (N : News h₀ L h' nw) (hs : ∀ p ∈ nw', p ∈ nw) (e : Out r nw') : Q r { s with heap := h', toks := tk' } := hret _ _ _ _ F (fun p hp => N p (hs p hp)) e

theorem i2d_hit (w : World) (rest : Led) (a n : Int) (k : Nat) (ta tn : Tok) (c : Addr) (oc : Obj) (cvs : Array Value) (t9 : Tok) (hk1 : 1 ≤ k) (h256 : k ≤ 256) (f1 : Fdv ((intBits a : Int) + n - 1) n k) (ha : 0 < a) (hn1 : 1 ≤ n) (hn2 : n ≤ 9000)
    (hbits : (intBits a : Int) ≤ 50000) (hpow : a < (2 ^ n.toNat) ^ k) (hc : (c, oc) ∈ rest) (hcd : oc.data = .fields cvs) (hcv : cvs[1]? = some (.str q1 t9)) :
    Con w 35 257 2056 ((30, fullTab 32 c) :: rest) [.int a ta, .int n tn] (fun r news' => ∃ D vs cap, r = .ref D ∧ news' = (D, W.listOf vs.toArray cap) :: (30, fullTab 32 c) :: rest ∧ IntsAre vs (digs (2 ^ n.toNat) k a) ∧ @LT.lt Nat _ 37 D) := by
  have ha0 : a ≠ 0 := by omega
  unfold Con
  intro p loose mean mg mb dp un gd cn cs a0 ccd cl outer A₀ base h₀ L m s Q E B F X N T hk hdp hun hret
  skip
  w_top off
  k_with_none
  k_with "binaryOp Mult ref int" => (k_dflt (refine' r_zeros ?F ?N ?M h256 ?_; (case F => k_asm); (case N => k_asm); (case M => k_mem)); intro D9 h9 F9 N9 l9 hsz; k_lt l9)
  k_with "call ref" => (k_dflt (refine' con_use (inner1_all w k hk1 ?fixed ?D ?f ?c' ?cA ?cI ?cN ?oc ?oA ?oI ?oN ?cvs ?t9 ?nt ?tx ?tl ?tr ?name ?qual ?doc ?pm ?ctv ?vs (List.replicate k 0) ?cap a n 0 k ?m1 ?m2 ?m3 ?m4 ?m5 ?m6 ?m7 ?m8 ?m9 ?m10 ?m11 ?m12 (by omega) (by omega) hk1 (by rw [List.length_replicate]; omega) (by rw [List.length_replicate]; omega) hn1 hn2 (by omega) hbits hpow) ?k1 ?k2 ?k3 ?k4 ?k5 ?k6 ?k7 ?k8 ?_; (case k1 => k_asm); (case k2 => k_asm); (case k3 => k_asm); (case k4 => first | exact perm2 (d := (D9, _)) (by assumption) | exact perm3 (d := (D9, _)) (by assumption)); (case k5 => k_asm); (case k6 => first | exact rfl | assumption); (case k7 => ktr_room); (case k8 => ktr_units); (case m1 => k_mem); (case m2 => k_mem); (case m3 => assumption); (case m4 => first | assumption | (rw [qual1]; assumption)); (case m5 => k_mem); (case m6 => assumption); (case m7 => k_mem); (case m8 => assumption); (case m9 => k_mem); (case m10 => assumption); (case m11 => k_all); (case m12 => exact ints_zeros _ _); intro gS9 dS9 oS9 r9 n9 h9 tk9 F9 N9 O9; obtain ⟨e9, vs1, m9, i9⟩ := O9; subst e9; subst m9; (try dsimp only); (try k_fold)))
  refine wpAny_call ?_
  k_dflt (refine' code_defC ?k1 ?k2 ?k3 ?k4 ?k5 ?kA ?kF ?kK ?k6 ?k7 ?k8 ?k9 ?kB ?kD ?_ ?c2 ?c3 ?c4; (case kA => exact rfl); (case kF => exact rfl); (case kK => assumption); (case k1 => k_asm); (case k2 => k_asm); (case k3 => k_asm); (case k4 => k_asm); (case k5 => k_asm); (case k6 => k_is); (case k7 => k_is); (case k8 => ktr_room); (case k9 => exact BindsTo.of_eq rfl); (case kB => exact rfl); (case kD => decide +kernel); (case c2 => exact rfl); (case c3 => exact rfl); (case c4 => exact rfl); k_whole; intro g' L' h' tk' cells' FG' F' N' Y' B' X' T' l1; (try k_lt l1); k_cells Y'; (try simp only [List.cons_append, List.nil_append] at N'); (try dsimp only); (have C1' := codeHd1 X'); (have C2' := codeHd2 X'); (have hL41 := lt41 F' X'); (have hnL := by first | exact l1.2.2 | exact l1.2 | exact l1); (try k_fold))
  k_steps
  all_goals (try exact False.elim (ha0 (by assumption)))
  exact ret_i2d hret (by assumption) (by assumption) (List.forall_mem_cons.mpr ⟨by k_mem, List.forall_mem_cons.mpr ⟨by k_mem, fun p hp => by repeat (first | exact hp | refine List.Mem.tail _ ?_)⟩⟩) ⟨_, _, _, rfl, rfl, ints_fin i9, by omega⟩
end Mine
namespace Mine
open Builtin.Int (intBits)
theorem i2d_first (w : World) (rest : Led) (a n : Int) (k : Nat) (ta tn : Tok) (hne : ∀ p ∈ rest, p.1 ≠ 30) (hk1 : 1 ≤ k) (h256 : k ≤ 256) (f1 : Fdv ((intBits a : Int) + n - 1) n k) (ha : 0 < a) (hn1 : 1 ≤ n) (hn2 : n ≤ 9000)
    (hbits : (intBits a : Int) ≤ 50000) (hpow : a < (2 ^ n.toNat) ^ k) :
    Con w 35 257 2056 ((30, tabObj #[]) :: rest) [.int a ta, .int n tn] (fun r news' => ∃ D vs cap c oc cvs t9, r = .ref D ∧ news' = (D, W.listOf vs.toArray cap) :: (30, fullTab 32 c) :: (c, oc) :: rest ∧ IntsAre vs (digs (2 ^ n.toNat) k a) ∧
      oc.data = .fields cvs ∧ cvs[1]? = some (.str q1 t9) ∧ @LT.lt Nat _ 37 c ∧ @LT.lt Nat _ 37 D) := by
  have ha0 : a ≠ 0 := by omega
  unfold Con
  intro p loose mean mg mb dp un gd cn cs a0 ccd cl outer A₀ base h₀ L m s Q E B F X N T hk hdp hun hret
  skip
  w_top off
  k_with_none
  k_with "binaryOp Mult ref int" => (k_dflt (refine' r_zeros ?F ?N ?M h256 ?_; (case F => k_asm); (case N => k_asm); (case M => k_mem)); intro D9 h9 F9 N9 l9 hsz; k_lt l9)
  k_with "call ref" => (k_dflt (refine' con_use (inner1_all w k hk1 ?fixed ?D ?f ?c' ?cA ?cI ?cN ?oc ?oA ?oI ?oN ?cvs ?t9 ?nt ?tx ?tl ?tr ?name ?qual ?doc ?pm ?ctv ?vs (List.replicate k 0) ?cap a n 0 k ?m1 ?m2 ?m3 ?m4 ?m5 ?m6 ?m7 ?m8 ?m9 ?m10 ?m11 ?m12 (by omega) (by omega) hk1 (by rw [List.length_replicate]; omega) (by rw [List.length_replicate]; omega) hn1 hn2 (by omega) hbits hpow) ?k1 ?k2 ?k3 ?k4 ?k5 ?k6 ?k7 ?k8 ?_; (case k1 => k_asm); (case k2 => k_asm); (case k3 => k_asm); (case k4 => first | exact perm2 (d := (D9, _)) (by assumption) | exact perm3 (d := (D9, _)) (by assumption)); (case k5 => k_asm); (case k6 => first | exact rfl | assumption); (case k7 => ktr_room); (case k8 => ktr_units); (case m1 => k_mem); (case m2 => k_mem); (case m3 => assumption); (case m4 => first | assumption | (rw [qual1]; assumption)); (case m5 => k_mem); (case m6 => assumption); (case m7 => k_mem); (case m8 => assumption); (case m9 => k_mem); (case m10 => assumption); (case m11 => k_all); (case m12 => exact ints_zeros _ _); intro gS9 dS9 oS9 r9 n9 h9 tk9 F9 N9 O9; obtain ⟨e9, vs1, m9, i9⟩ := O9; subst e9; subst m9; (try dsimp only); (try k_fold)))
  refine wpAny_call ?_
  k_dflt (refine' code_defC ?k1 ?k2 ?k3 ?k4 ?k5 ?kA ?kF ?kK ?k6 ?k7 ?k8 ?k9 ?kB ?kD ?_ ?c2 ?c3 ?c4; (case kA => exact rfl); (case kF => exact rfl); (case kK => assumption); (case k1 => k_asm); (case k2 => k_asm); (case k3 => k_asm); (case k4 => k_asm); (case k5 => k_asm); (case k6 => k_is); (case k7 => k_is); (case k8 => ktr_room); (case k9 => exact BindsTo.of_eq rfl); (case kB => exact rfl); (case kD => decide +kernel); (case c2 => exact rfl); (case c3 => exact rfl); (case c4 => exact rfl); k_whole; intro g' L' h' tk' cells' FG' F' N' Y' B' X' T' l1; (try k_lt l1); k_cells Y'; (try simp only [List.cons_append, List.nil_append] at N'); (try dsimp only); (have C1' := codeHd1 X'); (have C2' := codeHd2 X'); (have hL41 := lt41 F' X'); (have hnL := by first | exact l1.2.2 | exact l1.2 | exact l1); (try k_fold))
  k_steps
  all_goals (try exact False.elim (ha0 (by assumption)))
  exact ret_i2d hret (by assumption) (by assumption) (List.forall_mem_cons.mpr ⟨by k_mem, List.forall_mem_cons.mpr ⟨by k_mem, List.forall_mem_cons.mpr ⟨by k_mem, fun p hp => by repeat (first | exact hp | refine List.Mem.tail _ ?_)⟩⟩⟩)
    ⟨_, _, _, _, _, _, _, rfl, rfl, ints_fin i9, by assumption, by assumption, by omega, by omega⟩
end Mine
namespace Mine
open Builtin.Int (intBits)
def undig (P : Int) : List Int → Int
  | [] => 0
  | d :: r => d + P * undig P r
theorem undig_append (P : Int) : ∀ a b : List Int, undig P (a ++ b) = undig P a + P ^ a.length * undig P b
  | [], b => by simp [undig]
  | d :: r, b => by
    rw [List.cons_append, undig, undig, undig_append P r b, List.length_cons, Int.pow_succ]
    grind
theorem undig_bound {P : Int} (hP : 0 < P) : ∀ a : List Int, (∀ d ∈ a, 0 ≤ d ∧ d < P) → 0 ≤ undig P a ∧ undig P a < P ^ a.length
  | [], _ => by simp [undig]
  | d :: r, h => by
    have h1 := h d (.head _)
    have ih := undig_bound hP r fun x hx => h x (.tail _ hx)
    rw [undig, List.length_cons, Int.pow_succ]
    have h2 : 0 ≤ P * undig P r := Int.mul_nonneg (by omega) ih.1
    have h3 : (undig P r + 1) * P ≤ P ^ r.length * P := Int.mul_le_mul_of_nonneg_right (by omega) (by omega)
    have h4 : (undig P r + 1) * P = P * undig P r + P := by grind
    omega
theorem undig_seg {P : Int} {ns : List Int} {L i j : Nat} (h : L + (i + j) ≤ ns.length) :
    undig P ((ns.drop (L + i)).take j) * P ^ i + undig P ((ns.drop L).take i) = undig P ((ns.drop L).take (i + j)) := by
  have e : (ns.drop L).take (i + j) = (ns.drop L).take i ++ (ns.drop (L + i)).take j := by rw [List.take_add, List.drop_drop]
  rw [e, undig_append, List.length_take, List.length_drop, Nat.min_eq_left (by omega)]
  grind
theorem seg_one {P : Int} {ns : List Int} {L : Nat} (h : L < ns.length) : undig P ((ns.drop L).take 1) = ns.getD L 0 := by
  rw [List.drop_eq_getElem_cons h, List.take_succ_cons, List.take_zero, undig, undig, List.getD_eq_getElem?_getD, List.getElem?_eq_getElem h]
  simp
theorem truthy_ints {w : World} {A : Around} {E : Value → Shared → Prop} {s : Shared} {h₀ : Heap} {L D : Addr} {news : Led} {vs : List Value} {ns : List Int} {cap : Nat} {Q : Bool → Shared → Prop} (N : News h₀ L s.heap news) (hm : (D, W.listOf vs.toArray cap) ∈ news) (hi : IntsAre vs ns)
    (h1 : 1 ≤ ns.length) (h2 : ns.length ≤ 256) (h : Q true { s with toks := s.toks + 1 + 1 }) : wpAny (model PRG w) A (truthy (.ref D)) Q E s := by
  refine truthy_list_made (News.isList N hm) hi.carried (by rw [List.length_map]; have : (2 : Nat) ^ 20 = 1048576 := rfl; omega) ?_
  rw [List.length_map, decide_eq_true (by omega)]
  exact h

def Inner2 (w : World) (k : Nat) : Prop :=
  ∀ (news : Led) (D f c' cA cI cN : Addr) (oc oA oI oN : Obj) (cvs : Array Value) (t9 nt tl tr : Tok) (name qual : Str) (doc pm ctv : Value) (vs : List Value) (ns : List Int) (cap : Nat) (n L R : Int),
    (f, fnMade name qual in2A in2B in2S [(Str.ofString "n", cN), (Str.ofString "inner", cI), (Str.ofString "digits", cA)] doc pm c' ctv) ∈ news → (c', oc) ∈ news → oc.data = .fields cvs → cvs[1]? = some (.str qual t9) →
    (cA, oA) ∈ news → oA.data = .cell (some (.ref D)) → (cI, oI) ∈ news → oI.data = .cell (some (.ref f)) → (cN, oN) ∈ news → oN.data = .cell (some (.int n nt)) → (D, W.listOf vs.toArray cap) ∈ news →
    IntsAre vs ns → (∀ d ∈ ns, 0 ≤ d ∧ d < 2 ^ n.toNat) → 0 ≤ L → R = L + k → 1 ≤ k → R ≤ ns.length → ns.length ≤ 256 → 1 ≤ n → n ≤ 9000 →
    Con w f k (8 * k) news [.int L tl, .int R tr] (outInt news (undig (2 ^ n.toNat) ((ns.drop L.toNat).take k)))
theorem inner2_leaf (w : World) : Inner2 w 1 := by
  intro news D f c' cA cI cN oc oA oI oN cvs t9 nt tl tr name qual doc pm ctv vs ns cap n L R hf hc hcd hcv hA hAd hI hId hN hNd hD hints hds h1 h2 h3 h4 h5 h6 h7
  have hR : L + 1 = R := h2.symm
  have hset := seg_one (P := 2 ^ n.toNat) (ns := ns) (L := L.toNat) (by omega)
  rw [hset]
  clear h2 hset
  unfold Con
  intro p loose mean mg mb dp un gd cn cs a0 ccd cl outer A₀ base h₀ L m s Q E B F X N T hk hdp hun hret
  skip
  w_top off
  k_with_none
  refine wpAny_call ?_
  k_dflt (refine' code_nest ?k1 ?k2 ?k3 ?k4 ?k5 ?kA ?kF ?kK ?k6 ?k7 ?k8 ?k9 ?kB ?_ ?c2 ?c3 ?c4 ?c5; (case kA => exact rfl); (case kF => exact rfl); (case kK => assumption); (case k1 => k_asm); (case k2 => k_asm); (case k3 => k_asm); (case k4 => k_asm); (case k5 => k_asm); (case k6 => k_mem); (case k7 => exact codeRec_news (by k_asm) (by k_mem) (by assumption) (by assumption)); (case k8 => ktr_room); (case k9 => exact BindsTo.of_eq rfl); (case c5 => decide); (case kB => exact locs rfl); (case c2 => exact rfl); (case c3 => exact rfl); (case c4 => exact rfl); k_whole; intro g' L' h' FG' F' N' B' X' T'; (try dsimp only); (have C1' := codeHd1 X'); (have C2' := codeHd2 X'); (try k_fold))
  k_steps
  all_goals (try exact absurd hR (by assumption))
  exact hret _ _ _ _ (by assumption) (by assumption) ⟨rfl, _, rfl⟩
theorem inner2_step (w : World) (i j : Nat) (hi : 1 ≤ i) (hj : 1 ≤ j) (hij : i = (i + j) / 2) (I1 : Inner2 w i) (I2 : Inner2 w j) : Inner2 w (i + j) := by
  intro news D f c' cA cI cN oc oA oI oN cvs t9 nt tl tr name qual doc pm ctv vs ns cap n L R hf hc hcd hcv hA hAd hI hId hN hNd hD hints hds h1 h2 h3 h4 h5 h6 h7
  have hR : ¬ L + 1 = R := by omega
  have hP : (0 : Int) < 2 ^ n.toNat := kbt_pos _
  have ePi : (2 : Int) ^ ((i : Int) * n).toNat = (2 ^ n.toNat) ^ i := by
    rw [← Int.pow_mul]
    congr 1
    rw [Int.toNat_mul (by omega) (by omega), Int.toNat_natCast, Nat.mul_comm]
  have hin : 0 ≤ (i : Int) * n := Int.mul_nonneg (by omega) (by omega)
  have hin2 : (i : Int) * n ≤ i * 9000 := Int.mul_le_mul_of_nonneg_left h7 (by omega)
  have hjn2 : (j : Int) * n ≤ j * 9000 := Int.mul_le_mul_of_nonneg_left h7 (by omega)
  have g1 : Shr (L + R) 1 (L + i) := by have := mk_shr (a := L + R) (n := 1) (by decide); rwa [show (L + R) / 2 ^ (1 : Int).toNat = L + i from by rw [show (2 : Int) ^ (1 : Int).toNat = 2 from rfl]; omega] at this
  have g2 : Mul (L + i - L) n (i * n) := by
    rw [show L + (i : Int) - L = i from by omega]
    exact mk_mul (i := 10) (j := 20) (bits_lt (by omega) (by have : (2 : Int) ^ 10 = 1024 := rfl; omega)) (bits_lt (by omega) (by have : (2 : Int) ^ 20 = 1048576 := rfl; omega)) (by omega)
  have hend := undig_seg (P := 2 ^ n.toNat) (ns := ns) (L := L.toNat) (i := i) (j := j) (by omega)
  have C1 : ∀ t1 t2, Con w f i (8 * i) news [.int L t1, .int (L + i) t2] (outInt news (undig (2 ^ n.toNat) ((ns.drop L.toNat).take i))) := fun t1 t2 =>
    I1 news D f c' cA cI cN oc oA oI oN cvs t9 nt t1 t2 name qual doc pm ctv vs ns cap n L (L + i) hf hc hcd hcv hA hAd hI hId hN hNd hD hints hds h1 rfl hi (by omega) h5 h6 h7
  have C2 : ∀ t1 t2, Con w f j (8 * j) news [.int (L + i) t1, .int R t2] (outInt news (undig (2 ^ n.toNat) ((ns.drop (L.toNat + i)).take j))) := fun t1 t2 => by
    have := I2 news D f c' cA cI cN oc oA oI oN cvs t9 nt t1 t2 name qual doc pm ctv vs ns cap n (L + i) R hf hc hcd hcv hA hAd hI hId hN hNd hD hints hds (by omega) (by omega) hj (by omega) h5 h6 h7
    rwa [show (L + i).toNat = L.toNat + i from by omega] at this
  have B2 := undig_bound hP ((ns.drop (L.toNat + i)).take j) fun d hd => hds d (List.mem_of_mem_drop (List.mem_of_mem_take hd))
  rw [List.length_take, List.length_drop, Nat.min_eq_left (by omega)] at B2
  have g4 : Shl (undig (2 ^ n.toNat) ((ns.drop (L.toNat + i)).take j)) (i * n) (undig (2 ^ n.toNat) ((ns.drop (L.toNat + i)).take j) * (2 ^ n.toNat) ^ i) := by
    refine ⟨hin, ?_, by rw [ePi]⟩
    have e : ((2 : Int) ^ n.toNat) ^ j = 2 ^ (n.toNat * j) := Int.pow_mul.symm
    have := bits_lt B2.1 (by rw [← e]; exact B2.2)
    have e2 : ((n.toNat * j : Nat) : Int) = j * n := by rw [Int.natCast_mul, Int.toNat_of_nonneg (by omega), Int.mul_comm]
    omega
  rw [← hend]
  clear hend hjn2 hin2 hin ePi hP B2 hds
  generalize undig (2 ^ n.toNat) ((ns.drop (L.toNat + i)).take j) = V2 at *
  generalize undig (2 ^ n.toNat) ((ns.drop L.toNat).take i) = V1 at *
  generalize V2 * (2 ^ n.toNat) ^ i = VP at *
  unfold Con
  intro p loose mean mg mb dp un gd cn cs a0 ccd cl outer A₀ base h₀ L m s Q E B F X N T hk hdp hun hret
  skip
  w_top off
  k_with_none
  k_with "call ref" => (k_dflt (first | (refine' con_use (C2 _ _) ?k1 ?k2 ?k3 ?k4 ?k5 ?k6 ?k7 ?k8 ?_; (case k1 => k_asm); (case k2 => k_asm); (case k3 => k_asm); (case k4 => k_asm); (case k5 => k_asm); (case k6 => first | exact rfl | assumption); (case k7 => ktr_room); (case k8 => ktr_units); intro gS9 dS9 oS9 r9 n9 h9 tk9 F9 N9 O9; obtain ⟨m9, t9, e9⟩ := O9; subst e9; subst m9; (try dsimp only); (try k_fold)) | (refine' con_use (C1 _ _) ?k1 ?k2 ?k3 ?k4 ?k5 ?k6 ?k7 ?k8 ?_; (case k1 => k_asm); (case k2 => k_asm); (case k3 => k_asm); (case k4 => k_asm); (case k5 => k_asm); (case k6 => first | exact rfl | assumption); (case k7 => ktr_room); (case k8 => ktr_units); intro gS9 dS9 oS9 r9 n9 h9 tk9 F9 N9 O9; obtain ⟨m9, t9, e9⟩ := O9; subst e9; subst m9; (try dsimp only); (try k_fold))))
  refine wpAny_call ?_
  k_dflt (refine' code_nest ?k1 ?k2 ?k3 ?k4 ?k5 ?kA ?kF ?kK ?k6 ?k7 ?k8 ?k9 ?kB ?_ ?c2 ?c3 ?c4 ?c5; (case kA => exact rfl); (case kF => exact rfl); (case kK => assumption); (case k1 => k_asm); (case k2 => k_asm); (case k3 => k_asm); (case k4 => k_asm); (case k5 => k_asm); (case k6 => k_mem); (case k7 => exact codeRec_news (by k_asm) (by k_mem) (by assumption) (by assumption)); (case k8 => ktr_room); (case k9 => exact BindsTo.of_eq rfl); (case c5 => decide); (case kB => exact locs rfl); (case c2 => exact rfl); (case c3 => exact rfl); (case c4 => exact rfl); k_whole; intro g' L' h' FG' F' N' B' X' T'; (try dsimp only); (have C1' := codeHd1 X'); (have C2' := codeHd2 X'); (try k_fold))
  k_steps
  all_goals (try exact absurd (by assumption) hR)
  exact hret _ _ _ _ (by assumption) (by assumption) ⟨rfl, _, rfl⟩
theorem inner2_all (w : World) : ∀ k, 1 ≤ k → Inner2 w k := by
  have all : ∀ n, ∀ k, k < n → 1 ≤ k → Inner2 w k := by
    intro n
    induction n with
    | zero => intro k h; omega
    | succ n ih =>
      intro k h h1
      by_cases hk : k = 1
      · subst hk; exact inner2_leaf w
      · have e : k = k / 2 + (k - k / 2) := by omega
        rw [e]
        exact inner2_step w (k / 2) (k - k / 2) (by omega) (by omega) (by omega) (ih _ (by omega) (by omega)) (ih _ (by omega) (by omega))
  exact fun k => all _ k (Nat.lt_succ_self k)
end Mine
namespace Mine
open Builtin.Int (intBits)
theorem undig_all {P : Int} {ns : List Int} : undig P ((ns.drop (0 : Int).toNat).take ns.length) = undig P ns := by simp
theorem d2i_hit (w : World) (rest : Led) (D : Addr) (vs : List Value) (ns : List Int) (cap : Nat) (n : Int) (tn : Tok) (c : Addr) (oc : Obj) (cvs : Array Value) (t9 : Tok) (hD : (D, W.listOf vs.toArray cap) ∈ rest) (hi : IntsAre vs ns)
    (hk1 : 1 ≤ ns.length) (hk2 : ns.length ≤ 256) (hds : ∀ d ∈ ns, 0 ≤ d ∧ d < 2 ^ n.toNat) (hn1 : 1 ≤ n) (hn2 : n ≤ 9000) (hc : (c, oc) ∈ rest) (hcd : oc.data = .fields cvs) (hcv : cvs[1]? = some (.str q2 t9)) :
    Con w 42 257 2056 ((37, fullTab 47 c) :: rest) [.ref D, .int n tn] (outInt ((37, fullTab 47 c) :: rest) (undig (2 ^ n.toNat) ns)) := by
  have hsz : vs.toArray.size = ns.length := by rw [List.size_toArray]; exact hi.length
  rw [← undig_all]
  unfold Con
  intro p loose mean mg mb dp un gd cn cs a0 ccd cl outer A₀ base h₀ L m s Q E B F X N T hk hdp hun hret
  skip
  w_top off
  k_with_none
  k_with "truthy ref" => (k_dflt (refine' truthy_ints ?N ?M hi hk1 hk2 ?_; (case N => k_asm); (case M => k_mem)))
  k_with "call ref" => (k_dflt (refine' con_use (inner2_all w ns.length hk1 ?news D ?f ?c' ?cA ?cI ?cN ?oc ?oA ?oI ?oN ?cvs ?t9 ?nt ?tl ?tr ?name ?qual ?doc ?pm ?ctv vs ns cap n 0 ns.length ?m1 ?m2 ?m3 ?m4 ?m5 ?m6 ?m7 ?m8 ?m9 ?m10 ?m11 hi hds (by omega) (by omega) hk1 (by omega) hk2 hn1 hn2) ?k1 ?k2 ?k3 ?k4 ?k5 ?k6 ?k7 ?k8 ?_; (case k1 => k_asm); (case k2 => k_asm); (case k3 => k_asm); (case k4 => k_asm); (case k5 => k_asm); (case k6 => first | exact rfl | assumption); (case k7 => ktr_room); (case k8 => ktr_units); (case m1 => k_mem); (case m2 => k_mem); (case m3 => assumption); (case m4 => first | assumption | (rw [qual2]; assumption)); (case m5 => k_mem); (case m6 => assumption); (case m7 => k_mem); (case m8 => assumption); (case m9 => k_mem); (case m10 => assumption); (case m11 => k_mem);  intro gS9 dS9 oS9 r9 n9 h9 tk9 F9 N9 O9; obtain ⟨m9, t9, e9⟩ := O9; subst e9; subst m9; (try dsimp only); (try k_fold)))
  refine wpAny_call ?_
  k_dflt (refine' code_defC ?k1 ?k2 ?k3 ?k4 ?k5 ?kA ?kF ?kK ?k6 ?k7 ?k8 ?k9 ?kB ?kD ?_ ?c2 ?c3 ?c4; (case kA => exact rfl); (case kF => exact rfl); (case kK => assumption); (case k1 => k_asm); (case k2 => k_asm); (case k3 => k_asm); (case k4 => k_asm); (case k5 => k_asm); (case k6 => k_is); (case k7 => k_is); (case k8 => ktr_room); (case k9 => exact BindsTo.of_eq rfl); (case kB => exact rfl); (case kD => decide +kernel); (case c2 => exact rfl); (case c3 => exact rfl); (case c4 => exact rfl); k_whole; intro g' L' h' tk' cells' FG' F' N' Y' B' X' T' l1; (try k_lt l1); k_cells Y'; (try simp only [List.cons_append, List.nil_append] at N'); (try dsimp only); (have C1' := codeHd1 X'); (have C2' := codeHd2 X'); (have hL41 := lt41 F' X'); (have hnL := by first | exact l1.2.2 | exact l1.2 | exact l1); (try k_fold))
  k_steps
  exact ret_i2d hret (by assumption) (by assumption) (List.forall_mem_cons.mpr ⟨by k_mem, fun p hp => by repeat (first | exact hp | refine List.Mem.tail _ ?_)⟩) ⟨rfl, _, rfl⟩
theorem d2i_first (w : World) (rest : Led) (D : Addr) (vs : List Value) (ns : List Int) (cap : Nat) (n : Int) (tn : Tok) (hne : ∀ p ∈ rest, p.1 ≠ 37) (hD : (D, W.listOf vs.toArray cap) ∈ rest) (hi : IntsAre vs ns)
    (hk1 : 1 ≤ ns.length) (hk2 : ns.length ≤ 256) (hds : ∀ d ∈ ns, 0 ≤ d ∧ d < 2 ^ n.toNat) (hn1 : 1 ≤ n) (hn2 : n ≤ 9000) :
    Con w 42 257 2056 ((37, tabObj #[]) :: rest) [.ref D, .int n tn] (fun r news' => ∃ c oc cvs t9 t, r = .int (undig (2 ^ n.toNat) ns) t ∧ news' = (37, fullTab 47 c) :: (c, oc) :: rest ∧
      oc.data = .fields cvs ∧ cvs[1]? = some (.str q2 t9) ∧ @LT.lt Nat _ 37 c) := by
  have hsz : vs.toArray.size = ns.length := by rw [List.size_toArray]; exact hi.length
  rw [← undig_all]
  unfold Con
  intro p loose mean mg mb dp un gd cn cs a0 ccd cl outer A₀ base h₀ L m s Q E B F X N T hk hdp hun hret
  skip
  w_top off
  k_with_none
  k_with "truthy ref" => (k_dflt (refine' truthy_ints ?N ?M hi hk1 hk2 ?_; (case N => k_asm); (case M => k_mem)))
  k_with "call ref" => (k_dflt (refine' con_use (inner2_all w ns.length hk1 ?news D ?f ?c' ?cA ?cI ?cN ?oc ?oA ?oI ?oN ?cvs ?t9 ?nt ?tl ?tr ?name ?qual ?doc ?pm ?ctv vs ns cap n 0 ns.length ?m1 ?m2 ?m3 ?m4 ?m5 ?m6 ?m7 ?m8 ?m9 ?m10 ?m11 hi hds (by omega) (by omega) hk1 (by omega) hk2 hn1 hn2) ?k1 ?k2 ?k3 ?k4 ?k5 ?k6 ?k7 ?k8 ?_; (case k1 => k_asm); (case k2 => k_asm); (case k3 => k_asm); (case k4 => k_asm); (case k5 => k_asm); (case k6 => first | exact rfl | assumption); (case k7 => ktr_room); (case k8 => ktr_units); (case m1 => k_mem); (case m2 => k_mem); (case m3 => assumption); (case m4 => first | assumption | (rw [qual2]; assumption)); (case m5 => k_mem); (case m6 => assumption); (case m7 => k_mem); (case m8 => assumption); (case m9 => k_mem); (case m10 => assumption); (case m11 => k_mem);  intro gS9 dS9 oS9 r9 n9 h9 tk9 F9 N9 O9; obtain ⟨m9, t9, e9⟩ := O9; subst e9; subst m9; (try dsimp only); (try k_fold)))
  refine wpAny_call ?_
  k_dflt (refine' code_defC ?k1 ?k2 ?k3 ?k4 ?k5 ?kA ?kF ?kK ?k6 ?k7 ?k8 ?k9 ?kB ?kD ?_ ?c2 ?c3 ?c4; (case kA => exact rfl); (case kF => exact rfl); (case kK => assumption); (case k1 => k_asm); (case k2 => k_asm); (case k3 => k_asm); (case k4 => k_asm); (case k5 => k_asm); (case k6 => k_is); (case k7 => k_is); (case k8 => ktr_room); (case k9 => exact BindsTo.of_eq rfl); (case kB => exact rfl); (case kD => decide +kernel); (case c2 => exact rfl); (case c3 => exact rfl); (case c4 => exact rfl); k_whole; intro g' L' h' tk' cells' FG' F' N' Y' B' X' T' l1; (try k_lt l1); k_cells Y'; (try simp only [List.cons_append, List.nil_append] at N'); (try dsimp only); (have C1' := codeHd1 X'); (have C2' := codeHd2 X'); (have hL41 := lt41 F' X'); (have hnL := by first | exact l1.2.2 | exact l1.2 | exact l1); (try k_fold))
  k_steps
  exact ret_i2d hret (by assumption) (by assumption) (List.forall_mem_cons.mpr ⟨by k_mem, List.forall_mem_cons.mpr ⟨by k_mem, fun p hp => by repeat (first | exact hp | refine List.Mem.tail _ ?_)⟩⟩)
    ⟨_, _, _, _, _, rfl, rfl, by assumption, by assumption, by omega⟩
end Mine
namespace Mine
open Builtin.Int (intBits)
def TabOk (ln : Int) (q : Str) (ps : Array Value) (ex : Led) : Prop :=
  ps = #[] ∨ ∃ c oc cvs t9, ps = #[rawInt ln, rawInt 4, .ref c] ∧ (c, oc) ∈ ex ∧ oc.data = .fields cvs ∧ cvs[1]? = some (.str q t9)
structure Tabs (ps1 ps2 : Array Value) (ex : Led) : Prop where
  t1 : TabOk 32 q1 ps1 ex
  t2 : TabOk 47 q2 ps2 ex
  fl : ∀ p ∈ ex, @LT.lt Nat _ 37 p.1 ∧ ∃ vs q t, p.2.data = .fields vs ∧ vs[1]? = some (.str q t)
theorem TabOk.mono {ln : Int} {q : Str} {ps : Array Value} {ex ex' : Led} (h : TabOk ln q ps ex) (hs : ∀ p ∈ ex, p ∈ ex') : TabOk ln q ps ex' := by
  rcases h with h | ⟨c, oc, cvs, t9, h1, h2, h3⟩
  · exact .inl h
  · exact .inr ⟨c, oc, cvs, t9, h1, hs _ h2, h3⟩
abbrev tabLed (ps1 ps2 : Array Value) (ex rest : Led) : Led := (30, tabObj ps1) :: (37, tabObj ps2) :: (ex ++ rest)
theorem con_weaken {w : World} {f : Addr} {dd uu : Nat} {news news0 : Led} {vs : List Value} {Out Out' : Value → Led → Prop} (C : Con w f dd uu news vs Out) (hs : ∀ p ∈ news, p ∈ news0)
    (ho : ∀ r n', Out r n' → ∃ n'', (∀ p ∈ n'', p ∈ n') ∧ Out' r n'') : Con w f dd uu news0 vs Out' :=
  fun _ _ _ _ _ _ _ _ _ _ _ _ _ _ _ _ _ _ _ _ _ _ B F X N T hk hd hu ret => C _ _ _ _ _ _ _ _ _ _ _ _ _ _ _ _ _ _ _ _ _ _ B F X (fun p hp => N p (hs p hp)) T hk hd hu
    fun r n' h' tk' F' N' O => by
      obtain ⟨n'', hsub, O'⟩ := ho r n' O
      exact ret r n'' h' tk' F' (fun p hp => N' p (hsub p hp)) O'
theorem i2d_tabs (w : World) (ps1 ps2 : Array Value) (ex rest : Led) (a n : Int) (k : Nat) (ta tn : Tok) (T : Tabs ps1 ps2 ex) (hr : ∀ p ∈ rest, @LT.lt Nat _ 37 p.1) (hk1 : 1 ≤ k) (h256 : k ≤ 256) (f1 : Fdv ((intBits a : Int) + n - 1) n k) (ha : 0 < a) (hn1 : 1 ≤ n) (hn2 : n ≤ 9000)
    (hbits : (intBits a : Int) ≤ 50000) (hpow : a < (2 ^ n.toNat) ^ k) :
    Con w 35 257 2056 (tabLed ps1 ps2 ex rest) [.int a ta, .int n tn] (fun r news' => ∃ D vs cap ps1' ex', r = .ref D ∧ news' = (D, W.listOf vs.toArray cap) :: tabLed ps1' ps2 ex' rest ∧ Tabs ps1' ps2 ex' ∧ IntsAre vs (digs (2 ^ n.toNat) k a) ∧ @LT.lt Nat _ 37 D) := by
  rcases T.t1 with h | ⟨c, oc, cvs, t9, h1, h2, h3, h4⟩
  · subst h
    refine con_weaken (i2d_first w ((37, tabObj ps2) :: (ex ++ rest)) a n k ta tn ?_ hk1 h256 f1 ha hn1 hn2 hbits hpow) (fun _ hp => hp) ?_
    · intro p hp
      simp only [List.mem_cons, List.mem_append] at hp
      rcases hp with rfl | hp | hp
      · exact (by decide : (37 : Nat) ≠ 30)
      · exact Nat.ne_of_gt (Nat.lt_trans (by decide : (30 : Nat) < 37) (T.fl p hp).1)
      · exact Nat.ne_of_gt (Nat.lt_trans (by decide : (30 : Nat) < 37) (hr p hp))
    · rintro r n' ⟨D, vs, cap, c, oc, cvs, t9, rfl, rfl, hi, h3, h4, h5, h6⟩
      refine ⟨_, ?_, D, vs, cap, #[rawInt 32, rawInt 4, .ref c], (c, oc) :: ex, rfl, rfl, ⟨.inr ⟨c, oc, cvs, t9, rfl, .head _, h3, h4⟩, T.t2.mono (fun p hp => .tail _ hp), List.forall_mem_cons.mpr ⟨⟨h5, _, _, _, h3, h4⟩, T.fl⟩⟩, hi, h6⟩
      intro p hp
      simp only [tabLed, List.mem_cons, List.mem_append] at hp ⊢
      grind
  · subst h1
    refine con_weaken (i2d_hit w ((37, tabObj ps2) :: (ex ++ rest)) a n k ta tn c oc cvs t9 hk1 h256 f1 ha hn1 hn2 hbits hpow (by simp [h2]) h3 h4) (fun _ hp => hp) ?_
    rintro r n' ⟨D, vs, cap, rfl, rfl, hi, h6⟩
    exact ⟨_, fun _ hp => hp, D, vs, cap, _, ex, rfl, rfl, T, hi, h6⟩
theorem d2i_tabs (w : World) (ps1 ps2 : Array Value) (ex rest : Led) (D : Addr) (vs : List Value) (ns : List Int) (cap : Nat) (n : Int) (tn : Tok) (T : Tabs ps1 ps2 ex) (hr : ∀ p ∈ rest, @LT.lt Nat _ 37 p.1) (hD : (D, W.listOf vs.toArray cap) ∈ rest) (hi : IntsAre vs ns)
    (hk1 : 1 ≤ ns.length) (hk2 : ns.length ≤ 256) (hds : ∀ d ∈ ns, 0 ≤ d ∧ d < 2 ^ n.toNat) (hn1 : 1 ≤ n) (hn2 : n ≤ 9000) :
    Con w 42 257 2056 (tabLed ps1 ps2 ex rest) [.ref D, .int n tn] (fun r news' => ∃ t ps2' ex', r = .int (undig (2 ^ n.toNat) ns) t ∧ news' = tabLed ps1 ps2' ex' rest ∧ Tabs ps1 ps2' ex') := by
  rcases T.t2 with h | ⟨c, oc, cvs, t9, h1, h2, h3, h4⟩
  · subst h
    refine con_weaken (d2i_first w ((30, tabObj ps1) :: (ex ++ rest)) D vs ns cap n tn ?_ (by simp [hD]) hi hk1 hk2 hds hn1 hn2) (fun p hp => ?_) ?_
    · intro p hp
      simp only [List.mem_cons, List.mem_append] at hp
      rcases hp with rfl | hp | hp
      · exact (by decide : (30 : Nat) ≠ 37)
      · exact Nat.ne_of_gt (T.fl p hp).1
      · exact Nat.ne_of_gt (hr p hp)
    · simp only [tabLed, List.mem_cons, List.mem_append] at hp ⊢
      grind
    · rintro r n' ⟨c, oc, cvs, t9, t, rfl, rfl, h3, h4, h5⟩
      refine ⟨_, ?_, t, #[rawInt 47, rawInt 4, .ref c], (c, oc) :: ex, rfl, rfl, ⟨T.t1.mono (fun p hp => .tail _ hp), .inr ⟨c, oc, cvs, t9, rfl, .head _, h3, h4⟩, List.forall_mem_cons.mpr ⟨⟨h5, _, _, _, h3, h4⟩, T.fl⟩⟩⟩
      intro p hp
      simp only [tabLed, List.mem_cons, List.mem_append] at hp ⊢
      grind
  · subst h1
    refine con_weaken (d2i_hit w ((30, tabObj ps1) :: (ex ++ rest)) D vs ns cap n tn c oc cvs t9 (by simp [hD]) hi hk1 hk2 hds hn1 hn2 (by simp [h2]) h3 h4) (fun p hp => ?_) ?_
    · simp only [tabLed, List.mem_cons, List.mem_append] at hp ⊢
      grind
    · rintro r n' ⟨rfl, t, rfl⟩
      refine ⟨_, ?_, t, _, ex, rfl, rfl, T⟩
      intro p hp
      simp only [tabLed, List.mem_cons, List.mem_append] at hp ⊢
      grind
end Mine
namespace Mine
open Builtin.Int (intBits)
theorem digs_mem {P : Int} (hP : 0 < P) : ∀ (k : Nat) (x : Int), ∀ d ∈ digs P k x, 0 ≤ d ∧ d < P
  | 0, _, _, h => nomatch h
  | k + 1, x, d, h => by
    rcases List.mem_cons.mp h with rfl | h
    · exact ⟨Int.emod_nonneg _ (by omega), Int.emod_lt_of_pos _ hP⟩
    · exact digs_mem hP k _ d h
theorem undig_digs {P : Int} (hP : 0 < P) : ∀ (k : Nat) (x : Int), 0 ≤ x → x < P ^ k → undig P (digs P k x) = x
  | 0, x, h0, h1 => by simp at h1; simp [digs, undig]; omega
  | k + 1, x, h0, h1 => by
    rw [digs, undig, undig_digs hP k _ (Int.ediv_nonneg h0 (by omega)) (Int.ediv_lt_of_lt_mul hP (by rw [← Int.pow_succ]; exact h1))]
    have := Int.mul_ediv_add_emod x P
    omega
def DmI (a b P : Int) (k : Nat) (r qs : List Value) (r1 : Int) : Prop :=
  ∃ ds qn : List Int, IntsAre r ds ∧ IntsAre qs qn ∧ (∀ d ∈ ds, 0 ≤ d ∧ d < P) ∧ (∀ d ∈ qn, 0 ≤ d ∧ d < P) ∧ (undig P qn.reverse * b + r1) * P ^ ds.length + undig P ds.reverse = a ∧ 0 ≤ r1 ∧ r1 < b ∧ qn.length + ds.length = k
theorem dm_start {a b P : Int} {k : Nat} {vs : List Value} (hP : 0 < P) (hb : 0 < b) (hi : IntsAre vs (digs P k a)) (h0 : 0 ≤ a) (h1 : a < P ^ k) : DmI a b P k vs.reverse [] 0 :=
  ⟨(digs P k a).reverse, [], IntsAre.reverse hi, .nil, fun d hd => digs_mem hP k a d (List.mem_reverse.mp hd), fun d hd => absurd hd List.not_mem_nil, by rw [List.reverse_reverse, undig_digs hP k a h0 h1]; simp [undig], by omega, hb, by rw [List.length_reverse, digs_len]; simp⟩
structure DmT (a b P : Int) (k : Nat) (v : Value) (r qs : List Value) (r1 d q' r' : Int) (t : Tok) : Prop where
  ev : v = .int d t
  d0 : 0 ≤ d
  dP : d < P
  e : r1 * P + d = q' * b + r'
  r0 : 0 ≤ r'
  rb : r' < b
  s0 : 0 ≤ r1
  sb : r1 < b
  nx : ∀ t', DmI a b P k r (qs ++ [.int q' t']) r'
theorem dm_turn {a b P : Int} {k : Nat} {v : Value} {r qs : List Value} {r1 : Int} (hP : 0 < P) (hb : 0 < b) (h : DmI a b P k (v :: r) qs r1) : ∃ d q' r' t, DmT a b P k v r qs r1 d q' r' t := by
  obtain ⟨ds, qn, h1, h2, h3, h4, h5, h6, h7, h8⟩ := h
  cases h1 with
  | cons d t hr =>
    rename_i ds
    have hd := h3 d (.head _)
    have e := Int.mul_ediv_add_emod (r1 * P + d) b
    have r0 := Int.emod_nonneg (r1 * P + d) (show b ≠ 0 by omega)
    have rb := Int.emod_lt_of_pos (r1 * P + d) hb
    generalize (r1 * P + d) / b = q' at *
    generalize (r1 * P + d) % b = r' at *
    have e' : r1 * P + d = q' * b + r' := by rw [Int.mul_comm q' b]; omega
    have B := quo_bounds hP hb h6 h7 hd.1 hd.2 e' r0 rb
    refine ⟨d, q', r', t, rfl, hd.1, hd.2, e', r0, rb, h6, h7, fun t' => ⟨ds, qn ++ [q'], hr, IntsAre.append h2 (.cons _ _ .nil), fun x hx => h3 x (.tail _ hx), fun x hx => ?_, ?_, r0, rb, ?_⟩⟩
    · rcases List.mem_append.mp hx with hx | hx
      · exact h4 x hx
      · rw [List.mem_singleton.mp hx]; exact B
    · rw [List.reverse_append, List.reverse_singleton, List.singleton_append, undig]
      rw [List.reverse_cons, undig_append, List.length_reverse, List.length_cons, Int.pow_succ, undig, undig] at h5
      generalize undig P qn.reverse = U at *
      generalize undig P ds.reverse = V at *
      generalize P ^ ds.length = W at *
      have e2 : (q' + P * U) * b + r' = (U * b + r1) * P + d := by grind
      rw [e2, ← h5]
      grind
    · rw [List.length_append, List.length_singleton]; rw [List.length_cons] at h8; omega
theorem dm_end {a b P : Int} {k : Nat} {qs : List Value} {r1 : Int} (h : DmI a b P k [] qs r1) : ∃ qn, IntsAre qs qn ∧ (∀ d ∈ qn, 0 ≤ d ∧ d < P) ∧ undig P qn.reverse * b + r1 = a ∧ 0 ≤ r1 ∧ r1 < b ∧ qn.length = k := by
  obtain ⟨ds, qn, h1, h2, h3, h4, h5, h6, h7, h8⟩ := h
  cases h1
  refine ⟨qn, h2, h4, ?_, h6, h7, by simpa using h8⟩
  rw [List.length_nil, Int.pow_zero, Int.mul_one] at h5
  simpa [undig] using h5

def RvPost {σ : Type} (h₀ : Heap) (L : Addr) (x : Str) (I : Addr) (it : Obj) (Ld : σ → Led) (ps : σ → List (Str × Value)) (stored : List Str) (m₀ : Str → Option Value) (P : List Value → σ → Prop) (r : List Value) (s₁ : Shared) (Q : Flow → Shared → Prop) (f : Flow) (s₂ : Shared) : Prop :=
  match f with
  | .ret v => Q (.ret v) s₂
  | .brk => Q .next s₂
  | _ => ∃ (c : σ) (h' : Heap) (tk' : Nat) (m' : Str → Option Value) (news' : Led), s₂ = { s₁ with heap := h', toks := tk' } ∧ Fr h₀ L h' m' ∧ News h₀ L h' news' ∧ (I, it) ∈ news' ∧ (∀ p ∈ Ld c, p ∈ news') ∧ (∀ p ∈ Ld c, p.1 ≠ I) ∧ (∀ p ∈ ps c, m' p.1 = some p.2) ∧
      (∀ z, z ≠ x → (∀ p ∈ ps c, z ≠ p.1) → stored.contains z = false → m' z = m₀ z) ∧ P r c
theorem rv_end {σ : Type} {h₀ : Heap} {L : Addr} {x : Str} {I : Addr} {it : Obj} {Ld : σ → Led} {ps : σ → List (Str × Value)} {stored : List Str} {m₀ : Str → Option Value} {P : List Value → σ → Prop} {r : List Value} {s₁ : Shared} {Q : Flow → Shared → Prop} {h' : Heap} {tk' : Nat} {m' : Str → Option Value} {news' : Led} (c : σ)
    (F : Fr h₀ L h' m') (N : News h₀ L h' news') (hi : (I, it) ∈ news') (hl : ∀ p ∈ Ld c, p ∈ news') (ho : ∀ p ∈ Ld c, p.1 ≠ I) (hk : ∀ p ∈ ps c, m' p.1 = some p.2) (hr : ∀ z, z ≠ x → (∀ p ∈ ps c, z ≠ p.1) → stored.contains z = false → m' z = m₀ z) (hp : P r c) :
    RvPost h₀ L x I it Ld ps stored m₀ P r s₁ Q .next { s₁ with heap := h', toks := tk' } := ⟨c, h', tk', m', news', rfl, F, N, hi, hl, ho, hk, hr, hp⟩
theorem rev_state {σ : Type} {w : World} {A : Around} {E : Value → Shared → Prop} {s : Shared} {env : Env} {h₀ : Heap} {x : Str} {body : List Stmt} {Q : Flow → Shared → Prop} {ax I : Addr} {lo : Obj} {vs : List Value} {n : Nat} {m₀ : Str → Option Value} {news : Led}
    (Ld : σ → Led) (ps : σ → List (Str × Value)) (stored : List Str) (P : List Value → σ → Prop) (c₀ : σ) (hh : A.handled = none) (F : Fr h₀ env.locals s.heap m₀) (N : News h₀ env.locals s.heap news) (hI : (I, revObj ax ((vs.length : Int) - 1)) ∈ news)
    (hl0 : ∀ p ∈ Ld c₀, p ∈ news) (hoff : ∀ p ∈ Ld c₀, p.1 ≠ I) (hla : ∀ c, (ax, lo) ∈ Ld c) (hc : lo.cls = .type "list") (hd : lo.data = .seq vs.toArray n) (hk : ∀ p ∈ ps c₀, m₀ p.1 = some p.2) (hp : P vs.reverse c₀)
    (turn : ∀ (c : σ) (v : Value) (r : List Value) (it : Obj) (u : Str → Option Value) h tk, P (v :: r) c → it.cls = .type "list_reverseiterator" → Fr h₀ env.locals h (fun y => if y = x then some v else kstB (fun z => if stored.contains z then u z else m₀ z) (ps c) y) →
      News h₀ env.locals h ((I, it) :: Ld c) → wpAny (model PRG w) A (execs body env) (RvPost h₀ env.locals x I it Ld ps stored m₀ P r { s with heap := h, toks := tk } Q) E { s with heap := h, toks := tk })
    (done : ∀ (c : σ) (u : Str → Option Value) h tk, P [] c → Fr h₀ env.locals h (fun y => if y = x then u y else kstB (fun z => if stored.contains z then u z else m₀ z) (ps c) y) → News h₀ env.locals h (Ld c) → Q .next { s with heap := h, toks := tk }) :
    wpAny (model PRG w) A (pyIter (.ref I)) (fun it s₂ => LoopAtV PRG w A h₀ env x body Q E it s₂) E s := by
  have offI : ∀ l : Led, (∀ p ∈ l, p.1 ≠ I) → OffI I (revObj ax ((vs.length : Int) - 1)) l := by
    intro l
    induction l with
    | nil => exact fun _ => trivial
    | cons p l ih => exact fun h => ⟨.inl (h p (.head _)), ih fun q hq => h q (.tail _ hq)⟩
  refine iter_revUnr (ax := ax) (lo := lo) (vs := vs) (n := n) (news := Ld c₀) hh F (fun p hp => N p ?_) (offI _ hoff) (hla c₀) hc hd ?_
  · rcases List.mem_cons.mp hp with rfl | hp
    · exact hI
    · exact hl0 p hp
  have key : ∀ (r : List Value) (c : σ) (m : Str → Option Value), P r c → (∀ p ∈ ps c, m p.1 = some p.2) → (∀ z, z ≠ x → (∀ p ∈ ps c, z ≠ p.1) → stored.contains z = false → m z = m₀ z) → RevRest PRG w A E h₀ env x body Q s I (ax, lo) r m (Ld c) := by
    intro r
    induction r with
    | nil => exact fun c m hP h1 h2 h tk F' N' => done c m h tk hP (kst_frOut h1 h2 F') N'
    | cons v r ih =>
      intro c m hP h1 h2 it h tk hic F' N'
      refine wpAny_mono (turn c v r it m h tk hP hic (kst_fr h1 h2 F') N') (fun f s₂ p => ?_) fun _ _ e => e
      have fin : (∃ (c : σ) (h' : Heap) (tk' : Nat) (m' : Str → Option Value) (news' : Led), s₂ = { s with heap := h', toks := tk' } ∧ Fr h₀ env.locals h' m' ∧ News h₀ env.locals h' news' ∧ (I, it) ∈ news' ∧ (∀ p ∈ Ld c, p ∈ news') ∧ (∀ p ∈ Ld c, p.1 ≠ I) ∧ (∀ p ∈ ps c, m' p.1 = some p.2) ∧
          (∀ z, z ≠ x → (∀ p ∈ ps c, z ≠ p.1) → stored.contains z = false → m' z = m₀ z) ∧ P r c) →
          UnrEnd h₀ env.locals { s with heap := h, toks := tk } I it (fun m' n' => (ax, lo) ∈ n' ∧ RevRest PRG w A E h₀ env x body Q s I (ax, lo) r m' n') s₂ := by
        rintro ⟨c', h', tk', m', news', rfl, F2, N2, hit, hin, hof, k1, k2, hp2⟩
        refine ⟨h', tk', m', Ld c', rfl, F2, fun p hp => N2 p ?_, hof, hla c', ih c' m' hp2 k1 k2⟩
        rcases List.mem_cons.mp hp with rfl | hp
        · exact hit
        · exact hin p hp
      cases f with
      | ret v => exact p
      | brk => exact p
      | next => exact fin p
      | cont => exact fin p
  exact key vs.reverse c₀ m₀ hp hk fun _ _ _ _ => rfl
end Mine
namespace Mine
open Builtin.Int (intBits)
theorem dm_len {a b P : Int} {k : Nat} {v : Value} {r qs : List Value} {r1 : Int} (h : DmI a b P k (v :: r) qs r1) (hk : k ≤ 256 := by assumption) : qs.toArray.size + 1 ≤ sizeLine := by
  obtain ⟨ds, qn, h1, h2, h3, h4, h5, h6, h7, h8⟩ := h
  rw [sizeLine_eq, List.size_toArray, h2.length]
  omega
theorem dm_perm {h₀ h : Heap} {L : Addr} {ps1 ps2 : Array Value} {ex rest : Led} {e1 e2 : Addr × Obj} (N : News h₀ L h (e1 :: e2 :: tabLed ps1 ps2 ex rest)) : News h₀ L h (tabLed ps1 ps2 ex (e1 :: e2 :: rest)) := fun p hp => N p (by
  simp only [tabLed, List.mem_cons, List.mem_append] at hp ⊢; grind)
theorem dm_walk (w : World) (ps1 ps2 : Array Value) (ex rest : Led) (a b q rr : Int) (k : Nat) (ta tb : Tok) (TT : Tabs ps1 ps2 ex) (hr : ∀ p ∈ rest, @LT.lt Nat _ 37 p.1) (hk1 : 1 ≤ k) (h256 : k ≤ 256) (f1 : Fdv ((intBits a : Int) + intBits b - 1) (intBits b) k) (ha : 0 < a) (hb : 0 < b) (hn1 : 1 ≤ (intBits b : Int)) (hn2 : (intBits b : Int) ≤ 9000)
    (hbits : (intBits a : Int) ≤ 50000) (hpow : a < (2 ^ (intBits b : Int).toNat) ^ k) (he : a = q * b + rr) (he0 : 0 ≤ rr) (he1 : rr < b) (hbl : b < 2 ^ (intBits b : Int).toNat) (hbg : 2 ^ ((intBits b : Int).toNat - 1) ≤ b) :
    Con w 49 300 2400 (tabLed ps1 ps2 ex rest) [.int a ta, .int b tb] (fun r' news' => ∃ qa t u ps1' ps2' ex', r' = .ref qa ∧ news' = (qa, tupO [.int q t, .int rr u]) :: tabLed ps1' ps2' ex' rest ∧ Tabs ps1' ps2' ex' ∧ @LT.lt Nat _ 37 qa) := by
  have hP : (0 : Int) < 2 ^ (intBits b : Int).toNat := kbt_pos _
  have f2 : ∀ r1 : Int, 0 ≤ r1 → r1 < b → Shl r1 (intBits b) (r1 * 2 ^ (intBits b : Int).toNat) := fun r1 g1 g2 => ⟨by omega, by have := bits_mono g1 (show r1 ≤ b by omega); omega, rfl⟩
  have C2 : ∀ (qs : List Value) (r1 d q' r' : Int), 0 ≤ d → d < 2 ^ (intBits b : Int).toNat → r1 * 2 ^ (intBits b : Int).toNat + d = q' * b + r' → 0 ≤ r' → r' < b → 0 ≤ r1 → r1 < b → ∀ news t1 t2 t3, Con w 21 7 (8 * 7) news [.int (r1 * 2 ^ (intBits b : Int).toNat + d) t1, .int b t2, .int (intBits b) t3] (outPair news q' r') :=
    fun _ r1 d q' r' g1 g2 g3 g4 g5 g6 g7 news t1 t2 t3 => div2_9000 w news _ b (intBits b) q' r' t1 t2 t3 hn1 hn2 (by have := Int.mul_nonneg g6 (Int.le_of_lt hP); omega)
      (by have h1 : (r1 + 1) * 2 ^ (intBits b : Int).toNat ≤ b * 2 ^ (intBits b : Int).toNat := Int.mul_le_mul_of_nonneg_right (by omega) (by omega)
          have h2 : (r1 + 1) * 2 ^ (intBits b : Int).toNat = r1 * 2 ^ (intBits b : Int).toNat + 2 ^ (intBits b : Int).toNat := by grind
          omega) hbg hbl g3 g4 g5
  clear hbl hbg
  unfold Con
  intro p loose mean mg mb dp un gd cn cs a0 ccd cl outer A₀ base h₀ L m s Q E B F X N T hk hdp hun hret
  skip
  w_top off
  k_with_none
  k_with "newList" => (k_dflt (refine' newList_K ?k1 ?k2 ?_; (case k1 => k_asm); (case k2 => k_asm); k_whole); intro Lq hLq FLq NLq lLq; (try k_lt lLq); (have hq9 := lLq.2.2.2); (try k_sweep))
  k_with "call type:reversed" => (k_dflt (refine' krv_reversed ?F ?N ?l ?_; (case F => k_asm); (case N => k_asm); (case l => is_list)); intro Iv hIv FIv NIv lIv; (try k_lt lIv); (have hi9 := lIv.2.2.2.2); (try k_sweep))
  k_with "pyIter ref" => (k_dflt (refine' rev_state (σ := List Value × Nat × Int × Tok) (ax := D1) (lo := W.listOf vs1.toArray cap1) (vs := vs1) (n := cap1) (fun c => (Lq, W.listOf c.1.toArray c.2.1) :: (D1, W.listOf vs1.toArray cap1) :: tabLed qs1 ps2 ex1 rest) (fun c => [(Str.ofString "q_digits", .ref Lq), (Str.ofString "r", .int c.2.2.1 c.2.2.2)]) [Str.ofString "q_digit"] (fun r c => DmI a b (2 ^ (intBits b : Int).toNat) k r c.1 c.2.2.1) ([], 0, 0, _) rfl ?F ?N ?hI ?hl0 ?hoff ?hla rfl rfl ?hk ?hp ?_ ?_; (case F => k_asm); (case N => k_asm); (case hI => k_mem); (case hl0 => exact fun p hp => .tail _ hp); (case hoff => k_all); (case hla => exact fun c => .tail _ (.head _)); (case hk => kst_all); (case hp => exact dm_start hP hb i9 (by omega) hpow); (all_goals first | (rintro ⟨qs, cap, r1, tr1⟩ v r it u hT tkT hP9 hic FT NT; obtain ⟨d, q', r', td, M⟩ := dm_turn hP hb hP9; obtain ⟨ev, d0, dP, eM, M0, Mb, s0, sb, nx⟩ := M; subst ev; (have C3 := C2 qs r1 d q' r' d0 dP eM M0 Mb s0 sb); (have f3 := f2 r1 s0 sb); (have z3 := dm_len hP9); dsimp only at FT NT; (try k_fold)) | (rintro ⟨qs, cap, r1, tr1⟩ u hT tkT hP9 FT NT; obtain ⟨qn, j1, j2, j3, j4, j5, j6⟩ := dm_end hP9; (have z4 := j1.length); (have j1r := IntsAre.reverse j1); dsimp only at FT NT j1 j3 j4 j5 z4 j1r; (try k_unfold); (try dsimp only); (try k_fold)))))
  k_with "call builtin:list.append" => (k_dflt (refine' append_K ?k1 ?k2 ?k3 ?_ ?z; (case k1 => k_asm); (case k2 => k_asm); (case k3 => k_upd); (case z => exact Nat.le_of_succ_le z3); k_whole); intro hA FA NA; (try k_sweep))
  k_with "call builtin:list.reverse" => (dsimp only; k_dflt (refine' kl_reverse (l := qs.reverse) ?F ?N ?e ?U ?z ?_; (case F => k_asm); (case N => k_asm); (case U => k_upd); (case e => exact rfl); (case z => (show qs.length ≤ sizeLine; rw [sizeLine_eq]; omega))); intro hR FR NR; (try k_sweep))
  k_with "call ref" => (k_dflt (first
    | (refine' con_use (i2d_tabs w ps1 ps2 ex rest a (intBits b) k _ _ TT hr hk1 h256 f1 ha hn1 hn2 hbits hpow) ?k1 ?k2 ?k3 ?k4 ?k5 ?k6 ?k7 ?k8 ?_; (case k1 => k_asm); (case k2 => k_asm); (case k3 => k_asm); (case k4 => k_asm); (case k5 => k_asm); (case k6 => first | exact rfl | assumption); (case k7 => ktr_room); (case k8 => ktr_units); intro gS9 dS9 oS9 r9 n9 h9 tk9 F9 N9 O9; obtain ⟨D1, vs1, cap1, qs1, ex1, e9, m9, T1, i9, hD37⟩ := O9; subst e9; subst m9; (try dsimp only); (try k_fold))
    | (refine' con_use (C3 _ _ _ _) ?k1 ?k2 ?k3 ?k4 ?k5 ?k6 ?k7 ?k8 ?_; (case k1 => k_asm); (case k2 => k_asm); (case k3 => k_asm); (case k4 => k_asm); (case k5 => k_asm); (case k6 => first | exact rfl | assumption); (case k7 => ktr_room); (case k8 => ktr_units); intro gS9 dS9 oS9 r9 n9 h9 tk9 F9 N9 O9; obtain ⟨q9, t9, u9, e9, m9, l9⟩ := O9; subst e9; (try k_lt l9); subst m9; (try dsimp only); (try k_fold))
    | (refine' con_use (d2i_tabs w qs1 ps2 ex1 ((Lq, W.listOf qs.reverse.toArray cap) :: (D1, W.listOf vs1.toArray cap1) :: rest) Lq qs.reverse qn.reverse cap (intBits b) _ T1 (by first | (exact List.forall_mem_cons.mpr ⟨by dsimp only; omega, List.forall_mem_cons.mpr ⟨by dsimp only; omega, hr⟩⟩)) (.head _) j1r (by rw [List.length_reverse]; omega) (by rw [List.length_reverse]; omega) (fun d hd => j2 d (List.mem_reverse.mp hd)) hn1 hn2) ?k1 ?k2 ?k3 ?k4 ?k5 ?k6 ?k7 ?k8 ?_; (case k1 => k_asm); (case k2 => k_asm); (case k3 => k_asm); (case k4 => refine dm_perm (by assumption)); (case k5 => k_asm); (case k6 => first | exact rfl | assumption); (case k7 => ktr_room); (case k8 => ktr_units); intro gS9 dS9 oS9 r9 n9 h9 tk9 F9 N9 O9; obtain ⟨t9, qs2, ex2, e9, m9, T2⟩ := O9; subst e9; subst m9; (try dsimp only); (try k_fold))))
  refine wpAny_call ?_
  k_dflt ktr_enter
  ((rename Fr _ _ _ _ => F0'); refine name_fr F0' ?_; clear F0'; intro mE' FE')
  k_steps
  · (with_reducible rename News _ _ _ _ => nE')
    simp only [List.push_toArray] at nE'
    refine rv_end (qs ++ [.int q' t9], cap + 1, r', u9) (by assumption) nE' (by k_mem) ?_ (by k_all) (by kst_all) ?_ (nx _)
    · exact fun p hp => .tail _ (.tail _ hp)
    · intro z h1 h2 h3
      simp only [List.forall_mem_cons, List.not_mem_nil, false_implies, implies_true, and_true, ne_eq] at h2
      simp only [List.contains_cons, List.contains_nil, Bool.or_false, beq_eq_false_iff_ne, ne_eq] at h3
      simp [h1, h2, h3, kstB]
  · have hq := div_uniq (b := b) (by rw [j3, he]) j4 j5 he0 he1
    obtain ⟨hq1, hq2⟩ := hq
    subst hq1 hq2
    refine ret_i2d hret (by assumption) (by assumption) ?_ ⟨_, t9, tr1, _, _, _, rfl, rfl, T2, by omega⟩
    intro p hp
    simp only [tabLed, List.mem_cons, List.mem_append] at hp ⊢
    grind
end Mine
namespace Mine
open Builtin.Int (intBits)
abbrev outDm (ps1 ps2 : Array Value) (ex rest : Led) (q r : Int) : Value → Led → Prop := fun r' news' => ∃ qa t u ps1' ps2' ex', r' = .ref qa ∧ news' = (qa, tupO [.int q t, .int r u]) :: tabLed ps1' ps2' ex' rest ∧ Tabs ps1' ps2' ex' ∧ @LT.lt Nat _ 37 qa
theorem dm (w : World) (ps1 ps2 : Array Value) (ex rest : Led) (a b q r : Int) (ta tb : Tok) (T : Tabs ps1 ps2 ex) (hr : ∀ p ∈ rest, @LT.lt Nat _ 37 p.1) (ha : 0 < a) (hb : 0 < b) (hb9 : intBits b ≤ 9000) (hba : intBits a ≤ 50000) (hk : intBits a ≤ 200 * intBits b)
    (he : a = q * b + r) (he0 : 0 ≤ r) (he1 : r < b) : Con w 49 300 2400 (tabLed ps1 ps2 ex rest) [.int a ta, .int b tb] (outDm ps1 ps2 ex rest q r) := by
  have Ba := bits_ge ha
  have Bb := bits_ge hb
  have la := lt_bits a
  have lb := lt_bits b
  have hdiv : ((intBits a + intBits b - 1) / intBits b) * intBits b ≤ intBits a + intBits b - 1 := Nat.div_mul_le_self _ _
  have hmod := Nat.mod_lt (intBits a + intBits b - 1) (show 0 < intBits b by omega)
  have hdm := Nat.div_add_mod (intBits a + intBits b - 1) (intBits b)
  have hcomm := Nat.mul_comm (intBits b) ((intBits a + intBits b - 1) / intBits b)
  have hk1 : 1 ≤ (intBits a + intBits b - 1) / intBits b := (Nat.one_le_div_iff (by omega)).mpr (by omega)
  have hk2 : (intBits a + intBits b - 1) / intBits b ≤ 256 := by
    refine Nat.le_of_lt_succ ((Nat.div_lt_iff_lt_mul (by omega)).mpr ?_)
    omega
  have hpow : a < (2 ^ (intBits b : Int).toNat) ^ ((intBits a + intBits b - 1) / intBits b) := by
    rw [← Int.pow_mul, Int.toNat_natCast]
    have := pow_le_of (show intBits a ≤ intBits b * ((intBits a + intBits b - 1) / intBits b) by omega)
    omega
  have f1 : Fdv ((intBits a : Int) + intBits b - 1) (intBits b) ((intBits a + intBits b - 1) / intBits b : Nat) := by
    refine ⟨by omega, PyProof.noPylong_small (by omega), ?_⟩
    rw [Int.fdiv_eq_ediv_of_nonneg _ (by omega), Int.natCast_ediv]
    congr 1
    omega
  exact dm_walk w ps1 ps2 ex rest a b q r _ ta tb T hr hk1 hk2 f1 ha hb (by omega) (by omega) (by omega) hpow he he0 he1 (by rw [Int.toNat_natCast]; exact lb) (by rw [Int.toNat_natCast]; exact Bb.2)
end Mine
namespace Mine
def collS (a b : Str) : Int := b2i (decide (b.cps.toList < a.cps.toList)) - b2i (decide (a.cps.toList < b.cps.toList))
theorem coll (w : World) (news : Led) (a b : Str) (ta tb : Tok) : Con w 56 2 16 news [.str a ta, .str b tb] (outInt news (collS a b)) := by
  unfold Con
  intro p loose mean mg mb dp un gd cn cs a0 ccd cl outer A₀ base h₀ L m s Q E B F X N T hk hdp hun hret
  skip
  w_top off
  k_with_none
  refine wpAny_call ?_
  k_dflt ktr_enter
  ((rename Fr _ _ _ _ => F0'); refine name_fr F0' ?_; clear F0'; intro mE' FE')
  k_steps
  exact hret _ _ _ _ (by assumption) (by assumption) ⟨rfl, _, rfl⟩
theorem told (w : World) (news : Led) (a b : Str) (ta tb : Tok) : Con w 140 4 32 news [.str a ta, .str b tb] (outInt news (collS a b)) := by
  unfold Con
  intro p loose mean mg mb dp un gd cn cs a0 ccd cl outer A₀ base h₀ L m s Q E B F X N T hk hdp hun hret
  skip
  w_top off
  k_with_none
  k_with "call ref" => (k_dflt (refine' con_use (coll w _ _ _ _ _) ?k1 ?k2 ?k3 ?k4 ?k5 ?k6 ?k7 ?k8 ?_; (case k1 => k_asm); (case k2 => k_asm); (case k3 => k_asm); (case k4 => k_asm); (case k5 => k_asm); (case k6 => first | exact rfl | assumption); (case k7 => ktr_room); (case k8 => ktr_units); intro gS9 dS9 oS9 r9 n9 h9 tk9 F9 N9 O9; obtain ⟨m9, t9, e9⟩ := O9; subst e9; subst m9; (try dsimp only); (try k_fold)))
  refine wpAny_call ?_
  k_dflt ktr_enter
  ((rename Fr _ _ _ _ => F0'); refine name_fr F0' ?_; clear F0'; intro mE' FE')
  k_steps
  all_goals exact hret _ _ _ _ (by assumption) (by assumption) ⟨rfl, _, rfl⟩
end Mine
namespace Mine
open PySem.Builtin.Str

/-- the text of these signs -/
abbrev S (l : List Nat) : Str := ⟨l.toArray⟩
/-- x is a letter of a loop's word, not a made text -/
structure TextVar (x : Str) : Prop where
theorem S_eta (x : Str) : x = S x.cps.toList := by cases x; simp [S]
theorem S_var {x : Str} (_ : TextVar x) : x = S x.cps.toList := S_eta x
theorem S_len (l : List Nat) : (S l).length = l.length := by simp [Str.length]
theorem S_line {l : List Nat} (h : l.length ≤ 1000) : (S l).length ≤ sizeLine := by rw [S_len, sizeLine_eq]; omega
theorem S_inj {a b : List Nat} : (S a == S b) = decide (a = b) := by
  by_cases h : a = b
  · subst h; simp
  · have : S a ≠ S b := fun e => h (by injection e with e; simpa using e)
    simp [h, this]
theorem S_app (a b : List Nat) : S a ++ S b = S (a ++ b) := by
  show Str.append _ _ = _
  simp [Str.append]
theorem c_A : Str.ofString "A" = S [65] := by decide +kernel
theorem c_B : Str.ofString "B" = S [66] := by decide +kernel
theorem c_sp : Str.ofString " " = S [32] := by decide +kernel
theorem c_e : Str.ofString "" = S [] := by decide +kernel
theorem c_dot : Str.ofString "." = S [46] := by decide +kernel
theorem c_AB : Str.ofString "AB" = S [65, 66] := by decide +kernel
theorem c_ABs : Str.ofString "AB " = S [65, 66, 32] := by decide +kernel
theorem c_ABsd : Str.ofString "AB ." = S [65, 66, 32, 46] := by decide +kernel
theorem c_Zz : Str.ofString "Zzéж" = S [90, 122, 233, 1078] := by decide +kernel
theorem sl_ss {l : List Nat} {i j : Int} (h0 : 0 ≤ i) (h1 : i ≤ j) (h2 : j ≤ l.length) : Txt.slice (S l) (some i) (some j) = S ((l.drop i.toNat).take (j - i).toNat) := by
  show PySem.StrLaws.sliceText _ _ _ = _
  rw [PySem.StrLaws.sliceText_plain ⟨h0, h1, by simpa using h2⟩]
theorem sl_sn {l : List Nat} {i : Int} (h0 : 0 ≤ i) (h1 : i ≤ l.length) : Txt.slice (S l) (some i) none = S (l.drop i.toNat) := by
  show PySem.StrLaws.sliceText _ _ _ = _
  rw [PySem.StrLaws.sliceText_from ⟨h0, by simpa using h1⟩, List.take_of_length_le (by simp; omega)]
theorem sl_ns {l : List Nat} {j : Int} (h0 : 0 ≤ j) (h1 : j ≤ l.length) : Txt.slice (S l) none (some j) = S (l.take j.toNat) := by
  show PySem.StrLaws.sliceText _ _ _ = _
  rw [PySem.StrLaws.sliceText_to ⟨h0, by simpa using h1⟩]
  simp
theorem sl_last {l : List Nat} (h : 1 ≤ l.length) : Txt.slice (S l) none (some (-1)) = S l.dropLast := by
  show PySem.StrLaws.sliceText _ _ _ = _
  rw [PySem.StrLaws.sliceText_to_neg (by decide) (by rw [S_len]; omega)]
  simp [S_len, List.dropLast_eq_take]
  omega
theorem item_S {l : List Nat} {i : Int} (h0 : 0 ≤ i) (h1 : i < l.length) : PySem.Txt.item (S l) i = S [l.getD i.toNat 0] := by
  have e : (if i < 0 then i + ((S l).length : Int) else i) = i := if_neg (by omega)
  have h2 : (decide (0 ≤ i) && decide (i < ((S l).length : Int))) = true := by rw [S_len]; simp; omega
  unfold PySem.Txt.item PySem.Txt.charAt seqIndex?
  simp only [e]
  rw [if_pos h2]
  simp
theorem mul_S (c : Nat) (k : Nat) : PySem.Txt.mul (S [c]) (k : Int) = S (List.replicate k c) := by
  unfold PySem.Txt.mul
  by_cases h : (k : Int) < 1
  · have : k = 0 := by omega
    subst this
    simp [Str.empty]
  · rw [if_neg h]
    by_cases h1 : k = 1
    · subst h1; simp
    · have : ((k : Int) == 1 || (S [c]).length == 0) = false := by
        simp [Str.length]; omega
      rw [this]
      simp only [Bool.false_eq_true, if_false, Int.toNat_natCast]
      have key : ∀ (n : Nat) (a : Array Nat), (List.replicate n #[c]).foldl (· ++ ·) a = a ++ (List.replicate n c).toArray := by
        intro n
        induction n with
        | zero => intro a; simp
        | succ n ih => intro a; rw [List.replicate_succ, List.foldl_cons, ih, List.replicate_succ]; apply Array.toList_inj.mp; simp
      show (⟨(List.replicate k #[c]).foldl (· ++ ·) #[]⟩ : Str) = _
      rw [key]
      simp
section
variable {w : World} {A : Around} {E : Value → Shared → Prop} {s : Shared} {h₀ : Heap} {L : Addr} {m : Str → Option Value} {news : Led} {value slice : PySem.Expr} {x y z : Str} {t u : Tok} {i j : Int} {ui uj : Tok} {Q : Value → Shared → Prop}
theorem r_item {l : List Nat} (hx : x = S l) (h0 : 0 ≤ i) (h1 : i < l.length) (hl : l.length ≤ 1000) (h : ∀ t', Q (.str (S [l.getD i.toNat 0]) t') { s with toks := s.toks + 1 })
    (hs : subscripted slice false (.str x t) (.int i u) = operate [.str x t, .int i u] (getItem (.str x t) (.int i u)) := by with_unfolding_all rfl)
    (ht : ∀ r, letTemporaryGo value (.str x t) r = pure () := by intro _; with_unfolding_all rfl) :
    wpAny (model PRG w) A (subscriptTail value slice (.str x t) (.int i u)) Q E s := by
  subst hx
  exact KXi.item (S_len l) (by omega) h1 (by omega) (fun _ => by rw [item_S h0 h1]; exact h _) hs ht
theorem r_ss (F : Fr h₀ L s.heap m) (N : News h₀ L s.heap news) (he : Txt.slice x (some i) (some j) = y) (hsz : x.length ≤ sizeLine) (h : ∀ h' t' k, Fr h₀ L h' m → News h₀ L h' news → Q (.str y t') { s with heap := h', toks := k })
    (hs : subscripted slice false (.str x t) (.ref s.heap.objs.size) = operate [.ref s.heap.objs.size, .str x t] (getItem (.str x t) (.ref s.heap.objs.size)) := by with_unfolding_all rfl)
    (ht : ∀ r, letTemporaryGo value (.str x t) r = pure () := by intro _; with_unfolding_all rfl) :
    wpAny (model PRG w) A (subscriptTail value slice (.str x t) (.ref s.heap.objs.size)) Q E { s with heap := s.heap.push { cls := .type "slice", data := .fields #[.int i ui, .int j uj, .none] } } := by
  subst he; exact slice_strN_ss F N h hs ht hsz
theorem r_sn (F : Fr h₀ L s.heap m) (N : News h₀ L s.heap news) (he : Txt.slice x (some i) none = y) (hsz : x.length ≤ sizeLine) (h : ∀ h' t' k, Fr h₀ L h' m → News h₀ L h' news → Q (.str y t') { s with heap := h', toks := k })
    (hs : subscripted slice false (.str x t) (.ref s.heap.objs.size) = operate [.ref s.heap.objs.size, .str x t] (getItem (.str x t) (.ref s.heap.objs.size)) := by with_unfolding_all rfl)
    (ht : ∀ r, letTemporaryGo value (.str x t) r = pure () := by intro _; with_unfolding_all rfl) :
    wpAny (model PRG w) A (subscriptTail value slice (.str x t) (.ref s.heap.objs.size)) Q E { s with heap := s.heap.push { cls := .type "slice", data := .fields #[.int i ui, .none, .none] } } := by
  subst he; exact slice_strN_sn F N h hs ht hsz
theorem r_ns (F : Fr h₀ L s.heap m) (N : News h₀ L s.heap news) (he : Txt.slice x none (some j) = y) (hsz : x.length ≤ sizeLine) (h : ∀ h' t' k, Fr h₀ L h' m → News h₀ L h' news → Q (.str y t') { s with heap := h', toks := k })
    (hs : subscripted slice false (.str x t) (.ref s.heap.objs.size) = operate [.ref s.heap.objs.size, .str x t] (getItem (.str x t) (.ref s.heap.objs.size)) := by with_unfolding_all rfl)
    (ht : ∀ r, letTemporaryGo value (.str x t) r = pure () := by intro _; with_unfolding_all rfl) :
    wpAny (model PRG w) A (subscriptTail value slice (.str x t) (.ref s.heap.objs.size)) Q E { s with heap := s.heap.push { cls := .type "slice", data := .fields #[.none, .int j uj, .none] } } := by
  subst he; exact slice_strN_ns F N h hs ht hsz
theorem r_eqS {a b : List Nat} {c : Bool} (hx : x = S a) (hy : y = S b) (hc : decide (a = b) = c) (h : Q (.bool c) s) : wpAny (model PRG w) A (compareOp .Eq (.str x t) (.str y u)) Q E s := by
  subst hx hy hc
  refine PyProof.Rows.eq_str ?_
  rw [S_inj]
  exact h
theorem r_addS {a b : List Nat} (hx : x = S a) (hy : y = S b) (h1 : a.length ≤ 1000) (h2 : b.length ≤ 1000) (h : ∀ t' tk, Q (.str (S (a ++ b)) t') { s with toks := tk }) : wpAny (model PRG w) A (binaryOp .Add (.str x t) (.str y u)) Q E s := by
  subst hx hy
  refine add_str (fun t' tk => by rw [S_app]; exact h t' tk) ?_
  rw [S_len, S_len, sizeLine_eq]; omega
theorem r_mulS {c : Nat} {k : Nat} (hx : x = S [c]) (hi : i = k) (hk : k ≤ 1000) (h : ∀ t' tk, Q (.str (S (List.replicate k c)) t') { s with toks := tk }) : wpAny (model PRG w) A (binaryOp .Mult (.str x t) (.int i u)) Q E s := by
  subst hx hi
  refine KXi.mul (n := 1) (S_len _) (by decide) (by omega) (by omega) (fun t' k _ _ => ?_)
  rw [mul_S]
  exact h _ _
theorem r_lenS {l : List Nat} (hx : x = S l) (hl : l.length ≤ 1000) (h : Q (.int (l.length : Nat) (s.toks + 1)) { s with toks := s.toks + 1 + 1 }) : wpAny (model PRG w) A (call (.builtin "len") [.str x t]) Q E s := by
  subst hx
  refine PyProof.Rows.len_str (by rw [S_len]; omega) ?_
  rw [S_len]
  exact h
end
end Mine
namespace Mine
structure Pad (l : List Nat) (wh bh : Nat) : Prop where
  h1 : wh + bh < l.length
  h2 : l.length ≤ 1000
  hA : ∀ k < wh, l.getD k 0 = 32
  hB : l.getD wh 0 ≠ 32
  hC : ∀ k, l.length - bh ≤ k → k < l.length → l.getD k 0 = 32
  hD : l.getD (l.length - bh - 1) 0 ≠ 32
theorem pad_cA {l : List Nat} {wh bh : Nat} (h : Pad l wh bh) {k : Int} (h0 : 0 ≤ k) (h1 : k ≤ wh) : decide ([l.getD k.toNat 0] = [32]) = decide (k < wh) := by
  rw [decide_eq_decide]
  constructor
  · intro e
    have e : l.getD k.toNat 0 = 32 := by simpa using e
    have : k ≠ wh := fun q => by
      rw [q, Int.toNat_natCast] at e
      exact h.hB e
    omega
  · intro e
    rw [h.hA _ (by omega)]
theorem pad_cB {l : List Nat} {wh bh : Nat} (h : Pad l wh bh) {k : Int} (h0 : (l.length : Int) - 1 - bh ≤ k) (h1 : k ≤ (l.length : Int) - 1) : decide ([l.getD k.toNat 0] = [32]) = decide ((l.length : Int) - 1 - bh < k) := by
  have := h.h1
  rw [decide_eq_decide]
  constructor
  · intro e
    have e : l.getD k.toNat 0 = 32 := by simpa using e
    have : k ≠ (l.length : Int) - 1 - bh := fun q => by
      rw [q, show ((l.length : Int) - 1 - bh).toNat = l.length - bh - 1 by omega] at e
      exact h.hD e
    omega
  · intro e
    rw [h.hC _ (by omega) (by omega)]
abbrev outStr (news : Led) (x : List Nat) : Value → Led → Prop := fun r news' => news' = news ∧ ∃ t, r = .str (S x) t
theorem ret_str {h₀ h' : Heap} {L : Addr} {m : Str → Option Value} {s : Shared} {Q : Value → Shared → Prop} {news extra : Led} {x x' : List Nat} {t : Tok} {tk' : Nat}
    (hret : ∀ r news' h' tk', Fr h₀ L h' m → News h₀ L h' news' → outStr news x r news' → Q r { s with heap := h', toks := tk' })
    (F : Fr h₀ L h' m) (N : News h₀ L h' extra) (hs : ∀ p ∈ news, p ∈ extra) (e : x' = x) : Q (.str (S x') t) { s with heap := h', toks := tk' } := by
  subst e
  exact hret _ news _ _ F (fun p hp => N p (hs p hp)) ⟨rfl, t, rfl⟩
theorem tk_eq {l : List Nat} {a b c d : Nat} (h1 : a = c) (h2 : b = d) : (l.drop b).take a = (l.drop d).take c := by rw [h1, h2]
theorem pad_low {am wh : Nat} {lp : Int} (h0 : 0 ≤ lp) (h1 : lp ≤ am) (h2 : lp ≤ wh) (h3 : lp = am ∨ lp = wh) : lp.toNat = min am wh := by
  rcases h3 with h3 | h3
  · rw [Nat.min_eq_left (by omega)]; omega
  · rw [Nat.min_eq_right (by omega)]; omega
theorem pad_high {n x bh : Nat} {rp : Int} (h1 : (n : Int) - 1 - rp ≤ (x : Int)) (h2 : (n : Int) - 1 - bh ≤ rp) (h3 : (n : Int) - 1 - rp = (x : Int) ∨ (n : Int) - 1 - bh = rp) : (n : Int) - 1 - rp = ((min x bh : Nat) : Int) := by
  rcases h3 with h3 | h3
  · rw [Nat.min_eq_left (by omega)]; omega
  · rw [Nat.min_eq_right (by omega)]; omega
theorem pad_len {n a b : Nat} {lp rp : Int} (h : a + b ≤ n) (h0 : 0 ≤ lp) (hl : lp.toNat = a) (hr : (n : Int) - 1 - rp = b) : (rp + 1 - lp).toNat = n - b - a := by omega
theorem pad_fits {n wh bh am : Nat} (h : wh + bh < n) : min am wh + min (am - wh) bh ≤ n :=
  Nat.le_trans (Nat.add_le_add (Nat.min_le_right _ _) (Nat.min_le_right _ _)) (Nat.le_of_lt h)
theorem pad_tk {l : List Nat} {a b : Nat} {lp rp : Int} (h : a + b ≤ l.length) (hl : lp.toNat = a) (hr : (l.length : Int) - 1 - rp = b) (h0 : 0 ≤ lp) : (l.drop lp.toNat).take (rp + 1 - lp).toNat = (l.drop a).take (l.length - b - a) := by
  rw [pad_len h h0 hl hr, hl]
theorem strip (w : World) (news : Led) (l : List Nat) (wh bh am : Nat) (ts ta : Tok) (h : Pad l wh bh) (hp : am ≤ 1000) : Con w 63 4 32 news [.str (S l) ts, .int am ta] (outStr news ((l.drop (min am wh)).take (l.length - min (am - wh) bh - min am wh))) := by
  have e1 := h.h1
  have e2 := h.h2
  unfold Con
  intro p loose mean mg mb dp un gd cn cs a0 ccd cl outer A₀ base h₀ L m s Q E B F X N T hk hdp hun hret
  skip
  w_top off
  k_with_none
  k_with "exec While" => k_while (fun (_ : List Int) lpos amount => 0 ≤ lpos ∧ 0 ≤ amount ∧ lpos + amount = (am : Int) ∧ lpos ≤ (wh : Int)) (fun _ _ amount => amount.toNat) "lpos" "amount"
  k_with "exec While" => k_while (fun (_ : List Int) rpos amount => 0 ≤ amount ∧ amount + ((l.length : Int) - 1 - rpos) = ((am - wh : Nat) : Int) ∧ (l.length : Int) - 1 - bh ≤ rpos ∧ rpos ≤ (l.length : Int) - 1) (fun _ _ amount => amount.toNat) "rpos" "amount"
  k_with "subscriptTail" => (first | ((with_reducible show wpAny _ _ (subscriptTail _ _ (Value.str _ _) (Value.int _ _)) _ _ _); k_dflt (refine' r_item ?tqx ?tqa ?tqb ?tqd ?_; (case tqx => with_reducible first | exact c_AB | exact c_ABs | exact c_Zz | exact rfl); (case tqa => first | omega | exact fmod_lo _ (by decide)); (case tqb => first | omega | exact fmod_hi _ (by decide) | (simp only [List.length_cons, List.length_nil]; omega)); (case tqd => first | omega | decide)); intro _) | ((with_reducible show wpAny _ _ (subscriptTail _ (Expr.Slice _ _ _ _) (Value.str _ _) (Value.ref _)) _ _ _); (with_reducible rename Fr _ _ _ _ => F'); (with_reducible rename News _ _ _ _ => N'); (first | (refine r_ss (s := ⟨_, _, _, _, _⟩) F' N' (sl_ss (by omega) (by omega) (by omega)) (S_line (by omega)) ?_) | (refine r_sn (s := ⟨_, _, _, _, _⟩) F' N' (sl_sn (by omega) (by omega)) (S_line (by omega)) ?_) | (refine r_ns (s := ⟨_, _, _, _, _⟩) F' N' (by first | exact sl_ns (by omega) (by omega) | exact sl_last (by omega)) (S_line (by omega)) ?_)); intro _ _ _ _ _))
  k_with "compareOp Eq str str" => (k_dflt (refine' r_eqS ?tqx ?tqy ?tqc ?_; (case tqx => with_reducible first | exact c_A | exact c_B | exact c_sp | exact c_e | exact rfl); (case tqy => with_reducible first | exact c_A | exact c_B | exact c_sp | exact c_e | exact rfl); (case tqc => first | exact pad_cA h (by omega) (by omega) | exact pad_cB h (by omega) (by omega))))
  k_with "binaryOp Add str str" => (k_dflt (refine' r_addS ?tqx ?tqy ?tqa ?tqb ?_; (case tqx => with_reducible first | exact c_e | exact S_var (by assumption) | exact rfl); (case tqy => with_reducible first | exact c_dot | exact rfl); (case tqa => first | omega | decide | (simp only [List.length_cons, List.length_nil, List.length_append, List.length_replicate]; omega)); (case tqb => first | omega | decide | (simp only [List.length_cons, List.length_nil, List.length_append, List.length_replicate]; omega))); intro _ _)
  k_with "binaryOp Mult str int" => (k_dflt (refine' r_mulS ?tqx ?tqi ?tqk ?_; (case tqx => with_reducible exact c_sp); (case tqi => first | assumption | (with_reducible exact rfl)); (case tqk => omega)); intro _ _)
  k_with "call builtin:len" => ((with_reducible show wpAny _ _ (call (Value.builtin "len") [Value.str _ _]) _ _ _); k_dflt (refine' r_lenS ?tqx ?tql ?_; (case tqx => with_reducible first | exact c_e | exact rfl); (case tql => omega)))
  refine wpAny_call ?_
  k_dflt ktr_enter
  ((rename Fr _ _ _ _ => F0'); refine name_fr F0' ?_; clear F0'; intro mE' FE')
  k_steps
  all_goals (
    refine ret_str hret (by assumption) (by assumption) (fun _ h => h) (pad_tk (pad_fits e1) (pad_low ?_ ?_ ?_ ?_) (pad_high ?_ ?_ ?_) ?_)
    all_goals first | omega | (left; omega) | (right; omega))
end Mine
namespace Mine
def Letts (s : Str) : Prop := ∀ c ∈ s.cps.toList, c = 65 ∨ c = 66 ∨ c = 32
abbrev Lett (s : Str) (n : Int) : Prop := (s.cps.toList.length : Int) = n ∧ Letts s ∧ TextVar s
theorem lett_start : Lett (Str.ofString "") 0 := by rw [c_e]; exact ⟨rfl, fun c h => absurd h (by simp), ⟨⟩⟩
theorem get3 (i : Nat) : ([65, 66, 32].getD i 0 = 65 ∨ [65, 66, 32].getD i 0 = 66 ∨ [65, 66, 32].getD i 0 = 32) ∨ 3 ≤ i := by
  match i with
  | 0 => simp
  | 1 => simp
  | 2 => simp
  | n + 3 => exact .inr (by omega)
theorem lett_turn {x : Str} {n n' i : Int} (h : (x.cps.toList.length : Int) = n) (h' : Letts x) (hn : n' = n + 1) (h0 : 0 ≤ i) (h1 : i < 3) : Lett (S (x.cps.toList ++ [[65, 66, 32].getD i.toNat 0])) n' := by
  refine ⟨?_, fun c hc => ?_, ⟨⟩⟩
  · simp at h ⊢; omega
  · simp only [List.mem_append, List.mem_singleton] at hc
    rcases hc with hc | hc
    · exact h' c hc
    · subst hc
      rcases get3 i.toNat with h | h
      · exact h
      · omega
/-- a word: letters, the last one A or B -/
def Word (wd : List Nat) : Prop := ∃ ini c, wd = ini ++ [c] ∧ (∀ x ∈ ini, x = 65 ∨ x = 66 ∨ x = 32) ∧ (c = 65 ∨ c = 66)
theorem word_of {x : Str} {i : Int} (h : Letts x) (h0 : 0 ≤ i) (h1 : i < 2) : Word (x.cps.toList ++ [[65, 66].getD i.toNat 0]) := by
  refine ⟨_, _, rfl, h, ?_⟩
  have : i = 0 ∨ i = 1 := by omega
  rcases this with rfl | rfl <;> simp
theorem word (w : World) (news : Led) (b : Int) (tb : Tok) : Con w 112 4 32 news [.int b tb] (fun r news' => news' = news ∧ ∃ wd t, r = .str (S wd) t ∧ Word wd ∧ wd.length ≤ 4) := by
  have hF : ∀ k : Nat, k ≤ 3 → Fdv b (3 ^ k) (b.fdiv (3 ^ k)) := fun k hk => by
    have : k = 0 ∨ k = 1 ∨ k = 2 ∨ k = 3 := by omega
    rcases this with rfl | rfl | rfl | rfl <;> exact ⟨by decide, PyProof.noPylong_small (by decide), rfl⟩
  have hm0 : 0 ≤ (b.fdiv 54).fmod 4 := fmod_lo _ (by decide)
  have hm1 : (b.fdiv 54).fmod 4 < 4 := fmod_hi _ (by decide)
  have hl9 := rangeKs_length 0 ((b.fdiv 54).fmod 4 - 0).toNat
  unfold Con
  intro p loose mean mg mb dp un gd cn cs a0 ccd cl outer A₀ base h₀ L m s Q E B F X N T hk hdp hun hret
  skip
  w_top off
  k_with_none
  k_with "pyIter ref" => k_dflt (k_state (fun pre x => (x.cps.toList.length : Int) = (pre.length : Int) ∧ Letts x ∧ TextVar x) "word")
  k_with "state" => (first | exact lett_start | exact lett_turn (by assumption) (by assumption) (by simp) (fmod_lo _ (by decide)) (fmod_hi _ (by decide)))
  k_with "binaryOp FloorDiv int int" => (k_dflt (refine' r_fdiv (hF _ (by omega)) ?_))
  k_with "subscriptTail" => (first | ((with_reducible show wpAny _ _ (subscriptTail _ _ (Value.str _ _) (Value.int _ _)) _ _ _); k_dflt (refine' r_item ?tqx ?tqa ?tqb ?tqd ?_; (case tqx => with_reducible first | exact c_AB | exact c_ABs | exact c_Zz | exact rfl); (case tqa => first | omega | exact fmod_lo _ (by decide)); (case tqb => first | omega | exact fmod_hi _ (by decide) | (simp only [List.length_cons, List.length_nil]; omega)); (case tqd => first | omega | decide)); intro _) | ((with_reducible show wpAny _ _ (subscriptTail _ (Expr.Slice _ _ _ _) (Value.str _ _) (Value.ref _)) _ _ _); (with_reducible rename Fr _ _ _ _ => F'); (with_reducible rename News _ _ _ _ => N'); (first | (refine r_ss (s := ⟨_, _, _, _, _⟩) F' N' (sl_ss (by omega) (by omega) (by omega)) (S_line (by omega)) ?_) | (refine r_sn (s := ⟨_, _, _, _, _⟩) F' N' (sl_sn (by omega) (by omega)) (S_line (by omega)) ?_) | (refine r_ns (s := ⟨_, _, _, _, _⟩) F' N' (by first | exact sl_ns (by omega) (by omega) | exact sl_last (by omega)) (S_line (by omega)) ?_)); intro _ _ _ _ _))
  k_with "compareOp Eq str str" => (k_dflt (refine' r_eqS ?tqx ?tqy ?tqc ?_; (case tqx => with_reducible first | exact c_A | exact c_B | exact c_sp | exact c_e | exact rfl); (case tqy => with_reducible first | exact c_A | exact c_B | exact c_sp | exact c_e | exact rfl); (case tqc => first | fail)))
  k_with "binaryOp Add str str" => (k_dflt (refine' r_addS ?tqx ?tqy ?tqa ?tqb ?_; (case tqx => with_reducible first | exact c_e | exact S_var (by assumption) | exact rfl); (case tqy => with_reducible first | exact c_dot | exact rfl); (case tqa => first | omega | decide | (simp only [List.length_cons, List.length_nil, List.length_append, List.length_replicate]; omega)); (case tqb => first | omega | decide | (simp only [List.length_cons, List.length_nil, List.length_append, List.length_replicate]; omega))); intro _ _)
  k_with "binaryOp Mult str int" => (k_dflt (refine' r_mulS ?tqx ?tqi ?tqk ?_; (case tqx => with_reducible exact c_sp); (case tqi => first | assumption | (with_reducible exact rfl)); (case tqk => omega)); intro _ _)
  k_with "call builtin:len" => ((with_reducible show wpAny _ _ (call (Value.builtin "len") [Value.str _ _]) _ _ _); k_dflt (refine' r_lenS ?tqx ?tql ?_; (case tqx => with_reducible first | exact c_e | exact rfl); (case tql => omega)))
  refine wpAny_call ?_
  k_dflt ktr_enter
  ((rename Fr _ _ _ _ => F0'); refine name_fr F0' ?_; clear F0'; intro mE' FE')
  k_steps
  exact hret _ _ _ _ (by assumption) (by assumption) ⟨rfl, _, _, rfl, word_of (by assumption) (fmod_lo _ (by decide)) (fmod_hi _ (by decide)), by rw [List.length_append, List.length_singleton]; omega⟩
end Mine
namespace Mine
open Builtin.Int (intBits)
theorem add_c (w : World) (news : Led) (a b : Int) (ta tb : Tok) : Con w 70 2 16 news [.int a ta, .int b tb] (outInt news (a + b)) := by
  unfold Con
  intro p loose mean mg mb dp un gd cn cs a0 ccd cl outer A₀ base h₀ L m s Q E B F X N T hk hdp hun hret
  skip
  w_top off
  k_with_none
  refine wpAny_call ?_
  k_dflt ktr_enter
  ((rename Fr _ _ _ _ => F0'); refine name_fr F0' ?_; clear F0'; intro mE' FE')
  k_steps
  exact hret _ _ _ _ (by assumption) (by assumption) ⟨rfl, _, rfl⟩
theorem neg_c (w : World) (news : Led) (a : Int) (ta : Tok) : Con w 91 2 16 news [.int a ta] (outInt news (-a)) := by
  unfold Con
  intro p loose mean mg mb dp un gd cn cs a0 ccd cl outer A₀ base h₀ L m s Q E B F X N T hk hdp hun hret
  skip
  w_top off
  k_with_none
  refine wpAny_call ?_
  k_dflt ktr_enter
  ((rename Fr _ _ _ _ => F0'); refine name_fr F0' ?_; clear F0'; intro mE' FE')
  k_steps
  exact hret _ _ _ _ (by assumption) (by assumption) ⟨rfl, _, rfl⟩
theorem isub_c (w : World) (news : Led) (a b : Int) (ta tb : Tok) : Con w 98 2 16 news [.int a ta, .int b tb] (outInt news (a - b)) := by
  unfold Con
  intro p loose mean mg mb dp un gd cn cs a0 ccd cl outer A₀ base h₀ L m s Q E B F X N T hk hdp hun hret
  skip
  w_top off
  k_with_none
  refine wpAny_call ?_
  k_dflt ktr_enter
  ((rename Fr _ _ _ _ => F0'); refine name_fr F0' ?_; clear F0'; intro mE' FE')
  k_steps
  exact hret _ _ _ _ (by assumption) (by assumption) ⟨rfl, _, rfl⟩
theorem lsh_c (w : World) (news : Led) (a b v : Int) (ta tb : Tok) (f : Shl a b v) : Con w 77 2 16 news [.int a ta, .int b tb] (outInt news v) := by
  unfold Con
  intro p loose mean mg mb dp un gd cn cs a0 ccd cl outer A₀ base h₀ L m s Q E B F X N T hk hdp hun hret
  skip
  w_top off
  k_with_none
  refine wpAny_call ?_
  k_dflt ktr_enter
  ((rename Fr _ _ _ _ => F0'); refine name_fr F0' ?_; clear F0'; intro mE' FE')
  k_steps
  exact hret _ _ _ _ (by assumption) (by assumption) ⟨rfl, _, rfl⟩
theorem mul_c (w : World) (news : Led) (a b v : Int) (ta tb : Tok) (f : Mul a b v) : Con w 84 2 16 news [.int a ta, .int b tb] (outInt news v) := by
  unfold Con
  intro p loose mean mg mb dp un gd cn cs a0 ccd cl outer A₀ base h₀ L m s Q E B F X N T hk hdp hun hret
  skip
  w_top off
  k_with_none
  refine wpAny_call ?_
  k_dflt ktr_enter
  ((rename Fr _ _ _ _ => F0'); refine name_fr F0' ?_; clear F0'; intro mE' FE')
  k_steps
  exact hret _ _ _ _ (by assumption) (by assumption) ⟨rfl, _, rfl⟩
/-- the bound of all numbers -/
def BB : Int := 2 ^ 30000
theorem BB_pos : 0 < BB := kbt_pos _
theorem bitsAbs {x : Int} {k : Nat} (h0 : -(2 ^ k : Int) < x) (h : x < 2 ^ k) : intBits x ≤ k := by
  refine intBits_le_iff.mpr ?_
  have e : ((2 ^ k : Nat) : Int) = (2 : Int) ^ k := kbt_cast k
  omega
theorem BB_bits {x : Int} (h0 : -(8 * BB) < x) (h1 : x < 8 * BB) : intBits x ≤ 30003 := by
  have e : (8 * BB : Int) = 2 ^ 30003 := by
    unfold BB
    rw [show (30003 : Nat) = 30000 + 3 from rfl, Int.pow_add]
    generalize (2 : Int) ^ 30000 = X
    omega
  exact bitsAbs (by rw [← e]; exact h0) (by rw [← e]; exact h1)
theorem shl1 {x : Int} (h0 : -(8 * BB) < x) (h1 : x < 8 * BB) : Shl x 1 (2 * x) := by
  have := mk_shl (a := x) (n := 1) (k := 30003) (by omega) (by omega) (BB_bits h0 h1) (by omega)
  rwa [show x * 2 ^ (1 : Int).toNat = 2 * x from by rw [show (2 : Int) ^ (1 : Int).toNat = 2 from rfl]; omega] at this
theorem shl2 {x : Int} (h0 : -(8 * BB) < x) (h1 : x < 8 * BB) : Shl x 2 (4 * x) := by
  have := mk_shl (a := x) (n := 2) (k := 30003) (by omega) (by omega) (BB_bits h0 h1) (by omega)
  rwa [show x * 2 ^ (2 : Int).toNat = 4 * x from by rw [show (2 : Int) ^ (2 : Int).toNat = 4 from rfl]; omega] at this
theorem mulB {x y : Int} (h0 : -(8 * BB) < x) (h1 : x < 8 * BB) (h2 : -(8 * BB) < y) (h3 : y < 8 * BB) : Mul x y (x * y) := mk_mul (BB_bits h0 h1) (BB_bits h2 h3) (by omega)
end Mine
namespace Mine
open Builtin.Int (intBits)
def Ltrs (wd : List Nat) : Prop := ∀ c ∈ wd, c = 65 ∨ c = 66 ∨ c = 32
theorem Word.ltrs {wd : List Nat} (h : Word wd) : Ltrs wd := by
  obtain ⟨ini, c, rfl, h1, h2⟩ := h
  intro x hx
  rcases List.mem_append.mp hx with hx | hx
  · exact h1 x hx
  · rw [List.mem_singleton.mp hx]; omega
def pairL (T : Int) : List Nat → Int × Int
  | [] => (T, 1)
  | c :: r => let q := pairL T r; if c = 65 then (2 * q.1 - q.2, q.1) else if c = 66 then (2 * q.1 + q.2, q.1) else (q.1 + 2 * q.2, q.2)
theorem pair_pos {T : Int} (hT : 2 ≤ T) : ∀ w, 0 < (pairL T w).2 ∧ (pairL T w).2 < (pairL T w).1
  | [] => ⟨by show (0 : Int) < 1; decide, by show 1 < T; omega⟩
  | c :: r => by
    have ih := pair_pos hT r
    rw [pairL]
    split
    · dsimp only; omega
    · split <;> (dsimp only; omega)
theorem pair_le {T : Int} (hT : 2 ≤ T) : ∀ w, (pairL T w).1 ≤ 3 ^ w.length * T
  | [] => by show T ≤ 1 * T; omega
  | c :: r => by
    have ih := pair_le hT r
    have hp := pair_pos hT r
    have e : (3 : Int) ^ (c :: r).length * T = 3 * (3 ^ r.length * T) := by rw [List.length_cons, Int.pow_succ]; grind
    rw [e, pairL]
    split
    · dsimp only; omega
    · split <;> (dsimp only; omega)
/-- the limit of far's double -/
structure TopOk (T : Int) : Prop where
  lo : 18 ≤ T
  hi : T ≤ 2 ^ 4400
theorem pair_small {T : Int} (hT : TopOk T) {w : List Nat} (hw : w.length ≤ 8) : (pairL T w).1 ≤ 2 ^ 4413 := by
  have h1 := pair_le (T := T) (by have := hT.lo; omega) w
  have h2 : (3 : Int) ^ w.length ≤ 3 ^ 8 := by
    have := Nat.pow_le_pow_right (n := 3) (by decide) hw
    exact_mod_cast this
  have h3 : (3 : Int) ^ w.length * T ≤ 3 ^ 8 * T := Int.mul_le_mul_of_nonneg_right h2 (by have := hT.lo; omega)
  have h4 := hT.hi
  have e : (2 : Int) ^ 4413 = 8192 * 2 ^ 4400 := by
    rw [show (4413 : Nat) = 4400 + 13 from rfl, Int.pow_add]
    generalize (2 : Int) ^ 4400 = X
    omega
  rw [e]
  generalize (2 : Int) ^ 4400 = X at *
  have : (3 : Int) ^ 8 = 6561 := rfl
  omega
theorem mul_small {x y : Int} {i j : Nat} (h0 : 0 ≤ x) (h1 : x ≤ 2 ^ i) (h2 : 0 ≤ y) (h3 : y ≤ 2 ^ j) : 0 ≤ x * y ∧ x * y ≤ 2 ^ (i + j) := by
  refine ⟨Int.mul_nonneg h0 h2, ?_⟩
  rw [Int.pow_add]
  exact Int.mul_le_mul h1 h3 h2 (Int.le_of_lt (kbt_pos i))
theorem BB_ge {k : Nat} (h : k ≤ 30000) : (2 : Int) ^ k ≤ BB := pow_le_of h
abbrev sd1 (q : Int × Int) : Int := q.1 * q.1 - q.2 * q.2
abbrev sd2 (q : Int × Int) : Int := 2 * (q.1 * q.2)
abbrev sd3 (q : Int × Int) : Int := q.1 * q.1 + q.2 * q.2
structure SdB (q : Int × Int) : Prop where
  a0 : 0 ≤ sd1 q
  a1 : sd1 q ≤ BB
  b0 : 0 ≤ sd2 q
  b1 : sd2 q ≤ BB
  c0 : 0 ≤ sd3 q
  c1 : sd3 q ≤ BB
theorem sd_bound {T : Int} (hT : TopOk T) {w : List Nat} (hw : w.length ≤ 8) : SdB (pairL T w) := by
  have hp := pair_pos (T := T) (by have := hT.lo; omega) w
  have hs := pair_small hT hw
  have h1 := mul_small (x := (pairL T w).1) (y := (pairL T w).1) (i := 4413) (j := 4413) (by omega) hs (by omega) hs
  have h2 := mul_small (x := (pairL T w).1) (y := (pairL T w).2) (i := 4413) (j := 4413) (by omega) hs (by omega) (by omega)
  have h3 := mul_small (x := (pairL T w).2) (y := (pairL T w).2) (i := 4413) (j := 4413) (by omega) (by omega) (by omega) (by omega)
  have h4 : (pairL T w).2 * (pairL T w).2 ≤ (pairL T w).1 * (pairL T w).1 := Int.mul_le_mul (by omega) (by omega) (by omega) (by omega)
  have h5 : (2 : Int) * 2 ^ (4413 + 4413) ≤ BB := by
    have := BB_ge (k := 4413 + 4413 + 1) (by decide)
    rw [Int.pow_succ] at this
    omega
  generalize (2 : Int) ^ (4413 + 4413) = X at *
  constructor <;> simp only [sd1, sd2, sd3] <;> omega

abbrev SdP (T : Int) (wd : List Nat) (k : Nat) (one two slant : Int) : Prop :=
  one = sd1 (pairL T (wd.drop (wd.length - k))) ∧ two = sd2 (pairL T (wd.drop (wd.length - k))) ∧ slant = sd3 (pairL T (wd.drop (wd.length - k))) ∧ 0 ≤ one ∧ one ≤ BB ∧ 0 ≤ two ∧ two ≤ BB ∧ 0 ≤ slant ∧ slant ≤ BB
theorem sd_make {T : Int} (hT : TopOk T) {wd : List Nat} (hw : wd.length ≤ 8) {k : Nat} {a b c : Int} (h1 : a = sd1 (pairL T (wd.drop (wd.length - k)))) (h2 : b = sd2 (pairL T (wd.drop (wd.length - k)))) (h3 : c = sd3 (pairL T (wd.drop (wd.length - k)))) : SdP T wd k a b c := by
  have B := sd_bound hT (w := wd.drop (wd.length - k)) (by rw [List.length_drop]; omega)
  exact ⟨h1, h2, h3, h1 ▸ B.a0, h1 ▸ B.a1, h2 ▸ B.b0, h2 ▸ B.b1, h3 ▸ B.c0, h3 ▸ B.c1⟩
theorem sd_start {T : Int} (hT : TopOk T) {wd : List Nat} (hw : wd.length ≤ 8) : SdP T wd 0 (T * T - 1) (2 * T) (T * T + 1) := by
  have e : pairL T (wd.drop (wd.length - 0)) = (T, 1) := by rw [Nat.sub_zero, List.drop_length]; rfl
  exact sd_make hT hw (by rw [e]; show _ = T * T - 1 * 1; omega) (by rw [e]; simp only [sd2]; omega) (by rw [e]; show _ = T * T + 1 * 1; omega)
theorem drop_next {wd : List Nat} {k : Nat} (hk : k < wd.length) : wd.drop (wd.length - (k + 1)) = wd.getD ((wd.length : Int) - 1 - k).toNat 0 :: wd.drop (wd.length - k) := by
  rw [List.drop_eq_getElem_cons (by omega), show wd.length - (k + 1) + 1 = wd.length - k from by omega]
  congr 1
  rw [List.getD_eq_getElem?_getD, show ((wd.length : Int) - 1 - k).toNat = wd.length - (k + 1) from by omega, List.getElem?_eq_getElem (by omega)]
  rfl
theorem dec_in {a b : Nat} : decide ([a] = [b]) = decide (a = b) := by simp
section
variable {T : Int} {wd : List Nat} {k k' : Nat} {a b c i : Int}
theorem sd_A (hT : TopOk T) (hw : wd.length ≤ 8) (hk : k < wd.length) (h1 : a = sd1 (pairL T (wd.drop (wd.length - k)))) (h2 : b = sd2 (pairL T (wd.drop (wd.length - k)))) (h3 : c = sd3 (pairL T (wd.drop (wd.length - k)))) (e : k' = k + 1) (hi : i = (wd.length : Int) - 1 - k) (hc : wd.getD i.toNat 0 = 65) :
    SdP T wd k' (2 * (a + -b + c) - a) (2 * (a + -b + c) - -b) (2 * (a + -b + c) + c) := by
  subst e hi
  have e2 := drop_next hk
  rw [hc] at e2
  have e3 : pairL T (wd.drop (wd.length - (k + 1))) = (2 * (pairL T (wd.drop (wd.length - k))).1 - (pairL T (wd.drop (wd.length - k))).2, (pairL T (wd.drop (wd.length - k))).1) := by rw [e2, pairL]; rfl
  subst h1 h2 h3
  generalize pairL T (wd.drop (wd.length - k)) = q at *
  refine sd_make hT hw ?_ ?_ ?_ <;> rw [e3] <;> simp only [sd1, sd2, sd3] <;> grind
theorem sd_S (hT : TopOk T) (hw : wd.length ≤ 8) (hk : k < wd.length) (h1 : a = sd1 (pairL T (wd.drop (wd.length - k)))) (h2 : b = sd2 (pairL T (wd.drop (wd.length - k)))) (h3 : c = sd3 (pairL T (wd.drop (wd.length - k)))) (e : k' = k + 1) (hi : i = (wd.length : Int) - 1 - k) (hc : wd.getD i.toNat 0 = 32) :
    SdP T wd k' (2 * (-a + b + c) - -a) (2 * (-a + b + c) - b) (2 * (-a + b + c) + c) := by
  subst e hi
  have e2 := drop_next hk
  rw [hc] at e2
  have e3 : pairL T (wd.drop (wd.length - (k + 1))) = ((pairL T (wd.drop (wd.length - k))).1 + 2 * (pairL T (wd.drop (wd.length - k))).2, (pairL T (wd.drop (wd.length - k))).2) := by rw [e2, pairL]; rfl
  subst h1 h2 h3
  generalize pairL T (wd.drop (wd.length - k)) = q at *
  refine sd_make hT hw ?_ ?_ ?_ <;> rw [e3] <;> simp only [sd1, sd2, sd3] <;> grind
theorem sd_Bl (hT : TopOk T) (hw : wd.length ≤ 8) (hl : Ltrs wd) (hk : k < wd.length) (h1 : a = sd1 (pairL T (wd.drop (wd.length - k)))) (h2 : b = sd2 (pairL T (wd.drop (wd.length - k)))) (h3 : c = sd3 (pairL T (wd.drop (wd.length - k)))) (e : k' = k + 1) (hi : i = (wd.length : Int) - 1 - k) (hc : ¬ wd.getD i.toNat 0 = 65) (hc' : ¬ wd.getD i.toNat 0 = 32) :
    SdP T wd k' (2 * (a + b + c) - a) (2 * (a + b + c) - b) (2 * (a + b + c) + c) := by
  subst e hi
  have e2 := drop_next hk
  have hm : wd.getD ((wd.length : Int) - 1 - k).toNat 0 ∈ wd := List.mem_of_mem_drop (i := wd.length - (k + 1)) (by rw [e2]; exact .head _)
  have h66 : wd.getD ((wd.length : Int) - 1 - k).toNat 0 = 66 := by
    rcases hl _ hm with h | h | h
    · exact absurd h hc
    · exact h
    · exact absurd h hc'
  rw [h66] at e2
  have e3 : pairL T (wd.drop (wd.length - (k + 1))) = (2 * (pairL T (wd.drop (wd.length - k))).1 + (pairL T (wd.drop (wd.length - k))).2, (pairL T (wd.drop (wd.length - k))).1) := by rw [e2, pairL]; rfl
  subst h1 h2 h3
  generalize pairL T (wd.drop (wd.length - k)) = q at *
  refine sd_make hT hw ?_ ?_ ?_ <;> rw [e3] <;> simp only [sd1, sd2, sd3] <;> grind
end
end Mine
namespace Mine
/-- the walk stops here -/
def Stop (P : Prop) : Prop := P
theorem stop_here {P : Prop} (h : Stop P) : P := h
theorem stop_go {P : Prop} (h : P) : Stop P := h
theorem fr_same {h₀ h : Heap} {L : Addr} {m : Str → Option Value} {x : Str} {v : Value} (F : Fr h₀ L h m) (hx : m x = some v) : Fr h₀ L h (fun y => if y = x then some v else m y) := by
  have e : (fun y => if y = x then some v else m y) = m := by
    funext y
    by_cases hy : y = x
    · subst hy; rw [if_pos rfl]; exact hx.symm
    · rw [if_neg hy]
  rw [e]
  exact F
abbrev JEnd (h₀ : Heap) (L : Addr) (x : Str) (m : Str → Option Value) (news : Led) (C : Int → Prop) (s : Shared) (fl : Flow) (s' : Shared) : Prop :=
  Stop (fl = .next ∧ ∃ v t h tk, C v ∧ s' = ⟨h, s.gens, s.drawn, tk, s.os⟩ ∧ Fr h₀ L h (fun y => if y = x then some (.int v t) else m y) ∧ News h₀ L h news)
/-- the ways through a statement that stores one int meet behind it -/
theorem join_int {w : World} {A : Around} {E : Value → Shared → Prop} {s : Shared} {st : Stmt} {env : Env} {h₀ : Heap} {L : Addr} {m : Str → Option Value} {news : Led} {Q : Flow → Shared → Prop} (x : Str) (C : Int → Prop) (_F : Fr h₀ L s.heap m) (_N : News h₀ L s.heap news)
    (run : wpAny (model PRG w) A (exec st env) (JEnd h₀ L x m news C s) E s)
    (cont : ∀ v t h tk, C v → Fr h₀ L h (fun y => if y = x then some (.int v t) else m y) → News h₀ L h news → Q .next ⟨h, s.gens, s.drawn, tk, s.os⟩) : wpAny (model PRG w) A (exec st env) Q E s :=
  wpAny_mono run (fun fl s' h => by
    obtain ⟨rfl, v, t, h', tk, hC, rfl, F', N'⟩ := h
    exact cont v t h' tk hC F' N') fun _ _ e => e
end Mine
namespace Mine
open Builtin.Int (intBits)
theorem rk_end {wd : List Nat} : wd.drop (wd.length - (rangeKs 0 ((wd.length : Int) - 0).toNat).length) = wd := by
  rw [rangeKs_length, show ((wd.length : Int) - 0).toNat = wd.length by omega, Nat.sub_self, List.drop_zero]
theorem sides (w : World) (news : Led) (wd : List Nat) (far : Int) (tw tf : Tok) (hT : TopOk (2 * far + 2)) (hw : wd.length ≤ 8) (hl : Ltrs wd) :
    Con w 119 8 64 news [.str (S wd) tw, .int far tf] (fun r news' => ∃ D t1 t2 t3, r = .ref D ∧ news' = (D, lstO [.int (sd1 (pairL (2 * far + 2) wd)) t1, .int (sd2 (pairL (2 * far + 2) wd)) t2, .int (sd3 (pairL (2 * far + 2) wd)) t3]) :: news ∧ ∀ p ∈ news, p.1 < D) := by
  have hB := BB_pos
  have hB2 := BB_ge (k := 4400) (by decide)
  have hT1 := hT.lo
  have hT2 := hT.hi
  have f1 : Mul 2 far (2 * far) := mulB (by omega) (by omega) (by omega) (by omega)
  have f2 : Mul (2 * far + 2) (2 * far + 2) ((2 * far + 2) * (2 * far + 2)) := mulB (by omega) (by omega) (by omega) (by omega)
  have f3 : Mul 2 (2 * far + 2) (2 * (2 * far + 2)) := mulB (by omega) (by omega) (by omega) (by omega)
  clear hB2 hT1 hT2
  unfold Con
  intro p loose mean mg mb dp un gd cn cs a0 ccd cl outer A₀ base h₀ L m s Q E B F X N T hk hdp hun hret
  skip
  w_top off
  k_with_none
  k_with "pyIter ref" => k_dflt (k_state (fun pre one two slant => one = sd1 (pairL (2 * far + 2) (wd.drop (wd.length - pre.length))) ∧ two = sd2 (pairL (2 * far + 2) (wd.drop (wd.length - pre.length))) ∧ slant = sd3 (pairL (2 * far + 2) (wd.drop (wd.length - pre.length))) ∧ 0 ≤ one ∧ one ≤ BB ∧ 0 ≤ two ∧ two ≤ BB ∧ 0 ≤ slant ∧ slant ≤ BB) "one" "two" "slant")
  k_with "InvEndN" => k_dflt (kst_close)
  k_with "state" => k_dflt (first | ((with_reducible refine sd_A (k := kPre.length) (i := (wd.length : Int) - 1 - kN) hT hw ?_ ?_ ?_ ?_ ?_ ?_ ?_) <;> first | (with_reducible assumption) | omega | (simp; done)) | ((with_reducible refine sd_S (k := kPre.length) (i := (wd.length : Int) - 1 - kN) hT hw ?_ ?_ ?_ ?_ ?_ ?_ ?_) <;> first | (with_reducible assumption) | omega | (simp; done)) | ((with_reducible refine sd_Bl (k := kPre.length) (i := (wd.length : Int) - 1 - kN) hT hw hl ?_ ?_ ?_ ?_ ?_ ?_ ?_ ?_) <;> first | (with_reducible assumption) | omega | (simp; done)) | (exact sd_start hT hw))
  k_with "call ref" => (k_dflt (first | (refine' con_use (add_c w _ _ _ _ _) ?k1 ?k2 ?k3 ?k4 ?k5 ?k6 ?k7 ?k8 ?_; (case k1 => k_asm); (case k2 => k_asm); (case k3 => k_asm); (case k4 => k_asm); (case k5 => k_asm); (case k6 => first | exact rfl | assumption); (case k7 => ktr_room); (case k8 => ktr_units); intro gS9 dS9 oS9 r9 n9 h9 tk9 F9 N9 O9; obtain ⟨m9, t9, e9⟩ := O9; subst e9; subst m9; (try dsimp only); (try k_fold)) | (refine' con_use (neg_c w _ _ _) ?k1 ?k2 ?k3 ?k4 ?k5 ?k6 ?k7 ?k8 ?_; (case k1 => k_asm); (case k2 => k_asm); (case k3 => k_asm); (case k4 => k_asm); (case k5 => k_asm); (case k6 => first | exact rfl | assumption); (case k7 => ktr_room); (case k8 => ktr_units); intro gS9 dS9 oS9 r9 n9 h9 tk9 F9 N9 O9; obtain ⟨m9, t9, e9⟩ := O9; subst e9; subst m9; (try dsimp only); (try k_fold)) | (refine' con_use (isub_c w _ _ _ _ _) ?k1 ?k2 ?k3 ?k4 ?k5 ?k6 ?k7 ?k8 ?_; (case k1 => k_asm); (case k2 => k_asm); (case k3 => k_asm); (case k4 => k_asm); (case k5 => k_asm); (case k6 => first | exact rfl | assumption); (case k7 => ktr_room); (case k8 => ktr_units); intro gS9 dS9 oS9 r9 n9 h9 tk9 F9 N9 O9; obtain ⟨m9, t9, e9⟩ := O9; subst e9; subst m9; (try dsimp only); (try k_fold)) | (refine' con_use (lsh_c w _ _ _ _ _ _ (by first | assumption | exact shl1 (by omega) (by omega) | exact shl2 (by omega) (by omega))) ?k1 ?k2 ?k3 ?k4 ?k5 ?k6 ?k7 ?k8 ?_; (case k1 => k_asm); (case k2 => k_asm); (case k3 => k_asm); (case k4 => k_asm); (case k5 => k_asm); (case k6 => first | exact rfl | assumption); (case k7 => ktr_room); (case k8 => ktr_units); intro gS9 dS9 oS9 r9 n9 h9 tk9 F9 N9 O9; obtain ⟨m9, t9, e9⟩ := O9; subst e9; subst m9; (try dsimp only); (try k_fold)) | (refine' con_use (mul_c w _ _ _ _ _ _ (by first | assumption | exact mulB (by omega) (by omega) (by omega) (by omega))) ?k1 ?k2 ?k3 ?k4 ?k5 ?k6 ?k7 ?k8 ?_; (case k1 => k_asm); (case k2 => k_asm); (case k3 => k_asm); (case k4 => k_asm); (case k5 => k_asm); (case k6 => first | exact rfl | assumption); (case k7 => ktr_room); (case k8 => ktr_units); intro gS9 dS9 oS9 r9 n9 h9 tk9 F9 N9 O9; obtain ⟨m9, t9, e9⟩ := O9; subst e9; subst m9; (try dsimp only); (try k_fold))))
  k_with "subscriptTail" => (first | ((with_reducible show wpAny _ _ (subscriptTail _ _ (Value.str _ _) (Value.int _ _)) _ _ _); k_dflt (refine' r_item ?tqx ?tqa ?tqb ?tqd ?_; (case tqx => with_reducible first | exact c_AB | exact c_ABs | exact c_Zz | exact rfl); (case tqa => first | omega | exact fmod_lo _ (by decide)); (case tqb => first | omega | exact fmod_hi _ (by decide) | (simp only [List.length_cons, List.length_nil]; omega)); (case tqd => first | omega | decide)); intro _) | ((with_reducible show wpAny _ _ (subscriptTail _ (Expr.Slice _ _ _ _) (Value.str _ _) (Value.ref _)) _ _ _); (with_reducible rename Fr _ _ _ _ => F'); (with_reducible rename News _ _ _ _ => N'); (first | (refine r_ss (s := ⟨_, _, _, _, _⟩) F' N' (sl_ss (by omega) (by omega) (by omega)) (S_line (by omega)) ?_) | (refine r_sn (s := ⟨_, _, _, _, _⟩) F' N' (sl_sn (by omega) (by omega)) (S_line (by omega)) ?_) | (refine r_ns (s := ⟨_, _, _, _, _⟩) F' N' (by first | exact sl_ns (by omega) (by omega) | exact sl_last (by omega)) (S_line (by omega)) ?_)); intro _ _ _ _ _))
  k_with "compareOp Eq str str" => (k_dflt (refine' r_eqS ?tqx ?tqy ?tqc ?_; (case tqx => with_reducible first | exact c_A | exact c_B | exact c_sp | exact c_e | exact rfl); (case tqy => with_reducible first | exact c_A | exact c_B | exact c_sp | exact c_e | exact rfl); (case tqc => first | exact dec_in)))
  k_with "binaryOp Add str str" => (k_dflt (refine' r_addS ?tqx ?tqy ?tqa ?tqb ?_; (case tqx => with_reducible first | exact c_e | exact S_var (by assumption) | exact rfl); (case tqy => with_reducible first | exact c_dot | exact rfl); (case tqa => first | omega | decide | (simp only [List.length_cons, List.length_nil, List.length_append, List.length_replicate]; omega)); (case tqb => first | omega | decide | (simp only [List.length_cons, List.length_nil, List.length_append, List.length_replicate]; omega))); intro _ _)
  k_with "binaryOp Mult str int" => (k_dflt (refine' r_mulS ?tqx ?tqi ?tqk ?_; (case tqx => with_reducible exact c_sp); (case tqi => first | assumption | (with_reducible exact rfl)); (case tqk => omega)); intro _ _)
  k_with "call builtin:len" => ((with_reducible show wpAny _ _ (call (Value.builtin "len") [Value.str _ _]) _ _ _); k_dflt (refine' r_lenS ?tqx ?tql ?_; (case tqx => with_reducible first | exact c_e | exact rfl); (case tql => omega)))
  refine wpAny_call ?_
  k_dflt ktr_enter
  ((rename Fr _ _ _ _ => F0'); refine name_fr F0' ?_; clear F0'; intro mE' FE')
  k_steps
  (with_reducible rename _ = sd1 _ => q1)
  (with_reducible rename _ = sd2 _ => q2)
  (with_reducible rename _ = sd3 _ => q3)
  rw [rk_end] at q1 q2 q3
  subst q1 q2 q3
  exact ret_i2d hret (by assumption) (by assumption) (List.forall_mem_cons.mpr ⟨by k_mem, fun p hp => by repeat (first | exact hp | refine List.Mem.tail _ ?_)⟩) ⟨_, _, _, _, rfl, rfl, ktn_ltOf (by first | assumption | exact And.right (by assumption) | exact allLt_of (by assumption))⟩
end Mine
namespace Mine
open PySem.Builtin.Str
def rk (c : Nat) : Int := if c = 65 then 0 else if c = 66 then 1 else if c = 32 then 2 else 3
def codeF (t : Bool) (c : Nat) : Nat := [90, 122, 233, 1078].getD (if t = true then 3 - rk c else rk c).toNat 0
def flipF (t : Bool) (c : Nat) : Bool := if c = 66 then !t else t
def pageF : Bool → List Nat → List Nat
  | _, [] => []
  | t, c :: r => codeF t c :: pageF (flipF t c) r
def turnF : Bool → List Nat → Bool
  | t, [] => t
  | t, c :: r => turnF (flipF t c) r
theorem pageF_snoc (c : Nat) : ∀ (l : List Nat) (t : Bool), pageF t (l ++ [c]) = pageF t l ++ [codeF (turnF t l) c]
  | [], t => rfl
  | d :: r, t => by rw [List.cons_append, pageF, pageF, pageF_snoc c r, turnF]; rfl
theorem turnF_snoc (c : Nat) : ∀ (l : List Nat) (t : Bool), turnF t (l ++ [c]) = flipF (turnF t l) c
  | [], t => rfl
  | d :: r, t => by rw [List.cons_append, turnF, turnF, turnF_snoc c r]
theorem pageF_len : ∀ (l : List Nat) (t : Bool), (pageF t l).length = l.length
  | [], _ => rfl
  | c :: r, t => by rw [pageF, List.length_cons, pageF_len r, List.length_cons]
theorem rk_bound (c : Nat) : 0 ≤ rk c ∧ rk c ≤ 3 := by unfold rk; split <;> (try split) <;> (try split) <;> omega
theorem page_letter {wd : List Nat} (hl : Ltrs wd) {pre post : List Int} {c : Nat} (e : KStt.codes (S (wd ++ [46])) = pre ++ (c : Int) :: post) : c = 65 ∨ c = 66 ∨ c = 32 ∨ c = 46 := by
  have h : (c : Int) ∈ KStt.codes (S (wd ++ [46])) := by rw [e]; simp
  simp only [KStt.codes, List.mem_map] at h
  obtain ⟨d, hd, he⟩ := h
  have : d = c := by omega
  subst this
  simp only [List.mem_append, List.mem_singleton] at hd
  rcases hd with hd | hd
  · have := hl d hd; omega
  · omega
theorem r_index {w : World} {A : Around} {E : Value → Shared → Prop} {s : Shared} {t u : Tok} {Q : Value → Shared → Prop} {x y : Str} {c : Nat} (hx : x = S [65, 66, 32, 46]) (hy : y = S [c]) (hc : c = 65 ∨ c = 66 ∨ c = 32 ∨ c = 46) (h : 0 ≤ rk c → rk c ≤ 3 → Q (.int (rk c) s.toks) { s with toks := s.toks + 1 }) :
    wpAny (model PRG w) A (call (.builtin "str.index") [.str x t, .str y u]) Q E s := by
  have h := h (rk_bound c).1 (rk_bound c).2
  subst hx hy
  rcases hc with rfl | rfl | rfl | rfl
  · exact SC.index (i := 0) (rest := []) (by decide +kernel) h
  · exact SC.index (i := 1) (rest := []) (by decide +kernel) h
  · exact SC.index (i := 2) (rest := []) (by decide +kernel) h
  · exact SC.index (i := 3) (rest := []) (by decide +kernel) h
theorem page_start : (Str.ofString "").cps.toList = pageF false (([] : List Int).map Int.toNat) ∧ false = turnF false (([] : List Int).map Int.toNat) ∧ TextVar (Str.ofString "") ∧ (Str.ofString "").cps.toList.length = ([] : List Int).length := by
  rw [c_e]; exact ⟨rfl, rfl, ⟨⟩, rfl⟩
theorem page_turn {x : Str} {t t' : Bool} {pre : List Int} {c : Nat} {i : Int} (h1 : x.cps.toList = pageF false (pre.map Int.toNat)) (h2 : t = turnF false (pre.map Int.toNat)) (h3 : x.cps.toList.length = pre.length) (hi : i = if t = true then 3 - rk c else rk c) (ht : t' = if c = 66 then !t else t) :
    (S (x.cps.toList ++ [[90, 122, 233, 1078].getD i.toNat 0])).cps.toList = pageF false ((pre ++ [(c : Int)]).map Int.toNat) ∧ t' = turnF false ((pre ++ [(c : Int)]).map Int.toNat) ∧ TextVar (S (x.cps.toList ++ [[90, 122, 233, 1078].getD i.toNat 0])) ∧ (S (x.cps.toList ++ [[90, 122, 233, 1078].getD i.toNat 0])).cps.toList.length = (pre ++ [(c : Int)]).length := by
  have e : (pre ++ [(c : Int)]).map Int.toNat = pre.map Int.toNat ++ [c] := by simp
  refine ⟨?_, ?_, ⟨⟩, ?_⟩
  · rw [e, pageF_snoc, ← h2, ← h1, codeF, ← hi]
  · rw [e, turnF_snoc, ← h2, ht]; rfl
  · simp at h3 ⊢; exact h3
section
variable {x : Str} {t t' : Bool} {pre : List Int} {c : Nat}
abbrev PagP (pre : List Int) (x : Str) (t : Bool) : Prop := x.cps.toList = pageF false (pre.map Int.toNat) ∧ t = turnF false (pre.map Int.toNat) ∧ TextVar x ∧ x.cps.toList.length = pre.length
theorem page_TB (h1 : x.cps.toList = pageF false (pre.map Int.toNat)) (h2 : t = turnF false (pre.map Int.toNat)) (h3 : x.cps.toList.length = pre.length) (ht : t = true) (hc : c = 66) (h' : t' = !t) : PagP (pre ++ [(c : Int)]) (S (x.cps.toList ++ [[90, 122, 233, 1078].getD (3 - rk c).toNat 0])) t' :=
  page_turn h1 h2 h3 (by rw [if_pos ht]) (by rw [if_pos hc]; exact h')
theorem page_TN (h1 : x.cps.toList = pageF false (pre.map Int.toNat)) (h2 : t = turnF false (pre.map Int.toNat)) (h3 : x.cps.toList.length = pre.length) (ht : t = true) (hc : ¬ c = 66) (h' : t' = t) : PagP (pre ++ [(c : Int)]) (S (x.cps.toList ++ [[90, 122, 233, 1078].getD (3 - rk c).toNat 0])) t' :=
  page_turn h1 h2 h3 (by rw [if_pos ht]) (by rw [if_neg hc]; exact h')
theorem page_FB (h1 : x.cps.toList = pageF false (pre.map Int.toNat)) (h2 : t = turnF false (pre.map Int.toNat)) (h3 : x.cps.toList.length = pre.length) (ht : t = false) (hc : c = 66) (h' : t' = !t) : PagP (pre ++ [(c : Int)]) (S (x.cps.toList ++ [[90, 122, 233, 1078].getD (rk c).toNat 0])) t' :=
  page_turn h1 h2 h3 (by rw [if_neg (by rw [ht]; decide)]) (by rw [if_pos hc]; exact h')
theorem page_FN (h1 : x.cps.toList = pageF false (pre.map Int.toNat)) (h2 : t = turnF false (pre.map Int.toNat)) (h3 : x.cps.toList.length = pre.length) (ht : t = false) (hc : ¬ c = 66) (h' : t' = t) : PagP (pre ++ [(c : Int)]) (S (x.cps.toList ++ [[90, 122, 233, 1078].getD (rk c).toNat 0])) t' :=
  page_turn h1 h2 h3 (by rw [if_neg (by rw [ht]; decide)]) (by rw [if_neg hc]; exact h')
end
end Mine
namespace Mine
theorem codes_S {l : List Nat} : (KStt.codes (S l)).map Int.toNat = l := by
  simp only [KStt.codes, List.map_map]
  exact (List.map_congr_left (g := _root_.id) fun c _ => Int.toNat_natCast c).trans (List.map_id _)
theorem page_sz {x : Str} {wd : List Nat} {pre post : List Int} {c : Nat} (h3 : x.cps.toList.length = pre.length) (e : KStt.codes (S (wd ++ [46])) = pre ++ (c : Int) :: post) (hw : wd.length ≤ 8) : x.cps.toList.length ≤ 1000 := by
  have := congrArg List.length e
  rw [KStt.codes_length, S_len] at this
  simp at this
  omega
theorem page_c (w : World) (news : Led) (wd : List Nat) (tw : Tok) (hw : wd.length ≤ 8) (hl : Ltrs wd) : Con w 133 4 32 news [.str (S wd) tw] (outStr news (pageF false (wd ++ [46]))) := by
  have hlen : (wd ++ [46]).length = wd.length + 1 := by simp
  unfold Con
  intro p loose mean mg mb dp un gd cn cs a0 ccd cl outer A₀ base h₀ L m s Q E B F X N T hk hdp hun hret
  skip
  w_top off
  k_with_none
  k_with "pyIter str" => k_dflt (k_state (fun pre page turned => page.cps.toList = pageF false (pre.map Int.toNat) ∧ turned = turnF false (pre.map Int.toNat) ∧ TextVar page ∧ page.cps.toList.length = pre.length) "page" "turned")
  k_with "exec For Name BinOp cons nil" => (k_dflt ((rename Fr _ _ _ _ => lF'); (with_unfolding_all refine' For_invVF lF' ?tkf1 ?tkf2 ?_; (case tkf1 => exact rfl); (case tkf2 => exact rfl); k_whole)))
  k_with "InvEndN" => k_dflt (kst_close)
  k_with "state" => k_dflt (first | (with_reducible exact page_TB (by assumption) (by assumption) (by assumption) (by assumption) (by assumption) (by first | rfl | (simp [*]; done))) | (with_reducible exact page_TN (by assumption) (by assumption) (by assumption) (by assumption) (by assumption) (by first | rfl | (simp [*]; done))) | (with_reducible exact page_FB (by assumption) (by assumption) (by assumption) (by assumption) (by assumption) (by first | rfl | (simp [*]; done))) | (with_reducible exact page_FN (by assumption) (by assumption) (by assumption) (by assumption) (by assumption) (by first | rfl | (simp [*]; done))) | (exact page_start))
  k_with "call builtin:str.index" => (k_dflt (refine' r_index ?tqx ?tqy ?tqc ?_; (case tqx => with_reducible exact c_ABsd); (case tqy => with_reducible exact rfl); (case tqc => exact page_letter hl (by assumption))); intro _ _)
  k_with "subscriptTail" => (first | ((with_reducible show wpAny _ _ (subscriptTail _ _ (Value.str _ _) (Value.int _ _)) _ _ _); k_dflt (refine' r_item ?tqx ?tqa ?tqb ?tqd ?_; (case tqx => with_reducible first | exact c_AB | exact c_ABs | exact c_Zz | exact rfl); (case tqa => first | omega | exact fmod_lo _ (by decide)); (case tqb => first | omega | exact fmod_hi _ (by decide) | (simp only [List.length_cons, List.length_nil]; omega)); (case tqd => first | omega | decide)); intro _) | ((with_reducible show wpAny _ _ (subscriptTail _ (Expr.Slice _ _ _ _) (Value.str _ _) (Value.ref _)) _ _ _); (with_reducible rename Fr _ _ _ _ => F'); (with_reducible rename News _ _ _ _ => N'); (first | (refine r_ss (s := ⟨_, _, _, _, _⟩) F' N' (sl_ss (by omega) (by omega) (by omega)) (S_line (by omega)) ?_) | (refine r_sn (s := ⟨_, _, _, _, _⟩) F' N' (sl_sn (by omega) (by omega)) (S_line (by omega)) ?_) | (refine r_ns (s := ⟨_, _, _, _, _⟩) F' N' (by first | exact sl_ns (by omega) (by omega) | exact sl_last (by omega)) (S_line (by omega)) ?_)); intro _ _ _ _ _))
  k_with "compareOp Eq str str" => (k_dflt (refine' r_eqS ?tqx ?tqy ?tqc ?_; (case tqx => with_reducible first | exact c_A | exact c_B | exact c_sp | exact c_e | exact rfl); (case tqy => with_reducible first | exact c_A | exact c_B | exact c_sp | exact c_e | exact rfl); (case tqc => first | exact dec_in)))
  k_with "binaryOp Add str str" => (k_dflt (refine' r_addS ?tqx ?tqy ?tqa ?tqb ?_; (case tqx => with_reducible first | exact c_e | exact S_var (by assumption) | exact rfl); (case tqy => with_reducible first | exact c_dot | exact rfl); (case tqa => first | omega | decide | (simp only [List.length_cons, List.length_nil, List.length_append, List.length_replicate]; omega)); (case tqb => first | omega | decide | (simp only [List.length_cons, List.length_nil, List.length_append, List.length_replicate]; omega))); intro _ _)
  k_with "binaryOp Mult str int" => (k_dflt (refine' r_mulS ?tqx ?tqi ?tqk ?_; (case tqx => with_reducible exact c_sp); (case tqi => first | assumption | (with_reducible exact rfl)); (case tqk => omega)); intro _ _)
  k_with "call builtin:len" => ((with_reducible show wpAny _ _ (call (Value.builtin "len") [Value.str _ _]) _ _ _); k_dflt (refine' r_lenS ?tqx ?tql ?_; (case tqx => with_reducible first | exact c_e | exact rfl); (case tql => omega)))
  k_with "binaryOp Add str str" => (k_dflt (refine' r_addS (S_var (by assumption)) ?tqy (page_sz (by assumption) (by assumption) hw) ?tqb ?_; (case tqy => with_reducible exact rfl); (case tqb => first | decide | (rw [List.length_singleton]; decide))); intro _ _)
  refine wpAny_call ?_
  k_dflt ktr_enter
  ((rename Fr _ _ _ _ => F0'); refine name_fr F0' ?_; clear F0'; intro mE' FE')
  k_steps
  (with_reducible rename _ = pageF _ _ => hq)
  rw [codes_S] at hq
  (with_reducible rename TextVar _ => hv)
  have e9 := S_var hv
  rw [hq] at e9
  clear hv hq
  subst e9
  exact hret _ _ _ _ (by assumption) (by assumption) ⟨rfl, _, rfl⟩
end Mine
namespace Mine
open Builtin.Int (intBits)
theorem word_split : ∀ w, Word w → ∃ k x w2, w = List.replicate k 32 ++ x :: w2 ∧ (x = 65 ∨ x = 66) ∧ (w2 = [] ∨ Word w2)
  | [], h => by
    obtain ⟨ini, c, e, _⟩ := h
    exact absurd e (by simp)
  | a :: r, h => by
    obtain ⟨ini, c, e, h1, h2⟩ := h
    cases ini with
    | nil =>
      simp only [List.nil_append, List.cons.injEq] at e
      obtain ⟨rfl, rfl⟩ := e
      exact ⟨0, a, [], rfl, h2, .inl rfl⟩
    | cons b ini =>
      simp only [List.cons_append, List.cons.injEq] at e
      obtain ⟨rfl, e⟩ := e
      have hr : Word r := ⟨ini, c, e, fun x hx => h1 x (.tail _ hx), h2⟩
      rcases h1 a (.head _) with ha | ha | ha
      · exact ⟨0, a, r, rfl, .inl ha, .inr hr⟩
      · exact ⟨0, a, r, rfl, .inr ha, .inr hr⟩
      · obtain ⟨k, x, w2, e2, hx, hw⟩ := word_split r hr
        exact ⟨k + 1, x, w2, by rw [ha, e2, List.replicate_succ]; rfl, hx, hw⟩
theorem pair_blanks (T : Int) (v : List Nat) : ∀ k : Nat, pairL T (List.replicate k 32 ++ v) = ((pairL T v).1 + 2 * (k * (pairL T v).2), (pairL T v).2)
  | 0 => by simp
  | k + 1 => by
    rw [List.replicate_succ, List.cons_append, pairL, pair_blanks T v k]
    simp only [show ¬ (32 = 65) from by decide, show ¬ (32 = 66) from by decide, if_false]
    refine Prod.ext ?_ rfl
    dsimp only
    rw [Int.natCast_succ, Int.add_mul, Int.one_mul]
    omega
structure LStep (T g up lo : Int) (w : List Nat) (k x : Nat) (w2 : List Nat) (rr lo2 : Int) : Prop where
  ew : w = List.replicate k 32 ++ x :: w2
  hx : x = 65 ∨ x = 66
  hw2 : w2 = [] ∨ Word w2
  e : up - lo = k * (2 * lo) + rr
  r0 : 0 ≤ rr
  r1 : rr < 2 * lo
  apA : x = 65 → rr - lo = -lo2
  apB : x = 66 → rr - lo = lo2
  lo2p : 0 < lo2
  elo2 : lo2 = g * (pairL T w2).2
  elo : lo = g * (pairL T w2).1
  lop : 0 < lo
  uplo : 0 < up - lo
theorem last_step {T g up lo : Int} (hT : TopOk T) (hg : 0 < g) {w : List Nat} (hw : Word w) (hup : up = g * (pairL T w).1) (hlo : lo = g * (pairL T w).2) : ∃ k x w2 rr lo2, LStep T g up lo w k x w2 rr lo2 := by
  obtain ⟨k, x, w2, ew, hx, hw2⟩ := word_split w hw
  have hp := pair_pos (T := T) (by have := hT.lo; omega) w2
  have hpw := pair_pos (T := T) (by have := hT.lo; omega) w
  have e1 := pair_blanks T (x :: w2) k
  rw [← ew] at e1
  have h1 : 0 < g * (pairL T w2).2 := Int.mul_pos hg hp.1
  have h2 : g * (pairL T w2).2 < g * (pairL T w2).1 := Int.mul_lt_mul_of_pos_left hp.2 hg
  have h3 : g * (pairL T w).2 < g * (pairL T w).1 := Int.mul_lt_mul_of_pos_left hpw.2 hg
  rcases hx with rfl | rfl
  · have e2 : pairL T (65 :: w2) = (2 * (pairL T w2).1 - (pairL T w2).2, (pairL T w2).1) := by rw [pairL]; rfl
    rw [e2] at e1
    rw [e1] at hup hlo h3
    dsimp only at hup hlo h3
    refine ⟨k, 65, w2, g * (pairL T w2).1 - g * (pairL T w2).2, g * (pairL T w2).2, ew, .inl rfl, hw2, ?_, by omega, by omega, fun _ => by omega, fun h => absurd h (by decide), h1, rfl, hlo, by omega, by omega⟩
    subst hup hlo
    generalize (pairL T w2).1 = m2 at *
    generalize (pairL T w2).2 = n2 at *
    grind
  · have e2 : pairL T (66 :: w2) = (2 * (pairL T w2).1 + (pairL T w2).2, (pairL T w2).1) := by rw [pairL]; rfl
    rw [e2] at e1
    rw [e1] at hup hlo h3
    dsimp only at hup hlo h3
    refine ⟨k, 66, w2, g * (pairL T w2).1 + g * (pairL T w2).2, g * (pairL T w2).2, ew, .inr rfl, hw2, ?_, by omega, by omega, fun h => absurd h (by decide), fun _ => by omega, h1, rfl, hlo, by omega, by omega⟩
    subst hup hlo
    generalize (pairL T w2).1 = m2 at *
    generalize (pairL T w2).2 = n2 at *
    grind
theorem pad_of {w w2 : List Nat} {k x bh : Nat} (hw : Word w) (ew : w = List.replicate k 32 ++ x :: w2) (hx : x = 65 ∨ x = 66) (hl : w.length ≤ 8) (hb : bh ≤ 10) : Pad (w ++ List.replicate bh 32) k bh := by
  have hlen : w.length = k + 1 + w2.length := by rw [ew]; simp; omega
  obtain ⟨ini, c, e, _, hc⟩ := hw
  have hlen2 : w.length = ini.length + 1 := by rw [e]; simp
  constructor
  · simp; omega
  · simp; omega
  · intro i hi
    rw [ew, List.getD_eq_getElem?_getD, List.append_assoc, List.getElem?_append_left (by simp; exact hi)]
    simp [hi]
  · rw [ew, List.getD_eq_getElem?_getD, List.append_assoc, List.getElem?_append_right (by simp)]
    simp
    omega
  · intro i h1 h2
    simp at h1 h2
    rw [List.getD_eq_getElem?_getD, List.getElem?_append_right (by omega), List.getElem?_replicate, if_pos (by omega)]
    rfl
  · have : (w ++ List.replicate bh 32).length - bh - 1 = ini.length := by simp; omega
    rw [this, List.getD_eq_getElem?_getD, List.getElem?_append_left (by omega), e, List.getElem?_append_right (by omega)]
    simp
    omega
/-- the sizes of a division of the law -/
structure DvOk (a b : Int) : Prop where
  b9 : intBits b ≤ 9000
  a5 : intBits a ≤ 50000
  ab : intBits a ≤ 200 * intBits b
theorem dv_of {a b : Int} (ha : 0 < a) (hb : 0 < b) (h1 : b ≤ 2 ^ 8900) (h2 : a ≤ 2 ^ 30000) (h3 : a ≤ b * b * 2 ^ 20 * (b * b)) : DvOk a b := by
  have Bb := bits_ge hb
  have Lb := lt_bits b
  have k1 : b < 2 ^ 8901 := by
    have e : (2 : Int) ^ 8901 = 2 * 2 ^ 8900 := by rw [Int.pow_succ]; omega
    have := kbt_pos 8900
    omega
  have k2 : a < 2 ^ 30001 := by
    have e : (2 : Int) ^ 30001 = 2 * 2 ^ 30000 := by rw [Int.pow_succ]; omega
    have := kbt_pos 30000
    omega
  refine ⟨Nat.le_trans (bits_lt (by omega) k1) (by decide), Nat.le_trans (bits_lt (by omega) k2) (by decide), ?_⟩
  have m1 := mul_small (x := b) (y := b) (i := intBits b) (j := intBits b) (by omega) (by omega) (by omega) (by omega)
  have m2 := mul_small (x := b * b) (y := 2 ^ 20) (i := intBits b + intBits b) (j := 20) m1.1 m1.2 (by decide) (Int.le_refl _)
  have m3 := mul_small m2.1 m2.2 m1.1 m1.2
  have k3 : a < 2 ^ (intBits b + intBits b + 20 + (intBits b + intBits b) + 1) := by
    have := kbt_pos (intBits b + intBits b + 20 + (intBits b + intBits b))
    rw [Int.pow_succ]
    omega
  have := bits_lt (by omega) k3
  omega
/-- between the turns of _law_last -/
structure LInv (T g : Int) (w : List Nat) (up lo : Int) : Prop where
  u : up = g * (pairL T w).1
  l : lo = g * (pairL T w).2
  hw : w = [] ∨ Word w
  h8 : w.length ≤ 8
structure LastB (up lo : Int) : Prop where
  dv : DvOk (up - lo) (2 * lo)
  u0 : 0 < up
  u1 : up ≤ BB
  l0 : 0 < lo
  l1 : lo ≤ BB
  d0 : 0 < up - lo
theorem last_bound {T g up lo : Int} (hT : TopOk T) (hg : T ≤ g) (hg2 : g ≤ 2 ^ 4420) {w : List Nat} (h : LInv T g w up lo) : LastB up lo := by
  have hT0 := hT.lo
  have hp := pair_pos (T := T) (by omega) w
  have hs := pair_small hT h.h8
  have hle := pair_le (T := T) (by omega) w
  have h9 : (3 : Int) ^ w.length ≤ 3 ^ 8 := by
    have := Nat.pow_le_pow_right (n := 3) (by decide) h.h8
    exact_mod_cast this
  have h3 : (3 : Int) ^ w.length * T ≤ 3 ^ 8 * T := Int.mul_le_mul_of_nonneg_right h9 (by omega)
  have e38 : (3 : Int) ^ 8 = 6561 := rfl
  have eu := h.u
  have el := h.l
  generalize (pairL T w).1 = m at *
  generalize (pairL T w).2 = n at *
  have hm : m ≤ 6561 * g := by omega
  have b1 := mul_small (x := g) (y := m) (i := 4420) (j := 4413) (by omega) hg2 (by omega) hs
  have b2 : g * n < g * m := Int.mul_lt_mul_of_pos_left hp.2 (by omega)
  have b3 : g * 1 ≤ g * n := Int.mul_le_mul_of_nonneg_left (by omega) (by omega)
  have b4 : g * m ≤ g * (6561 * g) := Int.mul_le_mul_of_nonneg_left hm (by omega)
  have b5 : g * (6561 * g) = 6561 * (g * g) := by grind
  have b6 : g * g ≤ lo * lo := Int.mul_le_mul (by omega) (by omega) (by omega) (by omega)
  have b7 : (2 * lo) * (2 * lo) = 4 * (lo * lo) := by grind
  have hB := BB_ge (k := 4420 + 4413) (by decide)
  have hk : (2 : Int) ^ (4420 + 4413) * 2 ≤ 2 ^ 8900 := by rw [← Int.pow_succ]; exact pow_le_of (by decide)
  have hk3 : (2 : Int) ^ (4420 + 4413) ≤ 2 ^ 30000 := pow_le_of (by decide)
  have b8 : 0 < g * g := Int.mul_pos (by omega) (by omega)
  have b9 : (2 * lo * (2 * lo)) * 2 ^ 20 * 1 ≤ (2 * lo * (2 * lo)) * 2 ^ 20 * (2 * lo * (2 * lo)) := Int.mul_le_mul_of_nonneg_left (by rw [b7]; omega) (by rw [b7]; have : (2 : Int) ^ 20 = 1048576 := rfl; omega)
  have e20 : (2 : Int) ^ 20 = 1048576 := rfl
  refine ⟨dv_of (by omega) (by omega) (by omega) (by omega) ?_, by omega, by omega, by omega, by omega, by omega⟩
  rw [b7] at b9 ⊢
  rw [e20] at b9 ⊢
  omega
theorem linv_next {T g up lo rr lo2 : Int} {w w2 : List Nat} {k x : Nat} (h : LInv T g w up lo) (H : LStep T g up lo w k x w2 rr lo2) : LInv T g w2 lo lo2 ∧ w2.length < w.length := by
  have hl : w.length = k + 1 + w2.length := by rw [H.ew]; simp; omega
  exact ⟨⟨H.elo, H.elo2, H.hw2, by have := h.h8; omega⟩, by omega⟩
theorem drop_line {w w2 : List Nat} {k x bh : Nat} (ew : w = List.replicate k 32 ++ x :: w2) : (w ++ List.replicate bh 32).drop k = x :: (w2 ++ List.replicate bh 32) := by
  rw [ew, List.append_assoc, List.drop_left' (by simp)]
  rfl
end Mine
namespace Mine
theorem r_neS {w : World} {A : Around} {E : Value → Shared → Prop} {s : Shared} {x y : Str} {t u : Tok} {Q : Value → Shared → Prop} {a b : List Nat} {c : Bool} (hx : x = S a) (hy : y = S b) (hc : (!decide (a = b)) = c) (h : Q (.bool c) s) : wpAny (model PRG w) A (compareOp .NotEq (.str x t) (.str y u)) Q E s := by
  subst hx hy hc
  refine PyProof.Rows.ne_str ?_
  rw [show (S a != S b) = !(S a == S b) from rfl, S_inj]
  exact h
theorem dec_ne {a b : Nat} : (!decide ([a] = [b])) = decide (a ≠ b) := by simp
theorem dec_same {a b : List Nat} (h : a = b) : (!decide (a = b)) = false := by simp [h]
theorem cut_low (j k : Nat) : (if (k : Int) < (j : Int) then (k : Int) else (j : Int)) = ((min j k : Nat) : Int) := by
  by_cases h : k < j
  · rw [if_pos (by omega), Nat.min_eq_right (by omega)]
  · rw [if_neg (by omega), Nat.min_eq_left (by omega)]
theorem cut_mid (j k bh : Nat) : (if 0 > (if (bh : Int) < (j : Int) - (k : Int) then (bh : Int) else (j : Int) - (k : Int)) then 0 else (if (bh : Int) < (j : Int) - (k : Int) then (bh : Int) else (j : Int) - (k : Int))) = ((min (j - k) bh : Nat) : Int) := by
  by_cases h : (bh : Int) < (j : Int) - (k : Int)
  · rw [if_pos h, if_neg (by omega), Nat.min_eq_right (by omega)]
  · rw [if_neg h]
    by_cases h2 : 0 > (j : Int) - (k : Int)
    · rw [if_pos h2, Nat.min_eq_left (by omega), Nat.sub_eq_zero_of_le (by omega)]; rfl
    · rw [if_neg h2, Nat.min_eq_left (by omega)]; omega
theorem cut_from (j k : Nat) : min j k = (if (k : Int) < (j : Int) then (k : Int) else (j : Int)).toNat := by rw [cut_low, Int.toNat_natCast]
theorem cut_len (n j k bh : Nat) : n - min (j - k) bh - min j k = (((n : Int) - if 0 > (if (bh : Int) < (j : Int) - (k : Int) then (bh : Int) else (j : Int) - (k : Int)) then 0 else (if (bh : Int) < (j : Int) - (k : Int) then (bh : Int) else (j : Int) - (k : Int))) - if (k : Int) < (j : Int) then (k : Int) else (j : Int)).toNat := by
  rw [cut_low, cut_mid]
  generalize min (j - k) bh = a
  generalize min j k = b
  omega
/-- a loop over a range whose turns leave nothing behind -/
theorem range_each {w : World} {A : Around} {E : Value → Shared → Prop} {s : Shared} {env : Env} {h₀ : Heap} {x : Str} {body : List Stmt} {Q : Flow → Shared → Prop} {r : Addr} {b₀ : Int} {t₀ u₀ v₀ : Tok} {n : Nat} {m₀ : Str → Option Value} {news : Led}
    (hh : A.handled = none) (hr : IsRange s.heap r 0 b₀ 1 t₀ u₀ v₀) (hb : b₀ = n) (hn : n ≤ 1000) (F : Fr h₀ env.locals s.heap m₀) (N : News h₀ env.locals s.heap news)
    (turn : ∀ (k : Nat) t (u : Str → Option Value) h tk own, k < n → Fr h₀ env.locals h (fun y => if y = x then some (.int k t) else kstB (fun z => if ([] : List Str).contains z then u z else m₀ z) [] y) → News h₀ env.locals h (news ++ own) →
      wpAny (model PRG w) A (execs body env) (InvPostN h₀ env.locals (KstS (fun _ : Unit => news) (fun _ => []) (fun _ => True) x [] m₀ (fun _ _ => True) []) own (news.map (·.1)) { s with heap := h, toks := tk } Q) E { s with heap := h, toks := tk })
    (done : ∀ (u : Str → Option Value) h tk, Fr h₀ env.locals h (fun y => if y = x then u y else kstB (fun z => if ([] : List Str).contains z then u z else m₀ z) [] y) → News h₀ env.locals h news → Q .next { s with heap := h, toks := tk }) :
    wpAny (model PRG w) A (pyIter (.ref r)) (fun it s₂ => LoopAtV PRG w A h₀ env x body Q E it s₂) E s := by
  subst hb
  refine kst_range (σ := Unit) (n := n) (fun _ => news) (fun _ => []) (fun _ => True) [] (fun _ _ => True) () hh hr (small_one (by omega) (by omega) (by omega) (by omega)) (by have := rangeSize_nat 0 (n : Int); simpa using this) F N trivial (fun _ h => nomatch h) trivial ?_ ?_
  · intro c pre k t u h tk own hk hlt _ _ _ F' N'
    have : k = (pre.length : Int) := by omega
    subst this
    refine wpAny_mono (turn pre.length t u h tk own hlt F' N') (fun f s₂ p => ?_) fun _ _ e => e
    have up : InvEndN h₀ env.locals (KstS (fun _ : Unit => news) (fun _ => []) (fun _ => True) x [] m₀ (fun _ _ => True) []) own (news.map (·.1)) { s with heap := h, toks := tk } s₂ →
        InvEndN h₀ env.locals (KstS (fun _ : Unit => news) (fun _ => []) (fun _ => True) x [] m₀ (fun _ _ => True) (pre ++ [(pre.length : Int)])) own (news.map (·.1)) { s with heap := h, toks := tk } s₂ := fun p => p
    cases f with
    | ret v => exact p
    | brk => exact p
    | next => exact up p
    | cont => exact up p
  · intro c u h tk _ _ F' N'
    exact done u h tk F' N'
theorem each_end {h₀ : Heap} {L : Addr} {x : Str} {m₀ m' : Str → Option Value} {news news' own : Led} {s₁ : Shared} {h' : Heap} {tk : Nat} (F : Fr h₀ L h' m') (N : News h₀ L h' news') (hn : ∀ p ∈ news, p ∈ news') (ho : ∀ p ∈ own, p ∈ news') (hr : ∀ z, z ≠ x → m' z = m₀ z) :
    InvEndN h₀ L (KstS (fun _ : Unit => news) (fun _ => []) (fun _ => True) x [] m₀ (fun _ _ => True) []) own (news.map (·.1)) s₁ { s₁ with heap := h', toks := tk } :=
  kst_end () F N hn ho rfl trivial (fun _ h => nomatch h) (fun z h1 _ _ => hr z h1) trivial
end Mine
namespace Mine
structure LS where
  up : Int
  lo : Int
  tu : Tok
  tl : Tok
  tr : Tok
  w : List Nat
  ps1 : Array Value
  ps2 : Array Value
  ex : Led
theorem len_rep (w : List Nat) (bh : Nat) : (w ++ List.replicate bh 32).length = w.length + bh := by simp
theorem len_cons (x : Nat) (w : List Nat) (bh : Nat) : (x :: (w ++ List.replicate bh 32)).length = w.length + bh + 1 := by simp
theorem last_nil {far g up lo : Int} (h : LInv (2 * far + 2) g [] up lo) (h0 : 0 < lo) : up - lo = far * (2 * lo) + lo ∧ 0 ≤ lo ∧ lo < 2 * lo ∧ lo = g := by
  have h1 := h.u
  have h2 := h.l
  have e : pairL (2 * far + 2) [] = (2 * far + 2, 1) := rfl
  rw [e] at h1 h2
  dsimp only at h1 h2
  have h3 : lo = g := by omega
  subst h3
  refine ⟨?_, by omega, by omega, rfl⟩
  rw [h1]; grind
theorem last_ab {T g up lo rr lo2 : Int} {w w2 : List Nat} {k x : Nat} (H : LStep T g up lo w k x w2 rr lo2) : (x = 65 ∧ rr - lo = -lo2) ∨ (x = 66 ∧ rr - lo = lo2) := by
  rcases H.hx with h | h
  · exact .inl ⟨h, H.apA h⟩
  · exact .inr ⟨h, H.apB h⟩
theorem last_wl {w w2 : List Nat} {k x : Nat} (ew : w = List.replicate k 32 ++ x :: w2) : w.length = k + 1 + w2.length := by rw [ew]; simp; omega
theorem last_s1 {w w2 : List Nat} {k x bh : Nat} (ew : w = List.replicate k 32 ++ x :: w2) : Txt.slice (S (w ++ List.replicate bh 32)) (some (k : Int)) none = S (x :: (w2 ++ List.replicate bh 32)) := by
  have := last_wl ew
  rw [sl_sn (by omega) (by rw [len_rep]; omega), Int.toNat_natCast, drop_line ew]
theorem last_s2 (x : Nat) (w2 : List Nat) (bh : Nat) : Txt.slice (S (x :: (w2 ++ List.replicate bh 32))) (some 1) none = S (w2 ++ List.replicate bh 32) := by
  rw [sl_sn (by omega) (by rw [len_cons]; omega)]; rfl
theorem last_s3 (x : Nat) (w2 : List Nat) (bh : Nat) : Txt.slice (S (x :: (w2 ++ List.replicate bh 32))) none (some 1) = S [x] := by
  rw [sl_ns (by omega) (by rw [len_cons]; omega)]; rfl
theorem last_c (w : World) (ps1 ps2 : Array Value) (ex rest : Led) (wd : List Nat) (far g up0 lo0 bI : Int) (bh : Nat) (tu tl tw tf tb : Tok) (TT : Tabs ps1 ps2 ex) (hr : ∀ p ∈ rest, @LT.lt Nat _ 37 p.1) (hT : TopOk (2 * far + 2)) (hg : 2 * far + 2 ≤ g) (hg2 : g ≤ 2 ^ 4420) (hbh : bh ≤ 10) (hbI : bI = bh) (hI : LInv (2 * far + 2) g wd up0 lo0) :
    Con w 126 310 2480 (tabLed ps1 ps2 ex rest) [.int up0 tu, .int lo0 tl, .str (S wd) tw, .int far tf, .int bI tb] (fun r news' => ∃ t ps1' ps2' ex', r = .int g t ∧ news' = tabLed ps1' ps2' ex' rest ∧ Tabs ps1' ps2' ex') := by
  subst hbI
  have hB := BB_pos
  have hT0 := hT.lo
  have hg0 : 0 < g := by omega
  have h80 := hI.h8
  unfold Con
  intro p loose mean mg mb dp un gd cn cs a0 ccd cl outer A₀ base h₀ L m s Q E B F X N T hk hdp hun hret
  skip
  w_top off
  k_with_none
  k_with "call ref" => (k_dflt (first | (refine' con_use (isub_c w _ _ _ _ _) ?k1 ?k2 ?k3 ?k4 ?k5 ?k6 ?k7 ?k8 ?_; (case k1 => k_asm); (case k2 => k_asm); (case k3 => k_asm); (case k4 => k_asm); (case k5 => k_asm); (case k6 => first | exact rfl | assumption); (case k7 => ktr_room); (case k8 => ktr_units); intro gS9 dS9 oS9 r9 n9 h9 tk9 F9 N9 O9; obtain ⟨m9, t9, e9⟩ := O9; subst e9; subst m9; (try dsimp only); (try k_fold)) | (refine' con_use (lsh_c w _ _ _ _ _ _ (by first | assumption | exact shl1 (by omega) (by omega))) ?k1 ?k2 ?k3 ?k4 ?k5 ?k6 ?k7 ?k8 ?_; (case k1 => k_asm); (case k2 => k_asm); (case k3 => k_asm); (case k4 => k_asm); (case k5 => k_asm); (case k6 => first | exact rfl | assumption); (case k7 => ktr_room); (case k8 => ktr_units); intro gS9 dS9 oS9 r9 n9 h9 tk9 F9 N9 O9; obtain ⟨m9, t9, e9⟩ := O9; subst e9; subst m9; (try dsimp only); (try k_fold)) | (refine' con_use (mul_c w _ _ _ _ _ _ (by first | assumption | exact mulB (by omega) (by omega) (by omega) (by omega))) ?k1 ?k2 ?k3 ?k4 ?k5 ?k6 ?k7 ?k8 ?_; (case k1 => k_asm); (case k2 => k_asm); (case k3 => k_asm); (case k4 => k_asm); (case k5 => k_asm); (case k6 => first | exact rfl | assumption); (case k7 => ktr_room); (case k8 => ktr_units); intro gS9 dS9 oS9 r9 n9 h9 tk9 F9 N9 O9; obtain ⟨m9, t9, e9⟩ := O9; subst e9; subst m9; (try dsimp only); (try k_fold)) | (refine' con_use (add_c w _ _ _ _ _) ?k1 ?k2 ?k3 ?k4 ?k5 ?k6 ?k7 ?k8 ?_; (case k1 => k_asm); (case k2 => k_asm); (case k3 => k_asm); (case k4 => k_asm); (case k5 => k_asm); (case k6 => first | exact rfl | assumption); (case k7 => ktr_room); (case k8 => ktr_units); intro gS9 dS9 oS9 r9 n9 h9 tk9 F9 N9 O9; obtain ⟨m9, t9, e9⟩ := O9; subst e9; subst m9; (try dsimp only); (try k_fold)) | (refine' con_use (neg_c w _ _ _) ?k1 ?k2 ?k3 ?k4 ?k5 ?k6 ?k7 ?k8 ?_; (case k1 => k_asm); (case k2 => k_asm); (case k3 => k_asm); (case k4 => k_asm); (case k5 => k_asm); (case k6 => first | exact rfl | assumption); (case k7 => ktr_room); (case k8 => ktr_units); intro gS9 dS9 oS9 r9 n9 h9 tk9 F9 N9 O9; obtain ⟨m9, t9, e9⟩ := O9; subst e9; subst m9; (try dsimp only); (try k_fold)) | (refine' con_use (strip w _ _ _ _ _ _ _ hPad (by omega)) ?k1 ?k2 ?k3 ?k4 ?k5 ?k6 ?k7 ?k8 ?_; (case k1 => k_asm); (case k2 => k_asm); (case k3 => k_asm); (case k4 => k_asm); (case k5 => k_asm); (case k6 => first | exact rfl | assumption); (case k7 => ktr_room); (case k8 => ktr_units); intro gS9 dS9 oS9 r9 n9 h9 tk9 F9 N9 O9; obtain ⟨m9, t9, e9⟩ := O9; subst e9; subst m9; (try dsimp only); (try k_fold)) | (refine' con_use (dm w _ _ _ _ _ _ _ _ _ _ hTb hr hd0 (by omega) hv.b9 hv.a5 hv.ab hE hR0 hR1) ?k1 ?k2 ?k3 ?k4 ?k5 ?k6 ?k7 ?k8 ?_; (case k1 => k_asm); (case k2 => k_asm); (case k3 => k_asm); (case k4 => k_asm); (case k5 => k_asm); (case k6 => first | exact rfl | assumption); (case k7 => ktr_room); (case k8 => ktr_units); intro gS9 dS9 oS9 r9 n9 h9 tk9 F9 N9 O9; obtain ⟨q9, t9, u9, ps3, ps4, ex3, e9, m9, T9, hq37⟩ := O9; subst e9; subst m9; (try dsimp only); (try k_fold))))
  k_with "exec While" => (k_dflt ((rename Fr _ _ _ _ => lF'); (rename News _ _ _ _ => lN'); (with_unfolding_all refine' ksw_while (σ := LS) (fun c => tabLed c.ps1 c.ps2 c.ex rest) (fun c => [(Str.ofString "upper", .int c.up c.tu), (Str.ofString "lower", .int c.lo c.tl), (Str.ofString "line", .str (S (c.w ++ List.replicate bh 32)) c.tr)]) (fun c => Tabs c.ps1 c.ps2 c.ex) [Str.ofString "whole", Str.ofString "rest", Str.ofString "apart", Str.ofString "bare", Str.ofString "part"] (fun c => LInv (2 * far + 2) g c.w c.up c.lo) (fun c => c.w.length) ⟨up0, lo0, _, _, _, wd, ps1, ps2, ex⟩ lF' ?tqn ?tqf ?tqk ?tqp ?_); (case tqn => exact lN'); (case tqf => exact TT); (case tqk => kst_all); (case tqp => exact hI); (rintro ⟨up1, lo1, tu1, tl1, tr1, w1, qs1, qs2, ex1⟩ uT hT1 tkT hTb hIv FT NT; dsimp only at hTb hIv FT NT; obtain ⟨hv, hu0, hu1, hl0, hl1, hd0⟩ := last_bound hT hg hg2 hIv; (have hlen := len_rep w1 bh); (have hlr := List.length_replicate (n := bh) (a := 32)); (have h8 := hIv.h8); rcases hIv.hw with hnil | hWd); (all_goals first | (subst hnil; obtain ⟨hE, hR0, hR1, hg1⟩ := last_nil hIv hl0) | (obtain ⟨k, x, w2, rr, lo2, H⟩ := last_step hT (by omega) hWd hIv.u hIv.l; (have hE := H.e); (have hR0 := H.r0); (have hR1 := H.r1); (have hPad := pad_of (bh := bh) hWd H.ew H.hx h8 hbh); (have hNx := linv_next hIv H); (have hxs := H.hx); (have hAB := last_ab H); (have hl2 := H.lo2p); (have hs1 := last_s1 (bh := bh) H.ew); (have hs2 := last_s2 x w2 bh); (have hs3 := last_s3 x w2 bh); (have hwl := last_wl H.ew); (have hlen2 := len_cons x w2 bh))); (all_goals (try k_fold))))
  k_with "KswEnd" => (k_dflt ((rename News _ _ _ _ => nE'); (refine ksw_end (⟨_, _, _, _, _, w2, ps3, ps4, ex3⟩ : LS) (by assumption) nE' (by intro p hp; dsimp only at hp; first | exact List.mem_cons_of_mem _ hp | exact List.mem_cons_of_mem _ (List.mem_cons_of_mem _ hp) | exact List.mem_cons_of_mem _ (List.mem_cons_of_mem _ (List.mem_cons_of_mem _ hp))) T9 (by kst_all) (by intro z h1 h3; simp only [List.forall_mem_cons, List.not_mem_nil, false_implies, implies_true, and_true, ne_eq] at h1; simp only [List.contains_cons, List.contains_nil, Bool.or_false, Bool.or_eq_false_iff, beq_eq_false_iff_ne, ne_eq] at h3; simp [h1, h3, kstB]) (by (try dsimp only); first | (rw [show -(rr - lo1) = lo2 from by omega]; exact hNx.1) | (rw [show rr - lo1 = lo2 from by omega]; exact hNx.1)) (by (try dsimp only); exact hNx.2))))
  k_with "InvEndN" => (k_dflt ((rename News _ _ _ _ => nE'); (refine each_end (by assumption) nE' (by intro p hp; kst_mem) (by intro p hp; kst_mem) (by intro z hz; simp [hz, kstB]))))
  k_with "pyIter ref" => (k_dflt ((rename Fr _ _ _ _ => lF'); (rename News _ _ _ _ => lN'); (rename IsRange _ _ _ _ _ _ _ _ => rgX); (with_unfolding_all refine' range_each (n := k + 5) (by rfl) rgX (by omega) (by omega) lF' lN' ?_ ?_); (all_goals (try clear lF' lN')); (all_goals first | (intro kJ tJ uJ hJ tkJ ownJ ltJ FJ NJ) | (intro uJ hJ tkJ FJ NJ)); (all_goals (try k_fold))))
  k_with "subscriptTail" => (first | ((with_reducible show wpAny _ _ (subscriptTail _ _ (Value.str _ _) (Value.int _ _)) _ _ _); k_dflt (refine' r_item ?tqx ?tqa ?tqb ?tqd ?_; (case tqx => with_reducible first | exact c_AB | exact c_ABs | exact c_Zz | exact rfl); (case tqa => first | omega | exact fmod_lo _ (by decide)); (case tqb => first | omega | exact fmod_hi _ (by decide) | (simp only [List.length_cons, List.length_nil]; omega)); (case tqd => first | omega | decide)); intro _) | ((with_reducible show wpAny _ _ (subscriptTail _ (Expr.Slice _ _ _ _) (Value.str _ _) (Value.ref _)) _ _ _); (with_reducible rename Fr _ _ _ _ => F'); (with_reducible rename News _ _ _ _ => N'); (first | (refine r_ss (s := ⟨_, _, _, _, _⟩) F' N' (sl_ss (by omega) (by omega) (by omega)) (S_line (by omega)) ?_) | (refine r_sn (s := ⟨_, _, _, _, _⟩) F' N' (sl_sn (by omega) (by omega)) (S_line (by omega)) ?_) | (refine r_ns (s := ⟨_, _, _, _, _⟩) F' N' (by first | exact sl_ns (by omega) (by omega) | exact sl_last (by omega)) (S_line (by omega)) ?_)); intro _ _ _ _ _))
  k_with "compareOp Eq str str" => (k_dflt (refine' r_eqS ?tqx ?tqy ?tqc ?_; (case tqx => with_reducible first | exact c_A | exact c_B | exact c_sp | exact c_e | exact rfl); (case tqy => with_reducible first | exact c_A | exact c_B | exact c_sp | exact c_e | exact rfl); (case tqc => first | exact dec_in)))
  k_with "binaryOp Add str str" => (k_dflt (refine' r_addS ?tqx ?tqy ?tqa ?tqb ?_; (case tqx => with_reducible first | exact c_e | exact S_var (by assumption) | exact rfl); (case tqy => with_reducible first | exact c_dot | exact rfl); (case tqa => first | omega | decide | (simp only [List.length_cons, List.length_nil, List.length_append, List.length_replicate]; omega)); (case tqb => first | omega | decide | (simp only [List.length_cons, List.length_nil, List.length_append, List.length_replicate]; omega))); intro _ _)
  k_with "binaryOp Mult str int" => (k_dflt (refine' r_mulS ?tqx ?tqi ?tqk ?_; (case tqx => with_reducible exact c_sp); (case tqi => first | assumption | (with_reducible exact rfl)); (case tqk => omega)); intro _ _)
  k_with "call builtin:len" => ((with_reducible show wpAny _ _ (call (Value.builtin "len") [Value.str _ _]) _ _ _); k_dflt (refine' r_lenS ?tqx ?tql ?_; (case tqx => with_reducible first | exact c_e | exact rfl); (case tql => omega)))
  k_with "compareOp NotEq str str" => (k_dflt (refine' r_neS ?tqx ?tqy ?tqc ?_; (case tqx => with_reducible exact rfl); (case tqy => with_reducible first | exact c_A | exact c_B | exact rfl); (case tqc => first | exact dec_ne | exact dec_same (tk_eq (cut_len _ _ _ _) (cut_from _ _)))))
  k_with "subscriptTail" => ((with_reducible show wpAny _ _ (subscriptTail _ (Expr.Slice _ _ _ _) (Value.str _ _) (Value.ref _)) _ _ _); (with_reducible rename Fr _ _ _ _ => F'); (with_reducible rename News _ _ _ _ => N'); (first | (refine r_sn (s := ⟨_, _, _, _, _⟩) F' N' (by first | assumption) (S_line (by omega)) ?_) | (refine r_ns (s := ⟨_, _, _, _, _⟩) F' N' (by assumption) (S_line (by omega)) ?_)); intro _ _ _ _ _)
  refine wpAny_call ?_
  k_dflt ktr_enter
  ((rename Fr _ _ _ _ => F0'); refine name_fr F0' ?_; clear F0'; intro mE' FE')
  k_steps
  all_goals (try exact absurd hE.symm (by assumption))
  · subst hg1
    exact ret_i2d hret (by assumption) (by assumption) (by first | exact fun p hp => .tail _ hp | exact fun p hp => .tail _ (.tail _ hp) | exact fun p hp => .tail _ (.tail _ (.tail _ hp))) ⟨_, _, _, _, rfl, rfl, T9⟩
  all_goals (
    (rename News _ _ _ _ => nE')
    refine ksw_end (⟨_, _, _, _, _, w2, ps3, ps4, ex3⟩ : LS) (by assumption) nE' (by intro p hp; dsimp only at hp; first | exact List.mem_cons_of_mem _ hp | exact List.mem_cons_of_mem _ (List.mem_cons_of_mem _ hp) | exact List.mem_cons_of_mem _ (List.mem_cons_of_mem _ (List.mem_cons_of_mem _ hp))) T9 (by kst_all) (by intro z h1 h3; simp only [List.forall_mem_cons, List.not_mem_nil, false_implies, implies_true, and_true, ne_eq] at h1; simp only [List.contains_cons, List.contains_nil, Bool.or_false, Bool.or_eq_false_iff, beq_eq_false_iff_ne, ne_eq] at h3; simp [h1, h3, kstB]) (by (try dsimp only); first | (rw [show -(rr - lo1) = lo2 from by omega]; exact hNx.1) | (rw [show rr - lo1 = lo2 from by omega]; exact hNx.1)) (by (try dsimp only); exact hNx.2))
end Mine
namespace Mine
def WE (w : List Nat) : Prop := w = [] ∨ Word w
theorem word_tail {c : Nat} {r : List Nat} (h : Word (c :: r)) : WE r ∧ (c = 65 ∨ c = 66 ∨ (c = 32 ∧ Word r)) := by
  obtain ⟨ini, d, e, h1, h2⟩ := h
  cases ini with
  | nil =>
    simp only [List.nil_append, List.cons.injEq] at e
    obtain ⟨rfl, rfl⟩ := e
    exact ⟨.inl rfl, by omega⟩
  | cons b ini =>
    simp only [List.cons_append, List.cons.injEq] at e
    obtain ⟨rfl, e⟩ := e
    have hr : Word r := ⟨ini, d, e, fun x hx => h1 x (.tail _ hx), h2⟩
    refine ⟨.inr hr, ?_⟩
    rcases h1 c (.head _) with h | h | h
    · exact .inl h
    · exact .inr (.inl h)
    · exact .inr (.inr ⟨h, hr⟩)
theorem pair_A (T : Int) (r : List Nat) : pairL T (65 :: r) = (2 * (pairL T r).1 - (pairL T r).2, (pairL T r).1) := by rw [pairL]; rfl
theorem pair_B (T : Int) (r : List Nat) : pairL T (66 :: r) = (2 * (pairL T r).1 + (pairL T r).2, (pairL T r).1) := by rw [pairL]; rfl
theorem pair_S (T : Int) (r : List Nat) : pairL T (32 :: r) = ((pairL T r).1 + 2 * (pairL T r).2, (pairL T r).2) := by rw [pairL]; rfl
theorem pair_top {T : Int} (hT : 18 ≤ T) : ∀ w, Word w → (pairL T w).1 < (2 * w.length + 1) * (pairL T w).2
  | [], h => by
    obtain ⟨ini, d, e, _⟩ := h
    exact absurd e (by simp)
  | c :: r, h => by
    have hp := pair_pos (T := T) (by omega) r
    rcases (word_tail h).2 with rfl | rfl | ⟨rfl, hr⟩
    · rw [pair_A]
      dsimp only
      have h1 : (3 : Int) * (pairL T r).1 ≤ (2 * ((65 :: r).length : Int) + 1) * (pairL T r).1 := Int.mul_le_mul_of_nonneg_right (by rw [List.length_cons]; omega) (by omega)
      omega
    · rw [pair_B]
      dsimp only
      have h1 : (3 : Int) * (pairL T r).1 ≤ (2 * ((66 :: r).length : Int) + 1) * (pairL T r).1 := Int.mul_le_mul_of_nonneg_right (by rw [List.length_cons]; omega) (by omega)
      omega
    · have ih := pair_top hT r hr
      rw [pair_S]
      dsimp only
      have e : (2 * ((32 :: r).length : Int) + 1) * (pairL T r).2 = (2 * (r.length : Int) + 1) * (pairL T r).2 + 2 * (pairL T r).2 := by rw [List.length_cons]; grind
      omega
theorem top_lt {T : Int} (hT : 18 ≤ T) {w : List Nat} (h : Word w) (h8 : w.length ≤ 8) : (pairL T w).1 < T * (pairL T w).2 := by
  have h1 := pair_top hT w h
  have hp := pair_pos (T := T) (by omega) w
  have h2 : (2 * (w.length : Int) + 1) * (pairL T w).2 ≤ T * (pairL T w).2 := Int.mul_le_mul_of_nonneg_right (by omega) (by omega)
  omega
def DD (T : Int) (u v : List Nat) : Int := (pairL T u).1 * (pairL T v).2 - (pairL T v).1 * (pairL T u).2
theorem DD_swap (T : Int) (u v : List Nat) : DD T v u = -DD T u v := by unfold DD; omega
/-- where the first letters part -/
theorem rng_A {T : Int} (hT : 18 ≤ T) (r : List Nat) : (pairL T (65 :: r)).1 < 2 * (pairL T (65 :: r)).2 := by
  have hp := pair_pos (T := T) (by omega) r
  rw [pair_A]; dsimp only; omega
theorem rng_B {T : Int} (hT : 18 ≤ T) (r : List Nat) : 2 * (pairL T (66 :: r)).2 < (pairL T (66 :: r)).1 ∧ (pairL T (66 :: r)).1 < 3 * (pairL T (66 :: r)).2 := by
  have hp := pair_pos (T := T) (by omega) r
  rw [pair_B]; dsimp only; omega
theorem rng_S {T : Int} (hT : 18 ≤ T) (r : List Nat) : 3 * (pairL T (32 :: r)).2 < (pairL T (32 :: r)).1 := by
  have hp := pair_pos (T := T) (by omega) r
  rw [pair_S]; dsimp only; omega
theorem DD_neg {T k : Int} (hT : 18 ≤ T) {u v : List Nat} (h1 : (pairL T u).1 < k * (pairL T u).2) (h2 : k * (pairL T v).2 < (pairL T v).1) : DD T u v < 0 := by
  have hu := pair_pos (T := T) (by omega) u
  have hv := pair_pos (T := T) (by omega) v
  unfold DD
  generalize (pairL T u).1 = a at *
  generalize (pairL T u).2 = b at *
  generalize (pairL T v).1 = c at *
  generalize (pairL T v).2 = d at *
  have e1 : a * d < k * b * d := Int.mul_lt_mul_of_pos_right h1 hv.1
  have e2 : k * d * b < c * b := Int.mul_lt_mul_of_pos_right h2 hu.1
  have e3 : k * b * d = k * d * b := by grind
  omega
theorem DD_A (T : Int) (u v : List Nat) : DD T (65 :: u) (65 :: v) = DD T u v := by unfold DD; rw [pair_A, pair_A]; dsimp only; grind
theorem DD_B (T : Int) (u v : List Nat) : DD T (66 :: u) (66 :: v) = -DD T u v := by unfold DD; rw [pair_B, pair_B]; dsimp only; grind
theorem DD_S (T : Int) (u v : List Nat) : DD T (32 :: u) (32 :: v) = DD T u v := by unfold DD; rw [pair_S, pair_S]; dsimp only; grind
theorem code_lt (c d : Nat) (t : Bool) (hc : c = 65 ∨ c = 66 ∨ c = 32 ∨ c = 46) (hd : d = 65 ∨ d = 66 ∨ d = 32 ∨ d = 46) : codeF t c < codeF t d ↔ (if t = true then rk d < rk c else rk c < rk d) := by
  rcases hc with rfl | rfl | rfl | rfl <;> rcases hd with rfl | rfl | rfl | rfl <;> cases t <;> decide
theorem code_inj (c d : Nat) (t : Bool) (hc : c = 65 ∨ c = 66 ∨ c = 32 ∨ c = 46) (hd : d = 65 ∨ d = 66 ∨ d = 32 ∨ d = 46) : codeF t c = codeF t d ↔ c = d := by
  rcases hc with rfl | rfl | rfl | rfl <;> rcases hd with rfl | rfl | rfl | rfl <;> cases t <;> decide
abbrev PG (t : Bool) (w : List Nat) : List Nat := pageF t (w ++ [46])
abbrev SG (t : Bool) (x : Int) : Prop := if t = true then 0 < x else x < 0
theorem pg_head {t : Bool} {c d : Nat} {r r' : List Nat} (hc : c = 65 ∨ c = 66 ∨ c = 32 ∨ c = 46) (hd : d = 65 ∨ d = 66 ∨ d = 32 ∨ d = 46) (hne : c ≠ d) : (codeF t c :: r < codeF t d :: r') ↔ (if t = true then rk d < rk c else rk c < rk d) := by
  rw [List.cons_lt_cons_iff, code_lt c d t hc hd, code_inj c d t hc hd]
  constructor
  · rintro (h | ⟨h, _⟩)
    · exact h
    · exact absurd h hne
  · exact .inl
/-- the two orders, where the first letters part -/
theorem ord_part {T : Int} {t : Bool} {u v : List Nat} {c d : Nat} {r r' : List Nat} (eu : PG t u = codeF t c :: r) (ev : PG t v = codeF t d :: r') (hc : c = 65 ∨ c = 66 ∨ c = 32 ∨ c = 46) (hd : d = 65 ∨ d = 66 ∨ d = 32 ∨ d = 46) (hne : c ≠ d)
    (h1 : rk c < rk d → DD T u v < 0) (h2 : rk d < rk c → 0 < DD T u v) : PG t u < PG t v ↔ SG t (DD T u v) := by
  rw [eu, ev, pg_head hc hd hne]
  have h3 : rk c ≠ rk d := by
    rcases hc with rfl | rfl | rfl | rfl <;> rcases hd with rfl | rfl | rfl | rfl <;> first | exact absurd rfl hne | decide
  cases t
  · simp only [SG, Bool.false_eq_true, if_false]
    constructor
    · exact h1
    · intro h
      by_cases hl : rk c < rk d
      · exact hl
      · have := h2 (by omega); omega
  · simp only [SG, if_true]
    constructor
    · exact h2
    · intro h
      by_cases hl : rk d < rk c
      · exact hl
      · have := h1 (by omega); omega
end Mine
namespace Mine
theorem part_neg {T : Int} (hT : 18 ≤ T) {c d : Nat} {u v : List Nat} (hc : c = 65 ∨ c = 66 ∨ c = 32) (hd : d = 65 ∨ d = 66 ∨ d = 32) (h : rk c < rk d) : DD T (c :: u) (d :: v) < 0 := by
  have pu := pair_pos (T := T) (by omega) (c :: u)
  have pv := pair_pos (T := T) (by omega) (d :: v)
  rcases hc with rfl | rfl | rfl <;> rcases hd with rfl | rfl | rfl
  · exact absurd h (by decide)
  · exact DD_neg (k := 2) hT (rng_A hT u) (rng_B hT v).1
  · exact DD_neg (k := 3) hT (by have := rng_A hT u; omega) (rng_S hT v)
  · exact absurd h (by decide)
  · exact absurd h (by decide)
  · exact DD_neg (k := 3) hT (rng_B hT u).2 (rng_S hT v)
  · exact absurd h (by decide)
  · exact absurd h (by decide)
  · exact absurd h (by decide)
theorem we_cons {c : Nat} {r : List Nat} (h : WE (c :: r)) : Word (c :: r) := h.elim (fun e => absurd e (by simp)) id
theorem SG_neg {t : Bool} {x : Int} : SG (!t) x ↔ SG t (-x) := by
  cases t
  · simp only [SG, Bool.not_false, if_true, Bool.false_eq_true, if_false]; omega
  · simp only [SG, Bool.not_true, if_true, Bool.false_eq_true, if_false]; omega
theorem cons_same {a : Nat} {l r : List Nat} : (a :: l < a :: r) ↔ l < r := by
  rw [List.cons_lt_cons_iff]
  constructor
  · rintro (h | ⟨_, h⟩)
    · exact absurd h (Nat.lt_irrefl _)
    · exact h
  · exact fun h => .inr ⟨rfl, h⟩
theorem ord_main {T : Int} (hT : 18 ≤ T) : ∀ (u v : List Nat) (t : Bool), WE u → WE v → u.length ≤ 8 → v.length ≤ 8 → (PG t u < PG t v ↔ SG t (DD T u v))
  | [], [], t, _, _, _, _ => by
    have e : DD T [] [] = 0 := by unfold DD; omega
    rw [e]
    constructor
    · intro h; exact absurd h (List.lt_irrefl _)
    · intro h; cases t <;> simp [SG] at h
  | [], d :: v, t, _, hv, _, h8 => by
    have hw := we_cons hv
    have hd := (word_tail hw).2
    have ht := top_lt hT hw h8
    have e : DD T [] (d :: v) = T * (pairL T (d :: v)).2 - (pairL T (d :: v)).1 * 1 := rfl
    refine ord_part (c := 46) (d := d) (r := []) (r' := pageF (flipF t d) (v ++ [46])) rfl rfl (by omega) (by omega) (by omega) (fun h => ?_) (fun _ => by omega)
    have := rk_bound d
    have : rk 46 = 3 := rfl
    omega
  | c :: u, [], t, hu, _, h8, _ => by
    have hw := we_cons hu
    have hc := (word_tail hw).2
    have ht := top_lt hT hw h8
    have e : DD T (c :: u) [] = (pairL T (c :: u)).1 * 1 - T * (pairL T (c :: u)).2 := rfl
    refine ord_part (c := c) (d := 46) (r := pageF (flipF t c) (u ++ [46])) (r' := []) rfl rfl (by omega) (by omega) (by omega) (fun _ => by omega) (fun h => ?_)
    have := rk_bound c
    have : rk 46 = 3 := rfl
    omega
  | c :: u, d :: v, t, hu, hv, h8, h8' => by
    have hwu := we_cons hu
    have hwv := we_cons hv
    have hcu := word_tail hwu
    have hdv := word_tail hwv
    by_cases hcd : c = d
    · subst hcd
      have ih := fun t' => ord_main hT u v t' hcu.1 hdv.1 (by rw [List.length_cons] at h8; omega) (by rw [List.length_cons] at h8'; omega)
      have e1 : PG t (c :: u) = codeF t c :: PG (flipF t c) u := rfl
      have e2 : PG t (c :: v) = codeF t c :: PG (flipF t c) v := rfl
      rw [e1, e2, cons_same, ih]
      rcases hcu.2 with rfl | rfl | ⟨rfl, _⟩
      · rw [DD_A]; rfl
      · rw [DD_B, show flipF t 66 = !t from rfl, SG_neg]
      · rw [DD_S]; rfl
    · refine ord_part (c := c) (d := d) (r := pageF (flipF t c) (u ++ [46])) (r' := pageF (flipF t d) (v ++ [46])) rfl rfl (by omega) (by omega) hcd (fun h => part_neg hT (by omega) (by omega) h) (fun h => ?_)
      have := part_neg (u := v) (v := u) hT (c := d) (d := c) (by omega) (by omega) h
      rw [DD_swap] at this
      omega
/-- what the law asks of the pages -/
theorem coll_page {T : Int} (hT : 18 ≤ T) {u v : List Nat} (hu : Word u) (hv : Word v) (h8 : u.length ≤ 8) (h8' : v.length ≤ 8) {a b : Int} (ha : a - b = DD T u v * (4 * ((pairL T u).2 * (pairL T v).2))) :
    collS (S (PG false u)) (S (PG false v)) = if a = b then 0 else if a > b then 1 else -1 := by
  have pu := pair_pos (T := T) (by omega) u
  have pv := pair_pos (T := T) (by omega) v
  have hp : 0 < 4 * ((pairL T u).2 * (pairL T v).2) := by have := Int.mul_pos pu.1 pv.1; omega
  have h1 := ord_main hT u v false (.inr hu) (.inr hv) h8 h8'
  have h2 := ord_main hT v u false (.inr hv) (.inr hu) h8' h8
  simp only [SG, Bool.false_eq_true, if_false] at h1 h2
  rw [DD_swap] at h2
  have k1 : DD T u v < 0 ↔ a < b := by
    constructor
    · intro h
      have := Int.mul_neg_of_neg_of_pos h hp
      omega
    · intro h
      by_cases hn : 0 ≤ DD T u v
      · have := Int.mul_nonneg hn (Int.le_of_lt hp); omega
      · omega
  have k2 : 0 < DD T u v ↔ b < a := by
    constructor
    · intro h
      have := Int.mul_pos h hp
      omega
    · intro h
      by_cases hn : DD T u v ≤ 0
      · have := Int.mul_nonpos_of_nonpos_of_nonneg hn (Int.le_of_lt hp); omega
      · omega
  unfold collS
  have g1 : decide ((S (PG false v)).cps.toList < (S (PG false u)).cps.toList) = decide (b < a) := by
    rw [decide_eq_decide]
    show PG false v < PG false u ↔ _
    rw [h2, ← k2]; omega
  have g2 : decide ((S (PG false u)).cps.toList < (S (PG false v)).cps.toList) = decide (a < b) := by
    rw [decide_eq_decide]
    show PG false u < PG false v ↔ _
    rw [h1, k1]
  rw [g1, g2]
  by_cases c1 : a = b
  · subst c1; simp [b2i]
  · by_cases c2 : a > b
    · have : ¬ a < b := by omega
      simp [b2i, c1, c2, this]
    · have c3 : a < b := by omega
      have : ¬ b < a := by omega
      simp [b2i, c1, c2, c3, this]
theorem coll_pre (l : List Nat) (c : Nat) : collS (S l) (S (l ++ [c])) = -1 ∧ collS (S (l ++ [c])) (S l) = 1 := by
  have h1 : ∀ l : List Nat, l < l ++ [c] := by
    intro l
    induction l with
    | nil => exact List.nil_lt_cons _ _
    | cons a r ih => exact cons_same.mpr ih
  have h1 := h1 l
  have h2 : ¬ (l ++ [c] < l) := fun h => absurd (List.lt_trans h h1) (List.lt_irrefl _)
  constructor
  · unfold collS
    have g1 : decide ((S (l ++ [c])).cps.toList < (S l).cps.toList) = false := decide_eq_false h2
    have g2 : decide ((S l).cps.toList < (S (l ++ [c])).cps.toList) = true := decide_eq_true h1
    rw [g1, g2]; rfl
  · unfold collS
    have g1 : decide ((S (l ++ [c])).cps.toList < (S l).cps.toList) = false := decide_eq_false h2
    have g2 : decide ((S l).cps.toList < (S (l ++ [c])).cps.toList) = true := decide_eq_true h1
    rw [g1, g2]; rfl
end Mine
namespace Mine
open Builtin.Int (intBits)
def P43 : Int := 2 ^ 4300
theorem P43_pos : 0 < P43 := kbt_pos _
section
variable {w : World} {A : Around} {E : Value → Shared → Prop} {s : Shared} {a b : Int} {t u : Tok} {Q : Value → Shared → Prop}
theorem r_pow43 (h : Q (.int P43 s.toks) { s with toks := s.toks + 1 }) : wpAny (model PRG w) A (binaryOp .Pow (.int 2 t) (.int 4300 u)) Q E s := by
  refine pow_int (by decide) (by decide) ?_
  exact h
theorem r_pow3 (f : Mul (a * a) a b) (hs : (intBits a : Int) * 3 ≤ 2 ^ 27) (h : Q (.int b s.toks) { s with toks := s.toks + 1 }) : wpAny (model PRG w) A (binaryOp .Pow (.int a t) (.int 3 u)) Q E s := by
  refine pow_int (by decide) hs ?_
  rw [show (3 : Int).toNat = 3 from rfl, show a ^ 3 = a * a * a from by rw [Int.pow_succ, Int.pow_succ, Int.pow_succ, Int.pow_zero, Int.one_mul], f.he]
  exact h
theorem r_modN (hb : 0 < b) (h : ∀ n : Nat, (n : Int) < b → Q (.int (n : Int) s.toks) { s with toks := s.toks + 1 }) : wpAny (model PRG w) A (binaryOp .Mod (.int a t) (.int b u)) Q E s := by
  refine PyProof.Rows.mod_int (by omega) ?_
  have h0 := fmod_lo a hb
  have h1 := fmod_hi a hb
  obtain ⟨n, hn⟩ := Int.eq_ofNat_of_zero_le h0
  rw [hn] at h1 ⊢
  exact h n h1
theorem r_fdivF (hb : b ≠ 0) (hp : b.natAbs < 1073741824) (h : ∀ x, Q (.int x s.toks) { s with toks := s.toks + 1 }) : wpAny (model PRG w) A (binaryOp .FloorDiv (.int a t) (.int b u)) Q E s := floordiv_int hb (h _) (.inl (PyProof.noPylong_small hp))
end
theorem far_top {n : Nat} (h : (n : Int) < P43) : TopOk (2 * (8 + (n : Int)) + 2) := by
  constructor
  · omega
  · have e : (2 : Int) ^ 4400 = P43 * 2 ^ 100 := by unfold P43; rw [← Int.pow_add]
    have e2 : (2 : Int) ^ 100 = 1267650600228229401496703205376 := rfl
    have := P43_pos
    rw [e, e2]
    omega
section
variable {h₀ h : Heap} {L : Addr} {ps1 ps2 : Array Value} {ex rest : Led} {e1 e2 e3 e4 e5 e6 e7 e8 : Addr × Obj}
theorem permL (es : Led) (N : News h₀ L h (es ++ tabLed ps1 ps2 ex rest)) : News h₀ L h (tabLed ps1 ps2 ex (es ++ rest)) := fun p hp => N p (by
  simp only [tabLed, List.mem_cons, List.mem_append] at hp ⊢; grind)
theorem perm_0 (N : News h₀ L h (tabLed ps1 ps2 ex rest)) : News h₀ L h (tabLed ps1 ps2 ex rest) := N
theorem perm_1 (N : News h₀ L h (e1 :: tabLed ps1 ps2 ex rest)) : News h₀ L h (tabLed ps1 ps2 ex (e1 :: rest)) := permL [e1] N
theorem perm_2 (N : News h₀ L h (e1 :: e2 :: tabLed ps1 ps2 ex rest)) : News h₀ L h (tabLed ps1 ps2 ex (e1 :: e2 :: rest)) := permL [e1, e2] N
theorem perm_3 (N : News h₀ L h (e1 :: e2 :: e3 :: tabLed ps1 ps2 ex rest)) : News h₀ L h (tabLed ps1 ps2 ex (e1 :: e2 :: e3 :: rest)) := permL [e1, e2, e3] N
theorem perm_4 (N : News h₀ L h (e1 :: e2 :: e3 :: e4 :: tabLed ps1 ps2 ex rest)) : News h₀ L h (tabLed ps1 ps2 ex (e1 :: e2 :: e3 :: e4 :: rest)) := permL [e1, e2, e3, e4] N
theorem perm_5 (N : News h₀ L h (e1 :: e2 :: e3 :: e4 :: e5 :: tabLed ps1 ps2 ex rest)) : News h₀ L h (tabLed ps1 ps2 ex (e1 :: e2 :: e3 :: e4 :: e5 :: rest)) := permL [e1, e2, e3, e4, e5] N
theorem perm_6 (N : News h₀ L h (e1 :: e2 :: e3 :: e4 :: e5 :: e6 :: tabLed ps1 ps2 ex rest)) : News h₀ L h (tabLed ps1 ps2 ex (e1 :: e2 :: e3 :: e4 :: e5 :: e6 :: rest)) := permL [e1, e2, e3, e4, e5, e6] N
theorem perm_7 (N : News h₀ L h (e1 :: e2 :: e3 :: e4 :: e5 :: e6 :: e7 :: tabLed ps1 ps2 ex rest)) : News h₀ L h (tabLed ps1 ps2 ex (e1 :: e2 :: e3 :: e4 :: e5 :: e6 :: e7 :: rest)) := permL [e1, e2, e3, e4, e5, e6, e7] N
theorem perm_8 (N : News h₀ L h (e1 :: e2 :: e3 :: e4 :: e5 :: e6 :: e7 :: e8 :: tabLed ps1 ps2 ex rest)) : News h₀ L h (tabLed ps1 ps2 ex (e1 :: e2 :: e3 :: e4 :: e5 :: e6 :: e7 :: e8 :: rest)) := permL [e1, e2, e3, e4, e5, e6, e7, e8] N
end
theorem tabs_nil : Tabs #[] #[] [] := ⟨.inl rfl, .inl rfl, fun _ h => nomatch h⟩
theorem take_word {u v : List Nat} (hu : Word u) (hv : Word v) (n : Nat) : Word (u.take n ++ v) := by
  obtain ⟨ini, c, e, h1, h2⟩ := hv
  refine ⟨u.take n ++ ini, c, by rw [e, List.append_assoc], fun x hx => ?_, h2⟩
  rcases List.mem_append.mp hx with hx | hx
  · exact hu.ltrs x (List.mem_of_mem_take hx)
  · exact h1 x hx
theorem r_addW {w : World} {A : Around} {E : Value → Shared → Prop} {s : Shared} {x y : Str} {t u : Tok} {Q : Value → Shared → Prop} {a b : List Nat} {n : Nat} (hx : x = S (a.take n)) (hy : y = S b) (ha : Word a) (hb : Word b) (h1 : a.length ≤ 4) (h2 : b.length ≤ 4) (h : ∀ t' tk, Word (a.take n ++ b) → (a.take n ++ b).length ≤ 8 → Q (.str (S (a.take n ++ b)) t') { s with toks := tk }) : wpAny (model PRG w) A (binaryOp .Add (.str x t) (.str y u)) Q E s := by
  have hl : (a.take n).length ≤ 4 := by rw [List.length_take]; omega
  exact r_addS hx hy (by omega) (by omega) fun t' tk => h t' tk (take_word ha hb n) (by rw [List.length_append]; omega)
end Mine
namespace Mine
open Builtin.Int (intBits)
theorem word_big {T : Int} (hT : 18 ≤ T) : ∀ w, Word w → T ≤ (pairL T w).2
  | [], h => by
    obtain ⟨ini, d, e, _⟩ := h
    exact absurd e (by simp)
  | c :: r, h => by
    have hp := pair_pos (T := T) (by omega) r
    have hr := word_tail h
    rcases hr.2 with rfl | rfl | ⟨rfl, hw⟩
    · rw [pair_A]; dsimp only
      rcases hr.1 with rfl | hw
      · exact Int.le_refl _
      · have := word_big hT r hw; omega
    · rw [pair_B]; dsimp only
      rcases hr.1 with rfl | hw
      · exact Int.le_refl _
      · have := word_big hT r hw; omega
    · rw [pair_S]; dsimp only
      exact word_big hT r hw
/-- what the law asks of one word, in numbers -/
structure WF (T : Int) (wd : List Nat) (m n : Int) : Prop where
  i1 : LInv T (2 * n) wd (sd2 (m, n)) (sd3 (m, n) - sd1 (m, n))
  i2 : LInv T (2 * m) wd (sd3 (m, n) + sd1 (m, n)) (sd2 (m, n))
  g1 : T ≤ 2 * n
  g1' : 2 * n ≤ 2 ^ 4420
  g2 : T ≤ 2 * m
  g2' : 2 * m ≤ 2 ^ 4420
  n0 : 0 < 2 * n
  m0 : 0 < 2 * m
  nB : 2 * n ≤ BB
  mB : 2 * m ≤ BB
  M1 : Mul (2 * n) (2 * m) (2 * n * (2 * m))
  p1 : 0 < 2 * n * (2 * m)
  M2 : Mul (sd2 (m, n)) (sd3 (m, n) + sd1 (m, n)) (sd2 (m, n) * (sd3 (m, n) + sd1 (m, n)))
  S2 : Shl (sd2 (m, n) * (sd3 (m, n) + sd1 (m, n))) 2 (4 * (sd2 (m, n) * (sd3 (m, n) + sd1 (m, n))))
  M3 : Mul (2 * m * (2 * m)) (2 * m) (2 * m * (2 * m) * (2 * m))
  b3 : (intBits (2 * m) : Int) * 3 ≤ 2 ^ 27
  e : 4 * (sd2 (m, n) * (sd3 (m, n) + sd1 (m, n))) = 2 * m * (2 * m) * (2 * m) * (2 * n)
  D0 : DvOk (4 * (sd2 (m, n) * (sd3 (m, n) + sd1 (m, n))) + 0) (2 * n)
  D1 : DvOk (4 * (sd2 (m, n) * (sd3 (m, n) + sd1 (m, n))) + (2 * n - 1)) (2 * n)
  ap : 0 < 4 * (sd2 (m, n) * (sd3 (m, n) + sd1 (m, n)))
theorem word_facts {T : Int} (hT : TopOk T) {wd : List Nat} (hW : Word wd) (h8 : wd.length ≤ 8) : WF T wd (pairL T wd).1 (pairL T wd).2 := by
  have hT0 := hT.lo
  have hp := pair_pos (T := T) (by omega) wd
  have hs := pair_small hT h8
  have hb := word_big hT0 wd hW
  have ht := pair_top hT0 wd hW
  have ht2 : (2 * (wd.length : Int) + 1) * (pairL T wd).2 ≤ 17 * (pairL T wd).2 := Int.mul_le_mul_of_nonneg_right (by omega) (by omega)
  have u1 : sd2 ((pairL T wd).1, (pairL T wd).2) = 2 * (pairL T wd).2 * (pairL T wd).1 := by simp only [sd2]; grind
  have u2 : sd3 ((pairL T wd).1, (pairL T wd).2) - sd1 ((pairL T wd).1, (pairL T wd).2) = 2 * (pairL T wd).2 * (pairL T wd).2 := by simp only [sd3, sd1]; grind
  have u3 : sd3 ((pairL T wd).1, (pairL T wd).2) + sd1 ((pairL T wd).1, (pairL T wd).2) = 2 * (pairL T wd).1 * (pairL T wd).1 := by simp only [sd3, sd1]; grind
  have u4 : sd2 ((pairL T wd).1, (pairL T wd).2) = 2 * (pairL T wd).1 * (pairL T wd).2 := by simp only [sd2]; grind
  have L1 : LInv T (2 * (pairL T wd).2) wd _ _ := ⟨u1, u2, .inr hW, h8⟩
  have L2 : LInv T (2 * (pairL T wd).1) wd _ _ := ⟨u3, u4, .inr hW, h8⟩
  have hk1 : (2 : Int) ^ 4413 * 2 ≤ 2 ^ 4420 := by rw [← Int.pow_succ]; exact pow_le_of (by decide)
  have hBB := BB_ge (k := 4420) (by decide)
  generalize (pairL T wd).1 = m at *
  generalize (pairL T wd).2 = n at *
  have c1 := mul_small (x := 2 * m) (y := 2 * m) (i := 4420) (j := 4420) (by omega) (by omega) (by omega) (by omega)
  have c2 := mul_small c1.1 c1.2 (y := 2 * m) (j := 4420) (by omega) (by omega)
  have c3 := mul_small c2.1 c2.2 (y := 2 * n) (j := 4420) (by omega) (by omega)
  have k1 := BB_ge (k := 4420 + 4420) (by decide)
  have k2 := BB_ge (k := 4420 + 4420 + 4420) (by decide)
  have k3 := BB_ge (k := 4420 + 4420 + 4420 + 4420) (by decide)
  have k4 : (2 : Int) ^ (4420 + 4420 + 4420 + 4420) * 2 ≤ 2 ^ 30000 := by rw [← Int.pow_succ]; exact pow_le_of (by decide)
  have k5 : (2 : Int) ^ 4420 ≤ 2 ^ 8900 := pow_le_of (by decide)
  have k6 : (2 : Int) ^ 4420 ≤ 2 ^ (4420 + 4420 + 4420 + 4420) := pow_le_of (by decide)
  have e : 4 * (sd2 (m, n) * (sd3 (m, n) + sd1 (m, n))) = 2 * m * (2 * m) * (2 * m) * (2 * n) := by rw [u1, u3]; grind
  have nn : 0 < n * n := Int.mul_pos (by omega) (by omega)
  have mm : 0 < m * m := Int.mul_pos (by omega) (by omega)
  have ap : 0 < 2 * m * (2 * m) * (2 * m) * (2 * n) := Int.mul_pos (Int.mul_pos (Int.mul_pos (by omega) (by omega)) (by omega)) (by omega)
  have x1 : m * m ≤ 17 * n * (17 * n) := Int.mul_le_mul (by omega) (by omega) (by omega) (by omega)
  have x2 : m * m * m ≤ 17 * n * (17 * n) * (17 * n) := Int.mul_le_mul x1 (by omega) (by omega) (by have := Int.mul_nonneg (show (0 : Int) ≤ 17 * n by omega) (show (0 : Int) ≤ 17 * n by omega); omega)
  have x3 : 16 * (m * m * m) * n ≤ 16 * (17 * n * (17 * n) * (17 * n)) * n := Int.mul_le_mul_of_nonneg_right (by omega) (by omega)
  have x4 : 2 * m * (2 * m) * (2 * m) * (2 * n) = 16 * (m * m * m) * n := by grind
  have x5 : 16 * (17 * n * (17 * n) * (17 * n)) * n = 78608 * (n * n * (n * n)) := by grind
  have x6 : 2 * n * (2 * n) * 2 ^ 20 * (2 * n * (2 * n)) = 16777216 * (n * n * (n * n)) := by
    rw [show (2 : Int) ^ 20 = 1048576 from rfl]; grind
  have x7 : n ≤ n * n * (n * n) := by
    have y1 : n * 1 ≤ n * n := Int.mul_le_mul_of_nonneg_left (by omega) (by omega)
    have y2 : n * n * 1 ≤ n * n * (n * n) := Int.mul_le_mul_of_nonneg_left (by omega) (by omega)
    omega
  have pS : 0 < sd2 (m, n) * (sd3 (m, n) + sd1 (m, n)) := by omega
  refine ⟨L1, L2, by omega, by omega, by omega, by omega, by omega, by omega, by omega, by omega, mulB (by omega) (by omega) (by omega) (by omega), Int.mul_pos (by omega) (by omega), ?_, shl2 (by omega) (by omega), mulB (by omega) (by omega) (by omega) (by omega), ?_, e, dv_of (by omega) (by omega) (by omega) (by omega) (by omega), dv_of (by omega) (by omega) (by omega) (by omega) (by omega), by omega⟩
  · have z1 := mul_small (x := m) (y := n) (i := 4420) (j := 4420) (by omega) (by omega) (by omega) (by omega)
    have z2 := mul_small (x := m) (y := m) (i := 4420) (j := 4420) (by omega) (by omega) (by omega) (by omega)
    rw [u3]
    have w1 : 2 * m * m = 2 * (m * m) := by grind
    rw [w1]
    simp only [sd2]
    exact mulB (by omega) (by omega) (by omega) (by omega)
  · have e21 : (2 : Int) ^ 4421 = 2 * 2 ^ 4420 := by rw [Int.pow_succ]; omega
    have := bits_lt (x := 2 * m) (k := 4421) (by omega) (by omega)
    omega
theorem sides_w (w : World) (news : Led) (wd : List Nat) (far : Int) (tw tf : Tok) (hT : TopOk (2 * far + 2)) (hw : wd.length ≤ 8) (hW : Word wd) :
    Con w 119 8 64 news [.str (S wd) tw, .int far tf] (fun r news' => ∃ D t1 t2 t3, r = .ref D ∧ news' = (D, lstO [.int (sd1 (pairL (2 * far + 2) wd)) t1, .int (sd2 (pairL (2 * far + 2) wd)) t2, .int (sd3 (pairL (2 * far + 2) wd)) t3]) :: news ∧ (∀ p ∈ news, p.1 < D) ∧ WF (2 * far + 2) wd (pairL (2 * far + 2) wd).1 (pairL (2 * far + 2) wd).2) :=
  con_weaken (sides w news wd far tw tf hT hw hW.ltrs) (fun _ h => h) (by
    rintro r n' ⟨D, t1, t2, t3, h1, h2, h3⟩
    exact ⟨n', fun _ h => h, D, t1, t2, t3, h1, h2, h3, word_facts hT hW hw⟩)
end Mine
namespace Mine
abbrev itL (ax : Addr) (i : Nat) (it : Obj) : Prop := it.cls = .type "list_iterator" ∧ it.data = .fields #[.ref ax, .int i 0]
/-- a loop over a written list by what holds between the turns -/
theorem list_state {σ : Type} {w : World} {A : Around} {E : Value → Shared → Prop} {s : Shared} {env : Env} {h₀ : Heap} {x : Str} {body : List Stmt} {Q : Flow → Shared → Prop} {ax : Addr} {lo : Obj} {vs : List Value} {n : Nat} {m₀ : Str → Option Value} {news : Led}
    (Ld : σ → Led) (ps : σ → List (Str × Value)) (stored : List Str) (P : List Value → σ → Prop) (c₀ : σ) (hh : A.handled = none) (F : Fr h₀ env.locals s.heap m₀) (N : News h₀ env.locals s.heap news)
    (hl0 : ∀ p ∈ Ld c₀, p ∈ news) (hla : ∀ c, (ax, lo) ∈ Ld c) (hc : lo.cls = .type "list") (hd : lo.data = .seq vs.toArray n) (hk : ∀ p ∈ ps c₀, m₀ p.1 = some p.2) (hp : P vs c₀)
    (turn : ∀ (I : Addr) (c : σ) (v : Value) (r : List Value) (i : Nat) (it : Obj) (u : Str → Option Value) h tk, (∀ p ∈ news, p.1 < I) → P (v :: r) c → itL ax i it → (∀ p ∈ Ld c, p.1 ≠ I) → Fr h₀ env.locals h (fun y => if y = x then some v else kstB (fun z => if stored.contains z then u z else m₀ z) (ps c) y) →
      News h₀ env.locals h ((I, it) :: Ld c) → wpAny (model PRG w) A (execs body env) (RvPost h₀ env.locals x I it Ld ps stored m₀ P r { s with heap := h, toks := tk } Q) E { s with heap := h, toks := tk })
    (done : ∀ (c : σ) (u : Str → Option Value) h tk, P [] c → Fr h₀ env.locals h (fun y => if y = x then u y else kstB (fun z => if stored.contains z then u z else m₀ z) (ps c) y) → News h₀ env.locals h (Ld c) → Q .next { s with heap := h, toks := tk }) :
    wpAny (model PRG w) A (pyIter (.ref ax)) (fun it s₂ => LoopAtV PRG w A h₀ env x body Q E it s₂) E s := by
  have hax := N _ (hl0 _ (hla c₀))
  have isL : s.heap.IsList ax vs.toArray := ⟨lo, hax.1, hc, n, hd⟩
  have lI : ∀ p ∈ news, @LT.lt Nat _ p.1 s.heap.objs.size := fun p hp => Heap.lt_size (N p hp).1
  have nax := Nat.ne_of_lt (lI _ (hl0 _ (hla c₀)))
  have W := Walks.list (prog := PRG) (w := w) hh s.heap.objs.size ax nax vs.toArray
  rw [show vs.toArray.size = vs.length from by simp] at W
  refine wpAny_pyIter_list isL ⟨_, _, _, vs.length, _, _, m₀, news, fun i m led => ∃ c, P (vs.drop i) c ∧ (∀ p ∈ Ld c, p ∈ led) ∧ (∀ p ∈ ps c, m p.1 = some p.2) ∧ ∀ z, z ≠ x → (∀ p ∈ ps c, z ≠ p.1) → stored.contains z = false → m z = m₀ z, rfl, W, ?_, ?_, ?_, ⟨⟨_, Heap.get?_push_size _ rfl, rfl, rfl⟩, isL.at fun o e => Heap.get?_push_of_some _ e⟩, F.push _, fun p hp => ⟨Heap.get?_push_of_some _ (N p hp).1, (N p hp).2⟩, ⟨c₀, hp, hl0, hk, fun _ _ _ _ => rfl⟩, ?_, ?_⟩
  · intro q
    simp only [List.mem_cons, List.not_mem_nil, or_false] at q
    rcases q with q | q
    · exact Nat.lt_irrefl _ (q ▸ F.ns.lt)
    · exact hax.2.1 q.symm
  · intro b hb
    rw [List.mem_singleton.mp hb]
    exact next_is_new F
  · intro p hp q
    exact Nat.lt_irrefl _ ((List.mem_singleton.mp q) ▸ lI p hp)
  · rintro i v m₁ led s₁ own ⟨h, tk, rfl⟩ hi hv ⟨c, hP, hs, k1, k2⟩ hoff hown hget hall hst F₁ N₁
    obtain ⟨it, hit, hic, hid⟩ := hst.1
    have mI := hall s.heap.objs.size (.head _) (next_is_new F) it hit
    have dr : vs.drop i = v :: vs.drop (i + 1) := by
      have g : vs[i]? = some v := by simpa using hv
      obtain ⟨g1, g2⟩ := List.getElem?_eq_some_iff.mp g
      rw [List.drop_eq_getElem_cons g1, g2]
    rw [dr] at hP
    have hoffI : ∀ p ∈ Ld c, p.1 ≠ s.heap.objs.size := fun p hp q => hoff p (hs p hp) (by rw [q]; exact .head _)
    have F2 : Fr h₀ env.locals h (fun y => if y = x then some v else kstB (fun z => if stored.contains z then m₁ z else m₀ z) (ps c) y) := kst_fr k1 k2 F₁
    refine wpAny_mono (turn s.heap.objs.size c v (vs.drop (i + 1)) (i + 1) it m₁ h tk lI hP ⟨hic, hid⟩ hoffI F2 (fun p hp => ?_)) (fun f s₂ p => ?_) fun _ _ e => e
    · rcases List.mem_cons.mp hp with rfl | hp
      · exact N₁ _ (List.mem_append_left _ mI)
      · exact N₁ _ (List.mem_append_right _ (hs p hp))
    have ownIs : ∀ p ∈ own, p = (s.heap.objs.size, it) ∨ p = (ax, lo) := by
      rintro ⟨b, o⟩ hp
      have g : h.get? b = some o := hget _ hp
      have q := hown _ hp
      simp only [List.mem_cons, List.not_mem_nil, or_false] at q
      rcases q with rfl | rfl
      · exact .inl (by rw [Option.some.inj (g.symm.trans hit)])
      · exact .inr (by rw [Option.some.inj (g.symm.trans (N₁ _ (List.mem_append_right _ (hs _ (hla c)))).1)])
    have fin : (∃ (c : σ) (h' : Heap) (tk' : Nat) (m' : Str → Option Value) (news' : Led), s₂ = { s with heap := h', toks := tk' } ∧ Fr h₀ env.locals h' m' ∧ News h₀ env.locals h' news' ∧ (s.heap.objs.size, it) ∈ news' ∧ (∀ p ∈ Ld c, p ∈ news') ∧ (∀ p ∈ Ld c, p.1 ≠ s.heap.objs.size) ∧ (∀ p ∈ ps c, m' p.1 = some p.2) ∧
        (∀ z, z ≠ x → (∀ p ∈ ps c, z ≠ p.1) → stored.contains z = false → m' z = m₀ z) ∧ P (vs.drop (i + 1)) c) →
        LoopStepU h₀ env.locals [s.heap.objs.size] own (fun m led => ∃ c, P (vs.drop (i + 1)) c ∧ (∀ p ∈ Ld c, p ∈ led) ∧ (∀ p ∈ ps c, m p.1 = some p.2) ∧ ∀ z, z ≠ x → (∀ p ∈ ps c, z ≠ p.1) → stored.contains z = false → m z = m₀ z) { s with heap := h, toks := tk } .next s₂ := by
      rintro ⟨c', h', tk', m', news', rfl, F', N', hit', hin, hof, j1, j2, hP'⟩
      refine ⟨rfl, h', tk', m', Ld c', rfl, F', fun p hp => ?_, fun p hp q => hof p hp (List.mem_singleton.mp q), c', hP', fun _ h => h, j1, j2⟩
      rcases List.mem_append.mp hp with hp | hp
      · rcases ownIs p hp with rfl | rfl
        · exact N' _ hit'
        · exact N' _ (hin _ (hla c'))
      · exact N' _ (hin p hp)
    cases f with
    | ret v => exact .ret p
    | brk => exact .brk p
    | next => exact .next (fin p)
    | cont => exact .cont (fin p)
  · rintro h' tk m' led F' N' _ ⟨c, hP, hs, k1, k2⟩
    rw [List.drop_length] at hP
    exact done c m' h' tk hP (kst_frOut k1 k2 F') fun p hp => N' p (hs p hp)
/-- an object of the code tables is no list's iterator -/
theorem ex_offI {h₀ h : Heap} {L I ax : Addr} {i : Nat} {it : Obj} {ps1 ps2 : Array Value} {ex led : Led} (N : News h₀ L h led) (T : Tabs ps1 ps2 ex) (hm : (I, it) ∈ led) (hit : itL ax i it) {p : Addr × Obj} (hp : p ∈ ex) (hl : p ∈ led) : p.1 ≠ I := by
  intro e
  obtain ⟨vs, q, t, hv, hq⟩ := (T.fl p hp).2
  have e1 := (N _ hl).1
  have e2 := (N _ hm).1
  rw [e] at e1
  have e3 := congrArg Obj.data (Option.some.inj (e1.symm.trans e2))
  rw [hv, hit.2] at e3
  injection e3 with e3
  rw [e3] at hq
  cases hq

def TnPost (h₀ : Heap) (L : Addr) (I : Addr) (it : Obj) (news : Led) (stored : List Str) (m₀ : Str → Option Value) (s₁ : Shared) (Q : Flow → Shared → Prop) (f : Flow) (s₂ : Shared) : Prop :=
  match f with
  | .ret v => Q (.ret v) s₂
  | .brk => Q .next s₂
  | _ => ∃ (h' : Heap) (tk' : Nat) (m' : Str → Option Value) (news' : Led), s₂ = { s₁ with heap := h', toks := tk' } ∧ Fr h₀ L h' m' ∧ News h₀ L h' news' ∧ (I, it) ∈ news' ∧ (∀ p ∈ news, p ∈ news') ∧ (∀ z, stored.contains z = false → m' z = m₀ z)
theorem tn_end {h₀ : Heap} {L I : Addr} {it : Obj} {news news' : Led} {stored : List Str} {m₀ m' : Str → Option Value} {s₁ : Shared} {Q : Flow → Shared → Prop} {h' : Heap} {tk' : Nat} (F : Fr h₀ L h' m') (N : News h₀ L h' news') (hi : (I, it) ∈ news') (hl : ∀ p ∈ news, p ∈ news')
    (hr : ∀ z, stored.contains z = false → m' z = m₀ z) : TnPost h₀ L I it news stored m₀ s₁ Q .next { s₁ with heap := h', toks := tk' } := ⟨h', tk', m', news', rfl, F, N, hi, hl, hr⟩
/-- a loop over a list, its target a tuple, whose turns leave nothing behind -/
theorem list_turns {w : World} {A : Around} {E : Value → Shared → Prop} {s : Shared} {env : Env} {h₀ : Heap} {target : PySem.Expr} {body : List Stmt} {Q : Flow → Shared → Prop} {ax : Addr} {lo : Obj} {vs : List Value} {n : Nat} {m₀ : Str → Option Value} {news : Led}
    (stored : List Str) (hh : A.handled = none) (F : Fr h₀ env.locals s.heap m₀) (N : News h₀ env.locals s.heap news)
    (hm : (ax, lo) ∈ news) (hc : lo.cls = .type "list") (hd : lo.data = .seq vs.toArray n)
    (turn : ∀ (I : Addr) (v : Value) (it : Obj) (u : Str → Option Value) h tk, (∀ p ∈ news, p.1 < I) → v ∈ vs → it.cls = .type "list_iterator" → Fr h₀ env.locals h (fun z => if stored.contains z then u z else m₀ z) →
      News h₀ env.locals h ((I, it) :: news) → wpAny (model PRG w) A (assign target env v) (fun _ s₂ => wpAny (model PRG w) A (execs body env) (TnPost h₀ env.locals I it news stored m₀ { s with heap := h, toks := tk } Q) E s₂) E { s with heap := h, toks := tk })
    (done : ∀ (u : Str → Option Value) h tk, Fr h₀ env.locals h (fun z => if stored.contains z then u z else m₀ z) → News h₀ env.locals h news → Q .next { s with heap := h, toks := tk }) :
    wpAny (model PRG w) A (pyIter (.ref ax)) (fun it s₂ => TurnsAt PRG w A h₀ env target body Q E it s₂) E s := by
  refine iter_listTurns (lo := lo) (vs := vs) (n := n) (news := news) hh F N hm hc hd fun I lI => ?_
  have frm : ∀ {h : Heap} {m : Str → Option Value}, (∀ z, stored.contains z = false → m z = m₀ z) → Fr h₀ env.locals h m → Fr h₀ env.locals h (fun z => if stored.contains z then m z else m₀ z) := by
    intro h m h2 F'
    have e : (fun z => if stored.contains z then m z else m₀ z) = m := by
      funext z
      by_cases hz : stored.contains z = true
      · rw [if_pos hz]
      · rw [if_neg hz]
        exact (h2 z (by simpa using hz)).symm
    rw [e]
    exact F'
  have key : ∀ (r : List Value) (m : Str → Option Value) (led : Led), (∀ v ∈ r, v ∈ vs) → (∀ p ∈ news, p ∈ led) → (∀ z, stored.contains z = false → m z = m₀ z) → ItemsRest PRG w A E h₀ env target body Q s [(I, "list_iterator")] [(ax, lo)] (r.map .val) m led := by
    intro r
    induction r with
    | nil => exact fun m led _ hs h2 h tk F' N' => done m h tk (frm h2 F') fun p hp => N' p (hs p hp)
    | cons v r ih =>
      intro m led hv hs h2
      rw [List.map_cons]
      refine ItemsRest.val fun h tk F' => AllObj.cons fun it hic => AllObj.nil fun N' => ?_
      refine wpAny_mono (turn I v it m h tk lI (hv v (.head _)) hic (frm h2 F') (fun p hp => N' p ?_)) (fun _ s₂ q => wpAny_mono q (fun f s₃ p => ?_) fun _ _ e => e) fun _ _ e => e
      · rcases List.mem_cons.mp hp with rfl | hp
        · exact .head _
        · exact .tail _ (hs p hp)
      have fin : (∃ (h' : Heap) (tk' : Nat) (m' : Str → Option Value) (news' : Led), s₃ = { s with heap := h', toks := tk' } ∧ Fr h₀ env.locals h' m' ∧ News h₀ env.locals h' news' ∧ (I, it) ∈ news' ∧ (∀ p ∈ news, p ∈ news') ∧ (∀ z, stored.contains z = false → m' z = m₀ z)) →
          UnrEndW h₀ env.locals { s with heap := h, toks := tk } [(I, it)] (fun m' n' => SubL [(ax, lo)] n' ∧ ItemsRest PRG w A E h₀ env target body Q s [(I, "list_iterator")] [(ax, lo)] (r.map .val) m' n') s₃ := by
        rintro ⟨h', tk', m', news', rfl, F2, N2, hit, hin, k2⟩
        refine ⟨h', tk', m', news, rfl, F2, fun p hp => N2 p ?_, fun p hp q hq => ?_, ⟨hm, trivial⟩, ih m' news (fun v hv' => hv v (.tail _ hv')) (fun _ h => h) k2⟩
        · rcases List.mem_cons.mp hp with rfl | hp
          · exact hit
          · exact hin p hp
        · rw [List.mem_singleton.mp hq]
          exact Nat.ne_of_lt (lI p hp)
      cases f with
      | ret v => exact p
      | brk => exact p
      | next => exact fin p
      | cont => exact fin p
  exact key vs m₀ news (fun _ h => h) (fun _ h => h) fun _ _ => rfl
end Mine
namespace Mine
theorem pg_len (wd : List Nat) : (pageF false (wd ++ [46])).length = wd.length + 1 := by rw [pageF_len]; simp
theorem pg_split (wd : List Nat) : ∃ c, PG false wd = (PG false wd).dropLast ++ [c] := by
  have hl : (PG false wd).length = wd.length + 1 := pg_len wd
  have hne : PG false wd ≠ [] := fun e => by rw [e] at hl; simp at hl
  exact ⟨_, (List.dropLast_concat_getLast hne).symm⟩
theorem told_a (w : World) (news : Led) (wd : List Nat) (ta tb : Tok) : Con w 140 4 32 news [.str (S (PG false wd).dropLast) ta, .str (S (PG false wd)) tb] (outInt news (-1)) := by
  obtain ⟨c, e⟩ := pg_split wd
  have h := told w news (S (PG false wd).dropLast) (S (PG false wd)) ta tb
  have k := (coll_pre (PG false wd).dropLast c).1
  rw [← e] at k
  rw [k] at h
  exact h
theorem told_b (w : World) (news : Led) (wd : List Nat) (ta tb : Tok) : Con w 140 4 32 news [.str (S (PG false wd)) ta, .str (S (PG false wd).dropLast) tb] (outInt news 1) := by
  obtain ⟨c, e⟩ := pg_split wd
  have h := told w news (S (PG false wd)) (S (PG false wd).dropLast) ta tb
  have k := (coll_pre (PG false wd).dropLast c).2
  rw [← e] at k
  rw [k] at h
  exact h
/-- what _law_told says of two words -/
structure TW (k a b : Int) : Prop where
  eq : a = b → k = 0
  gt : b < a → k = 1
  lt : a < b → k = -1
theorem told_c (w : World) (news : Led) {T : Int} (hT : 18 ≤ T) {u v : List Nat} (hu : Word u) (hv : Word v) (h8 : u.length ≤ 8) (h8' : v.length ≤ 8) (ta tb : Tok) :
    Con w 140 4 32 news [.str (S (PG false u)) ta, .str (S (PG false v)) tb] (fun r news' => news' = news ∧ ∃ k t, r = .int k t ∧ TW k (sd2 (pairL T u) * (sd3 (pairL T v) - sd1 (pairL T v))) (sd2 (pairL T v) * (sd3 (pairL T u) - sd1 (pairL T u)))) := by
  have h := told w news (S (PG false u)) (S (PG false v)) ta tb
  have k := coll_page hT hu hv h8 h8' (a := sd2 (pairL T u) * (sd3 (pairL T v) - sd1 (pairL T v))) (b := sd2 (pairL T v) * (sd3 (pairL T u) - sd1 (pairL T u))) (by
    unfold DD sd1 sd2 sd3
    grind)
  generalize sd2 (pairL T u) * (sd3 (pairL T v) - sd1 (pairL T v)) = a at *
  generalize sd2 (pairL T v) * (sd3 (pairL T u) - sd1 (pairL T u)) = b at *
  refine con_weaken h (fun _ h => h) ?_
  rintro r n' ⟨h1, t, h2⟩
  refine ⟨n', fun _ h => h, h1, _, t, h2, ?_⟩
  rw [k]
  constructor
  · intro e; rw [if_pos e]
  · intro e; rw [if_neg (by omega), if_pos e]
  · intro e; rw [if_neg (by omega), if_neg (by omega)]
theorem cross_mul {T : Int} (hT : TopOk T) {u v : List Nat} (h8 : u.length ≤ 8) (h8' : v.length ≤ 8) : Mul (sd2 (pairL T u)) (sd3 (pairL T v) - sd1 (pairL T v)) (sd2 (pairL T u) * (sd3 (pairL T v) - sd1 (pairL T v))) := by
  have Bu := sd_bound hT h8
  have Bv := sd_bound hT h8'
  have := Bu.b0; have := Bu.b1; have := Bv.a0; have := Bv.a1; have := Bv.c0; have := Bv.c1; have := BB_pos
  generalize sd2 (pairL T u) = x at *
  generalize sd3 (pairL T v) = y at *
  generalize sd1 (pairL T v) = z at *
  exact mulB (by omega) (by omega) (by omega) (by omega)
/-- a share: its address, its word -/
structure Sh where
  D : Addr
  wd : List Nat
  t1 : Tok
  t2 : Tok
  t3 : Tok
abbrev shObj (T : Int) (s : Sh) : Obj := W.listOf #[.int (sd2 (pairL T s.wd)) s.t1, .int (sd3 (pairL T s.wd) - sd1 (pairL T s.wd)) s.t2, .str (S (pageF false (s.wd ++ [46]))) s.t3] 0
def shLed (T : Int) (l : List Sh) : Led := l.map fun s => (s.D, shObj T s)
def shRefs (l : List Sh) : List Value := l.map fun s => .ref s.D
/-- what stands between the turns over the words -/
structure LC where
  ps1 : Array Value
  ps2 : Array Value
  ex : Led
  shs : List Sh
  cap : Nat
structure LP (SH : Addr) (r : List Value) (c : LC) : Prop where
  tabs : Tabs c.ps1 c.ps2 c.ex
  rest : ∀ v ∈ r, ∃ wd t, v = .str (S wd) t ∧ Word wd ∧ wd.length ≤ 8
  len : r.length + c.shs.length ≤ 3
  ok : ∀ s ∈ c.shs, @LT.lt Nat _ SH s.D ∧ Word s.wd ∧ s.wd.length ≤ 8
theorem sh_lt {T : Int} {SH x : Addr} {l : List Sh} (h : ∀ s ∈ l, @LT.lt Nat _ SH s.D ∧ Word s.wd ∧ s.wd.length ≤ 8) (hx : @LE.le Nat _ x SH) : ∀ p ∈ shLed T l, @LT.lt Nat _ x p.1 := by
  intro p hp
  obtain ⟨s, hs, rfl⟩ := List.mem_map.mp hp
  exact Nat.lt_of_le_of_lt hx (h s hs).1
theorem lp_next {SH : Addr} {v : Value} {r : List Value} {ps1 ps2 ps1' ps2' : Array Value} {ex ex' : Led} {shs : List Sh} {cap cap' : Nat} {D : Addr} {wd : List Nat} {t1 t2 t3 : Tok} (h : LP SH (v :: r) ⟨ps1, ps2, ex, shs, cap⟩) (hT : Tabs ps1' ps2' ex') (hD : @LT.lt Nat _ SH D) (hw : Word wd) (h8 : wd.length ≤ 8) :
    LP SH r ⟨ps1', ps2', ex', shs ++ [⟨D, wd, t1, t2, t3⟩], cap'⟩ := by
  refine ⟨hT, fun v hv => h.rest v (.tail _ hv), ?_, fun s hs => ?_⟩
  · have := h.len
    simp only [List.length_cons, List.length_append, List.length_nil] at this ⊢
    omega
  · rcases List.mem_append.mp hs with hs | hs
    · exact h.ok s hs
    · rw [List.mem_singleton.mp hs]
      exact ⟨hD, hw, h8⟩
theorem sh_refs_snoc (l : List Sh) (s : Sh) : shRefs (l ++ [s]) = shRefs l ++ [.ref s.D] := by simp [shRefs]
theorem sh_led_snoc {T : Int} {l : List Sh} {s : Sh} {p : Addr × Obj} (h : p ∈ shLed T (l ++ [s])) : p ∈ shLed T l ∨ p = (s.D, shObj T s) := by
  unfold shLed at *
  rw [List.map_append] at h
  rcases List.mem_append.mp h with h | h
  · exact .inl h
  · exact .inr (List.mem_singleton.mp h)
/-- append to the list of the shares -/
theorem append_sh {w : World} {A : Around} {E : Value → Shared → Prop} {s : Shared} {h₀ : Heap} {L SH : Addr} {m : Str → Option Value} {its : Array Value} {n : Nat} {x : Value} {Q : Value → Shared → Prop} {led led2 : Led} (F : Fr h₀ L s.heap m) (N : News h₀ L s.heap led)
    (hm : (SH, W.listOf its n) ∈ led) (h2 : ∀ p ∈ led2, p ∈ led ∧ p.1 ≠ SH) (hsz : its.size ≤ 3)
    (h : ∀ h', Fr h₀ L h' m → News h₀ L h' ((SH, W.listOf (its.push x) (n + 1)) :: led2) → Q .none { s with heap := h' }) : wpAny (model PRG w) A (call (.builtin "list.append") [.ref SH, x]) Q E s := by
  have N' : News h₀ L s.heap ((SH, W.listOf its n) :: led2) := fun p hp => by
    rcases List.mem_cons.mp hp with rfl | hp
    · exact N _ hm
    · exact N p (h2 p hp).1
  refine append_K F N' (.head fun p hp => (h2 p hp).2) h (by rw [sizeLine_eq]; omega)
/-- an object of the code tables is no list -/
theorem ex_off {h₀ h : Heap} {L SH : Addr} {ps1 ps2 its : Array Value} {n : Nat} {ex led : Led} (N : News h₀ L h led) (T : Tabs ps1 ps2 ex) (hm : (SH, W.listOf its n) ∈ led) {p : Addr × Obj} (hp : p ∈ ex) (hl : p ∈ led) : p.1 ≠ SH := by
  intro e
  obtain ⟨vs, q, t, hv, _⟩ := (T.fl p hp).2
  have e1 := (N _ hl).1
  have e2 := (N _ hm).1
  rw [e] at e1
  have e3 := congrArg Obj.data (Option.some.inj (e1.symm.trans e2))
  rw [hv] at e3
  cases e3
theorem r_neI {w : World} {A : Around} {E : Value → Shared → Prop} {s : Shared} {a b : Int} {t u : Tok} {Q : Value → Shared → Prop} (e : a = b) (h : Q (.bool false) s) : wpAny (model PRG w) A (compareOp .NotEq (.int a t) (.int b u)) Q E s := by
  subst e
  refine PyProof.Rows.ne_int ?_
  rw [show (a != a) = false from by simp]
  exact h
theorem r_eqI0 {w : World} {A : Around} {E : Value → Shared → Prop} {s : Shared} {a b : Int} {t u : Tok} {Q : Value → Shared → Prop} (e : a ≠ b) (h : Q (.bool false) s) : wpAny (model PRG w) A (compareOp .Eq (.int a t) (.int b u)) Q E s := by
  refine PyProof.Rows.eq_int ?_
  rw [show (a == b) = false from by simpa using e]
  exact h
end Mine
namespace Mine
theorem a30 {x : Addr} (h : @LT.lt Nat _ 37 x) : (30 : Addr) ≠ x := Nat.ne_of_lt (Nat.lt_trans (by decide : (30 : Nat) < 37) h)
theorem a37 {x : Addr} (h : @LT.lt Nat _ 37 x) : (37 : Addr) ≠ x := Nat.ne_of_lt h
abbrev wordsNm : List Str := [Str.ofString "one", Str.ofString "two", Str.ofString "slant", Str.ofString "low", Str.ofString "high", Str.ofString "over", Str.ofString "page"]
abbrev wLd (T : Int) (AX SH : Addr) (lo : Obj) (c : LC) : Led := (SH, W.listOf (shRefs c.shs).toArray c.cap) :: (AX, lo) :: tabLed c.ps1 c.ps2 c.ex (shLed T c.shs)
abbrev noPs {σ : Type} : σ → List (Str × Value) := fun _ => []
structure WT (T : Int) (AX SH I : Addr) (it lo : Obj) (ps1 ps2 : Array Value) (ex : Led) (shs : List Sh) (cap : Nat) (wd : List Nat) (tw : Tok) (r : List Value) : Prop where
  lp : LP SH (.str (S wd) tw :: r) ⟨ps1, ps2, ex, shs, cap⟩
  it : ∃ i, itL AX i it
  off : ∀ p ∈ shLed T shs, p.1 ≠ I
  lSA : @LT.lt Nat _ SH AX
  lSI : @LT.lt Nat _ SH I
  lAI : @LT.lt Nat _ AX I
  l37 : @LT.lt Nat _ 37 SH
theorem law_words {w : World} {A : Around} {E : Value → Shared → Prop} {s : Shared} {env : Env} {h₀ : Heap} {x : Str} {body : List Stmt} {Q : Flow → Shared → Prop} {AX SH : Addr} {m₀ : Str → Option Value} {e1 e2 : Addr × Obj} {u1 u2 u3 : List Nat} {t1 t2 t3 : Tok} {T : Int} (hTop : TopOk T)
    (hh : A.handled = none) (F : Fr h₀ env.locals s.heap m₀) (N : News h₀ env.locals s.heap ((AX, W.listOf #[.str (S u1) t1, .str (S u2) t2, .str (S u3) t3] 0) :: (SH, W.listOf #[] 0) :: e1 :: e2 :: tabLed #[] #[] [] []))
    (lSA : @LT.lt Nat _ SH AX) (l37 : @LT.lt Nat _ 37 SH) (w1 : Word u1) (w2 : Word u2) (w3 : Word u3) (n1 : u1.length ≤ 4) (n2 : u2.length ≤ 8) (n3 : u3.length ≤ 4)
    (turn : ∀ (I : Addr) (ps1 ps2 : Array Value) (ex : Led) (shs : List Sh) (cap : Nat) (wd : List Nat) (tw : Tok) (r : List Value) (it : Obj) (u : Str → Option Value) h tk,
      WT T AX SH I it (W.listOf #[.str (S u1) t1, .str (S u2) t2, .str (S u3) t3] 0) ps1 ps2 ex shs cap wd tw r → Word wd → wd.length ≤ 8 → Tabs ps1 ps2 ex → (∀ p ∈ shLed T shs, @LT.lt Nat _ 37 p.1) → @LT.lt Nat _ 30 I ∧ @LT.lt Nat _ 37 I ∧ @LT.lt Nat _ 37 SH ∧ @LT.lt Nat _ 37 AX ∧ @LT.lt Nat _ SH I ∧ @LT.lt Nat _ AX I ∧ @LT.lt Nat _ SH AX →
      Fr h₀ env.locals h (fun y => if y = x then some (.str (S wd) tw) else kstB (fun z => if wordsNm.contains z then u z else m₀ z) [] y) →
      News h₀ env.locals h ((I, it) :: (SH, W.listOf (shRefs shs).toArray cap) :: (AX, W.listOf #[.str (S u1) t1, .str (S u2) t2, .str (S u3) t3] 0) :: tabLed ps1 ps2 ex (shLed T shs)) →
      wpAny (model PRG w) A (execs body env) (RvPost h₀ env.locals x I it (wLd T AX SH (W.listOf #[.str (S u1) t1, .str (S u2) t2, .str (S u3) t3] 0)) noPs wordsNm m₀ (LP SH) r { s with heap := h, toks := tk } Q) E { s with heap := h, toks := tk })
    (done : ∀ (ps1 ps2 : Array Value) (ex : Led) (shs : List Sh) (cap : Nat) (u : Str → Option Value) h tk, Tabs ps1 ps2 ex → (∀ s ∈ shs, @LT.lt Nat _ SH s.D ∧ Word s.wd ∧ s.wd.length ≤ 8) → Fr h₀ env.locals h (fun y => if y = x then u y else kstB (fun z => if wordsNm.contains z then u z else m₀ z) [] y) →
      News h₀ env.locals h ((SH, W.listOf (shRefs shs).toArray cap) :: (AX, W.listOf #[.str (S u1) t1, .str (S u2) t2, .str (S u3) t3] 0) :: tabLed ps1 ps2 ex (shLed T shs)) → Q .next { s with heap := h, toks := tk }) :
    wpAny (model PRG w) A (pyIter (.ref AX)) (fun it s₂ => LoopAtV PRG w A h₀ env x body Q E it s₂) E s := by
  refine list_state (σ := LC) (lo := W.listOf #[.str (S u1) t1, .str (S u2) t2, .str (S u3) t3] 0) (vs := [.str (S u1) t1, .str (S u2) t2, .str (S u3) t3]) (n := 0)
    (wLd T AX SH (W.listOf #[.str (S u1) t1, .str (S u2) t2, .str (S u3) t3] 0)) noPs wordsNm (LP SH) ⟨#[], #[], [], [], 0⟩ hh F N (fun p hp => ?_) (fun c => .tail _ (.head _)) rfl rfl (fun _ h => nomatch h) ?_ ?_ ?_
  · simp only [wLd, shRefs, shLed, tabLed, List.map_nil, List.mem_cons, List.mem_append, List.not_mem_nil, or_false] at hp ⊢
    grind
  · refine ⟨tabs_nil, fun v hv => ?_, by simp, fun _ h => nomatch h⟩
    simp only [List.mem_cons, List.not_mem_nil, or_false] at hv
    rcases hv with rfl | rfl | rfl
    · exact ⟨_, _, rfl, w1, by omega⟩
    · exact ⟨_, _, rfl, w2, n2⟩
    · exact ⟨_, _, rfl, w3, by omega⟩
  · rintro I ⟨ps1, ps2, ex, shs, cap⟩ v r i it u h tk lI hP hit hoff F' N'
    obtain ⟨wd, tw, rfl, hw, h8⟩ := hP.rest v (.head _)
    have lS := lI _ (.tail _ (.head _))
    have lA := lI _ (.head _)
    have l30 := lI (30, tabObj #[]) (.tail _ (.tail _ (.tail _ (.tail _ (.head _)))))
    have l37' := lI (37, tabObj #[]) (.tail _ (.tail _ (.tail _ (.tail _ (.tail _ (.head _))))))
    dsimp only at lS lA l30 l37'
    exact turn I ps1 ps2 ex shs cap wd tw r it u h tk ⟨hP, ⟨i, hit⟩, fun p hp => hoff p (by simp only [wLd, tabLed, List.mem_cons, List.mem_append]; exact .inr (.inr (.inr (.inr (.inr hp))))), lSA, lS, lA, l37⟩ hw h8 hP.tabs (sh_lt hP.ok (Nat.le_of_lt l37)) ⟨l30, l37', l37, Nat.lt_trans l37 lSA, lS, lA, lSA⟩ F' N'
  · rintro ⟨ps1, ps2, ex, shs, cap⟩ u h tk hP F' N'
    exact done ps1 ps2 ex shs cap u h tk hP.tabs hP.ok F' N'
/-- a turn's end -/
theorem words_end {h₀ h' : Heap} {L AX SH I D : Addr} {T : Int} {it lo : Obj} {x : Str} {m₀ m' : Str → Option Value} {r : List Value} {s₁ : Shared} {Q : Flow → Shared → Prop} {tk' : Nat} {ps1 ps2 ps1' ps2' : Array Value} {ex ex' led : Led} {shs : List Sh} {cap : Nat} {wd : List Nat} {tw t1 t2 t3 : Tok}
    (H : WT T AX SH I it lo ps1 ps2 ex shs cap wd tw r) (hw : Word wd) (h8 : wd.length ≤ 8) (hT : Tabs ps1' ps2' ex') (F : Fr h₀ L h' m') (N : News h₀ L h' led)
    (hm1 : (SH, W.listOf ((shRefs shs).toArray.push (.ref D)) (cap + 1)) ∈ led) (hm2 : (AX, lo) ∈ led) (hm3 : (I, it) ∈ led) (hm4 : ∀ p ∈ tabLed ps1' ps2' ex' (shLed T shs), p ∈ led) (hm5 : (D, shObj T ⟨D, wd, t1, t2, t3⟩) ∈ led)
    (l1 : @LT.lt Nat _ I D) (hr : ∀ z, z ≠ x → wordsNm.contains z = false → m' z = m₀ z) :
    RvPost h₀ L x I it (wLd T AX SH lo) noPs wordsNm m₀ (LP SH) r s₁ Q .next { s₁ with heap := h', toks := tk' } := by
  obtain ⟨i, hit⟩ := H.it
  have g1 := H.lSI
  have g2 := H.lAI
  have g3 := H.l37
  refine rv_end (⟨ps1', ps2', ex', shs ++ [⟨D, wd, t1, t2, t3⟩], cap + 1⟩ : LC) F N hm3 (fun p hp => ?_) (fun p hp => ?_) (fun _ h => nomatch h) (fun z h1 _ h3 => hr z h1 h3) (lp_next H.lp hT (Nat.lt_trans g1 l1) hw h8)
  · simp only [wLd, tabLed, List.mem_cons, List.mem_append] at hp
    rcases hp with rfl | rfl | rfl | rfl | hp | hp
    · rw [sh_refs_snoc, ← List.push_toArray]
      exact hm1
    · exact hm2
    · exact hm4 _ (.head _)
    · exact hm4 _ (.tail _ (.head _))
    · exact hm4 _ (.tail _ (.tail _ (List.mem_append_left _ hp)))
    · rcases sh_led_snoc hp with hp | rfl
      · exact hm4 _ (.tail _ (.tail _ (List.mem_append_right _ hp)))
      · exact hm5
  · simp only [wLd, tabLed, List.mem_cons, List.mem_append] at hp
    rcases hp with rfl | rfl | rfl | rfl | hp | hp
    · exact Nat.ne_of_lt g1
    · exact Nat.ne_of_lt g2
    · exact a30 (Nat.lt_trans g3 g1)
    · exact a37 (Nat.lt_trans g3 g1)
    · exact ex_offI N hT hm3 hit hp (hm4 _ (.tail _ (.tail _ (List.mem_append_left _ hp))))
    · rcases sh_led_snoc hp with hp | rfl
      · exact H.off p hp
      · exact Nat.ne_of_gt l1
/-- the share goes onto the list of the shares -/
theorem append_words {w : World} {A : Around} {E : Value → Shared → Prop} {s : Shared} {h₀ : Heap} {L AX SH I D : Addr} {T : Int} {it lo shO : Obj} {m : Str → Option Value} {Q : Value → Shared → Prop} {ps1 ps2 ps1' ps2' : Array Value} {ex ex' led : Led} {shs : List Sh} {cap : Nat} {wd : List Nat} {tw : Tok} {r : List Value}
    (H : WT T AX SH I it lo ps1 ps2 ex shs cap wd tw r) (hT : Tabs ps1' ps2' ex') (F : Fr h₀ L s.heap m) (N : News h₀ L s.heap ((D, shO) :: led))
    (hm : (SH, W.listOf (shRefs shs).toArray cap) ∈ led) (hI : (I, it) ∈ led) (hA : (AX, lo) ∈ led) (ht : ∀ p ∈ tabLed ps1' ps2' ex' (shLed T shs), p ∈ led) (lD : @LT.lt Nat _ SH D)
    (h : ∀ h', Fr h₀ L h' m → News h₀ L h' ((SH, W.listOf ((shRefs shs).toArray.push (.ref D)) (cap + 1)) :: (D, shO) :: (I, it) :: (AX, lo) :: tabLed ps1' ps2' ex' (shLed T shs)) → Q .none { s with heap := h' }) :
    wpAny (model PRG w) A (call (.builtin "list.append") [.ref SH, .ref D]) Q E s := by
  have g3 := H.l37
  have gl := H.lp.len
  simp only [List.length_cons] at gl
  refine append_sh F N (.tail _ hm) (fun p hp => ?_) (by simp [shRefs]; omega) h
  simp only [tabLed, List.mem_cons, List.mem_append] at hp
  rcases hp with rfl | rfl | rfl | rfl | rfl | hp | hp
  · exact ⟨.head _, Nat.ne_of_gt lD⟩
  · exact ⟨.tail _ hI, Nat.ne_of_gt H.lSI⟩
  · exact ⟨.tail _ hA, Nat.ne_of_gt H.lSA⟩
  · exact ⟨.tail _ (ht _ (.head _)), a30 g3⟩
  · exact ⟨.tail _ (ht _ (.tail _ (.head _))), a37 g3⟩
  · have hin := ht _ (.tail _ (.tail _ (List.mem_append_left _ hp)))
    exact ⟨.tail _ hin, ex_off N hT (.tail _ hm) hp (.tail _ hin)⟩
  · have hin := ht _ (.tail _ (.tail _ (List.mem_append_right _ hp)))
    exact ⟨.tail _ hin, Nat.ne_of_gt (sh_lt H.lp.ok (Nat.le_refl _) p hp)⟩
abbrev oLd (AX2 : Addr) (lo2 : Obj) (rest : Led) (c : Array Value × Array Value × Led) : Led := (AX2, lo2) :: tabLed c.1 c.2.1 c.2.2 rest
structure OP (X g : Int) (r : List Value) (c : Array Value × Array Value × Led) : Prop where
  tabs : Tabs c.1 c.2.1 c.2.2
  rest : ∀ v ∈ r, ∃ o t, v = .int o t ∧ 0 ≤ o ∧ o < g ∧ DvOk (X + o) g
theorem law_overs {w : World} {A : Around} {E : Value → Shared → Prop} {s : Shared} {env : Env} {h₀ : Heap} {x : Str} {body : List Stmt} {Q : Flow → Shared → Prop} {AX2 : Addr} {m₀ : Str → Option Value} {t1 t2 : Tok} {ps1 ps2 : Array Value} {ex rest : Led} {T : Int} {wd : List Nat} {m n : Int} (hF : WF T wd m n)
    (hh : A.handled = none) (F : Fr h₀ env.locals s.heap m₀) (N : News h₀ env.locals s.heap ((AX2, W.listOf #[.int 0 t1, .int (2 * n - 1) t2] 0) :: tabLed ps1 ps2 ex rest)) (l37 : @LT.lt Nat _ 37 AX2)
    (hT : Tabs ps1 ps2 ex)
    (turn : ∀ (I : Addr) (ps1 ps2 : Array Value) (ex : Led) (o : Int) (to : Tok) (r : List Value) (i : Nat) (it : Obj) (u : Str → Option Value) h tk,
      itL AX2 i it → Tabs ps1 ps2 ex → OP (4 * (sd2 (m, n) * (sd3 (m, n) + sd1 (m, n)))) (2 * n) r (ps1, ps2, ex) → 0 ≤ o → o < 2 * n → DvOk (4 * (sd2 (m, n) * (sd3 (m, n) + sd1 (m, n))) + o) (2 * n) → @LT.lt Nat _ 37 I ∧ @LT.lt Nat _ AX2 I → (∀ p ∈ rest, @LT.lt Nat _ p.1 I) →
      Fr h₀ env.locals h (fun y => if y = x then some (.int o to) else kstB (fun z => if ([] : List Str).contains z then u z else m₀ z) [] y) →
      News h₀ env.locals h ((I, it) :: (AX2, W.listOf #[.int 0 t1, .int (2 * n - 1) t2] 0) :: tabLed ps1 ps2 ex rest) →
      wpAny (model PRG w) A (execs body env) (RvPost h₀ env.locals x I it (oLd AX2 (W.listOf #[.int 0 t1, .int (2 * n - 1) t2] 0) rest) noPs [] m₀ (OP (4 * (sd2 (m, n) * (sd3 (m, n) + sd1 (m, n)))) (2 * n)) r { s with heap := h, toks := tk } Q) E { s with heap := h, toks := tk })
    (done : ∀ (ps1 ps2 : Array Value) (ex : Led) (u : Str → Option Value) h tk, Tabs ps1 ps2 ex → Fr h₀ env.locals h (fun y => if y = x then u y else kstB (fun z => if ([] : List Str).contains z then u z else m₀ z) [] y) →
      News h₀ env.locals h ((AX2, W.listOf #[.int 0 t1, .int (2 * n - 1) t2] 0) :: tabLed ps1 ps2 ex rest) → Q .next { s with heap := h, toks := tk }) :
    wpAny (model PRG w) A (pyIter (.ref AX2)) (fun it s₂ => LoopAtV PRG w A h₀ env x body Q E it s₂) E s := by
  refine list_state (σ := Array Value × Array Value × Led) (lo := W.listOf #[.int 0 t1, .int (2 * n - 1) t2] 0) (vs := [.int 0 t1, .int (2 * n - 1) t2]) (n := 0)
    (oLd AX2 (W.listOf #[.int 0 t1, .int (2 * n - 1) t2] 0) rest) noPs [] (OP (4 * (sd2 (m, n) * (sd3 (m, n) + sd1 (m, n)))) (2 * n)) (ps1, ps2, ex) hh F N (fun p hp => hp) (fun c => .head _) rfl rfl (fun _ h => nomatch h) ?_ ?_ ?_
  · refine ⟨hT, fun v hv => ?_⟩
    simp only [List.mem_cons, List.not_mem_nil, or_false] at hv
    rcases hv with rfl | rfl
    · exact ⟨_, _, rfl, by omega, hF.n0, hF.D0⟩
    · exact ⟨_, _, rfl, by have := hF.n0; omega, by omega, hF.D1⟩
  · rintro I ⟨ps1, ps2, ex⟩ v r i it u h tk lI hP hit hoff F' N'
    obtain ⟨o, to, rfl, h1, h2, h3⟩ := hP.rest v (.head _)
    have lA := lI _ (.head _)
    dsimp only at lA
    exact turn I ps1 ps2 ex o to r i it u h tk hit hP.tabs ⟨hP.tabs, fun v hv => hP.rest v (.tail _ hv)⟩ h1 h2 h3 ⟨Nat.lt_trans l37 lA, lA⟩ (fun p hp => lI p (.tail _ (.tail _ (.tail _ (List.mem_append_right _ hp))))) F' N'
  · rintro ⟨ps1, ps2, ex⟩ u h tk hP F' N'
    exact done ps1 ps2 ex u h tk hP.tabs F' N'
theorem overs_end {h₀ h' : Heap} {L AX2 I : Addr} {X g : Int} {it lo2 : Obj} {x : Str} {m₀ m' : Str → Option Value} {r : List Value} {s₁ : Shared} {Q : Flow → Shared → Prop} {tk' i : Nat} {ps1 ps2 ps1' ps2' : Array Value} {ex ex' rest led : Led}
    (hP : OP X g r (ps1, ps2, ex)) (hit : itL AX2 i it) (hT : Tabs ps1' ps2' ex') (F : Fr h₀ L h' m') (N : News h₀ L h' led)
    (hs : ∀ p ∈ tabLed ps1' ps2' ex' ((I, it) :: (AX2, lo2) :: rest), p ∈ led) (l37 : @LT.lt Nat _ 37 I) (lA : @LT.lt Nat _ AX2 I) (lR : ∀ p ∈ rest, @LT.lt Nat _ p.1 I) (hr : ∀ z, z ≠ x → m' z = m₀ z) :
    RvPost h₀ L x I it (oLd AX2 lo2 rest) noPs [] m₀ (OP X g) r s₁ Q .next { s₁ with heap := h', toks := tk' } := by
  have hm2 : (AX2, lo2) ∈ led := hs _ (by simp [tabLed])
  have hm3 : (I, it) ∈ led := hs _ (by simp [tabLed])
  have hm4 : ∀ p ∈ tabLed ps1' ps2' ex' rest, p ∈ led := fun p hp => hs p (by simp only [tabLed, List.mem_cons, List.mem_append] at hp ⊢; grind)
  refine rv_end (ps1', ps2', ex') F N hm3 (fun p hp => ?_) (fun p hp => ?_) (fun _ h => nomatch h) (fun z h1 _ _ => hr z h1) ⟨hT, hP.rest⟩
  · rcases List.mem_cons.mp hp with rfl | hp
    · exact hm2
    · exact hm4 _ hp
  · rcases List.mem_cons.mp hp with rfl | hp
    · exact Nat.ne_of_lt lA
    · have hin := hm4 _ hp
      simp only [tabLed, List.mem_cons, List.mem_append] at hp
      rcases hp with rfl | rfl | hp | hp
      · exact a30 l37
      · exact a37 l37
      · exact ex_offI N hT hm3 hit hp hin
      · exact Nat.ne_of_lt (lR p hp)
theorem news_front {h₀ h : Heap} {L : Addr} {ps1 ps2 : Array Value} {ex rest : Led} {a e1 e2 e3 e4 : Addr × Obj} (N : News h₀ L h (a :: tabLed ps1 ps2 ex (e1 :: e2 :: e3 :: e4 :: rest))) : News h₀ L h (e3 :: e2 :: e4 :: tabLed ps1 ps2 ex rest) := fun p hp => N p (by
  simp only [tabLed, List.mem_cons, List.mem_append] at hp ⊢; grind)
abbrev sharesNm : List Str := [Str.ofString "upper", Str.ofString "lower", Str.ofString "page", Str.ofString "other", Str.ofString "under", Str.ofString "leaf", Str.ofString "left", Str.ofString "right"]
abbrev othersNm : List Str := [Str.ofString "other", Str.ofString "under", Str.ofString "leaf", Str.ofString "left", Str.ofString "right"]
theorem law_shares {w : World} {A : Around} {E : Value → Shared → Prop} {s : Shared} {env : Env} {h₀ : Heap} {target : PySem.Expr} {body : List Stmt} {Q : Flow → Shared → Prop} {SH : Addr} {shs : List Sh} {cap : Nat} {m₀ : Str → Option Value} {news : Led} {T : Int} (_hTop : TopOk T) (stored : List Str)
    (hs : ∀ p ∈ shLed T shs, p ∈ news) (ok : ∀ s ∈ shs, Word s.wd ∧ s.wd.length ≤ 8) (hm : (SH, W.listOf (shRefs shs).toArray cap) ∈ news) (hh : A.handled = none) (F : Fr h₀ env.locals s.heap m₀) (N : News h₀ env.locals s.heap news)
    (turn : ∀ (I D : Addr) (wd : List Nat) (t1 t2 t3 : Tok) (it : Obj) (u : Str → Option Value) h tk, (∀ p ∈ news, p.1 < I) → (D, W.listOf #[.int (sd2 (pairL T wd)) t1, .int (sd3 (pairL T wd) - sd1 (pairL T wd)) t2, .str (S (pageF false (wd ++ [46]))) t3] 0) ∈ news → Word wd → wd.length ≤ 8 → it.cls = .type "list_iterator" → Fr h₀ env.locals h (fun z => if stored.contains z then u z else m₀ z) →
      News h₀ env.locals h ((I, it) :: news) → wpAny (model PRG w) A (assign target env (.ref D)) (fun _ s₂ => wpAny (model PRG w) A (execs body env) (TnPost h₀ env.locals I it news stored m₀ { s with heap := h, toks := tk } Q) E s₂) E { s with heap := h, toks := tk })
    (done : ∀ (u : Str → Option Value) h tk, Fr h₀ env.locals h (fun z => if stored.contains z then u z else m₀ z) → News h₀ env.locals h news → Q .next { s with heap := h, toks := tk }) :
    wpAny (model PRG w) A (pyIter (.ref SH)) (fun it s₂ => TurnsAt PRG w A h₀ env target body Q E it s₂) E s := by
  refine list_turns (lo := W.listOf (shRefs shs).toArray cap) (vs := shRefs shs) (n := cap) stored hh F N hm rfl rfl ?_ done
  intro I v it u h tk lI hv hit F' N'
  obtain ⟨⟨D, wd, t1, t2, t3⟩, hsh, rfl⟩ := List.mem_map.mp hv
  exact turn I D wd t1 t2 t3 it u h tk lI (hs _ (List.mem_map.mpr ⟨_, hsh, rfl⟩)) (ok _ hsh).1 (ok _ hsh).2 hit F' N'
end Mine
namespace Mine
theorem law_holds : PySem.Challenge.rw_xi0010_01.Holds := by
  refine holds_law said_well ?_
  intro said
  clear said
  refine holds_open (q := qv) (loose := []) (Xt := fun s => xlAt qv [] s && recOk (RowW.records Challenge.rw_xi0010_01.row.toRowW) s) (XP := XL qv []) (Yf := Hook.obs (kmHook KK asK asK_is [37, 30])) (Ya := Hook.val (kmHook KK asK asK_is [37, 30])) (YP := Hook.says (kmHook KK asK asK_is [37, 30])) (N := 1500) top_left (Hook.of _) (Hook.keeps _) (fun s e => xl_of s (Bool.and_eq_true_iff.mp e).1) XL.keeps (by rfl) (by rfl) (by rfl) (fun s e => recFacts_of (Bool.and_eq_true_iff.mp e).2) (by rfl) said_row (by decide +kernel) ⟨rfl, rfl, rfl, rfl, rfl, by decide +kernel⟩ ?hw ?hc
  case hw => w_witness2
  k_go0
  all_goals (try k_fold)
  k_with_none
  k_with "subscriptTail" => (first | ((with_reducible show wpAny _ _ (subscriptTail _ _ (Value.str _ _) (Value.int _ _)) _ _ _); k_dflt (refine' r_item ?tqx ?tqa ?tqb ?tqd ?_; (case tqx => with_reducible first | exact c_AB | exact c_ABs | exact c_Zz | exact rfl); (case tqa => first | omega | exact fmod_lo _ (by decide)); (case tqb => first | omega | exact fmod_hi _ (by decide) | (simp only [List.length_cons, List.length_nil]; omega)); (case tqd => first | omega | decide)); intro _) | ((with_reducible show wpAny _ _ (subscriptTail _ (Expr.Slice _ _ _ _) (Value.str _ _) (Value.ref _)) _ _ _); (with_reducible rename Fr _ _ _ _ => F'); (with_reducible rename News _ _ _ _ => N'); (first | (refine r_ss (s := ⟨_, _, _, _, _⟩) F' N' (sl_ss (by omega) (by omega) (by omega)) (S_line (by omega)) ?_) | (refine r_sn (s := ⟨_, _, _, _, _⟩) F' N' (sl_sn (by omega) (by omega)) (S_line (by omega)) ?_) | (refine r_ns (s := ⟨_, _, _, _, _⟩) F' N' (by first | exact sl_ns (by omega) (by omega) | exact sl_last (by omega)) (S_line (by omega)) ?_)); intro _ _ _ _ _))
  k_with "compareOp Eq str str" => (k_dflt (refine' r_eqS ?tqx ?tqy ?tqc ?_; (case tqx => with_reducible first | exact c_A | exact c_B | exact c_sp | exact c_e | exact rfl); (case tqy => with_reducible first | exact c_A | exact c_B | exact c_sp | exact c_e | exact rfl); (case tqc => first | exact dec_in)))
  k_with "binaryOp Add str str" => (k_dflt (refine' r_addS ?tqx ?tqy ?tqa ?tqb ?_; (case tqx => with_reducible first | exact c_e | exact S_var (by assumption) | exact rfl); (case tqy => with_reducible first | exact c_dot | exact rfl); (case tqa => first | omega | decide | (simp only [List.length_cons, List.length_nil, List.length_append, List.length_replicate]; omega)); (case tqb => first | omega | decide | (simp only [List.length_cons, List.length_nil, List.length_append, List.length_replicate]; omega))); intro _ _)
  k_with "binaryOp Mult str int" => (k_dflt (refine' r_mulS ?tqx ?tqi ?tqk ?_; (case tqx => with_reducible exact c_sp); (case tqi => first | assumption | (with_reducible exact rfl)); (case tqk => omega)); intro _ _)
  k_with "call builtin:len" => ((with_reducible show wpAny _ _ (call (Value.builtin "len") [Value.str _ _]) _ _ _); k_dflt (refine' r_lenS ?tqx ?tql ?_; (case tqx => with_reducible first | exact c_e | exact rfl); (case tql => omega)))
  k_with "call ref" => (k_dflt (first | (refine' con_use (isub_c _ _ _ _ _ _) ?k1 ?k2 ?k3 ?k4 ?k5 ?k6 ?k7 ?k8 ?_; (case k1 => k_asm); (case k2 => k_asm); (case k3 => k_asm); (case k4 => k_asm); (case k5 => k_asm); (case k6 => first | exact rfl | assumption); (case k7 => ktr_room); (case k8 => ktr_units); intro gS9 dS9 oS9 r9 n9 h9 tk9 F9 N9 O9; obtain ⟨m9, t9, e9⟩ := O9; subst e9; subst m9; (try dsimp only); (try k_fold)) | (refine' con_use (lsh_c _ _ _ _ _ _ _ (by first | assumption | exact hF.S2)) ?k1 ?k2 ?k3 ?k4 ?k5 ?k6 ?k7 ?k8 ?_; (case k1 => k_asm); (case k2 => k_asm); (case k3 => k_asm); (case k4 => k_asm); (case k5 => k_asm); (case k6 => first | exact rfl | assumption); (case k7 => ktr_room); (case k8 => ktr_units); intro gS9 dS9 oS9 r9 n9 h9 tk9 F9 N9 O9; obtain ⟨m9, t9, e9⟩ := O9; subst e9; subst m9; (try dsimp only); (try k_fold)) | (refine' con_use (mul_c _ _ _ _ _ _ _ (by first | assumption | exact hF.M2 | exact cross_mul hT9 (by assumption) (by assumption))) ?k1 ?k2 ?k3 ?k4 ?k5 ?k6 ?k7 ?k8 ?_; (case k1 => k_asm); (case k2 => k_asm); (case k3 => k_asm); (case k4 => k_asm); (case k5 => k_asm); (case k6 => first | exact rfl | assumption); (case k7 => ktr_room); (case k8 => ktr_units); intro gS9 dS9 oS9 r9 n9 h9 tk9 F9 N9 O9; obtain ⟨m9, t9, e9⟩ := O9; subst e9; subst m9; (try dsimp only); (try k_fold)) | (refine' con_use (add_c _ _ _ _ _ _) ?k1 ?k2 ?k3 ?k4 ?k5 ?k6 ?k7 ?k8 ?_; (case k1 => k_asm); (case k2 => k_asm); (case k3 => k_asm); (case k4 => k_asm); (case k5 => k_asm); (case k6 => first | exact rfl | assumption); (case k7 => ktr_room); (case k8 => ktr_units); intro gS9 dS9 oS9 r9 n9 h9 tk9 F9 N9 O9; obtain ⟨m9, t9, e9⟩ := O9; subst e9; subst m9; (try dsimp only); (try k_fold)) | (refine' con_use (word _ _ _ _) ?k1 ?k2 ?k3 ?k4 ?k5 ?k6 ?k7 ?k8 ?_; (case k1 => k_asm); (case k2 => k_asm); (case k3 => k_asm); (case k4 => k_asm); (case k5 => k_asm); (case k6 => first | exact rfl | assumption); (case k7 => ktr_room); (case k8 => ktr_units); intro gS9 dS9 oS9 r9 n9 h9 tk9 F9 N9 O9; obtain ⟨m9, wd9, t9, e9, hW9, h49⟩ := O9; subst e9; subst m9; (try dsimp only); (try k_fold)) | (refine' con_use (sides_w _ _ _ _ _ _ hT9 ?tq8x5 ?tqwx5) ?k1 ?k2 ?k3 ?k4 ?k5 ?k6 ?k7 ?k8 ?_; (case k1 => k_asm); (case k2 => k_asm); (case k3 => k_asm); (case k4 => k_asm); (case k5 => k_asm); (case k6 => first | exact rfl | assumption); (case k7 => ktr_room); (case k8 => ktr_units); (case tqwx5 => assumption); (case tq8x5 => first | assumption | omega); intro gS9 dS9 oS9 r9 n9 h9 tk9 F9 N9 O9; obtain ⟨D9, ta9, tb9, tc9, e9, m9, l9, hF⟩ := O9; subst e9; subst m9; (try k_lt l9); (have hp91 := hF.p1); (try dsimp only); (try k_fold)) | (refine' con_use (last_c _ _ _ _ _ _ _ _ _ _ _ _ _ _ _ _ _ T9 ?tqrx6 hT9 hF.g1 hF.g1' ?tqb1x6 ?tqb2x6 hF.i1) ?k1 ?k2 ?k3 ?k4 ?k5 ?k6 ?k7 ?k8 ?_; (case k1 => k_asm); (case k2 => k_asm); (case k3 => k_asm); (case k4 => first | exact perm_0 (by assumption) | exact perm_1 (by assumption) | exact perm_2 (by assumption) | exact perm_3 (by assumption) | exact perm_4 (by assumption) | exact perm_5 (by assumption) | exact perm_6 (by assumption) | exact perm_7 (by assumption) | exact perm_8 (by assumption)); (case k5 => k_asm); (case k6 => first | exact rfl | assumption); (case k7 => ktr_room); (case k8 => ktr_units); (case tqrx6 => (repeat (first | assumption | exact List.forall_mem_nil _ | refine List.forall_mem_cons.mpr ⟨by dsimp only; omega, ?_⟩))); (case tqb2x6 => first | exact (Int.natCast_succ _).symm | exact rfl); (case tqb1x6 => omega); intro gS9 dS9 oS9 r9 n9 h9 tk9 F9 N9 O9; obtain ⟨t9, ps9, qs9, ex9, e9, m9, T9⟩ := O9; subst e9; subst m9; (try dsimp only); (try k_fold)) | (refine' con_use (last_c _ _ _ _ _ _ _ _ _ _ _ _ _ _ _ _ _ T9 ?tqrx7 hT9 hF.g2 hF.g2' ?tqb1x7 ?tqb2x7 hF.i2) ?k1 ?k2 ?k3 ?k4 ?k5 ?k6 ?k7 ?k8 ?_; (case k1 => k_asm); (case k2 => k_asm); (case k3 => k_asm); (case k4 => first | exact perm_0 (by assumption) | exact perm_1 (by assumption) | exact perm_2 (by assumption) | exact perm_3 (by assumption) | exact perm_4 (by assumption) | exact perm_5 (by assumption) | exact perm_6 (by assumption) | exact perm_7 (by assumption) | exact perm_8 (by assumption)); (case k5 => k_asm); (case k6 => first | exact rfl | assumption); (case k7 => ktr_room); (case k8 => ktr_units); (case tqrx7 => (repeat (first | assumption | exact List.forall_mem_nil _ | refine List.forall_mem_cons.mpr ⟨by dsimp only; omega, ?_⟩))); (case tqb2x7 => first | exact (Int.natCast_succ _).symm | exact rfl); (case tqb1x7 => omega); intro gS9 dS9 oS9 r9 n9 h9 tk9 F9 N9 O9; obtain ⟨t9, ps9, qs9, ex9, e9, m9, T9⟩ := O9; subst e9; subst m9; (try dsimp only); (try k_fold)) | (refine' con_use (dm _ _ _ _ _ _ _ _ _ _ _ T9 ?tqrx8 (by have := hF.ap; omega) hF.n0 hD9.b9 hD9.a5 hD9.ab (by rw [hF.e]) hO9 hO9') ?k1 ?k2 ?k3 ?k4 ?k5 ?k6 ?k7 ?k8 ?_; (case k1 => k_asm); (case k2 => k_asm); (case k3 => k_asm); (case k4 => first | exact perm_0 (by assumption) | exact perm_1 (by assumption) | exact perm_2 (by assumption) | exact perm_3 (by assumption) | exact perm_4 (by assumption) | exact perm_5 (by assumption) | exact perm_6 (by assumption) | exact perm_7 (by assumption) | exact perm_8 (by assumption)); (case k5 => k_asm); (case k6 => first | exact rfl | assumption); (case k7 => ktr_room); (case k8 => ktr_units); (case tqrx8 => (repeat (first | assumption | exact List.forall_mem_nil _ | refine List.forall_mem_cons.mpr ⟨by dsimp only; omega, ?_⟩))); intro gS9 dS9 oS9 r9 n9 h9 tk9 F9 N9 O9; obtain ⟨q9, t9, u9, ps9, qs9, ex9, e9, m9, T9, hq37⟩ := O9; subst e9; subst m9; (try dsimp only); (try k_fold)) | (refine' con_use (page_c _ _ _ _ ?tq8x9 (Word.ltrs ?tqwx9)) ?k1 ?k2 ?k3 ?k4 ?k5 ?k6 ?k7 ?k8 ?_; (case k1 => k_asm); (case k2 => k_asm); (case k3 => k_asm); (case k4 => k_asm); (case k5 => k_asm); (case k6 => first | exact rfl | assumption); (case k7 => ktr_room); (case k8 => ktr_units); (case tqwx9 => assumption); (case tq8x9 => first | assumption | omega); intro gS9 dS9 oS9 r9 n9 h9 tk9 F9 N9 O9; obtain ⟨m9, t9, e9⟩ := O9; subst e9; subst m9; (have hpl9 := pg_len wd); (try dsimp only); (try k_fold)) | (refine' con_use (told_a _ _ _ _ _) ?k1 ?k2 ?k3 ?k4 ?k5 ?k6 ?k7 ?k8 ?_; (case k1 => k_asm); (case k2 => k_asm); (case k3 => k_asm); (case k4 => k_asm); (case k5 => k_asm); (case k6 => first | exact rfl | assumption); (case k7 => ktr_room); (case k8 => ktr_units); intro gS9 dS9 oS9 r9 n9 h9 tk9 F9 N9 O9; obtain ⟨m9, t9, e9⟩ := O9; subst e9; subst m9; (try dsimp only); (try k_fold)) | (refine' con_use (told_b _ _ _ _ _) ?k1 ?k2 ?k3 ?k4 ?k5 ?k6 ?k7 ?k8 ?_; (case k1 => k_asm); (case k2 => k_asm); (case k3 => k_asm); (case k4 => k_asm); (case k5 => k_asm); (case k6 => first | exact rfl | assumption); (case k7 => ktr_room); (case k8 => ktr_units); intro gS9 dS9 oS9 r9 n9 h9 tk9 F9 N9 O9; obtain ⟨m9, t9, e9⟩ := O9; subst e9; subst m9; (try dsimp only); (try k_fold)) | (refine' con_use (told_c _ _ hT9.lo ?tqux12 ?tqvx12 ?tqax12 ?tqbx12 _ _) ?k1 ?k2 ?k3 ?k4 ?k5 ?k6 ?k7 ?k8 ?_; (case k1 => k_asm); (case k2 => k_asm); (case k3 => k_asm); (case k4 => k_asm); (case k5 => k_asm); (case k6 => first | exact rfl | assumption); (case k7 => ktr_room); (case k8 => ktr_units); (case tqux12 => assumption); (case tqvx12 => assumption); (case tqax12 => assumption); (case tqbx12 => assumption); intro gS9 dS9 oS9 r9 n9 h9 tk9 F9 N9 O9; obtain ⟨m9, k9, t9, e9, hTW⟩ := O9; subst e9; subst m9; (try dsimp only); (try k_fold))))
  k_with "binaryOp Pow int int" => (first | ((with_reducible show wpAny _ _ (binaryOp _ (Value.int 2 _) (Value.int 4300 _)) _ _ _); k_dflt (refine' r_pow43 ?_)) | ((with_reducible show wpAny _ _ (binaryOp _ (Value.int _ _) (Value.int 3 _)) _ _ _); k_dflt (refine' r_pow3 hF.M3 hF.b3 ?_)))
  k_with "binaryOp Mod int int" => (k_dflt (refine' r_modN (by omega) ?_; intro nM hM; (try have hT9 := far_top (show (nM : Int) < P43 by with_reducible assumption))))
  k_with "binaryOp FloorDiv int int" => (k_dflt (refine' r_fdivF (by decide) (by decide) ?_; intro xF))
  k_with "binaryOp Mult int int" => (k_dflt (refine' r_mul (by first | assumption | exact hF.M1) ?_))
  k_with "binaryOp Add str str" => (k_dflt (refine' r_addW ?tqx ?tqy ?tqa ?tqb ?tqc ?tqd ?_; (case tqx => with_reducible exact rfl); (case tqy => with_reducible exact rfl); (case tqa => assumption); (case tqb => assumption); (case tqc => assumption); (case tqd => assumption)); intro _ _ hW9 h89)
  k_with "pyIter ref" => k_dflt (k_of "k" => k_state (fun pre cells => cells.length = 4) "cells")
  k_with "pyIter ref" => k_dflt (k_of "word" => refine stop_here ?_)
  k_with "pyIter ref" => k_dflt (k_of "over" => refine stop_here ?_)
  k_with "pyIter ref" => ((with_reducible show wpAny _ _ (pyIter (Value.ref _)) (fun it s₂ => TurnsAt _ _ _ _ _ _ _ _ _ it s₂) _ _); refine stop_here ?_)
  k_with "exec For Tuple Name cons nil" => k_dflt ((rename Fr _ _ _ _ => lF'); (with_unfolding_all refine' For_turns lF' ?_); k_whole)
  k_with "compareOp Eq int int" => k_dflt (refine' r_eqI0 (by have := hF.p1; omega) ?_)
  k_with "compareOp NotEq int int" => k_dflt (refine' r_neI (by first | exact hTW.eq (by assumption) | exact hTW.gt (by omega) | exact hTW.lt (by omega)) ?_)
  k_with "call builtin:list.append" => refine stop_here ?_
  (rename News _ _ _ _ => N0)
  (have N1 := show News _ _ _ (tabLed #[] #[] [] []) from fun p hp => N0 p (by simp only [tabLed, List.mem_cons, List.mem_append] at hp ⊢; grind))
  clear N0
  have T9 := tabs_nil
  have hP43 := P43_pos
  k_steps
  k_with "storeName" => (k_dflt (refine' Mine.r_store ?k1 ?k2 ?_ ?k3 ?k4; (case k3 => exact rfl); (case k4 => exact rfl); (case k1 => k_asm); (case k2 => k_asm); k_whole); intro mS' gS' dS' oS' hS' tkS' FS' NS'; (try k_sweep); (try dsimp only))
  refine stop_go ?_
  (rename Fr _ _ _ _ => lF')
  (rename News _ _ _ _ => lN')
  with_unfolding_all refine' law_words hT9 (by rfl) lF' lN' ?_ ?_ ?_ ?_ ?_ ?_ ?_ ?_ ?_ ?_
  · omega
  · omega
  · assumption
  · assumption
  · assumption
  · assumption
  · assumption
  · assumption
  all_goals clear lF' lN'
  · intro I ps1 ps2 ex shs cap wd tw r it u h tk HW hW8 h80 T9 hsh37 hlt F' N'
    (try k_fold)
    k_steps
    refine stop_go ?_
    (rename Fr _ _ _ _ => lF')
    (rename News _ _ _ _ => lN')
    with_unfolding_all refine' law_overs hF (by rfl) lF' lN' ?_ T9 ?_ ?_
    · omega
    all_goals clear lF' lN'
    · intro I2 ps1 ps2 ex o to r i it2 u h tk hit2 T9 hOP hO9 hO9' hD9 hlt2 hlR F' N'
      (try k_fold)
      k_steps
      (rename Fr _ _ _ _ => lF')
      (rename News _ _ _ _ => lN')
      refine overs_end hOP hit2 T9 lF' lN' ?_ ?_ ?_ hlR ?_
      · exact fun p hp => .tail _ (.tail _ hp)
      · exact hlt2.1
      · exact hlt2.2
      · intro z hz
        simp +zetaDelta [hz, kstB]
        done
    · intro ps1 ps2 ex u h tk T9 F' N'
      (try k_fold)
      have N2 := news_front N'
      clear N'
      k_steps
      refine stop_go ?_
      (rename Fr _ _ _ _ => lF')
      (rename News _ _ _ _ => lN')
      refine append_words HW T9 lF' lN' (.head _) (.tail _ (.head _)) (.tail _ (.tail _ (.head _))) (fun p hp => .tail _ (.tail _ (.tail _ hp))) ?_ ?_
      · omega
      clear lF' lN'
      intro hA FA NA
      (try k_fold)
      k_steps
      (rename Fr _ _ _ _ => lF')
      (rename News _ _ _ _ => lN')
      refine words_end HW hW8 h80 T9 lF' lN' (.head _) (.tail _ (.tail _ (.tail _ (.head _)))) (.tail _ (.tail _ (.head _))) (fun p hp => .tail _ (.tail _ (.tail _ (.tail _ hp)))) (.tail _ (.head _)) ?_ ?_
      · omega
      · intro z h1 h3
        simp only [List.contains_cons, List.contains_nil, Bool.or_false, Bool.or_eq_false_iff, beq_eq_false_iff_ne, ne_eq] at h3
        obtain ⟨g1, g2, g3, g4, g5, g6, g7⟩ := h3
        simp +zetaDelta [h1, g1, g2, g3, g4, g5, g6, g7, kstB]
        done
  · intro ps1 ps2 ex shs cap u h tk T9 hok F' N'
    (try k_fold)
    k_steps
    refine stop_go ?_
    (rename Fr _ _ _ _ => lF')
    (rename News _ _ _ _ => lN')
    have hok2 : ∀ s ∈ shs, Word s.wd ∧ s.wd.length ≤ 8 := fun s hs => (hok s hs).2
    with_unfolding_all refine' law_shares hT9 sharesNm ?_ hok2 (.head _) (by rfl) lF' lN' ?_ ?_
    · exact fun p hp => .tail _ (.tail _ (.tail _ (.tail _ (List.mem_append_right _ hp))))
    all_goals clear lF' lN'
    · intro I D wd t1 t2 t3 it u h tk lI hmem hW hW8 hic F' N'
      (try k_fold)
      k_steps
      refine stop_go ?_
      (rename Fr _ _ _ _ => lF')
      (rename News _ _ _ _ => lN')
      with_unfolding_all refine' law_shares hT9 othersNm ?_ hok2 (.tail _ (.head _)) (by rfl) lF' lN' ?_ ?_
      · exact fun p hp => .tail _ (.tail _ (.tail _ (.tail _ (.tail _ (List.mem_append_right _ hp)))))
      all_goals clear lF' lN'
      · intro I2 D2 wd2 t21 t22 t23 it2 u h tk lI2 hmem2 hW2 hW82 hic2 F' N'
        (try k_fold)
        k_steps
        all_goals (
          (rename Fr _ _ _ _ => lF')
          (rename News _ _ _ _ => lN')
          refine tn_end lF' lN' (by k_mem) (fun p hp => by repeat (first | exact hp | refine List.Mem.tail _ ?_)) ?_
          intro z h3
          simp only [List.contains_cons, List.contains_nil, Bool.or_false, Bool.or_eq_false_iff, beq_eq_false_iff_ne, ne_eq] at h3
          obtain ⟨g1, g2, g3, g4, g5⟩ := h3
          simp +zetaDelta [g1, g2, g3, g4, g5]
          done)
      · intro u h tk F' N'
        (try k_fold)
        k_steps
        (rename Fr _ _ _ _ => lF')
        (rename News _ _ _ _ => lN')
        refine tn_end lF' lN' (.head _) (fun p hp => .tail _ hp) ?_
        intro z h3
        simp only [List.contains_cons, List.contains_nil, Bool.or_false, Bool.or_eq_false_iff, beq_eq_false_iff_ne, ne_eq] at h3
        obtain ⟨g1, g2, g3, g4, g5, g6, g7, g8⟩ := h3
        simp +zetaDelta [g1, g2, g3, g4, g5, g6, g7, g8]
        done
    · intro u h tk F' N'
      (try k_fold)
      k_steps
end Mine
theorem PySem.Challenge.cw_xi0010_01_holds : PySem.Challenge.rw_xi0010_01.Holds := by
  exact Mine.law_holds
