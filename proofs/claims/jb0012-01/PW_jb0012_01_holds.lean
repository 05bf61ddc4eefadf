import PyProof.Rows.All
import Wide.All
import OpenK.AllK
import Wide.FinOn
import PySem.Challenge.RW_jb0012_01
open PySem PySem.W PyProof.Rows PySem.Spec PySem.Calls
set_option Elab.async false
set_option linter.all false
set_option maxRecDepth 100000
set_option maxHeartbeats 4000000
namespace FR
open_top hd for PySem.Challenge.rw_jb0012_01
abbrev LS : List Str := [Str.ofString "to_jd", Str.ofString "to_jd_gregorian", Str.ofString "from_jd", Str.ofString "from_jd_gregorian",
      Str.ofString "leap", Str.ofString "to_jd_french_republican", Str.ofString "from_jd_french_republican",
      Str.ofString "from_gregorian", Str.ofString "to_gregorian"]

abbrev Call (n : Nat) (w : World) (f : Addr) (vs : List Value) (kw : List (Str × Value)) (Ret : Heap → Addr → (Str → Option Value) → List (Addr × Obj) → Shared → (Value → Shared → Prop) → (Value → Shared → Prop) → Prop) : Prop :=
  ∀ (mean : ExcName → Option Value) (mg mb : Str → Option Value) (dp un : Nat) (gd : Option (List Code)) (cn : Str) (cs : Scope) (a : Addr) (ccd : Value) (cl : List (Str × Addr)) (outer : List Env) (A₀ : Around) (base h₀ : Heap) (L : Addr) (m : Str → Option Value) (news : List (Addr × Obj)) (s : Shared) (Q E : Value → Shared → Prop),
    Below A₀ base outer h₀ → Fr h₀ L s.heap m → (FR.hd.heap_39 w.params).In h₀ → News h₀ L s.heap news →
    Top FR.hd.view_39 (looseW FR.hd.view_39 LS) mean mg mb h₀ → cs.kind = .function → dp + n < recursionLimit → un + 40 * n < cLine →
    Ret h₀ L m news s Q E →
    wpAny (model PySem.Challenge.rw_jb0012_01.row.prog w) (ktrTop dp un gd cn cs L a ccd cl outer) (call (.ref f) vs kw) Q E s

abbrev RetI (x : Int) : Heap → Addr → (Str → Option Value) → List (Addr × Obj) → Shared → (Value → Shared → Prop) → (Value → Shared → Prop) → Prop := fun h₀ L m news s Q _ =>
  ∀ (t : Tok) (h' : Heap) (tk' : Nat), Fr h₀ L h' m → News h₀ L h' news → Q (.int x t) { s with heap := h', toks := tk' }
abbrev RetB (x : Bool) : Heap → Addr → (Str → Option Value) → List (Addr × Obj) → Shared → (Value → Shared → Prop) → (Value → Shared → Prop) → Prop := fun h₀ L m news s Q _ =>
  ∀ (h' : Heap) (tk' : Nat), Fr h₀ L h' m → News h₀ L h' news → Q (.bool x) { s with heap := h', toks := tk' }
abbrev tup3 (x y z : Int) (t1 t2 t3 : Tok) (c : Nat) : Obj := { cls := .type "tuple", data := .seq #[.int x t1, .int y t2, .int z t3] c }
abbrev RetT (x y z : Int) : Heap → Addr → (Str → Option Value) → List (Addr × Obj) → Shared → (Value → Shared → Prop) → (Value → Shared → Prop) → Prop := fun h₀ L m news s Q _ =>
  ∀ (D : Addr) (t1 t2 t3 : Tok) (c : Nat) (h' : Heap) (tk' : Nat), Fr h₀ L h' m → News h₀ L h' ((D, tup3 x y z t1 t2 t3 c) :: news) → AllLt D news → Q (.ref D) { s with heap := h', toks := tk' }
abbrev RetS (x : Str) : Heap → Addr → (Str → Option Value) → List (Addr × Obj) → Shared → (Value → Shared → Prop) → (Value → Shared → Prop) → Prop := fun h₀ L m news s Q _ =>
  ∀ (t : Tok) (h' : Heap) (tk' : Nat), Fr h₀ L h' m → News h₀ L h' news → Q (.str x t) { s with heap := h', toks := tk' }
abbrev RetT7 (x y z : Int) (a b c d e f g : Prop) : Heap → Addr → (Str → Option Value) → List (Addr × Obj) → Shared → (Value → Shared → Prop) → (Value → Shared → Prop) → Prop := fun h₀ L m news s Q E => a → b → c → d → e → f → g → RetT x y z h₀ L m news s Q E
abbrev RetT3 (x y z : Int) (a b c : Prop) : Heap → Addr → (Str → Option Value) → List (Addr × Obj) → Shared → (Value → Shared → Prop) → (Value → Shared → Prop) → Prop := fun h₀ L m news s Q E => a → b → c → RetT x y z h₀ L m news s Q E

section
variable {h₀ h' : Heap} {L : Addr} {m : Str → Option Value} {news : List (Addr × Obj)} {s : Shared} {Q : Value → Shared → Prop} {t : Tok} {tk' : Nat}
theorem endI {x y : Int} (hret : ∀ (t : Tok) (h' : Heap) (tk' : Nat), Fr h₀ L h' m → News h₀ L h' news → Q (.int x t) { s with heap := h', toks := tk' }) (e : y = x) (F : Fr h₀ L h' m) (N : News h₀ L h' news) : Q (.int y t) { s with heap := h', toks := tk' } := by
  subst e
  exact hret t h' tk' F N
theorem endB {x y : Bool} (hret : ∀ (h' : Heap) (tk' : Nat), Fr h₀ L h' m → News h₀ L h' news → Q (.bool x) { s with heap := h', toks := tk' }) (e : y = x) (F : Fr h₀ L h' m) (N : News h₀ L h' news) : Q (.bool y) { s with heap := h', toks := tk' } := by
  subst e
  exact hret h' tk' F N
end
/-- a way's name: a whole number or a text out of ks -/
inductive NameOf (ks : List PyData) : Value → Prop
  | int {k : Int} {t : Tok} : PyData.int k ∈ ks → k ≠ 0 → NameOf ks (.int k t)
  | str {x : Str} {t : Tok} : PyData.str x ∈ ks → x.length ≠ 0 → x.length < 100 → NameOf ks (.str x t)

abbrev names0 : List PyData := [.int 4, .str (Str.ofString "continuous")]
abbrev names1 : List PyData := [.int 100, .str (Str.ofString "romme")]
abbrev names2 : List PyData := [.int 128, .str (Str.ofString "madler")]
abbrev names3 : List PyData := [.str (Str.ofString "Romme")]

theorem nameInt {k : Int} {t : Tok} (h : k ≠ 0) : NameOf [.int k] (.int k t) := .int (.head _) h
theorem nameStr {x : Str} {t : Tok} (h : x.length ≠ 0) (h' : x.length < 100) : NameOf [.str x] (.str x t) := .str (.head _) h h'

section
variable {prog : Program} {w : World} {A : Around} {E : Value → Shared → Prop} {s : Shared} {h₀ : Heap} {L D : Addr} {news : List (Addr × Obj)} {o : Obj} {vs : Array Value} {c : Nat} {ks xs : List PyData} {as : List Addr} {v : Value}

theorem truthy_name {Q : Bool → Shared → Prop} (V : NameOf ks v) (h : ∀ tk, Q true { s with toks := tk }) : wpAny (model prog w) A (truthy v) Q E s := by
  cases V with
  | int hk h0 =>
    refine truthy_int ?_
    rw [show ((_ : Int) != 0) = true from bne_iff_ne.mpr h0]
    exact h s.toks
  | str hk h0 hl =>
    refine P.truthy_str (by omega) ?_
    rw [show ((_ : Int) != 0) = true from bne_iff_ne.mpr (by omega)]
    exact h _

theorem in_name {Q : Value → Shared → Prop} (b : Bool) (V : NameOf ks v) (N : News h₀ L s.heap news) (mem : (D, o) ∈ news) (hc : o.cls = .type "tuple") (hd : o.data = .seq vs c)
    (hr : ReadsAll s.heap vs.toList xs as) (hu : A.units + 20 < cLine)
    (hall : (PyData.canLayAll0 xs && ks.all fun d => d.canLay0 && decide (d.depth ≤ 5) && ((xs.any fun y => PyData.eqv y d) == b)) = true)
    (h : Q (.bool b) s) : wpAny (model prog w) A (compareOp .In v (.ref D)) Q E s := by
  have key : ∀ d, Reads s.heap v d [] → d ∈ ks → wpAny (model prog w) A (compareOp .In v (.ref D)) Q E s := by
    intro d rd hm
    rw [Bool.and_eq_true] at hall
    have h1 := List.all_eq_true.mp hall.2 d hm
    simp only [Bool.and_eq_true, decide_eq_true_eq, beq_iff_eq] at h1
    refine SeqAt.in_tuple_reads (Reads.tuple (N.get mem) hc hd hr) rd hall.1 h1.1.1 ?_ (by rw [h1.2]; exact h)
    have := Nat.min_le_right (PyData.depthAll xs) d.depth
    have := h1.1.2
    omega
  cases V with
  | int hk h0 => exact key _ (Reads.int _ _) hk
  | str hk h0 hl => exact key _ (Reads.str _ _) hk
end

theorem use {n : Nat} {w : World} {f : Addr} {vs : List Value} {kw : List (Str × Value)} {Ret : Heap → Addr → (Str → Option Value) → List (Addr × Obj) → Shared → (Value → Shared → Prop) → (Value → Shared → Prop) → Prop}
    {mean : ExcName → Option Value} {mg mb : Str → Option Value} {dp un : Nat} {gd : Option (List Code)} {cn : Str} {cs : Scope} {a : Addr} {ccd : Value} {cl : List (Str × Addr)} {outer : List Env} {A₀ : Around} {base h₀ : Heap} {L : Addr} {m : Str → Option Value} {news : List (Addr × Obj)} {s : Shared} {Q E : Value → Shared → Prop}
    (C : Call n w f vs kw Ret) (ret : Ret h₀ L m news s Q E) (B : Below A₀ base outer h₀ := by k_asm) (F : Fr h₀ L s.heap m := by k_asm) (X : (FR.hd.heap_39 w.params).In h₀ := by k_asm) (N : News h₀ L s.heap news := by k_asm)
    (T : Top FR.hd.view_39 (looseW FR.hd.view_39 LS) mean mg mb h₀ := by k_asm) (hk : cs.kind = .function := by first | exact rfl | assumption) (hd : dp + n < recursionLimit := by ktr_room) (hu : un + 40 * n < cLine := by ktr_units) :
    wpAny (model PySem.Challenge.rw_jb0012_01.row.prog w) (ktrTop dp un gd cn cs L a ccd cl outer) (call (.ref f) vs kw) Q E s :=
  C _ _ _ _ _ _ _ _ _ _ _ _ _ _ _ _ _ _ _ _ _ B F X N T hk hd hu ret

theorem ite_beqT {x y : Int} {p q : Prop} (h : x = y) (hp : p) : if (x == y) = true then p else q := by rw [if_pos (beq_iff_eq.mpr h)]; exact hp
theorem ite_beqF {x y : Int} {p q : Prop} (h : x ≠ y) (hq : q) : if (x == y) = true then p else q := by rw [if_neg (fun e => h (beq_iff_eq.mp e))]; exact hq
theorem ite_bneT {x y : Int} {p q : Prop} (h : x ≠ y) (hp : p) : if (x != y) = true then p else q := by rw [if_pos (bne_iff_ne.mpr h)]; exact hp
theorem ite_bneF {x y : Int} {p q : Prop} (h : x = y) (hq : q) : if (x != y) = true then p else q := by rw [if_neg (fun e => bne_iff_ne.mp e h)]; exact hq

theorem endT {h₀ h' : Heap} {L D : Addr} {m : Str → Option Value} {news rest : List (Addr × Obj)} {s : Shared} {Q : Value → Shared → Prop} {tk' : Nat} {x y z x' y' z' : Int} {t1 t2 t3 : Tok} {c : Nat}
    (hret : ∀ (D : Addr) (t1 t2 t3 : Tok) (c : Nat) (h' : Heap) (tk' : Nat), Fr h₀ L h' m → News h₀ L h' ((D, tup3 x y z t1 t2 t3 c) :: news) → AllLt D news → Q (.ref D) { s with heap := h', toks := tk' })
    (F : Fr h₀ L h' m) (N : News h₀ L h' ((D, { cls := .type "tuple", data := .seq #[.int x' t1, .int y' t2, .int z' t3] c }) :: rest)) (hs : ∀ p ∈ news, p ∈ rest) (hl : AllLt D news) (e1 : x' = x) (e2 : y' = y) (e3 : z' = z) :
    Q (.ref D) { s with heap := h', toks := tk' } := by
  subst e1 e2 e3
  refine hret D t1 t2 t3 c h' tk' F (fun p hp => ?_) hl
  rcases List.mem_cons.mp hp with rfl | hp
  · exact N _ (.head _)
  · exact N _ (.tail _ (hs p hp))

def CutRet {α : Type} (h₀ : Heap) (L : Addr) (m : Str → Option Value) (news : List (Addr × Obj)) (s : Shared) (b : α) (R : α → Shared → Prop) : Prop := ∀ h tk, Fr h₀ L h m → News h₀ L h news → R b { s with heap := h, toks := tk }
structure CutMark : Prop where
theorem cutB {M : Model} {A : Around} {E : Value → Shared → Prop} {s : Shared} {h₀ : Heap} {L : Addr} {m : Str → Option Value} {news : List (Addr × Obj)} {α : Type} {t : Sem α} {Q : α → Shared → Prop} (b : α) (hF : Fr h₀ L s.heap m) (hN : News h₀ L s.heap news)
    (hc : CutMark → ∀ R : α → Shared → Prop, CutRet h₀ L m news s b R → wpAny M A t R E s)
    (hk : ∀ h tk, Fr h₀ L h m → News h₀ L h news → Q b { s with heap := h, toks := tk }) : wpAny M A t Q E s := hc ⟨⟩ Q hk
theorem cutEnd {α : Type} {h₀ h : Heap} {L : Addr} {m : Str → Option Value} {news news' : List (Addr × Obj)} {s : Shared} {b b' : α} {R : α → Shared → Prop} {tk : Nat} (c : CutRet h₀ L m news s b R) (e : b' = b) (F : Fr h₀ L h m) (N : News h₀ L h news') (hs : ∀ p ∈ news, p ∈ news') : R b' { s with heap := h, toks := tk } := by
  subst e; exact c h tk F fun p hp => N p (hs p hp)
def CutRetX (h₀ : Heap) (L : Addr) (G : (Str → Option Value) → Prop) (news : List (Addr × Obj)) (s : Shared) (R : Flow → Shared → Prop) : Prop := ∀ m' h tk, G m' → Fr h₀ L h m' → News h₀ L h news → R .next { s with heap := h, toks := tk }
theorem cutX {M : Model} {A : Around} {E : Value → Shared → Prop} {s : Shared} {h₀ : Heap} {L : Addr} {m : Str → Option Value} {news : List (Addr × Obj)} {t : Sem Flow} {Q : Flow → Shared → Prop} (G : (Str → Option Value) → (Str → Option Value) → Prop) (hF : Fr h₀ L s.heap m) (hN : News h₀ L s.heap news)
    (hc : CutMark → ∀ R : Flow → Shared → Prop, CutRetX h₀ L (G m) news s R → wpAny M A t R E s)
    (hk : ∀ m' h tk, G m m' → Fr h₀ L h m' → News h₀ L h news → Q .next { s with heap := h, toks := tk }) : wpAny M A t Q E s := hc ⟨⟩ Q hk
theorem cutEndX {h₀ h : Heap} {L : Addr} {m' : Str → Option Value} {news news' : List (Addr × Obj)} {s : Shared} {G : (Str → Option Value) → Prop} {R : Flow → Shared → Prop} {tk : Nat} (c : CutRetX h₀ L G news s R) (e : G m') (F : Fr h₀ L h m') (N : News h₀ L h news') (hs : ∀ p ∈ news, p ∈ news') : R .next { s with heap := h, toks := tk } :=
  c m' h tk e F fun p hp => N p (hs p hp)
def upd (m : Str → Option Value) (x : Str) (v : Value) : Str → Option Value := fun y => if y = x then some v else m y
theorem upd_same {m : Str → Option Value} {x : Str} {v : Value} (h : m x = some v) : m = fun y => if y = x then some v else m y := by
  funext y
  by_cases e : y = x
  · rw [if_pos e, e, h]
  · rw [if_neg e]
theorem fdivAbs {a b : Int} (ha : 0 ≤ a) (hb : 0 < b) : Int.fdiv (if a < 0 then -a else a) (if b < 0 then -b else b) = a / b := by
  rw [if_neg (by omega), if_neg (by omega), Int.fdiv_eq_ediv_of_nonneg _ (by omega)]
theorem fdAbs {prog : Program} {w : World} {A : Around} {E : Value → Shared → Prop} {s : Shared} {a b : Int} {t u : Tok} {Q : Value → Shared → Prop} (ha : 0 ≤ a) (hb : 0 < b) (hb' : b < 1000000000) (h : Q (.int (a / b) s.toks) { s with toks := s.toks + 1 }) :
    wpAny (model prog w) A (binaryOp .FloorDiv (.int (if a < 0 then -a else a) t) (.int (if b < 0 then -b else b) u)) Q E s := by
  have e := fdivAbs ha hb
  have e2 : (if b < 0 then -b else b) = b := if_neg (by omega)
  exact floordiv_int (by rw [e2]; omega) (by rw [e]; exact h) (Or.inl (PyProof.noPylong_small (by rw [e2]; omega)))
theorem c_trunc (w : World) (a b : Int) (ta tb : Tok) (ha : 0 ≤ a) (hb : 0 < b) (hb' : b < 1000000000) : Call 1 w 28 [.int a ta, .int b tb] [] (RetI (a / b)) := by
  unfold Call
  k_fill
  intro mean mg mb dp un gd cn cs aa ccd cl outer A₀ base h₀ L m news s Q E B F X N T hk hd hu hret
  refine wpAny_call ?_
  k_dflt cell_enter
  (repeat' (first
      | (k_unfold; (try dsimp only))
      | (k_end; wrow_close)
      | (dsimp only; first | (k_here; first
        | ((k_here; (with_reducible show wpAny _ _ (binaryOp _ (Value.int (if _ < 0 then _ else _) _) (Value.int (if _ < 0 then _ else _) _)) _ _ _); (refine fdAbs (by assumption) (by assumption) (by assumption) ?_)))
        | ((k_here; first
  | with_reducible refine ite_tt ?_ | with_reducible refine ite_ff ?_
  | ((with_reducible show (if ((_ : Int) == _) = true then _ else _)); k_dflt (first | refine ite_beqT (by omega) ?_ | refine ite_beqF (by omega) ?_))
  | ((with_reducible show (if ((_ : Int) != _) = true then _ else _)); k_dflt (first | refine ite_bneT (by omega) ?_ | refine ite_bneF (by omega) ?_))))
        | (((with_reducible show wpAny _ _ (eval (Expr.Call (Expr.Name _ _) _ [] _) _) _ _ _); k_dflt (refine Call_ ?_)))
        | ((with_reducible show wpAny _ _ (compareOp CmpOp.In (Value.int _ _) (Value.ref _)) _ _ _); (k_here; (with_reducible show wpAny _ _ (compareOp CmpOp.In (Value.int 4 _) (Value.ref _)) _ _ _); k_dflt (first
  | (refine' in_name true (nameInt (by decide)) ?N ?m ?c ?d ?r ?u ?a ?_; (case N => k_asm); (case m => k_mem); (case c => exact rfl); (case d => exact rfl); (case r => repeat constructor); (case u => ktr_units); (case a => decide +kernel))
  | (refine' in_name false (nameInt (by decide)) ?N ?m ?c ?d ?r ?u ?a ?_; (case N => k_asm); (case m => k_mem); (case c => exact rfl); (case d => exact rfl); (case r => repeat constructor); (case u => ktr_units); (case a => decide +kernel)))))
        | ((k_here; (with_reducible show wpAny _ _ (compareOp CmpOp.In _ (Value.ref _)) _ _ _); k_dflt (first
  | (refine' in_name true ?V ?N ?m ?c ?d ?r ?u ?a ?_; (case V => with_reducible assumption); (case N => k_asm); (case m => k_mem); (case c => exact rfl); (case d => exact rfl); (case r => repeat constructor); (case u => ktr_units); (case a => decide +kernel))
  | (refine' in_name false ?V ?N ?m ?c ?d ?r ?u ?a ?_; (case V => with_reducible assumption); (case N => k_asm); (case m => k_mem); (case c => exact rfl); (case d => exact rfl); (case r => repeat constructor); (case u => ktr_units); (case a => decide +kernel)))))
        | ((with_reducible show wpAny _ _ (PySem.truthy _) _ _ _); (k_here; k_dflt (refine' truthy_name ?V ?_; (case V => with_reducible assumption)); intro tk9; (try dsimp only)))) | walk1)
      | (k_here; first
        | ((k_here; (with_reducible show wpAny _ _ (binaryOp _ (Value.int (if _ < 0 then _ else _) _) (Value.int (if _ < 0 then _ else _) _)) _ _ _); (refine fdAbs (by assumption) (by assumption) (by assumption) ?_)))
        | ((k_here; first
  | with_reducible refine ite_tt ?_ | with_reducible refine ite_ff ?_
  | ((with_reducible show (if ((_ : Int) == _) = true then _ else _)); k_dflt (first | refine ite_beqT (by omega) ?_ | refine ite_beqF (by omega) ?_))
  | ((with_reducible show (if ((_ : Int) != _) = true then _ else _)); k_dflt (first | refine ite_bneT (by omega) ?_ | refine ite_bneF (by omega) ?_))))
        | (((with_reducible show wpAny _ _ (eval (Expr.Call (Expr.Name _ _) _ [] _) _) _ _ _); k_dflt (refine Call_ ?_)))
        | ((with_reducible show wpAny _ _ (compareOp CmpOp.In (Value.int _ _) (Value.ref _)) _ _ _); (k_here; (with_reducible show wpAny _ _ (compareOp CmpOp.In (Value.int 4 _) (Value.ref _)) _ _ _); k_dflt (first
  | (refine' in_name true (nameInt (by decide)) ?N ?m ?c ?d ?r ?u ?a ?_; (case N => k_asm); (case m => k_mem); (case c => exact rfl); (case d => exact rfl); (case r => repeat constructor); (case u => ktr_units); (case a => decide +kernel))
  | (refine' in_name false (nameInt (by decide)) ?N ?m ?c ?d ?r ?u ?a ?_; (case N => k_asm); (case m => k_mem); (case c => exact rfl); (case d => exact rfl); (case r => repeat constructor); (case u => ktr_units); (case a => decide +kernel)))))
        | ((k_here; (with_reducible show wpAny _ _ (compareOp CmpOp.In _ (Value.ref _)) _ _ _); k_dflt (first
  | (refine' in_name true ?V ?N ?m ?c ?d ?r ?u ?a ?_; (case V => with_reducible assumption); (case N => k_asm); (case m => k_mem); (case c => exact rfl); (case d => exact rfl); (case r => repeat constructor); (case u => ktr_units); (case a => decide +kernel))
  | (refine' in_name false ?V ?N ?m ?c ?d ?r ?u ?a ?_; (case V => with_reducible assumption); (case N => k_asm); (case m => k_mem); (case c => exact rfl); (case d => exact rfl); (case r => repeat constructor); (case u => ktr_units); (case a => decide +kernel)))))
        | ((with_reducible show wpAny _ _ (PySem.truthy _) _ _ _); (k_here; k_dflt (refine' truthy_name ?V ?_; (case V => with_reducible assumption)); intro tk9; (try dsimp only))))
      | walk1
      | (leave1; walk_say "STEP leave1"; try dsimp only)
      | fail "no step"))
  · exact endI hret rfl (by k_asm) (by k_asm)
  · exact absurd (show (decide (a < 0) == decide (b < 0)) = false by assumption) (by rw [decide_eq_false (show ¬ a < 0 by omega), decide_eq_false (show ¬ b < 0 by omega)]; decide)
def isleapF (y : Int) : Bool := decide (y % 4 = 0) && (!decide (y % 100 = 0) || decide (y % 400 = 0))
theorem fm4 (y : Int) : Int.fmod y 4 = y % 4 := Int.fmod_eq_emod_of_nonneg _ (by decide)
theorem fm100 (y : Int) : Int.fmod y 100 = y % 100 := Int.fmod_eq_emod_of_nonneg _ (by decide)
theorem fm400 (y : Int) : Int.fmod y 400 = y % 400 := Int.fmod_eq_emod_of_nonneg _ (by decide)
theorem fm128 (y : Int) : Int.fmod y 128 = y % 128 := Int.fmod_eq_emod_of_nonneg _ (by decide)
theorem isleap_a {y : Int} (h : y.fmod 4 = 0) (h2 : y.fmod 100 ≠ 0) : (y.fmod 100 != 0) = isleapF y := by
  simp only [fm4, fm100] at *
  simp [isleapF, h, h2]
theorem isleap_b {y : Int} (h : y.fmod 4 = 0) (h2 : y.fmod 100 = 0) : (y.fmod 400 == 0) = isleapF y := by
  simp only [fm4, fm100, fm400] at *
  simp only [isleapF, h, h2, decide_true, Bool.not_true, Bool.true_and, Bool.false_or]; rfl
theorem isleap_c {y : Int} (h : y.fmod 4 ≠ 0) : (y.fmod 4 == 0) = isleapF y := by
  simp only [fm4, fm100, fm400] at *
  simp [isleapF, h]
theorem c_isleap (w : World) (y : Int) (ty : Tok) : Call 1 w 21 [.int y ty] [] (RetB (isleapF y)) := by
  unfold Call
  k_fill
  intro mean mg mb dp un gd cn cs aa ccd cl outer A₀ base h₀ L m news s Q E B F X N T hk hd hu hret
  refine wpAny_call ?_
  k_dflt cell_enter
  (repeat' (first
      | (k_unfold; (try dsimp only))
      | (k_end; wrow_close)
      | (dsimp only; first | (k_here; first
        | ((k_here; first
  | with_reducible refine ite_tt ?_ | with_reducible refine ite_ff ?_
  | ((with_reducible show (if ((_ : Int) == _) = true then _ else _)); k_dflt (first | refine ite_beqT (by omega) ?_ | refine ite_beqF (by omega) ?_))
  | ((with_reducible show (if ((_ : Int) != _) = true then _ else _)); k_dflt (first | refine ite_bneT (by omega) ?_ | refine ite_bneF (by omega) ?_))))
        | (((with_reducible show wpAny _ _ (eval (Expr.Call (Expr.Name _ _) _ [] _) _) _ _ _); k_dflt (refine Call_ ?_)))
        | ((with_reducible show wpAny _ _ (compareOp CmpOp.In (Value.int _ _) (Value.ref _)) _ _ _); (k_here; (with_reducible show wpAny _ _ (compareOp CmpOp.In (Value.int 4 _) (Value.ref _)) _ _ _); k_dflt (first
  | (refine' in_name true (nameInt (by decide)) ?N ?m ?c ?d ?r ?u ?a ?_; (case N => k_asm); (case m => k_mem); (case c => exact rfl); (case d => exact rfl); (case r => repeat constructor); (case u => ktr_units); (case a => decide +kernel))
  | (refine' in_name false (nameInt (by decide)) ?N ?m ?c ?d ?r ?u ?a ?_; (case N => k_asm); (case m => k_mem); (case c => exact rfl); (case d => exact rfl); (case r => repeat constructor); (case u => ktr_units); (case a => decide +kernel)))))
        | ((k_here; (with_reducible show wpAny _ _ (compareOp CmpOp.In _ (Value.ref _)) _ _ _); k_dflt (first
  | (refine' in_name true ?V ?N ?m ?c ?d ?r ?u ?a ?_; (case V => with_reducible assumption); (case N => k_asm); (case m => k_mem); (case c => exact rfl); (case d => exact rfl); (case r => repeat constructor); (case u => ktr_units); (case a => decide +kernel))
  | (refine' in_name false ?V ?N ?m ?c ?d ?r ?u ?a ?_; (case V => with_reducible assumption); (case N => k_asm); (case m => k_mem); (case c => exact rfl); (case d => exact rfl); (case r => repeat constructor); (case u => ktr_units); (case a => decide +kernel)))))
        | ((with_reducible show wpAny _ _ (PySem.truthy _) _ _ _); (k_here; k_dflt (refine' truthy_name ?V ?_; (case V => with_reducible assumption)); intro tk9; (try dsimp only)))) | walk1)
      | (k_here; first
        | ((k_here; first
  | with_reducible refine ite_tt ?_ | with_reducible refine ite_ff ?_
  | ((with_reducible show (if ((_ : Int) == _) = true then _ else _)); k_dflt (first | refine ite_beqT (by omega) ?_ | refine ite_beqF (by omega) ?_))
  | ((with_reducible show (if ((_ : Int) != _) = true then _ else _)); k_dflt (first | refine ite_bneT (by omega) ?_ | refine ite_bneF (by omega) ?_))))
        | (((with_reducible show wpAny _ _ (eval (Expr.Call (Expr.Name _ _) _ [] _) _) _ _ _); k_dflt (refine Call_ ?_)))
        | ((with_reducible show wpAny _ _ (compareOp CmpOp.In (Value.int _ _) (Value.ref _)) _ _ _); (k_here; (with_reducible show wpAny _ _ (compareOp CmpOp.In (Value.int 4 _) (Value.ref _)) _ _ _); k_dflt (first
  | (refine' in_name true (nameInt (by decide)) ?N ?m ?c ?d ?r ?u ?a ?_; (case N => k_asm); (case m => k_mem); (case c => exact rfl); (case d => exact rfl); (case r => repeat constructor); (case u => ktr_units); (case a => decide +kernel))
  | (refine' in_name false (nameInt (by decide)) ?N ?m ?c ?d ?r ?u ?a ?_; (case N => k_asm); (case m => k_mem); (case c => exact rfl); (case d => exact rfl); (case r => repeat constructor); (case u => ktr_units); (case a => decide +kernel)))))
        | ((k_here; (with_reducible show wpAny _ _ (compareOp CmpOp.In _ (Value.ref _)) _ _ _); k_dflt (first
  | (refine' in_name true ?V ?N ?m ?c ?d ?r ?u ?a ?_; (case V => with_reducible assumption); (case N => k_asm); (case m => k_mem); (case c => exact rfl); (case d => exact rfl); (case r => repeat constructor); (case u => ktr_units); (case a => decide +kernel))
  | (refine' in_name false ?V ?N ?m ?c ?d ?r ?u ?a ?_; (case V => with_reducible assumption); (case N => k_asm); (case m => k_mem); (case c => exact rfl); (case d => exact rfl); (case r => repeat constructor); (case u => ktr_units); (case a => decide +kernel)))))
        | ((with_reducible show wpAny _ _ (PySem.truthy _) _ _ _); (k_here; k_dflt (refine' truthy_name ?V ?_; (case V => with_reducible assumption)); intro tk9; (try dsimp only))))
      | walk1
      | (leave1; walk_say "STEP leave1"; try dsimp only)
      | fail "no step"))
  all_goals (refine endB hret ?_ (by k_asm) (by k_asm))
  · exact isleap_a (by assumption) (by assumption)
  · exact isleap_b (by assumption) (by assumption)
  · exact isleap_c (by assumption)
theorem c_isleapB (w : World) (y : Int) (ty : Tok) (b : Bool) (h : isleapF y = b) : Call 1 w 21 [.int y ty] [] (RetB b) := h ▸ c_isleap w y ty
theorem in_intsB {prog : Program} {w : World} {A : Around} {E : Value → Shared → Prop} {s : Shared} {t : Addr} {items : Array Value} {ns : List Int} {x : Int} {u : Tok} {Q : Value → Shared → Prop} {b : Bool} (hb : (ns.any (· == x)) = b) (ht : IsTup s.heap t items) (hi : IntsAre items.toList ns)
    (h : Q (.bool b) s) : wpAny (model prog w) A (compareOp .In (.int x u) (.ref t)) Q E s := in_tuple_ints ht hi (by rw [hb]; exact h)
def dimF (y m : Int) : Int := if m = 2 then (if isleapF y then 29 else 28) else if ([4, 6, 9, 11].any (· == m)) = true then 30 else 31
section
theorem c_legal (w : World) (y mo d : Int) (ty tm td : Tok) (h1 : 0 < d) (h2 : d ≤ dimF y mo) : Call 2 w 36 [.int y ty, .int mo tm, .int d td] [] (RetB true) := by
  have key : (mo = 2 ∧ isleapF y = true ∧ d ≤ 29) ∨ (mo = 2 ∧ isleapF y = false ∧ d ≤ 28) ∨ (mo ≠ 2 ∧ ([4, 6, 9, 11].any (· == mo)) = true ∧ d ≤ 30) ∨ (mo ≠ 2 ∧ ([4, 6, 9, 11].any (· == mo)) = false ∧ d ≤ 31) := by
    unfold dimF at h2
    by_cases a : mo = 2
    · rw [if_pos a] at h2
      cases b : isleapF y
      · rw [b] at h2; exact Or.inr (Or.inl ⟨a, rfl, h2⟩)
      · rw [b] at h2; exact Or.inl ⟨a, rfl, h2⟩
    · rw [if_neg a] at h2
      cases b : ([4, 6, 9, 11].any (· == mo))
      · rw [b] at h2; exact Or.inr (Or.inr (Or.inr ⟨a, rfl, h2⟩))
      · rw [b] at h2; exact Or.inr (Or.inr (Or.inl ⟨a, rfl, h2⟩))
  unfold Call
  k_fill
  intro mean mg mb dp un gd cn cs aa ccd cl outer A₀ base h₀ L m news s Q E B F X N T hk hd hu hret
  rcases key with ⟨a1, a2, a3⟩ | ⟨a1, a2, a3⟩ | ⟨a1, a2, a3⟩ | ⟨a1, a2, a3⟩
  all_goals (
    clear h2
    refine wpAny_call ?_
    k_dflt cell_enter
    (repeat' (first
      | (k_unfold; (try dsimp only))
      | (k_end; wrow_close)
      | (dsimp only; first | (k_here; first
        | ((with_reducible show wpAny _ _ (compareOp CmpOp.In (Value.int _ _) (Value.ref _)) _ _ _); (k_here; k_dflt (refine' in_intsB (ns := [4, 6, 9, 11]) ?b (tupK (Frag.In.keeps ?X (Fr.keep ?F)) ?l) ?i ?_; (case X => k_asm); (case F => k_asm); (case l => k_is); (case i => repeat constructor); (case b => assumption))))
        | ((with_reducible show wpAny _ _ (call (Value.ref _) _ _) _ _ _); (k_here; first
  | ((with_reducible show wpAny _ _ (call (Value.ref 21) _ _) _ _ _); k_dflt (refine use (c_isleapB _ _ _ _ (by with_reducible assumption)) ?_); (try dsimp only [RetI, RetB, RetT, RetS, RetT7, RetT3]); intros; (try dsimp only); (try k_sweep))))
        | ((k_here; first
  | with_reducible refine ite_tt ?_ | with_reducible refine ite_ff ?_
  | ((with_reducible show (if ((_ : Int) == _) = true then _ else _)); k_dflt (first | refine ite_beqT (by omega) ?_ | refine ite_beqF (by omega) ?_))
  | ((with_reducible show (if ((_ : Int) != _) = true then _ else _)); k_dflt (first | refine ite_bneT (by omega) ?_ | refine ite_bneF (by omega) ?_))))
        | (((with_reducible show wpAny _ _ (eval (Expr.Call (Expr.Name _ _) _ [] _) _) _ _ _); k_dflt (refine Call_ ?_)))
        | ((with_reducible show wpAny _ _ (compareOp CmpOp.In (Value.int _ _) (Value.ref _)) _ _ _); (k_here; (with_reducible show wpAny _ _ (compareOp CmpOp.In (Value.int 4 _) (Value.ref _)) _ _ _); k_dflt (first
  | (refine' in_name true (nameInt (by decide)) ?N ?m ?c ?d ?r ?u ?a ?_; (case N => k_asm); (case m => k_mem); (case c => exact rfl); (case d => exact rfl); (case r => repeat constructor); (case u => ktr_units); (case a => decide +kernel))
  | (refine' in_name false (nameInt (by decide)) ?N ?m ?c ?d ?r ?u ?a ?_; (case N => k_asm); (case m => k_mem); (case c => exact rfl); (case d => exact rfl); (case r => repeat constructor); (case u => ktr_units); (case a => decide +kernel)))))
        | ((k_here; (with_reducible show wpAny _ _ (compareOp CmpOp.In _ (Value.ref _)) _ _ _); k_dflt (first
  | (refine' in_name true ?V ?N ?m ?c ?d ?r ?u ?a ?_; (case V => with_reducible assumption); (case N => k_asm); (case m => k_mem); (case c => exact rfl); (case d => exact rfl); (case r => repeat constructor); (case u => ktr_units); (case a => decide +kernel))
  | (refine' in_name false ?V ?N ?m ?c ?d ?r ?u ?a ?_; (case V => with_reducible assumption); (case N => k_asm); (case m => k_mem); (case c => exact rfl); (case d => exact rfl); (case r => repeat constructor); (case u => ktr_units); (case a => decide +kernel)))))
        | ((with_reducible show wpAny _ _ (PySem.truthy _) _ _ _); (k_here; k_dflt (refine' truthy_name ?V ?_; (case V => with_reducible assumption)); intro tk9; (try dsimp only)))) | walk1)
      | (k_here; first
        | ((with_reducible show wpAny _ _ (compareOp CmpOp.In (Value.int _ _) (Value.ref _)) _ _ _); (k_here; k_dflt (refine' in_intsB (ns := [4, 6, 9, 11]) ?b (tupK (Frag.In.keeps ?X (Fr.keep ?F)) ?l) ?i ?_; (case X => k_asm); (case F => k_asm); (case l => k_is); (case i => repeat constructor); (case b => assumption))))
        | ((with_reducible show wpAny _ _ (call (Value.ref _) _ _) _ _ _); (k_here; first
  | ((with_reducible show wpAny _ _ (call (Value.ref 21) _ _) _ _ _); k_dflt (refine use (c_isleapB _ _ _ _ (by with_reducible assumption)) ?_); (try dsimp only [RetI, RetB, RetT, RetS, RetT7, RetT3]); intros; (try dsimp only); (try k_sweep))))
        | ((k_here; first
  | with_reducible refine ite_tt ?_ | with_reducible refine ite_ff ?_
  | ((with_reducible show (if ((_ : Int) == _) = true then _ else _)); k_dflt (first | refine ite_beqT (by omega) ?_ | refine ite_beqF (by omega) ?_))
  | ((with_reducible show (if ((_ : Int) != _) = true then _ else _)); k_dflt (first | refine ite_bneT (by omega) ?_ | refine ite_bneF (by omega) ?_))))
        | (((with_reducible show wpAny _ _ (eval (Expr.Call (Expr.Name _ _) _ [] _) _) _ _ _); k_dflt (refine Call_ ?_)))
        | ((with_reducible show wpAny _ _ (compareOp CmpOp.In (Value.int _ _) (Value.ref _)) _ _ _); (k_here; (with_reducible show wpAny _ _ (compareOp CmpOp.In (Value.int 4 _) (Value.ref _)) _ _ _); k_dflt (first
  | (refine' in_name true (nameInt (by decide)) ?N ?m ?c ?d ?r ?u ?a ?_; (case N => k_asm); (case m => k_mem); (case c => exact rfl); (case d => exact rfl); (case r => repeat constructor); (case u => ktr_units); (case a => decide +kernel))
  | (refine' in_name false (nameInt (by decide)) ?N ?m ?c ?d ?r ?u ?a ?_; (case N => k_asm); (case m => k_mem); (case c => exact rfl); (case d => exact rfl); (case r => repeat constructor); (case u => ktr_units); (case a => decide +kernel)))))
        | ((k_here; (with_reducible show wpAny _ _ (compareOp CmpOp.In _ (Value.ref _)) _ _ _); k_dflt (first
  | (refine' in_name true ?V ?N ?m ?c ?d ?r ?u ?a ?_; (case V => with_reducible assumption); (case N => k_asm); (case m => k_mem); (case c => exact rfl); (case d => exact rfl); (case r => repeat constructor); (case u => ktr_units); (case a => decide +kernel))
  | (refine' in_name false ?V ?N ?m ?c ?d ?r ?u ?a ?_; (case V => with_reducible assumption); (case N => k_asm); (case m => k_mem); (case c => exact rfl); (case d => exact rfl); (case r => repeat constructor); (case u => ktr_units); (case a => decide +kernel)))))
        | ((with_reducible show wpAny _ _ (PySem.truthy _) _ _ _); (k_here; k_dflt (refine' truthy_name ?V ?_; (case V => with_reducible assumption)); intro tk9; (try dsimp only))))
      | walk1
      | (leave1; walk_say "STEP leave1"; try dsimp only)
      | fail "no step")))
  all_goals exact endB hret rfl (by k_asm) (by k_asm)
end
def adjF (y m : Int) : Int := if m ≤ 2 then 0 else if isleapF y then -1 else -2
def gjd (y m d : Int) : Int := 1721425 + 365 * (y - 1) + (y - 1) / 4 - (y - 1) / 100 + (y - 1) / 400 + ((367 * m - 362) / 12 + adjF y m + d)
theorem fd4 (y : Int) : Int.fdiv y 4 = y / 4 := Int.fdiv_eq_ediv_of_nonneg _ (by decide)
theorem fd100 (y : Int) : Int.fdiv y 100 = y / 100 := Int.fdiv_eq_ediv_of_nonneg _ (by decide)
theorem fd400 (y : Int) : Int.fdiv y 400 = y / 400 := Int.fdiv_eq_ediv_of_nonneg _ (by decide)
theorem fd12 (y : Int) : Int.fdiv y 12 = y / 12 := Int.fdiv_eq_ediv_of_nonneg _ (by decide)
theorem gto_e {y mo d a : Int} (h : a = adjF y mo) : 1721426 - 1 + 365 * (y - 1) + (y - 1).fdiv 4 + -(y - 1).fdiv 100 + (y - 1).fdiv 400 + ((367 * mo - 362).fdiv 12 + a + d) = gjd y mo d := by
  subst h
  simp only [gjd, fd4, fd100, fd400, fd12]
  omega
theorem adj_a {y mo : Int} (h : mo ≤ 2) : 0 = adjF y mo := by rw [adjF, if_pos h]
theorem adj_b {y mo : Int} (h : ¬ mo ≤ 2) (h' : isleapF y = true) : -1 = adjF y mo := by rw [adjF, if_neg h, if_pos h']
theorem adj_c {y mo : Int} (h : ¬ mo ≤ 2) (h' : isleapF y = false) : -2 = adjF y mo := by rw [adjF, if_neg h, h']; rfl
theorem c_gto (w : World) (y mo d : Int) (ty tm td : Tok) (h1 : 0 < d) (h2 : d ≤ dimF y mo) : Call 3 w 43 [.int y ty, .int mo tm, .int d td] [] (RetI (gjd y mo d)) := by
  unfold Call
  k_fill
  intro mean mg mb dp un gd cn cs aa ccd cl outer A₀ base h₀ L m news s Q E B F X N T hk hd hu hret
  refine wpAny_call ?_
  k_dflt cell_enter
  (repeat' (first
      | (k_unfold; (try dsimp only))
      | (k_end; wrow_close)
      | (dsimp only; first | (k_here; first
        | ((with_reducible show wpAny _ _ (call (Value.ref _) _ _) _ _ _); (k_here; first
  | ((with_reducible show wpAny _ _ (call (Value.ref 36) _ _) _ _ _); k_dflt (refine use (c_legal _ _ _ _ _ _ _ (by assumption) (by assumption)) ?_); (try dsimp only [RetI, RetB, RetT, RetS, RetT7, RetT3]); intros; (try dsimp only); (try k_sweep))))
        | ((with_reducible show wpAny _ _ (call (Value.ref _) _ _) _ _ _); (k_here; first
  | ((with_reducible show wpAny _ _ (call (Value.ref 21) _ _) _ _ _); k_dflt (refine use (c_isleap _ _ _) ?_); (try dsimp only [RetI, RetB, RetT, RetS, RetT7, RetT3]); intros; (try dsimp only); (try k_sweep))))
        | ((k_here; first
  | with_reducible refine ite_tt ?_ | with_reducible refine ite_ff ?_
  | ((with_reducible show (if ((_ : Int) == _) = true then _ else _)); k_dflt (first | refine ite_beqT (by omega) ?_ | refine ite_beqF (by omega) ?_))
  | ((with_reducible show (if ((_ : Int) != _) = true then _ else _)); k_dflt (first | refine ite_bneT (by omega) ?_ | refine ite_bneF (by omega) ?_))))
        | (((with_reducible show wpAny _ _ (eval (Expr.Call (Expr.Name _ _) _ [] _) _) _ _ _); k_dflt (refine Call_ ?_)))
        | ((with_reducible show wpAny _ _ (compareOp CmpOp.In (Value.int _ _) (Value.ref _)) _ _ _); (k_here; (with_reducible show wpAny _ _ (compareOp CmpOp.In (Value.int 4 _) (Value.ref _)) _ _ _); k_dflt (first
  | (refine' in_name true (nameInt (by decide)) ?N ?m ?c ?d ?r ?u ?a ?_; (case N => k_asm); (case m => k_mem); (case c => exact rfl); (case d => exact rfl); (case r => repeat constructor); (case u => ktr_units); (case a => decide +kernel))
  | (refine' in_name false (nameInt (by decide)) ?N ?m ?c ?d ?r ?u ?a ?_; (case N => k_asm); (case m => k_mem); (case c => exact rfl); (case d => exact rfl); (case r => repeat constructor); (case u => ktr_units); (case a => decide +kernel)))))
        | ((k_here; (with_reducible show wpAny _ _ (compareOp CmpOp.In _ (Value.ref _)) _ _ _); k_dflt (first
  | (refine' in_name true ?V ?N ?m ?c ?d ?r ?u ?a ?_; (case V => with_reducible assumption); (case N => k_asm); (case m => k_mem); (case c => exact rfl); (case d => exact rfl); (case r => repeat constructor); (case u => ktr_units); (case a => decide +kernel))
  | (refine' in_name false ?V ?N ?m ?c ?d ?r ?u ?a ?_; (case V => with_reducible assumption); (case N => k_asm); (case m => k_mem); (case c => exact rfl); (case d => exact rfl); (case r => repeat constructor); (case u => ktr_units); (case a => decide +kernel)))))
        | ((with_reducible show wpAny _ _ (PySem.truthy _) _ _ _); (k_here; k_dflt (refine' truthy_name ?V ?_; (case V => with_reducible assumption)); intro tk9; (try dsimp only)))) | walk1)
      | (k_here; first
        | ((with_reducible show wpAny _ _ (call (Value.ref _) _ _) _ _ _); (k_here; first
  | ((with_reducible show wpAny _ _ (call (Value.ref 36) _ _) _ _ _); k_dflt (refine use (c_legal _ _ _ _ _ _ _ (by assumption) (by assumption)) ?_); (try dsimp only [RetI, RetB, RetT, RetS, RetT7, RetT3]); intros; (try dsimp only); (try k_sweep))))
        | ((with_reducible show wpAny _ _ (call (Value.ref _) _ _) _ _ _); (k_here; first
  | ((with_reducible show wpAny _ _ (call (Value.ref 21) _ _) _ _ _); k_dflt (refine use (c_isleap _ _ _) ?_); (try dsimp only [RetI, RetB, RetT, RetS, RetT7, RetT3]); intros; (try dsimp only); (try k_sweep))))
        | ((k_here; first
  | with_reducible refine ite_tt ?_ | with_reducible refine ite_ff ?_
  | ((with_reducible show (if ((_ : Int) == _) = true then _ else _)); k_dflt (first | refine ite_beqT (by omega) ?_ | refine ite_beqF (by omega) ?_))
  | ((with_reducible show (if ((_ : Int) != _) = true then _ else _)); k_dflt (first | refine ite_bneT (by omega) ?_ | refine ite_bneF (by omega) ?_))))
        | (((with_reducible show wpAny _ _ (eval (Expr.Call (Expr.Name _ _) _ [] _) _) _ _ _); k_dflt (refine Call_ ?_)))
        | ((with_reducible show wpAny _ _ (compareOp CmpOp.In (Value.int _ _) (Value.ref _)) _ _ _); (k_here; (with_reducible show wpAny _ _ (compareOp CmpOp.In (Value.int 4 _) (Value.ref _)) _ _ _); k_dflt (first
  | (refine' in_name true (nameInt (by decide)) ?N ?m ?c ?d ?r ?u ?a ?_; (case N => k_asm); (case m => k_mem); (case c => exact rfl); (case d => exact rfl); (case r => repeat constructor); (case u => ktr_units); (case a => decide +kernel))
  | (refine' in_name false (nameInt (by decide)) ?N ?m ?c ?d ?r ?u ?a ?_; (case N => k_asm); (case m => k_mem); (case c => exact rfl); (case d => exact rfl); (case r => repeat constructor); (case u => ktr_units); (case a => decide +kernel)))))
        | ((k_here; (with_reducible show wpAny _ _ (compareOp CmpOp.In _ (Value.ref _)) _ _ _); k_dflt (first
  | (refine' in_name true ?V ?N ?m ?c ?d ?r ?u ?a ?_; (case V => with_reducible assumption); (case N => k_asm); (case m => k_mem); (case c => exact rfl); (case d => exact rfl); (case r => repeat constructor); (case u => ktr_units); (case a => decide +kernel))
  | (refine' in_name false ?V ?N ?m ?c ?d ?r ?u ?a ?_; (case V => with_reducible assumption); (case N => k_asm); (case m => k_mem); (case c => exact rfl); (case d => exact rfl); (case r => repeat constructor); (case u => ktr_units); (case a => decide +kernel)))))
        | ((with_reducible show wpAny _ _ (PySem.truthy _) _ _ _); (k_here; k_dflt (refine' truthy_name ?V ?_; (case V => with_reducible assumption)); intro tk9; (try dsimp only))))
      | walk1
      | (leave1; walk_say "STEP leave1"; try dsimp only)
      | fail "no step"))
  · exact endI hret (gto_e (adj_a (by assumption))) (by k_asm) (by k_asm)
  · exact endI hret (gto_e (adj_b (by assumption) (by assumption))) (by k_asm) (by k_asm)
  · exact endI hret (gto_e (adj_c (by assumption) (by assumption))) (by k_asm) (by k_asm)
theorem dimF_one (y mo : Int) : 1 ≤ dimF y mo := by
  unfold dimF
  repeat' split
  all_goals decide
def gC (j : Int) : Int := ((j - 1721426).fmod 146097).fdiv 36524
def gI (j : Int) : Int := ((((j - 1721426).fmod 146097).fmod 36524).fmod 1461).fdiv 365
def gB (j : Int) : Int := (j - 1721426).fdiv 146097 * 400 + ((j - 1721426).fmod 146097).fdiv 36524 * 100 + (((j - 1721426).fmod 146097).fmod 36524).fdiv 1461 * 4 + ((((j - 1721426).fmod 146097).fmod 36524).fmod 1461).fdiv 365
def gY (j : Int) : Int := if gC j = 4 ∨ gI j = 4 then gB j else gB j + 1
def gAd (j : Int) : Int := if j - gjd (gY j) 1 1 < 58 + (if isleapF (gY j) = true then 1 else 0) then 0 else if isleapF (gY j) = true then 1 else 2
def gM (j : Int) : Int := ((j - gjd (gY j) 1 1 + gAd j) * 12 + 373).fdiv 367
def gD (j : Int) : Int := j - gjd (gY j) (gM j) 1 + 1
theorem y_a {j : Int} (h : gC j = 4) : gB j = gY j := by rw [gY, if_pos (Or.inl h)]
theorem y_b {j : Int} (h : gI j = 4) : gB j = gY j := by rw [gY, if_pos (Or.inr h)]
theorem y_c {j : Int} (h : gC j ≠ 4) (h' : gI j ≠ 4) : gB j + 1 = gY j := by rw [gY, if_neg (fun e => e.elim h h')]
theorem ad_a {j Y : Int} (hy : Y = gY j) (h : j - gjd Y 1 1 < 58 + (if isleapF Y = true then 1 else 0)) : 0 = gAd j := by subst hy; rw [gAd, if_pos h]
theorem ad_b {j Y : Int} (hy : Y = gY j) (h : ¬ j - gjd Y 1 1 < 58 + (if isleapF Y = true then 1 else 0)) (h' : isleapF Y = true) : 1 = gAd j := by subst hy; rw [gAd, if_neg h, if_pos h']
theorem ad_c {j Y : Int} (hy : Y = gY j) (h : ¬ j - gjd Y 1 1 < 58 + (if isleapF Y = true then 1 else 0)) (h' : isleapF Y = false) : 2 = gAd j := by subst hy; rw [gAd, if_neg h, if_neg (by rw [h']; exact Bool.false_ne_true)]
theorem gM_e {j Y a : Int} (hy : Y = gY j) (ha : a = gAd j) : ((j - gjd Y 1 1 + a) * 12 + 373).fdiv 367 = gM j := by subst hy ha; rfl
theorem gD_e {j Y a : Int} (hy : Y = gY j) (ha : a = gAd j) : j - gjd Y (((j - gjd Y 1 1 + a) * 12 + 373).fdiv 367) 1 + 1 = gD j := by subst hy ha; rfl
theorem gy_same {m : Str → Option Value} {j : Int} {t : Tok} (h : m (Str.ofString "year") = some (.int (gB j) t)) (e : gB j = gY j) : ∃ t, m = fun y => if y = Str.ofString "year" then some (.int (gY j) t) else m y := ⟨t, upd_same (by rw [h, e])⟩
theorem gy_more {m : Str → Option Value} {j Y : Int} {t : Tok} (e : Y = gY j) : ∃ t', (fun y => if y = Str.ofString "year" then some (Value.int Y t) else m y) = fun y => if y = Str.ofString "year" then some (.int (gY j) t') else m y := ⟨t, by rw [e]⟩
theorem ga_more {m : Str → Option Value} {j a : Int} {t : Tok} (e : a = gAd j) : ∃ t', (fun y => if y = Str.ofString "leap_adj" then some (Value.int a t) else m y) = fun y => if y = Str.ofString "leap_adj" then some (.int (gAd j) t') else m y := ⟨t, by rw [e]⟩
structure GJ (j : Int) : Prop where
theorem cutJ {M : Model} {A : Around} {E : Value → Shared → Prop} {s : Shared} {h₀ : Heap} {L : Addr} {m : Str → Option Value} {news : List (Addr × Obj)} {t : Sem Flow} {Q : Flow → Shared → Prop} {j : Int} (hj : GJ j) (G : Int → (Str → Option Value) → (Str → Option Value) → Prop) (hF : Fr h₀ L s.heap m) (hN : News h₀ L s.heap news)
    (hc : CutMark → ∀ R : Flow → Shared → Prop, CutRetX h₀ L (G j m) news s R → wpAny M A t R E s)
    (hk : ∀ m' h tk, G j m m' → Fr h₀ L h m' → News h₀ L h news → Q .next { s with heap := h, toks := tk }) : wpAny M A t Q E s := hc ⟨⟩ Q hk
section
theorem c_gfrom (w : World) (j : Int) (tj : Tok) : Call 4 w 50 [.int j tj] [] (RetT (gY j) (gM j) (gD j)) := by
  unfold Call
  k_fill
  intro mean mg mb dp un gd cn cs aa ccd cl outer A₀ base h₀ L m news s Q E B F X N T hk hd hu hret
  have hJ : GJ j := ⟨⟩
  refine wpAny_call ?_
  k_dflt cell_enter
  (repeat' (first
      | (k_unfold; (try dsimp only))
      | (k_end; wrow_close)
      | (dsimp only; first | (k_here; first
        | ((k_here; (fail_if_success (with_reducible rename CutMark => cM9)); (with_reducible show wpAny _ _ (exec (Stmt.If (Expr.Compare (Expr.Name _ _) _ _ _) _ _ _) _) _ _ _); (with_reducible rename GJ _ => hj9); k_dflt (refine' cutJ hj9 (fun j m m' => ∃ t, m' = fun y => if y = Str.ofString "leap_adj" then some (.int (gAd j) t) else m y) ?F ?N (fun cM9 R9 hR9 => ?_) (fun m9 h9 tk9 g9 F9 N9 => ?_); (case F => k_asm); (case N => k_asm)); (all_goals (try (obtain ⟨v9, e9⟩ := g9; subst e9))); (all_goals (try dsimp only)); (all_goals (try k_sweep))))
        | ((k_here; (fail_if_success (with_reducible rename CutMark => cM9)); (with_reducible show wpAny _ _ (exec (Stmt.If (Expr.UnaryOp _ _ _) _ _ _) _) _ _ _); (with_reducible rename GJ _ => hj9); k_dflt (refine' cutJ hj9 (fun j m m' => ∃ t, m' = fun y => if y = Str.ofString "year" then some (.int (gY j) t) else m y) ?F ?N (fun cM9 R9 hR9 => ?_) (fun m9 h9 tk9 g9 F9 N9 => ?_); (case F => k_asm); (case N => k_asm)); (all_goals (try (obtain ⟨v9, e9⟩ := g9; subst e9))); (all_goals (try dsimp only)); (all_goals (try k_sweep))))
        | ((with_reducible show wpAny _ _ (call (Value.ref _) _ _) _ _ _); (k_here; first
  | ((with_reducible show wpAny _ _ (call (Value.ref 43) _ _) _ _ _); k_dflt (refine use (c_gto _ _ _ _ _ _ _ (by first | assumption | decide) (by first | assumption | exact dimF_one _ _)) ?_); (try dsimp only [RetI, RetB, RetT, RetS, RetT7, RetT3]); intros; (try dsimp only); (try k_sweep))))
        | ((with_reducible show wpAny _ _ (call (Value.ref _) _ _) _ _ _); (k_here; first
  | ((with_reducible show wpAny _ _ (call (Value.ref 21) _ _) _ _ _); k_dflt (refine use (c_isleap _ _ _) ?_); (try dsimp only [RetI, RetB, RetT, RetS, RetT7, RetT3]); intros; (try dsimp only); (try k_sweep))))
        | ((k_here; first
  | with_reducible refine ite_tt ?_ | with_reducible refine ite_ff ?_
  | ((with_reducible show (if ((_ : Int) == _) = true then _ else _)); k_dflt (first | refine ite_beqT (by omega) ?_ | refine ite_beqF (by omega) ?_))
  | ((with_reducible show (if ((_ : Int) != _) = true then _ else _)); k_dflt (first | refine ite_bneT (by omega) ?_ | refine ite_bneF (by omega) ?_))))
        | (((with_reducible show wpAny _ _ (eval (Expr.Call (Expr.Name _ _) _ [] _) _) _ _ _); k_dflt (refine Call_ ?_)))
        | ((with_reducible show wpAny _ _ (compareOp CmpOp.In (Value.int _ _) (Value.ref _)) _ _ _); (k_here; (with_reducible show wpAny _ _ (compareOp CmpOp.In (Value.int 4 _) (Value.ref _)) _ _ _); k_dflt (first
  | (refine' in_name true (nameInt (by decide)) ?N ?m ?c ?d ?r ?u ?a ?_; (case N => k_asm); (case m => k_mem); (case c => exact rfl); (case d => exact rfl); (case r => repeat constructor); (case u => ktr_units); (case a => decide +kernel))
  | (refine' in_name false (nameInt (by decide)) ?N ?m ?c ?d ?r ?u ?a ?_; (case N => k_asm); (case m => k_mem); (case c => exact rfl); (case d => exact rfl); (case r => repeat constructor); (case u => ktr_units); (case a => decide +kernel)))))
        | ((k_here; (with_reducible show wpAny _ _ (compareOp CmpOp.In _ (Value.ref _)) _ _ _); k_dflt (first
  | (refine' in_name true ?V ?N ?m ?c ?d ?r ?u ?a ?_; (case V => with_reducible assumption); (case N => k_asm); (case m => k_mem); (case c => exact rfl); (case d => exact rfl); (case r => repeat constructor); (case u => ktr_units); (case a => decide +kernel))
  | (refine' in_name false ?V ?N ?m ?c ?d ?r ?u ?a ?_; (case V => with_reducible assumption); (case N => k_asm); (case m => k_mem); (case c => exact rfl); (case d => exact rfl); (case r => repeat constructor); (case u => ktr_units); (case a => decide +kernel)))))
        | ((with_reducible show wpAny _ _ (PySem.truthy _) _ _ _); (k_here; k_dflt (refine' truthy_name ?V ?_; (case V => with_reducible assumption)); intro tk9; (try dsimp only)))) | walk1)
      | (k_here; first
        | ((k_here; (fail_if_success (with_reducible rename CutMark => cM9)); (with_reducible show wpAny _ _ (exec (Stmt.If (Expr.Compare (Expr.Name _ _) _ _ _) _ _ _) _) _ _ _); (with_reducible rename GJ _ => hj9); k_dflt (refine' cutJ hj9 (fun j m m' => ∃ t, m' = fun y => if y = Str.ofString "leap_adj" then some (.int (gAd j) t) else m y) ?F ?N (fun cM9 R9 hR9 => ?_) (fun m9 h9 tk9 g9 F9 N9 => ?_); (case F => k_asm); (case N => k_asm)); (all_goals (try (obtain ⟨v9, e9⟩ := g9; subst e9))); (all_goals (try dsimp only)); (all_goals (try k_sweep))))
        | ((k_here; (fail_if_success (with_reducible rename CutMark => cM9)); (with_reducible show wpAny _ _ (exec (Stmt.If (Expr.UnaryOp _ _ _) _ _ _) _) _ _ _); (with_reducible rename GJ _ => hj9); k_dflt (refine' cutJ hj9 (fun j m m' => ∃ t, m' = fun y => if y = Str.ofString "year" then some (.int (gY j) t) else m y) ?F ?N (fun cM9 R9 hR9 => ?_) (fun m9 h9 tk9 g9 F9 N9 => ?_); (case F => k_asm); (case N => k_asm)); (all_goals (try (obtain ⟨v9, e9⟩ := g9; subst e9))); (all_goals (try dsimp only)); (all_goals (try k_sweep))))
        | ((with_reducible show wpAny _ _ (call (Value.ref _) _ _) _ _ _); (k_here; first
  | ((with_reducible show wpAny _ _ (call (Value.ref 43) _ _) _ _ _); k_dflt (refine use (c_gto _ _ _ _ _ _ _ (by first | assumption | decide) (by first | assumption | exact dimF_one _ _)) ?_); (try dsimp only [RetI, RetB, RetT, RetS, RetT7, RetT3]); intros; (try dsimp only); (try k_sweep))))
        | ((with_reducible show wpAny _ _ (call (Value.ref _) _ _) _ _ _); (k_here; first
  | ((with_reducible show wpAny _ _ (call (Value.ref 21) _ _) _ _ _); k_dflt (refine use (c_isleap _ _ _) ?_); (try dsimp only [RetI, RetB, RetT, RetS, RetT7, RetT3]); intros; (try dsimp only); (try k_sweep))))
        | ((k_here; first
  | with_reducible refine ite_tt ?_ | with_reducible refine ite_ff ?_
  | ((with_reducible show (if ((_ : Int) == _) = true then _ else _)); k_dflt (first | refine ite_beqT (by omega) ?_ | refine ite_beqF (by omega) ?_))
  | ((with_reducible show (if ((_ : Int) != _) = true then _ else _)); k_dflt (first | refine ite_bneT (by omega) ?_ | refine ite_bneF (by omega) ?_))))
        | (((with_reducible show wpAny _ _ (eval (Expr.Call (Expr.Name _ _) _ [] _) _) _ _ _); k_dflt (refine Call_ ?_)))
        | ((with_reducible show wpAny _ _ (compareOp CmpOp.In (Value.int _ _) (Value.ref _)) _ _ _); (k_here; (with_reducible show wpAny _ _ (compareOp CmpOp.In (Value.int 4 _) (Value.ref _)) _ _ _); k_dflt (first
  | (refine' in_name true (nameInt (by decide)) ?N ?m ?c ?d ?r ?u ?a ?_; (case N => k_asm); (case m => k_mem); (case c => exact rfl); (case d => exact rfl); (case r => repeat constructor); (case u => ktr_units); (case a => decide +kernel))
  | (refine' in_name false (nameInt (by decide)) ?N ?m ?c ?d ?r ?u ?a ?_; (case N => k_asm); (case m => k_mem); (case c => exact rfl); (case d => exact rfl); (case r => repeat constructor); (case u => ktr_units); (case a => decide +kernel)))))
        | ((k_here; (with_reducible show wpAny _ _ (compareOp CmpOp.In _ (Value.ref _)) _ _ _); k_dflt (first
  | (refine' in_name true ?V ?N ?m ?c ?d ?r ?u ?a ?_; (case V => with_reducible assumption); (case N => k_asm); (case m => k_mem); (case c => exact rfl); (case d => exact rfl); (case r => repeat constructor); (case u => ktr_units); (case a => decide +kernel))
  | (refine' in_name false ?V ?N ?m ?c ?d ?r ?u ?a ?_; (case V => with_reducible assumption); (case N => k_asm); (case m => k_mem); (case c => exact rfl); (case d => exact rfl); (case r => repeat constructor); (case u => ktr_units); (case a => decide +kernel)))))
        | ((with_reducible show wpAny _ _ (PySem.truthy _) _ _ _); (k_here; k_dflt (refine' truthy_name ?V ?_; (case V => with_reducible assumption)); intro tk9; (try dsimp only))))
      | walk1
      | (leave1; walk_say "STEP leave1"; try dsimp only)
      | fail "no step"))
  any_goals ((with_reducible rename CutRetX _ _ _ _ _ _ => cR9); first
    | exact cutEndX cR9 (gy_same rfl (y_a (by assumption))) (by k_asm) (by k_asm) (by first | exact (fun _ hp => hp) | exact (fun _ hp => .tail _ hp) | exact (fun _ hp => .tail _ (.tail _ hp)))
    | exact cutEndX cR9 (gy_same rfl (y_b (by assumption))) (by k_asm) (by k_asm) (by first | exact (fun _ hp => hp) | exact (fun _ hp => .tail _ hp) | exact (fun _ hp => .tail _ (.tail _ hp)))
    | exact cutEndX cR9 (gy_more (y_c (by assumption) (by assumption))) (by k_asm) (by k_asm) (by first | exact (fun _ hp => hp) | exact (fun _ hp => .tail _ hp) | exact (fun _ hp => .tail _ (.tail _ hp)))
    | exact cutEndX cR9 (ga_more (ad_a rfl (by assumption))) (by k_asm) (by k_asm) (by first | exact (fun _ hp => hp) | exact (fun _ hp => .tail _ hp) | exact (fun _ hp => .tail _ (.tail _ hp)))
    | exact cutEndX cR9 (ga_more (ad_b rfl (by assumption) (by assumption))) (by k_asm) (by k_asm) (by first | exact (fun _ hp => hp) | exact (fun _ hp => .tail _ hp) | exact (fun _ hp => .tail _ (.tail _ hp)))
    | exact cutEndX cR9 (ga_more (ad_c rfl (by assumption) (by assumption))) (by k_asm) (by k_asm) (by first | exact (fun _ hp => hp) | exact (fun _ hp => .tail _ hp) | exact (fun _ hp => .tail _ (.tail _ hp))))
  all_goals (refine endT hret (by k_asm) (by k_asm) (fun _ hp => hp) (by first | assumption | exact allLt_of (by assumption)) rfl rfl rfl)
end
theorem fm1461 (y : Int) : Int.fmod y 1461 = y % 1461 := Int.fmod_eq_emod_of_nonneg _ (by decide)
theorem fm365 (y : Int) : Int.fmod y 365 = y % 365 := Int.fmod_eq_emod_of_nonneg _ (by decide)
theorem fm36524 (y : Int) : Int.fmod y 36524 = y % 36524 := Int.fmod_eq_emod_of_nonneg _ (by decide)
theorem fm46751 (y : Int) : Int.fmod y 46751 = y % 46751 := Int.fmod_eq_emod_of_nonneg _ (by decide)
theorem fm146097 (y : Int) : Int.fmod y 146097 = y % 146097 := Int.fmod_eq_emod_of_nonneg _ (by decide)
theorem fm1460969 (y : Int) : Int.fmod y 1460969 = y % 1460969 := Int.fmod_eq_emod_of_nonneg _ (by decide)
theorem fm4000 (y : Int) : Int.fmod y 4000 = y % 4000 := Int.fmod_eq_emod_of_nonneg _ (by decide)
def yrF (k : Int) : Int := k / 1461 * 4 + (if k % 1461 = 1460 then 3 else k % 1461 / 365)
def ddF (k : Int) : Int := if k % 1461 = 1460 then 365 else k % 1461 % 365
def Y0 (j : Int) : Int := yrF (j - 2375475)
def M0 (j : Int) : Int := ddF (j - 2375475) / 30 + 1
def D0 (j : Int) : Int := ddF (j - 2375475) % 30 + 1
def Y1 (j : Int) : Int := if j ≤ 2380223 then Y0 j else yrF (j - 2380223) + 13
def M1 (j : Int) : Int := if j ≤ 2380223 then M0 j else ddF (j - 2380223) / 30 + 1
def D1 (j : Int) : Int := if j ≤ 2380223 then D0 j else ddF (j - 2380223) % 30 + 1
def Y2 (j : Int) : Int := if j ≤ 2382049 then Y0 j else yrF (j - 2381684) + 17
def M2 (j : Int) : Int := if j ≤ 2382049 then M0 j else ddF (j - 2381684) / 30 + 1
def D2 (j : Int) : Int := if j ≤ 2382049 then D0 j else ddF (j - 2381684) % 30 + 1
theorem ex_t {P K y5 yy : Int} (k : Int) (h : K.fmod 1461 = 1461 - 1) (hk : K = k) (hy : yy = yrF k + (P + y5 + 1)) : P + K / 1461 * 4 + (1460 / 365 - 1) + y5 + 1 = yy := by
  subst hk; rw [fm1461] at h; rw [hy, yrF, if_pos (by omega)]; omega
theorem ex_f {P K y5 yy : Int} (k : Int) (h : K.fmod 1461 ≠ 1461 - 1) (hk : K = k) (hy : yy = yrF k + (P + y5 + 1)) : P + K / 1461 * 4 + K.fmod 1461 / 365 + y5 + 1 = yy := by
  subst hk; rw [fm1461] at h; rw [hy, yrF, if_neg (by omega), fm1461]; omega
theorem ey_t {K : Int} (k : Int) (h : K.fmod 1461 = 1461 - 1) (hk : K = k) : 365 / 30 + 1 = ddF k / 30 + 1 := by
  subst hk; rw [fm1461] at h; rw [ddF, if_pos (by omega)]
theorem ey_f {K : Int} (k : Int) (h : K.fmod 1461 ≠ 1461 - 1) (hk : K = k) : (K.fmod 1461).fmod 365 / 30 + 1 = ddF k / 30 + 1 := by
  subst hk; rw [fm1461] at h; rw [ddF, if_neg (by omega), fm1461, fm365]
theorem ez_t {K : Int} (k : Int) (h : K.fmod 1461 = 1461 - 1) (hk : K = k) : 365 - 365 / 30 * 30 + 1 = ddF k % 30 + 1 := by
  subst hk; rw [fm1461] at h; rw [ddF, if_pos (by omega)]; decide
theorem ez_f {K : Int} (k : Int) (h : K.fmod 1461 ≠ 1461 - 1) (hk : K = k) : (K.fmod 1461).fmod 365 - (K.fmod 1461).fmod 365 / 30 * 30 + 1 = ddF k % 30 + 1 := by
  subst hk; rw [fm1461] at h; rw [ddF, if_neg (by omega), fm1461, fm365]; omega
theorem lessN {h₀ h : Heap} {L : Addr} {news news' : List (Addr × Obj)} (N : News h₀ L h news') (hs : ∀ p ∈ news, p ∈ news') : News h₀ L h news := fun p hp => N p (hs p hp)
def long0 (y : Int) : Bool := decide (y % 4 = 3)
def long1 (y : Int) : Bool := if y < 13 then decide (y = 3 ∨ y = 7 ∨ y = 11) else decide (y % 400 = 0) || (decide (y % 4 = 0) && !decide (y % 100 = 0))
def long2 (y : Int) : Bool := if y < 13 then decide (y = 3 ∨ y = 7 ∨ y = 11) else if y < 20 then decide (y = 15) else decide (y % 4 = 0) && !decide (y % 128 = 0)
theorem long0_e {y : Int} : (y.fmod 4 == 3) = long0 y := by rw [fm4]; rfl
theorem long1_a {y : Int} (h : y < 13) : ([3, 7, 11].any fun x => x == y) = long1 y := by
  rw [long1, if_pos h, Bool.eq_iff_iff]; simp; omega
theorem long1_b {y : Int} (h : ¬ y < 13) (h2 : y.fmod 400 = 0) : (y.fmod 400 == 0) = long1 y := by
  simp only [fm400] at *; rw [long1, if_neg h, Bool.eq_iff_iff]; simp [h2]
theorem long1_c {y : Int} (h : ¬ y < 13) (h2 : y.fmod 400 ≠ 0) (h3 : y.fmod 4 = 0) : (y.fmod 100 != 0) = long1 y := by
  simp only [fm400, fm4, fm100] at *; rw [long1, if_neg h, Bool.eq_iff_iff]; simp [h2, h3]
theorem long1_d {y : Int} (h : ¬ y < 13) (h2 : y.fmod 400 ≠ 0) (h3 : y.fmod 4 ≠ 0) : (y.fmod 4 == 0) = long1 y := by
  simp only [fm400, fm4, fm100] at *; rw [long1, if_neg h, Bool.eq_iff_iff]; simp [h2, h3]
theorem long2_a {y : Int} (h : y < 13) : ([3, 7, 11].any fun x => x == y) = long2 y := by
  rw [long2, if_pos h, Bool.eq_iff_iff]; simp; omega
theorem long2_b {y : Int} (h : ¬ y < 13) (h2 : y < 20) : (y == 15) = long2 y := by
  rw [long2, if_neg h, if_pos h2, Bool.eq_iff_iff]; simp
theorem long2_c {y : Int} (h : ¬ y < 13) (h2 : ¬ y < 20) (h3 : y.fmod 4 = 0) : (y.fmod 128 != 0) = long2 y := by
  simp only [fm4, fm128] at *; rw [long2, if_neg h, if_neg h2, Bool.eq_iff_iff]; simp [h3]
theorem long2_d {y : Int} (h : ¬ y < 13) (h2 : ¬ y < 20) (h3 : y.fmod 4 ≠ 0) : (y.fmod 4 == 0) = long2 y := by
  simp only [fm4, fm128] at *; rw [long2, if_neg h, if_neg h2, Bool.eq_iff_iff]; simp [h3]
theorem c_long0 (w : World) (y : Int) (tw ty : Tok) : Call 1 w 111 [.int 0 tw, .int y ty] [] (RetB (long0 y)) := by
  unfold Call
  k_fill
  intro mean mg mb dp un gd cn cs aa ccd cl outer A₀ base h₀ L m news s Q E B F X N T hk hd hu hret
  refine wpAny_call ?_
  k_dflt cell_enter
  (repeat' (first
      | (k_unfold; (try dsimp only))
      | (k_end; wrow_close)
      | (dsimp only; first | (k_here; first
        | ((k_here; first
  | with_reducible refine ite_tt ?_ | with_reducible refine ite_ff ?_
  | ((with_reducible show (if ((_ : Int) == _) = true then _ else _)); k_dflt (first | refine ite_beqT (by omega) ?_ | refine ite_beqF (by omega) ?_))
  | ((with_reducible show (if ((_ : Int) != _) = true then _ else _)); k_dflt (first | refine ite_bneT (by omega) ?_ | refine ite_bneF (by omega) ?_))))
        | (((with_reducible show wpAny _ _ (eval (Expr.Call (Expr.Name _ _) _ [] _) _) _ _ _); k_dflt (refine Call_ ?_)))
        | ((with_reducible show wpAny _ _ (compareOp CmpOp.In (Value.int _ _) (Value.ref _)) _ _ _); (k_here; (with_reducible show wpAny _ _ (compareOp CmpOp.In (Value.int 4 _) (Value.ref _)) _ _ _); k_dflt (first
  | (refine' in_name true (nameInt (by decide)) ?N ?m ?c ?d ?r ?u ?a ?_; (case N => k_asm); (case m => k_mem); (case c => exact rfl); (case d => exact rfl); (case r => repeat constructor); (case u => ktr_units); (case a => decide +kernel))
  | (refine' in_name false (nameInt (by decide)) ?N ?m ?c ?d ?r ?u ?a ?_; (case N => k_asm); (case m => k_mem); (case c => exact rfl); (case d => exact rfl); (case r => repeat constructor); (case u => ktr_units); (case a => decide +kernel)))))
        | ((k_here; (with_reducible show wpAny _ _ (compareOp CmpOp.In _ (Value.ref _)) _ _ _); k_dflt (first
  | (refine' in_name true ?V ?N ?m ?c ?d ?r ?u ?a ?_; (case V => with_reducible assumption); (case N => k_asm); (case m => k_mem); (case c => exact rfl); (case d => exact rfl); (case r => repeat constructor); (case u => ktr_units); (case a => decide +kernel))
  | (refine' in_name false ?V ?N ?m ?c ?d ?r ?u ?a ?_; (case V => with_reducible assumption); (case N => k_asm); (case m => k_mem); (case c => exact rfl); (case d => exact rfl); (case r => repeat constructor); (case u => ktr_units); (case a => decide +kernel)))))
        | ((with_reducible show wpAny _ _ (PySem.truthy _) _ _ _); (k_here; k_dflt (refine' truthy_name ?V ?_; (case V => with_reducible assumption)); intro tk9; (try dsimp only)))) | walk1)
      | (k_here; first
        | ((k_here; first
  | with_reducible refine ite_tt ?_ | with_reducible refine ite_ff ?_
  | ((with_reducible show (if ((_ : Int) == _) = true then _ else _)); k_dflt (first | refine ite_beqT (by omega) ?_ | refine ite_beqF (by omega) ?_))
  | ((with_reducible show (if ((_ : Int) != _) = true then _ else _)); k_dflt (first | refine ite_bneT (by omega) ?_ | refine ite_bneF (by omega) ?_))))
        | (((with_reducible show wpAny _ _ (eval (Expr.Call (Expr.Name _ _) _ [] _) _) _ _ _); k_dflt (refine Call_ ?_)))
        | ((with_reducible show wpAny _ _ (compareOp CmpOp.In (Value.int _ _) (Value.ref _)) _ _ _); (k_here; (with_reducible show wpAny _ _ (compareOp CmpOp.In (Value.int 4 _) (Value.ref _)) _ _ _); k_dflt (first
  | (refine' in_name true (nameInt (by decide)) ?N ?m ?c ?d ?r ?u ?a ?_; (case N => k_asm); (case m => k_mem); (case c => exact rfl); (case d => exact rfl); (case r => repeat constructor); (case u => ktr_units); (case a => decide +kernel))
  | (refine' in_name false (nameInt (by decide)) ?N ?m ?c ?d ?r ?u ?a ?_; (case N => k_asm); (case m => k_mem); (case c => exact rfl); (case d => exact rfl); (case r => repeat constructor); (case u => ktr_units); (case a => decide +kernel)))))
        | ((k_here; (with_reducible show wpAny _ _ (compareOp CmpOp.In _ (Value.ref _)) _ _ _); k_dflt (first
  | (refine' in_name true ?V ?N ?m ?c ?d ?r ?u ?a ?_; (case V => with_reducible assumption); (case N => k_asm); (case m => k_mem); (case c => exact rfl); (case d => exact rfl); (case r => repeat constructor); (case u => ktr_units); (case a => decide +kernel))
  | (refine' in_name false ?V ?N ?m ?c ?d ?r ?u ?a ?_; (case V => with_reducible assumption); (case N => k_asm); (case m => k_mem); (case c => exact rfl); (case d => exact rfl); (case r => repeat constructor); (case u => ktr_units); (case a => decide +kernel)))))
        | ((with_reducible show wpAny _ _ (PySem.truthy _) _ _ _); (k_here; k_dflt (refine' truthy_name ?V ?_; (case V => with_reducible assumption)); intro tk9; (try dsimp only))))
      | walk1
      | (leave1; walk_say "STEP leave1"; try dsimp only)
      | fail "no step"))
  all_goals (refine endB hret ?_ (by k_asm) (by k_asm))
  exact long0_e
theorem c_long1 (w : World) (y : Int) (tw ty : Tok) : Call 1 w 111 [.int 1 tw, .int y ty] [] (RetB (long1 y)) := by
  unfold Call
  k_fill
  intro mean mg mb dp un gd cn cs aa ccd cl outer A₀ base h₀ L m news s Q E B F X N T hk hd hu hret
  refine wpAny_call ?_
  k_dflt cell_enter
  (repeat' (first
      | (k_unfold; (try dsimp only))
      | (k_end; wrow_close)
      | (dsimp only; first | (k_here; first
        | ((k_here; first
  | with_reducible refine ite_tt ?_ | with_reducible refine ite_ff ?_
  | ((with_reducible show (if ((_ : Int) == _) = true then _ else _)); k_dflt (first | refine ite_beqT (by omega) ?_ | refine ite_beqF (by omega) ?_))
  | ((with_reducible show (if ((_ : Int) != _) = true then _ else _)); k_dflt (first | refine ite_bneT (by omega) ?_ | refine ite_bneF (by omega) ?_))))
        | (((with_reducible show wpAny _ _ (eval (Expr.Call (Expr.Name _ _) _ [] _) _) _ _ _); k_dflt (refine Call_ ?_)))
        | ((with_reducible show wpAny _ _ (compareOp CmpOp.In (Value.int _ _) (Value.ref _)) _ _ _); (k_here; (with_reducible show wpAny _ _ (compareOp CmpOp.In (Value.int 4 _) (Value.ref _)) _ _ _); k_dflt (first
  | (refine' in_name true (nameInt (by decide)) ?N ?m ?c ?d ?r ?u ?a ?_; (case N => k_asm); (case m => k_mem); (case c => exact rfl); (case d => exact rfl); (case r => repeat constructor); (case u => ktr_units); (case a => decide +kernel))
  | (refine' in_name false (nameInt (by decide)) ?N ?m ?c ?d ?r ?u ?a ?_; (case N => k_asm); (case m => k_mem); (case c => exact rfl); (case d => exact rfl); (case r => repeat constructor); (case u => ktr_units); (case a => decide +kernel)))))
        | ((k_here; (with_reducible show wpAny _ _ (compareOp CmpOp.In _ (Value.ref _)) _ _ _); k_dflt (first
  | (refine' in_name true ?V ?N ?m ?c ?d ?r ?u ?a ?_; (case V => with_reducible assumption); (case N => k_asm); (case m => k_mem); (case c => exact rfl); (case d => exact rfl); (case r => repeat constructor); (case u => ktr_units); (case a => decide +kernel))
  | (refine' in_name false ?V ?N ?m ?c ?d ?r ?u ?a ?_; (case V => with_reducible assumption); (case N => k_asm); (case m => k_mem); (case c => exact rfl); (case d => exact rfl); (case r => repeat constructor); (case u => ktr_units); (case a => decide +kernel)))))
        | ((with_reducible show wpAny _ _ (PySem.truthy _) _ _ _); (k_here; k_dflt (refine' truthy_name ?V ?_; (case V => with_reducible assumption)); intro tk9; (try dsimp only)))) | walk1)
      | (k_here; first
        | ((k_here; first
  | with_reducible refine ite_tt ?_ | with_reducible refine ite_ff ?_
  | ((with_reducible show (if ((_ : Int) == _) = true then _ else _)); k_dflt (first | refine ite_beqT (by omega) ?_ | refine ite_beqF (by omega) ?_))
  | ((with_reducible show (if ((_ : Int) != _) = true then _ else _)); k_dflt (first | refine ite_bneT (by omega) ?_ | refine ite_bneF (by omega) ?_))))
        | (((with_reducible show wpAny _ _ (eval (Expr.Call (Expr.Name _ _) _ [] _) _) _ _ _); k_dflt (refine Call_ ?_)))
        | ((with_reducible show wpAny _ _ (compareOp CmpOp.In (Value.int _ _) (Value.ref _)) _ _ _); (k_here; (with_reducible show wpAny _ _ (compareOp CmpOp.In (Value.int 4 _) (Value.ref _)) _ _ _); k_dflt (first
  | (refine' in_name true (nameInt (by decide)) ?N ?m ?c ?d ?r ?u ?a ?_; (case N => k_asm); (case m => k_mem); (case c => exact rfl); (case d => exact rfl); (case r => repeat constructor); (case u => ktr_units); (case a => decide +kernel))
  | (refine' in_name false (nameInt (by decide)) ?N ?m ?c ?d ?r ?u ?a ?_; (case N => k_asm); (case m => k_mem); (case c => exact rfl); (case d => exact rfl); (case r => repeat constructor); (case u => ktr_units); (case a => decide +kernel)))))
        | ((k_here; (with_reducible show wpAny _ _ (compareOp CmpOp.In _ (Value.ref _)) _ _ _); k_dflt (first
  | (refine' in_name true ?V ?N ?m ?c ?d ?r ?u ?a ?_; (case V => with_reducible assumption); (case N => k_asm); (case m => k_mem); (case c => exact rfl); (case d => exact rfl); (case r => repeat constructor); (case u => ktr_units); (case a => decide +kernel))
  | (refine' in_name false ?V ?N ?m ?c ?d ?r ?u ?a ?_; (case V => with_reducible assumption); (case N => k_asm); (case m => k_mem); (case c => exact rfl); (case d => exact rfl); (case r => repeat constructor); (case u => ktr_units); (case a => decide +kernel)))))
        | ((with_reducible show wpAny _ _ (PySem.truthy _) _ _ _); (k_here; k_dflt (refine' truthy_name ?V ?_; (case V => with_reducible assumption)); intro tk9; (try dsimp only))))
      | walk1
      | (leave1; walk_say "STEP leave1"; try dsimp only)
      | fail "no step"))
  all_goals (refine endB hret ?_ (by k_asm) (by first | k_asm | exact lessN (by k_asm) (fun _ hp => .tail _ hp)))
  · exact long1_a (by assumption)
  · exact long1_b (by assumption) (by assumption)
  · exact long1_c (by assumption) (by assumption) (by assumption)
  · exact long1_d (by assumption) (by assumption) (by assumption)
theorem c_long2 (w : World) (y : Int) (tw ty : Tok) : Call 1 w 111 [.int 2 tw, .int y ty] [] (RetB (long2 y)) := by
  unfold Call
  k_fill
  intro mean mg mb dp un gd cn cs aa ccd cl outer A₀ base h₀ L m news s Q E B F X N T hk hd hu hret
  refine wpAny_call ?_
  k_dflt cell_enter
  (repeat' (first
      | (k_unfold; (try dsimp only))
      | (k_end; wrow_close)
      | (dsimp only; first | (k_here; first
        | ((k_here; first
  | with_reducible refine ite_tt ?_ | with_reducible refine ite_ff ?_
  | ((with_reducible show (if ((_ : Int) == _) = true then _ else _)); k_dflt (first | refine ite_beqT (by omega) ?_ | refine ite_beqF (by omega) ?_))
  | ((with_reducible show (if ((_ : Int) != _) = true then _ else _)); k_dflt (first | refine ite_bneT (by omega) ?_ | refine ite_bneF (by omega) ?_))))
        | (((with_reducible show wpAny _ _ (eval (Expr.Call (Expr.Name _ _) _ [] _) _) _ _ _); k_dflt (refine Call_ ?_)))
        | ((with_reducible show wpAny _ _ (compareOp CmpOp.In (Value.int _ _) (Value.ref _)) _ _ _); (k_here; (with_reducible show wpAny _ _ (compareOp CmpOp.In (Value.int 4 _) (Value.ref _)) _ _ _); k_dflt (first
  | (refine' in_name true (nameInt (by decide)) ?N ?m ?c ?d ?r ?u ?a ?_; (case N => k_asm); (case m => k_mem); (case c => exact rfl); (case d => exact rfl); (case r => repeat constructor); (case u => ktr_units); (case a => decide +kernel))
  | (refine' in_name false (nameInt (by decide)) ?N ?m ?c ?d ?r ?u ?a ?_; (case N => k_asm); (case m => k_mem); (case c => exact rfl); (case d => exact rfl); (case r => repeat constructor); (case u => ktr_units); (case a => decide +kernel)))))
        | ((k_here; (with_reducible show wpAny _ _ (compareOp CmpOp.In _ (Value.ref _)) _ _ _); k_dflt (first
  | (refine' in_name true ?V ?N ?m ?c ?d ?r ?u ?a ?_; (case V => with_reducible assumption); (case N => k_asm); (case m => k_mem); (case c => exact rfl); (case d => exact rfl); (case r => repeat constructor); (case u => ktr_units); (case a => decide +kernel))
  | (refine' in_name false ?V ?N ?m ?c ?d ?r ?u ?a ?_; (case V => with_reducible assumption); (case N => k_asm); (case m => k_mem); (case c => exact rfl); (case d => exact rfl); (case r => repeat constructor); (case u => ktr_units); (case a => decide +kernel)))))
        | ((with_reducible show wpAny _ _ (PySem.truthy _) _ _ _); (k_here; k_dflt (refine' truthy_name ?V ?_; (case V => with_reducible assumption)); intro tk9; (try dsimp only)))) | walk1)
      | (k_here; first
        | ((k_here; first
  | with_reducible refine ite_tt ?_ | with_reducible refine ite_ff ?_
  | ((with_reducible show (if ((_ : Int) == _) = true then _ else _)); k_dflt (first | refine ite_beqT (by omega) ?_ | refine ite_beqF (by omega) ?_))
  | ((with_reducible show (if ((_ : Int) != _) = true then _ else _)); k_dflt (first | refine ite_bneT (by omega) ?_ | refine ite_bneF (by omega) ?_))))
        | (((with_reducible show wpAny _ _ (eval (Expr.Call (Expr.Name _ _) _ [] _) _) _ _ _); k_dflt (refine Call_ ?_)))
        | ((with_reducible show wpAny _ _ (compareOp CmpOp.In (Value.int _ _) (Value.ref _)) _ _ _); (k_here; (with_reducible show wpAny _ _ (compareOp CmpOp.In (Value.int 4 _) (Value.ref _)) _ _ _); k_dflt (first
  | (refine' in_name true (nameInt (by decide)) ?N ?m ?c ?d ?r ?u ?a ?_; (case N => k_asm); (case m => k_mem); (case c => exact rfl); (case d => exact rfl); (case r => repeat constructor); (case u => ktr_units); (case a => decide +kernel))
  | (refine' in_name false (nameInt (by decide)) ?N ?m ?c ?d ?r ?u ?a ?_; (case N => k_asm); (case m => k_mem); (case c => exact rfl); (case d => exact rfl); (case r => repeat constructor); (case u => ktr_units); (case a => decide +kernel)))))
        | ((k_here; (with_reducible show wpAny _ _ (compareOp CmpOp.In _ (Value.ref _)) _ _ _); k_dflt (first
  | (refine' in_name true ?V ?N ?m ?c ?d ?r ?u ?a ?_; (case V => with_reducible assumption); (case N => k_asm); (case m => k_mem); (case c => exact rfl); (case d => exact rfl); (case r => repeat constructor); (case u => ktr_units); (case a => decide +kernel))
  | (refine' in_name false ?V ?N ?m ?c ?d ?r ?u ?a ?_; (case V => with_reducible assumption); (case N => k_asm); (case m => k_mem); (case c => exact rfl); (case d => exact rfl); (case r => repeat constructor); (case u => ktr_units); (case a => decide +kernel)))))
        | ((with_reducible show wpAny _ _ (PySem.truthy _) _ _ _); (k_here; k_dflt (refine' truthy_name ?V ?_; (case V => with_reducible assumption)); intro tk9; (try dsimp only))))
      | walk1
      | (leave1; walk_say "STEP leave1"; try dsimp only)
      | fail "no step"))
  all_goals (refine endB hret ?_ (by k_asm) (by first | k_asm | exact lessN (by k_asm) (fun _ hp => .tail _ hp)))
  · exact long2_a (by assumption)
  · exact long2_b (by assumption) (by assumption)
  · exact long2_c (by assumption) (by assumption) (by assumption)
  · exact long2_d (by assumption) (by assumption) (by assumption)
def first0 (y : Int) : Int := 2375840 + 365 * (y - 1) + y / 4
def first1 (y : Int) : Int := 2375840 + 365 * (y - 1) + (if y ≤ 13 then y / 4 else (y - 1) / 4)
def first2 (y : Int) : Int := 2375840 + 365 * (y - 1) + (if y ≤ 16 then y / 4 else (y - 1) / 4)
theorem growsIf (p : Int → Bool) : KPfGrows (fun l k => if p k = true then l ++ [k] else l) := by
  intro l k
  dsimp only
  split <;> simp
theorem noIf {b : Bool} {x l : List Int} (h : b = false) : (if b = true then x else l) = l := by rw [h]; rfl
theorem cnt1 : ∀ n : Nat, n < 98 → ((rangeKs 3 n).foldl (fun l k => if long1 k = true then l ++ [k] else l) []).length = if n ≤ 10 then (n + 3) / 4 else (n + 2) / 4 := by decide +kernel
theorem cnt2 : ∀ n : Nat, n < 126 → ((rangeKs 3 n).foldl (fun l k => if long2 k = true then l ++ [k] else l) []).length = if n ≤ 13 then (n + 3) / 4 else (n + 2) / 4 := by decide +kernel
theorem first1_e {y : Int} (h1 : 1 ≤ y) (h2 : y ≤ 100) : 2375840 + 365 * (y - 1) + (((rangeKs 3 (y - 3).toNat).foldl (fun l k => if long1 k = true then l ++ [k] else l) []).length : Int) = first1 y := by
  rw [cnt1 _ (by omega), first1]
  split <;> split <;> omega
theorem first2_e {y : Int} (h1 : 1 ≤ y) (h2 : y ≤ 128) : 2375840 + 365 * (y - 1) + (((rangeKs 3 (y - 3).toNat).foldl (fun l k => if long2 k = true then l ++ [k] else l) []).length : Int) = first2 y := by
  rw [cnt2 _ (by omega), first2]
  split <;> split <;> omega
theorem c_first0 (w : World) (y : Int) (tw ty : Tok) : Call 2 w 116 [.int 0 tw, .int y ty] [] (RetI (first0 y)) := by
  unfold Call
  k_fill
  intro mean mg mb dp un gd cn cs aa ccd cl outer A₀ base h₀ L m news s Q E B F X N T hk hd hu hret
  refine wpAny_call ?_
  k_dflt (refine' code_defC ?k1 ?k2 ?k3 ?k4 ?k5 ?kA ?kF ?kK ?k6 ?k7 ?k8 ?k9 ?kB ?kD ?_ ?c2 ?c3 ?c4; (case kA => exact rfl); (case kF => exact rfl); (case kK => first | exact rfl | assumption); (case k1 => k_asm); (case k2 => k_asm); (case k3 => k_asm); (case k4 => k_asm); (case k5 => k_asm); (case k6 => k_is); (case k7 => k_is); (case k8 => ktr_room); (case k9 => first | exact BindsTo.of_eq rfl | exact binds_K (by k_in) rfl (by k_is) rfl rfl rfl); (case kB => exact rfl); (case kD => decide +kernel); (case c2 => exact rfl); (case c3 => exact rfl); (case c4 => exact rfl); k_whole; intro g' L' h' tk' cells' FG' F' N' Y' B' X' T' l1; (try k_lt l1); k_cells Y'; (try simp only [List.cons_append, List.nil_append] at N'); (try dsimp only); (try k_lift B'); (try k_fold))
  (repeat' (first
      | (k_unfold; (try dsimp only))
      | (k_end; wrow_close)
      | (dsimp only; first | (k_here; first
        | ((k_here; first
  | with_reducible refine ite_tt ?_ | with_reducible refine ite_ff ?_
  | ((with_reducible show (if ((_ : Int) == _) = true then _ else _)); k_dflt (first | refine ite_beqT (by omega) ?_ | refine ite_beqF (by omega) ?_))
  | ((with_reducible show (if ((_ : Int) != _) = true then _ else _)); k_dflt (first | refine ite_bneT (by omega) ?_ | refine ite_bneF (by omega) ?_))))
        | (((with_reducible show wpAny _ _ (eval (Expr.Call (Expr.Name _ _) _ [] _) _) _ _ _); k_dflt (refine Call_ ?_)))
        | ((with_reducible show wpAny _ _ (compareOp CmpOp.In (Value.int _ _) (Value.ref _)) _ _ _); (k_here; (with_reducible show wpAny _ _ (compareOp CmpOp.In (Value.int 4 _) (Value.ref _)) _ _ _); k_dflt (first
  | (refine' in_name true (nameInt (by decide)) ?N ?m ?c ?d ?r ?u ?a ?_; (case N => k_asm); (case m => k_mem); (case c => exact rfl); (case d => exact rfl); (case r => repeat constructor); (case u => ktr_units); (case a => decide +kernel))
  | (refine' in_name false (nameInt (by decide)) ?N ?m ?c ?d ?r ?u ?a ?_; (case N => k_asm); (case m => k_mem); (case c => exact rfl); (case d => exact rfl); (case r => repeat constructor); (case u => ktr_units); (case a => decide +kernel)))))
        | ((k_here; (with_reducible show wpAny _ _ (compareOp CmpOp.In _ (Value.ref _)) _ _ _); k_dflt (first
  | (refine' in_name true ?V ?N ?m ?c ?d ?r ?u ?a ?_; (case V => with_reducible assumption); (case N => k_asm); (case m => k_mem); (case c => exact rfl); (case d => exact rfl); (case r => repeat constructor); (case u => ktr_units); (case a => decide +kernel))
  | (refine' in_name false ?V ?N ?m ?c ?d ?r ?u ?a ?_; (case V => with_reducible assumption); (case N => k_asm); (case m => k_mem); (case c => exact rfl); (case d => exact rfl); (case r => repeat constructor); (case u => ktr_units); (case a => decide +kernel)))))
        | ((with_reducible show wpAny _ _ (PySem.truthy _) _ _ _); (k_here; k_dflt (refine' truthy_name ?V ?_; (case V => with_reducible assumption)); intro tk9; (try dsimp only)))) | walk1)
      | (k_here; first
        | ((k_here; first
  | with_reducible refine ite_tt ?_ | with_reducible refine ite_ff ?_
  | ((with_reducible show (if ((_ : Int) == _) = true then _ else _)); k_dflt (first | refine ite_beqT (by omega) ?_ | refine ite_beqF (by omega) ?_))
  | ((with_reducible show (if ((_ : Int) != _) = true then _ else _)); k_dflt (first | refine ite_bneT (by omega) ?_ | refine ite_bneF (by omega) ?_))))
        | (((with_reducible show wpAny _ _ (eval (Expr.Call (Expr.Name _ _) _ [] _) _) _ _ _); k_dflt (refine Call_ ?_)))
        | ((with_reducible show wpAny _ _ (compareOp CmpOp.In (Value.int _ _) (Value.ref _)) _ _ _); (k_here; (with_reducible show wpAny _ _ (compareOp CmpOp.In (Value.int 4 _) (Value.ref _)) _ _ _); k_dflt (first
  | (refine' in_name true (nameInt (by decide)) ?N ?m ?c ?d ?r ?u ?a ?_; (case N => k_asm); (case m => k_mem); (case c => exact rfl); (case d => exact rfl); (case r => repeat constructor); (case u => ktr_units); (case a => decide +kernel))
  | (refine' in_name false (nameInt (by decide)) ?N ?m ?c ?d ?r ?u ?a ?_; (case N => k_asm); (case m => k_mem); (case c => exact rfl); (case d => exact rfl); (case r => repeat constructor); (case u => ktr_units); (case a => decide +kernel)))))
        | ((k_here; (with_reducible show wpAny _ _ (compareOp CmpOp.In _ (Value.ref _)) _ _ _); k_dflt (first
  | (refine' in_name true ?V ?N ?m ?c ?d ?r ?u ?a ?_; (case V => with_reducible assumption); (case N => k_asm); (case m => k_mem); (case c => exact rfl); (case d => exact rfl); (case r => repeat constructor); (case u => ktr_units); (case a => decide +kernel))
  | (refine' in_name false ?V ?N ?m ?c ?d ?r ?u ?a ?_; (case V => with_reducible assumption); (case N => k_asm); (case m => k_mem); (case c => exact rfl); (case d => exact rfl); (case r => repeat constructor); (case u => ktr_units); (case a => decide +kernel)))))
        | ((with_reducible show wpAny _ _ (PySem.truthy _) _ _ _); (k_here; k_dflt (refine' truthy_name ?V ?_; (case V => with_reducible assumption)); intro tk9; (try dsimp only))))
      | walk1
      | (leave1; walk_say "STEP leave1"; try dsimp only)
      | fail "no step"))
  all_goals (refine endI hret ?_ (by k_asm) (by first | k_asm | exact lessN (by k_asm) (fun _ hp => .tail _ hp) | exact lessN (by k_asm) (fun _ hp => .tail _ (.tail _ hp))))
  · rw [first0]; rename Int.fmod _ _ = 3 => q; simp only [fm4, fd4] at q ⊢; omega
  · rw [first0]; rename Int.fmod _ _ ≠ 3 => q; simp only [fm4, fd4] at q ⊢; omega
section
local macro_rules | `(tactic| walk_at "CompSrcT") => `(tactic| (k_here; k_dflt (refine LCt.CompSrcT.range (by rfl) (by k_asm) (by k_asm) (by assumption) (by first | decide | exact small_one (by l_bnd) (by l_bnd) (by l_bnd) (by l_bnd)) (by first | exact rangeSize_nat _ _ | rfl) (by first | exact Nat.le_of_ble_eq_true rfl | (rw [PySem.sizeLine_eq]; omega)) ?_; intro g'; (refine' kci_range (fun l k => if long1 k = true then l ++ [k] else l) (fun k' t' I' oI' C' oC' D' m' ys' l' h' tk' E' hlo' hhi' hI' hC' hx' F' N' off' ne' => ?_) ?_ ?_); (all_goals (try (simp only [LCg.Off3, and_true] at off'))); (all_goals (try ((show KPfMark → _); intro hMark'))); kcf_last)))
local macro_rules | `(tactic| walk_at "KPfGrows") => `(tactic| exact growsIf _)
theorem c_first1 (w : World) (y : Int) (tw ty : Tok) (hy : 1 ≤ y) (hy2 : y ≤ 100) : Call 2 w 116 [.int 1 tw, .int y ty] [] (RetI (first1 y)) := by
  unfold Call
  k_fill
  intro mean mg mb dp un gd cn cs aa ccd cl outer A₀ base h₀ L m news s Q E B F X N T hk hd hu hret
  refine wpAny_call ?_
  k_dflt (refine' code_defC ?k1 ?k2 ?k3 ?k4 ?k5 ?kA ?kF ?kK ?k6 ?k7 ?k8 ?k9 ?kB ?kD ?_ ?c2 ?c3 ?c4; (case kA => exact rfl); (case kF => exact rfl); (case kK => first | exact rfl | assumption); (case k1 => k_asm); (case k2 => k_asm); (case k3 => k_asm); (case k4 => k_asm); (case k5 => k_asm); (case k6 => k_is); (case k7 => k_is); (case k8 => ktr_room); (case k9 => first | exact BindsTo.of_eq rfl | exact binds_K (by k_in) rfl (by k_is) rfl rfl rfl); (case kB => exact rfl); (case kD => decide +kernel); (case c2 => exact rfl); (case c3 => exact rfl); (case c4 => exact rfl); k_whole; intro g' L' h' tk' cells' FG' F' N' Y' B' X' T' l1; (try k_lt l1); k_cells Y'; (try simp only [List.cons_append, List.nil_append] at N'); (try dsimp only); (try k_lift B'); (try k_fold))
  (repeat' (first
      | (k_unfold; (try dsimp only))
      | (k_end; wrow_close)
      | (dsimp only; first | (k_here; first
        | ((with_reducible show wpAny _ _ (call (Value.ref _) _ _) _ _ _); (k_here; first
  | ((with_reducible show wpAny _ _ (call (Value.ref 111) _ _) _ _ _); k_dflt (refine use (c_long1 _ _ _ _) ?_); (try dsimp only [RetI, RetB, RetT, RetS, RetT7, RetT3]); intros; (try dsimp only); (try k_sweep))))
        | ((k_here; first
  | with_reducible refine ite_tt ?_ | with_reducible refine ite_ff ?_
  | ((with_reducible show (if ((_ : Int) == _) = true then _ else _)); k_dflt (first | refine ite_beqT (by omega) ?_ | refine ite_beqF (by omega) ?_))
  | ((with_reducible show (if ((_ : Int) != _) = true then _ else _)); k_dflt (first | refine ite_bneT (by omega) ?_ | refine ite_bneF (by omega) ?_))))
        | (((with_reducible show wpAny _ _ (eval (Expr.Call (Expr.Name _ _) _ [] _) _) _ _ _); k_dflt (refine Call_ ?_)))
        | ((with_reducible show wpAny _ _ (compareOp CmpOp.In (Value.int _ _) (Value.ref _)) _ _ _); (k_here; (with_reducible show wpAny _ _ (compareOp CmpOp.In (Value.int 4 _) (Value.ref _)) _ _ _); k_dflt (first
  | (refine' in_name true (nameInt (by decide)) ?N ?m ?c ?d ?r ?u ?a ?_; (case N => k_asm); (case m => k_mem); (case c => exact rfl); (case d => exact rfl); (case r => repeat constructor); (case u => ktr_units); (case a => decide +kernel))
  | (refine' in_name false (nameInt (by decide)) ?N ?m ?c ?d ?r ?u ?a ?_; (case N => k_asm); (case m => k_mem); (case c => exact rfl); (case d => exact rfl); (case r => repeat constructor); (case u => ktr_units); (case a => decide +kernel)))))
        | ((k_here; (with_reducible show wpAny _ _ (compareOp CmpOp.In _ (Value.ref _)) _ _ _); k_dflt (first
  | (refine' in_name true ?V ?N ?m ?c ?d ?r ?u ?a ?_; (case V => with_reducible assumption); (case N => k_asm); (case m => k_mem); (case c => exact rfl); (case d => exact rfl); (case r => repeat constructor); (case u => ktr_units); (case a => decide +kernel))
  | (refine' in_name false ?V ?N ?m ?c ?d ?r ?u ?a ?_; (case V => with_reducible assumption); (case N => k_asm); (case m => k_mem); (case c => exact rfl); (case d => exact rfl); (case r => repeat constructor); (case u => ktr_units); (case a => decide +kernel)))))
        | ((with_reducible show wpAny _ _ (PySem.truthy _) _ _ _); (k_here; k_dflt (refine' truthy_name ?V ?_; (case V => with_reducible assumption)); intro tk9; (try dsimp only)))) | walk1)
      | (k_here; first
        | ((with_reducible show wpAny _ _ (call (Value.ref _) _ _) _ _ _); (k_here; first
  | ((with_reducible show wpAny _ _ (call (Value.ref 111) _ _) _ _ _); k_dflt (refine use (c_long1 _ _ _ _) ?_); (try dsimp only [RetI, RetB, RetT, RetS, RetT7, RetT3]); intros; (try dsimp only); (try k_sweep))))
        | ((k_here; first
  | with_reducible refine ite_tt ?_ | with_reducible refine ite_ff ?_
  | ((with_reducible show (if ((_ : Int) == _) = true then _ else _)); k_dflt (first | refine ite_beqT (by omega) ?_ | refine ite_beqF (by omega) ?_))
  | ((with_reducible show (if ((_ : Int) != _) = true then _ else _)); k_dflt (first | refine ite_bneT (by omega) ?_ | refine ite_bneF (by omega) ?_))))
        | (((with_reducible show wpAny _ _ (eval (Expr.Call (Expr.Name _ _) _ [] _) _) _ _ _); k_dflt (refine Call_ ?_)))
        | ((with_reducible show wpAny _ _ (compareOp CmpOp.In (Value.int _ _) (Value.ref _)) _ _ _); (k_here; (with_reducible show wpAny _ _ (compareOp CmpOp.In (Value.int 4 _) (Value.ref _)) _ _ _); k_dflt (first
  | (refine' in_name true (nameInt (by decide)) ?N ?m ?c ?d ?r ?u ?a ?_; (case N => k_asm); (case m => k_mem); (case c => exact rfl); (case d => exact rfl); (case r => repeat constructor); (case u => ktr_units); (case a => decide +kernel))
  | (refine' in_name false (nameInt (by decide)) ?N ?m ?c ?d ?r ?u ?a ?_; (case N => k_asm); (case m => k_mem); (case c => exact rfl); (case d => exact rfl); (case r => repeat constructor); (case u => ktr_units); (case a => decide +kernel)))))
        | ((k_here; (with_reducible show wpAny _ _ (compareOp CmpOp.In _ (Value.ref _)) _ _ _); k_dflt (first
  | (refine' in_name true ?V ?N ?m ?c ?d ?r ?u ?a ?_; (case V => with_reducible assumption); (case N => k_asm); (case m => k_mem); (case c => exact rfl); (case d => exact rfl); (case r => repeat constructor); (case u => ktr_units); (case a => decide +kernel))
  | (refine' in_name false ?V ?N ?m ?c ?d ?r ?u ?a ?_; (case V => with_reducible assumption); (case N => k_asm); (case m => k_mem); (case c => exact rfl); (case d => exact rfl); (case r => repeat constructor); (case u => ktr_units); (case a => decide +kernel)))))
        | ((with_reducible show wpAny _ _ (PySem.truthy _) _ _ _); (k_here; k_dflt (refine' truthy_name ?V ?_; (case V => with_reducible assumption)); intro tk9; (try dsimp only))))
      | walk1
      | (leave1; walk_say "STEP leave1"; try dsimp only)
      | fail "no step"))
  · refine LCg.CompEnd.intro (by assumption) (by assumption) _ (fun _ hp => hp) (by simp only [LCg.Off3]; assumption) True.intro ?_
    exact kci_el (if_pos (by assumption)) rfl rfl
  · refine LCg.CompEnd.intro (by assumption) (by assumption) _ (fun _ hp => hp) (by simp only [LCg.Off3]; assumption) True.intro ?_
    exact kci_no (noIf (by assumption)) rfl
  · refine endI hret ?_ (by k_asm) (by first | k_asm | exact lessN (by k_asm) (fun _ hp => .tail _ hp) | exact lessN (by k_asm) (fun _ hp => .tail _ (.tail _ hp)))
    exact first1_e hy hy2
end
section
local macro_rules | `(tactic| walk_at "filler") => `(tactic| skip)
local macro_rules | `(tactic| walk_at "CompSrcT") => `(tactic| (k_here; k_dflt (refine LCt.CompSrcT.range (by rfl) (by k_asm) (by k_asm) (by assumption) (by first | decide | exact small_one (by l_bnd) (by l_bnd) (by l_bnd) (by l_bnd)) (by first | exact rangeSize_nat _ _ | rfl) (by first | exact Nat.le_of_ble_eq_true rfl | (rw [PySem.sizeLine_eq]; omega)) ?_; intro g'; (refine' kci_range (fun l k => if long2 k = true then l ++ [k] else l) (fun k' t' I' oI' C' oC' D' m' ys' l' h' tk' E' hlo' hhi' hI' hC' hx' F' N' off' ne' => ?_) ?_ ?_); (all_goals (try (simp only [LCg.Off3, and_true] at off'))); (all_goals (try ((show KPfMark → _); intro hMark'))); kcf_last)))
local macro_rules | `(tactic| walk_at "KPfGrows") => `(tactic| exact growsIf _)
theorem c_first2 (w : World) (y : Int) (tw ty : Tok) (hy : 1 ≤ y) (hy2 : y ≤ 128) : Call 2 w 116 [.int 2 tw, .int y ty] [] (RetI (first2 y)) := by
  unfold Call
  k_fill
  intro mean mg mb dp un gd cn cs aa ccd cl outer A₀ base h₀ L m news s Q E B F X N T hk hd hu hret
  refine wpAny_call ?_
  k_dflt (refine' code_defC ?k1 ?k2 ?k3 ?k4 ?k5 ?kA ?kF ?kK ?k6 ?k7 ?k8 ?k9 ?kB ?kD ?_ ?c2 ?c3 ?c4; (case kA => exact rfl); (case kF => exact rfl); (case kK => first | exact rfl | assumption); (case k1 => k_asm); (case k2 => k_asm); (case k3 => k_asm); (case k4 => k_asm); (case k5 => k_asm); (case k6 => k_is); (case k7 => k_is); (case k8 => ktr_room); (case k9 => first | exact BindsTo.of_eq rfl | exact binds_K (by k_in) rfl (by k_is) rfl rfl rfl); (case kB => exact rfl); (case kD => decide +kernel); (case c2 => exact rfl); (case c3 => exact rfl); (case c4 => exact rfl); k_whole; intro g' L' h' tk' cells' FG' F' N' Y' B' X' T' l1; (try k_lt l1); k_cells Y'; (try simp only [List.cons_append, List.nil_append] at N'); (try dsimp only); (try k_lift B'); (try k_fold))
  (repeat' (first
      | (k_unfold; (try dsimp only))
      | (k_end; wrow_close)
      | (dsimp only; first | (k_here; first
        | ((with_reducible show wpAny _ _ (call (Value.ref _) _ _) _ _ _); (k_here; first
  | ((with_reducible show wpAny _ _ (call (Value.ref 111) _ _) _ _ _); k_dflt (refine use (c_long2 _ _ _ _) ?_); (try dsimp only [RetI, RetB, RetT, RetS, RetT7, RetT3]); intros; (try dsimp only); (try k_sweep))))
        | ((k_here; first
  | with_reducible refine ite_tt ?_ | with_reducible refine ite_ff ?_
  | ((with_reducible show (if ((_ : Int) == _) = true then _ else _)); k_dflt (first | refine ite_beqT (by omega) ?_ | refine ite_beqF (by omega) ?_))
  | ((with_reducible show (if ((_ : Int) != _) = true then _ else _)); k_dflt (first | refine ite_bneT (by omega) ?_ | refine ite_bneF (by omega) ?_))))
        | (((with_reducible show wpAny _ _ (eval (Expr.Call (Expr.Name _ _) _ [] _) _) _ _ _); k_dflt (refine Call_ ?_)))
        | ((with_reducible show wpAny _ _ (compareOp CmpOp.In (Value.int _ _) (Value.ref _)) _ _ _); (k_here; (with_reducible show wpAny _ _ (compareOp CmpOp.In (Value.int 4 _) (Value.ref _)) _ _ _); k_dflt (first
  | (refine' in_name true (nameInt (by decide)) ?N ?m ?c ?d ?r ?u ?a ?_; (case N => k_asm); (case m => k_mem); (case c => exact rfl); (case d => exact rfl); (case r => repeat constructor); (case u => ktr_units); (case a => decide +kernel))
  | (refine' in_name false (nameInt (by decide)) ?N ?m ?c ?d ?r ?u ?a ?_; (case N => k_asm); (case m => k_mem); (case c => exact rfl); (case d => exact rfl); (case r => repeat constructor); (case u => ktr_units); (case a => decide +kernel)))))
        | ((k_here; (with_reducible show wpAny _ _ (compareOp CmpOp.In _ (Value.ref _)) _ _ _); k_dflt (first
  | (refine' in_name true ?V ?N ?m ?c ?d ?r ?u ?a ?_; (case V => with_reducible assumption); (case N => k_asm); (case m => k_mem); (case c => exact rfl); (case d => exact rfl); (case r => repeat constructor); (case u => ktr_units); (case a => decide +kernel))
  | (refine' in_name false ?V ?N ?m ?c ?d ?r ?u ?a ?_; (case V => with_reducible assumption); (case N => k_asm); (case m => k_mem); (case c => exact rfl); (case d => exact rfl); (case r => repeat constructor); (case u => ktr_units); (case a => decide +kernel)))))
        | ((with_reducible show wpAny _ _ (PySem.truthy _) _ _ _); (k_here; k_dflt (refine' truthy_name ?V ?_; (case V => with_reducible assumption)); intro tk9; (try dsimp only)))) | walk1)
      | (k_here; first
        | ((with_reducible show wpAny _ _ (call (Value.ref _) _ _) _ _ _); (k_here; first
  | ((with_reducible show wpAny _ _ (call (Value.ref 111) _ _) _ _ _); k_dflt (refine use (c_long2 _ _ _ _) ?_); (try dsimp only [RetI, RetB, RetT, RetS, RetT7, RetT3]); intros; (try dsimp only); (try k_sweep))))
        | ((k_here; first
  | with_reducible refine ite_tt ?_ | with_reducible refine ite_ff ?_
  | ((with_reducible show (if ((_ : Int) == _) = true then _ else _)); k_dflt (first | refine ite_beqT (by omega) ?_ | refine ite_beqF (by omega) ?_))
  | ((with_reducible show (if ((_ : Int) != _) = true then _ else _)); k_dflt (first | refine ite_bneT (by omega) ?_ | refine ite_bneF (by omega) ?_))))
        | (((with_reducible show wpAny _ _ (eval (Expr.Call (Expr.Name _ _) _ [] _) _) _ _ _); k_dflt (refine Call_ ?_)))
        | ((with_reducible show wpAny _ _ (compareOp CmpOp.In (Value.int _ _) (Value.ref _)) _ _ _); (k_here; (with_reducible show wpAny _ _ (compareOp CmpOp.In (Value.int 4 _) (Value.ref _)) _ _ _); k_dflt (first
  | (refine' in_name true (nameInt (by decide)) ?N ?m ?c ?d ?r ?u ?a ?_; (case N => k_asm); (case m => k_mem); (case c => exact rfl); (case d => exact rfl); (case r => repeat constructor); (case u => ktr_units); (case a => decide +kernel))
  | (refine' in_name false (nameInt (by decide)) ?N ?m ?c ?d ?r ?u ?a ?_; (case N => k_asm); (case m => k_mem); (case c => exact rfl); (case d => exact rfl); (case r => repeat constructor); (case u => ktr_units); (case a => decide +kernel)))))
        | ((k_here; (with_reducible show wpAny _ _ (compareOp CmpOp.In _ (Value.ref _)) _ _ _); k_dflt (first
  | (refine' in_name true ?V ?N ?m ?c ?d ?r ?u ?a ?_; (case V => with_reducible assumption); (case N => k_asm); (case m => k_mem); (case c => exact rfl); (case d => exact rfl); (case r => repeat constructor); (case u => ktr_units); (case a => decide +kernel))
  | (refine' in_name false ?V ?N ?m ?c ?d ?r ?u ?a ?_; (case V => with_reducible assumption); (case N => k_asm); (case m => k_mem); (case c => exact rfl); (case d => exact rfl); (case r => repeat constructor); (case u => ktr_units); (case a => decide +kernel)))))
        | ((with_reducible show wpAny _ _ (PySem.truthy _) _ _ _); (k_here; k_dflt (refine' truthy_name ?V ?_; (case V => with_reducible assumption)); intro tk9; (try dsimp only))))
      | walk1
      | (leave1; walk_say "STEP leave1"; try dsimp only)
      | fail "no step"))
  · refine LCg.CompEnd.intro (by assumption) (by assumption) _ (fun _ hp => hp) (by simp only [LCg.Off3]; assumption) True.intro ?_
    exact kci_el (if_pos (by assumption)) rfl rfl
  · refine LCg.CompEnd.intro (by assumption) (by assumption) _ (fun _ hp => hp) (by simp only [LCg.Off3]; assumption) True.intro ?_
    exact kci_no (noIf (by assumption)) rfl
  · refine endI hret ?_ (by k_asm) (by first | k_asm | exact lessN (by k_asm) (fun _ hp => .tail _ hp) | exact lessN (by k_asm) (fun _ hp => .tail _ (.tail _ hp)))
    exact first2_e hy hy2
end
theorem any3 {y : Int} : ([3, 7, 11].any fun x => x == y) = true ↔ (y = 3 ∨ y = 7 ∨ y = 11) := by simp; omega
theorem any3f {y : Int} (h : ([3, 7, 11].any fun x => x == y) = false) : ¬ (y = 3 ∨ y = 7 ∨ y = 11) := fun e => by rw [any3.mpr e] at h; cases h
theorem leap_a0 {y : Int} (h : ([3, 7, 11].any fun x => x == y) = true) : true = long0 y := by
  have := any3.mp h; rw [long0]; symm; rw [decide_eq_true_eq]; omega
theorem leap_a1 {y : Int} (h : ([3, 7, 11].any fun x => x == y) = true) : true = long1 y := by
  have := any3.mp h; rw [long1, if_pos (by omega)]; symm; rw [decide_eq_true_eq]; exact this
theorem leap_a2 {y : Int} (h : ([3, 7, 11].any fun x => x == y) = true) : true = long2 y := by
  have := any3.mp h; rw [long2, if_pos (by omega)]; symm; rw [decide_eq_true_eq]; exact this
theorem leap_b0 {y : Int} (h0 : 1 ≤ y) (h : ([3, 7, 11].any fun x => x == y) = false) (h1 : y < 15) : false = long0 y := by
  have := any3f h; rw [long0]; symm; rw [decide_eq_false_iff_not]; omega
theorem leap_b1 {y : Int} (h0 : 1 ≤ y) (h : ([3, 7, 11].any fun x => x == y) = false) (h1 : y < 15) : false = long1 y := by
  have := any3f h
  by_cases q : y < 13
  · rw [long1, if_pos q]; symm; rw [decide_eq_false_iff_not]; exact this
  · rw [long1, if_neg q]; symm; rw [Bool.or_eq_false_iff, decide_eq_false_iff_not, decide_eq_false (show ¬ y % 4 = 0 by omega)]; exact ⟨by omega, rfl⟩
theorem leap_b2 {y : Int} (h0 : 1 ≤ y) (h : ([3, 7, 11].any fun x => x == y) = false) (h1 : y < 15) : false = long2 y := by
  have := any3f h
  by_cases q : y < 13
  · rw [long2, if_pos q]; symm; rw [decide_eq_false_iff_not]; exact this
  · rw [long2, if_neg q, if_pos (by omega)]; symm; rw [decide_eq_false_iff_not]; omega
theorem leap_c0 {y : Int} : (y.fmod 4 == 3) = long0 y := by rw [fm4]; rfl
theorem leap_c1 {y : Int} (h : ¬ y < 15) (h2 : y.fmod 4 = 0) (h3 : y.fmod 100 ≠ 0) : (y.fmod 100 != 0) = long1 y := by
  simp only [fm4, fm100] at *; rw [long1, if_neg (by omega), decide_eq_true h2, decide_eq_false h3, bne_iff_ne.mpr h3, Bool.not_false, Bool.and_true, Bool.or_true]
theorem leap_d1 {y : Int} (h : ¬ y < 15) (h2 : y.fmod 4 = 0) (h3 : y.fmod 100 = 0) : (y.fmod 400 == 0) = long1 y := by
  simp only [fm4, fm100, fm400] at *; rw [long1, if_neg (by omega), decide_eq_true h3, Bool.not_true, Bool.and_false, Bool.or_false]; rfl
theorem leap_e1 {y : Int} (h : ¬ y < 15) (h2 : y.fmod 4 ≠ 0) : (y.fmod 400 == 0) = long1 y := by
  simp only [fm4, fm100, fm400] at *; rw [long1, if_neg (by omega), decide_eq_false h2, Bool.false_and, Bool.or_false]; rfl
theorem leap_c2 {y : Int} (h : ¬ y < 15) (h2 : y ≤ 16) : (y.fmod 4 == 3) = long2 y := by
  rw [fm4, long2, if_neg (by omega), if_pos (by omega), Bool.eq_iff_iff, beq_iff_eq, decide_eq_true_eq]; omega
theorem leap_d2 {y : Int} (h : ¬ y ≤ 16) (h2 : y.fmod 4 = 0) : (y.fmod 128 != 0) = long2 y := by
  simp only [fm4, fm128] at *
  by_cases q : y < 20
  · omega
  · rw [long2, if_neg (by omega), if_neg q, decide_eq_true h2, Bool.true_and]; rfl
theorem leap_e2 {y : Int} (h : ¬ y ≤ 16) (h2 : y.fmod 4 ≠ 0) : (y.fmod 4 == 0) = long2 y := by
  simp only [fm4] at *
  rw [beq_eq_false_iff_ne.mpr h2]
  by_cases q : y < 20
  · rw [long2, if_neg (by omega), if_pos q]; symm; rw [decide_eq_false_iff_not]; omega
  · rw [long2, if_neg (by omega), if_neg q, decide_eq_false h2]; rfl
theorem c_leap0 (w : World) (y : Int) (v : Value) (ty : Tok) (hy : 1 ≤ y) (V : NameOf names0 v) : Call 1 w 58 [.int y ty, v] [] (RetB (long0 y)) := by
  unfold Call
  k_fill
  intro mean mg mb dp un gd cn cs aa ccd cl outer A₀ base h₀ L m news s Q E B F X N T hk hd hu hret
  refine wpAny_call ?_
  k_dflt (refine' code_def ?k1 ?k2 ?k3 ?k4 ?k5 ?kA ?kF ?kK ?k6 ?k7 ?k8 ?k9 ?kB ?_ ?c2 ?c3 ?c4 ?c5; (case kA => exact rfl); (case kF => exact rfl); (case kK => first | exact rfl | assumption); (case k1 => k_asm); (case k2 => k_asm); (case k3 => k_asm); (case k4 => k_asm); (case k5 => k_asm); (case k6 => k_is); (case k7 => k_is); (case k8 => ktr_room); (case k9 => first | exact BindsTo.of_eq rfl | exact binds_K (by k_in) rfl (by k_is) rfl rfl rfl); (case c5 => decide); (case kB => exact locs rfl); (case c2 => exact rfl); (case c3 => exact rfl); (case c4 => exact rfl); k_whole; intro g' L' h' FG' F' N' B' X' T'; (try dsimp only); (try k_lift B'); (try k_fold))
  (repeat' (first
      | (k_unfold; (try dsimp only))
      | (k_end; wrow_close)
      | (dsimp only; first | (k_here; first
        | ((k_here; first
  | with_reducible refine ite_tt ?_ | with_reducible refine ite_ff ?_
  | ((with_reducible show (if ((_ : Int) == _) = true then _ else _)); k_dflt (first | refine ite_beqT (by omega) ?_ | refine ite_beqF (by omega) ?_))
  | ((with_reducible show (if ((_ : Int) != _) = true then _ else _)); k_dflt (first | refine ite_bneT (by omega) ?_ | refine ite_bneF (by omega) ?_))))
        | (((with_reducible show wpAny _ _ (eval (Expr.Call (Expr.Name _ _) _ [] _) _) _ _ _); k_dflt (refine Call_ ?_)))
        | ((with_reducible show wpAny _ _ (compareOp CmpOp.In (Value.int _ _) (Value.ref _)) _ _ _); (k_here; (with_reducible show wpAny _ _ (compareOp CmpOp.In (Value.int 4 _) (Value.ref _)) _ _ _); k_dflt (first
  | (refine' in_name true (nameInt (by decide)) ?N ?m ?c ?d ?r ?u ?a ?_; (case N => k_asm); (case m => k_mem); (case c => exact rfl); (case d => exact rfl); (case r => repeat constructor); (case u => ktr_units); (case a => decide +kernel))
  | (refine' in_name false (nameInt (by decide)) ?N ?m ?c ?d ?r ?u ?a ?_; (case N => k_asm); (case m => k_mem); (case c => exact rfl); (case d => exact rfl); (case r => repeat constructor); (case u => ktr_units); (case a => decide +kernel)))))
        | ((k_here; (with_reducible show wpAny _ _ (compareOp CmpOp.In _ (Value.ref _)) _ _ _); k_dflt (first
  | (refine' in_name true ?V ?N ?m ?c ?d ?r ?u ?a ?_; (case V => with_reducible assumption); (case N => k_asm); (case m => k_mem); (case c => exact rfl); (case d => exact rfl); (case r => repeat constructor); (case u => ktr_units); (case a => decide +kernel))
  | (refine' in_name false ?V ?N ?m ?c ?d ?r ?u ?a ?_; (case V => with_reducible assumption); (case N => k_asm); (case m => k_mem); (case c => exact rfl); (case d => exact rfl); (case r => repeat constructor); (case u => ktr_units); (case a => decide +kernel)))))
        | ((with_reducible show wpAny _ _ (PySem.truthy _) _ _ _); (k_here; k_dflt (refine' truthy_name ?V ?_; (case V => with_reducible assumption)); intro tk9; (try dsimp only)))) | walk1)
      | (k_here; first
        | ((k_here; first
  | with_reducible refine ite_tt ?_ | with_reducible refine ite_ff ?_
  | ((with_reducible show (if ((_ : Int) == _) = true then _ else _)); k_dflt (first | refine ite_beqT (by omega) ?_ | refine ite_beqF (by omega) ?_))
  | ((with_reducible show (if ((_ : Int) != _) = true then _ else _)); k_dflt (first | refine ite_bneT (by omega) ?_ | refine ite_bneF (by omega) ?_))))
        | (((with_reducible show wpAny _ _ (eval (Expr.Call (Expr.Name _ _) _ [] _) _) _ _ _); k_dflt (refine Call_ ?_)))
        | ((with_reducible show wpAny _ _ (compareOp CmpOp.In (Value.int _ _) (Value.ref _)) _ _ _); (k_here; (with_reducible show wpAny _ _ (compareOp CmpOp.In (Value.int 4 _) (Value.ref _)) _ _ _); k_dflt (first
  | (refine' in_name true (nameInt (by decide)) ?N ?m ?c ?d ?r ?u ?a ?_; (case N => k_asm); (case m => k_mem); (case c => exact rfl); (case d => exact rfl); (case r => repeat constructor); (case u => ktr_units); (case a => decide +kernel))
  | (refine' in_name false (nameInt (by decide)) ?N ?m ?c ?d ?r ?u ?a ?_; (case N => k_asm); (case m => k_mem); (case c => exact rfl); (case d => exact rfl); (case r => repeat constructor); (case u => ktr_units); (case a => decide +kernel)))))
        | ((k_here; (with_reducible show wpAny _ _ (compareOp CmpOp.In _ (Value.ref _)) _ _ _); k_dflt (first
  | (refine' in_name true ?V ?N ?m ?c ?d ?r ?u ?a ?_; (case V => with_reducible assumption); (case N => k_asm); (case m => k_mem); (case c => exact rfl); (case d => exact rfl); (case r => repeat constructor); (case u => ktr_units); (case a => decide +kernel))
  | (refine' in_name false ?V ?N ?m ?c ?d ?r ?u ?a ?_; (case V => with_reducible assumption); (case N => k_asm); (case m => k_mem); (case c => exact rfl); (case d => exact rfl); (case r => repeat constructor); (case u => ktr_units); (case a => decide +kernel)))))
        | ((with_reducible show wpAny _ _ (PySem.truthy _) _ _ _); (k_here; k_dflt (refine' truthy_name ?V ?_; (case V => with_reducible assumption)); intro tk9; (try dsimp only))))
      | walk1
      | (leave1; walk_say "STEP leave1"; try dsimp only)
      | fail "no step"))
  all_goals (refine endB hret ?_ (by k_asm) (by first | k_asm | exact lessN (by k_asm) (by first | exact (fun _ hp => .tail _ hp) | exact (fun _ hp => .tail _ (.tail _ hp)) | exact (fun _ hp => .tail _ (.tail _ (.tail _ hp))) | exact (fun _ hp => .tail _ (.tail _ (.tail _ (.tail _ hp)))) | exact (fun _ hp => .tail _ (.tail _ (.tail _ (.tail _ (.tail _ hp))))))))
  all_goals first | exact leap_a0 (by assumption) | exact leap_b0 (by assumption) (by assumption) (by assumption) | exact leap_c0 
theorem c_leap1 (w : World) (y : Int) (v : Value) (ty : Tok) (hy : 1 ≤ y) (V : NameOf names1 v) : Call 1 w 58 [.int y ty, v] [] (RetB (long1 y)) := by
  unfold Call
  k_fill
  intro mean mg mb dp un gd cn cs aa ccd cl outer A₀ base h₀ L m news s Q E B F X N T hk hd hu hret
  refine wpAny_call ?_
  k_dflt (refine' code_def ?k1 ?k2 ?k3 ?k4 ?k5 ?kA ?kF ?kK ?k6 ?k7 ?k8 ?k9 ?kB ?_ ?c2 ?c3 ?c4 ?c5; (case kA => exact rfl); (case kF => exact rfl); (case kK => first | exact rfl | assumption); (case k1 => k_asm); (case k2 => k_asm); (case k3 => k_asm); (case k4 => k_asm); (case k5 => k_asm); (case k6 => k_is); (case k7 => k_is); (case k8 => ktr_room); (case k9 => first | exact BindsTo.of_eq rfl | exact binds_K (by k_in) rfl (by k_is) rfl rfl rfl); (case c5 => decide); (case kB => exact locs rfl); (case c2 => exact rfl); (case c3 => exact rfl); (case c4 => exact rfl); k_whole; intro g' L' h' FG' F' N' B' X' T'; (try dsimp only); (try k_lift B'); (try k_fold))
  (repeat' (first
      | (k_unfold; (try dsimp only))
      | (k_end; wrow_close)
      | (dsimp only; first | (k_here; first
        | ((k_here; first
  | with_reducible refine ite_tt ?_ | with_reducible refine ite_ff ?_
  | ((with_reducible show (if ((_ : Int) == _) = true then _ else _)); k_dflt (first | refine ite_beqT (by omega) ?_ | refine ite_beqF (by omega) ?_))
  | ((with_reducible show (if ((_ : Int) != _) = true then _ else _)); k_dflt (first | refine ite_bneT (by omega) ?_ | refine ite_bneF (by omega) ?_))))
        | (((with_reducible show wpAny _ _ (eval (Expr.Call (Expr.Name _ _) _ [] _) _) _ _ _); k_dflt (refine Call_ ?_)))
        | ((with_reducible show wpAny _ _ (compareOp CmpOp.In (Value.int _ _) (Value.ref _)) _ _ _); (k_here; (with_reducible show wpAny _ _ (compareOp CmpOp.In (Value.int 4 _) (Value.ref _)) _ _ _); k_dflt (first
  | (refine' in_name true (nameInt (by decide)) ?N ?m ?c ?d ?r ?u ?a ?_; (case N => k_asm); (case m => k_mem); (case c => exact rfl); (case d => exact rfl); (case r => repeat constructor); (case u => ktr_units); (case a => decide +kernel))
  | (refine' in_name false (nameInt (by decide)) ?N ?m ?c ?d ?r ?u ?a ?_; (case N => k_asm); (case m => k_mem); (case c => exact rfl); (case d => exact rfl); (case r => repeat constructor); (case u => ktr_units); (case a => decide +kernel)))))
        | ((k_here; (with_reducible show wpAny _ _ (compareOp CmpOp.In _ (Value.ref _)) _ _ _); k_dflt (first
  | (refine' in_name true ?V ?N ?m ?c ?d ?r ?u ?a ?_; (case V => with_reducible assumption); (case N => k_asm); (case m => k_mem); (case c => exact rfl); (case d => exact rfl); (case r => repeat constructor); (case u => ktr_units); (case a => decide +kernel))
  | (refine' in_name false ?V ?N ?m ?c ?d ?r ?u ?a ?_; (case V => with_reducible assumption); (case N => k_asm); (case m => k_mem); (case c => exact rfl); (case d => exact rfl); (case r => repeat constructor); (case u => ktr_units); (case a => decide +kernel)))))
        | ((with_reducible show wpAny _ _ (PySem.truthy _) _ _ _); (k_here; k_dflt (refine' truthy_name ?V ?_; (case V => with_reducible assumption)); intro tk9; (try dsimp only)))) | walk1)
      | (k_here; first
        | ((k_here; first
  | with_reducible refine ite_tt ?_ | with_reducible refine ite_ff ?_
  | ((with_reducible show (if ((_ : Int) == _) = true then _ else _)); k_dflt (first | refine ite_beqT (by omega) ?_ | refine ite_beqF (by omega) ?_))
  | ((with_reducible show (if ((_ : Int) != _) = true then _ else _)); k_dflt (first | refine ite_bneT (by omega) ?_ | refine ite_bneF (by omega) ?_))))
        | (((with_reducible show wpAny _ _ (eval (Expr.Call (Expr.Name _ _) _ [] _) _) _ _ _); k_dflt (refine Call_ ?_)))
        | ((with_reducible show wpAny _ _ (compareOp CmpOp.In (Value.int _ _) (Value.ref _)) _ _ _); (k_here; (with_reducible show wpAny _ _ (compareOp CmpOp.In (Value.int 4 _) (Value.ref _)) _ _ _); k_dflt (first
  | (refine' in_name true (nameInt (by decide)) ?N ?m ?c ?d ?r ?u ?a ?_; (case N => k_asm); (case m => k_mem); (case c => exact rfl); (case d => exact rfl); (case r => repeat constructor); (case u => ktr_units); (case a => decide +kernel))
  | (refine' in_name false (nameInt (by decide)) ?N ?m ?c ?d ?r ?u ?a ?_; (case N => k_asm); (case m => k_mem); (case c => exact rfl); (case d => exact rfl); (case r => repeat constructor); (case u => ktr_units); (case a => decide +kernel)))))
        | ((k_here; (with_reducible show wpAny _ _ (compareOp CmpOp.In _ (Value.ref _)) _ _ _); k_dflt (first
  | (refine' in_name true ?V ?N ?m ?c ?d ?r ?u ?a ?_; (case V => with_reducible assumption); (case N => k_asm); (case m => k_mem); (case c => exact rfl); (case d => exact rfl); (case r => repeat constructor); (case u => ktr_units); (case a => decide +kernel))
  | (refine' in_name false ?V ?N ?m ?c ?d ?r ?u ?a ?_; (case V => with_reducible assumption); (case N => k_asm); (case m => k_mem); (case c => exact rfl); (case d => exact rfl); (case r => repeat constructor); (case u => ktr_units); (case a => decide +kernel)))))
        | ((with_reducible show wpAny _ _ (PySem.truthy _) _ _ _); (k_here; k_dflt (refine' truthy_name ?V ?_; (case V => with_reducible assumption)); intro tk9; (try dsimp only))))
      | walk1
      | (leave1; walk_say "STEP leave1"; try dsimp only)
      | fail "no step"))
  all_goals (refine endB hret ?_ (by k_asm) (by first | k_asm | exact lessN (by k_asm) (by first | exact (fun _ hp => .tail _ hp) | exact (fun _ hp => .tail _ (.tail _ hp)) | exact (fun _ hp => .tail _ (.tail _ (.tail _ hp))) | exact (fun _ hp => .tail _ (.tail _ (.tail _ (.tail _ hp)))) | exact (fun _ hp => .tail _ (.tail _ (.tail _ (.tail _ (.tail _ hp))))))))
  all_goals first | exact leap_a1 (by assumption) | exact leap_b1 (by assumption) (by assumption) (by assumption) | exact leap_c1 (by assumption) (by assumption) (by assumption) | exact leap_d1 (by assumption) (by assumption) (by assumption) | exact leap_e1 (by assumption) (by assumption)
theorem c_leap2 (w : World) (y : Int) (v : Value) (ty : Tok) (hy : 1 ≤ y) (V : NameOf names2 v) : Call 1 w 58 [.int y ty, v] [] (RetB (long2 y)) := by
  unfold Call
  k_fill
  intro mean mg mb dp un gd cn cs aa ccd cl outer A₀ base h₀ L m news s Q E B F X N T hk hd hu hret
  refine wpAny_call ?_
  k_dflt (refine' code_def ?k1 ?k2 ?k3 ?k4 ?k5 ?kA ?kF ?kK ?k6 ?k7 ?k8 ?k9 ?kB ?_ ?c2 ?c3 ?c4 ?c5; (case kA => exact rfl); (case kF => exact rfl); (case kK => first | exact rfl | assumption); (case k1 => k_asm); (case k2 => k_asm); (case k3 => k_asm); (case k4 => k_asm); (case k5 => k_asm); (case k6 => k_is); (case k7 => k_is); (case k8 => ktr_room); (case k9 => first | exact BindsTo.of_eq rfl | exact binds_K (by k_in) rfl (by k_is) rfl rfl rfl); (case c5 => decide); (case kB => exact locs rfl); (case c2 => exact rfl); (case c3 => exact rfl); (case c4 => exact rfl); k_whole; intro g' L' h' FG' F' N' B' X' T'; (try dsimp only); (try k_lift B'); (try k_fold))
  (repeat' (first
      | (k_unfold; (try dsimp only))
      | (k_end; wrow_close)
      | (dsimp only; first | (k_here; first
        | ((k_here; first
  | with_reducible refine ite_tt ?_ | with_reducible refine ite_ff ?_
  | ((with_reducible show (if ((_ : Int) == _) = true then _ else _)); k_dflt (first | refine ite_beqT (by omega) ?_ | refine ite_beqF (by omega) ?_))
  | ((with_reducible show (if ((_ : Int) != _) = true then _ else _)); k_dflt (first | refine ite_bneT (by omega) ?_ | refine ite_bneF (by omega) ?_))))
        | (((with_reducible show wpAny _ _ (eval (Expr.Call (Expr.Name _ _) _ [] _) _) _ _ _); k_dflt (refine Call_ ?_)))
        | ((with_reducible show wpAny _ _ (compareOp CmpOp.In (Value.int _ _) (Value.ref _)) _ _ _); (k_here; (with_reducible show wpAny _ _ (compareOp CmpOp.In (Value.int 4 _) (Value.ref _)) _ _ _); k_dflt (first
  | (refine' in_name true (nameInt (by decide)) ?N ?m ?c ?d ?r ?u ?a ?_; (case N => k_asm); (case m => k_mem); (case c => exact rfl); (case d => exact rfl); (case r => repeat constructor); (case u => ktr_units); (case a => decide +kernel))
  | (refine' in_name false (nameInt (by decide)) ?N ?m ?c ?d ?r ?u ?a ?_; (case N => k_asm); (case m => k_mem); (case c => exact rfl); (case d => exact rfl); (case r => repeat constructor); (case u => ktr_units); (case a => decide +kernel)))))
        | ((k_here; (with_reducible show wpAny _ _ (compareOp CmpOp.In _ (Value.ref _)) _ _ _); k_dflt (first
  | (refine' in_name true ?V ?N ?m ?c ?d ?r ?u ?a ?_; (case V => with_reducible assumption); (case N => k_asm); (case m => k_mem); (case c => exact rfl); (case d => exact rfl); (case r => repeat constructor); (case u => ktr_units); (case a => decide +kernel))
  | (refine' in_name false ?V ?N ?m ?c ?d ?r ?u ?a ?_; (case V => with_reducible assumption); (case N => k_asm); (case m => k_mem); (case c => exact rfl); (case d => exact rfl); (case r => repeat constructor); (case u => ktr_units); (case a => decide +kernel)))))
        | ((with_reducible show wpAny _ _ (PySem.truthy _) _ _ _); (k_here; k_dflt (refine' truthy_name ?V ?_; (case V => with_reducible assumption)); intro tk9; (try dsimp only)))) | walk1)
      | (k_here; first
        | ((k_here; first
  | with_reducible refine ite_tt ?_ | with_reducible refine ite_ff ?_
  | ((with_reducible show (if ((_ : Int) == _) = true then _ else _)); k_dflt (first | refine ite_beqT (by omega) ?_ | refine ite_beqF (by omega) ?_))
  | ((with_reducible show (if ((_ : Int) != _) = true then _ else _)); k_dflt (first | refine ite_bneT (by omega) ?_ | refine ite_bneF (by omega) ?_))))
        | (((with_reducible show wpAny _ _ (eval (Expr.Call (Expr.Name _ _) _ [] _) _) _ _ _); k_dflt (refine Call_ ?_)))
        | ((with_reducible show wpAny _ _ (compareOp CmpOp.In (Value.int _ _) (Value.ref _)) _ _ _); (k_here; (with_reducible show wpAny _ _ (compareOp CmpOp.In (Value.int 4 _) (Value.ref _)) _ _ _); k_dflt (first
  | (refine' in_name true (nameInt (by decide)) ?N ?m ?c ?d ?r ?u ?a ?_; (case N => k_asm); (case m => k_mem); (case c => exact rfl); (case d => exact rfl); (case r => repeat constructor); (case u => ktr_units); (case a => decide +kernel))
  | (refine' in_name false (nameInt (by decide)) ?N ?m ?c ?d ?r ?u ?a ?_; (case N => k_asm); (case m => k_mem); (case c => exact rfl); (case d => exact rfl); (case r => repeat constructor); (case u => ktr_units); (case a => decide +kernel)))))
        | ((k_here; (with_reducible show wpAny _ _ (compareOp CmpOp.In _ (Value.ref _)) _ _ _); k_dflt (first
  | (refine' in_name true ?V ?N ?m ?c ?d ?r ?u ?a ?_; (case V => with_reducible assumption); (case N => k_asm); (case m => k_mem); (case c => exact rfl); (case d => exact rfl); (case r => repeat constructor); (case u => ktr_units); (case a => decide +kernel))
  | (refine' in_name false ?V ?N ?m ?c ?d ?r ?u ?a ?_; (case V => with_reducible assumption); (case N => k_asm); (case m => k_mem); (case c => exact rfl); (case d => exact rfl); (case r => repeat constructor); (case u => ktr_units); (case a => decide +kernel)))))
        | ((with_reducible show wpAny _ _ (PySem.truthy _) _ _ _); (k_here; k_dflt (refine' truthy_name ?V ?_; (case V => with_reducible assumption)); intro tk9; (try dsimp only))))
      | walk1
      | (leave1; walk_say "STEP leave1"; try dsimp only)
      | fail "no step"))
  all_goals (refine endB hret ?_ (by k_asm) (by first | k_asm | exact lessN (by k_asm) (by first | exact (fun _ hp => .tail _ hp) | exact (fun _ hp => .tail _ (.tail _ hp)) | exact (fun _ hp => .tail _ (.tail _ (.tail _ hp))) | exact (fun _ hp => .tail _ (.tail _ (.tail _ (.tail _ hp)))) | exact (fun _ hp => .tail _ (.tail _ (.tail _ (.tail _ (.tail _ hp))))))))
  all_goals first | exact leap_a2 (by assumption) | exact leap_b2 (by assumption) (by assumption) (by assumption) | exact leap_c2 (by assumption) (by assumption) | exact leap_d2 (by assumption) (by assumption) | exact leap_e2 (by assumption) (by assumption)
theorem c_leap0k (w : World) (y : Int) (v : Value) (ty : Tok) (hy : 1 ≤ y) (V : NameOf names0 v) : Call 1 w 58 [.int y ty] [(Str.ofString "method", v)] (RetB (long0 y)) := by
  unfold Call
  k_fill
  intro mean mg mb dp un gd cn cs aa ccd cl outer A₀ base h₀ L m news s Q E B F X N T hk hd hu hret
  refine wpAny_call ?_
  k_dflt (refine' code_def ?k1 ?k2 ?k3 ?k4 ?k5 ?kA ?kF ?kK ?k6 ?k7 ?k8 ?k9 ?kB ?_ ?c2 ?c3 ?c4 ?c5; (case kA => exact rfl); (case kF => exact rfl); (case kK => first | exact rfl | assumption); (case k1 => k_asm); (case k2 => k_asm); (case k3 => k_asm); (case k4 => k_asm); (case k5 => k_asm); (case k6 => k_is); (case k7 => k_is); (case k8 => ktr_room); (case k9 => first | exact BindsTo.of_eq rfl | exact binds_K (by k_in) rfl (by k_is) rfl rfl rfl); (case c5 => decide); (case kB => exact locs rfl); (case c2 => exact rfl); (case c3 => exact rfl); (case c4 => exact rfl); k_whole; intro g' L' h' FG' F' N' B' X' T'; (try dsimp only); (try k_lift B'); (try k_fold))
  (repeat' (first
      | (k_unfold; (try dsimp only))
      | (k_end; wrow_close)
      | (dsimp only; first | (k_here; first
        | ((k_here; first
  | with_reducible refine ite_tt ?_ | with_reducible refine ite_ff ?_
  | ((with_reducible show (if ((_ : Int) == _) = true then _ else _)); k_dflt (first | refine ite_beqT (by omega) ?_ | refine ite_beqF (by omega) ?_))
  | ((with_reducible show (if ((_ : Int) != _) = true then _ else _)); k_dflt (first | refine ite_bneT (by omega) ?_ | refine ite_bneF (by omega) ?_))))
        | (((with_reducible show wpAny _ _ (eval (Expr.Call (Expr.Name _ _) _ [] _) _) _ _ _); k_dflt (refine Call_ ?_)))
        | ((with_reducible show wpAny _ _ (compareOp CmpOp.In (Value.int _ _) (Value.ref _)) _ _ _); (k_here; (with_reducible show wpAny _ _ (compareOp CmpOp.In (Value.int 4 _) (Value.ref _)) _ _ _); k_dflt (first
  | (refine' in_name true (nameInt (by decide)) ?N ?m ?c ?d ?r ?u ?a ?_; (case N => k_asm); (case m => k_mem); (case c => exact rfl); (case d => exact rfl); (case r => repeat constructor); (case u => ktr_units); (case a => decide +kernel))
  | (refine' in_name false (nameInt (by decide)) ?N ?m ?c ?d ?r ?u ?a ?_; (case N => k_asm); (case m => k_mem); (case c => exact rfl); (case d => exact rfl); (case r => repeat constructor); (case u => ktr_units); (case a => decide +kernel)))))
        | ((k_here; (with_reducible show wpAny _ _ (compareOp CmpOp.In _ (Value.ref _)) _ _ _); k_dflt (first
  | (refine' in_name true ?V ?N ?m ?c ?d ?r ?u ?a ?_; (case V => with_reducible assumption); (case N => k_asm); (case m => k_mem); (case c => exact rfl); (case d => exact rfl); (case r => repeat constructor); (case u => ktr_units); (case a => decide +kernel))
  | (refine' in_name false ?V ?N ?m ?c ?d ?r ?u ?a ?_; (case V => with_reducible assumption); (case N => k_asm); (case m => k_mem); (case c => exact rfl); (case d => exact rfl); (case r => repeat constructor); (case u => ktr_units); (case a => decide +kernel)))))
        | ((with_reducible show wpAny _ _ (PySem.truthy _) _ _ _); (k_here; k_dflt (refine' truthy_name ?V ?_; (case V => with_reducible assumption)); intro tk9; (try dsimp only)))) | walk1)
      | (k_here; first
        | ((k_here; first
  | with_reducible refine ite_tt ?_ | with_reducible refine ite_ff ?_
  | ((with_reducible show (if ((_ : Int) == _) = true then _ else _)); k_dflt (first | refine ite_beqT (by omega) ?_ | refine ite_beqF (by omega) ?_))
  | ((with_reducible show (if ((_ : Int) != _) = true then _ else _)); k_dflt (first | refine ite_bneT (by omega) ?_ | refine ite_bneF (by omega) ?_))))
        | (((with_reducible show wpAny _ _ (eval (Expr.Call (Expr.Name _ _) _ [] _) _) _ _ _); k_dflt (refine Call_ ?_)))
        | ((with_reducible show wpAny _ _ (compareOp CmpOp.In (Value.int _ _) (Value.ref _)) _ _ _); (k_here; (with_reducible show wpAny _ _ (compareOp CmpOp.In (Value.int 4 _) (Value.ref _)) _ _ _); k_dflt (first
  | (refine' in_name true (nameInt (by decide)) ?N ?m ?c ?d ?r ?u ?a ?_; (case N => k_asm); (case m => k_mem); (case c => exact rfl); (case d => exact rfl); (case r => repeat constructor); (case u => ktr_units); (case a => decide +kernel))
  | (refine' in_name false (nameInt (by decide)) ?N ?m ?c ?d ?r ?u ?a ?_; (case N => k_asm); (case m => k_mem); (case c => exact rfl); (case d => exact rfl); (case r => repeat constructor); (case u => ktr_units); (case a => decide +kernel)))))
        | ((k_here; (with_reducible show wpAny _ _ (compareOp CmpOp.In _ (Value.ref _)) _ _ _); k_dflt (first
  | (refine' in_name true ?V ?N ?m ?c ?d ?r ?u ?a ?_; (case V => with_reducible assumption); (case N => k_asm); (case m => k_mem); (case c => exact rfl); (case d => exact rfl); (case r => repeat constructor); (case u => ktr_units); (case a => decide +kernel))
  | (refine' in_name false ?V ?N ?m ?c ?d ?r ?u ?a ?_; (case V => with_reducible assumption); (case N => k_asm); (case m => k_mem); (case c => exact rfl); (case d => exact rfl); (case r => repeat constructor); (case u => ktr_units); (case a => decide +kernel)))))
        | ((with_reducible show wpAny _ _ (PySem.truthy _) _ _ _); (k_here; k_dflt (refine' truthy_name ?V ?_; (case V => with_reducible assumption)); intro tk9; (try dsimp only))))
      | walk1
      | (leave1; walk_say "STEP leave1"; try dsimp only)
      | fail "no step"))
  all_goals (refine endB hret ?_ (by k_asm) (by first | k_asm | exact lessN (by k_asm) (by first | exact (fun _ hp => .tail _ hp) | exact (fun _ hp => .tail _ (.tail _ hp)) | exact (fun _ hp => .tail _ (.tail _ (.tail _ hp))) | exact (fun _ hp => .tail _ (.tail _ (.tail _ (.tail _ hp)))) | exact (fun _ hp => .tail _ (.tail _ (.tail _ (.tail _ (.tail _ hp))))))))
  all_goals first | exact leap_a0 (by assumption) | exact leap_b0 (by assumption) (by assumption) (by assumption) | exact leap_c0 
theorem c_leap1k (w : World) (y : Int) (v : Value) (ty : Tok) (hy : 1 ≤ y) (V : NameOf names1 v) : Call 1 w 58 [.int y ty] [(Str.ofString "method", v)] (RetB (long1 y)) := by
  unfold Call
  k_fill
  intro mean mg mb dp un gd cn cs aa ccd cl outer A₀ base h₀ L m news s Q E B F X N T hk hd hu hret
  refine wpAny_call ?_
  k_dflt (refine' code_def ?k1 ?k2 ?k3 ?k4 ?k5 ?kA ?kF ?kK ?k6 ?k7 ?k8 ?k9 ?kB ?_ ?c2 ?c3 ?c4 ?c5; (case kA => exact rfl); (case kF => exact rfl); (case kK => first | exact rfl | assumption); (case k1 => k_asm); (case k2 => k_asm); (case k3 => k_asm); (case k4 => k_asm); (case k5 => k_asm); (case k6 => k_is); (case k7 => k_is); (case k8 => ktr_room); (case k9 => first | exact BindsTo.of_eq rfl | exact binds_K (by k_in) rfl (by k_is) rfl rfl rfl); (case c5 => decide); (case kB => exact locs rfl); (case c2 => exact rfl); (case c3 => exact rfl); (case c4 => exact rfl); k_whole; intro g' L' h' FG' F' N' B' X' T'; (try dsimp only); (try k_lift B'); (try k_fold))
  (repeat' (first
      | (k_unfold; (try dsimp only))
      | (k_end; wrow_close)
      | (dsimp only; first | (k_here; first
        | ((k_here; first
  | with_reducible refine ite_tt ?_ | with_reducible refine ite_ff ?_
  | ((with_reducible show (if ((_ : Int) == _) = true then _ else _)); k_dflt (first | refine ite_beqT (by omega) ?_ | refine ite_beqF (by omega) ?_))
  | ((with_reducible show (if ((_ : Int) != _) = true then _ else _)); k_dflt (first | refine ite_bneT (by omega) ?_ | refine ite_bneF (by omega) ?_))))
        | (((with_reducible show wpAny _ _ (eval (Expr.Call (Expr.Name _ _) _ [] _) _) _ _ _); k_dflt (refine Call_ ?_)))
        | ((with_reducible show wpAny _ _ (compareOp CmpOp.In (Value.int _ _) (Value.ref _)) _ _ _); (k_here; (with_reducible show wpAny _ _ (compareOp CmpOp.In (Value.int 4 _) (Value.ref _)) _ _ _); k_dflt (first
  | (refine' in_name true (nameInt (by decide)) ?N ?m ?c ?d ?r ?u ?a ?_; (case N => k_asm); (case m => k_mem); (case c => exact rfl); (case d => exact rfl); (case r => repeat constructor); (case u => ktr_units); (case a => decide +kernel))
  | (refine' in_name false (nameInt (by decide)) ?N ?m ?c ?d ?r ?u ?a ?_; (case N => k_asm); (case m => k_mem); (case c => exact rfl); (case d => exact rfl); (case r => repeat constructor); (case u => ktr_units); (case a => decide +kernel)))))
        | ((k_here; (with_reducible show wpAny _ _ (compareOp CmpOp.In _ (Value.ref _)) _ _ _); k_dflt (first
  | (refine' in_name true ?V ?N ?m ?c ?d ?r ?u ?a ?_; (case V => with_reducible assumption); (case N => k_asm); (case m => k_mem); (case c => exact rfl); (case d => exact rfl); (case r => repeat constructor); (case u => ktr_units); (case a => decide +kernel))
  | (refine' in_name false ?V ?N ?m ?c ?d ?r ?u ?a ?_; (case V => with_reducible assumption); (case N => k_asm); (case m => k_mem); (case c => exact rfl); (case d => exact rfl); (case r => repeat constructor); (case u => ktr_units); (case a => decide +kernel)))))
        | ((with_reducible show wpAny _ _ (PySem.truthy _) _ _ _); (k_here; k_dflt (refine' truthy_name ?V ?_; (case V => with_reducible assumption)); intro tk9; (try dsimp only)))) | walk1)
      | (k_here; first
        | ((k_here; first
  | with_reducible refine ite_tt ?_ | with_reducible refine ite_ff ?_
  | ((with_reducible show (if ((_ : Int) == _) = true then _ else _)); k_dflt (first | refine ite_beqT (by omega) ?_ | refine ite_beqF (by omega) ?_))
  | ((with_reducible show (if ((_ : Int) != _) = true then _ else _)); k_dflt (first | refine ite_bneT (by omega) ?_ | refine ite_bneF (by omega) ?_))))
        | (((with_reducible show wpAny _ _ (eval (Expr.Call (Expr.Name _ _) _ [] _) _) _ _ _); k_dflt (refine Call_ ?_)))
        | ((with_reducible show wpAny _ _ (compareOp CmpOp.In (Value.int _ _) (Value.ref _)) _ _ _); (k_here; (with_reducible show wpAny _ _ (compareOp CmpOp.In (Value.int 4 _) (Value.ref _)) _ _ _); k_dflt (first
  | (refine' in_name true (nameInt (by decide)) ?N ?m ?c ?d ?r ?u ?a ?_; (case N => k_asm); (case m => k_mem); (case c => exact rfl); (case d => exact rfl); (case r => repeat constructor); (case u => ktr_units); (case a => decide +kernel))
  | (refine' in_name false (nameInt (by decide)) ?N ?m ?c ?d ?r ?u ?a ?_; (case N => k_asm); (case m => k_mem); (case c => exact rfl); (case d => exact rfl); (case r => repeat constructor); (case u => ktr_units); (case a => decide +kernel)))))
        | ((k_here; (with_reducible show wpAny _ _ (compareOp CmpOp.In _ (Value.ref _)) _ _ _); k_dflt (first
  | (refine' in_name true ?V ?N ?m ?c ?d ?r ?u ?a ?_; (case V => with_reducible assumption); (case N => k_asm); (case m => k_mem); (case c => exact rfl); (case d => exact rfl); (case r => repeat constructor); (case u => ktr_units); (case a => decide +kernel))
  | (refine' in_name false ?V ?N ?m ?c ?d ?r ?u ?a ?_; (case V => with_reducible assumption); (case N => k_asm); (case m => k_mem); (case c => exact rfl); (case d => exact rfl); (case r => repeat constructor); (case u => ktr_units); (case a => decide +kernel)))))
        | ((with_reducible show wpAny _ _ (PySem.truthy _) _ _ _); (k_here; k_dflt (refine' truthy_name ?V ?_; (case V => with_reducible assumption)); intro tk9; (try dsimp only))))
      | walk1
      | (leave1; walk_say "STEP leave1"; try dsimp only)
      | fail "no step"))
  all_goals (refine endB hret ?_ (by k_asm) (by first | k_asm | exact lessN (by k_asm) (by first | exact (fun _ hp => .tail _ hp) | exact (fun _ hp => .tail _ (.tail _ hp)) | exact (fun _ hp => .tail _ (.tail _ (.tail _ hp))) | exact (fun _ hp => .tail _ (.tail _ (.tail _ (.tail _ hp)))) | exact (fun _ hp => .tail _ (.tail _ (.tail _ (.tail _ (.tail _ hp))))))))
  all_goals first | exact leap_a1 (by assumption) | exact leap_b1 (by assumption) (by assumption) (by assumption) | exact leap_c1 (by assumption) (by assumption) (by assumption) | exact leap_d1 (by assumption) (by assumption) (by assumption) | exact leap_e1 (by assumption) (by assumption)
theorem c_leap2k (w : World) (y : Int) (v : Value) (ty : Tok) (hy : 1 ≤ y) (V : NameOf names2 v) : Call 1 w 58 [.int y ty] [(Str.ofString "method", v)] (RetB (long2 y)) := by
  unfold Call
  k_fill
  intro mean mg mb dp un gd cn cs aa ccd cl outer A₀ base h₀ L m news s Q E B F X N T hk hd hu hret
  refine wpAny_call ?_
  k_dflt (refine' code_def ?k1 ?k2 ?k3 ?k4 ?k5 ?kA ?kF ?kK ?k6 ?k7 ?k8 ?k9 ?kB ?_ ?c2 ?c3 ?c4 ?c5; (case kA => exact rfl); (case kF => exact rfl); (case kK => first | exact rfl | assumption); (case k1 => k_asm); (case k2 => k_asm); (case k3 => k_asm); (case k4 => k_asm); (case k5 => k_asm); (case k6 => k_is); (case k7 => k_is); (case k8 => ktr_room); (case k9 => first | exact BindsTo.of_eq rfl | exact binds_K (by k_in) rfl (by k_is) rfl rfl rfl); (case c5 => decide); (case kB => exact locs rfl); (case c2 => exact rfl); (case c3 => exact rfl); (case c4 => exact rfl); k_whole; intro g' L' h' FG' F' N' B' X' T'; (try dsimp only); (try k_lift B'); (try k_fold))
  (repeat' (first
      | (k_unfold; (try dsimp only))
      | (k_end; wrow_close)
      | (dsimp only; first | (k_here; first
        | ((k_here; first
  | with_reducible refine ite_tt ?_ | with_reducible refine ite_ff ?_
  | ((with_reducible show (if ((_ : Int) == _) = true then _ else _)); k_dflt (first | refine ite_beqT (by omega) ?_ | refine ite_beqF (by omega) ?_))
  | ((with_reducible show (if ((_ : Int) != _) = true then _ else _)); k_dflt (first | refine ite_bneT (by omega) ?_ | refine ite_bneF (by omega) ?_))))
        | (((with_reducible show wpAny _ _ (eval (Expr.Call (Expr.Name _ _) _ [] _) _) _ _ _); k_dflt (refine Call_ ?_)))
        | ((with_reducible show wpAny _ _ (compareOp CmpOp.In (Value.int _ _) (Value.ref _)) _ _ _); (k_here; (with_reducible show wpAny _ _ (compareOp CmpOp.In (Value.int 4 _) (Value.ref _)) _ _ _); k_dflt (first
  | (refine' in_name true (nameInt (by decide)) ?N ?m ?c ?d ?r ?u ?a ?_; (case N => k_asm); (case m => k_mem); (case c => exact rfl); (case d => exact rfl); (case r => repeat constructor); (case u => ktr_units); (case a => decide +kernel))
  | (refine' in_name false (nameInt (by decide)) ?N ?m ?c ?d ?r ?u ?a ?_; (case N => k_asm); (case m => k_mem); (case c => exact rfl); (case d => exact rfl); (case r => repeat constructor); (case u => ktr_units); (case a => decide +kernel)))))
        | ((k_here; (with_reducible show wpAny _ _ (compareOp CmpOp.In _ (Value.ref _)) _ _ _); k_dflt (first
  | (refine' in_name true ?V ?N ?m ?c ?d ?r ?u ?a ?_; (case V => with_reducible assumption); (case N => k_asm); (case m => k_mem); (case c => exact rfl); (case d => exact rfl); (case r => repeat constructor); (case u => ktr_units); (case a => decide +kernel))
  | (refine' in_name false ?V ?N ?m ?c ?d ?r ?u ?a ?_; (case V => with_reducible assumption); (case N => k_asm); (case m => k_mem); (case c => exact rfl); (case d => exact rfl); (case r => repeat constructor); (case u => ktr_units); (case a => decide +kernel)))))
        | ((with_reducible show wpAny _ _ (PySem.truthy _) _ _ _); (k_here; k_dflt (refine' truthy_name ?V ?_; (case V => with_reducible assumption)); intro tk9; (try dsimp only)))) | walk1)
      | (k_here; first
        | ((k_here; first
  | with_reducible refine ite_tt ?_ | with_reducible refine ite_ff ?_
  | ((with_reducible show (if ((_ : Int) == _) = true then _ else _)); k_dflt (first | refine ite_beqT (by omega) ?_ | refine ite_beqF (by omega) ?_))
  | ((with_reducible show (if ((_ : Int) != _) = true then _ else _)); k_dflt (first | refine ite_bneT (by omega) ?_ | refine ite_bneF (by omega) ?_))))
        | (((with_reducible show wpAny _ _ (eval (Expr.Call (Expr.Name _ _) _ [] _) _) _ _ _); k_dflt (refine Call_ ?_)))
        | ((with_reducible show wpAny _ _ (compareOp CmpOp.In (Value.int _ _) (Value.ref _)) _ _ _); (k_here; (with_reducible show wpAny _ _ (compareOp CmpOp.In (Value.int 4 _) (Value.ref _)) _ _ _); k_dflt (first
  | (refine' in_name true (nameInt (by decide)) ?N ?m ?c ?d ?r ?u ?a ?_; (case N => k_asm); (case m => k_mem); (case c => exact rfl); (case d => exact rfl); (case r => repeat constructor); (case u => ktr_units); (case a => decide +kernel))
  | (refine' in_name false (nameInt (by decide)) ?N ?m ?c ?d ?r ?u ?a ?_; (case N => k_asm); (case m => k_mem); (case c => exact rfl); (case d => exact rfl); (case r => repeat constructor); (case u => ktr_units); (case a => decide +kernel)))))
        | ((k_here; (with_reducible show wpAny _ _ (compareOp CmpOp.In _ (Value.ref _)) _ _ _); k_dflt (first
  | (refine' in_name true ?V ?N ?m ?c ?d ?r ?u ?a ?_; (case V => with_reducible assumption); (case N => k_asm); (case m => k_mem); (case c => exact rfl); (case d => exact rfl); (case r => repeat constructor); (case u => ktr_units); (case a => decide +kernel))
  | (refine' in_name false ?V ?N ?m ?c ?d ?r ?u ?a ?_; (case V => with_reducible assumption); (case N => k_asm); (case m => k_mem); (case c => exact rfl); (case d => exact rfl); (case r => repeat constructor); (case u => ktr_units); (case a => decide +kernel)))))
        | ((with_reducible show wpAny _ _ (PySem.truthy _) _ _ _); (k_here; k_dflt (refine' truthy_name ?V ?_; (case V => with_reducible assumption)); intro tk9; (try dsimp only))))
      | walk1
      | (leave1; walk_say "STEP leave1"; try dsimp only)
      | fail "no step"))
  all_goals (refine endB hret ?_ (by k_asm) (by first | k_asm | exact lessN (by k_asm) (by first | exact (fun _ hp => .tail _ hp) | exact (fun _ hp => .tail _ (.tail _ hp)) | exact (fun _ hp => .tail _ (.tail _ (.tail _ hp))) | exact (fun _ hp => .tail _ (.tail _ (.tail _ (.tail _ hp)))) | exact (fun _ hp => .tail _ (.tail _ (.tail _ (.tail _ (.tail _ hp))))))))
  all_goals first | exact leap_a2 (by assumption) | exact leap_b2 (by assumption) (by assumption) (by assumption) | exact leap_c2 (by assumption) (by assumption) | exact leap_d2 (by assumption) (by assumption) | exact leap_e2 (by assumption) (by assumption)
abbrev PR : Program := PySem.Challenge.rw_jb0012_01.row.prog
/-- the locals' names, by number -/
abbrev NL : List Str := [Str.ofString "jd", Str.ofString "method", Str.ofString "J", Str.ofString "y0", Str.ofString "y1", Str.ofString "y2", Str.ofString "y3", Str.ofString "y4", Str.ofString "y5",
  Str.ofString "intercal_cycle_days", Str.ofString "leap_suppression_days", Str.ofString "over_cycle_days", Str.ofString "leap_suppression_yrs", Str.ofString "intercal_cycle_yrs", Str.ofString "over_cycle_yrs",
  Str.ofString "year", Str.ofString "month", Str.ofString "day", Str.ofString "yj", Str.ofString "mj", Str.ofString "wjd", Str.ofString "depoch", Str.ofString "quadricent", Str.ofString "dqc", Str.ofString "cent",
  Str.ofString "dcent", Str.ofString "quad", Str.ofString "dquad", Str.ofString "yindex", Str.ofString "yearday", Str.ofString "leap", Str.ofString "leap_adj", Str.ofString "script", Str.ofString "numbers", Str.ofString "way",
  Str.ofString "name", Str.ofString "past", Str.ofString "number", Str.ofString "other", Str.ofString "due", Str.ofString "daysinmonth", Str.ofString "kind", Str.ofString "one", Str.ofString "an", Str.ofString "mois", Str.ofString "jour"]
abbrev NN : Nat := 46
def NS (i : Nat) : Str := NL.getD i (Str.ofString "-")
theorem NS_inj : ∀ i, i < NN → ∀ j, j < NN → NS i = NS j → i = j := by decide +kernel
theorem NS_dbg : ∀ i, i < NN → (NS i == ("__debug__" : Str)) = false := by decide +kernel
/-- a value without its token -/
inductive V where
  | int (k : Int) | bool (b : Bool) | none | str (x : Str) | nm (ks : List PyData) | val (v : Value) | tup (x y z : Int) | ints (ns : List Int) | pr (k : Int) (x : Str)
def Den (news : List (Addr × Obj)) : V → Value → Prop
  | .int k, v => ∃ t, v = .int k t
  | .bool b, v => v = .bool b
  | .none, v => v = .none
  | .str x, v => ∃ t, v = .str x t
  | .nm ks, v => NameOf ks v
  | .val u, v => v = u
  | .tup x y z, v => ∃ D t1 t2 t3 c, v = .ref D ∧ (D, tup3 x y z t1 t2 t3 c) ∈ news
  | .ints ns, v => ∃ D ws n, v = .ref D ∧ (D, W.listOf (List.toArray ws) n) ∈ news ∧ IntsAre ws ns
  | .pr k x, v => ∃ D t u n, v = .ref D ∧ (D, W.listOf #[.int k t, .str x u] n) ∈ news
abbrev Sub (news news' : List (Addr × Obj)) : Prop := ∀ p ∈ news, p ∈ news'
theorem Sub.rfl {n : List (Addr × Obj)} : Sub n n := fun _ h => h
theorem Sub.trans {a b c : List (Addr × Obj)} (h : Sub a b) (h' : Sub b c) : Sub a c := fun p hp => h' p (h p hp)
theorem Den.mono {n n' : List (Addr × Obj)} (s : Sub n n') : ∀ {v : V} {y : Value}, Den n v y → Den n' v y
  | .int _, _, h => h | .bool _, _, h => h | .none, _, h => h | .str _, _, h => h | .nm _, _, h => h | .val _, _, h => h
  | .tup _ _ _, _, ⟨D, t1, t2, t3, c, e, hm⟩ => ⟨D, t1, t2, t3, c, e, s _ hm⟩
  | .ints _, _, ⟨D, ws, n, e, hm, hi⟩ => ⟨D, ws, n, e, s _ hm, hi⟩
  | .pr _ _, _, ⟨D, t, u, n, e, hm⟩ => ⟨D, t, u, n, e, s _ hm⟩
abbrev Ins : Type := List (Nat × V)
def lk (i : Nat) (I : Ins) : Option V := I.foldr (fun p r => bif Nat.beq i p.1 then some p.2 else r) none
theorem lk_cons {i : Nat} {p : Nat × V} {r : Ins} : lk i (p :: r) = bif Nat.beq i p.1 then some p.2 else lk i r := rfl
def Sim (I : Ins) (m : Str → Option Value) (news : List (Addr × Obj)) : Prop := ∀ i v, i < NN → lk i I = some v → ∃ y, m (NS i) = some y ∧ Den news v y
theorem Sim.nil {m : Str → Option Value} {news : List (Addr × Obj)} : Sim [] m news := fun _ _ _ h => nomatch h
theorem Sim.mono {I : Ins} {m : Str → Option Value} {n n' : List (Addr × Obj)} (S : Sim I m n) (s : Sub n n') : Sim I m n' := fun i v hi h => let ⟨y, a, b⟩ := S i v hi h; ⟨y, a, b.mono s⟩
theorem Sim.cons {I : Ins} {m : Str → Option Value} {news : List (Addr × Obj)} {i : Nat} {v : V} {y : Value} (S : Sim I m news) (hm : m (NS i) = some y) (d : Den news v y) : Sim ((i, v) :: I) m news := by
  intro j u hj h
  rw [lk_cons] at h
  cases e : Nat.beq j i with
  | true =>
    have := Nat.eq_of_beq_eq_true e
    subst this
    rw [e] at h
    exact ⟨y, hm, by cases h; exact d⟩
  | false => rw [e] at h; exact S j u hj h
theorem Sim.set {I : Ins} {m : Str → Option Value} {news : List (Addr × Obj)} {i : Nat} {v : V} {y : Value} (S : Sim I m news) (hi : i < NN) (d : Den news v y) : Sim ((i, v) :: I) (fun z => if z = NS i then some y else m z) news := by
  intro j u hj h
  rw [lk_cons] at h
  cases e : Nat.beq j i with
  | true =>
    have := Nat.eq_of_beq_eq_true e
    subst this
    rw [e] at h
    exact ⟨y, if_pos _root_.rfl, by cases h; exact d⟩
  | false =>
    rw [e] at h
    obtain ⟨z, a, b⟩ := S j u hj h
    exact ⟨z, by show (if NS j = NS i then _ else _) = _; rw [if_neg fun q => Nat.ne_of_beq_eq_false e (NS_inj j hj i hi q)]; exact a, b⟩
/-- a frame of a call -/
structure Cx where
  w : World
  mean : ExcName → Option Value
  mg : Str → Option Value
  mb : Str → Option Value
  dp : Nat
  un : Nat
  gd : Option (List Code)
  cn : Str
  cs : Scope
  a : Addr
  ccd : Value
  cl : List (Str × Addr)
  outer : List Env
  A₀ : Around
  base : Heap
  h₀ : Heap
  L : Addr
  n : Nat
abbrev Cx.A (c : Cx) : Around := ktrTop c.dp c.un c.gd c.cn c.cs c.L c.a c.ccd c.cl c.outer
abbrev Cx.env (c : Cx) : Env := envX c.cn c.cs c.L c.a c.ccd c.cl
structure Cx.Ok (c : Cx) : Prop where
  B : Below c.A₀ c.base c.outer c.h₀
  X : (FR.hd.heap_39 c.w.params).In c.h₀
  T : Top FR.hd.view_39 (looseW FR.hd.view_39 LS) c.mean c.mg c.mb c.h₀
  hk : c.cs.kind = .function
  hd : c.dp + c.n < recursionLimit
  hu : c.un + 40 * c.n + 37 < cLine
/-- what an expression's value is -/
structure Ev (c : Cx) (I : Ins) (e : Expr) (r : V) : Prop where
  run : c.Ok → ∀ (s : Shared) (m : Str → Option Value) (news : List (Addr × Obj)) (Q E : Value → Shared → Prop), Fr c.h₀ c.L s.heap m → News c.h₀ c.L s.heap news → Sim I m news →
    (∀ y h' tk' news', Den news' r y → Fr c.h₀ c.L h' m → News c.h₀ c.L h' news' → Sub news news' → Q y { s with heap := h', toks := tk' }) →
    wpAny (model PR c.w) c.A (eval e c.env) Q E s
/-- what a test comes to -/
structure Ts (c : Cx) (I : Ins) (e : Expr) (b : Bool) : Prop where
  run : c.Ok → ∀ (s : Shared) (m : Str → Option Value) (news : List (Addr × Obj)) (Q : Bool → Shared → Prop) (E : Value → Shared → Prop), Fr c.h₀ c.L s.heap m → News c.h₀ c.L s.heap news → Sim I m news →
    (∀ h' tk' news', Fr c.h₀ c.L h' m → News c.h₀ c.L h' news' → Sub news news' → Q b { s with heap := h', toks := tk' }) →
    wpAny (model PR c.w) c.A (isTrue e c.env (eval e c.env)) Q E s
/-- what a statement that goes on turns -/
structure Sx (c : Cx) (I : Ins) (st : Stmt) (I' : Ins) : Prop where
  run : c.Ok → ∀ (s : Shared) (m : Str → Option Value) (news : List (Addr × Obj)) (Q : Flow → Shared → Prop) (E : Value → Shared → Prop), Fr c.h₀ c.L s.heap m → News c.h₀ c.L s.heap news → Sim I m news →
    (∀ m' h' tk' news', Sim I' m' news' → Fr c.h₀ c.L h' m' → News c.h₀ c.L h' news' → Sub news news' → Q .next { s with heap := h', toks := tk' }) →
    wpAny (model PR c.w) c.A (exec st c.env) Q E s
/-- a block that goes on -/
structure Fl (c : Cx) (I : Ins) (b : List Stmt) (I' : Ins) : Prop where
  run : c.Ok → ∀ (s : Shared) (m : Str → Option Value) (news : List (Addr × Obj)) (Q : Flow → Shared → Prop) (E : Value → Shared → Prop), Fr c.h₀ c.L s.heap m → News c.h₀ c.L s.heap news → Sim I m news →
    (∀ m' h' tk' news', Sim I' m' news' → Fr c.h₀ c.L h' m' → News c.h₀ c.L h' news' → Sub news news' → Q .next { s with heap := h', toks := tk' }) →
    wpAny (model PR c.w) c.A (execs b c.env) Q E s
/-- a block that returns -/
structure Rt (c : Cx) (I : Ins) (b : List Stmt) (r : V) : Prop where
  run : c.Ok → ∀ (s : Shared) (m : Str → Option Value) (news : List (Addr × Obj)) (Q : Flow → Shared → Prop) (E : Value → Shared → Prop), Fr c.h₀ c.L s.heap m → News c.h₀ c.L s.heap news → Sim I m news →
    (∀ y m' h' tk' news', Den news' r y → Fr c.h₀ c.L h' m' → News c.h₀ c.L h' news' → Sub news news' → Q (.ret y) { s with heap := h', toks := tk' }) →
    wpAny (model PR c.w) c.A (execs b c.env) Q E s
section
variable {c : Cx} {I I' I'' : Ins} {e e₁ e₂ : Expr} {r v : V} {p p' p'' : Pos} {x y z : Int} {b b' : Bool} {st : Stmt} {rest body orelse : List Stmt}
theorem Rt.seq (h : Sx c I st I') (h' : Rt c I' rest r) : Rt c I (st :: rest) r := .mk <| fun ok s m news Q E F N S k =>
  wpAny_execs_cons (h.1 ok s m news _ E F N S fun m' h1 tk1 n1 S1 F1 N1 s1 => h'.1 ok _ m' n1 _ _ F1 N1 S1 fun y m2 h2 tk2 n2 d F2 N2 s2 => k y m2 h2 tk2 n2 d F2 N2 (s1.trans s2))
theorem Fl.seq (h : Sx c I st I') (h' : Fl c I' rest I'') : Fl c I (st :: rest) I'' := .mk <| fun ok s m news Q E F N S k =>
  wpAny_execs_cons (h.1 ok s m news _ E F N S fun m' h1 tk1 n1 S1 F1 N1 s1 => h'.1 ok _ m' n1 _ _ F1 N1 S1 fun m2 h2 tk2 n2 S2 F2 N2 s2 => k m2 h2 tk2 n2 S2 F2 N2 (s1.trans s2))
theorem Fl.nil : Fl c I [] I := .mk <| fun _ s m news Q E F N S k => wpAny_execs_nil (k m s.heap s.toks news S F N Sub.rfl)
theorem Rt.ret (h : Ev c I e r) : Rt c I (.Return (some e) p :: rest) r := .mk <| fun ok s m news Q E F N S k =>
  wpAny_execs_cons (wpAny_Return_some (h.1 ok s m news _ E F N S fun y h1 tk1 n1 d F1 N1 s1 => k y m h1 tk1 n1 d F1 N1 s1))
theorem Sx.ifT (h : Ts c I e true) (h' : Fl c I body I') : Sx c I (.If e body orelse p) I' := .mk <| fun ok s m news Q E F N S k =>
  wpAny_If (h.1 ok s m news _ E F N S fun h1 tk1 n1 F1 N1 s1 => h'.1 ok _ m n1 _ _ F1 N1 (S.mono s1) fun m2 h2 tk2 n2 S2 F2 N2 s2 => k m2 h2 tk2 n2 S2 F2 N2 (s1.trans s2))
theorem Sx.ifF (h : Ts c I e false) (h' : Fl c I orelse I') : Sx c I (.If e body orelse p) I' := .mk <| fun ok s m news Q E F N S k =>
  wpAny_If (h.1 ok s m news _ E F N S fun h1 tk1 n1 F1 N1 s1 => h'.1 ok _ m n1 _ _ F1 N1 (S.mono s1) fun m2 h2 tk2 n2 S2 F2 N2 s2 => k m2 h2 tk2 n2 S2 F2 N2 (s1.trans s2))
theorem Rt.ifT (h : Ts c I e true) (h' : Rt c I body r) : Rt c I (.If e body orelse p :: rest) r := .mk <| fun ok s m news Q E F N S k =>
  wpAny_execs_cons (wpAny_If (h.1 ok s m news _ E F N S fun h1 tk1 n1 F1 N1 s1 => h'.1 ok _ m n1 _ _ F1 N1 (S.mono s1) fun y m2 h2 tk2 n2 d F2 N2 s2 => k y m2 h2 tk2 n2 d F2 N2 (s1.trans s2)))
theorem Rt.ifF (h : Ts c I e false) (h' : Rt c I orelse r) : Rt c I (.If e body orelse p :: rest) r := .mk <| fun ok s m news Q E F N S k =>
  wpAny_execs_cons (wpAny_If (h.1 ok s m news _ E F N S fun h1 tk1 n1 F1 N1 s1 => h'.1 ok _ m n1 _ _ F1 N1 (S.mono s1) fun y m2 h2 tk2 n2 d F2 N2 s2 => k y m2 h2 tk2 n2 d F2 N2 (s1.trans s2)))
theorem Rt.eq (h : Rt c I body r) (q : r = v) : Rt c I body v := q ▸ h
theorem Ev.eq (h : Ev c I e r) (q : r = v) : Ev c I e v := q ▸ h
theorem Ts.eq (h : Ts c I e b) (q : b = b') : Ts c I e b' := q ▸ h
/-- names -/
structure Nm (c : Cx) (i : Nat) (x : Str) : Prop where
  hi : i < NN
  hx : NS i = x
  hk : c.env.kindOf (NS i) = some .local
theorem Ev.nm (i : Nat) {x : Str} (n : Nm c i x) (h : lk i I = some r) : Ev c I (.Name x p) r := .mk <| fun ok s m news Q E F N S k => by
  obtain ⟨y, a, d⟩ := S i r n.hi h
  rw [← n.hx]
  exact nameX_L F a (k y s.heap s.toks news d F N Sub.rfl) ok.hk n.hk (NS_dbg i n.hi)
theorem Sx.set (i : Nat) {x : Str} (n : Nm c i x) (h : Ev c I e v) (hs : ∀ env : Env, swapsWith e (some (.Name x p')) p.line env = pure false) : Sx c I (.Assign [.Name x p'] e p) ((i, v) :: I) := .mk <| fun ok s m news Q E F N S k => by
  have hx := n.hx
  subst hx
  exact wpAny_Assign_Name (h.1 ok s m news _ E F N S fun y h1 tk1 n1 d F1 N1 s1 => storeX_L F1 N1 (fun h2 F2 N2 => k _ h2 _ n1 ((S.mono s1).set n.hi d) F2 N2 s1) ok.hk n.hk) (hs _)
/-- a global name: a constant or a def -/
structure Gl (c : Cx) (x : Str) (v : V) : Prop where
  hk : c.env.kindOf x = some .globalImplicit
  hd : (x == ("__debug__" : Str)) = false
  hv : ∃ y, nsIn (FR.hd.heap_39 c.w.params) mainGlobals x = some (some y) ∧ Den [] v y
theorem Ev.gl {x : Str} (g : Gl c x v) : Ev c I (.Name x p) v := .mk <| fun ok s m news Q E F N S k => by
  obtain ⟨y, a, d⟩ := g.hv
  exact nameX_K F ok.X (topRead_of ok.T) a (k y s.heap s.toks news (d.mono fun _ h => absurd h (List.not_mem_nil)) F N Sub.rfl) ok.hk g.hk g.hd
theorem Ev.num {k : Nat} : Ev c I (.Constant (.int x) k p) (.int x) := .mk <| fun ok s m news Q E F N S k => wpAny_Constant_int (k _ _ _ news ⟨_, rfl⟩ F N Sub.rfl)
theorem Ev.text {k : Nat} {t : Str} : Ev c I (.Constant (.str t) k p) (.str t) := .mk <| fun ok s m news Q E F N S k => PySem.Calls.Constant_str (k _ _ _ news ⟨_, rfl⟩ F N Sub.rfl)
theorem Ev.none {k : Nat} : Ev c I (.Constant .none k p) .none := .mk <| fun ok s m news Q E F N S k => wpAny_Constant_none (k _ s.heap s.toks news rfl F N Sub.rfl)
theorem Ev.bin {op : Operator} (ha : Ev c I e₁ (.int x)) (hb : Ev c I e₂ (.int y))
    (hop : ∀ (A : Around) (E : Value → Shared → Prop) (s : Shared) (t u : Tok) (Q : Value → Shared → Prop), (∀ t' tk', Q (.int z t') { s with toks := tk' }) → wpAny (model PR c.w) A (binaryOp op (.int x t) (.int y u)) Q E s) :
    Ev c I (.BinOp e₁ op e₂ p) (.int z) := .mk <| fun ok s m news Q E F N S k =>
  wpAny_BinOp (ha.1 ok s m news _ E F N S fun _ h1 tk1 n1 ⟨t, e1⟩ F1 N1 s1 => by
    subst e1
    exact hb.1 ok _ m n1 _ E F1 N1 (S.mono s1) fun _ h2 tk2 n2 ⟨u, e2⟩ F2 N2 s2 => by
      subst e2
      exact hop _ _ _ _ _ _ fun t' tk' => k _ _ _ n2 ⟨t', rfl⟩ F2 N2 (s1.trans s2))
theorem Ev.add (ha : Ev c I e₁ (.int x)) (hb : Ev c I e₂ (.int y)) : Ev c I (.BinOp e₁ .Add e₂ p) (.int (x + y)) := Ev.bin ha hb fun _ _ _ _ _ _ k => PySem.P.add_int (k _ _)
theorem Ev.sub (ha : Ev c I e₁ (.int x)) (hb : Ev c I e₂ (.int y)) : Ev c I (.BinOp e₁ .Sub e₂ p) (.int (x - y)) := Ev.bin ha hb fun _ _ _ _ _ _ k => PySem.P.sub_int (k _ _)
theorem Ev.mulR (ha : Ev c I e₁ (.int x)) (hb : Ev c I e₂ (.int y)) (q : Builtin.Int.intBits y ≤ 64 := by decide) : Ev c I (.BinOp e₁ .Mult e₂ p) (.int (x * y)) := Ev.bin ha hb fun _ _ _ _ _ _ k => PySem.P.mul_int (k _ _) (IntMulOk.of_right q)
theorem Ev.mulL (ha : Ev c I e₁ (.int x)) (hb : Ev c I e₂ (.int y)) (q : Builtin.Int.intBits x ≤ 64 := by decide) : Ev c I (.BinOp e₁ .Mult e₂ p) (.int (x * y)) := Ev.bin ha hb fun _ _ _ _ _ _ k => PySem.P.mul_int (k _ _) (IntMulOk.of_left q)
theorem small_pos {y : Int} (q : (decide (0 < y) && decide (y < 1000000000)) = true) : 0 < y ∧ y < 1000000000 := by
  rw [Bool.and_eq_true, decide_eq_true_eq, decide_eq_true_eq] at q; exact q
theorem Ev.mod (ha : Ev c I e₁ (.int x)) (hb : Ev c I e₂ (.int y)) (q : (decide (0 < y) && decide (y < 1000000000)) = true := by decide) : Ev c I (.BinOp e₁ .Mod e₂ p) (.int (x % y)) := Ev.bin ha hb fun _ _ _ _ _ _ k => by
  have q := small_pos q
  refine PyProof.Rows.mod_int' (by omega) ?_
  rw [Int.fmod_eq_emod_of_nonneg _ (by omega)]
  exact k _ _
theorem Ev.div (ha : Ev c I e₁ (.int x)) (hb : Ev c I e₂ (.int y)) (q : (decide (0 < y) && decide (y < 1000000000)) = true := by decide) : Ev c I (.BinOp e₁ .FloorDiv e₂ p) (.int (x / y)) := Ev.bin ha hb fun _ _ _ _ _ _ k => by
  have q := small_pos q
  refine PyProof.Rows.floordiv_int (by omega) ?_ (Or.inl (PyProof.noPylong_small (by omega)))
  rw [Int.fdiv_eq_ediv_of_nonneg _ (by omega)]
  exact k _ _
/-- comparisons of ints -/
def CmpI : CmpOp → Int → Int → Option Bool
  | .Lt, x, y => some (decide (x < y))
  | .Gt, x, y => some (decide (y < x))
  | .LtE, x, y => some (decide (x ≤ y))
  | .Eq, x, y => some (x == y)
  | .NotEq, x, y => some (x != y)
  | _, _, _ => none
theorem cmpI {w : World} {A : Around} {E : Value → Shared → Prop} {s : Shared} {t u : Tok} {Q : Value → Shared → Prop} {op : CmpOp} (h : CmpI op x y = some b) (k : Q (.bool b) s) : wpAny (model PR w) A (compareOp op (.int x t) (.int y u)) Q E s := by
  cases op <;> first | cases h
  · exact PySem.P.eq_int k
  · exact PySem.P.ne_int k
  · exact PySem.P.lt_int k
  · exact PySem.P.le_int k
  · exact PySem.P.gt_int k
theorem Ts.cmp {op : CmpOp} (ha : Ev c I e₁ (.int x)) (hb : Ev c I e₂ (.int y)) (h : CmpI op x y = some b) (hm : behindInMarks op e₂ = false := by rfl) : Ts c I (.Compare e₁ [op] [e₂] p) b := .mk <| fun ok s m news Q E F N S k =>
  wpAny_isTrue_Compare1 (ha.1 ok s m news _ E F N S fun _ h1 tk1 n1 ⟨t, e1⟩ F1 N1 s1 => by
    subst e1
    exact hb.1 ok _ m n1 _ E F1 N1 (S.mono s1) fun _ h2 tk2 n2 ⟨u, e2⟩ F2 N2 s2 => by
      subst e2
      exact cmpI h (wpAny_truthy_bool (k _ _ n2 F2 N2 (s1.trans s2)))) hm
theorem Ts.plain (ha : Ev c I e v) (ht : ∀ (A : Around) (E : Value → Shared → Prop) (s : Shared) (Q : Bool → Shared → Prop) (y : Value) (n : List (Addr × Obj)), A.units + 37 < cLine → Den n v y → (∀ tk, Q b { s with toks := tk }) → wpAny (model PR c.w) A (truthy y) Q E s)
    (he : isTrue e c.env (eval e c.env) = (do let v ← eval e c.env; standAt e.pos; holding [v] (truthy v)) := by rfl) : Ts c I e b := .mk <| fun ok s m news Q E F N S k =>
  isTrue_plain (ha.1 ok s m news _ E F N S fun y h1 tk1 n1 d F1 N1 s1 => ht _ _ _ _ _ n1 (by have := ok.hu; show c.un + 37 < cLine; omega) d fun tk => k h1 tk n1 F1 N1 s1) he
theorem Ts.none (ha : Ev c I e .none) (he : isTrue e c.env (eval e c.env) = (do let v ← eval e c.env; standAt e.pos; holding [v] (truthy v)) := by rfl) : Ts c I e false := Ts.plain ha (fun _ _ s _ _ _ _ d k => by cases d; exact truthy_none (k s.toks)) he
theorem Ts.int (ha : Ev c I e (.int x)) (h : (x != 0) = b) (he : isTrue e c.env (eval e c.env) = (do let v ← eval e c.env; standAt e.pos; holding [v] (truthy v)) := by rfl) : Ts c I e b := Ts.plain ha (fun _ _ s _ _ _ _ ⟨_, d⟩ k => by subst d h; exact PySem.P.truthy_int (k s.toks)) he
theorem Ts.andF {vs : List Expr} (h : Ts c I e false) : Ts c I (.BoolOp .And (e :: vs) p) false := .mk <| fun ok s m news Q E F N S k => PyProof.Rows.isTrue_and (h.1 ok s m news _ E F N S fun h1 tk1 n1 F1 N1 s1 => k h1 tk1 n1 F1 N1 s1)
theorem isTrue_BoolOp_whole {op : BoolOp} {vs : List Expr} {env : Env} (a b : Sem Value) : isTrue (.BoolOp op vs p) env a = isTrue (.BoolOp op vs p) env b := rfl
theorem Ts.andT {vs : List Expr} (h : Ts c I e true) (h' : Ts c I (.BoolOp .And vs p) b) : Ts c I (.BoolOp .And (e :: vs) p) b := .mk <| fun ok s m news Q E F N S k => PyProof.Rows.isTrue_and (h.1 ok s m news _ E F N S fun h1 tk1 n1 F1 N1 s1 => by
  rw [isTrue_BoolOp_whole _ (eval (.BoolOp .And vs p) c.env)]
  exact h'.1 ok _ m n1 _ _ F1 N1 (S.mono s1) fun h2 tk2 n2 F2 N2 s2 => k h2 tk2 n2 F2 N2 (s1.trans s2))
theorem Ts.and0 : Ts c I (.BoolOp .And [] p) true := .mk <| fun _ s m news Q E F N S k => isTrue_and_nil (k s.heap s.toks news F N Sub.rfl)
theorem Ts.orT {vs : List Expr} (h : Ts c I e true) : Ts c I (.BoolOp .Or (e :: vs) p) true := .mk <| fun ok s m news Q E F N S k => PyProof.Rows.isTrue_or (h.1 ok s m news _ E F N S fun h1 tk1 n1 F1 N1 s1 => k h1 tk1 n1 F1 N1 s1)
theorem Ts.orF {vs : List Expr} (h : Ts c I e false) (h' : Ts c I (.BoolOp .Or vs p) b) : Ts c I (.BoolOp .Or (e :: vs) p) b := .mk <| fun ok s m news Q E F N S k => PyProof.Rows.isTrue_or (h.1 ok s m news _ E F N S fun h1 tk1 n1 F1 N1 s1 => by
  rw [isTrue_BoolOp_whole _ (eval (.BoolOp .Or vs p) c.env)]
  exact h'.1 ok _ m n1 _ _ F1 N1 (S.mono s1) fun h2 tk2 n2 F2 N2 s2 => k h2 tk2 n2 F2 N2 (s1.trans s2))
theorem Ts.or0 : Ts c I (.BoolOp .Or [] p) false := .mk <| fun _ s m news Q E F N S k => isTrue_or_nil (k s.heap s.toks news F N Sub.rfl)
theorem Ts.not (h : Ts c I e b) : Ts c I (.UnaryOp .Not e p) (!b) := .mk <| fun ok s m news Q E F N S k => PyProof.Rows.isTrue_not (h.1 ok s m news _ E F N S fun h1 tk1 n1 F1 N1 s1 => k h1 tk1 n1 F1 N1 s1)
/-- arguments -/
inductive DenL (n : List (Addr × Obj)) : List V → List Value → Prop
  | nil : DenL n [] []
  | cons {v : V} {y : Value} {vs : List V} {ys : List Value} : Den n v y → DenL n vs ys → DenL n (v :: vs) (y :: ys)
structure Evs (c : Cx) (I : Ins) (es : List Expr) (vs : List V) : Prop where
  run : c.Ok → ∀ (pos : Pos) (s : Shared) (m : Str → Option Value) (news : List (Addr × Obj)) (Q : List Value → Shared → Prop) (E : Value → Shared → Prop), Fr c.h₀ c.L s.heap m → News c.h₀ c.L s.heap news → Sim I m news →
    (∀ ys h' tk' news', DenL news' vs ys → Fr c.h₀ c.L h' m → News c.h₀ c.L h' news' → Sub news news' → Q ys { s with heap := h', toks := tk' }) →
    wpAny (model PR c.w) c.A (spliced (backTo pos (starEach es c.env))) Q E s
theorem Evs.nil : Evs c I [] [] := .mk <| fun _ _ s m news Q E F N S k => PyProof.Rows.args_nil (k [] s.heap s.toks news .nil F N Sub.rfl)
theorem Evs.cons {es : List Expr} {vs : List V} (h : Ev c I e v) (h' : Evs c I es vs) (he : ∀ env : Env, starEach (e :: es) env = (false, eval e env) :: starEach es env := by intro _; rfl) : Evs c I (e :: es) (v :: vs) := .mk <| fun ok pos s m news Q E F N S k =>
  PyProof.Rows.args_cons (h.1 ok s m news _ E F N S fun y h1 tk1 n1 d F1 N1 s1 => h'.1 ok pos _ m n1 _ _ F1 N1 (S.mono s1) fun ys h2 tk2 n2 ds F2 N2 s2 => k _ h2 tk2 n2 (.cons (d.mono s2) ds) F2 N2 (s1.trans s2)) (he _)
end
/-- what a call hands back -/
abbrev RetV (r : V) : Heap → Addr → (Str → Option Value) → List (Addr × Obj) → Shared → (Value → Shared → Prop) → (Value → Shared → Prop) → Prop := fun h₀ L m news s Q _ =>
  ∀ (y : Value) (h' : Heap) (tk' : Nat) (news' : List (Addr × Obj)), Den news' r y → Fr h₀ L h' m → News h₀ L h' news' → Sub news news' → Q y { s with heap := h', toks := tk' }
structure CallV (n : Nat) (w : World) (f : Addr) (vs : List V) (r : V) : Prop where
  run : ∀ n0 ys, DenL n0 vs ys → Call n w f ys [] (RetV r)
structure CallK (n : Nat) (w : World) (f : Addr) (vs : List V) (v r : V) : Prop where
  run : ∀ n0 ys y, DenL n0 vs ys → Den n0 v y → Call n w f ys [(Str.ofString "method", y)] (RetV r)
section
variable {c : Cx} {I I' I'' : Ins} {e e₁ e₂ e₃ fn : Expr} {es : List Expr} {vs : List V} {r v : V} {p p' p'' : Pos} {x y z : Int} {b b' : Bool} {f : Addr} {n : Nat}
theorem Ev.call (hf : Ev c I fn (.val (.ref f))) (ha : Evs c I (e :: es) vs) (C : CallV n c.w f vs r) (hn : n ≤ c.n) (hk : keepIn (FR.hd.heap_39 c.w.params) (.ref f) = true)
    (he : ∀ env : Env, starEach (e :: es) env = (false, eval e env) :: starEach es env := by intro _; rfl) (hp : ∀ env : Env, (backTo p (starEach es env)).any (·.1) = false := by intro _; rfl)
    (hc : ∀ env : Env, eval (.Call fn (e :: es) [] p) env = (do callWith p (← eval fn env) [] (backTo p (starEach (e :: es) env)) (backToKw p (keywordEach [] env))) := by intro _; rfl) : Ev c I (.Call fn (e :: es) [] p) r := .mk <| fun ok s m news Q E F N S k => by
  refine Call_ (hf.1 ok s m news _ E F N S fun y h1 tk1 n1 d F1 N1 s1 => ?_) (hc _)
  cases d
  refine callWith_K ok.X hk (ha.1 ok p _ m n1 _ _ F1 N1 (S.mono s1) fun ys h2 tk2 n2 ds F2 N2 s2 => ⟨ok.X.keeps F2.keep, ?_⟩) (he _) (hp _)
  have h1 := ok.hd
  have h2 := ok.hu
  exact use (C.1 n2 ys ds) (fun y h3 tk3 n3 d F3 N3 s3 => k y h3 tk3 n3 d F3 N3 (s1.trans (s2.trans s3))) ok.B F2 ok.X N2 ok.T ok.hk (by omega) (by omega)
/-- targets that are names -/
inductive Tg (c : Cx) : List Expr → List Nat → Prop
  | nil : Tg c [] []
  | cons {x : Str} {p : Pos} {i : Nat} {es : List Expr} {is : List Nat} : Nm c i x → Tg c es is → Tg c (.Name x p :: es) (i :: is)
def sets (is : List Nat) (vs : List V) (I : Ins) : Ins := (is.zip vs).foldl (fun J p => p :: J) I
theorem storeAll {es : List Expr} {is : List Nat} (T : Tg c es is) (ok : c.Ok) : ∀ {vs : List V} {ys : List Value} {I : Ins} {s : Shared} {m : Str → Option Value} {news : List (Addr × Obj)} {Q : Unit → Shared → Prop} {E : Value → Shared → Prop}, is.length = vs.length → DenL news vs ys → Fr c.h₀ c.L s.heap m → News c.h₀ c.L s.heap news → Sim I m news →
    (∀ m' h' tk', Sim (sets is vs I) m' news → Fr c.h₀ c.L h' m' → News c.h₀ c.L h' news → Q () { s with heap := h', toks := tk' }) →
    wpAny (model PR c.w) c.A (PySem.assignInOrder ((assignEach es c.env).map (·.2)) ys) Q E s := by
  induction T with
  | nil =>
    intro vs ys I s m news Q E hl D F N S k
    cases D with
    | nil => exact assignInOrder_nil (k m s.heap s.toks S F N)
    | cons _ _ => cases hl
  | @cons x p i es is n T ih =>
    intro vs ys I s m news Q E hl D F N S k
    cases D with
    | nil => cases hl
    | cons d D =>
      have hx := n.hx
      subst hx
      refine assignInOrder_cons ?_
      refine wpAny_assign_Name (storeX_L F N (fun h1 F1 N1 => ?_) ok.hk n.hk)
      exact ih (Nat.succ.inj hl) D F1 N1 (S.set n.hi d) fun m2 h2 tk2 S2 F2 N2 => k m2 h2 tk2 S2 F2 N2
theorem Tg.len {es : List Expr} {is : List Nat} (T : Tg c es is) (env : Env) : (assignEach es env).length = is.length ∧ (assignEach es env).findIdx? (·.1) = Option.none := by
  induction T with
  | nil => exact ⟨rfl, rfl⟩
  | @cons x p i es is n T ih => exact ⟨congrArg (· + 1) ih.1, by
      show List.findIdx? _ ((false, _) :: assignEach es env) = Option.none
      rw [List.findIdx?_cons, ih.2]; rfl⟩
theorem DenL.len {n : List (Addr × Obj)} {vs : List V} {ys : List Value} (D : DenL n vs ys) : vs.length = ys.length := by
  induction D with
  | nil => rfl
  | cons _ _ ih => exact congrArg (· + 1) ih
theorem DenL.mono {n n' : List (Addr × Obj)} (s : Sub n n') {vs : List V} {ys : List Value} (D : DenL n vs ys) : DenL n' vs ys := by
  induction D with
  | nil => exact .nil
  | cons d _ ih => exact .cons (d.mono s) ih
theorem DenL.inv {n : List (Addr × Obj)} {v : V} {vs : List V} {ys : List Value} (h : DenL n (v :: vs) ys) : ∃ y r, ys = y :: r ∧ Den n v y ∧ DenL n vs r := by
  cases h with | cons a b => exact ⟨_, _, rfl, a, b⟩
theorem DenL.inv0 {n : List (Addr × Obj)} {ys : List Value} (h : DenL n [] ys) : ys = [] := by cases h; rfl
/-- a tuple display, unpacked -/
theorem Sx.unpack {ts : List Expr} {is : List Nat} {k k' : Nat} {tp vp : Pos} (T : Tg c ts is) (ha : Evs c I es vs) (hl : is.length = vs.length) (hz : vs.length ≤ sizeLine)
    (hs : ∀ env : Env, swapsWithSole [.Tuple ts k tp] (.Tuple es k' vp) p.line env = pure false) (hw : ∀ env : Env, swappedStores [.Tuple ts k tp] (.Tuple es k' vp) env = pure Option.none) :
    Sx c I (.Assign [.Tuple ts k tp] (.Tuple es k' vp) p) (sets is vs I) := .mk <| fun ok s m news Q E F N S K => by
  refine Assign_Tuple (Tuple_ (ha.1 ok vp s m news _ E F N S fun ys h1 tk1 n1 ds F1 N1 s1 => ?_)) (hs _) (hw _)
  refine kup_newTuple F1 N1 (fun D h2 F2 N2 _ => ?_) (by rw [← ds.len]; exact hz)
  have ds2 := ds.mono (n' := (D, { cls := .type "tuple", data := .seq ys.toArray }) :: n1) fun _ h => .tail _ h
  refine unpackN_ F2 N2 (News.isTup N2 (.head _)) rfl ((T.len _).1.trans (hl.trans (by rw [List.size_toArray]; exact ds.len))) (T.len _).2 fun h3 F3 N3 => ?_
  exact storeAll T ok hl ds2 F3 N3 (S.mono (s1.trans fun _ h => .tail _ h)) fun m4 h4 tk4 S4 F4 N4 => K m4 h4 tk4 _ S4 F4 N4 (s1.trans fun _ h => .tail _ h)
theorem swap_folded {ts es : List Expr} {k k' : Nat} {tp vp : Pos} {env : Env} (h : es.all (foldedForSure 8) = true) : swappedStores [.Tuple ts k tp] (.Tuple es k' vp) env = pure Option.none := by
  unfold swappedStores
  dsimp only
  repeat' split
  all_goals first | rfl | contradiction
/-- a made 3-tuple, unpacked -/
theorem Sx.unpack3 {ts : List Expr} {is : List Nat} {k : Nat} {tp : Pos} (T : Tg c ts is) (ha : Ev c I e (.tup x y z)) (hl : is.length = 3)
    (hs : ∀ env : Env, swapsWithSole [.Tuple ts k tp] e p.line env = pure false) (hw : ∀ env : Env, swappedStores [.Tuple ts k tp] e env = pure Option.none) :
    Sx c I (.Assign [.Tuple ts k tp] e p) (sets is [.int x, .int y, .int z] I) := .mk <| fun ok s m news Q E F N S K => by
  refine Assign_Tuple (ha.1 ok s m news _ E F N S fun v h1 tk1 n1 d F1 N1 s1 => ?_) (hs _) (hw _)
  obtain ⟨D, t1, t2, t3, cc, e1, hm⟩ := d
  subst e1
  refine unpackN_ F1 N1 (News.isTup N1 hm) rfl ((T.len _).1.trans hl) (T.len _).2 fun h3 F3 N3 => ?_
  exact storeAll (vs := [.int x, .int y, .int z]) T ok hl (.cons ⟨t1, rfl⟩ (.cons ⟨t2, rfl⟩ (.cons ⟨t3, rfl⟩ .nil))) F3 N3 (S.mono s1) fun m4 h4 tk4 S4 F4 N4 => K m4 h4 tk4 _ S4 F4 N4 s1
/-- a = b = c = e -/
theorem Sx.three {i1 i2 i3 : Nat} {x1 x2 x3 : Str} {p1 p2 p3 : Pos} (n1 : Nm c i1 x1) (n2 : Nm c i2 x2) (n3 : Nm c i3 x3) (h : Ev c I e v)
    (hw : ∀ env : Env, swappedStores [.Name x1 p1, .Name x2 p2, .Name x3 p3] e env = pure Option.none) : Sx c I (.Assign [.Name x1 p1, .Name x2 p2, .Name x3 p3] e p) ((i3, v) :: (i2, v) :: (i1, v) :: I) := .mk <| fun ok s m news Q E F N S K => by
  have h1 := n1.hx
  have h2 := n2.hx
  have h3 := n3.hx
  subst h1 h2 h3
  exact wpAny_Assign_three (h.1 ok s m news _ E F N S fun y h1 tk1 m1 d F1 N1 s1 =>
    wpAny_assign_Name (storeX_L F1 N1 (fun h2 F2 N2 => wpAny_assign_Name (storeX_L F2 N2 (fun h3 F3 N3 => wpAny_assign_Name (storeX_L F3 N3 (fun h4 F4 N4 => K _ h4 _ m1 (Sim.set (Sim.set (Sim.set (S.mono s1) n1.hi d) n2.hi d) n3.hi d) F4 N4 s1) ok.hk n3.hk)) ok.hk n2.hk)) ok.hk n1.hk)) rfl (hw _)
/-- a tuple of three ints, made -/
theorem Ev.tup3 {k : Nat} (ha : Evs c I es [.int x, .int y, .int z]) : Ev c I (.Tuple es k p) (.tup x y z) := .mk <| fun ok s m news Q E F N S K =>
  Tuple_ (ha.1 ok p s m news _ E F N S fun ys h1 tk1 n1 ds F1 N1 s1 => by
    cases ds with
    | cons d1 ds =>
      cases ds with
      | cons d2 ds =>
        cases ds with
        | cons d3 ds =>
          cases ds
          obtain ⟨t1, rfl⟩ := d1
          obtain ⟨t2, rfl⟩ := d2
          obtain ⟨t3, rfl⟩ := d3
          exact kup_newTuple F1 N1 (fun D h2 F2 N2 _ => K _ h2 _ _ ⟨D, t1, t2, t3, _, rfl, .head _⟩ F2 N2 (s1.trans fun _ h => .tail _ h)) (by show 3 ≤ sizeLine; decide))
/-- written ints and texts -/
inductive Lits : List Expr → List PyData → Prop
  | nil : Lits [] []
  | int {k : Int} {j : Nat} {p : Pos} {es : List Expr} {xs : List PyData} : Lits es xs → Lits (.Constant (.int k) j p :: es) (.int k :: xs)
  | str {x : Str} {j : Nat} {p : Pos} {es : List Expr} {xs : List PyData} : Lits es xs → Lits (.Constant (.str x) j p :: es) (.str x :: xs)
theorem lits_go {xs : List PyData} (Li : Lits es xs) {A : Around} {env : Env} : ∀ {pos : Pos} {s : Shared} {Q : List Value → Shared → Prop} {E : Value → Shared → Prop}, (∀ ys tk', (∀ h, ReadsAll h ys xs []) → Q ys { s with toks := tk' }) → wpAny (model PR c.w) A (spliced (backTo pos (starEach es env))) Q E s := by
  induction Li with
  | nil => intro pos s Q E k; exact PyProof.Rows.args_nil (k [] s.toks fun h => .nil)
  | int _ ih => intro pos s Q E k; exact PyProof.Rows.args_cons (wpAny_Constant_int (ih fun ys tk R => k _ tk fun h => .cons (Reads.int _ _) (R h))) rfl
  | str _ ih => intro pos s Q E k; exact PyProof.Rows.args_cons (PySem.Calls.Constant_str (ih fun ys tk R => k _ tk fun h => .cons (Reads.str _ _) (R h))) rfl
theorem Lits.len {xs : List PyData} (Li : Lits es xs) : es.length = xs.length := by
  induction Li with
  | nil => rfl
  | int _ ih => exact congrArg (· + 1) ih
  | str _ ih => exact congrArg (· + 1) ih
theorem readsAll_len {h : Heap} {ys : List Value} {xs : List PyData} {as : List Addr} (R : ReadsAll h ys xs as) : ys.length = xs.length := by
  induction ys generalizing xs as with
  | nil => cases R; rfl
  | cons y ys ih => cases R with | cons _ R => exact congrArg (· + 1) (ih R)
/-- a name in a written tuple -/
theorem Ts.inNm {ks xs : List PyData} {j : Nat} (b : Bool) (ha : Ev c I e (.nm ks)) (Li : Lits es xs)
    (hall : (decide (xs.length ≤ 100) && (PyData.canLayAll0 xs && ks.all fun d => d.canLay0 && decide (d.depth ≤ 5) && ((xs.any fun y => PyData.eqv y d) == b))) = true)
    (hm : behindInMarks .In (.Tuple es j p') = false) : Ts c I (.Compare e [.In] [.Tuple es j p'] p) b := .mk <| fun ok s m news Q E F N S K => by
  rw [Bool.and_eq_true, decide_eq_true_eq] at hall
  refine wpAny_isTrue_Compare1 (ha.1 ok s m news _ E F N S fun v h1 tk1 n1 d F1 N1 s1 => ?_) hm
  refine Tuple_ (lits_go Li fun ys tk R => ?_)
  refine kup_newTuple F1 N1 (fun D h2 F2 N2 _ => ?_) (by rw [readsAll_len (R h1)]; show xs.length ≤ 2 ^ 24; have := hall.1; omega)
  have h3 := ok.hu
  exact in_name b d N2 (.head _) rfl rfl (R h2) (by show c.un + 20 < cLine; omega) hall.2 (wpAny_truthy_bool (K h2 _ _ F2 N2 (s1.trans fun _ h => .tail _ h)))
/-- an int in a written tuple -/
theorem Ts.inInt {xs : List PyData} {j : Nat} (b : Bool) (ha : Ev c I e (.int x)) (Li : Lits es xs) (hl : (decide (xs.length ≤ 100) && PyData.canLayAll0 xs) = true) (hb : (xs.any fun y => PyData.eqv y (.int x)) = b)
    (hm : behindInMarks .In (.Tuple es j p') = false) : Ts c I (.Compare e [.In] [.Tuple es j p'] p) b := .mk <| fun ok s m news Q E F N S K => by
  rw [Bool.and_eq_true, decide_eq_true_eq] at hl
  refine wpAny_isTrue_Compare1 (ha.1 ok s m news _ E F N S fun v h1 tk1 n1 ⟨t, d⟩ F1 N1 s1 => ?_) hm
  subst d
  refine Tuple_ (lits_go Li fun ys tk R => ?_)
  refine kup_newTuple F1 N1 (fun D h2 F2 N2 _ => ?_) (by rw [readsAll_len (R h1)]; show xs.length ≤ 2 ^ 24; have := hl.1; omega)
  have h3 := ok.hu
  refine SeqAt.in_tuple_reads (Reads.tuple (N2.get (.head _)) rfl rfl (R h2)) (Reads.int _ _) hl.2 rfl (by show c.un + 1 + min _ 0 < cLine; omega) ?_
  rw [hb]
  exact wpAny_truthy_bool (K h2 _ _ F2 N2 (s1.trans fun _ h => .tail _ h))
theorem Ts.andAny {vs : List Expr} (h : Ts c I e b) (h' : Ts c I (.BoolOp .And vs p) false) : Ts c I (.BoolOp .And (e :: vs) p) false := by
  cases b
  · exact Ts.andF h
  · exact Ts.andT h h'
theorem Ev.neg (ha : Ev c I e (.int x)) : Ev c I (.UnaryOp .USub e p) (.int (-x)) := .mk <| fun ok s m news Q E F N S K =>
  PyProof.Rows.UnaryOp_ (ha.1 ok s m news _ E F N S fun _ h1 tk1 n1 ⟨t, e1⟩ F1 N1 s1 => by
    subst e1
    exact PySem.P.neg_int (K _ _ _ n1 ⟨_, rfl⟩ F1 N1 s1))
theorem Ev.bool {k : Nat} : Ev c I (.Constant (.bool b) k p) (.bool b) := .mk <| fun ok s m news Q E F N S k => wpAny_Constant_bool (k _ s.heap s.toks news rfl F N Sub.rfl)
theorem Ev.ifT (h : Ts c I e true) (h' : Ev c I e₁ v) : Ev c I (.IfExp e e₁ e₂ p) v := .mk <| fun ok s m news Q E F N S K =>
  PyProof.Rows.IfExp_ (h.1 ok s m news _ E F N S fun h1 tk1 n1 F1 N1 s1 => h'.1 ok _ m n1 _ _ F1 N1 (S.mono s1) fun y h2 tk2 n2 d F2 N2 s2 => K y h2 tk2 n2 d F2 N2 (s1.trans s2))
theorem Ev.ifF (h : Ts c I e false) (h' : Ev c I e₂ v) : Ev c I (.IfExp e e₁ e₂ p) v := .mk <| fun ok s m news Q E F N S K =>
  PyProof.Rows.IfExp_ (h.1 ok s m news _ E F N S fun h1 tk1 n1 F1 N1 s1 => h'.1 ok _ m n1 _ _ F1 N1 (S.mono s1) fun y h2 tk2 n2 d F2 N2 s2 => K y h2 tk2 n2 d F2 N2 (s1.trans s2))
/-- x or .. -/
theorem Ev.orNm {ks : List PyData} (ha : Ev c I e (.nm ks)) : Ev c I (.BoolOp .Or (e :: e₂ :: es) p) (.nm ks) := .mk <| fun ok s m news Q E F N S K =>
  PyProof.Rows.BoolOp_or (ha.1 ok s m news _ E F N S fun v h1 tk1 n1 d F1 N1 s1 => truthy_name d fun tk => K v h1 tk n1 d F1 N1 s1)
theorem Ev.callKw {nm : Str} {np kp : Pos} (hf : Ev c I (.Name nm np) (.val (.ref f))) (ha : Evs c I (e :: es) vs) (hv : Ev c I e₂ v) (C : CallK n c.w f vs v r) (hn : n ≤ c.n) (hk : keepIn (FR.hd.heap_39 c.w.params) (.ref f) = true)
    (he : ∀ env : Env, starEach (e :: es) env = (false, eval e env) :: starEach es env := by intro _; rfl) (hp : ∀ env : Env, (backTo p (starEach es env)).any (·.1) = false := by intro _; rfl) :
    Ev c I (.Call (.Name nm np) (e :: es) [⟨some (Str.ofString "method"), e₂, kp⟩] p) r := .mk <| fun ok s m news Q E F N S k => by
  refine wpAny_Call_Name_kw (hf.1 ok s m news _ E F N S fun y h1 tk1 n1 d F1 N1 s1 => ?_)
  cases d
  refine callWith_KW ok.X hk rfl (ha.1 ok p _ m n1 _ _ F1 N1 (S.mono s1) fun ys h2 tk2 n2 ds F2 N2 s2 => ?_) (by rw [he]; show ((false || (backTo p (starEach es _)).any (·.1)) || _) = false; rw [hp]; rfl) (he _)
  refine kwAll_cons (hv.1 ok _ m n2 _ _ F2 N2 (S.mono (s1.trans s2)) fun y h3 tk3 n3 d F3 N3 s3 => kwAll_nil ⟨ok.X.keeps F3.keep, ?_⟩)
  have h1 := ok.hd
  have h2 := ok.hu
  exact use (C.1 n3 ys y (ds.mono s3) d) (fun y h4 tk4 n4 d F4 N4 s4 => k y h4 tk4 n4 d F4 N4 (s1.trans (s2.trans (s3.trans s4)))) ok.B F3 ok.X N3 ok.T ok.hk (by omega) (by omega)
end
/-- the binds of a call -/
inductive Par (news : List (Addr × Obj)) : Ins → List (Str × Value) → Prop
  | nil : Par news [] []
  | cons {i : Nat} {v : V} {y : Value} {x : Str} {I : Ins} {B : List (Str × Value)} : i < NN → NS i = x → Den news v y → Par news I B → Par news ((i, v) :: I) ((x, y) :: B)
theorem Par.sim {news : List (Addr × Obj)} {I : Ins} {B : List (Str × Value)} (P : Par news I B) : Sim I (fun y => B.lookup y) news := by
  induction P with
  | nil => exact Sim.nil
  | @cons i v y x I B hi hx d _ ih =>
    intro j u hj h
    rw [lk_cons] at h
    subst hx
    cases e : Nat.beq j i with
    | true =>
      have := Nat.eq_of_beq_eq_true e
      subst this
      rw [e] at h
      exact ⟨y, by show List.lookup _ _ = _; rw [List.lookup_cons, beq_self_eq_true], by cases h; exact d⟩
    | false =>
      rw [e] at h
      obtain ⟨z, a, b⟩ := ih j u hj h
      refine ⟨z, ?_, b⟩
      show List.lookup _ _ = _
      rw [List.lookup_cons, beq_eq_false_iff_ne.mpr fun q => Nat.ne_of_beq_eq_false e (NS_inj j hj i hi q)]
      exact a
/-- into a def -/
theorem enter {w : World} {n : Nat} {f : Addr} {name qual : Str} {params : Arguments} {body : List Stmt} {scope : Scope} {dV kV doc pm cdv ct oc : Value} {an od : Option Addr} {osl : Array (Option Value)} {ys : List Value} {kw binds : List (Str × Value)} {I₀ : Ins} {r : V}
    (ho : (FR.hd.heap_39 w.params).lookup f = some ⟨oc, od, .func (fnOf name qual params body scope dV kV doc pm an cdv ct), osl⟩) (hcd : codeIn (FR.hd.heap_39 w.params) cdv qual = true)
    (hbind : ∀ s : Shared, (FR.hd.heap_39 w.params).In s.heap → BindsTo s (fnOf name qual params body scope dV kV doc pm an cdv ct) ⟨ys, kw⟩ binds) (hloc : ∀ y ∈ binds, scope.names.lookup y.1 = some .local)
    (hpar : Par [] I₀ binds.reverse)
    (hb : ∀ c : Cx, c.w = w → c.cs = scope → n = c.n + 1 → Rt c I₀ body r)
    (hco : scope.isCoroutine = false := by rfl) (hgen : scope.isGenerator = false := by rfl) (hk : scope.kind = .function := by rfl) (hcell : ∀ x ∈ scope.names, x.2 ≠ .cell := by decide) (hn : n ≠ 0 := by decide) : Call n w f ys kw (RetV r) := by
  unfold Call
  intro mean mg mb dp un gd cn cs a ccd cl outer A₀ base h₀ L m news s Q E B F X N T hks hd hu hret
  refine wpAny_call ?_
  refine code_def B F X N T rfl rfl hks ho hcd (by show dp < recursionLimit; omega) (hbind s (X.keeps F.keep)) hloc (fun g L' h1 FG F' N' B' X' T' => ?_) hco hgen hk hcell
  refine (hb ⟨w, mean, mg, mb, dp + 1, un + 3, gd, qual, scope, f, cdv, [], envX cn cs L a ccd cl :: outer, ktrTop dp un gd cn cs L a ccd cl outer, base, g, L', n - 1⟩ rfl rfl (by show n = n - 1 + 1; omega)).1
    ⟨B', X', T', hk, by show dp + 1 + (n - 1) < recursionLimit; omega, by show un + 3 + 40 * (n - 1) + 37 < cLine; omega⟩ _ _ news _ _ F' N' ?_ fun y m' h' tk' news' d F2 N2 s2 => ?_
  · exact (hpar.sim).mono fun _ h => absurd h List.not_mem_nil
  · exact leaveK_ F2 N2 fun F3 N3 => hret y h' tk' news' d F3 N3 s2
def Loc (c : Cx) (l : List Nat) : Prop := ∀ i, l.contains i = true → c.env.kindOf (NS i) = some .local
theorem Loc.of {c : Cx} {sc : Scope} {l : List Nat} (hc : c.cs = sc) (h : (l.all fun i => sc.names.lookup (NS i) == some .local) = true) : Loc c l := by
  subst hc
  exact fun i hi => eq_of_beq (List.all_eq_true.mp h i (List.elem_iff.mp hi))
theorem Loc.nm {c : Cx} {l : List Nat} (L : Loc c l) {i : Nat} {x : Str} (h : (l.contains i && decide (i < NN)) = true) (hx : NS i = x) : Nm c i x := by
  rw [Bool.and_eq_true, decide_eq_true_eq] at h
  exact ⟨h.2, hx, L i h.1⟩
def GV (w : World) (x : Str) (v : V) : Prop := ∃ y, nsIn (FR.hd.heap_39 w.params) mainGlobals x = some (some y) ∧ Den [] v y
theorem GV.gl {c : Cx} {sc : Scope} {w : World} {x : Str} {v : V} (g : GV w x v) (hw : c.w = w) (hc : c.cs = sc) (h : (sc.names.lookup x == some .globalImplicit && !(x == ("__debug__" : Str))) = true) : Gl c x v := by
  subst hw hc
  rw [Bool.and_eq_true, Bool.not_eq_true'] at h
  exact ⟨eq_of_beq h.1, h.2, g⟩
section
variable {x y : Int}
theorem cLtT (h : x < y) : CmpI .Lt x y = some true := congrArg some (decide_eq_true h)
theorem cLtF (h : ¬ x < y) : CmpI .Lt x y = some false := congrArg some (decide_eq_false h)
theorem cGtT (h : y < x) : CmpI .Gt x y = some true := congrArg some (decide_eq_true h)
theorem cGtF (h : ¬ y < x) : CmpI .Gt x y = some false := congrArg some (decide_eq_false h)
theorem cLtET (h : x ≤ y) : CmpI .LtE x y = some true := congrArg some (decide_eq_true h)
theorem cLtEF (h : ¬ x ≤ y) : CmpI .LtE x y = some false := congrArg some (decide_eq_false h)
theorem cEqT (h : x = y) : CmpI .Eq x y = some true := congrArg some (beq_iff_eq.mpr h)
theorem cEqF (h : x ≠ y) : CmpI .Eq x y = some false := congrArg some (beq_eq_false_iff_ne.mpr h)
theorem cNotEqT (h : x ≠ y) : CmpI .NotEq x y = some true := congrArg some (bne_iff_ne.mpr h)
theorem cNotEqF (h : x = y) : CmpI .NotEq x y = some false := by subst h; exact congrArg some (bne_self_eq_false x)
theorem neT (h : x ≠ 0) : (x != 0) = true := bne_iff_ne.mpr h
theorem neF (h : x = 0) : (x != 0) = false := by subst h; rfl
end
theorem g_all (w : World) : PySem.Challenge.rw_jb0012_01 = PySem.Challenge.rw_jb0012_01 → GV w (Str.ofString "EPOCH_gregorian") (.int 1721426) ∧ GV w (Str.ofString "INTERCALATION_CYCLE_YEARS") (.int 400) ∧ GV w (Str.ofString "INTERCALATION_CYCLE_DAYS") (.int 146097) ∧ GV w (Str.ofString "LEAP_SUPPRESSION_YEARS") (.int 100) ∧ GV w (Str.ofString "LEAP_SUPPRESSION_DAYS") (.int 36524) ∧ GV w (Str.ofString "LEAP_CYCLE_YEARS_gregorian") (.int 4) ∧ GV w (Str.ofString "LEAP_CYCLE_DAYS_gregorian") (.int 1461) ∧ GV w (Str.ofString "YEAR_DAYS") (.int 365) ∧ GV w (Str.ofString "EPOCH_french_republican") (.int 2375840) ∧ GV w (Str.ofString "DAYS_IN_YEAR") (.int 365) ∧ GV w (Str.ofString "LEAP_CYCLE_DAYS_french_republican") (.int 1461) ∧ GV w (Str.ofString "LEAP_CYCLE_YEARS_french_republican") (.int 4) ∧ GV w (Str.ofString "isleap") (.val (.ref 21)) ∧ GV w (Str.ofString "trunc") (.val (.ref 28)) ∧ GV w (Str.ofString "legal_date") (.val (.ref 36)) ∧ GV w (Str.ofString "to_jd_gregorian") (.val (.ref 43)) ∧ GV w (Str.ofString "from_jd_gregorian") (.val (.ref 50)) ∧ GV w (Str.ofString "leap") (.val (.ref 58)) ∧ GV w (Str.ofString "to_jd_french_republican") (.val (.ref 66)) ∧ GV w (Str.ofString "_to_jd_schematic") (.val (.ref 73)) ∧ GV w (Str.ofString "from_jd_french_republican") (.val (.ref 81)) ∧ GV w (Str.ofString "_from_jd_schematic") (.val (.ref 88)) ∧ GV w (Str.ofString "from_gregorian") (.val (.ref 96)) ∧ GV w (Str.ofString "to_gregorian") (.val (.ref 104)) ∧ GV w (Str.ofString "_law_long") (.val (.ref 111)) ∧ GV w (Str.ofString "_law_first") (.val (.ref 116)) ∧ GV w (Str.ofString "_law_asked") (.val (.ref 123)) := by
  unfold GV
  k_fill
  intro _
  refine ⟨⟨_, by k_is, _, rfl⟩, ⟨_, by k_is, _, rfl⟩, ⟨_, by k_is, _, rfl⟩, ⟨_, by k_is, _, rfl⟩, ⟨_, by k_is, _, rfl⟩, ⟨_, by k_is, _, rfl⟩, ⟨_, by k_is, _, rfl⟩, ⟨_, by k_is, _, rfl⟩, ⟨_, by k_is, _, rfl⟩, ⟨_, by k_is, _, rfl⟩, ⟨_, by k_is, _, rfl⟩, ⟨_, by k_is, _, rfl⟩, ⟨_, by k_is, rfl⟩, ⟨_, by k_is, rfl⟩, ⟨_, by k_is, rfl⟩, ⟨_, by k_is, rfl⟩, ⟨_, by k_is, rfl⟩, ⟨_, by k_is, rfl⟩, ⟨_, by k_is, rfl⟩, ⟨_, by k_is, rfl⟩, ⟨_, by k_is, rfl⟩, ⟨_, by k_is, rfl⟩, ⟨_, by k_is, rfl⟩, ⟨_, by k_is, rfl⟩, ⟨_, by k_is, rfl⟩, ⟨_, by k_is, rfl⟩, ⟨_, by k_is, rfl⟩⟩
theorem k_all (w : World) : PySem.Challenge.rw_jb0012_01 = PySem.Challenge.rw_jb0012_01 → keepIn (FR.hd.heap_39 w.params) (.ref 21) = true ∧ keepIn (FR.hd.heap_39 w.params) (.ref 28) = true ∧ keepIn (FR.hd.heap_39 w.params) (.ref 36) = true ∧ keepIn (FR.hd.heap_39 w.params) (.ref 43) = true ∧ keepIn (FR.hd.heap_39 w.params) (.ref 50) = true ∧ keepIn (FR.hd.heap_39 w.params) (.ref 58) = true ∧ keepIn (FR.hd.heap_39 w.params) (.ref 66) = true ∧ keepIn (FR.hd.heap_39 w.params) (.ref 73) = true ∧ keepIn (FR.hd.heap_39 w.params) (.ref 81) = true ∧ keepIn (FR.hd.heap_39 w.params) (.ref 88) = true ∧ keepIn (FR.hd.heap_39 w.params) (.ref 96) = true ∧ keepIn (FR.hd.heap_39 w.params) (.ref 104) = true ∧ keepIn (FR.hd.heap_39 w.params) (.ref 111) = true ∧ keepIn (FR.hd.heap_39 w.params) (.ref 116) = true ∧ keepIn (FR.hd.heap_39 w.params) (.ref 123) = true := by
  k_fill
  intro _
  exact ⟨by k_is, by k_is, by k_is, by k_is, by k_is, by k_is, by k_is, by k_is, by k_is, by k_is, by k_is, by k_is, by k_is, by k_is, by k_is⟩
theorem g_EPOCH_gregorian (w : World) : GV w (Str.ofString "EPOCH_gregorian") (.int 1721426) := (g_all w rfl).1
theorem g_INTERCALATION_CYCLE_YEARS (w : World) : GV w (Str.ofString "INTERCALATION_CYCLE_YEARS") (.int 400) := (g_all w rfl).2.1
theorem g_INTERCALATION_CYCLE_DAYS (w : World) : GV w (Str.ofString "INTERCALATION_CYCLE_DAYS") (.int 146097) := (g_all w rfl).2.2.1
theorem g_LEAP_SUPPRESSION_YEARS (w : World) : GV w (Str.ofString "LEAP_SUPPRESSION_YEARS") (.int 100) := (g_all w rfl).2.2.2.1
theorem g_LEAP_SUPPRESSION_DAYS (w : World) : GV w (Str.ofString "LEAP_SUPPRESSION_DAYS") (.int 36524) := (g_all w rfl).2.2.2.2.1
theorem g_LEAP_CYCLE_YEARS_gregorian (w : World) : GV w (Str.ofString "LEAP_CYCLE_YEARS_gregorian") (.int 4) := (g_all w rfl).2.2.2.2.2.1
theorem g_LEAP_CYCLE_DAYS_gregorian (w : World) : GV w (Str.ofString "LEAP_CYCLE_DAYS_gregorian") (.int 1461) := (g_all w rfl).2.2.2.2.2.2.1
theorem g_YEAR_DAYS (w : World) : GV w (Str.ofString "YEAR_DAYS") (.int 365) := (g_all w rfl).2.2.2.2.2.2.2.1
theorem g_EPOCH_french_republican (w : World) : GV w (Str.ofString "EPOCH_french_republican") (.int 2375840) := (g_all w rfl).2.2.2.2.2.2.2.2.1
theorem g_DAYS_IN_YEAR (w : World) : GV w (Str.ofString "DAYS_IN_YEAR") (.int 365) := (g_all w rfl).2.2.2.2.2.2.2.2.2.1
theorem g_LEAP_CYCLE_DAYS_french_republican (w : World) : GV w (Str.ofString "LEAP_CYCLE_DAYS_french_republican") (.int 1461) := (g_all w rfl).2.2.2.2.2.2.2.2.2.2.1
theorem g_LEAP_CYCLE_YEARS_french_republican (w : World) : GV w (Str.ofString "LEAP_CYCLE_YEARS_french_republican") (.int 4) := (g_all w rfl).2.2.2.2.2.2.2.2.2.2.2.1
theorem g_isleap (w : World) : GV w (Str.ofString "isleap") (.val (.ref 21)) := (g_all w rfl).2.2.2.2.2.2.2.2.2.2.2.2.1
theorem g_trunc (w : World) : GV w (Str.ofString "trunc") (.val (.ref 28)) := (g_all w rfl).2.2.2.2.2.2.2.2.2.2.2.2.2.1
theorem g_legal_date (w : World) : GV w (Str.ofString "legal_date") (.val (.ref 36)) := (g_all w rfl).2.2.2.2.2.2.2.2.2.2.2.2.2.2.1
theorem g_to_jd_gregorian (w : World) : GV w (Str.ofString "to_jd_gregorian") (.val (.ref 43)) := (g_all w rfl).2.2.2.2.2.2.2.2.2.2.2.2.2.2.2.1
theorem g_from_jd_gregorian (w : World) : GV w (Str.ofString "from_jd_gregorian") (.val (.ref 50)) := (g_all w rfl).2.2.2.2.2.2.2.2.2.2.2.2.2.2.2.2.1
theorem g_leap (w : World) : GV w (Str.ofString "leap") (.val (.ref 58)) := (g_all w rfl).2.2.2.2.2.2.2.2.2.2.2.2.2.2.2.2.2.1
theorem g_to_jd_french_republican (w : World) : GV w (Str.ofString "to_jd_french_republican") (.val (.ref 66)) := (g_all w rfl).2.2.2.2.2.2.2.2.2.2.2.2.2.2.2.2.2.2.1
theorem g_to_jd_schematic (w : World) : GV w (Str.ofString "_to_jd_schematic") (.val (.ref 73)) := (g_all w rfl).2.2.2.2.2.2.2.2.2.2.2.2.2.2.2.2.2.2.2.1
theorem g_from_jd_french_republican (w : World) : GV w (Str.ofString "from_jd_french_republican") (.val (.ref 81)) := (g_all w rfl).2.2.2.2.2.2.2.2.2.2.2.2.2.2.2.2.2.2.2.2.1
theorem g_from_jd_schematic (w : World) : GV w (Str.ofString "_from_jd_schematic") (.val (.ref 88)) := (g_all w rfl).2.2.2.2.2.2.2.2.2.2.2.2.2.2.2.2.2.2.2.2.2.1
theorem g_from_gregorian (w : World) : GV w (Str.ofString "from_gregorian") (.val (.ref 96)) := (g_all w rfl).2.2.2.2.2.2.2.2.2.2.2.2.2.2.2.2.2.2.2.2.2.2.1
theorem g_to_gregorian (w : World) : GV w (Str.ofString "to_gregorian") (.val (.ref 104)) := (g_all w rfl).2.2.2.2.2.2.2.2.2.2.2.2.2.2.2.2.2.2.2.2.2.2.2.1
theorem g_law_long (w : World) : GV w (Str.ofString "_law_long") (.val (.ref 111)) := (g_all w rfl).2.2.2.2.2.2.2.2.2.2.2.2.2.2.2.2.2.2.2.2.2.2.2.2.1
theorem g_law_first (w : World) : GV w (Str.ofString "_law_first") (.val (.ref 116)) := (g_all w rfl).2.2.2.2.2.2.2.2.2.2.2.2.2.2.2.2.2.2.2.2.2.2.2.2.2.1
theorem g_law_asked (w : World) : GV w (Str.ofString "_law_asked") (.val (.ref 123)) := (g_all w rfl).2.2.2.2.2.2.2.2.2.2.2.2.2.2.2.2.2.2.2.2.2.2.2.2.2.2
theorem k_isleap (w : World) : keepIn (FR.hd.heap_39 w.params) (.ref 21) = true := (k_all w rfl).1
theorem k_trunc (w : World) : keepIn (FR.hd.heap_39 w.params) (.ref 28) = true := (k_all w rfl).2.1
theorem k_legal_date (w : World) : keepIn (FR.hd.heap_39 w.params) (.ref 36) = true := (k_all w rfl).2.2.1
theorem k_to_jd_gregorian (w : World) : keepIn (FR.hd.heap_39 w.params) (.ref 43) = true := (k_all w rfl).2.2.2.1
theorem k_from_jd_gregorian (w : World) : keepIn (FR.hd.heap_39 w.params) (.ref 50) = true := (k_all w rfl).2.2.2.2.1
theorem k_leap (w : World) : keepIn (FR.hd.heap_39 w.params) (.ref 58) = true := (k_all w rfl).2.2.2.2.2.1
theorem k_to_jd_french_republican (w : World) : keepIn (FR.hd.heap_39 w.params) (.ref 66) = true := (k_all w rfl).2.2.2.2.2.2.1
theorem k_to_jd_schematic (w : World) : keepIn (FR.hd.heap_39 w.params) (.ref 73) = true := (k_all w rfl).2.2.2.2.2.2.2.1
theorem k_from_jd_french_republican (w : World) : keepIn (FR.hd.heap_39 w.params) (.ref 81) = true := (k_all w rfl).2.2.2.2.2.2.2.2.1
theorem k_from_jd_schematic (w : World) : keepIn (FR.hd.heap_39 w.params) (.ref 88) = true := (k_all w rfl).2.2.2.2.2.2.2.2.2.1
theorem k_from_gregorian (w : World) : keepIn (FR.hd.heap_39 w.params) (.ref 96) = true := (k_all w rfl).2.2.2.2.2.2.2.2.2.2.1
theorem k_to_gregorian (w : World) : keepIn (FR.hd.heap_39 w.params) (.ref 104) = true := (k_all w rfl).2.2.2.2.2.2.2.2.2.2.2.1
theorem k_law_long (w : World) : keepIn (FR.hd.heap_39 w.params) (.ref 111) = true := (k_all w rfl).2.2.2.2.2.2.2.2.2.2.2.2.1
theorem k_law_first (w : World) : keepIn (FR.hd.heap_39 w.params) (.ref 116) = true := (k_all w rfl).2.2.2.2.2.2.2.2.2.2.2.2.2.1
theorem k_law_asked (w : World) : keepIn (FR.hd.heap_39 w.params) (.ref 123) = true := (k_all w rfl).2.2.2.2.2.2.2.2.2.2.2.2.2.2
theorem Call.toI {n : Nat} {w : World} {f : Addr} {vs : List Value} {kw : List (Str × Value)} {x : Int} (C : Call n w f vs kw (RetI x)) : Call n w f vs kw (RetV (.int x)) :=
  fun mean mg mb dp un gd cn cs a ccd cl outer A₀ base h₀ L m news s Q E B F X N T hk hd hu hret => C mean mg mb dp un gd cn cs a ccd cl outer A₀ base h₀ L m news s Q E B F X N T hk hd hu fun t h' tk' F' N' => hret _ h' tk' news ⟨t, rfl⟩ F' N' Sub.rfl
theorem Call.toB {n : Nat} {w : World} {f : Addr} {vs : List Value} {kw : List (Str × Value)} {x : Bool} (C : Call n w f vs kw (RetB x)) : Call n w f vs kw (RetV (.bool x)) :=
  fun mean mg mb dp un gd cn cs a ccd cl outer A₀ base h₀ L m news s Q E B F X N T hk hd hu hret => C mean mg mb dp un gd cn cs a ccd cl outer A₀ base h₀ L m news s Q E B F X N T hk hd hu fun h' tk' F' N' => hret _ h' tk' news rfl F' N' Sub.rfl
theorem v_trunc (w : World) (a b : Int) (ha : 0 ≤ a) (hb : 0 < b) (hb' : b < 1000000000) : CallV 1 w 28 [.int a, .int b] (.int (a / b)) := by
  refine ⟨fun n0 ys hy => ?_⟩
  rcases hy with _ | ⟨d0, hy⟩
  obtain ⟨t0, rfl⟩ := d0
  rcases hy with _ | ⟨d1, hy⟩
  obtain ⟨t1, rfl⟩ := d1
  cases hy
  exact (c_trunc w a b t0 t1 ha hb hb').toI
theorem tupE {a b c x y z : Int} (h1 : a = x) (h2 : b = y) (h3 : c = z) : V.tup a b c = V.tup x y z := by subst h1 h2 h3; rfl
theorem v_sfromL0 (w : World) (j : Int) (hj : 2375840 ≤ j) : CallV 3 w 88 [.int j, .nm names0] (.tup (Y0 j) (M0 j) (D0 j)) := by
  refine ⟨?_⟩
  unfold Call
  k_fill
  intro n0 ys hy0
  obtain ⟨y0, r0, rfl, d0, hy1⟩ := hy0.inv
  obtain ⟨t0, rfl⟩ := d0
  obtain ⟨y1, r1, rfl, d1, hy2⟩ := hy1.inv
  obtain rfl := hy2.inv0
  refine enter (I₀ := [(1, .nm names0), (0, .int j)]) (binds := [(Str.ofString "jd", .int _ t0), (Str.ofString "method", y1)]) (by k_is) (by k_is) (fun s X => BindsTo.of_eq rfl) (locs rfl) (.cons (by decide) rfl d1 (.cons (by decide) rfl ⟨t0, rfl⟩ .nil)) fun c hw hc hn => ?_
  subst hw
  have L9 : Loc c [0, 1, 2, 3, 4, 5, 6, 7, 8, 9, 10, 11, 15, 16] := Loc.of hc (by decide +kernel)
  have G_DAYS_IN_YEAR := (g_DAYS_IN_YEAR c.w).gl rfl hc (by decide +kernel)
  have G_EPOCH_french_republican := (g_EPOCH_french_republican c.w).gl rfl hc (by decide +kernel)
  have G_LEAP_CYCLE_DAYS_french_republican := (g_LEAP_CYCLE_DAYS_french_republican c.w).gl rfl hc (by decide +kernel)
  have G_LEAP_CYCLE_YEARS_french_republican := (g_LEAP_CYCLE_YEARS_french_republican c.w).gl rfl hc (by decide +kernel)
  have G_trunc := (g_trunc c.w).gl rfl hc (by decide +kernel)
  refine Rt.seq (Sx.ifF (Ts.cmp (Ev.nm 0 (L9.nm (i := 0) rfl rfl) rfl) (Ev.gl G_EPOCH_french_republican) (cLtF (by omega))) Fl.nil) ?_
  refine Rt.seq (Sx.set 2 (L9.nm (i := 2) rfl rfl) (Ev.eq (v := .int (j - 2375840)) (Ev.sub (Ev.nm 0 (L9.nm (i := 0) rfl rfl) rfl) (Ev.gl G_EPOCH_french_republican)) (congrArg V.int (by omega))) (fun _ => rfl)) ?_
  refine Rt.seq (Sx.unpack (Tg.cons (L9.nm (i := 3) rfl rfl) (Tg.cons (L9.nm (i := 4) rfl rfl) (Tg.cons (L9.nm (i := 5) rfl rfl) (Tg.cons (L9.nm (i := 6) rfl rfl) (Tg.cons (L9.nm (i := 7) rfl rfl) (Tg.cons (L9.nm (i := 8) rfl rfl) Tg.nil)))))) (Evs.cons Ev.num (Evs.cons Ev.num (Evs.cons Ev.num (Evs.cons Ev.num (Evs.cons Ev.num (Evs.cons Ev.num Evs.nil)))))) rfl (by decide) (fun _ => rfl) (fun _ => rfl)) ?_
  refine Rt.seq (Sx.three (L9.nm (i := 9) rfl rfl) (L9.nm (i := 10) rfl rfl) (L9.nm (i := 11) rfl rfl) Ev.none (fun _ => rfl)) ?_
  refine Rt.seq (Sx.ifF (Ts.orF (Ts.andAny (Ts.cmp (Ev.nm 2 (L9.nm (i := 2) rfl rfl) rfl) (Ev.add (Ev.mulR (Ev.gl G_DAYS_IN_YEAR) Ev.num) Ev.num) rfl) (Ts.andF (Ts.inNm false (Ev.nm 1 (L9.nm (i := 1) rfl rfl) rfl) (Lits.int (Lits.str Lits.nil)) (by decide +kernel) rfl))) (Ts.orF (Ts.andAny (Ts.cmp (Ev.nm 2 (L9.nm (i := 2) rfl rfl) rfl) (Ev.add (Ev.mulR (Ev.gl G_DAYS_IN_YEAR) Ev.num) Ev.num) rfl) (Ts.andF (Ts.inNm false (Ev.nm 1 (L9.nm (i := 1) rfl rfl) rfl) (Lits.int (Lits.str Lits.nil)) (by decide +kernel) rfl))) Ts.or0)) Fl.nil) ?_
  refine Rt.seq (Sx.ifT (Ts.inNm true (Ev.nm 1 (L9.nm (i := 1) rfl rfl) rfl) (Lits.int (Lits.str Lits.nil)) (by decide +kernel) rfl) (Fl.seq (Sx.set 2 (L9.nm (i := 2) rfl rfl) (Ev.eq (v := .int (j - 2375475)) (Ev.add (Ev.nm 2 (L9.nm (i := 2) rfl rfl) rfl) Ev.num) (congrArg V.int (by omega))) (fun _ => rfl)) (Fl.seq (Sx.set 8 (L9.nm (i := 8) rfl rfl) (Ev.neg Ev.num) (fun _ => rfl)) Fl.nil))) ?_
  refine Rt.seq (Sx.ifF (Ts.none (Ev.nm 10 (L9.nm (i := 10) rfl rfl) rfl)) Fl.nil) ?_
  refine Rt.seq (Sx.set 6 (L9.nm (i := 6) rfl rfl) (Ev.mulR (Ev.call (Ev.gl G_trunc) (Evs.cons (Ev.nm 2 (L9.nm (i := 2) rfl rfl) rfl) (Evs.cons (Ev.gl G_LEAP_CYCLE_DAYS_french_republican) Evs.nil)) (v_trunc _ _ _ (by omega) (by decide) (by decide)) (by omega) (k_trunc _)) (Ev.gl G_LEAP_CYCLE_YEARS_french_republican)) (fun _ => rfl)) ?_
  by_cases q : (j - 2375475) % 1461 = 1460
  · refine Rt.seq (Sx.ifT (Ts.cmp (Ev.mod (Ev.nm 2 (L9.nm (i := 2) rfl rfl) rfl) (Ev.gl G_LEAP_CYCLE_DAYS_french_republican)) (Ev.sub (Ev.gl G_LEAP_CYCLE_DAYS_french_republican) Ev.num) (cEqT (by omega))) (Fl.seq (Sx.set 2 (L9.nm (i := 2) rfl rfl) Ev.num (fun _ => rfl)) Fl.nil)) ?_
    refine Rt.seq (Sx.set 7 (L9.nm (i := 7) rfl rfl) (Ev.call (Ev.gl G_trunc) (Evs.cons (Ev.nm 2 (L9.nm (i := 2) rfl rfl) rfl) (Evs.cons (Ev.gl G_DAYS_IN_YEAR) Evs.nil)) (v_trunc _ _ _ (by omega) (by decide) (by decide)) (by omega) (k_trunc _)) (fun _ => rfl)) ?_
    refine Rt.seq (Sx.ifT (Ts.cmp (Ev.nm 2 (L9.nm (i := 2) rfl rfl) rfl) (Ev.mulR (Ev.gl G_DAYS_IN_YEAR) Ev.num) (cEqT (by omega))) (Fl.seq (Sx.set 7 (L9.nm (i := 7) rfl rfl) (Ev.sub (Ev.nm 7 (L9.nm (i := 7) rfl rfl) rfl) Ev.num) (fun _ => rfl)) (Fl.seq (Sx.set 2 (L9.nm (i := 2) rfl rfl) Ev.num (fun _ => rfl)) Fl.nil))) ?_
    refine Rt.seq (Sx.set 15 (L9.nm (i := 15) rfl rfl) (Ev.add (Ev.add (Ev.add (Ev.add (Ev.add (Ev.nm 3 (L9.nm (i := 3) rfl rfl) rfl) (Ev.nm 4 (L9.nm (i := 4) rfl rfl) rfl)) (Ev.nm 5 (L9.nm (i := 5) rfl rfl) rfl)) (Ev.nm 6 (L9.nm (i := 6) rfl rfl) rfl)) (Ev.nm 7 (L9.nm (i := 7) rfl rfl) rfl)) (Ev.nm 8 (L9.nm (i := 8) rfl rfl) rfl)) (fun _ => rfl)) ?_
    refine Rt.seq (Sx.set 16 (L9.nm (i := 16) rfl rfl) (Ev.call (Ev.gl G_trunc) (Evs.cons (Ev.nm 2 (L9.nm (i := 2) rfl rfl) rfl) (Evs.cons Ev.num Evs.nil)) (v_trunc _ _ _ (by omega) (by decide) (by decide)) (by omega) (k_trunc _)) (fun _ => rfl)) ?_
    refine Rt.seq (Sx.set 2 (L9.nm (i := 2) rfl rfl) (Ev.sub (Ev.nm 2 (L9.nm (i := 2) rfl rfl) rfl) (Ev.mulR (Ev.nm 16 (L9.nm (i := 16) rfl rfl) rfl) Ev.num)) (fun _ => rfl)) ?_
    refine Rt.eq (Rt.ret (Ev.tup3 (Evs.cons (Ev.add (Ev.nm 15 (L9.nm (i := 15) rfl rfl) rfl) Ev.num) (Evs.cons (Ev.add (Ev.nm 16 (L9.nm (i := 16) rfl rfl) rfl) Ev.num) (Evs.cons (Ev.add (Ev.nm 2 (L9.nm (i := 2) rfl rfl) rfl) Ev.num) Evs.nil))))) ?_
    exact tupE (by rw [Y0, yrF, if_pos q]; omega) (by rw [M0, ddF, if_pos q]) (by rw [D0, ddF, if_pos q]; omega)
  · refine Rt.seq (Sx.ifF (Ts.cmp (Ev.mod (Ev.nm 2 (L9.nm (i := 2) rfl rfl) rfl) (Ev.gl G_LEAP_CYCLE_DAYS_french_republican)) (Ev.sub (Ev.gl G_LEAP_CYCLE_DAYS_french_republican) Ev.num) (cEqF (by omega))) (Fl.seq (Sx.set 2 (L9.nm (i := 2) rfl rfl) (Ev.mod (Ev.nm 2 (L9.nm (i := 2) rfl rfl) rfl) (Ev.gl G_LEAP_CYCLE_DAYS_french_republican)) (fun _ => rfl)) Fl.nil)) ?_
    refine Rt.seq (Sx.set 7 (L9.nm (i := 7) rfl rfl) (Ev.call (Ev.gl G_trunc) (Evs.cons (Ev.nm 2 (L9.nm (i := 2) rfl rfl) rfl) (Evs.cons (Ev.gl G_DAYS_IN_YEAR) Evs.nil)) (v_trunc _ _ _ (by omega) (by decide) (by decide)) (by omega) (k_trunc _)) (fun _ => rfl)) ?_
    refine Rt.seq (Sx.ifF (Ts.cmp (Ev.nm 2 (L9.nm (i := 2) rfl rfl) rfl) (Ev.mulR (Ev.gl G_DAYS_IN_YEAR) Ev.num) (cEqF (by omega))) (Fl.seq (Sx.set 2 (L9.nm (i := 2) rfl rfl) (Ev.mod (Ev.nm 2 (L9.nm (i := 2) rfl rfl) rfl) (Ev.gl G_DAYS_IN_YEAR)) (fun _ => rfl)) Fl.nil)) ?_
    refine Rt.seq (Sx.set 15 (L9.nm (i := 15) rfl rfl) (Ev.add (Ev.add (Ev.add (Ev.add (Ev.add (Ev.nm 3 (L9.nm (i := 3) rfl rfl) rfl) (Ev.nm 4 (L9.nm (i := 4) rfl rfl) rfl)) (Ev.nm 5 (L9.nm (i := 5) rfl rfl) rfl)) (Ev.nm 6 (L9.nm (i := 6) rfl rfl) rfl)) (Ev.nm 7 (L9.nm (i := 7) rfl rfl) rfl)) (Ev.nm 8 (L9.nm (i := 8) rfl rfl) rfl)) (fun _ => rfl)) ?_
    refine Rt.seq (Sx.set 16 (L9.nm (i := 16) rfl rfl) (Ev.call (Ev.gl G_trunc) (Evs.cons (Ev.nm 2 (L9.nm (i := 2) rfl rfl) rfl) (Evs.cons Ev.num Evs.nil)) (v_trunc _ _ _ (by omega) (by decide) (by decide)) (by omega) (k_trunc _)) (fun _ => rfl)) ?_
    refine Rt.seq (Sx.set 2 (L9.nm (i := 2) rfl rfl) (Ev.sub (Ev.nm 2 (L9.nm (i := 2) rfl rfl) rfl) (Ev.mulR (Ev.nm 16 (L9.nm (i := 16) rfl rfl) rfl) Ev.num)) (fun _ => rfl)) ?_
    refine Rt.eq (Rt.ret (Ev.tup3 (Evs.cons (Ev.add (Ev.nm 15 (L9.nm (i := 15) rfl rfl) rfl) Ev.num) (Evs.cons (Ev.add (Ev.nm 16 (L9.nm (i := 16) rfl rfl) rfl) Ev.num) (Evs.cons (Ev.add (Ev.nm 2 (L9.nm (i := 2) rfl rfl) rfl) Ev.num) Evs.nil))))) ?_
    exact tupE (by rw [Y0, yrF, if_neg q]; omega) (by rw [M0, ddF, if_neg q]) (by rw [D0, ddF, if_neg q]; omega)
theorem v_sfromL1 (w : World) (j : Int) (hj : 2375840 ≤ j) (hj2 : j ≤ 2380223) : CallV 3 w 88 [.int j, .nm names1] (.tup (Y0 j) (M0 j) (D0 j)) := by
  refine ⟨?_⟩
  unfold Call
  k_fill
  intro n0 ys hy0
  obtain ⟨y0, r0, rfl, d0, hy1⟩ := hy0.inv
  obtain ⟨t0, rfl⟩ := d0
  obtain ⟨y1, r1, rfl, d1, hy2⟩ := hy1.inv
  obtain rfl := hy2.inv0
  refine enter (I₀ := [(1, .nm names1), (0, .int j)]) (binds := [(Str.ofString "jd", .int _ t0), (Str.ofString "method", y1)]) (by k_is) (by k_is) (fun s X => BindsTo.of_eq rfl) (locs rfl) (.cons (by decide) rfl d1 (.cons (by decide) rfl ⟨t0, rfl⟩ .nil)) fun c hw hc hn => ?_
  subst hw
  have L9 : Loc c [0, 1, 2, 3, 4, 5, 6, 7, 8, 9, 10, 11, 15, 16] := Loc.of hc (by decide +kernel)
  have G_DAYS_IN_YEAR := (g_DAYS_IN_YEAR c.w).gl rfl hc (by decide +kernel)
  have G_EPOCH_french_republican := (g_EPOCH_french_republican c.w).gl rfl hc (by decide +kernel)
  have G_LEAP_CYCLE_DAYS_french_republican := (g_LEAP_CYCLE_DAYS_french_republican c.w).gl rfl hc (by decide +kernel)
  have G_LEAP_CYCLE_YEARS_french_republican := (g_LEAP_CYCLE_YEARS_french_republican c.w).gl rfl hc (by decide +kernel)
  have G_trunc := (g_trunc c.w).gl rfl hc (by decide +kernel)
  refine Rt.seq (Sx.ifF (Ts.cmp (Ev.nm 0 (L9.nm (i := 0) rfl rfl) rfl) (Ev.gl G_EPOCH_french_republican) (cLtF (by omega))) Fl.nil) ?_
  refine Rt.seq (Sx.set 2 (L9.nm (i := 2) rfl rfl) (Ev.eq (v := .int (j - 2375840)) (Ev.sub (Ev.nm 0 (L9.nm (i := 0) rfl rfl) rfl) (Ev.gl G_EPOCH_french_republican)) (congrArg V.int (by omega))) (fun _ => rfl)) ?_
  refine Rt.seq (Sx.unpack (Tg.cons (L9.nm (i := 3) rfl rfl) (Tg.cons (L9.nm (i := 4) rfl rfl) (Tg.cons (L9.nm (i := 5) rfl rfl) (Tg.cons (L9.nm (i := 6) rfl rfl) (Tg.cons (L9.nm (i := 7) rfl rfl) (Tg.cons (L9.nm (i := 8) rfl rfl) Tg.nil)))))) (Evs.cons Ev.num (Evs.cons Ev.num (Evs.cons Ev.num (Evs.cons Ev.num (Evs.cons Ev.num (Evs.cons Ev.num Evs.nil)))))) rfl (by decide) (fun _ => rfl) (fun _ => rfl)) ?_
  refine Rt.seq (Sx.three (L9.nm (i := 9) rfl rfl) (L9.nm (i := 10) rfl rfl) (L9.nm (i := 11) rfl rfl) Ev.none (fun _ => rfl)) ?_
  refine Rt.seq (Sx.ifT (Ts.orT (Ts.andT (Ts.cmp (Ev.nm 2 (L9.nm (i := 2) rfl rfl) rfl) (Ev.add (Ev.mulR (Ev.gl G_DAYS_IN_YEAR) Ev.num) Ev.num) (cLtET (by omega))) (Ts.andT (Ts.inNm true (Ev.nm 1 (L9.nm (i := 1) rfl rfl) rfl) (Lits.int (Lits.str Lits.nil)) (by decide +kernel) rfl) Ts.and0))) (Fl.seq (Sx.set 1 (L9.nm (i := 1) rfl rfl) Ev.num (fun _ => rfl)) Fl.nil)) ?_
  refine Rt.seq (Sx.ifT (Ts.inInt true (Ev.nm 1 (L9.nm (i := 1) rfl rfl) rfl) (Lits.int (Lits.str Lits.nil)) (by decide +kernel) (by decide +kernel) rfl) (Fl.seq (Sx.set 2 (L9.nm (i := 2) rfl rfl) (Ev.eq (v := .int (j - 2375475)) (Ev.add (Ev.nm 2 (L9.nm (i := 2) rfl rfl) rfl) Ev.num) (congrArg V.int (by omega))) (fun _ => rfl)) (Fl.seq (Sx.set 8 (L9.nm (i := 8) rfl rfl) (Ev.neg Ev.num) (fun _ => rfl)) Fl.nil))) ?_
  refine Rt.seq (Sx.ifF (Ts.none (Ev.nm 10 (L9.nm (i := 10) rfl rfl) rfl)) Fl.nil) ?_
  refine Rt.seq (Sx.set 6 (L9.nm (i := 6) rfl rfl) (Ev.mulR (Ev.call (Ev.gl G_trunc) (Evs.cons (Ev.nm 2 (L9.nm (i := 2) rfl rfl) rfl) (Evs.cons (Ev.gl G_LEAP_CYCLE_DAYS_french_republican) Evs.nil)) (v_trunc _ _ _ (by omega) (by decide) (by decide)) (by omega) (k_trunc _)) (Ev.gl G_LEAP_CYCLE_YEARS_french_republican)) (fun _ => rfl)) ?_
  by_cases q : (j - 2375475) % 1461 = 1460
  · refine Rt.seq (Sx.ifT (Ts.cmp (Ev.mod (Ev.nm 2 (L9.nm (i := 2) rfl rfl) rfl) (Ev.gl G_LEAP_CYCLE_DAYS_french_republican)) (Ev.sub (Ev.gl G_LEAP_CYCLE_DAYS_french_republican) Ev.num) (cEqT (by omega))) (Fl.seq (Sx.set 2 (L9.nm (i := 2) rfl rfl) Ev.num (fun _ => rfl)) Fl.nil)) ?_
    refine Rt.seq (Sx.set 7 (L9.nm (i := 7) rfl rfl) (Ev.call (Ev.gl G_trunc) (Evs.cons (Ev.nm 2 (L9.nm (i := 2) rfl rfl) rfl) (Evs.cons (Ev.gl G_DAYS_IN_YEAR) Evs.nil)) (v_trunc _ _ _ (by omega) (by decide) (by decide)) (by omega) (k_trunc _)) (fun _ => rfl)) ?_
    refine Rt.seq (Sx.ifT (Ts.cmp (Ev.nm 2 (L9.nm (i := 2) rfl rfl) rfl) (Ev.mulR (Ev.gl G_DAYS_IN_YEAR) Ev.num) (cEqT (by omega))) (Fl.seq (Sx.set 7 (L9.nm (i := 7) rfl rfl) (Ev.sub (Ev.nm 7 (L9.nm (i := 7) rfl rfl) rfl) Ev.num) (fun _ => rfl)) (Fl.seq (Sx.set 2 (L9.nm (i := 2) rfl rfl) Ev.num (fun _ => rfl)) Fl.nil))) ?_
    refine Rt.seq (Sx.set 15 (L9.nm (i := 15) rfl rfl) (Ev.add (Ev.add (Ev.add (Ev.add (Ev.add (Ev.nm 3 (L9.nm (i := 3) rfl rfl) rfl) (Ev.nm 4 (L9.nm (i := 4) rfl rfl) rfl)) (Ev.nm 5 (L9.nm (i := 5) rfl rfl) rfl)) (Ev.nm 6 (L9.nm (i := 6) rfl rfl) rfl)) (Ev.nm 7 (L9.nm (i := 7) rfl rfl) rfl)) (Ev.nm 8 (L9.nm (i := 8) rfl rfl) rfl)) (fun _ => rfl)) ?_
    refine Rt.seq (Sx.set 16 (L9.nm (i := 16) rfl rfl) (Ev.call (Ev.gl G_trunc) (Evs.cons (Ev.nm 2 (L9.nm (i := 2) rfl rfl) rfl) (Evs.cons Ev.num Evs.nil)) (v_trunc _ _ _ (by omega) (by decide) (by decide)) (by omega) (k_trunc _)) (fun _ => rfl)) ?_
    refine Rt.seq (Sx.set 2 (L9.nm (i := 2) rfl rfl) (Ev.sub (Ev.nm 2 (L9.nm (i := 2) rfl rfl) rfl) (Ev.mulR (Ev.nm 16 (L9.nm (i := 16) rfl rfl) rfl) Ev.num)) (fun _ => rfl)) ?_
    refine Rt.eq (Rt.ret (Ev.tup3 (Evs.cons (Ev.add (Ev.nm 15 (L9.nm (i := 15) rfl rfl) rfl) Ev.num) (Evs.cons (Ev.add (Ev.nm 16 (L9.nm (i := 16) rfl rfl) rfl) Ev.num) (Evs.cons (Ev.add (Ev.nm 2 (L9.nm (i := 2) rfl rfl) rfl) Ev.num) Evs.nil))))) ?_
    exact tupE (by rw [Y0, yrF, if_pos q]; omega) (by rw [M0, ddF, if_pos q]) (by rw [D0, ddF, if_pos q]; omega)
  · refine Rt.seq (Sx.ifF (Ts.cmp (Ev.mod (Ev.nm 2 (L9.nm (i := 2) rfl rfl) rfl) (Ev.gl G_LEAP_CYCLE_DAYS_french_republican)) (Ev.sub (Ev.gl G_LEAP_CYCLE_DAYS_french_republican) Ev.num) (cEqF (by omega))) (Fl.seq (Sx.set 2 (L9.nm (i := 2) rfl rfl) (Ev.mod (Ev.nm 2 (L9.nm (i := 2) rfl rfl) rfl) (Ev.gl G_LEAP_CYCLE_DAYS_french_republican)) (fun _ => rfl)) Fl.nil)) ?_
    refine Rt.seq (Sx.set 7 (L9.nm (i := 7) rfl rfl) (Ev.call (Ev.gl G_trunc) (Evs.cons (Ev.nm 2 (L9.nm (i := 2) rfl rfl) rfl) (Evs.cons (Ev.gl G_DAYS_IN_YEAR) Evs.nil)) (v_trunc _ _ _ (by omega) (by decide) (by decide)) (by omega) (k_trunc _)) (fun _ => rfl)) ?_
    refine Rt.seq (Sx.ifF (Ts.cmp (Ev.nm 2 (L9.nm (i := 2) rfl rfl) rfl) (Ev.mulR (Ev.gl G_DAYS_IN_YEAR) Ev.num) (cEqF (by omega))) (Fl.seq (Sx.set 2 (L9.nm (i := 2) rfl rfl) (Ev.mod (Ev.nm 2 (L9.nm (i := 2) rfl rfl) rfl) (Ev.gl G_DAYS_IN_YEAR)) (fun _ => rfl)) Fl.nil)) ?_
    refine Rt.seq (Sx.set 15 (L9.nm (i := 15) rfl rfl) (Ev.add (Ev.add (Ev.add (Ev.add (Ev.add (Ev.nm 3 (L9.nm (i := 3) rfl rfl) rfl) (Ev.nm 4 (L9.nm (i := 4) rfl rfl) rfl)) (Ev.nm 5 (L9.nm (i := 5) rfl rfl) rfl)) (Ev.nm 6 (L9.nm (i := 6) rfl rfl) rfl)) (Ev.nm 7 (L9.nm (i := 7) rfl rfl) rfl)) (Ev.nm 8 (L9.nm (i := 8) rfl rfl) rfl)) (fun _ => rfl)) ?_
    refine Rt.seq (Sx.set 16 (L9.nm (i := 16) rfl rfl) (Ev.call (Ev.gl G_trunc) (Evs.cons (Ev.nm 2 (L9.nm (i := 2) rfl rfl) rfl) (Evs.cons Ev.num Evs.nil)) (v_trunc _ _ _ (by omega) (by decide) (by decide)) (by omega) (k_trunc _)) (fun _ => rfl)) ?_
    refine Rt.seq (Sx.set 2 (L9.nm (i := 2) rfl rfl) (Ev.sub (Ev.nm 2 (L9.nm (i := 2) rfl rfl) rfl) (Ev.mulR (Ev.nm 16 (L9.nm (i := 16) rfl rfl) rfl) Ev.num)) (fun _ => rfl)) ?_
    refine Rt.eq (Rt.ret (Ev.tup3 (Evs.cons (Ev.add (Ev.nm 15 (L9.nm (i := 15) rfl rfl) rfl) Ev.num) (Evs.cons (Ev.add (Ev.nm 16 (L9.nm (i := 16) rfl rfl) rfl) Ev.num) (Evs.cons (Ev.add (Ev.nm 2 (L9.nm (i := 2) rfl rfl) rfl) Ev.num) Evs.nil))))) ?_
    exact tupE (by rw [Y0, yrF, if_neg q]; omega) (by rw [M0, ddF, if_neg q]) (by rw [D0, ddF, if_neg q]; omega)
theorem v_sfromL2 (w : World) (j : Int) (hj : 2375840 ≤ j) (hj2 : j ≤ 2382049) : CallV 3 w 88 [.int j, .nm names2] (.tup (Y0 j) (M0 j) (D0 j)) := by
  refine ⟨?_⟩
  unfold Call
  k_fill
  intro n0 ys hy0
  obtain ⟨y0, r0, rfl, d0, hy1⟩ := hy0.inv
  obtain ⟨t0, rfl⟩ := d0
  obtain ⟨y1, r1, rfl, d1, hy2⟩ := hy1.inv
  obtain rfl := hy2.inv0
  refine enter (I₀ := [(1, .nm names2), (0, .int j)]) (binds := [(Str.ofString "jd", .int _ t0), (Str.ofString "method", y1)]) (by k_is) (by k_is) (fun s X => BindsTo.of_eq rfl) (locs rfl) (.cons (by decide) rfl d1 (.cons (by decide) rfl ⟨t0, rfl⟩ .nil)) fun c hw hc hn => ?_
  subst hw
  have L9 : Loc c [0, 1, 2, 3, 4, 5, 6, 7, 8, 9, 10, 11, 15, 16] := Loc.of hc (by decide +kernel)
  have G_DAYS_IN_YEAR := (g_DAYS_IN_YEAR c.w).gl rfl hc (by decide +kernel)
  have G_EPOCH_french_republican := (g_EPOCH_french_republican c.w).gl rfl hc (by decide +kernel)
  have G_LEAP_CYCLE_DAYS_french_republican := (g_LEAP_CYCLE_DAYS_french_republican c.w).gl rfl hc (by decide +kernel)
  have G_LEAP_CYCLE_YEARS_french_republican := (g_LEAP_CYCLE_YEARS_french_republican c.w).gl rfl hc (by decide +kernel)
  have G_trunc := (g_trunc c.w).gl rfl hc (by decide +kernel)
  refine Rt.seq (Sx.ifF (Ts.cmp (Ev.nm 0 (L9.nm (i := 0) rfl rfl) rfl) (Ev.gl G_EPOCH_french_republican) (cLtF (by omega))) Fl.nil) ?_
  refine Rt.seq (Sx.set 2 (L9.nm (i := 2) rfl rfl) (Ev.eq (v := .int (j - 2375840)) (Ev.sub (Ev.nm 0 (L9.nm (i := 0) rfl rfl) rfl) (Ev.gl G_EPOCH_french_republican)) (congrArg V.int (by omega))) (fun _ => rfl)) ?_
  refine Rt.seq (Sx.unpack (Tg.cons (L9.nm (i := 3) rfl rfl) (Tg.cons (L9.nm (i := 4) rfl rfl) (Tg.cons (L9.nm (i := 5) rfl rfl) (Tg.cons (L9.nm (i := 6) rfl rfl) (Tg.cons (L9.nm (i := 7) rfl rfl) (Tg.cons (L9.nm (i := 8) rfl rfl) Tg.nil)))))) (Evs.cons Ev.num (Evs.cons Ev.num (Evs.cons Ev.num (Evs.cons Ev.num (Evs.cons Ev.num (Evs.cons Ev.num Evs.nil)))))) rfl (by decide) (fun _ => rfl) (fun _ => rfl)) ?_
  refine Rt.seq (Sx.three (L9.nm (i := 9) rfl rfl) (L9.nm (i := 10) rfl rfl) (L9.nm (i := 11) rfl rfl) Ev.none (fun _ => rfl)) ?_
  refine Rt.seq (Sx.ifT (Ts.orF (Ts.andAny (Ts.cmp (Ev.nm 2 (L9.nm (i := 2) rfl rfl) rfl) (Ev.add (Ev.mulR (Ev.gl G_DAYS_IN_YEAR) Ev.num) Ev.num) rfl) (Ts.andF (Ts.inNm false (Ev.nm 1 (L9.nm (i := 1) rfl rfl) rfl) (Lits.int (Lits.str Lits.nil)) (by decide +kernel) rfl))) (Ts.orT (Ts.andT (Ts.cmp (Ev.nm 2 (L9.nm (i := 2) rfl rfl) rfl) (Ev.add (Ev.mulR (Ev.gl G_DAYS_IN_YEAR) Ev.num) Ev.num) (cLtET (by omega))) (Ts.andT (Ts.inNm true (Ev.nm 1 (L9.nm (i := 1) rfl rfl) rfl) (Lits.int (Lits.str Lits.nil)) (by decide +kernel) rfl) Ts.and0)))) (Fl.seq (Sx.set 1 (L9.nm (i := 1) rfl rfl) Ev.num (fun _ => rfl)) Fl.nil)) ?_
  refine Rt.seq (Sx.ifT (Ts.inInt true (Ev.nm 1 (L9.nm (i := 1) rfl rfl) rfl) (Lits.int (Lits.str Lits.nil)) (by decide +kernel) (by decide +kernel) rfl) (Fl.seq (Sx.set 2 (L9.nm (i := 2) rfl rfl) (Ev.eq (v := .int (j - 2375475)) (Ev.add (Ev.nm 2 (L9.nm (i := 2) rfl rfl) rfl) Ev.num) (congrArg V.int (by omega))) (fun _ => rfl)) (Fl.seq (Sx.set 8 (L9.nm (i := 8) rfl rfl) (Ev.neg Ev.num) (fun _ => rfl)) Fl.nil))) ?_
  refine Rt.seq (Sx.ifF (Ts.none (Ev.nm 10 (L9.nm (i := 10) rfl rfl) rfl)) Fl.nil) ?_
  refine Rt.seq (Sx.set 6 (L9.nm (i := 6) rfl rfl) (Ev.mulR (Ev.call (Ev.gl G_trunc) (Evs.cons (Ev.nm 2 (L9.nm (i := 2) rfl rfl) rfl) (Evs.cons (Ev.gl G_LEAP_CYCLE_DAYS_french_republican) Evs.nil)) (v_trunc _ _ _ (by omega) (by decide) (by decide)) (by omega) (k_trunc _)) (Ev.gl G_LEAP_CYCLE_YEARS_french_republican)) (fun _ => rfl)) ?_
  by_cases q : (j - 2375475) % 1461 = 1460
  · refine Rt.seq (Sx.ifT (Ts.cmp (Ev.mod (Ev.nm 2 (L9.nm (i := 2) rfl rfl) rfl) (Ev.gl G_LEAP_CYCLE_DAYS_french_republican)) (Ev.sub (Ev.gl G_LEAP_CYCLE_DAYS_french_republican) Ev.num) (cEqT (by omega))) (Fl.seq (Sx.set 2 (L9.nm (i := 2) rfl rfl) Ev.num (fun _ => rfl)) Fl.nil)) ?_
    refine Rt.seq (Sx.set 7 (L9.nm (i := 7) rfl rfl) (Ev.call (Ev.gl G_trunc) (Evs.cons (Ev.nm 2 (L9.nm (i := 2) rfl rfl) rfl) (Evs.cons (Ev.gl G_DAYS_IN_YEAR) Evs.nil)) (v_trunc _ _ _ (by omega) (by decide) (by decide)) (by omega) (k_trunc _)) (fun _ => rfl)) ?_
    refine Rt.seq (Sx.ifT (Ts.cmp (Ev.nm 2 (L9.nm (i := 2) rfl rfl) rfl) (Ev.mulR (Ev.gl G_DAYS_IN_YEAR) Ev.num) (cEqT (by omega))) (Fl.seq (Sx.set 7 (L9.nm (i := 7) rfl rfl) (Ev.sub (Ev.nm 7 (L9.nm (i := 7) rfl rfl) rfl) Ev.num) (fun _ => rfl)) (Fl.seq (Sx.set 2 (L9.nm (i := 2) rfl rfl) Ev.num (fun _ => rfl)) Fl.nil))) ?_
    refine Rt.seq (Sx.set 15 (L9.nm (i := 15) rfl rfl) (Ev.add (Ev.add (Ev.add (Ev.add (Ev.add (Ev.nm 3 (L9.nm (i := 3) rfl rfl) rfl) (Ev.nm 4 (L9.nm (i := 4) rfl rfl) rfl)) (Ev.nm 5 (L9.nm (i := 5) rfl rfl) rfl)) (Ev.nm 6 (L9.nm (i := 6) rfl rfl) rfl)) (Ev.nm 7 (L9.nm (i := 7) rfl rfl) rfl)) (Ev.nm 8 (L9.nm (i := 8) rfl rfl) rfl)) (fun _ => rfl)) ?_
    refine Rt.seq (Sx.set 16 (L9.nm (i := 16) rfl rfl) (Ev.call (Ev.gl G_trunc) (Evs.cons (Ev.nm 2 (L9.nm (i := 2) rfl rfl) rfl) (Evs.cons Ev.num Evs.nil)) (v_trunc _ _ _ (by omega) (by decide) (by decide)) (by omega) (k_trunc _)) (fun _ => rfl)) ?_
    refine Rt.seq (Sx.set 2 (L9.nm (i := 2) rfl rfl) (Ev.sub (Ev.nm 2 (L9.nm (i := 2) rfl rfl) rfl) (Ev.mulR (Ev.nm 16 (L9.nm (i := 16) rfl rfl) rfl) Ev.num)) (fun _ => rfl)) ?_
    refine Rt.eq (Rt.ret (Ev.tup3 (Evs.cons (Ev.add (Ev.nm 15 (L9.nm (i := 15) rfl rfl) rfl) Ev.num) (Evs.cons (Ev.add (Ev.nm 16 (L9.nm (i := 16) rfl rfl) rfl) Ev.num) (Evs.cons (Ev.add (Ev.nm 2 (L9.nm (i := 2) rfl rfl) rfl) Ev.num) Evs.nil))))) ?_
    exact tupE (by rw [Y0, yrF, if_pos q]; omega) (by rw [M0, ddF, if_pos q]) (by rw [D0, ddF, if_pos q]; omega)
  · refine Rt.seq (Sx.ifF (Ts.cmp (Ev.mod (Ev.nm 2 (L9.nm (i := 2) rfl rfl) rfl) (Ev.gl G_LEAP_CYCLE_DAYS_french_republican)) (Ev.sub (Ev.gl G_LEAP_CYCLE_DAYS_french_republican) Ev.num) (cEqF (by omega))) (Fl.seq (Sx.set 2 (L9.nm (i := 2) rfl rfl) (Ev.mod (Ev.nm 2 (L9.nm (i := 2) rfl rfl) rfl) (Ev.gl G_LEAP_CYCLE_DAYS_french_republican)) (fun _ => rfl)) Fl.nil)) ?_
    refine Rt.seq (Sx.set 7 (L9.nm (i := 7) rfl rfl) (Ev.call (Ev.gl G_trunc) (Evs.cons (Ev.nm 2 (L9.nm (i := 2) rfl rfl) rfl) (Evs.cons (Ev.gl G_DAYS_IN_YEAR) Evs.nil)) (v_trunc _ _ _ (by omega) (by decide) (by decide)) (by omega) (k_trunc _)) (fun _ => rfl)) ?_
    refine Rt.seq (Sx.ifF (Ts.cmp (Ev.nm 2 (L9.nm (i := 2) rfl rfl) rfl) (Ev.mulR (Ev.gl G_DAYS_IN_YEAR) Ev.num) (cEqF (by omega))) (Fl.seq (Sx.set 2 (L9.nm (i := 2) rfl rfl) (Ev.mod (Ev.nm 2 (L9.nm (i := 2) rfl rfl) rfl) (Ev.gl G_DAYS_IN_YEAR)) (fun _ => rfl)) Fl.nil)) ?_
    refine Rt.seq (Sx.set 15 (L9.nm (i := 15) rfl rfl) (Ev.add (Ev.add (Ev.add (Ev.add (Ev.add (Ev.nm 3 (L9.nm (i := 3) rfl rfl) rfl) (Ev.nm 4 (L9.nm (i := 4) rfl rfl) rfl)) (Ev.nm 5 (L9.nm (i := 5) rfl rfl) rfl)) (Ev.nm 6 (L9.nm (i := 6) rfl rfl) rfl)) (Ev.nm 7 (L9.nm (i := 7) rfl rfl) rfl)) (Ev.nm 8 (L9.nm (i := 8) rfl rfl) rfl)) (fun _ => rfl)) ?_
    refine Rt.seq (Sx.set 16 (L9.nm (i := 16) rfl rfl) (Ev.call (Ev.gl G_trunc) (Evs.cons (Ev.nm 2 (L9.nm (i := 2) rfl rfl) rfl) (Evs.cons Ev.num Evs.nil)) (v_trunc _ _ _ (by omega) (by decide) (by decide)) (by omega) (k_trunc _)) (fun _ => rfl)) ?_
    refine Rt.seq (Sx.set 2 (L9.nm (i := 2) rfl rfl) (Ev.sub (Ev.nm 2 (L9.nm (i := 2) rfl rfl) rfl) (Ev.mulR (Ev.nm 16 (L9.nm (i := 16) rfl rfl) rfl) Ev.num)) (fun _ => rfl)) ?_
    refine Rt.eq (Rt.ret (Ev.tup3 (Evs.cons (Ev.add (Ev.nm 15 (L9.nm (i := 15) rfl rfl) rfl) Ev.num) (Evs.cons (Ev.add (Ev.nm 16 (L9.nm (i := 16) rfl rfl) rfl) Ev.num) (Evs.cons (Ev.add (Ev.nm 2 (L9.nm (i := 2) rfl rfl) rfl) Ev.num) Evs.nil))))) ?_
    exact tupE (by rw [Y0, yrF, if_neg q]; omega) (by rw [M0, ddF, if_neg q]) (by rw [D0, ddF, if_neg q]; omega)
theorem v_sfrom1b (w : World) (j : Int) (hj : 2380223 < j) (hj2 : j < 2412364) : CallV 3 w 88 [.int j, .nm names1] (.tup (yrF (j - 2380223) + 13) (ddF (j - 2380223) / 30 + 1) (ddF (j - 2380223) % 30 + 1)) := by
  refine ⟨?_⟩
  unfold Call
  k_fill
  intro n0 ys hy0
  obtain ⟨y0, r0, rfl, d0, hy1⟩ := hy0.inv
  obtain ⟨t0, rfl⟩ := d0
  obtain ⟨y1, r1, rfl, d1, hy2⟩ := hy1.inv
  obtain rfl := hy2.inv0
  refine enter (I₀ := [(1, .nm names1), (0, .int j)]) (binds := [(Str.ofString "jd", .int _ t0), (Str.ofString "method", y1)]) (by k_is) (by k_is) (fun s X => BindsTo.of_eq rfl) (locs rfl) (.cons (by decide) rfl d1 (.cons (by decide) rfl ⟨t0, rfl⟩ .nil)) fun c hw hc hn => ?_
  subst hw
  have L9 : Loc c [0, 1, 2, 3, 4, 5, 6, 7, 8, 9, 10, 11, 12, 13, 14, 15, 16] := Loc.of hc (by decide +kernel)
  have G_DAYS_IN_YEAR := (g_DAYS_IN_YEAR c.w).gl rfl hc (by decide +kernel)
  have G_EPOCH_french_republican := (g_EPOCH_french_republican c.w).gl rfl hc (by decide +kernel)
  have G_LEAP_CYCLE_DAYS_french_republican := (g_LEAP_CYCLE_DAYS_french_republican c.w).gl rfl hc (by decide +kernel)
  have G_LEAP_CYCLE_YEARS_french_republican := (g_LEAP_CYCLE_YEARS_french_republican c.w).gl rfl hc (by decide +kernel)
  have G_trunc := (g_trunc c.w).gl rfl hc (by decide +kernel)
  refine Rt.seq (Sx.ifF (Ts.cmp (Ev.nm 0 (L9.nm (i := 0) rfl rfl) rfl) (Ev.gl G_EPOCH_french_republican) (cLtF (by omega))) Fl.nil) ?_
  refine Rt.seq (Sx.set 2 (L9.nm (i := 2) rfl rfl) (Ev.eq (v := .int (j - 2375840)) (Ev.sub (Ev.nm 0 (L9.nm (i := 0) rfl rfl) rfl) (Ev.gl G_EPOCH_french_republican)) (congrArg V.int (by omega))) (fun _ => rfl)) ?_
  refine Rt.seq (Sx.unpack (Tg.cons (L9.nm (i := 3) rfl rfl) (Tg.cons (L9.nm (i := 4) rfl rfl) (Tg.cons (L9.nm (i := 5) rfl rfl) (Tg.cons (L9.nm (i := 6) rfl rfl) (Tg.cons (L9.nm (i := 7) rfl rfl) (Tg.cons (L9.nm (i := 8) rfl rfl) Tg.nil)))))) (Evs.cons Ev.num (Evs.cons Ev.num (Evs.cons Ev.num (Evs.cons Ev.num (Evs.cons Ev.num (Evs.cons Ev.num Evs.nil)))))) rfl (by decide) (fun _ => rfl) (fun _ => rfl)) ?_
  refine Rt.seq (Sx.three (L9.nm (i := 9) rfl rfl) (L9.nm (i := 10) rfl rfl) (L9.nm (i := 11) rfl rfl) Ev.none (fun _ => rfl)) ?_
  refine Rt.seq (Sx.ifF (Ts.orF (Ts.andF (Ts.cmp (Ev.nm 2 (L9.nm (i := 2) rfl rfl) rfl) (Ev.add (Ev.mulR (Ev.gl G_DAYS_IN_YEAR) Ev.num) Ev.num) (cLtEF (by omega)))) (Ts.orF (Ts.andAny (Ts.cmp (Ev.nm 2 (L9.nm (i := 2) rfl rfl) rfl) (Ev.add (Ev.mulR (Ev.gl G_DAYS_IN_YEAR) Ev.num) Ev.num) rfl) (Ts.andF (Ts.inNm false (Ev.nm 1 (L9.nm (i := 1) rfl rfl) rfl) (Lits.int (Lits.str Lits.nil)) (by decide +kernel) rfl))) Ts.or0)) Fl.nil) ?_
  refine Rt.seq (Sx.ifF (Ts.inNm false (Ev.nm 1 (L9.nm (i := 1) rfl rfl) rfl) (Lits.int (Lits.str Lits.nil)) (by decide +kernel) rfl) (Fl.seq (Sx.ifT (Ts.inNm true (Ev.nm 1 (L9.nm (i := 1) rfl rfl) rfl) (Lits.int (Lits.str Lits.nil)) (by decide +kernel) rfl) (Fl.seq (Sx.set 8 (L9.nm (i := 8) rfl rfl) Ev.num (fun _ => rfl)) (Fl.seq (Sx.set 2 (L9.nm (i := 2) rfl rfl) (Ev.eq (v := .int (j - 2380223)) (Ev.sub (Ev.sub (Ev.nm 2 (L9.nm (i := 2) rfl rfl) rfl) (Ev.mulR (Ev.gl G_DAYS_IN_YEAR) Ev.num)) Ev.num) (congrArg V.int (by omega))) (fun _ => rfl)) (Fl.seq (Sx.set 12 (L9.nm (i := 12) rfl rfl) Ev.num (fun _ => rfl)) (Fl.seq (Sx.set 10 (L9.nm (i := 10) rfl rfl) Ev.num (fun _ => rfl)) (Fl.seq (Sx.set 13 (L9.nm (i := 13) rfl rfl) Ev.num (fun _ => rfl)) (Fl.seq (Sx.set 9 (L9.nm (i := 9) rfl rfl) Ev.num (fun _ => rfl)) (Fl.seq (Sx.set 14 (L9.nm (i := 14) rfl rfl) Ev.num (fun _ => rfl)) (Fl.seq (Sx.set 11 (L9.nm (i := 11) rfl rfl) Ev.num (fun _ => rfl)) (Fl.seq (Sx.set 3 (L9.nm (i := 3) rfl rfl) (Ev.eq (v := .int (0)) (Ev.mulR (Ev.call (Ev.gl G_trunc) (Evs.cons (Ev.nm 2 (L9.nm (i := 2) rfl rfl) rfl) (Evs.cons (Ev.nm 11 (L9.nm (i := 11) rfl rfl) rfl) Evs.nil)) (v_trunc _ _ _ (by omega) (by decide) (by decide)) (by omega) (k_trunc _)) (Ev.nm 14 (L9.nm (i := 14) rfl rfl) rfl)) (congrArg V.int (by omega))) (fun _ => rfl)) (Fl.seq (Sx.set 2 (L9.nm (i := 2) rfl rfl) (Ev.eq (v := .int (j - 2380223)) (Ev.mod (Ev.nm 2 (L9.nm (i := 2) rfl rfl) rfl) (Ev.nm 11 (L9.nm (i := 11) rfl rfl) rfl)) (congrArg V.int (by omega))) (fun _ => rfl)) (Fl.seq (Sx.set 4 (L9.nm (i := 4) rfl rfl) (Ev.eq (v := .int (0)) (Ev.mulR (Ev.call (Ev.gl G_trunc) (Evs.cons (Ev.nm 2 (L9.nm (i := 2) rfl rfl) rfl) (Evs.cons (Ev.nm 9 (L9.nm (i := 9) rfl rfl) rfl) Evs.nil)) (v_trunc _ _ _ (by omega) (by decide) (by decide)) (by omega) (k_trunc _)) (Ev.nm 13 (L9.nm (i := 13) rfl rfl) rfl)) (congrArg V.int (by omega))) (fun _ => rfl)) (Fl.seq (Sx.set 2 (L9.nm (i := 2) rfl rfl) (Ev.eq (v := .int (j - 2380223)) (Ev.mod (Ev.nm 2 (L9.nm (i := 2) rfl rfl) rfl) (Ev.nm 9 (L9.nm (i := 9) rfl rfl) rfl)) (congrArg V.int (by omega))) (fun _ => rfl)) Fl.nil))))))))))))) Fl.nil)) ?_
  refine Rt.seq (Sx.ifT (Ts.int (Ev.nm 10 (L9.nm (i := 10) rfl rfl) rfl) (neT (by omega))) (Fl.seq (Sx.set 5 (L9.nm (i := 5) rfl rfl) (Ev.eq (v := .int (0)) (Ev.mulR (Ev.call (Ev.gl G_trunc) (Evs.cons (Ev.nm 2 (L9.nm (i := 2) rfl rfl) rfl) (Evs.cons (Ev.nm 10 (L9.nm (i := 10) rfl rfl) rfl) Evs.nil)) (v_trunc _ _ _ (by omega) (by decide) (by decide)) (by omega) (k_trunc _)) (Ev.nm 12 (L9.nm (i := 12) rfl rfl) rfl)) (congrArg V.int (by omega))) (fun _ => rfl)) (Fl.seq (Sx.set 2 (L9.nm (i := 2) rfl rfl) (Ev.eq (v := .int (j - 2380223)) (Ev.mod (Ev.nm 2 (L9.nm (i := 2) rfl rfl) rfl) (Ev.nm 10 (L9.nm (i := 10) rfl rfl) rfl)) (congrArg V.int (by omega))) (fun _ => rfl)) Fl.nil))) ?_
  refine Rt.seq (Sx.set 6 (L9.nm (i := 6) rfl rfl) (Ev.mulR (Ev.call (Ev.gl G_trunc) (Evs.cons (Ev.nm 2 (L9.nm (i := 2) rfl rfl) rfl) (Evs.cons (Ev.gl G_LEAP_CYCLE_DAYS_french_republican) Evs.nil)) (v_trunc _ _ _ (by omega) (by decide) (by decide)) (by omega) (k_trunc _)) (Ev.gl G_LEAP_CYCLE_YEARS_french_republican)) (fun _ => rfl)) ?_
  by_cases q : (j - 2380223) % 1461 = 1460
  · refine Rt.seq (Sx.ifT (Ts.cmp (Ev.mod (Ev.nm 2 (L9.nm (i := 2) rfl rfl) rfl) (Ev.gl G_LEAP_CYCLE_DAYS_french_republican)) (Ev.sub (Ev.gl G_LEAP_CYCLE_DAYS_french_republican) Ev.num) (cEqT (by omega))) (Fl.seq (Sx.set 2 (L9.nm (i := 2) rfl rfl) Ev.num (fun _ => rfl)) Fl.nil)) ?_
    refine Rt.seq (Sx.set 7 (L9.nm (i := 7) rfl rfl) (Ev.call (Ev.gl G_trunc) (Evs.cons (Ev.nm 2 (L9.nm (i := 2) rfl rfl) rfl) (Evs.cons (Ev.gl G_DAYS_IN_YEAR) Evs.nil)) (v_trunc _ _ _ (by omega) (by decide) (by decide)) (by omega) (k_trunc _)) (fun _ => rfl)) ?_
    refine Rt.seq (Sx.ifT (Ts.cmp (Ev.nm 2 (L9.nm (i := 2) rfl rfl) rfl) (Ev.mulR (Ev.gl G_DAYS_IN_YEAR) Ev.num) (cEqT (by omega))) (Fl.seq (Sx.set 7 (L9.nm (i := 7) rfl rfl) (Ev.sub (Ev.nm 7 (L9.nm (i := 7) rfl rfl) rfl) Ev.num) (fun _ => rfl)) (Fl.seq (Sx.set 2 (L9.nm (i := 2) rfl rfl) Ev.num (fun _ => rfl)) Fl.nil))) ?_
    refine Rt.seq (Sx.set 15 (L9.nm (i := 15) rfl rfl) (Ev.add (Ev.add (Ev.add (Ev.add (Ev.add (Ev.nm 3 (L9.nm (i := 3) rfl rfl) rfl) (Ev.nm 4 (L9.nm (i := 4) rfl rfl) rfl)) (Ev.nm 5 (L9.nm (i := 5) rfl rfl) rfl)) (Ev.nm 6 (L9.nm (i := 6) rfl rfl) rfl)) (Ev.nm 7 (L9.nm (i := 7) rfl rfl) rfl)) (Ev.nm 8 (L9.nm (i := 8) rfl rfl) rfl)) (fun _ => rfl)) ?_
    refine Rt.seq (Sx.set 16 (L9.nm (i := 16) rfl rfl) (Ev.call (Ev.gl G_trunc) (Evs.cons (Ev.nm 2 (L9.nm (i := 2) rfl rfl) rfl) (Evs.cons Ev.num Evs.nil)) (v_trunc _ _ _ (by omega) (by decide) (by decide)) (by omega) (k_trunc _)) (fun _ => rfl)) ?_
    refine Rt.seq (Sx.set 2 (L9.nm (i := 2) rfl rfl) (Ev.sub (Ev.nm 2 (L9.nm (i := 2) rfl rfl) rfl) (Ev.mulR (Ev.nm 16 (L9.nm (i := 16) rfl rfl) rfl) Ev.num)) (fun _ => rfl)) ?_
    refine Rt.eq (Rt.ret (Ev.tup3 (Evs.cons (Ev.add (Ev.nm 15 (L9.nm (i := 15) rfl rfl) rfl) Ev.num) (Evs.cons (Ev.add (Ev.nm 16 (L9.nm (i := 16) rfl rfl) rfl) Ev.num) (Evs.cons (Ev.add (Ev.nm 2 (L9.nm (i := 2) rfl rfl) rfl) Ev.num) Evs.nil))))) ?_
    exact tupE (by rw [yrF, if_pos q]; omega) (by rw [ddF, if_pos q]) (by rw [ddF, if_pos q]; omega)
  · refine Rt.seq (Sx.ifF (Ts.cmp (Ev.mod (Ev.nm 2 (L9.nm (i := 2) rfl rfl) rfl) (Ev.gl G_LEAP_CYCLE_DAYS_french_republican)) (Ev.sub (Ev.gl G_LEAP_CYCLE_DAYS_french_republican) Ev.num) (cEqF (by omega))) (Fl.seq (Sx.set 2 (L9.nm (i := 2) rfl rfl) (Ev.mod (Ev.nm 2 (L9.nm (i := 2) rfl rfl) rfl) (Ev.gl G_LEAP_CYCLE_DAYS_french_republican)) (fun _ => rfl)) Fl.nil)) ?_
    refine Rt.seq (Sx.set 7 (L9.nm (i := 7) rfl rfl) (Ev.call (Ev.gl G_trunc) (Evs.cons (Ev.nm 2 (L9.nm (i := 2) rfl rfl) rfl) (Evs.cons (Ev.gl G_DAYS_IN_YEAR) Evs.nil)) (v_trunc _ _ _ (by omega) (by decide) (by decide)) (by omega) (k_trunc _)) (fun _ => rfl)) ?_
    refine Rt.seq (Sx.ifF (Ts.cmp (Ev.nm 2 (L9.nm (i := 2) rfl rfl) rfl) (Ev.mulR (Ev.gl G_DAYS_IN_YEAR) Ev.num) (cEqF (by omega))) (Fl.seq (Sx.set 2 (L9.nm (i := 2) rfl rfl) (Ev.mod (Ev.nm 2 (L9.nm (i := 2) rfl rfl) rfl) (Ev.gl G_DAYS_IN_YEAR)) (fun _ => rfl)) Fl.nil)) ?_
    refine Rt.seq (Sx.set 15 (L9.nm (i := 15) rfl rfl) (Ev.add (Ev.add (Ev.add (Ev.add (Ev.add (Ev.nm 3 (L9.nm (i := 3) rfl rfl) rfl) (Ev.nm 4 (L9.nm (i := 4) rfl rfl) rfl)) (Ev.nm 5 (L9.nm (i := 5) rfl rfl) rfl)) (Ev.nm 6 (L9.nm (i := 6) rfl rfl) rfl)) (Ev.nm 7 (L9.nm (i := 7) rfl rfl) rfl)) (Ev.nm 8 (L9.nm (i := 8) rfl rfl) rfl)) (fun _ => rfl)) ?_
    refine Rt.seq (Sx.set 16 (L9.nm (i := 16) rfl rfl) (Ev.call (Ev.gl G_trunc) (Evs.cons (Ev.nm 2 (L9.nm (i := 2) rfl rfl) rfl) (Evs.cons Ev.num Evs.nil)) (v_trunc _ _ _ (by omega) (by decide) (by decide)) (by omega) (k_trunc _)) (fun _ => rfl)) ?_
    refine Rt.seq (Sx.set 2 (L9.nm (i := 2) rfl rfl) (Ev.sub (Ev.nm 2 (L9.nm (i := 2) rfl rfl) rfl) (Ev.mulR (Ev.nm 16 (L9.nm (i := 16) rfl rfl) rfl) Ev.num)) (fun _ => rfl)) ?_
    refine Rt.eq (Rt.ret (Ev.tup3 (Evs.cons (Ev.add (Ev.nm 15 (L9.nm (i := 15) rfl rfl) rfl) Ev.num) (Evs.cons (Ev.add (Ev.nm 16 (L9.nm (i := 16) rfl rfl) rfl) Ev.num) (Evs.cons (Ev.add (Ev.nm 2 (L9.nm (i := 2) rfl rfl) rfl) Ev.num) Evs.nil))))) ?_
    exact tupE (by rw [yrF, if_neg q]; omega) (by rw [ddF, if_neg q]) (by rw [ddF, if_neg q]; omega)
theorem v_sfrom2b (w : World) (j : Int) (hj : 2382049 < j) (hj2 : j < 2422591) : CallV 3 w 88 [.int j, .nm names2] (.tup (yrF (j - 2381684) + 17) (ddF (j - 2381684) / 30 + 1) (ddF (j - 2381684) % 30 + 1)) := by
  refine ⟨?_⟩
  unfold Call
  k_fill
  intro n0 ys hy0
  obtain ⟨y0, r0, rfl, d0, hy1⟩ := hy0.inv
  obtain ⟨t0, rfl⟩ := d0
  obtain ⟨y1, r1, rfl, d1, hy2⟩ := hy1.inv
  obtain rfl := hy2.inv0
  refine enter (I₀ := [(1, .nm names2), (0, .int j)]) (binds := [(Str.ofString "jd", .int _ t0), (Str.ofString "method", y1)]) (by k_is) (by k_is) (fun s X => BindsTo.of_eq rfl) (locs rfl) (.cons (by decide) rfl d1 (.cons (by decide) rfl ⟨t0, rfl⟩ .nil)) fun c hw hc hn => ?_
  subst hw
  have L9 : Loc c [0, 1, 2, 3, 4, 5, 6, 7, 8, 9, 10, 11, 12, 15, 16] := Loc.of hc (by decide +kernel)
  have G_DAYS_IN_YEAR := (g_DAYS_IN_YEAR c.w).gl rfl hc (by decide +kernel)
  have G_EPOCH_french_republican := (g_EPOCH_french_republican c.w).gl rfl hc (by decide +kernel)
  have G_LEAP_CYCLE_DAYS_french_republican := (g_LEAP_CYCLE_DAYS_french_republican c.w).gl rfl hc (by decide +kernel)
  have G_LEAP_CYCLE_YEARS_french_republican := (g_LEAP_CYCLE_YEARS_french_republican c.w).gl rfl hc (by decide +kernel)
  have G_trunc := (g_trunc c.w).gl rfl hc (by decide +kernel)
  refine Rt.seq (Sx.ifF (Ts.cmp (Ev.nm 0 (L9.nm (i := 0) rfl rfl) rfl) (Ev.gl G_EPOCH_french_republican) (cLtF (by omega))) Fl.nil) ?_
  refine Rt.seq (Sx.set 2 (L9.nm (i := 2) rfl rfl) (Ev.eq (v := .int (j - 2375840)) (Ev.sub (Ev.nm 0 (L9.nm (i := 0) rfl rfl) rfl) (Ev.gl G_EPOCH_french_republican)) (congrArg V.int (by omega))) (fun _ => rfl)) ?_
  refine Rt.seq (Sx.unpack (Tg.cons (L9.nm (i := 3) rfl rfl) (Tg.cons (L9.nm (i := 4) rfl rfl) (Tg.cons (L9.nm (i := 5) rfl rfl) (Tg.cons (L9.nm (i := 6) rfl rfl) (Tg.cons (L9.nm (i := 7) rfl rfl) (Tg.cons (L9.nm (i := 8) rfl rfl) Tg.nil)))))) (Evs.cons Ev.num (Evs.cons Ev.num (Evs.cons Ev.num (Evs.cons Ev.num (Evs.cons Ev.num (Evs.cons Ev.num Evs.nil)))))) rfl (by decide) (fun _ => rfl) (fun _ => rfl)) ?_
  refine Rt.seq (Sx.three (L9.nm (i := 9) rfl rfl) (L9.nm (i := 10) rfl rfl) (L9.nm (i := 11) rfl rfl) Ev.none (fun _ => rfl)) ?_
  refine Rt.seq (Sx.ifF (Ts.orF (Ts.andAny (Ts.cmp (Ev.nm 2 (L9.nm (i := 2) rfl rfl) rfl) (Ev.add (Ev.mulR (Ev.gl G_DAYS_IN_YEAR) Ev.num) Ev.num) rfl) (Ts.andF (Ts.inNm false (Ev.nm 1 (L9.nm (i := 1) rfl rfl) rfl) (Lits.int (Lits.str Lits.nil)) (by decide +kernel) rfl))) (Ts.orF (Ts.andF (Ts.cmp (Ev.nm 2 (L9.nm (i := 2) rfl rfl) rfl) (Ev.add (Ev.mulR (Ev.gl G_DAYS_IN_YEAR) Ev.num) Ev.num) (cLtEF (by omega)))) Ts.or0)) Fl.nil) ?_
  refine Rt.seq (Sx.ifF (Ts.inNm false (Ev.nm 1 (L9.nm (i := 1) rfl rfl) rfl) (Lits.int (Lits.str Lits.nil)) (by decide +kernel) rfl) (Fl.seq (Sx.ifF (Ts.inNm false (Ev.nm 1 (L9.nm (i := 1) rfl rfl) rfl) (Lits.int (Lits.str Lits.nil)) (by decide +kernel) rfl) (Fl.seq (Sx.ifT (Ts.inNm true (Ev.nm 1 (L9.nm (i := 1) rfl rfl) rfl) (Lits.int (Lits.str Lits.nil)) (by decide +kernel) rfl) (Fl.seq (Sx.set 8 (L9.nm (i := 8) rfl rfl) Ev.num (fun _ => rfl)) (Fl.seq (Sx.set 2 (L9.nm (i := 2) rfl rfl) (Ev.eq (v := .int (j - 2381684)) (Ev.sub (Ev.sub (Ev.nm 2 (L9.nm (i := 2) rfl rfl) rfl) (Ev.mulR (Ev.gl G_DAYS_IN_YEAR) Ev.num)) Ev.num) (congrArg V.int (by omega))) (fun _ => rfl)) (Fl.seq (Sx.set 12 (L9.nm (i := 12) rfl rfl) Ev.num (fun _ => rfl)) (Fl.seq (Sx.set 10 (L9.nm (i := 10) rfl rfl) Ev.num (fun _ => rfl)) Fl.nil))))) Fl.nil)) Fl.nil)) ?_
  refine Rt.seq (Sx.ifT (Ts.int (Ev.nm 10 (L9.nm (i := 10) rfl rfl) rfl) (neT (by omega))) (Fl.seq (Sx.set 5 (L9.nm (i := 5) rfl rfl) (Ev.eq (v := .int (0)) (Ev.mulR (Ev.call (Ev.gl G_trunc) (Evs.cons (Ev.nm 2 (L9.nm (i := 2) rfl rfl) rfl) (Evs.cons (Ev.nm 10 (L9.nm (i := 10) rfl rfl) rfl) Evs.nil)) (v_trunc _ _ _ (by omega) (by decide) (by decide)) (by omega) (k_trunc _)) (Ev.nm 12 (L9.nm (i := 12) rfl rfl) rfl)) (congrArg V.int (by omega))) (fun _ => rfl)) (Fl.seq (Sx.set 2 (L9.nm (i := 2) rfl rfl) (Ev.eq (v := .int (j - 2381684)) (Ev.mod (Ev.nm 2 (L9.nm (i := 2) rfl rfl) rfl) (Ev.nm 10 (L9.nm (i := 10) rfl rfl) rfl)) (congrArg V.int (by omega))) (fun _ => rfl)) Fl.nil))) ?_
  refine Rt.seq (Sx.set 6 (L9.nm (i := 6) rfl rfl) (Ev.mulR (Ev.call (Ev.gl G_trunc) (Evs.cons (Ev.nm 2 (L9.nm (i := 2) rfl rfl) rfl) (Evs.cons (Ev.gl G_LEAP_CYCLE_DAYS_french_republican) Evs.nil)) (v_trunc _ _ _ (by omega) (by decide) (by decide)) (by omega) (k_trunc _)) (Ev.gl G_LEAP_CYCLE_YEARS_french_republican)) (fun _ => rfl)) ?_
  by_cases q : (j - 2381684) % 1461 = 1460
  · refine Rt.seq (Sx.ifT (Ts.cmp (Ev.mod (Ev.nm 2 (L9.nm (i := 2) rfl rfl) rfl) (Ev.gl G_LEAP_CYCLE_DAYS_french_republican)) (Ev.sub (Ev.gl G_LEAP_CYCLE_DAYS_french_republican) Ev.num) (cEqT (by omega))) (Fl.seq (Sx.set 2 (L9.nm (i := 2) rfl rfl) Ev.num (fun _ => rfl)) Fl.nil)) ?_
    refine Rt.seq (Sx.set 7 (L9.nm (i := 7) rfl rfl) (Ev.call (Ev.gl G_trunc) (Evs.cons (Ev.nm 2 (L9.nm (i := 2) rfl rfl) rfl) (Evs.cons (Ev.gl G_DAYS_IN_YEAR) Evs.nil)) (v_trunc _ _ _ (by omega) (by decide) (by decide)) (by omega) (k_trunc _)) (fun _ => rfl)) ?_
    refine Rt.seq (Sx.ifT (Ts.cmp (Ev.nm 2 (L9.nm (i := 2) rfl rfl) rfl) (Ev.mulR (Ev.gl G_DAYS_IN_YEAR) Ev.num) (cEqT (by omega))) (Fl.seq (Sx.set 7 (L9.nm (i := 7) rfl rfl) (Ev.sub (Ev.nm 7 (L9.nm (i := 7) rfl rfl) rfl) Ev.num) (fun _ => rfl)) (Fl.seq (Sx.set 2 (L9.nm (i := 2) rfl rfl) Ev.num (fun _ => rfl)) Fl.nil))) ?_
    refine Rt.seq (Sx.set 15 (L9.nm (i := 15) rfl rfl) (Ev.add (Ev.add (Ev.add (Ev.add (Ev.add (Ev.nm 3 (L9.nm (i := 3) rfl rfl) rfl) (Ev.nm 4 (L9.nm (i := 4) rfl rfl) rfl)) (Ev.nm 5 (L9.nm (i := 5) rfl rfl) rfl)) (Ev.nm 6 (L9.nm (i := 6) rfl rfl) rfl)) (Ev.nm 7 (L9.nm (i := 7) rfl rfl) rfl)) (Ev.nm 8 (L9.nm (i := 8) rfl rfl) rfl)) (fun _ => rfl)) ?_
    refine Rt.seq (Sx.set 16 (L9.nm (i := 16) rfl rfl) (Ev.call (Ev.gl G_trunc) (Evs.cons (Ev.nm 2 (L9.nm (i := 2) rfl rfl) rfl) (Evs.cons Ev.num Evs.nil)) (v_trunc _ _ _ (by omega) (by decide) (by decide)) (by omega) (k_trunc _)) (fun _ => rfl)) ?_
    refine Rt.seq (Sx.set 2 (L9.nm (i := 2) rfl rfl) (Ev.sub (Ev.nm 2 (L9.nm (i := 2) rfl rfl) rfl) (Ev.mulR (Ev.nm 16 (L9.nm (i := 16) rfl rfl) rfl) Ev.num)) (fun _ => rfl)) ?_
    refine Rt.eq (Rt.ret (Ev.tup3 (Evs.cons (Ev.add (Ev.nm 15 (L9.nm (i := 15) rfl rfl) rfl) Ev.num) (Evs.cons (Ev.add (Ev.nm 16 (L9.nm (i := 16) rfl rfl) rfl) Ev.num) (Evs.cons (Ev.add (Ev.nm 2 (L9.nm (i := 2) rfl rfl) rfl) Ev.num) Evs.nil))))) ?_
    exact tupE (by rw [yrF, if_pos q]; omega) (by rw [ddF, if_pos q]) (by rw [ddF, if_pos q]; omega)
  · refine Rt.seq (Sx.ifF (Ts.cmp (Ev.mod (Ev.nm 2 (L9.nm (i := 2) rfl rfl) rfl) (Ev.gl G_LEAP_CYCLE_DAYS_french_republican)) (Ev.sub (Ev.gl G_LEAP_CYCLE_DAYS_french_republican) Ev.num) (cEqF (by omega))) (Fl.seq (Sx.set 2 (L9.nm (i := 2) rfl rfl) (Ev.mod (Ev.nm 2 (L9.nm (i := 2) rfl rfl) rfl) (Ev.gl G_LEAP_CYCLE_DAYS_french_republican)) (fun _ => rfl)) Fl.nil)) ?_
    refine Rt.seq (Sx.set 7 (L9.nm (i := 7) rfl rfl) (Ev.call (Ev.gl G_trunc) (Evs.cons (Ev.nm 2 (L9.nm (i := 2) rfl rfl) rfl) (Evs.cons (Ev.gl G_DAYS_IN_YEAR) Evs.nil)) (v_trunc _ _ _ (by omega) (by decide) (by decide)) (by omega) (k_trunc _)) (fun _ => rfl)) ?_
    refine Rt.seq (Sx.ifF (Ts.cmp (Ev.nm 2 (L9.nm (i := 2) rfl rfl) rfl) (Ev.mulR (Ev.gl G_DAYS_IN_YEAR) Ev.num) (cEqF (by omega))) (Fl.seq (Sx.set 2 (L9.nm (i := 2) rfl rfl) (Ev.mod (Ev.nm 2 (L9.nm (i := 2) rfl rfl) rfl) (Ev.gl G_DAYS_IN_YEAR)) (fun _ => rfl)) Fl.nil)) ?_
    refine Rt.seq (Sx.set 15 (L9.nm (i := 15) rfl rfl) (Ev.add (Ev.add (Ev.add (Ev.add (Ev.add (Ev.nm 3 (L9.nm (i := 3) rfl rfl) rfl) (Ev.nm 4 (L9.nm (i := 4) rfl rfl) rfl)) (Ev.nm 5 (L9.nm (i := 5) rfl rfl) rfl)) (Ev.nm 6 (L9.nm (i := 6) rfl rfl) rfl)) (Ev.nm 7 (L9.nm (i := 7) rfl rfl) rfl)) (Ev.nm 8 (L9.nm (i := 8) rfl rfl) rfl)) (fun _ => rfl)) ?_
    refine Rt.seq (Sx.set 16 (L9.nm (i := 16) rfl rfl) (Ev.call (Ev.gl G_trunc) (Evs.cons (Ev.nm 2 (L9.nm (i := 2) rfl rfl) rfl) (Evs.cons Ev.num Evs.nil)) (v_trunc _ _ _ (by omega) (by decide) (by decide)) (by omega) (k_trunc _)) (fun _ => rfl)) ?_
    refine Rt.seq (Sx.set 2 (L9.nm (i := 2) rfl rfl) (Ev.sub (Ev.nm 2 (L9.nm (i := 2) rfl rfl) rfl) (Ev.mulR (Ev.nm 16 (L9.nm (i := 16) rfl rfl) rfl) Ev.num)) (fun _ => rfl)) ?_
    refine Rt.eq (Rt.ret (Ev.tup3 (Evs.cons (Ev.add (Ev.nm 15 (L9.nm (i := 15) rfl rfl) rfl) Ev.num) (Evs.cons (Ev.add (Ev.nm 16 (L9.nm (i := 16) rfl rfl) rfl) Ev.num) (Evs.cons (Ev.add (Ev.nm 2 (L9.nm (i := 2) rfl rfl) rfl) Ev.num) Evs.nil))))) ?_
    exact tupE (by rw [yrF, if_neg q]; omega) (by rw [ddF, if_neg q]) (by rw [ddF, if_neg q]; omega)
theorem Call.ofV {n : Nat} {w : World} {f : Addr} {vs : List Value} {kw : List (Str × Value)} {x : Int} (C : Call n w f vs kw (RetV (.int x))) : Call n w f vs kw (RetI x) :=
  fun mean mg mb dp un gd cn cs a ccd cl outer A₀ base h₀ L m news s Q E B F X N T hk hd hu hret => C mean mg mb dp un gd cn cs a ccd cl outer A₀ base h₀ L m news s Q E B F X N T hk hd hu fun y h' tk' news' d F' N' sub => by
    obtain ⟨t, rfl⟩ := d
    exact hret t h' tk' F' fun p hp => N' p (sub p hp)
theorem v_stoL0 (w : World) (y mo d : Int) (hy : 1 ≤ y) : CallV 3 w 73 [.int y, .int mo, .int d, .nm names0] (.int (first0 y + 30 * (mo - 1) + d - 1)) := by
  refine ⟨?_⟩
  unfold Call
  k_fill
  intro n0 ys hy0
  obtain ⟨y0, r0, rfl, d0, hy1⟩ := hy0.inv
  obtain ⟨t0, rfl⟩ := d0
  obtain ⟨y1, r1, rfl, d1, hy2⟩ := hy1.inv
  obtain ⟨t1, rfl⟩ := d1
  obtain ⟨y2, r2, rfl, d2, hy3⟩ := hy2.inv
  obtain ⟨t2, rfl⟩ := d2
  obtain ⟨y3, r3, rfl, d3, hy4⟩ := hy3.inv
  obtain rfl := hy4.inv0
  refine enter (I₀ := [(1, .nm names0), (17, .int d), (16, .int mo), (15, .int y)]) (binds := [(Str.ofString "year", .int _ t0), (Str.ofString "month", .int _ t1), (Str.ofString "day", .int _ t2), (Str.ofString "method", y3)]) (by k_is) (by k_is) (fun s X => BindsTo.of_eq rfl) (locs rfl) (.cons (by decide) rfl d3 (.cons (by decide) rfl ⟨t2, rfl⟩ (.cons (by decide) rfl ⟨t1, rfl⟩ (.cons (by decide) rfl ⟨t0, rfl⟩ .nil)))) fun c hw hc hn => ?_
  subst hw
  have L9 : Loc c [1, 3, 4, 5, 6, 7, 8, 12, 13, 14, 15, 16, 17, 18, 19] := Loc.of hc (by decide +kernel)
  have G_DAYS_IN_YEAR := (g_DAYS_IN_YEAR c.w).gl rfl hc (by decide +kernel)
  have G_EPOCH_french_republican := (g_EPOCH_french_republican c.w).gl rfl hc (by decide +kernel)
  have G_LEAP_CYCLE_DAYS_french_republican := (g_LEAP_CYCLE_DAYS_french_republican c.w).gl rfl hc (by decide +kernel)
  have G_LEAP_CYCLE_YEARS_french_republican := (g_LEAP_CYCLE_YEARS_french_republican c.w).gl rfl hc (by decide +kernel)
  have G_trunc := (g_trunc c.w).gl rfl hc (by decide +kernel)
  refine Rt.seq (Sx.unpack (Tg.cons (L9.nm (i := 3) rfl rfl) (Tg.cons (L9.nm (i := 4) rfl rfl) (Tg.cons (L9.nm (i := 5) rfl rfl) (Tg.cons (L9.nm (i := 6) rfl rfl) (Tg.cons (L9.nm (i := 7) rfl rfl) (Tg.cons (L9.nm (i := 8) rfl rfl) Tg.nil)))))) (Evs.cons Ev.num (Evs.cons Ev.num (Evs.cons Ev.num (Evs.cons Ev.num (Evs.cons Ev.num (Evs.cons Ev.num Evs.nil)))))) rfl (by decide) (fun _ => rfl) (fun _ => rfl)) ?_
  refine Rt.seq (Sx.unpack (Tg.cons (L9.nm (i := 13) rfl rfl) (Tg.cons (L9.nm (i := 14) rfl rfl) (Tg.cons (L9.nm (i := 12) rfl rfl) Tg.nil))) (Evs.cons Ev.none (Evs.cons Ev.none (Evs.cons Ev.none Evs.nil))) rfl (by decide) (fun _ => rfl) (fun _ => swap_folded rfl)) ?_
  refine Rt.seq (Sx.ifF (Ts.orF (Ts.andF (Ts.inNm false (Ev.nm 1 (L9.nm (i := 1) rfl rfl) rfl) (Lits.int (Lits.str Lits.nil)) (by decide +kernel) rfl)) (Ts.orF (Ts.andF (Ts.inNm false (Ev.nm 1 (L9.nm (i := 1) rfl rfl) rfl) (Lits.int (Lits.str Lits.nil)) (by decide +kernel) rfl)) Ts.or0)) Fl.nil) ?_
  refine Rt.seq (Sx.ifT (Ts.inNm true (Ev.nm 1 (L9.nm (i := 1) rfl rfl) rfl) (Lits.int (Lits.str Lits.nil)) (by decide +kernel) rfl) (Fl.seq (Sx.set 8 (L9.nm (i := 8) rfl rfl) (Ev.neg Ev.num) (fun _ => rfl)) Fl.nil)) ?_
  refine Rt.seq (Sx.ifF (Ts.none (Ev.nm 14 (L9.nm (i := 14) rfl rfl) rfl)) Fl.nil) ?_
  refine Rt.seq (Sx.ifF (Ts.none (Ev.nm 13 (L9.nm (i := 13) rfl rfl) rfl)) Fl.nil) ?_
  refine Rt.seq (Sx.ifF (Ts.none (Ev.nm 12 (L9.nm (i := 12) rfl rfl) rfl)) Fl.nil) ?_
  refine Rt.seq (Sx.set 6 (L9.nm (i := 6) rfl rfl) (Ev.mulR (Ev.call (Ev.gl G_trunc) (Evs.cons (Ev.nm 15 (L9.nm (i := 15) rfl rfl) rfl) (Evs.cons (Ev.gl G_LEAP_CYCLE_YEARS_french_republican) Evs.nil)) (v_trunc _ _ _ (by omega) (by decide) (by decide)) (by omega) (k_trunc _)) (Ev.gl G_LEAP_CYCLE_DAYS_french_republican)) (fun _ => rfl)) ?_
  refine Rt.seq (Sx.set 15 (L9.nm (i := 15) rfl rfl) (Ev.mod (Ev.nm 15 (L9.nm (i := 15) rfl rfl) rfl) (Ev.gl G_LEAP_CYCLE_YEARS_french_republican)) (fun _ => rfl)) ?_
  refine Rt.seq (Sx.set 7 (L9.nm (i := 7) rfl rfl) (Ev.mulR (Ev.nm 15 (L9.nm (i := 15) rfl rfl) rfl) (Ev.gl G_DAYS_IN_YEAR)) (fun _ => rfl)) ?_
  refine Rt.seq (Sx.set 18 (L9.nm (i := 18) rfl rfl) (Ev.add (Ev.add (Ev.add (Ev.add (Ev.add (Ev.nm 3 (L9.nm (i := 3) rfl rfl) rfl) (Ev.nm 4 (L9.nm (i := 4) rfl rfl) rfl)) (Ev.nm 5 (L9.nm (i := 5) rfl rfl) rfl)) (Ev.nm 6 (L9.nm (i := 6) rfl rfl) rfl)) (Ev.nm 7 (L9.nm (i := 7) rfl rfl) rfl)) (Ev.nm 8 (L9.nm (i := 8) rfl rfl) rfl)) (fun _ => rfl)) ?_
  refine Rt.seq (Sx.set 19 (L9.nm (i := 19) rfl rfl) (Ev.mulR (Ev.sub (Ev.nm 16 (L9.nm (i := 16) rfl rfl) rfl) Ev.num) Ev.num) (fun _ => rfl)) ?_
  refine Rt.eq (Rt.ret (Ev.sub (Ev.add (Ev.add (Ev.add (Ev.gl G_EPOCH_french_republican) (Ev.nm 18 (L9.nm (i := 18) rfl rfl) rfl)) (Ev.nm 19 (L9.nm (i := 19) rfl rfl) rfl)) (Ev.nm 17 (L9.nm (i := 17) rfl rfl) rfl)) Ev.num)) ?_
  exact congrArg V.int (by rw [first0]; omega)
theorem v_stoL1 (w : World) (y mo d : Int) (hy : 1 ≤ y) (hy2 : y < 15) : CallV 3 w 73 [.int y, .int mo, .int d, .nm names1] (.int (first0 y + 30 * (mo - 1) + d - 1)) := by
  refine ⟨?_⟩
  unfold Call
  k_fill
  intro n0 ys hy0
  obtain ⟨y0, r0, rfl, d0, hy1⟩ := hy0.inv
  obtain ⟨t0, rfl⟩ := d0
  obtain ⟨y1, r1, rfl, d1, hy2⟩ := hy1.inv
  obtain ⟨t1, rfl⟩ := d1
  obtain ⟨y2, r2, rfl, d2, hy3⟩ := hy2.inv
  obtain ⟨t2, rfl⟩ := d2
  obtain ⟨y3, r3, rfl, d3, hy4⟩ := hy3.inv
  obtain rfl := hy4.inv0
  refine enter (I₀ := [(1, .nm names1), (17, .int d), (16, .int mo), (15, .int y)]) (binds := [(Str.ofString "year", .int _ t0), (Str.ofString "month", .int _ t1), (Str.ofString "day", .int _ t2), (Str.ofString "method", y3)]) (by k_is) (by k_is) (fun s X => BindsTo.of_eq rfl) (locs rfl) (.cons (by decide) rfl d3 (.cons (by decide) rfl ⟨t2, rfl⟩ (.cons (by decide) rfl ⟨t1, rfl⟩ (.cons (by decide) rfl ⟨t0, rfl⟩ .nil)))) fun c hw hc hn => ?_
  subst hw
  have L9 : Loc c [1, 3, 4, 5, 6, 7, 8, 12, 13, 14, 15, 16, 17, 18, 19] := Loc.of hc (by decide +kernel)
  have G_DAYS_IN_YEAR := (g_DAYS_IN_YEAR c.w).gl rfl hc (by decide +kernel)
  have G_EPOCH_french_republican := (g_EPOCH_french_republican c.w).gl rfl hc (by decide +kernel)
  have G_LEAP_CYCLE_DAYS_french_republican := (g_LEAP_CYCLE_DAYS_french_republican c.w).gl rfl hc (by decide +kernel)
  have G_LEAP_CYCLE_YEARS_french_republican := (g_LEAP_CYCLE_YEARS_french_republican c.w).gl rfl hc (by decide +kernel)
  have G_trunc := (g_trunc c.w).gl rfl hc (by decide +kernel)
  refine Rt.seq (Sx.unpack (Tg.cons (L9.nm (i := 3) rfl rfl) (Tg.cons (L9.nm (i := 4) rfl rfl) (Tg.cons (L9.nm (i := 5) rfl rfl) (Tg.cons (L9.nm (i := 6) rfl rfl) (Tg.cons (L9.nm (i := 7) rfl rfl) (Tg.cons (L9.nm (i := 8) rfl rfl) Tg.nil)))))) (Evs.cons Ev.num (Evs.cons Ev.num (Evs.cons Ev.num (Evs.cons Ev.num (Evs.cons Ev.num (Evs.cons Ev.num Evs.nil)))))) rfl (by decide) (fun _ => rfl) (fun _ => rfl)) ?_
  refine Rt.seq (Sx.unpack (Tg.cons (L9.nm (i := 13) rfl rfl) (Tg.cons (L9.nm (i := 14) rfl rfl) (Tg.cons (L9.nm (i := 12) rfl rfl) Tg.nil))) (Evs.cons Ev.none (Evs.cons Ev.none (Evs.cons Ev.none Evs.nil))) rfl (by decide) (fun _ => rfl) (fun _ => swap_folded rfl)) ?_
  refine Rt.seq (Sx.ifT (Ts.orT (Ts.andT (Ts.inNm true (Ev.nm 1 (L9.nm (i := 1) rfl rfl) rfl) (Lits.int (Lits.str Lits.nil)) (by decide +kernel) rfl) (Ts.andT (Ts.cmp (Ev.nm 15 (L9.nm (i := 15) rfl rfl) rfl) Ev.num (cLtT (by omega))) Ts.and0))) (Fl.seq (Sx.set 1 (L9.nm (i := 1) rfl rfl) Ev.num (fun _ => rfl)) Fl.nil)) ?_
  refine Rt.seq (Sx.ifT (Ts.inInt true (Ev.nm 1 (L9.nm (i := 1) rfl rfl) rfl) (Lits.int (Lits.str Lits.nil)) (by decide +kernel) (by decide +kernel) rfl) (Fl.seq (Sx.set 8 (L9.nm (i := 8) rfl rfl) (Ev.neg Ev.num) (fun _ => rfl)) Fl.nil)) ?_
  refine Rt.seq (Sx.ifF (Ts.none (Ev.nm 14 (L9.nm (i := 14) rfl rfl) rfl)) Fl.nil) ?_
  refine Rt.seq (Sx.ifF (Ts.none (Ev.nm 13 (L9.nm (i := 13) rfl rfl) rfl)) Fl.nil) ?_
  refine Rt.seq (Sx.ifF (Ts.none (Ev.nm 12 (L9.nm (i := 12) rfl rfl) rfl)) Fl.nil) ?_
  refine Rt.seq (Sx.set 6 (L9.nm (i := 6) rfl rfl) (Ev.mulR (Ev.call (Ev.gl G_trunc) (Evs.cons (Ev.nm 15 (L9.nm (i := 15) rfl rfl) rfl) (Evs.cons (Ev.gl G_LEAP_CYCLE_YEARS_french_republican) Evs.nil)) (v_trunc _ _ _ (by omega) (by decide) (by decide)) (by omega) (k_trunc _)) (Ev.gl G_LEAP_CYCLE_DAYS_french_republican)) (fun _ => rfl)) ?_
  refine Rt.seq (Sx.set 15 (L9.nm (i := 15) rfl rfl) (Ev.mod (Ev.nm 15 (L9.nm (i := 15) rfl rfl) rfl) (Ev.gl G_LEAP_CYCLE_YEARS_french_republican)) (fun _ => rfl)) ?_
  refine Rt.seq (Sx.set 7 (L9.nm (i := 7) rfl rfl) (Ev.mulR (Ev.nm 15 (L9.nm (i := 15) rfl rfl) rfl) (Ev.gl G_DAYS_IN_YEAR)) (fun _ => rfl)) ?_
  refine Rt.seq (Sx.set 18 (L9.nm (i := 18) rfl rfl) (Ev.add (Ev.add (Ev.add (Ev.add (Ev.add (Ev.nm 3 (L9.nm (i := 3) rfl rfl) rfl) (Ev.nm 4 (L9.nm (i := 4) rfl rfl) rfl)) (Ev.nm 5 (L9.nm (i := 5) rfl rfl) rfl)) (Ev.nm 6 (L9.nm (i := 6) rfl rfl) rfl)) (Ev.nm 7 (L9.nm (i := 7) rfl rfl) rfl)) (Ev.nm 8 (L9.nm (i := 8) rfl rfl) rfl)) (fun _ => rfl)) ?_
  refine Rt.seq (Sx.set 19 (L9.nm (i := 19) rfl rfl) (Ev.mulR (Ev.sub (Ev.nm 16 (L9.nm (i := 16) rfl rfl) rfl) Ev.num) Ev.num) (fun _ => rfl)) ?_
  refine Rt.eq (Rt.ret (Ev.sub (Ev.add (Ev.add (Ev.add (Ev.gl G_EPOCH_french_republican) (Ev.nm 18 (L9.nm (i := 18) rfl rfl) rfl)) (Ev.nm 19 (L9.nm (i := 19) rfl rfl) rfl)) (Ev.nm 17 (L9.nm (i := 17) rfl rfl) rfl)) Ev.num)) ?_
  exact congrArg V.int (by rw [first0]; omega)
theorem v_stoL2 (w : World) (y mo d : Int) (hy : 1 ≤ y) (hy2 : y < 17) : CallV 3 w 73 [.int y, .int mo, .int d, .nm names2] (.int (first0 y + 30 * (mo - 1) + d - 1)) := by
  refine ⟨?_⟩
  unfold Call
  k_fill
  intro n0 ys hy0
  obtain ⟨y0, r0, rfl, d0, hy1⟩ := hy0.inv
  obtain ⟨t0, rfl⟩ := d0
  obtain ⟨y1, r1, rfl, d1, hy2⟩ := hy1.inv
  obtain ⟨t1, rfl⟩ := d1
  obtain ⟨y2, r2, rfl, d2, hy3⟩ := hy2.inv
  obtain ⟨t2, rfl⟩ := d2
  obtain ⟨y3, r3, rfl, d3, hy4⟩ := hy3.inv
  obtain rfl := hy4.inv0
  refine enter (I₀ := [(1, .nm names2), (17, .int d), (16, .int mo), (15, .int y)]) (binds := [(Str.ofString "year", .int _ t0), (Str.ofString "month", .int _ t1), (Str.ofString "day", .int _ t2), (Str.ofString "method", y3)]) (by k_is) (by k_is) (fun s X => BindsTo.of_eq rfl) (locs rfl) (.cons (by decide) rfl d3 (.cons (by decide) rfl ⟨t2, rfl⟩ (.cons (by decide) rfl ⟨t1, rfl⟩ (.cons (by decide) rfl ⟨t0, rfl⟩ .nil)))) fun c hw hc hn => ?_
  subst hw
  have L9 : Loc c [1, 3, 4, 5, 6, 7, 8, 12, 13, 14, 15, 16, 17, 18, 19] := Loc.of hc (by decide +kernel)
  have G_DAYS_IN_YEAR := (g_DAYS_IN_YEAR c.w).gl rfl hc (by decide +kernel)
  have G_EPOCH_french_republican := (g_EPOCH_french_republican c.w).gl rfl hc (by decide +kernel)
  have G_LEAP_CYCLE_DAYS_french_republican := (g_LEAP_CYCLE_DAYS_french_republican c.w).gl rfl hc (by decide +kernel)
  have G_LEAP_CYCLE_YEARS_french_republican := (g_LEAP_CYCLE_YEARS_french_republican c.w).gl rfl hc (by decide +kernel)
  have G_trunc := (g_trunc c.w).gl rfl hc (by decide +kernel)
  refine Rt.seq (Sx.unpack (Tg.cons (L9.nm (i := 3) rfl rfl) (Tg.cons (L9.nm (i := 4) rfl rfl) (Tg.cons (L9.nm (i := 5) rfl rfl) (Tg.cons (L9.nm (i := 6) rfl rfl) (Tg.cons (L9.nm (i := 7) rfl rfl) (Tg.cons (L9.nm (i := 8) rfl rfl) Tg.nil)))))) (Evs.cons Ev.num (Evs.cons Ev.num (Evs.cons Ev.num (Evs.cons Ev.num (Evs.cons Ev.num (Evs.cons Ev.num Evs.nil)))))) rfl (by decide) (fun _ => rfl) (fun _ => rfl)) ?_
  refine Rt.seq (Sx.unpack (Tg.cons (L9.nm (i := 13) rfl rfl) (Tg.cons (L9.nm (i := 14) rfl rfl) (Tg.cons (L9.nm (i := 12) rfl rfl) Tg.nil))) (Evs.cons Ev.none (Evs.cons Ev.none (Evs.cons Ev.none Evs.nil))) rfl (by decide) (fun _ => rfl) (fun _ => swap_folded rfl)) ?_
  refine Rt.seq (Sx.ifT (Ts.orF (Ts.andF (Ts.inNm false (Ev.nm 1 (L9.nm (i := 1) rfl rfl) rfl) (Lits.int (Lits.str Lits.nil)) (by decide +kernel) rfl)) (Ts.orT (Ts.andT (Ts.inNm true (Ev.nm 1 (L9.nm (i := 1) rfl rfl) rfl) (Lits.int (Lits.str Lits.nil)) (by decide +kernel) rfl) (Ts.andT (Ts.cmp (Ev.nm 15 (L9.nm (i := 15) rfl rfl) rfl) Ev.num (cLtT (by omega))) Ts.and0)))) (Fl.seq (Sx.set 1 (L9.nm (i := 1) rfl rfl) Ev.num (fun _ => rfl)) Fl.nil)) ?_
  refine Rt.seq (Sx.ifT (Ts.inInt true (Ev.nm 1 (L9.nm (i := 1) rfl rfl) rfl) (Lits.int (Lits.str Lits.nil)) (by decide +kernel) (by decide +kernel) rfl) (Fl.seq (Sx.set 8 (L9.nm (i := 8) rfl rfl) (Ev.neg Ev.num) (fun _ => rfl)) Fl.nil)) ?_
  refine Rt.seq (Sx.ifF (Ts.none (Ev.nm 14 (L9.nm (i := 14) rfl rfl) rfl)) Fl.nil) ?_
  refine Rt.seq (Sx.ifF (Ts.none (Ev.nm 13 (L9.nm (i := 13) rfl rfl) rfl)) Fl.nil) ?_
  refine Rt.seq (Sx.ifF (Ts.none (Ev.nm 12 (L9.nm (i := 12) rfl rfl) rfl)) Fl.nil) ?_
  refine Rt.seq (Sx.set 6 (L9.nm (i := 6) rfl rfl) (Ev.mulR (Ev.call (Ev.gl G_trunc) (Evs.cons (Ev.nm 15 (L9.nm (i := 15) rfl rfl) rfl) (Evs.cons (Ev.gl G_LEAP_CYCLE_YEARS_french_republican) Evs.nil)) (v_trunc _ _ _ (by omega) (by decide) (by decide)) (by omega) (k_trunc _)) (Ev.gl G_LEAP_CYCLE_DAYS_french_republican)) (fun _ => rfl)) ?_
  refine Rt.seq (Sx.set 15 (L9.nm (i := 15) rfl rfl) (Ev.mod (Ev.nm 15 (L9.nm (i := 15) rfl rfl) rfl) (Ev.gl G_LEAP_CYCLE_YEARS_french_republican)) (fun _ => rfl)) ?_
  refine Rt.seq (Sx.set 7 (L9.nm (i := 7) rfl rfl) (Ev.mulR (Ev.nm 15 (L9.nm (i := 15) rfl rfl) rfl) (Ev.gl G_DAYS_IN_YEAR)) (fun _ => rfl)) ?_
  refine Rt.seq (Sx.set 18 (L9.nm (i := 18) rfl rfl) (Ev.add (Ev.add (Ev.add (Ev.add (Ev.add (Ev.nm 3 (L9.nm (i := 3) rfl rfl) rfl) (Ev.nm 4 (L9.nm (i := 4) rfl rfl) rfl)) (Ev.nm 5 (L9.nm (i := 5) rfl rfl) rfl)) (Ev.nm 6 (L9.nm (i := 6) rfl rfl) rfl)) (Ev.nm 7 (L9.nm (i := 7) rfl rfl) rfl)) (Ev.nm 8 (L9.nm (i := 8) rfl rfl) rfl)) (fun _ => rfl)) ?_
  refine Rt.seq (Sx.set 19 (L9.nm (i := 19) rfl rfl) (Ev.mulR (Ev.sub (Ev.nm 16 (L9.nm (i := 16) rfl rfl) rfl) Ev.num) Ev.num) (fun _ => rfl)) ?_
  refine Rt.eq (Rt.ret (Ev.sub (Ev.add (Ev.add (Ev.add (Ev.gl G_EPOCH_french_republican) (Ev.nm 18 (L9.nm (i := 18) rfl rfl) rfl)) (Ev.nm 19 (L9.nm (i := 19) rfl rfl) rfl)) (Ev.nm 17 (L9.nm (i := 17) rfl rfl) rfl)) Ev.num)) ?_
  exact congrArg V.int (by rw [first0]; omega)
theorem v_sto1b (w : World) (y mo d : Int) (hy : 15 ≤ y) (hy2 : y ≤ 100) : CallV 3 w 73 [.int y, .int mo, .int d, .nm names1] (.int (first1 y + 30 * (mo - 1) + d - 1)) := by
  refine ⟨?_⟩
  unfold Call
  k_fill
  intro n0 ys hy0
  obtain ⟨y0, r0, rfl, d0, hy1⟩ := hy0.inv
  obtain ⟨t0, rfl⟩ := d0
  obtain ⟨y1, r1, rfl, d1, hy2⟩ := hy1.inv
  obtain ⟨t1, rfl⟩ := d1
  obtain ⟨y2, r2, rfl, d2, hy3⟩ := hy2.inv
  obtain ⟨t2, rfl⟩ := d2
  obtain ⟨y3, r3, rfl, d3, hy4⟩ := hy3.inv
  obtain rfl := hy4.inv0
  refine enter (I₀ := [(1, .nm names1), (17, .int d), (16, .int mo), (15, .int y)]) (binds := [(Str.ofString "year", .int _ t0), (Str.ofString "month", .int _ t1), (Str.ofString "day", .int _ t2), (Str.ofString "method", y3)]) (by k_is) (by k_is) (fun s X => BindsTo.of_eq rfl) (locs rfl) (.cons (by decide) rfl d3 (.cons (by decide) rfl ⟨t2, rfl⟩ (.cons (by decide) rfl ⟨t1, rfl⟩ (.cons (by decide) rfl ⟨t0, rfl⟩ .nil)))) fun c hw hc hn => ?_
  subst hw
  have L9 : Loc c [1, 3, 4, 5, 6, 7, 8, 9, 10, 11, 12, 13, 14, 15, 16, 17, 18, 19] := Loc.of hc (by decide +kernel)
  have G_DAYS_IN_YEAR := (g_DAYS_IN_YEAR c.w).gl rfl hc (by decide +kernel)
  have G_EPOCH_french_republican := (g_EPOCH_french_republican c.w).gl rfl hc (by decide +kernel)
  have G_LEAP_CYCLE_DAYS_french_republican := (g_LEAP_CYCLE_DAYS_french_republican c.w).gl rfl hc (by decide +kernel)
  have G_LEAP_CYCLE_YEARS_french_republican := (g_LEAP_CYCLE_YEARS_french_republican c.w).gl rfl hc (by decide +kernel)
  have G_trunc := (g_trunc c.w).gl rfl hc (by decide +kernel)
  refine Rt.seq (Sx.unpack (Tg.cons (L9.nm (i := 3) rfl rfl) (Tg.cons (L9.nm (i := 4) rfl rfl) (Tg.cons (L9.nm (i := 5) rfl rfl) (Tg.cons (L9.nm (i := 6) rfl rfl) (Tg.cons (L9.nm (i := 7) rfl rfl) (Tg.cons (L9.nm (i := 8) rfl rfl) Tg.nil)))))) (Evs.cons Ev.num (Evs.cons Ev.num (Evs.cons Ev.num (Evs.cons Ev.num (Evs.cons Ev.num (Evs.cons Ev.num Evs.nil)))))) rfl (by decide) (fun _ => rfl) (fun _ => rfl)) ?_
  refine Rt.seq (Sx.unpack (Tg.cons (L9.nm (i := 13) rfl rfl) (Tg.cons (L9.nm (i := 14) rfl rfl) (Tg.cons (L9.nm (i := 12) rfl rfl) Tg.nil))) (Evs.cons Ev.none (Evs.cons Ev.none (Evs.cons Ev.none Evs.nil))) rfl (by decide) (fun _ => rfl) (fun _ => swap_folded rfl)) ?_
  refine Rt.seq (Sx.ifF (Ts.orF (Ts.andT (Ts.inNm true (Ev.nm 1 (L9.nm (i := 1) rfl rfl) rfl) (Lits.int (Lits.str Lits.nil)) (by decide +kernel) rfl) (Ts.andF (Ts.cmp (Ev.nm 15 (L9.nm (i := 15) rfl rfl) rfl) Ev.num (cLtF (by omega))))) (Ts.orF (Ts.andF (Ts.inNm false (Ev.nm 1 (L9.nm (i := 1) rfl rfl) rfl) (Lits.int (Lits.str Lits.nil)) (by decide +kernel) rfl)) Ts.or0)) Fl.nil) ?_
  refine Rt.seq (Sx.ifF (Ts.inNm false (Ev.nm 1 (L9.nm (i := 1) rfl rfl) rfl) (Lits.int (Lits.str Lits.nil)) (by decide +kernel) rfl) (Fl.seq (Sx.ifT (Ts.inNm true (Ev.nm 1 (L9.nm (i := 1) rfl rfl) rfl) (Lits.int (Lits.str Lits.nil)) (by decide +kernel) rfl) (Fl.seq (Sx.set 15 (L9.nm (i := 15) rfl rfl) (Ev.eq (v := .int (y - 13)) (Ev.sub (Ev.nm 15 (L9.nm (i := 15) rfl rfl) rfl) Ev.num) (congrArg V.int (by omega))) (fun _ => rfl)) (Fl.seq (Sx.set 8 (L9.nm (i := 8) rfl rfl) (Ev.add (Ev.mulR (Ev.gl G_DAYS_IN_YEAR) Ev.num) Ev.num) (fun _ => rfl)) (Fl.seq (Sx.set 12 (L9.nm (i := 12) rfl rfl) Ev.num (fun _ => rfl)) (Fl.seq (Sx.set 10 (L9.nm (i := 10) rfl rfl) Ev.num (fun _ => rfl)) (Fl.seq (Sx.set 13 (L9.nm (i := 13) rfl rfl) Ev.num (fun _ => rfl)) (Fl.seq (Sx.set 9 (L9.nm (i := 9) rfl rfl) Ev.num (fun _ => rfl)) (Fl.seq (Sx.set 14 (L9.nm (i := 14) rfl rfl) Ev.num (fun _ => rfl)) (Fl.seq (Sx.set 11 (L9.nm (i := 11) rfl rfl) Ev.num (fun _ => rfl)) Fl.nil))))))))) Fl.nil)) ?_
  refine Rt.seq (Sx.ifT (Ts.int (Ev.nm 14 (L9.nm (i := 14) rfl rfl) rfl) (neT (by omega))) (Fl.seq (Sx.set 3 (L9.nm (i := 3) rfl rfl) (Ev.eq (v := .int (0)) (Ev.mulR (Ev.call (Ev.gl G_trunc) (Evs.cons (Ev.nm 15 (L9.nm (i := 15) rfl rfl) rfl) (Evs.cons (Ev.nm 14 (L9.nm (i := 14) rfl rfl) rfl) Evs.nil)) (v_trunc _ _ _ (by omega) (by decide) (by decide)) (by omega) (k_trunc _)) (Ev.nm 11 (L9.nm (i := 11) rfl rfl) rfl)) (congrArg V.int (by omega))) (fun _ => rfl)) (Fl.seq (Sx.set 15 (L9.nm (i := 15) rfl rfl) (Ev.eq (v := .int (y - 13)) (Ev.mod (Ev.nm 15 (L9.nm (i := 15) rfl rfl) rfl) (Ev.nm 14 (L9.nm (i := 14) rfl rfl) rfl)) (congrArg V.int (by omega))) (fun _ => rfl)) Fl.nil))) ?_
  refine Rt.seq (Sx.ifT (Ts.int (Ev.nm 13 (L9.nm (i := 13) rfl rfl) rfl) (neT (by omega))) (Fl.seq (Sx.set 4 (L9.nm (i := 4) rfl rfl) (Ev.eq (v := .int (0)) (Ev.mulR (Ev.call (Ev.gl G_trunc) (Evs.cons (Ev.nm 15 (L9.nm (i := 15) rfl rfl) rfl) (Evs.cons (Ev.nm 13 (L9.nm (i := 13) rfl rfl) rfl) Evs.nil)) (v_trunc _ _ _ (by omega) (by decide) (by decide)) (by omega) (k_trunc _)) (Ev.nm 9 (L9.nm (i := 9) rfl rfl) rfl)) (congrArg V.int (by omega))) (fun _ => rfl)) (Fl.seq (Sx.set 15 (L9.nm (i := 15) rfl rfl) (Ev.eq (v := .int (y - 13)) (Ev.mod (Ev.nm 15 (L9.nm (i := 15) rfl rfl) rfl) (Ev.nm 13 (L9.nm (i := 13) rfl rfl) rfl)) (congrArg V.int (by omega))) (fun _ => rfl)) Fl.nil))) ?_
  refine Rt.seq (Sx.ifT (Ts.int (Ev.nm 12 (L9.nm (i := 12) rfl rfl) rfl) (neT (by omega))) (Fl.seq (Sx.set 5 (L9.nm (i := 5) rfl rfl) (Ev.eq (v := .int (0)) (Ev.mulR (Ev.call (Ev.gl G_trunc) (Evs.cons (Ev.nm 15 (L9.nm (i := 15) rfl rfl) rfl) (Evs.cons (Ev.nm 12 (L9.nm (i := 12) rfl rfl) rfl) Evs.nil)) (v_trunc _ _ _ (by omega) (by decide) (by decide)) (by omega) (k_trunc _)) (Ev.nm 10 (L9.nm (i := 10) rfl rfl) rfl)) (congrArg V.int (by omega))) (fun _ => rfl)) (Fl.seq (Sx.set 15 (L9.nm (i := 15) rfl rfl) (Ev.eq (v := .int (y - 13)) (Ev.mod (Ev.nm 15 (L9.nm (i := 15) rfl rfl) rfl) (Ev.nm 12 (L9.nm (i := 12) rfl rfl) rfl)) (congrArg V.int (by omega))) (fun _ => rfl)) Fl.nil))) ?_
  refine Rt.seq (Sx.set 6 (L9.nm (i := 6) rfl rfl) (Ev.mulR (Ev.call (Ev.gl G_trunc) (Evs.cons (Ev.nm 15 (L9.nm (i := 15) rfl rfl) rfl) (Evs.cons (Ev.gl G_LEAP_CYCLE_YEARS_french_republican) Evs.nil)) (v_trunc _ _ _ (by omega) (by decide) (by decide)) (by omega) (k_trunc _)) (Ev.gl G_LEAP_CYCLE_DAYS_french_republican)) (fun _ => rfl)) ?_
  refine Rt.seq (Sx.set 15 (L9.nm (i := 15) rfl rfl) (Ev.mod (Ev.nm 15 (L9.nm (i := 15) rfl rfl) rfl) (Ev.gl G_LEAP_CYCLE_YEARS_french_republican)) (fun _ => rfl)) ?_
  refine Rt.seq (Sx.set 7 (L9.nm (i := 7) rfl rfl) (Ev.mulR (Ev.nm 15 (L9.nm (i := 15) rfl rfl) rfl) (Ev.gl G_DAYS_IN_YEAR)) (fun _ => rfl)) ?_
  refine Rt.seq (Sx.set 18 (L9.nm (i := 18) rfl rfl) (Ev.add (Ev.add (Ev.add (Ev.add (Ev.add (Ev.nm 3 (L9.nm (i := 3) rfl rfl) rfl) (Ev.nm 4 (L9.nm (i := 4) rfl rfl) rfl)) (Ev.nm 5 (L9.nm (i := 5) rfl rfl) rfl)) (Ev.nm 6 (L9.nm (i := 6) rfl rfl) rfl)) (Ev.nm 7 (L9.nm (i := 7) rfl rfl) rfl)) (Ev.nm 8 (L9.nm (i := 8) rfl rfl) rfl)) (fun _ => rfl)) ?_
  refine Rt.seq (Sx.set 19 (L9.nm (i := 19) rfl rfl) (Ev.mulR (Ev.sub (Ev.nm 16 (L9.nm (i := 16) rfl rfl) rfl) Ev.num) Ev.num) (fun _ => rfl)) ?_
  refine Rt.eq (Rt.ret (Ev.sub (Ev.add (Ev.add (Ev.add (Ev.gl G_EPOCH_french_republican) (Ev.nm 18 (L9.nm (i := 18) rfl rfl) rfl)) (Ev.nm 19 (L9.nm (i := 19) rfl rfl) rfl)) (Ev.nm 17 (L9.nm (i := 17) rfl rfl) rfl)) Ev.num)) ?_
  exact congrArg V.int (by rw [first1, if_neg (by omega)]; omega)
theorem v_sto2b (w : World) (y mo d : Int) (hy : 17 ≤ y) (hy2 : y ≤ 128) : CallV 3 w 73 [.int y, .int mo, .int d, .nm names2] (.int (first2 y + 30 * (mo - 1) + d - 1)) := by
  refine ⟨?_⟩
  unfold Call
  k_fill
  intro n0 ys hy0
  obtain ⟨y0, r0, rfl, d0, hy1⟩ := hy0.inv
  obtain ⟨t0, rfl⟩ := d0
  obtain ⟨y1, r1, rfl, d1, hy2⟩ := hy1.inv
  obtain ⟨t1, rfl⟩ := d1
  obtain ⟨y2, r2, rfl, d2, hy3⟩ := hy2.inv
  obtain ⟨t2, rfl⟩ := d2
  obtain ⟨y3, r3, rfl, d3, hy4⟩ := hy3.inv
  obtain rfl := hy4.inv0
  refine enter (I₀ := [(1, .nm names2), (17, .int d), (16, .int mo), (15, .int y)]) (binds := [(Str.ofString "year", .int _ t0), (Str.ofString "month", .int _ t1), (Str.ofString "day", .int _ t2), (Str.ofString "method", y3)]) (by k_is) (by k_is) (fun s X => BindsTo.of_eq rfl) (locs rfl) (.cons (by decide) rfl d3 (.cons (by decide) rfl ⟨t2, rfl⟩ (.cons (by decide) rfl ⟨t1, rfl⟩ (.cons (by decide) rfl ⟨t0, rfl⟩ .nil)))) fun c hw hc hn => ?_
  subst hw
  have L9 : Loc c [1, 3, 4, 5, 6, 7, 8, 10, 12, 13, 14, 15, 16, 17, 18, 19] := Loc.of hc (by decide +kernel)
  have G_DAYS_IN_YEAR := (g_DAYS_IN_YEAR c.w).gl rfl hc (by decide +kernel)
  have G_EPOCH_french_republican := (g_EPOCH_french_republican c.w).gl rfl hc (by decide +kernel)
  have G_LEAP_CYCLE_DAYS_french_republican := (g_LEAP_CYCLE_DAYS_french_republican c.w).gl rfl hc (by decide +kernel)
  have G_LEAP_CYCLE_YEARS_french_republican := (g_LEAP_CYCLE_YEARS_french_republican c.w).gl rfl hc (by decide +kernel)
  have G_trunc := (g_trunc c.w).gl rfl hc (by decide +kernel)
  refine Rt.seq (Sx.unpack (Tg.cons (L9.nm (i := 3) rfl rfl) (Tg.cons (L9.nm (i := 4) rfl rfl) (Tg.cons (L9.nm (i := 5) rfl rfl) (Tg.cons (L9.nm (i := 6) rfl rfl) (Tg.cons (L9.nm (i := 7) rfl rfl) (Tg.cons (L9.nm (i := 8) rfl rfl) Tg.nil)))))) (Evs.cons Ev.num (Evs.cons Ev.num (Evs.cons Ev.num (Evs.cons Ev.num (Evs.cons Ev.num (Evs.cons Ev.num Evs.nil)))))) rfl (by decide) (fun _ => rfl) (fun _ => rfl)) ?_
  refine Rt.seq (Sx.unpack (Tg.cons (L9.nm (i := 13) rfl rfl) (Tg.cons (L9.nm (i := 14) rfl rfl) (Tg.cons (L9.nm (i := 12) rfl rfl) Tg.nil))) (Evs.cons Ev.none (Evs.cons Ev.none (Evs.cons Ev.none Evs.nil))) rfl (by decide) (fun _ => rfl) (fun _ => swap_folded rfl)) ?_
  refine Rt.seq (Sx.ifF (Ts.orF (Ts.andF (Ts.inNm false (Ev.nm 1 (L9.nm (i := 1) rfl rfl) rfl) (Lits.int (Lits.str Lits.nil)) (by decide +kernel) rfl)) (Ts.orF (Ts.andT (Ts.inNm true (Ev.nm 1 (L9.nm (i := 1) rfl rfl) rfl) (Lits.int (Lits.str Lits.nil)) (by decide +kernel) rfl) (Ts.andF (Ts.cmp (Ev.nm 15 (L9.nm (i := 15) rfl rfl) rfl) Ev.num (cLtF (by omega))))) Ts.or0)) Fl.nil) ?_
  refine Rt.seq (Sx.ifF (Ts.inNm false (Ev.nm 1 (L9.nm (i := 1) rfl rfl) rfl) (Lits.int (Lits.str Lits.nil)) (by decide +kernel) rfl) (Fl.seq (Sx.ifF (Ts.inNm false (Ev.nm 1 (L9.nm (i := 1) rfl rfl) rfl) (Lits.int (Lits.str Lits.nil)) (by decide +kernel) rfl) (Fl.seq (Sx.ifT (Ts.inNm true (Ev.nm 1 (L9.nm (i := 1) rfl rfl) rfl) (Lits.int (Lits.str Lits.nil)) (by decide +kernel) rfl) (Fl.seq (Sx.set 15 (L9.nm (i := 15) rfl rfl) (Ev.eq (v := .int (y - 17)) (Ev.sub (Ev.nm 15 (L9.nm (i := 15) rfl rfl) rfl) Ev.num) (congrArg V.int (by omega))) (fun _ => rfl)) (Fl.seq (Sx.set 8 (L9.nm (i := 8) rfl rfl) (Ev.add (Ev.mulR (Ev.gl G_DAYS_IN_YEAR) Ev.num) Ev.num) (fun _ => rfl)) (Fl.seq (Sx.set 10 (L9.nm (i := 10) rfl rfl) Ev.num (fun _ => rfl)) (Fl.seq (Sx.set 12 (L9.nm (i := 12) rfl rfl) Ev.num (fun _ => rfl)) Fl.nil))))) Fl.nil)) Fl.nil)) ?_
  refine Rt.seq (Sx.ifF (Ts.none (Ev.nm 14 (L9.nm (i := 14) rfl rfl) rfl)) Fl.nil) ?_
  refine Rt.seq (Sx.ifF (Ts.none (Ev.nm 13 (L9.nm (i := 13) rfl rfl) rfl)) Fl.nil) ?_
  refine Rt.seq (Sx.ifT (Ts.int (Ev.nm 12 (L9.nm (i := 12) rfl rfl) rfl) (neT (by omega))) (Fl.seq (Sx.set 5 (L9.nm (i := 5) rfl rfl) (Ev.eq (v := .int (0)) (Ev.mulR (Ev.call (Ev.gl G_trunc) (Evs.cons (Ev.nm 15 (L9.nm (i := 15) rfl rfl) rfl) (Evs.cons (Ev.nm 12 (L9.nm (i := 12) rfl rfl) rfl) Evs.nil)) (v_trunc _ _ _ (by omega) (by decide) (by decide)) (by omega) (k_trunc _)) (Ev.nm 10 (L9.nm (i := 10) rfl rfl) rfl)) (congrArg V.int (by omega))) (fun _ => rfl)) (Fl.seq (Sx.set 15 (L9.nm (i := 15) rfl rfl) (Ev.eq (v := .int (y - 17)) (Ev.mod (Ev.nm 15 (L9.nm (i := 15) rfl rfl) rfl) (Ev.nm 12 (L9.nm (i := 12) rfl rfl) rfl)) (congrArg V.int (by omega))) (fun _ => rfl)) Fl.nil))) ?_
  refine Rt.seq (Sx.set 6 (L9.nm (i := 6) rfl rfl) (Ev.mulR (Ev.call (Ev.gl G_trunc) (Evs.cons (Ev.nm 15 (L9.nm (i := 15) rfl rfl) rfl) (Evs.cons (Ev.gl G_LEAP_CYCLE_YEARS_french_republican) Evs.nil)) (v_trunc _ _ _ (by omega) (by decide) (by decide)) (by omega) (k_trunc _)) (Ev.gl G_LEAP_CYCLE_DAYS_french_republican)) (fun _ => rfl)) ?_
  refine Rt.seq (Sx.set 15 (L9.nm (i := 15) rfl rfl) (Ev.mod (Ev.nm 15 (L9.nm (i := 15) rfl rfl) rfl) (Ev.gl G_LEAP_CYCLE_YEARS_french_republican)) (fun _ => rfl)) ?_
  refine Rt.seq (Sx.set 7 (L9.nm (i := 7) rfl rfl) (Ev.mulR (Ev.nm 15 (L9.nm (i := 15) rfl rfl) rfl) (Ev.gl G_DAYS_IN_YEAR)) (fun _ => rfl)) ?_
  refine Rt.seq (Sx.set 18 (L9.nm (i := 18) rfl rfl) (Ev.add (Ev.add (Ev.add (Ev.add (Ev.add (Ev.nm 3 (L9.nm (i := 3) rfl rfl) rfl) (Ev.nm 4 (L9.nm (i := 4) rfl rfl) rfl)) (Ev.nm 5 (L9.nm (i := 5) rfl rfl) rfl)) (Ev.nm 6 (L9.nm (i := 6) rfl rfl) rfl)) (Ev.nm 7 (L9.nm (i := 7) rfl rfl) rfl)) (Ev.nm 8 (L9.nm (i := 8) rfl rfl) rfl)) (fun _ => rfl)) ?_
  refine Rt.seq (Sx.set 19 (L9.nm (i := 19) rfl rfl) (Ev.mulR (Ev.sub (Ev.nm 16 (L9.nm (i := 16) rfl rfl) rfl) Ev.num) Ev.num) (fun _ => rfl)) ?_
  refine Rt.eq (Rt.ret (Ev.sub (Ev.add (Ev.add (Ev.add (Ev.gl G_EPOCH_french_republican) (Ev.nm 18 (L9.nm (i := 18) rfl rfl) rfl)) (Ev.nm 19 (L9.nm (i := 19) rfl rfl) rfl)) (Ev.nm 17 (L9.nm (i := 17) rfl rfl) rfl)) Ev.num)) ?_
  exact congrArg V.int (by rw [first2, if_neg (by omega)]; omega)
theorem c_sto0 (w : World) (y mo d : Int) (v : Value) (ty tm td : Tok) (hy : 1 ≤ y) (V : NameOf names0 v) : Call 3 w 73 [.int y ty, .int mo tm, .int d td, v] [] (RetI (first0 y + 30 * (mo - 1) + d - 1)) := ((v_stoL0 w y mo d hy).1 [] _ (.cons ⟨ty, rfl⟩ (.cons ⟨tm, rfl⟩ (.cons ⟨td, rfl⟩ (.cons V .nil))))).ofV
theorem c_sto1 (w : World) (y mo d : Int) (v : Value) (ty tm td : Tok) (hy : 1 ≤ y) (hy2 : y ≤ 100) (V : NameOf names1 v) : Call 3 w 73 [.int y ty, .int mo tm, .int d td, v] [] (RetI (first1 y + 30 * (mo - 1) + d - 1)) := by
  by_cases h : y < 15
  · rw [show first1 y = first0 y by unfold first1 first0; split <;> omega]; exact ((v_stoL1 w y mo d hy h).1 [] _ (.cons ⟨ty, rfl⟩ (.cons ⟨tm, rfl⟩ (.cons ⟨td, rfl⟩ (.cons V .nil))))).ofV
  · exact ((v_sto1b w y mo d (by omega) hy2).1 [] _ (.cons ⟨ty, rfl⟩ (.cons ⟨tm, rfl⟩ (.cons ⟨td, rfl⟩ (.cons V .nil))))).ofV
theorem c_sto2 (w : World) (y mo d : Int) (v : Value) (ty tm td : Tok) (hy : 1 ≤ y) (hy2 : y ≤ 128) (V : NameOf names2 v) : Call 3 w 73 [.int y ty, .int mo tm, .int d td, v] [] (RetI (first2 y + 30 * (mo - 1) + d - 1)) := by
  by_cases h : y < 17
  · rw [show first2 y = first0 y by unfold first2 first0; split <;> omega]; exact ((v_stoL2 w y mo d hy h).1 [] _ (.cons ⟨ty, rfl⟩ (.cons ⟨tm, rfl⟩ (.cons ⟨td, rfl⟩ (.cons V .nil))))).ofV
  · exact ((v_sto2b w y mo d (by omega) hy2).1 [] _ (.cons ⟨ty, rfl⟩ (.cons ⟨tm, rfl⟩ (.cons ⟨td, rfl⟩ (.cons V .nil))))).ofV
section
theorem c_to (w : World) (y mo d : Int) (v : Value) (ty tm td : Tok) (ks : List PyData) (x : Int) (b : Bool) (V : NameOf ks v) (h1 : 1 ≤ d) (h2 : d ≤ 30) (h3 : mo ≤ 13) (h4 : mo = 13 → d ≤ (if b = true then 6 else 5))
    (C : ∀ _ : Tok, Call 3 w 73 [.int y ty, .int mo tm, .int d td, v] [] (RetI x)) (CL : ∀ _ : Bool, Call 1 w 58 [.int y ty] [(Str.ofString "method", v)] (RetB b)) : Call 4 w 66 [.int y ty, .int mo tm, .int d td, v] [] (RetI x) := by
  unfold Call
  k_fill
  intro mean mg mb dp un gd cn cs aa ccd cl outer A₀ base h₀ L m news s Q E B F X N T hk hd hu hret
  have key : mo < 13 ∨ (mo = 13 ∧ b = true ∧ d ≤ 6) ∨ (mo = 13 ∧ b = false ∧ d ≤ 5) := by
    by_cases q : mo = 13
    · have q2 := h4 q
      cases b
      · exact Or.inr (Or.inr ⟨q, rfl, q2⟩)
      · exact Or.inr (Or.inl ⟨q, rfl, q2⟩)
    · exact Or.inl (by omega)
  clear h4
  rcases key with q | ⟨q, rfl, q2⟩ | ⟨q, rfl, q2⟩
  all_goals (refine wpAny_call ?_)
  all_goals (
    k_dflt (refine' code_def ?k1 ?k2 ?k3 ?k4 ?k5 ?kA ?kF ?kK ?k6 ?k7 ?k8 ?k9 ?kB ?_ ?c2 ?c3 ?c4 ?c5; (case kA => exact rfl); (case kF => exact rfl); (case kK => first | exact rfl | assumption); (case k1 => k_asm); (case k2 => k_asm); (case k3 => k_asm); (case k4 => k_asm); (case k5 => k_asm); (case k6 => k_is); (case k7 => k_is); (case k8 => ktr_room); (case k9 => first | exact BindsTo.of_eq rfl | exact binds_K (by k_in) rfl (by k_is) rfl rfl rfl); (case c5 => decide); (case kB => exact locs rfl); (case c2 => exact rfl); (case c3 => exact rfl); (case c4 => exact rfl); k_whole; intro g' L' h' FG' F' N' B' X' T'; (try dsimp only); (try k_lift B'); (try k_fold))
    (repeat' (first
      | (k_unfold; (try dsimp only))
      | (k_end; wrow_close)
      | (dsimp only; first | (k_here; first
        | ((with_reducible show wpAny _ _ (call (Value.ref _) _ _) _ _ _); (k_here; first
  | ((with_reducible show wpAny _ _ (call (Value.ref 58) _ _) _ _ _); (rename (∀ _ : Bool, Call _ _ _ _ _ _) => hC8); k_dflt (refine use (hC8 true) ?_); (try dsimp only [RetI, RetB, RetT, RetS, RetT7, RetT3]); intros; (try dsimp only); (try k_sweep))
  | ((with_reducible show wpAny _ _ (call (Value.ref 73) _ _) _ _ _); (rename (∀ _ : Tok, Call _ _ _ _ _ _) => hC9); k_dflt (refine use (hC9 0) ?_); (try dsimp only [RetI, RetB, RetT, RetS, RetT7, RetT3]); intros; (try dsimp only); (try k_sweep))))
        | ((k_here; first
  | with_reducible refine ite_tt ?_ | with_reducible refine ite_ff ?_
  | ((with_reducible show (if ((_ : Int) == _) = true then _ else _)); k_dflt (first | refine ite_beqT (by omega) ?_ | refine ite_beqF (by omega) ?_))
  | ((with_reducible show (if ((_ : Int) != _) = true then _ else _)); k_dflt (first | refine ite_bneT (by omega) ?_ | refine ite_bneF (by omega) ?_))))
        | (((with_reducible show wpAny _ _ (eval (Expr.Call (Expr.Name _ _) _ [] _) _) _ _ _); k_dflt (refine Call_ ?_)))
        | ((with_reducible show wpAny _ _ (compareOp CmpOp.In (Value.int _ _) (Value.ref _)) _ _ _); (k_here; (with_reducible show wpAny _ _ (compareOp CmpOp.In (Value.int 4 _) (Value.ref _)) _ _ _); k_dflt (first
  | (refine' in_name true (nameInt (by decide)) ?N ?m ?c ?d ?r ?u ?a ?_; (case N => k_asm); (case m => k_mem); (case c => exact rfl); (case d => exact rfl); (case r => repeat constructor); (case u => ktr_units); (case a => decide +kernel))
  | (refine' in_name false (nameInt (by decide)) ?N ?m ?c ?d ?r ?u ?a ?_; (case N => k_asm); (case m => k_mem); (case c => exact rfl); (case d => exact rfl); (case r => repeat constructor); (case u => ktr_units); (case a => decide +kernel)))))
        | ((k_here; (with_reducible show wpAny _ _ (compareOp CmpOp.In _ (Value.ref _)) _ _ _); k_dflt (first
  | (refine' in_name true ?V ?N ?m ?c ?d ?r ?u ?a ?_; (case V => with_reducible assumption); (case N => k_asm); (case m => k_mem); (case c => exact rfl); (case d => exact rfl); (case r => repeat constructor); (case u => ktr_units); (case a => decide +kernel))
  | (refine' in_name false ?V ?N ?m ?c ?d ?r ?u ?a ?_; (case V => with_reducible assumption); (case N => k_asm); (case m => k_mem); (case c => exact rfl); (case d => exact rfl); (case r => repeat constructor); (case u => ktr_units); (case a => decide +kernel)))))
        | ((with_reducible show wpAny _ _ (PySem.truthy _) _ _ _); (k_here; k_dflt (refine' truthy_name ?V ?_; (case V => with_reducible assumption)); intro tk9; (try dsimp only)))) | walk1)
      | (k_here; first
        | ((with_reducible show wpAny _ _ (call (Value.ref _) _ _) _ _ _); (k_here; first
  | ((with_reducible show wpAny _ _ (call (Value.ref 58) _ _) _ _ _); (rename (∀ _ : Bool, Call _ _ _ _ _ _) => hC8); k_dflt (refine use (hC8 true) ?_); (try dsimp only [RetI, RetB, RetT, RetS, RetT7, RetT3]); intros; (try dsimp only); (try k_sweep))
  | ((with_reducible show wpAny _ _ (call (Value.ref 73) _ _) _ _ _); (rename (∀ _ : Tok, Call _ _ _ _ _ _) => hC9); k_dflt (refine use (hC9 0) ?_); (try dsimp only [RetI, RetB, RetT, RetS, RetT7, RetT3]); intros; (try dsimp only); (try k_sweep))))
        | ((k_here; first
  | with_reducible refine ite_tt ?_ | with_reducible refine ite_ff ?_
  | ((with_reducible show (if ((_ : Int) == _) = true then _ else _)); k_dflt (first | refine ite_beqT (by omega) ?_ | refine ite_beqF (by omega) ?_))
  | ((with_reducible show (if ((_ : Int) != _) = true then _ else _)); k_dflt (first | refine ite_bneT (by omega) ?_ | refine ite_bneF (by omega) ?_))))
        | (((with_reducible show wpAny _ _ (eval (Expr.Call (Expr.Name _ _) _ [] _) _) _ _ _); k_dflt (refine Call_ ?_)))
        | ((with_reducible show wpAny _ _ (compareOp CmpOp.In (Value.int _ _) (Value.ref _)) _ _ _); (k_here; (with_reducible show wpAny _ _ (compareOp CmpOp.In (Value.int 4 _) (Value.ref _)) _ _ _); k_dflt (first
  | (refine' in_name true (nameInt (by decide)) ?N ?m ?c ?d ?r ?u ?a ?_; (case N => k_asm); (case m => k_mem); (case c => exact rfl); (case d => exact rfl); (case r => repeat constructor); (case u => ktr_units); (case a => decide +kernel))
  | (refine' in_name false (nameInt (by decide)) ?N ?m ?c ?d ?r ?u ?a ?_; (case N => k_asm); (case m => k_mem); (case c => exact rfl); (case d => exact rfl); (case r => repeat constructor); (case u => ktr_units); (case a => decide +kernel)))))
        | ((k_here; (with_reducible show wpAny _ _ (compareOp CmpOp.In _ (Value.ref _)) _ _ _); k_dflt (first
  | (refine' in_name true ?V ?N ?m ?c ?d ?r ?u ?a ?_; (case V => with_reducible assumption); (case N => k_asm); (case m => k_mem); (case c => exact rfl); (case d => exact rfl); (case r => repeat constructor); (case u => ktr_units); (case a => decide +kernel))
  | (refine' in_name false ?V ?N ?m ?c ?d ?r ?u ?a ?_; (case V => with_reducible assumption); (case N => k_asm); (case m => k_mem); (case c => exact rfl); (case d => exact rfl); (case r => repeat constructor); (case u => ktr_units); (case a => decide +kernel)))))
        | ((with_reducible show wpAny _ _ (PySem.truthy _) _ _ _); (k_here; k_dflt (refine' truthy_name ?V ?_; (case V => with_reducible assumption)); intro tk9; (try dsimp only))))
      | walk1
      | (leave1; walk_say "STEP leave1"; try dsimp only)
      | fail "no step")))
  all_goals (first
    | (rename 5 + _ < d => z; exfalso; rw [if_pos rfl] at z; omega)
    | exact endI hret rfl (by k_asm) (by k_asm))
theorem c_tok (w : World) (y mo d : Int) (v : Value) (ty tm td : Tok) (ks : List PyData) (x : Int) (b : Bool) (V : NameOf ks v) (h1 : 1 ≤ d) (h2 : d ≤ 30) (h3 : mo ≤ 13) (h4 : mo = 13 → d ≤ (if b = true then 6 else 5))
    (C : ∀ _ : Tok, Call 3 w 73 [.int y ty, .int mo tm, .int d td, v] [] (RetI x)) (CL : ∀ _ : Bool, Call 1 w 58 [.int y ty] [(Str.ofString "method", v)] (RetB b)) : Call 4 w 66 [.int y ty, .int mo tm, .int d td] [(Str.ofString "method", v)] (RetI x) := by
  unfold Call
  k_fill
  intro mean mg mb dp un gd cn cs aa ccd cl outer A₀ base h₀ L m news s Q E B F X N T hk hd hu hret
  have key : mo < 13 ∨ (mo = 13 ∧ b = true ∧ d ≤ 6) ∨ (mo = 13 ∧ b = false ∧ d ≤ 5) := by
    by_cases q : mo = 13
    · have q2 := h4 q
      cases b
      · exact Or.inr (Or.inr ⟨q, rfl, q2⟩)
      · exact Or.inr (Or.inl ⟨q, rfl, q2⟩)
    · exact Or.inl (by omega)
  clear h4
  rcases key with q | ⟨q, rfl, q2⟩ | ⟨q, rfl, q2⟩
  all_goals (refine wpAny_call ?_)
  all_goals (
    k_dflt (refine' code_def ?k1 ?k2 ?k3 ?k4 ?k5 ?kA ?kF ?kK ?k6 ?k7 ?k8 ?k9 ?kB ?_ ?c2 ?c3 ?c4 ?c5; (case kA => exact rfl); (case kF => exact rfl); (case kK => first | exact rfl | assumption); (case k1 => k_asm); (case k2 => k_asm); (case k3 => k_asm); (case k4 => k_asm); (case k5 => k_asm); (case k6 => k_is); (case k7 => k_is); (case k8 => ktr_room); (case k9 => first | exact BindsTo.of_eq rfl | exact binds_K (by k_in) rfl (by k_is) rfl rfl rfl); (case c5 => decide); (case kB => exact locs rfl); (case c2 => exact rfl); (case c3 => exact rfl); (case c4 => exact rfl); k_whole; intro g' L' h' FG' F' N' B' X' T'; (try dsimp only); (try k_lift B'); (try k_fold))
    (repeat' (first
      | (k_unfold; (try dsimp only))
      | (k_end; wrow_close)
      | (dsimp only; first | (k_here; first
        | ((with_reducible show wpAny _ _ (call (Value.ref _) _ _) _ _ _); (k_here; first
  | ((with_reducible show wpAny _ _ (call (Value.ref 58) _ _) _ _ _); (rename (∀ _ : Bool, Call _ _ _ _ _ _) => hC8); k_dflt (refine use (hC8 true) ?_); (try dsimp only [RetI, RetB, RetT, RetS, RetT7, RetT3]); intros; (try dsimp only); (try k_sweep))
  | ((with_reducible show wpAny _ _ (call (Value.ref 73) _ _) _ _ _); (rename (∀ _ : Tok, Call _ _ _ _ _ _) => hC9); k_dflt (refine use (hC9 0) ?_); (try dsimp only [RetI, RetB, RetT, RetS, RetT7, RetT3]); intros; (try dsimp only); (try k_sweep))))
        | ((k_here; first
  | with_reducible refine ite_tt ?_ | with_reducible refine ite_ff ?_
  | ((with_reducible show (if ((_ : Int) == _) = true then _ else _)); k_dflt (first | refine ite_beqT (by omega) ?_ | refine ite_beqF (by omega) ?_))
  | ((with_reducible show (if ((_ : Int) != _) = true then _ else _)); k_dflt (first | refine ite_bneT (by omega) ?_ | refine ite_bneF (by omega) ?_))))
        | (((with_reducible show wpAny _ _ (eval (Expr.Call (Expr.Name _ _) _ [] _) _) _ _ _); k_dflt (refine Call_ ?_)))
        | ((with_reducible show wpAny _ _ (compareOp CmpOp.In (Value.int _ _) (Value.ref _)) _ _ _); (k_here; (with_reducible show wpAny _ _ (compareOp CmpOp.In (Value.int 4 _) (Value.ref _)) _ _ _); k_dflt (first
  | (refine' in_name true (nameInt (by decide)) ?N ?m ?c ?d ?r ?u ?a ?_; (case N => k_asm); (case m => k_mem); (case c => exact rfl); (case d => exact rfl); (case r => repeat constructor); (case u => ktr_units); (case a => decide +kernel))
  | (refine' in_name false (nameInt (by decide)) ?N ?m ?c ?d ?r ?u ?a ?_; (case N => k_asm); (case m => k_mem); (case c => exact rfl); (case d => exact rfl); (case r => repeat constructor); (case u => ktr_units); (case a => decide +kernel)))))
        | ((k_here; (with_reducible show wpAny _ _ (compareOp CmpOp.In _ (Value.ref _)) _ _ _); k_dflt (first
  | (refine' in_name true ?V ?N ?m ?c ?d ?r ?u ?a ?_; (case V => with_reducible assumption); (case N => k_asm); (case m => k_mem); (case c => exact rfl); (case d => exact rfl); (case r => repeat constructor); (case u => ktr_units); (case a => decide +kernel))
  | (refine' in_name false ?V ?N ?m ?c ?d ?r ?u ?a ?_; (case V => with_reducible assumption); (case N => k_asm); (case m => k_mem); (case c => exact rfl); (case d => exact rfl); (case r => repeat constructor); (case u => ktr_units); (case a => decide +kernel)))))
        | ((with_reducible show wpAny _ _ (PySem.truthy _) _ _ _); (k_here; k_dflt (refine' truthy_name ?V ?_; (case V => with_reducible assumption)); intro tk9; (try dsimp only)))) | walk1)
      | (k_here; first
        | ((with_reducible show wpAny _ _ (call (Value.ref _) _ _) _ _ _); (k_here; first
  | ((with_reducible show wpAny _ _ (call (Value.ref 58) _ _) _ _ _); (rename (∀ _ : Bool, Call _ _ _ _ _ _) => hC8); k_dflt (refine use (hC8 true) ?_); (try dsimp only [RetI, RetB, RetT, RetS, RetT7, RetT3]); intros; (try dsimp only); (try k_sweep))
  | ((with_reducible show wpAny _ _ (call (Value.ref 73) _ _) _ _ _); (rename (∀ _ : Tok, Call _ _ _ _ _ _) => hC9); k_dflt (refine use (hC9 0) ?_); (try dsimp only [RetI, RetB, RetT, RetS, RetT7, RetT3]); intros; (try dsimp only); (try k_sweep))))
        | ((k_here; first
  | with_reducible refine ite_tt ?_ | with_reducible refine ite_ff ?_
  | ((with_reducible show (if ((_ : Int) == _) = true then _ else _)); k_dflt (first | refine ite_beqT (by omega) ?_ | refine ite_beqF (by omega) ?_))
  | ((with_reducible show (if ((_ : Int) != _) = true then _ else _)); k_dflt (first | refine ite_bneT (by omega) ?_ | refine ite_bneF (by omega) ?_))))
        | (((with_reducible show wpAny _ _ (eval (Expr.Call (Expr.Name _ _) _ [] _) _) _ _ _); k_dflt (refine Call_ ?_)))
        | ((with_reducible show wpAny _ _ (compareOp CmpOp.In (Value.int _ _) (Value.ref _)) _ _ _); (k_here; (with_reducible show wpAny _ _ (compareOp CmpOp.In (Value.int 4 _) (Value.ref _)) _ _ _); k_dflt (first
  | (refine' in_name true (nameInt (by decide)) ?N ?m ?c ?d ?r ?u ?a ?_; (case N => k_asm); (case m => k_mem); (case c => exact rfl); (case d => exact rfl); (case r => repeat constructor); (case u => ktr_units); (case a => decide +kernel))
  | (refine' in_name false (nameInt (by decide)) ?N ?m ?c ?d ?r ?u ?a ?_; (case N => k_asm); (case m => k_mem); (case c => exact rfl); (case d => exact rfl); (case r => repeat constructor); (case u => ktr_units); (case a => decide +kernel)))))
        | ((k_here; (with_reducible show wpAny _ _ (compareOp CmpOp.In _ (Value.ref _)) _ _ _); k_dflt (first
  | (refine' in_name true ?V ?N ?m ?c ?d ?r ?u ?a ?_; (case V => with_reducible assumption); (case N => k_asm); (case m => k_mem); (case c => exact rfl); (case d => exact rfl); (case r => repeat constructor); (case u => ktr_units); (case a => decide +kernel))
  | (refine' in_name false ?V ?N ?m ?c ?d ?r ?u ?a ?_; (case V => with_reducible assumption); (case N => k_asm); (case m => k_mem); (case c => exact rfl); (case d => exact rfl); (case r => repeat constructor); (case u => ktr_units); (case a => decide +kernel)))))
        | ((with_reducible show wpAny _ _ (PySem.truthy _) _ _ _); (k_here; k_dflt (refine' truthy_name ?V ?_; (case V => with_reducible assumption)); intro tk9; (try dsimp only))))
      | walk1
      | (leave1; walk_say "STEP leave1"; try dsimp only)
      | fail "no step")))
  all_goals (first
    | (rename 5 + _ < d => z; exfalso; rw [if_pos rfl] at z; omega)
    | exact endI hret rfl (by k_asm) (by k_asm))
end
theorem endS {h₀ h' : Heap} {L : Addr} {m : Str → Option Value} {news : List (Addr × Obj)} {s : Shared} {Q : Value → Shared → Prop} {t : Tok} {tk' : Nat} {x y : Str} (hret : ∀ (t : Tok) (h' : Heap) (tk' : Nat), Fr h₀ L h' m → News h₀ L h' news → Q (.str x t) { s with heap := h', toks := tk' }) (e : y = x) (F : Fr h₀ L h' m) (N : News h₀ L h' news) : Q (.str y t) { s with heap := h', toks := tk' } := by
  subst e
  exact hret t h' tk' F N
abbrev CallL (n : Nat) (w : World) (f : Addr) (vs : List Value) (kw : List (Str × Value)) (Ret : Heap → Addr → (Str → Option Value) → List (Addr × Obj) → Shared → (Value → Shared → Prop) → (Value → Shared → Prop) → Prop) : Prop :=
  ∀ (mean : ExcName → Option Value) (mg mb : Str → Option Value) (dp un : Nat) (gd : Option (List Code)) (cn : Str) (cs : Scope) (a : Addr) (ccd : Value) (A₀ : Around) (h₀ : Heap) (L : Addr) (m : Str → Option Value) (news : List (Addr × Obj)) (s : Shared) (Q E : Value → Shared → Prop),
    Below A₀ h₀ [] h₀ → Fr h₀ L s.heap m → (FR.hd.heap_39 w.params).In h₀ → News h₀ L s.heap news →
    Top FR.hd.view_39 (looseW FR.hd.view_39 LS) mean mg mb h₀ → cs.kind = .function → dp + n < recursionLimit → un + 40 * n < cLine →
    Ret h₀ L m news s Q E →
    wpAny (model PySem.Challenge.rw_jb0012_01.row.prog w) (ktrTop dp un gd cn cs L a ccd [] []) (call (.ref f) vs kw) Q E s
section
theorem c_ask1 (w : World) (y mo d : Int) (v : Value) (t1 ty tm td : Tok) (x : Int) (C : ∀ _ : Tok, Call 4 w 66 [.int y ty, .int mo tm, .int d td, v] [] (RetI x)) : CallL 5 w 123 [.int 1 t1, .int y ty, .int mo tm, .int d td, v] [] (RetI x) := by
  unfold CallL
  k_fill
  intro mean mg mb dp un gd cn cs aa ccd A₀ h₀ L m news s Q E B F X N T hk hd hu hret
  refine wpAny_call ?_
  k_dflt (refine' code_defS0 ?k1 ?k2 ?k3 ?k4 ?k5 ?kA ?k6 ?k7 ?k8 ?k9 ?kB ?_ ?cK ?c2 ?c3 ?c4 ?c5; (case kA => exact rfl); (case k2 => k_asm); (case k1 => k_asm); (case k3 => k_asm); (case k4 => k_asm); (case k5 => k_asm); (case k6 => k_is); (case k7 => k_is); (case k8 => ktr_room); (case k9 => first | exact BindsTo.of_eq rfl | exact binds_K (by k_in) rfl (by k_is) rfl rfl rfl); (case kB => exact locs rfl); (case cK => first | exact rfl | assumption); (case c2 => exact rfl); (case c3 => exact rfl); (case c4 => exact rfl); (case c5 => decide); k_whole; intro g' L' h' FG' F' N' B' X' T' D'; (try dsimp only); (try k_lift B'); (try k_fold))
  (repeat' (first
      | (k_unfold; (try dsimp only))
      | (k_end; wrow_close)
      | (dsimp only; first | (k_here; first
        | ((with_reducible show wpAny _ _ (call (Value.ref _) _ _) _ _ _); (k_here; first
  | ((with_reducible show wpAny _ _ (call (Value.ref 66) _ _) _ _ _); (rename (∀ _ : Tok, Call _ _ _ _ _ _) => hC9); k_dflt (refine use (hC9 0) ?_); (try dsimp only [RetI, RetB, RetT, RetS, RetT7, RetT3]); intros; (try dsimp only); (try k_sweep))
  | ((refine wpAny_call ?_); k_dflt (refine' code_def ?k1 ?k2 ?k3 ?k4 ?k5 ?kA ?kF ?kK ?k6 ?k7 ?k8 ?k9 ?kB ?_ ?c2 ?c3 ?c4 ?c5; (case kA => exact rfl); (case kF => exact rfl); (case kK => first | exact rfl | assumption); (case k1 => k_asm); (case k2 => k_asm); (case k3 => k_asm); (case k4 => k_asm); (case k5 => k_asm); (case k6 => k_is); (case k7 => k_is); (case k8 => ktr_room); (case k9 => first | exact BindsTo.of_eq rfl | exact binds_K (by k_in) rfl (by k_is) rfl rfl rfl); (case c5 => decide); (case kB => exact locs rfl); (case c2 => exact rfl); (case c3 => exact rfl); (case c4 => exact rfl); k_whole; intro g' L' h' FG' F' N' B' X' T'; (try dsimp only); (try k_lift B'); (try k_fold)))))
        | ((k_here; first
  | with_reducible refine ite_tt ?_ | with_reducible refine ite_ff ?_
  | ((with_reducible show (if ((_ : Int) == _) = true then _ else _)); k_dflt (first | refine ite_beqT (by omega) ?_ | refine ite_beqF (by omega) ?_))
  | ((with_reducible show (if ((_ : Int) != _) = true then _ else _)); k_dflt (first | refine ite_bneT (by omega) ?_ | refine ite_bneF (by omega) ?_))))
        | (((with_reducible show wpAny _ _ (eval (Expr.Call (Expr.Name _ _) _ [] _) _) _ _ _); k_dflt (refine Call_ ?_)))
        | ((with_reducible show wpAny _ _ (compareOp CmpOp.In (Value.int _ _) (Value.ref _)) _ _ _); (k_here; (with_reducible show wpAny _ _ (compareOp CmpOp.In (Value.int 4 _) (Value.ref _)) _ _ _); k_dflt (first
  | (refine' in_name true (nameInt (by decide)) ?N ?m ?c ?d ?r ?u ?a ?_; (case N => k_asm); (case m => k_mem); (case c => exact rfl); (case d => exact rfl); (case r => repeat constructor); (case u => ktr_units); (case a => decide +kernel))
  | (refine' in_name false (nameInt (by decide)) ?N ?m ?c ?d ?r ?u ?a ?_; (case N => k_asm); (case m => k_mem); (case c => exact rfl); (case d => exact rfl); (case r => repeat constructor); (case u => ktr_units); (case a => decide +kernel)))))
        | ((k_here; (with_reducible show wpAny _ _ (compareOp CmpOp.In _ (Value.ref _)) _ _ _); k_dflt (first
  | (refine' in_name true ?V ?N ?m ?c ?d ?r ?u ?a ?_; (case V => with_reducible assumption); (case N => k_asm); (case m => k_mem); (case c => exact rfl); (case d => exact rfl); (case r => repeat constructor); (case u => ktr_units); (case a => decide +kernel))
  | (refine' in_name false ?V ?N ?m ?c ?d ?r ?u ?a ?_; (case V => with_reducible assumption); (case N => k_asm); (case m => k_mem); (case c => exact rfl); (case d => exact rfl); (case r => repeat constructor); (case u => ktr_units); (case a => decide +kernel)))))
        | ((with_reducible show wpAny _ _ (PySem.truthy _) _ _ _); (k_here; k_dflt (refine' truthy_name ?V ?_; (case V => with_reducible assumption)); intro tk9; (try dsimp only)))) | walk1)
      | (k_here; first
        | ((with_reducible show wpAny _ _ (call (Value.ref _) _ _) _ _ _); (k_here; first
  | ((with_reducible show wpAny _ _ (call (Value.ref 66) _ _) _ _ _); (rename (∀ _ : Tok, Call _ _ _ _ _ _) => hC9); k_dflt (refine use (hC9 0) ?_); (try dsimp only [RetI, RetB, RetT, RetS, RetT7, RetT3]); intros; (try dsimp only); (try k_sweep))
  | ((refine wpAny_call ?_); k_dflt (refine' code_def ?k1 ?k2 ?k3 ?k4 ?k5 ?kA ?kF ?kK ?k6 ?k7 ?k8 ?k9 ?kB ?_ ?c2 ?c3 ?c4 ?c5; (case kA => exact rfl); (case kF => exact rfl); (case kK => first | exact rfl | assumption); (case k1 => k_asm); (case k2 => k_asm); (case k3 => k_asm); (case k4 => k_asm); (case k5 => k_asm); (case k6 => k_is); (case k7 => k_is); (case k8 => ktr_room); (case k9 => first | exact BindsTo.of_eq rfl | exact binds_K (by k_in) rfl (by k_is) rfl rfl rfl); (case c5 => decide); (case kB => exact locs rfl); (case c2 => exact rfl); (case c3 => exact rfl); (case c4 => exact rfl); k_whole; intro g' L' h' FG' F' N' B' X' T'; (try dsimp only); (try k_lift B'); (try k_fold)))))
        | ((k_here; first
  | with_reducible refine ite_tt ?_ | with_reducible refine ite_ff ?_
  | ((with_reducible show (if ((_ : Int) == _) = true then _ else _)); k_dflt (first | refine ite_beqT (by omega) ?_ | refine ite_beqF (by omega) ?_))
  | ((with_reducible show (if ((_ : Int) != _) = true then _ else _)); k_dflt (first | refine ite_bneT (by omega) ?_ | refine ite_bneF (by omega) ?_))))
        | (((with_reducible show wpAny _ _ (eval (Expr.Call (Expr.Name _ _) _ [] _) _) _ _ _); k_dflt (refine Call_ ?_)))
        | ((with_reducible show wpAny _ _ (compareOp CmpOp.In (Value.int _ _) (Value.ref _)) _ _ _); (k_here; (with_reducible show wpAny _ _ (compareOp CmpOp.In (Value.int 4 _) (Value.ref _)) _ _ _); k_dflt (first
  | (refine' in_name true (nameInt (by decide)) ?N ?m ?c ?d ?r ?u ?a ?_; (case N => k_asm); (case m => k_mem); (case c => exact rfl); (case d => exact rfl); (case r => repeat constructor); (case u => ktr_units); (case a => decide +kernel))
  | (refine' in_name false (nameInt (by decide)) ?N ?m ?c ?d ?r ?u ?a ?_; (case N => k_asm); (case m => k_mem); (case c => exact rfl); (case d => exact rfl); (case r => repeat constructor); (case u => ktr_units); (case a => decide +kernel)))))
        | ((k_here; (with_reducible show wpAny _ _ (compareOp CmpOp.In _ (Value.ref _)) _ _ _); k_dflt (first
  | (refine' in_name true ?V ?N ?m ?c ?d ?r ?u ?a ?_; (case V => with_reducible assumption); (case N => k_asm); (case m => k_mem); (case c => exact rfl); (case d => exact rfl); (case r => repeat constructor); (case u => ktr_units); (case a => decide +kernel))
  | (refine' in_name false ?V ?N ?m ?c ?d ?r ?u ?a ?_; (case V => with_reducible assumption); (case N => k_asm); (case m => k_mem); (case c => exact rfl); (case d => exact rfl); (case r => repeat constructor); (case u => ktr_units); (case a => decide +kernel)))))
        | ((with_reducible show wpAny _ _ (PySem.truthy _) _ _ _); (k_here; k_dflt (refine' truthy_name ?V ?_; (case V => with_reducible assumption)); intro tk9; (try dsimp only))))
      | walk1
      | (leave1; walk_say "STEP leave1"; try dsimp only)
      | fail "no step"))
  exact endI hret rfl (by k_asm) (by k_asm)
theorem c_ask0 (w : World) (j mo d : Int) (v : Value) (t1 ty tm td : Tok) (ks : List PyData) (V : NameOf ks v) (hj : j < 2375840) : CallL 5 w 123 [.int 0 t1, .int j ty, .int mo tm, .int d td, v] [] (RetS (Str.ofString "refused")) := by
  unfold CallL
  k_fill
  intro mean mg mb dp un gd cn cs aa ccd A₀ h₀ L m news s Q E B F X N T hk hd hu hret
  refine wpAny_call ?_
  k_dflt (refine' code_defS0 ?k1 ?k2 ?k3 ?k4 ?k5 ?kA ?k6 ?k7 ?k8 ?k9 ?kB ?_ ?cK ?c2 ?c3 ?c4 ?c5; (case kA => exact rfl); (case k2 => k_asm); (case k1 => k_asm); (case k3 => k_asm); (case k4 => k_asm); (case k5 => k_asm); (case k6 => k_is); (case k7 => k_is); (case k8 => ktr_room); (case k9 => first | exact BindsTo.of_eq rfl | exact binds_K (by k_in) rfl (by k_is) rfl rfl rfl); (case kB => exact locs rfl); (case cK => first | exact rfl | assumption); (case c2 => exact rfl); (case c3 => exact rfl); (case c4 => exact rfl); (case c5 => decide); k_whole; intro g' L' h' FG' F' N' B' X' T' D'; (try dsimp only); (try k_lift B'); (try k_fold))
  (repeat' (first
      | (k_unfold; (try dsimp only))
      | (k_end; wrow_close)
      | (dsimp only; first | (k_here; first
        | ((with_reducible show wpAny _ _ (call (Value.ref _) _ _) _ _ _); (k_here; first
  | ((with_reducible show wpAny _ _ (call (Value.ref 66) _ _) _ _ _); (rename (∀ _ : Tok, Call _ _ _ _ _ _) => hC9); k_dflt (refine use (hC9 0) ?_); (try dsimp only [RetI, RetB, RetT, RetS, RetT7, RetT3]); intros; (try dsimp only); (try k_sweep))
  | ((refine wpAny_call ?_); k_dflt (refine' code_def ?k1 ?k2 ?k3 ?k4 ?k5 ?kA ?kF ?kK ?k6 ?k7 ?k8 ?k9 ?kB ?_ ?c2 ?c3 ?c4 ?c5; (case kA => exact rfl); (case kF => exact rfl); (case kK => first | exact rfl | assumption); (case k1 => k_asm); (case k2 => k_asm); (case k3 => k_asm); (case k4 => k_asm); (case k5 => k_asm); (case k6 => k_is); (case k7 => k_is); (case k8 => ktr_room); (case k9 => first | exact BindsTo.of_eq rfl | exact binds_K (by k_in) rfl (by k_is) rfl rfl rfl); (case c5 => decide); (case kB => exact locs rfl); (case c2 => exact rfl); (case c3 => exact rfl); (case c4 => exact rfl); k_whole; intro g' L' h' FG' F' N' B' X' T'; (try dsimp only); (try k_lift B'); (try k_fold)))))
        | ((k_here; first
  | with_reducible refine ite_tt ?_ | with_reducible refine ite_ff ?_
  | ((with_reducible show (if ((_ : Int) == _) = true then _ else _)); k_dflt (first | refine ite_beqT (by omega) ?_ | refine ite_beqF (by omega) ?_))
  | ((with_reducible show (if ((_ : Int) != _) = true then _ else _)); k_dflt (first | refine ite_bneT (by omega) ?_ | refine ite_bneF (by omega) ?_))))
        | (((with_reducible show wpAny _ _ (eval (Expr.Call (Expr.Name _ _) _ [] _) _) _ _ _); k_dflt (refine Call_ ?_)))
        | ((with_reducible show wpAny _ _ (compareOp CmpOp.In (Value.int _ _) (Value.ref _)) _ _ _); (k_here; (with_reducible show wpAny _ _ (compareOp CmpOp.In (Value.int 4 _) (Value.ref _)) _ _ _); k_dflt (first
  | (refine' in_name true (nameInt (by decide)) ?N ?m ?c ?d ?r ?u ?a ?_; (case N => k_asm); (case m => k_mem); (case c => exact rfl); (case d => exact rfl); (case r => repeat constructor); (case u => ktr_units); (case a => decide +kernel))
  | (refine' in_name false (nameInt (by decide)) ?N ?m ?c ?d ?r ?u ?a ?_; (case N => k_asm); (case m => k_mem); (case c => exact rfl); (case d => exact rfl); (case r => repeat constructor); (case u => ktr_units); (case a => decide +kernel)))))
        | ((k_here; (with_reducible show wpAny _ _ (compareOp CmpOp.In _ (Value.ref _)) _ _ _); k_dflt (first
  | (refine' in_name true ?V ?N ?m ?c ?d ?r ?u ?a ?_; (case V => with_reducible assumption); (case N => k_asm); (case m => k_mem); (case c => exact rfl); (case d => exact rfl); (case r => repeat constructor); (case u => ktr_units); (case a => decide +kernel))
  | (refine' in_name false ?V ?N ?m ?c ?d ?r ?u ?a ?_; (case V => with_reducible assumption); (case N => k_asm); (case m => k_mem); (case c => exact rfl); (case d => exact rfl); (case r => repeat constructor); (case u => ktr_units); (case a => decide +kernel)))))
        | ((with_reducible show wpAny _ _ (PySem.truthy _) _ _ _); (k_here; k_dflt (refine' truthy_name ?V ?_; (case V => with_reducible assumption)); intro tk9; (try dsimp only)))) | walk1)
      | (k_here; first
        | ((with_reducible show wpAny _ _ (call (Value.ref _) _ _) _ _ _); (k_here; first
  | ((with_reducible show wpAny _ _ (call (Value.ref 66) _ _) _ _ _); (rename (∀ _ : Tok, Call _ _ _ _ _ _) => hC9); k_dflt (refine use (hC9 0) ?_); (try dsimp only [RetI, RetB, RetT, RetS, RetT7, RetT3]); intros; (try dsimp only); (try k_sweep))
  | ((refine wpAny_call ?_); k_dflt (refine' code_def ?k1 ?k2 ?k3 ?k4 ?k5 ?kA ?kF ?kK ?k6 ?k7 ?k8 ?k9 ?kB ?_ ?c2 ?c3 ?c4 ?c5; (case kA => exact rfl); (case kF => exact rfl); (case kK => first | exact rfl | assumption); (case k1 => k_asm); (case k2 => k_asm); (case k3 => k_asm); (case k4 => k_asm); (case k5 => k_asm); (case k6 => k_is); (case k7 => k_is); (case k8 => ktr_room); (case k9 => first | exact BindsTo.of_eq rfl | exact binds_K (by k_in) rfl (by k_is) rfl rfl rfl); (case c5 => decide); (case kB => exact locs rfl); (case c2 => exact rfl); (case c3 => exact rfl); (case c4 => exact rfl); k_whole; intro g' L' h' FG' F' N' B' X' T'; (try dsimp only); (try k_lift B'); (try k_fold)))))
        | ((k_here; first
  | with_reducible refine ite_tt ?_ | with_reducible refine ite_ff ?_
  | ((with_reducible show (if ((_ : Int) == _) = true then _ else _)); k_dflt (first | refine ite_beqT (by omega) ?_ | refine ite_beqF (by omega) ?_))
  | ((with_reducible show (if ((_ : Int) != _) = true then _ else _)); k_dflt (first | refine ite_bneT (by omega) ?_ | refine ite_bneF (by omega) ?_))))
        | (((with_reducible show wpAny _ _ (eval (Expr.Call (Expr.Name _ _) _ [] _) _) _ _ _); k_dflt (refine Call_ ?_)))
        | ((with_reducible show wpAny _ _ (compareOp CmpOp.In (Value.int _ _) (Value.ref _)) _ _ _); (k_here; (with_reducible show wpAny _ _ (compareOp CmpOp.In (Value.int 4 _) (Value.ref _)) _ _ _); k_dflt (first
  | (refine' in_name true (nameInt (by decide)) ?N ?m ?c ?d ?r ?u ?a ?_; (case N => k_asm); (case m => k_mem); (case c => exact rfl); (case d => exact rfl); (case r => repeat constructor); (case u => ktr_units); (case a => decide +kernel))
  | (refine' in_name false (nameInt (by decide)) ?N ?m ?c ?d ?r ?u ?a ?_; (case N => k_asm); (case m => k_mem); (case c => exact rfl); (case d => exact rfl); (case r => repeat constructor); (case u => ktr_units); (case a => decide +kernel)))))
        | ((k_here; (with_reducible show wpAny _ _ (compareOp CmpOp.In _ (Value.ref _)) _ _ _); k_dflt (first
  | (refine' in_name true ?V ?N ?m ?c ?d ?r ?u ?a ?_; (case V => with_reducible assumption); (case N => k_asm); (case m => k_mem); (case c => exact rfl); (case d => exact rfl); (case r => repeat constructor); (case u => ktr_units); (case a => decide +kernel))
  | (refine' in_name false ?V ?N ?m ?c ?d ?r ?u ?a ?_; (case V => with_reducible assumption); (case N => k_asm); (case m => k_mem); (case c => exact rfl); (case d => exact rfl); (case r => repeat constructor); (case u => ktr_units); (case a => decide +kernel)))))
        | ((with_reducible show wpAny _ _ (PySem.truthy _) _ _ _); (k_here; k_dflt (refine' truthy_name ?V ?_; (case V => with_reducible assumption)); intro tk9; (try dsimp only))))
      | walk1
      | (leave1; walk_say "STEP leave1"; try dsimp only)
      | fail "no step"))
  all_goals (first | exact endS hret rfl (by k_asm) (by first | k_asm | exact lessN (by k_asm) (by first | exact (fun _ hp => hp) | exact (fun _ hp => .tail _ hp) | exact (fun _ hp => .tail _ (.tail _ hp)) | exact (fun _ hp => .tail _ (.tail _ (.tail _ hp))) | exact (fun _ hp => .tail _ (.tail _ (.tail _ (.tail _ hp)))) | exact (fun _ hp => .tail _ (.tail _ (.tail _ (.tail _ (.tail _ hp))))) | exact (fun _ hp => .tail _ (.tail _ (.tail _ (.tail _ (.tail _ (.tail _ hp)))))) | exact (fun _ hp => .tail _ (.tail _ (.tail _ (.tail _ (.tail _ (.tail _ (.tail _ hp))))))) | exact (fun _ hp => .tail _ (.tail _ (.tail _ (.tail _ (.tail _ (.tail _ (.tail _ (.tail _ hp)))))))))))
theorem c_ask1d (w : World) (y mo d : Int) (v : Value) (t1 ty tm td : Tok) (ks : List PyData) (V : NameOf ks v) (h : d < 1 ∨ 30 < d) : CallL 5 w 123 [.int 1 t1, .int y ty, .int mo tm, .int d td, v] [] (RetS (Str.ofString "refused")) := by
  unfold CallL
  k_fill
  intro mean mg mb dp un gd cn cs aa ccd A₀ h₀ L m news s Q E B F X N T hk hd hu hret
  refine wpAny_call ?_
  k_dflt (refine' code_defS0 ?k1 ?k2 ?k3 ?k4 ?k5 ?kA ?k6 ?k7 ?k8 ?k9 ?kB ?_ ?cK ?c2 ?c3 ?c4 ?c5; (case kA => exact rfl); (case k2 => k_asm); (case k1 => k_asm); (case k3 => k_asm); (case k4 => k_asm); (case k5 => k_asm); (case k6 => k_is); (case k7 => k_is); (case k8 => ktr_room); (case k9 => first | exact BindsTo.of_eq rfl | exact binds_K (by k_in) rfl (by k_is) rfl rfl rfl); (case kB => exact locs rfl); (case cK => first | exact rfl | assumption); (case c2 => exact rfl); (case c3 => exact rfl); (case c4 => exact rfl); (case c5 => decide); k_whole; intro g' L' h' FG' F' N' B' X' T' D'; (try dsimp only); (try k_lift B'); (try k_fold))
  (repeat' (first
      | (k_unfold; (try dsimp only))
      | (k_end; wrow_close)
      | (dsimp only; first | (k_here; first
        | ((with_reducible show wpAny _ _ (call (Value.ref _) _ _) _ _ _); (k_here; first
  | ((with_reducible show wpAny _ _ (call (Value.ref 66) _ _) _ _ _); (rename (∀ _ : Tok, Call _ _ _ _ _ _) => hC9); k_dflt (refine use (hC9 0) ?_); (try dsimp only [RetI, RetB, RetT, RetS, RetT7, RetT3]); intros; (try dsimp only); (try k_sweep))
  | ((refine wpAny_call ?_); k_dflt (refine' code_def ?k1 ?k2 ?k3 ?k4 ?k5 ?kA ?kF ?kK ?k6 ?k7 ?k8 ?k9 ?kB ?_ ?c2 ?c3 ?c4 ?c5; (case kA => exact rfl); (case kF => exact rfl); (case kK => first | exact rfl | assumption); (case k1 => k_asm); (case k2 => k_asm); (case k3 => k_asm); (case k4 => k_asm); (case k5 => k_asm); (case k6 => k_is); (case k7 => k_is); (case k8 => ktr_room); (case k9 => first | exact BindsTo.of_eq rfl | exact binds_K (by k_in) rfl (by k_is) rfl rfl rfl); (case c5 => decide); (case kB => exact locs rfl); (case c2 => exact rfl); (case c3 => exact rfl); (case c4 => exact rfl); k_whole; intro g' L' h' FG' F' N' B' X' T'; (try dsimp only); (try k_lift B'); (try k_fold)))))
        | ((k_here; first
  | with_reducible refine ite_tt ?_ | with_reducible refine ite_ff ?_
  | ((with_reducible show (if ((_ : Int) == _) = true then _ else _)); k_dflt (first | refine ite_beqT (by omega) ?_ | refine ite_beqF (by omega) ?_))
  | ((with_reducible show (if ((_ : Int) != _) = true then _ else _)); k_dflt (first | refine ite_bneT (by omega) ?_ | refine ite_bneF (by omega) ?_))))
        | (((with_reducible show wpAny _ _ (eval (Expr.Call (Expr.Name _ _) _ [] _) _) _ _ _); k_dflt (refine Call_ ?_)))
        | ((with_reducible show wpAny _ _ (compareOp CmpOp.In (Value.int _ _) (Value.ref _)) _ _ _); (k_here; (with_reducible show wpAny _ _ (compareOp CmpOp.In (Value.int 4 _) (Value.ref _)) _ _ _); k_dflt (first
  | (refine' in_name true (nameInt (by decide)) ?N ?m ?c ?d ?r ?u ?a ?_; (case N => k_asm); (case m => k_mem); (case c => exact rfl); (case d => exact rfl); (case r => repeat constructor); (case u => ktr_units); (case a => decide +kernel))
  | (refine' in_name false (nameInt (by decide)) ?N ?m ?c ?d ?r ?u ?a ?_; (case N => k_asm); (case m => k_mem); (case c => exact rfl); (case d => exact rfl); (case r => repeat constructor); (case u => ktr_units); (case a => decide +kernel)))))
        | ((k_here; (with_reducible show wpAny _ _ (compareOp CmpOp.In _ (Value.ref _)) _ _ _); k_dflt (first
  | (refine' in_name true ?V ?N ?m ?c ?d ?r ?u ?a ?_; (case V => with_reducible assumption); (case N => k_asm); (case m => k_mem); (case c => exact rfl); (case d => exact rfl); (case r => repeat constructor); (case u => ktr_units); (case a => decide +kernel))
  | (refine' in_name false ?V ?N ?m ?c ?d ?r ?u ?a ?_; (case V => with_reducible assumption); (case N => k_asm); (case m => k_mem); (case c => exact rfl); (case d => exact rfl); (case r => repeat constructor); (case u => ktr_units); (case a => decide +kernel)))))
        | ((with_reducible show wpAny _ _ (PySem.truthy _) _ _ _); (k_here; k_dflt (refine' truthy_name ?V ?_; (case V => with_reducible assumption)); intro tk9; (try dsimp only)))) | walk1)
      | (k_here; first
        | ((with_reducible show wpAny _ _ (call (Value.ref _) _ _) _ _ _); (k_here; first
  | ((with_reducible show wpAny _ _ (call (Value.ref 66) _ _) _ _ _); (rename (∀ _ : Tok, Call _ _ _ _ _ _) => hC9); k_dflt (refine use (hC9 0) ?_); (try dsimp only [RetI, RetB, RetT, RetS, RetT7, RetT3]); intros; (try dsimp only); (try k_sweep))
  | ((refine wpAny_call ?_); k_dflt (refine' code_def ?k1 ?k2 ?k3 ?k4 ?k5 ?kA ?kF ?kK ?k6 ?k7 ?k8 ?k9 ?kB ?_ ?c2 ?c3 ?c4 ?c5; (case kA => exact rfl); (case kF => exact rfl); (case kK => first | exact rfl | assumption); (case k1 => k_asm); (case k2 => k_asm); (case k3 => k_asm); (case k4 => k_asm); (case k5 => k_asm); (case k6 => k_is); (case k7 => k_is); (case k8 => ktr_room); (case k9 => first | exact BindsTo.of_eq rfl | exact binds_K (by k_in) rfl (by k_is) rfl rfl rfl); (case c5 => decide); (case kB => exact locs rfl); (case c2 => exact rfl); (case c3 => exact rfl); (case c4 => exact rfl); k_whole; intro g' L' h' FG' F' N' B' X' T'; (try dsimp only); (try k_lift B'); (try k_fold)))))
        | ((k_here; first
  | with_reducible refine ite_tt ?_ | with_reducible refine ite_ff ?_
  | ((with_reducible show (if ((_ : Int) == _) = true then _ else _)); k_dflt (first | refine ite_beqT (by omega) ?_ | refine ite_beqF (by omega) ?_))
  | ((with_reducible show (if ((_ : Int) != _) = true then _ else _)); k_dflt (first | refine ite_bneT (by omega) ?_ | refine ite_bneF (by omega) ?_))))
        | (((with_reducible show wpAny _ _ (eval (Expr.Call (Expr.Name _ _) _ [] _) _) _ _ _); k_dflt (refine Call_ ?_)))
        | ((with_reducible show wpAny _ _ (compareOp CmpOp.In (Value.int _ _) (Value.ref _)) _ _ _); (k_here; (with_reducible show wpAny _ _ (compareOp CmpOp.In (Value.int 4 _) (Value.ref _)) _ _ _); k_dflt (first
  | (refine' in_name true (nameInt (by decide)) ?N ?m ?c ?d ?r ?u ?a ?_; (case N => k_asm); (case m => k_mem); (case c => exact rfl); (case d => exact rfl); (case r => repeat constructor); (case u => ktr_units); (case a => decide +kernel))
  | (refine' in_name false (nameInt (by decide)) ?N ?m ?c ?d ?r ?u ?a ?_; (case N => k_asm); (case m => k_mem); (case c => exact rfl); (case d => exact rfl); (case r => repeat constructor); (case u => ktr_units); (case a => decide +kernel)))))
        | ((k_here; (with_reducible show wpAny _ _ (compareOp CmpOp.In _ (Value.ref _)) _ _ _); k_dflt (first
  | (refine' in_name true ?V ?N ?m ?c ?d ?r ?u ?a ?_; (case V => with_reducible assumption); (case N => k_asm); (case m => k_mem); (case c => exact rfl); (case d => exact rfl); (case r => repeat constructor); (case u => ktr_units); (case a => decide +kernel))
  | (refine' in_name false ?V ?N ?m ?c ?d ?r ?u ?a ?_; (case V => with_reducible assumption); (case N => k_asm); (case m => k_mem); (case c => exact rfl); (case d => exact rfl); (case r => repeat constructor); (case u => ktr_units); (case a => decide +kernel)))))
        | ((with_reducible show wpAny _ _ (PySem.truthy _) _ _ _); (k_here; k_dflt (refine' truthy_name ?V ?_; (case V => with_reducible assumption)); intro tk9; (try dsimp only))))
      | walk1
      | (leave1; walk_say "STEP leave1"; try dsimp only)
      | fail "no step"))
  all_goals (first | exact endS hret rfl (by k_asm) (by first | k_asm | exact lessN (by k_asm) (by first | exact (fun _ hp => hp) | exact (fun _ hp => .tail _ hp) | exact (fun _ hp => .tail _ (.tail _ hp)) | exact (fun _ hp => .tail _ (.tail _ (.tail _ hp))) | exact (fun _ hp => .tail _ (.tail _ (.tail _ (.tail _ hp)))) | exact (fun _ hp => .tail _ (.tail _ (.tail _ (.tail _ (.tail _ hp))))) | exact (fun _ hp => .tail _ (.tail _ (.tail _ (.tail _ (.tail _ (.tail _ hp)))))) | exact (fun _ hp => .tail _ (.tail _ (.tail _ (.tail _ (.tail _ (.tail _ (.tail _ hp))))))) | exact (fun _ hp => .tail _ (.tail _ (.tail _ (.tail _ (.tail _ (.tail _ (.tail _ (.tail _ hp)))))))))))
theorem c_ask1m (w : World) (y mo d : Int) (v : Value) (t1 ty tm td : Tok) (ks : List PyData) (V : NameOf ks v) (h1 : 1 ≤ d) (h2 : d ≤ 30) (h3 : 13 < mo) : CallL 5 w 123 [.int 1 t1, .int y ty, .int mo tm, .int d td, v] [] (RetS (Str.ofString "refused")) := by
  unfold CallL
  k_fill
  intro mean mg mb dp un gd cn cs aa ccd A₀ h₀ L m news s Q E B F X N T hk hd hu hret
  refine wpAny_call ?_
  k_dflt (refine' code_defS0 ?k1 ?k2 ?k3 ?k4 ?k5 ?kA ?k6 ?k7 ?k8 ?k9 ?kB ?_ ?cK ?c2 ?c3 ?c4 ?c5; (case kA => exact rfl); (case k2 => k_asm); (case k1 => k_asm); (case k3 => k_asm); (case k4 => k_asm); (case k5 => k_asm); (case k6 => k_is); (case k7 => k_is); (case k8 => ktr_room); (case k9 => first | exact BindsTo.of_eq rfl | exact binds_K (by k_in) rfl (by k_is) rfl rfl rfl); (case kB => exact locs rfl); (case cK => first | exact rfl | assumption); (case c2 => exact rfl); (case c3 => exact rfl); (case c4 => exact rfl); (case c5 => decide); k_whole; intro g' L' h' FG' F' N' B' X' T' D'; (try dsimp only); (try k_lift B'); (try k_fold))
  (repeat' (first
      | (k_unfold; (try dsimp only))
      | (k_end; wrow_close)
      | (dsimp only; first | (k_here; first
        | ((with_reducible show wpAny _ _ (call (Value.ref _) _ _) _ _ _); (k_here; first
  | ((with_reducible show wpAny _ _ (call (Value.ref 66) _ _) _ _ _); (rename (∀ _ : Tok, Call _ _ _ _ _ _) => hC9); k_dflt (refine use (hC9 0) ?_); (try dsimp only [RetI, RetB, RetT, RetS, RetT7, RetT3]); intros; (try dsimp only); (try k_sweep))
  | ((refine wpAny_call ?_); k_dflt (refine' code_def ?k1 ?k2 ?k3 ?k4 ?k5 ?kA ?kF ?kK ?k6 ?k7 ?k8 ?k9 ?kB ?_ ?c2 ?c3 ?c4 ?c5; (case kA => exact rfl); (case kF => exact rfl); (case kK => first | exact rfl | assumption); (case k1 => k_asm); (case k2 => k_asm); (case k3 => k_asm); (case k4 => k_asm); (case k5 => k_asm); (case k6 => k_is); (case k7 => k_is); (case k8 => ktr_room); (case k9 => first | exact BindsTo.of_eq rfl | exact binds_K (by k_in) rfl (by k_is) rfl rfl rfl); (case c5 => decide); (case kB => exact locs rfl); (case c2 => exact rfl); (case c3 => exact rfl); (case c4 => exact rfl); k_whole; intro g' L' h' FG' F' N' B' X' T'; (try dsimp only); (try k_lift B'); (try k_fold)))))
        | ((k_here; first
  | with_reducible refine ite_tt ?_ | with_reducible refine ite_ff ?_
  | ((with_reducible show (if ((_ : Int) == _) = true then _ else _)); k_dflt (first | refine ite_beqT (by omega) ?_ | refine ite_beqF (by omega) ?_))
  | ((with_reducible show (if ((_ : Int) != _) = true then _ else _)); k_dflt (first | refine ite_bneT (by omega) ?_ | refine ite_bneF (by omega) ?_))))
        | (((with_reducible show wpAny _ _ (eval (Expr.Call (Expr.Name _ _) _ [] _) _) _ _ _); k_dflt (refine Call_ ?_)))
        | ((with_reducible show wpAny _ _ (compareOp CmpOp.In (Value.int _ _) (Value.ref _)) _ _ _); (k_here; (with_reducible show wpAny _ _ (compareOp CmpOp.In (Value.int 4 _) (Value.ref _)) _ _ _); k_dflt (first
  | (refine' in_name true (nameInt (by decide)) ?N ?m ?c ?d ?r ?u ?a ?_; (case N => k_asm); (case m => k_mem); (case c => exact rfl); (case d => exact rfl); (case r => repeat constructor); (case u => ktr_units); (case a => decide +kernel))
  | (refine' in_name false (nameInt (by decide)) ?N ?m ?c ?d ?r ?u ?a ?_; (case N => k_asm); (case m => k_mem); (case c => exact rfl); (case d => exact rfl); (case r => repeat constructor); (case u => ktr_units); (case a => decide +kernel)))))
        | ((k_here; (with_reducible show wpAny _ _ (compareOp CmpOp.In _ (Value.ref _)) _ _ _); k_dflt (first
  | (refine' in_name true ?V ?N ?m ?c ?d ?r ?u ?a ?_; (case V => with_reducible assumption); (case N => k_asm); (case m => k_mem); (case c => exact rfl); (case d => exact rfl); (case r => repeat constructor); (case u => ktr_units); (case a => decide +kernel))
  | (refine' in_name false ?V ?N ?m ?c ?d ?r ?u ?a ?_; (case V => with_reducible assumption); (case N => k_asm); (case m => k_mem); (case c => exact rfl); (case d => exact rfl); (case r => repeat constructor); (case u => ktr_units); (case a => decide +kernel)))))
        | ((with_reducible show wpAny _ _ (PySem.truthy _) _ _ _); (k_here; k_dflt (refine' truthy_name ?V ?_; (case V => with_reducible assumption)); intro tk9; (try dsimp only)))) | walk1)
      | (k_here; first
        | ((with_reducible show wpAny _ _ (call (Value.ref _) _ _) _ _ _); (k_here; first
  | ((with_reducible show wpAny _ _ (call (Value.ref 66) _ _) _ _ _); (rename (∀ _ : Tok, Call _ _ _ _ _ _) => hC9); k_dflt (refine use (hC9 0) ?_); (try dsimp only [RetI, RetB, RetT, RetS, RetT7, RetT3]); intros; (try dsimp only); (try k_sweep))
  | ((refine wpAny_call ?_); k_dflt (refine' code_def ?k1 ?k2 ?k3 ?k4 ?k5 ?kA ?kF ?kK ?k6 ?k7 ?k8 ?k9 ?kB ?_ ?c2 ?c3 ?c4 ?c5; (case kA => exact rfl); (case kF => exact rfl); (case kK => first | exact rfl | assumption); (case k1 => k_asm); (case k2 => k_asm); (case k3 => k_asm); (case k4 => k_asm); (case k5 => k_asm); (case k6 => k_is); (case k7 => k_is); (case k8 => ktr_room); (case k9 => first | exact BindsTo.of_eq rfl | exact binds_K (by k_in) rfl (by k_is) rfl rfl rfl); (case c5 => decide); (case kB => exact locs rfl); (case c2 => exact rfl); (case c3 => exact rfl); (case c4 => exact rfl); k_whole; intro g' L' h' FG' F' N' B' X' T'; (try dsimp only); (try k_lift B'); (try k_fold)))))
        | ((k_here; first
  | with_reducible refine ite_tt ?_ | with_reducible refine ite_ff ?_
  | ((with_reducible show (if ((_ : Int) == _) = true then _ else _)); k_dflt (first | refine ite_beqT (by omega) ?_ | refine ite_beqF (by omega) ?_))
  | ((with_reducible show (if ((_ : Int) != _) = true then _ else _)); k_dflt (first | refine ite_bneT (by omega) ?_ | refine ite_bneF (by omega) ?_))))
        | (((with_reducible show wpAny _ _ (eval (Expr.Call (Expr.Name _ _) _ [] _) _) _ _ _); k_dflt (refine Call_ ?_)))
        | ((with_reducible show wpAny _ _ (compareOp CmpOp.In (Value.int _ _) (Value.ref _)) _ _ _); (k_here; (with_reducible show wpAny _ _ (compareOp CmpOp.In (Value.int 4 _) (Value.ref _)) _ _ _); k_dflt (first
  | (refine' in_name true (nameInt (by decide)) ?N ?m ?c ?d ?r ?u ?a ?_; (case N => k_asm); (case m => k_mem); (case c => exact rfl); (case d => exact rfl); (case r => repeat constructor); (case u => ktr_units); (case a => decide +kernel))
  | (refine' in_name false (nameInt (by decide)) ?N ?m ?c ?d ?r ?u ?a ?_; (case N => k_asm); (case m => k_mem); (case c => exact rfl); (case d => exact rfl); (case r => repeat constructor); (case u => ktr_units); (case a => decide +kernel)))))
        | ((k_here; (with_reducible show wpAny _ _ (compareOp CmpOp.In _ (Value.ref _)) _ _ _); k_dflt (first
  | (refine' in_name true ?V ?N ?m ?c ?d ?r ?u ?a ?_; (case V => with_reducible assumption); (case N => k_asm); (case m => k_mem); (case c => exact rfl); (case d => exact rfl); (case r => repeat constructor); (case u => ktr_units); (case a => decide +kernel))
  | (refine' in_name false ?V ?N ?m ?c ?d ?r ?u ?a ?_; (case V => with_reducible assumption); (case N => k_asm); (case m => k_mem); (case c => exact rfl); (case d => exact rfl); (case r => repeat constructor); (case u => ktr_units); (case a => decide +kernel)))))
        | ((with_reducible show wpAny _ _ (PySem.truthy _) _ _ _); (k_here; k_dflt (refine' truthy_name ?V ?_; (case V => with_reducible assumption)); intro tk9; (try dsimp only))))
      | walk1
      | (leave1; walk_say "STEP leave1"; try dsimp only)
      | fail "no step"))
  all_goals (first | exact endS hret rfl (by k_asm) (by first | k_asm | exact lessN (by k_asm) (by first | exact (fun _ hp => hp) | exact (fun _ hp => .tail _ hp) | exact (fun _ hp => .tail _ (.tail _ hp)) | exact (fun _ hp => .tail _ (.tail _ (.tail _ hp))) | exact (fun _ hp => .tail _ (.tail _ (.tail _ (.tail _ hp)))) | exact (fun _ hp => .tail _ (.tail _ (.tail _ (.tail _ (.tail _ hp))))) | exact (fun _ hp => .tail _ (.tail _ (.tail _ (.tail _ (.tail _ (.tail _ hp)))))) | exact (fun _ hp => .tail _ (.tail _ (.tail _ (.tail _ (.tail _ (.tail _ (.tail _ hp))))))) | exact (fun _ hp => .tail _ (.tail _ (.tail _ (.tail _ (.tail _ (.tail _ (.tail _ (.tail _ hp)))))))))))
end
section
theorem c_ask1s (w : World) (y mo d : Int) (v : Value) (t1 ty tm td : Tok) (ks : List PyData) (b : Bool) (V : NameOf ks v) (h1 : 1 ≤ d) (h2 : d ≤ 30) (h3 : mo = 13) (h4 : (5 + if b = true then 1 else 0) < d) (CL : ∀ _ : Bool, Call 1 w 58 [.int y ty] [(Str.ofString "method", v)] (RetB b)) : CallL 5 w 123 [.int 1 t1, .int y ty, .int mo tm, .int d td, v] [] (RetS (Str.ofString "refused")) := by
  unfold CallL
  k_fill
  intro mean mg mb dp un gd cn cs aa ccd A₀ h₀ L m news s Q E B F X N T hk hd hu hret
  refine wpAny_call ?_
  k_dflt (refine' code_defS0 ?k1 ?k2 ?k3 ?k4 ?k5 ?kA ?k6 ?k7 ?k8 ?k9 ?kB ?_ ?cK ?c2 ?c3 ?c4 ?c5; (case kA => exact rfl); (case k2 => k_asm); (case k1 => k_asm); (case k3 => k_asm); (case k4 => k_asm); (case k5 => k_asm); (case k6 => k_is); (case k7 => k_is); (case k8 => ktr_room); (case k9 => first | exact BindsTo.of_eq rfl | exact binds_K (by k_in) rfl (by k_is) rfl rfl rfl); (case kB => exact locs rfl); (case cK => first | exact rfl | assumption); (case c2 => exact rfl); (case c3 => exact rfl); (case c4 => exact rfl); (case c5 => decide); k_whole; intro g' L' h' FG' F' N' B' X' T' D'; (try dsimp only); (try k_lift B'); (try k_fold))
  (repeat' (first
      | (k_unfold; (try dsimp only))
      | (k_end; wrow_close)
      | (dsimp only; first | (k_here; first
        | ((with_reducible show wpAny _ _ (call (Value.ref _) _ _) _ _ _); (k_here; first
  | ((with_reducible show wpAny _ _ (call (Value.ref 58) _ _) _ _ _); (rename (∀ _ : Bool, Call _ _ _ _ _ _) => hC8); k_dflt (refine use (hC8 true) ?_); (try dsimp only [RetI, RetB, RetT, RetS, RetT7, RetT3]); intros; (try dsimp only); (try k_sweep))
  | ((refine wpAny_call ?_); k_dflt (refine' code_def ?k1 ?k2 ?k3 ?k4 ?k5 ?kA ?kF ?kK ?k6 ?k7 ?k8 ?k9 ?kB ?_ ?c2 ?c3 ?c4 ?c5; (case kA => exact rfl); (case kF => exact rfl); (case kK => first | exact rfl | assumption); (case k1 => k_asm); (case k2 => k_asm); (case k3 => k_asm); (case k4 => k_asm); (case k5 => k_asm); (case k6 => k_is); (case k7 => k_is); (case k8 => ktr_room); (case k9 => first | exact BindsTo.of_eq rfl | exact binds_K (by k_in) rfl (by k_is) rfl rfl rfl); (case c5 => decide); (case kB => exact locs rfl); (case c2 => exact rfl); (case c3 => exact rfl); (case c4 => exact rfl); k_whole; intro g' L' h' FG' F' N' B' X' T'; (try dsimp only); (try k_lift B'); (try k_fold)))))
        | ((k_here; first
  | with_reducible refine ite_tt ?_ | with_reducible refine ite_ff ?_
  | ((with_reducible show (if ((_ : Int) == _) = true then _ else _)); k_dflt (first | refine ite_beqT (by omega) ?_ | refine ite_beqF (by omega) ?_))
  | ((with_reducible show (if ((_ : Int) != _) = true then _ else _)); k_dflt (first | refine ite_bneT (by omega) ?_ | refine ite_bneF (by omega) ?_))))
        | (((with_reducible show wpAny _ _ (eval (Expr.Call (Expr.Name _ _) _ [] _) _) _ _ _); k_dflt (refine Call_ ?_)))
        | ((with_reducible show wpAny _ _ (compareOp CmpOp.In (Value.int _ _) (Value.ref _)) _ _ _); (k_here; (with_reducible show wpAny _ _ (compareOp CmpOp.In (Value.int 4 _) (Value.ref _)) _ _ _); k_dflt (first
  | (refine' in_name true (nameInt (by decide)) ?N ?m ?c ?d ?r ?u ?a ?_; (case N => k_asm); (case m => k_mem); (case c => exact rfl); (case d => exact rfl); (case r => repeat constructor); (case u => ktr_units); (case a => decide +kernel))
  | (refine' in_name false (nameInt (by decide)) ?N ?m ?c ?d ?r ?u ?a ?_; (case N => k_asm); (case m => k_mem); (case c => exact rfl); (case d => exact rfl); (case r => repeat constructor); (case u => ktr_units); (case a => decide +kernel)))))
        | ((k_here; (with_reducible show wpAny _ _ (compareOp CmpOp.In _ (Value.ref _)) _ _ _); k_dflt (first
  | (refine' in_name true ?V ?N ?m ?c ?d ?r ?u ?a ?_; (case V => with_reducible assumption); (case N => k_asm); (case m => k_mem); (case c => exact rfl); (case d => exact rfl); (case r => repeat constructor); (case u => ktr_units); (case a => decide +kernel))
  | (refine' in_name false ?V ?N ?m ?c ?d ?r ?u ?a ?_; (case V => with_reducible assumption); (case N => k_asm); (case m => k_mem); (case c => exact rfl); (case d => exact rfl); (case r => repeat constructor); (case u => ktr_units); (case a => decide +kernel)))))
        | ((with_reducible show wpAny _ _ (PySem.truthy _) _ _ _); (k_here; k_dflt (refine' truthy_name ?V ?_; (case V => with_reducible assumption)); intro tk9; (try dsimp only)))) | walk1)
      | (k_here; first
        | ((with_reducible show wpAny _ _ (call (Value.ref _) _ _) _ _ _); (k_here; first
  | ((with_reducible show wpAny _ _ (call (Value.ref 58) _ _) _ _ _); (rename (∀ _ : Bool, Call _ _ _ _ _ _) => hC8); k_dflt (refine use (hC8 true) ?_); (try dsimp only [RetI, RetB, RetT, RetS, RetT7, RetT3]); intros; (try dsimp only); (try k_sweep))
  | ((refine wpAny_call ?_); k_dflt (refine' code_def ?k1 ?k2 ?k3 ?k4 ?k5 ?kA ?kF ?kK ?k6 ?k7 ?k8 ?k9 ?kB ?_ ?c2 ?c3 ?c4 ?c5; (case kA => exact rfl); (case kF => exact rfl); (case kK => first | exact rfl | assumption); (case k1 => k_asm); (case k2 => k_asm); (case k3 => k_asm); (case k4 => k_asm); (case k5 => k_asm); (case k6 => k_is); (case k7 => k_is); (case k8 => ktr_room); (case k9 => first | exact BindsTo.of_eq rfl | exact binds_K (by k_in) rfl (by k_is) rfl rfl rfl); (case c5 => decide); (case kB => exact locs rfl); (case c2 => exact rfl); (case c3 => exact rfl); (case c4 => exact rfl); k_whole; intro g' L' h' FG' F' N' B' X' T'; (try dsimp only); (try k_lift B'); (try k_fold)))))
        | ((k_here; first
  | with_reducible refine ite_tt ?_ | with_reducible refine ite_ff ?_
  | ((with_reducible show (if ((_ : Int) == _) = true then _ else _)); k_dflt (first | refine ite_beqT (by omega) ?_ | refine ite_beqF (by omega) ?_))
  | ((with_reducible show (if ((_ : Int) != _) = true then _ else _)); k_dflt (first | refine ite_bneT (by omega) ?_ | refine ite_bneF (by omega) ?_))))
        | (((with_reducible show wpAny _ _ (eval (Expr.Call (Expr.Name _ _) _ [] _) _) _ _ _); k_dflt (refine Call_ ?_)))
        | ((with_reducible show wpAny _ _ (compareOp CmpOp.In (Value.int _ _) (Value.ref _)) _ _ _); (k_here; (with_reducible show wpAny _ _ (compareOp CmpOp.In (Value.int 4 _) (Value.ref _)) _ _ _); k_dflt (first
  | (refine' in_name true (nameInt (by decide)) ?N ?m ?c ?d ?r ?u ?a ?_; (case N => k_asm); (case m => k_mem); (case c => exact rfl); (case d => exact rfl); (case r => repeat constructor); (case u => ktr_units); (case a => decide +kernel))
  | (refine' in_name false (nameInt (by decide)) ?N ?m ?c ?d ?r ?u ?a ?_; (case N => k_asm); (case m => k_mem); (case c => exact rfl); (case d => exact rfl); (case r => repeat constructor); (case u => ktr_units); (case a => decide +kernel)))))
        | ((k_here; (with_reducible show wpAny _ _ (compareOp CmpOp.In _ (Value.ref _)) _ _ _); k_dflt (first
  | (refine' in_name true ?V ?N ?m ?c ?d ?r ?u ?a ?_; (case V => with_reducible assumption); (case N => k_asm); (case m => k_mem); (case c => exact rfl); (case d => exact rfl); (case r => repeat constructor); (case u => ktr_units); (case a => decide +kernel))
  | (refine' in_name false ?V ?N ?m ?c ?d ?r ?u ?a ?_; (case V => with_reducible assumption); (case N => k_asm); (case m => k_mem); (case c => exact rfl); (case d => exact rfl); (case r => repeat constructor); (case u => ktr_units); (case a => decide +kernel)))))
        | ((with_reducible show wpAny _ _ (PySem.truthy _) _ _ _); (k_here; k_dflt (refine' truthy_name ?V ?_; (case V => with_reducible assumption)); intro tk9; (try dsimp only))))
      | walk1
      | (leave1; walk_say "STEP leave1"; try dsimp only)
      | fail "no step"))
  all_goals (first | exact endS hret rfl (by k_asm) (by first | k_asm | exact lessN (by k_asm) (by first | exact (fun _ hp => hp) | exact (fun _ hp => .tail _ hp) | exact (fun _ hp => .tail _ (.tail _ hp)) | exact (fun _ hp => .tail _ (.tail _ (.tail _ hp))) | exact (fun _ hp => .tail _ (.tail _ (.tail _ (.tail _ hp)))) | exact (fun _ hp => .tail _ (.tail _ (.tail _ (.tail _ (.tail _ hp))))) | exact (fun _ hp => .tail _ (.tail _ (.tail _ (.tail _ (.tail _ (.tail _ hp)))))) | exact (fun _ hp => .tail _ (.tail _ (.tail _ (.tail _ (.tail _ (.tail _ (.tail _ hp))))))) | exact (fun _ hp => .tail _ (.tail _ (.tail _ (.tail _ (.tail _ (.tail _ (.tail _ (.tail _ hp)))))))))))
end
section
theorem c_ask0r (w : World) (j mo d : Int) (v : Value) (t1 ty tm td : Tok) (V : NameOf names3 v) (hj : 2375840 ≤ j) : CallL 5 w 123 [.int 0 t1, .int j ty, .int mo tm, .int d td, v] [] (RetS (Str.ofString "refused")) := by
  unfold CallL
  k_fill
  intro mean mg mb dp un gd cn cs aa ccd A₀ h₀ L m news s Q E B F X N T hk hd hu hret
  refine wpAny_call ?_
  k_dflt (refine' code_defS0 ?k1 ?k2 ?k3 ?k4 ?k5 ?kA ?k6 ?k7 ?k8 ?k9 ?kB ?_ ?cK ?c2 ?c3 ?c4 ?c5; (case kA => exact rfl); (case k2 => k_asm); (case k1 => k_asm); (case k3 => k_asm); (case k4 => k_asm); (case k5 => k_asm); (case k6 => k_is); (case k7 => k_is); (case k8 => ktr_room); (case k9 => first | exact BindsTo.of_eq rfl | exact binds_K (by k_in) rfl (by k_is) rfl rfl rfl); (case kB => exact locs rfl); (case cK => first | exact rfl | assumption); (case c2 => exact rfl); (case c3 => exact rfl); (case c4 => exact rfl); (case c5 => decide); k_whole; intro g' L' h' FG' F' N' B' X' T' D'; (try dsimp only); (try k_lift B'); (try k_fold))
  (repeat' (first
      | (k_unfold; (try dsimp only))
      | (k_end; wrow_close)
      | (dsimp only; first | (k_here; first
        | ((k_here; (fail_if_success (with_reducible rename CutMark => cM9)); (with_reducible show wpAny _ _ (PySem.isTrue (Expr.BoolOp BoolOp.Or [Expr.BoolOp _ _ _, Expr.BoolOp _ _ _] _) _ _) _ _ _); k_dflt (refine' cutB false ?F ?N (fun cM9 R9 hR9 => ?_) (fun h9 tk9 F9 N9 => ?_); (case F => k_asm); (case N => k_asm)); (all_goals (try dsimp only)); (all_goals (try k_sweep))))
        | ((with_reducible show wpAny _ _ (call (Value.ref _) _ _) _ _ _); (k_here; first
  | ((refine wpAny_call ?_); k_dflt (refine' code_def ?k1 ?k2 ?k3 ?k4 ?k5 ?kA ?kF ?kK ?k6 ?k7 ?k8 ?k9 ?kB ?_ ?c2 ?c3 ?c4 ?c5; (case kA => exact rfl); (case kF => exact rfl); (case kK => first | exact rfl | assumption); (case k1 => k_asm); (case k2 => k_asm); (case k3 => k_asm); (case k4 => k_asm); (case k5 => k_asm); (case k6 => k_is); (case k7 => k_is); (case k8 => ktr_room); (case k9 => first | exact BindsTo.of_eq rfl | exact binds_K (by k_in) rfl (by k_is) rfl rfl rfl); (case c5 => decide); (case kB => exact locs rfl); (case c2 => exact rfl); (case c3 => exact rfl); (case c4 => exact rfl); k_whole; intro g' L' h' FG' F' N' B' X' T'; (try dsimp only); (try k_lift B'); (try k_fold)))))
        | ((k_here; first
  | with_reducible refine ite_tt ?_ | with_reducible refine ite_ff ?_
  | ((with_reducible show (if ((_ : Int) == _) = true then _ else _)); k_dflt (first | refine ite_beqT (by omega) ?_ | refine ite_beqF (by omega) ?_))
  | ((with_reducible show (if ((_ : Int) != _) = true then _ else _)); k_dflt (first | refine ite_bneT (by omega) ?_ | refine ite_bneF (by omega) ?_))))
        | (((with_reducible show wpAny _ _ (eval (Expr.Call (Expr.Name _ _) _ [] _) _) _ _ _); k_dflt (refine Call_ ?_)))
        | ((with_reducible show wpAny _ _ (compareOp CmpOp.In (Value.int _ _) (Value.ref _)) _ _ _); (k_here; (with_reducible show wpAny _ _ (compareOp CmpOp.In (Value.int 4 _) (Value.ref _)) _ _ _); k_dflt (first
  | (refine' in_name true (nameInt (by decide)) ?N ?m ?c ?d ?r ?u ?a ?_; (case N => k_asm); (case m => k_mem); (case c => exact rfl); (case d => exact rfl); (case r => repeat constructor); (case u => ktr_units); (case a => decide +kernel))
  | (refine' in_name false (nameInt (by decide)) ?N ?m ?c ?d ?r ?u ?a ?_; (case N => k_asm); (case m => k_mem); (case c => exact rfl); (case d => exact rfl); (case r => repeat constructor); (case u => ktr_units); (case a => decide +kernel)))))
        | ((k_here; (with_reducible show wpAny _ _ (compareOp CmpOp.In _ (Value.ref _)) _ _ _); k_dflt (first
  | (refine' in_name true ?V ?N ?m ?c ?d ?r ?u ?a ?_; (case V => with_reducible assumption); (case N => k_asm); (case m => k_mem); (case c => exact rfl); (case d => exact rfl); (case r => repeat constructor); (case u => ktr_units); (case a => decide +kernel))
  | (refine' in_name false ?V ?N ?m ?c ?d ?r ?u ?a ?_; (case V => with_reducible assumption); (case N => k_asm); (case m => k_mem); (case c => exact rfl); (case d => exact rfl); (case r => repeat constructor); (case u => ktr_units); (case a => decide +kernel)))))
        | ((with_reducible show wpAny _ _ (PySem.truthy _) _ _ _); (k_here; k_dflt (refine' truthy_name ?V ?_; (case V => with_reducible assumption)); intro tk9; (try dsimp only)))) | walk1)
      | (k_here; first
        | ((k_here; (fail_if_success (with_reducible rename CutMark => cM9)); (with_reducible show wpAny _ _ (PySem.isTrue (Expr.BoolOp BoolOp.Or [Expr.BoolOp _ _ _, Expr.BoolOp _ _ _] _) _ _) _ _ _); k_dflt (refine' cutB false ?F ?N (fun cM9 R9 hR9 => ?_) (fun h9 tk9 F9 N9 => ?_); (case F => k_asm); (case N => k_asm)); (all_goals (try dsimp only)); (all_goals (try k_sweep))))
        | ((with_reducible show wpAny _ _ (call (Value.ref _) _ _) _ _ _); (k_here; first
  | ((refine wpAny_call ?_); k_dflt (refine' code_def ?k1 ?k2 ?k3 ?k4 ?k5 ?kA ?kF ?kK ?k6 ?k7 ?k8 ?k9 ?kB ?_ ?c2 ?c3 ?c4 ?c5; (case kA => exact rfl); (case kF => exact rfl); (case kK => first | exact rfl | assumption); (case k1 => k_asm); (case k2 => k_asm); (case k3 => k_asm); (case k4 => k_asm); (case k5 => k_asm); (case k6 => k_is); (case k7 => k_is); (case k8 => ktr_room); (case k9 => first | exact BindsTo.of_eq rfl | exact binds_K (by k_in) rfl (by k_is) rfl rfl rfl); (case c5 => decide); (case kB => exact locs rfl); (case c2 => exact rfl); (case c3 => exact rfl); (case c4 => exact rfl); k_whole; intro g' L' h' FG' F' N' B' X' T'; (try dsimp only); (try k_lift B'); (try k_fold)))))
        | ((k_here; first
  | with_reducible refine ite_tt ?_ | with_reducible refine ite_ff ?_
  | ((with_reducible show (if ((_ : Int) == _) = true then _ else _)); k_dflt (first | refine ite_beqT (by omega) ?_ | refine ite_beqF (by omega) ?_))
  | ((with_reducible show (if ((_ : Int) != _) = true then _ else _)); k_dflt (first | refine ite_bneT (by omega) ?_ | refine ite_bneF (by omega) ?_))))
        | (((with_reducible show wpAny _ _ (eval (Expr.Call (Expr.Name _ _) _ [] _) _) _ _ _); k_dflt (refine Call_ ?_)))
        | ((with_reducible show wpAny _ _ (compareOp CmpOp.In (Value.int _ _) (Value.ref _)) _ _ _); (k_here; (with_reducible show wpAny _ _ (compareOp CmpOp.In (Value.int 4 _) (Value.ref _)) _ _ _); k_dflt (first
  | (refine' in_name true (nameInt (by decide)) ?N ?m ?c ?d ?r ?u ?a ?_; (case N => k_asm); (case m => k_mem); (case c => exact rfl); (case d => exact rfl); (case r => repeat constructor); (case u => ktr_units); (case a => decide +kernel))
  | (refine' in_name false (nameInt (by decide)) ?N ?m ?c ?d ?r ?u ?a ?_; (case N => k_asm); (case m => k_mem); (case c => exact rfl); (case d => exact rfl); (case r => repeat constructor); (case u => ktr_units); (case a => decide +kernel)))))
        | ((k_here; (with_reducible show wpAny _ _ (compareOp CmpOp.In _ (Value.ref _)) _ _ _); k_dflt (first
  | (refine' in_name true ?V ?N ?m ?c ?d ?r ?u ?a ?_; (case V => with_reducible assumption); (case N => k_asm); (case m => k_mem); (case c => exact rfl); (case d => exact rfl); (case r => repeat constructor); (case u => ktr_units); (case a => decide +kernel))
  | (refine' in_name false ?V ?N ?m ?c ?d ?r ?u ?a ?_; (case V => with_reducible assumption); (case N => k_asm); (case m => k_mem); (case c => exact rfl); (case d => exact rfl); (case r => repeat constructor); (case u => ktr_units); (case a => decide +kernel)))))
        | ((with_reducible show wpAny _ _ (PySem.truthy _) _ _ _); (k_here; k_dflt (refine' truthy_name ?V ?_; (case V => with_reducible assumption)); intro tk9; (try dsimp only))))
      | walk1
      | (leave1; walk_say "STEP leave1"; try dsimp only)
      | fail "no step"))
  any_goals ((with_reducible rename CutMark => cM9); exact cutEnd (by assumption) rfl (by k_asm) (by k_asm) (by first | exact (fun _ hp => hp) | exact (fun _ hp => .tail _ hp) | exact (fun _ hp => .tail _ (.tail _ hp)) | exact (fun _ hp => .tail _ (.tail _ (.tail _ hp))) | exact (fun _ hp => .tail _ (.tail _ (.tail _ (.tail _ hp)))) | exact (fun _ hp => .tail _ (.tail _ (.tail _ (.tail _ (.tail _ hp))))) | exact (fun _ hp => .tail _ (.tail _ (.tail _ (.tail _ (.tail _ (.tail _ hp)))))) | exact (fun _ hp => .tail _ (.tail _ (.tail _ (.tail _ (.tail _ (.tail _ (.tail _ hp))))))) | exact (fun _ hp => .tail _ (.tail _ (.tail _ (.tail _ (.tail _ (.tail _ (.tail _ (.tail _ hp))))))))))
  all_goals (first | exact endS hret rfl (by k_asm) (by first | k_asm | exact lessN (by k_asm) (by first | exact (fun _ hp => hp) | exact (fun _ hp => .tail _ hp) | exact (fun _ hp => .tail _ (.tail _ hp)) | exact (fun _ hp => .tail _ (.tail _ (.tail _ hp))) | exact (fun _ hp => .tail _ (.tail _ (.tail _ (.tail _ hp)))) | exact (fun _ hp => .tail _ (.tail _ (.tail _ (.tail _ (.tail _ hp))))) | exact (fun _ hp => .tail _ (.tail _ (.tail _ (.tail _ (.tail _ (.tail _ hp)))))) | exact (fun _ hp => .tail _ (.tail _ (.tail _ (.tail _ (.tail _ (.tail _ (.tail _ hp))))))) | exact (fun _ hp => .tail _ (.tail _ (.tail _ (.tail _ (.tail _ (.tail _ (.tail _ (.tail _ hp)))))))))))
theorem c_ask1r (w : World) (y : Int) (v : Value) (t1 ty tm td : Tok) (V : NameOf names3 v) : CallL 5 w 123 [.int 1 t1, .int y ty, .int 1 tm, .int 1 td, v] [] (RetS (Str.ofString "refused")) := by
  unfold CallL
  k_fill
  intro mean mg mb dp un gd cn cs aa ccd A₀ h₀ L m news s Q E B F X N T hk hd hu hret
  refine wpAny_call ?_
  k_dflt (refine' code_defS0 ?k1 ?k2 ?k3 ?k4 ?k5 ?kA ?k6 ?k7 ?k8 ?k9 ?kB ?_ ?cK ?c2 ?c3 ?c4 ?c5; (case kA => exact rfl); (case k2 => k_asm); (case k1 => k_asm); (case k3 => k_asm); (case k4 => k_asm); (case k5 => k_asm); (case k6 => k_is); (case k7 => k_is); (case k8 => ktr_room); (case k9 => first | exact BindsTo.of_eq rfl | exact binds_K (by k_in) rfl (by k_is) rfl rfl rfl); (case kB => exact locs rfl); (case cK => first | exact rfl | assumption); (case c2 => exact rfl); (case c3 => exact rfl); (case c4 => exact rfl); (case c5 => decide); k_whole; intro g' L' h' FG' F' N' B' X' T' D'; (try dsimp only); (try k_lift B'); (try k_fold))
  (repeat' (first
      | (k_unfold; (try dsimp only))
      | (k_end; wrow_close)
      | (dsimp only; first | (k_here; first
        | ((k_here; (fail_if_success (with_reducible rename CutMark => cM9)); (with_reducible show wpAny _ _ (PySem.isTrue (Expr.BoolOp BoolOp.Or [Expr.BoolOp _ _ _, Expr.BoolOp _ _ _] _) _ _) _ _ _); k_dflt (refine' cutB false ?F ?N (fun cM9 R9 hR9 => ?_) (fun h9 tk9 F9 N9 => ?_); (case F => k_asm); (case N => k_asm)); (all_goals (try dsimp only)); (all_goals (try k_sweep))))
        | ((with_reducible show wpAny _ _ (call (Value.ref _) _ _) _ _ _); (k_here; first
  | ((refine wpAny_call ?_); k_dflt (refine' code_def ?k1 ?k2 ?k3 ?k4 ?k5 ?kA ?kF ?kK ?k6 ?k7 ?k8 ?k9 ?kB ?_ ?c2 ?c3 ?c4 ?c5; (case kA => exact rfl); (case kF => exact rfl); (case kK => first | exact rfl | assumption); (case k1 => k_asm); (case k2 => k_asm); (case k3 => k_asm); (case k4 => k_asm); (case k5 => k_asm); (case k6 => k_is); (case k7 => k_is); (case k8 => ktr_room); (case k9 => first | exact BindsTo.of_eq rfl | exact binds_K (by k_in) rfl (by k_is) rfl rfl rfl); (case c5 => decide); (case kB => exact locs rfl); (case c2 => exact rfl); (case c3 => exact rfl); (case c4 => exact rfl); k_whole; intro g' L' h' FG' F' N' B' X' T'; (try dsimp only); (try k_lift B'); (try k_fold)))))
        | ((k_here; first
  | with_reducible refine ite_tt ?_ | with_reducible refine ite_ff ?_
  | ((with_reducible show (if ((_ : Int) == _) = true then _ else _)); k_dflt (first | refine ite_beqT (by omega) ?_ | refine ite_beqF (by omega) ?_))
  | ((with_reducible show (if ((_ : Int) != _) = true then _ else _)); k_dflt (first | refine ite_bneT (by omega) ?_ | refine ite_bneF (by omega) ?_))))
        | (((with_reducible show wpAny _ _ (eval (Expr.Call (Expr.Name _ _) _ [] _) _) _ _ _); k_dflt (refine Call_ ?_)))
        | ((with_reducible show wpAny _ _ (compareOp CmpOp.In (Value.int _ _) (Value.ref _)) _ _ _); (k_here; (with_reducible show wpAny _ _ (compareOp CmpOp.In (Value.int 4 _) (Value.ref _)) _ _ _); k_dflt (first
  | (refine' in_name true (nameInt (by decide)) ?N ?m ?c ?d ?r ?u ?a ?_; (case N => k_asm); (case m => k_mem); (case c => exact rfl); (case d => exact rfl); (case r => repeat constructor); (case u => ktr_units); (case a => decide +kernel))
  | (refine' in_name false (nameInt (by decide)) ?N ?m ?c ?d ?r ?u ?a ?_; (case N => k_asm); (case m => k_mem); (case c => exact rfl); (case d => exact rfl); (case r => repeat constructor); (case u => ktr_units); (case a => decide +kernel)))))
        | ((k_here; (with_reducible show wpAny _ _ (compareOp CmpOp.In _ (Value.ref _)) _ _ _); k_dflt (first
  | (refine' in_name true ?V ?N ?m ?c ?d ?r ?u ?a ?_; (case V => with_reducible assumption); (case N => k_asm); (case m => k_mem); (case c => exact rfl); (case d => exact rfl); (case r => repeat constructor); (case u => ktr_units); (case a => decide +kernel))
  | (refine' in_name false ?V ?N ?m ?c ?d ?r ?u ?a ?_; (case V => with_reducible assumption); (case N => k_asm); (case m => k_mem); (case c => exact rfl); (case d => exact rfl); (case r => repeat constructor); (case u => ktr_units); (case a => decide +kernel)))))
        | ((with_reducible show wpAny _ _ (PySem.truthy _) _ _ _); (k_here; k_dflt (refine' truthy_name ?V ?_; (case V => with_reducible assumption)); intro tk9; (try dsimp only)))) | walk1)
      | (k_here; first
        | ((k_here; (fail_if_success (with_reducible rename CutMark => cM9)); (with_reducible show wpAny _ _ (PySem.isTrue (Expr.BoolOp BoolOp.Or [Expr.BoolOp _ _ _, Expr.BoolOp _ _ _] _) _ _) _ _ _); k_dflt (refine' cutB false ?F ?N (fun cM9 R9 hR9 => ?_) (fun h9 tk9 F9 N9 => ?_); (case F => k_asm); (case N => k_asm)); (all_goals (try dsimp only)); (all_goals (try k_sweep))))
        | ((with_reducible show wpAny _ _ (call (Value.ref _) _ _) _ _ _); (k_here; first
  | ((refine wpAny_call ?_); k_dflt (refine' code_def ?k1 ?k2 ?k3 ?k4 ?k5 ?kA ?kF ?kK ?k6 ?k7 ?k8 ?k9 ?kB ?_ ?c2 ?c3 ?c4 ?c5; (case kA => exact rfl); (case kF => exact rfl); (case kK => first | exact rfl | assumption); (case k1 => k_asm); (case k2 => k_asm); (case k3 => k_asm); (case k4 => k_asm); (case k5 => k_asm); (case k6 => k_is); (case k7 => k_is); (case k8 => ktr_room); (case k9 => first | exact BindsTo.of_eq rfl | exact binds_K (by k_in) rfl (by k_is) rfl rfl rfl); (case c5 => decide); (case kB => exact locs rfl); (case c2 => exact rfl); (case c3 => exact rfl); (case c4 => exact rfl); k_whole; intro g' L' h' FG' F' N' B' X' T'; (try dsimp only); (try k_lift B'); (try k_fold)))))
        | ((k_here; first
  | with_reducible refine ite_tt ?_ | with_reducible refine ite_ff ?_
  | ((with_reducible show (if ((_ : Int) == _) = true then _ else _)); k_dflt (first | refine ite_beqT (by omega) ?_ | refine ite_beqF (by omega) ?_))
  | ((with_reducible show (if ((_ : Int) != _) = true then _ else _)); k_dflt (first | refine ite_bneT (by omega) ?_ | refine ite_bneF (by omega) ?_))))
        | (((with_reducible show wpAny _ _ (eval (Expr.Call (Expr.Name _ _) _ [] _) _) _ _ _); k_dflt (refine Call_ ?_)))
        | ((with_reducible show wpAny _ _ (compareOp CmpOp.In (Value.int _ _) (Value.ref _)) _ _ _); (k_here; (with_reducible show wpAny _ _ (compareOp CmpOp.In (Value.int 4 _) (Value.ref _)) _ _ _); k_dflt (first
  | (refine' in_name true (nameInt (by decide)) ?N ?m ?c ?d ?r ?u ?a ?_; (case N => k_asm); (case m => k_mem); (case c => exact rfl); (case d => exact rfl); (case r => repeat constructor); (case u => ktr_units); (case a => decide +kernel))
  | (refine' in_name false (nameInt (by decide)) ?N ?m ?c ?d ?r ?u ?a ?_; (case N => k_asm); (case m => k_mem); (case c => exact rfl); (case d => exact rfl); (case r => repeat constructor); (case u => ktr_units); (case a => decide +kernel)))))
        | ((k_here; (with_reducible show wpAny _ _ (compareOp CmpOp.In _ (Value.ref _)) _ _ _); k_dflt (first
  | (refine' in_name true ?V ?N ?m ?c ?d ?r ?u ?a ?_; (case V => with_reducible assumption); (case N => k_asm); (case m => k_mem); (case c => exact rfl); (case d => exact rfl); (case r => repeat constructor); (case u => ktr_units); (case a => decide +kernel))
  | (refine' in_name false ?V ?N ?m ?c ?d ?r ?u ?a ?_; (case V => with_reducible assumption); (case N => k_asm); (case m => k_mem); (case c => exact rfl); (case d => exact rfl); (case r => repeat constructor); (case u => ktr_units); (case a => decide +kernel)))))
        | ((with_reducible show wpAny _ _ (PySem.truthy _) _ _ _); (k_here; k_dflt (refine' truthy_name ?V ?_; (case V => with_reducible assumption)); intro tk9; (try dsimp only))))
      | walk1
      | (leave1; walk_say "STEP leave1"; try dsimp only)
      | fail "no step"))
  any_goals ((with_reducible rename CutMark => cM9); exact cutEnd (by assumption) rfl (by k_asm) (by k_asm) (by first | exact (fun _ hp => hp) | exact (fun _ hp => .tail _ hp) | exact (fun _ hp => .tail _ (.tail _ hp)) | exact (fun _ hp => .tail _ (.tail _ (.tail _ hp))) | exact (fun _ hp => .tail _ (.tail _ (.tail _ (.tail _ hp)))) | exact (fun _ hp => .tail _ (.tail _ (.tail _ (.tail _ (.tail _ hp))))) | exact (fun _ hp => .tail _ (.tail _ (.tail _ (.tail _ (.tail _ (.tail _ hp)))))) | exact (fun _ hp => .tail _ (.tail _ (.tail _ (.tail _ (.tail _ (.tail _ (.tail _ hp))))))) | exact (fun _ hp => .tail _ (.tail _ (.tail _ (.tail _ (.tail _ (.tail _ (.tail _ (.tail _ hp))))))))))
  all_goals (first | exact endS hret rfl (by k_asm) (by first | k_asm | exact lessN (by k_asm) (by first | exact (fun _ hp => hp) | exact (fun _ hp => .tail _ hp) | exact (fun _ hp => .tail _ (.tail _ hp)) | exact (fun _ hp => .tail _ (.tail _ (.tail _ hp))) | exact (fun _ hp => .tail _ (.tail _ (.tail _ (.tail _ hp)))) | exact (fun _ hp => .tail _ (.tail _ (.tail _ (.tail _ (.tail _ hp))))) | exact (fun _ hp => .tail _ (.tail _ (.tail _ (.tail _ (.tail _ (.tail _ hp)))))) | exact (fun _ hp => .tail _ (.tail _ (.tail _ (.tail _ (.tail _ (.tail _ (.tail _ hp))))))) | exact (fun _ hp => .tail _ (.tail _ (.tail _ (.tail _ (.tail _ (.tail _ (.tail _ (.tail _ hp)))))))))))
end
theorem dd_f (K : Int) (h : 0 ≤ K) : (K % 1461 = 1460 ∧ yrF K = 4 * (K / 1461) + 3 ∧ ddF K = 365) ∨ (K % 1461 ≠ 1460 ∧ yrF K = 4 * (K / 1461) + K % 1461 / 365 ∧ ddF K = K % 1461 % 365) := by
  by_cases q : K % 1461 = 1460
  · exact Or.inl ⟨q, by rw [yrF, if_pos q]; omega, by rw [ddF, if_pos q]⟩
  · exact Or.inr ⟨q, by rw [yrF, if_neg q]; omega, by rw [ddF, if_neg q]⟩
def limF (b : Bool) (m : Int) : Int := if m < 13 then 30 else if b = true then 6 else 5
theorem lim_le {b : Bool} {m d : Int} (h1 : d ≤ 30) (h2 : ¬ m < 13 → d ≤ 6) (h3 : ¬ m < 13 → d = 6 → b = true) : d ≤ limF b m := by
  unfold limF
  by_cases q : m < 13
  · rw [if_pos q]; exact h1
  · rw [if_neg q]
    cases b
    · have := h2 q
      have h4 : d ≠ 6 := fun e => absurd (h3 q e) Bool.false_ne_true
      rw [if_neg Bool.false_ne_true]; omega
    · rw [if_pos rfl]; exact h2 q
theorem lim_30 {b : Bool} {m d : Int} (h : d ≤ limF b m) : d ≤ 30 := by
  unfold limF at h
  split at h
  · exact h
  · split at h <;> omega
theorem lim_13 {b : Bool} {m d : Int} (h : d ≤ limF b m) : m = 13 → d ≤ (if b = true then 6 else 5) := fun e => by
  rw [limF, if_neg (by omega)] at h; exact h
theorem long0_t {y : Int} (h : y % 4 = 3) : long0 y = true := by rw [long0, decide_eq_true h]
theorem long1_lo {y : Int} (h : y = 3 ∨ y = 7 ∨ y = 11) : long1 y = true := by rw [long1, if_pos (by omega), decide_eq_true h]
theorem long1_hi {y : Int} (h : ¬ y < 13) (h4 : y % 4 = 0) (h1 : y % 100 ≠ 0) : long1 y = true := by rw [long1, if_neg h, decide_eq_true h4, decide_eq_false h1]; simp
theorem long2_lo {y : Int} (h : y = 3 ∨ y = 7 ∨ y = 11) : long2 y = true := by rw [long2, if_pos (by omega), decide_eq_true h]
theorem long2_15 {y : Int} (h : y = 15) : long2 y = true := by rw [long2, if_neg (by omega), if_pos (by omega), decide_eq_true h]
theorem long2_hi {y : Int} (h : ¬ y < 20) (h4 : y % 4 = 0) (h1 : y % 128 ≠ 0) : long2 y = true := by rw [long2, if_neg (by omega), if_neg h, decide_eq_true h4, decide_eq_false h1]; rfl
theorem p0 {j : Int} (hj : 2375840 ≤ j) : 1 ≤ Y0 j ∧ 1 ≤ M0 j ∧ M0 j ≤ 13 ∧ 1 ≤ D0 j ∧ D0 j ≤ limF (long0 (Y0 j)) (M0 j) ∧ first0 (Y0 j) + 30 * (M0 j - 1) + D0 j - 1 = j := by
  unfold M0 D0 Y0
  rcases dd_f (j - 2375475) (by omega) with ⟨a, b, c⟩ | ⟨a, b, c⟩
  · rw [b, c]
    refine ⟨by omega, by omega, by omega, by omega, lim_le (by omega) (by omega) (fun _ _ => long0_t (by omega)), ?_⟩
    unfold first0; omega
  · rw [b, c]
    refine ⟨by omega, by omega, by omega, by omega, lim_le (by omega) (by omega) (fun _ _ => by omega), ?_⟩
    unfold first0; omega
theorem p1 {j : Int} (hj : 2375840 ≤ j) (hj2 : j < 2412364) : 1 ≤ Y1 j ∧ Y1 j ≤ 100 ∧ 1 ≤ M1 j ∧ M1 j ≤ 13 ∧ 1 ≤ D1 j ∧ D1 j ≤ limF (long1 (Y1 j)) (M1 j) ∧ first1 (Y1 j) + 30 * (M1 j - 1) + D1 j - 1 = j := by
  unfold M1 D1 Y1
  by_cases q : j ≤ 2380223
  · simp only [if_pos q]
    unfold M0 D0 Y0
    rcases dd_f (j - 2375475) (by omega) with ⟨a, b, c⟩ | ⟨a, b, c⟩
    · rw [b, c]
      refine ⟨by omega, by omega, by omega, by omega, by omega, lim_le (by omega) (by omega) (fun _ _ => long1_lo (by omega)), ?_⟩
      unfold first1; split <;> omega
    · rw [b, c]
      refine ⟨by omega, by omega, by omega, by omega, by omega, lim_le (by omega) (by omega) (fun _ _ => by omega), ?_⟩
      unfold first1; split <;> omega
  · simp only [if_neg q]
    rcases dd_f (j - 2380223) (by omega) with ⟨a, b, c⟩ | ⟨a, b, c⟩
    · rw [b, c]
      refine ⟨by omega, by omega, by omega, by omega, by omega, lim_le (by omega) (by omega) (fun _ _ => long1_hi (by omega) (by omega) (by omega)), ?_⟩
      unfold first1; split <;> omega
    · rw [b, c]
      refine ⟨by omega, by omega, by omega, by omega, by omega, lim_le (by omega) (by omega) (fun _ _ => by omega), ?_⟩
      unfold first1; split <;> omega
theorem p2 {j : Int} (hj : 2375840 ≤ j) (hj2 : j < 2422591) : 1 ≤ Y2 j ∧ Y2 j ≤ 128 ∧ 1 ≤ M2 j ∧ M2 j ≤ 13 ∧ 1 ≤ D2 j ∧ D2 j ≤ limF (long2 (Y2 j)) (M2 j) ∧ first2 (Y2 j) + 30 * (M2 j - 1) + D2 j - 1 = j := by
  unfold M2 D2 Y2
  by_cases q : j ≤ 2382049
  · simp only [if_pos q]
    unfold M0 D0 Y0
    rcases dd_f (j - 2375475) (by omega) with ⟨a, b, c⟩ | ⟨a, b, c⟩
    · rw [b, c]
      refine ⟨by omega, by omega, by omega, by omega, by omega, lim_le (by omega) (by omega) (fun _ _ => ?_), ?_⟩
      · by_cases z : 4 * ((j - 2375475) / 1461) + 3 = 15
        · exact long2_15 z
        · exact long2_lo (by omega)
      unfold first2; split <;> omega
    · rw [b, c]
      refine ⟨by omega, by omega, by omega, by omega, by omega, lim_le (by omega) (by omega) (fun _ _ => by omega), ?_⟩
      unfold first2; split <;> omega
  · simp only [if_neg q]
    rcases dd_f (j - 2381684) (by omega) with ⟨a, b, c⟩ | ⟨a, b, c⟩
    · rw [b, c]
      refine ⟨by omega, by omega, by omega, by omega, by omega, lim_le (by omega) (by omega) (fun _ _ => long2_hi (by omega) (by omega) (by omega)), ?_⟩
      unfold first2; split <;> omega
    · rw [b, c]
      refine ⟨by omega, by omega, by omega, by omega, by omega, lim_le (by omega) (by omega) (fun _ _ => by omega), ?_⟩
      unfold first2; split <;> omega
def chkAd (b : Bool) (t : Int) : Int := if t < 58 + (if b = true then 1 else 0) then 0 else if b = true then 1 else 2
def chkM (b : Bool) (t : Int) : Int := ((t + chkAd b t) * 12 + 373) / 367
def chkOff (b : Bool) (m : Int) : Int := (367 * m - 362) / 12 + (if m ≤ 2 then 0 else if b = true then -1 else -2)
def chkDim (b : Bool) (m : Int) : Int := if m = 2 then (if b = true then 29 else 28) else if ([4, 6, 9, 11].any (· == m)) = true then 30 else 31
theorem chkT : ∀ t : Nat, t < 366 → 0 ≤ (t : Int) - chkOff true (chkM true t) ∧ (t : Int) - chkOff true (chkM true t) + 1 ≤ chkDim true (chkM true t) := by decide +kernel
theorem chkFl : ∀ t : Nat, t < 365 → 0 ≤ (t : Int) - chkOff false (chkM false t) ∧ (t : Int) - chkOff false (chkM false t) + 1 ≤ chkDim false (chkM false t) := by decide +kernel
theorem fd146097 (y : Int) : Int.fdiv y 146097 = y / 146097 := Int.fdiv_eq_ediv_of_nonneg _ (by decide)
theorem fd36524 (y : Int) : Int.fdiv y 36524 = y / 36524 := Int.fdiv_eq_ediv_of_nonneg _ (by decide)
theorem fd1461 (y : Int) : Int.fdiv y 1461 = y / 1461 := Int.fdiv_eq_ediv_of_nonneg _ (by decide)
theorem fd365 (y : Int) : Int.fdiv y 365 = y / 365 := Int.fdiv_eq_ediv_of_nonneg _ (by decide)
theorem fd367 (y : Int) : Int.fdiv y 367 = y / 367 := Int.fdiv_eq_ediv_of_nonneg _ (by decide)
theorem gjd_m1 (y m : Int) : gjd y m 1 = gjd y 1 1 + (367 * m - 362) / 12 + adjF y m := by
  unfold gjd
  rw [show adjF y 1 = 0 from by unfold adjF; rw [if_pos (by decide)]]
  omega
theorem gjd_d (y m d : Int) : gjd y m d = gjd y m 1 + d - 1 := by unfold gjd; omega
theorem leapT {y : Int} (h : y % 4 = 0) (h2 : y % 100 ≠ 0 ∨ y % 400 = 0) : isleapF y = true := by
  unfold isleapF
  rw [decide_eq_true h, Bool.true_and]
  rcases h2 with h2 | h2
  · rw [decide_eq_false h2]; rfl
  · rw [decide_eq_true h2, Bool.or_true]
theorem yday {j : Int} (hj : 1721426 ≤ j) : 0 ≤ j - gjd (gY j) 1 1 ∧ (j - gjd (gY j) 1 1 ≤ 364 ∨ (j - gjd (gY j) 1 1 = 365 ∧ isleapF (gY j) = true)) := by
  have e1 : ∀ y, gjd y 1 1 = 1721426 + 365 * (y - 1) + (y - 1) / 4 - (y - 1) / 100 + (y - 1) / 400 := fun y => by
    unfold gjd; rw [show adjF y 1 = 0 from by unfold adjF; rw [if_pos (by decide)]]; omega
  have hC : gC j = (j - 1721426) % 146097 / 36524 := by unfold gC; rw [fm146097, fd36524]
  have hI : gI j = (j - 1721426) % 146097 % 36524 % 1461 / 365 := by unfold gI; rw [fm146097, fm36524, fm1461, fd365]
  have hB : gB j = (j - 1721426) / 146097 * 400 + (j - 1721426) % 146097 / 36524 * 100 + (j - 1721426) % 146097 % 36524 / 1461 * 4 + (j - 1721426) % 146097 % 36524 % 1461 / 365 := by
    unfold gB; rw [fm146097, fm36524, fm1461, fd365, fd1461, fd36524, fd146097]
  generalize hd : j - 1721426 = dep at *
  have h0 : 0 ≤ dep := by omega
  generalize ha : dep / 146097 = a at *
  generalize hb : dep % 146097 = b at *
  generalize hc : b / 36524 = c at *
  generalize hb2 : b % 36524 = b2 at *
  generalize hq : b2 / 1461 = q at *
  generalize hb3 : b2 % 1461 = b3 at *
  generalize hy : b3 / 365 = y at *
  have hdep : dep = 146097 * a + 36524 * c + 1461 * q + b3 := by omega
  by_cases hc4 : c = 4
  · have hY : gY j = 400 * a + 400 := by rw [gY, if_pos (Or.inl (by omega)), hB]; omega
    rw [e1, hY]
    refine ⟨by omega, Or.inr ⟨by omega, leapT (by omega) (Or.inr (by omega))⟩⟩
  · by_cases hy4 : y = 4
    · have hY : gY j = 400 * a + 100 * c + 4 * q + 4 := by rw [gY, if_pos (Or.inr (by omega)), hB]; omega
      have hc3 : 0 ≤ c ∧ c ≤ 3 := by omega
      have hq3 : 0 ≤ q ∧ q ≤ 23 := by omega
      have u1 : (400 * a + 100 * c + 4 * q + 4 - 1) / 4 = 100 * a + 25 * c + q := by omega
      have u2 : (400 * a + 100 * c + 4 * q + 4 - 1) / 100 = 4 * a + c := by omega
      have u3 : (400 * a + 100 * c + 4 * q + 4 - 1) / 400 = a := by omega
      rw [e1, hY, u1, u2, u3]
      refine ⟨by omega, Or.inr ⟨by omega, leapT (by omega) (Or.inl (by omega))⟩⟩
    · have hY : gY j = 400 * a + 100 * c + 4 * q + y + 1 := by rw [gY, if_neg (by rw [hC, hI]; exact fun e => e.elim hc4 hy4), hB]; omega
      have hc3 : 0 ≤ c ∧ c ≤ 3 := by omega
      have hq3 : 0 ≤ q ∧ q ≤ 24 := by omega
      have hy3 : 0 ≤ y ∧ y ≤ 3 := by omega
      have u1 : (400 * a + 100 * c + 4 * q + y + 1 - 1) / 4 = 100 * a + 25 * c + q := by omega
      have u2 : (400 * a + 100 * c + 4 * q + y + 1 - 1) / 100 = 4 * a + c := by omega
      have u3 : (400 * a + 100 * c + 4 * q + y + 1 - 1) / 400 = a := by omega
      rw [e1, hY, u1, u2, u3]
      refine ⟨by omega, Or.inl (by omega)⟩
theorem pG {j : Int} (hj : 1721426 ≤ j) : 0 < gD j ∧ gD j ≤ dimF (gY j) (gM j) ∧ gjd (gY j) (gM j) (gD j) = j := by
  obtain ⟨h0, h1⟩ := yday hj
  have hM : gM j = chkM (isleapF (gY j)) (j - gjd (gY j) 1 1) := by
    unfold gM chkM; rw [fd367]; rfl
  have hD : gD j = j - gjd (gY j) 1 1 - chkOff (isleapF (gY j)) (gM j) + 1 := by
    unfold gD chkOff; rw [gjd_m1]; unfold adjF; omega
  have hdim : dimF (gY j) (gM j) = chkDim (isleapF (gY j)) (gM j) := rfl
  have key : 0 ≤ j - gjd (gY j) 1 1 - chkOff (isleapF (gY j)) (gM j) ∧ j - gjd (gY j) 1 1 - chkOff (isleapF (gY j)) (gM j) + 1 ≤ chkDim (isleapF (gY j)) (gM j) := by
    rw [hM]
    generalize j - gjd (gY j) 1 1 = t at *
    obtain ⟨n, rfl⟩ : ∃ n : Nat, t = n := ⟨t.toNat, by omega⟩
    cases hb : isleapF (gY j)
    · refine chkFl n ?_
      rcases h1 with h1 | ⟨_, h1⟩
      · omega
      · rw [hb] at h1; cases h1
    · exact chkT n (by omega)
  refine ⟨by omega, by omega, ?_⟩
  rw [gjd_d]; unfold gD; omega
theorem Call.up {n n' : Nat} {w : World} {f : Addr} {vs : List Value} {kw : List (Str × Value)} {Ret : Heap → Addr → (Str → Option Value) → List (Addr × Obj) → Shared → (Value → Shared → Prop) → (Value → Shared → Prop) → Prop} (C : Call n w f vs kw Ret) (le : n ≤ n') : Call n' w f vs kw Ret :=
  fun mean mg mb dp un gd cn cs a ccd cl outer A₀ base h₀ L m news s Q E B F X N T hk hd hu hret => C mean mg mb dp un gd cn cs a ccd cl outer A₀ base h₀ L m news s Q E B F X N T hk (by omega) (by omega) hret
theorem useL {n : Nat} {w : World} {f : Addr} {vs : List Value} {kw : List (Str × Value)} {Ret : Heap → Addr → (Str → Option Value) → List (Addr × Obj) → Shared → (Value → Shared → Prop) → (Value → Shared → Prop) → Prop}
    {mean : ExcName → Option Value} {mg mb : Str → Option Value} {dp un : Nat} {gd : Option (List Code)} {cn : Str} {cs : Scope} {a : Addr} {ccd : Value} {A₀ : Around} {h₀ : Heap} {L : Addr} {m : Str → Option Value} {news : List (Addr × Obj)} {s : Shared} {Q E : Value → Shared → Prop}
    (C : CallL n w f vs kw Ret) (ret : Ret h₀ L m news s Q E) (B : Below A₀ h₀ [] h₀ := by k_asm) (F : Fr h₀ L s.heap m := by k_asm) (X : (FR.hd.heap_39 w.params).In h₀ := by k_asm) (N : News h₀ L s.heap news := by k_asm)
    (T : Top FR.hd.view_39 (looseW FR.hd.view_39 LS) mean mg mb h₀ := by k_asm) (hk : cs.kind = .function := by first | exact rfl | assumption) (hd : dp + n < recursionLimit := by ktr_room) (hu : un + 40 * n < cLine := by ktr_units) :
    wpAny (model PySem.Challenge.rw_jb0012_01.row.prog w) (ktrTop dp un gd cn cs L a ccd [] []) (call (.ref f) vs kw) Q E s :=
  C _ _ _ _ _ _ _ _ _ _ _ _ _ _ _ _ _ _ B F X N T hk hd hu ret
theorem L_to0 (w : World) (y mo d : Int) (v : Value) (ty tm td : Tok) (hy : 1 ≤ y) (h1 : 1 ≤ d) (h2 : d ≤ limF (long0 y) mo) (h3 : mo ≤ 13) (V : NameOf names0 v) : Call 4 w 66 [.int y ty, .int mo tm, .int d td, v] [] (RetI (first0 y + 30 * (mo - 1) + d - 1)) :=
  c_to w y mo d v ty tm td _ _ _ V h1 (lim_30 h2) h3 (lim_13 h2) (fun _ => c_sto0 w y mo d v ty tm td hy V) (fun _ => c_leap0k w y v ty hy V)
theorem L_to1 (w : World) (y mo d : Int) (v : Value) (ty tm td : Tok) (hy : 1 ≤ y ∧ y ≤ 100) (h1 : 1 ≤ d) (h2 : d ≤ limF (long1 y) mo) (h3 : mo ≤ 13) (V : NameOf names1 v) : Call 4 w 66 [.int y ty, .int mo tm, .int d td, v] [] (RetI (first1 y + 30 * (mo - 1) + d - 1)) :=
  c_to w y mo d v ty tm td _ _ _ V h1 (lim_30 h2) h3 (lim_13 h2) (fun _ => c_sto1 w y mo d v ty tm td hy.1 hy.2 V) (fun _ => c_leap1k w y v ty hy.1 V)
theorem L_to2 (w : World) (y mo d : Int) (v : Value) (ty tm td : Tok) (hy : 1 ≤ y ∧ y ≤ 128) (h1 : 1 ≤ d) (h2 : d ≤ limF (long2 y) mo) (h3 : mo ≤ 13) (V : NameOf names2 v) : Call 4 w 66 [.int y ty, .int mo tm, .int d td, v] [] (RetI (first2 y + 30 * (mo - 1) + d - 1)) :=
  c_to w y mo d v ty tm td _ _ _ V h1 (lim_30 h2) h3 (lim_13 h2) (fun _ => c_sto2 w y mo d v ty tm td hy.1 hy.2 V) (fun _ => c_leap2k w y v ty hy.1 V)
def okF (b : Bool) (mo d : Int) : Bool := decide (mo < 14 ∧ 1 ≤ d ∧ d ≤ limF b mo)
theorem ok_t {b : Bool} {mo d : Int} (h : okF b mo d = true) : mo < 14 ∧ 1 ≤ d ∧ d ≤ limF b mo := of_decide_eq_true h
theorem ok_f {b : Bool} {mo d : Int} (h : okF b mo d = false) : (d < 1 ∨ 30 < d) ∨ (1 ≤ d ∧ d ≤ 30 ∧ 13 < mo) ∨ (1 ≤ d ∧ d ≤ 30 ∧ mo = 13 ∧ (5 + if b = true then 1 else 0) < d) := by
  have h' := of_decide_eq_false h
  by_cases a : d < 1 ∨ 30 < d
  · exact Or.inl a
  · by_cases c : 13 < mo
    · exact Or.inr (Or.inl ⟨by omega, by omega, c⟩)
    · have h1 : ¬ d ≤ limF b mo := fun e => h' ⟨by omega, by omega, e⟩
      unfold limF at h1
      by_cases e : mo < 13
      · rw [if_pos e] at h1; omega
      · rw [if_neg e] at h1
        refine Or.inr (Or.inr ⟨by omega, by omega, by omega, ?_⟩)
        split at h1 <;> rename_i q
        · rw [if_pos q]; omega
        · rw [if_neg q]; omega
theorem L_ok0 (w : World) (y mo d : Int) (v : Value) (t1 ty tm td : Tok) (hy : 1 ≤ y) (h : okF (long0 y) mo d = true) (V : NameOf names0 v) : CallL 5 w 123 [.int 1 t1, .int y ty, .int mo tm, .int d td, v] [] (RetI (first0 y + 30 * (mo - 1) + d - 1)) :=
  let p := ok_t h; c_ask1 w y mo d v t1 ty tm td _ fun _ => L_to0 w y mo d v ty tm td hy p.2.1 p.2.2 (by omega) V
theorem L_ok1 (w : World) (y mo d : Int) (v : Value) (t1 ty tm td : Tok) (hy : 1 ≤ y ∧ y ≤ 100) (h : okF (long1 y) mo d = true) (V : NameOf names1 v) : CallL 5 w 123 [.int 1 t1, .int y ty, .int mo tm, .int d td, v] [] (RetI (first1 y + 30 * (mo - 1) + d - 1)) :=
  let p := ok_t h; c_ask1 w y mo d v t1 ty tm td _ fun _ => L_to1 w y mo d v ty tm td hy p.2.1 p.2.2 (by omega) V
theorem L_ok2 (w : World) (y mo d : Int) (v : Value) (t1 ty tm td : Tok) (hy : 1 ≤ y ∧ y ≤ 128) (h : okF (long2 y) mo d = true) (V : NameOf names2 v) : CallL 5 w 123 [.int 1 t1, .int y ty, .int mo tm, .int d td, v] [] (RetI (first2 y + 30 * (mo - 1) + d - 1)) :=
  let p := ok_t h; c_ask1 w y mo d v t1 ty tm td _ fun _ => L_to2 w y mo d v ty tm td hy p.2.1 p.2.2 (by omega) V
theorem L_bad (w : World) (y mo d : Int) (v : Value) (t1 ty tm td : Tok) (b : Bool) (ks : List PyData) (h : okF b mo d = false) (V : NameOf ks v) (CL : Call 1 w 58 [.int y ty] [(Str.ofString "method", v)] (RetB b)) : CallL 5 w 123 [.int 1 t1, .int y ty, .int mo tm, .int d td, v] [] (RetS (Str.ofString "refused")) := by
  rcases ok_f h with q | ⟨q1, q2, q3⟩ | ⟨q1, q2, q3, q4⟩
  · exact c_ask1d w y mo d v t1 ty tm td ks V q
  · exact c_ask1m w y mo d v t1 ty tm td ks V q1 q2 q3
  · exact c_ask1s w y mo d v t1 ty tm td ks b V q1 q2 q3 q4 fun _ => CL
theorem L_bad0 (w : World) (y mo d : Int) (v : Value) (t1 ty tm td : Tok) (hy : 1 ≤ y) (h : okF (long0 y) mo d = false) (V : NameOf names0 v) : CallL 5 w 123 [.int 1 t1, .int y ty, .int mo tm, .int d td, v] [] (RetS (Str.ofString "refused")) := L_bad w y mo d v t1 ty tm td _ _ h V (c_leap0k w y v ty hy V)
theorem L_bad1 (w : World) (y mo d : Int) (v : Value) (t1 ty tm td : Tok) (hy : 1 ≤ y) (h : okF (long1 y) mo d = false) (V : NameOf names1 v) : CallL 5 w 123 [.int 1 t1, .int y ty, .int mo tm, .int d td, v] [] (RetS (Str.ofString "refused")) := L_bad w y mo d v t1 ty tm td _ _ h V (c_leap1k w y v ty hy V)
theorem L_bad2 (w : World) (y mo d : Int) (v : Value) (t1 ty tm td : Tok) (hy : 1 ≤ y) (h : okF (long2 y) mo d = false) (V : NameOf names2 v) : CallL 5 w 123 [.int 1 t1, .int y ty, .int mo tm, .int d td, v] [] (RetS (Str.ofString "refused")) := L_bad w y mo d v t1 ty tm td _ _ h V (c_leap2k w y v ty hy V)
section
variable {prog : Program} {w : World} {M : Model} {A : Around} {E : Value → Shared → Prop} {s : Shared} {h₀ h : Heap} {L D D₁ D₂ : Addr} {m : Str → Option Value} {news news' : List (Addr × Obj)}
theorem pick2 {e1 e2 : Expr} {a k : Int} {x : Str} {t1 t2 u : Tok} {c : Nat} {Q : Value → Shared → Prop} (N : News h₀ L s.heap news) (mem : (D, W.listOf #[.int k t1, .str x t2] c) ∈ news) (hk : k ≠ 0) (hx : x.length ≠ 0) (hx' : x.length < 100)
    (h : ∀ v, NameOf [.int k, .str x] v → Q v s)
    (hs : ∀ i u, subscripted e2 false (.ref D) (.int i u) = operate [.ref D, .int i u] (getItem (.ref D) (.int i u)) := by intro i u; with_unfolding_all rfl) :
    wpAny (model prog w) A (subscriptTail e1 e2 (.ref D) (.int (a % 2) u)) Q E s := by
  have hl : s.heap.IsList D #[.int k t1, .str x t2] := ⟨_, N.get mem, rfl, c, rfl⟩
  rcases (show a % 2 = 0 ∨ a % 2 = 1 by omega) with e | e
  · rw [e]; exact tail_any hl.typeIs slot_list_getitem.lookup (wpAny_getItem_list hl (by decide) (by decide) (by rfl) (h _ (.int (.head _) hk))) (hs 0 u)
  · rw [e]; exact tail_any hl.typeIs slot_list_getitem.lookup (wpAny_getItem_list hl (by decide) (by decide) (by rfl) (h _ (.str (.tail _ (.head _)) hx hx'))) (hs 1 u)
theorem ne_boolS {b : Bool} {Q : Value → Shared → Prop} (hu : A.units + 64 < cLine) (h : Q (.bool false) s) : wpAny (model prog w) A (compareOp .NotEq (.bool b) (.bool b)) Q E s :=
  ne_dataH (.bool b) (.bool b) (by rfl) (by rfl) hu (by rw [show PyData.eqv (.bool b) (.bool b) = true by cases b <;> rfl]; exact h)
theorem eqv3 (x y z : Int) : PyData.eqv (.tuple [.int x, .int y, .int z]) (.tuple [.int x, .int y, .int z]) = true := by
  simp [PyData.eqv, PyData.eqvAll]
theorem ne_tupS {x y z : Int} {t1 t2 t3 u1 u2 u3 : Tok} {c c' : Nat} {Q : Value → Shared → Prop} (N : News h₀ L s.heap news) (m1 : (D₁, tup3 x y z t1 t2 t3 c) ∈ news) (m2 : (D₂, tup3 x y z u1 u2 u3 c') ∈ news) (hu : A.units + 64 < cLine) (h : Q (.bool false) s) :
    wpAny (model prog w) A (compareOp .NotEq (.ref D₁) (.ref D₂)) Q E s :=
  ne_dataH (.tuple (N.get m1) rfl rfl (.cons (.int _ _) (.cons (.int _ _) (.cons (.int _ _) .nil)))) (.tuple (N.get m2) rfl rfl (.cons (.int _ _) (.cons (.int _ _) (.cons (.int _ _) .nil))))
    (by rfl) (by rfl) hu (by rw [eqv3]; exact h)
end
theorem lim_a {b : Bool} {m : Int} (h : m < 13) : 30 = limF b m := by rw [limF, if_pos h]
theorem lim_b {b : Bool} {m : Int} (h : ¬ m < 13) (h' : b = true) : 6 = limF b m := by rw [limF, if_neg h, if_pos h']
theorem lim_c {b : Bool} {m : Int} (h : ¬ m < 13) (h' : b = false) : 5 = limF b m := by rw [limF, if_neg h, h']; rfl
theorem hideQT {M : Model} {A : Around} {t : Sem Flow} {Q : Flow → Shared → Prop} {E : Value → Shared → Prop} {s : Shared} {h₀ : Heap} {L : Addr} {m : Str → Option Value} (hF : Fr h₀ L s.heap m)
    (hT : ∀ (h' : Heap) (tk : Nat) (m' : Str → Option Value), Fr h₀ L h' m' → Q (.ret (.bool true)) { s with heap := h', toks := tk })
    (h : ∀ (R : Flow → Shared → Prop) (E' : Value → Shared → Prop), (∀ (h' : Heap) (tk : Nat) (m' : Str → Option Value), Fr h₀ L h' m' → R (.ret (.bool true)) { s with heap := h', toks := tk }) → wpAny M A t R E' s) : wpAny M A t Q E s := h Q E hT

theorem okE {b : Bool} {mo d : Int} : (decide (mo < 14) && (decide (1 ≤ d) && decide (d ≤ limF b mo))) = okF b mo d := by
  rw [okF, Bool.decide_and, Bool.decide_and]
section
variable {c : Cx} {I I' I'' : Ins} {e e₁ e₂ e₃ fn : Expr} {es : List Expr} {vs : List V} {r v : V} {p p' p'' : Pos} {x y z k : Int} {b b' b₁ b₂ : Bool} {f : Addr} {n : Nat} {rest body orelse : List Stmt}
structure CallLV (n : Nat) (w : World) (f : Addr) (vs : List V) (r : V) : Prop where
  run : ∀ n0 ys, DenL n0 vs ys → CallL n w f ys [] (RetV r)
/-- a call out of the law's own frame -/
theorem Ev.callL (hf : Ev c I fn (.val (.ref f))) (ha : Evs c I (e :: es) vs) (C : CallLV n c.w f vs r) (hn : n ≤ c.n) (hb : c.base = c.h₀ ∧ c.outer = [] ∧ c.cl = []) (hk : keepIn (FR.hd.heap_39 c.w.params) (.ref f) = true)
    (he : ∀ env : Env, starEach (e :: es) env = (false, eval e env) :: starEach es env := by intro _; rfl) (hp : ∀ env : Env, (backTo p (starEach es env)).any (·.1) = false := by intro _; rfl)
    (hc : ∀ env : Env, eval (.Call fn (e :: es) [] p) env = (do callWith p (← eval fn env) [] (backTo p (starEach (e :: es) env)) (backToKw p (keywordEach [] env))) := by intro _; rfl) : Ev c I (.Call fn (e :: es) [] p) r := .mk <| fun ok s m news Q E F N S k => by
  refine Call_ (hf.1 ok s m news _ E F N S fun y h1 tk1 n1 d F1 N1 s1 => ?_) (hc _)
  cases d
  refine callWith_K ok.X hk (ha.1 ok p _ m n1 _ _ F1 N1 (S.mono s1) fun ys h2 tk2 n2 ds F2 N2 s2 => ⟨ok.X.keeps F2.keep, ?_⟩) (he _) (hp _)
  have h1 := ok.hd
  have h2 := ok.hu
  have B := ok.B
  obtain ⟨q1, q2, q3⟩ := hb
  rw [q1, q2] at B
  show wpAny _ (ktrTop c.dp c.un c.gd c.cn c.cs c.L c.a c.ccd c.cl c.outer) _ _ _ _
  rw [q2, q3]
  exact useL (C.1 n2 ys ds) (fun y h3 tk3 n3 d F3 N3 s3 => k y h3 tk3 n3 d F3 N3 (s1.trans (s2.trans s3))) B F2 ok.X N2 ok.T ok.hk (by omega) (by omega)
/-- an item of a list of ints -/
theorem Ev.item {ns : List Int} (ha : Ev c I e (.ints ns)) (hb : Ev c I e₂ (.int k)) (h0 : 0 ≤ k) (h1 : k < 1000) (hx : ns[k.toNat]? = some x)
    (hs : ∀ l i u, subscripted e₂ false (.ref l) (.int i u) = operate [.ref l, .int i u] (getItem (.ref l) (.int i u)) := by intro l i u; with_unfolding_all rfl) : Ev c I (.Subscript e e₂ p) (.int x) := .mk <| fun ok s m news Q E F N S K =>
  Subscript_ (ha.1 ok s m news _ E F N S fun _ h1 tk1 n1 d F1 N1 s1 => by
    obtain ⟨D, ws, nn, rfl, hm, hi⟩ := d
    refine hb.1 ok _ m n1 _ E F1 N1 (S.mono s1) fun _ h2 tk2 n2 ⟨u, e2⟩ F2 N2 s2 => ?_
    subst e2
    have hl : h2.IsList D ws.toArray := News.isList N2 (s2 _ hm)
    have hw : ∃ t, ws[k.toNat]? = some (.int x t) := by
      have hlen := hi.length
      have hlt : k.toNat < ns.length := (List.getElem?_eq_some_iff.mp hx).1
      obtain ⟨n9, t, e9, e8⟩ := hi.at k.toNat ws[k.toNat] (List.getElem?_eq_getElem (by omega))
      rw [hx] at e8
      cases e8
      exact ⟨t, by rw [List.getElem?_eq_getElem (by omega), e9]⟩
    obtain ⟨t, hw⟩ := hw
    exact tail_any (s := { s with heap := h2, toks := tk2 }) hl.typeIs slot_list_getitem.lookup (wpAny_getItem_list hl h0 (by omega) (by simpa using hw) (K _ h2 tk2 n2 ⟨t, rfl⟩ F2 N2 (s1.trans s2))) (hs _ _ _))
theorem denL_at {nn : List (Addr × Obj)} {ys : List Value} (D : DenL nn vs ys) : ∀ {i : Nat}, vs[i]? = some v → ∃ y, ys[i]? = some y ∧ Den nn v y := by
  induction D with
  | nil => intro i h; cases h
  | cons d _ ih =>
    intro i h
    cases i with
    | zero => cases h; exact ⟨_, rfl, d⟩
    | succ i => exact ih h
/-- [..][k] -/
theorem Ev.pick (ha : Evs c I es vs) (hb : Ev c I e₂ (.int k)) (h0 : (decide (0 ≤ k) && decide (k < 1000)) = true) (hx : vs[k.toNat]? = some v) (hz : vs.length ≤ 100)
    (hs : ∀ l i u, subscripted e₂ false (.ref l) (.int i u) = operate [.ref l, .int i u] (getItem (.ref l) (.int i u)) := by intro l i u; with_unfolding_all rfl) : Ev c I (.Subscript (.List es p') e₂ p) v := .mk <| fun ok s m news Q E F N S K => by
  rw [Bool.and_eq_true, decide_eq_true_eq, decide_eq_true_eq] at h0
  refine Subscript_ (List_ (ha.1 ok p' s m news _ E F N S fun ys h1 tk1 n1 ds F1 N1 s1 => ?_))
  refine newList_N F1 N1 (fun h2 F2 N2 => ?_) (by rw [← ds.len]; show vs.length ≤ 2 ^ 24; omega)
  refine hb.1 ok _ m _ _ E F2 N2 (S.mono (s1.trans fun _ h => .tail _ h)) fun _ h3 tk3 n3 ⟨u, e2⟩ F3 N3 s3 => ?_
  subst e2
  obtain ⟨y, hy, d⟩ := denL_at ds hx
  have hl : h3.IsList _ ys.toArray := News.isList N3 (s3 _ (.head _))
  exact tail_any (s := { s with heap := h3, toks := tk3 }) hl.typeIs slot_list_getitem.lookup (wpAny_getItem_list hl h0.1 (by omega) (by simpa using hy) (K _ h3 tk3 n3 (d.mono ((show Sub n1 _ from fun _ h => .tail _ h).trans s3)) F3 N3 ((s1.trans fun _ h => .tail _ h).trans s3))) (hs _ _ _)
/-- [k, x] -/
theorem Ev.pair {t : Str} {j j' : Nat} : Ev c I (.List [.Constant (.int k) j p', .Constant (.str t) j' p''] p) (.pr k t) := .mk <| fun ok s m news Q E F N S K =>
  List_ (PyProof.Rows.args_cons (wpAny_Constant_int (PyProof.Rows.args_cons (PySem.Calls.Constant_str (PyProof.Rows.args_nil (newList_N F N (fun h2 F2 N2 => K _ h2 _ _ ⟨_, _, _, _, rfl, .head _⟩ F2 N2 fun _ h => .tail _ h) (by show 2 ≤ sizeLine; decide)))))))
theorem Ev.pickNm {t : Str} (ha : Ev c I e (.pr k t)) (hb : Ev c I e₂ (.int (z % 2))) (hk : k ≠ 0) (hx : t.length ≠ 0) (hx' : t.length < 100)
    (hs : ∀ l i u, subscripted e₂ false (.ref l) (.int i u) = operate [.ref l, .int i u] (getItem (.ref l) (.int i u)) := by intro l i u; with_unfolding_all rfl) : Ev c I (.Subscript e e₂ p) (.nm [.int k, .str t]) := .mk <| fun ok s m news Q E F N S K =>
  Subscript_ (ha.1 ok s m news _ E F N S fun _ h1 tk1 n1 d F1 N1 s1 => by
    obtain ⟨D, t1, u1, nn, rfl, hm⟩ := d
    refine hb.1 ok _ m n1 _ E F1 N1 (S.mono s1) fun _ h2 tk2 n2 ⟨u, e2⟩ F2 N2 s2 => ?_
    subst e2
    exact pick2 N2 (s2 _ hm) hk hx hx' (fun v V => K v h2 tk2 n2 V F2 N2 (s1.trans s2)) (fun i u => hs _ i u))
theorem Ev.asNm {t : Str} (ha : Ev c I e (.str t)) (hx : t.length ≠ 0) (hx' : t.length < 100) : Ev c I e (.nm [.str t]) := .mk <| fun ok s m news Q E F N S K =>
  ha.1 ok s m news _ E F N S fun _ h1 tk1 n1 ⟨u, e1⟩ F1 N1 s1 => by
    subst e1
    exact K _ h1 tk1 n1 (nameStr hx hx') F1 N1 s1
/-- a builtin's name -/
theorem Ev.abs {np : Pos} (hx : c.env.kindOf (Str.ofString "abs") = some .globalImplicit) (he : nsIn (FR.hd.heap_39 c.w.params) mainGlobals (Str.ofString "abs") = some Option.none) (hb : bootBuiltins (Str.ofString "abs") = some (.builtin "abs"))
    (ha : Ev c I e (.int x)) (hst : ∀ env : Env, starEach [e] env = [(false, eval e env)]) : Ev c I (.Call (.Name (Str.ofString "abs") np) [e] [] p) (.int (if x < 0 then -x else x)) := .mk <| fun ok s m news Q E F N S K => by
  refine Call_ (nameX_B F ok.X (topRead_of ok.T) he hb (by decide) ?_ ok.hk hx (by decide))
  rw [hst]
  refine callWith_builtin1 ?_
  show wpAny _ _ (eval e c.env) _ _ _
  refine ha.1 ok s m news _ E F N S fun _ h1 tk1 n1 ⟨t, e1⟩ F1 N1 s1 => ?_
  subst e1
  exact call_abs_int fun u tk => K _ _ _ n1 ⟨u, rfl⟩ F1 N1 s1
/-- x op y op' z -/
theorem Ts.chain {op op' : CmpOp} (ha : Ev c I e₁ (.int x)) (hb : Ev c I e₂ (.int y)) (hc : Ev c I e₃ (.int z)) (h : CmpI op x y = some b₁) (h' : CmpI op' y z = some b₂) (hm : lastMarks [op, op'] [e₂, e₃] = false := by rfl) :
    Ts c I (.Compare e₁ [op, op'] [e₂, e₃] p) (b₁ && b₂) := .mk <| fun ok s m news Q E F N S K =>
  isTrue_chain (ha.1 ok s m news _ E F N S fun _ h1 tk1 n1 ⟨t, q1⟩ F1 N1 s1 => by
    subst q1
    refine test_link (hb.1 ok _ m n1 _ E F1 N1 (S.mono s1) fun _ h2 tk2 n2 ⟨u, q2⟩ F2 N2 s2 => ?_)
    subst q2
    refine cmpI h (wpAny_truthy_bool ?_)
    cases b₁ with
    | false => exact K h2 tk2 n2 F2 N2 (s1.trans s2)
    | true =>
      refine test_last (hc.1 ok _ m n2 _ E F2 N2 (S.mono (s1.trans s2)) fun _ h3 tk3 n3 ⟨u3, q3⟩ F3 N3 s3 => ?_)
      subst q3
      exact cmpI h' (wpAny_truthy_bool (K h3 tk3 n3 F3 N3 (s1.trans (s2.trans s3))))) hm
theorem Ts.ofBool (ha : Ev c I e (.bool b)) (he : isTrue e c.env (eval e c.env) = (do let v ← eval e c.env; standAt e.pos; holding [v] (truthy v)) := by rfl) : Ts c I e b :=
  Ts.plain ha (fun _ _ s _ _ _ _ d k => by cases d; exact wpAny_truthy_bool (k s.toks)) he
theorem Ts.and2 (h : Ts c I e₁ b₁) (h' : Ts c I e₂ b₂) : Ts c I (.BoolOp .And [e₁, e₂] p) (b₁ && b₂) := by
  cases b₁
  · exact Ts.andF h
  · cases b₂
    · exact Ts.andT h (Ts.andF h')
    · exact Ts.andT h (Ts.andT h' Ts.and0)
theorem Ts.andIf (h : Ts c I e₁ b₁) (h' : b₁ = true → Ts c I e₂ false) : Ts c I (.BoolOp .And [e₁, e₂] p) false := by
  cases b₁
  · exact Ts.andF h
  · exact Ts.andT h (Ts.andF (h' rfl))
/-- a if t else b, both ways -/
theorem Ev.ite (h : Ts c I e b) (h1 : b = true → Ev c I e₁ v) (h2 : b = false → Ev c I e₂ v) : Ev c I (.IfExp e e₁ e₂ p) v := by
  cases b
  · exact Ev.ifF h (h2 rfl)
  · exact Ev.ifT h (h1 rfl)
/-- tuples, bools and texts compared -/
theorem Ts.neTup (hn : 1 ≤ c.n) (ha : Ev c I e₁ (.tup x y z)) (hb : Ev c I e₂ (.tup x y z)) (hm : behindInMarks .NotEq e₂ = false := by rfl) : Ts c I (.Compare e₁ [.NotEq] [e₂] p) false := .mk <| fun ok s m news Q E F N S K =>
  wpAny_isTrue_Compare1 (ha.1 ok s m news _ E F N S fun _ h1 tk1 n1 d1 F1 N1 s1 => by
    obtain ⟨D1, t1, t2, t3, cc, rfl, m1⟩ := d1
    refine hb.1 ok _ m n1 _ E F1 N1 (S.mono s1) fun _ h2 tk2 n2 d2 F2 N2 s2 => ?_
    obtain ⟨D2, u1, u2, u3, cc', rfl, m2⟩ := d2
    have := ok.hu
    exact ne_tupS N2 (s2 _ m1) m2 (by show c.un + 64 < cLine; omega) (wpAny_truthy_bool (K h2 tk2 n2 F2 N2 (s1.trans s2)))) hm
theorem Ts.neBool (hn : 1 ≤ c.n) (ha : Ev c I e₁ (.bool b)) (hb : Ev c I e₂ (.bool b)) (hm : behindInMarks .NotEq e₂ = false := by rfl) : Ts c I (.Compare e₁ [.NotEq] [e₂] p) false := .mk <| fun ok s m news Q E F N S K =>
  wpAny_isTrue_Compare1 (ha.1 ok s m news _ E F N S fun _ h1 tk1 n1 d1 F1 N1 s1 => by
    cases d1
    refine hb.1 ok _ m n1 _ E F1 N1 (S.mono s1) fun _ h2 tk2 n2 d2 F2 N2 s2 => ?_
    cases d2
    have := ok.hu
    exact ne_boolS (by show c.un + 64 < cLine; omega) (wpAny_truthy_bool (K h2 tk2 n2 F2 N2 (s1.trans s2)))) hm
theorem Ts.neStr {t : Str} (ha : Ev c I e₁ (.str t)) (hb : Ev c I e₂ (.str t)) (hm : behindInMarks .NotEq e₂ = false := by rfl) : Ts c I (.Compare e₁ [.NotEq] [e₂] p) false := .mk <| fun ok s m news Q E F N S K =>
  wpAny_isTrue_Compare1 (ha.1 ok s m news _ E F N S fun _ h1 tk1 n1 ⟨t1, d1⟩ F1 N1 s1 => by
    subst d1
    refine hb.1 ok _ m n1 _ E F1 N1 (S.mono s1) fun _ h2 tk2 n2 ⟨t2, d2⟩ F2 N2 s2 => ?_
    subst d2
    exact PySem.P.ne_str (by rw [bne_self_eq_false]; exact wpAny_truthy_bool (K h2 tk2 n2 F2 N2 (s1.trans s2)))) hm
theorem Ev.eqStr {t : Str} (ha : Ev c I e₁ (.str t)) (hb : Ev c I e₂ (.str t)) (hm : behindInMarks .Eq e₂ = false := by rfl) : Ev c I (.Compare e₁ [.Eq] [e₂] p) (.bool true) := .mk <| fun ok s m news Q E F N S K =>
  wpAny_Compare1 (ha.1 ok s m news _ E F N S fun _ h1 tk1 n1 ⟨t1, d1⟩ F1 N1 s1 => by
    subst d1
    refine hb.1 ok _ m n1 _ E F1 N1 (S.mono s1) fun _ h2 tk2 n2 ⟨t2, d2⟩ F2 N2 s2 => ?_
    subst d2
    exact PySem.P.eq_str (by rw [beq_self_eq_true]; exact K _ h2 tk2 n2 rfl F2 N2 (s1.trans s2))) hm
theorem Ev.andT (ha : Ev c I e₁ (.bool true)) (hb : Ev c I e₂ v) : Ev c I (.BoolOp .And [e₁, e₂] p) v := .mk <| fun ok s m news Q E F N S K =>
  PyProof.Rows.BoolOp_and (ha.1 ok s m news _ E F N S fun _ h1 tk1 n1 d1 F1 N1 s1 => by
    cases d1
    exact wpAny_truthy_bool (PyProof.Rows.BoolOp_one (hb.1 ok _ m n1 _ E F1 N1 (S.mono s1) fun y h2 tk2 n2 d2 F2 N2 s2 => K y h2 tk2 n2 d2 F2 N2 (s1.trans s2))))
/-- t[0], t[1], t[2] of a made tuple -/
theorem Ev.part {i : Int} (ha : Ev c I e (.tup x y z)) (hb : Ev c I e₂ (.int i)) (hi : (decide (0 ≤ i) && decide (i < 3)) = true) (hk : [x, y, z][i.toNat]? = some k)
    (hs : ∀ l i u, subscripted e₂ false (.ref l) (.int i u) = operate [.ref l, .int i u] (getItem (.ref l) (.int i u)) := by intro l i u; with_unfolding_all rfl) : Ev c I (.Subscript e e₂ p) (.int k) := .mk <| fun ok s m news Q E F N S K => by
  rw [Bool.and_eq_true, decide_eq_true_eq, decide_eq_true_eq] at hi
  refine Subscript_ (ha.1 ok s m news _ E F N S fun _ h1 tk1 n1 d F1 N1 s1 => ?_)
  obtain ⟨D, t1, t2, t3, cc, rfl, hm⟩ := d
  refine hb.1 ok _ m n1 _ E F1 N1 (S.mono s1) fun _ h2 tk2 n2 ⟨u, e2⟩ F2 N2 s2 => ?_
  subst e2
  have hl : IsTup h2 D #[.int x t1, .int y t2, .int z t3] := News.isTup N2 (s2 _ hm)
  rcases (show i = 0 ∨ i = 1 ∨ i = 2 by omega) with q | q | q <;> subst q <;> cases hk
  · exact item_tupleT (s := { s with heap := h2, toks := tk2 }) (l := [.int x t1, .int y t2, .int z t3]) hl (by decide) (by decide) (j := 0) rfl rfl (K _ h2 tk2 n2 ⟨_, rfl⟩ F2 N2 (s1.trans s2)) (hs _ _ _)
  · exact item_tupleT (s := { s with heap := h2, toks := tk2 }) (l := [.int x t1, .int y t2, .int z t3]) hl (by decide) (by decide) (j := 1) rfl rfl (K _ h2 tk2 n2 ⟨_, rfl⟩ F2 N2 (s1.trans s2)) (hs _ _ _)
  · exact item_tupleT (s := { s with heap := h2, toks := tk2 }) (l := [.int x t1, .int y t2, .int z t3]) hl (by decide) (by decide) (j := 2) rfl rfl (K _ h2 tk2 n2 ⟨_, rfl⟩ F2 N2 (s1.trans s2)) (hs _ _ _)
end
theorem Call.toT {n : Nat} {w : World} {f : Addr} {vs : List Value} {kw : List (Str × Value)} {x y z : Int} (C : Call n w f vs kw (RetT x y z)) : Call n w f vs kw (RetV (.tup x y z)) :=
  fun mean mg mb dp un gd cn cs a ccd cl outer A₀ base h₀ L m news s Q E B F X N T hk hd hu hret => C mean mg mb dp un gd cn cs a ccd cl outer A₀ base h₀ L m news s Q E B F X N T hk hd hu fun D t1 t2 t3 cc h' tk' F' N' _ => hret _ h' tk' _ ⟨D, t1, t2, t3, cc, rfl, .head _⟩ F' N' fun _ h => .tail _ h
theorem v_gfrom (w : World) (j : Int) : CallV 4 w 50 [.int j] (.tup (gY j) (gM j) (gD j)) := by
  refine ⟨fun n0 ys hy0 => ?_⟩
  obtain ⟨y0, r0, rfl, d0, hy1⟩ := hy0.inv
  obtain ⟨t0, rfl⟩ := d0
  obtain rfl := hy1.inv0
  exact (c_gfrom w j t0).toT
theorem v_gto (w : World) (y mo d : Int) (h1 : 0 < d) (h2 : d ≤ dimF y mo) : CallV 3 w 43 [.int y, .int mo, .int d] (.int (gjd y mo d)) := by
  refine ⟨fun n0 ys hy0 => ?_⟩
  obtain ⟨y0, r0, rfl, d0, hy1⟩ := hy0.inv
  obtain ⟨t0, rfl⟩ := d0
  obtain ⟨y1, r1, rfl, d1, hy2⟩ := hy1.inv
  obtain ⟨t1, rfl⟩ := d1
  obtain ⟨y2, r2, rfl, d2, hy3⟩ := hy2.inv
  obtain ⟨t2, rfl⟩ := d2
  obtain rfl := hy3.inv0
  exact (c_gto w y mo d t0 t1 t2 h1 h2).toI
theorem v_from (w : World) (j : Int) (ks : List PyData) (x y z : Int) (C : CallV 3 w 88 [.int j, .nm ks] (.tup x y z)) : CallV 4 w 81 [.int j, .nm ks] (.tup x y z) := by
  refine ⟨?_⟩
  unfold Call
  k_fill
  intro n0 ys hy0
  obtain ⟨y0, r0, rfl, d0, hy1⟩ := hy0.inv
  obtain ⟨t0, rfl⟩ := d0
  obtain ⟨y1, r1, rfl, d1, hy2⟩ := hy1.inv
  obtain rfl := hy2.inv0
  refine enter (I₀ := [(1, .nm ks), (0, .int j)]) (binds := [(Str.ofString "jd", .int _ t0), (Str.ofString "method", y1)]) (by k_is) (by k_is) (fun s X => by first | exact BindsTo.of_eq rfl | exact binds_K X rfl (by k_is) rfl rfl rfl) (locs rfl) (.cons (by decide) rfl d1 (.cons (by decide) rfl ⟨t0, rfl⟩ .nil)) fun c hw hc hn => ?_
  subst hw
  have L9 : Loc c [0, 1] := Loc.of hc (by decide +kernel)
  have G_from_jd_schematic := (g_from_jd_schematic c.w).gl rfl hc (by decide +kernel)
  refine Rt.seq (Sx.set 1 (L9.nm (i := 1) rfl rfl) (Ev.orNm (Ev.nm 1 (L9.nm (i := 1) rfl rfl) rfl)) (fun _ => rfl)) ?_
  exact Rt.ret (Ev.call (Ev.gl G_from_jd_schematic) (Evs.cons (Ev.nm 0 (L9.nm (i := 0) rfl rfl) rfl) (Evs.cons (Ev.nm 1 (L9.nm (i := 1) rfl rfl) rfl) Evs.nil)) C (by omega) (k_from_jd_schematic _))
theorem v_fromK (w : World) (j : Int) (ks : List PyData) (x y z : Int) (C : CallV 3 w 88 [.int j, .nm ks] (.tup x y z)) : CallK 4 w 81 [.int j] (.nm ks) (.tup x y z) := by
  refine ⟨?_⟩
  unfold Call
  k_fill
  intro n0 ys yk hy0 dk
  obtain ⟨y0, r0, rfl, d0, hy1⟩ := hy0.inv
  obtain ⟨t0, rfl⟩ := d0
  obtain rfl := hy1.inv0
  refine enter (I₀ := [(1, .nm ks), (0, .int j)]) (binds := [(Str.ofString "jd", .int _ t0), (Str.ofString "method", yk)]) (by k_is) (by k_is) (fun s X => by first | exact BindsTo.of_eq rfl | exact binds_K X rfl (by k_is) rfl rfl rfl) (locs rfl) (.cons (by decide) rfl dk (.cons (by decide) rfl ⟨t0, rfl⟩ .nil)) fun c hw hc hn => ?_
  subst hw
  have L9 : Loc c [0, 1] := Loc.of hc (by decide +kernel)
  have G_from_jd_schematic := (g_from_jd_schematic c.w).gl rfl hc (by decide +kernel)
  refine Rt.seq (Sx.set 1 (L9.nm (i := 1) rfl rfl) (Ev.orNm (Ev.nm 1 (L9.nm (i := 1) rfl rfl) rfl)) (fun _ => rfl)) ?_
  exact Rt.ret (Ev.call (Ev.gl G_from_jd_schematic) (Evs.cons (Ev.nm 0 (L9.nm (i := 0) rfl rfl) rfl) (Evs.cons (Ev.nm 1 (L9.nm (i := 1) rfl rfl) rfl) Evs.nil)) C (by omega) (k_from_jd_schematic _))
theorem v_tog (w : World) (y mo d : Int) (ks : List PyData) (j : Int) (C : CallK 5 w 66 [.int y, .int mo, .int d] (.nm ks) (.int j)) : CallV 6 w 104 [.int y, .int mo, .int d, .nm ks] (.tup (gY j) (gM j) (gD j)) := by
  refine ⟨?_⟩
  unfold Call
  k_fill
  intro n0 ys hy0
  obtain ⟨y0, r0, rfl, d0, hy1⟩ := hy0.inv
  obtain ⟨t0, rfl⟩ := d0
  obtain ⟨y1, r1, rfl, d1, hy2⟩ := hy1.inv
  obtain ⟨t1, rfl⟩ := d1
  obtain ⟨y2, r2, rfl, d2, hy3⟩ := hy2.inv
  obtain ⟨t2, rfl⟩ := d2
  obtain ⟨y3, r3, rfl, d3, hy4⟩ := hy3.inv
  obtain rfl := hy4.inv0
  refine enter (I₀ := [(1, .nm ks), (45, .int d), (44, .int mo), (43, .int y)]) (binds := [(Str.ofString "an", .int _ t0), (Str.ofString "mois", .int _ t1), (Str.ofString "jour", .int _ t2), (Str.ofString "method", y3)]) (by k_is) (by k_is) (fun s X => by first | exact BindsTo.of_eq rfl | exact binds_K X rfl (by k_is) rfl rfl rfl) (locs rfl) (.cons (by decide) rfl d3 (.cons (by decide) rfl ⟨t2, rfl⟩ (.cons (by decide) rfl ⟨t1, rfl⟩ (.cons (by decide) rfl ⟨t0, rfl⟩ .nil)))) fun c hw hc hn => ?_
  subst hw
  have L9 : Loc c [1, 43, 44, 45] := Loc.of hc (by decide +kernel)
  have G_from_jd_gregorian := (g_from_jd_gregorian c.w).gl rfl hc (by decide +kernel)
  have G_to_jd_french_republican := (g_to_jd_french_republican c.w).gl rfl hc (by decide +kernel)
  exact Rt.ret (Ev.call (Ev.gl G_from_jd_gregorian) (Evs.cons (Ev.callKw (Ev.gl G_to_jd_french_republican) (Evs.cons (Ev.nm 43 (L9.nm (i := 43) rfl rfl) rfl) (Evs.cons (Ev.nm 44 (L9.nm (i := 44) rfl rfl) rfl) (Evs.cons (Ev.nm 45 (L9.nm (i := 45) rfl rfl) rfl) Evs.nil))) (Ev.nm 1 (L9.nm (i := 1) rfl rfl) rfl) C (by omega) (k_to_jd_french_republican _)) Evs.nil) (v_gfrom _ _) (by omega) (k_from_jd_gregorian _))
theorem v_fromg (w : World) (y mo d : Int) (ks : List PyData) (a b e : Int) (h1 : 0 < d) (h2 : d ≤ dimF y mo) (C : CallK 4 w 81 [.int (gjd y mo d)] (.nm ks) (.tup a b e)) : CallV 6 w 96 [.int y, .int mo, .int d, .nm ks] (.tup a b e) := by
  refine ⟨?_⟩
  unfold Call
  k_fill
  intro n0 ys hy0
  obtain ⟨y0, r0, rfl, d0, hy1⟩ := hy0.inv
  obtain ⟨t0, rfl⟩ := d0
  obtain ⟨y1, r1, rfl, d1, hy2⟩ := hy1.inv
  obtain ⟨t1, rfl⟩ := d1
  obtain ⟨y2, r2, rfl, d2, hy3⟩ := hy2.inv
  obtain ⟨t2, rfl⟩ := d2
  obtain ⟨y3, r3, rfl, d3, hy4⟩ := hy3.inv
  obtain rfl := hy4.inv0
  refine enter (I₀ := [(1, .nm ks), (17, .int d), (16, .int mo), (15, .int y)]) (binds := [(Str.ofString "year", .int _ t0), (Str.ofString "month", .int _ t1), (Str.ofString "day", .int _ t2), (Str.ofString "method", y3)]) (by k_is) (by k_is) (fun s X => by first | exact BindsTo.of_eq rfl | exact binds_K X rfl (by k_is) rfl rfl rfl) (locs rfl) (.cons (by decide) rfl d3 (.cons (by decide) rfl ⟨t2, rfl⟩ (.cons (by decide) rfl ⟨t1, rfl⟩ (.cons (by decide) rfl ⟨t0, rfl⟩ .nil)))) fun c hw hc hn => ?_
  subst hw
  have L9 : Loc c [1, 15, 16, 17] := Loc.of hc (by decide +kernel)
  have G_from_jd_french_republican := (g_from_jd_french_republican c.w).gl rfl hc (by decide +kernel)
  have G_to_jd_gregorian := (g_to_jd_gregorian c.w).gl rfl hc (by decide +kernel)
  exact Rt.ret (Ev.callKw (Ev.gl G_from_jd_french_republican) (Evs.cons (Ev.call (Ev.gl G_to_jd_gregorian) (Evs.cons (Ev.nm 15 (L9.nm (i := 15) rfl rfl) rfl) (Evs.cons (Ev.nm 16 (L9.nm (i := 16) rfl rfl) rfl) (Evs.cons (Ev.nm 17 (L9.nm (i := 17) rfl rfl) rfl) Evs.nil))) (v_gto _ _ _ _ h1 h2) (by omega) (k_to_jd_gregorian _)) Evs.nil) (Ev.nm 1 (L9.nm (i := 1) rfl rfl) rfl) C (by omega) (k_from_jd_french_republican _))
theorem CallL.toI {n : Nat} {w : World} {f : Addr} {vs : List Value} {kw : List (Str × Value)} {x : Int} (C : CallL n w f vs kw (RetI x)) : CallL n w f vs kw (RetV (.int x)) :=
  fun mean mg mb dp un gd cn cs a ccd A₀ h₀ L m news s Q E B F X N T hk hd hu hret => C mean mg mb dp un gd cn cs a ccd A₀ h₀ L m news s Q E B F X N T hk hd hu fun t h' tk' F' N' => hret _ h' tk' news ⟨t, rfl⟩ F' N' Sub.rfl
theorem CallL.toS {n : Nat} {w : World} {f : Addr} {vs : List Value} {kw : List (Str × Value)} {x : Str} (C : CallL n w f vs kw (RetS x)) : CallL n w f vs kw (RetV (.str x)) :=
  fun mean mg mb dp un gd cn cs a ccd A₀ h₀ L m news s Q E B F X N T hk hd hu hret => C mean mg mb dp un gd cn cs a ccd A₀ h₀ L m news s Q E B F X N T hk hd hu fun t h' tk' F' N' => hret _ h' tk' news ⟨t, rfl⟩ F' N' Sub.rfl
theorem W_s0 (w : World) (j : Int) (hj : 2375840 ≤ j) : CallV 3 w 88 [.int j, .nm names0] (.tup (Y0 j) (M0 j) (D0 j)) := v_sfromL0 w j hj
theorem W_from0 (w : World) (j : Int) (hj : 2375840 ≤ j) : CallV 4 w 81 [.int j, .nm names0] (.tup (Y0 j) (M0 j) (D0 j)) := v_from w j _ _ _ _ (W_s0 w j hj)
theorem W_to0 (w : World) (y mo d : Int) (hy : 1 ≤ y) (h1 : 1 ≤ d) (h2 : d ≤ limF (long0 y) mo) (h3 : mo ≤ 13) : CallV 4 w 66 [.int y, .int mo, .int d, .nm names0] (.int (first0 y + 30 * (mo - 1) + d - 1)) := by
  refine ⟨fun n0 ys hy0 => ?_⟩
  obtain ⟨y0, r0, rfl, d0, hy1⟩ := hy0.inv
  obtain ⟨t0, rfl⟩ := d0
  obtain ⟨y1, r1, rfl, d1, hy2⟩ := hy1.inv
  obtain ⟨t1, rfl⟩ := d1
  obtain ⟨y2, r2, rfl, d2, hy3⟩ := hy2.inv
  obtain ⟨t2, rfl⟩ := d2
  obtain ⟨y3, r3, rfl, d3, hy4⟩ := hy3.inv
  obtain rfl := hy4.inv0
  exact (L_to0 w y mo d y3 t0 t1 t2 hy h1 h2 h3 d3).toI
theorem W_toK0 (w : World) (y mo d : Int) (hy : 1 ≤ y) (h1 : 1 ≤ d) (h2 : d ≤ limF (long0 y) mo) (h3 : mo ≤ 13) : CallK 5 w 66 [.int y, .int mo, .int d] (.nm names0) (.int (first0 y + 30 * (mo - 1) + d - 1)) := by
  refine ⟨fun n0 ys yk hy0 dk => ?_⟩
  obtain ⟨y0, r0, rfl, d0, hy1⟩ := hy0.inv
  obtain ⟨t0, rfl⟩ := d0
  obtain ⟨y1, r1, rfl, d1, hy2⟩ := hy1.inv
  obtain ⟨t1, rfl⟩ := d1
  obtain ⟨y2, r2, rfl, d2, hy3⟩ := hy2.inv
  obtain ⟨t2, rfl⟩ := d2
  obtain rfl := hy3.inv0
  exact ((c_tok w y mo d yk t0 t1 t2 _ _ _ dk h1 (lim_30 h2) h3 (lim_13 h2) (fun _ => c_sto0 w y mo d yk t0 t1 t2 hy dk) (fun _ => c_leap0k w y yk t0 hy dk)).up (by decide)).toI
theorem W_tog0 (w : World) (j : Int) (hj : 2375840 ≤ j) : CallV 6 w 104 [.int (Y0 j), .int (M0 j), .int (D0 j), .nm names0] (.tup (gY j) (gM j) (gD j)) := by
  have p := p0 hj
  have C := W_toK0 w (Y0 j) (M0 j) (D0 j) p.1 p.2.2.2.1 p.2.2.2.2.1 p.2.2.1
  rw [p.2.2.2.2.2] at C
  exact v_tog w _ _ _ _ j C
theorem W_fromg0 (w : World) (j : Int) (hj : 2375840 ≤ j) : CallV 6 w 96 [.int (gY j), .int (gM j), .int (gD j), .nm names0] (.tup (Y0 j) (M0 j) (D0 j)) := by
  have p := pG (j := j) (by omega)
  refine v_fromg w _ _ _ _ _ _ _ p.1 p.2.1 ?_
  rw [p.2.2]
  exact v_fromK w j _ _ _ _ (W_s0 w j hj)
theorem W_leap0 (w : World) (y : Int) (hy : 1 ≤ y) : CallV 1 w 58 [.int y, .nm names0] (.bool (long0 y)) := by
  refine ⟨fun n0 ys hy0 => ?_⟩
  obtain ⟨y0, r0, rfl, d0, hy1⟩ := hy0.inv
  obtain ⟨t0, rfl⟩ := d0
  obtain ⟨y1, r1, rfl, d1, hy2⟩ := hy1.inv
  obtain rfl := hy2.inv0
  exact (c_leap0 w y y1 t0 hy d1).toB
theorem W_long0 (w : World) (y : Int) : CallV 1 w 111 [.int 0, .int y] (.bool (long0 y)) := by
  refine ⟨fun n0 ys hy0 => ?_⟩
  obtain ⟨y0, r0, rfl, d0, hy1⟩ := hy0.inv
  obtain ⟨t0, rfl⟩ := d0
  obtain ⟨y1, r1, rfl, d1, hy2⟩ := hy1.inv
  obtain ⟨t1, rfl⟩ := d1
  obtain rfl := hy2.inv0
  exact (c_long0 w y t0 t1).toB
theorem W_first0 (w : World) (y : Int) (hy : 1 ≤ y) : CallV 2 w 116 [.int 0, .int y] (.int (first0 y)) := by
  refine ⟨fun n0 ys hy0 => ?_⟩
  obtain ⟨y0, r0, rfl, d0, hy1⟩ := hy0.inv
  obtain ⟨t0, rfl⟩ := d0
  obtain ⟨y1, r1, rfl, d1, hy2⟩ := hy1.inv
  obtain ⟨t1, rfl⟩ := d1
  obtain rfl := hy2.inv0
  exact (c_first0 w y t0 t1).toI
theorem W_ok0 (w : World) (y mo d : Int) (hy : 1 ≤ y) (h : okF (long0 y) mo d = true) : CallLV 5 w 123 [.int 1, .int y, .int mo, .int d, .nm names0] (.int (first0 y + 30 * (mo - 1) + d - 1)) := by
  refine ⟨fun n0 ys hy0 => ?_⟩
  obtain ⟨y0, r0, rfl, d0, hy1⟩ := hy0.inv
  obtain ⟨t0, rfl⟩ := d0
  obtain ⟨y1, r1, rfl, d1, hy2⟩ := hy1.inv
  obtain ⟨t1, rfl⟩ := d1
  obtain ⟨y2, r2, rfl, d2, hy3⟩ := hy2.inv
  obtain ⟨t2, rfl⟩ := d2
  obtain ⟨y3, r3, rfl, d3, hy4⟩ := hy3.inv
  obtain ⟨t3, rfl⟩ := d3
  obtain ⟨y4, r4, rfl, d4, hy5⟩ := hy4.inv
  obtain rfl := hy5.inv0
  exact (L_ok0 w y mo d y4 t0 t1 t2 t3 hy h d4).toI
theorem W_bad0 (w : World) (y mo d : Int) (hy : 1 ≤ y) (h : okF (long0 y) mo d = false) : CallLV 5 w 123 [.int 1, .int y, .int mo, .int d, .nm names0] (.str (Str.ofString "refused")) := by
  refine ⟨fun n0 ys hy0 => ?_⟩
  obtain ⟨y0, r0, rfl, d0, hy1⟩ := hy0.inv
  obtain ⟨t0, rfl⟩ := d0
  obtain ⟨y1, r1, rfl, d1, hy2⟩ := hy1.inv
  obtain ⟨t1, rfl⟩ := d1
  obtain ⟨y2, r2, rfl, d2, hy3⟩ := hy2.inv
  obtain ⟨t2, rfl⟩ := d2
  obtain ⟨y3, r3, rfl, d3, hy4⟩ := hy3.inv
  obtain ⟨t3, rfl⟩ := d3
  obtain ⟨y4, r4, rfl, d4, hy5⟩ := hy4.inv
  obtain rfl := hy5.inv0
  exact (L_bad0 w y mo d y4 t0 t1 t2 t3 hy h d4).toS
theorem W_s1 (w : World) (j : Int) (hj : 2375840 ≤ j) (hj2 : j < 2412364) : CallV 3 w 88 [.int j, .nm names1] (.tup (Y1 j) (M1 j) (D1 j)) := by
  by_cases h : j ≤ 2380223
  · rw [Y1, M1, D1, if_pos h, if_pos h, if_pos h]; exact v_sfromL1 w j hj h
  · rw [Y1, M1, D1, if_neg h, if_neg h, if_neg h]; exact v_sfrom1b w j (by omega) hj2
theorem W_from1 (w : World) (j : Int) (hj : 2375840 ≤ j) (hj2 : j < 2412364) : CallV 4 w 81 [.int j, .nm names1] (.tup (Y1 j) (M1 j) (D1 j)) := v_from w j _ _ _ _ (W_s1 w j hj hj2)
theorem W_to1 (w : World) (y mo d : Int) (hy : 1 ≤ y) (hv2 : y ≤ 100) (h1 : 1 ≤ d) (h2 : d ≤ limF (long1 y) mo) (h3 : mo ≤ 13) : CallV 4 w 66 [.int y, .int mo, .int d, .nm names1] (.int (first1 y + 30 * (mo - 1) + d - 1)) := by
  refine ⟨fun n0 ys hy0 => ?_⟩
  obtain ⟨y0, r0, rfl, d0, hy1⟩ := hy0.inv
  obtain ⟨t0, rfl⟩ := d0
  obtain ⟨y1, r1, rfl, d1, hy2⟩ := hy1.inv
  obtain ⟨t1, rfl⟩ := d1
  obtain ⟨y2, r2, rfl, d2, hy3⟩ := hy2.inv
  obtain ⟨t2, rfl⟩ := d2
  obtain ⟨y3, r3, rfl, d3, hy4⟩ := hy3.inv
  obtain rfl := hy4.inv0
  exact (L_to1 w y mo d y3 t0 t1 t2 ⟨hy, hv2⟩ h1 h2 h3 d3).toI
theorem W_toK1 (w : World) (y mo d : Int) (hy : 1 ≤ y) (hv2 : y ≤ 100) (h1 : 1 ≤ d) (h2 : d ≤ limF (long1 y) mo) (h3 : mo ≤ 13) : CallK 5 w 66 [.int y, .int mo, .int d] (.nm names1) (.int (first1 y + 30 * (mo - 1) + d - 1)) := by
  refine ⟨fun n0 ys yk hy0 dk => ?_⟩
  obtain ⟨y0, r0, rfl, d0, hy1⟩ := hy0.inv
  obtain ⟨t0, rfl⟩ := d0
  obtain ⟨y1, r1, rfl, d1, hy2⟩ := hy1.inv
  obtain ⟨t1, rfl⟩ := d1
  obtain ⟨y2, r2, rfl, d2, hy3⟩ := hy2.inv
  obtain ⟨t2, rfl⟩ := d2
  obtain rfl := hy3.inv0
  exact ((c_tok w y mo d yk t0 t1 t2 _ _ _ dk h1 (lim_30 h2) h3 (lim_13 h2) (fun _ => c_sto1 w y mo d yk t0 t1 t2 hy hv2 dk) (fun _ => c_leap1k w y yk t0 hy dk)).up (by decide)).toI
theorem W_tog1 (w : World) (j : Int) (hj : 2375840 ≤ j) (hj2 : j < 2412364) : CallV 6 w 104 [.int (Y1 j), .int (M1 j), .int (D1 j), .nm names1] (.tup (gY j) (gM j) (gD j)) := by
  have p := p1 hj hj2
  have C := W_toK1 w (Y1 j) (M1 j) (D1 j) p.1 p.2.1 p.2.2.2.2.1 p.2.2.2.2.2.1 p.2.2.2.1
  rw [p.2.2.2.2.2.2] at C
  exact v_tog w _ _ _ _ j C
theorem W_fromg1 (w : World) (j : Int) (hj : 2375840 ≤ j) (hj2 : j < 2412364) : CallV 6 w 96 [.int (gY j), .int (gM j), .int (gD j), .nm names1] (.tup (Y1 j) (M1 j) (D1 j)) := by
  have p := pG (j := j) (by omega)
  refine v_fromg w _ _ _ _ _ _ _ p.1 p.2.1 ?_
  rw [p.2.2]
  exact v_fromK w j _ _ _ _ (W_s1 w j hj hj2)
theorem W_leap1 (w : World) (y : Int) (hy : 1 ≤ y) : CallV 1 w 58 [.int y, .nm names1] (.bool (long1 y)) := by
  refine ⟨fun n0 ys hy0 => ?_⟩
  obtain ⟨y0, r0, rfl, d0, hy1⟩ := hy0.inv
  obtain ⟨t0, rfl⟩ := d0
  obtain ⟨y1, r1, rfl, d1, hy2⟩ := hy1.inv
  obtain rfl := hy2.inv0
  exact (c_leap1 w y y1 t0 hy d1).toB
theorem W_long1 (w : World) (y : Int) : CallV 1 w 111 [.int 1, .int y] (.bool (long1 y)) := by
  refine ⟨fun n0 ys hy0 => ?_⟩
  obtain ⟨y0, r0, rfl, d0, hy1⟩ := hy0.inv
  obtain ⟨t0, rfl⟩ := d0
  obtain ⟨y1, r1, rfl, d1, hy2⟩ := hy1.inv
  obtain ⟨t1, rfl⟩ := d1
  obtain rfl := hy2.inv0
  exact (c_long1 w y t0 t1).toB
theorem W_first1 (w : World) (y : Int) (hy : 1 ≤ y) (hv2 : y ≤ 100) : CallV 2 w 116 [.int 1, .int y] (.int (first1 y)) := by
  refine ⟨fun n0 ys hy0 => ?_⟩
  obtain ⟨y0, r0, rfl, d0, hy1⟩ := hy0.inv
  obtain ⟨t0, rfl⟩ := d0
  obtain ⟨y1, r1, rfl, d1, hy2⟩ := hy1.inv
  obtain ⟨t1, rfl⟩ := d1
  obtain rfl := hy2.inv0
  exact (c_first1 w y t0 t1 hy hv2).toI
theorem W_ok1 (w : World) (y mo d : Int) (hy : 1 ≤ y) (hv2 : y ≤ 100) (h : okF (long1 y) mo d = true) : CallLV 5 w 123 [.int 1, .int y, .int mo, .int d, .nm names1] (.int (first1 y + 30 * (mo - 1) + d - 1)) := by
  refine ⟨fun n0 ys hy0 => ?_⟩
  obtain ⟨y0, r0, rfl, d0, hy1⟩ := hy0.inv
  obtain ⟨t0, rfl⟩ := d0
  obtain ⟨y1, r1, rfl, d1, hy2⟩ := hy1.inv
  obtain ⟨t1, rfl⟩ := d1
  obtain ⟨y2, r2, rfl, d2, hy3⟩ := hy2.inv
  obtain ⟨t2, rfl⟩ := d2
  obtain ⟨y3, r3, rfl, d3, hy4⟩ := hy3.inv
  obtain ⟨t3, rfl⟩ := d3
  obtain ⟨y4, r4, rfl, d4, hy5⟩ := hy4.inv
  obtain rfl := hy5.inv0
  exact (L_ok1 w y mo d y4 t0 t1 t2 t3 ⟨hy, hv2⟩ h d4).toI
theorem W_bad1 (w : World) (y mo d : Int) (hy : 1 ≤ y) (h : okF (long1 y) mo d = false) : CallLV 5 w 123 [.int 1, .int y, .int mo, .int d, .nm names1] (.str (Str.ofString "refused")) := by
  refine ⟨fun n0 ys hy0 => ?_⟩
  obtain ⟨y0, r0, rfl, d0, hy1⟩ := hy0.inv
  obtain ⟨t0, rfl⟩ := d0
  obtain ⟨y1, r1, rfl, d1, hy2⟩ := hy1.inv
  obtain ⟨t1, rfl⟩ := d1
  obtain ⟨y2, r2, rfl, d2, hy3⟩ := hy2.inv
  obtain ⟨t2, rfl⟩ := d2
  obtain ⟨y3, r3, rfl, d3, hy4⟩ := hy3.inv
  obtain ⟨t3, rfl⟩ := d3
  obtain ⟨y4, r4, rfl, d4, hy5⟩ := hy4.inv
  obtain rfl := hy5.inv0
  exact (L_bad1 w y mo d y4 t0 t1 t2 t3 hy h d4).toS
theorem W_s2 (w : World) (j : Int) (hj : 2375840 ≤ j) (hj2 : j < 2422591) : CallV 3 w 88 [.int j, .nm names2] (.tup (Y2 j) (M2 j) (D2 j)) := by
  by_cases h : j ≤ 2382049
  · rw [Y2, M2, D2, if_pos h, if_pos h, if_pos h]; exact v_sfromL2 w j hj h
  · rw [Y2, M2, D2, if_neg h, if_neg h, if_neg h]; exact v_sfrom2b w j (by omega) hj2
theorem W_from2 (w : World) (j : Int) (hj : 2375840 ≤ j) (hj2 : j < 2422591) : CallV 4 w 81 [.int j, .nm names2] (.tup (Y2 j) (M2 j) (D2 j)) := v_from w j _ _ _ _ (W_s2 w j hj hj2)
theorem W_to2 (w : World) (y mo d : Int) (hy : 1 ≤ y) (hv2 : y ≤ 128) (h1 : 1 ≤ d) (h2 : d ≤ limF (long2 y) mo) (h3 : mo ≤ 13) : CallV 4 w 66 [.int y, .int mo, .int d, .nm names2] (.int (first2 y + 30 * (mo - 1) + d - 1)) := by
  refine ⟨fun n0 ys hy0 => ?_⟩
  obtain ⟨y0, r0, rfl, d0, hy1⟩ := hy0.inv
  obtain ⟨t0, rfl⟩ := d0
  obtain ⟨y1, r1, rfl, d1, hy2⟩ := hy1.inv
  obtain ⟨t1, rfl⟩ := d1
  obtain ⟨y2, r2, rfl, d2, hy3⟩ := hy2.inv
  obtain ⟨t2, rfl⟩ := d2
  obtain ⟨y3, r3, rfl, d3, hy4⟩ := hy3.inv
  obtain rfl := hy4.inv0
  exact (L_to2 w y mo d y3 t0 t1 t2 ⟨hy, hv2⟩ h1 h2 h3 d3).toI
theorem W_toK2 (w : World) (y mo d : Int) (hy : 1 ≤ y) (hv2 : y ≤ 128) (h1 : 1 ≤ d) (h2 : d ≤ limF (long2 y) mo) (h3 : mo ≤ 13) : CallK 5 w 66 [.int y, .int mo, .int d] (.nm names2) (.int (first2 y + 30 * (mo - 1) + d - 1)) := by
  refine ⟨fun n0 ys yk hy0 dk => ?_⟩
  obtain ⟨y0, r0, rfl, d0, hy1⟩ := hy0.inv
  obtain ⟨t0, rfl⟩ := d0
  obtain ⟨y1, r1, rfl, d1, hy2⟩ := hy1.inv
  obtain ⟨t1, rfl⟩ := d1
  obtain ⟨y2, r2, rfl, d2, hy3⟩ := hy2.inv
  obtain ⟨t2, rfl⟩ := d2
  obtain rfl := hy3.inv0
  exact ((c_tok w y mo d yk t0 t1 t2 _ _ _ dk h1 (lim_30 h2) h3 (lim_13 h2) (fun _ => c_sto2 w y mo d yk t0 t1 t2 hy hv2 dk) (fun _ => c_leap2k w y yk t0 hy dk)).up (by decide)).toI
theorem W_tog2 (w : World) (j : Int) (hj : 2375840 ≤ j) (hj2 : j < 2422591) : CallV 6 w 104 [.int (Y2 j), .int (M2 j), .int (D2 j), .nm names2] (.tup (gY j) (gM j) (gD j)) := by
  have p := p2 hj hj2
  have C := W_toK2 w (Y2 j) (M2 j) (D2 j) p.1 p.2.1 p.2.2.2.2.1 p.2.2.2.2.2.1 p.2.2.2.1
  rw [p.2.2.2.2.2.2] at C
  exact v_tog w _ _ _ _ j C
theorem W_fromg2 (w : World) (j : Int) (hj : 2375840 ≤ j) (hj2 : j < 2422591) : CallV 6 w 96 [.int (gY j), .int (gM j), .int (gD j), .nm names2] (.tup (Y2 j) (M2 j) (D2 j)) := by
  have p := pG (j := j) (by omega)
  refine v_fromg w _ _ _ _ _ _ _ p.1 p.2.1 ?_
  rw [p.2.2]
  exact v_fromK w j _ _ _ _ (W_s2 w j hj hj2)
theorem W_leap2 (w : World) (y : Int) (hy : 1 ≤ y) : CallV 1 w 58 [.int y, .nm names2] (.bool (long2 y)) := by
  refine ⟨fun n0 ys hy0 => ?_⟩
  obtain ⟨y0, r0, rfl, d0, hy1⟩ := hy0.inv
  obtain ⟨t0, rfl⟩ := d0
  obtain ⟨y1, r1, rfl, d1, hy2⟩ := hy1.inv
  obtain rfl := hy2.inv0
  exact (c_leap2 w y y1 t0 hy d1).toB
theorem W_long2 (w : World) (y : Int) : CallV 1 w 111 [.int 2, .int y] (.bool (long2 y)) := by
  refine ⟨fun n0 ys hy0 => ?_⟩
  obtain ⟨y0, r0, rfl, d0, hy1⟩ := hy0.inv
  obtain ⟨t0, rfl⟩ := d0
  obtain ⟨y1, r1, rfl, d1, hy2⟩ := hy1.inv
  obtain ⟨t1, rfl⟩ := d1
  obtain rfl := hy2.inv0
  exact (c_long2 w y t0 t1).toB
theorem W_first2 (w : World) (y : Int) (hy : 1 ≤ y) (hv2 : y ≤ 128) : CallV 2 w 116 [.int 2, .int y] (.int (first2 y)) := by
  refine ⟨fun n0 ys hy0 => ?_⟩
  obtain ⟨y0, r0, rfl, d0, hy1⟩ := hy0.inv
  obtain ⟨t0, rfl⟩ := d0
  obtain ⟨y1, r1, rfl, d1, hy2⟩ := hy1.inv
  obtain ⟨t1, rfl⟩ := d1
  obtain rfl := hy2.inv0
  exact (c_first2 w y t0 t1 hy hv2).toI
theorem W_ok2 (w : World) (y mo d : Int) (hy : 1 ≤ y) (hv2 : y ≤ 128) (h : okF (long2 y) mo d = true) : CallLV 5 w 123 [.int 1, .int y, .int mo, .int d, .nm names2] (.int (first2 y + 30 * (mo - 1) + d - 1)) := by
  refine ⟨fun n0 ys hy0 => ?_⟩
  obtain ⟨y0, r0, rfl, d0, hy1⟩ := hy0.inv
  obtain ⟨t0, rfl⟩ := d0
  obtain ⟨y1, r1, rfl, d1, hy2⟩ := hy1.inv
  obtain ⟨t1, rfl⟩ := d1
  obtain ⟨y2, r2, rfl, d2, hy3⟩ := hy2.inv
  obtain ⟨t2, rfl⟩ := d2
  obtain ⟨y3, r3, rfl, d3, hy4⟩ := hy3.inv
  obtain ⟨t3, rfl⟩ := d3
  obtain ⟨y4, r4, rfl, d4, hy5⟩ := hy4.inv
  obtain rfl := hy5.inv0
  exact (L_ok2 w y mo d y4 t0 t1 t2 t3 ⟨hy, hv2⟩ h d4).toI
theorem W_bad2 (w : World) (y mo d : Int) (hy : 1 ≤ y) (h : okF (long2 y) mo d = false) : CallLV 5 w 123 [.int 1, .int y, .int mo, .int d, .nm names2] (.str (Str.ofString "refused")) := by
  refine ⟨fun n0 ys hy0 => ?_⟩
  obtain ⟨y0, r0, rfl, d0, hy1⟩ := hy0.inv
  obtain ⟨t0, rfl⟩ := d0
  obtain ⟨y1, r1, rfl, d1, hy2⟩ := hy1.inv
  obtain ⟨t1, rfl⟩ := d1
  obtain ⟨y2, r2, rfl, d2, hy3⟩ := hy2.inv
  obtain ⟨t2, rfl⟩ := d2
  obtain ⟨y3, r3, rfl, d3, hy4⟩ := hy3.inv
  obtain ⟨t3, rfl⟩ := d3
  obtain ⟨y4, r4, rfl, d4, hy5⟩ := hy4.inv
  obtain rfl := hy5.inv0
  exact (L_bad2 w y mo d y4 t0 t1 t2 t3 hy h d4).toS
theorem W_ask0 (w : World) (j mo d : Int) (ks : List PyData) (hj : j < 2375840) : CallLV 5 w 123 [.int 0, .int j, .int mo, .int d, .nm ks] (.str (Str.ofString "refused")) := by
  refine ⟨fun n0 ys hy0 => ?_⟩
  obtain ⟨y0, r0, rfl, d0, hy1⟩ := hy0.inv
  obtain ⟨t0, rfl⟩ := d0
  obtain ⟨y1, r1, rfl, d1, hy2⟩ := hy1.inv
  obtain ⟨t1, rfl⟩ := d1
  obtain ⟨y2, r2, rfl, d2, hy3⟩ := hy2.inv
  obtain ⟨t2, rfl⟩ := d2
  obtain ⟨y3, r3, rfl, d3, hy4⟩ := hy3.inv
  obtain ⟨t3, rfl⟩ := d3
  obtain ⟨y4, r4, rfl, d4, hy5⟩ := hy4.inv
  obtain rfl := hy5.inv0
  exact (c_ask0 w j mo d y4 t0 t1 t2 t3 ks d4 hj).toS
theorem W_r0 (w : World) (j mo d : Int) (hj : 2375840 ≤ j) : CallLV 5 w 123 [.int 0, .int j, .int mo, .int d, .nm names3] (.str (Str.ofString "refused")) := by
  refine ⟨fun n0 ys hy0 => ?_⟩
  obtain ⟨y0, r0, rfl, d0, hy1⟩ := hy0.inv
  obtain ⟨t0, rfl⟩ := d0
  obtain ⟨y1, r1, rfl, d1, hy2⟩ := hy1.inv
  obtain ⟨t1, rfl⟩ := d1
  obtain ⟨y2, r2, rfl, d2, hy3⟩ := hy2.inv
  obtain ⟨t2, rfl⟩ := d2
  obtain ⟨y3, r3, rfl, d3, hy4⟩ := hy3.inv
  obtain ⟨t3, rfl⟩ := d3
  obtain ⟨y4, r4, rfl, d4, hy5⟩ := hy4.inv
  obtain rfl := hy5.inv0
  exact (c_ask0r w j mo d y4 t0 t1 t2 t3 d4 hj).toS
theorem W_r1 (w : World) (y : Int) : CallLV 5 w 123 [.int 1, .int y, .int 1, .int 1, .nm names3] (.str (Str.ofString "refused")) := by
  refine ⟨fun n0 ys hy0 => ?_⟩
  obtain ⟨y0, r0, rfl, d0, hy1⟩ := hy0.inv
  obtain ⟨t0, rfl⟩ := d0
  obtain ⟨y1, r1, rfl, d1, hy2⟩ := hy1.inv
  obtain ⟨t1, rfl⟩ := d1
  obtain ⟨y2, r2, rfl, d2, hy3⟩ := hy2.inv
  obtain ⟨t2, rfl⟩ := d2
  obtain ⟨y3, r3, rfl, d3, hy4⟩ := hy3.inv
  obtain ⟨t3, rfl⟩ := d3
  obtain ⟨y4, r4, rfl, d4, hy5⟩ := hy4.inv
  obtain rfl := hy5.inv0
  exact (c_ask1r w y y4 t0 t1 t2 t3 d4).toS
theorem g_abs (w : World) : PySem.Challenge.rw_jb0012_01 = PySem.Challenge.rw_jb0012_01 → nsIn (FR.hd.heap_39 w.params) mainGlobals (Str.ofString "abs") = some none := by
  k_fill
  intro _
  k_is
theorem boot_abs : bootBuiltins (Str.ofString "abs") = some (.builtin "abs") := by boot_fast
theorem absE (x : Int) : ∃ p : Int, (if x < 0 then -x else x) = p ∧ 0 ≤ p := ⟨_, rfl, by split <;> omega⟩
theorem ns6 (l : List Int) : ∃ q0 q1 q2 q3 q4 q5 r, List.take 6 l ++ [0, 0, 0, 0, 0, 0] = q0 :: q1 :: q2 :: q3 :: q4 :: q5 :: r := by
  have h : ∀ m : List Int, 6 ≤ m.length → ∃ q0 q1 q2 q3 q4 q5 r, m = q0 :: q1 :: q2 :: q3 :: q4 :: q5 :: r := by
    intro m h
    rcases m with _ | ⟨q0, _ | ⟨q1, _ | ⟨q2, _ | ⟨q3, _ | ⟨q4, _ | ⟨q5, r⟩⟩⟩⟩⟩⟩
    all_goals first | exact ⟨_, _, _, _, _, _, _, rfl⟩ | (exfalso; simp only [List.length_cons, List.length_nil] at h; omega)
  exact h _ (by rw [List.length_append]; show 6 ≤ _ + 6; omega)
def LawKey (body : List Stmt) (cs : Scope) : Prop := ∀ (c : Cx) (q0 q1 q2 q3 q4 q5 : Int) (r : List Int), c.cs = cs → c.n = 10 → (c.base = c.h₀ ∧ c.outer = [] ∧ c.cl = []) → Rt c [(33, .ints (q0 :: q1 :: q2 :: q3 :: q4 :: q5 :: r))] body (.bool true)
theorem law_wrap {body : List Stmt} {cs : Scope} {P : Prop} (h : LawKey body cs → P) (key : LawKey body cs) : P := h key
theorem law_run {w : World} {mean : ExcName → Option Value} {mg mb : Str → Option Value} {A : Around} {s : Shared} {h₀ : Heap} {L a : Addr} {cn : Str} {cs : Scope} {ccd : Value} {dp un : Nat} {gd : Option (List Code)} {A₀ : Around} {m : Str → Option Value} {news : List (Addr × Obj)} {Q : Flow → Shared → Prop} {E : Value → Shared → Prop} {body : List Stmt} {D : Addr} {ws : List Value} {n : Nat} {l : List Int}
    (key : LawKey body cs)
    (hA : A = ktrTop dp un gd cn cs L a ccd [] []) (B : Below A₀ h₀ [] h₀) (F : Fr h₀ L s.heap m) (X : (FR.hd.heap_39 w.params).In h₀) (N : News h₀ L s.heap news) (T : Top FR.hd.view_39 (looseW FR.hd.view_39 LS) mean mg mb h₀) (hk : cs.kind = .function)
    (hd : dp + 10 < recursionLimit) (hu : un + 437 < cLine) (hm : (D, W.listOf ws.toArray n) ∈ news) (hI : IntsAre ws (List.take 6 l ++ [0, 0, 0, 0, 0, 0])) (hv : m (Str.ofString "numbers") = some (.ref D))
    (hT : ∀ (h' : Heap) (tk : Nat) (m' : Str → Option Value), Fr h₀ L h' m' → Q (.ret (.bool true)) { s with heap := h', toks := tk }) : wpAny (model PR w) A (execs body (envX cn cs L a ccd [])) Q E s := by
  subst hA
  obtain ⟨q0, q1, q2, q3, q4, q5, r, hl⟩ := ns6 l
  rw [hl] at hI
  refine (key ⟨w, mean, mg, mb, dp, un, gd, cn, cs, a, ccd, [], [], A₀, h₀, h₀, L, 10⟩ q0 q1 q2 q3 q4 q5 r rfl rfl ⟨rfl, rfl, rfl⟩).1 ⟨B, X, T, hk, hd, by show un + 40 * 10 + 37 < cLine; omega⟩ s m news Q E F N ?_ fun y m' h' tk' news' d F2 N2 s2 => ?_
  · exact Sim.cons Sim.nil (i := 33) hv ⟨D, ws, n, rfl, hm, hI⟩
  · cases d
    exact hT h' tk' m' F2
set_option maxHeartbeats 8000000
theorem law_holds : PySem.Challenge.rw_jb0012_01.Holds := by
  refine law_wrap (fun key => FR.hd (by
    k_go0
    refine hideQT (by k_asm) ?_ (fun R9 E9 hR9 => ?_)
    · intro h' tk m' F'
      dsimp only
      wrow_close
    iterate 29 (first | (k_unfold; (try dsimp only)) | (k_end; wrow_close) | walk1 | (dsimp only; walk1) | fail "no step")
    exact law_run key rfl (by k_asm) (by k_asm) (by k_asm) (by k_asm) (by k_asm) rfl (by decide) (by decide) (.head _) (by k_asm) rfl hR9)) ?_
  intro c q0 q1 q2 q3 q4 q5 r hc hn hB
  have L9 : Loc c [32, 33, 34, 35, 36, 37, 15, 16, 17, 38, 39] := Loc.of hc (by decide +kernel)
  have G_from_jd_french_republican := (g_from_jd_french_republican c.w).gl rfl hc (by decide +kernel)
  have G_law_long := (g_law_long c.w).gl rfl hc (by decide +kernel)
  have G_law_first := (g_law_first c.w).gl rfl hc (by decide +kernel)
  have G_to_jd_french_republican := (g_to_jd_french_republican c.w).gl rfl hc (by decide +kernel)
  have G_from_jd_gregorian := (g_from_jd_gregorian c.w).gl rfl hc (by decide +kernel)
  have G_to_gregorian := (g_to_gregorian c.w).gl rfl hc (by decide +kernel)
  have G_from_gregorian := (g_from_gregorian c.w).gl rfl hc (by decide +kernel)
  have G_leap := (g_leap c.w).gl rfl hc (by decide +kernel)
  have G_law_asked := (g_law_asked c.w).gl rfl hc (by decide +kernel)
  have hAbs : c.env.kindOf (Str.ofString "abs") = some .globalImplicit := by show c.cs.names.lookup _ = _; rw [hc]; decide +kernel
  rcases (show q1 % 3 = 0 ∨ q1 % 3 = 1 ∨ q1 % 3 = 2 by omega) with hw | hw | hw
  · obtain ⟨pa, hpa, hpa0⟩ := absE q0
    obtain ⟨ya, hya, hya0⟩ := absE q3
    obtain ⟨j, hjE⟩ : ∃ j, 2375840 + pa = j := ⟨_, rfl⟩
    have hj : 2375840 ≤ j := by omega
    have P := p0 hj
    obtain ⟨P1, P3, P4, P5, hlim, P7⟩ := P
    obtain ⟨mo, hmo⟩ : ∃ mo, q4 % 15 + 1 = mo := ⟨_, rfl⟩
    obtain ⟨da, hda⟩ : ∃ da, q5 % 34 - 1 = da := ⟨_, rfl⟩
    refine Rt.seq (Sx.set 34 (L9.nm (i := 34) rfl rfl) (Ev.eq (v := .int 0) (Ev.mod (Ev.item (Ev.nm 33 (L9.nm (i := 33) rfl rfl) rfl) Ev.num (by decide) (by decide) rfl) Ev.num) (congrArg V.int hw)) (fun _ => rfl)) ?_
    refine Rt.seq (Sx.set 35 (L9.nm (i := 35) rfl rfl) (Ev.pickNm (Ev.pick (Evs.cons Ev.pair (Evs.cons Ev.pair (Evs.cons Ev.pair Evs.nil))) (Ev.nm 34 (L9.nm (i := 34) rfl rfl) rfl) rfl rfl (by decide)) (Ev.mod (Ev.item (Ev.nm 33 (L9.nm (i := 33) rfl rfl) rfl) Ev.num (by decide) (by decide) rfl) Ev.num) (by decide) (by decide +kernel) (by decide +kernel)) (fun _ => rfl)) ?_
    refine Rt.seq (Sx.set 36 (L9.nm (i := 36) rfl rfl) (Ev.eq (v := .int pa) (Ev.abs hAbs (g_abs _ rfl) boot_abs (Ev.item (Ev.nm 33 (L9.nm (i := 33) rfl rfl) rfl) Ev.num (by decide) (by decide) rfl) (fun _ => rfl)) (congrArg V.int hpa)) (fun _ => rfl)) ?_
    refine Rt.seq (Sx.ifF (Ts.cmp (Ev.nm 34 (L9.nm (i := 34) rfl rfl) rfl) Ev.num (cGtF (by decide))) Fl.nil) ?_
    refine Rt.seq (Sx.set 37 (L9.nm (i := 37) rfl rfl) (Ev.eq (v := .int j) (Ev.add Ev.num (Ev.nm 36 (L9.nm (i := 36) rfl rfl) rfl)) (congrArg V.int hjE)) (fun _ => rfl)) ?_
    refine Rt.seq (Sx.unpack3 (Tg.cons (L9.nm (i := 15) rfl rfl) (Tg.cons (L9.nm (i := 16) rfl rfl) (Tg.cons (L9.nm (i := 17) rfl rfl) Tg.nil))) (Ev.call (Ev.gl G_from_jd_french_republican) (Evs.cons (Ev.nm 37 (L9.nm (i := 37) rfl rfl) rfl) (Evs.cons (Ev.nm 35 (L9.nm (i := 35) rfl rfl) rfl) Evs.nil)) (W_from0 _ _ hj) (by omega) (k_from_jd_french_republican _)) rfl (fun _ => rfl) (fun _ => rfl)) ?_
    refine Rt.seq (Sx.ifF (Ts.orF (Ts.cmp (Ev.nm 15 (L9.nm (i := 15) rfl rfl) rfl) Ev.num (cLtF (by omega))) (Ts.orF (Ts.andF (Ts.cmp (Ev.nm 34 (L9.nm (i := 34) rfl rfl) rfl) Ev.num (cGtF (by decide)))) (Ts.orF (Ts.eq (Ts.not (Ts.chain Ev.num (Ev.nm 16 (L9.nm (i := 16) rfl rfl) rfl) Ev.num (cLtET (by omega)) (cLtET (by omega)))) rfl) (Ts.orF (Ts.cmp (Ev.nm 17 (L9.nm (i := 17) rfl rfl) rfl) Ev.num (cLtF (by omega))) Ts.or0)))) Fl.nil) ?_
    refine Rt.seq (Sx.ifF (Ts.cmp (Ev.nm 17 (L9.nm (i := 17) rfl rfl) rfl) (Ev.ite (Ts.cmp (Ev.nm 16 (L9.nm (i := 16) rfl rfl) rfl) Ev.num rfl) (fun h => Ev.eq Ev.num (congrArg V.int (lim_a (of_decide_eq_true h)))) (fun h => Ev.ite (Ts.ofBool (Ev.call (Ev.gl G_law_long) (Evs.cons (Ev.nm 34 (L9.nm (i := 34) rfl rfl) rfl) (Evs.cons (Ev.nm 15 (L9.nm (i := 15) rfl rfl) rfl) Evs.nil)) (W_long0 _ _) (by omega) (k_law_long _))) (fun h9 => Ev.eq Ev.num (congrArg V.int (lim_b (of_decide_eq_false h) h9))) (fun h9 => Ev.eq Ev.num (congrArg V.int (lim_c (of_decide_eq_false h) h9))))) (cGtF (by omega))) Fl.nil) ?_
    refine Rt.seq (Sx.ifF (Ts.orF (Ts.cmp (Ev.sub (Ev.add (Ev.add (Ev.call (Ev.gl G_law_first) (Evs.cons (Ev.nm 34 (L9.nm (i := 34) rfl rfl) rfl) (Evs.cons (Ev.nm 15 (L9.nm (i := 15) rfl rfl) rfl) Evs.nil)) (W_first0 _ _ (by omega)) (by omega) (k_law_first _)) (Ev.mulL Ev.num (Ev.sub (Ev.nm 16 (L9.nm (i := 16) rfl rfl) rfl) Ev.num))) (Ev.nm 17 (L9.nm (i := 17) rfl rfl) rfl)) Ev.num) (Ev.nm 37 (L9.nm (i := 37) rfl rfl) rfl) (cNotEqF (by omega))) (Ts.orF (Ts.cmp (Ev.call (Ev.gl G_to_jd_french_republican) (Evs.cons (Ev.nm 15 (L9.nm (i := 15) rfl rfl) rfl) (Evs.cons (Ev.nm 16 (L9.nm (i := 16) rfl rfl) rfl) (Evs.cons (Ev.nm 17 (L9.nm (i := 17) rfl rfl) rfl) (Evs.cons (Ev.nm 35 (L9.nm (i := 35) rfl rfl) rfl) Evs.nil)))) (W_to0 _ _ _ _ (by omega) (by omega) hlim (by omega)) (by omega) (k_to_jd_french_republican _)) (Ev.nm 37 (L9.nm (i := 37) rfl rfl) rfl) (cNotEqF (by omega))) Ts.or0)) Fl.nil) ?_
    refine Rt.seq (Sx.set 38 (L9.nm (i := 38) rfl rfl) (Ev.call (Ev.gl G_from_jd_gregorian) (Evs.cons (Ev.nm 37 (L9.nm (i := 37) rfl rfl) rfl) Evs.nil) (v_gfrom _ _) (by omega) (k_from_jd_gregorian _)) (fun _ => rfl)) ?_
    refine Rt.seq (Sx.ifF (Ts.orF (Ts.neTup (by omega) (Ev.call (Ev.gl G_to_gregorian) (Evs.cons (Ev.nm 15 (L9.nm (i := 15) rfl rfl) rfl) (Evs.cons (Ev.nm 16 (L9.nm (i := 16) rfl rfl) rfl) (Evs.cons (Ev.nm 17 (L9.nm (i := 17) rfl rfl) rfl) (Evs.cons (Ev.nm 35 (L9.nm (i := 35) rfl rfl) rfl) Evs.nil)))) (W_tog0 _ _ hj) (by omega) (k_to_gregorian _)) (Ev.nm 38 (L9.nm (i := 38) rfl rfl) rfl)) (Ts.orF (Ts.neTup (by omega) (Ev.call (Ev.gl G_from_gregorian) (Evs.cons (Ev.part (Ev.nm 38 (L9.nm (i := 38) rfl rfl) rfl) Ev.num rfl rfl) (Evs.cons (Ev.part (Ev.nm 38 (L9.nm (i := 38) rfl rfl) rfl) Ev.num rfl rfl) (Evs.cons (Ev.part (Ev.nm 38 (L9.nm (i := 38) rfl rfl) rfl) Ev.num rfl rfl) (Evs.cons (Ev.nm 35 (L9.nm (i := 35) rfl rfl) rfl) Evs.nil)))) (W_fromg0 _ _ hj) (by omega) (k_from_gregorian _)) (Ev.tup3 (Evs.cons (Ev.nm 15 (L9.nm (i := 15) rfl rfl) rfl) (Evs.cons (Ev.nm 16 (L9.nm (i := 16) rfl rfl) rfl) (Evs.cons (Ev.nm 17 (L9.nm (i := 17) rfl rfl) rfl) Evs.nil))))) Ts.or0)) Fl.nil) ?_
    refine Rt.seq (Sx.set 15 (L9.nm (i := 15) rfl rfl) (Ev.add (Ev.eq (v := .int ya) (Ev.abs hAbs (g_abs _ rfl) boot_abs (Ev.item (Ev.nm 33 (L9.nm (i := 33) rfl rfl) rfl) Ev.num (by decide) (by decide) rfl) (fun _ => rfl)) (congrArg V.int hya)) Ev.num) (fun _ => rfl)) ?_
    refine Rt.seq (Sx.ifF (Ts.neBool (by omega) (Ev.call (Ev.gl G_leap) (Evs.cons (Ev.nm 15 (L9.nm (i := 15) rfl rfl) rfl) (Evs.cons (Ev.nm 35 (L9.nm (i := 35) rfl rfl) rfl) Evs.nil)) (W_leap0 _ _ (by omega)) (by omega) (k_leap _)) (Ev.call (Ev.gl G_law_long) (Evs.cons (Ev.nm 34 (L9.nm (i := 34) rfl rfl) rfl) (Evs.cons (Ev.nm 15 (L9.nm (i := 15) rfl rfl) rfl) Evs.nil)) (W_long0 _ _) (by omega) (k_law_long _))) Fl.nil) ?_
    refine Rt.seq (Sx.ifF (Ts.cmp (Ev.nm 34 (L9.nm (i := 34) rfl rfl) rfl) Ev.num (cGtF (by decide))) Fl.nil) ?_
    refine Rt.seq (Sx.set 16 (L9.nm (i := 16) rfl rfl) (Ev.eq (v := .int mo) (Ev.add (Ev.mod (Ev.item (Ev.nm 33 (L9.nm (i := 33) rfl rfl) rfl) Ev.num (by decide) (by decide) rfl) Ev.num) Ev.num) (congrArg V.int hmo)) (fun _ => rfl)) ?_
    refine Rt.seq (Sx.set 17 (L9.nm (i := 17) rfl rfl) (Ev.eq (v := .int da) (Ev.sub (Ev.mod (Ev.item (Ev.nm 33 (L9.nm (i := 33) rfl rfl) rfl) Ev.num (by decide) (by decide) rfl) Ev.num) Ev.num) (congrArg V.int hda)) (fun _ => rfl)) ?_
    refine Rt.seq (Sx.set 39 (L9.nm (i := 39) rfl rfl) Ev.text (fun _ => rfl)) ?_
    cases hok : okF (long0 (ya + 1)) mo da
    · refine Rt.seq (Sx.ifF (Ts.eq (Ts.and2 (Ts.cmp (Ev.nm 16 (L9.nm (i := 16) rfl rfl) rfl) Ev.num rfl) (Ts.chain Ev.num (Ev.nm 17 (L9.nm (i := 17) rfl rfl) rfl) (Ev.ite (Ts.cmp (Ev.nm 16 (L9.nm (i := 16) rfl rfl) rfl) Ev.num rfl) (fun h => Ev.eq Ev.num (congrArg V.int (lim_a (of_decide_eq_true h)))) (fun h => Ev.ite (Ts.ofBool (Ev.call (Ev.gl G_law_long) (Evs.cons (Ev.nm 34 (L9.nm (i := 34) rfl rfl) rfl) (Evs.cons (Ev.nm 15 (L9.nm (i := 15) rfl rfl) rfl) Evs.nil)) (W_long0 _ _) (by omega) (k_law_long _))) (fun h9 => Ev.eq Ev.num (congrArg V.int (lim_b (of_decide_eq_false h) h9))) (fun h9 => Ev.eq Ev.num (congrArg V.int (lim_c (of_decide_eq_false h) h9))))) rfl rfl)) (okE.trans hok)) Fl.nil) ?_
      refine Rt.seq (Sx.ifF (Ts.neStr (Ev.callL (Ev.gl G_law_asked) (Evs.cons Ev.num (Evs.cons (Ev.nm 15 (L9.nm (i := 15) rfl rfl) rfl) (Evs.cons (Ev.nm 16 (L9.nm (i := 16) rfl rfl) rfl) (Evs.cons (Ev.nm 17 (L9.nm (i := 17) rfl rfl) rfl) (Evs.cons (Ev.nm 35 (L9.nm (i := 35) rfl rfl) rfl) Evs.nil))))) (W_bad0 _ _ _ _ (by omega) hok) (by omega) hB (k_law_asked _)) (Ev.nm 39 (L9.nm (i := 39) rfl rfl) rfl)) Fl.nil) ?_
      refine Rt.seq (Sx.ifF (Ts.andIf (Ts.cmp (Ev.item (Ev.nm 33 (L9.nm (i := 33) rfl rfl) rfl) Ev.num (by decide) (by decide) rfl) Ev.num rfl) (fun h => Ts.neStr (Ev.callL (Ev.gl G_law_asked) (Evs.cons Ev.num (Evs.cons (Ev.add Ev.num (Ev.item (Ev.nm 33 (L9.nm (i := 33) rfl rfl) rfl) Ev.num (by decide) (by decide) rfl)) (Evs.cons Ev.num (Evs.cons Ev.num (Evs.cons (Ev.nm 35 (L9.nm (i := 35) rfl rfl) rfl) Evs.nil))))) (W_ask0 _ _ _ _ _ (by have h := of_decide_eq_true h; omega)) (by omega) hB (k_law_asked _)) Ev.text)) Fl.nil) ?_
      exact Rt.ret (Ev.andT (Ev.eqStr (Ev.callL (Ev.gl G_law_asked) (Evs.cons Ev.num (Evs.cons (Ev.nm 37 (L9.nm (i := 37) rfl rfl) rfl) (Evs.cons Ev.num (Evs.cons Ev.num (Evs.cons (Ev.asNm Ev.text (by decide +kernel) (by decide +kernel)) Evs.nil))))) (W_r0 _ _ _ _ hj) (by omega) hB (k_law_asked _)) Ev.text) (Ev.eqStr (Ev.callL (Ev.gl G_law_asked) (Evs.cons Ev.num (Evs.cons (Ev.nm 15 (L9.nm (i := 15) rfl rfl) rfl) (Evs.cons Ev.num (Evs.cons Ev.num (Evs.cons (Ev.asNm Ev.text (by decide +kernel) (by decide +kernel)) Evs.nil))))) (W_r1 _ _) (by omega) hB (k_law_asked _)) Ev.text))
    · refine Rt.seq (Sx.ifT (Ts.eq (Ts.and2 (Ts.cmp (Ev.nm 16 (L9.nm (i := 16) rfl rfl) rfl) Ev.num rfl) (Ts.chain Ev.num (Ev.nm 17 (L9.nm (i := 17) rfl rfl) rfl) (Ev.ite (Ts.cmp (Ev.nm 16 (L9.nm (i := 16) rfl rfl) rfl) Ev.num rfl) (fun h => Ev.eq Ev.num (congrArg V.int (lim_a (of_decide_eq_true h)))) (fun h => Ev.ite (Ts.ofBool (Ev.call (Ev.gl G_law_long) (Evs.cons (Ev.nm 34 (L9.nm (i := 34) rfl rfl) rfl) (Evs.cons (Ev.nm 15 (L9.nm (i := 15) rfl rfl) rfl) Evs.nil)) (W_long0 _ _) (by omega) (k_law_long _))) (fun h9 => Ev.eq Ev.num (congrArg V.int (lim_b (of_decide_eq_false h) h9))) (fun h9 => Ev.eq Ev.num (congrArg V.int (lim_c (of_decide_eq_false h) h9))))) rfl rfl)) (okE.trans hok)) (Fl.seq (Sx.set 39 (L9.nm (i := 39) rfl rfl) (Ev.sub (Ev.add (Ev.add (Ev.call (Ev.gl G_law_first) (Evs.cons (Ev.nm 34 (L9.nm (i := 34) rfl rfl) rfl) (Evs.cons (Ev.nm 15 (L9.nm (i := 15) rfl rfl) rfl) Evs.nil)) (W_first0 _ _ (by omega)) (by omega) (k_law_first _)) (Ev.mulL Ev.num (Ev.sub (Ev.nm 16 (L9.nm (i := 16) rfl rfl) rfl) Ev.num))) (Ev.nm 17 (L9.nm (i := 17) rfl rfl) rfl)) Ev.num) (fun _ => rfl)) Fl.nil)) ?_
      refine Rt.seq (Sx.ifF (Ts.cmp (Ev.callL (Ev.gl G_law_asked) (Evs.cons Ev.num (Evs.cons (Ev.nm 15 (L9.nm (i := 15) rfl rfl) rfl) (Evs.cons (Ev.nm 16 (L9.nm (i := 16) rfl rfl) rfl) (Evs.cons (Ev.nm 17 (L9.nm (i := 17) rfl rfl) rfl) (Evs.cons (Ev.nm 35 (L9.nm (i := 35) rfl rfl) rfl) Evs.nil))))) (W_ok0 _ _ _ _ (by omega) hok) (by omega) hB (k_law_asked _)) (Ev.nm 39 (L9.nm (i := 39) rfl rfl) rfl) (cNotEqF rfl)) Fl.nil) ?_
      refine Rt.seq (Sx.ifF (Ts.andIf (Ts.cmp (Ev.item (Ev.nm 33 (L9.nm (i := 33) rfl rfl) rfl) Ev.num (by decide) (by decide) rfl) Ev.num rfl) (fun h => Ts.neStr (Ev.callL (Ev.gl G_law_asked) (Evs.cons Ev.num (Evs.cons (Ev.add Ev.num (Ev.item (Ev.nm 33 (L9.nm (i := 33) rfl rfl) rfl) Ev.num (by decide) (by decide) rfl)) (Evs.cons Ev.num (Evs.cons Ev.num (Evs.cons (Ev.nm 35 (L9.nm (i := 35) rfl rfl) rfl) Evs.nil))))) (W_ask0 _ _ _ _ _ (by have h := of_decide_eq_true h; omega)) (by omega) hB (k_law_asked _)) Ev.text)) Fl.nil) ?_
      exact Rt.ret (Ev.andT (Ev.eqStr (Ev.callL (Ev.gl G_law_asked) (Evs.cons Ev.num (Evs.cons (Ev.nm 37 (L9.nm (i := 37) rfl rfl) rfl) (Evs.cons Ev.num (Evs.cons Ev.num (Evs.cons (Ev.asNm Ev.text (by decide +kernel) (by decide +kernel)) Evs.nil))))) (W_r0 _ _ _ _ hj) (by omega) hB (k_law_asked _)) Ev.text) (Ev.eqStr (Ev.callL (Ev.gl G_law_asked) (Evs.cons Ev.num (Evs.cons (Ev.nm 15 (L9.nm (i := 15) rfl rfl) rfl) (Evs.cons Ev.num (Evs.cons Ev.num (Evs.cons (Ev.asNm Ev.text (by decide +kernel) (by decide +kernel)) Evs.nil))))) (W_r1 _ _) (by omega) hB (k_law_asked _)) Ev.text))
  · obtain ⟨pa, hpa, hpa0⟩ := absE q0
    obtain ⟨ya, hya, hya0⟩ := absE q3
    obtain ⟨j, hjE⟩ : ∃ j, 2375840 + pa % 36524 = j := ⟨_, rfl⟩
    have hj : 2375840 ≤ j := by omega
    have hj2 : j < 2412364 := by omega
    have P := p1 hj hj2
    obtain ⟨P1, P2, P3, P4, P5, hlim, P7⟩ := P
    obtain ⟨yv, hyv⟩ : ∃ yv, (ya + 1 - 1) % 100 + 1 = yv := ⟨_, rfl⟩
    obtain ⟨mo, hmo⟩ : ∃ mo, q4 % 15 + 1 = mo := ⟨_, rfl⟩
    obtain ⟨da, hda⟩ : ∃ da, q5 % 34 - 1 = da := ⟨_, rfl⟩
    refine Rt.seq (Sx.set 34 (L9.nm (i := 34) rfl rfl) (Ev.eq (v := .int 1) (Ev.mod (Ev.item (Ev.nm 33 (L9.nm (i := 33) rfl rfl) rfl) Ev.num (by decide) (by decide) rfl) Ev.num) (congrArg V.int hw)) (fun _ => rfl)) ?_
    refine Rt.seq (Sx.set 35 (L9.nm (i := 35) rfl rfl) (Ev.pickNm (Ev.pick (Evs.cons Ev.pair (Evs.cons Ev.pair (Evs.cons Ev.pair Evs.nil))) (Ev.nm 34 (L9.nm (i := 34) rfl rfl) rfl) rfl rfl (by decide)) (Ev.mod (Ev.item (Ev.nm 33 (L9.nm (i := 33) rfl rfl) rfl) Ev.num (by decide) (by decide) rfl) Ev.num) (by decide) (by decide +kernel) (by decide +kernel)) (fun _ => rfl)) ?_
    refine Rt.seq (Sx.set 36 (L9.nm (i := 36) rfl rfl) (Ev.eq (v := .int pa) (Ev.abs hAbs (g_abs _ rfl) boot_abs (Ev.item (Ev.nm 33 (L9.nm (i := 33) rfl rfl) rfl) Ev.num (by decide) (by decide) rfl) (fun _ => rfl)) (congrArg V.int hpa)) (fun _ => rfl)) ?_
    refine Rt.seq (Sx.ifT (Ts.cmp (Ev.nm 34 (L9.nm (i := 34) rfl rfl) rfl) Ev.num (cGtT (by decide))) (Fl.seq (Sx.set 36 (L9.nm (i := 36) rfl rfl) (Ev.mod (Ev.nm 36 (L9.nm (i := 36) rfl rfl) rfl) (Ev.pick (Evs.cons Ev.num (Evs.cons Ev.num Evs.nil)) (Ev.sub (Ev.nm 34 (L9.nm (i := 34) rfl rfl) rfl) Ev.num) rfl rfl (by decide))) (fun _ => rfl)) Fl.nil)) ?_
    refine Rt.seq (Sx.set 37 (L9.nm (i := 37) rfl rfl) (Ev.eq (v := .int j) (Ev.add Ev.num (Ev.nm 36 (L9.nm (i := 36) rfl rfl) rfl)) (congrArg V.int hjE)) (fun _ => rfl)) ?_
    refine Rt.seq (Sx.unpack3 (Tg.cons (L9.nm (i := 15) rfl rfl) (Tg.cons (L9.nm (i := 16) rfl rfl) (Tg.cons (L9.nm (i := 17) rfl rfl) Tg.nil))) (Ev.call (Ev.gl G_from_jd_french_republican) (Evs.cons (Ev.nm 37 (L9.nm (i := 37) rfl rfl) rfl) (Evs.cons (Ev.nm 35 (L9.nm (i := 35) rfl rfl) rfl) Evs.nil)) (W_from1 _ _ hj hj2) (by omega) (k_from_jd_french_republican _)) rfl (fun _ => rfl) (fun _ => rfl)) ?_
    refine Rt.seq (Sx.ifF (Ts.orF (Ts.cmp (Ev.nm 15 (L9.nm (i := 15) rfl rfl) rfl) Ev.num (cLtF (by omega))) (Ts.orF (Ts.andT (Ts.cmp (Ev.nm 34 (L9.nm (i := 34) rfl rfl) rfl) Ev.num (cGtT (by decide))) (Ts.andF (Ts.cmp (Ev.nm 15 (L9.nm (i := 15) rfl rfl) rfl) Ev.num (cGtF (by omega))))) (Ts.orF (Ts.eq (Ts.not (Ts.chain Ev.num (Ev.nm 16 (L9.nm (i := 16) rfl rfl) rfl) Ev.num (cLtET (by omega)) (cLtET (by omega)))) rfl) (Ts.orF (Ts.cmp (Ev.nm 17 (L9.nm (i := 17) rfl rfl) rfl) Ev.num (cLtF (by omega))) Ts.or0)))) Fl.nil) ?_
    refine Rt.seq (Sx.ifF (Ts.cmp (Ev.nm 17 (L9.nm (i := 17) rfl rfl) rfl) (Ev.ite (Ts.cmp (Ev.nm 16 (L9.nm (i := 16) rfl rfl) rfl) Ev.num rfl) (fun h => Ev.eq Ev.num (congrArg V.int (lim_a (of_decide_eq_true h)))) (fun h => Ev.ite (Ts.ofBool (Ev.call (Ev.gl G_law_long) (Evs.cons (Ev.nm 34 (L9.nm (i := 34) rfl rfl) rfl) (Evs.cons (Ev.nm 15 (L9.nm (i := 15) rfl rfl) rfl) Evs.nil)) (W_long1 _ _) (by omega) (k_law_long _))) (fun h9 => Ev.eq Ev.num (congrArg V.int (lim_b (of_decide_eq_false h) h9))) (fun h9 => Ev.eq Ev.num (congrArg V.int (lim_c (of_decide_eq_false h) h9))))) (cGtF (by omega))) Fl.nil) ?_
    refine Rt.seq (Sx.ifF (Ts.orF (Ts.cmp (Ev.sub (Ev.add (Ev.add (Ev.call (Ev.gl G_law_first) (Evs.cons (Ev.nm 34 (L9.nm (i := 34) rfl rfl) rfl) (Evs.cons (Ev.nm 15 (L9.nm (i := 15) rfl rfl) rfl) Evs.nil)) (W_first1 _ _ (by omega) (by omega)) (by omega) (k_law_first _)) (Ev.mulL Ev.num (Ev.sub (Ev.nm 16 (L9.nm (i := 16) rfl rfl) rfl) Ev.num))) (Ev.nm 17 (L9.nm (i := 17) rfl rfl) rfl)) Ev.num) (Ev.nm 37 (L9.nm (i := 37) rfl rfl) rfl) (cNotEqF (by omega))) (Ts.orF (Ts.cmp (Ev.call (Ev.gl G_to_jd_french_republican) (Evs.cons (Ev.nm 15 (L9.nm (i := 15) rfl rfl) rfl) (Evs.cons (Ev.nm 16 (L9.nm (i := 16) rfl rfl) rfl) (Evs.cons (Ev.nm 17 (L9.nm (i := 17) rfl rfl) rfl) (Evs.cons (Ev.nm 35 (L9.nm (i := 35) rfl rfl) rfl) Evs.nil)))) (W_to1 _ _ _ _ (by omega) (by omega) (by omega) hlim (by omega)) (by omega) (k_to_jd_french_republican _)) (Ev.nm 37 (L9.nm (i := 37) rfl rfl) rfl) (cNotEqF (by omega))) Ts.or0)) Fl.nil) ?_
    refine Rt.seq (Sx.set 38 (L9.nm (i := 38) rfl rfl) (Ev.call (Ev.gl G_from_jd_gregorian) (Evs.cons (Ev.nm 37 (L9.nm (i := 37) rfl rfl) rfl) Evs.nil) (v_gfrom _ _) (by omega) (k_from_jd_gregorian _)) (fun _ => rfl)) ?_
    refine Rt.seq (Sx.ifF (Ts.orF (Ts.neTup (by omega) (Ev.call (Ev.gl G_to_gregorian) (Evs.cons (Ev.nm 15 (L9.nm (i := 15) rfl rfl) rfl) (Evs.cons (Ev.nm 16 (L9.nm (i := 16) rfl rfl) rfl) (Evs.cons (Ev.nm 17 (L9.nm (i := 17) rfl rfl) rfl) (Evs.cons (Ev.nm 35 (L9.nm (i := 35) rfl rfl) rfl) Evs.nil)))) (W_tog1 _ _ hj hj2) (by omega) (k_to_gregorian _)) (Ev.nm 38 (L9.nm (i := 38) rfl rfl) rfl)) (Ts.orF (Ts.neTup (by omega) (Ev.call (Ev.gl G_from_gregorian) (Evs.cons (Ev.part (Ev.nm 38 (L9.nm (i := 38) rfl rfl) rfl) Ev.num rfl rfl) (Evs.cons (Ev.part (Ev.nm 38 (L9.nm (i := 38) rfl rfl) rfl) Ev.num rfl rfl) (Evs.cons (Ev.part (Ev.nm 38 (L9.nm (i := 38) rfl rfl) rfl) Ev.num rfl rfl) (Evs.cons (Ev.nm 35 (L9.nm (i := 35) rfl rfl) rfl) Evs.nil)))) (W_fromg1 _ _ hj hj2) (by omega) (k_from_gregorian _)) (Ev.tup3 (Evs.cons (Ev.nm 15 (L9.nm (i := 15) rfl rfl) rfl) (Evs.cons (Ev.nm 16 (L9.nm (i := 16) rfl rfl) rfl) (Evs.cons (Ev.nm 17 (L9.nm (i := 17) rfl rfl) rfl) Evs.nil))))) Ts.or0)) Fl.nil) ?_
    refine Rt.seq (Sx.set 15 (L9.nm (i := 15) rfl rfl) (Ev.add (Ev.eq (v := .int ya) (Ev.abs hAbs (g_abs _ rfl) boot_abs (Ev.item (Ev.nm 33 (L9.nm (i := 33) rfl rfl) rfl) Ev.num (by decide) (by decide) rfl) (fun _ => rfl)) (congrArg V.int hya)) Ev.num) (fun _ => rfl)) ?_
    refine Rt.seq (Sx.ifF (Ts.neBool (by omega) (Ev.call (Ev.gl G_leap) (Evs.cons (Ev.nm 15 (L9.nm (i := 15) rfl rfl) rfl) (Evs.cons (Ev.nm 35 (L9.nm (i := 35) rfl rfl) rfl) Evs.nil)) (W_leap1 _ _ (by omega)) (by omega) (k_leap _)) (Ev.call (Ev.gl G_law_long) (Evs.cons (Ev.nm 34 (L9.nm (i := 34) rfl rfl) rfl) (Evs.cons (Ev.nm 15 (L9.nm (i := 15) rfl rfl) rfl) Evs.nil)) (W_long1 _ _) (by omega) (k_law_long _))) Fl.nil) ?_
    refine Rt.seq (Sx.ifT (Ts.cmp (Ev.nm 34 (L9.nm (i := 34) rfl rfl) rfl) Ev.num (cGtT (by decide))) (Fl.seq (Sx.set 15 (L9.nm (i := 15) rfl rfl) (Ev.eq (v := .int yv) (Ev.add (Ev.mod (Ev.sub (Ev.nm 15 (L9.nm (i := 15) rfl rfl) rfl) Ev.num) (Ev.pick (Evs.cons Ev.num (Evs.cons Ev.num Evs.nil)) (Ev.sub (Ev.nm 34 (L9.nm (i := 34) rfl rfl) rfl) Ev.num) rfl rfl (by decide))) Ev.num) (congrArg V.int hyv)) (fun _ => rfl)) Fl.nil)) ?_
    refine Rt.seq (Sx.set 16 (L9.nm (i := 16) rfl rfl) (Ev.eq (v := .int mo) (Ev.add (Ev.mod (Ev.item (Ev.nm 33 (L9.nm (i := 33) rfl rfl) rfl) Ev.num (by decide) (by decide) rfl) Ev.num) Ev.num) (congrArg V.int hmo)) (fun _ => rfl)) ?_
    refine Rt.seq (Sx.set 17 (L9.nm (i := 17) rfl rfl) (Ev.eq (v := .int da) (Ev.sub (Ev.mod (Ev.item (Ev.nm 33 (L9.nm (i := 33) rfl rfl) rfl) Ev.num (by decide) (by decide) rfl) Ev.num) Ev.num) (congrArg V.int hda)) (fun _ => rfl)) ?_
    refine Rt.seq (Sx.set 39 (L9.nm (i := 39) rfl rfl) Ev.text (fun _ => rfl)) ?_
    cases hok : okF (long1 yv) mo da
    · refine Rt.seq (Sx.ifF (Ts.eq (Ts.and2 (Ts.cmp (Ev.nm 16 (L9.nm (i := 16) rfl rfl) rfl) Ev.num rfl) (Ts.chain Ev.num (Ev.nm 17 (L9.nm (i := 17) rfl rfl) rfl) (Ev.ite (Ts.cmp (Ev.nm 16 (L9.nm (i := 16) rfl rfl) rfl) Ev.num rfl) (fun h => Ev.eq Ev.num (congrArg V.int (lim_a (of_decide_eq_true h)))) (fun h => Ev.ite (Ts.ofBool (Ev.call (Ev.gl G_law_long) (Evs.cons (Ev.nm 34 (L9.nm (i := 34) rfl rfl) rfl) (Evs.cons (Ev.nm 15 (L9.nm (i := 15) rfl rfl) rfl) Evs.nil)) (W_long1 _ _) (by omega) (k_law_long _))) (fun h9 => Ev.eq Ev.num (congrArg V.int (lim_b (of_decide_eq_false h) h9))) (fun h9 => Ev.eq Ev.num (congrArg V.int (lim_c (of_decide_eq_false h) h9))))) rfl rfl)) (okE.trans hok)) Fl.nil) ?_
      refine Rt.seq (Sx.ifF (Ts.neStr (Ev.callL (Ev.gl G_law_asked) (Evs.cons Ev.num (Evs.cons (Ev.nm 15 (L9.nm (i := 15) rfl rfl) rfl) (Evs.cons (Ev.nm 16 (L9.nm (i := 16) rfl rfl) rfl) (Evs.cons (Ev.nm 17 (L9.nm (i := 17) rfl rfl) rfl) (Evs.cons (Ev.nm 35 (L9.nm (i := 35) rfl rfl) rfl) Evs.nil))))) (W_bad1 _ _ _ _ (by omega) hok) (by omega) hB (k_law_asked _)) (Ev.nm 39 (L9.nm (i := 39) rfl rfl) rfl)) Fl.nil) ?_
      refine Rt.seq (Sx.ifF (Ts.andIf (Ts.cmp (Ev.item (Ev.nm 33 (L9.nm (i := 33) rfl rfl) rfl) Ev.num (by decide) (by decide) rfl) Ev.num rfl) (fun h => Ts.neStr (Ev.callL (Ev.gl G_law_asked) (Evs.cons Ev.num (Evs.cons (Ev.add Ev.num (Ev.item (Ev.nm 33 (L9.nm (i := 33) rfl rfl) rfl) Ev.num (by decide) (by decide) rfl)) (Evs.cons Ev.num (Evs.cons Ev.num (Evs.cons (Ev.nm 35 (L9.nm (i := 35) rfl rfl) rfl) Evs.nil))))) (W_ask0 _ _ _ _ _ (by have h := of_decide_eq_true h; omega)) (by omega) hB (k_law_asked _)) Ev.text)) Fl.nil) ?_
      exact Rt.ret (Ev.andT (Ev.eqStr (Ev.callL (Ev.gl G_law_asked) (Evs.cons Ev.num (Evs.cons (Ev.nm 37 (L9.nm (i := 37) rfl rfl) rfl) (Evs.cons Ev.num (Evs.cons Ev.num (Evs.cons (Ev.asNm Ev.text (by decide +kernel) (by decide +kernel)) Evs.nil))))) (W_r0 _ _ _ _ hj) (by omega) hB (k_law_asked _)) Ev.text) (Ev.eqStr (Ev.callL (Ev.gl G_law_asked) (Evs.cons Ev.num (Evs.cons (Ev.nm 15 (L9.nm (i := 15) rfl rfl) rfl) (Evs.cons Ev.num (Evs.cons Ev.num (Evs.cons (Ev.asNm Ev.text (by decide +kernel) (by decide +kernel)) Evs.nil))))) (W_r1 _ _) (by omega) hB (k_law_asked _)) Ev.text))
    · refine Rt.seq (Sx.ifT (Ts.eq (Ts.and2 (Ts.cmp (Ev.nm 16 (L9.nm (i := 16) rfl rfl) rfl) Ev.num rfl) (Ts.chain Ev.num (Ev.nm 17 (L9.nm (i := 17) rfl rfl) rfl) (Ev.ite (Ts.cmp (Ev.nm 16 (L9.nm (i := 16) rfl rfl) rfl) Ev.num rfl) (fun h => Ev.eq Ev.num (congrArg V.int (lim_a (of_decide_eq_true h)))) (fun h => Ev.ite (Ts.ofBool (Ev.call (Ev.gl G_law_long) (Evs.cons (Ev.nm 34 (L9.nm (i := 34) rfl rfl) rfl) (Evs.cons (Ev.nm 15 (L9.nm (i := 15) rfl rfl) rfl) Evs.nil)) (W_long1 _ _) (by omega) (k_law_long _))) (fun h9 => Ev.eq Ev.num (congrArg V.int (lim_b (of_decide_eq_false h) h9))) (fun h9 => Ev.eq Ev.num (congrArg V.int (lim_c (of_decide_eq_false h) h9))))) rfl rfl)) (okE.trans hok)) (Fl.seq (Sx.set 39 (L9.nm (i := 39) rfl rfl) (Ev.sub (Ev.add (Ev.add (Ev.call (Ev.gl G_law_first) (Evs.cons (Ev.nm 34 (L9.nm (i := 34) rfl rfl) rfl) (Evs.cons (Ev.nm 15 (L9.nm (i := 15) rfl rfl) rfl) Evs.nil)) (W_first1 _ _ (by omega) (by omega)) (by omega) (k_law_first _)) (Ev.mulL Ev.num (Ev.sub (Ev.nm 16 (L9.nm (i := 16) rfl rfl) rfl) Ev.num))) (Ev.nm 17 (L9.nm (i := 17) rfl rfl) rfl)) Ev.num) (fun _ => rfl)) Fl.nil)) ?_
      refine Rt.seq (Sx.ifF (Ts.cmp (Ev.callL (Ev.gl G_law_asked) (Evs.cons Ev.num (Evs.cons (Ev.nm 15 (L9.nm (i := 15) rfl rfl) rfl) (Evs.cons (Ev.nm 16 (L9.nm (i := 16) rfl rfl) rfl) (Evs.cons (Ev.nm 17 (L9.nm (i := 17) rfl rfl) rfl) (Evs.cons (Ev.nm 35 (L9.nm (i := 35) rfl rfl) rfl) Evs.nil))))) (W_ok1 _ _ _ _ (by omega) (by omega) hok) (by omega) hB (k_law_asked _)) (Ev.nm 39 (L9.nm (i := 39) rfl rfl) rfl) (cNotEqF rfl)) Fl.nil) ?_
      refine Rt.seq (Sx.ifF (Ts.andIf (Ts.cmp (Ev.item (Ev.nm 33 (L9.nm (i := 33) rfl rfl) rfl) Ev.num (by decide) (by decide) rfl) Ev.num rfl) (fun h => Ts.neStr (Ev.callL (Ev.gl G_law_asked) (Evs.cons Ev.num (Evs.cons (Ev.add Ev.num (Ev.item (Ev.nm 33 (L9.nm (i := 33) rfl rfl) rfl) Ev.num (by decide) (by decide) rfl)) (Evs.cons Ev.num (Evs.cons Ev.num (Evs.cons (Ev.nm 35 (L9.nm (i := 35) rfl rfl) rfl) Evs.nil))))) (W_ask0 _ _ _ _ _ (by have h := of_decide_eq_true h; omega)) (by omega) hB (k_law_asked _)) Ev.text)) Fl.nil) ?_
      exact Rt.ret (Ev.andT (Ev.eqStr (Ev.callL (Ev.gl G_law_asked) (Evs.cons Ev.num (Evs.cons (Ev.nm 37 (L9.nm (i := 37) rfl rfl) rfl) (Evs.cons Ev.num (Evs.cons Ev.num (Evs.cons (Ev.asNm Ev.text (by decide +kernel) (by decide +kernel)) Evs.nil))))) (W_r0 _ _ _ _ hj) (by omega) hB (k_law_asked _)) Ev.text) (Ev.eqStr (Ev.callL (Ev.gl G_law_asked) (Evs.cons Ev.num (Evs.cons (Ev.nm 15 (L9.nm (i := 15) rfl rfl) rfl) (Evs.cons Ev.num (Evs.cons Ev.num (Evs.cons (Ev.asNm Ev.text (by decide +kernel) (by decide +kernel)) Evs.nil))))) (W_r1 _ _) (by omega) hB (k_law_asked _)) Ev.text))
  · obtain ⟨pa, hpa, hpa0⟩ := absE q0
    obtain ⟨ya, hya, hya0⟩ := absE q3
    obtain ⟨j, hjE⟩ : ∃ j, 2375840 + pa % 46751 = j := ⟨_, rfl⟩
    have hj : 2375840 ≤ j := by omega
    have hj2 : j < 2422591 := by omega
    have P := p2 hj hj2
    obtain ⟨P1, P2, P3, P4, P5, hlim, P7⟩ := P
    obtain ⟨yv, hyv⟩ : ∃ yv, (ya + 1 - 1) % 128 + 1 = yv := ⟨_, rfl⟩
    obtain ⟨mo, hmo⟩ : ∃ mo, q4 % 15 + 1 = mo := ⟨_, rfl⟩
    obtain ⟨da, hda⟩ : ∃ da, q5 % 34 - 1 = da := ⟨_, rfl⟩
    refine Rt.seq (Sx.set 34 (L9.nm (i := 34) rfl rfl) (Ev.eq (v := .int 2) (Ev.mod (Ev.item (Ev.nm 33 (L9.nm (i := 33) rfl rfl) rfl) Ev.num (by decide) (by decide) rfl) Ev.num) (congrArg V.int hw)) (fun _ => rfl)) ?_
    refine Rt.seq (Sx.set 35 (L9.nm (i := 35) rfl rfl) (Ev.pickNm (Ev.pick (Evs.cons Ev.pair (Evs.cons Ev.pair (Evs.cons Ev.pair Evs.nil))) (Ev.nm 34 (L9.nm (i := 34) rfl rfl) rfl) rfl rfl (by decide)) (Ev.mod (Ev.item (Ev.nm 33 (L9.nm (i := 33) rfl rfl) rfl) Ev.num (by decide) (by decide) rfl) Ev.num) (by decide) (by decide +kernel) (by decide +kernel)) (fun _ => rfl)) ?_
    refine Rt.seq (Sx.set 36 (L9.nm (i := 36) rfl rfl) (Ev.eq (v := .int pa) (Ev.abs hAbs (g_abs _ rfl) boot_abs (Ev.item (Ev.nm 33 (L9.nm (i := 33) rfl rfl) rfl) Ev.num (by decide) (by decide) rfl) (fun _ => rfl)) (congrArg V.int hpa)) (fun _ => rfl)) ?_
    refine Rt.seq (Sx.ifT (Ts.cmp (Ev.nm 34 (L9.nm (i := 34) rfl rfl) rfl) Ev.num (cGtT (by decide))) (Fl.seq (Sx.set 36 (L9.nm (i := 36) rfl rfl) (Ev.mod (Ev.nm 36 (L9.nm (i := 36) rfl rfl) rfl) (Ev.pick (Evs.cons Ev.num (Evs.cons Ev.num Evs.nil)) (Ev.sub (Ev.nm 34 (L9.nm (i := 34) rfl rfl) rfl) Ev.num) rfl rfl (by decide))) (fun _ => rfl)) Fl.nil)) ?_
    refine Rt.seq (Sx.set 37 (L9.nm (i := 37) rfl rfl) (Ev.eq (v := .int j) (Ev.add Ev.num (Ev.nm 36 (L9.nm (i := 36) rfl rfl) rfl)) (congrArg V.int hjE)) (fun _ => rfl)) ?_
    refine Rt.seq (Sx.unpack3 (Tg.cons (L9.nm (i := 15) rfl rfl) (Tg.cons (L9.nm (i := 16) rfl rfl) (Tg.cons (L9.nm (i := 17) rfl rfl) Tg.nil))) (Ev.call (Ev.gl G_from_jd_french_republican) (Evs.cons (Ev.nm 37 (L9.nm (i := 37) rfl rfl) rfl) (Evs.cons (Ev.nm 35 (L9.nm (i := 35) rfl rfl) rfl) Evs.nil)) (W_from2 _ _ hj hj2) (by omega) (k_from_jd_french_republican _)) rfl (fun _ => rfl) (fun _ => rfl)) ?_
    refine Rt.seq (Sx.ifF (Ts.orF (Ts.cmp (Ev.nm 15 (L9.nm (i := 15) rfl rfl) rfl) Ev.num (cLtF (by omega))) (Ts.orF (Ts.andT (Ts.cmp (Ev.nm 34 (L9.nm (i := 34) rfl rfl) rfl) Ev.num (cGtT (by decide))) (Ts.andF (Ts.cmp (Ev.nm 15 (L9.nm (i := 15) rfl rfl) rfl) Ev.num (cGtF (by omega))))) (Ts.orF (Ts.eq (Ts.not (Ts.chain Ev.num (Ev.nm 16 (L9.nm (i := 16) rfl rfl) rfl) Ev.num (cLtET (by omega)) (cLtET (by omega)))) rfl) (Ts.orF (Ts.cmp (Ev.nm 17 (L9.nm (i := 17) rfl rfl) rfl) Ev.num (cLtF (by omega))) Ts.or0)))) Fl.nil) ?_
    refine Rt.seq (Sx.ifF (Ts.cmp (Ev.nm 17 (L9.nm (i := 17) rfl rfl) rfl) (Ev.ite (Ts.cmp (Ev.nm 16 (L9.nm (i := 16) rfl rfl) rfl) Ev.num rfl) (fun h => Ev.eq Ev.num (congrArg V.int (lim_a (of_decide_eq_true h)))) (fun h => Ev.ite (Ts.ofBool (Ev.call (Ev.gl G_law_long) (Evs.cons (Ev.nm 34 (L9.nm (i := 34) rfl rfl) rfl) (Evs.cons (Ev.nm 15 (L9.nm (i := 15) rfl rfl) rfl) Evs.nil)) (W_long2 _ _) (by omega) (k_law_long _))) (fun h9 => Ev.eq Ev.num (congrArg V.int (lim_b (of_decide_eq_false h) h9))) (fun h9 => Ev.eq Ev.num (congrArg V.int (lim_c (of_decide_eq_false h) h9))))) (cGtF (by omega))) Fl.nil) ?_
    refine Rt.seq (Sx.ifF (Ts.orF (Ts.cmp (Ev.sub (Ev.add (Ev.add (Ev.call (Ev.gl G_law_first) (Evs.cons (Ev.nm 34 (L9.nm (i := 34) rfl rfl) rfl) (Evs.cons (Ev.nm 15 (L9.nm (i := 15) rfl rfl) rfl) Evs.nil)) (W_first2 _ _ (by omega) (by omega)) (by omega) (k_law_first _)) (Ev.mulL Ev.num (Ev.sub (Ev.nm 16 (L9.nm (i := 16) rfl rfl) rfl) Ev.num))) (Ev.nm 17 (L9.nm (i := 17) rfl rfl) rfl)) Ev.num) (Ev.nm 37 (L9.nm (i := 37) rfl rfl) rfl) (cNotEqF (by omega))) (Ts.orF (Ts.cmp (Ev.call (Ev.gl G_to_jd_french_republican) (Evs.cons (Ev.nm 15 (L9.nm (i := 15) rfl rfl) rfl) (Evs.cons (Ev.nm 16 (L9.nm (i := 16) rfl rfl) rfl) (Evs.cons (Ev.nm 17 (L9.nm (i := 17) rfl rfl) rfl) (Evs.cons (Ev.nm 35 (L9.nm (i := 35) rfl rfl) rfl) Evs.nil)))) (W_to2 _ _ _ _ (by omega) (by omega) (by omega) hlim (by omega)) (by omega) (k_to_jd_french_republican _)) (Ev.nm 37 (L9.nm (i := 37) rfl rfl) rfl) (cNotEqF (by omega))) Ts.or0)) Fl.nil) ?_
    refine Rt.seq (Sx.set 38 (L9.nm (i := 38) rfl rfl) (Ev.call (Ev.gl G_from_jd_gregorian) (Evs.cons (Ev.nm 37 (L9.nm (i := 37) rfl rfl) rfl) Evs.nil) (v_gfrom _ _) (by omega) (k_from_jd_gregorian _)) (fun _ => rfl)) ?_
    refine Rt.seq (Sx.ifF (Ts.orF (Ts.neTup (by omega) (Ev.call (Ev.gl G_to_gregorian) (Evs.cons (Ev.nm 15 (L9.nm (i := 15) rfl rfl) rfl) (Evs.cons (Ev.nm 16 (L9.nm (i := 16) rfl rfl) rfl) (Evs.cons (Ev.nm 17 (L9.nm (i := 17) rfl rfl) rfl) (Evs.cons (Ev.nm 35 (L9.nm (i := 35) rfl rfl) rfl) Evs.nil)))) (W_tog2 _ _ hj hj2) (by omega) (k_to_gregorian _)) (Ev.nm 38 (L9.nm (i := 38) rfl rfl) rfl)) (Ts.orF (Ts.neTup (by omega) (Ev.call (Ev.gl G_from_gregorian) (Evs.cons (Ev.part (Ev.nm 38 (L9.nm (i := 38) rfl rfl) rfl) Ev.num rfl rfl) (Evs.cons (Ev.part (Ev.nm 38 (L9.nm (i := 38) rfl rfl) rfl) Ev.num rfl rfl) (Evs.cons (Ev.part (Ev.nm 38 (L9.nm (i := 38) rfl rfl) rfl) Ev.num rfl rfl) (Evs.cons (Ev.nm 35 (L9.nm (i := 35) rfl rfl) rfl) Evs.nil)))) (W_fromg2 _ _ hj hj2) (by omega) (k_from_gregorian _)) (Ev.tup3 (Evs.cons (Ev.nm 15 (L9.nm (i := 15) rfl rfl) rfl) (Evs.cons (Ev.nm 16 (L9.nm (i := 16) rfl rfl) rfl) (Evs.cons (Ev.nm 17 (L9.nm (i := 17) rfl rfl) rfl) Evs.nil))))) Ts.or0)) Fl.nil) ?_
    refine Rt.seq (Sx.set 15 (L9.nm (i := 15) rfl rfl) (Ev.add (Ev.eq (v := .int ya) (Ev.abs hAbs (g_abs _ rfl) boot_abs (Ev.item (Ev.nm 33 (L9.nm (i := 33) rfl rfl) rfl) Ev.num (by decide) (by decide) rfl) (fun _ => rfl)) (congrArg V.int hya)) Ev.num) (fun _ => rfl)) ?_
    refine Rt.seq (Sx.ifF (Ts.neBool (by omega) (Ev.call (Ev.gl G_leap) (Evs.cons (Ev.nm 15 (L9.nm (i := 15) rfl rfl) rfl) (Evs.cons (Ev.nm 35 (L9.nm (i := 35) rfl rfl) rfl) Evs.nil)) (W_leap2 _ _ (by omega)) (by omega) (k_leap _)) (Ev.call (Ev.gl G_law_long) (Evs.cons (Ev.nm 34 (L9.nm (i := 34) rfl rfl) rfl) (Evs.cons (Ev.nm 15 (L9.nm (i := 15) rfl rfl) rfl) Evs.nil)) (W_long2 _ _) (by omega) (k_law_long _))) Fl.nil) ?_
    refine Rt.seq (Sx.ifT (Ts.cmp (Ev.nm 34 (L9.nm (i := 34) rfl rfl) rfl) Ev.num (cGtT (by decide))) (Fl.seq (Sx.set 15 (L9.nm (i := 15) rfl rfl) (Ev.eq (v := .int yv) (Ev.add (Ev.mod (Ev.sub (Ev.nm 15 (L9.nm (i := 15) rfl rfl) rfl) Ev.num) (Ev.pick (Evs.cons Ev.num (Evs.cons Ev.num Evs.nil)) (Ev.sub (Ev.nm 34 (L9.nm (i := 34) rfl rfl) rfl) Ev.num) rfl rfl (by decide))) Ev.num) (congrArg V.int hyv)) (fun _ => rfl)) Fl.nil)) ?_
    refine Rt.seq (Sx.set 16 (L9.nm (i := 16) rfl rfl) (Ev.eq (v := .int mo) (Ev.add (Ev.mod (Ev.item (Ev.nm 33 (L9.nm (i := 33) rfl rfl) rfl) Ev.num (by decide) (by decide) rfl) Ev.num) Ev.num) (congrArg V.int hmo)) (fun _ => rfl)) ?_
    refine Rt.seq (Sx.set 17 (L9.nm (i := 17) rfl rfl) (Ev.eq (v := .int da) (Ev.sub (Ev.mod (Ev.item (Ev.nm 33 (L9.nm (i := 33) rfl rfl) rfl) Ev.num (by decide) (by decide) rfl) Ev.num) Ev.num) (congrArg V.int hda)) (fun _ => rfl)) ?_
    refine Rt.seq (Sx.set 39 (L9.nm (i := 39) rfl rfl) Ev.text (fun _ => rfl)) ?_
    cases hok : okF (long2 yv) mo da
    · refine Rt.seq (Sx.ifF (Ts.eq (Ts.and2 (Ts.cmp (Ev.nm 16 (L9.nm (i := 16) rfl rfl) rfl) Ev.num rfl) (Ts.chain Ev.num (Ev.nm 17 (L9.nm (i := 17) rfl rfl) rfl) (Ev.ite (Ts.cmp (Ev.nm 16 (L9.nm (i := 16) rfl rfl) rfl) Ev.num rfl) (fun h => Ev.eq Ev.num (congrArg V.int (lim_a (of_decide_eq_true h)))) (fun h => Ev.ite (Ts.ofBool (Ev.call (Ev.gl G_law_long) (Evs.cons (Ev.nm 34 (L9.nm (i := 34) rfl rfl) rfl) (Evs.cons (Ev.nm 15 (L9.nm (i := 15) rfl rfl) rfl) Evs.nil)) (W_long2 _ _) (by omega) (k_law_long _))) (fun h9 => Ev.eq Ev.num (congrArg V.int (lim_b (of_decide_eq_false h) h9))) (fun h9 => Ev.eq Ev.num (congrArg V.int (lim_c (of_decide_eq_false h) h9))))) rfl rfl)) (okE.trans hok)) Fl.nil) ?_
      refine Rt.seq (Sx.ifF (Ts.neStr (Ev.callL (Ev.gl G_law_asked) (Evs.cons Ev.num (Evs.cons (Ev.nm 15 (L9.nm (i := 15) rfl rfl) rfl) (Evs.cons (Ev.nm 16 (L9.nm (i := 16) rfl rfl) rfl) (Evs.cons (Ev.nm 17 (L9.nm (i := 17) rfl rfl) rfl) (Evs.cons (Ev.nm 35 (L9.nm (i := 35) rfl rfl) rfl) Evs.nil))))) (W_bad2 _ _ _ _ (by omega) hok) (by omega) hB (k_law_asked _)) (Ev.nm 39 (L9.nm (i := 39) rfl rfl) rfl)) Fl.nil) ?_
      refine Rt.seq (Sx.ifF (Ts.andIf (Ts.cmp (Ev.item (Ev.nm 33 (L9.nm (i := 33) rfl rfl) rfl) Ev.num (by decide) (by decide) rfl) Ev.num rfl) (fun h => Ts.neStr (Ev.callL (Ev.gl G_law_asked) (Evs.cons Ev.num (Evs.cons (Ev.add Ev.num (Ev.item (Ev.nm 33 (L9.nm (i := 33) rfl rfl) rfl) Ev.num (by decide) (by decide) rfl)) (Evs.cons Ev.num (Evs.cons Ev.num (Evs.cons (Ev.nm 35 (L9.nm (i := 35) rfl rfl) rfl) Evs.nil))))) (W_ask0 _ _ _ _ _ (by have h := of_decide_eq_true h; omega)) (by omega) hB (k_law_asked _)) Ev.text)) Fl.nil) ?_
      exact Rt.ret (Ev.andT (Ev.eqStr (Ev.callL (Ev.gl G_law_asked) (Evs.cons Ev.num (Evs.cons (Ev.nm 37 (L9.nm (i := 37) rfl rfl) rfl) (Evs.cons Ev.num (Evs.cons Ev.num (Evs.cons (Ev.asNm Ev.text (by decide +kernel) (by decide +kernel)) Evs.nil))))) (W_r0 _ _ _ _ hj) (by omega) hB (k_law_asked _)) Ev.text) (Ev.eqStr (Ev.callL (Ev.gl G_law_asked) (Evs.cons Ev.num (Evs.cons (Ev.nm 15 (L9.nm (i := 15) rfl rfl) rfl) (Evs.cons Ev.num (Evs.cons Ev.num (Evs.cons (Ev.asNm Ev.text (by decide +kernel) (by decide +kernel)) Evs.nil))))) (W_r1 _ _) (by omega) hB (k_law_asked _)) Ev.text))
    · refine Rt.seq (Sx.ifT (Ts.eq (Ts.and2 (Ts.cmp (Ev.nm 16 (L9.nm (i := 16) rfl rfl) rfl) Ev.num rfl) (Ts.chain Ev.num (Ev.nm 17 (L9.nm (i := 17) rfl rfl) rfl) (Ev.ite (Ts.cmp (Ev.nm 16 (L9.nm (i := 16) rfl rfl) rfl) Ev.num rfl) (fun h => Ev.eq Ev.num (congrArg V.int (lim_a (of_decide_eq_true h)))) (fun h => Ev.ite (Ts.ofBool (Ev.call (Ev.gl G_law_long) (Evs.cons (Ev.nm 34 (L9.nm (i := 34) rfl rfl) rfl) (Evs.cons (Ev.nm 15 (L9.nm (i := 15) rfl rfl) rfl) Evs.nil)) (W_long2 _ _) (by omega) (k_law_long _))) (fun h9 => Ev.eq Ev.num (congrArg V.int (lim_b (of_decide_eq_false h) h9))) (fun h9 => Ev.eq Ev.num (congrArg V.int (lim_c (of_decide_eq_false h) h9))))) rfl rfl)) (okE.trans hok)) (Fl.seq (Sx.set 39 (L9.nm (i := 39) rfl rfl) (Ev.sub (Ev.add (Ev.add (Ev.call (Ev.gl G_law_first) (Evs.cons (Ev.nm 34 (L9.nm (i := 34) rfl rfl) rfl) (Evs.cons (Ev.nm 15 (L9.nm (i := 15) rfl rfl) rfl) Evs.nil)) (W_first2 _ _ (by omega) (by omega)) (by omega) (k_law_first _)) (Ev.mulL Ev.num (Ev.sub (Ev.nm 16 (L9.nm (i := 16) rfl rfl) rfl) Ev.num))) (Ev.nm 17 (L9.nm (i := 17) rfl rfl) rfl)) Ev.num) (fun _ => rfl)) Fl.nil)) ?_
      refine Rt.seq (Sx.ifF (Ts.cmp (Ev.callL (Ev.gl G_law_asked) (Evs.cons Ev.num (Evs.cons (Ev.nm 15 (L9.nm (i := 15) rfl rfl) rfl) (Evs.cons (Ev.nm 16 (L9.nm (i := 16) rfl rfl) rfl) (Evs.cons (Ev.nm 17 (L9.nm (i := 17) rfl rfl) rfl) (Evs.cons (Ev.nm 35 (L9.nm (i := 35) rfl rfl) rfl) Evs.nil))))) (W_ok2 _ _ _ _ (by omega) (by omega) hok) (by omega) hB (k_law_asked _)) (Ev.nm 39 (L9.nm (i := 39) rfl rfl) rfl) (cNotEqF rfl)) Fl.nil) ?_
      refine Rt.seq (Sx.ifF (Ts.andIf (Ts.cmp (Ev.item (Ev.nm 33 (L9.nm (i := 33) rfl rfl) rfl) Ev.num (by decide) (by decide) rfl) Ev.num rfl) (fun h => Ts.neStr (Ev.callL (Ev.gl G_law_asked) (Evs.cons Ev.num (Evs.cons (Ev.add Ev.num (Ev.item (Ev.nm 33 (L9.nm (i := 33) rfl rfl) rfl) Ev.num (by decide) (by decide) rfl)) (Evs.cons Ev.num (Evs.cons Ev.num (Evs.cons (Ev.nm 35 (L9.nm (i := 35) rfl rfl) rfl) Evs.nil))))) (W_ask0 _ _ _ _ _ (by have h := of_decide_eq_true h; omega)) (by omega) hB (k_law_asked _)) Ev.text)) Fl.nil) ?_
      exact Rt.ret (Ev.andT (Ev.eqStr (Ev.callL (Ev.gl G_law_asked) (Evs.cons Ev.num (Evs.cons (Ev.nm 37 (L9.nm (i := 37) rfl rfl) rfl) (Evs.cons Ev.num (Evs.cons Ev.num (Evs.cons (Ev.asNm Ev.text (by decide +kernel) (by decide +kernel)) Evs.nil))))) (W_r0 _ _ _ _ hj) (by omega) hB (k_law_asked _)) Ev.text) (Ev.eqStr (Ev.callL (Ev.gl G_law_asked) (Evs.cons Ev.num (Evs.cons (Ev.nm 15 (L9.nm (i := 15) rfl rfl) rfl) (Evs.cons Ev.num (Evs.cons Ev.num (Evs.cons (Ev.asNm Ev.text (by decide +kernel) (by decide +kernel)) Evs.nil))))) (W_r1 _ _) (by omega) hB (k_law_asked _)) Ev.text))

end FR
theorem PySem.Challenge.cw_jb0012_01_holds : PySem.Challenge.rw_jb0012_01.Holds := by
  exact FR.law_holds
