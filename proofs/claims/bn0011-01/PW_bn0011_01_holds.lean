import PyProof.Rows.All
import Wide.All
import OpenK.AllK
import Wide.FinOn
import PySem.Challenge.RW_bn0011_01
open PySem PySem.W PyProof.Rows
set_option maxRecDepth 100000
set_option Elab.async false
namespace Mine
set_option maxHeartbeats 8000000 in
open_top hd for PySem.Challenge.rw_bn0011_01
abbrev TopC (s₀ : Shared) (mg mb : Str → Option Value) (h₀ : Heap) : Prop := Top hd.view_39 (looseW hd.view_39
    [Str.ofString "legal_date_gregorian", Str.ofString "to_jd_gregorian", Str.ofString "from_jd_gregorian",
      Str.ofString "month_length_gregorian", Str.ofString "month_length_julian", Str.ofString "legal_date_julian",
      Str.ofString "from_jd_julian", Str.ofString "to_jd_julian", Str.ofString "from_gregorian_julian",
      Str.ofString "to_gregorian_julian", Str.ofString "to_jd_iso", Str.ofString "from_jd_iso",
      Str.ofString "from_gregorian_iso", Str.ofString "to_gregorian_iso", Str.ofString "to_gregorian_julianday",
      Str.ofString "from_gregorian_julianday", Str.ofString "to_jd_ordinal", Str.ofString "from_jd_ordinal",
      Str.ofString "from_gregorian_ordinal", Str.ofString "to_gregorian_ordinal"]) (ExcName.means s₀.heap) mg mb h₀

/-- what a call hands back: an int, a bool, none, a tuple of two or three ints -/
inductive Res where
  | int (x : Int)
  | bool (b : Bool)
  | none
  | t2 (x y : Int)
  | t3 (x y z : Int)
  | ints (xs : List Int)

abbrev Tup2 (x y : Int) (t1 t2 : Tok) (c : Nat) : Obj := { cls := .type "tuple", data := .seq #[.int x t1, .int y t2] c }
abbrev Tup3 (x y z : Int) (t1 t2 t3 : Tok) (c : Nat) : Obj := { cls := .type "tuple", data := .seq #[.int x t1, .int y t2, .int z t3] c }

def Ret (R : Res) (h₀ : Heap) (L : Addr) (m : Str → Option Value) (news : List (Addr × Obj)) (s : Shared) (Q : Value → Shared → Prop) : Prop :=
  match R with
  | .int x => ∀ (t : Tok) (h' : Heap) (tk' : Nat), Fr h₀ L h' m → News h₀ L h' news → Q (.int x t) { s with heap := h', toks := tk' }
  | .bool b => ∀ (h' : Heap) (tk' : Nat), Fr h₀ L h' m → News h₀ L h' news → Q (.bool b) { s with heap := h', toks := tk' }
  | .none => ∀ (h' : Heap) (tk' : Nat), Fr h₀ L h' m → News h₀ L h' news → Q .none { s with heap := h', toks := tk' }
  | .t2 x y => ∀ (D : Addr) (t1 t2 : Tok) (c : Nat) (h' : Heap) (tk' : Nat), Fr h₀ L h' m → News h₀ L h' ((D, Tup2 x y t1 t2 c) :: news) → Q (.ref D) { s with heap := h', toks := tk' }
  | .t3 x y z => ∀ (D : Addr) (t1 t2 t3 : Tok) (c : Nat) (h' : Heap) (tk' : Nat), Fr h₀ L h' m → News h₀ L h' ((D, Tup3 x y z t1 t2 t3 c) :: news) → Q (.ref D) { s with heap := h', toks := tk' }
  | .ints _ => True

def Con (w : World) (s₀ : Shared) (mg mb : Str → Option Value) (f : Addr) (k : Nat) (vs : List Value) (news : List (Addr × Obj)) (ok : Prop) (R : Res) : Prop :=
  ∀ (dp un : Nat) (gd : Option (List Code)) (cn : Str) (cs : Scope) (a : Addr) (ccd : Value) (cl : List (Str × Addr)) (outer : List Env) (A₀ : Around) (base h₀ : Heap) (L : Addr) (m : Str → Option Value) (s : Shared) (Q E : Value → Shared → Prop),
    Below A₀ base outer h₀ → Fr h₀ L s.heap m → (hd.heap_39 w.params).In h₀ → News h₀ L s.heap news → TopC s₀ mg mb h₀ → cs.kind = .function →
    ok → dp + k < recursionLimit → un + 8 * k < cLine → Ret R h₀ L m news s Q →
    wpAny (model Challenge.rw_bn0011_01.row.prog w) (ktrTop dp un gd cn cs L a ccd cl outer) (PySem.call (.ref f) vs) Q E s

section
variable {w : World} {s₀ : Shared} {mg mb : Str → Option Value} {f : Addr} {k : Nat} {vs : List Value} {ok : Prop} {R : Res}
theorem con_use {news : List (Addr × Obj)} (C : Con w s₀ mg mb f k vs news ok R) {dp un : Nat} {gd : Option (List Code)} {cn : Str} {cs : Scope} {a : Addr} {ccd : Value} {cl : List (Str × Addr)} {outer : List Env} {A₀ : Around} {base h₀ : Heap} {L : Addr} {m : Str → Option Value} {s : Shared} {Q E : Value → Shared → Prop}
    (B : Below A₀ base outer h₀) (F : Fr h₀ L s.heap m) (X : (hd.heap_39 w.params).In h₀) (N : News h₀ L s.heap news) (T : TopC s₀ mg mb h₀) (hk : cs.kind = .function)
    (o : ok) (hd : dp + k < recursionLimit) (hu : un + 8 * k < cLine) (hr : Ret R h₀ L m news s Q) :
    wpAny (model Challenge.rw_bn0011_01.row.prog w) (ktrTop dp un gd cn cs L a ccd cl outer) (PySem.call (.ref f) vs) Q E s :=
  C _ _ _ _ _ _ _ _ _ _ _ _ _ _ _ _ _ B F X N T hk o hd hu hr
end

section
variable {h₀ h' : Heap} {L : Addr} {m : Str → Option Value} {news news' : List (Addr × Obj)} {s : Shared} {Q : Value → Shared → Prop} {tk' : Nat}
theorem end_int {x y : Int} {t : Tok} (hret : Ret (.int x) h₀ L m news s Q) (F : Fr h₀ L h' m) (N : News h₀ L h' news) (e : y = x) : Q (.int y t) { s with heap := h', toks := tk' } := by subst e; exact hret t h' tk' F N
theorem end_bool {x y : Bool} (hret : Ret (.bool x) h₀ L m news s Q) (F : Fr h₀ L h' m) (N : News h₀ L h' news) (e : y = x) : Q (.bool y) { s with heap := h', toks := tk' } := by subst e; exact hret h' tk' F N
theorem end_none (hret : Ret .none h₀ L m news s Q) (F : Fr h₀ L h' m) (N : News h₀ L h' news) : Q .none { s with heap := h', toks := tk' } := hret h' tk' F N
theorem end_t2 {x y x' y' : Int} {D : Addr} {t1 t2 : Tok} {c : Nat} (hret : Ret (.t2 x y) h₀ L m news s Q) (F : Fr h₀ L h' m) (N : News h₀ L h' news') (hD : (D, Tup2 x' y' t1 t2 c) ∈ news') (hn : ∀ p ∈ news, p ∈ news')
    (e1 : x' = x) (e2 : y' = y) : Q (.ref D) { s with heap := h', toks := tk' } := by
  subst e1; subst e2
  refine hret D t1 t2 c h' tk' F (fun p hp => ?_)
  rcases List.mem_cons.mp hp with rfl | hp
  · exact N _ hD
  · exact N p (hn p hp)
theorem end_t3 {x y z x' y' z' : Int} {D : Addr} {t1 t2 t3 : Tok} {c : Nat} (hret : Ret (.t3 x y z) h₀ L m news s Q) (F : Fr h₀ L h' m) (N : News h₀ L h' news') (hD : (D, Tup3 x' y' z' t1 t2 t3 c) ∈ news') (hn : ∀ p ∈ news, p ∈ news')
    (e1 : x' = x) (e2 : y' = y) (e3 : z' = z) : Q (.ref D) { s with heap := h', toks := tk' } := by
  subst e1; subst e2; subst e3
  refine hret D t1 t2 t3 c h' tk' F (fun p hp => ?_)
  rcases List.mem_cons.mp hp with rfl | hp
  · exact N _ hD
  · exact N p (hn p hp)
end
section
variable {prog : Program} {w : World} {A₀ A : Around} {s : Shared} {K : Frag} {L : Addr} {h₀ base : Heap} {m mg mb : Str → Option Value} {p : Program} {loose : List Str} {mean : ExcName → Option Value}
/-- a def is entered on the whole heap as it stands: what stood keeps standing, the ledger begins empty -/
theorem enter0 {env : Env} {outer : List Env} {R : Result → Shared → Prop} {name qual : Str} {params : Arguments} {body : List Stmt} {scope : Scope} {dV kV doc pm cdv ct oc : Value} {an od : Option Addr} {osl : Array (Option Value)} {f : Addr} {args : Args} {binds : List (Str × Value)}
    (B : Below A₀ base outer h₀) (F : Fr h₀ L s.heap m) (X₀ : K.In h₀) (T : Top p loose mean mg mb h₀) (hA : A.frames = some (env :: outer)) (hf : env.frame = some L) (hke : env.scope.kind = .function)
    (ho : K.lookup f = some ⟨oc, od, .func (fnOf name qual params body scope dV kV doc pm an cdv ct), osl⟩) (hcd : codeIn K cdv qual = true) (hroom : A.depth < recursionLimit)
    (hbind : BindsTo s (fnOf name qual params body scope dV kV doc pm an cdv ct) args binds) (hloc : ∀ y ∈ binds, scope.names.lookup y.1 = some .local)
    (h : ∀ g L' h₁, Fr h₀ L g m → Fr g L' h₁ (fun y => binds.reverse.lookup y) → News g L' h₁ [] → Below A base (env :: outer) g → K.In g → Top p loose mean mg mb g → s.heap.StaysIn g →
      wpAny (model prog w) (A.deeper (envOf qual scope L' f cdv)) (execs body (envOf qual scope L' f cdv))
        (fun fl s' => LeaveK h₀ L m g (fun r s'' => s.heap.StaysIn s''.heap → R r s'') (match fl with | .ret v => v | _ => .none) s')
        (fun e s' => wpAny (model prog w) (A.deeper (envOf qual scope L' f cdv)) (leaving (envOf qual scope L' f cdv) e) (fun _ s'' => R (.error e) s'') (fun e' s'' => R (.error e') s'') s')
        { s with heap := h₁, toks := s.toks + binds.length })
    (hco : scope.isCoroutine = false) (hgen : scope.isGenerator = false) (hk : scope.kind = .function)
    (hcell : ∀ x ∈ scope.names, x.2 ≠ .cell) : codeAny (model prog w) A (.call (.ref f) args) R s := by
  have X := X₀.keeps F.keep
  obtain ⟨FG, BG, st, lv⟩ := groundX (R := fun r s'' => s.heap.StaysIn s''.heap → R r s'') B F (News.nil (h₀ := h₀) (L := L)) hA hf hke
  have all : s.heap.StaysIn (hideAll s.heap (([] : List (Addr × Obj)).map (·.1))) := fun b o e => hideAll_get _ e (fun q => nomatch q)
  refine codeAny_call_def (fd := fnOf name qual params body scope dV kV doc pm an cdv ct) (body := body) (binds := binds) hroom (X _ _ ho) rfl (T.nolimit.keeps F.keep) (codeRec_of X hcd) rfl hbind hcell hloc (fun h₁ hns hk₁ => ?_) hco hgen hk
  refine wpAny_mono (h _ s.heap.objs.size h₁ FG ⟨hns, fun b o e => hk₁ b o (of_hideAll _ e), Nat.le_of_eq (hideAll_size _ _)⟩ (News.nil) BG (X₀.keeps st) (T.keeps st) all) (fun fl s' hl => ?_) fun _ _ y => y
  refine lv _ _ hl ?_
  obtain ⟨L', m', news', F', N', _⟩ := hl
  exact fun b o e => F'.keep b o (all b o e)
end
theorem news_stay {h₀ h h' : Heap} {L : Addr} {news : List (Addr × Obj)} (N : News h₀ L h news) (st : h.StaysIn h') : News h₀ L h' news := fun p hp => ⟨st _ _ (N p hp).1, (N p hp).2⟩
theorem news_both {h₀ h : Heap} {L : Addr} {n1 n2 : List (Addr × Obj)} (N1 : News h₀ L h n1) (N2 : News h₀ L h n2) : News h₀ L h (n1 ++ n2) := fun p hp => (List.mem_append.mp hp).elim (N1 p) (N2 p)
theorem tup_in {h₀ h g : Heap} {L D : Addr} {o : Obj} {news : List (Addr × Obj)} {items : Array Value} {c : Nat} (N : News h₀ L h news) (st : h.StaysIn g) (hm : (D, o) ∈ news) (hc : o.cls = .type "tuple") (hd : o.data = .seq items c) : IsTup g D items :=
  ⟨o, st _ _ (N _ hm).1, hc, c, hd⟩
section
variable {h₀ h' hp : Heap} {L : Addr} {m : Str → Option Value} {news news' : List (Addr × Obj)} {s : Shared} {Q : Value → Shared → Prop} {tk' : Nat}
theorem fin_int {x y : Int} {t : Tok} (hret : Ret (.int x) h₀ L m news s Q) (N0 : News h₀ L hp news) (F : Fr h₀ L h' m) (st : hp.StaysIn h') (e : y = x) : Q (.int y t) { s with heap := h', toks := tk' } := end_int hret F (news_stay N0 st) e
theorem fin_bool {x y : Bool} (hret : Ret (.bool x) h₀ L m news s Q) (N0 : News h₀ L hp news) (F : Fr h₀ L h' m) (st : hp.StaysIn h') (e : y = x) : Q (.bool y) { s with heap := h', toks := tk' } := end_bool hret F (news_stay N0 st) e
theorem fin_none (hret : Ret .none h₀ L m news s Q) (N0 : News h₀ L hp news) (F : Fr h₀ L h' m) (st : hp.StaysIn h') : Q .none { s with heap := h', toks := tk' } := end_none hret F (news_stay N0 st)
theorem fin_t2 {x y x' y' : Int} {D : Addr} {t1 t2 : Tok} {c : Nat} (hret : Ret (.t2 x y) h₀ L m news s Q) (N0 : News h₀ L hp news) (F : Fr h₀ L h' m) (st : hp.StaysIn h') (N : News h₀ L h' news') (hD : (D, Tup2 x' y' t1 t2 c) ∈ news')
    (e1 : x' = x) (e2 : y' = y) : Q (.ref D) { s with heap := h', toks := tk' } :=
  end_t2 hret F (news_both N (news_stay N0 st)) (List.mem_append_left _ hD) (fun p hp => List.mem_append_right _ hp) e1 e2
theorem fin_t3 {x y z x' y' z' : Int} {D : Addr} {t1 t2 t3 : Tok} {c : Nat} (hret : Ret (.t3 x y z) h₀ L m news s Q) (N0 : News h₀ L hp news) (F : Fr h₀ L h' m) (st : hp.StaysIn h') (N : News h₀ L h' news') (hD : (D, Tup3 x' y' z' t1 t2 t3 c) ∈ news')
    (e1 : x' = x) (e2 : y' = y) (e3 : z' = z) : Q (.ref D) { s with heap := h', toks := tk' } :=
  end_t3 hret F (news_both N (news_stay N0 st)) (List.mem_append_left _ hD) (fun p hp => List.mem_append_right _ hp) e1 e2 e3
end

def PruneMark : Prop := True
def leapB (y : Int) : Bool := y % 4 == 0 && (y % 100 != 0 || y % 400 == 0)
def b2i (b : Bool) : Int := if b = true then 1 else 0
def dim (lp : Bool) (m : Int) : Int := if m = 2 then 28 + b2i lp else if m = 4 ∨ m = 6 ∨ m = 9 ∨ m = 11 then 30 else 31
def cum (lp : Bool) (m : Int) : Int := (367 * m - 362) / 12 + (if m ≤ 2 then 0 else b2i lp - 2)
def jan0 (y : Int) : Int := 1721425 + 365 * (y - 1) + (y - 1) / 4 - (y - 1) / 100 + (y - 1) / 400
def toG (y m d : Int) : Int := jan0 y + cum (leapB y) m + d
section
variable {prog : Program} {w : World} {A : Around} {E : Value → Shared → Prop} {s : Shared} {K : Frag} {h₀ : Heap} {L a : Addr} {m : Str → Option Value} {n : Nat}
theorem in_topTup {l : List Value} {ns : List Int} {dd : Option Addr} {sl : Array (Option Value)} {x : Int} {u : Tok} {Q : Value → Shared → Prop} (F : Fr h₀ L s.heap m) (X₀ : K.In h₀) (hl : K.lookup a = some ⟨.type "tuple", dd, .seq l.toArray n, sl⟩)
    (hi : IntsAre l ns) (h : Q (.bool (ns.any (· == x))) s) : wpAny (model prog w) A (compareOp .In (.int x u) (.ref a)) Q E s :=
  in_tuple_ints (tupK (X₀.keeps F.keep) hl) (by simpa using hi) h
end
theorem ok_28 (lp : Bool) : (1 : Int) ≤ 28 ∧ 28 ≤ dim lp 12 := by cases lp <;> decide
theorem dim_pos (lp : Bool) (m : Int) : (1 : Int) ≤ 1 ∧ 1 ≤ dim lp m := by
  unfold dim b2i; refine ⟨by omega, ?_⟩; repeat' split
  all_goals omega
local macro_rules | `(tactic| walk_at "my enter") => `(tactic| ((refine' code_def ?k1 ?k2 ?k3 ?k4 ?k5 ?kA ?kF ?kK ?k6 ?k7 ?k8 ?k9 ?kB ?_ ?c2 ?c3 ?c4 ?c5); (case kA => exact rfl); (case kF => exact rfl); (case kK => first | exact rfl | assumption); (case k1 => k_asm); (case k2 => k_asm); (case k3 => k_asm); (case k4 => k_asm); (case k5 => k_asm); (case k6 => k_is); (case k7 => k_is); (case k8 => ktr_room); (case k9 => first | exact BindsTo.of_eq (binds := [(_, _), (_, _)]) rfl | exact BindsTo.of_eq (binds := [(_, _)]) rfl | exact BindsTo.of_eq (binds := [(_, _), (_, _), (_, _)]) rfl | exact BindsTo.of_eq (binds := [(_, _), (_, _), (_, _), (_, _)]) rfl | exact BindsTo.of_eq (binds := [(_, _), (_, _), (_, _), (_, _), (_, _)]) rfl | exact BindsTo.of_eq (binds := [(_, _), (_, _), (_, _), (_, _), (_, _), (_, _)]) rfl | exact BindsTo.of_eq rfl); (case c5 => decide); (case kB => exact locs rfl); (case c2 => exact rfl); (case c3 => exact rfl); (case c4 => exact rfl); k_whole; intro g' L' h' FG' F' N' B' X' T'; (try dsimp only [List.reverse, List.reverseAux] at F'); (try dsimp only); (try k_lift B'); (try k_fold)))
local macro_rules | `(tactic| walk_at "call ref") => `(tactic| (k_here; (fail_if_success (with_reducible show wpAny _ _ (PySem.call (Value.ref 325) _) _ _ _)); k_dflt (first
  | ((refine' call_cls ?k1 ?k2 ?k3 ?k4 ?k5 ?k6 ?_); (case k1 => k_asm); (case k2 => k_asm); (case k3 => k_asm); (case k4 => k_is); (case k5 => k_is); (case k6 => k_is); k_whole; intro x' d' h' F' N' l1 l2; (try k_lt l1); (try k_lt2 l2); (try k_sweep); walk_at "my enter")
  | ((refine' call_meth ?k1 ?k2 ?_); (case k1 => k_asm); (case k2 => k_mem); k_whole; walk_at "my enter")
  | (refine wpAny_call ?_; walk_at "my enter"))))
local macro_rules | `(tactic| walk_at "compareOp In int ref") => `(tactic| (k_here; k_dflt ((refine' in_topTup ?F ?X ?l ?i ?_); (case F => k_asm); (case X => k_asm); (case l => k_is); (case i => repeat constructor); k_whole; try dsimp only [List.any])))
local macro_rules | `(tactic| walk_at "my norm") => `(tactic| ((try simp only [dim, b2i, List.any_cons, List.any_nil, Bool.or_false] at *); (try law_fm); (try simp only [decide_eq_true_eq, decide_eq_false_iff_not, Bool.and_eq_true, Bool.or_eq_true, Bool.not_eq_true', Bool.not_eq_false', Bool.not_eq_true, Bool.not_eq_eq_eq_not, Bool.or_eq_false_iff, beq_iff_eq, bne_iff_ne, ne_eq, beq_eq_false_iff_ne] at *)))
local macro_rules | `(tactic| walk_at "my ok2") => `(tactic| fail "my ok2")
local macro_rules | `(tactic| walk_at "my ok") => `(tactic| fail "my ok")
local macro_rules | `(tactic| walk_at "my dec") => `(tactic| (law_purse 40000 => (law_clear; walk_at "my norm"; first | omega | (simp_all; done) | (simp_all; omega))))
local macro_rules | `(tactic| walk_at "ite") => `(tactic| (k_here; (with_reducible rename PruneMark => hpm); k_openite; k_spoken; k_dflt (first | (refine ite_pos (by walk_at "my dec") ?_; walk_say "MINE +") | (refine ite_neg (by walk_at "my dec") ?_; walk_say "MINE -"))))
local macro_rules | `(tactic| walk_at "my lt") => `(tactic| first | kcu_lt | exact And.right (by assumption) | exact And.right (And.right (by assumption)) | exact And.right (And.right (And.right (by assumption))))
local macro_rules | `(tactic| walk_at "fin int") => `(tactic| ((try intro stF); rename Ret _ _ _ _ _ _ _ => hret; refine' fin_int hret ?N0 ?F ?S ?e1; (case S => assumption); (case N0 => assumption); (case F => k_asm); all_goals law_clear))
local macro_rules | `(tactic| walk_at "fin0 int") => `(tactic| ((try intro stF); rename Ret _ _ _ _ _ _ _ => hret; refine' fin_int hret ?N0 ?F ?S ?e1; (case S => assumption); (case N0 => assumption); (case F => k_asm)))
local macro_rules | `(tactic| walk_at "fin bool") => `(tactic| ((try intro stF); rename Ret _ _ _ _ _ _ _ => hret; refine' fin_bool hret ?N0 ?F ?S ?e1; (case S => assumption); (case N0 => assumption); (case F => k_asm); all_goals law_clear))
local macro_rules | `(tactic| walk_at "fin0 bool") => `(tactic| ((try intro stF); rename Ret _ _ _ _ _ _ _ => hret; refine' fin_bool hret ?N0 ?F ?S ?e1; (case S => assumption); (case N0 => assumption); (case F => k_asm)))
local macro_rules | `(tactic| walk_at "fin t2") => `(tactic| ((try intro stF); rename Ret _ _ _ _ _ _ _ => hret; refine' fin_t2 hret ?N0 ?F ?S ?N ?hD ?e1 ?e2; (case S => assumption); (case N0 => assumption); (case F => k_asm); (case N => k_asm); (case hD => k_mem); all_goals law_clear))
local macro_rules | `(tactic| walk_at "fin0 t2") => `(tactic| ((try intro stF); rename Ret _ _ _ _ _ _ _ => hret; refine' fin_t2 hret ?N0 ?F ?S ?N ?hD ?e1 ?e2; (case S => assumption); (case N0 => assumption); (case F => k_asm); (case N => k_asm); (case hD => k_mem)))
local macro_rules | `(tactic| walk_at "fin t3") => `(tactic| ((try intro stF); rename Ret _ _ _ _ _ _ _ => hret; refine' fin_t3 hret ?N0 ?F ?S ?N ?hD ?e1 ?e2 ?e3; (case S => assumption); (case N0 => assumption); (case F => k_asm); (case N => k_asm); (case hD => k_mem); all_goals law_clear))
local macro_rules | `(tactic| walk_at "fin0 t3") => `(tactic| ((try intro stF); rename Ret _ _ _ _ _ _ _ => hret; refine' fin_t3 hret ?N0 ?F ?S ?N ?hD ?e1 ?e2 ?e3; (case S => assumption); (case N0 => assumption); (case F => k_asm); (case N => k_asm); (case hD => k_mem)))
local macro_rules | `(tactic| walk_at "my sub") => `(tactic| (intro _ hsub; repeat (first | exact hsub | refine List.Mem.tail _ ?_)))
local macro_rules | `(tactic| walk_at "eval Call") => `(tactic| (k_here; (with_reducible show wpAny _ _ (eval (Expr.Call (Expr.Name _ _) _ [] _) _) _ _ _); k_dflt (refine Call_ ?_)))
local macro_rules | `(tactic| walk_at "my int") => `(tactic| (rename Ret _ _ _ _ _ _ _ => hret; refine end_int hret (by k_asm) (by k_asm) ?_; law_clear))
local macro_rules | `(tactic| walk_at "my bool") => `(tactic| (rename Ret _ _ _ _ _ _ _ => hret; refine end_bool hret (by k_asm) (by k_asm) ?_; law_clear))
local macro_rules | `(tactic| walk_at "my t2") => `(tactic| (rename Ret _ _ _ _ _ _ _ => hret; refine' end_t2 hret ?F ?N ?hD ?hn ?e1 ?e2; (case F => k_asm); (case N => k_asm); (case hD => k_mem); (case hn => walk_at "my sub"); all_goals law_clear))
local macro_rules | `(tactic| walk_at "my t3") => `(tactic| (rename Ret _ _ _ _ _ _ _ => hret; refine' end_t3 hret ?F ?N ?hD ?hn ?e1 ?e2 ?e3; (case F => k_asm); (case N => k_asm); (case hD => k_mem); (case hn => walk_at "my sub"); all_goals law_clear))
set_option maxHeartbeats 1000000 in
theorem c_isleap (w : World) (s₀ : Shared) (mg mb : Str → Option Value) (news : List (Addr × Obj)) (y : Int) (t : Tok) : Con w s₀ mg mb 22 1 [.int y t] news (True) (.bool (leapB y)) := by
  unfold Con
  k_fill
  intro dp un gd cn cs aF ccd cl outer AF baseH hB LF mF sF QF EF B F X N T hk hok hd hu hret
  dsimp only [TopC] at T
  refine wpAny_call ?_
  k_dflt
  (refine' code_def (binds := [(Str.ofString "year", .int y t)]) ?k1 ?k2 ?k3 ?k4 ?k5 ?kA ?kF ?kK ?k6 ?k7 ?k8 ?k9 ?kB ?_ ?c2 ?c3 ?c4 ?c5; (case kA => exact rfl); (case kF => exact rfl); (case kK => assumption); (case k1 => k_asm); (case k2 => k_asm); (case k3 => k_asm); (case k4 => k_asm); (case k5 => k_asm); (case k6 => k_is); (case k7 => k_is); (case k8 => ktr_room); (case k9 => exact BindsTo.of_eq rfl); (case c5 => decide); (case kB => exact locs rfl); (case c2 => exact rfl); (case c3 => exact rfl); (case c4 => exact rfl); k_whole; intro g' L' h' FG' F' N' B' X' T'; (try dsimp only [List.reverse, List.reverseAux] at F'); (try dsimp only); (try k_fold))
  k_steps
  all_goals (walk_at "my bool"; law_fm; simp_all [leapB])
local macro_rules | `(tactic| walk_at "call ref") => `(tactic| (k_here; (with_reducible show wpAny _ _ (PySem.call (Value.ref 22) _) _ _ _); k_dflt (
  (refine' con_use (c_isleap _ _ _ _ _ _ _) ?k1 ?k2 ?k3 ?k4 ?k5 ?kK ?ko ?kd ?ku ?_);
  (case k1 => first | k_asm | ktn_no "use c_isleap: below"); (case k2 => first | k_asm | ktn_no "use c_isleap: frame"); (case k3 => first | k_asm | ktn_no "use c_isleap: part"); (case k4 => first | k_asm | ktn_no "use c_isleap: ledger"); (case k5 => first | k_asm | ktn_no "use c_isleap: top"); (case kK => first | exact rfl | assumption | ktn_no "use c_isleap: kind");
  (case ko => first | (first | trivial | assumption | (walk_at "my dec")) | ktn_no "use c_isleap: ok"); (case kd => first | ktr_room | ktn_no "use c_isleap: room"); (case ku => first | ktr_units | ktn_no "use c_isleap: units");
  dsimp only [Ret]; intro h9 tk9 F9 N9; (try dsimp only); (try k_sweep); (try k_fold))))
set_option maxHeartbeats 1000000 in
theorem c_legalG (w : World) (s₀ : Shared) (mg mb : Str → Option Value) (news : List (Addr × Obj)) (y m d : Int) (t1 t2 t3 : Tok) : Con w s₀ mg mb 86 2 [.int y t1, .int m t2, .int d t3] news (1 ≤ d ∧ d ≤ dim (leapB y) m) (.bool true) := by
  unfold Con
  k_fill
  intro dp un gd cn cs aF ccd cl outer AF baseH hB LF mF sF QF EF B F X N T hk hok hd hu hret
  dsimp only [TopC] at T
  refine wpAny_call ?_
  k_dflt
  (refine' code_def (binds := [(Str.ofString "year", .int y t1), (Str.ofString "month", .int m t2), (Str.ofString "day", .int d t3)]) ?k1 ?k2 ?k3 ?k4 ?k5 ?kA ?kF ?kK ?k6 ?k7 ?k8 ?k9 ?kB ?_ ?c2 ?c3 ?c4 ?c5; (case kA => exact rfl); (case kF => exact rfl); (case kK => assumption); (case k1 => k_asm); (case k2 => k_asm); (case k3 => k_asm); (case k4 => k_asm); (case k5 => k_asm); (case k6 => k_is); (case k7 => k_is); (case k8 => ktr_room); (case k9 => exact BindsTo.of_eq rfl); (case c5 => decide); (case kB => exact locs rfl); (case c2 => exact rfl); (case c3 => exact rfl); (case c4 => exact rfl); k_whole; intro g' L' h' FG' F' N' B' X' T'; (try dsimp only [List.reverse, List.reverseAux] at F'); (try dsimp only); (try k_fold))
  have hpm : PruneMark := True.intro
  k_steps
  all_goals (walk_at "my bool"; rfl)
local macro_rules | `(tactic| walk_at "call ref") => `(tactic| (k_here; (with_reducible show wpAny _ _ (PySem.call (Value.ref 86) _) _ _ _); k_dflt (
  (refine' con_use (c_legalG _ _ _ _ _ _ _ _ _ _ _) ?k1 ?k2 ?k3 ?k4 ?k5 ?kK ?ko ?kd ?ku ?_);
  (case k1 => first | k_asm | ktn_no "use c_legalG: below"); (case k2 => first | k_asm | ktn_no "use c_legalG: frame"); (case k3 => first | k_asm | ktn_no "use c_legalG: part"); (case k4 => first | k_asm | ktn_no "use c_legalG: ledger"); (case k5 => first | k_asm | ktn_no "use c_legalG: top"); (case kK => first | exact rfl | assumption | ktn_no "use c_legalG: kind");
  (case ko => first | (first | trivial | assumption | (walk_at "my dec")) | ktn_no "use c_legalG: ok"); (case kd => first | ktr_room | ktn_no "use c_legalG: room"); (case ku => first | ktr_units | ktn_no "use c_legalG: units");
  dsimp only [Ret]; intro h9 tk9 F9 N9; (try dsimp only); (try k_sweep); (try k_fold))))
set_option maxHeartbeats 1000000 in
theorem c_toG (w : World) (s₀ : Shared) (mg mb : Str → Option Value) (news : List (Addr × Obj)) (y m d : Int) (t1 t2 t3 : Tok) : Con w s₀ mg mb 100 3 [.int y t1, .int m t2, .int d t3] news (1 ≤ d ∧ d ≤ dim (leapB y) m) (.int (toG y m d)) := by
  unfold Con
  k_fill
  intro dp un gd cn cs aF ccd cl outer AF baseH hB LF mF sF QF EF B F X N T hk hok hd hu hret
  dsimp only [TopC] at T
  refine wpAny_call ?_
  k_dflt
  (refine' code_def (binds := [(Str.ofString "year", .int y t1), (Str.ofString "month", .int m t2), (Str.ofString "day", .int d t3)]) ?k1 ?k2 ?k3 ?k4 ?k5 ?kA ?kF ?kK ?k6 ?k7 ?k8 ?k9 ?kB ?_ ?c2 ?c3 ?c4 ?c5; (case kA => exact rfl); (case kF => exact rfl); (case kK => assumption); (case k1 => k_asm); (case k2 => k_asm); (case k3 => k_asm); (case k4 => k_asm); (case k5 => k_asm); (case k6 => k_is); (case k7 => k_is); (case k8 => ktr_room); (case k9 => exact BindsTo.of_eq rfl); (case c5 => decide); (case kB => exact locs rfl); (case c2 => exact rfl); (case c3 => exact rfl); (case c4 => exact rfl); k_whole; intro g' L' h' FG' F' N' B' X' T'; (try dsimp only [List.reverse, List.reverseAux] at F'); (try dsimp only); (try k_fold))
  k_steps
  all_goals (walk_at "my int"; simp only [toG, jan0, cum]; walk_at "my norm"; (try simp_all); (try omega))
local macro_rules | `(tactic| walk_at "call ref") => `(tactic| (k_here; (with_reducible show wpAny _ _ (PySem.call (Value.ref 100) _) _ _ _); k_dflt (
  (refine' con_use (c_toG _ _ _ _ _ _ _ _ _ _ _) ?k1 ?k2 ?k3 ?k4 ?k5 ?kK ?ko ?kd ?ku ?_);
  (case k1 => first | k_asm | ktn_no "use c_toG: below"); (case k2 => first | k_asm | ktn_no "use c_toG: frame"); (case k3 => first | k_asm | ktn_no "use c_toG: part"); (case k4 => first | k_asm | ktn_no "use c_toG: ledger"); (case k5 => first | k_asm | ktn_no "use c_toG: top"); (case kK => first | exact rfl | assumption | ktn_no "use c_toG: kind");
  (case ko => first | (first | trivial | assumption | exact dim_pos _ _ | exact ok_28 _ | (walk_at "my ok") | (walk_at "my dec")) | ktn_no "use c_toG: ok"); (case kd => first | ktr_room | ktn_no "use c_toG: room"); (case ku => first | ktr_units | ktn_no "use c_toG: units");
  dsimp only [Ret]; intro t9 h9 tk9 F9 N9; (try dsimp only); (try k_sweep); (try k_fold))))
def gSum (n : Int) : Int := 400 * ((n - 1721426) / 146097) + 100 * ((n - 1721426) % 146097 / 36524) + 4 * ((n - 1721426) % 146097 % 36524 / 1461) + (n - 1721426) % 146097 % 36524 % 1461 / 365
def gY (n : Int) : Int := if (n - 1721426) % 146097 / 36524 = 4 ∨ (n - 1721426) % 146097 % 36524 % 1461 / 365 = 4 then gSum n else gSum n + 1
def gAdj (n Y : Int) : Int := if n - toG Y 1 1 < 58 + b2i (leapB Y) then 0 else 2 - b2i (leapB Y)
def gMo (n Y : Int) : Int := ((n - toG Y 1 1 + gAdj n Y) * 12 + 373) / 367
def gM (n : Int) : Int := gMo n (gY n)
def gD (n : Int) : Int := n - toG (gY n) (gM n) 1 + 1
theorem gY_lit (n : Int) : gSum n = (n - 1721426).fdiv 146097 * 400 + ((n - 1721426).fmod 146097).fdiv 36524 * 100 + (((n - 1721426).fmod 146097).fmod 36524).fdiv 1461 * 4 + ((((n - 1721426).fmod 146097).fmod 36524).fmod 1461).fdiv 365 := by
  simp only [Int.fmod_eq_emod_of_nonneg _ (show (0 : Int) ≤ 146097 by decide), Int.fmod_eq_emod_of_nonneg _ (show (0 : Int) ≤ 36524 by decide), Int.fmod_eq_emod_of_nonneg _ (show (0 : Int) ≤ 1461 by decide), Int.fdiv_eq_ediv_of_nonneg _ (show (0 : Int) ≤ 146097 by decide), Int.fdiv_eq_ediv_of_nonneg _ (show (0 : Int) ≤ 36524 by decide), Int.fdiv_eq_ediv_of_nonneg _ (show (0 : Int) ≤ 1461 by decide), Int.fdiv_eq_ediv_of_nonneg _ (show (0 : Int) ≤ 365 by decide)]
  unfold gSum
  generalize (n - 1721426) / 146097 = a
  generalize (n - 1721426) % 146097 / 36524 = b
  generalize (n - 1721426) % 146097 % 36524 / 1461 = c
  omega
theorem gC_lit (n : Int) : ((n - 1721426).fmod 146097).fdiv 36524 = (n - 1721426) % 146097 / 36524 := by
  rw [Int.fmod_eq_emod_of_nonneg _ (by decide), Int.fdiv_eq_ediv_of_nonneg _ (by decide)]
theorem gR_lit (n : Int) : ((((n - 1721426).fmod 146097).fmod 36524).fmod 1461).fdiv 365 = (n - 1721426) % 146097 % 36524 % 1461 / 365 := by
  rw [Int.fmod_eq_emod_of_nonneg _ (by decide), Int.fmod_eq_emod_of_nonneg _ (by decide), Int.fmod_eq_emod_of_nonneg _ (by decide), Int.fdiv_eq_ediv_of_nonneg _ (by decide)]
theorem gY0 {n : Int} (h : ((n - 1721426).fmod 146097).fdiv 36524 = 4) : (n - 1721426).fdiv 146097 * 400 + ((n - 1721426).fmod 146097).fdiv 36524 * 100 + (((n - 1721426).fmod 146097).fmod 36524).fdiv 1461 * 4 + ((((n - 1721426).fmod 146097).fmod 36524).fmod 1461).fdiv 365 = gY n := by
  rw [← gY_lit]; rw [gC_lit] at h; unfold gY; rw [if_pos (Or.inl h)]
theorem gY1 {n : Int} (h : ((((n - 1721426).fmod 146097).fmod 36524).fmod 1461).fdiv 365 = 4) : (n - 1721426).fdiv 146097 * 400 + ((n - 1721426).fmod 146097).fdiv 36524 * 100 + (((n - 1721426).fmod 146097).fmod 36524).fdiv 1461 * 4 + ((((n - 1721426).fmod 146097).fmod 36524).fmod 1461).fdiv 365 = gY n := by
  rw [← gY_lit]; rw [gR_lit] at h; unfold gY; rw [if_pos (Or.inr h)]
theorem gY2 {n : Int} (h : ¬ ((n - 1721426).fmod 146097).fdiv 36524 = 4) (h2 : ¬ ((((n - 1721426).fmod 146097).fmod 36524).fmod 1461).fdiv 365 = 4) : (n - 1721426).fdiv 146097 * 400 + ((n - 1721426).fmod 146097).fdiv 36524 * 100 + (((n - 1721426).fmod 146097).fmod 36524).fdiv 1461 * 4 + ((((n - 1721426).fmod 146097).fmod 36524).fmod 1461).fdiv 365 + 1 = gY n := by
  rw [← gY_lit]; rw [gC_lit] at h; rw [gR_lit] at h2; unfold gY; rw [if_neg (by intro e; exact e.elim h h2)]
theorem g_e2 {n Y a : Int} (hY : Y = gY n) (ha : a = gAdj n Y) : ((n - toG Y 1 1 + a) * 12 + 373).fdiv 367 = gM n := by
  subst hY ha; rw [Int.fdiv_eq_ediv_of_nonneg _ (by omega)]; rfl
theorem g_e3 {n Y a : Int} (hY : Y = gY n) (ha : a = gAdj n Y) : n - toG Y (((n - toG Y 1 1 + a) * 12 + 373).fdiv 367) 1 + 1 = gD n := by
  rw [g_e2 hY ha, hY]; rfl
theorem adj0 {n Y : Int} (h : n - toG Y 1 1 < 58 + if leapB Y = true then 1 else 0) : 0 = gAdj n Y := by unfold gAdj b2i; rw [if_pos h]
theorem adj1 {n Y : Int} (h : ¬ n - toG Y 1 1 < 58 + if leapB Y = true then 1 else 0) (hl : leapB Y = true) : 1 = gAdj n Y := by unfold gAdj b2i; rw [if_neg h, if_pos hl]; rfl
theorem adj2 {n Y : Int} (h : ¬ n - toG Y 1 1 < 58 + if leapB Y = true then 1 else 0) (hl : ¬ leapB Y = true) : 2 = gAdj n Y := by unfold gAdj b2i; rw [if_neg h, if_neg hl]; rfl
local macro_rules | `(tactic| walk_at "my gY") => `(tactic| first | exact gY0 (by assumption) | exact gY1 (by assumption) | exact gY2 (by assumption) (by assumption) | ktn_no "gY")
local macro_rules | `(tactic| walk_at "my gAdj") => `(tactic| first | exact adj0 (by assumption) | exact adj1 (by assumption) (by assumption) | exact adj2 (by assumption) (by assumption) | exact adj2 (by assumption) (Bool.eq_false_iff.mp (by assumption)) | ktn_no "gAdj")
set_option maxHeartbeats 1000000 in
theorem c_fromG (w : World) (s₀ : Shared) (mg mb : Str → Option Value) (news : List (Addr × Obj)) (n : Int) (t : Tok) : Con w s₀ mg mb 107 4 [.int n t] news (True) (.t3 (gY n) (gM n) (gD n)) := by
  unfold Con
  k_fill
  intro dp un gd cn cs aF ccd cl outer AF baseH hB LF mF sF QF EF B F X N T hk hok hd hu hret
  dsimp only [TopC] at T
  refine wpAny_call ?_
  k_dflt
  (refine' code_def (binds := [(Str.ofString "jd", .int n t)]) ?k1 ?k2 ?k3 ?k4 ?k5 ?kA ?kF ?kK ?k6 ?k7 ?k8 ?k9 ?kB ?_ ?c2 ?c3 ?c4 ?c5; (case kA => exact rfl); (case kF => exact rfl); (case kK => assumption); (case k1 => k_asm); (case k2 => k_asm); (case k3 => k_asm); (case k4 => k_asm); (case k5 => k_asm); (case k6 => k_is); (case k7 => k_is); (case k8 => ktr_room); (case k9 => exact BindsTo.of_eq rfl); (case c5 => decide); (case kB => exact locs rfl); (case c2 => exact rfl); (case c3 => exact rfl); (case c4 => exact rfl); k_whole; intro g' L' h' FG' F' N' B' X' T'; (try dsimp only [List.reverse, List.reverseAux] at F'); (try dsimp only); (try k_fold))
  k_steps
  all_goals (walk_at "my t3")
  all_goals first
    | (with_reducible refine g_e3 ?_ ?_ <;> first | (walk_at "my gY") | (walk_at "my gAdj"))
    | (with_reducible refine g_e2 ?_ ?_ <;> first | (walk_at "my gY") | (walk_at "my gAdj"))
    | (walk_at "my gY")
local macro_rules | `(tactic| walk_at "call ref") => `(tactic| (k_here; (with_reducible show wpAny _ _ (PySem.call (Value.ref 107) _) _ _ _); k_dflt (
  (refine' con_use (c_fromG _ _ _ _ _ _ _) ?k1 ?k2 ?k3 ?k4 ?k5 ?kK ?ko ?kd ?ku ?_);
  (case k1 => first | k_asm | ktn_no "use c_fromG: below"); (case k2 => first | k_asm | ktn_no "use c_fromG: frame"); (case k3 => first | k_asm | ktn_no "use c_fromG: part"); (case k4 => first | k_asm | ktn_no "use c_fromG: ledger"); (case k5 => first | k_asm | ktn_no "use c_fromG: top"); (case kK => first | exact rfl | assumption | ktn_no "use c_fromG: kind");
  (case ko => first | (first | trivial | assumption | (walk_at "my dec")) | ktn_no "use c_fromG: ok"); (case kd => first | ktr_room | ktn_no "use c_fromG: room"); (case ku => first | ktr_units | ktn_no "use c_fromG: units");
  dsimp only [Ret]; intro D9 t91 t92 t93 c9 h9 tk9 F9 N9; (try dsimp only); (try k_sweep); (try k_fold))))
def leapJ (y : Int) : Bool := y.fmod 4 == 0
def toJ (y m d : Int) : Int := if m ≤ 2 then (1461 * (y - 1 + 4716)).fdiv 4 + (306001 * (m + 12 + 1)).fdiv 10000 + d - 1524 else (1461 * (y + 4716)).fdiv 4 + (306001 * (m + 1)).fdiv 10000 + d - 1524
def jC (n : Int) : Int := (20 * (n + 1524) - 2442).fdiv 7305
def jB (n : Int) : Int := n + 1524 - (1461 * jC n).fdiv 4
def jE (n : Int) : Int := (jB n * 10000).fdiv 306001
def jM (n : Int) : Int := if jE n < 14 then jE n - 1 else jE n - 13
def jY (n : Int) : Int := if 2 < jM n then jC n - 4716 else jC n - 4715
def jD (n : Int) : Int := jB n - (306001 * jE n).fdiv 10000
theorem jE_range (n : Int) : 4 ≤ jE n ∧ jE n ≤ 15 := by
  unfold jE jB jC
  simp only [Int.fdiv_eq_ediv_of_nonneg _ (show (0 : Int) ≤ 7305 by decide), Int.fdiv_eq_ediv_of_nonneg _ (show (0 : Int) ≤ 4 by decide), Int.fdiv_eq_ediv_of_nonneg _ (show (0 : Int) ≤ 306001 by decide)]
  omega
theorem jY0 {n : Int} (h : jE n < 14) : jC n - 4716 = jY n := by have := jE_range n; unfold jY jM; rw [if_pos h, if_pos (by omega)]
theorem jY1 {n : Int} (h : ¬ jE n < 14) : jC n - 4715 = jY n := by have := jE_range n; unfold jY jM; rw [if_neg h, if_neg (by omega)]
theorem jM0 {n : Int} (h : jE n < 14) : jE n - 1 = jM n := by unfold jM; rw [if_pos h]
theorem jM1 {n : Int} (h : ¬ jE n < 14) : jE n - 13 = jM n := by unfold jM; rw [if_neg h]
set_option maxHeartbeats 1000000 in
theorem c_leapJ (w : World) (s₀ : Shared) (mg mb : Str → Option Value) (news : List (Addr × Obj)) (y : Int) (t : Tok) : Con w s₀ mg mb 122 1 [.int y t] news (True) (.bool (leapJ y)) := by
  unfold Con
  k_fill
  intro dp un gd cn cs aF ccd cl outer AF baseH hB LF mF sF QF EF B F X N T hk hok hd hu hret
  dsimp only [TopC] at T
  refine wpAny_call ?_
  k_dflt
  (refine' code_def (binds := [(Str.ofString "year", .int y t)]) ?k1 ?k2 ?k3 ?k4 ?k5 ?kA ?kF ?kK ?k6 ?k7 ?k8 ?k9 ?kB ?_ ?c2 ?c3 ?c4 ?c5; (case kA => exact rfl); (case kF => exact rfl); (case kK => assumption); (case k1 => k_asm); (case k2 => k_asm); (case k3 => k_asm); (case k4 => k_asm); (case k5 => k_asm); (case k6 => k_is); (case k7 => k_is); (case k8 => ktr_room); (case k9 => exact BindsTo.of_eq rfl); (case c5 => decide); (case kB => exact locs rfl); (case c2 => exact rfl); (case c3 => exact rfl); (case c4 => exact rfl); k_whole; intro g' L' h' FG' F' N' B' X' T'; (try dsimp only [List.reverse, List.reverseAux] at F'); (try dsimp only); (try k_fold))
  k_steps
  all_goals (walk_at "my bool"; first | rfl | simp [leapJ])
local macro_rules | `(tactic| walk_at "call ref") => `(tactic| (k_here; (with_reducible show wpAny _ _ (PySem.call (Value.ref 122) _) _ _ _); k_dflt (
  (refine' con_use (c_leapJ _ _ _ _ _ _ _) ?k1 ?k2 ?k3 ?k4 ?k5 ?kK ?ko ?kd ?ku ?_);
  (case k1 => first | k_asm | ktn_no "use c_leapJ: below"); (case k2 => first | k_asm | ktn_no "use c_leapJ: frame"); (case k3 => first | k_asm | ktn_no "use c_leapJ: part"); (case k4 => first | k_asm | ktn_no "use c_leapJ: ledger"); (case k5 => first | k_asm | ktn_no "use c_leapJ: top"); (case kK => first | exact rfl | assumption | ktn_no "use c_leapJ: kind");
  (case ko => first | (first | trivial | assumption | (walk_at "my dec")) | ktn_no "use c_leapJ: ok"); (case kd => first | ktr_room | ktn_no "use c_leapJ: room"); (case ku => first | ktr_units | ktn_no "use c_leapJ: units");
  dsimp only [Ret]; intro h9 tk9 F9 N9; (try dsimp only); (try k_sweep); (try k_fold))))
set_option maxHeartbeats 1000000 in
theorem c_dimJ (w : World) (s₀ : Shared) (mg mb : Str → Option Value) (news : List (Addr × Obj)) (y m : Int) (t1 t2 : Tok) : Con w s₀ mg mb 129 2 [.int y t1, .int m t2] news (True) (.int (dim (leapJ y) m)) := by
  unfold Con
  k_fill
  intro dp un gd cn cs aF ccd cl outer AF baseH hB LF mF sF QF EF B F X N T hk hok hd hu hret
  dsimp only [TopC] at T
  refine wpAny_call ?_
  k_dflt
  (refine' code_def (binds := [(Str.ofString "year", .int y t1), (Str.ofString "month", .int m t2)]) ?k1 ?k2 ?k3 ?k4 ?k5 ?kA ?kF ?kK ?k6 ?k7 ?k8 ?k9 ?kB ?_ ?c2 ?c3 ?c4 ?c5; (case kA => exact rfl); (case kF => exact rfl); (case kK => assumption); (case k1 => k_asm); (case k2 => k_asm); (case k3 => k_asm); (case k4 => k_asm); (case k5 => k_asm); (case k6 => k_is); (case k7 => k_is); (case k8 => ktr_room); (case k9 => exact BindsTo.of_eq rfl); (case c5 => decide); (case kB => exact locs rfl); (case c2 => exact rfl); (case c3 => exact rfl); (case c4 => exact rfl); k_whole; intro g' L' h' FG' F' N' B' X' T'; (try dsimp only [List.reverse, List.reverseAux] at F'); (try dsimp only); (try k_fold))
  k_steps
  all_goals (walk_at "my int"; walk_at "my norm"; first | omega | (simp_all; done) | (simp_all; omega))
local macro_rules | `(tactic| walk_at "call ref") => `(tactic| (k_here; (with_reducible show wpAny _ _ (PySem.call (Value.ref 129) _) _ _ _); k_dflt (
  (refine' con_use (c_dimJ _ _ _ _ _ _ _ _ _) ?k1 ?k2 ?k3 ?k4 ?k5 ?kK ?ko ?kd ?ku ?_);
  (case k1 => first | k_asm | ktn_no "use c_dimJ: below"); (case k2 => first | k_asm | ktn_no "use c_dimJ: frame"); (case k3 => first | k_asm | ktn_no "use c_dimJ: part"); (case k4 => first | k_asm | ktn_no "use c_dimJ: ledger"); (case k5 => first | k_asm | ktn_no "use c_dimJ: top"); (case kK => first | exact rfl | assumption | ktn_no "use c_dimJ: kind");
  (case ko => first | (first | trivial | assumption | (walk_at "my dec")) | ktn_no "use c_dimJ: ok"); (case kd => first | ktr_room | ktn_no "use c_dimJ: room"); (case ku => first | ktr_units | ktn_no "use c_dimJ: units");
  dsimp only [Ret]; intro t9 h9 tk9 F9 N9; (try dsimp only); (try k_sweep); (try k_fold))))
set_option maxHeartbeats 1000000 in
theorem c_legalJ (w : World) (s₀ : Shared) (mg mb : Str → Option Value) (news : List (Addr × Obj)) (y m d : Int) (t1 t2 t3 : Tok) : Con w s₀ mg mb 136 3 [.int y t1, .int m t2, .int d t3] news (1 ≤ d ∧ d ≤ dim (leapJ y) m) (.bool true) := by
  unfold Con
  k_fill
  intro dp un gd cn cs aF ccd cl outer AF baseH hB LF mF sF QF EF B F X N T hk hok hd hu hret
  dsimp only [TopC] at T
  refine wpAny_call ?_
  k_dflt
  (refine' code_def (binds := [(Str.ofString "year", .int y t1), (Str.ofString "month", .int m t2), (Str.ofString "day", .int d t3)]) ?k1 ?k2 ?k3 ?k4 ?k5 ?kA ?kF ?kK ?k6 ?k7 ?k8 ?k9 ?kB ?_ ?c2 ?c3 ?c4 ?c5; (case kA => exact rfl); (case kF => exact rfl); (case kK => assumption); (case k1 => k_asm); (case k2 => k_asm); (case k3 => k_asm); (case k4 => k_asm); (case k5 => k_asm); (case k6 => k_is); (case k7 => k_is); (case k8 => ktr_room); (case k9 => exact BindsTo.of_eq rfl); (case c5 => decide); (case kB => exact locs rfl); (case c2 => exact rfl); (case c3 => exact rfl); (case c4 => exact rfl); k_whole; intro g' L' h' FG' F' N' B' X' T'; (try dsimp only [List.reverse, List.reverseAux] at F'); (try dsimp only); (try k_fold))
  have hpm : PruneMark := True.intro
  k_steps
  all_goals (walk_at "my bool"; rfl)
local macro_rules | `(tactic| walk_at "call ref") => `(tactic| (k_here; (with_reducible show wpAny _ _ (PySem.call (Value.ref 136) _) _ _ _); k_dflt (
  (refine' con_use (c_legalJ _ _ _ _ _ _ _ _ _ _ _) ?k1 ?k2 ?k3 ?k4 ?k5 ?kK ?ko ?kd ?ku ?_);
  (case k1 => first | k_asm | ktn_no "use c_legalJ: below"); (case k2 => first | k_asm | ktn_no "use c_legalJ: frame"); (case k3 => first | k_asm | ktn_no "use c_legalJ: part"); (case k4 => first | k_asm | ktn_no "use c_legalJ: ledger"); (case k5 => first | k_asm | ktn_no "use c_legalJ: top"); (case kK => first | exact rfl | assumption | ktn_no "use c_legalJ: kind");
  (case ko => first | (first | trivial | assumption | (walk_at "my dec")) | ktn_no "use c_legalJ: ok"); (case kd => first | ktr_room | ktn_no "use c_legalJ: room"); (case ku => first | ktr_units | ktn_no "use c_legalJ: units");
  dsimp only [Ret]; intro h9 tk9 F9 N9; (try dsimp only); (try k_sweep); (try k_fold))))
set_option maxHeartbeats 1000000 in
theorem c_toJ (w : World) (s₀ : Shared) (mg mb : Str → Option Value) (news : List (Addr × Obj)) (y m d : Int) (t1 t2 t3 : Tok) : Con w s₀ mg mb 150 4 [.int y t1, .int m t2, .int d t3] news (1 ≤ d ∧ d ≤ dim (leapJ y) m) (.int (toJ y m d)) := by
  unfold Con
  k_fill
  intro dp un gd cn cs aF ccd cl outer AF baseH hB LF mF sF QF EF B F X N T hk hok hd hu hret
  dsimp only [TopC] at T
  refine wpAny_call ?_
  k_dflt
  (refine' code_def (binds := [(Str.ofString "year", .int y t1), (Str.ofString "month", .int m t2), (Str.ofString "day", .int d t3)]) ?k1 ?k2 ?k3 ?k4 ?k5 ?kA ?kF ?kK ?k6 ?k7 ?k8 ?k9 ?kB ?_ ?c2 ?c3 ?c4 ?c5; (case kA => exact rfl); (case kF => exact rfl); (case kK => assumption); (case k1 => k_asm); (case k2 => k_asm); (case k3 => k_asm); (case k4 => k_asm); (case k5 => k_asm); (case k6 => k_is); (case k7 => k_is); (case k8 => ktr_room); (case k9 => exact BindsTo.of_eq rfl); (case c5 => decide); (case kB => exact locs rfl); (case c2 => exact rfl); (case c3 => exact rfl); (case c4 => exact rfl); k_whole; intro g' L' h' FG' F' N' B' X' T'; (try dsimp only [List.reverse, List.reverseAux] at F'); (try dsimp only); (try k_fold))
  k_steps
  all_goals (walk_at "my int"; unfold toJ; first | rw [if_pos (by first | assumption | (simp_all; done) | omega)] | rw [if_neg (by first | assumption | (simp_all; done) | omega)])
local macro_rules | `(tactic| walk_at "call ref") => `(tactic| (k_here; (with_reducible show wpAny _ _ (PySem.call (Value.ref 150) _) _ _ _); k_dflt (
  (refine' con_use (c_toJ _ _ _ _ _ _ _ _ _ _ _) ?k1 ?k2 ?k3 ?k4 ?k5 ?kK ?ko ?kd ?ku ?_);
  (case k1 => first | k_asm | ktn_no "use c_toJ: below"); (case k2 => first | k_asm | ktn_no "use c_toJ: frame"); (case k3 => first | k_asm | ktn_no "use c_toJ: part"); (case k4 => first | k_asm | ktn_no "use c_toJ: ledger"); (case k5 => first | k_asm | ktn_no "use c_toJ: top"); (case kK => first | exact rfl | assumption | ktn_no "use c_toJ: kind");
  (case ko => first | (first | trivial | assumption | exact dim_pos _ _ | (walk_at "my ok") | (walk_at "my dec")) | ktn_no "use c_toJ: ok"); (case kd => first | ktr_room | ktn_no "use c_toJ: room"); (case ku => first | ktr_units | ktn_no "use c_toJ: units");
  dsimp only [Ret]; intro t9 h9 tk9 F9 N9; (try dsimp only); (try k_sweep); (try k_fold))))
set_option maxHeartbeats 1000000 in
theorem c_fromJ (w : World) (s₀ : Shared) (mg mb : Str → Option Value) (news : List (Addr × Obj)) (n : Int) (t : Tok) : Con w s₀ mg mb 143 1 [.int n t] news (True) (.t3 (jY n) (jM n) (jD n)) := by
  unfold Con
  k_fill
  intro dp un gd cn cs aF ccd cl outer AF baseH hB LF mF sF QF EF B F X N T hk hok hd hu hret
  dsimp only [TopC] at T
  refine wpAny_call ?_
  k_dflt
  (refine' code_def (binds := [(Str.ofString "jd", .int n t)]) ?k1 ?k2 ?k3 ?k4 ?k5 ?kA ?kF ?kK ?k6 ?k7 ?k8 ?k9 ?kB ?_ ?c2 ?c3 ?c4 ?c5; (case kA => exact rfl); (case kF => exact rfl); (case kK => assumption); (case k1 => k_asm); (case k2 => k_asm); (case k3 => k_asm); (case k4 => k_asm); (case k5 => k_asm); (case k6 => k_is); (case k7 => k_is); (case k8 => ktr_room); (case k9 => exact BindsTo.of_eq rfl); (case c5 => decide); (case kB => exact locs rfl); (case c2 => exact rfl); (case c3 => exact rfl); (case c4 => exact rfl); k_whole; intro g' L' h' FG' F' N' B' X' T'; (try dsimp only [List.reverse, List.reverseAux] at F'); (try dsimp only); (try k_fold))
  k_steps
  all_goals (walk_at "my t3")
  all_goals first | rfl | exact jY0 (by assumption) | exact jY1 (by assumption) | exact jM0 (by assumption) | exact jM1 (by assumption)
local macro_rules | `(tactic| walk_at "call ref") => `(tactic| (k_here; (with_reducible show wpAny _ _ (PySem.call (Value.ref 143) _) _ _ _); k_dflt (
  (refine' con_use (c_fromJ _ _ _ _ _ _ _) ?k1 ?k2 ?k3 ?k4 ?k5 ?kK ?ko ?kd ?ku ?_);
  (case k1 => first | k_asm | ktn_no "use c_fromJ: below"); (case k2 => first | k_asm | ktn_no "use c_fromJ: frame"); (case k3 => first | k_asm | ktn_no "use c_fromJ: part"); (case k4 => first | k_asm | ktn_no "use c_fromJ: ledger"); (case k5 => first | k_asm | ktn_no "use c_fromJ: top"); (case kK => first | exact rfl | assumption | ktn_no "use c_fromJ: kind");
  (case ko => first | (first | trivial | assumption | (walk_at "my dec")) | ktn_no "use c_fromJ: ok"); (case kd => first | ktr_room | ktn_no "use c_fromJ: room"); (case ku => first | ktr_units | ktn_no "use c_fromJ: units");
  dsimp only [Ret]; intro D9 t91 t92 t93 c9 h9 tk9 F9 N9; (try dsimp only); (try k_sweep); (try k_fold))))
theorem fd {a b : Int} (h : 0 ≤ b := by decide) : a.fdiv b = a / b := Int.fdiv_eq_ediv_of_nonneg a h
theorem fm {a b : Int} (h : 0 ≤ b := by decide) : a.fmod b = a % b := Int.fmod_eq_emod_of_nonneg a h
theorem b2i_range (b : Bool) : 0 ≤ b2i b ∧ b2i b ≤ 1 := by cases b <;> decide
theorem leap_iff (y : Int) : leapB y = true ↔ (y % 4 = 0 ∧ (y % 100 ≠ 0 ∨ y % 400 = 0)) := by simp [leapB]
theorem b2i_leap (y : Int) : (b2i (leapB y) = 1 ∧ y % 4 = 0 ∧ (y % 100 ≠ 0 ∨ y % 400 = 0)) ∨ (b2i (leapB y) = 0 ∧ ¬ (y % 4 = 0 ∧ (y % 100 ≠ 0 ∨ y % 400 = 0))) := by
  have h := leap_iff y
  cases e : leapB y with
  | true => exact Or.inl ⟨rfl, h.mp e⟩
  | false => refine Or.inr ⟨rfl, fun hh => ?_⟩; rw [h.mpr hh] at e; cases e
theorem jan0_step (y : Int) : jan0 (y + 1) = jan0 y + 365 + b2i (leapB y) := by
  have h := b2i_leap y
  unfold jan0
  omega
theorem jan0_lt {y z : Int} (h : y < z) : jan0 y + 365 ≤ jan0 z := by
  unfold jan0
  omega
theorem toG_11 (y : Int) : toG y 1 1 = jan0 y + 1 := by unfold toG cum; simp
theorem gY_spec (n : Int) : jan0 (gY n) < n ∧ n ≤ jan0 (gY n + 1) := by
  unfold gY gSum
  generalize hq : (n - 1721426) / 146097 = q
  generalize hr : (n - 1721426) % 146097 = r
  have h0 : n = 1721426 + 146097 * q + r := by omega
  have hr0 : 0 ≤ r ∧ r < 146097 := by omega
  clear hq hr
  subst h0
  generalize hc : r / 36524 = c
  generalize hs : r % 36524 = s
  have h1 : r = 36524 * c + s := by omega
  have hs0 : 0 ≤ s ∧ s < 36524 := by omega
  have hc0 : 0 ≤ c ∧ c ≤ 4 := by omega
  clear hc hs
  subst h1
  generalize hk : s / 1461 = k
  generalize ht : s % 1461 = t
  have h2 : s = 1461 * k + t := by omega
  have ht0 : 0 ≤ t ∧ t < 1461 := by omega
  have hk0 : 0 ≤ k ∧ k ≤ 24 := by omega
  clear hk ht
  subst h2
  generalize hu : t / 365 = u
  have hu0 : 0 ≤ u ∧ u ≤ 4 ∧ 365 * u ≤ t ∧ t < 365 * u + 365 := by omega
  clear hu
  rw [jan0_step]
  have hb := b2i_range (leapB (400 * q + 100 * c + 4 * k + u))
  have hb' := b2i_range (leapB (400 * q + 100 * c + 4 * k + u + 1))
  have hl := b2i_leap (400 * q + 100 * c + 4 * k + u)
  split
  · rename_i h
    rcases h with h | h
    · subst h
      have : k = 0 ∧ t = 0 ∧ u = 0 := by omega
      obtain ⟨rfl, rfl, rfl⟩ := this
      unfold jan0
      omega
    · subst h
      have hk1 : k ≤ 23 ∧ t = 1460 ∧ c ≤ 3 := by omega
      obtain ⟨hk1, rfl, hc1⟩ := hk1
      have e1 : b2i (leapB (400 * q + 100 * c + 4 * k + 4)) = 1 := by omega
      rw [e1]
      unfold jan0
      have e4 : (400 * q + 100 * c + 4 * k + 4 - 1) / 4 = 100 * q + 25 * c + k := by omega
      have e100 : (400 * q + 100 * c + 4 * k + 4 - 1) / 100 = 4 * q + c := by omega
      have e400 : (400 * q + 100 * c + 4 * k + 4 - 1) / 400 = q := by omega
      rw [e4, e100, e400]
      omega
  · have hc1 : c ≤ 3 ∧ u ≤ 3 := by omega
    obtain ⟨hc1, hu1⟩ := hc1
    unfold jan0
    have e4 : (400 * q + 100 * c + 4 * k + u + 1 - 1) / 4 = 100 * q + 25 * c + k := by omega
    have e100 : (400 * q + 100 * c + 4 * k + u + 1 - 1) / 100 = 4 * q + c := by omega
    have e400 : (400 * q + 100 * c + 4 * k + u + 1 - 1) / 400 = q := by omega
    rw [e4, e100, e400]
    omega
theorem gY_of {n y : Int} (h1 : jan0 y < n) (h2 : n ≤ jan0 (y + 1)) : y = gY n := by
  have h := gY_spec n
  rcases Int.lt_trichotomy y (gY n) with hlt | he | hgt
  · have := jan0_lt (show y < gY n by omega)
    rcases Int.lt_or_le (y + 1) (gY n) with h3 | h3
    · have := jan0_lt h3; omega
    · have e : gY n = y + 1 := by omega
      rw [e] at h; omega
  · exact he
  · rcases Int.lt_or_le (gY n + 1) y with h3 | h3
    · have := jan0_lt h3; omega
    · have e : y = gY n + 1 := by omega
      rw [← e] at h; omega
theorem mo_ok (lp : Bool) {p a : Int} (h0 : 0 ≤ p) (h1 : p < 365 + b2i lp) (ha : a = if p < 58 + b2i lp then 0 else 2 - b2i lp) :
    1 ≤ ((p + a) * 12 + 373) / 367 ∧ ((p + a) * 12 + 373) / 367 ≤ 12 ∧ cum lp (((p + a) * 12 + 373) / 367) ≤ p ∧ p < cum lp (((p + a) * 12 + 373) / 367) + dim lp (((p + a) * 12 + 373) / 367) := by
  generalize hm : ((p + a) * 12 + 373) / 367 = m
  have e : 367 * m ≤ (p + a) * 12 + 373 ∧ (p + a) * 12 + 373 < 367 * m + 367 := by omega
  clear hm
  unfold cum dim
  cases lp
  · simp only [b2i] at *
    simp at *
    by_cases hp : p < 58
    · rw [if_pos hp] at ha; subst ha
      have hm : m = 1 ∨ m = 2 := by omega
      rcases hm with rfl | rfl <;> simp <;> omega
    · rw [if_neg hp] at ha; subst ha
      have hm : m = 2 ∨ m = 3 ∨ m = 4 ∨ m = 5 ∨ m = 6 ∨ m = 7 ∨ m = 8 ∨ m = 9 ∨ m = 10 ∨ m = 11 ∨ m = 12 := by omega
      rcases hm with rfl | rfl | rfl | rfl | rfl | rfl | rfl | rfl | rfl | rfl | rfl <;> simp <;> omega
  · simp only [b2i] at *
    simp at *
    by_cases hp : p < 59
    · rw [if_pos hp] at ha; subst ha
      have hm : m = 1 ∨ m = 2 := by omega
      rcases hm with rfl | rfl <;> simp <;> omega
    · rw [if_neg hp] at ha; subst ha
      have hm : m = 2 ∨ m = 3 ∨ m = 4 ∨ m = 5 ∨ m = 6 ∨ m = 7 ∨ m = 8 ∨ m = 9 ∨ m = 10 ∨ m = 11 ∨ m = 12 := by omega
      rcases hm with rfl | rfl | rfl | rfl | rfl | rfl | rfl | rfl | rfl | rfl | rfl <;> simp <;> omega
def okD (lp : Bool) (m d : Int) : Prop := 1 ≤ m ∧ m ≤ 12 ∧ 1 ≤ d ∧ d ≤ dim lp m
theorem gP_range (n : Int) : 0 ≤ n - toG (gY n) 1 1 ∧ n - toG (gY n) 1 1 < 365 + b2i (leapB (gY n)) := by
  have h := gY_spec n
  rw [jan0_step] at h
  rw [toG_11]; omega
theorem gOk (n : Int) : okD (leapB (gY n)) (gM n) (gD n) := by
  have hp := gP_range n
  have h := mo_ok (leapB (gY n)) hp.1 hp.2 rfl
  have e : gM n = ((n - toG (gY n) 1 1 + if n - toG (gY n) 1 1 < 58 + b2i (leapB (gY n)) then 0 else 2 - b2i (leapB (gY n))) * 12 + 373) / 367 := rfl
  rw [← e] at h
  have hd : gD n = n - toG (gY n) 1 1 - cum (leapB (gY n)) (gM n) + 1 := by
    unfold gD; rw [toG_11]; unfold toG; omega
  unfold okD
  rw [hd]
  omega
theorem gBack (n : Int) : toG (gY n) (gM n) (gD n) = n := by
  unfold gD toG; omega
theorem cum_next (lp : Bool) {m k : Int} (h1 : 1 ≤ m) (h2 : m < k) (h3 : k ≤ 12) : cum lp m + dim lp m ≤ cum lp k := by
  have hb := b2i_range lp
  unfold cum dim
  have hm : m = 1 ∨ m = 2 ∨ m = 3 ∨ m = 4 ∨ m = 5 ∨ m = 6 ∨ m = 7 ∨ m = 8 ∨ m = 9 ∨ m = 10 ∨ m = 11 := by omega
  rcases hm with rfl | rfl | rfl | rfl | rfl | rfl | rfl | rfl | rfl | rfl | rfl <;> simp <;> (try split) <;> omega
theorem dim_ge (lp : Bool) (m : Int) : 28 ≤ dim lp m ∧ dim lp m ≤ 31 := by
  have hb := b2i_range lp
  unfold dim; repeat' split
  all_goals omega
theorem okD_range {lp : Bool} {m d : Int} (h : okD lp m d) : 1 ≤ cum lp m + d ∧ cum lp m + d ≤ 365 + b2i lp := by
  obtain ⟨h1, h2, h3, h4⟩ := h
  have hb := b2i_range lp
  have hm : m = 1 ∨ m = 2 ∨ m = 3 ∨ m = 4 ∨ m = 5 ∨ m = 6 ∨ m = 7 ∨ m = 8 ∨ m = 9 ∨ m = 10 ∨ m = 11 ∨ m = 12 := by omega
  unfold dim at h4; unfold cum
  rcases hm with rfl | rfl | rfl | rfl | rfl | rfl | rfl | rfl | rfl | rfl | rfl | rfl <;> simp at h4 ⊢ <;> omega
theorem okD_lt {lp : Bool} {m d k e : Int} (h : okD lp m d) (g : okD lp k e) : (m < k ∨ (m = k ∧ d < e)) ↔ cum lp m + d < cum lp k + e := by
  obtain ⟨h1, h2, h3, h4⟩ := h
  obtain ⟨g1, g2, g3, g4⟩ := g
  rcases Int.lt_trichotomy m k with hlt | he | hgt
  · have := cum_next lp h1 hlt g2
    constructor
    · intro _; omega
    · intro _; exact Or.inl hlt
  · subst he; omega
  · have := cum_next lp g1 hgt h2
    constructor
    · intro hh; omega
    · intro hh; omega
theorem okD_inj {lp : Bool} {m d k e : Int} (h : okD lp m d) (g : okD lp k e) (q : cum lp m + d = cum lp k + e) : m = k ∧ d = e := by
  have h1 := okD_lt h g
  have h2 := okD_lt g h
  omega
theorem gUniq {y m d n : Int} (h : okD (leapB y) m d) (e : toG y m d = n) : y = gY n ∧ m = gM n ∧ d = gD n := by
  have hr := okD_range h
  have hy : y = gY n := by
    refine gY_of ?_ ?_
    · unfold toG at e; omega
    · rw [jan0_step]; unfold toG at e; omega
  subst hy
  refine ⟨rfl, ?_⟩
  have hb := gBack n
  have hq : cum (leapB (gY n)) m + d = cum (leapB (gY n)) (gM n) + gD n := by unfold toG at e hb; omega
  exact okD_inj h (gOk n) hq
def nW (w j k : Int) : Int := if 0 < k then 7 * k + (j + -1 * 1 - (j + -1 * 1 - w).fmod 7) else 7 * k + (j + 1 * 7 - (j + 1 * 7 - w).fmod 7)
def toI (y w d : Int) : Int := d + nW 6 (toG (y - 1) 12 28) w
def mon1 (y : Int) : Int := if 3 < (toG y 1 1).fmod 7 then toG y 1 1 - (toG y 1 1).fmod 7 + 7 else toG y 1 1 - (toG y 1 1).fmod 7
def oT (y m d : Int) : Int := (306 * (if m + 1 ≤ 3 then m + 1 + 12 else m + 1)).fdiv 10 + d - 122 + 59 + b2i (leapB y)
def oF (y m d : Int) : Int := if 365 + b2i (leapB y) < oT y m d then oT y m d - 365 - b2i (leapB y) else oT y m d
def oAdj (y p : Int) : Int := if p < 59 + b2i (leapB y) then 0 else 2 - b2i (leapB y)
def oM (y p : Int) : Int := ((p - 1 + oAdj y p) * 12 + 373).fdiv 367
def oD (y p : Int) : Int := p - oF y (oM y p) 1 + 1
def gO (n : Int) : Int := toG (gY n) (gM n) (gD n) - toG (gY n) 1 1 + 1
theorem okG (n : Int) : 1 ≤ gD n ∧ gD n ≤ dim (leapB (gY n)) (gM n) := (gOk n).2.2
theorem tr_e {a b : Int} (h : 0 ≤ a ∧ 0 < b ∧ b ≤ 1000) : (if a < 0 then -a else a).fdiv (if b < 0 then -b else b) = a.fdiv b := by
  rw [if_neg (by omega), if_neg (by omega)]
theorem oAdj0 {y p : Int} (h : p < 59 + if leapB y = true then 1 else 0) : 0 = oAdj y p := by unfold oAdj b2i; rw [if_pos h]
theorem oAdj1 {y p : Int} (h : ¬ p < 59 + if leapB y = true then 1 else 0) (hl : leapB y = true) : 1 = oAdj y p := by unfold oAdj b2i; rw [if_neg h, if_pos hl]; rfl
theorem oAdj2 {y p : Int} (h : ¬ p < 59 + if leapB y = true then 1 else 0) (hl : ¬ leapB y = true) : 2 = oAdj y p := by unfold oAdj b2i; rw [if_neg h, if_neg hl]; rfl
theorem oM_e {y p a : Int} (ha : a = oAdj y p) : ((p - 1 + a) * 12 + 373).fdiv 367 = oM y p := by rw [ha]; rfl
theorem oD_e {y p a : Int} (ha : a = oAdj y p) : p - oF y (((p - 1 + a) * 12 + 373).fdiv 367) 1 + 1 = oD y p := by rw [ha]; rfl
local macro_rules | `(tactic| walk_at "my ok") => `(tactic| exact okG _)
local macro_rules | `(tactic| walk_at "binaryOp FloorDiv int int") => `(tactic| (k_here; (with_reducible rename PruneMark => hpm); k_dflt (refine floordiv_int (by first | omega | (split <;> omega)) ?_ (Or.inl (PyProof.noPylong_small (by first | omega | (split <;> omega)))))))
set_option maxHeartbeats 1000000 in
theorem c_trunc (w : World) (s₀ : Shared) (mg mb : Str → Option Value) (news : List (Addr × Obj)) (a b : Int) (t1 t2 : Tok) : Con w s₀ mg mb 36 1 [.int a t1, .int b t2] news (0 ≤ a ∧ 0 < b ∧ b ≤ 1000) (.int (a.fdiv b)) := by
  unfold Con
  k_fill
  intro dp un gd cn cs aF ccd cl outer AF baseH hB LF mF sF QF EF B F X N T hk hok hd hu hret
  dsimp only [TopC] at T
  refine wpAny_call ?_
  k_dflt
  (refine' code_def (binds := [(Str.ofString "a", .int a t1), (Str.ofString "b", .int b t2)]) ?k1 ?k2 ?k3 ?k4 ?k5 ?kA ?kF ?kK ?k6 ?k7 ?k8 ?k9 ?kB ?_ ?c2 ?c3 ?c4 ?c5; (case kA => exact rfl); (case kF => exact rfl); (case kK => assumption); (case k1 => k_asm); (case k2 => k_asm); (case k3 => k_asm); (case k4 => k_asm); (case k5 => k_asm); (case k6 => k_is); (case k7 => k_is); (case k8 => ktr_room); (case k9 => exact BindsTo.of_eq rfl); (case c5 => decide); (case kB => exact locs rfl); (case c2 => exact rfl); (case c3 => exact rfl); (case c4 => exact rfl); k_whole; intro g' L' h' FG' F' N' B' X' T'; (try dsimp only [List.reverse, List.reverseAux] at F'); (try dsimp only); (try k_fold))
  have hpm : PruneMark := True.intro
  k_steps
  all_goals (walk_at "my int"; exact tr_e (by assumption))
local macro_rules | `(tactic| walk_at "call ref") => `(tactic| (k_here; (with_reducible show wpAny _ _ (PySem.call (Value.ref 36) _) _ _ _); k_dflt (
  (refine' con_use (c_trunc _ _ _ _ _ _ _ _ _) ?k1 ?k2 ?k3 ?k4 ?k5 ?kK ?ko ?kd ?ku ?_);
  (case k1 => first | k_asm | ktn_no "use c_trunc: below"); (case k2 => first | k_asm | ktn_no "use c_trunc: frame"); (case k3 => first | k_asm | ktn_no "use c_trunc: part"); (case k4 => first | k_asm | ktn_no "use c_trunc: ledger"); (case k5 => first | k_asm | ktn_no "use c_trunc: top"); (case kK => first | exact rfl | assumption | ktn_no "use c_trunc: kind");
  (case ko => first | (first | trivial | assumption | (walk_at "my dec")) | ktn_no "use c_trunc: ok"); (case kd => first | ktr_room | ktn_no "use c_trunc: room"); (case ku => first | ktr_units | ktn_no "use c_trunc: units");
  dsimp only [Ret]; intro t9 h9 tk9 F9 N9; (try dsimp only); (try k_sweep); (try k_fold))))
set_option maxHeartbeats 1000000 in
theorem c_nWeeks (w : World) (s₀ : Shared) (mg mb : Str → Option Value) (news : List (Addr × Obj)) (x j k : Int) (t1 t2 t3 : Tok) : Con w s₀ mg mb 78 5 [.int x t1, .int j t2, .int k t3] news (True) (.int (nW x j k)) := by
  unfold Con
  k_fill
  intro dp un gd cn cs aF ccd cl outer AF baseH hB LF mF sF QF EF B F X N T hk hok hd hu hret
  dsimp only [TopC] at T
  refine wpAny_call ?_
  k_dflt
  (refine' code_def (binds := [(Str.ofString "weekday", .int x t1), (Str.ofString "jd", .int j t2), (Str.ofString "nthweek", .int k t3)]) ?k1 ?k2 ?k3 ?k4 ?k5 ?kA ?kF ?kK ?k6 ?k7 ?k8 ?k9 ?kB ?_ ?c2 ?c3 ?c4 ?c5; (case kA => exact rfl); (case kF => exact rfl); (case kK => assumption); (case k1 => k_asm); (case k2 => k_asm); (case k3 => k_asm); (case k4 => k_asm); (case k5 => k_asm); (case k6 => k_is); (case k7 => k_is); (case k8 => ktr_room); (case k9 => exact BindsTo.of_eq rfl); (case c5 => decide); (case kB => exact locs rfl); (case c2 => exact rfl); (case c3 => exact rfl); (case c4 => exact rfl); k_whole; intro g' L' h' FG' F' N' B' X' T'; (try dsimp only [List.reverse, List.reverseAux] at F'); (try dsimp only); (try k_fold))
  k_steps
  all_goals (walk_at "my int"; unfold nW; first | (rw [if_pos (by assumption)]; done) | (rw [if_neg (by assumption)]; done) | trace_state)
local macro_rules | `(tactic| walk_at "call ref") => `(tactic| (k_here; (with_reducible show wpAny _ _ (PySem.call (Value.ref 78) _) _ _ _); k_dflt (
  (refine' con_use (c_nWeeks _ _ _ _ _ _ _ _ _ _ _) ?k1 ?k2 ?k3 ?k4 ?k5 ?kK ?ko ?kd ?ku ?_);
  (case k1 => first | k_asm | ktn_no "use c_nWeeks: below"); (case k2 => first | k_asm | ktn_no "use c_nWeeks: frame"); (case k3 => first | k_asm | ktn_no "use c_nWeeks: part"); (case k4 => first | k_asm | ktn_no "use c_nWeeks: ledger"); (case k5 => first | k_asm | ktn_no "use c_nWeeks: top"); (case kK => first | exact rfl | assumption | ktn_no "use c_nWeeks: kind");
  (case ko => first | (first | trivial | assumption | (walk_at "my dec")) | ktn_no "use c_nWeeks: ok"); (case kd => first | ktr_room | ktn_no "use c_nWeeks: room"); (case ku => first | ktr_units | ktn_no "use c_nWeeks: units");
  dsimp only [Ret]; intro t9 h9 tk9 F9 N9; (try dsimp only); (try k_sweep); (try k_fold))))
set_option maxHeartbeats 1000000 in
theorem c_mon1 (w : World) (s₀ : Shared) (mg mb : Str → Option Value) (news : List (Addr × Obj)) (y : Int) (t : Tok) : Con w s₀ mg mb 248 4 [.int y t] news (True) (.int (mon1 y)) := by
  unfold Con
  k_fill
  intro dp un gd cn cs aF ccd cl outer AF baseH hB LF mF sF QF EF B F X N T hk hok hd hu hret
  dsimp only [TopC] at T
  refine wpAny_call ?_
  k_dflt
  (refine' code_def (binds := [(Str.ofString "year", .int y t)]) ?k1 ?k2 ?k3 ?k4 ?k5 ?kA ?kF ?kK ?k6 ?k7 ?k8 ?k9 ?kB ?_ ?c2 ?c3 ?c4 ?c5; (case kA => exact rfl); (case kF => exact rfl); (case kK => assumption); (case k1 => k_asm); (case k2 => k_asm); (case k3 => k_asm); (case k4 => k_asm); (case k5 => k_asm); (case k6 => k_is); (case k7 => k_is); (case k8 => ktr_room); (case k9 => exact BindsTo.of_eq rfl); (case c5 => decide); (case kB => exact locs rfl); (case c2 => exact rfl); (case c3 => exact rfl); (case c4 => exact rfl); k_whole; intro g' L' h' FG' F' N' B' X' T'; (try dsimp only [List.reverse, List.reverseAux] at F'); (try dsimp only); (try k_fold))
  k_steps
  all_goals (walk_at "my int"; unfold mon1; first | (rw [if_pos (by assumption)]; done) | (rw [if_neg (by assumption)]; done) | trace_state)
local macro_rules | `(tactic| walk_at "call ref") => `(tactic| (k_here; (with_reducible show wpAny _ _ (PySem.call (Value.ref 248) _) _ _ _); k_dflt (
  (refine' con_use (c_mon1 _ _ _ _ _ _ _) ?k1 ?k2 ?k3 ?k4 ?k5 ?kK ?ko ?kd ?ku ?_);
  (case k1 => first | k_asm | ktn_no "use c_mon1: below"); (case k2 => first | k_asm | ktn_no "use c_mon1: frame"); (case k3 => first | k_asm | ktn_no "use c_mon1: part"); (case k4 => first | k_asm | ktn_no "use c_mon1: ledger"); (case k5 => first | k_asm | ktn_no "use c_mon1: top"); (case kK => first | exact rfl | assumption | ktn_no "use c_mon1: kind");
  (case ko => first | (first | trivial | assumption | (walk_at "my dec")) | ktn_no "use c_mon1: ok"); (case kd => first | ktr_room | ktn_no "use c_mon1: room"); (case ku => first | ktr_units | ktn_no "use c_mon1: units");
  dsimp only [Ret]; intro t9 h9 tk9 F9 N9; (try dsimp only); (try k_sweep); (try k_fold))))
set_option maxHeartbeats 1000000 in
theorem c_toI (w : World) (s₀ : Shared) (mg mb : Str → Option Value) (news : List (Addr × Obj)) (y x d : Int) (t1 t2 t3 : Tok) : Con w s₀ mg mb 234 6 [.int y t1, .int x t2, .int d t3] news (True) (.int (toI y x d)) := by
  unfold Con
  k_fill
  intro dp un gd cn cs aF ccd cl outer AF baseH hB LF mF sF QF EF B F X N T hk hok hd hu hret
  dsimp only [TopC] at T
  refine wpAny_call ?_
  k_dflt
  (refine' code_def (binds := [(Str.ofString "year", .int y t1), (Str.ofString "week", .int x t2), (Str.ofString "day", .int d t3)]) ?k1 ?k2 ?k3 ?k4 ?k5 ?kA ?kF ?kK ?k6 ?k7 ?k8 ?k9 ?kB ?_ ?c2 ?c3 ?c4 ?c5; (case kA => exact rfl); (case kF => exact rfl); (case kK => assumption); (case k1 => k_asm); (case k2 => k_asm); (case k3 => k_asm); (case k4 => k_asm); (case k5 => k_asm); (case k6 => k_is); (case k7 => k_is); (case k8 => ktr_room); (case k9 => exact BindsTo.of_eq rfl); (case c5 => decide); (case kB => exact locs rfl); (case c2 => exact rfl); (case c3 => exact rfl); (case c4 => exact rfl); k_whole; intro g' L' h' FG' F' N' B' X' T'; (try dsimp only [List.reverse, List.reverseAux] at F'); (try dsimp only); (try k_fold))
  k_steps
  all_goals (walk_at "my int"; first | rfl | trace_state)
local macro_rules | `(tactic| walk_at "call ref") => `(tactic| (k_here; (with_reducible show wpAny _ _ (PySem.call (Value.ref 234) _) _ _ _); k_dflt (
  (refine' con_use (c_toI _ _ _ _ _ _ _ _ _ _ _) ?k1 ?k2 ?k3 ?k4 ?k5 ?kK ?ko ?kd ?ku ?_);
  (case k1 => first | k_asm | ktn_no "use c_toI: below"); (case k2 => first | k_asm | ktn_no "use c_toI: frame"); (case k3 => first | k_asm | ktn_no "use c_toI: part"); (case k4 => first | k_asm | ktn_no "use c_toI: ledger"); (case k5 => first | k_asm | ktn_no "use c_toI: top"); (case kK => first | exact rfl | assumption | ktn_no "use c_toI: kind");
  (case ko => first | (first | trivial | assumption | (walk_at "my dec")) | ktn_no "use c_toI: ok"); (case kd => first | ktr_room | ktn_no "use c_toI: room"); (case ku => first | ktr_units | ktn_no "use c_toI: units");
  dsimp only [Ret]; intro t9 h9 tk9 F9 N9; (try dsimp only); (try k_sweep); (try k_fold))))
set_option maxHeartbeats 1000000 in
theorem c_toO (w : World) (s₀ : Shared) (mg mb : Str → Option Value) (news : List (Addr × Obj)) (y p : Int) (t1 t2 : Tok) : Con w s₀ mg mb 297 4 [.int y t1, .int p t2] news (True) (.int (toG y 1 1 + p - 1)) := by
  unfold Con
  k_fill
  intro dp un gd cn cs aF ccd cl outer AF baseH hB LF mF sF QF EF B F X N T hk hok hd hu hret
  dsimp only [TopC] at T
  refine wpAny_call ?_
  k_dflt
  (refine' code_def (binds := [(Str.ofString "year", .int y t1), (Str.ofString "dayofyear", .int p t2)]) ?k1 ?k2 ?k3 ?k4 ?k5 ?kA ?kF ?kK ?k6 ?k7 ?k8 ?k9 ?kB ?_ ?c2 ?c3 ?c4 ?c5; (case kA => exact rfl); (case kF => exact rfl); (case kK => assumption); (case k1 => k_asm); (case k2 => k_asm); (case k3 => k_asm); (case k4 => k_asm); (case k5 => k_asm); (case k6 => k_is); (case k7 => k_is); (case k8 => ktr_room); (case k9 => exact BindsTo.of_eq rfl); (case c5 => decide); (case kB => exact locs rfl); (case c2 => exact rfl); (case c3 => exact rfl); (case c4 => exact rfl); k_whole; intro g' L' h' FG' F' N' B' X' T'; (try dsimp only [List.reverse, List.reverseAux] at F'); (try dsimp only); (try k_fold))
  k_steps
  all_goals (walk_at "my int"; first | rfl | trace_state)
local macro_rules | `(tactic| walk_at "call ref") => `(tactic| (k_here; (with_reducible show wpAny _ _ (PySem.call (Value.ref 297) _) _ _ _); k_dflt (
  (refine' con_use (c_toO _ _ _ _ _ _ _ _ _) ?k1 ?k2 ?k3 ?k4 ?k5 ?kK ?ko ?kd ?ku ?_);
  (case k1 => first | k_asm | ktn_no "use c_toO: below"); (case k2 => first | k_asm | ktn_no "use c_toO: frame"); (case k3 => first | k_asm | ktn_no "use c_toO: part"); (case k4 => first | k_asm | ktn_no "use c_toO: ledger"); (case k5 => first | k_asm | ktn_no "use c_toO: top"); (case kK => first | exact rfl | assumption | ktn_no "use c_toO: kind");
  (case ko => first | (first | trivial | assumption | (walk_at "my dec")) | ktn_no "use c_toO: ok"); (case kd => first | ktr_room | ktn_no "use c_toO: room"); (case ku => first | ktr_units | ktn_no "use c_toO: units");
  dsimp only [Ret]; intro t9 h9 tk9 F9 N9; (try dsimp only); (try k_sweep); (try k_fold))))
set_option maxHeartbeats 1000000 in
theorem c_fromO (w : World) (s₀ : Shared) (mg mb : Str → Option Value) (news : List (Addr × Obj)) (n : Int) (t : Tok) : Con w s₀ mg mb 304 5 [.int n t] news (True) (.t2 (gY n) (gO n)) := by
  unfold Con
  k_fill
  intro dp un gd cn cs aF ccd cl outer AF baseH hB LF mF sF QF EF B F X N T hk hok hd hu hret
  dsimp only [TopC] at T
  refine wpAny_call ?_
  k_dflt
  (refine' code_def (binds := [(Str.ofString "jd", .int n t)]) ?k1 ?k2 ?k3 ?k4 ?k5 ?kA ?kF ?kK ?k6 ?k7 ?k8 ?k9 ?kB ?_ ?c2 ?c3 ?c4 ?c5; (case kA => exact rfl); (case kF => exact rfl); (case kK => assumption); (case k1 => k_asm); (case k2 => k_asm); (case k3 => k_asm); (case k4 => k_asm); (case k5 => k_asm); (case k6 => k_is); (case k7 => k_is); (case k8 => ktr_room); (case k9 => exact BindsTo.of_eq rfl); (case c5 => decide); (case kB => exact locs rfl); (case c2 => exact rfl); (case c3 => exact rfl); (case c4 => exact rfl); k_whole; intro g' L' h' FG' F' N' B' X' T'; (try dsimp only [List.reverse, List.reverseAux] at F'); (try dsimp only); (try k_fold))
  k_steps
  all_goals (walk_at "my t2")
  all_goals first | rfl | trace_state
local macro_rules | `(tactic| walk_at "call ref") => `(tactic| (k_here; (with_reducible show wpAny _ _ (PySem.call (Value.ref 304) _) _ _ _); k_dflt (
  (refine' con_use (c_fromO _ _ _ _ _ _ _) ?k1 ?k2 ?k3 ?k4 ?k5 ?kK ?ko ?kd ?ku ?_);
  (case k1 => first | k_asm | ktn_no "use c_fromO: below"); (case k2 => first | k_asm | ktn_no "use c_fromO: frame"); (case k3 => first | k_asm | ktn_no "use c_fromO: part"); (case k4 => first | k_asm | ktn_no "use c_fromO: ledger"); (case k5 => first | k_asm | ktn_no "use c_fromO: top"); (case kK => first | exact rfl | assumption | ktn_no "use c_fromO: kind");
  (case ko => first | (first | trivial | assumption | (walk_at "my dec")) | ktn_no "use c_fromO: ok"); (case kd => first | ktr_room | ktn_no "use c_fromO: room"); (case ku => first | ktr_units | ktn_no "use c_fromO: units");
  dsimp only [Ret]; intro D9 t91 t92 c9 h9 tk9 F9 N9; (try dsimp only); (try k_sweep); (try k_fold))))
set_option maxHeartbeats 1000000 in
theorem c_gToO (w : World) (s₀ : Shared) (mg mb : Str → Option Value) (news : List (Addr × Obj)) (y m d : Int) (t1 t2 t3 : Tok) : Con w s₀ mg mb 311 2 [.int y t1, .int m t2, .int d t3] news (0 ≤ m) (.t2 y (oF y m d)) := by
  unfold Con
  k_fill
  intro dp un gd cn cs aF ccd cl outer AF baseH hB LF mF sF QF EF B F X N T hk hok hd hu hret
  dsimp only [TopC] at T
  refine wpAny_call ?_
  k_dflt
  (refine' code_def (binds := [(Str.ofString "year", .int y t1), (Str.ofString "month", .int m t2), (Str.ofString "day", .int d t3)]) ?k1 ?k2 ?k3 ?k4 ?k5 ?kA ?kF ?kK ?k6 ?k7 ?k8 ?k9 ?kB ?_ ?c2 ?c3 ?c4 ?c5; (case kA => exact rfl); (case kF => exact rfl); (case kK => assumption); (case k1 => k_asm); (case k2 => k_asm); (case k3 => k_asm); (case k4 => k_asm); (case k5 => k_asm); (case k6 => k_is); (case k7 => k_is); (case k8 => ktr_room); (case k9 => exact BindsTo.of_eq rfl); (case c5 => decide); (case kB => exact locs rfl); (case c2 => exact rfl); (case c3 => exact rfl); (case c4 => exact rfl); k_whole; intro g' L' h' FG' F' N' B' X' T'; (try dsimp only [List.reverse, List.reverseAux] at F'); (try dsimp only); (try k_fold))
  k_steps
  all_goals (walk_at "my t2")
  all_goals first | rfl | (unfold oF oT; walk_at "my norm"; first | omega | (simp_all; done) | trace_state)
local macro_rules | `(tactic| walk_at "call ref") => `(tactic| (k_here; (with_reducible show wpAny _ _ (PySem.call (Value.ref 311) _) _ _ _); k_dflt (
  (refine' con_use (c_gToO _ _ _ _ _ _ _ _ _ _ _) ?k1 ?k2 ?k3 ?k4 ?k5 ?kK ?ko ?kd ?ku ?_);
  (case k1 => first | k_asm | ktn_no "use c_gToO: below"); (case k2 => first | k_asm | ktn_no "use c_gToO: frame"); (case k3 => first | k_asm | ktn_no "use c_gToO: part"); (case k4 => first | k_asm | ktn_no "use c_gToO: ledger"); (case k5 => first | k_asm | ktn_no "use c_gToO: top"); (case kK => first | exact rfl | assumption | ktn_no "use c_gToO: kind");
  (case ko => first | (first | trivial | assumption | (walk_at "my dec")) | ktn_no "use c_gToO: ok"); (case kd => first | ktr_room | ktn_no "use c_gToO: room"); (case ku => first | ktr_units | ktn_no "use c_gToO: units");
  dsimp only [Ret]; intro D9 t91 t92 c9 h9 tk9 F9 N9; (try dsimp only); (try k_sweep); (try k_fold))))
set_option maxHeartbeats 1000000 in
theorem c_oToG (w : World) (s₀ : Shared) (mg mb : Str → Option Value) (news : List (Addr × Obj)) (y p : Int) (t1 t2 : Tok) : Con w s₀ mg mb 318 3 [.int y t1, .int p t2] news (1 ≤ p) (.t3 y (oM y p) (oD y p)) := by
  unfold Con
  k_fill
  intro dp un gd cn cs aF ccd cl outer AF baseH hB LF mF sF QF EF B F X N T hk hok hd hu hret
  dsimp only [TopC] at T
  refine wpAny_call ?_
  k_dflt
  (refine' code_def (binds := [(Str.ofString "year", .int y t1), (Str.ofString "dayofyear", .int p t2)]) ?k1 ?k2 ?k3 ?k4 ?k5 ?kA ?kF ?kK ?k6 ?k7 ?k8 ?k9 ?kB ?_ ?c2 ?c3 ?c4 ?c5; (case kA => exact rfl); (case kF => exact rfl); (case kK => assumption); (case k1 => k_asm); (case k2 => k_asm); (case k3 => k_asm); (case k4 => k_asm); (case k5 => k_asm); (case k6 => k_is); (case k7 => k_is); (case k8 => ktr_room); (case k9 => exact BindsTo.of_eq rfl); (case c5 => decide); (case kB => exact locs rfl); (case c2 => exact rfl); (case c3 => exact rfl); (case c4 => exact rfl); k_whole; intro g' L' h' FG' F' N' B' X' T'; (try dsimp only [List.reverse, List.reverseAux] at F'); (try dsimp only); (try k_fold))
  k_steps
  all_goals (walk_at "my t3")
  all_goals first | rfl | (refine oM_e ?_; first | exact oAdj0 (by assumption) | exact oAdj1 (by assumption) (by assumption) | exact oAdj2 (by assumption) (by assumption) | exact oAdj2 (by assumption) (ne_true_of_eq_false (by assumption)) | trace_state) | (refine oD_e ?_; first | exact oAdj0 (by assumption) | exact oAdj1 (by assumption) (by assumption) | exact oAdj2 (by assumption) (by assumption) | exact oAdj2 (by assumption) (ne_true_of_eq_false (by assumption)) | trace_state) | trace_state
local macro_rules | `(tactic| walk_at "call ref") => `(tactic| (k_here; (with_reducible show wpAny _ _ (PySem.call (Value.ref 318) _) _ _ _); k_dflt (
  (refine' con_use (c_oToG _ _ _ _ _ _ _ _ _) ?k1 ?k2 ?k3 ?k4 ?k5 ?kK ?ko ?kd ?ku ?_);
  (case k1 => first | k_asm | ktn_no "use c_oToG: below"); (case k2 => first | k_asm | ktn_no "use c_oToG: frame"); (case k3 => first | k_asm | ktn_no "use c_oToG: part"); (case k4 => first | k_asm | ktn_no "use c_oToG: ledger"); (case k5 => first | k_asm | ktn_no "use c_oToG: top"); (case kK => first | exact rfl | assumption | ktn_no "use c_oToG: kind");
  (case ko => first | (first | trivial | assumption | (walk_at "my dec")) | ktn_no "use c_oToG: ok"); (case kd => first | ktr_room | ktn_no "use c_oToG: room"); (case ku => first | ktr_units | ktn_no "use c_oToG: units");
  dsimp only [Ret]; intro D9 t91 t92 t93 c9 h9 tk9 F9 N9; (try dsimp only); (try k_sweep); (try k_fold))))
def jj (y : Int) : Int := 365 * (y + 4715) + (y + 4715) / 4 - 1096
theorem d4 (z : Int) : 1461 * z / 4 = 365 * z + z / 4 := by omega
theorem leapJ_b (y : Int) : (b2i (leapJ y) = 1 ∧ y % 4 = 0) ∨ (b2i (leapJ y) = 0 ∧ ¬ y % 4 = 0) := by
  unfold leapJ; rw [fm]
  by_cases h : y % 4 = 0
  · left; exact ⟨by simp [h, b2i], h⟩
  · right; exact ⟨by simp [h, b2i], h⟩
theorem toJ_eq (y : Int) {m : Int} (d : Int) (h1 : 1 ≤ m) (h2 : m ≤ 12) : toJ y m d = jj y + cum (leapJ y) m + d := by
  have hl := leapJ_b y
  unfold toJ jj cum
  rw [fd, fd, fd, fd, d4, d4, show y - 1 + 4716 = y + 4715 by omega]
  have hm : m = 1 ∨ m = 2 ∨ m = 3 ∨ m = 4 ∨ m = 5 ∨ m = 6 ∨ m = 7 ∨ m = 8 ∨ m = 9 ∨ m = 10 ∨ m = 11 ∨ m = 12 := by omega
  rcases hm with rfl | rfl | rfl | rfl | rfl | rfl | rfl | rfl | rfl | rfl | rfl | rfl <;> simp <;> omega
theorem jj_step (y : Int) : jj (y + 1) = jj y + 365 + b2i (leapJ y) := by
  have hl := leapJ_b y
  unfold jj; omega
theorem jj_lt {y z : Int} (h : y < z) : jj y + 365 ≤ jj z := by unfold jj; omega
theorem jOk (n : Int) : okD (leapJ (jY n)) (jM n) (jD n) ∧ toJ (jY n) (jM n) (jD n) = n := by
  have hE := jE_range n
  have hC : jC n = (20 * (n + 1524) - 2442) / 7305 := by unfold jC; rw [fd]
  have hB : jB n = n + 1524 - (365 * jC n + jC n / 4) := by unfold jB; rw [fd, d4]
  have hEd : jE n = jB n * 10000 / 306001 := by unfold jE; rw [fd]
  have hD : jD n = jB n - 306001 * jE n / 10000 := by unfold jD; rw [fd]
  have hl := leapJ_b (jY n)
  have hM : jM n = if jE n < 14 then jE n - 1 else jE n - 13 := rfl
  have hY : jY n = if 2 < jM n then jC n - 4716 else jC n - 4715 := rfl
  have hm : 1 ≤ jM n ∧ jM n ≤ 12 := by split at hM <;> omega
  rw [toJ_eq _ _ hm.1 hm.2]
  unfold okD jj cum dim
  generalize jC n = c at *
  generalize jB n = b at *
  generalize jE n = e at *
  generalize jM n = m at *
  generalize jY n = y at *
  generalize jD n = d at *
  generalize b2i (leapJ y) = l at *
  have he : e = 4 ∨ e = 5 ∨ e = 6 ∨ e = 7 ∨ e = 8 ∨ e = 9 ∨ e = 10 ∨ e = 11 ∨ e = 12 ∨ e = 13 ∨ e = 14 ∨ e = 15 := by omega
  rcases he with rfl | rfl | rfl | rfl | rfl | rfl | rfl | rfl | rfl | rfl | rfl | rfl <;> simp at hM <;> subst hM <;> simp at hY <;> subst hY <;> simp <;> omega
theorem jj_inj {y z n : Int} (h1 : jj y < n) (h2 : n ≤ jj (y + 1)) (g1 : jj z < n) (g2 : n ≤ jj (z + 1)) : y = z := by
  rcases Int.lt_trichotomy y z with hlt | he | hgt
  · rcases Int.lt_or_le (y + 1) z with h3 | h3
    · have := jj_lt h3; omega
    · have e1 : z = y + 1 := by omega
      rw [e1] at g1; omega
  · exact he
  · rcases Int.lt_or_le (z + 1) y with h3 | h3
    · have := jj_lt h3; omega
    · have e1 : y = z + 1 := by omega
      rw [e1] at h1; omega
theorem jUniq {y m d n : Int} (h : okD (leapJ y) m d) (e : toJ y m d = n) : y = jY n ∧ m = jM n ∧ d = jD n := by
  have hr := okD_range h
  obtain ⟨g, ge⟩ := jOk n
  have gr := okD_range g
  rw [toJ_eq _ _ h.1 h.2.1] at e
  rw [toJ_eq _ _ g.1 g.2.1] at ge
  have s1 := jj_step y
  have s2 := jj_step (jY n)
  have hy : y = jY n := jj_inj (n := n) (by omega) (by omega) (by omega) (by omega)
  subst hy
  exact ⟨rfl, okD_inj h g (by omega)⟩
def dM (lp : Bool) (r : Int) : Int := ((r + (if r < 58 + b2i lp then 0 else 2 - b2i lp)) * 12 + 373) / 367
def dD (lp : Bool) (r : Int) : Int := r - cum lp (dM lp r) + 1
theorem dM_of {lp : Bool} {r k : Int} (h0 : 1 ≤ k ∧ k ≤ 12) (h1 : cum lp k ≤ r) (h2 : r < cum lp k + dim lp k) : k = dM lp r := by
  have hb := b2i_range lp
  have hr : 0 ≤ r ∧ r < 365 + b2i lp := by
    have := okD_range (lp := lp) (m := k) (d := r - cum lp k + 1) ⟨h0.1, h0.2, by omega, by omega⟩
    omega
  have h := mo_ok lp hr.1 hr.2 rfl
  have e : dM lp r = ((r + if r < 58 + b2i lp then 0 else 2 - b2i lp) * 12 + 373) / 367 := rfl
  rw [← e] at h
  have := okD_inj (lp := lp) (m := k) (d := r - cum lp k + 1) (k := dM lp r) (e := r - cum lp (dM lp r) + 1) ⟨h0.1, h0.2, by omega, by omega⟩ ⟨h.1, h.2.1, by omega, by omega⟩ (by omega)
  exact this.1
theorem dD_of {lp : Bool} {r k x : Int} (h0 : 1 ≤ k ∧ k ≤ 12) (h1 : cum lp k ≤ r) (h2 : r < cum lp k + dim lp k) (hx : x = r - cum lp k + 1) : x = dD lp r := by
  unfold dD; rw [← dM_of h0 h1 h2]; exact hx
set_option maxHeartbeats 1000000 in
theorem c_wide (w : World) (s₀ : Shared) (mg mb : Str → Option Value) (news : List (Addr × Obj)) (y : Int) (t : Tok) : Con w s₀ mg mb 332 1 [.int y t] news (True) (.bool (leapB y)) := by
  unfold Con
  k_fill
  intro dp un gd cn cs aF ccd cl outer AF baseH hB LF mF sF QF EF B F X N T hk hok hd hu hret
  dsimp only [TopC] at T
  refine wpAny_call ?_
  k_dflt
  (refine' code_def (binds := [(Str.ofString "year", .int y t)]) ?k1 ?k2 ?k3 ?k4 ?k5 ?kA ?kF ?kK ?k6 ?k7 ?k8 ?k9 ?kB ?_ ?c2 ?c3 ?c4 ?c5; (case kA => exact rfl); (case kF => exact rfl); (case kK => assumption); (case k1 => k_asm); (case k2 => k_asm); (case k3 => k_asm); (case k4 => k_asm); (case k5 => k_asm); (case k6 => k_is); (case k7 => k_is); (case k8 => ktr_room); (case k9 => exact BindsTo.of_eq rfl); (case c5 => decide); (case kB => exact locs rfl); (case c2 => exact rfl); (case c3 => exact rfl); (case c4 => exact rfl); k_whole; intro g' L' h' FG' F' N' B' X' T'; (try dsimp only [List.reverse, List.reverseAux] at F'); (try dsimp only); (try k_fold))
  k_steps
  all_goals (walk_at "my bool"; law_fm; first | (simp_all [leapB]; done) | (simp_all [leapB]; omega))
local macro_rules | `(tactic| walk_at "call ref") => `(tactic| (k_here; (with_reducible show wpAny _ _ (PySem.call (Value.ref 332) _) _ _ _); k_dflt (
  (refine' con_use (c_wide _ _ _ _ _ _ _) ?k1 ?k2 ?k3 ?k4 ?k5 ?kK ?ko ?kd ?ku ?_);
  (case k1 => first | k_asm | ktn_no "use c_wide: below"); (case k2 => first | k_asm | ktn_no "use c_wide: frame"); (case k3 => first | k_asm | ktn_no "use c_wide: part"); (case k4 => first | k_asm | ktn_no "use c_wide: ledger"); (case k5 => first | k_asm | ktn_no "use c_wide: top"); (case kK => first | exact rfl | assumption | ktn_no "use c_wide: kind");
  (case ko => first | (first | trivial | assumption | (walk_at "my dec")) | ktn_no "use c_wide: ok"); (case kd => first | ktr_room | ktn_no "use c_wide: room"); (case ku => first | ktr_units | ktn_no "use c_wide: units");
  dsimp only [Ret]; intro h9 tk9 F9 N9; (try dsimp only); (try k_sweep); (try k_fold))))
set_option maxHeartbeats 2000000 in
theorem c_dateT (w : World) (s₀ : Shared) (mg mb : Str → Option Value) (news : List (Addr × Obj)) (y r : Int) (t1 t2 : Tok) : Con w s₀ mg mb 353 2 [.int y t1, .int r t2, .bool true] news (0 ≤ r ∧ r < 366) (.t3 y (dM true r) (dD true r)) := by
  unfold Con
  k_fill
  intro dp un gd cn cs aF ccd cl outer AF baseH hB LF mF sF QF EF B F X N T hk hok hd hu hret
  dsimp only [TopC] at T
  refine wpAny_call ?_
  k_dflt
  (refine' enter0 (binds := [(Str.ofString "year", .int y t1), (Str.ofString "rest", .int r t2), (Str.ofString "wide", .bool true)]) ?k1 ?k2 ?k3 ?k5 ?kA ?kF ?kK ?k6 ?k7 ?k8 ?k9 ?kB ?_ ?c2 ?c3 ?c4 ?c5; (case kA => exact rfl); (case kF => exact rfl); (case kK => assumption); (case k1 => k_asm); (case k2 => k_asm); (case k3 => k_asm); (case k5 => k_asm); (case k6 => k_is); (case k7 => k_is); (case k8 => ktr_room); (case k9 => exact BindsTo.of_eq rfl); (case c5 => decide); (case kB => exact locs rfl); (case c2 => exact rfl); (case c3 => exact rfl); (case c4 => exact rfl); k_whole; intro g' L' h' FG' F' N' B' X' T' st'; (try dsimp only [List.reverse, List.reverseAux] at F'); (try dsimp only); (try k_fold))
  have hpm : PruneMark := True.intro
  k_steps
  all_goals (walk_at "fin t3")
  all_goals first
    | rfl
    | (refine dM_of (by decide) ?_ ?_ <;> ((try simp [cum, dim, b2i]) <;> omega))
    | (first
       | (refine dD_of (k := 1) (by decide) ?_ ?_ ?_ <;> ((try simp [cum, dim, b2i]) <;> omega))
       | (refine dD_of (k := 2) (by decide) ?_ ?_ ?_ <;> ((try simp [cum, dim, b2i]) <;> omega))
       | (refine dD_of (k := 3) (by decide) ?_ ?_ ?_ <;> ((try simp [cum, dim, b2i]) <;> omega))
       | (refine dD_of (k := 4) (by decide) ?_ ?_ ?_ <;> ((try simp [cum, dim, b2i]) <;> omega))
       | (refine dD_of (k := 5) (by decide) ?_ ?_ ?_ <;> ((try simp [cum, dim, b2i]) <;> omega))
       | (refine dD_of (k := 6) (by decide) ?_ ?_ ?_ <;> ((try simp [cum, dim, b2i]) <;> omega))
       | (refine dD_of (k := 7) (by decide) ?_ ?_ ?_ <;> ((try simp [cum, dim, b2i]) <;> omega))
       | (refine dD_of (k := 8) (by decide) ?_ ?_ ?_ <;> ((try simp [cum, dim, b2i]) <;> omega))
       | (refine dD_of (k := 9) (by decide) ?_ ?_ ?_ <;> ((try simp [cum, dim, b2i]) <;> omega))
       | (refine dD_of (k := 10) (by decide) ?_ ?_ ?_ <;> ((try simp [cum, dim, b2i]) <;> omega))
       | (refine dD_of (k := 11) (by decide) ?_ ?_ ?_ <;> ((try simp [cum, dim, b2i]) <;> omega))
       | (refine dD_of (k := 12) (by decide) ?_ ?_ ?_ <;> ((try simp [cum, dim, b2i]) <;> omega)))
    | trace_state
local macro_rules | `(tactic| walk_at "call ref") => `(tactic| (k_here; (with_reducible show wpAny _ _ (PySem.call (Value.ref 353) _) _ _ _); k_dflt (
  (refine' con_use (c_dateT _ _ _ _ _ _ _ _ _) ?k1 ?k2 ?k3 ?k4 ?k5 ?kK ?ko ?kd ?ku ?_);
  (case k1 => first | k_asm | ktn_no "use c_dateT: below"); (case k2 => first | k_asm | ktn_no "use c_dateT: frame"); (case k3 => first | k_asm | ktn_no "use c_dateT: part"); (case k4 => first | k_asm | ktn_no "use c_dateT: ledger"); (case k5 => first | k_asm | ktn_no "use c_dateT: top"); (case kK => first | exact rfl | assumption | ktn_no "use c_dateT: kind");
  (case ko => first | (first | trivial | assumption | (walk_at "my dec")) | ktn_no "use c_dateT: ok"); (case kd => first | ktr_room | ktn_no "use c_dateT: room"); (case ku => first | ktr_units | ktn_no "use c_dateT: units");
  dsimp only [Ret]; intro D9 t91 t92 t93 c9 h9 tk9 F9 N9; (try dsimp only); (try k_sweep); (try k_fold))))
set_option maxHeartbeats 2000000 in
theorem c_dateF (w : World) (s₀ : Shared) (mg mb : Str → Option Value) (news : List (Addr × Obj)) (y r : Int) (t1 t2 : Tok) : Con w s₀ mg mb 353 2 [.int y t1, .int r t2, .bool false] news (0 ≤ r ∧ r < 365) (.t3 y (dM false r) (dD false r)) := by
  unfold Con
  k_fill
  intro dp un gd cn cs aF ccd cl outer AF baseH hB LF mF sF QF EF B F X N T hk hok hd hu hret
  dsimp only [TopC] at T
  refine wpAny_call ?_
  k_dflt
  (refine' enter0 (binds := [(Str.ofString "year", .int y t1), (Str.ofString "rest", .int r t2), (Str.ofString "wide", .bool false)]) ?k1 ?k2 ?k3 ?k5 ?kA ?kF ?kK ?k6 ?k7 ?k8 ?k9 ?kB ?_ ?c2 ?c3 ?c4 ?c5; (case kA => exact rfl); (case kF => exact rfl); (case kK => assumption); (case k1 => k_asm); (case k2 => k_asm); (case k3 => k_asm); (case k5 => k_asm); (case k6 => k_is); (case k7 => k_is); (case k8 => ktr_room); (case k9 => exact BindsTo.of_eq rfl); (case c5 => decide); (case kB => exact locs rfl); (case c2 => exact rfl); (case c3 => exact rfl); (case c4 => exact rfl); k_whole; intro g' L' h' FG' F' N' B' X' T' st'; (try dsimp only [List.reverse, List.reverseAux] at F'); (try dsimp only); (try k_fold))
  have hpm : PruneMark := True.intro
  k_steps
  all_goals (walk_at "fin t3")
  all_goals first
    | rfl
    | (refine dM_of (by decide) ?_ ?_ <;> ((try simp [cum, dim, b2i]) <;> omega))
    | (first
       | (refine dD_of (k := 1) (by decide) ?_ ?_ ?_ <;> ((try simp [cum, dim, b2i]) <;> omega))
       | (refine dD_of (k := 2) (by decide) ?_ ?_ ?_ <;> ((try simp [cum, dim, b2i]) <;> omega))
       | (refine dD_of (k := 3) (by decide) ?_ ?_ ?_ <;> ((try simp [cum, dim, b2i]) <;> omega))
       | (refine dD_of (k := 4) (by decide) ?_ ?_ ?_ <;> ((try simp [cum, dim, b2i]) <;> omega))
       | (refine dD_of (k := 5) (by decide) ?_ ?_ ?_ <;> ((try simp [cum, dim, b2i]) <;> omega))
       | (refine dD_of (k := 6) (by decide) ?_ ?_ ?_ <;> ((try simp [cum, dim, b2i]) <;> omega))
       | (refine dD_of (k := 7) (by decide) ?_ ?_ ?_ <;> ((try simp [cum, dim, b2i]) <;> omega))
       | (refine dD_of (k := 8) (by decide) ?_ ?_ ?_ <;> ((try simp [cum, dim, b2i]) <;> omega))
       | (refine dD_of (k := 9) (by decide) ?_ ?_ ?_ <;> ((try simp [cum, dim, b2i]) <;> omega))
       | (refine dD_of (k := 10) (by decide) ?_ ?_ ?_ <;> ((try simp [cum, dim, b2i]) <;> omega))
       | (refine dD_of (k := 11) (by decide) ?_ ?_ ?_ <;> ((try simp [cum, dim, b2i]) <;> omega))
       | (refine dD_of (k := 12) (by decide) ?_ ?_ ?_ <;> ((try simp [cum, dim, b2i]) <;> omega)))
    | trace_state
local macro_rules | `(tactic| walk_at "call ref") => `(tactic| (k_here; (with_reducible show wpAny _ _ (PySem.call (Value.ref 353) _) _ _ _); k_dflt (
  (refine' con_use (c_dateF _ _ _ _ _ _ _ _ _) ?k1 ?k2 ?k3 ?k4 ?k5 ?kK ?ko ?kd ?ku ?_);
  (case k1 => first | k_asm | ktn_no "use c_dateF: below"); (case k2 => first | k_asm | ktn_no "use c_dateF: frame"); (case k3 => first | k_asm | ktn_no "use c_dateF: part"); (case k4 => first | k_asm | ktn_no "use c_dateF: ledger"); (case k5 => first | k_asm | ktn_no "use c_dateF: top"); (case kK => first | exact rfl | assumption | ktn_no "use c_dateF: kind");
  (case ko => first | (first | assumption | (walk_at "my ok2") | (walk_at "my dec")) | ktn_no "use c_dateF: ok"); (case kd => first | ktr_room | ktn_no "use c_dateF: room"); (case ku => first | ktr_units | ktn_no "use c_dateF: units");
  dsimp only [Ret]; intro D9 t91 t92 t93 c9 h9 tk9 F9 N9; (try dsimp only); (try k_sweep); (try k_fold))))
def nf (R g : Int) : Int := 2451545 + 146097 * R + 365 * g + (g + 3) / 4 - (g + 99) / 100 + (g + 399) / 400
def P1 (R r g n : Int) : Prop := 0 ≤ g ∧ g ≤ r ∧ r < 400 ∧ g % 100 = 0 ∧ n = nf R g
def P2 (R r g n : Int) : Prop := 0 ≤ g ∧ g ≤ r ∧ r < 400 ∧ g % 4 = 0 ∧ r < g + 100 ∧ n = nf R g
def P3 (R r g n : Int) : Prop := 0 ≤ g ∧ g ≤ r ∧ r < 400 ∧ n = nf R g
theorem p1_start (y : Int) : P1 ((y - 2000).fdiv 400) ((y - 2000).fmod 400) 0 (2451545 + 146097 * (y - 2000).fdiv 400) := by
  rw [fd, fm]; unfold P1 nf; omega
theorem p1_a {R r g n : Int} (h : P1 R r g n) (t : g + 100 ≤ r) (e : g = 0) : P1 R r (g + 100) (n + 36525) := by unfold P1 nf at *; omega
theorem p1_b {R r g n : Int} (h : P1 R r g n) (t : g + 100 ≤ r) (e : ¬ g = 0) : P1 R r (g + 100) (n + 36524) := by unfold P1 nf at *; omega
theorem p2_start {R r g n : Int} (h : P1 R r g n) (t : ¬ g + 100 ≤ r) : P2 R r g n := by unfold P1 P2 nf at *; omega
theorem p2_a {R r g n : Int} (h : P2 R r g n) (t : g + 4 ≤ r) (e : leapB g = true) : P2 R r (g + 4) (n + 1461) := by rw [leap_iff] at e; unfold P2 nf at *; omega
theorem p2_b {R r g n : Int} (h : P2 R r g n) (t : g + 4 ≤ r) (e : ¬ leapB g = true) : P2 R r (g + 4) (n + 1460) := by rw [leap_iff] at e; unfold P2 nf at *; omega
theorem p3_start {R r g n : Int} (h : P2 R r g n) (t : ¬ g + 4 ≤ r) : P3 R r g n := by unfold P2 P3 nf at *; omega
theorem p3_a {R r g n : Int} (h : P3 R r g n) (t : g < r) (e : leapB g = true) : P3 R r (g + 1) (n + 366) := by rw [leap_iff] at e; unfold P3 nf at *; omega
theorem p3_b {R r g n : Int} (h : P3 R r g n) (t : g < r) (e : ¬ leapB g = true) : P3 R r (g + 1) (n + 365) := by rw [leap_iff] at e; unfold P3 nf at *; omega
theorem p3_end {y g n : Int} (h : P3 ((y - 2000).fdiv 400) ((y - 2000).fmod 400) g n) (t : ¬ g < (y - 2000).fmod 400) : n = toG y 1 1 := by
  rw [toG_11]; rw [fm] at *; rw [fd] at *; unfold P3 nf at h; unfold jan0; omega
theorem p_less {r g k : Int} (h : g + k ≤ r) (hk : 0 < k) : (r - (g + k)).toNat < (r - g).toNat := by omega
set_option maxHeartbeats 2000000 in
theorem c_newYear (w : World) (s₀ : Shared) (mg mb : Str → Option Value) (news : List (Addr × Obj)) (y : Int) (t : Tok) : Con w s₀ mg mb 346 2 [.int y t] news (True) (.int (toG y 1 1)) := by
  k_with_none
  (k_with "state" => first | exact p1_start _ | exact p1_a (by assumption) (by assumption) (by assumption) | exact p1_b (by assumption) (by assumption) (by assumption) | exact p2_start (by assumption) (by assumption) | exact p2_a (by assumption) (by assumption) (by assumption) | exact p2_b (by assumption) (by assumption) (by assumption) | exact p2_b (by assumption) (by assumption) (ne_true_of_eq_false (by assumption)) | exact p3_start (by assumption) (by assumption) | exact p3_a (by assumption) (by assumption) (by assumption) | exact p3_b (by assumption) (by assumption) (by assumption) | exact p3_b (by assumption) (by assumption) (ne_true_of_eq_false (by assumption)))
  (k_with "measure" => first | omega | (simp_all; omega))
  (k_with "exec While Compare cons nil" => k_while (fun _ g n => P1 ((y - 2000).fdiv 400) ((y - 2000).fmod 400) g n) (fun _ g _ => ((y - 2000).fmod 400 - g).toNat) "gone" "number")
  (k_with "exec While Compare cons nil" => k_while (fun _ g n => P2 ((y - 2000).fdiv 400) ((y - 2000).fmod 400) g n) (fun _ g _ => ((y - 2000).fmod 400 - g).toNat) "gone" "number")
  (k_with "exec While Compare cons nil" => k_while (fun _ g n => P3 ((y - 2000).fdiv 400) ((y - 2000).fmod 400) g n) (fun _ g _ => ((y - 2000).fmod 400 - g).toNat) "gone" "number")
  unfold Con
  k_fill
  intro dp un gd cn cs aF ccd cl outer AF baseH hB LF mF sF QF EF B F X N T hk hok hd hu hret
  dsimp only [TopC] at T
  refine wpAny_call ?_
  k_dflt
  (refine' enter0 (binds := [(Str.ofString "year", .int y t)]) ?k1 ?k2 ?k3 ?k5 ?kA ?kF ?kK ?k6 ?k7 ?k8 ?k9 ?kB ?_ ?c2 ?c3 ?c4 ?c5; (case kA => exact rfl); (case kF => exact rfl); (case kK => assumption); (case k1 => k_asm); (case k2 => k_asm); (case k3 => k_asm); (case k5 => k_asm); (case k6 => k_is); (case k7 => k_is); (case k8 => ktr_room); (case k9 => exact BindsTo.of_eq rfl); (case c5 => decide); (case kB => exact locs rfl); (case c2 => exact rfl); (case c3 => exact rfl); (case c4 => exact rfl); k_whole; intro g' L' h' FG' F' N' B' X' T' st'; (try dsimp only [List.reverse, List.reverseAux] at F'); (try dsimp only); (try k_fold))
  k_steps
  all_goals (walk_at "fin0 int")
  all_goals exact p3_end (by assumption) (by assumption)
  k_with_none
-- use below
local macro_rules | `(tactic| walk_at "call ref") => `(tactic| (k_here; (with_reducible show wpAny _ _ (PySem.call (Value.ref 346) _) _ _ _); k_dflt (
  (refine' con_use (c_newYear _ _ _ _ _ _ _) ?k1 ?k2 ?k3 ?k4 ?k5 ?kK ?ko ?kd ?ku ?_);
  (case k1 => first | k_asm | ktn_no "use c_newYear: below"); (case k2 => first | k_asm | ktn_no "use c_newYear: frame"); (case k3 => first | k_asm | ktn_no "use c_newYear: part"); (case k4 => first | k_asm | ktn_no "use c_newYear: ledger"); (case k5 => first | k_asm | ktn_no "use c_newYear: top"); (case kK => first | exact rfl | assumption | ktn_no "use c_newYear: kind");
  (case ko => first | (first | trivial | assumption | (walk_at "my dec")) | ktn_no "use c_newYear: ok"); (case kd => first | ktr_room | ktn_no "use c_newYear: room"); (case ku => first | ktr_units | ktn_no "use c_newYear: units");
  dsimp only [Ret]; intro t9 h9 tk9 F9 N9; (try dsimp only); (try k_sweep); (try k_fold))))

def lexB : List Int → List Int → Bool
  | [], [] => false
  | [], _ :: _ => true
  | _ :: _, [] => false
  | a :: r, b :: t => if a = b then lexB r t else decide (a < b)
set_option maxHeartbeats 1000000 in
theorem lt_ints (l b : Addr) (xs ys : List Value) (ns ms : List Int) (hx : IntsAre xs ns) (hy : IntsAre ys ms) (hlen : ns.length = ms.length) (n n2 : Nat) (dd dd2 : Option Addr) (sl sl2 : Array (Option Value)) :
    Meets (Builtin.«tuple.__lt__» ⟨[.ref l, .ref b], []⟩)
      (fun A R s => s.heap.get? l = some { cls := .type "tuple", dict := dd, data := .seq xs.toArray n, slots := sl } ∧ s.heap.get? b = some { cls := .type "tuple", dict := dd2, data := .seq ys.toArray n2, slots := sl2 } ∧
        R (.ok (.ret (.bool (lexB ns ms)))) s) :=
  .of_wp fun prog w A R s h => by
    obtain ⟨hp, g, d, tk, os⟩ := s; obtain ⟨hl, hb, h⟩ := h
    have f2 := AutoSeq1.sub_tuple_tuple
    have hsz : ¬ (xs.length < ys.length) := by rw [hx.length, hy.length, hlen]; omega
    wp_walk using wpAny_loadPart' hl, wpAny_loadPart' hb, wpAny_forIn_list _ (fun rest b s' => b.1 = none ∧ s' = ⟨hp, g, d, tk, os⟩ ∧ ∃ xs' ys' ns' ms', IntsAre xs' ns' ∧ IntsAre ys' ms' ∧ rest = xs'.zip ys' ∧ ns'.length = ms'.length ∧
      R (.ok (.ret (.bool (lexB ns' ms')))) ⟨hp, g, d, tk, os⟩) _
    case turn =>
      rintro ⟨y, x⟩ rest b s' ⟨hb', rfl, xs', ys', ns', ms', h1, h2, hz, hln, hR⟩
      cases h1 with
      | nil => cases hz
      | cons a t h1 =>
        cases h2 with
        | nil => cases hln
        | cons c u h2 =>
          rw [List.zip_cons_cons] at hz
          injection hz with e1 e2
          injection e1 with e3 e4
          subst e3 e4
          refine wpAny_bind (PySem.wpAny_eqBool_int ?_)
          by_cases hac : a = c
          · subst hac
            rw [show (a == a) = true from beq_self_eq_true a]
            wp_walk
            refine ⟨rfl, rfl, _, _, _, _, h1, h2, e2, by simpa using hln, ?_⟩
            simpa [lexB] using hR
          · rw [show (a == c) = false from by simpa using hac]
            rw [if_pos (show (!false) = true from rfl)]
            refine wpAny_bind (wpAny_rule (wpAny_bind ?_))
            refine PyProof.Rows.lt_int (h := ?_)
            have e : ∀ r t, lexB (a :: r) (c :: t) = decide (a < c) := fun r t => if_neg hac
            rw [e] at hR
            wp_walk
            exact ⟨_, rfl, hR⟩
    case fin =>
      rintro ⟨b1, b2⟩ s' ⟨hb', rfl, xs', ys', ns', ms', h1, h2, hz, hln, hR⟩
      simp only at hb'
      subst hb'
      have hn : lexB ns' ms' = false := by
        cases h1 with
        | nil => cases h2 with
          | nil => rfl
          | cons => cases hln
        | cons => cases h2 with
          | nil => cases hln
          | cons => cases hz
      rw [hn] at hR
      wp_walk
      exact ⟨_, rfl, by simpa [Builtin.Tuple.tupleCompareSizes, hsz] using hR⟩
    case h =>
      exact ⟨rfl, rfl, xs, ys, ns, ms, hx, hy, by simp, hlen, by simpa using h⟩

section
variable {prog : Program} {w : World} {A : Around} {E : Value → Shared → Prop} {s : Shared} {a b : Addr} {xs ys : List Value} {ns ms : List Int} {Q : Value → Shared → Prop}
theorem reads_ints {h : Heap} : ∀ {vs : List Value} {ks : List Int}, IntsAre vs ks → ReadsAll h vs (ks.map PyData.int) []
  | _, _, .nil => .nil
  | _, _, .cons _ t r => .cons (as := []) (.int _ t) (reads_ints r)
theorem shaped_ints (ks : List Int) : SeqAt.shaped (.tuple (ks.map PyData.int)) = true := by
  simp [SeqAt.shaped, PyData.canLay0, PyData.depth, ke_canLayAll0, ke_depthAll]
theorem eqv_ints (ks ls : List Int) : PyData.eqv (.tuple (ks.map PyData.int)) (.tuple (ls.map PyData.int)) = decide (ks = ls) := by
  simp only [PyData.eqv]; exact ked_eqvAll ks ls
theorem tup_reads (ha : IsTup s.heap a xs.toArray) (hi : IntsAre xs ns) : Reads s.heap (.ref a) (.tuple (ns.map PyData.int)) [] := by
  obtain ⟨o, ho, hc, n, hd⟩ := ha
  exact reads_tuple_at ho hc hd (by simpa using reads_ints hi)
theorem eq_tup (ha : IsTup s.heap a xs.toArray) (hb : IsTup s.heap b ys.toArray) (hi : IntsAre xs ns) (hj : IntsAre ys ms) (hu : A.units + 64 < cLine) (h : Q (.bool (decide (ns = ms))) s) :
    wpAny (model prog w) A (compareOp .Eq (.ref a) (.ref b)) Q E s :=
  eq_dataH (tup_reads ha hi) (tup_reads hb hj) (shaped_ints _) (shaped_ints _) hu (by rw [eqv_ints]; exact h)
theorem ne_tup (ha : IsTup s.heap a xs.toArray) (hb : IsTup s.heap b ys.toArray) (hi : IntsAre xs ns) (hj : IntsAre ys ms) (hu : A.units + 64 < cLine) (h : Q (.bool (!decide (ns = ms))) s) :
    wpAny (model prog w) A (compareOp .NotEq (.ref a) (.ref b)) Q E s :=
  ne_dataH (tup_reads ha hi) (tup_reads hb hj) (shaped_ints _) (shaped_ints _) hu (by rw [eqv_ints]; exact h)
theorem lt_tup (ha : IsTup s.heap a xs.toArray) (hb : IsTup s.heap b ys.toArray) (hi : IntsAre xs ns) (hj : IntsAre ys ms) (hlen : ns.length = ms.length) (hu : A.units < cLine) (h : Q (.bool (lexB ns ms)) s) :
    wpAny (model prog w) A (compareOp .Lt (.ref a) (.ref b)) Q E s := by
  obtain ⟨⟨cls, dd, data, sl⟩, ho, hc, n, hd⟩ := id ha
  obtain ⟨⟨cls2, dd2, data2, sl2⟩, ho2, hc2, n2, hd2⟩ := id hb
  simp only at hc hd hc2 hd2
  subst hc hd hc2 hd2
  exact richCompare_meets_room (op := .Lt) ⟨_, ho, rfl⟩ ⟨_, ho2, rfl⟩ PySem.F.slot_tuple_lt PySem.F.entry_tuple_lt (PySem.F.args_tuple_lt_2 _ _) (lt_ints a b xs ys ns ms hi hj hlen n n2 dd dd2 sl sl2)
    ⟨ho, ho2, show Value.bool (lexB ns ms) ≠ Value.notImplemented ∧ Q (.bool (lexB ns ms)) s from ⟨(fun x => nomatch x), h⟩⟩ hu
end

def nxY (lp : Bool) (y m d : Int) : Int := if d < dim lp m then y else if m < 12 then y else y + 1
def nxM (lp : Bool) (m d : Int) : Int := if d < dim lp m then m else if m < 12 then m + 1 else 1
def nxD (lp : Bool) (m d : Int) : Int := if d < dim lp m then d + 1 else 1
theorem get_T {m : Int} (h : 1 ≤ m ∧ m ≤ 12) : [31, 29, 31, 30, 31, 30, 31, 31, 30, 31, 30, (31 : Int)].getD (m - 1).toNat 0 = dim true m := by
  have hm : m = 1 ∨ m = 2 ∨ m = 3 ∨ m = 4 ∨ m = 5 ∨ m = 6 ∨ m = 7 ∨ m = 8 ∨ m = 9 ∨ m = 10 ∨ m = 11 ∨ m = 12 := by omega
  rcases hm with rfl | rfl | rfl | rfl | rfl | rfl | rfl | rfl | rfl | rfl | rfl | rfl <;> decide
theorem get_F {m : Int} (h : 1 ≤ m ∧ m ≤ 12) : [31, 28, 31, 30, 31, 30, 31, 31, 30, 31, 30, (31 : Int)].getD (m - 1).toNat 0 = dim false m := by
  have hm : m = 1 ∨ m = 2 ∨ m = 3 ∨ m = 4 ∨ m = 5 ∨ m = 6 ∨ m = 7 ∨ m = 8 ∨ m = 9 ∨ m = 10 ∨ m = 11 ∨ m = 12 := by omega
  rcases hm with rfl | rfl | rfl | rfl | rfl | rfl | rfl | rfl | rfl | rfl | rfl | rfl <;> decide
set_option maxHeartbeats 1000000 in
theorem c_next (w : World) (s₀ : Shared) (mg mb : Str → Option Value) (news : List (Addr × Obj)) (y m d : Int) (t1 t2 t3 : Tok) (c : Nat) (D : Addr) (lp : Bool) : Con w s₀ mg mb 374 2 [.ref D, .bool lp] news ((1 ≤ m ∧ m ≤ 12 ∧ (D, Tup3 y m d t1 t2 t3 c) ∈ news)) (.t3 (nxY lp y m d) (nxM lp m d) (nxD lp m d)) := by
  unfold Con
  k_fill
  intro dp un gd cn cs aF ccd cl outer AF baseH hB LF mF sF QF EF B F X N T hk hok hd hu hret
  dsimp only [TopC] at T
  refine wpAny_call ?_
  k_dflt
  (refine' enter0 (binds := [(Str.ofString "date", .ref D), (Str.ofString "wide", .bool lp)]) ?k1 ?k2 ?k3 ?k5 ?kA ?kF ?kK ?k6 ?k7 ?k8 ?k9 ?kB ?_ ?c2 ?c3 ?c4 ?c5; (case kA => exact rfl); (case kF => exact rfl); (case kK => assumption); (case k1 => k_asm); (case k2 => k_asm); (case k3 => k_asm); (case k5 => k_asm); (case k6 => k_is); (case k7 => k_is); (case k8 => ktr_room); (case k9 => exact BindsTo.of_eq rfl); (case c5 => decide); (case kB => exact locs rfl); (case c2 => exact rfl); (case c3 => exact rfl); (case c4 => exact rfl); k_whole; intro g' L' h' FG' F' N' B' X' T' st'; (try dsimp only [List.reverse, List.reverseAux] at F'); (try dsimp only); (try k_fold))
  have tD := tup_in N st' hok.2.2 rfl rfl
  have hpm : PruneMark := True.intro
  k_steps
  all_goals (walk_at "fin t3")
  all_goals first
    | (rename (lp = true) => hlp; subst hlp)
    | (rename (lp = false) => hlp; subst hlp)
    | (rename (¬ lp = true) => hlp; have hlp' := Bool.eq_false_iff.mpr hlp; subst hlp')
  all_goals (
    have hg := And.intro hok.1 hok.2.1
    clear hok
    (first | rw [get_T hg] at * | rw [get_F hg] at *)
    (first | unfold nxY | unfold nxM | unfold nxD)
    (repeat' split) <;> first | rfl | omega | (simp_all; done))
local macro_rules | `(tactic| walk_at "call ref") => `(tactic| (k_here; (with_reducible show wpAny _ _ (PySem.call (Value.ref 374) _) _ _ _); k_dflt (
  (refine' con_use (c_next _ _ _ _ _ _ _ _ _ _ _ _ _) ?k1 ?k2 ?k3 ?k4 ?k5 ?kK ?ko ?kd ?ku ?_);
  (case k1 => first | k_asm | ktn_no "use c_next: below"); (case k2 => first | k_asm | ktn_no "use c_next: frame"); (case k3 => first | k_asm | ktn_no "use c_next: part"); (case k4 => first | k_asm | ktn_no "use c_next: ledger"); (case k5 => first | k_asm | ktn_no "use c_next: top"); (case kK => first | exact rfl | assumption | ktn_no "use c_next: kind");
  (case ko => first | (exact ⟨by (walk_at "my dec"), by (walk_at "my dec"), by k_mem⟩) | ktn_no "use c_next: ok"); (case kd => first | ktr_room | ktn_no "use c_next: room"); (case ku => first | ktr_units | ktn_no "use c_next: units");
  dsimp only [Ret]; intro D9 t91 t92 t93 c9 h9 tk9 F9 N9; (try dsimp only); (try k_sweep); (try k_fold))))
def sgn (n k : Int) : Int := if n = k then 0 else if n < k then 1 else -1
def lexS (ns ms : List Int) : Int := if ns = ms then 0 else if lexB ns ms = true then 1 else -1
theorem lex_e1 {ns ms : List Int} (h : ns = ms) : 0 = lexS ns ms := by unfold lexS; rw [if_pos h]
theorem lex_e2 {ns ms : List Int} (h : ¬ ns = ms) (g : lexB ns ms = true) : 1 = lexS ns ms := by unfold lexS; rw [if_neg h, if_pos g]
theorem lex_e3 {ns ms : List Int} (h : ¬ ns = ms) (g : ¬ lexB ns ms = true) : -1 = lexS ns ms := by unfold lexS; rw [if_neg h, if_neg g]
local macro_rules | `(tactic| walk_at "my tup") => `(tactic| first | exact IsTup.keeps (by assumption) (Fr.keep (by k_asm)) | exact News.isTup (by k_asm) (by k_mem) | exact isTup_mem (by k_asm) (by k_mem))
local macro_rules | `(tactic| walk_at "my units") => `(tactic| (have hcL9 := cLine_is; (try simp only [units_in1, units_deeper, Around.mark_units, units_caller] at *); (try dsimp only [ktrTop] at *); omega))
local macro_rules | `(tactic| walk_at "compareOp Eq ref ref") => `(tactic| (k_here; k_dflt ((refine' eq_tup ?a ?b ?i ?j ?u ?_); (case a => walk_at "my tup"); (case b => walk_at "my tup"); (case i => repeat constructor); (case j => repeat constructor); (case u => walk_at "my units"); k_whole)))
local macro_rules | `(tactic| walk_at "compareOp NotEq ref ref") => `(tactic| (k_here; k_dflt ((refine' ne_tup ?a ?b ?i ?j ?u ?_); (case a => walk_at "my tup"); (case b => walk_at "my tup"); (case i => repeat constructor); (case j => repeat constructor); (case u => walk_at "my units"); k_whole)))
local macro_rules | `(tactic| walk_at "compareOp Lt ref ref") => `(tactic| (k_here; k_dflt ((refine' lt_tup ?a ?b ?i ?j ?l ?u ?_); (case a => walk_at "my tup"); (case b => walk_at "my tup"); (case i => repeat constructor); (case j => repeat constructor); (case l => rfl); (case u => walk_at "my units"); k_whole)))
set_option maxHeartbeats 1000000 in
theorem c_side3 (w : World) (s₀ : Shared) (mg mb : Str → Option Value) (news : List (Addr × Obj)) (y m d y2 m2 d2 : Int) (t1 t2 t3 t4 t5 t6 : Tok) (c c2 : Nat) (D D2 : Addr) : Con w s₀ mg mb 409 10 [.ref D, .ref D2] news (((D, Tup3 y m d t1 t2 t3 c) ∈ news ∧ (D2, Tup3 y2 m2 d2 t4 t5 t6 c2) ∈ news)) (.int (lexS [y, m, d] [y2, m2, d2])) := by
  unfold Con
  k_fill
  intro dp un gd cn cs aF ccd cl outer AF baseH hB LF mF sF QF EF B F X N T hk hok hd hu hret
  dsimp only [TopC] at T
  refine wpAny_call ?_
  k_dflt
  (refine' enter0 (binds := [(Str.ofString "here", .ref D), (Str.ofString "there", .ref D2)]) ?k1 ?k2 ?k3 ?k5 ?kA ?kF ?kK ?k6 ?k7 ?k8 ?k9 ?kB ?_ ?c2 ?c3 ?c4 ?c5; (case kA => exact rfl); (case kF => exact rfl); (case kK => assumption); (case k1 => k_asm); (case k2 => k_asm); (case k3 => k_asm); (case k5 => k_asm); (case k6 => k_is); (case k7 => k_is); (case k8 => ktr_room); (case k9 => exact BindsTo.of_eq rfl); (case c5 => decide); (case kB => exact locs rfl); (case c2 => exact rfl); (case c3 => exact rfl); (case c4 => exact rfl); k_whole; intro g' L' h' FG' F' N' B' X' T' st'; (try dsimp only [List.reverse, List.reverseAux] at F'); (try dsimp only); (try k_fold))
  have tD := tup_in N st' hok.1 rfl rfl
  have tD2 := tup_in N st' hok.2 rfl rfl
  k_steps
  all_goals (walk_at "fin int")
  all_goals first | exact lex_e1 (by assumption) | exact lex_e2 (by assumption) (by assumption) | exact lex_e3 (by assumption) (by assumption) | exact lex_e3 (by assumption) (ne_true_of_eq_false (by assumption)) | trace_state
set_option maxHeartbeats 1000000 in
theorem c_side2 (w : World) (s₀ : Shared) (mg mb : Str → Option Value) (news : List (Addr × Obj)) (y m y2 m2 : Int) (t1 t2 t4 t5 : Tok) (c c2 : Nat) (D D2 : Addr) : Con w s₀ mg mb 409 10 [.ref D, .ref D2] news (((D, Tup2 y m t1 t2 c) ∈ news ∧ (D2, Tup2 y2 m2 t4 t5 c2) ∈ news)) (.int (lexS [y, m] [y2, m2])) := by
  unfold Con
  k_fill
  intro dp un gd cn cs aF ccd cl outer AF baseH hB LF mF sF QF EF B F X N T hk hok hd hu hret
  dsimp only [TopC] at T
  refine wpAny_call ?_
  k_dflt
  (refine' enter0 (binds := [(Str.ofString "here", .ref D), (Str.ofString "there", .ref D2)]) ?k1 ?k2 ?k3 ?k5 ?kA ?kF ?kK ?k6 ?k7 ?k8 ?k9 ?kB ?_ ?c2 ?c3 ?c4 ?c5; (case kA => exact rfl); (case kF => exact rfl); (case kK => assumption); (case k1 => k_asm); (case k2 => k_asm); (case k3 => k_asm); (case k5 => k_asm); (case k6 => k_is); (case k7 => k_is); (case k8 => ktr_room); (case k9 => exact BindsTo.of_eq rfl); (case c5 => decide); (case kB => exact locs rfl); (case c2 => exact rfl); (case c3 => exact rfl); (case c4 => exact rfl); k_whole; intro g' L' h' FG' F' N' B' X' T' st'; (try dsimp only [List.reverse, List.reverseAux] at F'); (try dsimp only); (try k_fold))
  have tD := tup_in N st' hok.1 rfl rfl
  have tD2 := tup_in N st' hok.2 rfl rfl
  k_steps
  all_goals (walk_at "fin int")
  all_goals first | exact lex_e1 (by assumption) | exact lex_e2 (by assumption) (by assumption) | exact lex_e3 (by assumption) (by assumption) | exact lex_e3 (by assumption) (ne_true_of_eq_false (by assumption)) | trace_state
set_option maxHeartbeats 1000000 in
theorem c_sideI (w : World) (s₀ : Shared) (mg mb : Str → Option Value) (news : List (Addr × Obj)) (n k : Int) (t1 t2 : Tok) : Con w s₀ mg mb 409 10 [.int n t1, .int k t2] news (True) (.int (sgn n k)) := by
  unfold Con
  k_fill
  intro dp un gd cn cs aF ccd cl outer AF baseH hB LF mF sF QF EF B F X N T hk hok hd hu hret
  dsimp only [TopC] at T
  refine wpAny_call ?_
  k_dflt
  (refine' enter0 (binds := [(Str.ofString "here", .int n t1), (Str.ofString "there", .int k t2)]) ?k1 ?k2 ?k3 ?k5 ?kA ?kF ?kK ?k6 ?k7 ?k8 ?k9 ?kB ?_ ?c2 ?c3 ?c4 ?c5; (case kA => exact rfl); (case kF => exact rfl); (case kK => assumption); (case k1 => k_asm); (case k2 => k_asm); (case k3 => k_asm); (case k5 => k_asm); (case k6 => k_is); (case k7 => k_is); (case k8 => ktr_room); (case k9 => exact BindsTo.of_eq rfl); (case c5 => decide); (case kB => exact locs rfl); (case c2 => exact rfl); (case c3 => exact rfl); (case c4 => exact rfl); k_whole; intro g' L' h' FG' F' N' B' X' T' st'; (try dsimp only [List.reverse, List.reverseAux] at F'); (try dsimp only); (try k_fold))
  k_steps
  all_goals (walk_at "fin int")
  all_goals (unfold sgn; (try simp_all) <;> omega)
local macro_rules | `(tactic| walk_at "call ref") => `(tactic| (k_here; (with_reducible show wpAny _ _ (PySem.call (Value.ref 409) _) _ _ _); k_dflt (
  (refine' con_use (c_side3 _ _ _ _ _ _ _ _ _ _ _ _ _ _ _ _ _ _ _ _ _) ?k1 ?k2 ?k3 ?k4 ?k5 ?kK ?ko ?kd ?ku ?_);
  (case k1 => first | k_asm | ktn_no "use c_side3: below"); (case k2 => first | k_asm | ktn_no "use c_side3: frame"); (case k3 => first | k_asm | ktn_no "use c_side3: part"); (case k4 => first | k_asm | ktn_no "use c_side3: ledger"); (case k5 => first | k_asm | ktn_no "use c_side3: top"); (case kK => first | exact rfl | assumption | ktn_no "use c_side3: kind");
  (case ko => first | (exact ⟨by k_mem, by k_mem⟩) | ktn_no "use c_side3: ok"); (case kd => first | ktr_room | ktn_no "use c_side3: room"); (case ku => first | ktr_units | ktn_no "use c_side3: units");
  dsimp only [Ret]; intro t9 h9 tk9 F9 N9; (try dsimp only); (try k_sweep); (try k_fold))))
local macro_rules | `(tactic| walk_at "call ref") => `(tactic| (k_here; (with_reducible show wpAny _ _ (PySem.call (Value.ref 409) _) _ _ _); k_dflt (
  (refine' con_use (c_side2 _ _ _ _ _ _ _ _ _ _ _ _ _ _ _ _ _) ?k1 ?k2 ?k3 ?k4 ?k5 ?kK ?ko ?kd ?ku ?_);
  (case k1 => first | k_asm | ktn_no "use c_side2: below"); (case k2 => first | k_asm | ktn_no "use c_side2: frame"); (case k3 => first | k_asm | ktn_no "use c_side2: part"); (case k4 => first | k_asm | ktn_no "use c_side2: ledger"); (case k5 => first | k_asm | ktn_no "use c_side2: top"); (case kK => first | exact rfl | assumption | ktn_no "use c_side2: kind");
  (case ko => first | (exact ⟨by k_mem, by k_mem⟩) | ktn_no "use c_side2: ok"); (case kd => first | ktr_room | ktn_no "use c_side2: room"); (case ku => first | ktr_units | ktn_no "use c_side2: units");
  dsimp only [Ret]; intro t9 h9 tk9 F9 N9; (try dsimp only); (try k_sweep); (try k_fold))))
local macro_rules | `(tactic| walk_at "call ref") => `(tactic| (k_here; (with_reducible show wpAny _ _ (PySem.call (Value.ref 409) _) _ _ _); k_dflt (
  (refine' con_use (c_sideI _ _ _ _ _ _ _ _ _) ?k1 ?k2 ?k3 ?k4 ?k5 ?kK ?ko ?kd ?ku ?_);
  (case k1 => first | k_asm | ktn_no "use c_sideI: below"); (case k2 => first | k_asm | ktn_no "use c_sideI: frame"); (case k3 => first | k_asm | ktn_no "use c_sideI: part"); (case k4 => first | k_asm | ktn_no "use c_sideI: ledger"); (case k5 => first | k_asm | ktn_no "use c_sideI: top"); (case kK => first | exact rfl | assumption | ktn_no "use c_sideI: kind");
  (case ko => first | (first | trivial | assumption | (walk_at "my dec")) | ktn_no "use c_sideI: ok"); (case kd => first | ktr_room | ktn_no "use c_sideI: room"); (case ku => first | ktr_units | ktn_no "use c_sideI: units");
  dsimp only [Ret]; intro t9 h9 tk9 F9 N9; (try dsimp only); (try k_sweep); (try k_fold))))
def iT (n : Int) : Int := n - (n - 2451547).fmod 7 + 3
def iY (n : Int) : Int := gY (iT n)
def iW (n : Int) : Int := (iT n - toG (iY n) 1 1).fdiv 7 + 1
def iD (n : Int) : Int := (n - 2451547).fmod 7 + 1
theorem iT_range (n : Int) : n - 3 ≤ iT n ∧ iT n ≤ n + 3 := by unfold iT; rw [fm]; omega
theorem iY_of {n z : Int} (h1 : jan0 z < iT n) (h2 : iT n ≤ jan0 (z + 1)) : z = iY n := gY_of h1 h2
theorem iW_of {n z f : Int} (h1 : jan0 z < iT n) (h2 : iT n ≤ jan0 (z + 1)) (hf : f = jan0 z + 1) : (iT n - f).fdiv 7 + 1 = iW n := by
  unfold iW; rw [← iY_of h1 h2, toG_11, hf]
theorem week_s (y : Int) : jan0 y = jan0 (y - 1) + 365 + b2i (leapB (y - 1)) := by
  have := jan0_step (y - 1); rw [show y - 1 + 1 = y by omega] at this; exact this
set_option maxHeartbeats 2000000 in
theorem c_week (w : World) (s₀ : Shared) (mg mb : Str → Option Value) (news : List (Addr × Obj)) (y f n : Int) (t1 t2 t3 : Tok) : Con w s₀ mg mb 367 2 [.int y t1, .int f t2, .int n t3] news (f = toG y 1 1 ∧ y = gY n) (.t3 (iY n) (iW n) (iD n)) := by
  unfold Con
  k_fill
  intro dp un gd cn cs aF ccd cl outer AF baseH hB LF mF sF QF EF B F X N T hk hok hd hu hret
  dsimp only [TopC] at T
  refine wpAny_call ?_
  k_dflt
  (refine' enter0 (binds := [(Str.ofString "year", .int y t1), (Str.ofString "first", .int f t2), (Str.ofString "number", .int n t3)]) ?k1 ?k2 ?k3 ?k5 ?kA ?kF ?kK ?k6 ?k7 ?k8 ?k9 ?kB ?_ ?c2 ?c3 ?c4 ?c5; (case kA => exact rfl); (case kF => exact rfl); (case kK => assumption); (case k1 => k_asm); (case k2 => k_asm); (case k3 => k_asm); (case k5 => k_asm); (case k6 => k_is); (case k7 => k_is); (case k8 => ktr_room); (case k9 => exact BindsTo.of_eq rfl); (case c5 => decide); (case kB => exact locs rfl); (case c2 => exact rfl); (case c3 => exact rfl); (case c4 => exact rfl); k_whole; intro g' L' h' FG' F' N' B' X' T' st'; (try dsimp only [List.reverse, List.reverseAux] at F'); (try dsimp only); (try k_fold))
  k_steps
  all_goals (walk_at "fin t3")
  all_goals (
    obtain ⟨hf, hy⟩ := hok
    have hs := week_s y
    have hs2 := jan0_step y
    have hs3 := jan0_step (y + 1)
    have hn := gY_spec n
    have ht := iT_range n
    rw [toG_11] at hf
    rw [← hy] at hn
    have hb := b2i_range (leapB (y + 1))
    have e0 : y - 1 + 1 = y := by omega
    subst hf
    first
    | rfl
    | (refine iW_of (z := y) ?_ ?_ ?_ <;> first | rfl | (unfold iT b2i at *; simp_all; omega) | (unfold iT b2i at *; simp_all; done))
    | (refine iW_of (z := y - 1) ?_ ?_ ?_ <;> first | rfl | (unfold iT b2i at *; simp_all; omega) | (unfold iT b2i at *; simp_all; done))
    | (refine iW_of (z := y + 1) ?_ ?_ ?_ <;> first | rfl | (unfold iT b2i at *; simp_all; omega) | (unfold iT b2i at *; simp_all; done))
    | (refine iY_of ?_ ?_ <;> first | rfl | (unfold iT b2i at *; simp_all; omega) | (unfold iT b2i at *; simp_all; done))
    | trace_state)
local macro_rules | `(tactic| walk_at "call ref") => `(tactic| (k_here; (with_reducible show wpAny _ _ (PySem.call (Value.ref 367) _) _ _ _); k_dflt (
  (refine' con_use (c_week _ _ _ _ _ _ _ _ _ _ _) ?k1 ?k2 ?k3 ?k4 ?k5 ?kK ?ko ?kd ?ku ?_);
  (case k1 => first | k_asm | ktn_no "use c_week: below"); (case k2 => first | k_asm | ktn_no "use c_week: frame"); (case k3 => first | k_asm | ktn_no "use c_week: part"); (case k4 => first | k_asm | ktn_no "use c_week: ledger"); (case k5 => first | k_asm | ktn_no "use c_week: top"); (case kK => first | exact rfl | assumption | ktn_no "use c_week: kind");
  (case ko => first | (first | trivial | assumption | (walk_at "my dec")) | ktn_no "use c_week: ok"); (case kd => first | ktr_room | ktn_no "use c_week: room"); (case ku => first | ktr_units | ktn_no "use c_week: units");
  dsimp only [Ret]; intro D9 t91 t92 t93 c9 h9 tk9 F9 N9; (try dsimp only); (try k_sweep); (try k_fold))))
theorem date_ok {lp : Bool} {r : Int} (h0 : 0 ≤ r) (h1 : r < 365 + b2i lp) : okD lp (dM lp r) (dD lp r) ∧ cum lp (dM lp r) + dD lp r = r + 1 := by
  have h := mo_ok lp h0 h1 rfl
  have e : dM lp r = ((r + if r < 58 + b2i lp then 0 else 2 - b2i lp) * 12 + 373) / 367 := rfl
  rw [← e] at h
  unfold okD dD; omega
theorem leapJ_T {y : Int} (h : y % 4 = 0) : leapJ y = true := by unfold leapJ; rw [fm]; simp [h]
theorem leapJ_F {y : Int} (h : ¬ y % 4 = 0) : leapJ y = false := by unfold leapJ; rw [fm]; simp [h]
theorem old_of {lp : Bool} {n y r : Int} (hl : leapJ y = lp) (h0 : 0 ≤ r) (h1 : r < 365 + b2i lp) (h : n = jj y + r + 1) : y = jY n ∧ dM lp r = jM n ∧ dD lp r = jD n := by
  have hd := date_ok h0 h1
  subst hl
  refine jUniq hd.1 ?_
  rw [toJ_eq _ _ hd.1.1 hd.1.2.1]; omega
theorem old_T {n : Int} (h : (n - 2451558).fmod 1461 < 366) : 2000 + 4 * (n - 2451558).fdiv 1461 = jY n ∧ dM true ((n - 2451558).fmod 1461) = jM n ∧ dD true ((n - 2451558).fmod 1461) = jD n := by
  rw [fm] at *; rw [fd]
  refine old_of (leapJ_T (by omega)) (by omega) (by simp [b2i]; omega) (by unfold jj; omega)
def PJ (n r y : Int) : Prop := 0 ≤ r ∧ ∃ k, 1 ≤ k ∧ k ≤ 3 ∧ y = 2000 + 4 * ((n - 2451558) / 1461) + k ∧ r = (n - 2451558) % 1461 - 366 - 365 * (k - 1) ∧ r < 365 * (4 - k)
theorem pj_start {n : Int} (h : ¬ (n - 2451558).fmod 1461 < 366) : PJ n ((n - 2451558).fmod 1461 - 366) (2000 + 4 * (n - 2451558).fdiv 1461 + 1) := by
  rw [fm] at *; rw [fd]; exact ⟨by omega, 1, by omega, by omega, by omega, by omega, by omega⟩
theorem pj_step {n r y : Int} (h : PJ n r y) (t : 365 ≤ r) : PJ n (r - 365) (y + 1) := by
  obtain ⟨h0, k, h1, h2, h3, h4, h5⟩ := h
  exact ⟨by omega, k + 1, by omega, by omega, by omega, by omega, by omega⟩
theorem pj_ok {n r y : Int} (h : PJ n r y) (t : ¬ 365 ≤ r) : 0 ≤ r ∧ r < 365 := ⟨h.1, by omega⟩
theorem pj_end {n r y : Int} (h : PJ n r y) (t : ¬ 365 ≤ r) : y = jY n ∧ dM false r = jM n ∧ dD false r = jD n := by
  obtain ⟨h0, k, h1, h2, h3, h4, h5⟩ := h
  refine old_of (leapJ_F (by omega)) (by omega) (by simp [b2i]; omega) (by unfold jj; omega)
local macro_rules | `(tactic| walk_at "my ok2") => `(tactic| exact pj_ok (by assumption) (by assumption))
set_option maxHeartbeats 2000000 in
theorem c_old (w : World) (s₀ : Shared) (mg mb : Str → Option Value) (news : List (Addr × Obj)) (n : Int) (t : Tok) : Con w s₀ mg mb 360 4 [.int n t] news (True) (.t3 (jY n) (jM n) (jD n)) := by
  k_with_none
  (k_with "state" => first | exact pj_start (by assumption) | exact pj_step (by assumption) (by assumption))
  (k_with "measure" => first | omega | (simp_all; omega))
  (k_with "exec While Compare cons nil" => k_while (fun _ r y => PJ n r y) (fun _ r _ => r.toNat) "rest" "year")
  unfold Con
  k_fill
  intro dp un gd cn cs aF ccd cl outer AF baseH hB LF mF sF QF EF B F X N T hk hok hd hu hret
  dsimp only [TopC] at T
  refine wpAny_call ?_
  k_dflt
  (refine' enter0 (binds := [(Str.ofString "number", .int n t)]) ?k1 ?k2 ?k3 ?k5 ?kA ?kF ?kK ?k6 ?k7 ?k8 ?k9 ?kB ?_ ?c2 ?c3 ?c4 ?c5; (case kA => exact rfl); (case kF => exact rfl); (case kK => assumption); (case k1 => k_asm); (case k2 => k_asm); (case k3 => k_asm); (case k5 => k_asm); (case k6 => k_is); (case k7 => k_is); (case k8 => ktr_room); (case k9 => exact BindsTo.of_eq rfl); (case c5 => decide); (case kB => exact locs rfl); (case c2 => exact rfl); (case c3 => exact rfl); (case c4 => exact rfl); k_whole; intro g' L' h' FG' F' N' B' X' T' st'; (try dsimp only [List.reverse, List.reverseAux] at F'); (try dsimp only); (try k_fold))
  k_steps
  all_goals (walk_at "fin0 t3")
  all_goals first
    | exact (old_T (by assumption)).1
    | exact (old_T (by assumption)).2.1
    | exact (old_T (by assumption)).2.2
    | exact (pj_end (by assumption) (by assumption)).1
    | exact (pj_end (by assumption) (by assumption)).2.1
    | exact (pj_end (by assumption) (by assumption)).2.2
    | trace_state
  k_with_none
local macro_rules | `(tactic| walk_at "call ref") => `(tactic| (k_here; (with_reducible show wpAny _ _ (PySem.call (Value.ref 360) _) _ _ _); k_dflt (
  (refine' con_use (c_old _ _ _ _ _ _ _) ?k1 ?k2 ?k3 ?k4 ?k5 ?kK ?ko ?kd ?ku ?_);
  (case k1 => first | k_asm | ktn_no "use c_old: below"); (case k2 => first | k_asm | ktn_no "use c_old: frame"); (case k3 => first | k_asm | ktn_no "use c_old: part"); (case k4 => first | k_asm | ktn_no "use c_old: ledger"); (case k5 => first | k_asm | ktn_no "use c_old: top"); (case kK => first | exact rfl | assumption | ktn_no "use c_old: kind");
  (case ko => first | (first | trivial | assumption | (walk_at "my dec")) | ktn_no "use c_old: ok"); (case kd => first | ktr_room | ktn_no "use c_old: room"); (case ku => first | ktr_units | ktn_no "use c_old: units");
  dsimp only [Ret]; intro D9 t91 t92 t93 c9 h9 tk9 F9 N9; (try dsimp only); (try k_sweep); (try k_fold))))
theorem mon1_facts (y : Int) : mon1 y % 7 = 0 ∧ jan0 y - 2 ≤ mon1 y ∧ mon1 y ≤ jan0 y + 4 := by
  unfold mon1; rw [toG_11, fm]; split <;> omega
theorem iT_eq (n : Int) : iT n = n - n % 7 + 3 := by unfold iT; rw [fm]; omega
theorem iD_eq (n : Int) : iD n = n % 7 + 1 := by unfold iD; rw [fm]; omega
theorem iso_of {z n : Int} (h1 : mon1 z ≤ n) (h2 : n < mon1 (z + 1)) : z = iY n ∧ (n - mon1 z) / 7 + 1 = iW n ∧ (n - mon1 z) % 7 + 1 = iD n := by
  have f1 := mon1_facts z
  have f2 := mon1_facts (z + 1)
  have ht := iT_eq n
  have a1 : jan0 z < iT n := by omega
  have a2 : iT n ≤ jan0 (z + 1) := by omega
  refine ⟨iY_of a1 a2, ?_, ?_⟩
  · rw [← iW_of a1 a2 rfl, fd]; omega
  · rw [iD_eq]; omega
theorem in_year {y m d : Int} (h : okD (leapB y) m d) : jan0 y < toG y m d ∧ toG y m d ≤ jan0 (y + 1) := by
  have := okD_range h
  rw [jan0_step]; unfold toG; omega
theorem mon_gap (y : Int) : mon1 y + 364 ≤ mon1 (y + 1) := by
  have f1 := mon1_facts y
  have f2 := mon1_facts (y + 1)
  have s := jan0_step y
  have b := b2i_range (leapB y)
  omega
theorem iso1 {y m d : Int} (h : okD (leapB y) m d) (a : (toG y m d - mon1 y).fdiv 7 < 0) : y - 1 = iY (toG y m d) ∧ (toG y m d - mon1 (y - 1)).fdiv 7 + 1 = iW (toG y m d) ∧ (toG y m d - mon1 (y - 1)).fmod 7 + 1 = iD (toG y m d) := by
  have hy := in_year h
  have f := mon1_facts (y - 1)
  have s := week_s y
  have b := b2i_range (leapB (y - 1))
  rw [fd] at *; rw [fm]
  exact iso_of (by omega) (by rw [show y - 1 + 1 = y by omega]; omega)
theorem iso2 {y m d : Int} (h : okD (leapB y) m d) (a : mon1 (y + 1) ≤ toG y m d) : y + 1 = iY (toG y m d) ∧ 0 + 1 = iW (toG y m d) ∧ (toG y m d - mon1 y).fmod 7 + 1 = iD (toG y m d) := by
  have hy := in_year h
  have f := mon1_facts (y + 1)
  have f0 := mon1_facts y
  have f2 := mon1_facts (y + 1 + 1)
  have s := jan0_step (y + 1)
  have b := b2i_range (leapB (y + 1))
  have r := iso_of a (by omega)
  refine ⟨r.1, ?_, ?_⟩
  · rw [← r.2.1]; omega
  · rw [← r.2.2, fm]; omega
theorem iso3 {y m d : Int} (a : ¬ (toG y m d - mon1 y).fdiv 7 < 0) (g : ¬ mon1 (y + 1) ≤ toG y m d) : y = iY (toG y m d) ∧ (toG y m d - mon1 y).fdiv 7 + 1 = iW (toG y m d) ∧ (toG y m d - mon1 y).fmod 7 + 1 = iD (toG y m d) := by
  rw [fd] at *; rw [fm]
  exact iso_of (by omega) (by omega)
theorem iso4 {y m d : Int} (a : ¬ (toG y m d - mon1 y).fdiv 7 < 0) (g : ¬ 52 ≤ (toG y m d - mon1 y).fdiv 7) : y = iY (toG y m d) ∧ (toG y m d - mon1 y).fdiv 7 + 1 = iW (toG y m d) ∧ (toG y m d - mon1 y).fmod 7 + 1 = iD (toG y m d) := by
  have := mon_gap y
  rw [fd] at *; rw [fm]
  exact iso_of (by omega) (by omega)
theorem iso_in (n : Int) : mon1 (iY n) ≤ n ∧ n < mon1 (iY n + 1) := by
  have h := gY_spec (iT n)
  have ht := iT_eq n
  have f1 := mon1_facts (iY n)
  have f2 := mon1_facts (iY n + 1)
  unfold iY at *
  omega
theorem toI_eq {y k : Int} (d : Int) (h : 1 ≤ k) : toI y k d = mon1 y + 7 * (k - 1) + (d - 1) := by
  have f := mon1_facts y
  have s := week_s y
  have hj : toG (y - 1) 12 28 = jan0 y - 3 := by
    unfold toG cum; rw [s]; simp; omega
  unfold toI nW
  rw [if_pos (by omega), hj, fm]
  omega
theorem isoBack (n : Int) : 1 ≤ iW n ∧ toI (iY n) (iW n) (iD n) = n := by
  have h := iso_in n
  have r := iso_of h.1 h.2
  have hw : 1 ≤ iW n := by omega
  refine ⟨hw, ?_⟩
  rw [toI_eq _ hw]; omega
theorem isoNum (n : Int) : n = mon1 (iY n) + 7 * (iW n - 1) + (iD n - 1) ∧ 1 ≤ iD n ∧ iD n ≤ 7 ∧ 1 ≤ iW n := by
  have h := iso_in n
  have r := iso_of h.1 h.2
  omega
theorem mon_lt {y z : Int} (h : y < z) : mon1 (y + 1) ≤ mon1 z := by
  rcases Int.lt_or_le (y + 1) z with h3 | h3
  · have f1 := mon1_facts (y + 1)
    have f2 := mon1_facts z
    have := jan0_lt h3
    omega
  · have : z = y + 1 := by omega
    rw [this]; omega
-- the three orders
theorem lexS3 {a b c x y z n k : Int} (h : (a < x ∨ (a = x ∧ (b < y ∨ (b = y ∧ c < z)))) ↔ n < k) (e : (a = x ∧ b = y ∧ c = z) ↔ n = k) : lexS [a, b, c] [x, y, z] = sgn n k := by
  unfold lexS sgn
  by_cases hn : n = k
  · have := e.mpr hn
    rw [if_pos hn, if_pos (by simp [this])]
  · have hne : ¬ (a = x ∧ b = y ∧ c = z) := fun q => hn (e.mp q)
    rw [if_neg hn, if_neg (by simpa using hne)]
    have hl : lexB [a, b, c] [x, y, z] = true ↔ n < k := by
      rw [← h]
      simp only [lexB]
      by_cases h1 : a = x
      · by_cases h2 : b = y
        · by_cases h3 : c = z
          · exact absurd ⟨h1, h2, h3⟩ hne
          · simp [h1, h2, h3]
        · simp [h1, h2]
      · simp [h1]
    by_cases hlt : n < k
    · rw [if_pos hlt, if_pos (hl.mpr hlt)]
    · rw [if_neg hlt, if_neg (fun q => hlt (hl.mp q))]
theorem lexS2 {a b x y n k : Int} (h : (a < x ∨ (a = x ∧ b < y)) ↔ n < k) (e : (a = x ∧ b = y) ↔ n = k) : lexS [a, b] [x, y] = sgn n k := by
  unfold lexS sgn
  by_cases hn : n = k
  · have := e.mpr hn
    rw [if_pos hn, if_pos (by simp [this])]
  · have hne : ¬ (a = x ∧ b = y) := fun q => hn (e.mp q)
    rw [if_neg hn, if_neg (by simpa using hne)]
    have hl : lexB [a, b] [x, y] = true ↔ n < k := by
      rw [← h]
      simp only [lexB]
      by_cases h1 : a = x
      · by_cases h2 : b = y
        · exact absurd ⟨h1, h2⟩ hne
        · simp [h1, h2]
      · simp [h1]
    by_cases hlt : n < k
    · rw [if_pos hlt, if_pos (hl.mpr hlt)]
    · rw [if_neg hlt, if_neg (fun q => hlt (hl.mp q))]
theorem gO_eq (n : Int) : gO n = n - jan0 (gY n) := by
  have h := gBack n
  unfold gO; rw [h, toG_11]; omega
theorem ordG (n k : Int) : lexS [gY n, gM n, gD n] [gY k, gM k, gD k] = sgn n k := by
  have h1 := gY_spec n
  have h2 := gY_spec k
  have o1 := gOk n
  have o2 := gOk k
  have b1 := gBack n
  have b2 := gBack k
  have r1 := okD_range o1
  have r2 := okD_range o2
  unfold toG at b1 b2
  have s1 := jan0_step (gY n)
  have s2 := jan0_step (gY k)
  rcases Int.lt_trichotomy (gY n) (gY k) with hlt | he | hgt
  · have hj : jan0 (gY n + 1) ≤ jan0 (gY k) := by
      rcases Int.lt_or_le (gY n + 1) (gY k) with q | q
      · have := jan0_lt q; omega
      · rw [show gY n + 1 = gY k by omega]; omega
    exact lexS3 (by omega) (by omega)
  · have hl := okD_lt (lp := leapB (gY n)) o1 (by rw [he]; exact o2)
    have hi := okD_lt (lp := leapB (gY n)) (m := gM k) (d := gD k) (k := gM n) (e := gD n) (by rw [he]; exact o2) o1
    rw [← he] at b2 
    exact lexS3 (by omega) (by omega)
  · have hj : jan0 (gY k + 1) ≤ jan0 (gY n) := by
      rcases Int.lt_or_le (gY k + 1) (gY n) with q | q
      · have := jan0_lt q; omega
      · rw [show gY k + 1 = gY n by omega]; omega
    exact lexS3 (by omega) (by omega)
theorem ordO (n k : Int) : lexS [gY n, gO n] [gY k, gO k] = sgn n k := by
  have h1 := gY_spec n
  have h2 := gY_spec k
  have e1 := gO_eq n
  have e2 := gO_eq k
  rcases Int.lt_trichotomy (gY n) (gY k) with hlt | he | hgt
  · have hj : jan0 (gY n + 1) ≤ jan0 (gY k) := by
      rcases Int.lt_or_le (gY n + 1) (gY k) with q | q
      · have := jan0_lt q; omega
      · rw [show gY n + 1 = gY k by omega]; omega
    exact lexS2 (by omega) (by omega)
  · rw [← he] at e2
    exact lexS2 (by omega) (by omega)
  · have hj : jan0 (gY k + 1) ≤ jan0 (gY n) := by
      rcases Int.lt_or_le (gY k + 1) (gY n) with q | q
      · have := jan0_lt q; omega
      · rw [show gY k + 1 = gY n by omega]; omega
    exact lexS2 (by omega) (by omega)
theorem ordJ (n k : Int) : lexS [jY n, jM n, jD n] [jY k, jM k, jD k] = sgn n k := by
  obtain ⟨o1, b1⟩ := jOk n
  obtain ⟨o2, b2⟩ := jOk k
  rw [toJ_eq _ _ o1.1 o1.2.1] at b1
  rw [toJ_eq _ _ o2.1 o2.2.1] at b2
  have r1 := okD_range o1
  have r2 := okD_range o2
  have s1 := jj_step (jY n)
  have s2 := jj_step (jY k)
  rcases Int.lt_trichotomy (jY n) (jY k) with hlt | he | hgt
  · have hj : jj (jY n + 1) ≤ jj (jY k) := by
      rcases Int.lt_or_le (jY n + 1) (jY k) with q | q
      · have := jj_lt q; omega
      · rw [show jY n + 1 = jY k by omega]; omega
    exact lexS3 (by omega) (by omega)
  · have hl := okD_lt (lp := leapJ (jY n)) o1 (by rw [he]; exact o2)
    have hi := okD_lt (lp := leapJ (jY n)) (m := jM k) (d := jD k) (k := jM n) (e := jD n) (by rw [he]; exact o2) o1
    rw [← he] at b2
    exact lexS3 (by omega) (by omega)
  · have hj : jj (jY k + 1) ≤ jj (jY n) := by
      rcases Int.lt_or_le (jY k + 1) (jY n) with q | q
      · have := jj_lt q; omega
      · rw [show jY k + 1 = jY n by omega]; omega
    exact lexS3 (by omega) (by omega)
theorem ordI (n k : Int) : lexS [iY n, iW n, iD n] [iY k, iW k, iD k] = sgn n k := by
  have e1 := isoNum n
  have e2 := isoNum k
  have h1 := iso_in n
  have h2 := iso_in k
  rcases Int.lt_trichotomy (iY n) (iY k) with hlt | he | hgt
  · have := mon_lt hlt
    exact lexS3 (by omega) (by omega)
  · rw [← he] at e2
    exact lexS3 (by omega) (by omega)
  · have := mon_lt hgt
    exact lexS3 (by omega) (by omega)

section
variable {prog : Program} {w : World} {A : Around} {E : Value → Shared → Prop} {s : Shared}
theorem adjust_to (k : Int) (n : Nat) (h0 : 0 ≤ k) (hk : k ≤ n) : Builtin.Slice.sliceAdjust none (some k) 1 (n : Int) = (0, k) := by
  unfold Builtin.Slice.sliceAdjust
  have h1 : ¬ ((1 : Int) < 0) := by omega
  have h2 : ¬ (k < 0) := by omega
  simp only [h1, h2, if_false]
  congr 1
  omega
theorem places_to (k : Int) (h0 : 0 ≤ k) : Builtin.Slice.slicePlaces 0 k 1 = k.toNat := by
  unfold Builtin.Slice.slicePlaces
  have h1 : (1 : Int) > 0 := by omega
  simp only [h1, if_true, Int.ediv_one]
  split <;> omega
theorem applied_to {sl : Addr} {k : Int} {n : Nat} {u : Tok} {Q : Int × Int × Nat → Shared → Prop} (hs : s.heap.IsSliceOf sl .none (.int k u) .none) (h0 : 0 ≤ k) (hk : k ≤ n) (h : Q (0, 1, k.toNat) s) :
    wpAny (model prog w) A (Builtin.Slice.sliceApplied (.ref sl) (pure (n : Int))) Q E s := by
  obtain ⟨os, hos, hcs, hds⟩ := id hs
  unfold Builtin.Slice.sliceApplied Builtin.Slice.sliceFields
  refine wpAny_bind (wpAny_bind (wpAny_field hos hds (x := .none) rfl (wpAny_bind (wpAny_field hos hds (x := .int k u) rfl (wpAny_bind (wpAny_field hos hds (x := .none) rfl (wpAny_pure ?_)))))))
  refine wpAny_bind (slicePart_none ?_)
  show wpAny _ _ (if ((1 : Int) == 0) = true then _ else _) _ _ s
  rw [if_neg (by decide)]
  refine wpAny_bind (slicePart_none (wpAny_bind (slicePart_int (wpAny_bind (wpAny_pure ?_)))))
  show wpAny _ _ (match Builtin.Slice.sliceAdjust none (some k) 1 (n : Int) with | (lo, hi) => pure (lo, (1 : Int), Builtin.Slice.slicePlaces lo hi 1)) _ _ s
  rw [adjust_to k n h0 hk]
  show wpAny _ _ (pure ((0 : Int), (1 : Int), Builtin.Slice.slicePlaces 0 k 1)) _ _ s
  rw [places_to k h0]
  exact wpAny_pure h
theorem pick_to (xs : Array Value) (c : Nat) : ((List.range c).filterMap fun (k : Nat) => xs[((0 : Int) + (k : Int) * 1).toNat]?).toArray = (xs.toList.take c).toArray := by
  have e : (fun (k : Nat) => xs[((0 : Int) + (k : Int) * 1).toNat]?) = fun k => xs[0 + k]? := by
    funext k
    have : ((0 : Int) + (k : Int) * 1).toNat = 0 + k := by omega
    rw [this]
  rw [e]
  have := pick_run xs 0 c
  rw [List.filterMap_map] at this
  have e2 : ((fun x => xs[x]?) ∘ fun x => 0 + x) = fun k => xs[0 + k]? := rfl
  rw [e2] at this
  rw [this, List.drop_zero]
theorem item_to {t sl : Addr} {items : Array Value} {k : Int} {u : Tok} {Q : Value → Shared → Prop} (ht : IsTup s.heap t items) (hs : s.heap.IsSliceOf sl .none (.int k u) .none) (h0 : 0 ≤ k) (hk : k < items.size)
    (h : Q (.ref s.heap.objs.size) { s with heap := s.heap.push { cls := .type "tuple", data := .seq (items.toList.take k.toNat).toArray } })
    (hsz : items.size ≤ sizeLine := by size_fits) : wpAny (model prog w) A (getItem (.ref t) (.ref sl)) Q E s := by
  have htake : sizeOk (.seq (items.toList.take k.toNat).toArray) := by
    show (items.toList.take k.toNat).toArray.size ≤ sizeLine
    rw [List.size_toArray, List.length_take, Array.length_toList]
    omega
  obtain ⟨os, hos, hcs, hds⟩ := id hs
  have hTs : s.TypeIs (.ref sl) "slice" := ⟨os, hos, hcs⟩
  unfold getItem
  try with_reducible refine wpAny_holding ?_
  first | refine wpAny_bind (wpAny_pure ?_) | skip
  refine wpAny_bind (wpAny_sequenceKey ht.typeIs (by decide) ?_)
  refine wpAny_bind (wpAny_callSpecial?_slot (name := Str.ofString "__getitem__") ht.typeIs slot_tuple_getitem
    (wpAny_call_entry slot_tuple_getitem ht.typeIs entry_tuple_getitem ?_ (args_tuple_getitem _ _)))
  show wpAny _ _ (Builtin.Tuple.tupleItemsOf (.ref t) >>= _) _ _ s
  refine wpAny_bind (tupleItemsOf_ ht ?_)
  refine wpAny_bind (wpAny_typeOf hTs ?_)
  rw [if_pos (by decide)]
  refine wpAny_bind (applied_to hs h0 (by omega) ?_)
  have hno : ¬ (((0 : Int) == 0 && (1 : Int) == 1 && k.toNat == items.size) = true) := by
    have : (k.toNat == items.size) = false := by rw [beq_eq_false_iff_ne]; omega
    rw [this]; simp
  show wpAny _ _ (if ((0 : Int) == 0 && (1 : Int) == 1 && k.toNat == items.size) = true then _ else _) _ _ s
  rw [if_neg hno, pick_to items k.toNat]
  first
    | exact wpAny_bind (m := Builtin.Tuple.tupleExact _) (wpAny_newObj_type (wpAny_pure ⟨_, rfl, wpAny_pure h⟩) htake)
    | exact wpAny_bind (m := Builtin.Tuple.tupleExact _) (wpAny_newObj_type (wpAny_bind (wpAny_pure (wpAny_pure ⟨_, rfl, wpAny_pure h⟩))) htake)
    | exact wpAny_bind (wpAny_bind (m := Builtin.Tuple.tupleExact _) (wpAny_newObj_type (wpAny_pure (wpAny_pure ⟨_, rfl, wpAny_pure h⟩)) htake))
    | exact wpAny_bind (wpAny_bind (m := Builtin.Tuple.tupleExact _) (wpAny_newObj_type (wpAny_pure ⟨_, rfl, wpAny_pure h⟩) htake))
theorem slice_to {h₀ : Heap} {L : Addr} {m : Str → Option Value} {news : List (Addr × Obj)} {value slice : PySem.Expr} {t : Addr} {items : Array Value} {k : Int} {u : Tok} {Q : Value → Shared → Prop}
    (F : Fr h₀ L s.heap m) (N : News h₀ L s.heap news) (ht : IsTup s.heap t items) (h0 : 0 ≤ k) (hk : k < items.size)
    (h : ∀ h', Fr h₀ L h' m → News h₀ L h' ((s.heap.objs.size + 1, { cls := .type "tuple", data := .seq (items.toList.take k.toNat).toArray }) :: news) → Q (.ref (s.heap.objs.size + 1)) { s with heap := h' })
    (hs : subscripted slice false (.ref t) (.ref s.heap.objs.size) = operate [.ref s.heap.objs.size, .ref t] (getItem (.ref t) (.ref s.heap.objs.size)))
    (hg : ∀ r, letTemporaryGo value (.ref t) r = pure ())
    (hsz : items.size ≤ sizeLine := by size_fits) :
    wpAny (model prog w) A (subscriptTail value slice (.ref t) (.ref s.heap.objs.size)) Q E { s with heap := s.heap.push { cls := .type "slice", data := .fields #[.none, .int k u, .none] } } := by
  have ht' : IsTup (s.heap.push { cls := .type "slice", data := .fields #[.none, .int k u, .none] }) t items := ht.keeps fun _ _ e => Heap.get?_push_of_some _ e
  refine subscriptTail_ops (s := { s with heap := s.heap.push { cls := .type "slice", data := .fields #[.none, .int k u, .none] } }) ht'.typeIs slot_tuple_getitem.lookup
    (item_to ht' (Heap.IsSliceOf.new ..) h0 hk ?_ hsz) hs hg
  have N1 := News.push (F.push { cls := .type "slice", data := .fields #[.none, .int k u, .none] }) (N.grown fun _ _ e => Heap.get?_push_of_some _ e) { cls := .type "tuple", data := .seq (items.toList.take k.toNat).toArray }
  rw [Heap.size_push] at N1
  show Q (.ref (s.heap.push _).objs.size) _
  rw [Heap.size_push]
  exact h _ ((F.push _).push _) N1
theorem slice_toD {h₀ : Heap} {L : Addr} {m : Str → Option Value} {news : List (Addr × Obj)} {value slice : PySem.Expr} {t : Addr} {items : Array Value} {zs : List Value} {k : Int} {u : Tok} {Q : Value → Shared → Prop}
    (F : Fr h₀ L s.heap m) (N : News h₀ L s.heap news) (ht : IsTup s.heap t items) (h0 : 0 ≤ k) (hk : k < items.size) (hz : items.toList.take k.toNat = zs)
    (h : ∀ D h', Fr h₀ L h' m → News h₀ L h' ((D, { cls := .type "tuple", data := .seq zs.toArray }) :: news) → (∀ p ∈ news, p.1 < D) → Q (.ref D) { s with heap := h' })
    (hs : subscripted slice false (.ref t) (.ref s.heap.objs.size) = operate [.ref s.heap.objs.size, .ref t] (getItem (.ref t) (.ref s.heap.objs.size)))
    (hg : ∀ r, letTemporaryGo value (.ref t) r = pure ())
    (hsz : items.size ≤ sizeLine) :
    wpAny (model prog w) A (subscriptTail value slice (.ref t) (.ref s.heap.objs.size)) Q E { s with heap := s.heap.push { cls := .type "slice", data := .fields #[.none, .int k u, .none] } } := by
  subst hz
  exact slice_to F N ht h0 hk (fun h' F' N' => h _ h' F' N' fun p hp => Nat.lt_succ_of_lt (Heap.lt_size (N p hp).1)) hs hg hsz
end
theorem tp_int : ∀ {vs : List Value} {ns : List Int} {i : Nat} {v : Value}, IntsAre vs ns → vs[i]? = some v → ∃ k t, v = .int k t
  | _, _, 0, _, .cons n t _, h => ⟨n, t, by simpa using h.symm⟩
  | _, _, i + 1, _, .cons _ _ r, h => tp_int r (by simpa using h)
  | _, _, 0, _, .nil, h => by simp at h
  | _, _, _ + 1, _, .nil, h => by simp at h
section
variable {prog : Program} {w : World} {A : Around} {E : Value → Shared → Prop} {s : Shared} {env : Env} {h₀ : Heap} {x : Str} {body : List Stmt} {Q : Flow → Shared → Prop}
abbrev TpJ (x y : Str) (m₀ : Str → Option Value) (m' : Str → Option Value) (nx : List (Addr × Obj)) : Prop := nx = [] ∧ (∃ a t, m' y = some (.int a t)) ∧ ∀ z, z ≠ x → z ≠ y → m' z = m₀ z
theorem tp_loop {ax : Addr} {vs : List Value} {ns : List Int} {m₀ : Str → Option Value} {y : Str} {a₀ : Int} {t₀ : Tok}
    (hh : A.handled = none) (F : Fr h₀ env.locals s.heap m₀) (hl : s.heap.IsTuple ax vs.toArray) (hax : ax ≠ env.locals) (hi : IntsAre vs ns) (hy : m₀ y = some (.int a₀ t₀))
    (turn : ∀ k t a ta h tk own, Fr h₀ env.locals h (fun z => if z = x then some (.int k t) else if z = y then some (.int a ta) else m₀ z) → News h₀ env.locals h own →
      wpAny (model prog w) A (execs body env) (InvPostN h₀ env.locals (TpJ x y m₀) own [] { s with heap := h, toks := tk } Q) E { s with heap := h, toks := tk })
    (done : ∀ (u : Str → Option Value) a t h tk, Fr h₀ env.locals h (fun z => if z = x then u z else if z = y then some (.int a t) else m₀ z) → News h₀ env.locals h [] → Q .next { s with heap := h, toks := tk }) :
    wpAny (model prog w) A (pyIter (.ref ax)) (fun it s₂ => LoopAtV prog w A h₀ env x body Q E it s₂) E s := by
  have hlt : ax < s.heap.objs.size := by obtain ⟨o, ho, _⟩ := id hl; exact Heap.lt_size ho
  have hne : ax ≠ s.heap.objs.size := Nat.ne_of_lt hlt
  refine wpAny_pyIter_tuple hl ?_
  have W := Walks.tuple (prog := prog) (w := w) hh s.heap.objs.size ax hne vs.toArray
  have hnew := next_is_new F
  refine loop_invN (news := []) (fun _ m nx => TpJ x y m₀ m nx) W (fun hm => ?_) (fun b hb => ?_) (fun p hp => (nomatch hp)) (fun p hp => (nomatch hp)) ?_ (F.push _) (News.nil) ⟨rfl, ⟨a₀, t₀, hy⟩, fun _ _ _ => rfl⟩ ?_ ?_
  · rcases List.mem_cons.mp hm with e | hm
    · exact absurd F.ns.lt (e ▸ Nat.lt_irrefl _)
    · exact hax (List.mem_singleton.mp hm).symm
  · rw [List.mem_singleton.mp hb]; exact hnew
  · exact ⟨⟨_, Heap.get?_push_size _ rfl, rfl, rfl⟩, hl.at fun o e => Heap.get?_push_of_some _ e⟩
  · rintro i v m₁ nx h tk own hin hP _ _ ⟨rfl, ⟨a, ta, ha⟩, hm⟩ F₁ N₁
    have hv : ∃ k t, v = .int k t := by
      have hP' : vs[i]? = some v := by simpa using hP
      exact tp_int hi hP'
    obtain ⟨k, t, rfl⟩ := hv
    rw [map_one ha hm] at F₁
    exact turn k t a ta h tk own F₁ (by simpa using N₁)
  · rintro m₁ nx h tk ⟨rfl, ⟨a, t, ha⟩, hm⟩ F₁ N₁
    refine done m₁ a t h tk ?_ N₁
    rw [done_one ha hm]; exact F₁
theorem tp_end {m₀ m' : Str → Option Value} {y : Str} {h' : Heap} {L : Addr} {own : List (Addr × Obj)} {s₁ : Shared} {tk : Nat} {a : Int} {t : Tok} (F : Fr h₀ L h' m') (N : News h₀ L h' own) (ha : m' y = some (.int a t)) (hm : ∀ z, z ≠ x → z ≠ y → m' z = m₀ z) :
    InvPostN h₀ L (TpJ x y m₀) own [] s₁ Q .next { s₁ with heap := h', toks := tk } :=
  ⟨h', tk, m', own, [], rfl, F, N, (fun p hp => (nomatch hp)), (fun p hp => hp), rfl, rfl, ⟨a, t, ha⟩, hm⟩
end
theorem md_get {m : Int} (h : 1 ≤ m ∧ m ≤ 12) : [0, 31, 28, 31, 30, 31, 30, 31, 31, 30, 31, 30, (31 : Int)].getD m.toNat 0 = dim false m := by
  have hm : m = 1 ∨ m = 2 ∨ m = 3 ∨ m = 4 ∨ m = 5 ∨ m = 6 ∨ m = 7 ∨ m = 8 ∨ m = 9 ∨ m = 10 ∨ m = 11 ∨ m = 12 := by omega
  rcases hm with rfl | rfl | rfl | rfl | rfl | rfl | rfl | rfl | rfl | rfl | rfl | rfl <;> decide
local macro_rules | `(tactic| walk_at "subscriptTail Name Slice ref ref") => `(tactic| (k_here; (with_reducible show wpAny _ _ (subscriptTail _ (PySem.Expr.Slice none (some _) none _) (Value.ref _) (Value.ref _)) _ _ _); k_dflt ((refine' slice_toD ?F ?N ?t ?h0 ?hk ?hz ?_ ?hs ?hg ?hsz); (case F => k_asm); (case N => k_asm); (case t => exact tupK (Frag.In.keeps (by k_asm) (Fr.keep (by k_asm))) (by k_is)); (case h0 => omega); (case hk => (show _ < ((13 : Nat) : Int)); omega); (case hz => exact rfl); (case hs => with_unfolding_all rfl); (case hg => intro _; with_unfolding_all rfl); (case hsz => size_fits)); intro D' h' F' N' l1; (try k_sweep)))
local macro_rules | `(tactic| walk_at "exec For Name Subscript cons nil") => `(tactic| (k_here; (rename Fr _ _ _ _ => lF'); (with_unfolding_all refine' For_invVF lF' ?k1 ?k2 ?_; (case k1 => exact rfl); (case k2 => exact rfl); k_whole)))
local macro_rules | `(tactic| walk_at "pyIter ref") => `(tactic| (k_here; (with_reducible show wpAny _ _ (pyIter (Value.ref _)) (fun it s₂ => LoopAtV _ _ _ _ _ _ _ _ _ it s₂) _ _); (rename News _ _ _ _ => nN'); k_dflt ((with_unfolding_all refine' tp_loop (y := Str.ofString "first") ?h ?F ?l ?n ?i ?y ?turn ?done); (case h => with_unfolding_all rfl); (case F => k_asm); (case l => exact News.isTup nN' (by k_mem)); (case n => exact (nN' _ (List.Mem.head _)).2.1); (case i => exact IntsAre.take (by repeat constructor) _); (case y => with_unfolding_all rfl)); (all_goals (clear nN'; (first | (intro k9 t9 a9 ta9 h9 tk9 own9 F9 N9) | (intro u9 a9 t9 h9 tk9 F9 N9; (try k_sweep))))); (all_goals ((try dsimp only); (try k_fold)))))
local macro_rules | `(tactic| walk_at "InvPostN") => `(tactic| (k_here; k_dflt ((refine' tp_end ?F ?N ?a ?m); (case F => k_asm); (case N => k_asm); (case a => with_unfolding_all rfl); (case m => intro z hz1 hz2; simp [hz1, hz2]))))
set_option maxHeartbeats 2000000 in
theorem c_dimG (w : World) (s₀ : Shared) (mg mb : Str → Option Value) (news : List (Addr × Obj)) (y m : Int) (t1 t2 : Tok) : Con w s₀ mg mb 114 4 [.int y t1, .int m t2] news (1 ≤ m ∧ m ≤ 12) (.int (dim (leapB y) m)) := by
  unfold Con
  k_fill
  intro dp un gd cn cs aF ccd cl outer AF baseH hB LF mF sF QF EF B F X N T hk hok hd hu hret
  dsimp only [TopC] at T
  refine wpAny_call ?_
  k_dflt
  (refine' enter0 (binds := [(Str.ofString "year", .int y t1), (Str.ofString "month", .int m t2)]) ?k1 ?k2 ?k3 ?k5 ?kA ?kF ?kK ?k6 ?k7 ?k8 ?k9 ?kB ?_ ?c2 ?c3 ?c4 ?c5; (case kA => exact rfl); (case kF => exact rfl); (case kK => assumption); (case k1 => k_asm); (case k2 => k_asm); (case k3 => k_asm); (case k5 => k_asm); (case k6 => k_is); (case k7 => k_is); (case k8 => ktr_room); (case k9 => exact BindsTo.of_eq rfl); (case c5 => decide); (case kB => exact locs rfl); (case c2 => exact rfl); (case c3 => exact rfl); (case c4 => exact rfl); k_whole; intro g' L' h' FG' F' N' B' X' T' st'; (try dsimp only [List.reverse, List.reverseAux] at F'); (try dsimp only); (try k_fold))
  have hpm : PruneMark := True.intro
  k_steps
  all_goals (walk_at "fin int")
  all_goals (rw [md_get hok]; walk_at "my norm"; first | omega | (simp_all; done) | (simp_all; omega) | trace_state)
local macro_rules | `(tactic| walk_at "call ref") => `(tactic| (k_here; (with_reducible show wpAny _ _ (PySem.call (Value.ref 114) _) _ _ _); k_dflt (
  (refine' con_use (c_dimG _ _ _ _ _ _ _ _ _) ?k1 ?k2 ?k3 ?k4 ?k5 ?kK ?ko ?kd ?ku ?_);
  (case k1 => first | k_asm | ktn_no "use c_dimG: below"); (case k2 => first | k_asm | ktn_no "use c_dimG: frame"); (case k3 => first | k_asm | ktn_no "use c_dimG: part"); (case k4 => first | k_asm | ktn_no "use c_dimG: ledger"); (case k5 => first | k_asm | ktn_no "use c_dimG: top"); (case kK => first | exact rfl | assumption | ktn_no "use c_dimG: kind");
  (case ko => first | (first | trivial | assumption | (walk_at "my dec")) | ktn_no "use c_dimG: ok"); (case kd => first | ktr_room | ktn_no "use c_dimG: room"); (case ku => first | ktr_units | ktn_no "use c_dimG: units");
  dsimp only [Ret]; intro t9 h9 tk9 F9 N9; (try dsimp only); (try k_sweep); (try k_fold))))
set_option maxHeartbeats 2000000 in
theorem c_gToI (w : World) (s₀ : Shared) (mg mb : Str → Option Value) (news : List (Addr × Obj)) (y m d : Int) (t1 t2 t3 : Tok) : Con w s₀ mg mb 255 8 [.int y t1, .int m t2, .int d t3] news ((1 ≤ y ∧ y ≤ 9999) ∧ 1 ≤ m ∧ m ≤ 12 ∧ 1 ≤ d ∧ d ≤ dim (leapB y) m) (.t3 (iY (toG y m d)) (iW (toG y m d)) (iD (toG y m d))) := by
  unfold Con
  k_fill
  intro dp un gd cn cs aF ccd cl outer AF baseH hB LF mF sF QF EF B F X N T hk hok hd hu hret
  dsimp only [TopC] at T
  refine wpAny_call ?_
  k_dflt
  (refine' code_def (binds := [(Str.ofString "year", .int y t1), (Str.ofString "month", .int m t2), (Str.ofString "day", .int d t3)]) ?k1 ?k2 ?k3 ?k4 ?k5 ?kA ?kF ?kK ?k6 ?k7 ?k8 ?k9 ?kB ?_ ?c2 ?c3 ?c4 ?c5; (case kA => exact rfl); (case kF => exact rfl); (case kK => assumption); (case k1 => k_asm); (case k2 => k_asm); (case k3 => k_asm); (case k4 => k_asm); (case k5 => k_asm); (case k6 => k_is); (case k7 => k_is); (case k8 => ktr_room); (case k9 => exact BindsTo.of_eq rfl); (case c5 => decide); (case kB => exact locs rfl); (case c2 => exact rfl); (case c3 => exact rfl); (case c4 => exact rfl); k_whole; intro g' L' h' FG' F' N' B' X' T'; (try dsimp only [List.reverse, List.reverseAux] at F'); (try dsimp only); (try k_fold))
  have hpm : PruneMark := True.intro
  k_steps
  all_goals (walk_at "my t3")
  all_goals first
    | exact (iso1 hok.2 (by assumption)).1
    | exact (iso1 hok.2 (by assumption)).2.1
    | exact (iso1 hok.2 (by assumption)).2.2
    | exact (iso2 hok.2 (by assumption)).1
    | exact (iso2 hok.2 (by assumption)).2.1
    | exact (iso2 hok.2 (by assumption)).2.2
    | exact (iso3 (by assumption) (by assumption)).1
    | exact (iso3 (by assumption) (by assumption)).2.1
    | exact (iso3 (by assumption) (by assumption)).2.2
    | exact (iso4 (by assumption) (by assumption)).1
    | exact (iso4 (by assumption) (by assumption)).2.1
    | exact (iso4 (by assumption) (by assumption)).2.2
local macro_rules | `(tactic| walk_at "call ref") => `(tactic| (k_here; (with_reducible show wpAny _ _ (PySem.call (Value.ref 255) _) _ _ _); k_dflt (
  (refine' con_use (c_gToI _ _ _ _ _ _ _ _ _ _ _) ?k1 ?k2 ?k3 ?k4 ?k5 ?kK ?ko ?kd ?ku ?_);
  (case k1 => first | k_asm | ktn_no "use c_gToI: below"); (case k2 => first | k_asm | ktn_no "use c_gToI: frame"); (case k3 => first | k_asm | ktn_no "use c_gToI: part"); (case k4 => first | k_asm | ktn_no "use c_gToI: ledger"); (case k5 => first | k_asm | ktn_no "use c_gToI: top"); (case kK => first | exact rfl | assumption | ktn_no "use c_gToI: kind");
  (case ko => first | (first | exact ⟨by assumption, gOk _⟩ | exact ⟨by assumption, by assumption⟩ | (walk_at "my dec")) | ktn_no "use c_gToI: ok"); (case kd => first | ktr_room | ktn_no "use c_gToI: room"); (case ku => first | ktr_units | ktn_no "use c_gToI: units");
  dsimp only [Ret]; intro D9 t91 t92 t93 c9 h9 tk9 F9 N9; (try dsimp only); (try k_sweep); (try k_fold))))
def RetT (w : World) (s₀ : Shared) (mg mb : Str → Option Value) (v : Value) (AF : Around) (baseH : Heap) (outer : List Env) (g₀ : Heap) (L : Addr) (m : Str → Option Value) (news : List (Addr × Obj)) (s : Shared) (Q : Value → Shared → Prop) : Prop :=
  ∀ (hB' h' : Heap) (tk' : Nat), KtsTurn (outer.filterMap (·.frame)) g₀ hB' → Fr hB' L h' m → News hB' L h' news → Below AF baseH outer hB' → (hd.heap_39 w.params).In hB' → TopC s₀ mg mb hB' → KtsDicts (outer.filterMap (·.frame)) hB' → Q v { s with heap := h', toks := tk' }
/-- a contract of a def that catches: the frames below may have turned -/
def ConT (w : World) (s₀ : Shared) (mg mb : Str → Option Value) (f : Addr) (k : Nat) (vs : List Value) (news : List (Addr × Obj)) (ok : Prop) (v : Value) : Prop :=
  ∀ (dp un : Nat) (gd : Option (List Code)) (cn : Str) (cs : Scope) (a : Addr) (ccd : Value) (outer : List Env) (AF : Around) (baseH hB g₀ : Heap) (L : Addr) (m : Str → Option Value) (s : Shared) (Q E : Value → Shared → Prop),
    Below AF baseH outer hB → Fr hB L s.heap m → (hd.heap_39 w.params).In hB → News hB L s.heap news → TopC s₀ mg mb hB → (hd.heap_39 w.params).In baseH → TopC s₀ mg mb baseH → KtsDicts (outer.filterMap (·.frame)) hB → KtsTurn (outer.filterMap (·.frame)) g₀ hB → cs.kind = .function →
    ok → dp + k < recursionLimit → un + 8 * k < cLine → RetT w s₀ mg mb v AF baseH outer g₀ L m news s Q →
    wpAny (model Challenge.rw_bn0011_01.row.prog w) (ktrTop dp un gd cn cs L a ccd [] outer) (PySem.call (.ref f) vs) Q E s
theorem conT_use {w : World} {s₀ : Shared} {mg mb : Str → Option Value} {f : Addr} {k : Nat} {vs : List Value} {ok : Prop} {v : Value} {news : List (Addr × Obj)} (C : ConT w s₀ mg mb f k vs news ok v) {dp un : Nat} {gd : Option (List Code)} {cn : Str} {cs : Scope} {a : Addr} {ccd : Value} {outer : List Env} {AF : Around} {baseH hB g₀ : Heap} {L : Addr} {m : Str → Option Value} {s : Shared} {Q E : Value → Shared → Prop}
    (B : Below AF baseH outer hB) (F : Fr hB L s.heap m) (X : (hd.heap_39 w.params).In hB) (N : News hB L s.heap news) (T : TopC s₀ mg mb hB) (XB : (hd.heap_39 w.params).In baseH) (TB : TopC s₀ mg mb baseH) (D : KtsDicts (outer.filterMap (·.frame)) hB) (T0 : KtsTurn (outer.filterMap (·.frame)) g₀ hB) (hk : cs.kind = .function)
    (o : ok) (hd : dp + k < recursionLimit) (hu : un + 8 * k < cLine) (hr : RetT w s₀ mg mb v AF baseH outer g₀ L m news s Q) :
    wpAny (model Challenge.rw_bn0011_01.row.prog w) (ktrTop dp un gd cn cs L a ccd [] outer) (PySem.call (.ref f) vs) Q E s :=
  C _ _ _ _ _ _ _ _ _ _ _ _ _ _ _ _ _ B F X N T XB TB D T0 hk o hd hu hr
theorem finT {w : World} {s₀ : Shared} {mg mb : Str → Option Value} {v v' : Value} {AF : Around} {baseH : Heap} {outer : List Env} {g₀ hB' h' : Heap} {L : Addr} {m : Str → Option Value} {news news' : List (Addr × Obj)} {s : Shared} {Q : Value → Shared → Prop} {tk' : Nat}
    (hret : RetT w s₀ mg mb v AF baseH outer g₀ L m news s Q) (F : Fr hB' L h' m) (N : News hB' L h' news') (hn : ∀ p ∈ news, p ∈ news') (T : KtsTurn (outer.filterMap (·.frame)) g₀ hB') (B : Below AF baseH outer hB') (X : (hd.heap_39 w.params).In hB') (P : TopC s₀ mg mb hB') (D : KtsDicts (outer.filterMap (·.frame)) hB') (e : v' = v) :
    Q v' { s with heap := h', toks := tk' } := by subst e; exact hret hB' h' tk' T F (fun p hp => N p (hn p hp)) B X P D
local macro_rules | `(tactic| walk_at "my finT") => `(tactic| (rename RetT _ _ _ _ _ _ _ _ _ _ _ _ _ _ => hret; refine' finT hret ?F ?N ?hn ?T ?B ?X ?P ?D ?e; (case F => k_asm); (case N => k_asm); (case hn => walk_at "my sub"); (case T => first | assumption | exact KtsTurn.refl); (case B => assumption); (case X => assumption); (case P => assumption); (case D => assumption)))
set_option maxHeartbeats 1000000 in
theorem c_readW (w : World) (s₀ : Shared) (mg mb : Str → Option Value) (news : List (Addr × Obj)) (n : Int) (t : Tok) : Con w s₀ mg mb 381 16 [.int n t] news (1 ≤ gY n ∧ gY n ≤ 9999) (.t3 (iY n) (iW n) (iD n)) := by
  unfold Con
  k_fill
  intro dp un gd cn cs aF ccd cl outer AF baseH hB LF mF sF QF EF B F X N T hk hok hd hu hret
  dsimp only [TopC] at T
  refine wpAny_call ?_
  k_dflt
  (refine' enter0 (binds := [(Str.ofString "number", .int n t)]) ?k1 ?k2 ?k3 ?k5 ?kA ?kF ?kK ?k6 ?k7 ?k8 ?k9 ?kB ?_ ?c2 ?c3 ?c4 ?c5; (case kA => exact rfl); (case kF => exact rfl); (case kK => assumption); (case k1 => k_asm); (case k2 => k_asm); (case k3 => k_asm); (case k5 => k_asm); (case k6 => k_is); (case k7 => k_is); (case k8 => ktr_room); (case k9 => exact BindsTo.of_eq rfl); (case c5 => decide); (case kB => exact locs rfl); (case c2 => exact rfl); (case c3 => exact rfl); (case c4 => exact rfl); k_whole; intro g' L' h' FG' F' N' B' X' T' st'; (try dsimp only [List.reverse, List.reverseAux] at F'); (try dsimp only); (try k_fold))
  have hpm : PruneMark := True.intro
  k_steps
  all_goals (walk_at "fin t3")
  all_goals first | rfl | rw [gBack]
local macro_rules | `(tactic| walk_at "call ref") => `(tactic| (k_here; (with_reducible show wpAny _ _ (PySem.call (Value.ref 381) _) _ _ _); k_dflt (
  (refine' con_use (c_readW _ _ _ _ _ _ _) ?k1 ?k2 ?k3 ?k4 ?k5 ?kK ?ko ?kd ?ku ?_);
  (case k1 => first | k_asm | ktn_no "use c_readW: below"); (case k2 => first | k_asm | ktn_no "use c_readW: frame"); (case k3 => first | k_asm | ktn_no "use c_readW: part"); (case k4 => first | k_asm | ktn_no "use c_readW: ledger"); (case k5 => first | k_asm | ktn_no "use c_readW: top"); (case kK => first | exact rfl | assumption | ktn_no "use c_readW: kind");
  (case ko => first | (first | trivial | assumption | (walk_at "my dec")) | ktn_no "use c_readW: ok"); (case kd => first | ktr_room | ktn_no "use c_readW: room"); (case ku => first | ktr_units | ktn_no "use c_readW: units");
  dsimp only [Ret]; intro D9 t91 t92 t93 c9 h9 tk9 F9 N9; (try dsimp only); (try k_sweep); (try k_fold))))
set_option maxHeartbeats 2000000 in
theorem c_readN (w : World) (s₀ : Shared) (mg mb : Str → Option Value) (news : List (Addr × Obj)) (n : Int) (t : Tok) : ConT w s₀ mg mb 381 16 [.int n t] news (¬ (1 ≤ gY n ∧ gY n ≤ 9999)) (.none) := by
  unfold ConT
  k_fill
  intro dp un gd cn cs aF ccd outer AF baseH hB g0 LF mF sF QF EF B F X N T XB TB D T0 hk hok hd hu hret
  dsimp only [TopC] at T TB
  refine wpAny_call ?_
  k_dflt
  (refine' code_defS (binds := [(Str.ofString "number", .int n t)]) ?k1 ?k2 ?k3 ?k4 ?k5 ?XB ?TB ?D ?T0 ?kA ?k6 ?k7 ?k8 ?k9 ?kB ?_ ?cK ?c2 ?c3 ?c4 ?c5; (case kA => exact rfl); (case XB => assumption); (case TB => assumption); (case D => assumption); (case T0 => assumption); (case cK => assumption); (case k1 => k_asm); (case k2 => k_asm); (case k3 => k_asm); (case k4 => k_asm); (case k5 => k_asm); (case k6 => k_is); (case k7 => k_is); (case k8 => ktr_room); (case k9 => exact BindsTo.of_eq rfl); (case c5 => decide); (case kB => exact locs rfl); (case c2 => exact rfl); (case c3 => exact rfl); (case c4 => exact rfl); k_whole; intro g' L' h' FG' F' N' B' X' T' D'; (try dsimp only [List.reverse, List.reverseAux] at F'); (try dsimp only); (try k_fold))
  have hpm : PruneMark := True.intro
  k_steps
  all_goals (walk_at "my finT")
  all_goals rfl
local macro_rules | `(tactic| walk_at "call ref") => `(tactic| (k_here; (with_reducible show wpAny _ _ (PySem.call (Value.ref 381) _) _ _ _); k_dflt (
  (refine' conT_use (c_readN _ _ _ _ _ _ _) ?k1 ?k2 ?k3 ?k4 ?k5 ?XB ?TB ?D ?T0 ?kK ?ko ?kd ?ku ?_);
  (case k2 => first | k_asm | ktn_no "use c_readN: frame"); (case k1 => first | k_asm | ktn_no "use c_readN: below"); (case k3 => first | k_asm | ktn_no "use c_readN: part"); (case k4 => first | k_asm | ktn_no "use c_readN: ledger"); (case k5 => first | k_asm | ktn_no "use c_readN: top"); (case XB => first | assumption | ktn_no "use c_readN: XB"); (case TB => first | assumption | ktn_no "use c_readN: TB"); (case D => first | assumption | exact ktsDicts_nil | ktn_no "use c_readN: D"); (case T0 => first | assumption | exact KtsTurn.refl | ktn_no "use c_readN: T0"); (case kK => first | exact rfl | assumption | ktn_no "use c_readN: kind");
  (case ko => first | (first | assumption | (walk_at "my dec")) | ktn_no "use c_readN: ok"); (case kd => first | ktr_room | ktn_no "use c_readN: room"); (case ku => first | ktr_units | ktn_no "use c_readN: units");
  unfold RetT; intro hB9 h9 tk9 T9 F9 N9 B9 X9 P9 D9; (try dsimp only [TopC] at P9); (try dsimp only); (try k_fold))))
set_option maxHeartbeats 1000000 in
theorem c_weekW (w : World) (s₀ : Shared) (mg mb : Str → Option Value) (news : List (Addr × Obj)) (n : Int) (t1 t2 t3 : Tok) : Con w s₀ mg mb 388 16 [.int (gY n) t1, .int (gM n) t2, .int (gD n) t3] news (1 ≤ gY n ∧ gY n ≤ 9999) (.t3 (iY n) (iW n) (iD n)) := by
  unfold Con
  k_fill
  intro dp un gd cn cs aF ccd cl outer AF baseH hB LF mF sF QF EF B F X N T hk hok hd hu hret
  dsimp only [TopC] at T
  refine wpAny_call ?_
  k_dflt
  (refine' enter0 (binds := [(Str.ofString "year", .int (gY n) t1), (Str.ofString "month", .int (gM n) t2), (Str.ofString "day", .int (gD n) t3)]) ?k1 ?k2 ?k3 ?k5 ?kA ?kF ?kK ?k6 ?k7 ?k8 ?k9 ?kB ?_ ?c2 ?c3 ?c4 ?c5; (case kA => exact rfl); (case kF => exact rfl); (case kK => assumption); (case k1 => k_asm); (case k2 => k_asm); (case k3 => k_asm); (case k5 => k_asm); (case k6 => k_is); (case k7 => k_is); (case k8 => ktr_room); (case k9 => exact BindsTo.of_eq rfl); (case c5 => decide); (case kB => exact locs rfl); (case c2 => exact rfl); (case c3 => exact rfl); (case c4 => exact rfl); k_whole; intro g' L' h' FG' F' N' B' X' T' st'; (try dsimp only [List.reverse, List.reverseAux] at F'); (try dsimp only); (try k_fold))
  have hpm : PruneMark := True.intro
  k_steps
  all_goals (walk_at "fin t3")
  all_goals first | rfl | rw [gBack]
local macro_rules | `(tactic| walk_at "call ref") => `(tactic| (k_here; (with_reducible show wpAny _ _ (PySem.call (Value.ref 388) _) _ _ _); k_dflt (
  (refine' con_use (c_weekW _ _ _ _ _ _ _ _ _) ?k1 ?k2 ?k3 ?k4 ?k5 ?kK ?ko ?kd ?ku ?_);
  (case k1 => first | k_asm | ktn_no "use c_weekW: below"); (case k2 => first | k_asm | ktn_no "use c_weekW: frame"); (case k3 => first | k_asm | ktn_no "use c_weekW: part"); (case k4 => first | k_asm | ktn_no "use c_weekW: ledger"); (case k5 => first | k_asm | ktn_no "use c_weekW: top"); (case kK => first | exact rfl | assumption | ktn_no "use c_weekW: kind");
  (case ko => first | (first | trivial | assumption | (walk_at "my dec")) | ktn_no "use c_weekW: ok"); (case kd => first | ktr_room | ktn_no "use c_weekW: room"); (case ku => first | ktr_units | ktn_no "use c_weekW: units");
  dsimp only [Ret]; intro D9 t91 t92 t93 c9 h9 tk9 F9 N9; (try dsimp only); (try k_sweep); (try k_fold))))
set_option maxHeartbeats 2000000 in
theorem c_weekN (w : World) (s₀ : Shared) (mg mb : Str → Option Value) (news : List (Addr × Obj)) (n : Int) (t1 t2 t3 : Tok) : ConT w s₀ mg mb 388 16 [.int (gY n) t1, .int (gM n) t2, .int (gD n) t3] news (¬ (1 ≤ gY n ∧ gY n ≤ 9999)) (.none) := by
  unfold ConT
  k_fill
  intro dp un gd cn cs aF ccd outer AF baseH hB g0 LF mF sF QF EF B F X N T XB TB D T0 hk hok hd hu hret
  dsimp only [TopC] at T TB
  refine wpAny_call ?_
  k_dflt
  (refine' code_defS (binds := [(Str.ofString "year", .int (gY n) t1), (Str.ofString "month", .int (gM n) t2), (Str.ofString "day", .int (gD n) t3)]) ?k1 ?k2 ?k3 ?k4 ?k5 ?XB ?TB ?D ?T0 ?kA ?k6 ?k7 ?k8 ?k9 ?kB ?_ ?cK ?c2 ?c3 ?c4 ?c5; (case kA => exact rfl); (case XB => assumption); (case TB => assumption); (case D => assumption); (case T0 => assumption); (case cK => assumption); (case k1 => k_asm); (case k2 => k_asm); (case k3 => k_asm); (case k4 => k_asm); (case k5 => k_asm); (case k6 => k_is); (case k7 => k_is); (case k8 => ktr_room); (case k9 => exact BindsTo.of_eq rfl); (case c5 => decide); (case kB => exact locs rfl); (case c2 => exact rfl); (case c3 => exact rfl); (case c4 => exact rfl); k_whole; intro g' L' h' FG' F' N' B' X' T' D'; (try dsimp only [List.reverse, List.reverseAux] at F'); (try dsimp only); (try k_fold))
  have hpm : PruneMark := True.intro
  k_steps
  all_goals (walk_at "my finT")
  all_goals rfl
local macro_rules | `(tactic| walk_at "call ref") => `(tactic| (k_here; (with_reducible show wpAny _ _ (PySem.call (Value.ref 388) _) _ _ _); k_dflt (
  (refine' conT_use (c_weekN _ _ _ _ _ _ _ _ _) ?k1 ?k2 ?k3 ?k4 ?k5 ?XB ?TB ?D ?T0 ?kK ?ko ?kd ?ku ?_);
  (case k2 => first | k_asm | ktn_no "use c_weekN: frame"); (case k1 => first | k_asm | ktn_no "use c_weekN: below"); (case k3 => first | k_asm | ktn_no "use c_weekN: part"); (case k4 => first | k_asm | ktn_no "use c_weekN: ledger"); (case k5 => first | k_asm | ktn_no "use c_weekN: top"); (case XB => first | assumption | ktn_no "use c_weekN: XB"); (case TB => first | assumption | ktn_no "use c_weekN: TB"); (case D => first | assumption | exact ktsDicts_nil | ktn_no "use c_weekN: D"); (case T0 => first | assumption | exact KtsTurn.refl | ktn_no "use c_weekN: T0"); (case kK => first | exact rfl | assumption | ktn_no "use c_weekN: kind");
  (case ko => first | (first | assumption | (walk_at "my dec")) | ktn_no "use c_weekN: ok"); (case kd => first | ktr_room | ktn_no "use c_weekN: room"); (case ku => first | ktr_units | ktn_no "use c_weekN: units");
  unfold RetT; intro hB9 h9 tk9 T9 F9 N9 B9 X9 P9 D9; (try dsimp only [TopC] at P9); (try dsimp only); (try k_fold))))
theorem d10 {m : Int} (h : 1 ≤ m ∧ m ≤ 12) : (306 * (if m + 1 ≤ 3 then m + 1 + 12 else m + 1)).fdiv 10 = if m ≤ 2 then (306 * (m + 13)) / 10 else (306 * (m + 1)) / 10 := by
  rw [fd]; split <;> split <;> first | omega | rfl
theorem oF_eq {y m d : Int} (h : okD (leapB y) m d) : oF y m d = cum (leapB y) m + d := by
  obtain ⟨h1, h2, h3, h4⟩ := h
  have hb := b2i_range (leapB y)
  unfold oF oT
  rw [d10 ⟨h1, h2⟩]
  unfold dim at h4
  unfold cum
  generalize b2i (leapB y) = l at *
  have hm : m = 1 ∨ m = 2 ∨ m = 3 ∨ m = 4 ∨ m = 5 ∨ m = 6 ∨ m = 7 ∨ m = 8 ∨ m = 9 ∨ m = 10 ∨ m = 11 ∨ m = 12 := by omega
  rcases hm with rfl | rfl | rfl | rfl | rfl | rfl | rfl | rfl | rfl | rfl | rfl | rfl <;> simp at h4 ⊢ <;> omega
theorem oF_G (n : Int) : oF (gY n) (gM n) (gD n) = gO n := by
  have h := gBack n
  rw [oF_eq (gOk n), gO_eq]
  unfold toG at h; omega
theorem oM_of {y p m d : Int} (h : okD (leapB y) m d) (e : p = cum (leapB y) m + d) : oM y p = m ∧ oD y p = d := by
  have hr := okD_range h
  have hm : oM y p = m := by
    unfold oM; rw [fd]
    have h2 := mo_ok (leapB y) (p := p - 1) (a := oAdj y p) (by omega) (by omega) (by unfold oAdj; split <;> split <;> omega)
    have hi := okD_inj (lp := leapB y) (m := m) (d := d) (k := ((p - 1 + oAdj y p) * 12 + 373) / 367) (e := p - cum (leapB y) (((p - 1 + oAdj y p) * 12 + 373) / 367)) h ⟨h2.1, h2.2.1, by omega, by omega⟩ (by omega)
    exact hi.1.symm
  refine ⟨hm, ?_⟩
  unfold oD; rw [hm, oF_eq ⟨h.1, h.2.1, (dim_pos (leapB y) m).1, (dim_pos (leapB y) m).2⟩]; omega
theorem oM_G (n : Int) : oM (gY n) (gO n) = gM n ∧ oD (gY n) (gO n) = gD n := by
  have h := gBack n
  refine oM_of (gOk n) ?_
  rw [gO_eq]; unfold toG at h; omega
theorem gO_pos (n : Int) : 1 ≤ gO n := by have := gY_spec n; rw [gO_eq]; omega
theorem toO_G (n : Int) : toG (gY n) 1 1 + gO n - 1 = n := by rw [gO_eq, toG_11]; omega
theorem next_ok {lp : Bool} {y m d : Int} (h : okD lp m d) : (nxY lp y m d = y ∧ okD lp (nxM lp m d) (nxD lp m d) ∧ cum lp (nxM lp m d) + nxD lp m d = cum lp m + d + 1) ∨ (nxY lp y m d = y + 1 ∧ nxM lp m d = 1 ∧ nxD lp m d = 1 ∧ cum lp m + d = 365 + b2i lp) := by
  obtain ⟨h1, h2, h3, h4⟩ := h
  have hb := b2i_range lp
  unfold nxY nxM nxD
  by_cases hd : d < dim lp m
  · rw [if_pos hd, if_pos hd, if_pos hd]
    exact Or.inl ⟨rfl, ⟨h1, h2, by omega, by omega⟩, by omega⟩
  · rw [if_neg hd, if_neg hd, if_neg hd]
    have e : d = dim lp m := by omega
    by_cases hm : m < 12
    · rw [if_pos hm, if_pos hm]
      refine Or.inl ⟨rfl, ⟨by omega, by omega, by omega, (dim_pos lp (m + 1)).2⟩, ?_⟩
      rw [e]; unfold cum dim
      generalize b2i lp = l at *
      have hm' : m = 1 ∨ m = 2 ∨ m = 3 ∨ m = 4 ∨ m = 5 ∨ m = 6 ∨ m = 7 ∨ m = 8 ∨ m = 9 ∨ m = 10 ∨ m = 11 := by omega
      rcases hm' with rfl | rfl | rfl | rfl | rfl | rfl | rfl | rfl | rfl | rfl | rfl <;> simp <;> omega
    · rw [if_neg hm, if_neg hm]
      have : m = 12 := by omega
      subst this
      refine Or.inr ⟨rfl, rfl, rfl, ?_⟩
      rw [e]; unfold cum dim; simp; omega
theorem nextG (n : Int) : nxY (leapB (gY n)) (gY n) (gM n) (gD n) = gY (n + 1) ∧ nxM (leapB (gY n)) (gM n) (gD n) = gM (n + 1) ∧ nxD (leapB (gY n)) (gM n) (gD n) = gD (n + 1) := by
  have h := gBack n
  unfold toG at h
  rcases next_ok (y := gY n) (gOk n) with ⟨e1, o, q⟩ | ⟨e1, e2, e3, q⟩
  · rw [e1]; exact gUniq o (by unfold toG; omega)
  · rw [e1, e2, e3]
    refine gUniq ⟨by omega, by omega, by omega, (dim_pos _ _).2⟩ ?_
    rw [toG_11, jan0_step]; omega
theorem nextJ (n : Int) : nxY (leapJ (jY n)) (jY n) (jM n) (jD n) = jY (n + 1) ∧ nxM (leapJ (jY n)) (jM n) (jD n) = jM (n + 1) ∧ nxD (leapJ (jY n)) (jM n) (jD n) = jD (n + 1) := by
  obtain ⟨o0, h⟩ := jOk n
  rw [toJ_eq _ _ o0.1 o0.2.1] at h
  rcases next_ok (y := jY n) o0 with ⟨e1, o, q⟩ | ⟨e1, e2, e3, q⟩
  · rw [e1]; exact jUniq o (by rw [toJ_eq _ _ o.1 o.2.1]; omega)
  · rw [e1, e2, e3]
    refine jUniq ⟨by omega, by omega, by omega, (dim_pos _ _).2⟩ ?_
    rw [toJ_eq _ _ (by omega) (by omega), jj_step]
    have : cum (leapJ (jY n + 1)) 1 = 0 := by unfold cum; simp
    omega
theorem dateG {y r : Int} (h0 : 0 ≤ r) (h1 : r < 365 + b2i (leapB y)) : y = gY (toG y 1 1 + r) ∧ dM (leapB y) r = gM (toG y 1 1 + r) ∧ dD (leapB y) r = gD (toG y 1 1 + r) ∧ r + 1 = gO (toG y 1 1 + r) := by
  have hd := date_ok h0 h1
  have hu := gUniq hd.1 (n := toG y 1 1 + r) (by rw [toG_11]; unfold toG; omega)
  refine ⟨hu.1, hu.2.1, hu.2.2, ?_⟩
  rw [gO_eq, ← hu.1, toG_11]; omega
def to2 (y m d : Int) : Int := if m ≤ 2 then 2 - (y - 1).fdiv 100 + ((y - 1).fdiv 100).fdiv 4 + d + (1461 * (y - 1 + 4716)).fdiv 4 + (306001 * (m + 12 + 1)).fdiv 10000 - 1524 else 2 - y.fdiv 100 + (y.fdiv 100).fdiv 4 + d + (1461 * (y + 4716)).fdiv 4 + (306001 * (m + 1)).fdiv 10000 - 1524
theorem to2_eq {y m d : Int} (hm : 1 ≤ m ∧ m ≤ 12) : to2 y m d = toG y m d := by
  have hl := b2i_leap y
  unfold to2 toG jan0 cum
  rw [fd, fd, fd, fd, fd, fd, fd, fd, d4, d4]
  obtain ⟨h1, h2⟩ := hm
  have hm : m = 1 ∨ m = 2 ∨ m = 3 ∨ m = 4 ∨ m = 5 ∨ m = 6 ∨ m = 7 ∨ m = 8 ∨ m = 9 ∨ m = 10 ∨ m = 11 ∨ m = 12 := by omega
  rcases hm with rfl | rfl | rfl | rfl | rfl | rfl | rfl | rfl | rfl | rfl | rfl | rfl <;> simp <;> omega
theorem okJ (n : Int) : 1 ≤ jD n ∧ jD n ≤ dim (leapJ (jY n)) (jM n) := (jOk n).1.2.2
theorem news_more {h₀ h : Heap} {L : Addr} {news : List (Addr × Obj)} {q : Addr × Obj} (N : News h₀ L h news) (hq : q ∈ news) : News h₀ L h (q :: news) := fun p hp => by
  rcases List.mem_cons.mp hp with rfl | hp
  · exact N _ hq
  · exact N p hp
theorem conT_split {w : World} {s₀ : Shared} {mg mb : Str → Option Value} {f : Addr} {k : Nat} {vs : List Value} {news : List (Addr × Obj)} {ok P : Prop} {v : Value} (a : ConT w s₀ mg mb f k vs news (ok ∧ P) v) (b : ConT w s₀ mg mb f k vs news (ok ∧ ¬ P) v) : ConT w s₀ mg mb f k vs news ok v := by
  intro dp un gd cn cs aF ccd outer AF baseH hB g0 LF mF sF QF EF B F X N T XB TB D T0 hk hok hd hu hret
  by_cases h : P
  · exact a _ _ _ _ _ _ _ _ _ _ _ _ _ _ _ _ _ B F X N T XB TB D T0 hk ⟨hok, h⟩ hd hu hret
  · exact b _ _ _ _ _ _ _ _ _ _ _ _ _ _ _ _ _ B F X N T XB TB D T0 hk ⟨hok, h⟩ hd hu hret
local macro_rules | `(tactic| walk_at "my lt") => `(tactic| first | assumption | exact And.right (by assumption) | exact And.right (And.right (by assumption)) | exact And.right (And.right (And.right (by assumption))) | exact And.right (And.right (And.right (And.right (by assumption)))) | exact And.right (And.right (And.right (And.right (And.right (by assumption))))) | exact And.right (And.right (And.right (And.right (And.right (And.right (by assumption)))))))
local macro_rules | `(tactic| k_all) => `(tactic| exact fun p hp => Nat.ne_of_lt (ktn_ltOf (by walk_at "my lt") p hp))
local macro_rules | `(tactic| walk_at "my ok") => `(tactic| exact okJ _)
set_option maxHeartbeats 1000000 in
theorem c_to2 (w : World) (s₀ : Shared) (mg mb : Str → Option Value) (news : List (Addr × Obj)) (y m d : Int) (t1 t2 t3 : Tok) : Con w s₀ mg mb 93 4 [.int y t1, .int m t2, .int d t3] news (1 ≤ d ∧ d ≤ dim (leapB y) m) (.int (to2 y m d)) := by
  unfold Con
  k_fill
  intro dp un gd cn cs aF ccd cl outer AF baseH hB LF mF sF QF EF B F X N T hk hok hd hu hret
  dsimp only [TopC] at T
  refine wpAny_call ?_
  k_dflt
  (refine' code_def (binds := [(Str.ofString "year", .int y t1), (Str.ofString "month", .int m t2), (Str.ofString "day", .int d t3)]) ?k1 ?k2 ?k3 ?k4 ?k5 ?kA ?kF ?kK ?k6 ?k7 ?k8 ?k9 ?kB ?_ ?c2 ?c3 ?c4 ?c5; (case kA => exact rfl); (case kF => exact rfl); (case kK => assumption); (case k1 => k_asm); (case k2 => k_asm); (case k3 => k_asm); (case k4 => k_asm); (case k5 => k_asm); (case k6 => k_is); (case k7 => k_is); (case k8 => ktr_room); (case k9 => exact BindsTo.of_eq rfl); (case c5 => decide); (case kB => exact locs rfl); (case c2 => exact rfl); (case c3 => exact rfl); (case c4 => exact rfl); k_whole; intro g' L' h' FG' F' N' B' X' T'; (try dsimp only [List.reverse, List.reverseAux] at F'); (try dsimp only); (try k_fold))
  k_steps
  all_goals (walk_at "my int"; unfold to2; first | (rw [if_pos (by assumption)]; done) | (rw [if_neg (by assumption)]; done) | trace_state)
local macro_rules | `(tactic| walk_at "call ref") => `(tactic| (k_here; (with_reducible show wpAny _ _ (PySem.call (Value.ref 93) _) _ _ _); k_dflt (
  (refine' con_use (c_to2 _ _ _ _ _ _ _ _ _ _ _) ?k1 ?k2 ?k3 ?k4 ?k5 ?kK ?ko ?kd ?ku ?_);
  (case k1 => first | k_asm | ktn_no "use c_to2: below"); (case k2 => first | k_asm | ktn_no "use c_to2: frame"); (case k3 => first | k_asm | ktn_no "use c_to2: part"); (case k4 => first | k_asm | ktn_no "use c_to2: ledger"); (case k5 => first | k_asm | ktn_no "use c_to2: top"); (case kK => first | exact rfl | assumption | ktn_no "use c_to2: kind");
  (case ko => first | (first | trivial | assumption | exact okG _ | (walk_at "my dec")) | ktn_no "use c_to2: ok"); (case kd => first | ktr_room | ktn_no "use c_to2: room"); (case ku => first | ktr_units | ktn_no "use c_to2: units");
  dsimp only [Ret]; intro t9 h9 tk9 F9 N9; (try dsimp only); (try k_sweep); (try k_fold))))
set_option maxHeartbeats 2000000 in
theorem c_dayIn (w : World) (s₀ : Shared) (mg mb : Str → Option Value) (news : List (Addr × Obj)) (n y m d yo po jy jm jd iy iw id : Int) (t t1 t2 t3 t4 t5 t6 t7 t8 t9 ta tb : Tok) (c1 c2 c3 c4 : Nat) (D1 D2 D3 D4 : Addr) : ConT w s₀ mg mb 395 30 [.int n t, .ref D1, .ref D2, .ref D3, .ref D4] news ((((D1, Tup3 y m d t1 t2 t3 c1) ∈ news ∧ (D2, Tup2 yo po t4 t5 c2) ∈ news ∧ (D3, Tup3 jy jm jd t6 t7 t8 c3) ∈ news ∧ (D4, Tup3 iy iw id t9 ta tb c4) ∈ news) ∧ (y = gY n ∧ m = gM n ∧ d = gD n) ∧ (yo = gY n ∧ po = gO n) ∧ (jy = jY n ∧ jm = jM n ∧ jd = jD n) ∧ (iy = iY n ∧ iw = iW n ∧ id = iD n)) ∧ (1 ≤ gY n ∧ gY n ≤ 9999)) (.bool true) := by
  unfold ConT
  k_fill
  intro dp un gd cn cs aF ccd outer AF baseH hB g0 LF mF sF QF EF B F X N T XB TB D T0 hk hok hd hu hret
  dsimp only [TopC] at T TB
  obtain ⟨⟨⟨q1, q2, q3, q4⟩, ⟨rfl, rfl, rfl⟩, ⟨rfl, rfl⟩, ⟨rfl, rfl, rfl⟩, rfl, rfl, rfl⟩, hin⟩ := hok
  have N := news_more (news_more (news_more (news_more N q4) (.tail _ q3)) (.tail _ (.tail _ q2))) (.tail _ (.tail _ (.tail _ q1)))
  have b1 := gBack n
  have b2 := toO_G n
  have b3 := (jOk n).2
  have b4 := (isoBack n).2
  refine wpAny_call ?_
  k_dflt
  (refine' code_defS (binds := [(Str.ofString "number", .int n t), (Str.ofString "date", .ref D1), (Str.ofString "ordinal_date", .ref D2), (Str.ofString "old", .ref D3), (Str.ofString "week", .ref D4)]) ?k1 ?k2 ?k3 ?k4 ?k5 ?XB ?TB ?D ?T0 ?kA ?k6 ?k7 ?k8 ?k9 ?kB ?_ ?cK ?c2 ?c3 ?c4 ?c5; (case kA => exact rfl); (case XB => assumption); (case TB => assumption); (case D => assumption); (case T0 => assumption); (case cK => assumption); (case k1 => k_asm); (case k2 => k_asm); (case k3 => k_asm); (case k4 => k_asm); (case k5 => k_asm); (case k6 => k_is); (case k7 => k_is); (case k8 => ktr_room); (case k9 => exact BindsTo.of_eq rfl); (case c5 => decide); (case kB => exact locs rfl); (case c2 => exact rfl); (case c3 => exact rfl); (case c4 => exact rfl); k_whole; intro g' L' h' FG' F' N' B' X' T' D'; (try dsimp only [List.reverse, List.reverseAux] at F'); (try dsimp only); (try k_fold))
  have hpm : PruneMark := True.intro
  k_steps
  all_goals (walk_at "my finT")
  all_goals first | rfl | rw [b4, beq_self_eq_true]
set_option maxHeartbeats 2000000 in
theorem c_dayOut (w : World) (s₀ : Shared) (mg mb : Str → Option Value) (news : List (Addr × Obj)) (n y m d yo po jy jm jd iy iw id : Int) (t t1 t2 t3 t4 t5 t6 t7 t8 t9 ta tb : Tok) (c1 c2 c3 c4 : Nat) (D1 D2 D3 D4 : Addr) : ConT w s₀ mg mb 395 30 [.int n t, .ref D1, .ref D2, .ref D3, .ref D4] news ((((D1, Tup3 y m d t1 t2 t3 c1) ∈ news ∧ (D2, Tup2 yo po t4 t5 c2) ∈ news ∧ (D3, Tup3 jy jm jd t6 t7 t8 c3) ∈ news ∧ (D4, Tup3 iy iw id t9 ta tb c4) ∈ news) ∧ (y = gY n ∧ m = gM n ∧ d = gD n) ∧ (yo = gY n ∧ po = gO n) ∧ (jy = jY n ∧ jm = jM n ∧ jd = jD n) ∧ (iy = iY n ∧ iw = iW n ∧ id = iD n)) ∧ ¬ (1 ≤ gY n ∧ gY n ≤ 9999)) (.bool true) := by
  unfold ConT
  k_fill
  intro dp un gd cn cs aF ccd outer AF baseH hB g0 LF mF sF QF EF B F X N T XB TB D T0 hk hok hd hu hret
  dsimp only [TopC] at T TB
  obtain ⟨⟨⟨q1, q2, q3, q4⟩, ⟨rfl, rfl, rfl⟩, ⟨rfl, rfl⟩, ⟨rfl, rfl, rfl⟩, rfl, rfl, rfl⟩, hin⟩ := hok
  have N := news_more (news_more (news_more (news_more N q4) (.tail _ q3)) (.tail _ (.tail _ q2))) (.tail _ (.tail _ (.tail _ q1)))
  have b1 := gBack n
  have b2 := toO_G n
  have b3 := (jOk n).2
  have b4 := (isoBack n).2
  refine wpAny_call ?_
  k_dflt
  (refine' code_defS (binds := [(Str.ofString "number", .int n t), (Str.ofString "date", .ref D1), (Str.ofString "ordinal_date", .ref D2), (Str.ofString "old", .ref D3), (Str.ofString "week", .ref D4)]) ?k1 ?k2 ?k3 ?k4 ?k5 ?XB ?TB ?D ?T0 ?kA ?k6 ?k7 ?k8 ?k9 ?kB ?_ ?cK ?c2 ?c3 ?c4 ?c5; (case kA => exact rfl); (case XB => assumption); (case TB => assumption); (case D => assumption); (case T0 => assumption); (case cK => assumption); (case k1 => k_asm); (case k2 => k_asm); (case k3 => k_asm); (case k4 => k_asm); (case k5 => k_asm); (case k6 => k_is); (case k7 => k_is); (case k8 => ktr_room); (case k9 => exact BindsTo.of_eq rfl); (case c5 => decide); (case kB => exact locs rfl); (case c2 => exact rfl); (case c3 => exact rfl); (case c4 => exact rfl); k_whole; intro g' L' h' FG' F' N' B' X' T' D'; (try dsimp only [List.reverse, List.reverseAux] at F'); (try dsimp only); (try k_fold))
  have hpm : PruneMark := True.intro
  k_steps
  all_goals (walk_at "my finT")
  all_goals first | rfl | rw [b4, beq_self_eq_true]
theorem c_day (w : World) (s₀ : Shared) (mg mb : Str → Option Value) (news : List (Addr × Obj)) (n y m d yo po jy jm jd iy iw id : Int) (t t1 t2 t3 t4 t5 t6 t7 t8 t9 ta tb : Tok) (c1 c2 c3 c4 : Nat) (D1 D2 D3 D4 : Addr) : ConT w s₀ mg mb 395 30 [.int n t, .ref D1, .ref D2, .ref D3, .ref D4] news (((D1, Tup3 y m d t1 t2 t3 c1) ∈ news ∧ (D2, Tup2 yo po t4 t5 c2) ∈ news ∧ (D3, Tup3 jy jm jd t6 t7 t8 c3) ∈ news ∧ (D4, Tup3 iy iw id t9 ta tb c4) ∈ news) ∧ (y = gY n ∧ m = gM n ∧ d = gD n) ∧ (yo = gY n ∧ po = gO n) ∧ (jy = jY n ∧ jm = jM n ∧ jd = jD n) ∧ (iy = iY n ∧ iw = iW n ∧ id = iD n)) (.bool true) :=
  conT_split (c_dayIn w s₀ mg mb news n y m d yo po jy jm jd iy iw id t t1 t2 t3 t4 t5 t6 t7 t8 t9 ta tb c1 c2 c3 c4 D1 D2 D3 D4) (c_dayOut w s₀ mg mb news n y m d yo po jy jm jd iy iw id t t1 t2 t3 t4 t5 t6 t7 t8 t9 ta tb c1 c2 c3 c4 D1 D2 D3 D4)
set_option maxHeartbeats 4000000 in
theorem c_waysIn (w : World) (s₀ : Shared) (mg mb : Str → Option Value) (news : List (Addr × Obj)) (ep : Int) (te : Tok) (n y m d yo po jy jm jd iy iw id : Int) (t t1 t2 t3 t4 t5 t6 t7 t8 t9 ta tb : Tok) (c1 c2 c3 c4 : Nat) (D1 D2 D3 D4 : Addr) : ConT w s₀ mg mb 402 40 [.int ep te, .int n t, .ref D1, .ref D2, .ref D3, .ref D4] news ((((D1, Tup3 y m d t1 t2 t3 c1) ∈ news ∧ (D2, Tup2 yo po t4 t5 c2) ∈ news ∧ (D3, Tup3 jy jm jd t6 t7 t8 c3) ∈ news ∧ (D4, Tup3 iy iw id t9 ta tb c4) ∈ news) ∧ (y = gY n ∧ m = gM n ∧ d = gD n) ∧ (yo = gY n ∧ po = gO n) ∧ (jy = jY n ∧ jm = jM n ∧ jd = jD n) ∧ (iy = iY n ∧ iw = iW n ∧ id = iD n)) ∧ (1 ≤ gY n ∧ gY n ≤ 9999)) (.bool true) := by
  unfold ConT
  k_fill
  intro dp un gd cn cs aF ccd outer AF baseH hB g0 LF mF sF QF EF B F X N T XB TB D T0 hk hok hd hu hret
  dsimp only [TopC] at T TB
  obtain ⟨⟨⟨q1, q2, q3, q4⟩, ⟨rfl, rfl, rfl⟩, ⟨rfl, rfl⟩, ⟨rfl, rfl, rfl⟩, rfl, rfl, rfl⟩, hin⟩ := hok
  have N := news_more (news_more (news_more (news_more N q4) (.tail _ q3)) (.tail _ (.tail _ q2))) (.tail _ (.tail _ (.tail _ q1)))
  have b1 := gBack n
  have b2 := toO_G n
  have b3 := (jOk n).2
  have b4 := (isoBack n).2
  have b5 := oF_G n
  have b6 := (oM_G n).1
  have b7 := (oM_G n).2
  have b8 := gO_pos n
  have b9 : to2 (gY n) (gM n) (gD n) = n := by rw [to2_eq ⟨(gOk n).1, (gOk n).2.1⟩]; exact gBack n
  have b10 := (gOk n).1
  refine wpAny_call ?_
  k_dflt
  (refine' code_defS (binds := [(Str.ofString "epoch", .int ep te), (Str.ofString "number", .int n t), (Str.ofString "date", .ref D1), (Str.ofString "ordinal_date", .ref D2), (Str.ofString "old", .ref D3), (Str.ofString "week", .ref D4)]) ?k1 ?k2 ?k3 ?k4 ?k5 ?XB ?TB ?D ?T0 ?kA ?k6 ?k7 ?k8 ?k9 ?kB ?_ ?cK ?c2 ?c3 ?c4 ?c5; (case kA => exact rfl); (case XB => assumption); (case TB => assumption); (case D => assumption); (case T0 => assumption); (case cK => assumption); (case k1 => k_asm); (case k2 => k_asm); (case k3 => k_asm); (case k4 => k_asm); (case k5 => k_asm); (case k6 => k_is); (case k7 => k_is); (case k8 => ktr_room); (case k9 => exact BindsTo.of_eq rfl); (case c5 => decide); (case kB => exact locs rfl); (case c2 => exact rfl); (case c3 => exact rfl); (case c4 => exact rfl); k_whole; intro g' L' h' FG' F' N' B' X' T' D'; (try dsimp only [List.reverse, List.reverseAux] at F'); (try dsimp only); (try k_fold))
  have hpm : PruneMark := True.intro
  k_steps
  all_goals (walk_at "my finT")
  all_goals first | rfl | exact congrArg Value.bool (decide_eq_true rfl) | trace_state
set_option maxHeartbeats 4000000 in
theorem c_waysOut (w : World) (s₀ : Shared) (mg mb : Str → Option Value) (news : List (Addr × Obj)) (ep : Int) (te : Tok) (n y m d yo po jy jm jd iy iw id : Int) (t t1 t2 t3 t4 t5 t6 t7 t8 t9 ta tb : Tok) (c1 c2 c3 c4 : Nat) (D1 D2 D3 D4 : Addr) : ConT w s₀ mg mb 402 40 [.int ep te, .int n t, .ref D1, .ref D2, .ref D3, .ref D4] news ((((D1, Tup3 y m d t1 t2 t3 c1) ∈ news ∧ (D2, Tup2 yo po t4 t5 c2) ∈ news ∧ (D3, Tup3 jy jm jd t6 t7 t8 c3) ∈ news ∧ (D4, Tup3 iy iw id t9 ta tb c4) ∈ news) ∧ (y = gY n ∧ m = gM n ∧ d = gD n) ∧ (yo = gY n ∧ po = gO n) ∧ (jy = jY n ∧ jm = jM n ∧ jd = jD n) ∧ (iy = iY n ∧ iw = iW n ∧ id = iD n)) ∧ ¬ (1 ≤ gY n ∧ gY n ≤ 9999)) (.bool true) := by
  unfold ConT
  k_fill
  intro dp un gd cn cs aF ccd outer AF baseH hB g0 LF mF sF QF EF B F X N T XB TB D T0 hk hok hd hu hret
  dsimp only [TopC] at T TB
  obtain ⟨⟨⟨q1, q2, q3, q4⟩, ⟨rfl, rfl, rfl⟩, ⟨rfl, rfl⟩, ⟨rfl, rfl, rfl⟩, rfl, rfl, rfl⟩, hin⟩ := hok
  have N := news_more (news_more (news_more (news_more N q4) (.tail _ q3)) (.tail _ (.tail _ q2))) (.tail _ (.tail _ (.tail _ q1)))
  have b1 := gBack n
  have b2 := toO_G n
  have b3 := (jOk n).2
  have b4 := (isoBack n).2
  have b5 := oF_G n
  have b6 := (oM_G n).1
  have b7 := (oM_G n).2
  have b8 := gO_pos n
  have b9 : to2 (gY n) (gM n) (gD n) = n := by rw [to2_eq ⟨(gOk n).1, (gOk n).2.1⟩]; exact gBack n
  have b10 := (gOk n).1
  refine wpAny_call ?_
  k_dflt
  (refine' code_defS (binds := [(Str.ofString "epoch", .int ep te), (Str.ofString "number", .int n t), (Str.ofString "date", .ref D1), (Str.ofString "ordinal_date", .ref D2), (Str.ofString "old", .ref D3), (Str.ofString "week", .ref D4)]) ?k1 ?k2 ?k3 ?k4 ?k5 ?XB ?TB ?D ?T0 ?kA ?k6 ?k7 ?k8 ?k9 ?kB ?_ ?cK ?c2 ?c3 ?c4 ?c5; (case kA => exact rfl); (case XB => assumption); (case TB => assumption); (case D => assumption); (case T0 => assumption); (case cK => assumption); (case k1 => k_asm); (case k2 => k_asm); (case k3 => k_asm); (case k4 => k_asm); (case k5 => k_asm); (case k6 => k_is); (case k7 => k_is); (case k8 => ktr_room); (case k9 => exact BindsTo.of_eq rfl); (case c5 => decide); (case kB => exact locs rfl); (case c2 => exact rfl); (case c3 => exact rfl); (case c4 => exact rfl); k_whole; intro g' L' h' FG' F' N' B' X' T' D'; (try dsimp only [List.reverse, List.reverseAux] at F'); (try dsimp only); (try k_fold))
  have hpm : PruneMark := True.intro
  k_steps
  all_goals (walk_at "my finT")
  all_goals first | rfl | exact congrArg Value.bool (decide_eq_true rfl) | trace_state
theorem c_ways (w : World) (s₀ : Shared) (mg mb : Str → Option Value) (news : List (Addr × Obj)) (ep : Int) (te : Tok) (n y m d yo po jy jm jd iy iw id : Int) (t t1 t2 t3 t4 t5 t6 t7 t8 t9 ta tb : Tok) (c1 c2 c3 c4 : Nat) (D1 D2 D3 D4 : Addr) : ConT w s₀ mg mb 402 40 [.int ep te, .int n t, .ref D1, .ref D2, .ref D3, .ref D4] news (((D1, Tup3 y m d t1 t2 t3 c1) ∈ news ∧ (D2, Tup2 yo po t4 t5 c2) ∈ news ∧ (D3, Tup3 jy jm jd t6 t7 t8 c3) ∈ news ∧ (D4, Tup3 iy iw id t9 ta tb c4) ∈ news) ∧ (y = gY n ∧ m = gM n ∧ d = gD n) ∧ (yo = gY n ∧ po = gO n) ∧ (jy = jY n ∧ jm = jM n ∧ jd = jD n) ∧ (iy = iY n ∧ iw = iW n ∧ id = iD n)) (.bool true) :=
  conT_split (c_waysIn w s₀ mg mb news ep te n y m d yo po jy jm jd iy iw id t t1 t2 t3 t4 t5 t6 t7 t8 t9 ta tb c1 c2 c3 c4 D1 D2 D3 D4) (c_waysOut w s₀ mg mb news ep te n y m d yo po jy jm jd iy iw id t t1 t2 t3 t4 t5 t6 t7 t8 t9 ta tb c1 c2 c3 c4 D1 D2 D3 D4)
set_option maxHeartbeats 4000000 in
theorem c_orderIn (w : World) (s₀ : Shared) (mg mb : Str → Option Value) (news : List (Addr × Obj)) (k : Int) (tk : Tok) (n y m d yo po jy jm jd iy iw id : Int) (t t1 t2 t3 t4 t5 t6 t7 t8 t9 ta tb : Tok) (c1 c2 c3 c4 : Nat) (D1 D2 D3 D4 : Addr) : ConT w s₀ mg mb 416 40 [.int n t, .int k tk, .ref D1, .ref D2, .ref D3, .ref D4] news ((((D1, Tup3 y m d t1 t2 t3 c1) ∈ news ∧ (D2, Tup2 yo po t4 t5 c2) ∈ news ∧ (D3, Tup3 jy jm jd t6 t7 t8 c3) ∈ news ∧ (D4, Tup3 iy iw id t9 ta tb c4) ∈ news) ∧ (y = gY n ∧ m = gM n ∧ d = gD n) ∧ (yo = gY n ∧ po = gO n) ∧ (jy = jY n ∧ jm = jM n ∧ jd = jD n) ∧ (iy = iY n ∧ iw = iW n ∧ id = iD n)) ∧ (1 ≤ gY k ∧ gY k ≤ 9999)) (.bool true) := by
  unfold ConT
  k_fill
  intro dp un gd cn cs aF ccd outer AF baseH hB g0 LF mF sF QF EF B F X N T XB TB D T0 hk hok hd hu hret
  dsimp only [TopC] at T TB
  obtain ⟨⟨⟨q1, q2, q3, q4⟩, ⟨rfl, rfl, rfl⟩, ⟨rfl, rfl⟩, ⟨rfl, rfl, rfl⟩, rfl, rfl, rfl⟩, hin⟩ := hok
  have N := news_more (news_more (news_more (news_more N q4) (.tail _ q3)) (.tail _ (.tail _ q2))) (.tail _ (.tail _ (.tail _ q1)))
  have b1 := gBack n
  have b2 := toO_G n
  have b3 := (jOk n).2
  have b4 := (isoBack n).2
  have b1k := gBack k
  have b2k := toO_G k
  have b3k := (jOk k).2
  have b5 := ordG n k
  have b6 := ordO n k
  have b7 := ordJ n k
  have b8 := ordI n k
  refine wpAny_call ?_
  k_dflt
  (refine' code_defS (binds := [(Str.ofString "number", .int n t), (Str.ofString "later", .int k tk), (Str.ofString "date", .ref D1), (Str.ofString "ordinal_date", .ref D2), (Str.ofString "old", .ref D3), (Str.ofString "week", .ref D4)]) ?k1 ?k2 ?k3 ?k4 ?k5 ?XB ?TB ?D ?T0 ?kA ?k6 ?k7 ?k8 ?k9 ?kB ?_ ?cK ?c2 ?c3 ?c4 ?c5; (case kA => exact rfl); (case XB => assumption); (case TB => assumption); (case D => assumption); (case T0 => assumption); (case cK => assumption); (case k1 => k_asm); (case k2 => k_asm); (case k3 => k_asm); (case k4 => k_asm); (case k5 => k_asm); (case k6 => k_is); (case k7 => k_is); (case k8 => ktr_room); (case k9 => exact BindsTo.of_eq rfl); (case c5 => decide); (case kB => exact locs rfl); (case c2 => exact rfl); (case c3 => exact rfl); (case c4 => exact rfl); k_whole; intro g' L' h' FG' F' N' B' X' T' D'; (try dsimp only [List.reverse, List.reverseAux] at F'); (try dsimp only); (try k_fold))
  have hpm : PruneMark := True.intro
  k_steps
  all_goals (walk_at "my finT")
  all_goals first | rfl | rw [b3k, beq_self_eq_true] | exact congrArg Value.bool (decide_eq_true rfl) | trace_state
set_option maxHeartbeats 4000000 in
theorem c_orderOut (w : World) (s₀ : Shared) (mg mb : Str → Option Value) (news : List (Addr × Obj)) (k : Int) (tk : Tok) (n y m d yo po jy jm jd iy iw id : Int) (t t1 t2 t3 t4 t5 t6 t7 t8 t9 ta tb : Tok) (c1 c2 c3 c4 : Nat) (D1 D2 D3 D4 : Addr) : ConT w s₀ mg mb 416 40 [.int n t, .int k tk, .ref D1, .ref D2, .ref D3, .ref D4] news ((((D1, Tup3 y m d t1 t2 t3 c1) ∈ news ∧ (D2, Tup2 yo po t4 t5 c2) ∈ news ∧ (D3, Tup3 jy jm jd t6 t7 t8 c3) ∈ news ∧ (D4, Tup3 iy iw id t9 ta tb c4) ∈ news) ∧ (y = gY n ∧ m = gM n ∧ d = gD n) ∧ (yo = gY n ∧ po = gO n) ∧ (jy = jY n ∧ jm = jM n ∧ jd = jD n) ∧ (iy = iY n ∧ iw = iW n ∧ id = iD n)) ∧ ¬ (1 ≤ gY k ∧ gY k ≤ 9999)) (.bool true) := by
  unfold ConT
  k_fill
  intro dp un gd cn cs aF ccd outer AF baseH hB g0 LF mF sF QF EF B F X N T XB TB D T0 hk hok hd hu hret
  dsimp only [TopC] at T TB
  obtain ⟨⟨⟨q1, q2, q3, q4⟩, ⟨rfl, rfl, rfl⟩, ⟨rfl, rfl⟩, ⟨rfl, rfl, rfl⟩, rfl, rfl, rfl⟩, hin⟩ := hok
  have N := news_more (news_more (news_more (news_more N q4) (.tail _ q3)) (.tail _ (.tail _ q2))) (.tail _ (.tail _ (.tail _ q1)))
  have b1 := gBack n
  have b2 := toO_G n
  have b3 := (jOk n).2
  have b4 := (isoBack n).2
  have b1k := gBack k
  have b2k := toO_G k
  have b3k := (jOk k).2
  have b5 := ordG n k
  have b6 := ordO n k
  have b7 := ordJ n k
  have b8 := ordI n k
  refine wpAny_call ?_
  k_dflt
  (refine' code_defS (binds := [(Str.ofString "number", .int n t), (Str.ofString "later", .int k tk), (Str.ofString "date", .ref D1), (Str.ofString "ordinal_date", .ref D2), (Str.ofString "old", .ref D3), (Str.ofString "week", .ref D4)]) ?k1 ?k2 ?k3 ?k4 ?k5 ?XB ?TB ?D ?T0 ?kA ?k6 ?k7 ?k8 ?k9 ?kB ?_ ?cK ?c2 ?c3 ?c4 ?c5; (case kA => exact rfl); (case XB => assumption); (case TB => assumption); (case D => assumption); (case T0 => assumption); (case cK => assumption); (case k1 => k_asm); (case k2 => k_asm); (case k3 => k_asm); (case k4 => k_asm); (case k5 => k_asm); (case k6 => k_is); (case k7 => k_is); (case k8 => ktr_room); (case k9 => exact BindsTo.of_eq rfl); (case c5 => decide); (case kB => exact locs rfl); (case c2 => exact rfl); (case c3 => exact rfl); (case c4 => exact rfl); k_whole; intro g' L' h' FG' F' N' B' X' T' D'; (try dsimp only [List.reverse, List.reverseAux] at F'); (try dsimp only); (try k_fold))
  have hpm : PruneMark := True.intro
  k_steps
  all_goals (walk_at "my finT")
  all_goals first | rfl | rw [b3k, beq_self_eq_true] | exact congrArg Value.bool (decide_eq_true rfl) | trace_state
theorem c_order (w : World) (s₀ : Shared) (mg mb : Str → Option Value) (news : List (Addr × Obj)) (k : Int) (tk : Tok) (n y m d yo po jy jm jd iy iw id : Int) (t t1 t2 t3 t4 t5 t6 t7 t8 t9 ta tb : Tok) (c1 c2 c3 c4 : Nat) (D1 D2 D3 D4 : Addr) : ConT w s₀ mg mb 416 40 [.int n t, .int k tk, .ref D1, .ref D2, .ref D3, .ref D4] news (((D1, Tup3 y m d t1 t2 t3 c1) ∈ news ∧ (D2, Tup2 yo po t4 t5 c2) ∈ news ∧ (D3, Tup3 jy jm jd t6 t7 t8 c3) ∈ news ∧ (D4, Tup3 iy iw id t9 ta tb c4) ∈ news) ∧ (y = gY n ∧ m = gM n ∧ d = gD n) ∧ (yo = gY n ∧ po = gO n) ∧ (jy = jY n ∧ jm = jM n ∧ jd = jD n) ∧ (iy = iY n ∧ iw = iW n ∧ id = iD n)) (.bool true) :=
  conT_split (c_orderIn w s₀ mg mb news k tk n y m d yo po jy jm jd iy iw id t t1 t2 t3 t4 t5 t6 t7 t8 t9 ta tb c1 c2 c3 c4 D1 D2 D3 D4) (c_orderOut w s₀ mg mb news k tk n y m d yo po jy jm jd iy iw id t t1 t2 t3 t4 t5 t6 t7 t8 t9 ta tb c1 c2 c3 c4 D1 D2 D3 D4)
theorem con_eq {w : World} {s₀ : Shared} {mg mb : Str → Option Value} {f : Addr} {k : Nat} {vs : List Value} {news : List (Addr × Obj)} {ok ok' : Prop} {R R' : Res} (C : Con w s₀ mg mb f k vs news ok R) (h : ok' → ok ∧ R = R') : Con w s₀ mg mb f k vs news ok' R' := by
  intro dp un gd cn cs aF ccd cl outer AF baseH hB LF mF sF QF EF B F X N T hk hok hd hu hret
  obtain ⟨o, e⟩ := h hok
  subst e
  exact C _ _ _ _ _ _ _ _ _ _ _ _ _ _ _ _ _ B F X N T hk o hd hu hret
theorem c_dateG (w : World) (s₀ : Shared) (mg mb : Str → Option Value) (news : List (Addr × Obj)) (y r : Int) (lp : Bool) (t1 t2 : Tok) : Con w s₀ mg mb 353 2 [.int y t1, .int r t2, .bool lp] news (lp = leapB y ∧ 0 ≤ r ∧ r < 365 + b2i lp) (.t3 (gY (toG y 1 1 + r)) (gM (toG y 1 1 + r)) (gD (toG y 1 1 + r))) := by
  cases lp with
  | true =>
    refine con_eq (c_dateT w s₀ mg mb news y r t1 t2) fun ⟨e, h0, h1⟩ => ⟨⟨h0, by simpa [b2i] using h1⟩, ?_⟩
    have h := dateG (y := y) h0 (by rw [← e]; exact h1)
    rw [← e] at h
    rw [← h.1, ← h.2.1, ← h.2.2.1]
  | false =>
    refine con_eq (c_dateF w s₀ mg mb news y r t1 t2) fun ⟨e, h0, h1⟩ => ⟨⟨h0, by simpa [b2i] using h1⟩, ?_⟩
    have h := dateG (y := y) h0 (by rw [← e]; exact h1)
    rw [← e] at h
    rw [← h.1, ← h.2.1, ← h.2.2.1]
theorem c_nextG (w : World) (s₀ : Shared) (mg mb : Str → Option Value) (news : List (Addr × Obj)) (n y m d : Int) (t1 t2 t3 : Tok) (c : Nat) (D : Addr) (lp : Bool) : Con w s₀ mg mb 374 2 [.ref D, .bool lp] news ((D, Tup3 y m d t1 t2 t3 c) ∈ news ∧ (y = gY n ∧ m = gM n ∧ d = gD n) ∧ lp = leapB (gY n)) (.t3 (gY (n + 1)) (gM (n + 1)) (gD (n + 1))) := by
  refine con_eq (c_next w s₀ mg mb news y m d t1 t2 t3 c D lp) fun ⟨q, ⟨e1, e2, e3⟩, e4⟩ => ?_
  subst e1 e2 e3 e4
  have h := nextG n
  exact ⟨⟨(gOk n).1, (gOk n).2.1, q⟩, by rw [h.1, h.2.1, h.2.2]⟩
theorem c_nextJ (w : World) (s₀ : Shared) (mg mb : Str → Option Value) (news : List (Addr × Obj)) (n y m d : Int) (t1 t2 t3 : Tok) (c : Nat) (D : Addr) (lp : Bool) : Con w s₀ mg mb 374 2 [.ref D, .bool lp] news ((D, Tup3 y m d t1 t2 t3 c) ∈ news ∧ (y = jY n ∧ m = jM n ∧ d = jD n) ∧ lp = leapJ (jY n)) (.t3 (jY (n + 1)) (jM (n + 1)) (jD (n + 1))) := by
  refine con_eq (c_next w s₀ mg mb news y m d t1 t2 t3 c D lp) fun ⟨q, ⟨e1, e2, e3⟩, e4⟩ => ?_
  subst e1 e2 e3 e4
  have h := nextJ n
  have o := (jOk n).1
  exact ⟨⟨o.1, o.2.1, q⟩, by rw [h.1, h.2.1, h.2.2]⟩
theorem conT_law {w : World} {s₀ : Shared} {mg mb : Str → Option Value} {f : Addr} {k : Nat} {vs : List Value} {ok : Prop} {news : List (Addr × Obj)} (C : ConT w s₀ mg mb f k vs news ok (.bool true)) {dp un : Nat} {gd : Option (List Code)} {cn : Str} {cs : Scope} {a : Addr} {ccd : Value} {AF : Around} {baseH hB : Heap} {L : Addr} {m : Str → Option Value} {s : Shared} {Q E : Value → Shared → Prop}
    (B : Below AF baseH [] hB) (F : Fr hB L s.heap m) (X : (hd.heap_39 w.params).In hB) (N : News hB L s.heap news) (T : TopC s₀ mg mb hB) (XB : (hd.heap_39 w.params).In baseH) (TB : TopC s₀ mg mb baseH) (hk : cs.kind = .function)
    (o : ok) (hd : dp + k < recursionLimit) (hu : un + 8 * k < cLine) (hr : Ret (.bool true) hB L m news s Q) :
    wpAny (model Challenge.rw_bn0011_01.row.prog w) (ktrTop dp un gd cn cs L a ccd [] []) (PySem.call (.ref f) vs) Q E s := by
  refine C _ _ _ _ _ _ _ _ _ _ _ hB _ _ _ _ _ B F X N T XB TB ktsDicts_nil KtsTurn.refl hk o hd hu ?_
  intro hB' h' tk' T' F' N' _ _ _ _
  exact hr h' tk' ⟨F'.ns, fun b o e => F'.keep b o (T'.other b o e (fun q => nomatch q)), F.above⟩ (fun p hp => ⟨(N' p hp).1, (N' p hp).2.1, (N p hp).2.2⟩)
theorem sdT {y p : Int} (hl : leapB y = true) : y = gY (toG y 1 1 + p.fmod 366) ∧ p.fmod 366 + 1 = gO (toG y 1 1 + p.fmod 366) := by
  have h := dateG (y := y) (r := p.fmod 366) (by rw [fm]; omega) (by rw [hl, fm]; simp [b2i]; omega)
  exact ⟨h.1, h.2.2.2⟩
theorem sdF {y p : Int} (hl : leapB y = false) : y = gY (toG y 1 1 + p.fmod 365) ∧ p.fmod 365 + 1 = gO (toG y 1 1 + p.fmod 365) := by
  have h := dateG (y := y) (r := p.fmod 365) (by rw [fm]; omega) (by rw [hl, fm]; simp [b2i]; omega)
  exact ⟨h.1, h.2.2.2⟩
theorem nxT {y p : Int} (hl : leapB y = true) (hp : ¬ p.fmod 366 + 1 = 366) : y = gY (toG y 1 1 + p.fmod 366 + 1) ∧ p.fmod 366 + 1 + 1 = gO (toG y 1 1 + p.fmod 366 + 1) := by
  have h := dateG (y := y) (r := p.fmod 366 + 1) (by rw [fm]; omega) (by rw [hl]; rw [fm] at *; simp [b2i]; omega)
  rw [Int.add_assoc]
  exact ⟨h.1, h.2.2.2⟩
theorem nxF {y p : Int} (hl : leapB y = false) (hp : ¬ p.fmod 365 + 1 = 365) : y = gY (toG y 1 1 + p.fmod 365 + 1) ∧ p.fmod 365 + 1 + 1 = gO (toG y 1 1 + p.fmod 365 + 1) := by
  have h := dateG (y := y) (r := p.fmod 365 + 1) (by rw [fm]; omega) (by rw [hl]; rw [fm] at *; simp [b2i]; omega)
  rw [Int.add_assoc]
  exact ⟨h.1, h.2.2.2⟩
theorem nyE {y q : Int} (h : q = 365 + b2i (leapB y)) : toG y 1 1 + q = toG (y + 1) 1 1 ∧ y + 1 = gY (toG y 1 1 + q) ∧ 0 + 1 = gO (toG y 1 1 + q) := by
  have e : toG y 1 1 + q = toG (y + 1) 1 1 := by rw [toG_11, toG_11, jan0_step, h]; omega
  have hb := b2i_range (leapB (y + 1))
  have g := dateG (y := y + 1) (r := 0) (by omega) (by omega)
  rw [e]
  rw [Int.add_zero] at g
  exact ⟨rfl, g.1, g.2.2.2⟩
theorem nyT {y p : Int} (hl : leapB y = true) (hp : p.fmod 366 + 1 = 366) : toG y 1 1 + 366 = toG (y + 1) 1 1 ∧ y + 1 = gY (toG y 1 1 + p.fmod 366 + 1) ∧ 0 + 1 = gO (toG y 1 1 + p.fmod 366 + 1) := by
  rw [Int.add_assoc, hp]; exact nyE (by rw [hl]; rfl)
theorem nyF {y p : Int} (hl : leapB y = false) (hp : p.fmod 365 + 1 = 365) : toG y 1 1 + 365 = toG (y + 1) 1 1 ∧ y + 1 = gY (toG y 1 1 + p.fmod 365 + 1) ∧ 0 + 1 = gO (toG y 1 1 + p.fmod 365 + 1) := by
  rw [Int.add_assoc, hp]; exact nyE (by rw [hl]; rfl)
theorem plT {y : Int} (p : Int) (hl : leapB y = true) : leapB y = leapB y ∧ 0 ≤ p.fmod 366 ∧ p.fmod 366 < 365 + b2i (leapB y) := by
  rw [hl, fm]; simp [b2i]; omega
theorem plF {y : Int} (p : Int) (hl : leapB y = false) : leapB y = leapB y ∧ 0 ≤ p.fmod 365 ∧ p.fmod 365 < 365 + b2i (leapB y) := by
  rw [hl, fm]; simp [b2i]; omega
theorem lpT {y p : Int} (hl : leapB y = true) : leapB y = leapB (gY (toG y 1 1 + p.fmod 366)) := by rw [← (sdT hl).1]
theorem lpF {y p : Int} (hl : leapB y = false) : leapB y = leapB (gY (toG y 1 1 + p.fmod 365)) := by rw [← (sdF hl).1]
local macro_rules | `(tactic| walk_at "my lf") => `(tactic| first | assumption | exact Bool.eq_false_iff.mpr (by assumption))
local macro_rules | `(tactic| walk_at "my eq") => `(tactic| first | with_reducible rfl | with_reducible exact (sdT (by assumption)).1 | with_reducible exact (sdT (by assumption)).2 | with_reducible exact (sdF (by walk_at "my lf")).1 | with_reducible exact (sdF (by walk_at "my lf")).2 | with_reducible exact (nxT (by assumption) (by assumption)).1 | with_reducible exact (nxT (by assumption) (by assumption)).2 | with_reducible exact (nxF (by walk_at "my lf") (by assumption)).1 | with_reducible exact (nxF (by walk_at "my lf") (by assumption)).2 | with_reducible exact (nyT (by assumption) (by assumption)).1 | with_reducible exact (nyT (by assumption) (by assumption)).2.1 | with_reducible exact (nyT (by assumption) (by assumption)).2.2 | with_reducible exact (nyF (by walk_at "my lf") (by assumption)).1 | with_reducible exact (nyF (by walk_at "my lf") (by assumption)).2.1 | with_reducible exact (nyF (by walk_at "my lf") (by assumption)).2.2 | with_reducible exact lpT (by assumption) | with_reducible exact lpF (by walk_at "my lf") | (unfold leapJ; with_reducible rfl) | ktn_no "my eq")
local macro_rules | `(tactic| walk_at "my okd") => `(tactic| exact ⟨⟨by k_mem, by k_mem, by k_mem, by k_mem⟩, ⟨by walk_at "my eq", by walk_at "my eq", by walk_at "my eq"⟩, ⟨by walk_at "my eq", by walk_at "my eq"⟩, ⟨by walk_at "my eq", by walk_at "my eq", by walk_at "my eq"⟩, by walk_at "my eq", by walk_at "my eq", by walk_at "my eq"⟩)
local macro_rules | `(tactic| walk_at "call ref") => `(tactic| (k_here; (with_reducible show wpAny _ _ (PySem.call (Value.ref 353) _) _ _ _); k_dflt (
  (refine' con_use (c_dateG _ _ _ _ _ _ _ _ _ _) ?k1 ?k2 ?k3 ?k4 ?k5 ?kK ?ko ?kd ?ku ?_);
  (case k1 => first | k_asm | ktn_no "use c_dateG: below"); (case k2 => first | k_asm | ktn_no "use c_dateG: frame"); (case k3 => first | k_asm | ktn_no "use c_dateG: part"); (case k4 => first | k_asm | ktn_no "use c_dateG: ledger"); (case k5 => first | k_asm | ktn_no "use c_dateG: top"); (case kK => first | exact rfl | assumption | ktn_no "use c_dateG: kind");
  (case ko => first | (first | exact plT _ (by assumption) | exact plF _ (by walk_at "my lf")) | ktn_no "use c_dateG: ok"); (case kd => first | ktr_room | ktn_no "use c_dateG: room"); (case ku => first | ktr_units | ktn_no "use c_dateG: units");
  dsimp only [Ret]; intro D9 t91 t92 t93 c9 h9 tk9 F9 N9; (try dsimp only); (try k_sweep); (try k_fold))))
local macro_rules | `(tactic| walk_at "call ref") => `(tactic| (k_here; (with_reducible show wpAny _ _ (PySem.call (Value.ref 367) _) _ _ _); k_dflt (
  (refine' con_use (c_week _ _ _ _ _ _ _ _ _ _ _) ?k1 ?k2 ?k3 ?k4 ?k5 ?kK ?ko ?kd ?ku ?_);
  (case k1 => first | k_asm | ktn_no "use c_week: below"); (case k2 => first | k_asm | ktn_no "use c_week: frame"); (case k3 => first | k_asm | ktn_no "use c_week: part"); (case k4 => first | k_asm | ktn_no "use c_week: ledger"); (case k5 => first | k_asm | ktn_no "use c_week: top"); (case kK => first | exact rfl | assumption | ktn_no "use c_week: kind");
  (case ko => first | (exact ⟨by walk_at "my eq", by walk_at "my eq"⟩) | ktn_no "use c_week: ok"); (case kd => first | ktr_room | ktn_no "use c_week: room"); (case ku => first | ktr_units | ktn_no "use c_week: units");
  dsimp only [Ret]; intro D9 t91 t92 t93 c9 h9 tk9 F9 N9; (try dsimp only); (try k_sweep); (try k_fold))))
local macro_rules | `(tactic| walk_at "call ref") => `(tactic| (k_here; (with_reducible show wpAny _ _ (PySem.call (Value.ref 374) _) _ _ _); k_dflt (
  (refine' con_use (c_nextJ _ _ _ _ _ _ _ _ _ _ _ _ _ _ _) ?k1 ?k2 ?k3 ?k4 ?k5 ?kK ?ko ?kd ?ku ?_);
  (case k1 => first | k_asm | ktn_no "use c_nextJ: below"); (case k2 => first | k_asm | ktn_no "use c_nextJ: frame"); (case k3 => first | k_asm | ktn_no "use c_nextJ: part"); (case k4 => first | k_asm | ktn_no "use c_nextJ: ledger"); (case k5 => first | k_asm | ktn_no "use c_nextJ: top"); (case kK => first | exact rfl | assumption | ktn_no "use c_nextJ: kind");
  (case ko => first | (exact ⟨by k_mem, ⟨by walk_at "my eq", by walk_at "my eq", by walk_at "my eq"⟩, by walk_at "my eq"⟩) | ktn_no "use c_nextJ: ok"); (case kd => first | ktr_room | ktn_no "use c_nextJ: room"); (case ku => first | ktr_units | ktn_no "use c_nextJ: units");
  dsimp only [Ret]; intro D9 t91 t92 t93 c9 h9 tk9 F9 N9; (try dsimp only); (try k_sweep); (try k_fold))))
local macro_rules | `(tactic| walk_at "call ref") => `(tactic| (k_here; (with_reducible show wpAny _ _ (PySem.call (Value.ref 374) _) _ _ _); k_dflt (
  (refine' con_use (c_nextG _ _ _ _ _ _ _ _ _ _ _ _ _ _ _) ?k1 ?k2 ?k3 ?k4 ?k5 ?kK ?ko ?kd ?ku ?_);
  (case k1 => first | k_asm | ktn_no "use c_nextG: below"); (case k2 => first | k_asm | ktn_no "use c_nextG: frame"); (case k3 => first | k_asm | ktn_no "use c_nextG: part"); (case k4 => first | k_asm | ktn_no "use c_nextG: ledger"); (case k5 => first | k_asm | ktn_no "use c_nextG: top"); (case kK => first | exact rfl | assumption | ktn_no "use c_nextG: kind");
  (case ko => first | (exact ⟨by k_mem, ⟨by walk_at "my eq", by walk_at "my eq", by walk_at "my eq"⟩, by walk_at "my eq"⟩) | ktn_no "use c_nextG: ok"); (case kd => first | ktr_room | ktn_no "use c_nextG: room"); (case ku => first | ktr_units | ktn_no "use c_nextG: units");
  dsimp only [Ret]; intro D9 t91 t92 t93 c9 h9 tk9 F9 N9; (try dsimp only); (try k_sweep); (try k_fold))))
local macro_rules | `(tactic| walk_at "call ref") => `(tactic| (k_here; (with_reducible show wpAny _ _ (PySem.call (Value.ref 395) _) _ _ _); k_dflt (
  (refine' conT_law (c_day _ _ _ _ _ _ _ _ _ _ _ _ _ _ _ _ _ _ _ _ _ _ _ _ _ _ _ _ _ _ _ _ _ _ _ _ _) ?k1 ?k2 ?k3 ?k4 ?k5 ?XB ?TB ?kK ?ko ?kd ?ku ?_);
  (case k2 => first | k_asm | ktn_no "use c_day: frame"); (case k1 => first | k_asm | ktn_no "use c_day: below"); (case k3 => first | k_asm | ktn_no "use c_day: part"); (case k4 => first | k_asm | ktn_no "use c_day: ledger"); (case k5 => first | k_asm | ktn_no "use c_day: top"); (case XB => first | assumption | ktn_no "use c_day: XB"); (case TB => first | assumption | ktn_no "use c_day: TB"); (case kK => first | exact rfl | assumption | ktn_no "use c_day: kind");
  (case ko => first | (walk_at "my okd") | ktn_no "use c_day: ok"); (case kd => first | ktr_room | ktn_no "use c_day: room"); (case ku => first | ktr_units | ktn_no "use c_day: units");
  dsimp only [Ret]; intro h9 tk9 F9 N9; (try dsimp only); (try k_sweep); (try k_fold))))
local macro_rules | `(tactic| walk_at "call ref") => `(tactic| (k_here; (with_reducible show wpAny _ _ (PySem.call (Value.ref 402) _) _ _ _); k_dflt (
  (refine' conT_law (c_ways _ _ _ _ _ _ _ _ _ _ _ _ _ _ _ _ _ _ _ _ _ _ _ _ _ _ _ _ _ _ _ _ _ _ _ _ _ _ _) ?k1 ?k2 ?k3 ?k4 ?k5 ?XB ?TB ?kK ?ko ?kd ?ku ?_);
  (case k2 => first | k_asm | ktn_no "use c_ways: frame"); (case k1 => first | k_asm | ktn_no "use c_ways: below"); (case k3 => first | k_asm | ktn_no "use c_ways: part"); (case k4 => first | k_asm | ktn_no "use c_ways: ledger"); (case k5 => first | k_asm | ktn_no "use c_ways: top"); (case XB => first | assumption | ktn_no "use c_ways: XB"); (case TB => first | assumption | ktn_no "use c_ways: TB"); (case kK => first | exact rfl | assumption | ktn_no "use c_ways: kind");
  (case ko => first | (walk_at "my okd") | ktn_no "use c_ways: ok"); (case kd => first | ktr_room | ktn_no "use c_ways: room"); (case ku => first | ktr_units | ktn_no "use c_ways: units");
  dsimp only [Ret]; intro h9 tk9 F9 N9; (try dsimp only); (try k_sweep); (try k_fold))))
local macro_rules | `(tactic| walk_at "call ref") => `(tactic| (k_here; (with_reducible show wpAny _ _ (PySem.call (Value.ref 416) _) _ _ _); k_dflt (
  (refine' conT_law (c_order _ _ _ _ _ _ _ _ _ _ _ _ _ _ _ _ _ _ _ _ _ _ _ _ _ _ _ _ _ _ _ _ _ _ _ _ _ _ _) ?k1 ?k2 ?k3 ?k4 ?k5 ?XB ?TB ?kK ?ko ?kd ?ku ?_);
  (case k2 => first | k_asm | ktn_no "use c_order: frame"); (case k1 => first | k_asm | ktn_no "use c_order: below"); (case k3 => first | k_asm | ktn_no "use c_order: part"); (case k4 => first | k_asm | ktn_no "use c_order: ledger"); (case k5 => first | k_asm | ktn_no "use c_order: top"); (case XB => first | assumption | ktn_no "use c_order: XB"); (case TB => first | assumption | ktn_no "use c_order: TB"); (case kK => first | exact rfl | assumption | ktn_no "use c_order: kind");
  (case ko => first | (walk_at "my okd") | ktn_no "use c_order: ok"); (case kd => first | ktr_room | ktn_no "use c_order: room"); (case ku => first | ktr_units | ktn_no "use c_order: units");
  dsimp only [Ret]; intro h9 tk9 F9 N9; (try dsimp only); (try k_sweep); (try k_fold))))
set_option maxHeartbeats 8000000 in
theorem law_holds : PySem.Challenge.rw_bn0011_01.Holds := hd (by
  k_go0
  (all_goals try k_fold)
  all_goals (have hpm : PruneMark := True.intro)
  k_steps
  (all_goals (try k_data)))
end Mine
theorem PySem.Challenge.cw_bn0011_01_holds : PySem.Challenge.rw_bn0011_01.Holds := by
  exact Mine.law_holds
