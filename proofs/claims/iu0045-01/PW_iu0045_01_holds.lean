import PyProof.Rows.All
import Wide.All
import OpenK.AllK
import Wide.FinOn
import Lean
import PySem.Challenge.RW_iu0045_01
open PySem PySem.W PyProof.Rows
set_option Elab.async false
set_option maxRecDepth 100000
set_option maxHeartbeats 8000000
namespace Mine
open_top hd for PySem.Challenge.rw_iu0045_01
end Mine
local macro_rules | `(tactic| k_room) => `(tactic| ktr_room)
local macro_rules | `(tactic| k_all) => `(tactic| assumption)

section
namespace Mine
noncomputable def defBody (n : Nat) : List Stmt := match PySem.Challenge.pw_iu0045_01.main.body[n]? with
  | some (.FunctionDef _ _ b _ _ _ _ _ _ _) => b
  | _ => []
noncomputable def defScope (n : Nat) : Scope := match PySem.Challenge.pw_iu0045_01.main.body[n]? with
  | some (.FunctionDef _ _ _ _ _ _ sc _ _ _) => sc
  | _ => default
noncomputable def wBody : List Stmt := match defBody 3 with
  | [_, .While _ b _ _] => b
  | _ => []
noncomputable def wPre : List Stmt := wBody.take 8
noncomputable def wPost : List Stmt := wBody.drop 11
noncomputable def nthS (n : Nat) : Stmt := match wBody[n]? with
  | some st => st
  | _ => default
noncomputable def ifTest (st : Stmt) : Expr := match st with
  | .If t _ _ _ => t
  | _ => default
noncomputable def ifBody (st : Stmt) : List Stmt := match st with
  | .If _ b _ _ => b
  | _ => []
noncomputable def yArg (st : Stmt) : Expr := match st with
  | .Expr (.Yield (some e) _) _ => e
  | _ => default
noncomputable def yTup (n : Nat) : Expr := match ifBody (nthS n) with
  | st :: _ => yArg st
  | _ => default
noncomputable def lamParams : Arguments := match nthS 2 with
  | .Assign _ (.Lambda a _ _ _) _ => a
  | _ => default
noncomputable def lamExpr : Expr := match nthS 2 with
  | .Assign _ (.Lambda _ e _ _) _ => e
  | _ => default
noncomputable def lamScope : Scope := match nthS 2 with
  | .Assign _ (.Lambda _ _ sc _) _ => sc
  | _ => default
noncomputable abbrev lamQual : Str := Str.ofString "split_ranges" ++ Str.ofString ".<locals>." ++ Str.ofString "<lambda>"
noncomputable def lamObj (mg : Str → Option Value) (c c' : Addr) (ct : Value) : Obj :=
  kla_obj (Str.ofString "<lambda>") lamQual lamParams lamExpr lamScope [(Str.ofString "shift", c)] ((mg (Str.ofString "__name__")).getD Value.none) c' ct
noncomputable abbrev tab1 (c' : Addr) : Array Value := #[] ++ #[rawInt ↑21, rawInt ↑18, Value.ref c']
/- what the text reckons -/
noncomputable def gMask (sh T : Int) : Int := (1 * 2 ^ T.toNat - 1) * 2 ^ sh.toNat
noncomputable def gNot (sh T S : Int) : Int := Builtin.bitAnd (Builtin.bitNot ((1 * 2 ^ T.toNat - 1) * 2 ^ sh.toNat)) (1 * 2 ^ (S + 1).toNat - 1)
noncomputable def gHL (sh T a : Int) : Bool := Builtin.bitAnd a ((1 * 2 ^ T.toNat - 1) * 2 ^ sh.toNat) != 0
noncomputable def gHU (sh T b : Int) : Bool := Builtin.bitAnd b ((1 * 2 ^ T.toNat - 1) * 2 ^ sh.toNat) != (1 * 2 ^ T.toNat - 1) * 2 ^ sh.toNat
noncomputable def gNS (sh T S a : Int) : Int := Builtin.bitAnd (if gHL sh T a = true then a + 1 * 2 ^ (sh + T).toNat else a) (gNot sh T S)
noncomputable def gNE (sh T S b : Int) : Int := Builtin.bitAnd (if gHU sh T b = true then b - 1 * 2 ^ (sh + T).toNat else b) (gNot sh T S)
noncomputable def gSet (sh x : Int) : Int := Builtin.bitOr x (1 * 2 ^ sh.toNat - 1)
noncomputable abbrev genEnv (L c : Addr) : Env := envX "split_ranges" (defScope 3) L 35 (.ref 34) [("shift", c)]
theorem Fr.see {h₀ h : Heap} {L : Addr} {m : Str → Option Value} {x : Str} {v : Value} (F : Fr h₀ L h m) (e : m x = some v) : Fr h₀ L h (fun y => if y = x then some v else m y) := by
  have q : (fun y => if y = x then some v else m y) = m := by
    funext y
    by_cases h : y = x
    · subst h; rw [if_pos rfl, e]
    · rw [if_neg h]
  rw [q]; exact F
/-- the frame at the head of a turn -/
noncomputable def HeadM (m : Str → Option Value) (S T a b : Int) : Prop :=
  ∃ t1 t2 t3 t4, m "start" = some (.int a t1) ∧ m "end" = some (.int b t2) ∧ m "intsize" = some (.int S t3) ∧ m "step" = some (.int T t4)
/-- the frame behind the first eight statements -/
noncomputable def MidM (m : Str → Option Value) (S T a b sh : Int) (f : Addr) : Prop :=
  HeadM m S T a b ∧ ∃ t1 t2 t3 t4 v3 v4, m "mask" = some (.int (gMask sh T) t1) ∧ m "not_mask" = some (.int (gNot sh T S) t2) ∧ m "nextstart" = some (.int v3 t3) ∧ v3 = gNS sh T S a ∧ m "nextend" = some (.int v4 t4) ∧ v4 = gNE sh T S b ∧
    m "haslower" = some (.bool (gHL sh T a)) ∧ m "hasupper" = some (.bool (gHU sh T b)) ∧ m "setbits" = some (.ref f)
theorem execs_app_eq (env : Env) (l2 : List Stmt) : ∀ l1 : List Stmt, execs (l1 ++ l2) env = (execs l1 env >>= fun f => match f with
    | .next => execs l2 env
    | f => pure f)
  | [] => by
    show execs l2 env = (pure Flow.next >>= _)
    rw [pure_bind]
  | st :: l1 => by
    rw [List.cons_append, execs_cons, execs_cons, bind_assoc]
    congr 1
    funext f
    cases f with
    | next => exact execs_app_eq env l2 l1
    | _ => rw [pure_bind]
theorem execs_app {M : Model} {A : Around} {E : Value → Shared → Prop} {s : Shared} {env : Env} {l1 l2 : List Stmt} {Q : Flow → Shared → Prop}
    (h : wpAny M A (execs l1 env) (fun f s' => match f with | .next => wpAny M A (execs l2 env) Q E s' | f => Q f s') E s) : wpAny M A (execs (l1 ++ l2) env) Q E s := by
  rw [execs_app_eq]
  refine wpAny_bind (wpAny_mono h (fun f s' h' => ?_) fun _ _ e => e)
  cases f with
  | next => exact h'
  | _ => exact wpAny_pure h'
/-- the frame behind the first three statements -/
noncomputable def PreM (m : Str → Option Value) (S T a b sh : Int) (f : Addr) : Prop :=
  HeadM m S T a b ∧ ∃ t1 t2, m "diff" = some (.int (1 * 2 ^ (sh + T).toNat) t1) ∧ m "mask" = some (.int ((1 * 2 ^ T.toNat - 1) * 2 ^ sh.toNat) t2) ∧ m "setbits" = some (.ref f)
structure Bnd (S T sh : Int) : Prop where
  hS : 1 ≤ S
  hS2 : S ≤ 70
  hT : 1 ≤ T
  hT2 : T ≤ 64
  hsh : 0 ≤ sh
  hsh2 : sh ≤ 70
theorem HeadM.fr {h₀ h : Heap} {L : Addr} {m : Str → Option Value} {S T a b : Int} (F : Fr h₀ L h m) (H : HeadM m S T a b) : ∃ t1 t2 t3 t4, Fr h₀ L h (fun y => if y = "start" then some (.int a t1) else if y = "end" then some (.int b t2) else if y = "intsize" then some (.int S t3) else if y = "step" then some (.int T t4) else m y) := by
  obtain ⟨t1, t2, t3, t4, e1, e2, e3, e4⟩ := H
  refine ⟨t1, t2, t3, t4, ?_⟩
  have F4 := Fr.see F e4
  have F3 := Fr.see (x := "intsize") (v := .int S t3) F4 (by with_unfolding_all exact e3)
  have F2 := Fr.see (x := "end") (v := .int b t2) F3 (by with_unfolding_all exact e2)
  exact Fr.see (x := "start") (v := .int a t1) F2 (by with_unfolding_all exact e1)
theorem MidM.fr {h₀ h : Heap} {L f : Addr} {m : Str → Option Value} {S T a b sh : Int} (F : Fr h₀ L h m) (H : MidM m S T a b sh f) : ∃ t1 t2 t3 t4 t6 t7 t8 t9, Fr h₀ L h (fun y => if y = "start" then some (.int a t1) else if y = "end" then some (.int b t2) else if y = "intsize" then some (.int S t3) else if y = "step" then some (.int T t4)
       else if y = "mask" then some (.int (gMask sh T) t6) else if y = "not_mask" then some (.int (gNot sh T S) t7) else if y = "nextstart" then some (.int (gNS sh T S a) t8) else if y = "nextend" then some (.int (gNE sh T S b) t9) else if y = "haslower" then some (.bool (gHL sh T a)) else if y = "hasupper" then some (.bool (gHU sh T b)) else if y = "setbits" then some (.ref f) else m y) := by
  obtain ⟨⟨t1, t2, t3, t4, e1, e2, e3, e4⟩, t6, t7, t8, t9, v3, v4, e5, e6, e7, rfl, e8, rfl, e9, e10, e11⟩ := H
  refine ⟨t1, t2, t3, t4, t6, t7, t8, t9, ?_⟩
  have F11 := Fr.see F e11
  have F10 := Fr.see (x := "hasupper") F11 (by with_unfolding_all exact e10)
  have F9 := Fr.see (x := "haslower") F10 (by with_unfolding_all exact e9)
  have F8 := Fr.see (x := "nextend") F9 (by with_unfolding_all exact e8)
  have F7 := Fr.see (x := "nextstart") F8 (by with_unfolding_all exact e7)
  have F6 := Fr.see (x := "not_mask") F7 (by with_unfolding_all exact e6)
  have F5 := Fr.see (x := "mask") F6 (by with_unfolding_all exact e5)
  have F4 := Fr.see (x := "step") F5 (by with_unfolding_all exact e4)
  have F3 := Fr.see (x := "intsize") F4 (by with_unfolding_all exact e3)
  have F2 := Fr.see (x := "end") F3 (by with_unfolding_all exact e2)
  exact Fr.see (x := "start") F2 (by with_unfolding_all exact e1)
theorem gNS_pos {sh T S a : Int} (h : Builtin.bitAnd a ((1 * 2 ^ T.toNat - 1) * 2 ^ sh.toNat) ≠ 0) : gNS sh T S a = Builtin.bitAnd (a + 1 * 2 ^ (sh + T).toNat) (Builtin.bitAnd (Builtin.bitNot ((1 * 2 ^ T.toNat - 1) * 2 ^ sh.toNat)) (1 * 2 ^ (S + 1).toNat - 1)) := by
  unfold gNS gHL gNot; rw [if_pos (by simpa using h)]
theorem gNS_neg {sh T S a : Int} (h : Builtin.bitAnd a ((1 * 2 ^ T.toNat - 1) * 2 ^ sh.toNat) = 0) : gNS sh T S a = Builtin.bitAnd a (Builtin.bitAnd (Builtin.bitNot ((1 * 2 ^ T.toNat - 1) * 2 ^ sh.toNat)) (1 * 2 ^ (S + 1).toNat - 1)) := by
  unfold gNS gHL gNot; rw [if_neg (by simpa using h)]
theorem gNE_pos {sh T S b : Int} (h : Builtin.bitAnd b ((1 * 2 ^ T.toNat - 1) * 2 ^ sh.toNat) ≠ (1 * 2 ^ T.toNat - 1) * 2 ^ sh.toNat) : gNE sh T S b = Builtin.bitAnd (b - 1 * 2 ^ (sh + T).toNat) (Builtin.bitAnd (Builtin.bitNot ((1 * 2 ^ T.toNat - 1) * 2 ^ sh.toNat)) (1 * 2 ^ (S + 1).toNat - 1)) := by
  unfold gNE gHU gNot; rw [if_pos (by simpa using h)]
theorem gNE_neg {sh T S b : Int} (h : Builtin.bitAnd b ((1 * 2 ^ T.toNat - 1) * 2 ^ sh.toNat) = (1 * 2 ^ T.toNat - 1) * 2 ^ sh.toNat) : gNE sh T S b = Builtin.bitAnd b (Builtin.bitAnd (Builtin.bitNot ((1 * 2 ^ T.toNat - 1) * 2 ^ sh.toNat)) (1 * 2 ^ (S + 1).toNat - 1)) := by
  unfold gNE gHU gNot; rw [if_neg (by simpa using h)]
theorem allLt_mem {d : Addr} : ∀ {l : List (Addr × Obj)}, AllLt d l → ∀ q ∈ l, q.1 < d
  | [], _, _, h => nomatch h
  | _ :: _, h, q, hq => by
    rcases List.mem_cons.mp hq with rfl | hq
    · exact h.1
    · exact allLt_mem h.2 q hq
section
variable {prog : Program} {w : World} {p : Program} {loose : List Str} {mean : ExcName → Option Value} {mg mb : Str → Option Value}
    {dp un : Nat} {gd : Option (List Code)} {c : Addr} {oc : Obj} {outer : List Env} {A₀ : Around} {base h₀ : Heap} {L : Addr} {s : Shared} {m : Str → Option Value} {S T a b sh : Int} {t5 : Tok} {keep : List (Addr × Obj)}
    (B : Below A₀ base outer h₀) (X : (hd.heap_39 w.params).In h₀) (T' : Top p loose mean mg mb h₀) (C : CodeHd h₀ 34 30)
    (hoc : oc.data = .cell (some (.int sh t5))) (h30 : @LT.lt Nat _ 30 L) (hLc : @LT.lt Nat _ L c) (hk1 : ∀ q ∈ keep, q.1 ≠ c) (hk2 : ∀ q ∈ keep, q.1 ≠ 30) (hb : Bnd S T sh) (hdp : dp + 1 < recursionLimit) (hun : un + 8 < cLine)
include B X T' C hoc h30 hLc hk1 hk2 hb hdp hun
omit hoc h30 hLc hk1 hk2 C in
theorem pre_tail {f : Addr} {news : List (Addr × Obj)} {Q : Flow → Shared → Prop} {E : Value → Shared → Prop} (F : Fr h₀ L s.heap m) (H : PreM m S T a b sh f) (N : News h₀ L s.heap news)
    (hQ : ∀ h' tk m', Fr h₀ L h' m' → MidM m' S T a b sh f → News h₀ L h' news → Q .next { s with heap := h', toks := tk }) :
    wpAny (model prog w) (ktrTop dp un gd "split_ranges" (defScope 3) L 35 (.ref 34) [("shift", c)] outer) (execs (wPre.drop 3) (genEnv L c)) Q E s := by
  have dummy : (PySem.Challenge.rw_iu0045_01 = PySem.Challenge.rw_iu0045_01 ∧ hd.heap_39 = hd.heap_39) := by (k_fill; exact ⟨rfl, rfl⟩)
  clear dummy
  obtain ⟨⟨t1, t2, t3, t4, e1, e2, e3, e4⟩, t5, t6, e5, e6, e7⟩ := H
  obtain ⟨hS, hS2, hT, hT2, hsh, hsh2⟩ := hb
  have F6 := Fr.see F e1
  have F5 := Fr.see (x := "end") F6 (by with_unfolding_all exact e2)
  have F4 := Fr.see (x := "intsize") F5 (by with_unfolding_all exact e3)
  have F3 := Fr.see (x := "diff") F4 (by with_unfolding_all exact e5)
  have F' := Fr.see (x := "mask") F3 (by with_unfolding_all exact e6)
  clear F F6 F5 F4 F3
  simp only [wPost, yTup, yArg, ifBody, ifTest, nthS, wPre, lamObj, lamParams, lamExpr, lamScope, wBody, genEnv, defBody, defScope, PySem.Challenge.pw_iu0045_01, List.getElem?_cons_zero, List.getElem?_cons_succ, List.take, List.drop] at *
  k_steps
  all_goals (
    with_reducible rename News _ _ _ _ => lN
    with_reducible rename Fr _ _ _ _ => lF
    refine hQ _ _ _ lF ⟨⟨t1, t2, t3, t4, rfl, rfl, rfl, by with_unfolding_all exact e4⟩, _, _, _, _, _, _, rfl, rfl, rfl, ?g1, rfl, ?g2, rfl, rfl, by with_unfolding_all exact e7⟩ lN
    case g1 => first | exact (gNS_pos (by with_reducible assumption)).symm | exact (gNS_neg (by with_reducible assumption)).symm
    case g2 => first | exact (gNE_pos (by with_reducible assumption)).symm | exact (gNE_neg (by with_reducible assumption)).symm)
theorem pre_new3 {Q : Flow → Shared → Prop} {E : Value → Shared → Prop} (F : Fr h₀ L s.heap m) (H : HeadM m S T a b) (N : News h₀ L s.heap ((c, oc) :: (30, tabObj #[]) :: keep))
    (hQ : ∀ f c' oc' vs' tq ct h' tk m', Fr h₀ L h' m' → PreM m' S T a b sh f → oc'.data = Data.fields vs' → vs'[1]? = some (.str lamQual tq) → (∀ q ∈ keep, q.1 < c') → @LT.lt Nat _ c c' → @LT.lt Nat _ c' f →
      News h₀ L h' ((f, lamObj mg c c' ct) :: (c', oc') :: (c, oc) :: (30, tabObj (tab1 c')) :: keep) → Q .next { s with heap := h', toks := tk }) :
    wpAny (model prog w) (ktrTop dp un gd "split_ranges" (defScope 3) L 35 (.ref 34) [("shift", c)] outer) (execs (wPre.take 3) (genEnv L c)) Q E s := by
  have dummy : (PySem.Challenge.rw_iu0045_01 = PySem.Challenge.rw_iu0045_01 ∧ hd.heap_39 = hd.heap_39) := by (k_fill; exact ⟨rfl, rfl⟩)
  clear dummy
  obtain ⟨t1, t2, t3, t4, F'⟩ := HeadM.fr F H
  clear F
  obtain ⟨hS, hS2, hT, hT2, hsh, hsh2⟩ := hb
  simp only [wPost, yTup, yArg, ifBody, ifTest, nthS, wPre, lamObj, lamParams, lamExpr, lamScope, wBody, genEnv, defBody, defScope, PySem.Challenge.pw_iu0045_01, List.getElem?_cons_zero, List.getElem?_cons_succ, List.take, List.drop] at *
  k_steps
  all_goals (
    with_reducible rename _ ∧ _ => l1
    refine hQ _ _ _ _ _ _ _ _ _ (by with_reducible assumption) ?mid (by with_reducible assumption) (by assumption) (allLt_mem l1.2.2) l1.1 (by with_reducible assumption) (by first | with_reducible assumption | assumption)
    case mid => 
      exact ⟨⟨_, _, _, _, rfl, rfl, rfl, rfl⟩, _, _, rfl, rfl, rfl⟩)
theorem pre_new {Q : Flow → Shared → Prop} {E : Value → Shared → Prop} (F : Fr h₀ L s.heap m) (H : HeadM m S T a b) (N : News h₀ L s.heap ((c, oc) :: (30, tabObj #[]) :: keep))
    (hQ : ∀ f c' oc' vs' tq ct h' tk m', Fr h₀ L h' m' → MidM m' S T a b sh f → oc'.data = Data.fields vs' → vs'[1]? = some (.str lamQual tq) → (∀ q ∈ keep, q.1 < c') → @LT.lt Nat _ c c' → @LT.lt Nat _ c' f →
      News h₀ L h' ((f, lamObj mg c c' ct) :: (c', oc') :: (c, oc) :: (30, tabObj (tab1 c')) :: keep) → Q .next { s with heap := h', toks := tk }) :
    wpAny (model prog w) (ktrTop dp un gd "split_ranges" (defScope 3) L 35 (.ref 34) [("shift", c)] outer) (execs wPre (genEnv L c)) Q E s := by
  have eb : wPre = wPre.take 3 ++ wPre.drop 3 := rfl
  rw [eb]
  refine execs_app (pre_new3 B X T' C hoc h30 hLc hk1 hk2 hb hdp hun F H N fun f c' oc' vs' tq ct h1 tk1 m1 F1 H1 d1 d2 d3 d4 d5 N1 => ?_)
  exact pre_tail B X T' hb hdp hun F1 H1 N1 fun h2 tk2 m2 F2 H2 N2 => hQ f c' oc' vs' tq ct h2 tk2 m2 F2 H2 d1 d2 d3 d4 d5 N2
theorem pre_hit3 {Q : Flow → Shared → Prop} {E : Value → Shared → Prop} {c' : Addr} {oc' : Obj} {vs' : Array Value} {tq : Tok} (F : Fr h₀ L s.heap m) (H : HeadM m S T a b) (d1 : oc'.data = Data.fields vs') (d2 : vs'[1]? = some (.str lamQual tq)) (hcc : @LT.lt Nat _ c c')
    (N : News h₀ L s.heap ((c', oc') :: (c, oc) :: (30, tabObj (tab1 c')) :: keep))
    (hQ : ∀ f ct h' tk m', Fr h₀ L h' m' → PreM m' S T a b sh f → @LT.lt Nat _ c' f →
      News h₀ L h' ((f, lamObj mg c c' ct) :: (c', oc') :: (c, oc) :: (30, tabObj (tab1 c')) :: keep) → Q .next { s with heap := h', toks := tk }) :
    wpAny (model prog w) (ktrTop dp un gd "split_ranges" (defScope 3) L 35 (.ref 34) [("shift", c)] outer) (execs (wPre.take 3) (genEnv L c)) Q E s := by
  have dummy : (PySem.Challenge.rw_iu0045_01 = PySem.Challenge.rw_iu0045_01 ∧ hd.heap_39 = hd.heap_39) := by (k_fill; exact ⟨rfl, rfl⟩)
  clear dummy
  obtain ⟨t1, t2, t3, t4, F'⟩ := HeadM.fr F H
  clear F
  obtain ⟨hS, hS2, hT, hT2, hsh, hsh2⟩ := hb
  simp only [wPost, yTup, yArg, ifBody, ifTest, nthS, wPre, lamObj, lamParams, lamExpr, lamScope, wBody, genEnv, defBody, defScope, PySem.Challenge.pw_iu0045_01, List.getElem?_cons_zero, List.getElem?_cons_succ, List.take, List.drop] at *
  k_steps
  all_goals (
    with_reducible rename _ ∧ _ => l1
    refine hQ _ _ _ _ _ (by with_reducible assumption) ?mid l1.1 (by first | with_reducible assumption | assumption)
    case mid => 
      exact ⟨⟨_, _, _, _, rfl, rfl, rfl, rfl⟩, _, _, rfl, rfl, rfl⟩)
theorem pre_hit {Q : Flow → Shared → Prop} {E : Value → Shared → Prop} {c' : Addr} {oc' : Obj} {vs' : Array Value} {tq : Tok} (F : Fr h₀ L s.heap m) (H : HeadM m S T a b) (d1 : oc'.data = Data.fields vs') (d2 : vs'[1]? = some (.str lamQual tq)) (hcc : @LT.lt Nat _ c c')
    (N : News h₀ L s.heap ((c', oc') :: (c, oc) :: (30, tabObj (tab1 c')) :: keep))
    (hQ : ∀ f ct h' tk m', Fr h₀ L h' m' → MidM m' S T a b sh f → @LT.lt Nat _ c' f →
      News h₀ L h' ((f, lamObj mg c c' ct) :: (c', oc') :: (c, oc) :: (30, tabObj (tab1 c')) :: keep) → Q .next { s with heap := h', toks := tk }) :
    wpAny (model prog w) (ktrTop dp un gd "split_ranges" (defScope 3) L 35 (.ref 34) [("shift", c)] outer) (execs wPre (genEnv L c)) Q E s := by
  have eb : wPre = wPre.take 3 ++ wPre.drop 3 := rfl
  rw [eb]
  refine execs_app (pre_hit3 B X T' C hoc h30 hLc hk1 hk2 hb hdp hun F H d1 d2 hcc N fun f ct h1 tk1 m1 F1 H1 d3 N1 => ?_)
  exact pre_tail B X T' hb hdp hun F1 H1 N1 fun h2 tk2 m2 F2 H2 N2 => hQ f ct h2 tk2 m2 F2 H2 d3 N2
section
variable {f c' : Addr} {oc' : Obj} {vs' : Array Value} {tq : Tok} {ct : Value}
  (F : Fr h₀ L s.heap m) (H : MidM m S T a b sh f) (d1 : oc'.data = Data.fields vs') (d2 : vs'[1]? = some (.str lamQual tq)) (hcc : @LT.lt Nat _ c c') (hcf : @LT.lt Nat _ c' f)
  (N : News h₀ L s.heap ((f, lamObj mg c c' ct) :: (c', oc') :: (c, oc) :: (30, tabObj (tab1 c')) :: keep))
include F H d1 d2 hcc hcf N
theorem test8 {Q : Bool → Shared → Prop} {E : Value → Shared → Prop} (hQ : ∀ tk, Q (decide (S ≤ sh + T ∨ gNE sh T S b < gNS sh T S a)) { s with toks := tk }) :
    wpAny (model prog w) (ktrTop dp un gd "split_ranges" (defScope 3) L 35 (.ref 34) [("shift", c)] outer) (isTrue (ifTest (nthS 8)) (genEnv L c) (eval (ifTest (nthS 8)) (genEnv L c))) Q E s := by
  have dummy : (PySem.Challenge.rw_iu0045_01 = PySem.Challenge.rw_iu0045_01 ∧ hd.heap_39 = hd.heap_39) := by (k_fill; exact ⟨rfl, rfl⟩)
  clear dummy
  obtain ⟨t1, t2, t3, t4, t6, t7, t8, t9, F'⟩ := MidM.fr F H
  clear F
  obtain ⟨hS, hS2, hT, hT2, hsh, hsh2⟩ := hb
  simp only [wPost, yTup, yArg, ifBody, ifTest, nthS, wPre, lamObj, lamParams, lamExpr, lamScope, wBody, genEnv, defBody, defScope, PySem.Challenge.pw_iu0045_01, List.getElem?_cons_zero, List.getElem?_cons_succ, List.take, List.drop] at *
  k_steps
  · exact decide_eq_true (p := S ≤ sh + T ∨ gNE sh T S b < gNS sh T S a) (.inl (by with_reducible assumption)) ▸ hQ _
  · exact decide_eq_true (p := S ≤ sh + T ∨ gNE sh T S b < gNS sh T S a) (.inr (by with_reducible assumption)) ▸ hQ _
  · exact decide_eq_false (p := S ≤ sh + T ∨ gNE sh T S b < gNS sh T S a) (not_or.mpr ⟨by with_reducible assumption, by with_reducible assumption⟩) ▸ hQ _
theorem testL {Q : Bool → Shared → Prop} {E : Value → Shared → Prop} (hQ : ∀ tk, Q (gHL sh T a) { s with toks := tk }) :
    wpAny (model prog w) (ktrTop dp un gd "split_ranges" (defScope 3) L 35 (.ref 34) [("shift", c)] outer) (isTrue (ifTest (nthS 9)) (genEnv L c) (eval (ifTest (nthS 9)) (genEnv L c))) Q E s := by
  have dummy : (PySem.Challenge.rw_iu0045_01 = PySem.Challenge.rw_iu0045_01 ∧ hd.heap_39 = hd.heap_39) := by (k_fill; exact ⟨rfl, rfl⟩)
  clear dummy
  obtain ⟨t1, t2, t3, t4, t6, t7, t8, t9, F'⟩ := MidM.fr F H
  clear F
  simp only [wPost, yTup, yArg, ifBody, ifTest, nthS, wPre, lamObj, lamParams, lamExpr, lamScope, wBody, genEnv, defBody, defScope, PySem.Challenge.pw_iu0045_01, List.getElem?_cons_zero, List.getElem?_cons_succ, List.take, List.drop] at *
  k_steps
  exact hQ _
theorem testU {Q : Bool → Shared → Prop} {E : Value → Shared → Prop} (hQ : ∀ tk, Q (gHU sh T b) { s with toks := tk }) :
    wpAny (model prog w) (ktrTop dp un gd "split_ranges" (defScope 3) L 35 (.ref 34) [("shift", c)] outer) (isTrue (ifTest (nthS 10)) (genEnv L c) (eval (ifTest (nthS 10)) (genEnv L c))) Q E s := by
  have dummy : (PySem.Challenge.rw_iu0045_01 = PySem.Challenge.rw_iu0045_01 ∧ hd.heap_39 = hd.heap_39) := by (k_fill; exact ⟨rfl, rfl⟩)
  clear dummy
  obtain ⟨t1, t2, t3, t4, t6, t7, t8, t9, F'⟩ := MidM.fr F H
  clear F
  simp only [wPost, yTup, yArg, ifBody, ifTest, nthS, wPre, lamObj, lamParams, lamExpr, lamScope, wBody, genEnv, defBody, defScope, PySem.Challenge.pw_iu0045_01, List.getElem?_cons_zero, List.getElem?_cons_succ, List.take, List.drop] at *
  k_steps
  exact hQ _
/-- a made tuple of three ints -/
noncomputable abbrev tupObj (x y z : Int) (t u v : Tok) : Obj := { cls := .type "tuple", data := .seq #[.int x t, .int y u, .int z v] }
theorem tup8 {Q : Value → Shared → Prop} {E : Value → Shared → Prop} (hQ : ∀ D t u v h' tk m', Fr h₀ L h' m' → MidM m' S T a b sh f → @LT.lt Nat _ f D → 
      News h₀ L h' ((D, tupObj a (gSet sh b) sh t u v) :: (f, lamObj mg c c' ct) :: (c', oc') :: (c, oc) :: (30, tabObj (tab1 c')) :: keep) → Q (.ref D) { s with heap := h', toks := tk }) :
    wpAny (model prog w) (ktrTop dp un gd "split_ranges" (defScope 3) L 35 (.ref 34) [("shift", c)] outer) (eval (yTup 8) (genEnv L c)) Q E s := by
  have dummy : (PySem.Challenge.rw_iu0045_01 = PySem.Challenge.rw_iu0045_01 ∧ hd.heap_39 = hd.heap_39) := by (k_fill; exact ⟨rfl, rfl⟩)
  clear dummy
  obtain ⟨t1, t2, t3, t4, t6, t7, t8, t9, F'⟩ := MidM.fr F H
  clear F
  obtain ⟨hS, hS2, hT, hT2, hsh, hsh2⟩ := hb
  simp only [wPost, yTup, yArg, ifBody, ifTest, nthS, wPre, lamObj, lamParams, lamExpr, lamScope, wBody, genEnv, defBody, defScope, PySem.Challenge.pw_iu0045_01, List.getElem?_cons_zero, List.getElem?_cons_succ, List.take, List.drop] at *
  k_steps
  with_reducible rename _ ∧ _ => l1
  refine hQ _ _ _ _ _ _ _ (by with_reducible assumption) ?mid l1.1 (by first | with_reducible assumption | assumption)
  case mid => exact ⟨⟨_, _, _, _, rfl, rfl, rfl, rfl⟩, _, _, _, _, _, _, rfl, rfl, rfl, rfl, rfl, rfl, rfl, rfl, rfl⟩
theorem tup9 {Q : Value → Shared → Prop} {E : Value → Shared → Prop} (hQ : ∀ D t u v h' tk m', Fr h₀ L h' m' → MidM m' S T a b sh f → @LT.lt Nat _ f D → 
      News h₀ L h' ((D, tupObj a (gSet sh (Builtin.bitOr a (gMask sh T))) sh t u v) :: (f, lamObj mg c c' ct) :: (c', oc') :: (c, oc) :: (30, tabObj (tab1 c')) :: keep) → Q (.ref D) { s with heap := h', toks := tk }) :
    wpAny (model prog w) (ktrTop dp un gd "split_ranges" (defScope 3) L 35 (.ref 34) [("shift", c)] outer) (eval (yTup 9) (genEnv L c)) Q E s := by
  have dummy : (PySem.Challenge.rw_iu0045_01 = PySem.Challenge.rw_iu0045_01 ∧ hd.heap_39 = hd.heap_39) := by (k_fill; exact ⟨rfl, rfl⟩)
  clear dummy
  obtain ⟨t1, t2, t3, t4, t6, t7, t8, t9, F'⟩ := MidM.fr F H
  clear F
  obtain ⟨hS, hS2, hT, hT2, hsh, hsh2⟩ := hb
  simp only [wPost, yTup, yArg, ifBody, ifTest, nthS, wPre, lamObj, lamParams, lamExpr, lamScope, wBody, genEnv, defBody, defScope, PySem.Challenge.pw_iu0045_01, List.getElem?_cons_zero, List.getElem?_cons_succ, List.take, List.drop] at *
  k_steps
  with_reducible rename _ ∧ _ => l1
  refine hQ _ _ _ _ _ _ _ (by with_reducible assumption) ?mid l1.1 (by first | with_reducible assumption | assumption)
  case mid => exact ⟨⟨_, _, _, _, rfl, rfl, rfl, rfl⟩, _, _, _, _, _, _, rfl, rfl, rfl, rfl, rfl, rfl, rfl, rfl, rfl⟩
theorem tup10 {Q : Value → Shared → Prop} {E : Value → Shared → Prop} (hQ : ∀ D t u v h' tk m', Fr h₀ L h' m' → MidM m' S T a b sh f → @LT.lt Nat _ f D → 
      News h₀ L h' ((D, tupObj (Builtin.bitAnd b (gNot sh T S)) (gSet sh b) sh t u v) :: (f, lamObj mg c c' ct) :: (c', oc') :: (c, oc) :: (30, tabObj (tab1 c')) :: keep) → Q (.ref D) { s with heap := h', toks := tk }) :
    wpAny (model prog w) (ktrTop dp un gd "split_ranges" (defScope 3) L 35 (.ref 34) [("shift", c)] outer) (eval (yTup 10) (genEnv L c)) Q E s := by
  have dummy : (PySem.Challenge.rw_iu0045_01 = PySem.Challenge.rw_iu0045_01 ∧ hd.heap_39 = hd.heap_39) := by (k_fill; exact ⟨rfl, rfl⟩)
  clear dummy
  obtain ⟨t1, t2, t3, t4, t6, t7, t8, t9, F'⟩ := MidM.fr F H
  clear F
  obtain ⟨hS, hS2, hT, hT2, hsh, hsh2⟩ := hb
  simp only [wPost, yTup, yArg, ifBody, ifTest, nthS, wPre, lamObj, lamParams, lamExpr, lamScope, wBody, genEnv, defBody, defScope, PySem.Challenge.pw_iu0045_01, List.getElem?_cons_zero, List.getElem?_cons_succ, List.take, List.drop] at *
  k_steps
  with_reducible rename _ ∧ _ => l1
  refine hQ _ _ _ _ _ _ _ (by with_reducible assumption) ?mid l1.1 (by first | with_reducible assumption | assumption)
  case mid => exact ⟨⟨_, _, _, _, rfl, rfl, rfl, rfl⟩, _, _, _, _, _, _, rfl, rfl, rfl, rfl, rfl, rfl, rfl, rfl, rfl⟩
theorem post {Q : Flow → Shared → Prop} {E : Value → Shared → Prop} (hQ : ∀ o' t h' tk m', Fr h₀ L h' m' → HeadM m' S T (gNS sh T S a) (gNE sh T S b) → o'.data = .cell (some (.int (sh + T) t)) → 
      News h₀ L h' ((f, lamObj mg c c' ct) :: (c', oc') :: (c, o') :: (30, tabObj (tab1 c')) :: keep) → Q .next { s with heap := h', toks := tk }) :
    wpAny (model prog w) (ktrTop dp un gd "split_ranges" (defScope 3) L 35 (.ref 34) [("shift", c)] outer) (execs wPost (genEnv L c)) Q E s := by
  have dummy : (PySem.Challenge.rw_iu0045_01 = PySem.Challenge.rw_iu0045_01 ∧ hd.heap_39 = hd.heap_39) := by (k_fill; exact ⟨rfl, rfl⟩)
  clear dummy
  obtain ⟨t1, t2, t3, t4, t6, t7, t8, t9, F'⟩ := MidM.fr F H
  clear F
  obtain ⟨hS, hS2, hT, hT2, hsh, hsh2⟩ := hb
  simp only [wPost, yTup, yArg, ifBody, ifTest, nthS, wPre, lamObj, lamParams, lamExpr, lamScope, wBody, genEnv, defBody, defScope, PySem.Challenge.pw_iu0045_01, List.getElem?_cons_zero, List.getElem?_cons_succ, List.take, List.drop] at *
  k_steps
  refine hQ _ _ _ _ _ (by with_reducible assumption) ⟨_, _, _, _, rfl, rfl, rfl, rfl⟩ (by with_reducible assumption) (by first | with_reducible assumption | assumption)
end
end
end Mine
end

section
namespace Mine
/-- the tiers that the generator tells from (sh, a, b) on -/
inductive Tiers (S T : Int) : Int → Int → Int → List (Int × Int × Int) → Prop
  | stop {sh a b : Int} : (S ≤ sh + T ∨ gNE sh T S b < gNS sh T S a) → Tiers S T sh a b [(a, gSet sh b, sh)]
  | go {sh a b : Int} {r : List (Int × Int × Int)} : ¬ (S ≤ sh + T ∨ gNE sh T S b < gNS sh T S a) → sh + T ≤ 70 → Tiers S T (sh + T) (gNS sh T S a) (gNE sh T S b) r →
      Tiers S T sh a b ((if gHL sh T a = true then [(a, gSet sh (Builtin.bitOr a (gMask sh T)), sh)] else []) ++ ((if gHU sh T b = true then [(Builtin.bitAnd b (gNot sh T S), gSet sh b, sh)] else []) ++ r))
noncomputable def isItem (h : Heap) (v : Value) (x : Int × Int × Int) : Prop := ∃ D t u z, v = .ref D ∧ h.get? D = some (tupObj x.1 x.2.1 x.2.2 t u z)
noncomputable def Since (L c : Addr) (s₀ s : Shared) : Prop := ∃ h' tk, s = { s₀ with heap := h', toks := tk } ∧ ∀ b o, b ≠ L → b ≠ c → b ≠ 30 → s₀.heap.get? b = some o → h'.get? b = some o
theorem Since.refl (L c : Addr) (s : Shared) : Since L c s s := ⟨s.heap, s.toks, rfl, fun _ _ _ _ _ e => e⟩
theorem Since.trans {L c : Addr} {s₁ s₂ s₃ : Shared} (x : Since L c s₁ s₂) (y : Since L c s₂ s₃) : Since L c s₁ s₃ := by
  obtain ⟨h₁, t₁, rfl, k₁⟩ := x
  obtain ⟨h₂, t₂, rfl, k₂⟩ := y
  exact ⟨h₂, t₂, rfl, fun b o b1 b2 b3 e => k₂ b o b1 b2 b3 (k₁ b o b1 b2 b3 e)⟩
theorem Since.toks {L c : Addr} {s : Shared} {tk : Nat} : Since L c s { s with toks := tk } := ⟨s.heap, tk, rfl, fun _ _ _ _ _ e => e⟩
/-- the generator's own objects are no tuples; the code's table is one -/
noncomputable def NoTup (h : Heap) (b : Addr) : Prop := ∃ o, h.get? b = some o ∧ ∀ xs n, o.data ≠ .seq xs n
noncomputable def OwnOk (L c : Addr) (h : Heap) : Prop := (∃ ps, h.get? 30 = some (tabObj ps)) ∧ NoTup h L ∧ NoTup h c
/-- what the consumer leaves as it is -/
noncomputable def KeptBut (D : Addr) (s s' : Shared) : Prop := ∀ b o, b ≠ D → s.heap.get? b = some o → s'.heap.get? b = some o
noncomputable def gProto (L c D : Addr) (all : List (Int × Int × Int)) : Protocol := fun m s₀ v s kap =>
  (∃ x, all[all.length - 1 - m]? = some x ∧ isItem s.heap v x) ∧ Since L c s₀ s ∧ OwnOk L c s.heap ∧ ∀ s'' : Shared, KeptBut D s s'' → kap (.send .none) s''
noncomputable abbrev gEnd (L c : Addr) : GenEnd := fun n s₀ r s₁ => r = .ok (.ret .none) ∧ (n = 0 ∧ Since L c s₀ s₁ ∧ OwnOk L c s₁.heap)
section
variable {mg : Str → Option Value} {h₀ : Heap} {L c D : Addr} {S T sh a b : Int} {s s' : Shared}
noncomputable def AtHead (h₀ : Heap) (L c D : Addr) (S T sh a b : Int) (s : Shared) : Prop :=
  ∃ m oc t5, Fr h₀ L s.heap m ∧ HeadM m S T a b ∧ oc.data = .cell (some (.int sh t5)) ∧ Bnd S T sh ∧
    ((News h₀ L s.heap [(c, oc), (30, tabObj #[])] ∧ ∃ o, s.heap.get? D = some o) ∨ ∃ c' oc' vs' tq, oc'.data = Data.fields vs' ∧ vs'[1]? = some (.str lamQual tq) ∧ @LT.lt Nat _ c c' ∧ @LT.lt Nat _ D c' ∧ News h₀ L s.heap [(c', oc'), (c, oc), (30, tabObj (tab1 c'))])
noncomputable def AtMid (mg : Str → Option Value) (h₀ : Heap) (L c D : Addr) (S T sh a b : Int) (s : Shared) : Prop :=
  ∃ m oc t5 f c' oc' vs' tq ct, Fr h₀ L s.heap m ∧ MidM m S T a b sh f ∧ oc.data = .cell (some (.int sh t5)) ∧ Bnd S T sh ∧ oc'.data = Data.fields vs' ∧ vs'[1]? = some (.str lamQual tq) ∧ @LT.lt Nat _ c c' ∧ @LT.lt Nat _ c' f ∧ @LT.lt Nat _ D c' ∧
    News h₀ L s.heap [(f, lamObj mg c c' ct), (c', oc'), (c, oc), (30, tabObj (tab1 c'))]
theorem fr_kept (F : Fr h₀ L s.heap m) (hD : h₀.get? D = none) (hL : L ≠ D) (k : KeptBut D s s') : Fr h₀ L s'.heap m :=
  ⟨F.ns.at' fun o e => k _ o hL e, fun b o e => k b o (fun q => by rw [q, hD] at e; cases e) (F.keep b o e), F.above⟩
theorem news_kept {news : List (Addr × Obj)} (N : News h₀ L s.heap news) (hne : ∀ q ∈ news, q.1 ≠ D) (k : KeptBut D s s') : News h₀ L s'.heap news :=
  fun q hq => ⟨k _ _ (hne q hq) (N q hq).1, (N q hq).2⟩
/-- the addresses' order -/
structure Ord (L c D : Addr) : Prop where
  h30 : @LT.lt Nat _ 30 L
  hLc : @LT.lt Nat _ L c
  hcD : @LT.lt Nat _ c D
theorem AtMid.kept (O : Ord L c D) (hD : h₀.get? D = none) (H : AtMid mg h₀ L c D S T sh a b s) (k : KeptBut D s s') : AtMid mg h₀ L c D S T sh a b s' := by
  obtain ⟨m, oc, t5, f, c', oc', vs', tq, ct, F, hm, hoc, hb, d1, d2, l1, l2, l3, N⟩ := H
  have e1 : L ≠ D := Nat.ne_of_lt (Nat.lt_trans O.hLc O.hcD)
  have e2 : c ≠ D := Nat.ne_of_lt O.hcD
  have e3 : (30 : Nat) ≠ D := Nat.ne_of_lt (Nat.lt_trans O.h30 (Nat.lt_trans O.hLc O.hcD))
  refine ⟨m, oc, t5, f, c', oc', vs', tq, ct, fr_kept F hD e1 k, hm, hoc, hb, d1, d2, l1, l2, l3, news_kept N (fun q hq => ?_) k⟩
  simp only [List.mem_cons, List.not_mem_nil, or_false] at hq
  rcases hq with rfl | rfl | rfl | rfl
  · exact Nat.ne_of_gt (Nat.lt_trans l3 l2)
  · exact Nat.ne_of_gt l3
  · exact e2
  · exact e3
/-- all else that stands -/
noncomputable def keepOf (h₀ : Heap) (L c : Addr) (h : Heap) : List (Addr × Obj) := ownOf h₀ ((List.range h.objs.size).filter fun b => decide (b ≠ L ∧ b ≠ c ∧ b ≠ 30)) h
theorem keep_ne {h : Heap} : ∀ q ∈ keepOf h₀ L c h, q.1 ≠ L ∧ q.1 ≠ c ∧ q.1 ≠ 30 := fun q hq => by
  have := ownOf_sub q hq
  have := (List.mem_filter.mp this).2
  exact of_decide_eq_true this
theorem keep_news {h : Heap} : News h₀ L h (keepOf h₀ L c h) := news_ownOf fun hL => by
  have := of_decide_eq_true (List.mem_filter.mp hL).2
  exact this.1 rfl
theorem keep_mem {h : Heap} {b : Addr} {o : Obj} (hn : h₀.get? b = none) (e : h.get? b = some o) (b1 : b ≠ L) (b2 : b ≠ c) (b3 : b ≠ 30) : (b, o) ∈ keepOf h₀ L c h :=
  mem_ownOf (List.mem_filter.mpr ⟨List.mem_range.mpr (Heap.lt_size e), decide_eq_true ⟨b1, b2, b3⟩⟩) hn e
theorem since_of {h' : Heap} {tk : Nat} {m m' : Str → Option Value} {news : List (Addr × Obj)} (F : Fr h₀ L s.heap m) (F' : Fr h₀ L h' m') (N' : News h₀ L h' news) (hs : ∀ q ∈ keepOf h₀ L c s.heap, q ∈ news) : Since L c s { s with heap := h', toks := tk } :=
  ⟨h', tk, rfl, fun b o b1 b2 b3 e => by
    cases q : h₀.get? b with
    | some o' =>
      have := F.keep b o' q
      rw [e] at this; cases this
      exact F'.keep b o q
    | none => exact (N' (b, o) (hs _ (keep_mem q e b1 b2 b3))).1⟩
end
section
variable {prog : Program} {w : World} {p : Program} {loose : List Str} {mean : ExcName → Option Value} {mg mb : Str → Option Value}
    {dp un : Nat} {gd : Option (List Code)} {c D : Addr} {outer : List Env} {A₀ : Around} {base h₀ : Heap} {L : Addr} {s : Shared} {S T a b sh : Int}
    (B : Below A₀ base outer h₀) (X : (hd.heap_39 w.params).In h₀) (T' : Top p loose mean mg mb h₀) (C : CodeHd h₀ 34 30)
    (O : Ord L c D) (hD : h₀.get? D = none) (hdp : dp + 1 < recursionLimit) (hun : un + 8 < cLine)
include B X T' C O hD hdp hun
theorem w_pre {Q : Flow → Shared → Prop} {E : Value → Shared → Prop} (H : AtHead h₀ L c D S T sh a b s) (hQ : ∀ s', AtMid mg h₀ L c D S T sh a b s' → Since L c s s' → Q .next s') :
    wpAny (model prog w) (ktrTop dp un gd "split_ranges" (defScope 3) L 35 (.ref 34) [("shift", c)] outer) (execs wPre (genEnv L c)) Q E s := by
  obtain ⟨m, oc, t5, F, hm, hoc, hb, hN⟩ := H
  have NK := keep_news (h₀ := h₀) (L := L) (c := c) (h := s.heap)
  rcases hN with ⟨N, oD, hoD⟩ | ⟨c', oc', vs', tq, d1, d2, l1, l2, N⟩
  · have N2 : News h₀ L s.heap ((c, oc) :: (30, tabObj #[]) :: keepOf h₀ L c s.heap) := fun q hq => by
      rcases List.mem_cons.mp hq with rfl | hq
      · exact N _ (.head _)
      · rcases List.mem_cons.mp hq with rfl | hq
        · exact N _ (.tail _ (.head _))
        · exact NK q hq
    refine pre_new B X T' C hoc O.h30 O.hLc (fun q hq => (keep_ne q hq).2.1) (fun q hq => (keep_ne q hq).2.2) hb hdp hun F hm N2 fun f c' oc' vs' tq ct h' tk m' F' hm' d1 d2 hlt l1 l2 N' => ?_
    have hDk : (D, oD) ∈ keepOf h₀ L c s.heap := keep_mem hD hoD (Nat.ne_of_gt (Nat.lt_trans O.hLc O.hcD)) (Nat.ne_of_gt O.hcD) (Nat.ne_of_gt (Nat.lt_trans O.h30 (Nat.lt_trans O.hLc O.hcD)))
    refine hQ _ ⟨m', oc, t5, f, c', oc', vs', tq, ct, F', hm', hoc, hb, d1, d2, l1, l2, hlt _ hDk, fun q hq => N' q ?_⟩ (since_of F F' N' fun q hq => by simp [hq])
    simp only [List.mem_cons, List.not_mem_nil, or_false] at hq ⊢
    rcases hq with rfl | rfl | rfl | rfl <;> simp
  · have N2 : News h₀ L s.heap ((c', oc') :: (c, oc) :: (30, tabObj (tab1 c')) :: keepOf h₀ L c s.heap) := fun q hq => by
      simp only [List.mem_cons] at hq
      rcases hq with rfl | rfl | rfl | hq
      · exact N _ (by simp)
      · exact N _ (by simp)
      · exact N _ (by simp)
      · exact NK q hq
    refine pre_hit B X T' C hoc O.h30 O.hLc (fun q hq => (keep_ne q hq).2.1) (fun q hq => (keep_ne q hq).2.2) hb hdp hun F hm d1 d2 l1 N2 fun f ct h' tk m' F' hm' l3 N' => ?_
    refine hQ _ ⟨m', oc, t5, f, c', oc', vs', tq, ct, F', hm', hoc, hb, d1, d2, l1, l3, l2, fun q hq => N' q ?_⟩ (since_of F F' N' fun q hq => by simp [hq])
    simp only [List.mem_cons, List.not_mem_nil, or_false] at hq ⊢
    rcases hq with rfl | rfl | rfl | rfl <;> simp
theorem mid_open (H : AtMid mg h₀ L c D S T sh a b s) : ∃ m oc t5 f c' oc' vs' tq ct, Fr h₀ L s.heap m ∧ MidM m S T a b sh f ∧ oc.data = .cell (some (.int sh t5)) ∧ Bnd S T sh ∧ oc'.data = Data.fields vs' ∧ vs'[1]? = some (.str lamQual tq) ∧ @LT.lt Nat _ c c' ∧ @LT.lt Nat _ c' f ∧ @LT.lt Nat _ D c' ∧
    News h₀ L s.heap ((f, lamObj mg c c' ct) :: (c', oc') :: (c, oc) :: (30, tabObj (tab1 c')) :: keepOf h₀ L c s.heap) := by
  obtain ⟨m, oc, t5, f, c', oc', vs', tq, ct, F, hm, hoc, hb, d1, d2, l1, l2, l3, N⟩ := H
  refine ⟨m, oc, t5, f, c', oc', vs', tq, ct, F, hm, hoc, hb, d1, d2, l1, l2, l3, fun q hq => ?_⟩
  simp only [List.mem_cons] at hq
  rcases hq with rfl | rfl | rfl | rfl | hq
  · exact N _ (by simp)
  · exact N _ (by simp)
  · exact N _ (by simp)
  · exact N _ (by simp)
  · exact keep_news q hq
theorem w_test8 {Q : Bool → Shared → Prop} {E : Value → Shared → Prop} (H : AtMid mg h₀ L c D S T sh a b s) (hQ : ∀ s', AtMid mg h₀ L c D S T sh a b s' → Since L c s s' → Q (decide (S ≤ sh + T ∨ gNE sh T S b < gNS sh T S a)) s') :
    wpAny (model prog w) (ktrTop dp un gd "split_ranges" (defScope 3) L 35 (.ref 34) [("shift", c)] outer) (isTrue (ifTest (nthS 8)) (genEnv L c) (eval (ifTest (nthS 8)) (genEnv L c))) Q E s := by
  obtain ⟨m, oc, t5, f, c', oc', vs', tq, ct, F, hm, hoc, hb, d1, d2, l1, l2, l3, N⟩ := mid_open B X T' C O hD hdp hun H
  exact test8 B X T' C hoc O.h30 O.hLc (fun q hq => (keep_ne q hq).2.1) (fun q hq => (keep_ne q hq).2.2) hb hdp hun F hm d1 d2 l1 l2 N fun tk => hQ _ H .toks
theorem w_testL {Q : Bool → Shared → Prop} {E : Value → Shared → Prop} (H : AtMid mg h₀ L c D S T sh a b s) (hQ : ∀ s', AtMid mg h₀ L c D S T sh a b s' → Since L c s s' → Q (gHL sh T a) s') :
    wpAny (model prog w) (ktrTop dp un gd "split_ranges" (defScope 3) L 35 (.ref 34) [("shift", c)] outer) (isTrue (ifTest (nthS 9)) (genEnv L c) (eval (ifTest (nthS 9)) (genEnv L c))) Q E s := by
  obtain ⟨m, oc, t5, f, c', oc', vs', tq, ct, F, hm, hoc, hb, d1, d2, l1, l2, l3, N⟩ := mid_open B X T' C O hD hdp hun H
  exact testL B X T' C hoc O.h30 O.hLc (fun q hq => (keep_ne q hq).2.1) (fun q hq => (keep_ne q hq).2.2) hb hdp hun F hm d1 d2 l1 l2 N fun tk => hQ _ H .toks
theorem w_testU {Q : Bool → Shared → Prop} {E : Value → Shared → Prop} (H : AtMid mg h₀ L c D S T sh a b s) (hQ : ∀ s', AtMid mg h₀ L c D S T sh a b s' → Since L c s s' → Q (gHU sh T b) s') :
    wpAny (model prog w) (ktrTop dp un gd "split_ranges" (defScope 3) L 35 (.ref 34) [("shift", c)] outer) (isTrue (ifTest (nthS 10)) (genEnv L c) (eval (ifTest (nthS 10)) (genEnv L c))) Q E s := by
  obtain ⟨m, oc, t5, f, c', oc', vs', tq, ct, F, hm, hoc, hb, d1, d2, l1, l2, l3, N⟩ := mid_open B X T' C O hD hdp hun H
  exact testU B X T' C hoc O.h30 O.hLc (fun q hq => (keep_ne q hq).2.1) (fun q hq => (keep_ne q hq).2.2) hb hdp hun F hm d1 d2 l1 l2 N fun tk => hQ _ H .toks
theorem w_tup8 {Q : Value → Shared → Prop} {E : Value → Shared → Prop} (H : AtMid mg h₀ L c D S T sh a b s) (hQ : ∀ v s', AtMid mg h₀ L c D S T sh a b s' → Since L c s s' → isItem s'.heap v (a, gSet sh b, sh) → Q v s') :
    wpAny (model prog w) (ktrTop dp un gd "split_ranges" (defScope 3) L 35 (.ref 34) [("shift", c)] outer) (eval (yTup 8) (genEnv L c)) Q E s := by
  obtain ⟨m, oc, t5, f, c', oc', vs', tq, ct, F, hm, hoc, hb, d1, d2, l1, l2, l3, N⟩ := mid_open B X T' C O hD hdp hun H
  refine tup8 B X T' C hoc O.h30 O.hLc (fun q hq => (keep_ne q hq).2.1) (fun q hq => (keep_ne q hq).2.2) hb hdp hun F hm d1 d2 l1 l2 N fun Dt t u v h' tk m' F' hm' lD N' => ?_
  refine hQ _ _ ⟨m', oc, t5, f, c', oc', vs', tq, ct, F', hm', hoc, hb, d1, d2, l1, l2, l3, fun q hq => N' q ?_⟩ (since_of F F' N' fun q hq => by simp [hq]) ⟨Dt, t, u, v, rfl, (N' _ (.head _)).1⟩
  simp only [List.mem_cons, List.not_mem_nil, or_false] at hq ⊢
  rcases hq with rfl | rfl | rfl | rfl <;> simp
theorem w_tup9 {Q : Value → Shared → Prop} {E : Value → Shared → Prop} (H : AtMid mg h₀ L c D S T sh a b s) (hQ : ∀ v s', AtMid mg h₀ L c D S T sh a b s' → Since L c s s' → isItem s'.heap v (a, gSet sh (Builtin.bitOr a (gMask sh T)), sh) → Q v s') :
    wpAny (model prog w) (ktrTop dp un gd "split_ranges" (defScope 3) L 35 (.ref 34) [("shift", c)] outer) (eval (yTup 9) (genEnv L c)) Q E s := by
  obtain ⟨m, oc, t5, f, c', oc', vs', tq, ct, F, hm, hoc, hb, d1, d2, l1, l2, l3, N⟩ := mid_open B X T' C O hD hdp hun H
  refine tup9 B X T' C hoc O.h30 O.hLc (fun q hq => (keep_ne q hq).2.1) (fun q hq => (keep_ne q hq).2.2) hb hdp hun F hm d1 d2 l1 l2 N fun Dt t u v h' tk m' F' hm' lD N' => ?_
  refine hQ _ _ ⟨m', oc, t5, f, c', oc', vs', tq, ct, F', hm', hoc, hb, d1, d2, l1, l2, l3, fun q hq => N' q ?_⟩ (since_of F F' N' fun q hq => by simp [hq]) ⟨Dt, t, u, v, rfl, (N' _ (.head _)).1⟩
  simp only [List.mem_cons, List.not_mem_nil, or_false] at hq ⊢
  rcases hq with rfl | rfl | rfl | rfl <;> simp
theorem w_tup10 {Q : Value → Shared → Prop} {E : Value → Shared → Prop} (H : AtMid mg h₀ L c D S T sh a b s) (hQ : ∀ v s', AtMid mg h₀ L c D S T sh a b s' → Since L c s s' → isItem s'.heap v (Builtin.bitAnd b (gNot sh T S), gSet sh b, sh) → Q v s') :
    wpAny (model prog w) (ktrTop dp un gd "split_ranges" (defScope 3) L 35 (.ref 34) [("shift", c)] outer) (eval (yTup 10) (genEnv L c)) Q E s := by
  obtain ⟨m, oc, t5, f, c', oc', vs', tq, ct, F, hm, hoc, hb, d1, d2, l1, l2, l3, N⟩ := mid_open B X T' C O hD hdp hun H
  refine tup10 B X T' C hoc O.h30 O.hLc (fun q hq => (keep_ne q hq).2.1) (fun q hq => (keep_ne q hq).2.2) hb hdp hun F hm d1 d2 l1 l2 N fun Dt t u v h' tk m' F' hm' lD N' => ?_
  refine hQ _ _ ⟨m', oc, t5, f, c', oc', vs', tq, ct, F', hm', hoc, hb, d1, d2, l1, l2, l3, fun q hq => N' q ?_⟩ (since_of F F' N' fun q hq => by simp [hq]) ⟨Dt, t, u, v, rfl, (N' _ (.head _)).1⟩
  simp only [List.mem_cons, List.not_mem_nil, or_false] at hq ⊢
  rcases hq with rfl | rfl | rfl | rfl <;> simp
theorem w_post {Q : Flow → Shared → Prop} {E : Value → Shared → Prop} (H : AtMid mg h₀ L c D S T sh a b s) (hle : sh + T ≤ 70) (hQ : ∀ s', AtHead h₀ L c D S T (sh + T) (gNS sh T S a) (gNE sh T S b) s' → Since L c s s' → Q .next s') :
    wpAny (model prog w) (ktrTop dp un gd "split_ranges" (defScope 3) L 35 (.ref 34) [("shift", c)] outer) (execs wPost (genEnv L c)) Q E s := by
  obtain ⟨m, oc, t5, f, c', oc', vs', tq, ct, F, hm, hoc, hb, d1, d2, l1, l2, l3, N⟩ := mid_open B X T' C O hD hdp hun H
  refine Mine.post B X T' C hoc O.h30 O.hLc (fun q hq => (keep_ne q hq).2.1) (fun q hq => (keep_ne q hq).2.2) hb hdp hun F hm d1 d2 l1 l2 N fun o' t h' tk m' F' hm' hd' N' => ?_
  have hb' : Bnd S T (sh + T) := ⟨hb.hS, hb.hS2, hb.hT, hb.hT2, by have := hb.hsh; have := hb.hT; omega, hle⟩
  refine hQ _ ⟨m', o', t, F', hm', hd', hb', .inr ⟨c', oc', vs', tq, d1, d2, l1, l3, fun q hq => N' q ?_⟩⟩ (since_of F F' N' fun q hq => by simp [hq])
  simp only [List.mem_cons, List.not_mem_nil, or_false] at hq ⊢
  rcases hq with rfl | rfl | rfl <;> simp
end
end Mine
end

section
namespace Mine
noncomputable def wTest : Expr := match defBody 3 with
  | [_, .While t _ _ _] => t
  | _ => default
noncomputable def sh0 : Stmt := match defBody 3 with
  | [st, _] => st
  | _ => default
theorem wBody_parts : wBody = wPre ++ (nthS 8 :: nthS 9 :: nthS 10 :: wPost) := rfl
theorem nth8 : ∃ p1 p2 p3 p4, nthS 8 = .If (ifTest (nthS 8)) [.Expr (.Yield (some (yTup 8)) p1) p2, .Break p3] [] p4 := ⟨_, _, _, _, rfl⟩
theorem nth9 : ∃ p1 p2 p4, nthS 9 = .If (ifTest (nthS 9)) [.Expr (.Yield (some (yTup 9)) p1) p2] [] p4 := ⟨_, _, _, rfl⟩
theorem nth10 : ∃ p1 p2 p4, nthS 10 = .If (ifTest (nthS 10)) [.Expr (.Yield (some (yTup 10)) p1) p2] [] p4 := ⟨_, _, _, rfl⟩
theorem body3 : ∃ p, defBody 3 = [sh0, .While wTest wBody [] p] := ⟨_, rfl⟩
theorem wTest_eq : ∃ p, wTest = .Constant (.bool true) 0 p := ⟨_, rfl⟩
section
variable {M : Model} {A : Around} {R : GenEnd} {Y : Protocol} {n : Nat} {s₀ : Shared} {c : Code} {fs : List Frame} {s : Shared} {env : Env}
  {K : Flow → Sem Fin} {H : Value → Sem Fin} {gd : Bool → Bool} {lv : List Value → List Value}
theorem execs_append (pre rest : List Stmt) : execs (pre ++ rest) env = (execs pre env >>= fun f => match f with | .next => execs rest env | f => pure f) := by
  induction pre with
  | nil => rfl
  | cons st pre ih =>
    show execs (st :: (pre ++ rest)) env = _
    rw [execs_cons, execs_cons, bind_assoc]
    congr 1
    funext f
    cases f with
    | next => exact ih
    | brk => rfl
    | cont => rfl
    | ret v => rfl
theorem seg_append {pre rest : List Stmt}
    (h : wpAny M (A.over c fs) (execs pre env) (fun f s' => Seg M A R Y n s₀ c (match f with | .next => (execs rest env).wrap K H gd lv | f => K f) fs s') (fun x s' => Seg M A R Y n s₀ c (H x) fs s') s) :
    Seg M A R Y n s₀ c ((execs (pre ++ rest) env).wrap K H gd lv) fs s := by
  rw [execs_append]
  refine seg_bind_wrap (wpAny_mono h (fun f s' h' => ?_) fun _ _ x => x)
  cases f <;> exact h'
theorem seg_If {test : Expr} {body orelse : List Stmt} {pos : Pos}
    (h : wpAny M (A.over c fs) (isTrue test env (eval test env)) (fun b s' => Seg M A R Y n s₀ c (if b = true then (execs body env).wrap K H gd lv else (execs orelse env).wrap K H gd lv) fs s') (fun x s' => Seg M A R Y n s₀ c (H x) fs s') s) :
    Seg M A R Y n s₀ c ((exec (.If test body orelse pos) env).wrap K H gd lv) fs s := by
  rw [exec_If]
  refine seg_bind_wrap (wpAny_standAt ?_)
  refine seg_bind_wrap (wpAny_mono h (fun b s' h' => ?_) fun _ _ x => x)
  cases b <;> exact h'
theorem seg_wBody (h : wpAny M (A.over c fs) (execs wPre env) (fun f s' => Seg M A R Y n s₀ c (match f with | .next => (execs (nthS 8 :: nthS 9 :: nthS 10 :: wPost) env).wrap K H gd lv | f => K f) fs s') (fun x s' => Seg M A R Y n s₀ c (H x) fs s') s) :
    Seg M A R Y n s₀ c ((execs wBody env).wrap K H gd lv) fs s := by
  rw [wBody_parts]; exact seg_append h
theorem wTrue {A' : Around} {Q : Bool → Shared → Prop} {E : Value → Shared → Prop} (h : Q true s) : wpAny M A' (isTrue wTest env (eval wTest env)) Q E s := by
  obtain ⟨pt, ept⟩ := wTest_eq
  rw [ept]
  exact isTrue_plain (wpAny_pure (wpAny_truthy_bool h)) (by intros; rfl)
theorem seg_if8 (h : ∀ p1 p2 p3, wpAny M (A.over c fs) (isTrue (ifTest (nthS 8)) env (eval (ifTest (nthS 8)) env)) (fun b s' => Seg M A R Y n s₀ c (if b = true then (execs [.Expr (.Yield (some (yTup 8)) p1) p2, .Break p3] env).wrap K H gd lv else K .next) fs s') (fun x s' => Seg M A R Y n s₀ c (H x) fs s') s) :
    Seg M A R Y n s₀ c ((exec (nthS 8) env).wrap K H gd lv) fs s := by
  obtain ⟨p1, p2, p3, p4, e⟩ := nth8
  have := seg_If (test := ifTest (nthS 8)) (body := [.Expr (.Yield (some (yTup 8)) p1) p2, .Break p3]) (orelse := []) (pos := p4) (h p1 p2 p3)
  rw [← e] at this
  exact this
theorem seg_if9 (h : ∀ p1 p2, wpAny M (A.over c fs) (isTrue (ifTest (nthS 9)) env (eval (ifTest (nthS 9)) env)) (fun b s' => Seg M A R Y n s₀ c (if b = true then (execs [.Expr (.Yield (some (yTup 9)) p1) p2] env).wrap K H gd lv else K .next) fs s') (fun x s' => Seg M A R Y n s₀ c (H x) fs s') s) :
    Seg M A R Y n s₀ c ((exec (nthS 9) env).wrap K H gd lv) fs s := by
  obtain ⟨p1, p2, p4, e⟩ := nth9
  have := seg_If (test := ifTest (nthS 9)) (body := [.Expr (.Yield (some (yTup 9)) p1) p2]) (orelse := []) (pos := p4) (h p1 p2)
  rw [← e] at this
  exact this
theorem seg_if10 (h : ∀ p1 p2, wpAny M (A.over c fs) (isTrue (ifTest (nthS 10)) env (eval (ifTest (nthS 10)) env)) (fun b s' => Seg M A R Y n s₀ c (if b = true then (execs [.Expr (.Yield (some (yTup 10)) p1) p2] env).wrap K H gd lv else K .next) fs s') (fun x s' => Seg M A R Y n s₀ c (H x) fs s') s) :
    Seg M A R Y n s₀ c ((exec (nthS 10) env).wrap K H gd lv) fs s := by
  obtain ⟨p1, p2, p4, e⟩ := nth10
  have := seg_If (test := ifTest (nthS 10)) (body := [.Expr (.Yield (some (yTup 10)) p1) p2]) (orelse := []) (pos := p4) (h p1 p2)
  rw [← e] at this
  exact this
theorem seg_Break {pos : Pos} (h : Seg M A R Y n s₀ c (K .brk) fs s) : Seg M A R Y n s₀ c ((exec (.Break pos) env).wrap K H gd lv) fs s := by
  rw [arm_exec_Break]
  exact seg_bind_wrap (wpAny_standAt h)
end
noncomputable abbrev wcode (L c : Addr) : Code := .whileLoop wTest wBody [] (genEnv L c)
theorem scope_gen : (defScope 3).isCoroutine = false := rfl
section
variable {prog : Program} {w : World} {p : Program} {loose : List Str} {mean : ExcName → Option Value} {mg mb : Str → Option Value}
    {dp un : Nat} {gd : Option (List Code)} {c D : Addr} {outer : List Env} {A A₀ : Around} {base h₀ : Heap} {L : Addr} {S T : Int} {all : List (Int × Int × Int)} {fs : List Frame}
    (B : Below A₀ base outer h₀) (X : (hd.heap_39 w.params).In h₀) (T' : Top p loose mean mg mb h₀) (C : CodeHd h₀ 34 30)
    (O : Ord L c D) (hD : h₀.get? D = none) (hdp : dp + 1 < recursionLimit) (hun : un + 8 < cLine)
    (hA : A.over (wcode L c) fs = ktrTop dp un gd "split_ranges" (defScope 3) L 35 (.ref 34) [("shift", c)] outer) (hfs : splitAtGen fs = none) (hfg : fs.any Frame.guarded = false)
include B X T' C O hD hdp hun hA hfs hfg
theorem tab_mid {sh a b : Int} {s : Shared} (H : AtMid mg h₀ L c D S T sh a b s) : OwnOk L c s.heap := by
  obtain ⟨m, oc, t5, f, c', oc', vs', tq, ct, F, hm, hoc, hb, d1, d2, l1, l2, l3, N⟩ := H
  refine ⟨⟨_, (N (30, tabObj (tab1 c')) (.tail _ (.tail _ (.tail _ (.head _))))).1⟩, ?_, ?_⟩
  · obtain ⟨o', es, ep, e', hd, _⟩ := F.ns
    exact ⟨o', e', fun xs n q => by rw [hd] at q; cases q⟩
  · exact ⟨oc, (N (c, oc) (.tail _ (.tail _ (.head _)))).1, fun xs n q => by rw [hoc] at q; cases q⟩
/-- one yield of the turn's -/
theorem seg_tell {K : Flow → Sem Fin} {H : Value → Sem Fin} {sh a b : Int} {e : Expr} {p1 p2 : Pos} {x : Int × Int × Int} {n : Nat} {s₀ s : Shared} {rest : List Stmt} (hall : all[all.length - 1 - n]? = some x)
    (hs₀ : Since L c s₀ s)
    (he : ∀ {Q : Value → Shared → Prop} {E : Value → Shared → Prop}, (∀ v s', AtMid mg h₀ L c D S T sh a b s' → Since L c s s' → isItem s'.heap v x → Q v s') → wpAny (model prog w) (ktrTop dp un gd "split_ranges" (defScope 3) L 35 (.ref 34) [("shift", c)] outer) (eval e (genEnv L c)) Q E s)
    (k : ∀ s', AtMid mg h₀ L c D S T sh a b s' → Seg (model prog w) A (gEnd L c) (gProto L c D all) n s' (wcode L c) ((execs rest (genEnv L c)).wrap K H id id) fs s') :
    Seg (model prog w) A (gEnd L c) (gProto L c D all) (n + 1) s₀ (wcode L c) ((execs (.Expr (.Yield (some e) p1) p2 :: rest) (genEnv L c)).wrap K H id id) fs s := by
  refine seg_execs_cons (seg_Expr_Yield hfs rfl hfg ?_ rfl rfl)
  rw [hA]
  refine he fun v s' H' hs' hi kap hk => ?_
  exact ⟨⟨x, hall, hi⟩, hs₀.trans hs', tab_mid B X T' C O hD hdp hun hA hfs hfg H', fun s'' hk' => hk .none s'' (k s'' (H'.kept O hD hk'))⟩
theorem seg_turns (hfin : ∀ s₀ s, Since L c s₀ s → OwnOk L c s.heap → Seg (model prog w) A (gEnd L c) (gProto L c D all) 0 s₀ (wcode L c) (.pure (.done .next)) fs s) {sh a b : Int} {r : List (Int × Int × Int)} (ht : Tiers S T sh a b r) :
    ∀ (pre : List (Int × Int × Int)) (s₀ s : Shared), all = pre ++ r → AtHead h₀ L c D S T sh a b s → Since L c s₀ s →
      Seg (model prog w) A (gEnd L c) (gProto L c D all) r.length s₀ (wcode L c) ((model prog w).den (wcode L c)) fs s := by
  have item : ∀ {pre r : List (Int × Int × Int)} {x : Int × Int × Int}, all = pre ++ x :: r → all[all.length - 1 - r.length]? = some x := fun {pre r x} e => by
    rw [e, List.length_append, List.length_cons]
    have : pre.length + (r.length + 1) - 1 - r.length = pre.length := by omega
    rw [this, List.getElem?_append_right (Nat.le_refl _), Nat.sub_self]; rfl
  induction ht with
  | @stop sh a b hst =>
    intro pre s₀ s hall H hs
    refine seg_whileLoop ?_
    refine wTrue ?_
    rw [if_pos rfl]
    refine seg_wBody ?_
    rw [hA]
    refine w_pre B X T' C O hD hdp hun H fun s₁ H₁ h₁ => ?_
    refine seg_execs_cons (seg_if8 fun p1 p2 p3 => ?_)
    rw [hA]
    refine w_test8 B X T' C O hD hdp hun H₁ fun s₂ H₂ h₂ => ?_
    rw [decide_eq_true hst, if_pos rfl]
    refine seg_tell B X T' C O hD hdp hun hA hfs hfg (item (r := []) hall) ((hs.trans h₁).trans h₂) (fun hQ => w_tup8 B X T' C O hD hdp hun H₂ hQ) fun s₃ H₃ => ?_
    refine seg_execs_cons (seg_Break ?_)
    exact hfin _ _ (.refl _ _ _) (tab_mid B X T' C O hD hdp hun hA hfs hfg H₃)
  | @go sh a b r hgo hle ht ih =>
    intro pre s₀ s hall H hs
    refine seg_whileLoop ?_
    refine wTrue ?_
    rw [if_pos rfl]
    refine seg_wBody ?_
    rw [hA]
    refine w_pre B X T' C O hD hdp hun H fun s₁ H₁ h₁ => ?_
    refine seg_execs_cons (seg_if8 fun p1 p2 p3 => ?_)
    rw [hA]
    refine w_test8 B X T' C O hD hdp hun H₁ fun s₂ H₂ h₂ => ?_
    rw [decide_eq_false hgo, if_neg Bool.false_ne_true]
    have hs₂ := (hs.trans h₁).trans h₂
    clear h₁ h₂ H₁ s₁ H hs s
    -- behind the two tellings
    have tail : ∀ s₀ s, AtMid mg h₀ L c D S T sh a b s → Since L c s₀ s → Seg (model prog w) A (gEnd L c) (gProto L c D all) r.length s₀ (wcode L c) ((execs wPost (genEnv L c)).wrap (fun f => match f with
            | .next | .cont => .pure (.again (wcode L c))
            | .brk => .pure (.done .next)
            | .ret v => .pure (.done (.ret v))) (fun e => (do noteFrame e (genEnv L c); theTreesLotGoes e : Sem Unit).wrap (fun _ => .raise e) .raise id id) id id) fs s := fun s₀ s H hs => by
      refine seg_wrap ?_
      rw [hA]
      refine w_post B X T' C O hD hdp hun H hle fun s' H' h' => ?_
      refine seg_again rfl (ih (pre ++ ((if gHL sh T a = true then [(a, gSet sh (Builtin.bitOr a (gMask sh T)), sh)] else []) ++ (if gHU sh T b = true then [(Builtin.bitAnd b (gNot sh T S), gSet sh b, sh)] else []))) s₀ s' ?_ H' (hs.trans h'))
      rw [hall]; simp only [List.append_assoc]
    -- the upper telling
    have upper : ∀ s₀ s, AtMid mg h₀ L c D S T sh a b s → Since L c s₀ s → Seg (model prog w) A (gEnd L c) (gProto L c D all) ((if gHU sh T b = true then [(Builtin.bitAnd b (gNot sh T S), gSet sh b, sh)] else []) ++ r).length s₀ (wcode L c) ((execs (nthS 10 :: wPost) (genEnv L c)).wrap (fun f => match f with
            | .next | .cont => .pure (.again (wcode L c))
            | .brk => .pure (.done .next)
            | .ret v => .pure (.done (.ret v))) (fun e => (do noteFrame e (genEnv L c); theTreesLotGoes e : Sem Unit).wrap (fun _ => .raise e) .raise id id) id id) fs s := fun s₀ s H hs => by
      refine seg_execs_cons (seg_if10 fun p1 p2 => ?_)
      rw [hA]
      refine w_testU B X T' C O hD hdp hun H fun s' H' h' => ?_
      cases hu : gHU sh T b with
      | false =>
        rw [if_neg Bool.false_ne_true, if_neg Bool.false_ne_true]
        exact tail s₀ s' H' (hs.trans h')
      | true =>
        rw [if_pos rfl, if_pos rfl]
        rw [hu, if_pos rfl] at hall
        refine seg_tell (n := r.length) B X T' C O hD hdp hun hA hfs hfg (item (pre := pre ++ (if gHL sh T a = true then [(a, gSet sh (Builtin.bitOr a (gMask sh T)), sh)] else [])) (r := r) (by rw [hall]; simp only [List.append_assoc, List.cons_append, List.nil_append])) (hs.trans h') (fun hQ => w_tup10 B X T' C O hD hdp hun H' hQ) fun s₃ H₃ => ?_
        exact seg_execs_nil (tail s₃ s₃ H₃ (.refl _ _ _))
    refine seg_execs_cons (seg_if9 fun p1 p2 => ?_)
    rw [hA]
    refine w_testL B X T' C O hD hdp hun H₂ fun s' H' h' => ?_
    cases hl : gHL sh T a with
    | false =>
      rw [if_neg Bool.false_ne_true, if_neg Bool.false_ne_true]
      exact upper s₀ s' H' (hs₂.trans h')
    | true =>
      rw [if_pos rfl, if_pos rfl]
      rw [hl, if_pos rfl] at hall
      refine seg_tell (n := ((if gHU sh T b = true then [(Builtin.bitAnd b (gNot sh T S), gSet sh b, sh)] else []) ++ r).length) B X T' C O hD hdp hun hA hfs hfg (item (pre := pre) (by rw [hall]; rfl)) (hs₂.trans h') (fun hQ => w_tup9 B X T' C O hD hdp hun H' hQ) fun s₃ H₃ => ?_
      exact seg_execs_nil (upper s₃ s₃ H₃ (.refl _ _ _))
end
end Mine
end

section
namespace Mine
section
variable {prog : Program} {w : World} {p : Program} {loose : List Str} {mean : ExcName → Option Value} {mg mb : Str → Option Value}
    {dp un : Nat} {gd : Option (List Code)} {c : Addr} {oc : Obj} {outer : List Env} {A₀ : Around} {base h₀ : Heap} {L : Addr} {s : Shared} {m : Str → Option Value} {S T a b : Int} {keep : List (Addr × Obj)}
    (B : Below A₀ base outer h₀) (X : (hd.heap_39 w.params).In h₀) (T' : Top p loose mean mg mb h₀) (C : CodeHd h₀ 34 30)
    (hoc : oc.data = .cell none) (h30 : @LT.lt Nat _ 30 L) (hLc : @LT.lt Nat _ L c) (hk1 : ∀ q ∈ keep, q.1 ≠ c) (hk2 : ∀ q ∈ keep, q.1 ≠ 30) (hdp : dp + 1 < recursionLimit) (hun : un + 8 < cLine)
include B X T' C hoc h30 hLc hk1 hk2 hdp hun
theorem start_walk {Q : Flow → Shared → Prop} {E : Value → Shared → Prop} (F : Fr h₀ L s.heap m) (H : HeadM m S T a b) (N : News h₀ L s.heap ((c, oc) :: (30, tabObj #[]) :: keep))
    (hQ : ∀ o' t h' tk m', Fr h₀ L h' m' → HeadM m' S T a b → o'.data = .cell (some (.int 0 t)) → News h₀ L h' ((c, o') :: (30, tabObj #[]) :: keep) → Q .next { s with heap := h', toks := tk }) :
    wpAny (model prog w) (ktrTop dp un gd "split_ranges" (defScope 3) L 35 (.ref 34) [("shift", c)] outer) (exec sh0 (genEnv L c)) Q E s := by
  have dummy : (PySem.Challenge.rw_iu0045_01 = PySem.Challenge.rw_iu0045_01 ∧ hd.heap_39 = hd.heap_39) := by (k_fill; exact ⟨rfl, rfl⟩)
  clear dummy
  obtain ⟨t1, t2, t3, t4, F'⟩ := HeadM.fr F H
  clear F
  simp only [sh0, genEnv, defBody, defScope, PySem.Challenge.pw_iu0045_01, List.getElem?_cons_zero, List.getElem?_cons_succ] at *
  k_steps
  exact hQ _ _ _ _ _ (by with_reducible assumption) ⟨_, _, _, _, rfl, rfl, rfl, rfl⟩ (by with_reducible assumption) (by with_reducible assumption)
end
noncomputable abbrev fcode (L c : Addr) : Code := .func (defBody 3) (genEnv L c)
section
variable {A : Around} {L c : Addr} {outer : List Env}
theorem over_func (hh : A.handled = none) (hf : A.frames = some outer) :
    A.over (fcode L c) [] = ktrTop (A.depth + 1) (A.units + 3) A.guards "split_ranges" (defScope 3) L 35 (.ref 34) [("shift", c)] outer := by
  obtain ⟨hd, d, fr, gs, u⟩ := A
  cases hh; cases hf
  rfl
theorem over_while {k : Result → Sem PySem.Fin} {g : Bool} {l : List Value} {p : Pos} {kept : List Value} (hh : A.handled = none) (hf : A.frames = some outer) :
    A.over (wcode L c) [.ret k none g l (fcode L c) p kept] = ktrTop (A.depth + 1) (A.units + 3) A.guards "split_ranges" (defScope 3) L 35 (.ref 34) [("shift", c)] outer := by
  obtain ⟨hd, d, fr, gs, u⟩ := A
  cases hh; cases hf
  rfl
end
section
variable {prog : Program} {w : World} {p : Program} {loose : List Str} {mean : ExcName → Option Value} {mg mb : Str → Option Value}
    {c D : Addr} {outer : List Env} {A A₀ : Around} {base h₀ : Heap} {L : Addr} {S T a b : Int} {all : List (Int × Int × Int)} {s s' : Shared}
    (B : Below A₀ base outer h₀) (X : (hd.heap_39 w.params).In h₀) (T' : Top p loose mean mg mb h₀) (C : CodeHd h₀ 34 30)
    (O : Ord L c D) (hD : h₀.get? D = none) (hh : A.handled = none) (hf : A.frames = some outer) (hdp : A.depth + 2 < recursionLimit) (hun : A.units + 11 < cLine)
include B X T' C O hD hh hf hdp hun
/-- the generator's own things, as the call leaves them -/
noncomputable def AtStart (h₀ : Heap) (L c D : Addr) (S T a b : Int) (s : Shared) : Prop :=
  ∃ m oc, Fr h₀ L s.heap m ∧ HeadM m S T a b ∧ oc.data = .cell none ∧ Bnd S T 0 ∧ News h₀ L s.heap [(c, oc), (30, tabObj #[])] ∧ ∃ o, s.heap.get? D = some o
theorem seg_gen (ht : Tiers S T 0 a b all) (H : AtStart h₀ L c D S T a b s) :
    Seg (model prog w) A (gEnd L c) (gProto L c D all) all.length s (fcode L c) ((model prog w).den (fcode L c)) [] s := by
  refine seg_func ?_
  obtain ⟨pw, e3⟩ := body3
  have hb3 : (execs (defBody 3) (genEnv L c)) = execs [sh0, .While wTest wBody [] pw] (genEnv L c) := by rw [e3]
  rw [hb3]
  refine seg_execs_cons (seg_wrap ?_)
  rw [over_func hh hf]
  obtain ⟨m, oc, F, hm, hoc, hb, N, oD, hoD⟩ := H
  have N2 : News h₀ L s.heap ((c, oc) :: (30, tabObj #[]) :: keepOf h₀ L c s.heap) := fun q hq => by
    rcases List.mem_cons.mp hq with rfl | hq
    · exact N _ (.head _)
    · rcases List.mem_cons.mp hq with rfl | hq
      · exact N _ (.tail _ (.head _))
      · exact keep_news q hq
  refine start_walk B X T' C hoc O.h30 O.hLc (fun q hq => (keep_ne q hq).2.1) (fun q hq => (keep_ne q hq).2.2) (by omega) (by omega) F hm N2 fun o' t h' tk m' F' hm' hd' N' => ?_
  have hs : Since L c s { s with heap := h', toks := tk } := since_of F F' N' fun q hq => by simp [hq]
  have hDk : (D, oD) ∈ keepOf h₀ L c s.heap := keep_mem hD hoD (Nat.ne_of_gt (Nat.lt_trans O.hLc O.hcD)) (Nat.ne_of_gt O.hcD) (Nat.ne_of_gt (Nat.lt_trans O.h30 (Nat.lt_trans O.hLc O.hcD)))
  have Hh : AtHead h₀ L c D S T 0 a b { s with heap := h', toks := tk } := ⟨m', o', t, F', hm', hd', hb, .inl ⟨fun q hq => N' q (by
    simp only [List.mem_cons, List.not_mem_nil, or_false] at hq ⊢
    rcases hq with rfl | rfl <;> simp), oD, (N' (D, oD) (.tail _ (.tail _ hDk))).1⟩⟩
  refine seg_execs_cons (seg_While fun p => ?_)
  refine seg_turns (dp := A.depth + 1) (un := A.units + 3) (gd := A.guards) B X T' C O hD (by omega) (by omega) (over_while hh hf) rfl rfl (fun s₀ s₁ h₁ tb => ?_) ht [] s _ rfl Hh hs
  refine seg_leaf (.ok .next) ?_
  exact seg_end (.ok (.ret .none)) ⟨rfl, rfl, h₁, tb⟩
end
end Mine
end

section
namespace Mine
/- a heap cut off at an address -/
noncomputable def cutH (h : Heap) (n : Nat) : Heap := { h with objs := h.objs.extract 0 n }
theorem cut_size (h : Heap) (n : Nat) : (cutH h n).objs.size ≤ n := by
  unfold cutH; rw [Array.size_extract]; lia
theorem cut_get {h : Heap} {n b : Nat} (hb : b < n) : (cutH h n).get? b = h.get? b := by
  unfold cutH Heap.get?
  rw [show (h.objs.extract 0 n)[b]? = h.objs[b]? by
    rw [Array.getElem?_extract]
    by_cases h1 : b < min n h.objs.size
    · rw [if_pos (by lia)]; congr 1; lia
    · rw [if_neg (by lia)]
      exact (Array.getElem?_eq_none (by lia)).symm]
theorem cut_of {h : Heap} {n b : Nat} {o : Obj} (e : (cutH h n).get? b = some o) : h.get? b = some o := by
  have hb : b < n := Nat.lt_of_lt_of_le (Heap.lt_size e) (cut_size h n)
  rw [cut_get hb] at e; exact e
/-- the part of a heap that the generator stands on -/
noncomputable def baseG (h : Heap) (Lg : Addr) : Heap := cutH (hideAll h [30]) Lg
section
variable {h h₀ base : Heap} {Lg L : Addr} {m : Str → Option Value} {outer : List Env} {A A₀ : Around} {env : Env}
theorem baseG_of {b : Addr} {o : Obj} (e : (baseG h Lg).get? b = some o) : h.get? b = some o := of_hideAll _ (cut_of e)
theorem baseG_get {b : Addr} {o : Obj} (e : h.get? b = some o) (hb : @LT.lt Nat _ b Lg) (h30 : b ≠ 30) : (baseG h Lg).get? b = some o := by
  unfold baseG; rw [cut_get hb]; exact hideAll_get _ e (by simpa using h30)
theorem baseG_none30 : (baseG h Lg).get? 30 = none := by
  cases q : (baseG h Lg).get? 30 with
  | none => rfl
  | some o => have := cut_of q; rw [hideAll_none [30] (by simp)] at this; cases this
theorem baseG_above {b : Addr} (hb : Lg ≤ b) : (baseG h Lg).get? b = none := by
  cases q : (baseG h Lg).get? b with
  | none => rfl
  | some o => exact absurd (Nat.lt_of_lt_of_le (Heap.lt_size q) (cut_size _ _)) (Nat.not_lt.mpr hb)
theorem baseG_stays (F : Fr h₀ L h m) (hn : h₀.get? 30 = none) (hL : @LT.lt Nat _ L Lg) : h₀.StaysIn (baseG h Lg) := fun b o e =>
  baseG_get (F.keep b o e) (Nat.lt_trans (Nat.lt_of_lt_of_le (Heap.lt_size e) F.above) hL) fun q => by rw [q, hn] at e; cases e
theorem baseG_below (B : Below A₀ base outer h₀) (F : Fr h₀ L h m) (hn : h₀.get? 30 = none) (hL : @LT.lt Nat _ L Lg) (h30 : @LT.lt Nat _ 30 L) (hA : A.frames = some (env :: outer)) (hf : env.frame = some L) (hke : env.scope.kind = .function) :
    Below A base (env :: outer) (baseG h Lg) := by
  have st := baseG_stays F hn hL
  have hnew : base.get? L = none := by
    cases hq : base.get? L with
    | none => rfl
    | some o => exact absurd (Nat.lt_of_lt_of_le (Heap.lt_size (B.stays L o hq)) F.above) (Nat.lt_irrefl _)
  obtain ⟨oL, es, ep, hL', hd, r⟩ := F.ns
  refine ⟨hA, fun b o e => st b o (B.stays b o e), ?_⟩
  exact .cons (by rw [hke]; decide) hf ⟨oL, es, ep, baseG_get hL' hL (Nat.ne_of_gt h30), hd, r⟩ hnew (B.frames.of_keeps fun b o e _ => ⟨o, st b o e, rfl⟩)
end
noncomputable def TupsAt (h : Heap) : List Value → List (Int × Int × Int) → Prop
  | [], [] => True
  | v :: vs, x :: xs => isItem h v x ∧ TupsAt h vs xs
  | _, _ => False
theorem isItem.kept {h h' : Heap} {v : Value} {x : Int × Int × Int} (H : isItem h v x) (k : ∀ b o, h.get? b = some o → (∃ y z w t u r, o = tupObj y z w t u r) → h'.get? b = some o) : isItem h' v x := by
  obtain ⟨D, t, u, z, e, g⟩ := H
  exact ⟨D, t, u, z, e, k D _ g ⟨_, _, _, _, _, _, rfl⟩⟩
theorem TupsAt.kept {h h' : Heap} (k : ∀ b o, h.get? b = some o → (∃ y z w t u r, o = tupObj y z w t u r) → h'.get? b = some o) : ∀ {vs : List Value} {xs : List (Int × Int × Int)}, TupsAt h vs xs → TupsAt h' vs xs
  | [], [], _ => trivial
  | [], _ :: _, H => H
  | _ :: _, [], H => H
  | _ :: _, _ :: _, H => ⟨H.1.kept k, H.2.kept k⟩
theorem TupsAt.snoc {h : Heap} {v : Value} {x : Int × Int × Int} (hi : isItem h v x) : ∀ {vs : List Value} {xs : List (Int × Int × Int)}, TupsAt h vs xs → TupsAt h (vs ++ [v]) (xs ++ [x])
  | [], [], _ => ⟨hi, trivial⟩
  | [], _ :: _, H => H.elim
  | _ :: _, [], H => H.elim
  | _ :: _, _ :: _, H => ⟨H.1, TupsAt.snoc hi H.2⟩
theorem TupsAt.length {h : Heap} : ∀ {vs : List Value} {xs : List (Int × Int × Int)}, TupsAt h vs xs → vs.length = xs.length
  | [], [], _ => rfl
  | [], _ :: _, H => H.elim
  | _ :: _, [], H => H.elim
  | _ :: _, _ :: _, H => by simp [TupsAt.length H.2]
section
variable {prog : Program} {w : World} {A : Around} {E : Value → Shared → Prop} {s : Shared}
theorem pyNext_genQ {a : Addr} {g n : Nat} {gs : GenState} {P : Nat → Shared → Shared → Prop} {Y : Protocol} {Q : Option Value → Shared → Prop} (hh : A.handled = none)
    (hl : s.heap.NoLimit) (hroom : A.depth < recursionLimit) (hg : s.heap.IsGen a g) (hgs : s.gens[g]? = some gs)
    (hgo : gs.Goes (model prog w) A.in1 (fun n s₀ r s₁ => r = .ok (.ret .none) ∧ P n s₀ s₁) Y n (.send .none) (s.setGen g .running))
    (hY : ∀ v s₁ gs', gs'.bare = true → Y (n - 1) (s.setGen g .running) v s₁ (fun r' s'' => match n with
        | 0 => False
        | m + 1 => gs'.Goes (model prog w) A.in1 (fun n s₀ r s₁ => r = .ok (.ret .none) ∧ P n s₀ s₁) Y m r' s'') → Q (some v) (s₁.setGen g gs'))
    (hP : ∀ s₁, P n (s.setGen g .running) s₁ → ∀ h', (∀ b o, s₁.heap.get? b = some o → h'.get? b = some o) → Q none { s₁.setGen g .finished with heap := h' }) :
    wpAny (model prog w) A (pyNext (.ref a)) Q E s := by
  unfold pyNext
  refine wpAny_bind (wpAny_attempt (wpAny_callSpecial?_slot (name := Str.ofString "__next__") hg.typeIs slot_gen_next
    (wpAny_call_entry slot_gen_next hg.typeIs entry_gen_next ?_ (args_gen_next _))))
  show wpAny _ A.in1 (Builtin.Generator.genWake (.ref a) (.send .none)) _ _ s
  unfold Builtin.Generator.genWake
  refine wpAny_bind (wpAny_holding (wpAny_genNumber hg (wpAny_bind (wpAny_genState hgs ?_))))
  cases gs with
  | running => exact hgo.elim
  | finished => exact hgo.elim
  | _ =>
    refine wpAny_bind (wpAny_roomToWake hl hroom ?_)
    show wpAny _ A.in1 (.resume g (.send .none) [] _) _ _ s
    refine wpAny_resumeQ hgs hgo (fun x s₁ hx => ?_) (fun v s₁ gs' hb hv => ?_)
    · obtain ⟨rfl, hp⟩ := hx
      show wpAny _ A.in1 (newExc (.type "StopIteration") [] >>= _) _ _ _
      refine wpAny_bind ?_
      simp only [newExc, newTuple]
      refine wpAny_bind (wpAny_newObj_type ?_ (by size_fits))
      refine wpAny_bind (m := firstArgMember _ _) (wpAny_of_eq (a := Value.none) (by first | rfl | (simp only [firstArgMember]; rfl)) ?_)
      refine wpAny_newObj_type ?_ (by size_fits)
      simp only [raiseNew]
      refine wpAny_bind (wpAny_bind (wpAny_handled ?_))
      first | rw [show A.in1.handled = none from hh] | rw [hh]
      refine wpAny_throw ?_
      refine wpAny_bind (wpAny_isInstance (T := "StopIteration") (b := true) ⟨_, Heap.get?_push_size _ rfl, rfl⟩ isSubtype_stop ?_)
      exact wpAny_pure (hP s₁ hp _ fun b o hb => Heap.get?_push_of_some _ (Heap.get?_push_of_some _ hb))
    · exact wpAny_pure ⟨v, rfl, wpAny_pure (hY v s₁ gs' hb hv)⟩
end
/-- from s on: only these objects, only this generator -/
structure Mv (wr : List Addr) (g : Nat) (s s' : Shared) : Prop where
  heap : ∀ b o, b ∉ wr → s.heap.get? b = some o → s'.heap.get? b = some o
  gens : GenOnlyQ g s.gens s'.gens
  drawn : s'.drawn = s.drawn
  os : s'.os = s.os
theorem Mv.trans {wr : List Addr} {g : Nat} {s s' s'' : Shared} (x : Mv wr g s s') (y : Mv wr g s' s'') : Mv wr g s s'' :=
  ⟨fun b o hb e => y.heap b o hb (x.heap b o hb e), x.gens.trans y.gens, y.drawn.trans x.drawn, y.os.trans x.os⟩
noncomputable abbrev lstObj (acc : Array Value) (n : Nat) : Obj := { cls := .type "list", dict := none, data := .seq acc n, slots := #[] }
section
variable {prog : Program} {w : World} {L c D ga : Addr} {g : Nat} {all : List (Int × Int × Int)}
/-- the generator waits, j tiers told -/
noncomputable def Ready (prog : Program) (w : World) (AG : Around) (L c D ga : Addr) (g : Nat) (all : List (Int × Int × Int)) (j : Nat) (s : Shared) : Prop :=
  s.heap.IsGen ga g ∧ s.heap.NoLimit ∧ OwnOk L c s.heap ∧ ∃ gs, s.gens[g]? = some gs ∧
    ∀ s'' : Shared, KeptBut D s s'' → (∃ o, s''.heap.get? D = some o) → gs.Goes (model prog w) AG (gEnd L c) (gProto L c D all) (all.length - j) (.send .none) s''
theorem drain_loop {A : Around} {R : Result → Shared → Prop} {res : Value} (hh : A.handled = none) (hroom : A.depth < recursionLimit) (hn : all.length ≤ sizeLine)
    (O : Ord L c D) (hga : ga ≠ L ∧ ga ≠ c ∧ ga ≠ 30 ∧ ga ≠ D) (hcs : cStatics ≠ L ∧ cStatics ≠ c ∧ cStatics ≠ 30 ∧ cStatics ≠ D) :
    ∀ (k j : Nat) (s : Shared) (acc : Array Value) (cnt : Nat), all.length - j = k → j ≤ all.length → Ready prog w A.in1.in1 L c D ga g all j s → s.heap.get? D = some (lstObj acc cnt) → TupsAt s.heap acc.toList (all.take j) →
    (∀ s' acc' c', Mv [D, L, c, 30] g s s' → OwnOk L c s'.heap → s'.heap.get? D = some (lstObj acc' c') → TupsAt s'.heap acc'.toList all → R (.ok (.ret res)) s') →
    codeAny (model prog w) A (.builtin "list.extend.loop" ⟨[.ref D, .ref ga, res], []⟩) R s := by
  have nD : ∀ {b : Addr}, b ∉ [D, L, c, 30] → b ≠ D ∧ b ≠ L ∧ b ≠ c ∧ b ≠ 30 := fun h => by simpa using h
  have hDne : D ≠ L ∧ D ≠ c ∧ D ≠ 30 := ⟨Nat.ne_of_gt (Nat.lt_trans O.hLc O.hcD), Nat.ne_of_gt O.hcD, Nat.ne_of_gt (Nat.lt_trans O.h30 (Nat.lt_trans O.hLc O.hcD))⟩
  -- made tuples lie elsewhere
  have apart : ∀ {h : Heap} {b : Addr} {o : Obj} {x : Nat}, OwnOk L c h → h.get? D = some (lstObj #[] x) ∨ (∃ acc n, h.get? D = some (lstObj acc n)) → h.get? b = some o → (∃ y z w t u r, o = tupObj y z w t u r) → b ≠ L ∧ b ≠ c ∧ b ≠ 30 ∧ b ≠ D := by
    rintro h b o x ⟨⟨ps, tb⟩, nL, nc⟩ hD e ⟨y, z, w', t, u, r, rfl⟩
    refine ⟨fun q => ?_, fun q => ?_, fun q => ?_, fun q => ?_⟩
    · subst q; obtain ⟨o, e', k⟩ := nL; rw [e'] at e; exact k _ _ (by rw [Option.some.inj e])
    · subst q; obtain ⟨o, e', k⟩ := nc; rw [e'] at e; exact k _ _ (by rw [Option.some.inj e])
    · subst q; rw [tb] at e; cases e
    · subst q
      rcases hD with hD | ⟨acc, n, hD⟩ <;> (rw [hD] at e; exact absurd (congrArg Obj.cls (Option.some.inj e)) (by simp))
  intro k
  induction k with
  | zero =>
    intro j s acc cnt hk hj hr hS hacc hR
    have hin : j = all.length := by lia
    subst hin
    obtain ⟨hg, hl, tb, gs, hgs, hgo⟩ := hr
    refine codeAny_builtin F.entry_extend_loop ?_
    rw [Around.under_plainId F.plain_extend_loop _]
    show wpAny _ A.in1 (pyNext (.ref ga) >>= _) _ _ s
    refine wpAny_bind (pyNext_genQ hh hl hroom hg hgs (hgo _ (fun _ _ _ e => e) ⟨_, hS⟩) (fun v s₁ gs' hb hv => ?_) fun s₁ hp h' hk' => ?_)
    · rw [Nat.sub_self] at hv
      obtain ⟨_, _, _, hkap⟩ := hv
      exact (hkap s₁ fun _ _ _ e => e).elim
    · obtain ⟨_, ⟨h₁, tk₁, rfl, hk₁⟩, ⟨ps, htb⟩, nL, nc⟩ := hp
      rw [List.take_length] at hacc
      have keep : ∀ b o, b ≠ L → b ≠ c → b ≠ 30 → s.heap.get? b = some o → h'.get? b = some o := fun b o b1 b2 b3 e => hk' b o (hk₁ b o b1 b2 b3 e)
      have hacc' : TupsAt h' acc.toList all := hacc.kept fun b o e he => by
        obtain ⟨b1, b2, b3, b4⟩ := apart (x := 0) tb (.inr ⟨_, _, hS⟩) e he
        exact keep b o b1 b2 b3 e
      have hL1 : NoTup h' L := let ⟨o, e, k⟩ := nL; ⟨o, hk' _ _ e, k⟩
      have hc1 : NoTup h' c := let ⟨o, e, k⟩ := nc; ⟨o, hk' _ _ e, k⟩
      exact wpAny_pure (hR _ acc cnt ⟨fun b o hb e => keep b o (nD hb).2.1 (nD hb).2.2.1 (nD hb).2.2.2 e, GenOnlyQ.of ((GenOnly.setGen s g .running).trans (GenOnly.setGen _ g .finished)) (setGen_self (gs := .running) (setGen_self hgs)) rfl, rfl, rfl⟩
        ⟨⟨ps, hk' _ _ htb⟩, hL1, hc1⟩ (keep D _ hDne.1 hDne.2.1 hDne.2.2 hS) hacc')
  | succ k ih =>
    intro j s acc cnt hk hj hr hS hacc hR
    obtain ⟨hg, hl, tb, gs, hgs, hgo⟩ := hr
    have hlt : j < all.length := by lia
    have hm : all.length - j = (all.length - (j + 1)) + 1 := by lia
    rw [hm] at hgo
    refine codeAny_builtin F.entry_extend_loop ?_
    rw [Around.under_plainId F.plain_extend_loop _]
    show wpAny _ A.in1 (pyNext (.ref ga) >>= _) _ _ s
    refine wpAny_bind (pyNext_genQ hh hl hroom hg hgs (hgo _ (fun _ _ _ e => e) ⟨_, hS⟩) (fun v s₁ gs' hb hv => ?_) fun s₁ hp h' hk' => ?_)
    · obtain ⟨⟨x, hx, hi⟩, ⟨h₁, tk₁, rfl, hk₁⟩, tb₁, hkap⟩ := hv
      have hidx : all.length - 1 - (all.length - (j + 1) + 1 - 1) = j := by lia
      rw [hidx] at hx
      have hS₁ := hk₁ D _ hDne.1 hDne.2.1 hDne.2.2 hS
      show wpAny _ A.in1 (updateSeq D (·.push v) >>= _) _ _ _
      refine wpAny_bind ?_
      have hsz : acc.size = j := by
        have := hacc.length
        rw [Array.length_toList, List.length_take] at this
        lia
      have oth : ∀ b o, b ≠ D → h₁.get? b = some o → (h₁.update D (Obj.mapSeq (·.push v))).get? b = some o := fun b o hb e => (Heap.get?_update_other _ _ (Ne.symm hb)).trans e
      have hacc₁ : TupsAt h₁ acc.toList (all.take j) := hacc.kept fun b o e he => by
        obtain ⟨b1, b2, b3, b4⟩ := apart (x := 0) tb (.inr ⟨_, _, hS⟩) e he
        exact hk₁ b o b1 b2 b3 e
      have htk : all.take (j + 1) = all.take j ++ [x] := by rw [List.take_add_one, hx]; rfl
      have hfin : TupsAt (h₁.update D (Obj.mapSeq (·.push v))) (acc.push v).toList (all.take (j + 1)) := by
        rw [htk, Array.toList_push]
        refine (TupsAt.snoc hi hacc₁).kept fun b o e he => ?_
        obtain ⟨b1, b2, b3, b4⟩ := apart (x := 0) tb₁ (.inr ⟨_, _, hS₁⟩) e he
        exact oth b o b4 e
      refine wpAny_updateSeq hS₁ rfl (wpAny_pure ⟨plainId_quiet F.plain_extend_loop _, ih (j + 1) _ (acc.push v) _ (by lia) hlt ?_ (Heap.get?_update_self _ hS₁ rfl) hfin fun s' acc' c' hm' hown hS' hacc' => ?_⟩)
        (by rw [hsz]; lia) (by show (acc.push v).size ≤ sizeLine + 1; rw [Array.size_push, hsz]; lia)
      · refine ⟨?_, ?_, ⟨?_, ?_, ?_⟩, gs', setGen_self (gs := .running) (setGen_self hgs), fun s'' hk'' _ => hkap s'' fun b o hb e => hk'' b o hb (oth b o hb e)⟩
        · obtain ⟨o, nm, qn, ho, r⟩ := hg
          exact ⟨o, nm, qn, oth _ _ hga.2.2.2 (hk₁ _ _ hga.1 hga.2.1 hga.2.2.1 ho), r⟩
        · obtain ⟨mc, hns, hnn⟩ := hl
          exact ⟨mc, hns.at' fun o e => oth _ _ hcs.2.2.2 (hk₁ _ _ hcs.1 hcs.2.1 hcs.2.2.1 e), hnn⟩
        · obtain ⟨⟨ps, e⟩, _, _⟩ := tb₁
          exact ⟨ps, oth _ _ (Ne.symm hDne.2.2) e⟩
        · obtain ⟨_, ⟨o, e, k⟩, _⟩ := tb₁
          exact ⟨o, oth _ _ (Ne.symm hDne.1) e, k⟩
        · obtain ⟨_, _, ⟨o, e, k⟩⟩ := tb₁
          exact ⟨o, oth _ _ (Ne.symm hDne.2.1) e, k⟩
      · refine hR s' acc' c' (Mv.trans (s' := { ({ s with heap := h₁, toks := tk₁ } : Shared) with heap := h₁.update D (Obj.mapSeq (·.push v)), gens := ((s.setGen g .running).setGen g gs').gens }) ⟨fun b o hb e => ?_, GenOnlyQ.of ((GenOnly.setGen s g .running).trans (GenOnly.setGen _ g gs')) (setGen_self (gs := .running) (setGen_self hgs)) hb, rfl, rfl⟩ hm') hown hS' hacc'
        exact oth b o (nD hb).1 (hk₁ b o (nD hb).2.1 (nD hb).2.2.1 (nD hb).2.2.2 e)
    · exact absurd hp.1 (by lia)
end
end Mine
end

section
namespace Mine
section
variable {prog : Program} {w : World} {p : Program} {loose : List Str} {mean : ExcName → Option Value} {mg mb : Str → Option Value}
    {c ga : Addr} {outer : List Env} {A A₀ : Around} {base h₀ : Heap} {L : Addr} {g : Nat} {S T a b : Int} {all : List (Int × Int × Int)} {s : Shared} {m : Str → Option Value} {oc : Obj}
theorem stat_ne {x : Addr} (h : @LT.lt Nat _ 30 x) : cStatics ≠ x := fun q => by
  have : @LT.lt Nat _ cStatics 30 := by decide
  rw [q] at this; exact absurd this (Nat.not_lt.mpr (Nat.le_of_lt h))
theorem list_of_gen {Q : Value → Shared → Prop} {E : Value → Shared → Prop}
    (B : Below A₀ base outer h₀) (X : (hd.heap_39 w.params).In h₀) (T' : Top p loose mean mg mb h₀) (C : CodeHd h₀ 34 30)
    (h30 : @LT.lt Nat _ 30 L) (hLc : @LT.lt Nat _ L c) (hh : A.handled = none) (hf : A.frames = some outer) (hdp : A.depth + 2 < recursionLimit) (hun : A.units + 14 < cLine)
    (Fg : Fr h₀ L s.heap m) (H : HeadM m S T a b) (hoc : oc.data = .cell none) (hb : Bnd S T 0) (N : News h₀ L s.heap [(c, oc), (30, tabObj #[])])
    (hg : s.heap.IsGen ga g) (hgs : s.gens[g]? = some (.fresh (fcode L c))) (hl : s.heap.NoLimit) (hga : ga ≠ L ∧ ga ≠ c ∧ ga ≠ 30) (ht : Tiers S T 0 a b all) (hn : all.length ≤ sizeLine)
    (hQ : ∀ s' acc' c', Mv [L, c, 30] g s s' → OwnOk L c s'.heap → s'.heap.get? s.heap.objs.size = some (lstObj acc' c') → TupsAt s'.heap acc'.toList all → Q (.ref s.heap.objs.size) s') :
    wpAny (model prog w) A (call (.type "list") [.ref ga]) Q E s := by
  have hcD : @LT.lt Nat _ c s.heap.objs.size := Heap.lt_size (N (c, oc) (.head _)).1
  have O : Ord L c s.heap.objs.size := ⟨h30, hLc, hcD⟩
  have hD0 : h₀.get? s.heap.objs.size = none := by
    cases q : h₀.get? s.heap.objs.size with
    | none => rfl
    | some o => exact absurd (Heap.lt_size (Fg.keep _ _ q)) (Nat.lt_irrefl _)
  have hgD : ga ≠ s.heap.objs.size := fun q => by
    obtain ⟨o, nm, qn, ho, r⟩ := hg
    exact absurd (Heap.lt_size ho) (q ▸ Nat.lt_irrefl _)
  have hlD : cStatics ≠ s.heap.objs.size := stat_ne (Nat.lt_trans h30 (Nat.lt_trans hLc hcD))
  refine callType_codes (Q₁ := fun obj s₁ => obj = .ref s.heap.objs.size ∧ s₁ = { s with heap := s.heap.push { cls := .type "list", data := .seq #[] } }) F.called_list (F.typeCall_list_1 _) F.entry_list_init
    (code_list_new _ ⟨rfl, rfl⟩) fun obj s₁ h₁ => ?_
  obtain ⟨rfl, rfl⟩ := h₁
  have hS : (s.heap.push { cls := .type "list", data := .seq #[] }).get? s.heap.objs.size = some { cls := .type "list", data := .seq #[] } := Heap.get?_push_size _ rfl
  refine ⟨⟨_, hS, rfl⟩, F.args_list_init_2 _ _, ?_⟩
  show wpAny _ A.in1.in1 (do let old ← Builtin.List.listItems (.ref s.heap.objs.size); Builtin.List.listUpdate (.ref s.heap.objs.size) (fun _ => #[]); letGo old.toList.reverse; Builtin.List.listExtendWith (.ref s.heap.objs.size) (.ref ga) .none) _ _ _
  refine wpAny_bind ?_
  unfold Builtin.List.listItems
  refine wpAny_bind (wpAny_seqItems hS rfl (wpAny_pure ?_))
  show wpAny _ A.in1.in1 (updateSeq s.heap.objs.size (fun _ => #[]) >>= fun _ => letGo (#[] : Array Value).toList.reverse >>= fun _ => Builtin.List.listExtendWith (.ref s.heap.objs.size) (.ref ga) .none) _ _ _
  refine wpAny_bind (wpAny_updateSeq hS rfl ?_)
  have hS₂ := Heap.get?_update_self (Obj.mapSeq (fun _ => (#[] : Array Value))) hS rfl
  have oth : ∀ b o, b ≠ s.heap.objs.size → s.heap.get? b = some o → ((s.heap.push { cls := .type "list", data := .seq #[] }).update s.heap.objs.size (Obj.mapSeq (fun _ => (#[] : Array Value)))).get? b = some o :=
    fun b o hb e => (Heap.get?_update_other _ _ (Ne.symm hb)).trans (Heap.get?_push_of_some _ e)
  refine wpAny_bind (wpAny_letGo ?_)
  generalize hh₂ : (s.heap.push { cls := .type "list", data := .seq #[] }).update s.heap.objs.size (Obj.mapSeq (fun _ => (#[] : Array Value))) = h₂ at hS₂ oth ⊢
  clear hh₂ hS
  have hg₂ : h₂.IsGen ga g := by
    obtain ⟨o, nm, qn, ho, r⟩ := hg
    exact ⟨o, nm, qn, oth _ _ hgD ho, r⟩
  unfold Builtin.List.listExtendWith
  refine wpAny_bind (wpAny_typeOf (s := { s with heap := h₂ }) hg₂.typeIs ?_)
  have h1 : Builtin.List.listSameRef (.ref s.heap.objs.size) (.ref ga) = false := by simp [Builtin.List.listSameRef, Ne.symm hgD]
  have h2 : (Value.type "generator" == Value.type "list") = false := by decide
  have h3 : (Value.type "generator" == Value.type "tuple") = false := by decide
  simp only [h1, h2, h3, Bool.or_false, Bool.false_eq_true, if_false]
  refine wpAny_bind (wpAny_pyIter_gen (s := { s with heap := h₂ }) hg₂ ?_)
  refine wpAny_bind (wpAny_holding ?_)
  unfold Builtin.List.listLengthHint
  refine wpAny_bind (wpAny_specialOf (s := { s with heap := h₂ }) hg₂.typeIs F.gen_no_len ?_)
  show wpAny _ A.in1.in1 (specialOf (Value.ref ga) (Str.ofString "__length_hint__") >>= _) _ _ _
  refine wpAny_bind (wpAny_specialOf (s := { s with heap := h₂ }) hg₂.typeIs F.gen_no_hint ?_)
  refine wpAny_pure ?_
  show wpAny _ A.in1.in1 (rule "list.extend.makes-room" >>= fun _ => Builtin.List.listTouch (.ref s.heap.objs.size) >>= fun _ =>
    again (.builtin "list.extend.loop" ⟨[.ref s.heap.objs.size, .ref ga, .none], []⟩)) _ _ _
  refine wpAny_bind (wpAny_rule ?_)
  refine wpAny_bind ?_
  show wpAny _ A.in1.in1 (updateSeq s.heap.objs.size (·.push .none) >>= fun _ => updateSeq s.heap.objs.size (·.pop)) _ _ _
  refine wpAny_bind (wpAny_updateSeq (s := { s with heap := h₂ }) hS₂ rfl ?_)
  have hS₃ := Heap.get?_update_self (Obj.mapSeq (·.push Value.none)) hS₂ rfl
  refine wpAny_updateSeq (hz := by seq_fits) hS₃ rfl ?_
  have hS₄ := Heap.get?_update_self (Obj.mapSeq (·.pop)) hS₃ rfl
  have oth₄ : ∀ b o, b ≠ s.heap.objs.size → s.heap.get? b = some o → ((h₂.update s.heap.objs.size (Obj.mapSeq (·.push Value.none))).update s.heap.objs.size (Obj.mapSeq (·.pop))).get? b = some o :=
    fun b o hb e => (Heap.get?_update_other _ _ (Ne.symm hb)).trans ((Heap.get?_update_other _ _ (Ne.symm hb)).trans (oth b o hb e))
  refine wpAny_pure ⟨plainId_quiet F.plain_extend_loop _, ?_⟩
  refine drain_loop (A := A.in1) (g := g) (all := all) hh (by show A.depth < recursionLimit; omega) hn O ⟨hga.1, hga.2.1, hga.2.2, hgD⟩ ⟨stat_ne h30, stat_ne (Nat.lt_trans h30 hLc), by decide, hlD⟩ all.length 0 _ _ _ (by omega) (by omega) ⟨?_, ?_, ⟨?_, ?_, ?_⟩, .fresh (fcode L c), hgs, ?_⟩ hS₄ trivial fun s' acc' c' hm hown hS' hacc' => ?_
  · obtain ⟨o, nm, qn, ho, r⟩ := hg
    exact ⟨o, nm, qn, oth₄ _ _ hgD ho, r⟩
  · obtain ⟨mc, hns, hnn⟩ := hl
    exact ⟨mc, hns.at' fun o e => oth₄ _ _ hlD e, hnn⟩
  · exact ⟨_, oth₄ _ _ (Nat.ne_of_lt (Nat.lt_trans h30 (Nat.lt_trans hLc hcD))) (N (30, tabObj #[]) (.tail _ (.head _))).1⟩
  · obtain ⟨o', es, ep, e', hd, _⟩ := Fg.ns
    exact ⟨o', oth₄ _ _ (Nat.ne_of_lt (Nat.lt_trans hLc hcD)) e', fun xs n q => by rw [hd] at q; cases q⟩
  · exact ⟨oc, oth₄ _ _ (Nat.ne_of_lt hcD) (N (c, oc) (.head _)).1, fun xs n q => by rw [hoc] at q; cases q⟩
  · intro s'' hk hex
    have hk' : KeptBut s.heap.objs.size s s'' := fun b o hb e => hk b o hb (oth₄ b o hb e)
    refine ⟨rfl, ?_⟩
    rw [Nat.sub_zero]
    refine seg_gen (A := A.in1.in1.in1) B X T' C O hD0 hh hf hdp hun ht ⟨m, oc, fr_kept Fg hD0 (Nat.ne_of_lt (Nat.lt_trans hLc hcD)) hk', H, hoc, hb, news_kept N (fun q hq => ?_) hk', hex⟩
    simp only [List.mem_cons, List.not_mem_nil, or_false] at hq
    rcases hq with rfl | rfl
    · exact Nat.ne_of_lt hcD
    · exact Nat.ne_of_lt (Nat.lt_trans h30 (Nat.lt_trans hLc hcD))
  · refine ⟨rfl, hQ s' acc' c' ⟨fun b o hb' e => ?_, hm.gens, hm.drawn, hm.os⟩ hown hS' hacc'⟩
    have hbD : b ≠ s.heap.objs.size := Nat.ne_of_lt (Heap.lt_size e)
    exact hm.heap b o (by simp only [List.mem_cons, List.not_mem_nil, or_false, not_or] at hb' ⊢; exact ⟨hbD, hb'⟩) (oth₄ b o hbD e)
end
end Mine
end

section
namespace Mine
/-- a generator object -/
noncomputable abbrev genObj (g : Nat) (t u : Tok) : Obj := { cls := .type "generator", data := .fields #[.int g 0, .str (Str.ofString "split_ranges") t, .str (Str.ofString "split_ranges") u] }
/-- a frame's object that holds these names -/
noncomputable def NsO (o : Obj) (m : Str → Option Value) : Prop := ∃ es ep, o.data = .dict es ep ∧ StrKeys es ∧ ∀ name, nsFind es name = m name
theorem NsO.ns {o : Obj} {m : Str → Option Value} {h : Heap} {a : Addr} (H : NsO o m) (e : h.get? a = some o) : h.Ns a m :=
  let ⟨es, ep, hd, hk, hf⟩ := H; ⟨o, es, ep, e, hd, hk, hf⟩
theorem gen_def {prog : Program} {w : World} {A : Around} {s : Shared} {K : Frag} {h₀ : Heap} {L : Addr} {m mg mb : Str → Option Value} {p : Program} {loose : List Str} {mean : ExcName → Option Value} {news : List (Addr × Obj)}
    {R : Result → Shared → Prop} {name qual : Str} {params : Arguments} {body : List Stmt} {scope : Scope} {doc pm cdv ct oc : Value} {od : Option Addr} {osl : Array (Option Value)} {f : Addr} {args : Args} {binds : List (Str × Value)}
    (F : Fr h₀ L s.heap m) (X₀ : K.In h₀) (N : News h₀ L s.heap news) (T : Top p loose mean mg mb h₀)
    (ho : K.lookup f = some ⟨oc, od, .func (fnOf name qual params body scope .none .none doc pm none cdv ct), osl⟩) (hcd : codeIn K cdv qual = true) (hroom : A.depth < recursionLimit)
    (hbind : BindsTo s (fnOf name qual params body scope .none .none doc pm none cdv ct) args binds) (hkind : (binds.all fun y => scope.names.lookup y.1 == some .local || scope.names.lookup y.1 == some .cell) = true)
    (hnd : ((cellsFrom 0 scope.names []).map (·.1)).Nodup)
    (h : ∀ Lg h' tk cells oL tg ug, (∀ q ∈ news, @LT.lt Nat _ q.1 Lg) → @LT.lt Nat _ L Lg → Fr h₀ L h' m → NsO oL (bindL (envOfC qual scope Lg f cdv).kindOf binds fun _ => none) →
      CellsAre (bindC (envOfC qual scope Lg f cdv).kindOf binds fun _ => none) (cellsFrom (Lg + 1) scope.names []) cells → (∀ q ∈ cells, @LT.lt Nat _ q.1 h'.objs.size) → (∀ q ∈ cells, @LT.lt Nat _ Lg q.1) →
      News h₀ L h' (cells ++ (Lg, oL) :: news) →
      R (.ok (.ret (.ref h'.objs.size))) { s with gens := s.gens.push (.fresh (.func body (envOfC qual scope Lg f cdv))), toks := tk, heap := h'.push { cls := .type "generator", data := .fields #[.int s.gens.size 0, .str name tg, .str qual ug] } })
    (hco : scope.isCoroutine = false) (hgen : scope.isGenerator = true) (hkf : scope.kind = .function) : codeAny (model prog w) A (.call (.ref f) args) R s := by
  refine codeAny_call_generator (fd := fnOf name qual params body scope .none .none doc pm none cdv ct) (body := body) hroom ((X₀.keeps F.keep) _ _ ho) rfl hco hgen rfl (codeRec_of (X₀.keeps F.keep) hcd) (hbind _ _ _ _ ?_)
  refine wpAny_newFunctionEnv_cells hkf (kindsX hkind _) fun env' he s' x => ?_
  subst he
  refine ⟨(T.nolimit.keeps F.keep).keeps x.toInCall.keep, ?_⟩
  obtain ⟨h₁, tk, rfl, hk⟩ := x.done
  obtain ⟨cells, NC, Y⟩ := Cl.news (h₀ := s.heap) (Nat.le_refl _) fun n c hm => ⟨x.cell n c (lookup_of_mem_nodup (cellsFrom_names scope.names 0 (s.heap.objs.size + 1) [] [] rfl ▸ hnd) hm), x.above n c hm⟩
  obtain ⟨oL, es, ep, eL, hd, hks, hf⟩ := x.toInCall.ns
  have hL : @LT.lt Nat _ L s.heap.objs.size := F.ns.lt
  have fresh : ∀ b, @LE.le Nat _ s.heap.objs.size b → h₀.get? b = none := fun b hb => by
    cases q : h₀.get? b with
    | none => rfl
    | some o => exact absurd (Heap.lt_size (F.keep _ _ q)) (Nat.not_lt.mpr hb)
  have ge : ∀ q ∈ cells, @LT.lt Nat _ s.heap.objs.size q.1 := fun q hq => by
    have hab := x.above
    have key : ∀ {cs : List (Str × Addr)} {cells : List (Addr × Obj)}, CellsAre (bindC (envOfC qual scope s.heap.objs.size f cdv).kindOf binds fun _ => none) cs cells → (∀ n c, (n, c) ∈ cs → @LT.lt Nat _ s.heap.objs.size c) → ∀ q ∈ cells, @LT.lt Nat _ s.heap.objs.size q.1 := by
      intro cs cells Y
      induction Y with
      | nil => intro _ q hq; cases hq
      | @cons n c o cs cells hd Y ih =>
        intro hcs q hq
        rcases List.mem_cons.mp hq with rfl | hq
        · exact hcs n _ (.head _)
        · exact ih (fun n c hm => hcs n c (.tail _ hm)) q hq
    exact key Y hab q hq
  refine h s.heap.objs.size h₁ _ cells oL _ _ (fun q hq => Heap.lt_size (N q hq).1) hL (F.kept hk) ⟨es, ep, hd, hks, hf⟩ Y (fun q hq => Heap.lt_size (NC q hq).1) ge fun q hq => ?_
  rcases List.mem_append.mp hq with hq | hq
  · exact ⟨(NC q hq).1, Nat.ne_of_gt (Nat.lt_trans hL (ge q hq)), fresh _ (Nat.le_of_lt (ge q hq))⟩
  · rcases List.mem_cons.mp hq with rfl | hq
    · exact ⟨eL, Nat.ne_of_gt hL, fresh _ (Nat.le_refl _)⟩
    · exact ⟨hk _ _ (N q hq).1, (N q hq).2⟩
theorem split_ok {prog : Program} {w : World} {p : Program} {loose : List Str} {mean : ExcName → Option Value} {mg mb : Str → Option Value}
    {dp un : Nat} {gd : Option (List Code)} {cn : Str} {cs : Scope} {a : Addr} {ccd : Value} {cl : List (Str × Addr)} {outer : List Env} {A₀ : Around} {base h₀ : Heap} {L : Addr} {m : Str → Option Value} {news : List (Addr × Obj)} {s : Shared}
    {S T lo hi : Int} {t1 t2 t3 t4 : Tok} {Q : Value → Shared → Prop} {E : Value → Shared → Prop}
    (B : Below A₀ base outer h₀) (F : Fr h₀ L s.heap m) (X : (hd.heap_39 w.params).In h₀) (N : News h₀ L s.heap news) (T' : Top p loose mean mg mb h₀) (hk : cs.kind = .function) (hdp : dp + 1 < recursionLimit) (hun : un + 8 < cLine)
    (hret : ∀ ga Lg c oL oC mL h' tk tg ug, Fr h₀ L h' m → News h₀ L h' ((ga, genObj s.gens.size tg ug) :: (c, oC) :: (Lg, oL) :: news) → (∀ q ∈ news, @LT.lt Nat _ q.1 Lg) → @LT.lt Nat _ L Lg → @LT.lt Nat _ Lg c → @LT.lt Nat _ c ga →
      NsO oL mL → HeadM mL S T lo hi → oC.data = .cell none → Q (.ref ga) { s with heap := h', toks := tk, gens := s.gens.push (.fresh (fcode Lg c)) }) :
    wpAny (model prog w) (ktrTop dp un gd cn cs L a ccd cl outer) (call (.ref 35) [.int S t1, .int T t2, .int lo t3, .int hi t4]) Q E s := by
  have dummy : (PySem.Challenge.rw_iu0045_01 = PySem.Challenge.rw_iu0045_01 ∧ hd.heap_39 = hd.heap_39) := by (k_fill; exact ⟨rfl, rfl⟩)
  clear dummy
  have X' := X.keeps F.keep
  refine wpAny_call ?_
  refine' gen_def F X N T' ?ho ?hcd ?room ?bind ?kind ?nd ?_ ?co ?gen ?kf
  case ho => k_is
  case hcd => k_is
  case room => exact Nat.lt_of_succ_lt hdp
  case bind => exact BindsTo.of_eq rfl
  case kind => rfl
  case nd => decide
  case co => rfl
  case gen => rfl
  case kf => rfl
  intro Lg h' tk cells oL tg ug l1 l2 F' hL Y hc1 hc2 N'
  obtain ⟨oC, rfl, hC⟩ := CellsAre.one Y
  have lc : @LT.lt Nat _ Lg (Lg + 1) := Nat.lt_succ_self _
  refine hret h'.objs.size Lg (Lg + 1) oL oC _ (h'.push (genObj s.gens.size tg ug)) tk tg ug (F'.push _) (fun q hq => ?_) l1 l2 lc (hc1 _ (.head _)) hL ⟨_, _, _, _, rfl, rfl, rfl, rfl⟩ hC
  exact News.push F' N' (genObj s.gens.size tg ug) rfl q hq
end Mine
end

section
namespace Mine
theorem listgen_ok {prog : Program} {w : World} {p : Program} {loose : List Str} {mean : ExcName → Option Value} {mg mb : Str → Option Value}
    {dp un : Nat} {gd : Option (List Code)} {cn : Str} {cs : Scope} {a : Addr} {ccd : Value} {cl : List (Str × Addr)} {outer : List Env} {A₀ : Around} {base h₀ : Heap} {L : Addr} {m : Str → Option Value} {news : List (Addr × Obj)} {s : Shared}
    {S T lo hi : Int} {ga Lg c : Addr} {g : Nat} {oL oC : Obj} {mL : Str → Option Value} {tg ug : Tok} {G : Array GenState} {all : List (Int × Int × Int)} {Q : Value → Shared → Prop} {E : Value → Shared → Prop}
    (B : Below A₀ base outer h₀) (Fc : Fr h₀ L s.heap m) (X : (hd.heap_39 w.params).In h₀) (N : News h₀ L s.heap news) (T' : Top p loose mean mg mb h₀) (C : CodeHd h₀ 34 30) (hk : cs.kind = .function) (hdp : dp + 2 < recursionLimit) (hun : un + 14 < cLine)
    (h30 : @LT.lt Nat _ 30 L) (m1 : (ga, genObj g tg ug) ∈ news) (m2 : (c, oC) ∈ news) (m3 : (Lg, oL) ∈ news) (m4 : (30, tabObj #[]) ∈ news) (l1 : @LT.lt Nat _ L Lg) (l2 : @LT.lt Nat _ Lg c) (l3 : @LT.lt Nat _ c ga)
    (hL : NsO oL mL) (hH : HeadM mL S T lo hi) (hC : oC.data = .cell none) (hgens : s.gens = G.push (.fresh (fcode Lg c))) (hg : g = G.size) (hb : Bnd S T 0) (ht : Tiers S T 0 lo hi all) (hn : all.length ≤ 1000)
    (hret : ∀ D acc cnt h' tk gens' ps, Fr h₀ L h' m → News h₀ L h' [(D, lstObj acc cnt), (30, tabObj ps)] → @LT.lt Nat _ 30 D → TupsAt h' acc.toList all → (AllBare G → AllBare gens') →
      Q (.ref D) { s with heap := h', toks := tk, gens := gens' }) :
    wpAny (model prog w) (ktrTop dp un gd cn cs L a ccd cl outer) (call (.type "list") [.ref ga]) Q E s := by
  have n30 := (N _ m4).2.2
  have st := baseG_stays Fc n30 l1
  have B' : Below (ktrTop dp un gd cn cs L a ccd cl outer) base (envX cn cs L a ccd cl :: outer) (baseG s.heap Lg) := baseG_below B Fc n30 l1 h30 rfl rfl hk
  have h30g : @LT.lt Nat _ 30 Lg := Nat.lt_trans h30 l1
  have FG : Fr (baseG s.heap Lg) Lg s.heap mL := ⟨hL.ns (N _ m3).1, fun b o e => baseG_of e, cut_size _ _⟩
  have NG : News (baseG s.heap Lg) Lg s.heap [(c, oC), (30, tabObj #[])] := fun q hq => by
    simp only [List.mem_cons, List.not_mem_nil, or_false] at hq
    rcases hq with rfl | rfl
    · exact ⟨(N _ m2).1, Nat.ne_of_gt l2, baseG_above (Nat.le_of_lt l2)⟩
    · exact ⟨(N _ m4).1, Nat.ne_of_lt h30g, baseG_none30⟩
  have hfr : s.gens[g]? = some (.fresh (fcode Lg c)) := by rw [hgens, hg]; exact Array.getElem?_push_size ..
  refine list_of_gen B' (X.keeps st) (T'.keeps st) (C.keeps st) h30g l2 rfl rfl hdp hun FG hH hC hb NG ⟨_, _, _, (N _ m1).1, rfl, rfl, rfl⟩ hfr (T'.nolimit.keeps Fc.keep)
    ⟨Nat.ne_of_gt (Nat.lt_trans l2 l3), Nat.ne_of_gt l3, Nat.ne_of_gt (Nat.lt_trans h30g (Nat.lt_trans l2 l3))⟩ ht (by rw [sizeLine_eq]; omega) fun s' acc' c' hm hown hD hacc => ?_
  obtain ⟨⟨ps, tb⟩, _, _⟩ := hown
  have hDL : @LT.lt Nat _ L s.heap.objs.size := Fc.ns.lt
  have hD0 : h₀.get? s.heap.objs.size = none := by
    cases q : h₀.get? s.heap.objs.size with
    | none => rfl
    | some o => exact absurd (Heap.lt_size (Fc.keep _ _ q)) (Nat.lt_irrefl _)
  have F' : Fr h₀ L s'.heap m := by
    refine ⟨Fc.ns.at' fun o e => hm.heap _ o ?_ e, fun b o e => hm.heap b o ?_ (Fc.keep b o e), Fc.above⟩
    · simp only [List.mem_cons, List.not_mem_nil, or_false, not_or]
      exact ⟨Nat.ne_of_lt l1, Nat.ne_of_lt (Nat.lt_trans l1 l2), Nat.ne_of_gt h30⟩
    · simp only [List.mem_cons, List.not_mem_nil, or_false, not_or]
      refine ⟨fun q => ?_, fun q => ?_, fun q => ?_⟩
      · have := (N _ m3).2.2; rw [q, this] at e; cases e
      · have := (N _ m2).2.2; rw [q, this] at e; cases e
      · rw [q, n30] at e; cases e
  have := hret s.heap.objs.size acc' c' s'.heap s'.toks s'.gens ps F' (fun q hq => by
    simp only [List.mem_cons, List.not_mem_nil, or_false] at hq
    rcases hq with rfl | rfl
    · exact ⟨hD, Nat.ne_of_gt hDL, hD0⟩
    · exact ⟨tb, Nat.ne_of_lt h30, n30⟩) (Nat.lt_trans h30 hDL) hacc fun hG => (by
    have : AllBare s.gens := by rw [hgens]; exact AllBare.push hG rfl
    exact this.moved hm.gens)
  have e : ({ s with heap := s'.heap, toks := s'.toks, gens := s'.gens } : Shared) = s' := by
    obtain ⟨h', g', d', t', o'⟩ := s'
    have hd := hm.drawn
    have ho := hm.os
    cases hd; cases ho
    rfl
  rw [e] at this
  exact this
end Mine
end

section
namespace Mine
noncomputable def Kx (κ : Keyed → Int) (xs : Array Keyed) (i : Nat) : Int := match xs[i]? with
  | some p => κ p
  | none => 0
theorem Kx_congr {κ : Keyed → Int} {xs ys : Array Keyed} {i j : Nat} (h : xs[i]? = ys[j]?) : Kx κ xs i = Kx κ ys j := by unfold Kx; rw [h]
/-- strictly rising from u up to v -/
noncomputable def Asc (κ : Keyed → Int) (xs : Array Keyed) (u v : Nat) : Prop := ∀ i j, u ≤ i → i < j → j < v → Kx κ xs i < Kx κ xs j
noncomputable def Desc (κ : Keyed → Int) (xs : Array Keyed) (u v : Nat) : Prop := ∀ i j, u ≤ i → i < j → j < v → Kx κ xs j < Kx κ xs i
/-- only the places from u up to v are turned, among themselves -/
noncomputable def SegMap (xs xs' : Array Keyed) (u v : Nat) : Prop :=
  xs'.size = xs.size ∧ (∀ i, (i < u ∨ v ≤ i) → xs'[i]? = xs[i]?) ∧ ∀ i, u ≤ i → i < v → ∃ j, u ≤ j ∧ j < v ∧ xs'[i]? = xs[j]?
theorem SegMap.refl (xs : Array Keyed) (u v : Nat) : SegMap xs xs u v := ⟨rfl, fun _ _ => rfl, fun i h1 h2 => ⟨i, h1, h2, rfl⟩⟩
theorem SegMap.mono {xs xs' : Array Keyed} {u v u' v' : Nat} (h : SegMap xs xs' u v) (hu : u' ≤ u) (hv : v ≤ v') : SegMap xs xs' u' v' := by
  refine ⟨h.1, fun i hi => h.2.1 i (by lia), fun i h1 h2 => ?_⟩
  by_cases c : u ≤ i ∧ i < v
  · obtain ⟨j, j1, j2, e⟩ := h.2.2 i c.1 c.2
    exact ⟨j, by lia, by lia, e⟩
  · exact ⟨i, h1, h2, h.2.1 i (by lia)⟩
theorem SegMap.trans {xs ys zs : Array Keyed} {u v : Nat} (h : SegMap xs ys u v) (k : SegMap ys zs u v) : SegMap xs zs u v := by
  refine ⟨k.1.trans h.1, fun i hi => (k.2.1 i hi).trans (h.2.1 i hi), fun i h1 h2 => ?_⟩
  obtain ⟨j, j1, j2, e⟩ := k.2.2 i h1 h2
  obtain ⟨l, l1, l2, e'⟩ := h.2.2 j j1 j2
  exact ⟨l, l1, l2, e.trans e'⟩
theorem Kx_mirror {κ : Keyed → Int} {xs : Array Keyed} {i j : Nat} (hj : j ≤ xs.size) (k : Nat) :
    Kx κ (mirror xs i j ((j - i) / 2)) k = if i ≤ k ∧ k < j then Kx κ xs (i + j - 1 - k) else Kx κ xs k := by
  have e := getElem?_mirror_all (i := i) hj k
  by_cases h1 : i ≤ k ∧ k < j
  · rw [if_pos h1] at e ⊢; exact Kx_congr e
  · rw [if_neg h1] at e ⊢; exact Kx_congr e
theorem seg_mirror {xs : Array Keyed} {i j : Nat} (hj : j ≤ xs.size) : SegMap xs (mirror xs i j ((j - i) / 2)) i j := by
  refine ⟨mirror_size _ _ _ _, fun k hk => ?_, fun k h1 h2 => ⟨i + j - 1 - k, by lia, by lia, ?_⟩⟩
  · rw [getElem?_mirror_all hj, if_neg (by lia)]
  · rw [getElem?_mirror_all hj, if_pos ⟨h1, h2⟩]
theorem Kx_bubble {κ : Keyed → Int} {xs : Array Keyed} {src d : Nat} (hs : src < xs.size) (hd : d ≤ src) (k : Nat) :
    Kx κ (bubble xs src d) k = if k = src - d then Kx κ xs src else if src - d < k ∧ k ≤ src then Kx κ xs (k - 1) else Kx κ xs k := by
  have e := getElem?_bubble hs d hd k
  by_cases h1 : k = src - d
  · rw [if_pos h1] at e ⊢; exact Kx_congr e
  · rw [if_neg h1] at e ⊢
    by_cases h2 : src - d < k ∧ k ≤ src
    · rw [if_pos h2] at e ⊢; exact Kx_congr e
    · rw [if_neg h2] at e ⊢; exact Kx_congr e
theorem seg_bubble {xs : Array Keyed} {src d u v : Nat} (hs : src < xs.size) (hd : d ≤ src) (hu : u ≤ src - d) (hv : src < v) : SegMap xs (bubble xs src d) u v := by
  refine ⟨bubble_size _ _ _, fun k hk => ?_, fun k h1 h2 => ?_⟩
  · rw [getElem?_bubble hs d hd, if_neg (by lia), if_neg (by lia)]
  · rw [getElem?_bubble hs d hd]
    by_cases c1 : k = src - d
    · rw [if_pos c1]; exact ⟨src, by lia, by lia, rfl⟩
    · rw [if_neg c1]
      by_cases c2 : src - d < k ∧ k ≤ src
      · rw [if_pos c2]; exact ⟨k - 1, by lia, by lia, rfl⟩
      · rw [if_neg c2]; exact ⟨k, h1, h2, rfl⟩
section
variable {prog : Program} {w : World} {A : Around} {E : Value → Shared → Prop} {s : Shared} {a₀ : Array Keyed} {κ : Keyed → Int} {kd : SortKind}
/-- what the comparisons say -/
noncomputable def CmpOk (prog : Program) (w : World) (A : Around) (E : Value → Shared → Prop) (s : Shared) (kd : SortKind) (κ : Keyed → Int) (a₀ : Array Keyed) : Prop :=
  ∀ x y (st : SortSt) (Q : Option Bool → SortSt → Prop), x ∈ a₀.toList → y ∈ a₀.toList → kindOf st = kd → Q (some (decide (κ x < κ y))) st → wpS (model prog w) A E s (lt' x y) Q st
structure SB (kd : SortKind) (a₀ : Array Keyed) (st : SortSt) : Prop where
  perm : (arrOf st).Perm a₀
  kind : kindOf st = kd
  failed : failedOf st = none
theorem SB.size {st : SortSt} (h : SB kd a₀ st) : (arrOf st).size = a₀.size := h.perm.size_eq
theorem SB.set {st : SortSt} (h : SB kd a₀ st) {xs : Array Keyed} (hp : xs.Perm (arrOf st)) : SB kd a₀ (setArr st xs) := ⟨hp.trans h.perm, h.kind, h.failed⟩
theorem SB.mem {st : SortSt} (h : SB kd a₀ st) {i : Nat} (hi : i < a₀.size) : ∃ x, (arrOf st)[i]? = some x ∧ x ∈ a₀.toList ∧ Kx κ (arrOf st) i = κ x := by
  have hi' : i < (arrOf st).size := by rw [h.size]; exact hi
  have hm : (arrOf st)[i] ∈ a₀.toList := (Array.perm_iff_toList_perm.mp h.perm).mem_iff.mp (by simp)
  have e : (arrOf st)[i]? = some (arrOf st)[i] := getElem?_pos _ i hi'
  exact ⟨_, e, hm, by unfold Kx; rw [e]⟩
/-- no key twice -/
noncomputable def Dist (κ : Keyed → Int) (a₀ : Array Keyed) : Prop := (a₀.toList.map κ).Nodup
theorem Dist.ne {st : SortSt} (D : Dist κ a₀) (h : SB kd a₀ st) {i j : Nat} (hi : i < a₀.size) (hj : j < a₀.size) (hij : i ≠ j) : Kx κ (arrOf st) i ≠ Kx κ (arrOf st) j := by
  have hp := (Array.perm_iff_toList_perm.mp h.perm).map κ
  have hn : ((arrOf st).toList.map κ).Nodup := hp.nodup_iff.mpr D
  have hi' : i < (arrOf st).size := by rw [h.size]; exact hi
  have hj' : j < (arrOf st).size := by rw [h.size]; exact hj
  intro e
  have e1 : Kx κ (arrOf st) i = κ (arrOf st)[i] := by unfold Kx; rw [getElem?_pos _ i hi']
  have e2 : Kx κ (arrOf st) j = κ (arrOf st)[j] := by unfold Kx; rw [getElem?_pos _ j hj']
  rw [e1, e2] at e
  have hi2 : i < ((arrOf st).toList.map κ).length := by simpa using hi'
  have hj2 : j < ((arrOf st).toList.map κ).length := by simpa using hj'
  exact hij ((List.getElem_inj (h₀ := hi2) (h₁ := hj2) hn).mp (by simpa using e))
theorem wpS_ltAt2 (C : CmpOk prog w A E s kd κ a₀) {st : SortSt} {i j : Nat} {Q : Option Bool → SortSt → Prop} (hB : SB kd a₀ st) (hi : i < a₀.size) (hj : j < a₀.size)
    (h : Q (some (decide (Kx κ (arrOf st) i < Kx κ (arrOf st) j))) st) : wpS (model prog w) A E s (ltAt' i j) Q st := by
  obtain ⟨x, e1, m1, k1⟩ := hB.mem (κ := κ) hi
  obtain ⟨y, e2, m2, k2⟩ := hB.mem (κ := κ) hj
  rw [ltAt'_eq]
  refine wpS_bind (wpS_get ?_)
  show wpS _ _ _ _ (do let x ← elem' (arrOf st) i; let y ← elem' (arrOf st) j; lt' x y) Q st
  rw [elem'_eq, elem'_eq, e1, e2]
  refine wpS_bind (wpS_pure (wpS_bind (wpS_pure ?_)))
  exact C x y st Q m1 m2 hB.kind (by rw [← k1, ← k2]; exact h)
theorem wpS_countRun2 (C : CmpOk prog w A E s kd κ a₀) (D : Dist κ a₀) {st : SortSt} {lo nrem : Nat} {Q : Option Nat → SortSt → Prop} (hB : SB kd a₀ st) (h1 : 1 ≤ nrem) (hn : lo + nrem ≤ a₀.size)
    (h : ∀ n st', SB kd a₀ st' → pendingOf st' = pendingOf st → 1 ≤ n → n ≤ nrem → Asc κ (arrOf st') lo (lo + n) → SegMap (arrOf st) (arrOf st') lo (lo + n) → Q (some n) st') :
    wpS (model prog w) A E s (countRun' lo nrem) Q st := by
  unfold wpS
  show wpAny _ _ (countRun' lo nrem st) _ _ _
  wp_delta
  wp_delta
  change wpS (model prog w) A E s _ Q st
  refine wpS_bind (wpS_mono (wpS_forRange (I := fun x c st' => st' = st ∧ c = (none, x) ∧ x ≤ nrem ∧ Asc κ (arrOf st) lo (lo + x))
    (Q := fun c st' => st' = st ∧ ∃ n, c = (none, n) ∧ 1 ≤ n ∧ n ≤ nrem ∧ Asc κ (arrOf st) lo (lo + n) ∧ (n = nrem ∨ Kx κ (arrOf st) (lo + n) < Kx κ (arrOf st) (lo + n - 1))) ?step ?fin ⟨rfl, rfl, h1, fun i j a b c => by lia⟩) ?post)
  case step =>
    rintro x c st' hx1 hx2 ⟨rfl, rfl, hxn, ha⟩
    dsimp only
    refine wpS_bind (wpS_ltAt2 C hB (by lia) (by lia) ?_)
    by_cases hl : Kx κ (arrOf st') (lo + x) < Kx κ (arrOf st') (lo + x - 1)
    · simp only [hl, decide_true, if_true]
      exact wpS_pure ⟨rfl, x, rfl, hx1, hxn, ha, .inr hl⟩
    · simp only [hl, decide_false, Bool.false_eq_true, if_false]
      refine wpS_pure ⟨rfl, rfl, by lia, fun i j i1 i2 i3 => ?_⟩
      have hlt : Kx κ (arrOf st') (lo + x - 1) < Kx κ (arrOf st') (lo + x) := by
        have := D.ne hB (i := lo + x) (j := lo + x - 1) (by lia) (by lia) (by lia)
        lia
      by_cases hj : j < lo + x
      · exact ha i j i1 i2 hj
      · have ej : j = lo + x := by lia
        subst ej
        by_cases hi : i = lo + x - 1
        · subst hi; exact hlt
        · exact Int.lt_trans (ha i (lo + x - 1) i1 (by lia) (by lia)) hlt
  case fin =>
    rintro c st' ⟨rfl, rfl, hxn, ha⟩
    rw [show max 1 nrem = nrem by lia] at ha ⊢
    exact ⟨rfl, nrem, rfl, h1, Nat.le_refl _, ha, .inl rfl⟩
  case post =>
    rintro c st' ⟨rfl, n, rfl, n1, n2, ha, hor⟩
    dsimp only
    by_cases hnn : n = nrem
    · rw [if_pos (by simpa using hnn)]
      exact wpS_pure (h n st' hB rfl n1 n2 ha (.refl _ _ _))
    · rw [if_neg (by simpa using hnn)]
      by_cases hgt : n > 1
      · rw [if_pos hgt]
        refine wpS_bind (wpS_ltAt2 C hB (by lia) (by lia) ?_)
        have := ha lo (lo + n - 1) (Nat.le_refl _) (by lia) (by lia)
        simp only [this, decide_true, if_true]
        exact wpS_pure (h n st' hB rfl n1 n2 ha (.refl _ _ _))
      · rw [if_neg hgt]
        have en : n = 1 := by lia
        subst en
        have hd : Kx κ (arrOf st') (lo + 1) < Kx κ (arrOf st') lo := by simpa using hor.resolve_left hnn
        refine wpS_bind (wpS_lift (wpAny_rule ⟨rfl, ?_⟩))
        refine wpS_bind (wpS_mono (wpS_forRange (I := fun x c st'' => st'' = st' ∧ c = (none, x, 0) ∧ x ≤ nrem ∧ Desc κ (arrOf st') lo (lo + x))
          (Q := fun c st'' => st'' = st' ∧ ∃ n, c = (none, n, 0) ∧ 2 ≤ n ∧ n ≤ nrem ∧ Desc κ (arrOf st') lo (lo + n)) ?step2 ?fin2 ?ini2) ?post2)
        case ini2 =>
          refine ⟨rfl, rfl, by lia, fun i j a b c => ?_⟩
          have e1 : i = lo := by lia
          have e2 : j = lo + 1 := by lia
          subst e1; subst e2; exact hd
        case step2 =>
          rintro x c st'' hx1 hx2 ⟨rfl, rfl, hxn, ha⟩
          dsimp only
          refine wpS_bind (wpS_ltAt2 C hB (by lia) (by lia) ?_)
          by_cases hl : Kx κ (arrOf st'') (lo + x) < Kx κ (arrOf st'') (lo + x - 1)
          · simp only [hl, decide_true, if_true]
            rw [if_neg (by lia)]
            refine wpS_pure ⟨rfl, rfl, by lia, fun i j i1 i2 i3 => ?_⟩
            by_cases hj : j < lo + x
            · exact ha i j i1 i2 hj
            · have ej : j = lo + x := by lia
              subst ej
              by_cases hi : i = lo + x - 1
              · subst hi; exact hl
              · exact Int.lt_trans hl (ha i (lo + x - 1) i1 (by lia) (by lia))
          · simp only [hl, decide_false, Bool.false_eq_true, if_false]
            refine wpS_bind (wpS_ltAt2 C hB (by lia) (by lia) ?_)
            have hlt : Kx κ (arrOf st'') (lo + x - 1) < Kx κ (arrOf st'') (lo + x) := by
              have := D.ne hB (i := lo + x) (j := lo + x - 1) (by lia) (by lia) (by lia)
              lia
            simp only [hlt, decide_true, if_true]
            exact wpS_pure ⟨rfl, x, rfl, hx1, hxn, ha⟩
        case fin2 =>
          rintro c st'' ⟨rfl, rfl, hxn, ha⟩
          rw [show max (1 + 1) nrem = nrem by lia] at ha ⊢
          exact ⟨rfl, nrem, rfl, by lia, Nat.le_refl _, ha⟩
        case post2 =>
          rintro c st'' ⟨rfl, n, rfl, m1, m2, hds⟩
          dsimp only
          rw [if_neg (by lia)]
          refine wpS_bind ?_
          show wpS _ _ _ _ (reverseSlice' lo (lo + n)) _ _
          refine wpS_reverse ?_
          have hsz : lo + n ≤ (arrOf st'').size := by rw [hB.size]; lia
          have hB' : SB kd a₀ (setArr st'' (mirror (arrOf st'') lo (lo + n) ((lo + n - lo) / 2))) := hB.set (mirror_perm _ _ _ _)
          have hS' : SegMap (arrOf st'') (mirror (arrOf st'') lo (lo + n) ((lo + n - lo) / 2)) lo (lo + n) := seg_mirror hsz
          have hA' : Asc κ (mirror (arrOf st'') lo (lo + n) ((lo + n - lo) / 2)) lo (lo + n) := fun i j i1 i2 i3 => by
            rw [Kx_mirror hsz, Kx_mirror hsz, if_pos (by lia), if_pos (by lia)]
            exact hds _ _ (by lia) (by lia) (by lia)
          generalize hst3 : setArr st'' (mirror (arrOf st'') lo (lo + n) ((lo + n - lo) / 2)) = st3 at hB'
          have e3 : arrOf st3 = mirror (arrOf st'') lo (lo + n) ((lo + n - lo) / 2) := by rw [← hst3]
          have p3 : pendingOf st3 = pendingOf st'' := by rw [← hst3]
          rw [← e3] at hS' hA'
          refine wpS_bind (wpS_mono (wpS_forRange (I := fun x c st4 => st4 = st3 ∧ c = (none, x) ∧ x ≤ nrem ∧ Asc κ (arrOf st3) lo (lo + x))
            (Q := fun c st4 => st4 = st3 ∧ ∃ m, c = (none, m) ∧ n ≤ m ∧ m ≤ nrem ∧ Asc κ (arrOf st3) lo (lo + m)) ?step3 ?fin3 ⟨rfl, rfl, m2, hA'⟩) ?post3)
          case step3 =>
            rintro x c st4 hx1 hx2 ⟨rfl, rfl, hxn, ha⟩
            dsimp only
            refine wpS_bind (wpS_ltAt2 C hB' (by lia) (by lia) ?_)
            by_cases hl : Kx κ (arrOf st4) (lo + x) < Kx κ (arrOf st4) (lo + x - 1)
            · simp only [hl, decide_true, if_true]
              exact wpS_pure ⟨rfl, x, rfl, hx1, hxn, ha⟩
            · simp only [hl, decide_false, Bool.false_eq_true, if_false]
              refine wpS_pure ⟨rfl, rfl, by lia, fun i j i1 i2 i3 => ?_⟩
              have hlt : Kx κ (arrOf st4) (lo + x - 1) < Kx κ (arrOf st4) (lo + x) := by
                have := D.ne hB' (i := lo + x) (j := lo + x - 1) (by lia) (by lia) (by lia)
                lia
              by_cases hj : j < lo + x
              · exact ha i j i1 i2 hj
              · have ej : j = lo + x := by lia
                subst ej
                by_cases hi : i = lo + x - 1
                · subst hi; exact hlt
                · exact Int.lt_trans (ha i (lo + x - 1) i1 (by lia) (by lia)) hlt
          case fin3 =>
            rintro c st4 ⟨rfl, rfl, hxn, ha⟩
            rw [show max n nrem = nrem by lia] at ha ⊢
            exact ⟨rfl, nrem, rfl, m2, Nat.le_refl _, ha⟩
          case post3 =>
            rintro c st4 ⟨rfl, m, rfl, k1, k2, ha⟩
            dsimp only
            exact wpS_pure (h m st4 hB' p3 (by lia) k2 ha (hS'.mono (Nat.le_refl _) (by lia)))
theorem wpS_binarySort2 (C : CmpOk prog w A E s kd κ a₀) (D : Dist κ a₀) {st : SortSt} {lo n ok : Nat} {Q : Bool → SortSt → Prop} (hB : SB kd a₀ st) (hn : lo + n ≤ a₀.size) (hok : ok ≤ n) (hs : Asc κ (arrOf st) lo (lo + ok))
    (h : ∀ st', SB kd a₀ st' → pendingOf st' = pendingOf st → Asc κ (arrOf st') lo (lo + n) → SegMap (arrOf st) (arrOf st') lo (lo + n) → Q true st') : wpS (model prog w) A E s (binarySort' lo n ok) Q st := by
  unfold wpS
  show wpAny _ _ (binarySort' lo n ok st) _ _ _
  wp_delta
  wp_delta
  change wpS (model prog w) A E s _ Q st
  refine wpS_bind (wpS_mono (wpS_forRange (I := fun k c st' => c = (none, ()) ∧ SB kd a₀ st' ∧ pendingOf st' = pendingOf st ∧ Asc κ (arrOf st') lo (lo + min k n) ∧ SegMap (arrOf st) (arrOf st') lo (lo + n))
    (Q := fun c st' => c = (none, ()) ∧ SB kd a₀ st' ∧ pendingOf st' = pendingOf st ∧ Asc κ (arrOf st') lo (lo + n) ∧ SegMap (arrOf st) (arrOf st') lo (lo + n)) ?step ?fin ?init) ?post)
  case post =>
    rintro c st' ⟨rfl, hB', hp, ha, hm⟩
    exact wpS_pure (h st' hB' hp ha hm)
  case init =>
    refine ⟨rfl, hB, rfl, fun i j i1 i2 i3 => ?_, .refl _ _ _⟩
    by_cases h1 : ok = 0
    · lia
    · exact hs i j i1 i2 (by lia)
  case fin =>
    rintro c st' ⟨hc, hB', hp, ha, hm⟩
    refine ⟨hc, hB', hp, ?_, hm⟩
    rwa [show min (max (max ok 1) n) n = n by lia] at ha
  case step =>
    rintro k c st' hak hkn ⟨rfl, hB', hp, hs', hm⟩
    rw [show min k n = k by lia] at hs'
    dsimp only
    refine wpS_bind (wpS_mono (wpS_forRange (I := fun x c st'' => st'' = st' ∧ ∃ l r, c = (none, l, r) ∧ l ≤ r ∧ r ≤ k ∧ r - l ≤ k - x ∧
        (∀ i, i < l → Kx κ (arrOf st') (lo + i) < Kx κ (arrOf st') (lo + k)) ∧ (∀ i, r ≤ i → i < k → Kx κ (arrOf st') (lo + k) < Kx κ (arrOf st') (lo + i)))
      (Q := fun c st'' => st'' = st' ∧ ∃ l r, c = (none, l, r) ∧ l ≤ k ∧
        (∀ i, i < l → Kx κ (arrOf st') (lo + i) < Kx κ (arrOf st') (lo + k)) ∧ (∀ i, l ≤ i → i < k → Kx κ (arrOf st') (lo + k) < Kx κ (arrOf st') (lo + i))) ?istep ?ifin ?iinit) ?ipost)
    case iinit => exact ⟨rfl, 0, k, rfl, by lia, by lia, by lia, fun i hi => by lia, fun i h1 h2 => by lia⟩
    case ifin =>
      rintro c st'' ⟨rfl, l, r, rfl, hlr, hrk, hmm, hlo, hhi⟩
      have : l = r := by lia
      subst this
      exact ⟨rfl, l, l, rfl, hrk, hlo, hhi⟩
    case istep =>
      rintro x c st'' _ hxk ⟨rfl, l, r, rfl, hlr, hrk, hmm, hlo, hhi⟩
      dsimp only
      by_cases hge : l ≥ r
      · rw [if_pos hge]
        have : l = r := by lia
        subst this
        exact wpS_pure ⟨rfl, l, l, rfl, hrk, hlo, hhi⟩
      · rw [if_neg hge]
        refine wpS_bind (wpS_ltAt2 C hB' (by lia) (by lia) ?_)
        by_cases hl : Kx κ (arrOf st'') (lo + k) < Kx κ (arrOf st'') (lo + (l + r) / 2)
        · simp only [hl, decide_true, if_true]
          refine wpS_pure ⟨rfl, l, (l + r) / 2, rfl, by lia, by lia, by lia, hlo, fun i h1 h2 => ?_⟩
          by_cases e : i = (l + r) / 2
          · subst e; exact hl
          · exact Int.lt_trans hl (hs' _ _ (by lia) (by lia) (by lia))
        · simp only [hl, decide_false, Bool.false_eq_true, if_false]
          have hlt : Kx κ (arrOf st'') (lo + (l + r) / 2) < Kx κ (arrOf st'') (lo + k) := by
            have := D.ne hB' (i := lo + (l + r) / 2) (j := lo + k) (by lia) (by lia) (by lia)
            lia
          refine wpS_pure ⟨rfl, (l + r) / 2 + 1, r, rfl, by lia, by lia, by lia, fun i h1 => ?_, hhi⟩
          by_cases e : i = (l + r) / 2
          · subst e; exact hlt
          · exact Int.lt_trans (hs' _ _ (by lia) (by lia) (by lia)) hlt
    case ipost =>
      rintro c st'' ⟨rfl, l, r, rfl, hlk, hlo, hhi⟩
      dsimp only
      refine wpS_bind ?_
      show wpS _ _ _ _ (moveDown' (lo + k) (lo + l)) _ _
      rw [moveDown'_eq]
      have hks : lo + k < (arrOf st'').size := by rw [hB'.size]; lia
      have ed : lo + k - (lo + l) = k - l := by lia
      rw [ed]
      refine wpS_modify (wpS_pure ⟨rfl, hB'.set (bubble_perm _ _ _), hp, ?_, hm.trans (seg_bubble hks (by lia) (by lia) (by lia))⟩)
      rw [show min (k + 1) n = k + 1 by lia]
      intro i j i1 i2 i3
      show Kx κ (bubble (arrOf st'') (lo + k) (k - l)) i < Kx κ (bubble (arrOf st'') (lo + k) (k - l)) j
      rw [Kx_bubble hks (by lia), Kx_bubble hks (by lia), show lo + k - (k - l) = lo + l by lia]
      have hlo' : ∀ i, lo ≤ i → i < lo + l → Kx κ (arrOf st'') i < Kx κ (arrOf st'') (lo + k) := fun i h1 h2 => by
        have := hlo (i - lo) (by lia)
        rwa [show lo + (i - lo) = i by lia] at this
      have hhi' : ∀ i, lo + l ≤ i → i < lo + k → Kx κ (arrOf st'') (lo + k) < Kx κ (arrOf st'') i := fun i h1 h2 => by
        have := hhi (i - lo) (by lia) (by lia)
        rwa [show lo + (i - lo) = i by lia] at this
      repeat' split
      all_goals first
        | (exfalso; lia)
        | exact hlo' _ (by lia) (by lia)
        | exact hhi' _ (by lia) (by lia)
        | exact hs' _ _ (by lia) (by lia) (by lia)
end
end Mine
end

section
namespace Mine
noncomputable def gallop' : Bool → Keyed → Array Keyed → Nat → Nat → Nat → StateT SortSt Sem (Option Nat) := sortPriv% PySem.Builtin.gallop
noncomputable def mergeLo' : Array Keyed → Array Keyed → StateT SortSt Sem (Array Keyed) := sortPriv% PySem.Builtin.mergeLo
noncomputable def mergeHi' : Array Keyed → Array Keyed → StateT SortSt Sem (Array Keyed) := sortPriv% PySem.Builtin.mergeHi
section
variable {prog : Program} {w : World} {A : Around} {E : Value → Shared → Prop} {s : Shared} {a₀ : Array Keyed} {κ : Keyed → Int} {kd : SortKind}
noncomputable def beyond' (left : Bool) (key : Keyed) (arr : Array Keyed) (base : Nat) (i : Nat) : StateT SortSt Sem (Option Bool) := do
  let x ← elem' arr (base + i)
  if left = true then lt' x key else do
    let r ← lt' key x
    pure (Option.map (fun x => !x) r)
theorem wpS_gallop (C : CmpOk prog w A E s kd κ a₀) {st : SortSt} {left : Bool} {key : Keyed} {arr : Array Keyed} {base n hint k0 : Nat} {Q : Option Nat → SortSt → Prop} (hkd : kindOf st = kd) (hkey : key ∈ a₀.toList)
    (harr : ∀ i, i < n → ∃ x, arr[base + i]? = some x ∧ x ∈ a₀.toList ∧ (if left = true then decide (κ x < κ key) else !decide (κ key < κ x)) = decide (i < k0)) (hh : hint < n) (hk0 : k0 ≤ n)
    (h : Q (some k0) st) : wpS (model prog w) A E s (gallop' left key arr base n hint) Q st := by
  unfold wpS
  show wpAny _ _ (gallop' left key arr base n hint st) _ _ _
  wp_delta
  wp_delta
  change wpS (model prog w) A E s _ Q st
  have hbe : ∀ (i : Nat) (R : Option Bool → SortSt → Prop), i < n → R (some (decide (i < k0))) st → wpS (model prog w) A E s (beyond' left key arr base i) R st := by
    intro i R hi hR
    obtain ⟨x, e, m, d⟩ := harr i hi
    unfold beyond'
    rw [elem'_eq, e]
    refine wpS_bind (wpS_pure ?_)
    cases left with
    | true =>
      simp only [if_true] at d ⊢
      exact C x key st R m hkey hkd (by rw [d]; exact hR)
    | false =>
      simp only [Bool.false_eq_true, if_false] at d ⊢
      refine wpS_bind (C key x st _ hkey m hkd (wpS_pure ?_))
      show R (some (!decide (κ key < κ x))) st
      rw [d]; exact hR
  have fin : ∀ lo hi, lo ≤ k0 → k0 ≤ hi → hi ≤ n → wpS (model prog w) A E s (do
      let mut lo := lo
      let mut hi := hi
      for _ in [0:n] do
        if lo ≥ hi then break
        let m := lo + (hi - lo) / 2
        let some more ← beyond' left key arr base m | return none
        if more then lo := m + 1 else hi := m
      return some hi) Q st := by
    intro lo hi h1 h2 h3
    refine wpS_bind (wpS_mono (wpS_forRange (I := fun x c st' => st' = st ∧ ∃ l r, c = (none, l, r) ∧ l ≤ k0 ∧ k0 ≤ r ∧ r ≤ n ∧ r - l ≤ n - x) (Q := fun c st' => st' = st ∧ ∃ l, c = (none, l, k0)) ?step ?fin ?init) ?post)
    case init => exact ⟨rfl, lo, hi, rfl, h1, h2, h3, by lia⟩
    case fin =>
      rintro c st' ⟨rfl, l, r, rfl, a1, a2, a3, a4⟩
      exact ⟨rfl, l, by rw [show r = k0 by lia]⟩
    case post =>
      rintro c st' ⟨rfl, l, rfl⟩
      dsimp only
      exact wpS_pure h
    case step =>
      rintro x c st' _ hx ⟨rfl, l, r, rfl, a1, a2, a3, a4⟩
      dsimp only
      by_cases hge : l ≥ r
      · rw [if_pos hge]
        exact wpS_pure ⟨rfl, l, by rw [show r = k0 by lia]⟩
      · rw [if_neg hge]
        refine wpS_bind (hbe _ _ (by lia) ?_)
        by_cases hl : l + (r - l) / 2 < k0
        · simp only [hl, decide_true, if_true]
          exact wpS_pure ⟨rfl, _, _, rfl, by lia, by lia, by lia, by lia⟩
        · simp only [hl, decide_false, Bool.false_eq_true, if_false]
          exact wpS_pure ⟨rfl, _, _, rfl, by lia, by lia, by lia, by lia⟩
  refine wpS_bind ?_
  show wpS _ _ _ _ (beyond' left key arr base hint) _ _
  refine hbe hint _ hh ?_
  dsimp only
  by_cases hr : hint < k0
  · simp only [hr, decide_true, if_true]
    refine wpS_bind (wpS_mono (wpS_forRange (I := fun x c st' => st' = st ∧ ∃ l o, c = (none, l, o) ∧ hint + l < k0 ∧ 1 ≤ o ∧ x + 1 ≤ o) (Q := fun c st' => st' = st ∧ ∃ l o, c = (none, l, o) ∧ hint + l < k0 ∧ 1 ≤ o ∧ (n - hint ≤ o ∨ k0 ≤ hint + o)) ?step ?fin ?init) ?post)
    case init => exact ⟨rfl, 0, 1, rfl, by lia, by lia, by lia⟩
    case fin =>
      rintro c st' ⟨rfl, l, o, rfl, a1, a2, a3⟩
      exact ⟨rfl, l, o, rfl, a1, a2, .inl (by lia)⟩
    case post =>
      rintro c st' ⟨rfl, l, o, rfl, a1, a2, a3⟩
      dsimp only
      exact fin _ _ (by lia) (by lia) (by lia)
    case step =>
      rintro x c st' _ hx ⟨rfl, l, o, rfl, a1, a2, a3⟩
      dsimp only
      by_cases hge : o ≥ n - hint
      · rw [if_pos hge]
        exact wpS_pure ⟨rfl, l, o, rfl, a1, a2, .inl hge⟩
      · rw [if_neg hge]
        refine wpS_bind (hbe _ _ (by lia) ?_)
        by_cases hl : hint + o < k0
        · simp only [hl, decide_true, Bool.not_true, Bool.false_eq_true, if_false]
          exact wpS_pure ⟨rfl, _, _, rfl, by lia, by lia, by lia⟩
        · simp only [hl, decide_false, Bool.not_false, if_true]
          exact wpS_pure ⟨rfl, _, _, rfl, by lia, by lia, .inr (by lia)⟩
  · simp only [hr, decide_false, Bool.false_eq_true, if_false]
    refine wpS_bind (wpS_mono (wpS_forRange (I := fun x c st' => st' = st ∧ ∃ l o, c = (none, l, o) ∧ k0 + l ≤ hint ∧ 1 ≤ o ∧ x + 1 ≤ o) (Q := fun c st' => st' = st ∧ ∃ l o, c = (none, l, o) ∧ k0 + l ≤ hint ∧ 1 ≤ o ∧ (hint + 1 ≤ o ∨ (o ≤ hint ∧ hint < k0 + o))) ?step2 ?fin2 ?init2) ?post2)
    case init2 => exact ⟨rfl, 0, 1, rfl, by lia, by lia, by lia⟩
    case fin2 =>
      rintro c st' ⟨rfl, l, o, rfl, a1, a2, a3⟩
      exact ⟨rfl, l, o, rfl, a1, a2, .inl (by lia)⟩
    case post2 =>
      rintro c st' ⟨rfl, l, o, rfl, a1, a2, a3⟩
      dsimp only
      exact fin _ _ (by lia) (by lia) (by lia)
    case step2 =>
      rintro x c st' _ hx ⟨rfl, l, o, rfl, a1, a2, a3⟩
      dsimp only
      by_cases hge : o ≥ hint + 1
      · rw [if_pos hge]
        exact wpS_pure ⟨rfl, l, o, rfl, a1, a2, .inl hge⟩
      · rw [if_neg hge]
        refine wpS_bind (hbe _ _ (by lia) ?_)
        by_cases hl : hint - o < k0
        · simp only [hl, decide_true, if_true]
          exact wpS_pure ⟨rfl, _, _, rfl, by lia, by lia, .inr (by lia)⟩
        · simp only [hl, decide_false, Bool.false_eq_true, if_false]
          exact wpS_pure ⟨rfl, _, _, rfl, by lia, by lia, by lia⟩
end
end Mine
end

section
namespace Mine
noncomputable def setMinGallop' : Nat → StateT SortSt Sem Unit := sortPriv% PySem.Builtin.setMinGallop
noncomputable abbrev setGal (st : SortSt) (g : Nat) : SortSt := SortSt.mk' (kindOf st) (arrOf st) (pendingOf st) g (failedOf st)
theorem setMinGallop'_eq (g : Nat) : setMinGallop' g = modify fun s => setGal s g := rfl
/-- alike but for the galloping bound -/
noncomputable def SameS (st st' : SortSt) : Prop := kindOf st' = kindOf st ∧ arrOf st' = arrOf st ∧ pendingOf st' = pendingOf st ∧ failedOf st' = failedOf st
theorem SameS.refl (st : SortSt) : SameS st st := ⟨rfl, rfl, rfl, rfl⟩
theorem SameS.gal (st : SortSt) (g : Nat) : SameS st (setGal st g) := ⟨rfl, rfl, rfl, rfl⟩
section arrs
variable {α : Type}
theorem ext_push (b : Array α) {i : Nat} {x : α} (h : b[i]? = some x) : (b.extract 0 i).push x = b.extract 0 (i + 1) := by
  obtain ⟨hi, rfl⟩ := Array.getElem?_eq_some_iff.mp h
  simp [Array.push_extract_getElem, hi]
theorem ext_app (b : Array α) (i j : Nat) (h : i ≤ j) : b.extract 0 i ++ b.extract i j = b.extract 0 j := by
  rw [Array.extract_append_extract]; congr 1 <;> lia
theorem ext_all (b : Array α) (j : Nat) (h : b.size ≤ j) : b.extract 0 j = b := by
  rw [Array.extract_eq_self_of_le h]
theorem ext_nil (b : Array α) (i j : Nat) (h : b.size ≤ i) : b.extract i j = #[] := by
  rw [Array.extract_empty_of_size_le_start h]
theorem ext_one (b : Array α) {x : α} (h : b[0]? = some x) : #[x] = b.extract 0 1 := by
  rw [← ext_push b h]; simp
theorem ext_done (a b : Array α) (k j : Nat) (h : b.size ≤ k) : b.extract 0 k ++ a ++ b.extract k j = b ++ a := by
  rw [ext_nil b _ _ h, ext_all b _ h]; simp
end arrs
section
variable {prog : Program} {w : World} {A : Around} {E : Value → Shared → Prop} {s : Shared} {a₀ : Array Keyed} {κ : Keyed → Int} {kd : SortKind}
theorem elem_at {a : Array Keyed} {i : Nat} (h : i < a.size) : ∃ x, a[i]? = some x ∧ x ∈ a.toList := ⟨a[i], getElem?_pos a i h, by simp⟩
theorem wpS_elem {a : Array Keyed} {i : Nat} {x : Keyed} {st : SortSt} {Q : Keyed → SortSt → Prop} (h : a[i]? = some x) (hQ : Q x st) : wpS (model prog w) A E s (elem' a i) Q st := by
  rw [elem'_eq, h]; exact wpS_pure hQ
theorem wpS_ite {α : Type} {c : Prop} [Decidable c] {m n : StateT SortSt Sem α} {st : SortSt} {Q : α → SortSt → Prop} (h1 : c → wpS (model prog w) A E s m Q st) (h2 : ¬ c → wpS (model prog w) A E s n Q st) :
    wpS (model prog w) A E s (if c then m else n) Q st := by
  split
  · exact h1 ‹_›
  · exact h2 ‹_›
theorem wpS_if2 {α : Type} {c : Prop} {dc : Decidable c} {m n : StateT SortSt Sem α} {st : SortSt} {Q : α → SortSt → Prop} (h1 : wpS (model prog w) A E s m Q st) (h2 : wpS (model prog w) A E s n Q st) :
    wpS (model prog w) A E s (if c then m else n) Q st := by
  split
  · exact h1
  · exact h2
theorem wpS_mergeLo (C : CmpOk prog w A E s kd κ a₀) {st : SortSt} {a b : Array Keyed} {Q : Array Keyed → SortSt → Prop} (hkd : kindOf st = kd) (ha : ∀ x ∈ a.toList, x ∈ a₀.toList) (hb : ∀ x ∈ b.toList, x ∈ a₀.toList)
    (hlt : ∀ x ∈ b.toList, ∀ y ∈ a.toList, κ x < κ y) (ha0 : 0 < a.size) (hb0 : 0 < b.size) (h : ∀ st', SameS st st' → Q (b ++ a) st') : wpS (model prog w) A E s (mergeLo' a b) Q st := by
  unfold wpS
  show wpAny _ _ (mergeLo' a b st) _ _ _
  wp_delta
  wp_delta
  change wpS (model prog w) A E s _ Q st
  refine wpS_bind (wpS_lift (wpAny_rule ⟨rfl, ?_⟩))
  dsimp only
  refine wpS_bind ?_
  show wpS _ _ _ _ (elem' b 0) _ _
  obtain ⟨b0, eb0, mb0⟩ := elem_at hb0
  obtain ⟨x0, ex0, mx0⟩ := elem_at ha0
  have ha' : a.extract = a := ext_all a _ (Nat.le_refl _)
  refine wpS_elem eb0 ?_
  rw [ha']
  by_cases hb1 : 1 = b.size
  · rw [if_pos (by simpa using hb1), ext_one b eb0, ext_nil b 1 _ (by lia), ext_all b 1 (by lia)]
    exact wpS_pure (by simpa using h st (.refl st))
  rw [if_neg (by simpa using hb1)]
  by_cases ha1 : 0 + 1 = a.size
  · rw [if_pos (by simpa using ha1), ext_one b eb0, ext_app b 1 _ (by lia), ext_all b _ (by lia)]
    exact wpS_pure (h st (.refl st))
  rw [if_neg (by simpa using ha1), ext_one b eb0]
  refine wpS_bind (wpS_get ?_)
  refine wpS_bind (wpS_mono (wpS_forRange (I := fun x c st' => x = 0 ∧ st' = st ∧ ∃ g, c = (none, b.extract 0 1, 0, 1, g)) (Q := fun c st' => SameS st st' ∧ ∃ rest, c = (some (b ++ a), rest)) ?step ?fin ⟨rfl, rfl, _, rfl⟩) ?post)
  case fin => rintro c st' ⟨h0, _⟩; lia
  case post =>
    rintro c st' ⟨hs, rest, rfl⟩
    dsimp only
    exact wpS_pure (h st' hs)
  case step =>
    rintro x c st' _ hx ⟨rfl, rfl, g, rfl⟩
    dsimp only
    refine wpS_bind (wpS_mono (wpS_forRange (I := fun x c st'' => st'' = st' ∧ ∃ ib ac bc, c = (none, b.extract 0 ib, 0, ib, ac, bc) ∧ 1 ≤ ib ∧ ib < b.size)
      (Q := fun c st'' => st'' = st' ∧ ((∃ rest, c = (some (b ++ a), rest)) ∨ (∃ ib ac bc, c = (none, b.extract 0 ib, 0, ib, ac, bc) ∧ 1 ≤ ib ∧ ib < b.size))) ?step2 ?fin2 ⟨rfl, 1, 0, 0, rfl, by lia, by lia⟩) ?post2)
    case fin2 => rintro c st'' ⟨e, hh⟩; exact ⟨e, .inr hh⟩
    case step2 =>
      rintro x c st'' _ hx' ⟨rfl, ib, ac, bc, rfl, i1, i2⟩
      dsimp only
      obtain ⟨bx, eb, mb⟩ := elem_at i2
      refine wpS_bind ?_
      show wpS _ _ _ _ (elem' b ib) _ _
      refine wpS_elem eb ?_
      refine wpS_bind ?_
      show wpS _ _ _ _ (elem' a 0) _ _
      refine wpS_elem ex0 ?_
      refine wpS_bind ?_
      show wpS _ _ _ _ (lt' bx x0) _ _
      refine C bx x0 _ _ (hb _ mb) (ha _ mx0) hkd ?_
      simp only [hlt _ mb _ mx0, decide_true, if_true]
      refine wpS_bind ?_
      show wpS _ _ _ _ (elem' b ib) _ _
      refine wpS_elem eb ?_
      rw [ext_push b eb]
      by_cases h1 : ib + 1 = b.size
      · rw [if_pos (by simpa using h1)]
        rw [ha', ext_done a b _ _ (by lia)]
        exact wpS_pure ⟨rfl, .inl ⟨_, rfl⟩⟩
      · rw [if_neg (by simpa using h1)]
        split
        · exact wpS_pure ⟨rfl, .inr ⟨_, _, _, rfl, by lia, by lia⟩⟩
        · exact wpS_pure ⟨rfl, _, _, _, rfl, by lia, by lia⟩
    case post2 =>
      rintro c st'' ⟨rfl, ⟨rest, rfl⟩ | ⟨ib, ac, bc, rfl, i1, i2⟩⟩
      · dsimp only
        exact wpS_pure ⟨.refl _, _, rfl⟩
      · dsimp only
        refine wpS_bind (wpS_lift (wpAny_rule ⟨rfl, ?_⟩))
        obtain ⟨bx, eb, mb⟩ := elem_at i2
        refine wpS_bind (wpS_mono (wpS_forRange (I := fun x c st' => x = 0 ∧ st' = st'' ∧ ∃ g, c = (none, b.extract 0 ib, 0, ib, g)) (Q := fun c st' => SameS st'' st' ∧ ∃ rest, c = (some (b ++ a), rest)) ?step3 ?fin3 ⟨rfl, rfl, _, rfl⟩) ?post3)
        case fin3 => rintro c st' ⟨h0, _⟩; lia
        case post3 =>
          rintro c st' ⟨hs, rest, rfl⟩
          dsimp only
          exact wpS_pure ⟨hs, _, rfl⟩
        case step3 =>
          rintro x c st' _ hx' ⟨rfl, rfl, g, rfl⟩
          dsimp only
          have go : ∀ (st3 : SortSt) (R : Option Nat → SortSt → Prop), SameS st' st3 → R (some 0) st3 → wpS (model prog w) A E s (gallop' false bx a 0 (a.size - 0) 0) R st3 := fun st3 R hs hR =>
            wpS_gallop C (hs.1.trans hkd) (hb _ mb) (k0 := 0) (fun i hi => by
              obtain ⟨y, ey, my⟩ := elem_at (a := a) (i := 0 + i) (by lia)
              exact ⟨y, ey, ha _ my, by simp [hlt _ mb _ my]⟩) (by lia) (by lia) hR
          have go2 : ∀ (st3 : SortSt) (R : Option Nat → SortSt → Prop), SameS st' st3 → ib + 1 < b.size → R (some (b.size - (ib + 1))) st3 → wpS (model prog w) A E s (gallop' true x0 b (ib + 1) (b.size - (ib + 1)) 0) R st3 := fun st3 R hs hlt' hR =>
            wpS_gallop C (hs.1.trans hkd) (ha _ mx0) (k0 := b.size - (ib + 1)) (fun i hi => by
              obtain ⟨y, ey, my⟩ := elem_at (a := b) (i := ib + 1 + i) (by lia)
              exact ⟨y, ey, hb _ my, by simp [hlt _ my _ mx0, hi]⟩) (by lia) (by lia) hR
          refine wpS_if2 ?ba ?bb
          generalize g.fst - 1 = ga
          revert ga
          refine id ?all
          case bb => exact id ?all g.fst
          case all =>
            intro v
            refine wpS_bind ?_
            show wpS _ _ _ _ (setMinGallop' _) _ _
            rw [setMinGallop'_eq]
            refine wpS_modify ?_
            refine wpS_bind ?_
            show wpS _ _ _ _ (elem' b ib) _ _
            refine wpS_elem eb ?_
            refine wpS_bind ?_
            show wpS _ _ _ _ (gallop' false bx a 0 (a.size - 0) 0) _ _
            refine go _ _ (.gal _ _) ?_
            dsimp only
            rw [if_neg (by lia)]
            refine wpS_bind ?_
            show wpS _ _ _ _ (elem' b ib) _ _
            refine wpS_elem eb ?_
            rw [ext_push b eb]
            by_cases h1 : ib + 1 = b.size
            · rw [if_pos (by simpa using h1)]
              rw [ha', ext_done a b _ _ (by lia)]
              exact wpS_pure ⟨.gal _ _, _, rfl⟩
            · rw [if_neg (by simpa using h1)]
              refine wpS_bind ?_
              show wpS _ _ _ _ (elem' a 0) _ _
              refine wpS_elem ex0 ?_
              refine wpS_bind ?_
              show wpS _ _ _ _ (gallop' true x0 b (ib + 1) (b.size - (ib + 1)) 0) _ _
              refine go2 _ _ (.gal _ _) (by lia) ?_
              dsimp only
              rw [if_pos (by lia), if_pos (by simp; lia)]
              rw [ha', ext_app b _ _ (by lia), ext_done a b _ _ (by lia)]
              exact wpS_pure ⟨.gal _ _, _, rfl⟩
end
end Mine
end

section
namespace Mine
section arrs
variable {α : Type}
theorem rev_push (a : Array α) {i : Nat} {x : α} (h : a[i]? = some x) : (a.extract (i + 1) a.size).reverse.push x = (a.extract i a.size).reverse := by
  obtain ⟨hi, rfl⟩ := Array.getElem?_eq_some_iff.mp h
  have e : a.extract i a.size = #[a[i]] ++ a.extract (i + 1) a.size := by
    apply Array.ext
    · simp; lia
    · intro j h1 h2
      simp at h1 h2 ⊢
      rcases j with _ | j
      · simp
      · simp [Array.getElem_append, Nat.add_assoc, Nat.add_comm 1 j]
  rw [e, Array.reverse_append]; simp
theorem rev_all (a b : Array α) (j : Nat) : a.extract 0 0 ++ b.extract 0 b.size ++ (a.extract 0 a.size).reverse.reverse = b ++ a := by simp
theorem rev_app (a : Array α) (i : Nat) (h : i ≤ a.size) : (a.extract i a.size).reverse ++ (a.extract 0 i).reverse = (a.extract 0 a.size).reverse := by
  rw [← Array.reverse_append, Array.extract_append_extract]; congr 1; congr 1 <;> lia
end arrs
section
variable {prog : Program} {w : World} {A : Around} {E : Value → Shared → Prop} {s : Shared} {a₀ : Array Keyed} {κ : Keyed → Int} {kd : SortKind}
theorem wpS_mergeHi (C : CmpOk prog w A E s kd κ a₀) {st : SortSt} {a b : Array Keyed} {Q : Array Keyed → SortSt → Prop} (hkd : kindOf st = kd) (ha : ∀ x ∈ a.toList, x ∈ a₀.toList) (hb : ∀ x ∈ b.toList, x ∈ a₀.toList)
    (hlt : ∀ x ∈ b.toList, ∀ y ∈ a.toList, κ x < κ y) (ha0 : 0 < a.size) (hb0 : 0 < b.size) (h : ∀ st', SameS st st' → Q (b ++ a) st') : wpS (model prog w) A E s (mergeHi' a b) Q st := by
  unfold wpS
  show wpAny _ _ (mergeHi' a b st) _ _ _
  wp_delta
  wp_delta
  change wpS (model prog w) A E s _ Q st
  refine wpS_bind (wpS_lift (wpAny_rule ⟨rfl, ?_⟩))
  dsimp only
  refine wpS_bind ?_
  show wpS _ _ _ _ (elem' a (a.size - 1)) _ _
  obtain ⟨x0, ex0, mx0⟩ := elem_at (a := a) (i := a.size - 1) (by lia)
  obtain ⟨b0, eb0, mb0⟩ := elem_at (a := b) (i := b.size - 1) (by lia)
  refine wpS_elem ex0 ?_
  have ini : #[x0].reverse = (a.extract (a.size - 1) a.size).reverse := by
    rw [← rev_push a ex0, show a.size - 1 + 1 = a.size by lia]; simp
  have ini' : #[x0] = (a.extract (a.size - 1) a.size).reverse := by rw [← ini]; simp
  by_cases ha1 : a.size - 1 = 0
  · rw [if_pos (by simpa using ha1), ini', ha1, rev_all a b 0]
    exact wpS_pure (h st (.refl st))
  rw [if_neg (by simpa using ha1)]
  by_cases hb1 : b.size = 1
  · rw [if_pos (by simpa using hb1), ini', show (b.extract ++ a.extract 0 (a.size - 1) ++ (a.extract (a.size - 1) a.size).reverse.reverse) = b ++ a by
      rw [Array.reverse_reverse, Array.append_assoc, ext_app a _ _ (by lia)]; simp]
    exact wpS_pure (h st (.refl st))
  rw [if_neg (by simpa using hb1), ini']
  refine wpS_bind (wpS_get ?_)
  refine wpS_bind (wpS_mono (wpS_forRange (I := fun x c st' => x = 0 ∧ st' = st ∧ ∃ g, c = (none, a.size - 1, b.size, (a.extract (a.size - 1) a.size).reverse, g)) (Q := fun c st' => SameS st st' ∧ ∃ rest, c = (some (b ++ a), rest)) ?step ?fin ⟨rfl, rfl, _, rfl⟩) ?post)
  case fin => rintro c st' ⟨h0, _⟩; lia
  case post =>
    rintro c st' ⟨hs, rest, rfl⟩
    dsimp only
    exact wpS_pure (h st' hs)
  case step =>
    rintro x c st' _ hx ⟨rfl, rfl, g, rfl⟩
    dsimp only
    refine wpS_bind (wpS_mono (wpS_forRange (I := fun x c st'' => st'' = st' ∧ ∃ na ac bc, c = (none, na, b.size, (a.extract na a.size).reverse, ac, bc) ∧ 1 ≤ na ∧ na < a.size)
      (Q := fun c st'' => st'' = st' ∧ ((∃ rest, c = (some (b ++ a), rest)) ∨ (∃ na ac bc, c = (none, na, b.size, (a.extract na a.size).reverse, ac, bc) ∧ 1 ≤ na ∧ na < a.size))) ?step2 ?fin2 ⟨rfl, a.size - 1, 0, 0, rfl, by lia, by lia⟩) ?post2)
    case fin2 => rintro c st'' ⟨e, hh⟩; exact ⟨e, .inr hh⟩
    case step2 =>
      rintro x c st'' _ hx' ⟨rfl, na, ac, bc, rfl, i1, i2⟩
      dsimp only
      obtain ⟨na, rfl⟩ : ∃ k, na = k + 1 := ⟨na - 1, by lia⟩
      rw [show na + 1 - 1 = na by lia]
      obtain ⟨ax, ea, ma⟩ := elem_at (a := a) (i := na) (by lia)
      refine wpS_bind ?_
      show wpS _ _ _ _ (elem' b (b.size - 1)) _ _
      refine wpS_elem eb0 ?_
      refine wpS_bind ?_
      show wpS _ _ _ _ (elem' a na) _ _
      refine wpS_elem ea ?_
      refine wpS_bind ?_
      show wpS _ _ _ _ (lt' b0 ax) _ _
      refine C b0 ax _ _ (hb _ mb0) (ha _ ma) hkd ?_
      simp only [hlt _ mb0 _ ma, decide_true, if_true]
      refine wpS_bind ?_
      show wpS _ _ _ _ (elem' a na) _ _
      refine wpS_elem ea ?_
      rw [rev_push a ea]
      by_cases h1 : na = 0
      · subst h1
        rw [if_pos (c := (0 == 0) = true) rfl, rev_all a b 0]
        exact wpS_pure ⟨rfl, .inl ⟨_, rfl⟩⟩
      · rw [if_neg (by simpa using h1)]
        refine wpS_ite (fun _ => ?_) (fun _ => ?_)
        · exact wpS_pure ⟨rfl, .inr ⟨_, _, _, rfl, by lia, by lia⟩⟩
        · exact wpS_pure ⟨rfl, _, _, _, rfl, by lia, by lia⟩
    case post2 =>
      rintro c st'' ⟨rfl, ⟨rest, rfl⟩ | ⟨na, ac, bc, rfl, i1, i2⟩⟩
      · dsimp only
        exact wpS_pure ⟨.refl _, _, rfl⟩
      · dsimp only
        refine wpS_bind (wpS_lift (wpAny_rule ⟨rfl, ?_⟩))
        refine wpS_bind (wpS_mono (wpS_forRange (I := fun x c st' => x = 0 ∧ st' = st'' ∧ ∃ g, c = (none, na, b.size, (a.extract na a.size).reverse, g)) (Q := fun c st' => SameS st'' st' ∧ ∃ rest, c = (some (b ++ a), rest)) ?step3 ?fin3 ⟨rfl, rfl, _, rfl⟩) ?post3)
        case fin3 => rintro c st' ⟨h0, _⟩; lia
        case post3 =>
          rintro c st' ⟨hs, rest, rfl⟩
          dsimp only
          exact wpS_pure ⟨hs, _, rfl⟩
        case step3 =>
          rintro x c st' _ hx' ⟨rfl, rfl, g, rfl⟩
          dsimp only
          have go : ∀ (st3 : SortSt) (R : Option Nat → SortSt → Prop), SameS st' st3 → R (some 0) st3 → wpS (model prog w) A E s (gallop' false b0 a 0 na (na - 1)) R st3 := fun st3 R hs hR =>
            wpS_gallop C (hs.1.trans hkd) (hb _ mb0) (k0 := 0) (fun i hi => by
              obtain ⟨y, ey, my⟩ := elem_at (a := a) (i := 0 + i) (by lia)
              exact ⟨y, ey, ha _ my, by simp [hlt _ mb0 _ my]⟩) (by lia) (by lia) hR
          refine wpS_if2 ?ba ?bb
          generalize g.fst - 1 = ga
          revert ga
          refine id ?all
          case bb => exact id ?all g.fst
          case all =>
            intro v
            refine wpS_bind ?_
            show wpS _ _ _ _ (setMinGallop' _) _ _
            rw [setMinGallop'_eq]
            refine wpS_modify ?_
            refine wpS_bind ?_
            show wpS _ _ _ _ (elem' b (b.size - 1)) _ _
            refine wpS_elem eb0 ?_
            refine wpS_bind ?_
            show wpS _ _ _ _ (gallop' false b0 a 0 na (na - 1)) _ _
            refine go _ _ (.gal _ _) ?_
            dsimp only
            rw [if_pos (by lia), if_pos (c := (0 == 0) = true) rfl, rev_app a na (by lia), rev_all a b 0]
            exact wpS_pure ⟨.gal _ _, _, rfl⟩
end
end Mine
end

section
namespace Mine
section arrs
variable {α : Type}
/-- the pieces from u to v and from v to e change places -/
noncomputable def rot (xs : Array α) (u v e : Nat) : Array α := xs.extract 0 u ++ xs.extract v e ++ xs.extract u v ++ xs.extract e xs.size
theorem rot_perm (xs : Array α) {u v e : Nat} (h1 : u ≤ v) (h2 : v ≤ e) (h3 : e ≤ xs.size) : (rot xs u v e).Perm xs := by
  have e0 : xs.extract 0 u ++ (xs.extract u v ++ xs.extract v e) ++ xs.extract e xs.size = xs := by
    have a1 : xs.extract u v ++ xs.extract v e = xs.extract u e := by rw [Array.extract_append_extract]; congr 1 <;> lia
    rw [a1, ext_app xs _ _ (by lia), ext_app xs _ _ (by lia), ext_all xs _ (by lia)]
  refine Array.Perm.trans ?_ (Array.Perm.of_eq e0)
  unfold rot
  rw [Array.append_assoc (xs := xs.extract 0 u)]
  rw [Array.perm_iff_toList_perm]
  simp only [Array.toList_append]
  exact List.Perm.append (List.Perm.append (.refl _) List.perm_append_comm) (.refl _)
theorem rot_size (xs : Array α) {u v e : Nat} (h1 : u ≤ v) (h2 : v ≤ e) (h3 : e ≤ xs.size) : (rot xs u v e).size = xs.size := (rot_perm xs h1 h2 h3).size_eq
theorem rot_get (xs : Array α) {u v e : Nat} (h1 : u ≤ v) (h2 : v ≤ e) (h3 : e ≤ xs.size) (k : Nat) :
    (rot xs u v e)[k]? = if k < u then xs[k]? else if k < u + (e - v) then xs[k - u + v]? else if k < e then xs[k - (e - v)]? else xs[k]? := by
  unfold rot
  simp only [Array.getElem?_append, Array.size_append, Array.size_extract, Array.getElem?_extract]
  repeat' split
  all_goals first | (exfalso; lia) | rfl | (congr 1; lia) | skip
  all_goals (rw [Array.getElem?_eq_none (by lia)])
theorem fold_get : ∀ (l : List α) (xs : Array α) (u d : Nat) (k : Nat), u + d + l.length ≤ xs.size →
    ((l.zipIdx d).foldl (fun a (p : α × Nat) => a.setIfInBounds (u + p.2) p.1) xs)[k]? = if u + d ≤ k ∧ k < u + d + l.length then l[k - (u + d)]? else xs[k]?
  | [], xs, u, d, k, h => by
    simp only [List.zipIdx_nil, List.foldl_nil, List.length_nil]
    rw [if_neg (by lia)]
  | x :: l, xs, u, d, k, h => by
    simp only [List.length_cons] at h
    simp only [List.zipIdx_cons, List.foldl_cons]
    rw [fold_get l _ u (d + 1) k (by simp; lia)]
    simp only [List.length_cons]
    rw [Array.getElem?_setIfInBounds]
    repeat' split
    all_goals first | (exfalso; lia) | skip
    · rw [show k - (u + d) = (k - (u + (d + 1))) + 1 by lia, List.getElem?_cons_succ]
    · rename_i h1 h2 h3 h4
      rw [show k - (u + d) = 0 by lia]; rfl
    · rfl
theorem fold_rot (xs : Array α) {u v e : Nat} (h1 : u ≤ v) (h2 : v ≤ e) (h3 : e ≤ xs.size) :
    (((xs.extract v e ++ xs.extract u v).toList.zipIdx).foldl (fun a (p : α × Nat) => a.setIfInBounds (u + p.2) p.1) xs) = rot xs u v e := by
  apply Array.ext_getElem?
  intro k
  have hl : (xs.extract v e ++ xs.extract u v).toList.length = e - u := by simp; lia
  have := fold_get (xs.extract v e ++ xs.extract u v).toList xs u 0 k (by rw [hl]; lia)
  rw [this, rot_get xs h1 h2 h3, hl]
  simp only [Array.getElem?_toList, Array.getElem?_append, Array.size_extract, Array.getElem?_extract]
  repeat' split
  all_goals first | (exfalso; lia) | rfl | (congr 1; lia) | skip
end arrs
theorem thr (f : Nat → Int) (c : Int) : ∀ n, (∀ i j, i < j → j < n → f i < f j) → ∃ k, k ≤ n ∧ ∀ i, i < n → (f i < c ↔ i < k)
  | 0, _ => ⟨0, Nat.le_refl _, fun i hi => by lia⟩
  | n + 1, hm => by
    obtain ⟨k, hk, h⟩ := thr f c n (fun i j a b => hm i j a (by lia))
    by_cases hc : f n < c
    · refine ⟨n + 1, Nat.le_refl _, fun i hi => ⟨fun _ => hi, fun _ => ?_⟩⟩
      by_cases e : i = n
      · subst e; exact hc
      · exact Int.lt_trans (hm i n (by lia) (by lia)) hc
    · refine ⟨k, by lia, fun i hi => ?_⟩
      by_cases e : i = n
      · subst e; exact ⟨fun x => absurd x hc, fun x => by lia⟩
      · exact h i (by lia)
theorem Kx_rot {κ : Keyed → Int} (xs : Array Keyed) {u v e : Nat} (h1 : u ≤ v) (h2 : v ≤ e) (h3 : e ≤ xs.size) (k : Nat) :
    Kx κ (rot xs u v e) k = if k < u then Kx κ xs k else if k < u + (e - v) then Kx κ xs (k - u + v) else if k < e then Kx κ xs (k - (e - v)) else Kx κ xs k := by
  have g := rot_get xs h1 h2 h3 k
  by_cases c1 : k < u
  · rw [if_pos c1] at g ⊢; exact Kx_congr g
  · rw [if_neg c1] at g ⊢
    by_cases c2 : k < u + (e - v)
    · rw [if_pos c2] at g ⊢; exact Kx_congr g
    · rw [if_neg c2] at g ⊢
      by_cases c3 : k < e
      · rw [if_pos c3] at g ⊢; exact Kx_congr g
      · rw [if_neg c3] at g ⊢; exact Kx_congr g
theorem seg_rot (xs : Array Keyed) {u v e : Nat} (h1 : u ≤ v) (h2 : v ≤ e) (h3 : e ≤ xs.size) : SegMap xs (rot xs u v e) u e := by
  refine ⟨rot_size xs h1 h2 h3, fun k hk => ?_, fun k k1 k2 => ?_⟩
  · rw [rot_get xs h1 h2 h3]
    repeat' split
    all_goals first | (exfalso; lia) | rfl
  · rw [rot_get xs h1 h2 h3]
    by_cases c : k < u + (e - v)
    · exact ⟨k - u + v, by lia, by lia, by rw [if_neg (by lia), if_pos c]⟩
    · exact ⟨k - (e - v), by lia, by lia, by rw [if_neg (by lia), if_neg c, if_pos k2]⟩
theorem mem_ext {xs : Array Keyed} {u v : Nat} {x : Keyed} (h : x ∈ (xs.extract u v).toList) : ∃ k, u ≤ k ∧ k < v ∧ xs[k]? = some x := by
  rw [Array.mem_toList_iff, Array.mem_iff_getElem?] at h
  obtain ⟨i, hi⟩ := h
  rw [Array.getElem?_extract] at hi
  split at hi
  · exact ⟨u + i, by lia, by lia, hi⟩
  · cases hi
section
variable {prog : Program} {w : World} {A : Around} {E : Value → Shared → Prop} {s : Shared} {a₀ : Array Keyed} {κ : Keyed → Int} {kd : SortKind}
theorem SB.mem_at {st : SortSt} (h : SB kd a₀ st) {x : Keyed} {k : Nat} (e : (arrOf st)[k]? = some x) : x ∈ a₀.toList := by
  refine (Array.perm_iff_toList_perm.mp h.perm).mem_iff.mp ?_
  rw [Array.mem_toList_iff, Array.mem_iff_getElem?]
  exact ⟨k, e⟩
theorem SB.same {st st' : SortSt} (h : SB kd a₀ st) (e : SameS st st') : SB kd a₀ st' := ⟨by rw [e.2.1]; exact h.perm, e.1.trans h.kind, e.2.2.2.trans h.failed⟩
theorem wpS_mergeAt (C : CmpOk prog w A E s kd κ a₀) (D : Dist κ a₀) {st : SortSt} {i sa na pa sb nb pb : Nat} {Q : Bool → SortSt → Prop} (hB : SB kd a₀ st)
    (e1 : (pendingOf st)[i]? = some (sa, na, pa)) (e2 : (pendingOf st)[i + 1]? = some (sb, nb, pb)) (hs : sb = sa + na) (ha : 1 ≤ na) (hb : 1 ≤ nb) (hn : sb + nb ≤ a₀.size)
    (A1 : Asc κ (arrOf st) sa sb) (A2 : Asc κ (arrOf st) sb (sb + nb))
    (N : ∀ i, sa ≤ i → i < sb → (∀ j, sb ≤ j → j < sb + nb → Kx κ (arrOf st) i < Kx κ (arrOf st) j) ∨ (∀ j, sb ≤ j → j < sb + nb → Kx κ (arrOf st) j < Kx κ (arrOf st) i))
    (h : ∀ st', SB kd a₀ st' → pendingOf st' = ((pendingOf st).setIfInBounds i (sa, na + nb, pa)).eraseIdxIfInBounds (i + 1) → Asc κ (arrOf st') sa (sb + nb) → SegMap (arrOf st) (arrOf st') sa (sb + nb) → Q true st') :
    wpS (model prog w) A E s (mergeAt' i) Q st := by
  unfold wpS
  show wpAny _ _ (mergeAt' i st) _ _ _
  wp_delta
  wp_delta
  change wpS (model prog w) A E s _ Q st
  refine wpS_bind (wpS_get ?_)
  rw [e1, e2]
  dsimp only
  have hsz : sb + nb ≤ (arrOf st).size := by rw [hB.size]; exact hn
  refine wpS_bind ?_
  show wpS _ _ _ _ (set (SortSt.mk' (kindOf st) (arrOf st) (((pendingOf st).setIfInBounds i (sa, na + nb, pa)).eraseIdxIfInBounds (i + 1)) (gallopOf st) (failedOf st)) : StateT SortSt Sem PUnit) _ _
  generalize hst1 : SortSt.mk' (kindOf st) (arrOf st) (((pendingOf st).setIfInBounds i (sa, na + nb, pa)).eraseIdxIfInBounds (i + 1)) (gallopOf st) (failedOf st) = st1
  have hB1 : SB kd a₀ st1 := by subst hst1; exact ⟨hB.perm, hB.kind, hB.failed⟩
  have ar1 : arrOf st1 = arrOf st := by subst hst1; rfl
  have pe1 : pendingOf st1 = ((pendingOf st).setIfInBounds i (sa, na + nb, pa)).eraseIdxIfInBounds (i + 1) := by subst hst1; rfl
  unfold wpS
  rw [StateT.run_set]
  refine wpAny_pure ⟨rfl, ?_⟩
  obtain ⟨y0, ey0, my0⟩ := elem_at (a := arrOf st) (i := sb) (by lia)
  have Ky0 : Kx κ (arrOf st) sb = κ y0 := by unfold Kx; rw [ey0]
  have Kat : ∀ {k x}, (arrOf st)[k]? = some x → Kx κ (arrOf st) k = κ x := fun {k x} e => by unfold Kx; rw [e]
  refine wpS_bind ?_
  show wpS _ _ _ _ (elem' (arrOf st) sb) _ _
  refine wpS_elem ey0 ?_
  obtain ⟨k0, hk0, hthr⟩ := thr (fun i => Kx κ (arrOf st) (sa + i)) (κ y0) na (fun i j a b => A1 _ _ (by lia) (by lia) (by lia))
  have low : ∀ t, sa ≤ t → t < sa + k0 → ∀ j, sb ≤ j → j < sb + nb → Kx κ (arrOf st) t < Kx κ (arrOf st) j := fun t t1 t2 => by
    have h1 : Kx κ (arrOf st) t < κ y0 := by
      have := (hthr (t - sa) (by lia)).2 (by lia)
      simpa [show sa + (t - sa) = t by lia] using this
    rcases N t t1 (by lia) with hl | hr
    · exact hl
    · exact absurd (hr sb (Nat.le_refl _) (by lia)) (by lia)
  have high : ∀ t, sa + k0 ≤ t → t < sb → ∀ j, sb ≤ j → j < sb + nb → Kx κ (arrOf st) j < Kx κ (arrOf st) t := fun t t1 t2 => by
    have h1 : ¬ Kx κ (arrOf st) t < κ y0 := fun c => by
      have := (hthr (t - sa) (by lia)).1 (by simpa [show sa + (t - sa) = t by lia] using c)
      lia
    rcases N t (by lia) (by lia) with hl | hr
    · exact absurd (hl sb (Nat.le_refl _) (by lia)) (by lia)
    · exact hr
  have ne0 : ∀ t, sa ≤ t → t < sb → Kx κ (arrOf st) t ≠ κ y0 := fun t t1 t2 => by
    rw [← Ky0]; exact D.ne hB (by lia) (by lia) (by lia)
  refine wpS_bind ?_
  show wpS _ _ _ _ (gallop' false y0 (arrOf st) sa na 0) _ _
  refine wpS_gallop C hB1.kind (hB.mem_at ey0) (k0 := k0) (fun t ht => ?_) (by lia) hk0 ?_
  · obtain ⟨x, ex, mx⟩ := elem_at (a := arrOf st) (i := sa + t) (by lia)
    refine ⟨x, ex, hB.mem_at ex, ?_⟩
    have h1 := hthr t ht
    have h2 := ne0 (sa + t) (by lia) (by lia)
    simp only [Kat ex] at h1 h2
    simp only [Bool.false_eq_true, if_false]
    by_cases c : t < k0
    · have := h1.2 c
      simp only [c, decide_true]
      simp; lia
    · have : ¬ κ x < κ y0 := fun d => c (h1.1 d)
      simp only [c, decide_false]
      simp; lia
  dsimp only
  by_cases hz : na - k0 = 0
  · rw [if_pos (by simpa using hz)]
    refine wpS_pure (h st1 hB1 pe1 ?_ (by rw [ar1]; exact .refl _ _ _))
    rw [ar1]
    intro u v u1 u2 u3
    by_cases c1 : v < sb
    · exact A1 u v u1 u2 c1
    · by_cases c2 : sb ≤ u
      · exact A2 u v c2 u2 u3
      · exact low u u1 (by lia) v (by lia) u3
  rw [if_neg (by simpa using hz)]
  rw [show sa + k0 + (na - k0) - 1 = sb - 1 by lia]
  obtain ⟨x0, ex0, mx0⟩ := elem_at (a := arrOf st) (i := sb - 1) (by lia)
  refine wpS_bind ?_
  show wpS _ _ _ _ (elem' (arrOf st) (sb - 1)) _ _
  refine wpS_elem ex0 ?_
  refine wpS_bind ?_
  show wpS _ _ _ _ (gallop' true x0 (arrOf st) sb nb (nb - 1)) _ _
  refine wpS_gallop C hB1.kind (hB.mem_at ex0) (k0 := nb) (fun t ht => ?_) (by lia) (Nat.le_refl _) ?_
  · obtain ⟨x, ex, mx⟩ := elem_at (a := arrOf st) (i := sb + t) (by lia)
    refine ⟨x, ex, hB.mem_at ex, ?_⟩
    have := high (sb - 1) (by lia) (by lia) (sb + t) (by lia) (by lia)
    rw [Kat ex, Kat ex0] at this
    simp [this, ht]
  dsimp only
  rw [if_neg (by simp; lia)]
  have sx : 0 < ((arrOf st).extract (sa + k0) sb).size := by simp; lia
  have sy : 0 < ((arrOf st).extract sb (sb + nb)).size := by simp; lia
  have mx : ∀ x ∈ ((arrOf st).extract (sa + k0) sb).toList, x ∈ a₀.toList := fun x hx => by
    obtain ⟨k, _, _, e⟩ := mem_ext hx
    exact hB.mem_at e
  have my : ∀ x ∈ ((arrOf st).extract sb (sb + nb)).toList, x ∈ a₀.toList := fun x hx => by
    obtain ⟨k, _, _, e⟩ := mem_ext hx
    exact hB.mem_at e
  have mxy : ∀ y ∈ ((arrOf st).extract sb (sb + nb)).toList, ∀ x ∈ ((arrOf st).extract (sa + k0) sb).toList, κ y < κ x := fun y hy x hx => by
    obtain ⟨j, j1, j2, ej⟩ := mem_ext hy
    obtain ⟨t, t1, t2, et⟩ := mem_ext hx
    rw [← Kat ej, ← Kat et]
    exact high t t1 t2 j j1 j2
  have post : ∀ st2, SameS st1 st2 → wpS (model prog w) A E s (do
      modify fun s => setArr s (((arrOf st).extract sb (sb + nb) ++ (arrOf st).extract (sa + k0) sb).toList.zipIdx.foldl (fun a (p : Keyed × Nat) => a.setIfInBounds (sa + k0 + p.2) p.1) (arrOf s))
      let s ← get
      pure (failedOf s).isNone) Q st2 := fun st2 hs2 => by
    have hB2 := hB1.same hs2
    have ar2 : arrOf st2 = arrOf st := hs2.2.1.trans ar1
    refine wpS_bind (wpS_modify (wpS_bind (wpS_get ?_)))
    rw [ar2, fold_rot (arrOf st) (by lia) (by lia) hsz]
    have hf : (failedOf (setArr st2 (rot (arrOf st) (sa + k0) sb (sb + nb)))).isNone = true := by
      show (failedOf st2).isNone = true
      rw [hB2.failed]; rfl
    rw [hf]
    refine wpS_pure (h _ (hB2.set (by rw [ar2]; exact rot_perm (arrOf st) (by lia) (by lia) hsz)) (hs2.2.2.1.trans pe1) ?_ ((seg_rot (arrOf st) (by lia) (by lia) hsz).mono (by lia) (Nat.le_refl _)))
    intro u v u1 u2 u3
    show Kx κ (rot (arrOf st) (sa + k0) sb (sb + nb)) u < Kx κ (rot (arrOf st) (sa + k0) sb (sb + nb)) v
    rw [Kx_rot (arrOf st) (by lia) (by lia) hsz, Kx_rot (arrOf st) (by lia) (by lia) hsz]
    repeat' split
    all_goals first
      | (exfalso; lia)
      | exact A1 _ _ (by lia) (by lia) (by lia)
      | exact A2 _ _ (by lia) (by lia) (by lia)
      | exact low _ (by lia) (by lia) _ (by lia) (by lia)
      | exact high _ (by lia) (by lia) _ (by lia) (by lia)
  refine wpS_ite (fun _ => ?_) (fun _ => ?_)
  · refine wpS_bind ?_
    show wpS _ _ _ _ (mergeLo' ((arrOf st).extract (sa + k0) sb) ((arrOf st).extract sb (sb + nb))) _ _
    exact wpS_mergeLo C hB1.kind mx my mxy sx sy post
  · refine wpS_bind ?_
    show wpS _ _ _ _ (mergeHi' ((arrOf st).extract (sa + k0) sb) ((arrOf st).extract sb (sb + nb))) _ _
    exact wpS_mergeHi C hB1.kind mx my mxy sx sy post
end
end Mine
end

section
namespace Mine
/-- what lies before p lies below or above all from p on -/
noncomputable def Nst (κ : Keyed → Int) (xs : Array Keyed) (n p : Nat) : Prop :=
  ∀ i, i < p → i < n → (∀ j, p ≤ j → j < n → Kx κ xs i < Kx κ xs j) ∨ (∀ j, p ≤ j → j < n → Kx κ xs j < Kx κ xs i)
theorem SegMap.src {xs xs' : Array Keyed} {u v : Nat} (S : SegMap xs xs' u v) (κ : Keyed → Int) (i : Nat) : ∃ j, Kx κ xs' i = Kx κ xs j ∧ ((i < u ∨ v ≤ i) → j = i) ∧ (u ≤ i → i < v → u ≤ j ∧ j < v) := by
  by_cases c : u ≤ i ∧ i < v
  · obtain ⟨j, j1, j2, e⟩ := S.2.2 i c.1 c.2
    exact ⟨j, Kx_congr e, fun hh => by lia, fun _ _ => ⟨j1, j2⟩⟩
  · exact ⟨i, Kx_congr (S.2.1 i (by lia)), fun _ => rfl, fun a b => by lia⟩
theorem Nst.seg {κ : Keyed → Int} {xs xs' : Array Keyed} {n p u v : Nat} (h : Nst κ xs n p) (S : SegMap xs xs' u v) (hv : v ≤ n) (hp : p ≤ u ∨ v ≤ p) : Nst κ xs' n p := by
  intro i hi hin
  obtain ⟨i0, e, s1, s2⟩ := S.src κ i
  have hi0 : i0 < p ∧ i0 < n := by
    by_cases c : u ≤ i ∧ i < v
    · have := s2 c.1 c.2; lia
    · have := s1 (by lia); lia
  have tr : ∀ j, p ≤ j → j < n → ∃ j0, Kx κ xs' j = Kx κ xs j0 ∧ p ≤ j0 ∧ j0 < n := fun j h1 h2 => by
    obtain ⟨j0, e', t1, t2⟩ := S.src κ j
    refine ⟨j0, e', ?_⟩
    by_cases c : u ≤ j ∧ j < v
    · have := t2 c.1 c.2; lia
    · have := t1 (by lia); lia
  rcases h i0 hi0.1 hi0.2 with hl | hr
  · left; intro j h1 h2
    obtain ⟨j0, e', k1, k2⟩ := tr j h1 h2
    rw [e, e']; exact hl j0 k1 k2
  · right; intro j h1 h2
    obtain ⟨j0, e', k1, k2⟩ := tr j h1 h2
    rw [e, e']; exact hr j0 k1 k2
theorem Asc.seg {κ : Keyed → Int} {xs xs' : Array Keyed} {a b u v : Nat} (h : Asc κ xs a b) (S : SegMap xs xs' u v) (hp : b ≤ u ∨ v ≤ a) : Asc κ xs' a b := by
  intro i j h1 h2 h3
  rw [Kx_congr (S.2.1 i (by lia)), Kx_congr (S.2.1 j (by lia))]
  exact h i j h1 h2 h3
noncomputable abbrev Run := Nat × Nat × Nat
noncomputable def Chn (κ : Keyed → Int) (n : Nat) (xs : Array Keyed) : Nat → List Run → Nat → Prop
  | u, [], v => u = v
  | u, x :: l, v => x.1 = u ∧ 1 ≤ x.2.1 ∧ Asc κ xs u (u + x.2.1) ∧ Nst κ xs n u ∧ Chn κ n xs (u + x.2.1) l v
section
variable {κ : Keyed → Int} {n : Nat} {xs xs' : Array Keyed}
theorem Chn.le : ∀ {l : List Run} {u v : Nat}, Chn κ n xs u l v → u + l.length ≤ v
  | [], u, v, h => by simp only [Chn] at h; simp; lia
  | x :: l, u, v, h => by
    have := Chn.le h.2.2.2.2
    have := h.2.1
    simp only [List.length_cons]; lia
theorem Chn.seg {a b : Nat} (S : SegMap xs xs' a b) (hb : b ≤ n) : ∀ {l : List Run} {u v : Nat}, Chn κ n xs u l v → (b ≤ u ∨ v ≤ a) → Chn κ n xs' u l v
  | [], u, v, h, hp => h
  | x :: l, u, v, h, hp => by
    have h1 := Chn.le h.2.2.2.2
    have h2 := h.2.1
    exact ⟨h.1, h.2.1, h.2.2.1.seg S (by lia), h.2.2.2.1.seg S hb (by lia), Chn.seg S hb h.2.2.2.2 (by lia)⟩
theorem Chn.app : ∀ {l1 l2 : List Run} {u v : Nat}, Chn κ n xs u (l1 ++ l2) v ↔ ∃ m, Chn κ n xs u l1 m ∧ Chn κ n xs m l2 v
  | [], l2, u, v => by
    simp only [List.nil_append, Chn]
    exact ⟨fun h => ⟨u, rfl, h⟩, fun ⟨m, e, h⟩ => by subst e; exact h⟩
  | x :: l1, l2, u, v => by
    simp only [List.cons_append, Chn]
    constructor
    · rintro ⟨a, b, c, d, e⟩
      obtain ⟨m, h1, h2⟩ := Chn.app.1 e
      exact ⟨m, ⟨a, b, c, d, h1⟩, h2⟩
    · rintro ⟨m, ⟨a, b, c, d, h1⟩, h2⟩
      exact ⟨a, b, c, d, Chn.app.2 ⟨m, h1, h2⟩⟩
theorem Chn.congr : ∀ {l l' : List Run} {u v : Nat}, l.map (fun x => (x.1, x.2.1)) = l'.map (fun x => (x.1, x.2.1)) → Chn κ n xs u l v → Chn κ n xs u l' v
  | [], [], u, v, _, h => h
  | [], y :: l', u, v, e, h => by simp at e
  | x :: l, [], u, v, e, h => by simp at e
  | x :: l, y :: l', u, v, e, h => by
    simp only [List.map_cons, List.cons.injEq, Prod.mk.injEq] at e
    obtain ⟨⟨e1, e2⟩, e3⟩ := e
    simp only [Chn] at h ⊢
    rw [← e1, ← e2]
    exact ⟨h.1, h.2.1, h.2.2.1, h.2.2.2.1, Chn.congr e3 h.2.2.2.2⟩
end
theorem arr_two {p : Array Run} {i : Nat} (h : i + 1 < p.size) : ∃ l1 x y l2, p.toList = l1 ++ x :: y :: l2 ∧ l1.length = i ∧ p[i]? = some x ∧ p[i + 1]? = some y := by
  refine ⟨p.toList.take i, p[i], p[i + 1], p.toList.drop (i + 2), ?_, by simp; lia, getElem?_pos p i (by lia), getElem?_pos p (i + 1) h⟩
  have h1 : i < p.toList.length := by simp; lia
  have h2 : i + 1 < p.toList.length := by simpa using h
  conv => lhs; rw [← List.take_append_drop i p.toList, List.drop_eq_getElem_cons h1, List.drop_eq_getElem_cons h2]
  simp
theorem arr_merge {p : Array Run} {i : Nat} {l1 l2 : List Run} {x y z : Run} (e : p.toList = l1 ++ x :: y :: l2) (hl : l1.length = i) :
    ((p.setIfInBounds i z).eraseIdxIfInBounds (i + 1)).toList = l1 ++ z :: l2 := by
  subst hl
  have hs : l1.length + 1 < p.size := by
    have := congrArg List.length e
    simp at this; lia
  rw [Array.eraseIdxIfInBounds]
  rw [dif_pos (by simpa using hs)]
  rw [Array.toList_eraseIdx, Array.toList_setIfInBounds, e]
  simp [List.set_append, List.eraseIdx_append]
  intro h; lia
section
variable {prog : Program} {w : World} {A : Around} {E : Value → Shared → Prop} {s : Shared} {a₀ : Array Keyed} {κ : Keyed → Int} {kd : SortKind}
/-- merging two neighbours of the chain -/
theorem wpS_mergeChn (C : CmpOk prog w A E s kd κ a₀) (D : Dist κ a₀) {st : SortSt} {i lo : Nat} {Q : Bool → SortSt → Prop} (hB : SB kd a₀ st) (hlo : lo ≤ a₀.size) (hi : i + 1 < (pendingOf st).size)
    (hc : Chn κ a₀.size (arrOf st) 0 (pendingOf st).toList lo)
    (h : ∀ st', SB kd a₀ st' → Chn κ a₀.size (arrOf st') 0 (pendingOf st').toList lo → (pendingOf st').size + 1 = (pendingOf st).size → SegMap (arrOf st) (arrOf st') 0 lo → Q true st') :
    wpS (model prog w) A E s (mergeAt' i) Q st := by
  obtain ⟨l1, x, y, l2, e, hl, e1, e2⟩ := arr_two hi
  rw [e] at hc
  obtain ⟨m, c1, c2⟩ := Chn.app.1 hc
  obtain ⟨sa, na, pa⟩ := x
  obtain ⟨sb, nb, pb⟩ := y
  obtain ⟨x1, x2, x3, x4, y1, y2, y3, y4, c3⟩ := c2
  simp only at x1 x2 x3 x4 y1 y2 y3 y4 c3
  subst x1
  have l3 := Chn.le c3
  refine wpS_mergeAt C D hB e1 e2 y1 x2 y2 (by lia) (by rw [y1]; exact x3) (by rw [y1]; exact y3) (fun i h1 h2 => ?_) fun st' hB' hp' hA' hS' => ?_
  · rcases y4 i (by lia) (by lia) with hl | hr
    · left; exact fun j j1 j2 => hl j (by lia) (by lia)
    · right; exact fun j j1 j2 => hr j (by lia) (by lia)
  · have hpl := arr_merge (z := (sa, na + nb, pa)) e hl
    rw [← hp'] at hpl
    have hS2 : SegMap (arrOf st) (arrOf st') sa (sa + (na + nb)) := by rw [← Nat.add_assoc, ← y1]; exact hS'
    have hA2 : Asc κ (arrOf st') sa (sa + (na + nb)) := by rw [← Nat.add_assoc, ← y1]; exact hA'
    refine h st' hB' ?_ ?_ (hS2.mono (by lia) (by lia))
    · rw [hpl]
      refine Chn.app.2 ⟨sa, c1.seg hS2 (by lia) (by lia), rfl, (show 1 ≤ na + nb by lia), hA2, x4.seg hS2 (by lia) (by lia), ?_⟩
      show Chn _ _ _ (sa + (na + nb)) l2 lo
      rw [← Nat.add_assoc, ← y1] at hS2 ⊢
      rw [y1]
      rw [y1] at hS2
      exact c3.seg hS2 (by lia) (by lia)
    · have h1 := congrArg List.length hpl
      have h2 := congrArg List.length e
      simp at h1 h2
      lia
theorem wpS_sortRuns2 (C : CmpOk prog w A E s kd κ a₀) (D : Dist κ a₀) {st : SortSt} {Q : Unit → SortSt → Prop} (hB : SB kd a₀ st) (hp : pendingOf st = #[]) (h1 : 1 ≤ a₀.size)
    (N : ∀ q, Nst κ (arrOf st) a₀.size q) (h : ∀ st', SB kd a₀ st' → Asc κ (arrOf st') 0 a₀.size → Q () st') : wpS (model prog w) A E s sortRuns' Q st := by
  rw [sortRuns'_eq]
  refine wpS_bind (wpS_get ?_)
  dsimp only
  rw [hB.size]
  generalize minRun' a₀.size a₀.size 0 = mr
  refine wpS_bind (wpS_mono (wpS_forRange
    (I := fun x c st' => ∃ lo, c = (none, lo) ∧ lo ≤ a₀.size ∧ (x ≤ lo ∨ lo = a₀.size) ∧ SB kd a₀ st' ∧ Chn κ a₀.size (arrOf st') 0 (pendingOf st').toList lo ∧ ∀ q, lo ≤ q → Nst κ (arrOf st') a₀.size q)
    (Q := fun c st' => c = (none, a₀.size) ∧ SB kd a₀ st' ∧ Chn κ a₀.size (arrOf st') 0 (pendingOf st').toList a₀.size) ?step ?fin ?init) ?post)
  case init => exact ⟨0, rfl, by lia, .inl (by lia), hB, by rw [hp]; rfl, fun q _ => N q⟩
  case fin =>
    rintro c st' ⟨lo, rfl, l1, l2, hB', hc, _⟩
    have : lo = a₀.size := by lia
    subst this
    exact ⟨rfl, hB', hc⟩
  case step =>
    rintro x c st' _ hx ⟨lo, rfl, l1, l2, hB', hc, hN⟩
    dsimp only
    refine wpS_ite (fun hge => ?_) (fun hlt => ?_)
    · have : lo = a₀.size := by lia
      subst this
      exact wpS_pure ⟨rfl, hB', hc⟩
    refine wpS_bind (wpS_countRun2 C D hB' (by lia) (by lia) fun n st2 hB2 hp2 n1 n2 hA hS => ?_)
    have F2 : SB kd a₀ st2 ∧ 1 ≤ n ∧ lo + n ≤ a₀.size ∧ Asc κ (arrOf st2) lo (lo + n) ∧ Nst κ (arrOf st2) a₀.size lo ∧ (∀ q, lo + n ≤ q → Nst κ (arrOf st2) a₀.size q) ∧ Chn κ a₀.size (arrOf st2) 0 (pendingOf st2).toList lo :=
      ⟨hB2, n1, by lia, hA, (hN lo (Nat.le_refl _)).seg hS (by lia) (.inl (Nat.le_refl _)), fun q hq => (hN q (by lia)).seg hS (by lia) (.inr hq), by rw [hp2]; exact hc.seg hS (by lia) (.inr (Nat.le_refl _))⟩
    dsimp only
    refine wpS_ite (fun hm => ?brA) (fun hm => ?brB)
    case' brA =>
      refine wpS_bind (wpS_lift (wpAny_rule ⟨rfl, ?_⟩))
      refine wpS_bind (wpS_binarySort2 C D hB2 (by lia) (by lia) hA fun st4 hB3 hp3 hA3 hS3 => ?_)
      generalize hn' : min (a₀.size - lo) mr = n4 at hA3 hS3
      have F : SB kd a₀ st4 ∧ 1 ≤ n4 ∧ lo + n4 ≤ a₀.size ∧ Asc κ (arrOf st4) lo (lo + n4) ∧ Nst κ (arrOf st4) a₀.size lo ∧ (∀ q, lo + n4 ≤ q → Nst κ (arrOf st4) a₀.size q) ∧ Chn κ a₀.size (arrOf st4) 0 (pendingOf st4).toList lo :=
        ⟨hB3, by lia, by lia, hA3, F2.2.2.2.2.1.seg hS3 (by lia) (.inl (Nat.le_refl _)), fun q hq => (F2.2.2.2.2.2.1 q (by lia)).seg hS3 (by lia) (.inr hq), by rw [hp3]; exact F2.2.2.2.2.2.2.seg hS3 (by lia) (.inr (Nat.le_refl _))⟩
      clear F2 hB2 hp2 n1 n2 hA hS hB3 hp3 hA3 hS3 hm hn'
      refine wpS_ite (fun hf => by simp at hf) (fun _ => ?_)
    case' brB =>
      obtain ⟨n4, hn4⟩ : ∃ m, m = n := ⟨_, rfl⟩
      obtain ⟨st4, hst4⟩ : ∃ t, t = st2 := ⟨_, rfl⟩
      subst hn4
      subst hst4
      have F := F2
      clear F2 hB2 hp2 n1 n2 hA hS hm
    all_goals
      obtain ⟨hB4, n1, n2, hA4, hN4, hM4, hc4⟩ := F
      refine wpS_bind (wpS_get ?_)
      rcases hb : (pendingOf st4).back? with _ | ⟨s1, m1, pw1⟩
      · dsimp only
        refine wpS_bind (wpS_modify (wpS_pure ⟨lo + n4, rfl, n2, by lia, ⟨hB4.perm, hB4.kind, hB4.failed⟩, ?_, hM4⟩))
        show Chn κ a₀.size (arrOf st4) 0 ((pendingOf st4).push (lo, n4, 0)).toList (lo + n4)
        rw [Array.toList_push]
        exact Chn.app.2 ⟨lo, hc4, rfl, n1, hA4, hN4, rfl⟩
      · dsimp only
        generalize power' a₀.size (2 * s1 + m1) (2 * s1 + m1 + m1 + n4) a₀.size = pw
        refine wpS_bind (wpS_mono (wpS_forRange
          (I := fun x c st5 => c = (none, ()) ∧ SB kd a₀ st5 ∧ Asc κ (arrOf st5) lo (lo + n4) ∧ Nst κ (arrOf st5) a₀.size lo ∧ (∀ q, lo + n4 ≤ q → Nst κ (arrOf st5) a₀.size q) ∧ Chn κ a₀.size (arrOf st5) 0 (pendingOf st5).toList lo)
          (Q := fun c st5 => c = (none, ()) ∧ SB kd a₀ st5 ∧ Asc κ (arrOf st5) lo (lo + n4) ∧ Nst κ (arrOf st5) a₀.size lo ∧ (∀ q, lo + n4 ≤ q → Nst κ (arrOf st5) a₀.size q) ∧ Chn κ a₀.size (arrOf st5) 0 (pendingOf st5).toList lo)
          ?stp (fun _ _ hh => hh) ⟨rfl, hB4, hA4, hN4, hM4, hc4⟩) ?pst)
        case pst =>
          rintro c st5 ⟨rfl, hB5, hA5, hN5, hM5, hc5⟩
          dsimp only
          refine wpS_bind (wpS_modify (wpS_bind (wpS_modify (wpS_pure ⟨lo + n4, rfl, n2, by lia, ⟨hB5.perm, hB5.kind, hB5.failed⟩, ?_, hM5⟩))))
          show Chn κ a₀.size (arrOf st5) 0 (((pendingOf st5).modify ((pendingOf st5).size - 1) fun (x : Run) => (x.1, x.2.1, pw)).push (lo, n4, 0)).toList (lo + n4)
          rw [Array.toList_push]
          refine Chn.app.2 ⟨lo, hc5.congr ?_, rfl, n1, hA5, hN5, rfl⟩
          rw [Array.toList_modify]
          apply List.ext_getElem?
          intro k
          simp only [List.getElem?_map, List.getElem?_modify]
          split <;> cases (pendingOf st5).toList[k]? <;> rfl
        case stp =>
          rintro y c st5 _ hy ⟨rfl, hB5, hA5, hN5, hM5, hc5⟩
          refine wpS_bind (wpS_get ?_)
          by_cases hz : (pendingOf st5).size > 1
          · rw [if_pos hz, getElem?_pos (pendingOf st5) ((pendingOf st5).size - 2) (by lia)]
            dsimp only
            refine wpS_ite (fun _ => wpS_pure ⟨rfl, hB5, hA5, hN5, hM5, hc5⟩) (fun _ => ?_)
            refine wpS_bind (wpS_mergeChn C D hB5 l1 (by lia) hc5 fun st6 hB6 hc6 hz6 hS6 => ?_)
            refine wpS_ite (fun hf => by simp at hf) (fun _ => ?_)
            exact wpS_pure ⟨rfl, hB6, hA5.seg hS6 (.inr (Nat.le_refl _)), hN5.seg hS6 l1 (.inr (Nat.le_refl _)), fun q hq => (hM5 q hq).seg hS6 l1 (.inr (by lia)), hc6⟩
          · rw [if_neg hz]
            exact wpS_pure ⟨rfl, hB5, hA5, hN5, hM5, hc5⟩
  case post =>
    rintro c st' ⟨rfl, hB', hc⟩
    dsimp only
    refine wpS_bind (wpS_mono (wpS_forRange
      (I := fun x c st5 => c = (none, ()) ∧ SB kd a₀ st5 ∧ Chn κ a₀.size (arrOf st5) 0 (pendingOf st5).toList a₀.size ∧ ((pendingOf st5).size ≤ 1 ∨ (pendingOf st5).size + x ≤ a₀.size))
      (Q := fun c st5 => c = (none, ()) ∧ SB kd a₀ st5 ∧ Chn κ a₀.size (arrOf st5) 0 (pendingOf st5).toList a₀.size ∧ (pendingOf st5).size ≤ 1)
      ?stp ?fin ⟨rfl, hB', hc, .inr (by have := Chn.le hc; simpa using this)⟩) ?pst)
    case fin =>
      rintro c st5 ⟨rfl, hB5, hc5, hh⟩
      exact ⟨rfl, hB5, hc5, by lia⟩
    case pst =>
      rintro c st5 ⟨rfl, hB5, hc5, hh⟩
      refine wpS_pure (h st5 hB5 ?_)
      rcases hl : (pendingOf st5).toList with _ | ⟨x, _ | ⟨y, l⟩⟩
      · rw [hl] at hc5
        have : 0 = a₀.size := hc5
        lia
      · rw [hl] at hc5
        obtain ⟨x1, x2, x3, x4, x5⟩ := hc5
        have x5' : 0 + x.2.1 = a₀.size := x5
        rw [← x5']; exact x3
      · have := congrArg List.length hl
        simp at this; lia
    case stp =>
      rintro y c st5 _ hy ⟨rfl, hB5, hc5, hh⟩
      refine wpS_bind (wpS_get ?_)
      refine wpS_ite (fun hz => wpS_pure ⟨rfl, hB5, hc5, hz⟩) (fun hz => ?_)
      refine wpS_bind (wpS_mergeChn C D hB5 (Nat.le_refl _) ?hi hc5 fun st6 hB6 hc6 hz6 hS6 => ?_)
      case hi =>
        repeat' split
        all_goals lia
      refine wpS_ite (fun hf => by simp at hf) (fun _ => ?_)
      exact wpS_pure ⟨rfl, hB6, hc6, by lia⟩
end
end Mine
end

section
namespace Mine
/-- each lies below all later ones or above all later ones -/
noncomputable def NestL : List (Int × Int × Int) → Prop
  | [] => True
  | x :: l => ((∀ y ∈ l, x.1 < y.1) ∨ (∀ y ∈ l, y.1 < x.1)) ∧ NestL l
theorem NestL.nodup : ∀ {l : List (Int × Int × Int)}, NestL l → (l.map (·.1)).Nodup
  | [], _ => by simp
  | x :: l, h => by
    rw [List.map_cons, List.nodup_cons]
    refine ⟨fun hm => ?_, NestL.nodup h.2⟩
    obtain ⟨y, hy, e⟩ := List.mem_map.mp hm
    rcases h.1 with a | a <;> have := a y hy <;> lia
theorem NestL.inj : ∀ {l : List (Int × Int × Int)}, NestL l → ∀ {x y}, x ∈ l → y ∈ l → x.1 = y.1 → x = y
  | [], _, x, y, hx, _, _ => by simp at hx
  | z :: l, h, x, y, hx, hy, e => by
    rcases List.mem_cons.mp hx with kx | kx <;> rcases List.mem_cons.mp hy with ky | ky
    · rw [kx, ky]
    · exfalso; subst kx; rcases h.1 with a | a <;> have := a _ ky <;> lia
    · exfalso; subst ky; rcases h.1 with a | a <;> have := a _ kx <;> lia
    · exact NestL.inj h.2 kx ky e
theorem NestL.at : ∀ {l : List (Int × Int × Int)}, NestL l → ∀ i (hi : i < l.length), (∀ j (hj : j < l.length), i < j → l[i].1 < l[j].1) ∨ (∀ j (hj : j < l.length), i < j → l[j].1 < l[i].1)
  | [], _, i, hi => by simp at hi
  | x :: l, h, i, hi => by
    rcases i with _ | i
    · rcases h.1 with a | a
      · left; intro j hj hij
        obtain ⟨j, rfl⟩ : ∃ k, j = k + 1 := ⟨j - 1, by lia⟩
        exact a _ (List.getElem_mem _)
      · right; intro j hj hij
        obtain ⟨j, rfl⟩ : ∃ k, j = k + 1 := ⟨j - 1, by lia⟩
        exact a _ (List.getElem_mem _)
    · rcases NestL.at h.2 i (by simpa using hi) with a | a
      · left; intro j hj hij
        obtain ⟨j, rfl⟩ : ∃ k, j = k + 1 := ⟨j - 1, by lia⟩
        exact a j (by simpa using hj) (by lia)
      · right; intro j hj hij
        obtain ⟨j, rfl⟩ : ∃ k, j = k + 1 := ⟨j - 1, by lia⟩
        exact a j (by simpa using hj) (by lia)
/-- the first number of the tuple at a reference -/
noncomputable def fstAt (h : Heap) (v : Value) : Int := match v with
  | .ref D => match h.get? D with
    | some o => match o.data with
      | .seq xs _ => match xs[0]? with
        | some (Value.int n _) => n
        | _ => 0
      | _ => 0
    | none => 0
  | _ => 0
theorem fstAt_item {h : Heap} {v : Value} {x : Int × Int × Int} (H : isItem h v x) : fstAt h v = x.1 := by
  obtain ⟨D, t, u, z, rfl, hD⟩ := H
  unfold fstAt
  dsimp only
  rw [hD]
  rfl
theorem TupsAt.mem {h : Heap} : ∀ {vs : List Value} {xs : List (Int × Int × Int)}, TupsAt h vs xs → ∀ v ∈ vs, ∃ x ∈ xs, isItem h v x
  | [], _, _, v, hv => by simp at hv
  | _ :: _, [], H, _, _ => H.elim
  | u :: vs, x :: xs, H, v, hv => by
    rcases List.mem_cons.mp hv with rfl | hv
    · exact ⟨x, by simp, H.1⟩
    · obtain ⟨y, hy, e⟩ := TupsAt.mem H.2 v hv
      exact ⟨y, by simp [hy], e⟩
theorem TupsAt.map_fst {h : Heap} : ∀ {vs : List Value} {xs : List (Int × Int × Int)}, TupsAt h vs xs → vs.map (fstAt h) = xs.map (·.1)
  | [], [], _ => rfl
  | _ :: _, [], H => H.elim
  | [], _ :: _, H => H.elim
  | u :: vs, x :: xs, H => by rw [List.map_cons, List.map_cons, fstAt_item H.1, TupsAt.map_fst H.2]
/-- a turned list of the references goes with a turned list of the triples -/
theorem TupsAt.perm {h : Heap} {vs ws : List Value} (p : ws.Perm vs) : ∀ {xs : List (Int × Int × Int)}, TupsAt h vs xs → ∃ ys, ys.Perm xs ∧ TupsAt h ws ys := by
  induction p with
  | nil => exact fun {xs} H => ⟨xs, .refl _, H⟩
  | cons v p ih =>
    intro xs H
    match xs, H with
    | x :: xs, H =>
      obtain ⟨ys, p', H'⟩ := ih H.2
      exact ⟨x :: ys, p'.cons x, H.1, H'⟩
  | swap a b l =>
    intro xs H
    match xs, H with
    | x :: y :: xs, H => exact ⟨y :: x :: xs, .swap _ _ _, H.2.1, H.1, H.2.2⟩
    | [_], H => exact H.2.elim
  | trans p q ih1 ih2 =>
    intro xs H
    obtain ⟨ys, a, b⟩ := ih2 H
    obtain ⟨zs, c, d⟩ := ih1 b
    exact ⟨zs, c.trans a, d⟩
theorem isItem.uniq {h : Heap} {v : Value} {x y : Int × Int × Int} (H : isItem h v x) (H' : isItem h v y) : x = y := by
  obtain ⟨D, t, u, z, rfl, e⟩ := H
  obtain ⟨D', t', u', z', e1, e'⟩ := H'
  cases e1
  rw [e] at e'
  simp only [Option.some.injEq, Obj.mk.injEq, Data.seq.injEq, Array.mk.injEq, List.cons.injEq, Value.int.injEq] at e'
  obtain ⟨x1, x2, x3⟩ := x
  obtain ⟨y1, y2, y3⟩ := y
  simp_all
theorem TupsAt.uniq {h : Heap} : ∀ {vs : List Value} {xs ys : List (Int × Int × Int)}, TupsAt h vs xs → TupsAt h vs ys → xs = ys
  | [], [], [], _, _ => rfl
  | _ :: _, [], _, H, _ => H.elim
  | _ :: _, _ :: _, [], _, H => H.elim
  | [], _ :: _, _, H, _ => H.elim
  | [], [], _ :: _, _, H => H.elim
  | v :: vs, x :: xs, y :: ys, H, H' => by rw [H.1.uniq H'.1, TupsAt.uniq H.2 H'.2]
noncomputable def κt (h : Heap) (p : Keyed) : Int := fstAt h p.1
section
variable {prog : Program} {w : World} {A : Around} {E : Value → Shared → Prop} {s : Shared} {vs : List Value} {xs : List (Int × Int × Int)}
theorem pairs_get (vs : List Value) (i : Nat) : (pairsOf vs)[i]? = (vs[i]?).map (fun v => (v, v)) := by
  rw [← Array.getElem?_toList, pairsOf_toList, List.zip_eq_zipWith, List.getElem?_zipWith]
  cases vs[i]? <;> rfl
theorem pairs_K {h : Heap} (H : TupsAt h vs xs) {i : Nat} (hi : i < xs.length) : Kx (κt h) (pairsOf vs) i = xs[i].1 := by
  have hl := H.length
  have e := H.map_fst
  have hi' : i < vs.length := by lia
  unfold Kx
  rw [pairs_get, List.getElem?_eq_getElem hi']
  show fstAt h vs[i] = _
  have := congrArg (fun l => l[i]?) e
  simp only [List.getElem?_map, List.getElem?_eq_getElem hi', List.getElem?_eq_getElem hi, Option.map_some, Option.some.injEq] at this
  exact this
theorem pairs_nst {h : Heap} (H : TupsAt h vs xs) (N : NestL xs) (q : Nat) : Nst (κt h) (pairsOf vs) (pairsOf vs).size q := by
  rw [pairsOf_size, H.length]
  intro i hi hin
  rcases N.at i hin with a | a
  · left; intro j h1 h2
    rw [pairs_K H hin, pairs_K H h2]; exact a j h2 (by lia)
  · right; intro j h1 h2
    rw [pairs_K H hin, pairs_K H h2]; exact a j h2 (by lia)
theorem pairs_dist {h : Heap} (H : TupsAt h vs xs) (N : NestL xs) : Dist (κt h) (pairsOf vs) := by
  unfold Dist
  rw [pairsOf_toList]
  have e : (vs.zip vs).map (κt h) = xs.map (·.1) := by
    rw [← H.map_fst]
    have : (vs.zip vs).map (κt h) = ((vs.zip vs).map Prod.fst).map (fstAt h) := by rw [List.map_map]; rfl
    rw [this, List.map_fst_zip (Nat.le_refl _)]
  rw [e]; exact N.nodup
theorem pairs_mem {p : Keyed} (hp : p ∈ (pairsOf vs).toList) : p.1 = p.2 ∧ p.1 ∈ vs := by
  rw [pairsOf_toList] at hp; exact mem_zip_self hp
theorem int_back {a b : Int} {t u : Tok} {Q : Bool → Shared → Prop} (h : Q (decide (a < b)) s) : wpAny (model prog w) A (oneLt' true (.int a t) (.int b u)) Q E s := oneLt_int h
theorem tups_cmp (H : TupsAt s.heap vs xs) (N : NestL xs) : CmpOk prog w A E s (tuples' true) (κt s.heap) (pairsOf vs) := by
  intro x y st Q hx hy hk hQ
  obtain ⟨ex, mx⟩ := pairs_mem hx
  obtain ⟨ey, my⟩ := pairs_mem hy
  obtain ⟨⟨a1, a2, a3⟩, ma, Da, t1, t2, t3, va, ha⟩ := H.mem _ mx
  obtain ⟨⟨b1, b2, b3⟩, mb, Db, u1, u2, u3, vb, hb⟩ := H.mem _ my
  have kx : κt s.heap x = a1 := fstAt_item (x := (a1, a2, a3)) ⟨Da, t1, t2, t3, va, ha⟩
  have ky : κt s.heap y = b1 := fstAt_item (x := (b1, b2, b3)) ⟨Db, u1, u2, u3, vb, hb⟩
  rw [kx, ky] at hQ
  rw [lt'_eq]
  refine wpS_bind (wpS_get ?_)
  rw [hk, va, vb]
  refine wpS_bind (wpS_lift (wpAny_attempt (kat_lt (b := true) ha rfl hb rfl ?_)))
  show KatLex _ _ _ _ _ _ [(Value.int a1 t1, Value.int b1 u1), (Value.int a2 t2, Value.int b2 u2), (Value.int a3 t3, Value.int b3 u3)] 0 s
  refine kat_cons (wpAny_eqBool_int ?_)
  by_cases e : a1 = b1
  · have e3 := N.inj ma mb e
    simp only [Prod.mk.injEq] at e3
    obtain ⟨_, rfl, rfl⟩ := e3
    subst e
    simp only [beq_self_eq_true]
    refine kat_yes (kat_cons (wpAny_eqBool_int ?_))
    simp only [beq_self_eq_true]
    refine kat_yes (kat_cons (wpAny_eqBool_int ?_))
    simp only [beq_self_eq_true]
    refine kat_yes (kat_nil ?_)
    refine ⟨rfl, wpS_pure ?_⟩
    rw [show decide (a1 < a1) = false by simp] at hQ
    exact hQ
  · rw [show (a1 == b1) = false by simpa using e]
    refine kat_no (oneLt_int ⟨rfl, wpS_pure ?_⟩)
    exact hQ
/-- the list that comes out -/
theorem tups_out {h : Heap} (H : TupsAt h vs xs) {st : SortSt} (hp : (arrOf st).Perm (pairsOf vs)) (hs : Asc (κt h) (arrOf st) 0 (pairsOf vs).size) :
    ∃ ys, ys.Perm xs ∧ TupsAt h ((arrOf st).map (·.2)).toList ys ∧ ys.Pairwise (fun x y => x.1 < y.1) ∧ ((arrOf st).map (·.2)).toList.Perm vs := by
  have hl : (arrOf st).toList.Perm (vs.zip vs) := by rw [← pairsOf_toList]; exact Array.perm_iff_toList_perm.mp hp
  have hv : ((arrOf st).map (·.2)).toList.Perm vs := by
    have e := hl.map Prod.snd
    rw [List.map_snd_zip (Nat.le_refl _)] at e
    rw [Array.toList_map]; exact e
  obtain ⟨ys, p, H'⟩ := H.perm hv
  refine ⟨ys, p, H', ?_, hv⟩
  have em := H'.map_fst
  rw [List.pairwise_iff_getElem]
  intro i j hi hj hij
  have hn : (arrOf st).size = ys.length := by
    have := H'.length
    simpa using this
  have hps : (pairsOf vs).size = (arrOf st).size := hp.size_eq.symm
  have hlt := hs i j (Nat.zero_le _) hij (by lia)
  have key : ∀ k (hk : k < ys.length), Kx (κt h) (arrOf st) k = ys[k].1 := by
    intro k hk
    have hk' : k < (arrOf st).size := by lia
    have e1 : Kx (κt h) (arrOf st) k = fstAt h (arrOf st)[k].1 := by unfold Kx; rw [getElem?_pos _ k hk']; rfl
    have m : (arrOf st)[k] ∈ (pairsOf vs).toList := (Array.perm_iff_toList_perm.mp hp).mem_iff.mp (by simp)
    rw [e1, (pairs_mem m).1]
    have := congrArg (fun l => l[k]?) em
    simp only [List.getElem?_map, Array.toList_map, Array.getElem?_toList, Option.map_map] at this
    rw [getElem?_pos _ k hk', List.getElem?_eq_getElem hk] at this
    simpa using this
  rw [key i hi, key j hj] at hlt
  exact hlt
theorem tups_kat {h : Heap} : ∀ {vs : List Value} {xs : List (Int × Int × Int)}, TupsAt h vs xs → ∃ fs, KatTups h vs fs ∧ fs.length = vs.length ∧ ∀ v ∈ fs, ∃ n t, v = Value.int n t
  | [], [], _ => ⟨[], .nil, rfl, by simp⟩
  | _ :: _, [], H => H.elim
  | [], _ :: _, H => H.elim
  | v :: vs, x :: xs, H => by
    obtain ⟨fs, K, hl, hf⟩ := tups_kat H.2
    obtain ⟨D, t, u, z, rfl, hD⟩ := H.1
    refine ⟨Value.int x.1 t :: fs, KatTups.cons hD rfl rfl rfl K, by simp [hl], fun v hv => ?_⟩
    rcases List.mem_cons.mp hv with rfl | hv
    · exact ⟨_, _, rfl⟩
    · exact hf v hv
theorem list_sort_tups {a : Addr} {n : Nat} {P : PySem.Fin → Shared → Prop} (ho : s.heap.get? a = some (seqObj "list" vs.toArray n))
    (H : TupsAt s.heap vs xs) (N : NestL xs) (hsz1 : vs.length ≤ 1000)
    (h : ∀ (out : Array Value) (ys : List (Int × Int × Int)), TupsAt (sortedHeap s.heap a vs out) out.toList ys → ys.Perm xs → ys.Pairwise (fun x y => x.1 < y.1) → out.toList.Perm vs → P (.done (.ret .none)) { s with heap := sortedHeap s.heap a vs out }) :
    wpAny (model prog w) A (Builtin.«list.sort» ⟨[.ref a], []⟩) P E s := by
  rw [list_sort_plain]
  have ha : a < s.heap.objs.size := Heap.lt_size ho
  refine wpAny_bind (listItems_at ho rfl ?_)
  refine wpAny_bind (listUpdate_at ho rfl ?_ (by rw [List.size_toArray, sizeLine_eq]; lia) (Nat.zero_le _))
  obtain ⟨e1, ho1⟩ : ∃ e1, (s.heap.update a (Obj.mapSeq fun _ => (#[] : Array Value))).get? a = some (seqObj "list" #[] e1) := ⟨_, get?_update_seq ho fun _ => #[]⟩
  refine wpAny_bind (seqEpoch_at ho1 rfl ?_)
  refine wpAny_bind (wpAny_newTuple ?_ (by show vs.length ≤ _; rw [sizeLine_eq]; lia))
  refine wpAny_bind (wpAny_newList ?_ (Nat.zero_le _))
  refine wpAny_holding ?_
  have kp : ∀ b o, s.heap.get? b = some o → b ≠ a → (((s.heap.update a (Obj.mapSeq fun _ => #[])).push (seqObj "tuple" vs.toArray 0)).push (seqObj "list" #[] 0)).get? b = some o := fun b o e hb => by
    have hb' : b < s.heap.objs.size := Heap.lt_size e
    rw [Heap.get?_push_ne _ _ _ (by rw [size_push', Heap.size_update]; exact Nat.ne_of_lt (Nat.lt_succ_of_lt hb')), Heap.get?_push_ne _ _ _ (by rw [Heap.size_update]; exact Nat.ne_of_lt hb'), Heap.get?_update_ne _ _ _ _ hb]
    exact e
  have ho6 : (((s.heap.update a (Obj.mapSeq fun _ => #[])).push (seqObj "tuple" vs.toArray 0)).push (seqObj "list" #[] 0)).get? a = some (seqObj "list" #[] e1) := by
    rw [Heap.get?_push_ne _ _ _ (by rw [size_push', Heap.size_update]; exact Nat.ne_of_lt (Nat.lt_succ_of_lt ha)), Heap.get?_push_ne _ _ _ (by rw [Heap.size_update]; exact Nat.ne_of_lt ha)]
    exact ho1
  show wpAny (model prog w) A _ P E { s with heap := ((s.heap.update a (Obj.mapSeq fun _ => #[])).push (seqObj "tuple" vs.toArray 0)).push (seqObj "list" #[] 0) }
  generalize hs6 : ((s.heap.update a (Obj.mapSeq fun _ => #[])).push (seqObj "tuple" vs.toArray 0)).push (seqObj "list" #[] 0) = h6 at kp ho6
  have H6 : TupsAt h6 vs xs := H.kept fun b o e ht => kp b o e fun hb => by
    subst hb
    obtain ⟨y, z, w, t, u, r, rfl⟩ := ht
    rw [ho] at e
    simp at e
  have fin : ∀ st' : SortSt, (arrOf st').Perm (pairsOf vs) → Asc (κt h6) (arrOf st') 0 (pairsOf vs).size →
      P (.done (.ret .none)) { s with heap := sortedHeap s.heap a vs ((arrOf st').map (·.2)) } := by
    intro st' hp hs
    obtain ⟨ys, p, H', q, hv⟩ := tups_out H6 hp hs
    refine h _ ys ?_ p q hv
    refine H'.kept fun b o e ht => ?_
    have hb : b ≠ a := fun hb => by
      subst hb
      obtain ⟨y, z, w, t, u, r, rfl⟩ := ht
      rw [ho6] at e
      simp at e
    unfold sortedHeap
    rw [hs6, Heap.get?_update_ne _ _ _ _ hb]
    exact e
  have hend : ∀ (out : Array Value), { s with heap := h6.update a (Obj.mapSeq fun _ => out) } = { s with heap := sortedHeap s.heap a vs out } := fun out => by
    unfold sortedHeap; rw [hs6]
  dsimp only
  by_cases h2 : vs.toArray.size < 2
  · rw [if_pos h2, if_pos h2]
    refine wpAny_bind (wpAny_pure ?_)
    rw [StateT.run_pure]
    refine wpAny_bind (wpAny_pure ?_)
    dsimp only
    refine wpAny_bind (seqEpoch_at ho6 rfl ?_)
    refine wpAny_bind (listUpdate_at ho6 rfl ?_ (Nat.zero_le _) (by rw [Array.size_map]; show (pairsOf vs).size ≤ _; rw [pairsOf_size, sizeLine_eq]; lia))
    simp only [bne_self_eq_false, Bool.false_eq_true, if_false]
    refine wpAny_pure ?_
    refine Eq.mp (congrArg (P (.done (.ret .none))) (hend _).symm) (fin (SortSt.mk' general' (vs.toArray.zip vs.toArray) #[] 7 none) (Array.Perm.refl _) ?_)
    intro i j _ hij hj
    rw [pairsOf_size] at hj
    simp at h2
    lia
  · rw [if_neg h2, if_neg h2]
    have hlen := H.length
    simp only [List.size_toArray] at h2
    obtain ⟨fs, KT, hfl, hfi⟩ := tups_kat H6
    refine wpAny_bind (kat_kind (T := .type "int") KT (by lia) (fun v hv => ?_) (by decide) ?_)
    · obtain ⟨n, t, rfl⟩ := hfi v hv
      exact Looks.of_pure rfl
    rw [show (Value.type "int" != Value.type "tuple") = true by decide]
    refine wpAny_bind (wpAny_mono (wpS_sortRuns2 (a₀ := pairsOf vs) (κ := κt h6) (kd := tuples' true) (st := SortSt.mk' (tuples' true) (vs.toArray.zip vs.toArray) #[] 7 none)
      (Q := fun _ st' => (arrOf st').Perm (pairsOf vs) ∧ failedOf st' = none ∧ Asc (κt h6) (arrOf st') 0 (pairsOf vs).size)
      (tups_cmp (s := { s with heap := h6 }) H6 N) (pairs_dist H6 N) ⟨Array.Perm.refl _, rfl, rfl⟩ rfl (by rw [pairsOf_size]; lia) (fun q => pairs_nst H6 N q) fun st' hB hA => ⟨hB.perm, hB.failed, hA⟩) ?_ fun _ _ e => e)
    rintro ⟨⟨⟩, st'⟩ s' ⟨rfl, hp, hf, hs⟩
    dsimp only
    refine wpAny_bind (seqEpoch_at ho6 rfl ?_)
    refine wpAny_bind (listUpdate_at ho6 rfl ?_ (Nat.zero_le _) (by refine Nat.le_trans (Nat.le_of_eq ((Array.size_map ..).trans (hp.size_eq.trans (pairsOf_size _)))) ?_; rw [sizeLine_eq]; lia))
    rw [hf]
    simp only [bne_self_eq_false, Bool.false_eq_true, if_false]
    exact wpAny_pure (Eq.mp (congrArg (P (.done (.ret .none))) (hend _).symm) (fin st' hp hs))
theorem sorted_tups {l : Addr} {Q : Value → Shared → Prop} (hl : s.heap.IsList l vs.toArray) (H : TupsAt s.heap vs xs) (N : NestL xs) (hsz1 : vs.length ≤ 1000)
    (h : ∀ (out : Array Value) (ys : List (Int × Int × Int)), TupsAt (sortedAll s.heap vs out) out.toList ys → ys.Perm xs → ys.Pairwise (fun x y => x.1 < y.1) → out.toList.Perm vs → Q (.ref (s.heap.objs.size + 1)) { s with heap := sortedAll s.heap vs out }) :
    wpAny (model prog w) A (call (.builtin "sorted") [.ref l]) Q E s := by
  refine Calls.call_function_entry kind_sorted plain_sorted entry_sorted (args_sorted1 _) ?_
  unfold Builtin.«sorted»
  refine wpAny_bind (m := checkCount "sorted" 1 1 _) (wpAny_pure ?_)
  refine wpAny_bind (collect_list hl ?_ (by rw [sizeLine_eq]; lia))
  refine wpAny_bind (wpAny_newList ?_ (by rw [sizeLine_eq]; lia))
  have hsz : ((s.heap.push (seqObj "list" #[] 0)).update s.heap.objs.size (Obj.mapSeq (· ++ vs.toArray))).objs.size = s.heap.objs.size + 1 := by
    rw [Heap.size_update, size_push']
  have hoL : (((s.heap.push (seqObj "list" #[] 0)).update s.heap.objs.size (Obj.mapSeq (· ++ vs.toArray))).push (seqObj "list" vs.toArray 0)).get? (s.heap.objs.size + 1) = some (seqObj "list" vs.toArray 0) := by
    rw [← hsz]; exact Heap.get?_push_size _ rfl
  have keep : ∀ b o, s.heap.get? b = some o → (((s.heap.push (seqObj "list" #[] 0)).update s.heap.objs.size (Obj.mapSeq (· ++ vs.toArray))).push (seqObj "list" vs.toArray 0)).get? b = some o := fun b o q => by
    have hlt : b < s.heap.objs.size := Heap.lt_size q
    rw [Heap.get?_push_ne _ _ _ (by rw [hsz]; exact Nat.ne_of_lt (Nat.lt_succ_of_lt hlt)), Heap.get?_update_ne _ _ _ _ (Nat.ne_of_lt hlt), Heap.get?_push_ne _ _ _ (Nat.ne_of_lt hlt)]
    exact q
  show wpAny _ _ _ _ _ { s with heap := ((s.heap.push (seqObj "list" #[] 0)).update s.heap.objs.size (Obj.mapSeq (· ++ vs.toArray))).push (seqObj "list" vs.toArray 0) }
  rw [hsz]
  refine wpAny_bind (wpAny_holding (wpAny_call_entry slot_list_sort ⟨_, hoL, rfl⟩ entry_list_sort (list_sort_tups hoL (H.kept fun b o e _ => keep b o e) N hsz1 fun out ys a1 a2 a3 a4 => ⟨_, rfl, ?_⟩) (args_list_sort _)))
  exact wpAny_pure ⟨_, rfl, h out ys a1 a2 a3 a4⟩
end
end Mine
end

section
namespace Mine
/-- entering a def; what is not in the ledger lies in the callee's ground -/
theorem code_def2 {prog : Program} {w : World} {A A₀ : Around} {s : Shared} {base h₀ : Heap} {L : Addr} {m mg mb : Str → Option Value} {news : List (Addr × Obj)} {K : Frag} {p : Program} {loose : List Str} {mean : ExcName → Option Value} {env : Env} {outer : List Env}
    {R : Result → Shared → Prop} {name qual : Str} {params : Arguments} {body : List Stmt} {scope : Scope} {dV kV doc pm cdv ct oc : Value} {an od : Option Addr} {osl : Array (Option Value)} {f : Addr} {args : Args} {binds : List (Str × Value)}
    (B : Below A₀ base outer h₀) (F : Fr h₀ L s.heap m) (X₀ : K.In h₀) (N : News h₀ L s.heap news) (T : Top p loose mean mg mb h₀) (hA : A.frames = some (env :: outer)) (hf : env.frame = some L) (hke : env.scope.kind = .function)
    (ho : K.lookup f = some ⟨oc, od, .func (fnOf name qual params body scope dV kV doc pm an cdv ct), osl⟩) (hcd : codeIn K cdv qual = true) (hroom : A.depth < recursionLimit)
    (hbind : BindsTo s (fnOf name qual params body scope dV kV doc pm an cdv ct) args binds) (hloc : ∀ y ∈ binds, scope.names.lookup y.1 = some .local)
    (h : ∀ g L' h₁, Fr h₀ L g m → (∀ b o, s.heap.get? b = some o → (∀ p ∈ news, p.1 ≠ b) → g.get? b = some o) → Fr g L' h₁ (fun y => binds.reverse.lookup y) → News g L' h₁ news → (∀ p ∈ news, p.1 < L') → Below A base (env :: outer) g → K.In g → Top p loose mean mg mb g →
      wpAny (model prog w) (A.deeper (envOf qual scope L' f cdv)) (execs body (envOf qual scope L' f cdv))
        (fun fl s' => LeaveK h₀ L m g R (match fl with | .ret v => v | _ => .none) s')
        (fun e s' => wpAny (model prog w) (A.deeper (envOf qual scope L' f cdv)) (leaving (envOf qual scope L' f cdv) e) (fun _ s'' => R (.error e) s'') (fun e' s'' => R (.error e') s'') s')
        { s with heap := h₁, toks := s.toks + binds.length })
    (hco : scope.isCoroutine = false) (hgen : scope.isGenerator = false) (hk : scope.kind = .function)
    (hcell : ∀ x ∈ scope.names, x.2 ≠ .cell) : codeAny (model prog w) A (.call (.ref f) args) R s := by
  obtain ⟨FG, BG, st, lv⟩ := groundX (R := R) B F N hA hf hke
  refine codeAny_call_def (fd := fnOf name qual params body scope dV kV doc pm an cdv ct) (body := body) (binds := binds) hroom ((X₀.keeps F.keep) _ _ ho) rfl (T.nolimit.keeps F.keep) (codeRec_of (X₀.keeps F.keep) hcd) rfl hbind hcell hloc (fun h₁ hns hk₁ => ?_) hco hgen hk
  exact wpAny_mono (h _ s.heap.objs.size h₁ FG (fun b o e hn => hideAll_get _ e fun q => by obtain ⟨p, hp, e⟩ := List.mem_map.mp q; exact hn p hp e) ⟨hns, fun b o e => hk₁ b o (of_hideAll _ e), Nat.le_of_eq (hideAll_size _ _)⟩
    (fun p hp => ⟨hk₁ _ _ (N p hp).1, Nat.ne_of_lt (Heap.lt_size (N p hp).1), hideAll_none _ (List.mem_map_of_mem hp)⟩) (fun p hp => Heap.lt_size (N p hp).1) BG (X₀.keeps st) (T.keeps st)) (fun fl s' hl => lv _ _ hl) fun _ _ y => y
noncomputable def tBody : List Stmt := defBody 8
noncomputable def tScope : Scope := defScope 8
noncomputable def tStmt (n : Nat) : Stmt := match tBody[n]? with
  | some st => st
  | _ => default
noncomputable def tTurn : List Stmt := match tStmt 1 with
  | .For _ _ b _ _ => b
  | _ => []
noncomputable def tTarget : Expr := match tStmt 1 with
  | .For t _ _ _ _ => t
  | _ => default
noncomputable def uStmt (n : Nat) : Stmt := match tTurn[n]? with
  | some st => st
  | _ => default
noncomputable abbrev tEnv (L : Addr) : Env := envX "_law_tiles" (defScope 8) L 63 (.ref 62) []
local macro_rules | `(tactic| walk_at "binaryOp FloorDiv int int") => `(tactic| ((with_reducible refine floordiv_int ?kbe ?_ (Or.inl (PyProof.noPylong_of_log2 ?kbp))); (case kbe => exact Int.ne_of_gt (by with_reducible assumption)); (case kbp => with_reducible assumption)))
/-- the frame of _law_tiles -/
noncomputable def TilM (m : Str → Option Value) (S T lo hi place before : Int) : Prop :=
  ∃ t1 t2 t3 t4 t5 t6, m "size" = some (.int S t1) ∧ m "step" = some (.int T t2) ∧ m "low" = some (.int lo t3) ∧ m "high" = some (.int hi t4) ∧ m "place" = some (.int place t5) ∧ m "before" = some (.int before t6)
/-- the told tier's names in a turn of _law_tiles -/
noncomputable def TierM (m : Str → Option Value) (f l sh : Int) : Prop :=
  ∃ u1 u2 u3, m "first" = some (.int f u1) ∧ m "last" = some (.int l u2) ∧ m "shift" = some (.int sh u3)
theorem TilM.fr {h₀ h : Heap} {L : Addr} {m : Str → Option Value} {S T lo hi place before : Int} (F : Fr h₀ L h m) (H : TilM m S T lo hi place before) : ∃ t1 t2 t3 t4 t5 t6, Fr h₀ L h (fun y => if y = "size" then some (.int S t1) else if y = "step" then some (.int T t2) else if y = "low" then some (.int lo t3) else if y = "high" then some (.int hi t4) else if y = "place" then some (.int place t5) else if y = "before" then some (.int before t6) else m y) := by
  obtain ⟨t1, t2, t3, t4, t5, t6, e1, e2, e3, e4, e5, e6⟩ := H
  refine ⟨t1, t2, t3, t4, t5, t6, ?_⟩
  have F6 := Fr.see F e6
  have F5 := Fr.see (x := "place") F6 (by with_unfolding_all exact e5)
  have F4 := Fr.see (x := "high") F5 (by with_unfolding_all exact e4)
  have F3 := Fr.see (x := "low") F4 (by with_unfolding_all exact e3)
  have F2 := Fr.see (x := "step") F3 (by with_unfolding_all exact e2)
  exact Fr.see (x := "size") F2 (by with_unfolding_all exact e1)
open Builtin.Int in
theorem wide_bits {sh T : Int} (h1 : sh ≤ 70) (h2 : T ≤ 64) : intBits ((2 : Int) ^ sh.toNat * 2 ^ T.toNat) ≤ 300 := by
  have b2 : intBits (2 : Int) ≤ 2 := by decide
  have e1 := intBits_pow_le b2 sh.toNat
  have e2 := intBits_pow_le b2 T.toNat
  have := intBits_mul_le e1 e2
  lia
open Builtin.Int in
theorem mulok1 {sh T x : Int} (h1 : sh ≤ 70) (h2 : T ≤ 64) (hx : intBits x ≤ 1000) : IntMulOk (x.fdiv (2 ^ sh.toNat * 2 ^ T.toNat)) (2 ^ sh.toNat * 2 ^ T.toNat) :=
  IntMulOk.of_le (intBits_fdiv_le hx) (wide_bits h1 h2) (by decide)
open Builtin.Int in
theorem bits_lo {sh T lo : Int} (h1 : sh ≤ 70) (h2 : T ≤ 64) (hx : intBits lo ≤ 100) : intBits (lo + 2 ^ sh.toNat * 2 ^ T.toNat - 1) ≤ 1000 := by
  have e1 := intBits_add_le hx (wide_bits h1 h2)
  have e2 := intBits_sub_le e1 (show intBits (1 : Int) ≤ 1 by decide)
  lia
open Builtin.Int in
theorem bits_hi {hi : Int} (hx : intBits hi ≤ 100) : intBits (hi + 1) ≤ 1000 := by
  have e1 := intBits_add_le hx (show intBits (1 : Int) ≤ 1 by decide)
  lia
section
variable {prog : Program} {w : World} {p : Program} {loose : List Str} {mean : ExcName → Option Value} {mg mb : Str → Option Value}
    {dp un : Nat} {gd : Option (List Code)} {outer : List Env} {A₀ : Around} {base h₀ : Heap} {L : Addr} {s : Shared} {m : Str → Option Value} {S T lo hi place before f l sh : Int} {keep : List (Addr × Obj)}
    (B : Below A₀ base outer h₀) (X : (hd.heap_39 w.params).In h₀) (T' : Top p loose mean mg mb h₀)
    (hdp : dp + 1 < recursionLimit) (hun : un + 8 < cLine)
include B X T' hdp hun
theorem turn_a {Q : Flow → Shared → Prop} {E : Value → Shared → Prop} (F : Fr h₀ L s.heap m) (N : News h₀ L s.heap keep) (H : TilM m S T lo hi place before) (K : TierM m f l sh) (hsh : 0 ≤ sh) (hS : sh ≤ 70) (h1 : f = place) (h2 : f ≤ l) (h3 : f.fmod (2 ^ sh.toNat) = 0) (h4 : (l + 1).fmod (2 ^ sh.toNat) = 0)
    (hQ : ∀ h' tk m' t, Fr h₀ L h' m' → TilM m' S T lo hi place before → TierM m' f l sh → m' "block" = some (.int (2 ^ sh.toNat) t) → News h₀ L h' keep → Q .next { s with heap := h', toks := tk }) :
    wpAny (model prog w) (ktrTop dp un gd "_law_tiles" (defScope 8) L 63 (.ref 62) [] outer) (execs [uStmt 0, uStmt 1] (tEnv L)) Q E s := by
  have dummy : (PySem.Challenge.rw_iu0045_01 = PySem.Challenge.rw_iu0045_01 ∧ hd.heap_39 = hd.heap_39) := by (k_fill; exact ⟨rfl, rfl⟩)
  clear dummy
  obtain ⟨t1, t2, t3, t4, t5, t6, e1, e2, e3, e4, e5, e6⟩ := H
  obtain ⟨u1, u2, u3, d1, d2, d3⟩ := K
  have G0 := Fr.see (x := "place") F e5
  have G1 := Fr.see (x := "first") G0 (by with_unfolding_all exact d1)
  have G2 := Fr.see (x := "last") G1 (by with_unfolding_all exact d2)
  have G3 := Fr.see (x := "shift") G2 (by with_unfolding_all exact d3)
  clear F G0 G1 G2
  simp only [uStmt, tTurn, tTarget, tStmt, tBody, tScope, tEnv, defBody, defScope, PySem.Challenge.pw_iu0045_01, List.getElem?_cons_zero, List.getElem?_cons_succ, List.take, List.drop] at *
  k_steps
  all_goals first
    | exact absurd h1 (by with_reducible assumption)
    | exact absurd h3 (by with_reducible assumption)
    | exact absurd h4 (by with_reducible assumption)
    | (with_reducible rename News _ _ _ _ => lN
       with_reducible rename Fr _ _ _ _ => lF
       exact hQ _ _ _ _ lF ⟨_, _, _, _, _, _, by with_unfolding_all exact e1, by with_unfolding_all exact e2, by with_unfolding_all exact e3, by with_unfolding_all exact e4, rfl, by with_unfolding_all exact e6⟩ ⟨_, _, _, rfl, rfl, rfl⟩ rfl lN)
theorem turn_b {u4 : Tok} {Q : Flow → Shared → Prop} {E : Value → Shared → Prop} (F : Fr h₀ L s.heap m) (N : News h₀ L s.heap keep) (H : TilM m S T lo hi place before) (K : TierM m f l sh) (b1 : m "block" = some (.int (2 ^ sh.toNat) u4)) (hS1 : 1 ≤ S) (hT : 0 ≤ T) (hsh2 : sh < S) (h5 : sh ≠ before) (h7 : 0 < T → sh.fmod T = 0) (h7' : ¬ 0 < T → sh.fmod S = 0)
    (hQ : ∀ h' tk m' t, Fr h₀ L h' m' → TilM m' S T lo hi place before → TierM m' f l sh → m' "block" = some (.int (2 ^ sh.toNat) t) → News h₀ L h' keep → Q .next { s with heap := h', toks := tk }) :
    wpAny (model prog w) (ktrTop dp un gd "_law_tiles" (defScope 8) L 63 (.ref 62) [] outer) (exec (uStmt 2) (tEnv L)) Q E s := by
  have dummy : (PySem.Challenge.rw_iu0045_01 = PySem.Challenge.rw_iu0045_01 ∧ hd.heap_39 = hd.heap_39) := by (k_fill; exact ⟨rfl, rfl⟩)
  clear dummy
  obtain ⟨t1, t2, t3, t4, t5, t6, e1, e2, e3, e4, e5, e6⟩ := H
  obtain ⟨u1, u2, u3, d1, d2, d3⟩ := K
  have G0 := Fr.see (x := "size") F e1
  have G1 := Fr.see (x := "step") G0 (by with_unfolding_all exact e2)
  have G2 := Fr.see (x := "before") G1 (by with_unfolding_all exact e6)
  have G3 := Fr.see (x := "shift") G2 (by with_unfolding_all exact d3)
  clear F G0 G1 G2
  simp only [uStmt, tTurn, tTarget, tStmt, tBody, tScope, tEnv, defBody, defScope, PySem.Challenge.pw_iu0045_01, List.getElem?_cons_zero, List.getElem?_cons_succ, List.take, List.drop] at *
  k_steps
  all_goals first
    | exact absurd (show sh = before by with_reducible assumption) h5
    | exact absurd (h7 (by with_reducible assumption)) (by with_reducible assumption)
    | exact absurd (h7' (by with_reducible assumption)) (by with_reducible assumption)
    | (with_reducible rename News _ _ _ _ => lN
       with_reducible rename Fr _ _ _ _ => lF
       exact hQ _ _ _ _ lF ⟨_, _, _, _, _, _, rfl, rfl, by with_unfolding_all exact e3, by with_unfolding_all exact e4, by with_unfolding_all exact e5, rfl⟩ ⟨_, _, _, by with_unfolding_all exact d1, by with_unfolding_all exact d2, rfl⟩ (by with_unfolding_all exact b1) lN)
theorem turn_c {u4 : Tok} {Q : Flow → Shared → Prop} {E : Value → Shared → Prop} (F : Fr h₀ L s.heap m) (N : News h₀ L s.heap keep) (H : TilM m S T lo hi place before) (K : TierM m f l sh) (b1 : m "block" = some (.int (2 ^ sh.toNat) u4)) (hlo : Builtin.Int.intBits lo ≤ 100) (hhi : Builtin.Int.intBits hi ≤ 100) (hS : S ≤ 70) (hT : 0 ≤ T) (hT2 : T ≤ 64) (hsh : 0 ≤ sh) (hsh2 : sh < S)
    (h8 : 0 < T → sh + T < S → ¬ ((lo + 2 ^ sh.toNat * 2 ^ T.toNat - 1).fdiv (2 ^ sh.toNat * 2 ^ T.toNat) * (2 ^ sh.toNat * 2 ^ T.toNat) < (hi + 1).fdiv (2 ^ sh.toNat * 2 ^ T.toNat) * (2 ^ sh.toNat * 2 ^ T.toNat) ∧ f < (hi + 1).fdiv (2 ^ sh.toNat * 2 ^ T.toNat) * (2 ^ sh.toNat * 2 ^ T.toNat) ∧
      (lo + 2 ^ sh.toNat * 2 ^ T.toNat - 1).fdiv (2 ^ sh.toNat * 2 ^ T.toNat) * (2 ^ sh.toNat * 2 ^ T.toNat) ≤ l))
    (hQ : ∀ h' tk m' t, Fr h₀ L h' m' → TilM m' S T lo hi place before → TierM m' f l sh → m' "block" = some (.int (2 ^ sh.toNat) t) → News h₀ L h' keep → Q .next { s with heap := h', toks := tk }) :
    wpAny (model prog w) (ktrTop dp un gd "_law_tiles" (defScope 8) L 63 (.ref 62) [] outer) (exec (uStmt 3) (tEnv L)) Q E s := by
  have dummy : (PySem.Challenge.rw_iu0045_01 = PySem.Challenge.rw_iu0045_01 ∧ hd.heap_39 = hd.heap_39) := by (k_fill; exact ⟨rfl, rfl⟩)
  clear dummy
  obtain ⟨t1, t2, t3, t4, t5, t6, e1, e2, e3, e4, e5, e6⟩ := H
  obtain ⟨u1, u2, u3, d1, d2, d3⟩ := K
  have hW : (0 : Int) < 2 ^ sh.toNat * 2 ^ T.toNat := Int.mul_pos (Int.pow_pos (by decide)) (Int.pow_pos (by decide))
  have hP : ((2 : Int) ^ sh.toNat * 2 ^ T.toNat).natAbs.log2 < 9000 := by
    rw [← Int.pow_add, show sh.toNat + T.toNat = (sh + T).toNat by lia]
    exact kbt_py (by lia)
  have hM1 := mulok1 (sh := sh) (T := T) (by lia) hT2 (bits_lo (sh := sh) (T := T) (by lia) hT2 hlo)
  have hM2 := mulok1 (sh := sh) (T := T) (by lia) hT2 (bits_hi hhi)
  have G0 := Fr.see (x := "size") F e1
  have G1 := Fr.see (x := "step") G0 (by with_unfolding_all exact e2)
  have G2 := Fr.see (x := "low") G1 (by with_unfolding_all exact e3)
  have G3 := Fr.see (x := "high") G2 (by with_unfolding_all exact e4)
  have G4 := Fr.see (x := "first") G3 (by with_unfolding_all exact d1)
  have G5 := Fr.see (x := "last") G4 (by with_unfolding_all exact d2)
  have G6 := Fr.see (x := "shift") G5 (by with_unfolding_all exact d3)
  have G7 := Fr.see (x := "block") G6 (by with_unfolding_all exact b1)
  clear F G0 G1 G2 G3 G4 G5 G6
  simp only [uStmt, tTurn, tTarget, tStmt, tBody, tScope, tEnv, defBody, defScope, PySem.Challenge.pw_iu0045_01, List.getElem?_cons_zero, List.getElem?_cons_succ, List.take, List.drop] at *
  k_steps
  all_goals first
    | exact absurd ⟨by with_reducible assumption, by with_reducible assumption, by with_reducible assumption⟩ (h8 (by with_reducible assumption) (by with_reducible assumption))
    | (with_reducible rename News _ _ _ _ => lN
       with_reducible rename Fr _ _ _ _ => lF
       exact hQ _ _ _ _ lF ⟨_, _, _, _, _, _, rfl, rfl, rfl, rfl, by with_unfolding_all exact e5, by with_unfolding_all exact e6⟩ ⟨_, _, _, rfl, rfl, rfl⟩ rfl lN)
theorem turn_d {Q : Flow → Shared → Prop} {E : Value → Shared → Prop} (F : Fr h₀ L s.heap m) (N : News h₀ L s.heap keep) (H : TilM m S T lo hi place before) (K : TierM m f l sh) 
    (hQ : ∀ h' tk m', Fr h₀ L h' m' → TilM m' S T lo hi (l + 1) sh → News h₀ L h' keep → Q .next { s with heap := h', toks := tk }) :
    wpAny (model prog w) (ktrTop dp un gd "_law_tiles" (defScope 8) L 63 (.ref 62) [] outer) (exec (uStmt 4) (tEnv L)) Q E s := by
  have dummy : (PySem.Challenge.rw_iu0045_01 = PySem.Challenge.rw_iu0045_01 ∧ hd.heap_39 = hd.heap_39) := by (k_fill; exact ⟨rfl, rfl⟩)
  clear dummy
  obtain ⟨t1, t2, t3, t4, t5, t6, e1, e2, e3, e4, e5, e6⟩ := H
  obtain ⟨u1, u2, u3, d1, d2, d3⟩ := K
  have G0 := Fr.see (x := "last") F d2
  have G1 := Fr.see (x := "shift") G0 (by with_unfolding_all exact d3)
  clear F G0
  simp only [uStmt, tTurn, tTarget, tStmt, tBody, tScope, tEnv, defBody, defScope, PySem.Challenge.pw_iu0045_01, List.getElem?_cons_zero, List.getElem?_cons_succ, List.take, List.drop] at *
  k_steps
  with_reducible rename News _ _ _ _ => lN
  with_reducible rename Fr _ _ _ _ => lF
  refine hQ _ _ _ lF ⟨_, _, _, _, _, _, by with_unfolding_all exact e1, by with_unfolding_all exact e2, by with_unfolding_all exact e3, by with_unfolding_all exact e4, rfl, rfl⟩ fun q hq => lN q ?_
  first | exact List.mem_cons_of_mem _ hq | exact hq
theorem turn_0 {D : Addr} {u1 u2 u3 : Tok} {Q : Unit → Shared → Prop} {E : Value → Shared → Prop} (F : Fr h₀ L s.heap m) (N : News h₀ L s.heap keep) (H : TilM m S T lo hi place before) (ht : IsTup s.heap D #[.int f u1, .int l u2, .int sh u3])
    (hQ : ∀ h' tk m', Fr h₀ L h' m' → TilM m' S T lo hi place before → TierM m' f l sh → News h₀ L h' keep → Q () { s with heap := h', toks := tk }) :
    wpAny (model prog w) (ktrTop dp un gd "_law_tiles" (defScope 8) L 63 (.ref 62) [] outer) (assign tTarget (tEnv L) (.ref D)) Q E s := by
  have dummy : (PySem.Challenge.rw_iu0045_01 = PySem.Challenge.rw_iu0045_01 ∧ hd.heap_39 = hd.heap_39) := by (k_fill; exact ⟨rfl, rfl⟩)
  clear dummy
  obtain ⟨t1, t2, t3, t4, t5, t6, e1, e2, e3, e4, e5, e6⟩ := H
  simp only [uStmt, tTurn, tTarget, tStmt, tBody, tScope, tEnv, defBody, defScope, PySem.Challenge.pw_iu0045_01, List.getElem?_cons_zero, List.getElem?_cons_succ, List.take, List.drop] at *
  refine unpackN_ F N ht rfl rfl rfl fun h' F' N' => ?_
  clear F N
  k_steps
  with_reducible rename News _ _ _ _ => lN
  with_reducible rename Fr _ _ _ _ => lF
  exact hQ _ _ _ lF ⟨t1, t2, t3, t4, t5, t6, by with_unfolding_all exact e1, by with_unfolding_all exact e2, by with_unfolding_all exact e3, by with_unfolding_all exact e4, by with_unfolding_all exact e5, by with_unfolding_all exact e6⟩ ⟨_, _, _, rfl, rfl, rfl⟩ lN
theorem turn_ok {D : Addr} {u1 u2 u3 : Tok} {Q : Flow → Shared → Prop} {E : Value → Shared → Prop} (F : Fr h₀ L s.heap m) (N : News h₀ L s.heap keep) (H : TilM m S T lo hi place before) (ht : IsTup s.heap D #[.int f u1, .int l u2, .int sh u3])
    (hlo : Builtin.Int.intBits lo ≤ 100) (hhi : Builtin.Int.intBits hi ≤ 100) (hS1 : 1 ≤ S) (hS : S ≤ 70) (hT : 0 ≤ T) (hT2 : T ≤ 64) (hsh : 0 ≤ sh) (hsh2 : sh < S) (h1 : f = place) (h2 : f ≤ l) (h3 : f.fmod (2 ^ sh.toNat) = 0) (h4 : (l + 1).fmod (2 ^ sh.toNat) = 0) (h5 : sh ≠ before) (h7 : 0 < T → sh.fmod T = 0) (h7' : ¬ 0 < T → sh.fmod S = 0)
    (h8 : 0 < T → sh + T < S → ¬ ((lo + 2 ^ sh.toNat * 2 ^ T.toNat - 1).fdiv (2 ^ sh.toNat * 2 ^ T.toNat) * (2 ^ sh.toNat * 2 ^ T.toNat) < (hi + 1).fdiv (2 ^ sh.toNat * 2 ^ T.toNat) * (2 ^ sh.toNat * 2 ^ T.toNat) ∧ f < (hi + 1).fdiv (2 ^ sh.toNat * 2 ^ T.toNat) * (2 ^ sh.toNat * 2 ^ T.toNat) ∧
      (lo + 2 ^ sh.toNat * 2 ^ T.toNat - 1).fdiv (2 ^ sh.toNat * 2 ^ T.toNat) * (2 ^ sh.toNat * 2 ^ T.toNat) ≤ l))
    (hQ : ∀ h' tk m', Fr h₀ L h' m' → TilM m' S T lo hi (l + 1) sh → News h₀ L h' keep → Q .next { s with heap := h', toks := tk }) :
    wpAny (model prog w) (ktrTop dp un gd "_law_tiles" (defScope 8) L 63 (.ref 62) [] outer) (assign tTarget (tEnv L) (.ref D)) (fun _ s₃ => wpAny (model prog w) (ktrTop dp un gd "_law_tiles" (defScope 8) L 63 (.ref 62) [] outer) (execs tTurn (tEnv L)) Q E s₃) E s := by
  have eb : tTurn = [uStmt 0, uStmt 1] ++ [uStmt 2, uStmt 3, uStmt 4] := rfl
  rw [eb]
  refine turn_0 B X T' hdp hun F N H ht fun h0' tk0 m0 F0 H0 K0 N0 => ?_
  refine execs_app (turn_a B X T' hdp hun F0 N0 H0 K0 hsh (by lia) h1 h2 h3 h4 fun h1' tk1 m1 b1 F1 H1 K1 B1 N1 => ?_)
  refine wpAny_execs_cons (turn_b B X T' hdp hun F1 N1 H1 K1 B1 hS1 hT hsh2 h5 h7 h7' fun h2' tk2 m2 b2 F2 H2 K2 B2 N2 => ?_)
  refine wpAny_execs_cons (turn_c B X T' hdp hun F2 N2 H2 K2 B2 hlo hhi hS hT hT2 hsh hsh2 h8 fun h3' tk3 m3 b3 F3 H3 K3 B3 N3 => ?_)
  refine wpAny_execs_cons (turn_d B X T' hdp hun F3 N3 H3 K3 fun h4' tk4 m4 F4 H4 N4 => ?_)
  exact wpAny_pure (hQ _ _ _ F4 H4 N4)
end
end Mine
end

section
namespace Mine
noncomputable def tIter : Expr := match tStmt 1 with
  | .For _ t _ _ _ => t
  | _ => default
theorem TupsAt.get {h : Heap} : ∀ {vs : List Value} {xs : List (Int × Int × Int)}, TupsAt h vs xs → ∀ {i : Nat} {v : Value}, vs[i]? = some v → ∃ x, xs[i]? = some x ∧ isItem h v x
  | [], _, _, i, v, e => by simp at e
  | _ :: _, [], H, _, _, _ => H.elim
  | u :: vs, x :: xs, H, i, v, e => by
    rcases i with _ | i
    · simp only [List.getElem?_cons_zero, Option.some.injEq] at e
      subst e
      exact ⟨x, rfl, H.1⟩
    · obtain ⟨y, e1, h1⟩ := TupsAt.get H.2 (i := i) (by simpa using e)
      exact ⟨y, by simpa using e1, h1⟩
section
variable {prog : Program} {w : World} {p : Program} {loose : List Str} {mean : ExcName → Option Value} {mg mb : Str → Option Value}
    {dp un : Nat} {gd : Option (List Code)} {outer : List Env} {A₀ : Around} {base h₀ : Heap} {L : Addr} {s : Shared} {m : Str → Option Value} {S T lo hi : Int} {keep : List (Addr × Obj)}
    (B : Below A₀ base outer h₀) (X : (hd.heap_39 w.params).In h₀) (T' : Top p loose mean mg mb h₀)
    (hdp : dp + 1 < recursionLimit) (hun : un + 8 < cLine)
include B X T' hdp hun
theorem t_head {D : Addr} {t1 t2 t3 t4 : Tok} {Q : Flow → Shared → Prop} {E : Value → Shared → Prop} (F : Fr h₀ L s.heap m) (N : News h₀ L s.heap keep)
    (e1 : m "size" = some (.int S t1)) (e2 : m "step" = some (.int T t2)) (e3 : m "low" = some (.int lo t3)) (e4 : m "high" = some (.int hi t4)) (e5 : m "told" = some (.ref D))
    (hQ : ∀ h' tk m', Fr h₀ L h' m' → TilM m' S T lo hi lo (-1) → m' "told" = some (.ref D) → News h₀ L h' keep → Q .next { s with heap := h', toks := tk }) :
    wpAny (model prog w) (ktrTop dp un gd "_law_tiles" (defScope 8) L 63 (.ref 62) [] outer) (exec (tStmt 0) (tEnv L)) Q E s := by
  have dummy : (PySem.Challenge.rw_iu0045_01 = PySem.Challenge.rw_iu0045_01 ∧ hd.heap_39 = hd.heap_39) := by (k_fill; exact ⟨rfl, rfl⟩)
  clear dummy
  have F' : Fr h₀ L s.heap (fun y => if y = "size" then some (.int S t1) else if y = "step" then some (.int T t2) else if y = "low" then some (.int lo t3) else if y = "high" then some (.int hi t4) else if y = "told" then some (.ref D) else m y) := by
    have F5 := Fr.see F e5
    have F4 := Fr.see (x := "high") F5 (by with_unfolding_all exact e4)
    have F3 := Fr.see (x := "low") F4 (by with_unfolding_all exact e3)
    have F2 := Fr.see (x := "step") F3 (by with_unfolding_all exact e2)
    exact Fr.see (x := "size") F2 (by with_unfolding_all exact e1)
  clear F e1 e2 e3 e4 e5
  simp only [tIter, tTurn, tTarget, tStmt, tBody, tScope, tEnv, defBody, defScope, PySem.Challenge.pw_iu0045_01, List.getElem?_cons_zero, List.getElem?_cons_succ, List.take, List.drop] at *
  k_steps
  with_reducible rename News _ _ _ _ => lN
  refine hQ _ _ _ (by with_reducible assumption) ⟨_, _, _, _, _, _, rfl, rfl, rfl, rfl, rfl, rfl⟩ rfl fun q hq => lN q ?_
  first | exact List.mem_cons_of_mem _ hq | exact hq
theorem t_tail {place before : Int} {Q : Flow → Shared → Prop} {E : Value → Shared → Prop} (F : Fr h₀ L s.heap m) (N : News h₀ L s.heap keep) (H : TilM m S T lo hi place before) (hp : place = hi + 1)
    (hQ : ∀ tk, Q (.ret (.bool true)) { s with toks := tk }) :
    wpAny (model prog w) (ktrTop dp un gd "_law_tiles" (defScope 8) L 63 (.ref 62) [] outer) (exec (tStmt 2) (tEnv L)) Q E s := by
  have dummy : (PySem.Challenge.rw_iu0045_01 = PySem.Challenge.rw_iu0045_01 ∧ hd.heap_39 = hd.heap_39) := by (k_fill; exact ⟨rfl, rfl⟩)
  clear dummy
  obtain ⟨t1, t2, t3, t4, t5, t6, F'⟩ := TilM.fr F H
  clear F
  simp only [tIter, tTurn, tTarget, tStmt, tBody, tScope, tEnv, defBody, defScope, PySem.Challenge.pw_iu0045_01, List.getElem?_cons_zero, List.getElem?_cons_succ, List.take, List.drop] at *
  k_steps
  have e : (place == hi + 1) = true := by simp [hp]
  exact e ▸ hQ _
theorem t_iter {D : Addr} {Q : Value → Shared → Prop} {E : Value → Shared → Prop} (F : Fr h₀ L s.heap m) (N : News h₀ L s.heap keep) (e5 : m "told" = some (.ref D))
    (hQ : ∀ tk, wpAny (model prog w) (ktrTop dp un gd "_law_tiles" (defScope 8) L 63 (.ref 62) [] outer) (call (.builtin "sorted") [.ref D]) Q E { s with toks := tk }) :
    wpAny (model prog w) (ktrTop dp un gd "_law_tiles" (defScope 8) L 63 (.ref 62) [] outer) (eval tIter (tEnv L)) Q E s := by
  have dummy : (PySem.Challenge.rw_iu0045_01 = PySem.Challenge.rw_iu0045_01 ∧ hd.heap_39 = hd.heap_39) := by (k_fill; exact ⟨rfl, rfl⟩)
  clear dummy
  have F' := Fr.see F e5
  clear F
  simp only [tIter, tTurn, tTarget, tStmt, tBody, tScope, tEnv, defBody, defScope, PySem.Challenge.pw_iu0045_01, List.getElem?_cons_zero, List.getElem?_cons_succ, List.take, List.drop] at *
  k_steps
  exact hQ s.toks
/-- one told tier in its place -/
noncomputable def turnOk (S T lo hi place before : Int) (x : Int × Int × Int) : Prop :=
  x.1 = place ∧ x.1 ≤ x.2.1 ∧ 0 ≤ x.2.2 ∧ x.2.2 < S ∧ x.1.fmod (2 ^ x.2.2.toNat) = 0 ∧ (x.2.1 + 1).fmod (2 ^ x.2.2.toNat) = 0 ∧ x.2.2 ≠ before ∧ (0 < T → x.2.2.fmod T = 0) ∧ (¬ 0 < T → x.2.2.fmod S = 0) ∧
  (0 < T → x.2.2 + T < S → ¬ ((lo + 2 ^ x.2.2.toNat * 2 ^ T.toNat - 1).fdiv (2 ^ x.2.2.toNat * 2 ^ T.toNat) * (2 ^ x.2.2.toNat * 2 ^ T.toNat) < (hi + 1).fdiv (2 ^ x.2.2.toNat * 2 ^ T.toNat) * (2 ^ x.2.2.toNat * 2 ^ T.toNat) ∧
    x.1 < (hi + 1).fdiv (2 ^ x.2.2.toNat * 2 ^ T.toNat) * (2 ^ x.2.2.toNat * 2 ^ T.toNat) ∧
    (lo + 2 ^ x.2.2.toNat * 2 ^ T.toNat - 1).fdiv (2 ^ x.2.2.toNat * 2 ^ T.toNat) * (2 ^ x.2.2.toNat * 2 ^ T.toNat) ≤ x.2.1))
/-- the told tiers side by side -/
noncomputable def Tiled (S T lo hi : Int) : Int → Int → List (Int × Int × Int) → Prop
  | place, _, [] => place = hi + 1
  | place, before, x :: l => turnOk S T lo hi place before x ∧ Tiled S T lo hi (x.2.1 + 1) x.2.2 l
theorem t_loop {Dl : Addr} {acc : Array Value} {cnt : Nat} {xs : List (Int × Int × Int)} {Q : Flow → Shared → Prop} {E : Value → Shared → Prop} (F : Fr h₀ L s.heap m) (N : News h₀ L s.heap ((Dl, lstObj acc cnt) :: keep)) (H : TilM m S T lo hi lo (-1)) (mt : m "told" = some (.ref Dl))
    (hT : TupsAt h₀ acc.toList xs) (hN : NestL xs) (hlen : xs.length ≤ 1000) (tiled : ∀ ys, ys.Perm xs → ys.Pairwise (fun x y => x.1 < y.1) → Tiled S T lo hi lo (-1) ys)
    (hlo : Builtin.Int.intBits lo ≤ 100) (hhi : Builtin.Int.intBits hi ≤ 100) (hS1 : 1 ≤ S) (hS : S ≤ 70) (hT0 : 0 ≤ T) (hT2 : T ≤ 64) (hE : PassesOwn (model prog w) (ktrTop dp un gd "_law_tiles" (defScope 8) L 63 (.ref 62) [] outer) (tEnv L) E)
    (hQ : ∀ h' tk m' before, Fr h₀ L h' m' → TilM m' S T lo hi (hi + 1) before → News h₀ L h' ((Dl, lstObj acc cnt) :: keep) → Q .next { s with heap := h', toks := tk }) :
    wpAny (model prog w) (ktrTop dp un gd "_law_tiles" (defScope 8) L 63 (.ref 62) [] outer) (exec (tStmt 1) (tEnv L)) Q E s := by
  obtain ⟨pos, hst⟩ : ∃ pos, tStmt 1 = .For tTarget tIter tTurn [] pos := ⟨_, rfl⟩
  rw [hst]
  refine For_invTF F ?_ (fun _ => rfl) hE
  refine t_iter B X T' hdp hun F N mt fun tk => ?_
  have hal : acc.toList.length = xs.length := hT.length
  have hls : Heap.IsList s.heap Dl acc.toList.toArray := by
    rw [Array.toArray_toList]; exact N.isList (List.mem_cons_self ..)
  refine sorted_tups (s := { s with toks := tk }) hls (hT.kept fun b o e _ => F.keep b o e) hN (by omega) fun out ys a1 a2 a3 a4 => ?_
  have hys : TupsAt h₀ out.toList ys := by
    obtain ⟨zs, _, hz⟩ := hT.perm a4
    have := (hz.kept (h' := sortedAll s.heap acc.toList out) fun b o e _ => sortedAll_old (F.keep b o e)).uniq a1
    rw [← this]; exact hz
  have hti := tiled ys a2 a3
  obtain ⟨e, he⟩ := sortedAll_at s.heap acc.toList out
  have F1 : Fr h₀ L (sortedAll s.heap acc.toList out) m := F.kept fun _ _ => sortedAll_old
  have N1 : News h₀ L (sortedAll s.heap acc.toList out) ((s.heap.objs.size + 1, seqObj "list" out e) :: (Dl, lstObj acc cnt) :: keep) := N.kept_cons F (fun _ _ => sortedAll_old) (Nat.le_succ _) he
  have hls1 : Heap.IsList (sortedAll s.heap acc.toList out) (s.heap.objs.size + 1) out := N1.isList (List.mem_cons_self ..)
  have W := Walks.list (prog := prog) (w := w) (A := ktrTop dp un gd "_law_tiles" (defScope 8) L 63 (.ref 62) [] outer) rfl (sortedAll s.heap acc.toList out).objs.size (s.heap.objs.size + 1) (Nat.ne_of_lt (Heap.lt_size he)) out
  have hol : out.toList.length = ys.length := hys.length
  refine wpAny_pyIter_list hls1 ?_
  refine ⟨(sortedAll s.heap acc.toList out).objs.size, _, _, out.size, _, _, m, (Dl, lstObj acc cnt) :: keep,
    (fun i m₁ news₁ => ∃ place before, TilM m₁ S T lo hi place before ∧ Tiled S T lo hi place before (ys.drop i) ∧ news₁ = (Dl, lstObj acc cnt) :: keep), rfl, W, ?_, ?_, ?_,
    ⟨⟨_, Heap.get?_push_size _ rfl, rfl, rfl⟩, hls1.at fun o e => Heap.get?_push_of_some _ e⟩, F1.push _, fun p hp => ⟨Heap.get?_push_of_some _ (N1 p (List.mem_cons_of_mem _ hp)).1, (N1 p (List.mem_cons_of_mem _ hp)).2⟩, (fun i s' v Q' st hQ' => letGo_listiter st.1 hQ'),
    ⟨lo, -1, H, by simpa using hti, rfl⟩, ?_, ?_⟩
  · intro hm
    rcases List.mem_cons.mp hm with e1 | e1
    · exact absurd F1.ns.lt (e1 ▸ Nat.lt_irrefl _)
    · have e2 : L = s.heap.objs.size + 1 := List.mem_singleton.mp e1
      exact absurd F.ns.lt (Nat.not_lt.mpr (e2 ▸ Nat.le_succ _))
  · intro b hb
    rw [List.mem_singleton.mp hb]
    exact next_is_new F1
  · intro q hq hI
    exact absurd (Heap.lt_size (N1 q (List.mem_cons_of_mem _ hq)).1) ((List.mem_singleton.mp hI) ▸ Nat.lt_irrefl _)
  · rintro i v m₁ news₁ s₁ own hi' hPv ⟨place, before, hTil, hTd, rfl⟩ hoff hsub hat hmem hst' F₁ N₁
    have hv : out.toList[i]? = some v := by rw [Array.getElem?_toList]; exact hPv
    obtain ⟨x, hx, hix⟩ := hys.get hv
    have hd : ys.drop i = x :: ys.drop (i + 1) := by
      obtain ⟨hlt, rfl⟩ := List.getElem?_eq_some_iff.mp hx
      exact List.drop_eq_getElem_cons hlt
    rw [hd] at hTd
    obtain ⟨⟨b1, b2, b3, b4, b5, b6, b7, b8, b9, b10⟩, hTd'⟩ := hTd
    obtain ⟨x1, x2, x3⟩ := x
    obtain ⟨D, u1, u2, u3, rfl, hD⟩ := hix
    refine turn_ok B X T' hdp hun F₁ N₁ hTil ⟨_, F₁.keep _ _ hD, rfl, _, rfl⟩ hlo hhi hS1 hS hT0 hT2 b3 b4 b1 b2 b5 b6 b7 b8 b9 b10 fun h' tk' m' F' hTil' N' => ?_
    exact LoopStepU.intro F' N' hoff ⟨_, _, hTil', hTd', rfl⟩
  · rintro h' tk' m' news' F' N' hoff ⟨place, before, hTil, hTd, rfl⟩
    have hz : ys.drop out.size = [] := by
      rw [List.drop_eq_nil_iff, ← hol]; simp
    rw [hz] at hTd
    have hp : place = hi + 1 := hTd
    subst hp
    exact hQ h' tk' m' before F' hTil N'
end
end Mine
end

section
namespace Mine
theorem tiles_ok {prog : Program} {w : World} {p : Program} {loose : List Str} {mean : ExcName → Option Value} {mg mb : Str → Option Value}
    {dp un : Nat} {gd : Option (List Code)} {cn : Str} {cs : Scope} {a : Addr} {ccd : Value} {cl : List (Str × Addr)} {outer : List Env} {A₀ : Around} {base h₀ : Heap} {L : Addr} {m : Str → Option Value} {keep : List (Addr × Obj)} {s : Shared}
    {S T lo hi : Int} {t1 t2 t3 t4 : Tok} {Dl : Addr} {acc : Array Value} {cnt : Nat} {xs : List (Int × Int × Int)} {Q : Value → Shared → Prop} {E : Value → Shared → Prop}
    (B : Below A₀ base outer h₀) (F : Fr h₀ L s.heap m) (X : (hd.heap_39 w.params).In h₀) (N : News h₀ L s.heap ((Dl, lstObj acc cnt) :: keep)) (T' : Top p loose mean mg mb h₀) (hk : cs.kind = .function) (hdp : dp + 2 < recursionLimit) (hun : un + 11 < cLine)
    (hT : TupsAt s.heap acc.toList xs) (hkp : ∀ q ∈ keep, ∀ y z u t v r, q.2 ≠ tupObj y z u t v r) (hN : NestL xs) (hlen : xs.length ≤ 1000) (tiled : ∀ ys, ys.Perm xs → ys.Pairwise (fun x y => x.1 < y.1) → Tiled S T lo hi lo (-1) ys)
    (hlo : Builtin.Int.intBits lo ≤ 100) (hhi : Builtin.Int.intBits hi ≤ 100) (hS1 : 1 ≤ S) (hS : S ≤ 70) (hT0 : 0 ≤ T) (hT2 : T ≤ 64)
    (hret : ∀ h' tk, Fr h₀ L h' m → News h₀ L h' ((Dl, lstObj acc cnt) :: keep) → Q (.bool true) { s with heap := h', toks := tk }) :
    wpAny (model prog w) (ktrTop dp un gd cn cs L a ccd cl outer) (call (.ref 63) [.ref Dl, .int S t1, .int T t2, .int lo t3, .int hi t4]) Q E s := by
  have dummy : (PySem.Challenge.rw_iu0045_01 = PySem.Challenge.rw_iu0045_01 ∧ hd.heap_39 = hd.heap_39) := by (k_fill; exact ⟨rfl, rfl⟩)
  clear dummy
  refine wpAny_call ?_
  refine' code_def2 B F X N T' ?kA ?kF ?kK ?ho ?hcd ?room ?bind ?loc ?_ ?co ?gen ?kf ?cell
  case kA => exact rfl
  case kF => exact rfl
  case kK => exact hk
  case ho => k_is
  case hcd => k_is
  case room => exact Nat.lt_of_succ_lt (Nat.lt_of_succ_lt hdp)
  case bind => exact BindsTo.of_eq rfl
  case loc => exact locs rfl
  case co => rfl
  case gen => rfl
  case kf => rfl
  case cell => decide
  intro g L' h' FG gk F' N' lt B' X' T''
  have hTg : TupsAt g acc.toList xs := hT.kept fun b o e ⟨y, z, u, t, v, r, ht⟩ => gk b o e fun q hq hb => by
    rcases List.mem_cons.mp hq with rfl | hq'
    · have := (N _ hq).1
      rw [hb, e, ht] at this
      simp at this
    · have := (N _ hq).1
      rw [hb, e] at this
      exact hkp q hq' y z u t v r ((Option.some.inj this).symm.trans ht)
  have hdp' : dp + 1 + 1 < recursionLimit := hdp
  have hun' : un + 3 + 8 < cLine := hun
  show wpAny _ (ktrTop (dp + 1) (un + 3) gd "_law_tiles" (defScope 8) L' 63 (.ref 62) [] (envX cn cs L a ccd cl :: outer)) (execs [tStmt 0, tStmt 1, tStmt 2] (tEnv L')) _ _ _
  refine wpAny_execs_cons (t_head B' X' T'' hdp' hun' (S := S) (T := T) (lo := lo) (hi := hi) (D := Dl) F' N' rfl rfl rfl rfl rfl fun h1 tk1 m1 F1 H1 e1 N1 => ?_)
  refine wpAny_execs_cons (t_loop B' X' T'' hdp' hun' F1 N1 H1 e1 hTg hN hlen tiled hlo hhi hS1 hS hT0 hT2 PassesOwn.leaving fun h2 tk2 m2 before F2 H2 N2 => ?_)
  refine wpAny_execs_cons (t_tail B' X' T'' hdp' hun' F2 N2 H2 rfl fun tk3 => ?_)
  exact leaveK_ F2 N2 fun F3 N3 => hret _ _ F3 N3
end Mine
end

section
namespace Mine
theorem nat_and_mask (s k t : Nat) : (s * 2 ^ k) &&& ((2 ^ t - 1) * 2 ^ k) = (s % 2 ^ t) * 2 ^ k := by
  rw [← Nat.shiftLeft_eq, ← Nat.shiftLeft_eq, ← Nat.shiftLeft_and_distrib, Nat.and_two_pow_sub_one_eq_mod, Nat.shiftLeft_eq]
theorem nat_sub_and (N M : Nat) : N - (N &&& M) = N ^^^ (N &&& M) := by
  have h1 := nat_or_add_and (N &&& M) (N ^^^ (N &&& M))
  have h2 : (N &&& M) &&& (N ^^^ (N &&& M)) = 0 := by
    apply Nat.eq_of_testBit_eq
    intro i
    simp only [Nat.testBit_and, Nat.testBit_xor, Nat.zero_testBit]
    cases N.testBit i <;> cases M.testBit i <;> rfl
  have h3 : (N &&& M) ||| (N ^^^ (N &&& M)) = N := by
    apply Nat.eq_of_testBit_eq
    intro i
    simp only [Nat.testBit_and, Nat.testBit_xor, Nat.testBit_or]
    cases N.testBit i <;> cases M.testBit i <;> rfl
  omega
theorem nat_clear (x M n : Nat) (h : x < 2 ^ n) : x &&& ((2 ^ n - 1) - ((2 ^ n - 1) &&& M)) = x - (x &&& M) := by
  rw [nat_sub_and, nat_sub_and]
  have hx : ∀ i, x.testBit i = true → (2 ^ n - 1).testBit i = true := fun i hi => by
    rw [Nat.testBit_two_pow_sub_one]
    by_cases hn : i < n
    · exact decide_eq_true hn
    · have : x.testBit i = false := Nat.testBit_lt_two_pow (Nat.lt_of_lt_of_le h (Nat.pow_le_pow_right (by decide) (by omega)))
      rw [this] at hi; cases hi
  apply Nat.eq_of_testBit_eq
  intro i
  simp only [Nat.testBit_and, Nat.testBit_xor]
  have := hx i
  cases hxi : x.testBit i
  · simp
  · rw [this hxi]; simp
theorem maskE (k t : Nat) : ((1 : Int) * 2 ^ ((t : Int)).toNat - 1) * 2 ^ ((k : Int)).toNat = (((2 ^ t - 1) * 2 ^ k : Nat) : Int) := by
  have h : 1 ≤ 2 ^ t := Nat.one_le_two_pow
  rw [Int.natCast_mul, Int.natCast_sub h, Int.natCast_pow, Int.natCast_pow, Int.toNat_natCast, Int.toNat_natCast, Int.one_mul]
  rfl
theorem andE (x y : Nat) : Builtin.bitAnd (x : Int) (y : Int) = ((x &&& y : Nat) : Int) := by
  rw [bitAnd_pp (Int.natCast_nonneg _) (Int.natCast_nonneg _)]; rfl
theorem gHL_eq (s k t : Nat) : gHL k t ((s * 2 ^ k : Nat) : Int) = decide (s % 2 ^ t ≠ 0) := by
  unfold gHL
  rw [maskE, andE, nat_and_mask]
  have hp : 0 < 2 ^ k := Nat.two_pow_pos k
  by_cases h : s % 2 ^ t = 0
  · rw [h]; simp
  · have : s % 2 ^ t * 2 ^ k ≠ 0 := Nat.mul_ne_zero h (by omega)
    simp only [h, ne_eq, not_false_eq_true, decide_true]
    simp only [bne_iff_ne, ne_eq]
    omega
theorem gHU_eq (e k t : Nat) : gHU k t ((e * 2 ^ k : Nat) : Int) = decide (e % 2 ^ t ≠ 2 ^ t - 1) := by
  unfold gHU
  rw [maskE, andE, nat_and_mask]
  have hp : 0 < 2 ^ k := Nat.two_pow_pos k
  by_cases h : e % 2 ^ t = 2 ^ t - 1
  · rw [h]; simp
  · have : e % 2 ^ t * 2 ^ k ≠ (2 ^ t - 1) * 2 ^ k := fun c => h (Nat.eq_of_mul_eq_mul_right hp c)
    simp only [h, ne_eq, not_false_eq_true, decide_true]
    simp only [bne_iff_ne, ne_eq]
    omega
theorem notE (k t S x : Nat) (hx : x < 2 ^ (S + 1)) : Builtin.bitAnd (x : Int) (gNot k t S) = ((x - (x &&& ((2 ^ t - 1) * 2 ^ k)) : Nat) : Int) := by
  unfold gNot
  rw [maskE]
  have h1 : ((1 : Int) * 2 ^ ((S : Int) + 1).toNat - 1) = ((2 ^ (S + 1) - 1 : Nat) : Int) := by
    have h : 1 ≤ 2 ^ (S + 1) := Nat.one_le_two_pow
    rw [Int.natCast_sub h, Int.natCast_pow, Int.one_mul, show ((S : Int) + 1).toNat = S + 1 by omega]
    rfl
  rw [h1, bitAnd_comm (Builtin.bitNot _), bitAnd_not, andE]
  have hle : ((2 ^ (S + 1) - 1) &&& ((2 ^ t - 1) * 2 ^ k)) ≤ 2 ^ (S + 1) - 1 := Nat.and_le_left
  rw [show (((2 ^ (S + 1) - 1 : Nat) : Int) - (((2 ^ (S + 1) - 1) &&& ((2 ^ t - 1) * 2 ^ k) : Nat) : Int)) = (((2 ^ (S + 1) - 1) - ((2 ^ (S + 1) - 1) &&& ((2 ^ t - 1) * 2 ^ k)) : Nat) : Int) by omega]
  rw [andE, nat_clear _ _ _ hx]
theorem not_mul (q r k t S : Nat) (hr : r < 2 ^ t) (hx : (q * 2 ^ t + r) * 2 ^ k < 2 ^ (S + 1)) : Builtin.bitAnd (((q * 2 ^ t + r) * 2 ^ k : Nat) : Int) (gNot k t S) = ((q * 2 ^ (k + t) : Nat) : Int) := by
  rw [notE _ _ _ _ hx, nat_and_mask]
  congr 1
  rw [show (q * 2 ^ t + r) % 2 ^ t = r by rw [Nat.mul_comm, Nat.mul_add_mod, Nat.mod_eq_of_lt hr], Nat.add_mul, Nat.pow_add, Nat.mul_assoc, Nat.mul_comm (2 ^ k)]
  omega
theorem setE (x k : Nat) : gSet k ((x * 2 ^ k : Nat) : Int) = (((x + 1) * 2 ^ k : Nat) : Int) - 1 := by
  unfold gSet
  have h : 1 ≤ 2 ^ k := Nat.one_le_two_pow
  have h1 : ((1 : Int) * 2 ^ ((k : Int)).toNat - 1) = ((2 ^ k - 1 : Nat) : Int) := by
    rw [Int.natCast_sub h, Int.natCast_pow, Int.one_mul, Int.toNat_natCast]; rfl
  rw [h1, bitOr_and, andE, Nat.and_two_pow_sub_one_eq_mod, Nat.mul_mod_left, Nat.add_mul]
  omega
theorem orE (q r k t : Nat) (hr : r < 2 ^ t) : Builtin.bitOr (((q * 2 ^ t + r) * 2 ^ k : Nat) : Int) (gMask k t) = (((q * 2 ^ t + (2 ^ t - 1)) * 2 ^ k : Nat) : Int) := by
  unfold gMask
  rw [maskE, bitOr_and, andE, nat_and_mask, show (q * 2 ^ t + r) % 2 ^ t = r by rw [Nat.mul_comm, Nat.mul_add_mod, Nat.mod_eq_of_lt hr], Nat.add_mul, Nat.add_mul]
  omega
end Mine
end

section
namespace Mine
noncomputable def TiledTo (S T lo hi : Int) : Int → Int → List (Int × Int × Int) → Int → Int → Prop
  | p, b, [], p', b' => p = p' ∧ b = b'
  | p, b, x :: l, p', b' => turnOk S T lo hi p b x ∧ TiledTo S T lo hi (x.2.1 + 1) x.2.2 l p' b'
theorem TiledTo.app {S T lo hi : Int} : ∀ {l1 l2 : List (Int × Int × Int)} {p b p1 b1 p2 b2 : Int}, TiledTo S T lo hi p b l1 p1 b1 → TiledTo S T lo hi p1 b1 l2 p2 b2 → TiledTo S T lo hi p b (l1 ++ l2) p2 b2
  | [], l2, p, b, p1, b1, p2, b2, h, h' => by obtain ⟨rfl, rfl⟩ := h; exact h'
  | x :: l1, l2, p, b, p1, b1, p2, b2, h, h' => ⟨h.1, TiledTo.app h.2 h'⟩
theorem TiledTo.tiled {S T lo hi : Int} : ∀ {l : List (Int × Int × Int)} {p b b' : Int}, TiledTo S T lo hi p b l (hi + 1) b' → Tiled S T lo hi p b l
  | [], p, b, b', h => h.1
  | x :: l, p, b, b', h => ⟨h.1, TiledTo.tiled h.2⟩
theorem sorted_uniq : ∀ {xs ys : List (Int × Int × Int)}, xs.Perm ys → xs.Pairwise (fun x y => x.1 < y.1) → ys.Pairwise (fun x y => x.1 < y.1) → xs = ys
  | [], ys, p, _, _ => p.nil_eq
  | x :: xs, [], p, _, _ => by simpa using p.symm.nil_eq
  | x :: xs, y :: ys, p, hx, hy => by
    have e : x = y := by
      have m1 : x ∈ y :: ys := p.mem_iff.mp (by simp)
      have m2 : y ∈ x :: xs := p.mem_iff.mpr (by simp)
      rcases List.mem_cons.mp m1 with h | h
      · exact h
      · rcases List.mem_cons.mp m2 with h' | h'
        · exact h'.symm
        · have a := (List.pairwise_cons.mp hy).1 x h
          have b := (List.pairwise_cons.mp hx).1 y h'
          lia
    subst e
    rw [sorted_uniq ((List.perm_cons x).mp p) (List.pairwise_cons.mp hx).2 (List.pairwise_cons.mp hy).2]
theorem fdiv_is {a D X : Int} (hD : 0 < D) (h1 : X * D ≤ a) (h2 : a < (X + 1) * D) : a.fdiv D = X := by
  rw [Int.fdiv_eq_ediv_of_nonneg _ (Int.le_of_lt hD)]
  have := Int.le_ediv_of_mul_le hD h1
  have := Int.ediv_lt_of_lt_mul hD h2
  lia
theorem fmod_mul (a : Nat) (k : Nat) : (((a * 2 ^ k : Nat) : Int)).fmod (2 ^ ((k : Int)).toNat) = 0 := by
  rw [Int.natCast_mul, Int.natCast_pow, Int.toNat_natCast]
  exact Int.mul_fmod_left _ _
theorem fmod_sh (k t : Nat) (h : t ∣ k) : ((k : Int)).fmod (t : Int) = 0 := by
  obtain ⟨j, rfl⟩ := h
  rw [Int.natCast_mul, Int.mul_comm]
  exact Int.mul_fmod_left _ _
/-- the blocks of the next size: where they begin and end -/
theorem wideE {k t lo hi s e : Nat} (h1 : lo ≤ s * 2 ^ (k + t)) (h2 : s * 2 ^ (k + t) < lo + 2 ^ (k + t)) (h3 : e * 2 ^ (k + t) ≤ hi + 1) (h4 : hi + 1 < (e + 1) * 2 ^ (k + t)) :
    ((lo : Int) + 2 ^ ((k : Int)).toNat * 2 ^ ((t : Int)).toNat - 1).fdiv (2 ^ ((k : Int)).toNat * 2 ^ ((t : Int)).toNat) * (2 ^ ((k : Int)).toNat * 2 ^ ((t : Int)).toNat) = ((s * 2 ^ (k + t) : Nat) : Int) ∧
    ((hi : Int) + 1).fdiv (2 ^ ((k : Int)).toNat * 2 ^ ((t : Int)).toNat) * (2 ^ ((k : Int)).toNat * 2 ^ ((t : Int)).toNat) = ((e * 2 ^ (k + t) : Nat) : Int) := by
  have eD : ((2 : Int) ^ ((k : Int)).toNat * 2 ^ ((t : Int)).toNat) = ((2 ^ (k + t) : Nat) : Int) := by
    rw [Int.toNat_natCast, Int.toNat_natCast, ← Int.pow_add, Int.natCast_pow]; rfl
  rw [eD]
  have hp : 0 < 2 ^ (k + t) := Nat.two_pow_pos _
  generalize 2 ^ (k + t) = D at *
  constructor
  · rw [fdiv_is (X := (s : Int)) (by lia) (by rw [← Int.natCast_mul]; lia) (by rw [Int.add_mul, ← Int.natCast_mul]; lia), Int.natCast_mul]
  · have h4' : hi + 1 < e * D + D := by rw [Nat.add_mul] at h4; lia
    rw [fdiv_is (X := (e : Int)) (by lia) (by rw [← Int.natCast_mul]; lia) (by rw [Int.add_mul, ← Int.natCast_mul]; lia), Int.natCast_mul]
/-- one tier of whole blocks in its place -/
theorem turn_is {S t k lo hi u v : Nat} {p b : Int} (ht : 1 ≤ t) (hk : t ∣ k) (hkS : k < S) (huv : u < v) (hp : ((u * 2 ^ k : Nat) : Int) = p) (hb : b < k ∨ (k : Int) < b)
    (hw : k + t < S → ∃ s e : Nat, lo ≤ s * 2 ^ (k + t) ∧ s * 2 ^ (k + t) < lo + 2 ^ (k + t) ∧ e * 2 ^ (k + t) ≤ hi + 1 ∧ hi + 1 < (e + 1) * 2 ^ (k + t) ∧ (e ≤ s ∨ v * 2 ^ k ≤ s * 2 ^ (k + t) ∨ e * 2 ^ (k + t) ≤ u * 2 ^ k)) :
    turnOk S t lo hi p b (p, ((v * 2 ^ k : Nat) : Int) - 1, (k : Int)) := by
  have hB : 0 < 2 ^ k := Nat.two_pow_pos _
  have huv' : u * 2 ^ k < v * 2 ^ k := (Nat.mul_lt_mul_right hB).mpr huv
  refine ⟨rfl, ?_, Int.natCast_nonneg _, by show (k : Int) < S; lia, ?_, ?_, ?_, fun _ => fmod_sh k t hk, fun h => ?_, fun _ hkt => ?_⟩
  · show p ≤ ((v * 2 ^ k : Nat) : Int) - 1
    lia
  · show p.fmod _ = 0
    rw [← hp]; exact fmod_mul u k
  · show (((v * 2 ^ k : Nat) : Int) - 1 + 1).fmod _ = 0
    rw [Int.sub_add_cancel]; exact fmod_mul v k
  · show (k : Int) ≠ b
    lia
  · exact absurd (show (0 : Int) < t by lia) h
  · have hkt' : k + t < S := by
      have : (k : Int) + t < S := hkt
      lia
    obtain ⟨s, e, h1, h2, h3, h4, h5⟩ := hw hkt'
    obtain ⟨w1, w2⟩ := wideE h1 h2 h3 h4
    show ¬ (_ ∧ p < _ ∧ _ ≤ ((v * 2 ^ k : Nat) : Int) - 1)
    show ¬ (((lo : Int) + 2 ^ ((k : Int)).toNat * 2 ^ ((t : Int)).toNat - 1).fdiv (2 ^ ((k : Int)).toNat * 2 ^ ((t : Int)).toNat) * (2 ^ ((k : Int)).toNat * 2 ^ ((t : Int)).toNat) < ((hi : Int) + 1).fdiv (2 ^ ((k : Int)).toNat * 2 ^ ((t : Int)).toNat) * (2 ^ ((k : Int)).toNat * 2 ^ ((t : Int)).toNat) ∧
      p < ((hi : Int) + 1).fdiv (2 ^ ((k : Int)).toNat * 2 ^ ((t : Int)).toNat) * (2 ^ ((k : Int)).toNat * 2 ^ ((t : Int)).toNat) ∧
      ((lo : Int) + 2 ^ ((k : Int)).toNat * 2 ^ ((t : Int)).toNat - 1).fdiv (2 ^ ((k : Int)).toNat * 2 ^ ((t : Int)).toNat) * (2 ^ ((k : Int)).toNat * 2 ^ ((t : Int)).toNat) ≤ ((v * 2 ^ k : Nat) : Int) - 1)
    rw [w1, w2]
    rintro ⟨c1, c2, c3⟩
    rcases h5 with h5 | h5 | h5
    · have : e * 2 ^ (k + t) ≤ s * 2 ^ (k + t) := Nat.mul_le_mul_right _ h5
      lia
    · lia
    · lia
end Mine
end

section
namespace Mine
/-- what is told of the tiers from p up to p' whose levels are k and above -/
structure Told (S T lo hi : Int) (k p p' : Int) (n : Nat) (all srt : List (Int × Int × Int)) : Prop where
  perm : srt.Perm all
  len : all.length ≤ n
  nest : NestL all
  bnd : ∀ x ∈ all, p ≤ x.1 ∧ x.1 < p'
  asc : srt.Pairwise (fun x y => x.1 < y.1)
  tiles : ∀ bf : Int, bf < k → ∃ bf' : Int, k ≤ bf' ∧ TiledTo S T lo hi p bf srt p' bf'
theorem Told.join {S T lo hi k k' p0 p1 p2 p3 : Int} {n : Nat} {lw up rl rs : List (Int × Int × Int)} (hk : k < k') (h12 : p1 < p2)
    (hl : (lw = [] ∧ p0 = p1) ∨ (∃ x, lw = [x] ∧ x.1 = p0 ∧ p0 < p1 ∧ x.2.1 + 1 = p1 ∧ x.2.2 = k ∧ ∀ bf, bf < k → turnOk S T lo hi p0 bf x))
    (hu : (up = [] ∧ p2 = p3) ∨ (∃ x, up = [x] ∧ x.1 = p2 ∧ p2 < p3 ∧ x.2.1 + 1 = p3 ∧ x.2.2 = k ∧ ∀ bf, k < bf → turnOk S T lo hi p2 bf x))
    (R : Told S T lo hi k' p1 p2 n rl rs) : Told S T lo hi k p0 p3 (n + 2) (lw ++ (up ++ rl)) (lw ++ rs ++ up) := by
  have hll : lw.length ≤ 1 := by rcases hl with ⟨rfl, _⟩ | ⟨x, rfl, _⟩ <;> simp
  have hul : up.length ≤ 1 := by rcases hu with ⟨rfl, _⟩ | ⟨x, rfl, _⟩ <;> simp
  have h01 : p0 ≤ p1 := by rcases hl with ⟨_, h⟩ | ⟨x, _, _, h, _⟩ <;> lia
  have h23 : p2 ≤ p3 := by rcases hu with ⟨_, h⟩ | ⟨x, _, _, h, _⟩ <;> lia
  have ml : ∀ x ∈ lw, x.1 = p0 ∧ p0 < p1 := fun x hx => by
    rcases hl with ⟨rfl, _⟩ | ⟨y, rfl, e1, e2, _⟩
    · simp at hx
    · simp at hx; subst hx; exact ⟨e1, e2⟩
  have mu : ∀ x ∈ up, x.1 = p2 ∧ p2 < p3 := fun x hx => by
    rcases hu with ⟨rfl, _⟩ | ⟨y, rfl, e1, e2, _⟩
    · simp at hx
    · simp at hx; subst hx; exact ⟨e1, e2⟩
  refine ⟨?_, ?_, ?_, ?_, ?_, ?_⟩
  · rw [List.append_assoc]
    exact List.Perm.append (.refl _) ((List.perm_append_comm).trans (List.Perm.append (.refl _) R.perm))
  · have := R.len
    simp only [List.length_append]; lia
  · have nu : NestL (up ++ rl) := by
      rcases hu with ⟨rfl, _⟩ | ⟨y, rfl, e1, e2, _⟩
      · exact R.nest
      · exact ⟨.inr fun z hz => by have := (R.bnd z hz).2; lia, R.nest⟩
    rcases hl with ⟨rfl, _⟩ | ⟨x, rfl, e1, e2, _⟩
    · exact nu
    · refine ⟨.inl fun z hz => ?_, nu⟩
      rcases List.mem_append.mp (show z ∈ up ++ rl from hz) with hz | hz
      · have := mu z hz; lia
      · have := R.bnd z hz; lia
  · intro x hx
    rcases List.mem_append.mp hx with hx | hx
    · have := ml x hx; lia
    · rcases List.mem_append.mp hx with hx | hx
      · have := mu x hx; lia
      · have := R.bnd x hx; lia
  · have mr : ∀ x ∈ rs, p1 ≤ x.1 ∧ x.1 < p2 := fun x hx => R.bnd x (R.perm.mem_iff.mp hx)
    rw [List.pairwise_append, List.pairwise_append]
    refine ⟨⟨?_, R.asc, fun x hx y hy => ?_⟩, ?_, fun x hx y hy => ?_⟩
    · rcases hl with ⟨rfl, _⟩ | ⟨x, rfl, _⟩ <;> simp
    · have := ml x hx; have := mr y hy; lia
    · rcases hu with ⟨rfl, _⟩ | ⟨x, rfl, _⟩ <;> simp
    · have := mu y hy
      rcases List.mem_append.mp hx with hx | hx
      · have := ml x hx; lia
      · have := mr x hx; lia
  · intro bf hbf
    obtain ⟨b1, hb1, t1⟩ : ∃ b1, b1 < k' ∧ TiledTo S T lo hi p0 bf lw p1 b1 := by
      rcases hl with ⟨rfl, e⟩ | ⟨x, rfl, e1, e2, e3, e4, e5⟩
      · exact ⟨bf, by lia, e, rfl⟩
      · exact ⟨k, hk, e5 bf hbf, e3, e4⟩
    obtain ⟨b2, hb2, t2⟩ := R.tiles b1 hb1
    obtain ⟨b3, hb3, t3⟩ : ∃ b3, k ≤ b3 ∧ TiledTo S T lo hi p2 b2 up p3 b3 := by
      rcases hu with ⟨rfl, e⟩ | ⟨x, rfl, e1, e2, e3, e4, e5⟩
      · exact ⟨b2, by lia, e, rfl⟩
      · exact ⟨k, Int.le_refl _, e5 b2 (by lia), e3, e4⟩
    exact ⟨b3, hb3, (t1.app t2).app t3⟩
theorem Told.one {S T lo hi k p p' : Int} {n : Nat} {x : Int × Int × Int} (h1 : x.1 = p) (h2 : p < p') (h3 : x.2.1 + 1 = p') (h4 : x.2.2 = k) (h5 : ∀ bf, bf < k → turnOk S T lo hi p bf x) (hn : 1 ≤ n) : Told S T lo hi k p p' n [x] [x] :=
  ⟨.refl _, by simpa using hn, ⟨.inl (by simp), trivial⟩, fun y hy => by simp at hy; subst hy; lia, by simp, fun bf hbf => ⟨k, Int.le_refl _, h5 bf hbf, h3, h4⟩⟩
theorem tiers_exist {S t lo hi : Nat} (ht : 1 ≤ t) (hS : S ≤ 70) (hhi : hi < 2 ^ S) (hbits : ∀ k, t ∣ k → k < S → 2 ^ k ≤ hi + 1) :
    ∀ n k s e, S ≤ k + n → t ∣ k → k < S → s ≤ e → lo ≤ s * 2 ^ k → s * 2 ^ k < lo + 2 ^ k → (e + 1) * 2 ^ k ≤ hi + 1 → hi + 1 < (e + 2) * 2 ^ k →
    ∃ all srt, Tiers S t k ((s * 2 ^ k : Nat) : Int) ((e * 2 ^ k : Nat) : Int) all ∧ Told S t lo hi k ((s * 2 ^ k : Nat) : Int) (((e + 1) * 2 ^ k : Nat) : Int) (2 * n + 1) all srt
  | 0, k, s, e, h1, _, h2, _, _, _, _, _ => by lia
  | n + 1, k, s, e, h1, hd, hkS, hse, hl1, hl2, hh1, hh2 => by
    have hB : 0 < 2 ^ k := Nat.two_pow_pos k
    have hlt : s * 2 ^ k < (e + 1) * 2 ^ k := (Nat.mul_lt_mul_right hB).mpr (by lia)
    have stop : (S ≤ k + t ∨ gNE k t S ((e * 2 ^ k : Nat) : Int) < gNS k t S ((s * 2 ^ k : Nat) : Int)) →
        (k + t < S → ∃ s' e' : Nat, lo ≤ s' * 2 ^ (k + t) ∧ s' * 2 ^ (k + t) < lo + 2 ^ (k + t) ∧ e' * 2 ^ (k + t) ≤ hi + 1 ∧ hi + 1 < (e' + 1) * 2 ^ (k + t) ∧ (e' ≤ s' ∨ (e + 1) * 2 ^ k ≤ s' * 2 ^ (k + t) ∨ e' * 2 ^ (k + t) ≤ s * 2 ^ k)) →
        ∃ all srt, Tiers S t k ((s * 2 ^ k : Nat) : Int) ((e * 2 ^ k : Nat) : Int) all ∧ Told S t lo hi k ((s * 2 ^ k : Nat) : Int) (((e + 1) * 2 ^ k : Nat) : Int) (2 * (n + 1) + 1) all srt := fun hc hw => by
      refine ⟨_, _, .stop (hc.imp (fun h => by lia) id), Told.one (x := (_, gSet k ((e * 2 ^ k : Nat) : Int), _)) rfl (by lia) ?_ rfl (fun bf hbf => ?_) (by lia)⟩
      · show gSet k ((e * 2 ^ k : Nat) : Int) + 1 = _
        rw [setE, Int.sub_add_cancel]
      · rw [setE]
        exact turn_is ht hd hkS (by lia) rfl (.inl hbf) hw
    by_cases hst : S ≤ k + t
    · exact stop (.inl hst) (fun h => by lia)
    have hkt : k + t < S := by lia
    have hWB : 2 ^ (k + t) = 2 ^ t * 2 ^ k := by rw [Nat.pow_add, Nat.mul_comm]
    have hW : 0 < 2 ^ t := Nat.two_pow_pos t
    have hdt : t ∣ k + t := (Nat.dvd_add_right hd).mpr (Nat.dvd_refl t)
    have hb := hbits (k + t) hdt hkt
    have hWe : 2 ^ t < e + 2 := by
      refine Nat.lt_of_mul_lt_mul_right (a := 2 ^ k) ?_
      rw [← hWB]; lia
    have hpow : 2 ^ (k + t) ≤ 2 ^ S := Nat.pow_le_pow_right (by decide) (by lia)
    have hS1 : 2 ^ (S + 1) = 2 * 2 ^ S := by rw [Nat.pow_succ, Nat.mul_comm]
    obtain ⟨q, r, hr, hs⟩ : ∃ q r, r < 2 ^ t ∧ s = q * 2 ^ t + r := ⟨s / 2 ^ t, s % 2 ^ t, Nat.mod_lt _ hW, by rw [Nat.mul_comm]; exact (Nat.div_add_mod _ _).symm⟩
    obtain ⟨q2, r2, hr2, he⟩ : ∃ q2 r2, r2 < 2 ^ t ∧ e = q2 * 2 ^ t + r2 := ⟨e / 2 ^ t, e % 2 ^ t, Nat.mod_lt _ hW, by rw [Nat.mul_comm]; exact (Nat.div_add_mod _ _).symm⟩
    have hsm : s % 2 ^ t = r := by rw [hs, Nat.mul_comm, Nat.mul_add_mod, Nat.mod_eq_of_lt hr]
    have hem : e % 2 ^ t = r2 := by rw [he, Nat.mul_comm, Nat.mul_add_mod, Nat.mod_eq_of_lt hr2]
    have hsB : s * 2 ^ k = q * 2 ^ (k + t) + r * 2 ^ k := by rw [hs, Nat.add_mul, hWB, Nat.mul_assoc]
    have heB : e * 2 ^ k = q2 * 2 ^ (k + t) + r2 * 2 ^ k := by rw [he, Nat.add_mul, hWB, Nat.mul_assoc]
    have hsS : s * 2 ^ k ≤ e * 2 ^ k := Nat.mul_le_mul_right _ hse
    have heS : e * 2 ^ k < 2 ^ S := by rw [Nat.add_mul] at hh1; lia
    -- the next start
    obtain ⟨s', hs1, hs2, hs3, hs4⟩ : ∃ s' : Nat, gNS k t S ((s * 2 ^ k : Nat) : Int) = ((s' * 2 ^ (k + t) : Nat) : Int) ∧ lo ≤ s' * 2 ^ (k + t) ∧ s' * 2 ^ (k + t) < lo + 2 ^ (k + t) ∧
        ((r = 0 ∧ s' * 2 ^ (k + t) = s * 2 ^ k) ∨ (r ≠ 0 ∧ s' = q + 1 ∧ s * 2 ^ k < s' * 2 ^ (k + t))) := by
      by_cases h0 : r = 0
      · refine ⟨q, ?_, ?_, ?_, .inl ⟨h0, ?_⟩⟩
        · unfold gNS
          rw [gHL_eq, hsm, h0]
          simp only [ne_eq, not_true_eq_false, decide_false, Bool.false_eq_true, if_false]
          rw [hs]
          exact not_mul q r k t S hr (by rw [← hs]; lia)
        · rw [hsB, h0] at hl1; lia
        · rw [hsB, h0] at hl2
          have : 2 ^ k ≤ 2 ^ (k + t) := Nat.pow_le_pow_right (by decide) (by lia)
          lia
        · rw [hsB, h0]; lia
      · have hr1 : 2 ^ k ≤ r * 2 ^ k := Nat.le_mul_of_pos_left _ (by lia)
        have hr3 : r * 2 ^ k < 2 ^ (k + t) := by rw [hWB]; exact (Nat.mul_lt_mul_right hB).mpr hr
        have hq1 : (q + 1) * 2 ^ (k + t) = q * 2 ^ (k + t) + 2 ^ (k + t) := by rw [Nat.add_mul, Nat.one_mul]
        refine ⟨q + 1, ?_, by lia, by lia, .inr ⟨h0, rfl, by lia⟩⟩
        unfold gNS
        rw [gHL_eq, hsm]
        simp only [ne_eq, h0, not_false_eq_true, decide_true, if_true]
        have e1 : ((s * 2 ^ k : Nat) : Int) + 1 * 2 ^ ((k : Int) + (t : Int)).toNat = ((((q + 1) * 2 ^ t + r) * 2 ^ k : Nat) : Int) := by
          have : ((k : Int) + (t : Int)).toNat = k + t := by lia
          rw [this, Int.one_mul, show ((2 : Int) ^ (k + t)) = ((2 ^ (k + t) : Nat) : Int) by rw [Int.natCast_pow]; rfl, ← Int.natCast_add]
          congr 1
          rw [Nat.add_mul ((q + 1) * 2 ^ t), Nat.mul_assoc, ← hWB]
          lia
        rw [e1]
        refine not_mul (q + 1) r k t S hr ?_
        rw [Nat.add_mul ((q + 1) * 2 ^ t), Nat.mul_assoc, ← hWB]
        lia
    obtain ⟨e', he1, he2, he3, he4⟩ : ∃ e' : Nat, gNE k t S ((e * 2 ^ k : Nat) : Int) = ((e' * 2 ^ (k + t) : Nat) : Int) ∧ (e' + 1) * 2 ^ (k + t) ≤ hi + 1 ∧ hi + 1 < (e' + 2) * 2 ^ (k + t) ∧
        ((r2 = 2 ^ t - 1 ∧ (e' + 1) * 2 ^ (k + t) = (e + 1) * 2 ^ k) ∨ (r2 ≠ 2 ^ t - 1 ∧ q2 = e' + 1 ∧ (e' + 1) * 2 ^ (k + t) < (e + 1) * 2 ^ k)) := by
      by_cases h0 : r2 = 2 ^ t - 1
      · have hx : r2 * 2 ^ k + 2 ^ k = 2 ^ (k + t) := by
          rw [hWB, ← Nat.succ_mul]; congr 1; lia
        have a1 : (q2 + 1) * 2 ^ (k + t) = q2 * 2 ^ (k + t) + 2 ^ (k + t) := by rw [Nat.add_mul, Nat.one_mul]
        have a2 : (q2 + 2) * 2 ^ (k + t) = q2 * 2 ^ (k + t) + 2 * 2 ^ (k + t) := by rw [Nat.add_mul]
        have a3 : (e + 1) * 2 ^ k = e * 2 ^ k + 2 ^ k := by rw [Nat.add_mul, Nat.one_mul]
        have a4 : (e + 2) * 2 ^ k = e * 2 ^ k + 2 * 2 ^ k := by rw [Nat.add_mul]
        have a5 : 2 ^ k ≤ 2 ^ (k + t) := Nat.pow_le_pow_right (by decide) (by lia)
        refine ⟨q2, ?_, by lia, by lia, .inl ⟨h0, by lia⟩⟩
        unfold gNE
        rw [gHU_eq, hem]
        simp only [ne_eq, h0, not_true_eq_false, decide_false, Bool.false_eq_true, if_false]
        rw [he]
        exact not_mul q2 r2 k t S hr2 (by rw [← he]; lia)
      · have hq : 1 ≤ q2 := by
          rcases Nat.eq_zero_or_pos q2 with h | h
          · rw [h] at he; lia
          · exact h
        obtain ⟨e', rfl⟩ : ∃ e', q2 = e' + 1 := ⟨q2 - 1, by lia⟩
        have a1 : (e' + 1) * 2 ^ (k + t) = e' * 2 ^ (k + t) + 2 ^ (k + t) := by rw [Nat.add_mul, Nat.one_mul]
        have a2 : (e' + 2) * 2 ^ (k + t) = e' * 2 ^ (k + t) + 2 * 2 ^ (k + t) := by rw [Nat.add_mul]
        have a3 : (e + 1) * 2 ^ k = e * 2 ^ k + 2 ^ k := by rw [Nat.add_mul, Nat.one_mul]
        have a4 : (e + 2) * 2 ^ k = e * 2 ^ k + 2 * 2 ^ k := by rw [Nat.add_mul]
        have a5 : (r2 + 2) * 2 ^ k ≤ 2 ^ (k + t) := by rw [hWB]; exact Nat.mul_le_mul_right _ (by lia)
        have a6 : (r2 + 2) * 2 ^ k = r2 * 2 ^ k + 2 * 2 ^ k := by rw [Nat.add_mul]
        refine ⟨e', ?_, by lia, by lia, .inr ⟨h0, rfl, by lia⟩⟩
        unfold gNE
        rw [gHU_eq, hem]
        simp only [ne_eq, h0, not_false_eq_true, decide_true, if_true]
        have e1 : ((e * 2 ^ k : Nat) : Int) - 1 * 2 ^ ((k : Int) + (t : Int)).toNat = (((e' * 2 ^ t + r2) * 2 ^ k : Nat) : Int) := by
          have : ((k : Int) + (t : Int)).toNat = k + t := by lia
          rw [this, Int.one_mul, show ((2 : Int) ^ (k + t)) = ((2 ^ (k + t) : Nat) : Int) by rw [Int.natCast_pow]; rfl]
          rw [Nat.add_mul (e' * 2 ^ t), Nat.mul_assoc, ← hWB]
          lia
        rw [e1]
        refine not_mul e' r2 k t S hr2 ?_
        rw [Nat.add_mul (e' * 2 ^ t), Nat.mul_assoc, ← hWB]
        lia
    by_cases hcmp : s' ≤ e'
    · obtain ⟨rl, rs, hT, R⟩ := tiers_exist ht hS hhi hbits n (k + t) s' e' (by lia) hdt hkt hcmp hs2 hs3 he2 he3
      have hle : s' * 2 ^ (k + t) ≤ e' * 2 ^ (k + t) := Nat.mul_le_mul_right _ hcmp
      have h12 : s' * 2 ^ (k + t) < (e' + 1) * 2 ^ (k + t) := by
        have : (e' + 1) * 2 ^ (k + t) = e' * 2 ^ (k + t) + 2 ^ (k + t) := by rw [Nat.add_mul, Nat.one_mul]
        have := Nat.two_pow_pos (k + t)
        lia
      have hng : ¬ ((S : Int) ≤ (k : Int) + (t : Int) ∨ gNE k t S ((e * 2 ^ k : Nat) : Int) < gNS k t S ((s * 2 ^ k : Nat) : Int)) := by
        rw [hs1, he1]; lia
      rw [Int.natCast_add, ← hs1, ← he1] at hT
      have hw0 : ∀ u v : Nat, ((v * 2 ^ k ≤ s' * 2 ^ (k + t)) ∨ ((e' + 1) * 2 ^ (k + t) ≤ u * 2 ^ k)) → (k + t < S → ∃ s e : Nat, lo ≤ s * 2 ^ (k + t) ∧ s * 2 ^ (k + t) < lo + 2 ^ (k + t) ∧ e * 2 ^ (k + t) ≤ hi + 1 ∧ hi + 1 < (e + 1) * 2 ^ (k + t) ∧ (e ≤ s ∨ v * 2 ^ k ≤ s * 2 ^ (k + t) ∨ e * 2 ^ (k + t) ≤ u * 2 ^ k)) :=
        fun u v h _ => ⟨s', e' + 1, hs2, hs3, he2, he3, .inr h⟩
      refine (fun (J : Told S t lo hi k ((s * 2 ^ k : Nat) : Int) (((e + 1) * 2 ^ k : Nat) : Int) (2 * n + 1 + 2)
          ((if gHL k t ((s * 2 ^ k : Nat) : Int) = true then [(((s * 2 ^ k : Nat) : Int), gSet k (Builtin.bitOr ((s * 2 ^ k : Nat) : Int) (gMask k t)), (k : Int))] else []) ++
            ((if gHU k t ((e * 2 ^ k : Nat) : Int) = true then [(Builtin.bitAnd ((e * 2 ^ k : Nat) : Int) (gNot k t S), gSet k ((e * 2 ^ k : Nat) : Int), (k : Int))] else []) ++ rl))
          ((if gHL k t ((s * 2 ^ k : Nat) : Int) = true then [(((s * 2 ^ k : Nat) : Int), gSet k (Builtin.bitOr ((s * 2 ^ k : Nat) : Int) (gMask k t)), (k : Int))] else []) ++ rs ++
            (if gHU k t ((e * 2 ^ k : Nat) : Int) = true then [(Builtin.bitAnd ((e * 2 ^ k : Nat) : Int) (gNot k t S), gSet k ((e * 2 ^ k : Nat) : Int), (k : Int))] else [])) ) => ⟨_, _, Tiers.go hng (by lia) hT, J⟩) ?_
      refine Told.join (k' := ((k + t : Nat) : Int)) (p1 := ((s' * 2 ^ (k + t) : Nat) : Int)) (p2 := (((e' + 1) * 2 ^ (k + t) : Nat) : Int)) (by lia) (by lia) ?_ ?_ R
      · rcases hs4 with ⟨h0, e1⟩ | ⟨h0, e1, e2⟩
        · left
          refine ⟨?_, by omega⟩
          rw [gHL_eq, hsm, h0]; simp
        · right
          have ev : ((q + 1) * 2 ^ t) * 2 ^ k = s' * 2 ^ (k + t) := by rw [Nat.mul_assoc, ← hWB, ← e1]
          have ex : gSet k (Builtin.bitOr ((s * 2 ^ k : Nat) : Int) (gMask k t)) = ((((q + 1) * 2 ^ t) * 2 ^ k : Nat) : Int) - 1 := by
            rw [hs, orE q r k t hr, setE, show q * 2 ^ t + (2 ^ t - 1) + 1 = (q + 1) * 2 ^ t by rw [Nat.add_mul q 1]; lia]
          refine ⟨(((s * 2 ^ k : Nat) : Int), gSet k (Builtin.bitOr ((s * 2 ^ k : Nat) : Int) (gMask k t)), (k : Int)), ?_, rfl, by lia, ?_, rfl, fun bf hbf => ?_⟩
          · rw [gHL_eq, hsm]; simp [h0]
          · show gSet k (Builtin.bitOr ((s * 2 ^ k : Nat) : Int) (gMask k t)) + 1 = _
            rw [ex, ev, Int.sub_add_cancel]
          · rw [ex]
            refine turn_is ht hd hkS ?_ rfl (.inl hbf) (hw0 _ _ (.inl (Nat.le_of_eq ev)))
            rw [hs, Nat.add_mul q 1]; lia
      · rcases he4 with ⟨h0, e1⟩ | ⟨h0, e1, e2⟩
        · left
          refine ⟨?_, by omega⟩
          rw [gHU_eq, hem, h0]; simp
        · right
          have ev : (q2 * 2 ^ t) * 2 ^ k = (e' + 1) * 2 ^ (k + t) := by rw [Nat.mul_assoc, ← hWB, e1]
          have ex : Builtin.bitAnd ((e * 2 ^ k : Nat) : Int) (gNot k t S) = (((e' + 1) * 2 ^ (k + t) : Nat) : Int) := by
            rw [he, not_mul q2 r2 k t S hr2 (by rw [← he]; lia), e1]
          refine ⟨(Builtin.bitAnd ((e * 2 ^ k : Nat) : Int) (gNot k t S), gSet k ((e * 2 ^ k : Nat) : Int), (k : Int)), ?_, ex, by lia, ?_, rfl, fun bf hbf => ?_⟩
          · rw [gHU_eq, hem]; simp [h0]
          · show gSet k ((e * 2 ^ k : Nat) : Int) + 1 = _
            rw [setE, Int.sub_add_cancel]
          · rw [ex, setE]
            refine turn_is (u := q2 * 2 ^ t) ht hd hkS (by rw [he]; lia) (by rw [ev]) (.inr hbf) (hw0 _ _ (.inr (Nat.le_of_eq ev.symm)))
    · refine stop (.inr ?_) fun _ => ⟨s', e' + 1, hs2, hs3, he2, he3, .inl (by lia)⟩
      rw [hs1, he1]
      have : e' * 2 ^ (k + t) < s' * 2 ^ (k + t) := (Nat.mul_lt_mul_right (Nat.two_pow_pos _)).mpr (by lia)
      lia
end Mine
end

section
namespace Mine
/-- what the law's head makes sure of -/
structure LawOk (S T lo hi : Int) : Prop where
  hS : 1 ≤ S
  hS2 : S ≤ 70
  hT : 0 ≤ T
  hT2 : T ≤ 64
  lo0 : 0 ≤ lo
  lohi : lo ≤ hi
  hhi : hi < 2 ^ S.toNat
  bits : 0 < T → ∃ b : Nat, T.toNat ∣ b ∧ S ≤ b + T ∧ (2 : Int) ^ b ≤ hi + 1
theorem tiles_told {S T lo hi : Int} (H : LawOk S T lo hi) (h1 : 0 < T) :
    ∃ all, Tiers S T 0 lo hi all ∧ NestL all ∧ all.length ≤ 1000 ∧ ∀ ys, ys.Perm all → ys.Pairwise (fun x y => x.1 < y.1) → Tiled S T lo hi lo (-1) ys := by
  obtain ⟨hS, hS2, hT, hT2, lo0, lohi, hhi, hb⟩ := H
  obtain ⟨b, hb1, hb2, hb3⟩ := hb h1
  obtain ⟨Sn, rfl⟩ := Int.eq_ofNat_of_zero_le (show 0 ≤ S by lia)
  obtain ⟨Tn, rfl⟩ := Int.eq_ofNat_of_zero_le hT
  obtain ⟨ln, rfl⟩ := Int.eq_ofNat_of_zero_le lo0
  obtain ⟨hn, rfl⟩ := Int.eq_ofNat_of_zero_le (show 0 ≤ hi by lia)
  rw [Int.toNat_natCast] at hhi hb1
  have hhi' : hn < 2 ^ Sn := by
    have e : ((2 : Int) ^ Sn) = ((2 ^ Sn : Nat) : Int) := by rw [Int.natCast_pow]; rfl
    lia
  have hb3' : 2 ^ b ≤ hn + 1 := by
    have e : ((2 : Int) ^ b) = ((2 ^ b : Nat) : Int) := by rw [Int.natCast_pow]; rfl
    lia
  have hbits : ∀ k, Tn ∣ k → k < Sn → 2 ^ k ≤ hn + 1 := by
    intro k hk hkS
    obtain ⟨j, rfl⟩ := hb1
    obtain ⟨i, rfl⟩ := hk
    have : i ≤ j := by
      have h3 : Tn * i < Tn * (j + 1) := by rw [Nat.mul_add]; lia
      have := Nat.lt_of_mul_lt_mul_left h3
      lia
    exact Nat.le_trans (Nat.pow_le_pow_right (by decide) (Nat.mul_le_mul_left _ this)) hb3'
  obtain ⟨all, srt, ht, R⟩ := tiers_exist (S := Sn) (t := Tn) (lo := ln) (hi := hn) (by lia) (by lia) hhi' hbits Sn 0 ln hn (by lia) (Nat.dvd_zero _) (by lia) (by lia) (by lia) (by lia) (by lia) (by lia)
  simp only [Nat.pow_zero, Nat.mul_one] at ht R
  refine ⟨all, ht, R.nest, by have := R.len; lia, fun ys p hs => ?_⟩
  rw [sorted_uniq (p.trans R.perm.symm) hs R.asc]
  obtain ⟨bf', _, t⟩ := R.tiles (-1) (by decide)
  exact TiledTo.tiled (b' := bf') t
theorem tiles_one {S lo hi : Int} (hS : 1 ≤ S) (lohi : lo ≤ hi) : NestL [(lo, hi, 0)] ∧ ∀ ys : List (Int × Int × Int), ys.Perm [(lo, hi, 0)] → ys.Pairwise (fun x y => x.1 < y.1) → Tiled S 0 lo hi lo (-1) ys := by
  refine ⟨⟨.inl (by simp), trivial⟩, fun ys p _ => ?_⟩
  rw [List.perm_singleton.mp p]
  refine ⟨⟨rfl, lohi, Int.le_refl _, by show (0 : Int) < S; lia, ?_, ?_, by show (0 : Int) ≠ -1; decide, fun h => absurd h (by decide), fun _ => ?_, fun h => absurd h (by decide)⟩, rfl⟩
  · show lo.fmod (2 ^ (0 : Int).toNat) = 0
    simp [Int.fmod_one]
  · show (hi + 1).fmod (2 ^ (0 : Int).toNat) = 0
    simp [Int.fmod_one]
  · show (0 : Int).fmod S = 0
    simp
end Mine
end

section
namespace Mine
theorem fmod_bnd (x : Int) {t : Int} (ht : 0 < t) : 0 ≤ x.fmod t ∧ x.fmod t < t := by
  rw [Int.fmod_eq_emod_of_nonneg _ (Int.le_of_lt ht)]
  exact ⟨Int.emod_nonneg _ (by omega), Int.emod_lt_of_pos _ ht⟩
section
variable {prog : Program} {w : World} {p : Program} {loose : List Str} {mean : ExcName → Option Value} {mg mb : Str → Option Value}
    {dp un : Nat} {gd : Option (List Code)} {cn : Str} {cs : Scope} {a : Addr} {ccd : Value} {cl : List (Str × Addr)} {outer : List Env} {A₀ : Around} {base h₀ : Heap} {L : Addr} {m : Str → Option Value} {news : List (Addr × Obj)} {s : Shared}
    {Q : Value → Shared → Prop} {E : Value → Shared → Prop}
theorem take_ok {l : Addr} {vs : List Value} {ns : List Int} {i : Int} {tk : Tok}
    (B : Below A₀ base outer h₀) (F : Fr h₀ L s.heap m) (X : (hd.heap_39 w.params).In h₀) (N : News h₀ L s.heap news) (T : Top p loose mean mg mb h₀) (hk : cs.kind = .function) (hl : base.IsList l vs.toArray) (hi : IntsAre vs ns) (hfit : ns.length < 2 ^ 62) (h0 : 0 ≤ i) (hi2 : i < 100) (hdp : dp + 1 < recursionLimit) (hun : un + 8 < cLine)
    (hret : ∀ v t h' tk', 0 ≤ v → v < 10 ^ 24 → Fr h₀ L h' m → News h₀ L h' news → Q (.int v t) { s with heap := h', toks := tk' }) :
    wpAny (model prog w) (ktrTop dp un gd cn cs L a ccd cl outer) (call (.ref 49) [.ref l, .int i tk]) Q E s := by
  have dummy : (PySem.Challenge.rw_iu0045_01 = PySem.Challenge.rw_iu0045_01 ∧ hd.heap_39 = hd.heap_39) := by (k_fill; exact ⟨rfl, rfl⟩)
  clear dummy
  refine wpAny_call ?_
  k_dflt cell_enter
  k_steps
  · have h := fmod_bnd (if ns.getD i.toNat 0 < 0 then -ns.getD i.toNat 0 else ns.getD i.toNat 0) (t := 10 ^ Int.toNat 24) (by decide)
    exact hret _ _ _ _ h.1 h.2 (by with_reducible assumption) (by with_reducible assumption)
  · exact hret _ _ _ _ (by omega) (by omega) (by with_reducible assumption) (by with_reducible assumption)
theorem end_ok {n top : Int} {t1 t2 : Tok}
    (B : Below A₀ base outer h₀) (F : Fr h₀ L s.heap m) (X : (hd.heap_39 w.params).In h₀) (N : News h₀ L s.heap news) (T : Top p loose mean mg mb h₀) (hk : cs.kind = .function) (hdp : dp + 1 < recursionLimit) (hun : un + 8 < cLine)
    (h0 : 0 ≤ n) (h1 : n < 10 ^ 24) (ht : 0 < top) (hb : top.natAbs.log2 < 9000)
    (hret : ∀ v t h' tk', 0 ≤ v → v < top → Fr h₀ L h' m → News h₀ L h' news → Q (.int v t) { s with heap := h', toks := tk' }) :
    wpAny (model prog w) (ktrTop dp un gd cn cs L a ccd cl outer) (call (.ref 56) [.int n t1, .int top t2]) Q E s := by
  have dummy : (PySem.Challenge.rw_iu0045_01 = PySem.Challenge.rw_iu0045_01 ∧ hd.heap_39 = hd.heap_39) := by (k_fill; exact ⟨rfl, rfl⟩)
  clear dummy
  refine wpAny_call ?_
  k_dflt cell_enter
  k_steps
  · have h := fmod_bnd (n.fdiv 4) ht
    exact hret _ _ _ _ h.1 h.2 (by with_reducible assumption) (by with_reducible assumption)
  · have h := fmod_bnd ((n.fdiv 4).fmod 300) ht
    exact hret _ _ _ _ h.1 h.2 (by with_reducible assumption) (by with_reducible assumption)
  · have h := fmod_bnd ((n.fdiv 4).fmod 300) ht
    exact hret _ _ _ _ (by omega) (by omega) (by with_reducible assumption) (by with_reducible assumption)
  · have h := fmod_bnd (n.fdiv 4) ht
    have h2 := fmod_bnd ((n.fdiv 4).fdiv 3) (t := 2) (by decide)
    have h3 : ((n.fdiv 4).fmod top).fdiv 16 * 16 ≤ (n.fdiv 4).fmod top := by
      rw [Int.fdiv_eq_ediv_of_nonneg _ (by decide)]; omega
    refine hret _ _ _ _ ?_ ?_ (by with_reducible assumption) (by with_reducible assumption)
    · split <;> omega
    · split <;> omega
end
end Mine
end

section
namespace Mine
section
variable {prog : Program} {w : World} {p : Program} {loose : List Str} {mean : ExcName → Option Value} {mg mb : Str → Option Value}
    {dp un : Nat} {gd : Option (List Code)} {cn : Str} {cs : Scope} {a : Addr} {ccd : Value} {cl : List (Str × Addr)} {outer : List Env} {A₀ : Around} {base h₀ : Heap} {L : Addr} {m : Str → Option Value} {news : List (Addr × Obj)} {s : Shared}
    {Q : Value → Shared → Prop} {E : Value → Shared → Prop}
theorem to_ok {S x : Int} {b : Bool} {t1 t2 t3 : Tok}
    (B : Below A₀ base outer h₀) (F : Fr h₀ L s.heap m) (X : (hd.heap_39 w.params).In h₀) (N : News h₀ L s.heap news) (T : Top p loose mean mg mb h₀) (hk : cs.kind = .function) (hdp : dp + 1 < recursionLimit) (hun : un + 8 < cLine)
    (hS1 : 1 ≤ S) (hS : S ≤ 70)
    (hret : ∀ v t h' tk', v = x + (if b = true then 2 ^ (S - 1).toNat else 0) → Fr h₀ L h' m → News h₀ L h' news → Q (.int v t) { s with heap := h', toks := tk' }) :
    wpAny (model prog w) (ktrTop dp un gd cn cs L a ccd cl outer) (call (.ref 21) [.str "int" t1, .int S t2, .bool b, .int x t3]) Q E s := by
  have dummy : (PySem.Challenge.rw_iu0045_01 = PySem.Challenge.rw_iu0045_01 ∧ hd.heap_39 = hd.heap_39) := by (k_fill; exact ⟨rfl, rfl⟩)
  clear dummy
  refine wpAny_call ?_
  k_dflt cell_enter
  k_steps
  · exact hret _ _ _ _ (by rw [if_pos (by with_reducible assumption), Int.one_mul]) (by with_reducible assumption) (by with_reducible assumption)
  · with_reducible rename b = _ => hb
    exact hret _ _ _ _ (by rw [hb]; simp) (by with_reducible assumption) (by with_reducible assumption)
theorem from_ok {S x : Int} {b : Bool} {t1 t2 t3 : Tok}
    (B : Below A₀ base outer h₀) (F : Fr h₀ L s.heap m) (X : (hd.heap_39 w.params).In h₀) (N : News h₀ L s.heap news) (T : Top p loose mean mg mb h₀) (hk : cs.kind = .function) (hdp : dp + 1 < recursionLimit) (hun : un + 8 < cLine)
    (hS1 : 1 ≤ S) (hS : S ≤ 70)
    (hret : ∀ v t h' tk', v = x - (if b = true then 2 ^ (S - 1).toNat else 0) → Fr h₀ L h' m → News h₀ L h' news → Q (.int v t) { s with heap := h', toks := tk' }) :
    wpAny (model prog w) (ktrTop dp un gd cn cs L a ccd cl outer) (call (.ref 28) [.str "int" t1, .int S t2, .bool b, .int x t3]) Q E s := by
  have dummy : (PySem.Challenge.rw_iu0045_01 = PySem.Challenge.rw_iu0045_01 ∧ hd.heap_39 = hd.heap_39) := by (k_fill; exact ⟨rfl, rfl⟩)
  clear dummy
  refine wpAny_call ?_
  k_dflt cell_enter
  k_steps
  · exact hret _ _ _ _ (by rw [if_pos (by with_reducible assumption), Int.one_mul]) (by with_reducible assumption) (by with_reducible assumption)
  · with_reducible rename b = _ => hb
    exact hret _ _ _ _ (by rw [hb]; simp) (by with_reducible assumption) (by with_reducible assumption)
end
end Mine
end

section
local macro_rules | `(tactic| ke_room) => `(tactic| assumption)
local macro_rules | `(tactic| walk_at "MineNone") => `(tactic| skip)
namespace Mine
theorem start_eq {x v r lo P : Int} {sg out : Bool} (h1 : x + (if sg = true then P else 0) + (if out = true then 1 else 0) = lo) (hs : v = x + (if sg = true then P else 0)) (hr : (out = true ∧ r = v + 1) ∨ (out = false ∧ r = v)) : r = lo := by
  subst hs
  rcases hr with ⟨rfl, rfl⟩ | ⟨rfl, rfl⟩ <;> simp at h1 <;> omega
theorem end_eq {x v r hi P : Int} {sg out : Bool} (h1 : x + (if sg = true then P else 0) - (if out = true then 1 else 0) = hi) (hs : v = x + (if sg = true then P else 0)) (hr : (out = true ∧ r = v - 1) ∨ (out = false ∧ r = v)) : r = hi := by
  subst hs
  rcases hr with ⟨rfl, rfl⟩ | ⟨rfl, rfl⟩ <;> simp at h1 <;> omega
noncomputable def rStmt (n : Nat) : Stmt := match (defBody 4)[n]? with
  | some st => st
  | _ => default
noncomputable abbrev rEnv (L : Addr) : Env := envX "tiered_ranges" (defScope 4) L 42 (.ref 41) []
/-- the frame of tiered_ranges -/
noncomputable def RM (m : Str → Option Value) (S T : Int) (sg out bey : Bool) : Prop :=
  ∃ t1 t2 t3, m "numtype" = some (.str "int" t1) ∧ m "intsize" = some (.int S t2) ∧ m "signed" = some (.bool sg) ∧ m "shift_step" = some (.int T t3) ∧ m "startexcl" = some (.bool out) ∧ m "endexcl" = some (.bool bey)
theorem RM.fr {h₀ h : Heap} {L : Addr} {m : Str → Option Value} {S T : Int} {sg out bey : Bool} {v1 v2 : Value} (F : Fr h₀ L h m) (H : RM m S T sg out bey) (f1 : m "start" = some v1) (f2 : m "end" = some v2) : ∃ t1 t2 t3, Fr h₀ L h (fun y => if y = "numtype" then some (.str "int" t1) else if y = "intsize" then some (.int S t2) else if y = "signed" then some (.bool sg) else if y = "start" then some v1 else if y = "end" then some v2 else if y = "shift_step" then some (.int T t3) else if y = "startexcl" then some (.bool out) else if y = "endexcl" then some (.bool bey) else m y) := by
  obtain ⟨t1, t2, t3, e1, e2, e3, e4, e5, e6⟩ := H
  refine ⟨t1, t2, t3, ?_⟩
  have G8 := Fr.see F e6
  have G7 := Fr.see (x := "startexcl") G8 (by with_unfolding_all exact e5)
  have G6 := Fr.see (x := "shift_step") G7 (by with_unfolding_all exact e4)
  have G5 := Fr.see (x := "end") G6 (by with_unfolding_all exact f2)
  have G4 := Fr.see (x := "start") G5 (by with_unfolding_all exact f1)
  have G3 := Fr.see (x := "signed") G4 (by with_unfolding_all exact e3)
  have G2 := Fr.see (x := "intsize") G3 (by with_unfolding_all exact e2)
  exact Fr.see (x := "numtype") G2 (by with_unfolding_all exact e1)
local macro_rules | `(tactic| walk_at "call ref") => `(tactic| ((with_reducible show wpAny _ _ (call (Value.ref 21) _) _ _ _); k_dflt (refine' to_ok ?B ?F ?X ?N ?T ?kk ?kd ?ku ?s1 ?s2 ?_; (case B | F | X | N | T | kd | ku | s1 | s2 => with_reducible assumption); (case kk => exact rfl)); (intro vT tT hT' tkT vT0 F' N'); (try k_sweep)))
section
variable {prog : Program} {w : World} {p : Program} {loose : List Str} {mean : ExcName → Option Value} {mg mb : Str → Option Value}
    {dp un : Nat} {gd : Option (List Code)} {outer : List Env} {A₀ : Around} {base h₀ : Heap} {L : Addr} {m : Str → Option Value} {news : List (Addr × Obj)} {s : Shared}
    (B : Below A₀ base outer h₀) (X : (hd.heap_39 w.params).In h₀) (T' : Top p loose mean mg mb h₀) (hdp : dp + 1 < recursionLimit) (hun : un + 8 < cLine)
include B X T' hdp hun
theorem r_head {S T : Int} {sg out bey : Bool} {v1 v2 : Value} {Q : Flow → Shared → Prop} {E : Value → Shared → Prop} (F : Fr h₀ L s.heap m) (N : News h₀ L s.heap news) (H : RM m S T sg out bey) (f1 : m "start" = some v1) (f2 : m "end" = some v2) (hS : S = 8 ∨ S = 16 ∨ S = 32 ∨ S = 64)
    (hQ : ∀ h' tk m', Fr h₀ L h' m' → RM m' S T sg out bey → m' "start" = some v1 → m' "end" = some v2 → News h₀ L h' news → Q .next { s with heap := h', toks := tk }) :
    wpAny (model prog w) (ktrTop dp un gd "tiered_ranges" (defScope 4) L 42 (.ref 41) [] outer) (execs [rStmt 0, rStmt 1] (rEnv L)) Q E s := by
  have dummy : (PySem.Challenge.rw_iu0045_01 = PySem.Challenge.rw_iu0045_01 ∧ hd.heap_39 = hd.heap_39) := by (k_fill; exact ⟨rfl, rfl⟩)
  clear dummy
  have hin : ([8, 16, 32, 64].any fun x => x == S) = true := by rcases hS with rfl | rfl | rfl | rfl <;> decide
  obtain ⟨t1, t2, t3, F1⟩ := RM.fr F H f1 f2
  clear F H f1 f2
  simp only [rStmt, rEnv, defBody, defScope, PySem.Challenge.pw_iu0045_01, List.getElem?_cons_zero, List.getElem?_cons_succ, List.take, List.drop] at *
  k_steps
  with_reducible rename News _ _ _ _ => lN
  with_reducible rename Fr _ _ _ _ => lF
  exact hQ _ _ _ lF ⟨_, _, _, rfl, rfl, rfl, rfl, rfl, rfl⟩ rfl rfl (fun q hq => lN q (List.mem_cons_of_mem _ hq))
theorem r_start {S T lo : Int} {sg out bey : Bool} {v1 v2 : Value} {Q : Flow → Shared → Prop} {E : Value → Shared → Prop} (F : Fr h₀ L s.heap m) (N : News h₀ L s.heap news) (H : RM m S T sg out bey) (f1 : m "start" = some v1) (f2 : m "end" = some v2) (hS1 : 1 ≤ S) (hS2 : S ≤ 70)
    (h1 : (v1 = .none ∧ lo = 0) ∨ ∃ x t, v1 = .int x t ∧ x + (if sg = true then 2 ^ (S - 1).toNat else 0) + (if out = true then 1 else 0) = lo)
    (hQ : ∀ h' tk m' t, Fr h₀ L h' m' → RM m' S T sg out bey → m' "start" = some (.int lo t) → m' "end" = some v2 → News h₀ L h' news → Q .next { s with heap := h', toks := tk }) :
    wpAny (model prog w) (ktrTop dp un gd "tiered_ranges" (defScope 4) L 42 (.ref 41) [] outer) (exec (rStmt 2) (rEnv L)) Q E s := by
  have dummy : (PySem.Challenge.rw_iu0045_01 = PySem.Challenge.rw_iu0045_01 ∧ hd.heap_39 = hd.heap_39) := by (k_fill; exact ⟨rfl, rfl⟩)
  clear dummy
  rcases h1 with ⟨rfl, rfl⟩ | ⟨x, t, rfl, h1⟩
  · obtain ⟨t1, t2, t3, F1⟩ := RM.fr F H f1 f2
    clear F H f1 f2
    simp only [rStmt, rEnv, defBody, defScope, PySem.Challenge.pw_iu0045_01, List.getElem?_cons_zero, List.getElem?_cons_succ, List.take, List.drop] at *
    k_steps
    with_reducible rename News _ _ _ _ => lN
    with_reducible rename Fr _ _ _ _ => lF
    exact hQ _ _ _ _ lF ⟨_, _, _, rfl, rfl, rfl, rfl, rfl, rfl⟩ rfl rfl lN
  · obtain ⟨t1, t2, t3, F1⟩ := RM.fr F H f1 f2
    clear F H f1 f2
    simp only [rStmt, rEnv, defBody, defScope, PySem.Challenge.pw_iu0045_01, List.getElem?_cons_zero, List.getElem?_cons_succ, List.take, List.drop] at *
    k_steps
    · with_reducible rename News _ _ _ _ => lN
      with_reducible rename Fr _ _ _ _ => lF
      refine hQ _ _ _ _ lF ⟨_, _, _, rfl, rfl, rfl, rfl, rfl, rfl⟩ (congrArg (fun z => some (Value.int z _)) (start_eq h1 ?_ (.inl ⟨?_, rfl⟩))) rfl lN
      all_goals with_reducible assumption
    · with_reducible rename News _ _ _ _ => lN
      with_reducible rename Fr _ _ _ _ => lF
      refine hQ _ _ _ _ lF ⟨_, _, _, rfl, rfl, rfl, rfl, rfl, rfl⟩ (congrArg (fun z => some (Value.int z _)) (start_eq h1 ?_ (.inr ⟨?_, rfl⟩))) rfl lN
      all_goals with_reducible assumption
theorem r_end {S T lo hi : Int} {sg out bey : Bool} {v2 : Value} {t4 : Tok} {Q : Flow → Shared → Prop} {E : Value → Shared → Prop} (F : Fr h₀ L s.heap m) (N : News h₀ L s.heap news) (H : RM m S T sg out bey) (f1 : m "start" = some (.int lo t4)) (f2 : m "end" = some v2) (hS1 : 1 ≤ S) (hS2 : S ≤ 70)
    (h2 : (v2 = .none ∧ hi = 2 ^ S.toNat - 1) ∨ ∃ x t, v2 = .int x t ∧ x + (if sg = true then 2 ^ (S - 1).toNat else 0) - (if bey = true then 1 else 0) = hi)
    (hQ : ∀ h' tk m' t u, Fr h₀ L h' m' → RM m' S T sg out bey → m' "start" = some (.int lo t) → m' "end" = some (.int hi u) → News h₀ L h' news → Q .next { s with heap := h', toks := tk }) :
    wpAny (model prog w) (ktrTop dp un gd "tiered_ranges" (defScope 4) L 42 (.ref 41) [] outer) (exec (rStmt 3) (rEnv L)) Q E s := by
  have dummy : (PySem.Challenge.rw_iu0045_01 = PySem.Challenge.rw_iu0045_01 ∧ hd.heap_39 = hd.heap_39) := by (k_fill; exact ⟨rfl, rfl⟩)
  clear dummy
  rcases h2 with ⟨rfl, rfl⟩ | ⟨x, t, rfl, h2⟩
  · obtain ⟨t1, t2, t3, F1⟩ := RM.fr F H f1 f2
    clear F H f1 f2
    simp only [rStmt, rEnv, defBody, defScope, PySem.Challenge.pw_iu0045_01, List.getElem?_cons_zero, List.getElem?_cons_succ, List.take, List.drop] at *
    k_steps
    with_reducible rename News _ _ _ _ => lN
    with_reducible rename Fr _ _ _ _ => lF
    exact hQ _ _ _ _ _ lF ⟨_, _, _, rfl, rfl, rfl, rfl, rfl, rfl⟩ rfl rfl lN
  · obtain ⟨t1, t2, t3, F1⟩ := RM.fr F H f1 f2
    clear F H f1 f2
    simp only [rStmt, rEnv, defBody, defScope, PySem.Challenge.pw_iu0045_01, List.getElem?_cons_zero, List.getElem?_cons_succ, List.take, List.drop] at *
    k_steps
    · with_reducible rename News _ _ _ _ => lN
      with_reducible rename Fr _ _ _ _ => lF
      refine hQ _ _ _ _ _ lF ⟨_, _, _, rfl, rfl, rfl, rfl, rfl, rfl⟩ rfl (congrArg (fun z => some (Value.int z _)) (end_eq h2 ?_ (.inl ⟨?_, rfl⟩))) lN
      all_goals with_reducible assumption
    · with_reducible rename News _ _ _ _ => lN
      with_reducible rename Fr _ _ _ _ => lF
      refine hQ _ _ _ _ _ lF ⟨_, _, _, rfl, rfl, rfl, rfl, rfl, rfl⟩ rfl (congrArg (fun z => some (Value.int z _)) (end_eq h2 ?_ (.inr ⟨?_, rfl⟩))) lN
      all_goals with_reducible assumption
theorem r_zero {S lo hi : Int} {sg out bey : Bool} {t4 t5 : Tok} {Q : Flow → Shared → Prop} {E : Value → Shared → Prop} (F : Fr h₀ L s.heap m) (N : News h₀ L s.heap news) (H : RM m S 0 sg out bey) (f1 : m "start" = some (.int lo t4)) (f2 : m "end" = some (.int hi t5))
    (hQ : ∀ D D' t u v h' tk m', Fr h₀ L h' m' → News h₀ L h' ((D, { cls := .type "tuple", data := .seq #[.ref D'] }) :: (D', tupObj lo hi 0 t u v) :: news) → Q (.ret (.ref D)) { s with heap := h', toks := tk }) :
    wpAny (model prog w) (ktrTop dp un gd "tiered_ranges" (defScope 4) L 42 (.ref 41) [] outer) (execs [rStmt 4, rStmt 5] (rEnv L)) Q E s := by
  have dummy : (PySem.Challenge.rw_iu0045_01 = PySem.Challenge.rw_iu0045_01 ∧ hd.heap_39 = hd.heap_39) := by (k_fill; exact ⟨rfl, rfl⟩)
  clear dummy
  obtain ⟨t1, t2, t3, F1⟩ := RM.fr F H f1 f2
  clear F H f1 f2
  simp only [rStmt, rEnv, defBody, defScope, PySem.Challenge.pw_iu0045_01, List.getElem?_cons_zero, List.getElem?_cons_succ, List.take, List.drop] at *
  k_steps
  with_reducible rename News _ _ _ _ => lN
  with_reducible rename Fr _ _ _ _ => lF
  exact hQ _ _ _ _ _ _ _ _ lF lN
theorem r_split {S T lo hi : Int} {sg out bey : Bool} {t4 t5 : Tok} {Q : Flow → Shared → Prop} {E : Value → Shared → Prop} (F : Fr h₀ L s.heap m) (N : News h₀ L s.heap news) (H : RM m S T sg out bey) (f1 : m "start" = some (.int lo t4)) (f2 : m "end" = some (.int hi t5)) (hT0 : ¬ T = 0)
    (hQ : ∀ t1 t2 t3 t4 tk, wpAny (model prog w) (ktrTop dp un gd "tiered_ranges" (defScope 4) L 42 (.ref 41) [] outer) (call (.ref 35) [.int S t1, .int T t2, .int lo t3, .int hi t4]) (fun v s' => Q (.ret v) s') E { s with toks := tk }) :
    wpAny (model prog w) (ktrTop dp un gd "tiered_ranges" (defScope 4) L 42 (.ref 41) [] outer) (execs [rStmt 4, rStmt 5] (rEnv L)) Q E s := by
  have dummy : (PySem.Challenge.rw_iu0045_01 = PySem.Challenge.rw_iu0045_01 ∧ hd.heap_39 = hd.heap_39) := by (k_fill; exact ⟨rfl, rfl⟩)
  clear dummy
  obtain ⟨t1, t2, t3, F1⟩ := RM.fr F H f1 f2
  clear F H f1 f2
  simp only [rStmt, rEnv, defBody, defScope, PySem.Challenge.pw_iu0045_01, List.getElem?_cons_zero, List.getElem?_cons_succ, List.take, List.drop] at *
  k_steps
  · exact hQ _ _ _ _ s.toks
  · exact absurd (show T = 0 by with_reducible assumption) hT0
end
end Mine
end

section
namespace Mine
theorem s_bnd {S : Int} (h : S = 8 ∨ S = 16 ∨ S = 32 ∨ S = 64) : 1 ≤ S ∧ S ≤ 70 := by omega
theorem t_pos {T : Int} (h : 1 ≤ T) : ¬ T = 0 := by omega
theorem lt_frames {h₀ g h : Heap} {L L' : Addr} {m m' : Str → Option Value} (FG : Fr h₀ L g m) (F : Fr g L' h m') : @LT.lt Nat _ L L' := Nat.lt_of_lt_of_le FG.ns.lt F.above
section
variable {prog : Program} {w : World} {p : Program} {loose : List Str} {mean : ExcName → Option Value} {mg mb : Str → Option Value}
    {dp un : Nat} {gd : Option (List Code)} {cn : Str} {cs : Scope} {a : Addr} {ccd : Value} {cl : List (Str × Addr)} {outer : List Env} {A₀ : Around} {base h₀ : Heap} {L : Addr} {m : Str → Option Value} {news : List (Addr × Obj)} {s : Shared}
    {Q : Value → Shared → Prop} {E : Value → Shared → Prop}
theorem tiered_zero {S lo hi : Int} {sg out bey : Bool} {v1 v2 : Value} {t1 t2 t3 : Tok}
    (B : Below A₀ base outer h₀) (F : Fr h₀ L s.heap m) (X : (hd.heap_39 w.params).In h₀) (N : News h₀ L s.heap news) (Tp : Top p loose mean mg mb h₀) (hk : cs.kind = .function) (hdp : dp + 2 < recursionLimit) (hun : un + 11 < cLine)
    (hS : S = 8 ∨ S = 16 ∨ S = 32 ∨ S = 64) (hv1 : (v1 = .none ∧ lo = 0) ∨ ∃ x t, v1 = .int x t ∧ x + (if sg = true then 2 ^ (S - 1).toNat else 0) + (if out = true then 1 else 0) = lo)
    (hv2 : (v2 = .none ∧ hi = 2 ^ S.toNat - 1) ∨ ∃ x t, v2 = .int x t ∧ x + (if sg = true then 2 ^ (S - 1).toNat else 0) - (if bey = true then 1 else 0) = hi)
    (hret : ∀ D D' t u v h' tk', Fr h₀ L h' m → News h₀ L h' ((D, { cls := .type "tuple", data := .seq #[.ref D'] }) :: (D', tupObj lo hi 0 t u v) :: news) → Q (.ref D) { s with heap := h', toks := tk' }) :
    wpAny (model prog w) (ktrTop dp un gd cn cs L a ccd cl outer) (call (.ref 42) [.str "int" t1, .int S t2, .bool sg, v1, v2, .int 0 t3, .bool out, .bool bey]) Q E s := by
  have dummy : (PySem.Challenge.rw_iu0045_01 = PySem.Challenge.rw_iu0045_01 ∧ hd.heap_39 = hd.heap_39) := by (k_fill; exact ⟨rfl, rfl⟩)
  clear dummy
  obtain ⟨hS1, hS2⟩ := s_bnd hS
  refine wpAny_call ?_
  refine' code_def2 B F X N Tp ?kA ?kF ?kK ?ho ?hcd ?room ?bind ?loc ?_ ?co ?gen ?kf ?cell
  case kA => exact rfl
  case kF => exact rfl
  case kK => exact hk
  case ho => k_is
  case hcd => k_is
  case room => exact Nat.lt_of_succ_lt (Nat.lt_of_succ_lt hdp)
  case bind => exact BindsTo.of_eq rfl
  case loc => exact locs rfl
  case co => rfl
  case gen => rfl
  case kf => rfl
  case cell => decide
  intro g L' h' FG gk F' N' lt B' X' T''
  have hdp' : dp + 1 + 1 < recursionLimit := hdp
  have hun' : un + 3 + 8 < cLine := hun
  show wpAny _ (ktrTop (dp + 1) (un + 3) gd "tiered_ranges" (defScope 4) L' 42 (.ref 41) [] (envX cn cs L a ccd cl :: outer)) (execs ([rStmt 0, rStmt 1] ++ rStmt 2 :: rStmt 3 :: [rStmt 4, rStmt 5]) (rEnv L')) _ _ _
  refine execs_app (r_head B' X' T'' hdp' hun' F' N' ⟨_, _, _, rfl, rfl, rfl, rfl, rfl, rfl⟩ rfl rfl hS fun h1 tk1 m1 F1 H1 a1 b1 N1 => ?_)
  refine wpAny_execs_cons (r_start B' X' T'' hdp' hun' F1 N1 H1 a1 b1 hS1 hS2 hv1 fun h2 tk2 m2 t F2 H2 a2 b2 N2 => ?_)
  refine wpAny_execs_cons (r_end B' X' T'' hdp' hun' F2 N2 H2 a2 b2 hS1 hS2 hv2 fun h3 tk3 m3 t u F3 H3 a3 b3 N3 => ?_)
  refine r_zero B' X' T'' hdp' hun' F3 N3 H3 a3 b3 fun D D' t u v h4 tk4 m4 F4 N4 => ?_
  exact leaveK_ F4 N4 fun F5 N5 => hret _ _ _ _ _ _ _ F5 N5
theorem tiered_split {S lo hi T : Int} {sg out bey : Bool} {v1 v2 : Value} {t1 t2 t3 : Tok}
    (B : Below A₀ base outer h₀) (F : Fr h₀ L s.heap m) (X : (hd.heap_39 w.params).In h₀) (N : News h₀ L s.heap news) (Tp : Top p loose mean mg mb h₀) (hk : cs.kind = .function) (hdp : dp + 2 < recursionLimit) (hun : un + 11 < cLine)
    (hS : S = 8 ∨ S = 16 ∨ S = 32 ∨ S = 64) (hT1 : 1 ≤ T) (hT2 : T ≤ 64) (hv1 : (v1 = .none ∧ lo = 0) ∨ ∃ x t, v1 = .int x t ∧ x + (if sg = true then 2 ^ (S - 1).toNat else 0) + (if out = true then 1 else 0) = lo)
    (hv2 : (v2 = .none ∧ hi = 2 ^ S.toNat - 1) ∨ ∃ x t, v2 = .int x t ∧ x + (if sg = true then 2 ^ (S - 1).toNat else 0) - (if bey = true then 1 else 0) = hi)
    (hret : ∀ ga Lg c oL oC mL h' tk tg ug, Fr h₀ L h' m → News h₀ L h' ((ga, genObj s.gens.size tg ug) :: (c, oC) :: (Lg, oL) :: news) → (∀ q ∈ news, @LT.lt Nat _ q.1 Lg) → @LT.lt Nat _ L Lg → @LT.lt Nat _ Lg c → @LT.lt Nat _ c ga →
      NsO oL mL → HeadM mL S T lo hi → oC.data = .cell none → Q (.ref ga) { s with heap := h', toks := tk, gens := s.gens.push (.fresh (fcode Lg c)) }) :
    wpAny (model prog w) (ktrTop dp un gd cn cs L a ccd cl outer) (call (.ref 42) [.str "int" t1, .int S t2, .bool sg, v1, v2, .int T t3, .bool out, .bool bey]) Q E s := by
  have dummy : (PySem.Challenge.rw_iu0045_01 = PySem.Challenge.rw_iu0045_01 ∧ hd.heap_39 = hd.heap_39) := by (k_fill; exact ⟨rfl, rfl⟩)
  clear dummy
  obtain ⟨hS1, hS2⟩ := s_bnd hS
  refine wpAny_call ?_
  refine' code_def2 B F X N Tp ?kA ?kF ?kK ?ho ?hcd ?room ?bind ?loc ?_ ?co ?gen ?kf ?cell
  case kA => exact rfl
  case kF => exact rfl
  case kK => exact hk
  case ho => k_is
  case hcd => k_is
  case room => exact Nat.lt_of_succ_lt (Nat.lt_of_succ_lt hdp)
  case bind => exact BindsTo.of_eq rfl
  case loc => exact locs rfl
  case co => rfl
  case gen => rfl
  case kf => rfl
  case cell => decide
  intro g L' h' FG gk F' N' lt B' X' T''
  have hdp' : dp + 1 + 1 < recursionLimit := hdp
  have hun' : un + 3 + 8 < cLine := hun
  show wpAny _ (ktrTop (dp + 1) (un + 3) gd "tiered_ranges" (defScope 4) L' 42 (.ref 41) [] (envX cn cs L a ccd cl :: outer)) (execs ([rStmt 0, rStmt 1] ++ rStmt 2 :: rStmt 3 :: [rStmt 4, rStmt 5]) (rEnv L')) _ _ _
  refine execs_app (r_head B' X' T'' hdp' hun' F' N' ⟨_, _, _, rfl, rfl, rfl, rfl, rfl, rfl⟩ rfl rfl hS fun h1 tk1 m1 F1 H1 a1 b1 N1 => ?_)
  refine wpAny_execs_cons (r_start B' X' T'' hdp' hun' F1 N1 H1 a1 b1 hS1 hS2 hv1 fun h2 tk2 m2 t F2 H2 a2 b2 N2 => ?_)
  refine wpAny_execs_cons (r_end B' X' T'' hdp' hun' F2 N2 H2 a2 b2 hS1 hS2 hv2 fun h3 tk3 m3 t u F3 H3 a3 b3 N3 => ?_)
  have hLL := lt_frames FG F'
  refine r_split B' X' T'' hdp' hun' F3 N3 H3 a3 b3 (t_pos hT1) fun u1 u2 u3 u4 tk4 => ?_
  refine split_ok (dp := dp + 1) (un := un + 3) B' F3 X' N3 T'' rfl hdp' hun' fun ga Lg c oL oC mL hh5 tk5 tg ug F5 N5 lt5 l1 l2 l3 hL5 hH5 hC5 => ?_
  exact leaveK_ F5 N5 fun F6 N6 => hret ga Lg c oL oC mL _ _ tg ug F6 N6 lt5 (Nat.lt_trans hLL l1) l2 l3 hL5 hH5 hC5
end
end Mine
end

section
namespace Mine
noncomputable def lBody : List Stmt := defBody 9
noncomputable def lStmt (n : Nat) : Stmt := match lBody[n]? with
  | some st => st
  | _ => default
noncomputable abbrev lEnv (L fa : Addr) (cdv : Value) : Env := envX "law" (defScope 9) L fa cdv []
local macro_rules | `(tactic| walk_at "call ref") => `(tactic| ((with_reducible show wpAny _ _ (call (Value.ref 49) [Value.ref _, Value.int _ _]) _ _ _); k_dflt (refine' take_ok ?B ?F ?X ?N ?T ?kk ?kl ?ki ?kf ?k0 ?k1 ?kd ?ku ?_; (case F | B | X | N | T | kl | ki | kf | kd | ku => with_reducible assumption); (case kk => exact rfl); (case k0 | k1 => decide)); (intro vT tT hT' tkT vT0 vT1 F' N'); (try k_sweep)))
theorem size_mem (v : Int) : [8, 16, 32, 64].getD (v.fmod 4).toNat 0 = (8 : Int) ∨ [8, 16, 32, 64].getD (v.fmod 4).toNat 0 = (16 : Int) ∨ [8, 16, 32, 64].getD (v.fmod 4).toNat 0 = (32 : Int) ∨ [8, 16, 32, 64].getD (v.fmod 4).toNat 0 = (64 : Int) := by
  have h := fmod_bnd v (t := 4) (by decide)
  generalize v.fmod 4 = x at h
  have : x = 0 ∨ x = 1 ∨ x = 2 ∨ x = 3 := by omega
  rcases this with rfl | rfl | rfl | rfl <;> decide
theorem size70 (v : Int) : 1 ≤ 1 + v.fmod 70 ∧ 1 + v.fmod 70 ≤ 70 := by
  have h := fmod_bnd v (t := 70) (by decide)
  omega
theorem step_bnd (v : Int) : 0 ≤ [4, 2, 8, 3, 1, 5, 6, 7, 16, 13, 64, 0].getD (v.fmod 12).toNat (0 : Int) ∧ [4, 2, 8, 3, 1, 5, 6, 7, 16, 13, 64, 0].getD (v.fmod 12).toNat (0 : Int) ≤ 64 := by
  have h := fmod_bnd v (t := 12) (by decide)
  generalize v.fmod 12 = x at h
  have : x = 0 ∨ x = 1 ∨ x = 2 ∨ x = 3 ∨ x = 4 ∨ x = 5 ∨ x = 6 ∨ x = 7 ∨ x = 8 ∨ x = 9 ∨ x = 10 ∨ x = 11 := by omega
  rcases this with rfl | rfl | rfl | rfl | rfl | rfl | rfl | rfl | rfl | rfl | rfl | rfl <;> decide
theorem News.drop2 {h₀ h : Heap} {L : Addr} {a b : Addr × Obj} {l : List (Addr × Obj)} (N : News h₀ L h (a :: b :: l)) : News h₀ L h l := fun q hq => N q (List.mem_cons_of_mem _ (List.mem_cons_of_mem _ hq))
section
variable {prog : Program} {w : World} {p : Program} {loose : List Str} {mean : ExcName → Option Value} {mg mb : Str → Option Value}
    {dp un : Nat} {gd : Option (List Code)} {fa : Addr} {cdv : Value} {outer : List Env} {A₀ : Around} {base h₀ : Heap} {L : Addr} {s : Shared} {m : Str → Option Value} {keep : List (Addr × Obj)} {l : Addr} {vs : List Value} {ns : List Int}
    (B : Below A₀ base outer h₀) (X : (hd.heap_39 w.params).In h₀) (T' : Top p loose mean mg mb h₀)
    (hl : base.IsList l vs.toArray) (hi : IntsAre vs ns) (hfit : ns.length < 2 ^ 62) (hdp : dp + 1 < recursionLimit) (hun : un + 8 < cLine)
include B X T' hl hi hfit hdp hun
theorem lawA {Q : Flow → Shared → Prop} {E : Value → Shared → Prop} (F : Fr h₀ L s.heap m) (N : News h₀ L s.heap keep) (e1 : m "script" = some (.ref l))
    (hQ : ∀ S T pl t1 t2 h' tk m', (pl = true → 0 < T ∧ 1 ≤ S ∧ S ≤ 70) → (pl = false → S = 8 ∨ S = 16 ∨ S = 32 ∨ S = 64) → 0 ≤ T → T ≤ 64 → Fr h₀ L h' m' → m' "script" = some (.ref l) → m' "size" = some (.int S t1) → m' "step" = some (.int T t2) → m' "plain" = some (.bool pl) → News h₀ L h' keep → Q .next { s with heap := h', toks := tk }) :
    wpAny (model prog w) (ktrTop dp un gd "law" (defScope 9) L fa cdv [] outer) (execs (lBody.take 4) (lEnv L fa cdv)) Q E s := by
  have dummy : (PySem.Challenge.rw_iu0045_01 = PySem.Challenge.rw_iu0045_01 ∧ hd.heap_39 = hd.heap_39) := by (k_fill; exact ⟨rfl, rfl⟩)
  clear dummy
  have F1 := Fr.see F e1
  clear F e1
  simp only [lStmt, lBody, lEnv, defBody, defScope, PySem.Challenge.pw_iu0045_01, List.getElem?_cons_zero, List.getElem?_cons_succ, List.take, List.drop] at *
  k_steps
  · with_reducible rename News _ _ _ _ => lN
    with_reducible rename 0 < List.getD _ _ _ => hT
    with_reducible rename Int.fmod _ 4 = 1 => h4
    refine hQ _ _ _ _ _ _ _ _ (fun _ => ⟨hT, (size70 _).1, (size70 _).2⟩) (fun hf => ?_) (step_bnd _).1 (step_bnd _).2 (by with_reducible assumption) rfl rfl rfl rfl (News.drop2 lN)
    rw [h4] at hf; cases hf
  · with_reducible rename News _ _ _ _ => lN
    with_reducible rename Int.fmod _ 4 ≠ 1 => h4
    refine hQ _ _ _ _ _ _ _ _ (fun hf => ?_) (fun _ => size_mem _) (step_bnd _).1 (step_bnd _).2 (by with_reducible assumption) rfl rfl rfl rfl (News.drop2 lN)
    exact absurd (by simpa using hf) h4
  · with_reducible rename News _ _ _ _ => lN
    with_reducible rename ¬ 0 < List.getD _ _ _ => hT
    refine hQ _ _ _ _ _ _ _ _ (fun hf => ?_) (fun _ => size_mem _) (step_bnd _).1 (step_bnd _).2 (by with_reducible assumption) rfl rfl rfl rfl (News.drop2 lN)
    exact absurd (of_decide_eq_true hf) hT
end

local macro_rules | `(tactic| walk_at "call ref") => `(tactic| ((with_reducible show wpAny _ _ (call (Value.ref 56) [Value.int _ _, Value.int _ _]) _ _ _); k_dflt (refine' end_ok ?B ?F ?X ?N ?T ?kk ?kd ?ku ?k0 ?k1 ?kt ?kb ?_; (case F | B | X | N | T | kd | ku | k0 | k1 | kt | kb => with_reducible assumption); (case kk => exact rfl)); (intro vE tE hE' tkE vE0 vE1 F' N'); (try k_sweep)))
section
variable {prog : Program} {w : World} {A : Around} {E : Value → Shared → Prop} {s : Shared} {h₀ : Heap} {L : Addr} {m : Str → Option Value} {news : List (Addr × Obj)}
theorem min3_ok {a b c : Int} {t u x : Tok} {Q : Value → Shared → Prop} (hh : A.handled = none) (F : Fr h₀ L s.heap m) (N : News h₀ L s.heap news)
    (h : ∀ v t' h' tk, v ≤ a → v ≤ b → v ≤ c → (v = a ∨ v = b ∨ v = c) → Fr h₀ L h' m → News h₀ L h' news → Q (.int v t') { s with heap := h', toks := tk }) :
    wpAny (model prog w) A (call (.builtin "min") [.int a t, .int b u, .int c x]) Q E s := by
  refine min_three_ints hh fun h' tk hk => ?_
  have key := fun v t' => h v t' h' tk
  by_cases hba : b < a <;> by_cases hc1 : c < b <;> by_cases hc2 : c < a <;> simp only [hba, hc1, hc2, if_true, if_false]
  all_goals exact key _ _ (by omega) (by omega) (by omega) (by omega) (F.grownK hk) (N.grown hk)
theorem min2_ok {a b : Int} {t u : Tok} {Q : Value → Shared → Prop} (hh : A.handled = none) (F : Fr h₀ L s.heap m) (N : News h₀ L s.heap news)
    (h : ∀ v t' h' tk, v ≤ a → v ≤ b → (v = a ∨ v = b) → Fr h₀ L h' m → News h₀ L h' news → Q (.int v t') { s with heap := h', toks := tk }) :
    wpAny (model prog w) A (call (.builtin "min") [.int a t, .int b u]) Q E s := by
  refine min_two_N hh F N fun h' tk F' N' => ?_
  have key := fun v t' => h v t' h' tk
  by_cases hba : b < a <;> simp only [hba, if_true, if_false]
  all_goals exact key _ _ (by omega) (by omega) (by omega) F' N'
theorem max2_ok {a b : Int} {t u : Tok} {Q : Value → Shared → Prop} (hh : A.handled = none) (F : Fr h₀ L s.heap m) (N : News h₀ L s.heap news)
    (h : ∀ v t' h' tk, a ≤ v → b ≤ v → (v = a ∨ v = b) → Fr h₀ L h' m → News h₀ L h' news → Q (.int v t') { s with heap := h', toks := tk }) :
    wpAny (model prog w) A (call (.builtin "max") [.int a t, .int b u]) Q E s := by
  refine max_two_N hh F N fun h' tk F' N' => ?_
  have key := fun v t' => h v t' h' tk
  by_cases hba : b > a <;> simp only [hba, if_true, if_false]
  all_goals exact key _ _ (by omega) (by omega) (by omega) F' N'
end
local macro_rules | `(tactic| walk_at "call builtin:min") => `(tactic| ((with_reducible show wpAny _ _ (call (Value.builtin _) [Value.int _ _, Value.int _ _, Value.int _ _]) _ _ _); k_dflt (refine' min3_ok ?hh ?F ?N ?_; (case hh => exact rfl); (case F | N => with_reducible assumption)); (intro vM tM hM' tkM mA mB mC mD F' N'); (try k_sweep)))
local macro_rules | `(tactic| walk_at "call builtin:min") => `(tactic| ((with_reducible show wpAny _ _ (call (Value.builtin _) [Value.int _ _, Value.int _ _]) _ _ _); k_dflt (refine' min2_ok ?hh ?F ?N ?_; (case hh => exact rfl); (case F | N => with_reducible assumption)); (intro vN tN hN' tkN nA nB nD F' N'); (try k_sweep)))
local macro_rules | `(tactic| walk_at "call builtin:max") => `(tactic| ((with_reducible show wpAny _ _ (call (Value.builtin _) [Value.int _ _, Value.int _ _]) _ _ _); k_dflt (refine' max2_ok ?hh ?F ?N ?_; (case hh => exact rfl); (case F | N => with_reducible assumption)); (intro vX tX hX' tkX xA xB xD F' N'); (try k_sweep)))
section
variable {prog : Program} {w : World} {p : Program} {loose : List Str} {mean : ExcName → Option Value} {mg mb : Str → Option Value}
    {dp un : Nat} {gd : Option (List Code)} {fa : Addr} {cdv : Value} {outer : List Env} {A₀ : Around} {base h₀ : Heap} {L : Addr} {s : Shared} {m : Str → Option Value} {keep : List (Addr × Obj)} {l : Addr} {vs : List Value} {ns : List Int}
    (B : Below A₀ base outer h₀) (X : (hd.heap_39 w.params).In h₀) (T' : Top p loose mean mg mb h₀)
    (hl : base.IsList l vs.toArray) (hi : IntsAre vs ns) (hfit : ns.length < 2 ^ 62) (hdp : dp + 1 < recursionLimit) (hun : un + 8 < cLine)
include B X T' hl hi hfit hdp hun
omit B X T' hl hi hfit hdp hun in
theorem fm600 {x lo v : Int} (_h : x ≤ lo + v.fmod 600) : 0 ≤ v.fmod 600 := (fmod_bnd v (t := 600) (by decide)).1
/-- the names of the law behind its fourth statement -/
noncomputable def LawM (m : Str → Option Value) (l : Addr) (S T : Int) (pl : Bool) : Prop :=
  ∃ t1 t2, m "script" = some (.ref l) ∧ m "size" = some (.int S t1) ∧ m "step" = some (.int T t2) ∧ m "plain" = some (.bool pl)
noncomputable def LowHi (m : Str → Option Value) (S lo hi : Int) : Prop := ∃ t3 t4 t5, m "top" = some (.int (2 ^ S.toNat) t3) ∧ m "low" = some (.int lo t4) ∧ m "high" = some (.int hi t5)
theorem lawB {S T : Int} {pl : Bool} {Q : Flow → Shared → Prop} {E : Value → Shared → Prop} (F : Fr h₀ L s.heap m) (N : News h₀ L s.heap keep) (H : LawM m l S T pl) (hS1 : 1 ≤ S) (hS : S ≤ 70)
    (hQ : ∀ lo hi h' tk m', 0 ≤ lo → lo < 2 ^ S.toNat → 0 ≤ hi → hi < 2 ^ S.toNat → Fr h₀ L h' m' → LawM m' l S T pl → LowHi m' S lo hi → News h₀ L h' keep → Q .next { s with heap := h', toks := tk }) :
    wpAny (model prog w) (ktrTop dp un gd "law" (defScope 9) L fa cdv [] outer) (execs ((lBody.drop 4).take 3) (lEnv L fa cdv)) Q E s := by
  have dummy : (PySem.Challenge.rw_iu0045_01 = PySem.Challenge.rw_iu0045_01 ∧ hd.heap_39 = hd.heap_39) := by (k_fill; exact ⟨rfl, rfl⟩)
  clear dummy
  obtain ⟨t1, t2, e1, e2, e3, e4⟩ := H
  have hpos : (0 : Int) < 2 ^ S.toNat := Int.pow_pos (by decide)
  have hlog : ((2 : Int) ^ S.toNat).natAbs.log2 < 9000 := kbt_py (by omega)
  have F4 := Fr.see F e4
  have F3 := Fr.see (x := "step") F4 (by with_unfolding_all exact e3)
  have F2 := Fr.see (x := "size") F3 (by with_unfolding_all exact e2)
  have F1 := Fr.see (x := "script") F2 (by with_unfolding_all exact e1)
  clear F F4 F3 F2 e1 e2 e3 e4
  simp only [lStmt, lBody, lEnv, defBody, defScope, PySem.Challenge.pw_iu0045_01, List.getElem?_cons_zero, List.getElem?_cons_succ, List.take, List.drop] at *
  k_steps
  refine hQ _ _ _ _ _ ?a1 ?a2 ?a3 ?a4 (by with_reducible assumption) ⟨_, _, rfl, rfl, rfl, rfl⟩ ⟨_, _, _, rfl, rfl, rfl⟩ (by with_reducible assumption)
  all_goals with_reducible assumption
omit hl hi hfit hdp hun in
theorem LawM.fr {S T lo hi : Int} {pl : Bool} {h : Heap} (F : Fr h₀ L h m) (H : LawM m l S T pl) (H2 : LowHi m S lo hi) : ∃ t1 t2 t3 t4 t5, Fr h₀ L h (fun y => if y = "script" then some (.ref l) else if y = "size" then some (.int S t1) else if y = "step" then some (.int T t2) else if y = "plain" then some (.bool pl)
    else if y = "top" then some (.int (2 ^ S.toNat) t3) else if y = "low" then some (.int lo t4) else if y = "high" then some (.int hi t5) else m y) := by
  obtain ⟨t1, t2, e1, e2, e3, e4⟩ := H
  obtain ⟨t3, t4, t5, e5, e6, e7⟩ := H2
  refine ⟨t1, t2, t3, t4, t5, ?_⟩
  have F7 := Fr.see F e7
  have F6 := Fr.see (x := "low") F7 (by with_unfolding_all exact e6)
  have F5 := Fr.see (x := "top") F6 (by with_unfolding_all exact e5)
  have F4 := Fr.see (x := "plain") F5 (by with_unfolding_all exact e4)
  have F3 := Fr.see (x := "step") F4 (by with_unfolding_all exact e3)
  have F2 := Fr.see (x := "size") F3 (by with_unfolding_all exact e2)
  exact Fr.see (x := "script") F2 (by with_unfolding_all exact e1)
omit B X T' hl hi hfit hdp hun in
theorem fm600b {lo v : Int} (l0 : 0 ≤ lo) : 0 ≤ lo + v.fmod 600 := by
  have := (fmod_bnd v (t := 600) (by decide)).1
  omega
theorem lawC7 {S T lo hi : Int} {pl : Bool} {Q : Flow → Shared → Prop} {E : Value → Shared → Prop} (F : Fr h₀ L s.heap m) (N : News h₀ L s.heap keep) (H : LawM m l S T pl) (H2 : LowHi m S lo hi)
    (l0 : 0 ≤ lo) (h0 : 0 ≤ hi)
    (hQ : ∀ hi h' tk m', 0 ≤ hi → Fr h₀ L h' m' → LawM m' l S T pl → LowHi m' S lo hi → News h₀ L h' keep → Q .next { s with heap := h', toks := tk }) :
    wpAny (model prog w) (ktrTop dp un gd "law" (defScope 9) L fa cdv [] outer) (exec (lStmt 7) (lEnv L fa cdv)) Q E s := by
  have dummy : (PySem.Challenge.rw_iu0045_01 = PySem.Challenge.rw_iu0045_01 ∧ hd.heap_39 = hd.heap_39) := by (k_fill; exact ⟨rfl, rfl⟩)
  clear dummy
  obtain ⟨t1, t2, e1, e2, e3, e4⟩ := H
  obtain ⟨t3, t4, t5, e5, e6, e7⟩ := H2
  have G2 := Fr.see (x := "low") F e6
  have G1 := Fr.see (x := "script") G2 (by with_unfolding_all exact e1)
  clear F G2
  simp only [lStmt, lBody, lEnv, defBody, defScope, PySem.Challenge.pw_iu0045_01, List.getElem?_cons_zero, List.getElem?_cons_succ, List.take, List.drop] at *
  k_steps
  · with_reducible rename Fr _ _ _ _ => lF
    with_reducible rename News _ _ _ _ => lN
    exact hQ _ _ _ _ (fm600b l0) lF ⟨t1, t2, rfl, by with_unfolding_all exact e2, by with_unfolding_all exact e3, by with_unfolding_all exact e4⟩ ⟨t3, _, _, by with_unfolding_all exact e5, rfl, rfl⟩ lN
  · with_reducible rename Fr _ _ _ _ => lF
    with_reducible rename News _ _ _ _ => lN
    exact hQ _ _ _ _ h0 lF ⟨t1, t2, rfl, by with_unfolding_all exact e2, by with_unfolding_all exact e3, by with_unfolding_all exact e4⟩ ⟨t3, _, t5, by with_unfolding_all exact e5, rfl, by with_unfolding_all exact e7⟩ lN
theorem lawC8 {S T lo hi : Int} {pl : Bool} {Q : Flow → Shared → Prop} {E : Value → Shared → Prop} (F : Fr h₀ L s.heap m) (N : News h₀ L s.heap keep) (H : LawM m l S T pl) (H2 : LowHi m S lo hi)
    (hpos : (0 : Int) < 2 ^ S.toNat) (l0 : 0 ≤ lo) (l1 : lo < 2 ^ S.toNat) (h0 : 0 ≤ hi)
    (hQ : ∀ lo hi h' tk m', 0 ≤ lo → lo ≤ hi → hi < 2 ^ S.toNat → Fr h₀ L h' m' → LawM m' l S T pl → LowHi m' S lo hi → News h₀ L h' keep → Q .next { s with heap := h', toks := tk }) :
    wpAny (model prog w) (ktrTop dp un gd "law" (defScope 9) L fa cdv [] outer) (exec (lStmt 8) (lEnv L fa cdv)) Q E s := by
  have dummy : (PySem.Challenge.rw_iu0045_01 = PySem.Challenge.rw_iu0045_01 ∧ hd.heap_39 = hd.heap_39) := by (k_fill; exact ⟨rfl, rfl⟩)
  clear dummy
  obtain ⟨t1, t2, e1, e2, e3, e4⟩ := H
  obtain ⟨t3, t4, t5, e5, e6, e7⟩ := H2
  have G3 := Fr.see (x := "top") F e5
  have G2 := Fr.see (x := "low") G3 (by with_unfolding_all exact e6)
  have G1 := Fr.see (x := "high") G2 (by with_unfolding_all exact e7)
  clear F G3 G2
  simp only [lStmt, lBody, lEnv, defBody, defScope, PySem.Challenge.pw_iu0045_01, List.getElem?_cons_zero, List.getElem?_cons_succ, List.take, List.drop] at *
  k_steps
  with_reducible rename Fr _ _ _ _ => lF
  with_reducible rename News _ _ _ _ => lN
  refine hQ _ _ _ _ _ ?a1 ?a2 ?a3 lF ⟨t1, t2, by with_unfolding_all exact e1, by with_unfolding_all exact e2, by with_unfolding_all exact e3, by with_unfolding_all exact e4⟩ ⟨t3, _, _, rfl, rfl, rfl⟩ (fun q hq => lN q (List.mem_cons_of_mem _ hq))
  all_goals omega
theorem lawC {S T lo hi : Int} {pl : Bool} {Q : Flow → Shared → Prop} {E : Value → Shared → Prop} (F : Fr h₀ L s.heap m) (N : News h₀ L s.heap keep) (H : LawM m l S T pl) (H2 : LowHi m S lo hi) (hS1 : 1 ≤ S) (hS : S ≤ 70)
    (l0 : 0 ≤ lo) (l1 : lo < 2 ^ S.toNat) (h0 : 0 ≤ hi) (h1 : hi < 2 ^ S.toNat)
    (hQ : ∀ lo hi h' tk m', 0 ≤ lo → lo ≤ hi → hi < 2 ^ S.toNat → Fr h₀ L h' m' → LawM m' l S T pl → LowHi m' S lo hi → News h₀ L h' keep → Q .next { s with heap := h', toks := tk }) :
    wpAny (model prog w) (ktrTop dp un gd "law" (defScope 9) L fa cdv [] outer) (execs ((lBody.drop 7).take 2) (lEnv L fa cdv)) Q E s := by
  have hpos : (0 : Int) < 2 ^ S.toNat := Int.pow_pos (by decide)
  have eb : (lBody.drop 7).take 2 = [lStmt 7, lStmt 8] := rfl
  rw [eb]
  refine wpAny_execs_cons (lawC7 B X T' hl (by assumption) hfit hdp hun F N H H2 l0 h0 fun hi1 h1' tk1 m1 h01 F1 H1 K1 N1 => ?_)
  refine wpAny_execs_cons (lawC8 B X T' hl (by assumption) hfit hdp hun F1 N1 H1 K1 hpos l0 l1 h01 fun lo2 hi2 h2' tk2 m2 c1 c2 c3 F2 H2 K2 N2 => ?_)
  exact wpAny_pure (hQ _ _ _ _ _ c1 c2 c3 F2 H2 K2 N2)
end

section
noncomputable def lwTest : Expr := match lStmt 10 with
  | .While t _ _ _ => t
  | _ => default
noncomputable def lwBody : List Stmt := match lStmt 10 with
  | .While _ b _ _ => b
  | _ => []
theorem dvd_nat {T b : Int} (hT : 0 ≤ T) (hb : 0 ≤ b) (h : T ∣ b) : T.toNat ∣ b.toNat := by
  have := Int.natAbs_dvd_natAbs.mpr h
  rwa [show T.natAbs = T.toNat by omega, show b.natAbs = b.toNat by omega] at this
theorem lawok_b {S T lo hi b : Int} (l0 : 0 ≤ lo) (l1 : lo ≤ hi) (l2 : hi < 2 ^ S.toNat) (hS1 : 1 ≤ S) (hS : S ≤ 70) (hT0 : 0 ≤ T) (hT2 : T ≤ 64) (hd0 : T ∣ b) (hb : 0 ≤ b) (hb2 : b < S) (hb3 : ¬ (0 < T ∧ b + T < S)) (h : ¬ hi + 1 < 2 ^ b.toNat) : LawOk S T lo hi :=
  ⟨hS1, hS, hT0, hT2, l0, l1, l2, fun hT => ⟨b.toNat, dvd_nat hT0 hb hd0, by omega, by omega⟩⟩
theorem lawok_a {S T lo hi b : Int} (l0 : 0 ≤ lo) (l1 : lo ≤ hi) (hS1 : 1 ≤ S) (hS : S ≤ 70) (hT0 : 0 ≤ T) (hT2 : T ≤ 64) (hd0 : T ∣ b) (hb : 0 ≤ b) (hb2 : b < S) (hb3 : ¬ (0 < T ∧ b + T < S)) (h : hi + 1 < 2 ^ b.toNat) : LawOk S T lo (hi + 2 ^ b.toNat) := by
  have h2 : 2 ^ (b.toNat + 1) ≤ 2 ^ S.toNat := Nat.pow_le_pow_right (by decide) (by omega)
  have e1 : ((2 : Int) ^ b.toNat) = ((2 ^ b.toNat : Nat) : Int) := by rw [Int.natCast_pow]; rfl
  have e2 : ((2 : Int) ^ S.toNat) = ((2 ^ S.toNat : Nat) : Int) := by rw [Int.natCast_pow]; rfl
  have e3 : 2 ^ (b.toNat + 1) = 2 * 2 ^ b.toNat := by rw [Nat.pow_succ, Nat.mul_comm]
  exact ⟨hS1, hS, hT0, hT2, l0, by omega, by omega, fun hT => ⟨b.toNat, dvd_nat hT0 hb hd0, by omega, by omega⟩⟩
section
variable {prog : Program} {w : World} {p : Program} {loose : List Str} {mean : ExcName → Option Value} {mg mb : Str → Option Value}
    {dp un : Nat} {gd : Option (List Code)} {fa : Addr} {cdv : Value} {outer : List Env} {A₀ : Around} {base h₀ : Heap} {L : Addr} {s : Shared} {m : Str → Option Value} {keep : List (Addr × Obj)} {l : Addr}
    (B : Below A₀ base outer h₀) (X : (hd.heap_39 w.params).In h₀) (T' : Top p loose mean mg mb h₀)
    (hdp : dp + 1 < recursionLimit) (hun : un + 8 < cLine)
include B X T' hdp hun
noncomputable def BitsJ (keep : List (Addr × Obj)) (l : Addr) (S T lo hi : Int) (pl : Bool) (n : Nat) (m : Str → Option Value) (news : List (Addr × Obj)) : Prop :=
  LawM m l S T pl ∧ LowHi m S lo hi ∧ news = keep ∧ ∃ (b : Int) (t : Tok), m "bits" = some (.int b t) ∧ T ∣ b ∧ 0 ≤ b ∧ b < S ∧ n = (S - b).toNat
theorem bits_turn {S T lo hi b : Int} {t6 : Tok} {pl : Bool} {Q : Flow → Shared → Prop} {E : Value → Shared → Prop} {R : Flow → Shared → Prop} (F : Fr h₀ L s.heap m) (N : News h₀ L s.heap keep) (H : LawM m l S T pl) (H2 : LowHi m S lo hi) (e8 : m "bits" = some (.int b t6)) (hS : S ≤ 70) (hT0 : 0 ≤ T) (hT2 : T ≤ 64) (hb : 0 ≤ b) (hb2 : b < S)
    (hgo : 0 < T → b + T < S → ∀ t h' tk m', Fr h₀ L h' m' → LawM m' l S T pl → LowHi m' S lo hi → m' "bits" = some (.int (b + T) t) → News h₀ L h' keep → R .next { s with heap := h', toks := tk })
    (hQ : ¬ (0 < T ∧ b + T < S) → ∀ tk, Q .next { s with toks := tk }) :
    wpAny (model prog w) (ktrTop dp un gd "law" (defScope 9) L fa cdv [] outer) (isTrue lwTest (lEnv L fa cdv) (eval lwTest (lEnv L fa cdv)))
      (fun b s₂ => if b = true then wpAny (model prog w) (ktrTop dp un gd "law" (defScope 9) L fa cdv [] outer) (execs lwBody (lEnv L fa cdv)) R E s₂ else Q .next s₂) E s := by
  have dummy : (PySem.Challenge.rw_iu0045_01 = PySem.Challenge.rw_iu0045_01 ∧ hd.heap_39 = hd.heap_39) := by (k_fill; exact ⟨rfl, rfl⟩)
  clear dummy
  have F8 := Fr.see F e8
  obtain ⟨t1, t2, t3, t4, t5, F1⟩ := LawM.fr B X T' (m := fun y => if y = "bits" then some (.int b t6) else m y) F8 
    (by obtain ⟨t1, t2, e1, e2, e3, e4⟩ := H; exact ⟨t1, t2, by with_unfolding_all exact e1, by with_unfolding_all exact e2, by with_unfolding_all exact e3, by with_unfolding_all exact e4⟩)
    (by obtain ⟨t3, t4, t5, e5, e6, e7⟩ := H2; exact ⟨t3, t4, t5, by with_unfolding_all exact e5, by with_unfolding_all exact e6, by with_unfolding_all exact e7⟩)
  clear F F8 H H2 e8
  simp only [lwTest, lwBody, lStmt, lBody, lEnv, defBody, defScope, PySem.Challenge.pw_iu0045_01, List.getElem?_cons_zero, List.getElem?_cons_succ, List.take, List.drop] at *
  k_steps
  · exact hgo (by with_reducible assumption) (by with_reducible assumption) _ _ _ _ (by with_reducible assumption) ⟨_, _, rfl, rfl, rfl, rfl⟩ ⟨_, _, _, rfl, rfl, rfl⟩ rfl (by with_reducible assumption)
  · exact hQ (fun h => absurd h.2 (by with_reducible assumption)) _
  · exact hQ (fun h => absurd h.1 (by with_reducible assumption)) _
theorem lawD0 {S T lo hi : Int} {pl : Bool} {Q : Flow → Shared → Prop} {E : Value → Shared → Prop} (F : Fr h₀ L s.heap m) (N : News h₀ L s.heap keep) (H : LawM m l S T pl) (H2 : LowHi m S lo hi)
    (hQ : ∀ t h' tk m', Fr h₀ L h' m' → LawM m' l S T pl → LowHi m' S lo hi → m' "bits" = some (.int 0 t) → News h₀ L h' keep → Q .next { s with heap := h', toks := tk }) :
    wpAny (model prog w) (ktrTop dp un gd "law" (defScope 9) L fa cdv [] outer) (exec (lStmt 9) (lEnv L fa cdv)) Q E s := by
  have dummy : (PySem.Challenge.rw_iu0045_01 = PySem.Challenge.rw_iu0045_01 ∧ hd.heap_39 = hd.heap_39) := by (k_fill; exact ⟨rfl, rfl⟩)
  clear dummy
  obtain ⟨t1, t2, t3, t4, t5, F1⟩ := LawM.fr B X T' F H H2
  clear F H H2
  simp only [lwTest, lwBody, lStmt, lBody, lEnv, defBody, defScope, PySem.Challenge.pw_iu0045_01, List.getElem?_cons_zero, List.getElem?_cons_succ, List.take, List.drop] at *
  k_steps
  exact hQ _ _ _ _ (by with_reducible assumption) ⟨_, _, rfl, rfl, rfl, rfl⟩ ⟨_, _, _, rfl, rfl, rfl⟩ rfl (by with_reducible assumption)
theorem lawD {S T lo hi : Int} {pl : Bool} {Q : Flow → Shared → Prop} {E : Value → Shared → Prop} (F : Fr h₀ L s.heap m) (N : News h₀ L s.heap keep) (H : LawM m l S T pl) (H2 : LowHi m S lo hi) {t6 : Tok} (e8 : m "bits" = some (.int 0 t6)) (hS1 : 1 ≤ S) (hS : S ≤ 70) (hT0 : 0 ≤ T) (hT2 : T ≤ 64)
    (hE : PassesOwn (model prog w) (ktrTop dp un gd "law" (defScope 9) L fa cdv [] outer) (lEnv L fa cdv) E)
    (hQ : ∀ b t h' tk m', T ∣ b → 0 ≤ b → b < S → ¬ (0 < T ∧ b + T < S) → Fr h₀ L h' m' → LawM m' l S T pl → LowHi m' S lo hi → m' "bits" = some (.int b t) → News h₀ L h' keep → Q .next { s with heap := h', toks := tk }) :
    wpAny (model prog w) (ktrTop dp un gd "law" (defScope 9) L fa cdv [] outer) (exec (lStmt 10) (lEnv L fa cdv)) Q E s := by
  obtain ⟨pos, hst⟩ : ∃ pos, lStmt 10 = .While lwTest lwBody [] pos := ⟨_, rfl⟩
  rw [hst]
  refine While_inv (BitsJ keep l S T lo hi pl) (n₀ := (S - 0).toNat) F N ⟨H, H2, rfl, 0, t6, e8, Int.dvd_zero _, Int.le_refl _, by omega, rfl⟩ ?_ hE
  rintro n m₁ news₁ h₁ tk₁ F1 N1 ⟨J1, J2, rfl, b, t, eb, hdv, hb0, hb1, hn⟩
  refine bits_turn B X T' hdp hun F1 N1 J1 J2 eb hS hT0 hT2 hb0 hb1 (fun c1 c2 t' h2 tk2 m2 F2 K1 K2 e2 N2 => ?_) fun hne tk2 => ?_
  · exact WhileStep.intro F2 N2 (by omega) ⟨K1, K2, rfl, b + T, t', e2, Int.dvd_add hdv (Int.dvd_refl _), by omega, c2, rfl⟩
  · exact hQ b t h₁ tk2 m₁ hdv hb0 hb1 hne F1 J1 J2 eb N1
theorem lawE {S T lo hi b : Int} {t6 : Tok} {pl : Bool} {Q : Flow → Shared → Prop} {E : Value → Shared → Prop} (F : Fr h₀ L s.heap m) (N : News h₀ L s.heap keep) (H : LawM m l S T pl) (H2 : LowHi m S lo hi) (e8 : m "bits" = some (.int b t6)) (hS1 : 1 ≤ S) (hS : S ≤ 70) (hT0 : 0 ≤ T) (hT2 : T ≤ 64)
    (l0 : 0 ≤ lo) (l1 : lo ≤ hi) (l2 : hi < 2 ^ S.toNat) (hd0 : T ∣ b) (hb : 0 ≤ b) (hb2 : b < S) (hb3 : ¬ (0 < T ∧ b + T < S))
    (hQ : ∀ hi h' tk m', LawOk S T lo hi → Fr h₀ L h' m' → LawM m' l S T pl → LowHi m' S lo hi → News h₀ L h' keep → Q .next { s with heap := h', toks := tk }) :
    wpAny (model prog w) (ktrTop dp un gd "law" (defScope 9) L fa cdv [] outer) (exec (lStmt 11) (lEnv L fa cdv)) Q E s := by
  have dummy : (PySem.Challenge.rw_iu0045_01 = PySem.Challenge.rw_iu0045_01 ∧ hd.heap_39 = hd.heap_39) := by (k_fill; exact ⟨rfl, rfl⟩)
  clear dummy
  have F8 := Fr.see F e8
  obtain ⟨t1, t2, t3, t4, t5, F1⟩ := LawM.fr B X T' (m := fun y => if y = "bits" then some (.int b t6) else m y) F8 
    (by obtain ⟨t1, t2, e1, e2, e3, e4⟩ := H; exact ⟨t1, t2, by with_unfolding_all exact e1, by with_unfolding_all exact e2, by with_unfolding_all exact e3, by with_unfolding_all exact e4⟩)
    (by obtain ⟨t3, t4, t5, e5, e6, e7⟩ := H2; exact ⟨t3, t4, t5, by with_unfolding_all exact e5, by with_unfolding_all exact e6, by with_unfolding_all exact e7⟩)
  clear F F8 H H2 e8
  simp only [lwTest, lwBody, lStmt, lBody, lEnv, defBody, defScope, PySem.Challenge.pw_iu0045_01, List.getElem?_cons_zero, List.getElem?_cons_succ, List.take, List.drop] at *
  k_steps
  · have K := lawok_a l0 l1 hS1 hS hT0 hT2 hd0 hb hb2 hb3 (by with_reducible assumption)
    exact hQ _ _ _ _ K (by with_reducible assumption) ⟨_, _, rfl, rfl, rfl, rfl⟩ ⟨_, _, _, rfl, rfl, rfl⟩ (by with_reducible assumption)
  · have K := lawok_b l0 l1 l2 hS1 hS hT0 hT2 hd0 hb hb2 hb3 (by with_reducible assumption)
    exact hQ _ _ _ _ K (by with_reducible assumption) ⟨_, _, rfl, rfl, rfl, rfl⟩ ⟨_, _, _, rfl, rfl, rfl⟩ (by with_reducible assumption)
end
end

section
local macro_rules | `(tactic| walk_at "call ref") => `(tactic| ((with_reducible show wpAny _ _ (call (Value.ref 63) [Value.ref _, Value.int _ _, Value.int _ _, Value.int _ _, Value.int _ _]) _ _ _); k_dflt (refine' tiles_ok ?B ?F ?X ?N ?T ?kk ?kd ?ku ?hT ?hkp ?hN ?hlen ?tiled ?blo ?bhi ?bS1 ?bS ?bT0 ?bT2 ?_; (case B | F | X | hT | hN | N | T | hkp | hlen | tiled | blo | bhi => with_reducible assumption); (case kk => exact rfl); (case kd | ku | bS1 | bS | bT0 | bT2 => omega)); (intro hR' tkR F' N')))
open Builtin.Int in
theorem LawOk.bits_le {S T lo hi : Int} (K : LawOk S T lo hi) : intBits lo ≤ 100 ∧ intBits hi ≤ 100 := by
  have h1 : (2 : Int) ^ S.toNat ≤ 2 ^ 70 := by
    have e1 : ((2 : Int) ^ S.toNat) = ((2 ^ S.toNat : Nat) : Int) := by rw [Int.natCast_pow]; rfl
    have e2 : ((2 : Int) ^ 70) = ((2 ^ 70 : Nat) : Int) := by rw [Int.natCast_pow]; rfl
    have := Nat.pow_le_pow_right (n := 2) (by decide) (show S.toNat ≤ 70 by have := K.hS2; omega)
    omega
  have h2 := K.hhi
  have h3 := K.lo0
  have h4 := K.lohi
  have e3 : (2 : Int) ^ 70 = 1180591620717411303424 := by decide
  have e4 : (2 : Nat) ^ 100 = 1267650600228229401496703205376 := by decide
  constructor <;> (rw [intBits_le_iff, e4]; omega)
section
variable {prog : Program} {w : World} {p : Program} {loose : List Str} {mean : ExcName → Option Value} {mg mb : Str → Option Value}
    {dp un : Nat} {gd : Option (List Code)} {fa : Addr} {cdv : Value} {outer : List Env} {A₀ : Around} {base h₀ : Heap} {L : Addr} {s : Shared} {m : Str → Option Value} {keep : List (Addr × Obj)} {l : Addr}
    (B : Below A₀ base outer h₀) (X : (hd.heap_39 w.params).In h₀) (T' : Top p loose mean mg mb h₀)
    (hdp : dp + 3 < recursionLimit) (hun : un + 20 < cLine)
include B X T' hdp hun
theorem lawF_next {S T lo hi : Int} {Q : Flow → Shared → Prop} {E : Value → Shared → Prop} (F : Fr h₀ L s.heap m) (N : News h₀ L s.heap keep) (H : LawM m l S T false) (H2 : LowHi m S lo hi)
    (hQ : ∀ tk, Q .next { s with toks := tk }) :
    wpAny (model prog w) (ktrTop dp un gd "law" (defScope 9) L fa cdv [] outer) (exec (lStmt 12) (lEnv L fa cdv)) Q E s := by
  have dummy : (PySem.Challenge.rw_iu0045_01 = PySem.Challenge.rw_iu0045_01 ∧ hd.heap_39 = hd.heap_39) := by (k_fill; exact ⟨rfl, rfl⟩)
  clear dummy
  obtain ⟨t1, t2, t3, t4, t5, F1⟩ := LawM.fr B X T' F H H2
  clear F H H2
  simp only [lStmt, lBody, lEnv, defBody, defScope, PySem.Challenge.pw_iu0045_01, List.getElem?_cons_zero, List.getElem?_cons_succ, List.take, List.drop] at *
  k_steps
  exact hQ _
theorem lawF_ret {S T lo hi : Int} {Q : Flow → Shared → Prop} {E : Value → Shared → Prop} (F : Fr h₀ L s.heap m) (N : News h₀ L s.heap [(30, tabObj #[])]) (H : LawM m l S T true) (H2 : LowHi m S lo hi) (C : CodeHd h₀ 34 30) (h30 : @LT.lt Nat _ 30 L) (K : LawOk S T lo hi) (hT : 0 < T)
    (hQ : ∀ h' tk gens' m' ps, Fr h₀ L h' m' → News h₀ L h' [(30, tabObj ps)] → (AllBare s.gens → AllBare gens') → Q (.ret (.bool true)) { s with heap := h', toks := tk, gens := gens' }) :
    wpAny (model prog w) (ktrTop dp un gd "law" (defScope 9) L fa cdv [] outer) (exec (lStmt 12) (lEnv L fa cdv)) Q E s := by
  have dummy : (PySem.Challenge.rw_iu0045_01 = PySem.Challenge.rw_iu0045_01 ∧ hd.heap_39 = hd.heap_39) := by (k_fill; exact ⟨rfl, rfl⟩)
  clear dummy
  obtain ⟨t1, t2, t3, t4, t5, F1⟩ := LawM.fr B X T' F H H2
  obtain ⟨all, ht, hn, hlen, htl⟩ := tiles_told K hT
  obtain ⟨hblo, hbhi⟩ := K.bits_le
  clear F H H2
  simp only [lStmt, lBody, lEnv, defBody, defScope, PySem.Challenge.pw_iu0045_01, List.getElem?_cons_zero, List.getElem?_cons_succ, List.take, List.drop] at *
  k_steps
  refine split_ok (S := S) (T := T) (lo := lo) (hi := hi) B F1 X N T' rfl (by omega) (by omega) fun ga Lg c oL oC mL hh1 tk1 tg ug F2 N2 lt2 l1 l2 l3 hL2 hH2 hC2 => ?_
  k_steps
  refine listgen_ok (S := S) (T := T) (lo := lo) (hi := hi) (all := all) (G := s.gens) B F2 X N2 T' C rfl (by omega) (by omega) h30 (List.mem_cons_self ..) (List.mem_cons_of_mem _ (List.mem_cons_self ..)) (List.mem_cons_of_mem _ (List.mem_cons_of_mem _ (List.mem_cons_self ..)))
    (List.mem_cons_of_mem _ (List.mem_cons_of_mem _ (List.mem_cons_of_mem _ (List.mem_cons_self ..)))) l1 l2 l3 hL2 hH2 hC2 rfl rfl ⟨K.hS, K.hS2, hT, K.hT2, Int.le_refl _, by decide⟩ ht hlen fun D acc cnt hh2 tk2 gens2 ps F3 N3 lD hTups hG => ?_
  have hkp : ∀ q ∈ [((30 : Addr), tabObj ps)], ∀ (y z u : Int) (t v r : Tok), q.2 ≠ tupObj y z u t v r := fun q hq y z u t v r => by
    simp only [List.mem_cons, List.not_mem_nil, or_false] at hq
    subst hq
    intro h
    cases h
  obtain ⟨hS1, hS2, hT0, hT2, _, _, _, _⟩ := K
  k_steps
  with_reducible rename News _ _ _ _ => lN
  exact hQ _ _ _ _ ps (by with_reducible assumption) (fun q hq => lN q (List.mem_cons_of_mem _ hq)) hG
end
end

theorem half {S : Int} (hS1 : 1 ≤ S) : ((2 : Int) ^ S.toNat).fdiv 2 = 2 ^ (S - 1).toNat := by
  have e : S.toNat = (S - 1).toNat + 1 := by omega
  rw [e, Int.pow_succ, Int.fdiv_eq_ediv_of_nonneg _ (by decide)]
  exact Int.mul_ediv_cancel _ (by decide)
theorem less_t {S : Int} {v : Int} (hS1 : 1 ≤ S) (h : v.fmod 2 = 1) : ((2 : Int) ^ S.toNat).fdiv 2 = (if (v.fmod 2 == 1) = true then 2 ^ (S - 1).toNat else 0) := by
  rw [if_pos (by rw [h]; rfl), half hS1]
theorem less_f {S : Int} {v : Int} (h : v.fmod 2 ≠ 1) : (0 : Int) = (if (v.fmod 2 == 1) = true then 2 ^ (S - 1).toNat else 0) := by
  rw [if_neg (by simpa using h)]
theorem way_b (v : Int) : 0 ≤ (v.fdiv 2).fmod 16 ∧ (v.fdiv 2).fmod 16 < 16 := fmod_bnd _ (by decide)
section
variable {prog : Program} {w : World} {p : Program} {loose : List Str} {mean : ExcName → Option Value} {mg mb : Str → Option Value}
    {dp un : Nat} {gd : Option (List Code)} {fa : Addr} {cdv : Value} {outer : List Env} {A₀ : Around} {base h₀ : Heap} {L : Addr} {s : Shared} {m : Str → Option Value} {keep : List (Addr × Obj)} {l : Addr} {vs : List Value} {ns : List Int}
    (B : Below A₀ base outer h₀) (X : (hd.heap_39 w.params).In h₀) (T' : Top p loose mean mg mb h₀)
    (hl : base.IsList l vs.toArray) (hi : IntsAre vs ns) (hfit : ns.length < 2 ^ 62) (hdp : dp + 1 < recursionLimit) (hun : un + 8 < cLine)
include B X T' hl hi hfit hdp hun
noncomputable def RestM (m : Str → Option Value) (sg : Bool) (wy le fi la : Int) : Prop :=
  ∃ t1 t2 t3 t4, m "signed" = some (.bool sg) ∧ m "way" = some (.int wy t1) ∧ m "less" = some (.int le t2) ∧ m "first" = some (.int fi t3) ∧ m "last" = some (.int la t4)
theorem lawG {S T lo hi : Int} {pl : Bool} {Q : Flow → Shared → Prop} {E : Value → Shared → Prop} (F : Fr h₀ L s.heap m) (N : News h₀ L s.heap keep) (H : LawM m l S T pl) (H2 : LowHi m S lo hi) (hS1 : 1 ≤ S) (hS : S ≤ 70)
    (hQ : ∀ sg wy le h' tk m', 0 ≤ wy → wy < 16 → le = (if sg = true then 2 ^ (S - 1).toNat else 0) → Fr h₀ L h' m' → LawM m' l S T pl → LowHi m' S lo hi → RestM m' sg wy le (lo - le) (hi - le) → News h₀ L h' keep → Q .next { s with heap := h', toks := tk }) :
    wpAny (model prog w) (ktrTop dp un gd "law" (defScope 9) L fa cdv [] outer) (execs ((lBody.drop 13).take 4) (lEnv L fa cdv)) Q E s := by
  have dummy : (PySem.Challenge.rw_iu0045_01 = PySem.Challenge.rw_iu0045_01 ∧ hd.heap_39 = hd.heap_39) := by (k_fill; exact ⟨rfl, rfl⟩)
  clear dummy
  obtain ⟨t1, t2, t3, t4, t5, F1⟩ := LawM.fr B X T' F H H2
  clear F H H2
  simp only [lStmt, lBody, lEnv, defBody, defScope, PySem.Challenge.pw_iu0045_01, List.getElem?_cons_zero, List.getElem?_cons_succ, List.take, List.drop] at *
  k_steps
  · with_reducible rename News _ _ _ _ => lN
    with_reducible rename Int.fmod _ 2 = 1 => h2
    exact hQ _ _ _ _ _ _ (way_b _).1 (way_b _).2 (less_t hS1 h2) (by with_reducible assumption) ⟨_, _, rfl, rfl, rfl, rfl⟩ ⟨_, _, _, rfl, rfl, rfl⟩ ⟨_, _, _, _, rfl, rfl, rfl, rfl, rfl⟩ (fun q hq => lN q (List.mem_cons_of_mem _ hq))
  · with_reducible rename News _ _ _ _ => lN
    with_reducible rename Int.fmod _ 2 ≠ 1 => h2
    exact hQ _ _ _ _ _ _ (way_b _).1 (way_b _).2 (less_f h2) (by with_reducible assumption) ⟨_, _, rfl, rfl, rfl, rfl⟩ ⟨_, _, _, rfl, rfl, rfl⟩ ⟨_, _, _, _, rfl, rfl, rfl, rfl, rfl⟩ (fun q hq => lN q (List.mem_cons_of_mem _ hq))
end

section
local macro_rules | `(tactic| ke_room) => `(tactic| assumption)
local macro_rules | `(tactic| walk_at "call ref") => `(tactic| ((with_reducible show wpAny _ _ (call (Value.ref 21) _) _ _ _); k_dflt (refine' to_ok ?B ?F ?X ?N ?T ?kk ?kd ?ku ?s1 ?s2 ?_; (case B | F | X | N | T | kd | ku | s1 | s2 => with_reducible assumption); (case kk => exact rfl)); (intro vT tT hT' tkT vT0 F' N'); (try k_sweep)))
local macro_rules | `(tactic| walk_at "call ref") => `(tactic| ((with_reducible show wpAny _ _ (call (Value.ref 28) _) _ _ _); k_dflt (refine' from_ok ?B ?F ?X ?N ?T ?kk ?kd ?ku ?s1 ?s2 ?_; (case B | F | X | N | T | kd | ku | s1 | s2 => with_reducible assumption); (case kk => exact rfl)); (intro vT tT hT' tkT vT0 F' N'); (try k_sweep)))
theorem pair_to {v1 v2 lo hi le P : Int} {sg : Bool} (h1 : v1 = lo - le + (if sg = true then P else 0)) (h2 : v2 = hi - le + (if sg = true then P else 0)) (hle : le = (if sg = true then P else 0)) : [v1, v2] = [lo, hi] := by
  rw [← hle] at h1 h2
  rw [show v1 = lo by omega, show v2 = hi by omega]
theorem pair_from {v1 v2 lo hi le P : Int} {sg : Bool} (h1 : v1 = lo - (if sg = true then P else 0)) (h2 : v2 = hi - (if sg = true then P else 0)) (hle : le = (if sg = true then P else 0)) : [v1, v2] = [lo - le, hi - le] := by
  rw [h1, h2, hle]
section
variable {prog : Program} {w : World} {p : Program} {loose : List Str} {mean : ExcName → Option Value} {mg mb : Str → Option Value}
    {dp un : Nat} {gd : Option (List Code)} {fa : Addr} {cdv : Value} {outer : List Env} {A₀ : Around} {base h₀ : Heap} {L : Addr} {s : Shared} {m : Str → Option Value} {keep : List (Addr × Obj)} {l : Addr}
    (B : Below A₀ base outer h₀) (X : (hd.heap_39 w.params).In h₀) (T' : Top p loose mean mg mb h₀)
    (hdp : dp + 1 < recursionLimit) (hun : un + 8 < cLine) (hroom : un + 64 < cLine)
include B X T' hdp hun hroom
omit hdp hun hroom in
theorem LawM.fr2 {S T lo hi wy le fi la : Int} {pl sg : Bool} {h : Heap} (F : Fr h₀ L h m) (H : LawM m l S T pl) (H2 : LowHi m S lo hi) (H3 : RestM m sg wy le fi la) : ∃ t1 t2 t3 t4 t5 t6 t7 t8 t9, Fr h₀ L h (fun y => if y = "script" then some (.ref l) else if y = "size" then some (.int S t1) else if y = "step" then some (.int T t2) else if y = "plain" then some (.bool pl)
    else if y = "top" then some (.int (2 ^ S.toNat) t3) else if y = "low" then some (.int lo t4) else if y = "high" then some (.int hi t5) else if y = "signed" then some (.bool sg) else if y = "way" then some (.int wy t6) else if y = "less" then some (.int le t7) else if y = "first" then some (.int fi t8) else if y = "last" then some (.int la t9) else m y) := by
  obtain ⟨t6, t7, t8, t9, f1, f2, f3, f4, f5⟩ := H3
  have F5 := Fr.see F f5
  have F4 := Fr.see (x := "first") F5 (by with_unfolding_all exact f4)
  have F3 := Fr.see (x := "less") F4 (by with_unfolding_all exact f3)
  have F2 := Fr.see (x := "way") F3 (by with_unfolding_all exact f2)
  have F1 := Fr.see (x := "signed") F2 (by with_unfolding_all exact f1)
  obtain ⟨t1, t2, e1, e2, e3, e4⟩ := H
  obtain ⟨t3, t4, t5, e5, e6, e7⟩ := H2
  refine ⟨t1, t2, t3, t4, t5, t6, t7, t8, t9, ?_⟩
  have G7 := Fr.see (x := "high") F1 (by with_unfolding_all exact e7)
  have G6 := Fr.see (x := "low") G7 (by with_unfolding_all exact e6)
  have G5 := Fr.see (x := "top") G6 (by with_unfolding_all exact e5)
  have G4 := Fr.see (x := "plain") G5 (by with_unfolding_all exact e4)
  have G3 := Fr.see (x := "step") G4 (by with_unfolding_all exact e3)
  have G2 := Fr.see (x := "size") G3 (by with_unfolding_all exact e2)
  exact Fr.see (x := "script") G2 (by with_unfolding_all exact e1)
theorem lawH1 {S T lo hi wy le : Int} {pl sg : Bool} {Q : Flow → Shared → Prop} {E : Value → Shared → Prop} (F : Fr h₀ L s.heap m) (N : News h₀ L s.heap keep) (H : LawM m l S T pl) (H2 : LowHi m S lo hi) (H3 : RestM m sg wy le (lo - le) (hi - le)) (hS1 : 1 ≤ S) (hS : S ≤ 70)
    (hle : le = (if sg = true then 2 ^ (S - 1).toNat else 0))
    (hQ : ∀ h' tk m', Fr h₀ L h' m' → LawM m' l S T pl → LowHi m' S lo hi → RestM m' sg wy le (lo - le) (hi - le) → News h₀ L h' keep → Q .next { s with heap := h', toks := tk }) :
    wpAny (model prog w) (ktrTop dp un gd "law" (defScope 9) L fa cdv [] outer) (exec (lStmt 17) (lEnv L fa cdv)) Q E s := by
  have dummy : (PySem.Challenge.rw_iu0045_01 = PySem.Challenge.rw_iu0045_01 ∧ hd.heap_39 = hd.heap_39) := by (k_fill; exact ⟨rfl, rfl⟩)
  clear dummy
  obtain ⟨t1, t2, t3, t4, t5, t6, t7, t8, t9, F1⟩ := LawM.fr2 B X T' F H H2 H3
  clear F H H2 H3
  simp only [lStmt, lBody, lEnv, defBody, defScope, PySem.Challenge.pw_iu0045_01, List.getElem?_cons_zero, List.getElem?_cons_succ, List.take, List.drop] at *
  k_steps
  · with_reducible rename News _ _ _ _ => lN
    exact hQ _ _ _ (by with_reducible assumption) ⟨_, _, rfl, rfl, rfl, rfl⟩ ⟨_, _, _, rfl, rfl, rfl⟩ ⟨_, _, _, _, rfl, rfl, rfl, rfl, rfl⟩ (News.drop2 lN)
  · refine absurd (pair_to ?_ ?_ hle) (by with_reducible assumption)
    all_goals with_reducible assumption
theorem lawH2 {S T lo hi wy le : Int} {pl sg : Bool} {Q : Flow → Shared → Prop} {E : Value → Shared → Prop} (F : Fr h₀ L s.heap m) (N : News h₀ L s.heap keep) (H : LawM m l S T pl) (H2 : LowHi m S lo hi) (H3 : RestM m sg wy le (lo - le) (hi - le)) (hS1 : 1 ≤ S) (hS : S ≤ 70)
    (hle : le = (if sg = true then 2 ^ (S - 1).toNat else 0))
    (hQ : ∀ h' tk m', Fr h₀ L h' m' → LawM m' l S T pl → LowHi m' S lo hi → RestM m' sg wy le (lo - le) (hi - le) → News h₀ L h' keep → Q .next { s with heap := h', toks := tk }) :
    wpAny (model prog w) (ktrTop dp un gd "law" (defScope 9) L fa cdv [] outer) (exec (lStmt 18) (lEnv L fa cdv)) Q E s := by
  have dummy : (PySem.Challenge.rw_iu0045_01 = PySem.Challenge.rw_iu0045_01 ∧ hd.heap_39 = hd.heap_39) := by (k_fill; exact ⟨rfl, rfl⟩)
  clear dummy
  obtain ⟨t1, t2, t3, t4, t5, t6, t7, t8, t9, F1⟩ := LawM.fr2 B X T' F H H2 H3
  clear F H H2 H3
  simp only [lStmt, lBody, lEnv, defBody, defScope, PySem.Challenge.pw_iu0045_01, List.getElem?_cons_zero, List.getElem?_cons_succ, List.take, List.drop] at *
  k_steps
  · with_reducible rename News _ _ _ _ => lN
    exact hQ _ _ _ (by with_reducible assumption) ⟨_, _, rfl, rfl, rfl, rfl⟩ ⟨_, _, _, rfl, rfl, rfl⟩ ⟨_, _, _, _, rfl, rfl, rfl, rfl, rfl⟩ (News.drop2 lN)
  · refine absurd (pair_from ?_ ?_ hle) (by with_reducible assumption)
    all_goals with_reducible assumption
end
end

theorem ite_a {c d : Prop} [Decidable c] [Decidable d] {x : Int} (h1 : c) (h2 : d) : x - 1 = x - (if c ∧ d then 1 else 0) := by rw [if_pos ⟨h1, h2⟩]
theorem ite_a' {c d : Prop} [Decidable c] [Decidable d] {x : Int} (h1 : c) (h2 : d) : x + 1 = x + (if c ∧ d then 1 else 0) := by rw [if_pos ⟨h1, h2⟩]
theorem ite_b {c d : Prop} [Decidable c] [Decidable d] {x : Int} (h1 : ¬ c) : x = x - (if c ∧ d then 1 else 0) := by rw [if_neg fun h => h1 h.1]; omega
theorem ite_b' {c d : Prop} [Decidable c] [Decidable d] {x : Int} (h1 : ¬ c) : x = x + (if c ∧ d then 1 else 0) := by rw [if_neg fun h => h1 h.1]; omega
theorem ite_c {c d : Prop} [Decidable c] [Decidable d] {x : Int} (h1 : ¬ d) : x = x - (if c ∧ d then 1 else 0) := by rw [if_neg fun h => h1 h.2]; omega
theorem ite_c' {c d : Prop} [Decidable c] [Decidable d] {x : Int} (h1 : ¬ d) : x = x + (if c ∧ d then 1 else 0) := by rw [if_neg fun h => h1 h.2]; omega
section
variable {prog : Program} {w : World} {p : Program} {loose : List Str} {mean : ExcName → Option Value} {mg mb : Str → Option Value}
    {dp un : Nat} {gd : Option (List Code)} {fa : Addr} {cdv : Value} {outer : List Env} {A₀ : Around} {base h₀ : Heap} {L : Addr} {s : Shared} {m : Str → Option Value} {keep : List (Addr × Obj)} {l : Addr}
    (B : Below A₀ base outer h₀) (X : (hd.heap_39 w.params).In h₀) (T' : Top p loose mean mg mb h₀)
    (hdp : dp + 1 < recursionLimit) (hun : un + 8 < cLine)
include B X T' hdp hun
noncomputable def RestV (m : Str → Option Value) (sg : Bool) (wy : Int) (v1 v2 : Value) : Prop := ∃ t1, m "signed" = some (.bool sg) ∧ m "way" = some (.int wy t1) ∧ m "first" = some v1 ∧ m "last" = some v2
omit hdp hun in
theorem LawM.fr3 {S T lo hi wy : Int} {v1 v2 : Value} {pl sg : Bool} {h : Heap} (F : Fr h₀ L h m) (H : LawM m l S T pl) (H2 : LowHi m S lo hi) (H3 : RestV m sg wy v1 v2) : ∃ t1 t2 t3 t4 t5 t6, Fr h₀ L h (fun y => if y = "script" then some (.ref l) else if y = "size" then some (.int S t1) else if y = "step" then some (.int T t2) else if y = "plain" then some (.bool pl)
    else if y = "top" then some (.int (2 ^ S.toNat) t3) else if y = "low" then some (.int lo t4) else if y = "high" then some (.int hi t5) else if y = "signed" then some (.bool sg) else if y = "way" then some (.int wy t6) else if y = "first" then some v1 else if y = "last" then some v2 else m y) := by
  obtain ⟨t6, f1, f2, f3, f4⟩ := H3
  have F4 := Fr.see F f4
  have F3 := Fr.see (x := "first") F4 (by with_unfolding_all exact f3)
  have F2 := Fr.see (x := "way") F3 (by with_unfolding_all exact f2)
  have F1 := Fr.see (x := "signed") F2 (by with_unfolding_all exact f1)
  obtain ⟨t1, t2, e1, e2, e3, e4⟩ := H
  obtain ⟨t3, t4, t5, e5, e6, e7⟩ := H2
  refine ⟨t1, t2, t3, t4, t5, t6, ?_⟩
  have G7 := Fr.see (x := "high") F1 (by with_unfolding_all exact e7)
  have G6 := Fr.see (x := "low") G7 (by with_unfolding_all exact e6)
  have G5 := Fr.see (x := "top") G6 (by with_unfolding_all exact e5)
  have G4 := Fr.see (x := "plain") G5 (by with_unfolding_all exact e4)
  have G3 := Fr.see (x := "step") G4 (by with_unfolding_all exact e3)
  have G2 := Fr.see (x := "size") G3 (by with_unfolding_all exact e2)
  exact Fr.see (x := "script") G2 (by with_unfolding_all exact e1)
noncomputable def StartOk (v1 : Value) (S lo : Int) (sg o : Bool) : Prop := (v1 = .none ∧ lo = 0) ∨ ∃ x t, v1 = .int x t ∧ x + (if sg = true then 2 ^ (S - 1).toNat else 0) + (if o = true then 1 else 0) = lo
noncomputable def EndOk (v2 : Value) (S hi : Int) (sg o : Bool) : Prop := (v2 = .none ∧ hi = 2 ^ S.toNat - 1) ∨ ∃ x t, v2 = .int x t ∧ x + (if sg = true then 2 ^ (S - 1).toNat else 0) - (if o = true then 1 else 0) = hi
noncomputable def EndsM (m : Str → Option Value) (S lo hi : Int) (sg : Bool) : Prop :=
  ∃ v1 v2 o b, m "signed" = some (.bool sg) ∧ m "first" = some v1 ∧ m "last" = some v2 ∧ m "out" = some (.bool o) ∧ m "beyond" = some (.bool b) ∧ StartOk v1 S lo sg o ∧ EndOk v2 S hi sg b
theorem lawI1 {S T lo hi wy le : Int} {t : Tok} {v2 : Value} {pl sg : Bool} {Q : Flow → Shared → Prop} {E : Value → Shared → Prop} (F : Fr h₀ L s.heap m) (N : News h₀ L s.heap keep) (H : LawM m l S T pl) (H2 : LowHi m S lo hi) (H3 : RestV m sg wy (.int (lo - le) t) v2) (hw0 : 0 ≤ wy) (hw1 : wy < 16) (l0 : 0 ≤ lo)
    (hQ : ∀ v1 h' tk m', ((v1 = .none ∧ lo = 0) ∨ ∃ x t, v1 = .int x t ∧ x = lo - le - (if wy.fmod 2 = 1 ∧ 0 < lo then 1 else 0)) → Fr h₀ L h' m' → LawM m' l S T pl → LowHi m' S lo hi → RestV m' sg wy v1 v2 → News h₀ L h' keep → Q .next { s with heap := h', toks := tk }) :
    wpAny (model prog w) (ktrTop dp un gd "law" (defScope 9) L fa cdv [] outer) (exec (lStmt 19) (lEnv L fa cdv)) Q E s := by
  have dummy : (PySem.Challenge.rw_iu0045_01 = PySem.Challenge.rw_iu0045_01 ∧ hd.heap_39 = hd.heap_39) := by (k_fill; exact ⟨rfl, rfl⟩)
  clear dummy
  obtain ⟨t1, t2, t3, t4, t5, t6, F1⟩ := LawM.fr3 B X T' F H H2 H3
  clear F H H2 H3
  simp only [lStmt, lBody, lEnv, defBody, defScope, PySem.Challenge.pw_iu0045_01, List.getElem?_cons_zero, List.getElem?_cons_succ, List.take, List.drop] at *
  k_steps
  all_goals
    refine hQ _ _ _ _ ?_ (by with_reducible assumption) ⟨_, _, rfl, rfl, rfl, rfl⟩ ⟨_, _, _, rfl, rfl, rfl⟩ ⟨_, rfl, rfl, rfl, rfl⟩ (by with_reducible assumption)
    first
      | exact .inl ⟨rfl, by with_reducible assumption⟩
      | exact .inr ⟨_, _, rfl, by first | exact ite_a (by with_reducible assumption) (by with_reducible assumption) | exact ite_b (by with_reducible assumption) | exact ite_c (by with_reducible assumption)⟩
theorem lawI2 {S T lo hi wy le : Int} {t : Tok} {v1 : Value} {pl sg : Bool} {Q : Flow → Shared → Prop} {E : Value → Shared → Prop} (F : Fr h₀ L s.heap m) (N : News h₀ L s.heap keep) (H : LawM m l S T pl) (H2 : LowHi m S lo hi) (H3 : RestV m sg wy v1 (.int (hi - le) t)) (hw0 : 0 ≤ wy) (hw1 : wy < 16) (l0 : 0 ≤ lo)
    (hQ : ∀ v2 h' tk m', ((v2 = .none ∧ hi = 2 ^ S.toNat - 1) ∨ ∃ x t, v2 = .int x t ∧ x = hi - le + (if (wy.fdiv 2).fmod 2 = 1 ∧ hi < 2 ^ S.toNat - 1 then 1 else 0)) → Fr h₀ L h' m' → LawM m' l S T pl → LowHi m' S lo hi → RestV m' sg wy v1 v2 → News h₀ L h' keep → Q .next { s with heap := h', toks := tk }) :
    wpAny (model prog w) (ktrTop dp un gd "law" (defScope 9) L fa cdv [] outer) (exec (lStmt 20) (lEnv L fa cdv)) Q E s := by
  have dummy : (PySem.Challenge.rw_iu0045_01 = PySem.Challenge.rw_iu0045_01 ∧ hd.heap_39 = hd.heap_39) := by (k_fill; exact ⟨rfl, rfl⟩)
  clear dummy
  obtain ⟨t1, t2, t3, t4, t5, t6, F1⟩ := LawM.fr3 B X T' F H H2 H3
  clear F H H2 H3
  simp only [lStmt, lBody, lEnv, defBody, defScope, PySem.Challenge.pw_iu0045_01, List.getElem?_cons_zero, List.getElem?_cons_succ, List.take, List.drop] at *
  k_steps
  all_goals
    refine hQ _ _ _ _ ?_ (by with_reducible assumption) ⟨_, _, rfl, rfl, rfl, rfl⟩ ⟨_, _, _, rfl, rfl, rfl⟩ ⟨_, rfl, rfl, rfl, rfl⟩ (by with_reducible assumption)
    first
      | exact .inl ⟨rfl, by with_reducible assumption⟩
      | exact .inr ⟨_, _, rfl, by first | exact ite_a' (by with_reducible assumption) (by with_reducible assumption) | exact ite_b' (by with_reducible assumption) | exact ite_c' (by with_reducible assumption)⟩
end

theorem so_a {x lo le wy S : Int} {t : Tok} {sg : Bool} (hle : le = (if sg = true then 2 ^ (S - 1).toNat else 0)) (hx : x = lo - le - (if wy.fmod 2 = 1 ∧ 0 < lo then 1 else 0)) (h : wy.fmod 2 = 1) : StartOk (.int x t) S lo sg (decide (0 < lo)) := by
  refine .inr ⟨x, t, rfl, ?_⟩
  rw [← hle]
  by_cases hl : 0 < lo <;> simp [h, hl] at hx ⊢ <;> omega
theorem so_b {x lo le wy S : Int} {t : Tok} {sg : Bool} (hle : le = (if sg = true then 2 ^ (S - 1).toNat else 0)) (hx : x = lo - le - (if wy.fmod 2 = 1 ∧ 0 < lo then 1 else 0)) (h : wy.fmod 2 ≠ 1) : StartOk (.int x t) S lo sg (wy.fmod 2 == 1) := by
  refine .inr ⟨x, t, rfl, ?_⟩
  rw [← hle]
  simp [h] at hx ⊢; omega
theorem eo_a {x hi le wy S : Int} {t : Tok} {sg : Bool} (hle : le = (if sg = true then 2 ^ (S - 1).toNat else 0)) (hx : x = hi - le + (if (wy.fdiv 2).fmod 2 = 1 ∧ hi < 2 ^ S.toNat - 1 then 1 else 0)) (h : (wy.fdiv 2).fmod 2 = 1) : EndOk (.int x t) S hi sg (decide (hi < 2 ^ S.toNat - 1)) := by
  refine .inr ⟨x, t, rfl, ?_⟩
  rw [← hle]
  by_cases hl : hi < 2 ^ S.toNat - 1 <;> simp [h, hl] at hx ⊢ <;> omega
theorem eo_b {x hi le wy S : Int} {t : Tok} {sg : Bool} (hle : le = (if sg = true then 2 ^ (S - 1).toNat else 0)) (hx : x = hi - le + (if (wy.fdiv 2).fmod 2 = 1 ∧ hi < 2 ^ S.toNat - 1 then 1 else 0)) (h : (wy.fdiv 2).fmod 2 ≠ 1) : EndOk (.int x t) S hi sg ((wy.fdiv 2).fmod 2 == 1) := by
  refine .inr ⟨x, t, rfl, ?_⟩
  rw [← hle]
  simp [h] at hx ⊢; omega
section
variable {prog : Program} {w : World} {p : Program} {loose : List Str} {mean : ExcName → Option Value} {mg mb : Str → Option Value}
    {dp un : Nat} {gd : Option (List Code)} {fa : Addr} {cdv : Value} {outer : List Env} {A₀ : Around} {base h₀ : Heap} {L : Addr} {s : Shared} {m : Str → Option Value} {keep : List (Addr × Obj)} {l : Addr}
    (B : Below A₀ base outer h₀) (X : (hd.heap_39 w.params).In h₀) (T' : Top p loose mean mg mb h₀)
    (hdp : dp + 1 < recursionLimit) (hun : un + 8 < cLine)
include B X T' hdp hun
theorem lawI3 {S T lo hi wy le : Int} {v1 v2 : Value} {pl sg : Bool} {Q : Flow → Shared → Prop} {E : Value → Shared → Prop} (F : Fr h₀ L s.heap m) (N : News h₀ L s.heap keep) (H : LawM m l S T pl) (H2 : LowHi m S lo hi) (H3 : RestV m sg wy v1 v2) (hw0 : 0 ≤ wy) (hw1 : wy < 16)
    (hle : le = (if sg = true then 2 ^ (S - 1).toNat else 0)) (h1 : (v1 = .none ∧ lo = 0) ∨ ∃ x t, v1 = .int x t ∧ x = lo - le - (if wy.fmod 2 = 1 ∧ 0 < lo then 1 else 0))
    (hQ : ∀ o h' tk m', StartOk v1 S lo sg o → Fr h₀ L h' m' → LawM m' l S T pl → LowHi m' S lo hi → RestV m' sg wy v1 v2 → m' "out" = some (.bool o) → News h₀ L h' keep → Q .next { s with heap := h', toks := tk }) :
    wpAny (model prog w) (ktrTop dp un gd "law" (defScope 9) L fa cdv [] outer) (exec (lStmt 21) (lEnv L fa cdv)) Q E s := by
  have dummy : (PySem.Challenge.rw_iu0045_01 = PySem.Challenge.rw_iu0045_01 ∧ hd.heap_39 = hd.heap_39) := by (k_fill; exact ⟨rfl, rfl⟩)
  clear dummy
  rcases h1 with ⟨rfl, h0⟩ | ⟨x, t, rfl, hx⟩
  · obtain ⟨t1, t2, t3, t4, t5, t6, F1⟩ := LawM.fr3 B X T' F H H2 H3
    clear F H H2 H3
    simp only [lStmt, lBody, lEnv, defBody, defScope, PySem.Challenge.pw_iu0045_01, List.getElem?_cons_zero, List.getElem?_cons_succ, List.take, List.drop] at *
    k_steps
    all_goals
      exact hQ _ _ _ _ (.inl ⟨rfl, h0⟩) (by with_reducible assumption) ⟨_, _, rfl, rfl, rfl, rfl⟩ ⟨_, _, _, rfl, rfl, rfl⟩ ⟨_, rfl, rfl, rfl, rfl⟩ rfl (by with_reducible assumption)
  · obtain ⟨t1, t2, t3, t4, t5, t6, F1⟩ := LawM.fr3 B X T' F H H2 H3
    clear F H H2 H3
    simp only [lStmt, lBody, lEnv, defBody, defScope, PySem.Challenge.pw_iu0045_01, List.getElem?_cons_zero, List.getElem?_cons_succ, List.take, List.drop] at *
    k_steps
    all_goals
      refine hQ _ _ _ _ ?_ (by with_reducible assumption) ⟨_, _, rfl, rfl, rfl, rfl⟩ ⟨_, _, _, rfl, rfl, rfl⟩ ⟨_, rfl, rfl, rfl, rfl⟩ rfl (by with_reducible assumption)
      first
        | exact so_a hle hx (by with_reducible assumption)
        | exact so_b hle hx (by with_reducible assumption)
theorem lawI4 {S T lo hi wy le : Int} {v1 v2 : Value} {pl sg o : Bool} {Q : Flow → Shared → Prop} {E : Value → Shared → Prop} (F : Fr h₀ L s.heap m) (N : News h₀ L s.heap keep) (H : LawM m l S T pl) (H2 : LowHi m S lo hi) (H3 : RestV m sg wy v1 v2) (e9 : m "out" = some (.bool o)) (hw0 : 0 ≤ wy) (hw1 : wy < 16)
    (hle : le = (if sg = true then 2 ^ (S - 1).toNat else 0)) (hs : StartOk v1 S lo sg o) (h1 : (v2 = .none ∧ hi = 2 ^ S.toNat - 1) ∨ ∃ x t, v2 = .int x t ∧ x = hi - le + (if (wy.fdiv 2).fmod 2 = 1 ∧ hi < 2 ^ S.toNat - 1 then 1 else 0))
    (hQ : ∀ h' tk m', Fr h₀ L h' m' → LawM m' l S T pl → LowHi m' S lo hi → EndsM m' S lo hi sg → News h₀ L h' keep → Q .next { s with heap := h', toks := tk }) :
    wpAny (model prog w) (ktrTop dp un gd "law" (defScope 9) L fa cdv [] outer) (exec (lStmt 22) (lEnv L fa cdv)) Q E s := by
  have dummy : (PySem.Challenge.rw_iu0045_01 = PySem.Challenge.rw_iu0045_01 ∧ hd.heap_39 = hd.heap_39) := by (k_fill; exact ⟨rfl, rfl⟩)
  clear dummy
  have F9 := Fr.see F e9
  have H' : LawM (fun y => if y = "out" then some (.bool o) else m y) l S T pl := by obtain ⟨t1, t2, e1, e2, e3, e4⟩ := H; exact ⟨t1, t2, by with_unfolding_all exact e1, by with_unfolding_all exact e2, by with_unfolding_all exact e3, by with_unfolding_all exact e4⟩
  have H2' : LowHi (fun y => if y = "out" then some (.bool o) else m y) S lo hi := by obtain ⟨t3, t4, t5, e5, e6, e7⟩ := H2; exact ⟨t3, t4, t5, by with_unfolding_all exact e5, by with_unfolding_all exact e6, by with_unfolding_all exact e7⟩
  have H3' : RestV (fun y => if y = "out" then some (.bool o) else m y) sg wy v1 v2 := by obtain ⟨t3, e5, e6, e7, e8⟩ := H3; exact ⟨t3, by with_unfolding_all exact e5, by with_unfolding_all exact e6, by with_unfolding_all exact e7, by with_unfolding_all exact e8⟩
  clear F H H2 H3 e9
  rcases h1 with ⟨rfl, h0⟩ | ⟨x, t, rfl, hx⟩
  · obtain ⟨t1, t2, t3, t4, t5, t6, F1⟩ := LawM.fr3 B X T' F9 H' H2' H3'
    clear F9 H' H2' H3'
    simp only [lStmt, lBody, lEnv, defBody, defScope, PySem.Challenge.pw_iu0045_01, List.getElem?_cons_zero, List.getElem?_cons_succ, List.take, List.drop] at *
    k_steps
    all_goals
      exact hQ _ _ _ (by with_reducible assumption) ⟨_, _, rfl, rfl, rfl, rfl⟩ ⟨_, _, _, rfl, rfl, rfl⟩ ⟨_, _, _, _, rfl, rfl, rfl, rfl, rfl, hs, .inl ⟨rfl, h0⟩⟩ (by with_reducible assumption)
  · obtain ⟨t1, t2, t3, t4, t5, t6, F1⟩ := LawM.fr3 B X T' F9 H' H2' H3'
    clear F9 H' H2' H3'
    simp only [lStmt, lBody, lEnv, defBody, defScope, PySem.Challenge.pw_iu0045_01, List.getElem?_cons_zero, List.getElem?_cons_succ, List.take, List.drop] at *
    k_steps
    all_goals
      refine hQ _ _ _ (by with_reducible assumption) ⟨_, _, rfl, rfl, rfl, rfl⟩ ⟨_, _, _, rfl, rfl, rfl⟩ ⟨_, _, _, _, rfl, rfl, rfl, rfl, rfl, hs, ?_⟩ (by with_reducible assumption)
      first
        | exact eo_a hle hx (by with_reducible assumption)
        | exact eo_b hle hx (by with_reducible assumption)
end

section
/-- a goal that the walker lets lie -/
noncomputable def Held (P : Prop) : Prop := P
theorem Held.out {P : Prop} (h : Held P) : P := h
theorem Held.mk {P : Prop} (h : P) : Held P := h
local macro_rules | `(tactic| walk_at "call ref") => `(tactic| ((with_reducible show wpAny _ _ (call (Value.ref 42) _) _ _ _); refine Held.out ?_))
local macro_rules | `(tactic| walk_at "call ref") => `(tactic| ((with_reducible show wpAny _ _ (call (Value.ref 63) _) _ _ _); refine Held.out ?_))
theorem News.pick4 {h₀ h : Heap} {L : Addr} {a b c d : Addr × Obj} (N : News h₀ L h [a, b, c, d]) : News h₀ L h [a, d] := fun q hq => N q (by
  simp only [List.mem_cons, List.not_mem_nil, or_false] at hq ⊢
  rcases hq with rfl | rfl
  · exact .inl rfl
  · exact .inr (.inr (.inr rfl)))
theorem tups_one {h₀ h : Heap} {L D' : Addr} {a b : Addr × Obj} {l : List (Addr × Obj)} {x y z : Int} {t u v : Tok} (N : News h₀ L h (a :: b :: (D', tupObj x y z t u v) :: l)) : TupsAt h (#[Value.ref D'] : Array Value).toList [(x, y, z)] :=
  ⟨⟨D', t, u, v, rfl, N.get (List.mem_cons_of_mem _ (List.mem_cons_of_mem _ (List.mem_cons_self ..)))⟩, trivial⟩
section
variable {prog : Program} {w : World} {p : Program} {loose : List Str} {mean : ExcName → Option Value} {mg mb : Str → Option Value}
    {dp un : Nat} {gd : Option (List Code)} {fa : Addr} {cdv : Value} {outer : List Env} {A₀ : Around} {base h₀ : Heap} {L : Addr} {s : Shared} {m : Str → Option Value} {keep : List (Addr × Obj)} {l : Addr}
    (B : Below A₀ base outer h₀) (X : (hd.heap_39 w.params).In h₀) (T' : Top p loose mean mg mb h₀)
    (hdp : dp + 3 < recursionLimit) (hun : un + 20 < cLine)
include B X T' hdp hun
omit hdp hun in
theorem LawM.fr4 {S T lo hi : Int} {v1 v2 : Value} {pl sg o b : Bool} {h : Heap} (F : Fr h₀ L h m) (H : LawM m l S T pl) (H2 : LowHi m S lo hi) (f1 : m "signed" = some (.bool sg)) (f2 : m "first" = some v1) (f3 : m "last" = some v2) (f4 : m "out" = some (.bool o)) (f5 : m "beyond" = some (.bool b)) :
    ∃ t1 t2 t3 t4 t5, Fr h₀ L h (fun y => if y = "script" then some (.ref l) else if y = "size" then some (.int S t1) else if y = "step" then some (.int T t2) else if y = "plain" then some (.bool pl)
    else if y = "top" then some (.int (2 ^ S.toNat) t3) else if y = "low" then some (.int lo t4) else if y = "high" then some (.int hi t5) else if y = "signed" then some (.bool sg) else if y = "first" then some v1 else if y = "last" then some v2 else if y = "out" then some (.bool o) else if y = "beyond" then some (.bool b) else m y) := by
  have F5 := Fr.see F f5
  have F4 := Fr.see (x := "out") F5 (by with_unfolding_all exact f4)
  have F3 := Fr.see (x := "last") F4 (by with_unfolding_all exact f3)
  have F2 := Fr.see (x := "first") F3 (by with_unfolding_all exact f2)
  have F1 := Fr.see (x := "signed") F2 (by with_unfolding_all exact f1)
  obtain ⟨t1, t2, e1, e2, e3, e4⟩ := H
  obtain ⟨t3, t4, t5, e5, e6, e7⟩ := H2
  refine ⟨t1, t2, t3, t4, t5, ?_⟩
  have G7 := Fr.see (x := "high") F1 (by with_unfolding_all exact e7)
  have G6 := Fr.see (x := "low") G7 (by with_unfolding_all exact e6)
  have G5 := Fr.see (x := "top") G6 (by with_unfolding_all exact e5)
  have G4 := Fr.see (x := "plain") G5 (by with_unfolding_all exact e4)
  have G3 := Fr.see (x := "step") G4 (by with_unfolding_all exact e3)
  have G2 := Fr.see (x := "size") G3 (by with_unfolding_all exact e2)
  exact Fr.see (x := "script") G2 (by with_unfolding_all exact e1)
theorem lawJ_zero {S lo hi : Int} {sg : Bool} {Q : Flow → Shared → Prop} {E : Value → Shared → Prop} (F : Fr h₀ L s.heap m) (N : News h₀ L s.heap [(30, tabObj #[])]) (H : LawM m l S 0 false) (H2 : LowHi m S lo hi) (H3 : EndsM m S lo hi sg) (h30 : @LT.lt Nat _ 30 L) (K : LawOk S 0 lo hi) (hS : S = 8 ∨ S = 16 ∨ S = 32 ∨ S = 64)
    (hQ : ∀ h' tk m', Fr h₀ L h' m' → News h₀ L h' [(30, tabObj #[])] → Q (.ret (.bool true)) { s with heap := h', toks := tk }) :
    wpAny (model prog w) (ktrTop dp un gd "law" (defScope 9) L fa cdv [] outer) (execs (lBody.drop 23) (lEnv L fa cdv)) Q E s := by
  have dummy : (PySem.Challenge.rw_iu0045_01 = PySem.Challenge.rw_iu0045_01 ∧ hd.heap_39 = hd.heap_39) := by (k_fill; exact ⟨rfl, rfl⟩)
  clear dummy
  obtain ⟨v1, v2, o, b, f1, f2, f3, f4, f5, hs, he⟩ := H3
  obtain ⟨t1, t2, t3, t4, t5, F1⟩ := LawM.fr4 B X T' F H H2 f1 f2 f3 f4 f5
  clear F H H2 f1 f2 f3 f4 f5
  simp only [lStmt, lBody, lEnv, defBody, defScope, PySem.Challenge.pw_iu0045_01, List.getElem?_cons_zero, List.getElem?_cons_succ, List.take, List.drop] at *
  k_steps
  refine Held.mk ?_
  refine tiered_zero (lo := lo) (hi := hi) B F1 X N T' rfl (by omega) (by omega) hS hs he fun D D' t u v h1 tk1 F2 N2 => ?_
  k_steps
  refine Held.mk ?_
  with_reducible rename News _ _ _ _ => lN
  with_reducible rename Fr _ _ _ _ => lF
  obtain ⟨hn, htl⟩ := tiles_one (S := S) K.hS K.lohi
  refine tiles_ok (keep := [((30 : Addr), tabObj #[])]) (xs := [(lo, hi, 0)]) B lF X (News.pick4 lN) T' rfl (by omega) (by omega) (tups_one lN) ?hkp hn (show 1 ≤ 1000 by omega) htl K.bits_le.1 K.bits_le.2 K.hS K.hS2 (Int.le_refl _) (by decide) fun h4 tk4 F4 N4 => ?_
  case hkp =>
    intro q hq y z u t v r
    simp only [List.mem_cons, List.not_mem_nil, or_false] at hq
    subst hq
    intro h
    cases h
  k_steps
  exact hQ _ _ _ F4 fun q hq => N4 q (List.mem_cons_of_mem _ hq)
theorem lawJ_split {S T lo hi : Int} {sg : Bool} {Q : Flow → Shared → Prop} {E : Value → Shared → Prop} (F : Fr h₀ L s.heap m) (N : News h₀ L s.heap [(30, tabObj #[])]) (H : LawM m l S T false) (H2 : LowHi m S lo hi) (H3 : EndsM m S lo hi sg) (C : CodeHd h₀ 34 30) (h30 : @LT.lt Nat _ 30 L) (K : LawOk S T lo hi) (hT : 0 < T) (hS : S = 8 ∨ S = 16 ∨ S = 32 ∨ S = 64)
    (hQ : ∀ h' tk gens' m' ps, Fr h₀ L h' m' → News h₀ L h' [(30, tabObj ps)] → (AllBare s.gens → AllBare gens') → Q (.ret (.bool true)) { s with heap := h', toks := tk, gens := gens' }) :
    wpAny (model prog w) (ktrTop dp un gd "law" (defScope 9) L fa cdv [] outer) (execs (lBody.drop 23) (lEnv L fa cdv)) Q E s := by
  have dummy : (PySem.Challenge.rw_iu0045_01 = PySem.Challenge.rw_iu0045_01 ∧ hd.heap_39 = hd.heap_39) := by (k_fill; exact ⟨rfl, rfl⟩)
  clear dummy
  obtain ⟨v1, v2, o, b, f1, f2, f3, f4, f5, hs, he⟩ := H3
  obtain ⟨t1, t2, t3, t4, t5, F1⟩ := LawM.fr4 B X T' F H H2 f1 f2 f3 f4 f5
  obtain ⟨all, ht, hn, hlen, htl⟩ := tiles_told K hT
  clear F H H2 f1 f2 f3 f4 f5
  simp only [lStmt, lBody, lEnv, defBody, defScope, PySem.Challenge.pw_iu0045_01, List.getElem?_cons_zero, List.getElem?_cons_succ, List.take, List.drop] at *
  k_steps
  refine Held.mk ?_
  refine tiered_split (lo := lo) (hi := hi) B F1 X N T' rfl (by omega) (by omega) hS hT K.hT2 hs he fun ga Lg c oL oC mL hh1 tk1 tg ug F2 N2 lt2 l1 l2 l3 hL2 hH2 hC2 => ?_
  k_steps
  with_reducible rename News _ _ _ _ => lN
  with_reducible rename Fr _ _ _ _ => lF
  refine listgen_ok (S := S) (T := T) (lo := lo) (hi := hi) (all := all) (G := s.gens) B lF X lN T' C rfl (by omega) (by omega) h30 (List.mem_cons_self ..) (List.mem_cons_of_mem _ (List.mem_cons_self ..)) (List.mem_cons_of_mem _ (List.mem_cons_of_mem _ (List.mem_cons_self ..)))
    (List.mem_cons_of_mem _ (List.mem_cons_of_mem _ (List.mem_cons_of_mem _ (List.mem_cons_self ..)))) l1 l2 l3 hL2 hH2 hC2 rfl rfl ⟨K.hS, K.hS2, hT, K.hT2, Int.le_refl _, by decide⟩ ht hlen fun D acc cnt hh2 tk2 gens2 ps F3 N3 lD hTups hG => ?_
  clear lF lN
  k_steps
  refine Held.mk ?_
  refine tiles_ok (keep := [((30 : Addr), tabObj ps)]) (xs := all) B F3 X N3 T' rfl (by omega) (by omega) hTups ?hkp hn hlen htl K.bits_le.1 K.bits_le.2 K.hS K.hS2 K.hT K.hT2 fun h4 tk4 F4 N4 => ?_
  case hkp =>
    intro q hq y z u t v r
    simp only [List.mem_cons, List.not_mem_nil, or_false] at hq
    subst hq
    intro h
    cases h
  k_steps
  exact hQ _ _ _ _ ps F4 (fun q hq => N4 q (List.mem_cons_of_mem _ hq)) hG
end
end

section
variable {prog : Program} {w : World} {p : Program} {loose : List Str} {mean : ExcName → Option Value} {mg mb : Str → Option Value}
    {dp un : Nat} {gd : Option (List Code)} {fa : Addr} {cdv : Value} {outer : List Env} {A₀ : Around} {base h₀ : Heap} {L : Addr} {s : Shared} {m : Str → Option Value} {l : Addr} {vs : List Value} {ns : List Int}
    (B : Below A₀ base outer h₀) (X : (hd.heap_39 w.params).In h₀) (T' : Top p loose mean mg mb h₀)
    (hl : base.IsList l vs.toArray) (hi : IntsAre vs ns) (hfit : ns.length < 2 ^ 62) (hdp : dp + 3 < recursionLimit) (hun : un + 80 < cLine)
include B X T' hl hi hfit hdp hun
theorem law_body {Q : Flow → Shared → Prop} {E : Value → Shared → Prop} (F : Fr h₀ L s.heap m) (N : News h₀ L s.heap [(30, tabObj #[])]) (e1 : m "script" = some (.ref l)) (C : CodeHd h₀ 34 30) (h30 : @LT.lt Nat _ 30 L)
    (hE : PassesOwn (model prog w) (ktrTop dp un gd "law" (defScope 9) L fa cdv [] outer) (lEnv L fa cdv) E)
    (hQ : ∀ h' tk gens' m' ps, Fr h₀ L h' m' → News h₀ L h' [(30, tabObj ps)] → (AllBare s.gens → AllBare gens') → Q (.ret (.bool true)) { s with heap := h', toks := tk, gens := gens' }) :
    wpAny (model prog w) (ktrTop dp un gd "law" (defScope 9) L fa cdv [] outer) (execs lBody (lEnv L fa cdv)) Q E s := by
  have hd1 : dp + 1 < recursionLimit := by omega
  have hu1 : un + 8 < cLine := by omega
  have hu2 : un + 20 < cLine := by omega
  have hu3 : un + 64 < cLine := by omega
  have eb : lBody = lBody.take 4 ++ ((lBody.drop 4).take 3 ++ ((lBody.drop 7).take 2 ++ (lStmt 9 :: lStmt 10 :: lStmt 11 :: lStmt 12 :: ((lBody.drop 13).take 4 ++ (lStmt 17 :: lStmt 18 :: lStmt 19 :: lStmt 20 :: lStmt 21 :: lStmt 22 :: lBody.drop 23))))) := rfl
  rw [eb]
  refine execs_app (lawA B X T' hl hi hfit hd1 hu1 F N e1 fun S T pl t1 t2 h1 tk1 m1 hp1 hp2 hT0 hT2 F1 a1 a2 a3 a4 N1 => ?_)
  have hS1 : 1 ≤ S ∧ S ≤ 70 := by
    cases pl with
    | true => exact (hp1 rfl).2
    | false => have := hp2 rfl; omega
  have H1 : LawM m1 l S T pl := ⟨t1, t2, a1, a2, a3, a4⟩
  refine execs_app (lawB B X T' hl hi hfit hd1 hu1 F1 N1 H1 hS1.1 hS1.2 fun lo hi' h2 tk2 m2 c1 c2 c3 c4 F2 H2 K2 N2 => ?_)
  refine execs_app (lawC B X T' hl hi hfit hd1 hu1 F2 N2 H2 K2 hS1.1 hS1.2 c1 c2 c3 c4 fun lo hi' h3 tk3 m3 c1 c2 c3 F3 H3 K3 N3 => ?_)
  refine wpAny_execs_cons (lawD0 B X T' hd1 hu1 F3 N3 H3 K3 fun t6 h4 tk4 m4 F4 H4 K4 e4 N4 => ?_)
  refine wpAny_execs_cons (lawD B X T' hd1 hu1 F4 N4 H4 K4 e4 hS1.1 hS1.2 hT0 hT2 hE fun b t7 h5 tk5 m5 d1 d2 d3 d4 F5 H5 K5 e5 N5 => ?_)
  refine wpAny_execs_cons (lawE B X T' hd1 hu1 F5 N5 H5 K5 e5 hS1.1 hS1.2 hT0 hT2 c1 c2 c3 d1 d2 d3 d4 fun hi' h6 tk6 m6 ok F6 H6 K6 N6 => ?_)
  cases pl with
  | true => exact wpAny_execs_cons (lawF_ret B X T' hdp hu2 F6 N6 H6 K6 C h30 ok (hp1 rfl).1 fun h7 tk7 g7 m7 ps F7 N7 hG => hQ h7 tk7 g7 m7 ps F7 N7 hG)
  | false =>
    have hS := hp2 rfl
    refine wpAny_execs_cons (lawF_next B X T' hdp hu2 F6 N6 H6 K6 fun tk7 => ?_)
    refine execs_app (lawG B X T' hl hi hfit hd1 hu1 F6 N6 H6 K6 hS1.1 hS1.2 fun sg wy le h8 tk8 m8 w1 w2 w3 F8 H8 K8 R8 N8 => ?_)
    refine wpAny_execs_cons (lawH1 B X T' hd1 hu1 hu3 F8 N8 H8 K8 R8 hS1.1 hS1.2 w3 fun h9 tk9 m9 F9 H9 K9 R9 N9 => ?_)
    refine wpAny_execs_cons (lawH2 B X T' hd1 hu1 hu3 F9 N9 H9 K9 R9 hS1.1 hS1.2 w3 fun h10 tk10 m10 F10 H10 K10 R10 N10 => ?_)
    obtain ⟨r1, r2, r3, r4, g1, g2, g3, g4, g5⟩ := R10
    refine wpAny_execs_cons (lawI1 B X T' hd1 hu1 F10 N10 H10 K10 ⟨r1, g1, g2, g4, g5⟩ w1 w2 c1 fun v1 h11 tk11 m11 f1 F11 H11 K11 R11 N11 => ?_)
    refine wpAny_execs_cons (lawI2 B X T' hd1 hu1 F11 N11 H11 K11 R11 w1 w2 c1 fun v2 h12 tk12 m12 f2 F12 H12 K12 R12 N12 => ?_)
    refine wpAny_execs_cons (lawI3 B X T' hd1 hu1 F12 N12 H12 K12 R12 w1 w2 w3 f1 fun o h13 tk13 m13 f3 F13 H13 K13 R13 e13 N13 => ?_)
    refine wpAny_execs_cons (lawI4 B X T' hd1 hu1 F13 N13 H13 K13 R13 e13 w1 w2 w3 f3 f2 fun h14 tk14 m14 F14 H14 K14 R14 N14 => ?_)
    by_cases hT : 0 < T
    · exact lawJ_split B X T' hdp hu2 F14 N14 H14 K14 R14 C h30 ok hT hS fun h15 tk15 g15 m15 ps F15 N15 hG => hQ h15 tk15 g15 m15 ps F15 N15 hG
    · have hz : T = 0 := by omega
      subst hz
      exact lawJ_zero B X T' hdp hu2 F14 N14 H14 K14 R14 h30 ok hS fun h15 tk15 m15 F15 N15 => hQ h15 tk15 s.gens m15 #[] F15 N15 id
end
end Mine
end

namespace Mine
theorem my_post {M : Model} {A : Around} {cd : Code} {s s₁ : Shared} {cw : ClaimW} {cl : Str → Option Addr} {mean : ExcName → Option Value} {args : List WData} {tabs : List (Addr × Addr)} (hT : TabsAt tabs s₁.heap) (hr : ∀ a x, cw.raises a x = false) (hp : cw.post args (.bool true) args = true)
    (h : codeAny M A cd (fun r s' => r = .ok (.ret (.bool true)) ∧ (∀ b o, (ghostOf s₁.heap tabs).get? b = some o → s'.heap.get? b = some o) ∧ GrownAll tabs s'.heap ∧ s'.os = s₁.os ∧ AllBare s'.gens) s) : codeAny M A cd (GoodWG cw cl mean args s₁) s :=
  codeAny_mono h fun r s' ⟨hc, hk, hgr, hos, hg⟩ => by
    have keep : ∀ b o, b ∉ tabs.map (·.2) → s₁.heap.get? b = some o → s'.heap.get? b = some o := fun b o hb e => hk b o (ghost_ne e hb)
    have grown : ∀ b o, b ∈ tabs.map (·.2) → s₁.heap.get? b = some o → isCodeTable s₁.heap b ∧ o = tabObj #[] ∧ ∃ ps, s'.heap.get? b = some (tabObj ps) := fun b o hb e => by
      obtain ⟨q, hq, rfl⟩ := List.mem_map.mp hb
      have e2 := (hT q hq).2
      rw [e] at e2
      exact ⟨((hT q hq).1.tab (hT q hq).2).isCodeTable, Option.some.inj e2, hgr.get q hq⟩
    refine ⟨.inl ⟨.bool true, .bool true, [], hc, fun x => hr _ x, .bool true, hp, fun _ => ⟨List.nodup_nil, fun a ha => nomatch ha⟩⟩, ⟨fun b o e => ?_, fun b o e => ?_⟩, hos, hg⟩
    · by_cases hb : b ∈ tabs.map (·.2)
      · obtain ⟨ht, rfl, ps, hP⟩ := grown b o hb e
        exact .inr (.inl ⟨ht, rfl, #[], ps, rfl, by rw [Array.empty_append]; exact hP⟩)
      · exact .inl (keep b o hb e)
    · by_cases hb : b ∈ tabs.map (·.2)
      · obtain ⟨_, _, ps, hP⟩ := grown b o hb e
        exact ⟨_, hP⟩
      · exact ⟨o, keep b o hb e⟩
end Mine

local macro_rules | `(tactic| kn_posts) => `(tactic| (refine Mine.my_post $(Lean.mkIdent `hT9) (fun _ _ => rfl) ?hpZ ?_; (case hpZ => wrow_post)))
theorem PySem.Challenge.cw_iu0045_01_holds : PySem.Challenge.rw_iu0045_01.Holds := by
  refine Mine.hd ?_
  k_go0
  with_reducible rename _ = (#[] : Array GenState) => hg
  with_reducible rename IntsAre _ _ => hI
  with_reducible rename ¬ _ < _ => hcc
  rename_i h₁ X' T' K' F' N' l0
  refine Mine.law_body (dp := 1 + claimMargin + 1) (un := 7) (gd := some []) (outer := []) K' X' T' lifted hI ?hfit (by decide) (by decide) F' N' rfl codeHd l0 PassesOwn.leaving ?hQ
  case hfit => omega
  case hQ =>
    intro h' tk gens' m' ps F N hG
    exact ⟨rfl, F.keep, ⟨⟨ps, (N _ (List.mem_cons_self ..)).1⟩, trivial⟩, rfl, hG (.of_eq hg)⟩

