import PyProof.Rows.All
import Wide.All
import OpenK.AllK
import Wide.FinOn
import PySem.Challenge.RW_aa6011_01
open PySem PySem.W PyProof.Rows
set_option Elab.async false
set_option linter.unusedVariables false
set_option rowWalk.seconds 0
set_option maxRecDepth 100000
set_option maxHeartbeats 8000000
namespace Mine
open_top hd for PySem.Challenge.rw_aa6011_01
section
abbrev PG : Program := PySem.Challenge.rw_aa6011_01.row.prog
abbrev lawEnv (nm : Str) (nms : List (Str × NameKind)) (L fa : Addr) (cd : Value) : Env := envOf nm { kind := .function, names := nms, isGenerator := false, isCoroutine := false } L fa cd
abbrev lawA (nm : Str) (nms : List (Str × NameKind)) (L fa : Addr) (cd : Value) : Around := callerA.deeper (lawEnv nm nms L fa cd)
noncomputable abbrev KK (w : World) : Frag := hd.heap_39 w.params
abbrev stObj (P : Params) (g a r e : Tok) (lg : Bool) (st : Value) (ra : Addr) (er : Value) : Obj :=
  dictOf [⟨PyData.keyHash P (Str.ofString "get_log"), .str (Str.ofString "get_log") g, .bool lg⟩,
    ⟨PyData.keyHash P (Str.ofString "status"), .str (Str.ofString "status") a, st⟩,
    ⟨PyData.keyHash P (Str.ofString "reasons"), .str (Str.ofString "reasons") r, .ref ra⟩,
    ⟨PyData.keyHash P (Str.ofString "error_reason"), .str (Str.ofString "error_reason") e, er⟩] 4
abbrev tupObj (wd : Str) (t : Tok) (tx : Value) : Obj := { cls := .type "tuple", data := .seq [.bool true, .str wd t, tx].toArray }
section
variable {prog : Program} {w : World} {A : Around} {E : Value → Shared → Prop} {s : Shared} {h₀ h : Heap} {L d : Addr} {m : Str → Option Value} {news : List (Addr × Obj)} {g : Obj → List (Addr × Obj)} {o : Obj} {kvs : List (Str × Value)} {k : Str} {t : Tok} {v : Value}
theorem ne_of_allLt {d : Addr} {l : List (Addr × Obj)} (h : AllLt d l) : ∀ p ∈ l, p.1 ≠ d := by
  induction l with
  | nil => exact List.forall_mem_nil _
  | cons q r ih => exact List.forall_mem_cons.mpr ⟨Nat.ne_of_lt h.1, ih h.2⟩
theorem allLt_tail {d : Addr} {p : Addr × Obj} {l : List (Addr × Obj)} (h : AllLt d (p :: l)) : AllLt d l := h.2
theorem news_sub {l l' : List (Addr × Obj)} (N : News h₀ L h l) (hs : ∀ p : Addr × Obj, p ∈ l' → p ∈ l) : News h₀ L h l' := by
  intro p hp
  exact N p (hs p hp)
theorem my_notin {Q : Value → Shared → Prop} (N : News h₀ L s.heap news) (hp : (d, o) ∈ news) (hd : o.IsDictOf (PySem.strKind prog w) kvs) (lo : (d == sysModules) = false) {x : Option Value} (hx : valueAt kvs k = x) {b : Bool} (hb : (!x.isSome) = b)
    (h : Q (.bool b) { s with toks := s.toks + 1 }) : wpAny (model prog w) A (compareOp .NotIn (.str k t) (.ref d)) Q E s :=
  wpAny_notIn_of (strKind_is prog w k t) lo (kda_dict N hp hd).mapOf (by rw [hx, hb]; exact h)
theorem find_map_stored (k : Str) (v : Value) : ∀ (kvs : List (Str × Value)), (kvs.any fun kv => decide (kv.fst = k)) = true →
    (kvs.map fun kv => if kv.fst = k then (kv.fst, v) else kv).find? (fun kv => decide (kv.fst = k)) = some (k, v)
  | [], hc => by simp at hc
  | p :: r, hc => by
    by_cases e : p.1 = k
    · rw [List.map_cons, if_pos e, List.find?_cons_of_pos (by simpa using e), e]
    · rw [List.map_cons, if_neg e, List.find?_cons_of_neg (by simpa using e)]
      exact find_map_stored k v r (by rw [List.any_cons, decide_eq_false e, Bool.false_or] at hc; exact hc)
theorem valueAt_stored (kvs : List (Str × Value)) (k : Str) (v : Value) : valueAt (stored kvs k v) k = some v := by
  unfold stored
  by_cases hc : (kvs.any fun kv => decide (kv.fst = k)) = true
  · rw [if_pos hc]
    unfold valueAt
    rw [find_map_stored k v kvs hc]
    rfl
  · rw [if_neg hc]
    have hn : kvs.find? (fun kv => decide (kv.fst = k)) = none := by
      rw [List.find?_eq_none]
      intro x hx hk
      exact hc (List.any_eq_true.mpr ⟨x, hx, hk⟩)
    unfold valueAt
    rw [List.find?_append, hn, Option.none_or, List.find?_cons_of_pos (by simp)]
    rfl
theorem my_item {value slice : PySem.Expr} {Q : Value → Shared → Prop} (N : News h₀ L s.heap news) (hp : (d, o) ∈ news) (hd : o.IsDictOf (PySem.strKind prog w) kvs) (hl : valueAt kvs k = some v) (h : Q v { s with toks := s.toks + 1 })
    (hs : subscripted slice false (.ref d) (.str k t) = operate [.ref d, .str k t] (getItem (.ref d) (.str k t)) := by with_unfolding_all rfl) :
    wpAny (model prog w) A (subscriptTail value slice (.ref d) (.str k t)) Q E s :=
  tail_any (kda_dict N hp hd).typeIs slot_dict_getitem.lookup (wpAny_getItem_of (strKind_is prog w k t) (kda_dict N hp hd).mapOf hl h) hs
end
end
section
def lawBody : List Stmt := match PySem.Challenge.pw_aa6011_01.main.body with
  | [_, _, _, _, _, .FunctionDef (body := b) ..] => b
  | _ => []
def forBody : List Stmt := match lawBody with
  | [_, _, _, _, _, .For _ _ b _ _, _] => b
  | _ => []
def stmtV : List Stmt := match forBody with
  | s :: _ => [s]
  | _ => []
def stmtsMid : List Stmt := match forBody with
  | [_, a, b, c, d, e, _] => [a, b, c, d, e]
  | _ => []
def stmtCheck : List Stmt := match forBody with
  | [_, _, _, _, _, _, c] => [c]
  | _ => []
theorem forBody_eq : forBody = stmtV ++ (stmtsMid ++ stmtCheck) := by rfl
def lawNames : List (Str × NameKind) := match PySem.Challenge.pw_aa6011_01.main.body with
  | [_, _, _, _, _, .FunctionDef (scope := s) ..] => s.names
  | _ => []
abbrev LE (L fa : Addr) (cd : Value) : Env := lawEnv (Str.ofString "law") lawNames L fa cd
abbrev LA (L fa : Addr) (cd : Value) : Around := lawA (Str.ofString "law") lawNames L fa cd
end
section
structure Row where
  key : Str
  a : Addr
  b : Addr
  vs : List Value
  us : List Value
  n : Nat
  n' : Nat
  ns : List Int
abbrev Row.oa (r : Row) : Addr × Obj := (r.a, W.listOf r.vs.toArray r.n)
abbrev Row.ob (r : Row) : Addr × Obj := (r.b, W.listOf r.us.toArray r.n')
def rowsL : List Row → List (Addr × Obj)
  | [] => []
  | r :: rs => r.oa :: r.ob :: rowsL rs
def krOf (rs : List Row) : List (Str × Value) := rs.map fun r => (r.key, Value.ref r.a)
def kbOf (rs : List Row) : List (Str × Value) := rs.map fun r => (r.key, Value.ref r.b)
theorem krOf_keys (rs : List Row) : (krOf rs).map (·.1) = rs.map (·.key) := by
  unfold krOf; rw [List.map_map]; rfl
theorem mem_rowsL {rs : List Row} {r : Row} (h : r ∈ rs) : r.oa ∈ rowsL rs ∧ r.ob ∈ rowsL rs := by
  induction rs with
  | nil => cases h
  | cons q t ih =>
    cases h with
    | head => exact ⟨.head _, .tail _ (.head _)⟩
    | tail _ h => exact ⟨.tail _ (.tail _ (ih h).1), .tail _ (.tail _ (ih h).2)⟩
theorem valueAt_kb {rs : List Row} (hn : (rs.map (·.key)).Nodup) {r : Row} (h : r ∈ rs) : valueAt (kbOf rs) r.key = some (.ref r.b) := by
  induction rs with
  | nil => cases h
  | cons q t ih =>
    rw [List.map_cons, List.nodup_cons] at hn
    unfold valueAt kbOf
    rw [List.map_cons]
    cases h with
    | head => rw [List.find?_cons_of_pos (by simp)]; rfl
    | tail _ h =>
      have hne : ¬ q.key = r.key := fun e => hn.1 (e ▸ List.mem_map.mpr ⟨r, h, rfl⟩)
      rw [List.find?_cons_of_neg (by simpa using hne)]
      exact ih hn.2 h
theorem hits_rows {A : Around} {s : Shared} {h₀ : Heap} {L : Addr} {news : List (Addr × Obj)} {rs : List Row} (hu : A.in1.units + 64 < cLine) (N : News h₀ L s.heap news)
    (hin : ∀ p : Addr × Obj, p ∈ rowsL rs → p ∈ news) (hok : ∀ r ∈ rs, IntsAre r.vs r.ns ∧ IntsAre r.us r.ns) (hnd : (rs.map (·.key)).Nodup) :
    ∀ rs' : List Row, (∀ r : Row, r ∈ rs' → r ∈ rs) → KeqHits A.in1 s (kbOf rs) (krOf rs') true
  | [], _ => .nil
  | r :: t, h => by
    have hr := h r (.head _)
    obtain ⟨m1, m2⟩ := mem_rowsL hr
    have g1 := (N _ (hin _ m1)).1
    have g2 := (N _ (hin _ m2)).1
    obtain ⟨i1, i2⟩ := hok r hr
    have he := keq_ints (A := A) (s := s) (a := r.a) (b := r.b) ⟨_, g1, rfl, _, rfl⟩ i1 ⟨_, g2, rfl, _, rfl⟩ i2 hu
    have ih := hits_rows hu N hin hok hnd t (fun q hq => h q (.tail _ hq))
    have := KeqHits.hit (valueAt_kb hnd hr) he ih
    rw [decide_eq_true rfl] at this
    exact this
theorem hits_rows2 {A : Around} {s : Shared} {h₀ : Heap} {L : Addr} {news rest : List (Addr × Obj)} {rs : List Row} (hu : A.in1.units + 64 < cLine) (N : News h₀ L s.heap news)
    (hin : ∀ p : Addr × Obj, p ∈ rowsL rs → p ∈ rest) (hok : ∀ r ∈ rs, IntsAre r.vs r.ns ∧ IntsAre r.us r.ns) (hnd : (rs.map (·.key)).Nodup) (hsub : ∀ p : Addr × Obj, p ∈ rest → p ∈ news) : KeqHits A.in1 s (kbOf rs) (krOf rs) true :=
  hits_rows hu N (fun p hp => hsub p (hin p hp)) hok hnd rs (fun _ h => h)
theorem fr_at {h₀ h : Heap} {L : Addr} {m : Str → Option Value} {x : Str} {v : Value} (e : m x = some v) (F : Fr h₀ L h m) : Fr h₀ L h (fun y => if y = x then some v else m y) := by
  have : (fun y => if y = x then some v else m y) = m := by
    funext y
    by_cases hy : y = x
    · rw [if_pos hy, hy, e]
    · rw [if_neg hy]
  rw [this]; exact F
def TextOk (e f : Value) : Prop := (e = .none ∧ f = .none) ∨ ∃ z u1 u2, e = .str z u1 ∧ f = .str z u2
theorem OwnOff.cons {p : Addr × Obj} {l : List (Addr × Obj)} {adr : List Addr} (h : ∀ b ∈ adr, p.1 ≠ b) (h2 : OwnOff l adr) : OwnOff (p :: l) adr := by
  intro q hq b hb
  rcases List.mem_cons.mp hq with e | hq
  · rw [e]; exact h b hb
  · exact h2 q hq b hb
theorem ne_self (w : Str) : ¬ (w != w) = true := by simp
theorem ne_selfV (w : Str) : ¬ (!(w == w)) = true := by simp
theorem ne12 {p1 p2 p3 p4 p5 p6 p7 p8 p9 p10 p11 p12 : Prop} {d : Addr} {l : List (Addr × Obj)} (h : p1 ∧ p2 ∧ p3 ∧ p4 ∧ p5 ∧ p6 ∧ p7 ∧ p8 ∧ p9 ∧ p10 ∧ p11 ∧ p12 ∧ AllLt d l) : ∀ p ∈ l, p.1 ≠ d := ne_of_allLt h.2.2.2.2.2.2.2.2.2.2.2.2
end
section
local macro_rules | `(tactic| walk_at "pad0") => `(tactic| skip)
local macro_rules | `(tactic| walk_at "subscriptTail") => `(tactic| (k_here; (with_reducible show wpAny _ _ (subscriptTail _ _ (Value.ref _) (Value.int _ _)) _ _ _); ktb_letter; k_dflt (refine' KTb.item_list ?ktbl ?ktbw ?ktb0 ?ktb1 ?ktbf ?_; (case ktbl => exact News.isList (by k_asm) (by k_mem)); (case ktbw => repeat constructor); (case ktb0 => assumption); (case ktb1 => assumption); (case ktbf => omega)); intro _ ktbLt))
local macro_rules | `(tactic| walk_at "subscriptTail") => `(tactic| (k_here; (with_reducible show wpAny _ _ (subscriptTail _ _ (Value.ref _) (Value.str _ _)) _ _ _); k_dflt (refine my_item (by k_asm) (by k_mem) (by assumption) (by first | exact valueAt_stored _ _ _ | assumption) ?_)))
local macro_rules | `(tactic| walk_at "compareOp NotIn str ref") => `(tactic| (k_here; k_dflt (refine my_notin (by k_asm) (by k_mem) (by assumption) (by assumption) (by assumption) (by rfl) ?_)))
local macro_rules | `(tactic| walk_at "setItem ref str") => `(tactic| (k_here; k_dflt (refine' kda_set (knd := PySem.strKind _ _) ?F ?N ?U ?d (strKind_is _ _ _ _) ?z ?_; (case F => k_asm); (case N => k_asm); (case U => k_updF); (case d => assumption); (case z => assumption)); intro h' o' F' N' hd'; (try dsimp only at N')))
local macro_rules | `(tactic| walk_at "newList") => `(tactic| (k_here; k_dflt (refine' newList_K ?k1 ?k2 ?_; (case k1 => k_asm); (case k2 => k_asm); k_whole); intro l' h' F' N' l1; (have l2 := allLt_of l1); (repeat (replace l2 := allLt_tail l2)); (try k_lt l1); (try k_sweep)))
local macro_rules | `(tactic| k_all) => `(tactic| exact ne_of_allLt (by assumption))
local macro_rules | `(tactic| walk_at "ite") => `(tactic| first | (refine ite_pos (by first | assumption | (simp only [beq_iff_eq, decide_eq_true_eq]; omega)) ?_) | (refine ite_neg (by first | assumption | (simp only [beq_iff_eq, decide_eq_true_eq]; omega)) ?_))
local macro_rules | `(tactic| size_fits) => `(tactic| (simp only [List.size_toArray, sizeLine_eq] at *; omega))
local macro_rules | `(tactic| walk_at "newTuple") => `(tactic| (k_here; k_dflt (refine' kup_newTuple ?F ?N ?_ ?z; (case F => k_asm); (case N => k_asm); (case z => kmk_size)); intro D' h' F' N' l1; (have l3 := allLt_of l1); (repeat (replace l3 := allLt_tail l3)); (try k_lt l1); (try k_sweep)))
theorem deed0 {w : World} {h₀ base : Heap} {L fa : Addr} {cd : Value} {nm : Str} {nms : List (Str × NameKind)} {m mg mb : Str → Option Value} {mean : ExcName → Option Value} {s : Shared} {rest : List (Addr × Obj)} {x0 dx0 r0 b0 : Addr} {g a r e : Tok} {st er : Value}
    {v k : Int} {tv tk tw : Tok} {wd : Str} {Q : Value → Shared → Prop} {E : Value → Shared → Prop}
    (B : Below callerA base [] h₀) (X : (KK w).In h₀) (T : Top hd.view_39 (looseW hd.view_39 []) mean mg mb h₀)
    (F : Fr h₀ L s.heap m) (N : News h₀ L s.heap ((x0, instObj 53 dx0) :: (dx0, stObj w.params g a r e false st r0 er) :: rest)) (hx : @LT.lt Nat _ dx0 x0) (hrest : OwnOff rest [x0, dx0])
    (hv : 0 ≤ v) (hv2 : v < 1000003) (hk : 0 ≤ k) (hk2 : k < 24)
    (h1 : ∀ q h' tk' z u1 u2, Fr h₀ L h' m → News h₀ L h' ((q, tupObj wd tw (.str z u2)) :: (x0, instObj 53 dx0) :: (dx0, stObj w.params g a r e false st r0 (.str z u1)) :: rest) →
      @LT.lt Nat _ x0 q → AllLt q rest → Q (.ref q) { s with heap := h', toks := tk' })
    (h2 : ∀ q h' tk' wd' t1 t2, Fr h₀ L h' m → News h₀ L h' ((q, tupObj wd' t2 .none) :: (x0, instObj 53 dx0) :: (dx0, stObj w.params g a r e false (.str wd' t1) r0 er) :: rest) →
      @LT.lt Nat _ x0 q → AllLt q rest → Q (.ref q) { s with heap := h', toks := tk' }) :
    wpAny (model PG w) (lawA nm nms L fa cd) (call (.ref 71) [.int v tv, .int k tk, .ref x0, .bool false, .str wd tw, .ref b0]) Q E s := by
  have hkey : [Str.ofString "uptodate_false", Str.ofString "missing_target", Str.ofString "missing_file_dep"].getD ((v.fdiv 6).fmod 3).toNat Str.empty = [Str.ofString "uptodate_false", Str.ofString "missing_target", Str.ofString "missing_file_dep"].getD ((v.fdiv 6).fmod 3).toNat Str.empty := rfl
  w_top off
  dsimp only [lawA, lawEnv, KK, stObj, tupObj] at *
  have hm6 : 0 ≤ (v.fdiv 6).fmod 3 ∧ (v.fdiv 6).fmod 3 < 3 := ⟨Int.fmod_nonneg_of_pos _ (by decide), Int.fmod_lt_of_pos _ (by decide)⟩
  obtain ⟨hm6a, hm6b⟩ := hm6
  have hm2 : 0 ≤ (v.fdiv 2).fmod 3 ∧ (v.fdiv 2).fmod 3 < 3 := ⟨Int.fmod_nonneg_of_pos _ (by decide), Int.fmod_lt_of_pos _ (by decide)⟩
  have hkind : (v.fdiv 2).fmod 3 = 2 ∨ (v.fdiv 2).fmod 3 = 0 ∨ (v.fdiv 2).fmod 3 = 1 := by omega
  clear hm2 hkey
  rcases hkind with hkind | hkind | hkind
  · clear h2
    try k_fold
    k_steps
    exact h1 _ _ _ _ _ _ (by assumption) (news_sub (by assumption) (by (repeat (refine List.forall_mem_cons.mpr ⟨by k_mem, ?_⟩)); intro p hp; (repeat (first | exact hp | refine' List.Mem.tail _ ?_)))) (by first | assumption | omega) (by first | assumption | omega)
  · clear h1
    by_cases herr : (v.fdiv 18).fmod 3 = 0
    all_goals try k_fold
    all_goals k_steps
    all_goals exact h2 _ _ _ _ _ _ (by assumption) (news_sub (by assumption) (by (repeat (refine List.forall_mem_cons.mpr ⟨by k_mem, ?_⟩)); intro p hp; (repeat (first | exact hp | refine' List.Mem.tail _ ?_)))) (by first | assumption | omega) (by first | assumption | omega)
  · clear h1
    try k_fold
    k_steps
    exact h2 _ _ _ _ _ _ (by assumption) (news_sub (by assumption) (by (repeat (refine List.forall_mem_cons.mpr ⟨by k_mem, ?_⟩)); intro p hp; (repeat (first | exact hp | refine' List.Mem.tail _ ?_)))) (by first | assumption | omega) (by first | assumption | omega)
end
section
local macro_rules | `(tactic| walk_at "subscriptTail") => `(tactic| (k_here; (with_reducible show wpAny _ _ (subscriptTail _ _ (Value.ref _) (Value.int _ _)) _ _ _); ktb_letter; k_dflt (refine' KTb.item_list ?ktbl ?ktbw ?ktb0 ?ktb1 ?ktbf ?_; (case ktbl => exact News.isList (by k_asm) (by k_mem)); (case ktbw => repeat constructor); (case ktb0 => assumption); (case ktb1 => assumption); (case ktbf => omega)); intro _ ktbLt; (simp only [‹List.getD _ _ _ = _›])))
local macro_rules | `(tactic| walk_at "subscriptTail") => `(tactic| (k_here; (with_reducible show wpAny _ _ (subscriptTail _ _ (Value.ref _) (Value.str _ _)) _ _ _); k_dflt (refine my_item (by k_asm) (by k_mem) (by assumption) (by first | exact valueAt_stored _ _ _ | assumption) ?_)))
local macro_rules | `(tactic| walk_at "compareOp NotIn str ref") => `(tactic| (k_here; k_dflt (first | refine my_notin (b := false) (by k_asm) (by k_mem) (by assumption) (by assumption) (by assumption) (by rfl) ?_ | refine my_notin (b := true) (by k_asm) (by k_mem) (by assumption) (by assumption) (by assumption) (by rfl) ?_)))
local macro_rules | `(tactic| walk_at "setItem ref str") => `(tactic| (k_here; k_dflt (refine' kda_set (knd := PySem.strKind _ _) ?F ?N ?U ?d (strKind_is _ _ _ _) ?z ?_; (case F => k_asm); (case N => k_asm); (case U => k_updF); (case d => assumption); (case z => assumption)); intro h' o' F' N' hd'; (try dsimp only at N')))
local macro_rules | `(tactic| walk_at "newList") => `(tactic| (k_here; k_dflt (refine' newList_K ?k1 ?k2 ?_; (case k1 => k_asm); (case k2 => k_asm); k_whole); intro l' h' F' N' l1; (have l2 := allLt_of l1); (repeat (replace l2 := allLt_tail l2)); (try k_lt l1); (try k_sweep)))
local macro_rules | `(tactic| k_all) => `(tactic| exact ne_of_allLt (by assumption))
local macro_rules | `(tactic| walk_at "ite") => `(tactic| first | (refine ite_pos (by first | assumption | (simp only [beq_iff_eq, decide_eq_true_eq]; omega)) ?_) | (refine ite_neg (by first | assumption | (simp only [beq_iff_eq, decide_eq_true_eq]; omega)) ?_))
local macro_rules | `(tactic| size_fits) => `(tactic| (simp only [List.size_toArray, sizeLine_eq] at *; omega))
local macro_rules | `(tactic| walk_at "newTuple") => `(tactic| (k_here; k_dflt (refine' kup_newTuple ?F ?N ?_ ?z; (case F => k_asm); (case N => k_asm); (case z => kmk_size)); intro D' h' F' N' l1; (have l3 := allLt_of l1); (repeat (replace l3 := allLt_tail l3)); (try k_lt l1); (try k_sweep)))
theorem deed1_text {w : World} {h₀ base : Heap} {L fa : Addr} {cd : Value} {nm : Str} {nms : List (Str × NameKind)} {m mg mb : Str → Option Value} {mean : ExcName → Option Value} {s : Shared} {rest : List (Addr × Obj)} {x1 dx1 r1 b1 : Addr} {g a r e : Tok} {st er : Value}
    {v k : Int} {tv tk tw : Tok} {wd : Str} {Q : Value → Shared → Prop} {E : Value → Shared → Prop} {or ob : Obj}
    (B : Below callerA base [] h₀) (X : (KK w).In h₀) (T : Top hd.view_39 (looseW hd.view_39 []) mean mg mb h₀)
    (F : Fr h₀ L s.heap m) (N : News h₀ L s.heap ((x1, instObj 53 dx1) :: (dx1, stObj w.params g a r e true st r1 er) :: (r1, or) :: (b1, ob) :: rest))
    (h12 : @LT.lt Nat _ dx1 x1) (h13 : @LT.lt Nat _ x1 r1) (h14 : @LT.lt Nat _ r1 b1) (hrest : OwnOff rest [x1, dx1, r1, b1])
    (hv : 0 ≤ v) (hv2 : v < 1000003) (hk : 0 ≤ k) (hk2 : k < 24) (hkind : (v.fdiv 2).fmod 3 = 2)
    (h : ∀ q h' tk' z u1 u2, Fr h₀ L h' m → News h₀ L h' ((q, tupObj wd tw (.str z u2)) :: (x1, instObj 53 dx1) :: (dx1, stObj w.params g a r e true st r1 (.str z u1)) :: (r1, or) :: (b1, ob) :: rest) →
      @LT.lt Nat _ b1 q → AllLt q rest → Q (.ref q) { s with heap := h', toks := tk' }) :
    wpAny (model PG w) (lawA nm nms L fa cd) (call (.ref 71) [.int v tv, .int k tk, .ref x1, .bool true, .str wd tw, .ref b1]) Q E s := by
  w_top off
  dsimp only [lawA, lawEnv, KK, stObj, tupObj] at *
  have hm6 : 0 ≤ (v.fdiv 6).fmod 3 ∧ (v.fdiv 6).fmod 3 < 3 := ⟨Int.fmod_nonneg_of_pos _ (by decide), Int.fmod_lt_of_pos _ (by decide)⟩
  obtain ⟨hm6a, hm6b⟩ := hm6
  all_goals try k_fold
  k_steps
  refine' h _ _ _ _ _ _ ?hF ?hN ?h1 ?h2
  case hF => assumption
  case hN => assumption
  case h1 => omega
  case h2 => assumption
end
section
local macro_rules | `(tactic| walk_at "subscriptTail") => `(tactic| (k_here; (with_reducible show wpAny _ _ (subscriptTail _ _ (Value.ref _) (Value.int _ _)) _ _ _); ktb_letter; k_dflt (refine' KTb.item_list ?ktbl ?ktbw ?ktb0 ?ktb1 ?ktbf ?_; (case ktbl => exact News.isList (by k_asm) (by k_mem)); (case ktbw => repeat constructor); (case ktb0 => assumption); (case ktb1 => assumption); (case ktbf => omega)); intro _ ktbLt; (simp only [‹List.getD _ _ _ = _›])))
local macro_rules | `(tactic| walk_at "subscriptTail") => `(tactic| (k_here; (with_reducible show wpAny _ _ (subscriptTail _ _ (Value.ref _) (Value.str _ _)) _ _ _); k_dflt (refine my_item (by k_asm) (by k_mem) (by assumption) (by first | exact valueAt_stored _ _ _ | assumption) ?_)))
local macro_rules | `(tactic| walk_at "compareOp NotIn str ref") => `(tactic| (k_here; k_dflt (first | refine my_notin (b := false) (by k_asm) (by k_mem) (by assumption) (by assumption) (by assumption) (by rfl) ?_ | refine my_notin (b := true) (by k_asm) (by k_mem) (by assumption) (by assumption) (by assumption) (by rfl) ?_)))
local macro_rules | `(tactic| walk_at "setItem ref str") => `(tactic| (k_here; k_dflt (refine' kda_set (knd := PySem.strKind _ _) ?F ?N ?U ?d (strKind_is _ _ _ _) ?z ?_; (case F => k_asm); (case N => k_asm); (case U => k_updF); (case d => assumption); (case z => assumption)); intro h' o' F' N' hd'; (try dsimp only at N')))
local macro_rules | `(tactic| walk_at "newList") => `(tactic| (k_here; k_dflt (refine' newList_K ?k1 ?k2 ?_; (case k1 => k_asm); (case k2 => k_asm); k_whole); intro l' h' F' N' l1; (have l2 := allLt_of l1); (repeat (replace l2 := allLt_tail l2)); (try k_lt l1); (try k_sweep)))
local macro_rules | `(tactic| k_all) => `(tactic| exact ne_of_allLt (by assumption))
local macro_rules | `(tactic| walk_at "ite") => `(tactic| first | (refine ite_pos (by first | assumption | (simp only [beq_iff_eq, decide_eq_true_eq]; omega)) ?_) | (refine ite_neg (by first | assumption | (simp only [beq_iff_eq, decide_eq_true_eq]; omega)) ?_))
local macro_rules | `(tactic| size_fits) => `(tactic| (simp only [List.size_toArray, sizeLine_eq] at *; omega))
local macro_rules | `(tactic| walk_at "newTuple") => `(tactic| (k_here; k_dflt (refine' kup_newTuple ?F ?N ?_ ?z; (case F => k_asm); (case N => k_asm); (case z => kmk_size)); intro D' h' F' N' l1; (have l3 := allLt_of l1); (repeat (replace l3 := allLt_tail l3)); (try k_lt l1); (try k_sweep)))
theorem deed1_new {w : World} {h₀ base : Heap} {L fa : Addr} {cd : Value} {nm : Str} {nms : List (Str × NameKind)} {m mg mb : Str → Option Value} {mean : ExcName → Option Value} {s : Shared} {rest : List (Addr × Obj)} {x1 dx1 r1 b1 : Addr} {g a r e : Tok} {st er : Value}
    {v k : Int} {tv tk tw : Tok} {wd key : Str} {Q : Value → Shared → Prop} {E : Value → Shared → Prop} {or ob : Obj} {kr kb : List (Str × Value)}
    (B : Below callerA base [] h₀) (X : (KK w).In h₀) (T : Top hd.view_39 (looseW hd.view_39 []) mean mg mb h₀)
    (F : Fr h₀ L s.heap m)
    (N : News h₀ L s.heap ((x1, instObj 53 dx1) :: (dx1, stObj w.params g a r e true st r1 er) :: (r1, or) :: (b1, ob) :: rest)) (h12 : @LT.lt Nat _ dx1 x1) (h13 : @LT.lt Nat _ x1 r1) (h14 : @LT.lt Nat _ r1 b1) (hrest : OwnOff rest [x1, dx1, r1, b1])
    (hr : or.IsDictOf (PySem.strKind PG w) kr) (hb : ob.IsDictOf (PySem.strKind PG w) kb) (lr : (r1 == sysModules) = false) (lb : (b1 == sysModules) = false)
    (zr : kr.length ≤ sizeLine) (zb : kb.length ≤ sizeLine)
    (nr : valueAt kr key = none) (nb : valueAt kb key = none)
    (hv : 0 ≤ v) (hv2 : v < 1000003) (hk : 0 ≤ k) (hk2 : k < 24) (hkind : (v.fdiv 2).fmod 3 = 0)
    (hkey : [Str.ofString "uptodate_false", Str.ofString "missing_target", Str.ofString "missing_file_dep"].getD ((v.fdiv 6).fmod 3).toNat Str.empty = key)
    (h : ∀ q ra rb or' ob' h' tk' wd' t1 t2 t3 t4, Fr h₀ L h' m → or'.IsDictOf (PySem.strKind PG w) (stored kr key (.ref ra)) → ob'.IsDictOf (PySem.strKind PG w) (stored kb key (.ref rb)) → News h₀ L h' ((q, tupObj wd' t2 .none) :: (x1, instObj 53 dx1) :: (dx1, stObj w.params g a r e true (.str wd' t1) r1 er) :: (r1, or') :: (b1, ob') :: (ra, W.listOf [.int k t3].toArray 1) :: (rb, W.listOf [.int k t4].toArray 1) :: rest) →
      @LT.lt Nat _ b1 ra → @LT.lt Nat _ ra rb → @LT.lt Nat _ rb q → AllLt ra rest → AllLt rb rest → AllLt q rest → Q (.ref q) { s with heap := h', toks := tk' }) :
    wpAny (model PG w) (lawA nm nms L fa cd) (call (.ref 71) [.int v tv, .int k tk, .ref x1, .bool true, .str wd tw, .ref b1]) Q E s := by
  w_top off
  dsimp only [lawA, lawEnv, KK, stObj, tupObj] at *
  have hm6 : 0 ≤ (v.fdiv 6).fmod 3 ∧ (v.fdiv 6).fmod 3 < 3 := ⟨Int.fmod_nonneg_of_pos _ (by decide), Int.fmod_lt_of_pos _ (by decide)⟩
  obtain ⟨hm6a, hm6b⟩ := hm6
  by_cases herr : (v.fdiv 18).fmod 3 = 0
  all_goals try k_fold
  all_goals k_steps
  all_goals exact h _ _ _ _ _ _ _ _ _ _ _ _ (by assumption) (by assumption) (by assumption) (news_sub (by assumption) (by (repeat (refine List.forall_mem_cons.mpr ⟨by k_mem, ?_⟩)); intro p hp; (repeat (first | exact hp | refine' List.Mem.tail _ ?_)))) (by first | assumption | omega) (by first | assumption | omega) (by first | assumption | omega) (by first | assumption | omega) (by first | assumption | omega) (by first | assumption | omega)
end
section
local macro_rules | `(tactic| walk_at "subscriptTail") => `(tactic| (k_here; (with_reducible show wpAny _ _ (subscriptTail _ _ (Value.ref _) (Value.int _ _)) _ _ _); ktb_letter; k_dflt (refine' KTb.item_list ?ktbl ?ktbw ?ktb0 ?ktb1 ?ktbf ?_; (case ktbl => exact News.isList (by k_asm) (by k_mem)); (case ktbw => repeat constructor); (case ktb0 => assumption); (case ktb1 => assumption); (case ktbf => omega)); intro _ ktbLt; (simp only [‹List.getD _ _ _ = _›])))
local macro_rules | `(tactic| walk_at "subscriptTail") => `(tactic| (k_here; (with_reducible show wpAny _ _ (subscriptTail _ _ (Value.ref _) (Value.str _ _)) _ _ _); k_dflt (refine my_item (by k_asm) (by k_mem) (by assumption) (by first | exact valueAt_stored _ _ _ | assumption) ?_)))
local macro_rules | `(tactic| walk_at "compareOp NotIn str ref") => `(tactic| (k_here; k_dflt (first | refine my_notin (b := false) (by k_asm) (by k_mem) (by assumption) (by assumption) (by assumption) (by rfl) ?_ | refine my_notin (b := true) (by k_asm) (by k_mem) (by assumption) (by assumption) (by assumption) (by rfl) ?_)))
local macro_rules | `(tactic| walk_at "setItem ref str") => `(tactic| (k_here; k_dflt (refine' kda_set (knd := PySem.strKind _ _) ?F ?N ?U ?d (strKind_is _ _ _ _) ?z ?_; (case F => k_asm); (case N => k_asm); (case U => k_updF); (case d => assumption); (case z => assumption)); intro h' o' F' N' hd'; (try dsimp only at N')))
local macro_rules | `(tactic| walk_at "newList") => `(tactic| (k_here; k_dflt (refine' newList_K ?k1 ?k2 ?_; (case k1 => k_asm); (case k2 => k_asm); k_whole); intro l' h' F' N' l1; (have l2 := allLt_of l1); (repeat (replace l2 := allLt_tail l2)); (try k_lt l1); (try k_sweep)))
local macro_rules | `(tactic| k_all) => `(tactic| exact ne_of_allLt (by assumption))
local macro_rules | `(tactic| walk_at "ite") => `(tactic| first | (refine ite_pos (by first | assumption | (simp only [beq_iff_eq, decide_eq_true_eq]; omega)) ?_) | (refine ite_neg (by first | assumption | (simp only [beq_iff_eq, decide_eq_true_eq]; omega)) ?_))
local macro_rules | `(tactic| size_fits) => `(tactic| (simp only [List.size_toArray, sizeLine_eq] at *; omega))
local macro_rules | `(tactic| walk_at "newTuple") => `(tactic| (k_here; k_dflt (refine' kup_newTuple ?F ?N ?_ ?z; (case F => k_asm); (case N => k_asm); (case z => kmk_size)); intro D' h' F' N' l1; (have l3 := allLt_of l1); (repeat (replace l3 := allLt_tail l3)); (try k_lt l1); (try k_sweep)))
theorem deed1_add {w : World} {h₀ base : Heap} {L fa : Addr} {cd : Value} {nm : Str} {nms : List (Str × NameKind)} {m mg mb : Str → Option Value} {mean : ExcName → Option Value} {s : Shared} {rest : List (Addr × Obj)} {ra rb : Addr} {vs us : List Value} {n1 n2 : Nat} {x1 dx1 r1 b1 : Addr} {g a r e : Tok} {st er : Value}
    {v k : Int} {tv tk tw : Tok} {wd key : Str} {Q : Value → Shared → Prop} {E : Value → Shared → Prop} {or ob : Obj} {kr kb : List (Str × Value)}
    (B : Below callerA base [] h₀) (X : (KK w).In h₀) (T : Top hd.view_39 (looseW hd.view_39 []) mean mg mb h₀)
    (F : Fr h₀ L s.heap m)
    (N : News h₀ L s.heap ((x1, instObj 53 dx1) :: (dx1, stObj w.params g a r e true st r1 er) :: (r1, or) :: (b1, ob) :: (ra, W.listOf vs.toArray n1) :: (rb, W.listOf us.toArray n2) :: rest)) (h12 : @LT.lt Nat _ dx1 x1) (h13 : @LT.lt Nat _ x1 r1) (h14 : @LT.lt Nat _ r1 b1) (h15 : @LT.lt Nat _ b1 ra) (h16 : @LT.lt Nat _ ra rb) (hrest : OwnOff rest [x1, dx1, r1, b1, ra, rb])
    (hr : or.IsDictOf (PySem.strKind PG w) kr) (hb : ob.IsDictOf (PySem.strKind PG w) kb) (lr : (r1 == sysModules) = false) (lb : (b1 == sysModules) = false)
    (zr : kr.length ≤ sizeLine) (zb : kb.length ≤ sizeLine)
    (nr : valueAt kr key = some (.ref ra)) (nb : valueAt kb key = some (.ref rb)) (zv : vs.length ≤ 1000) (zu : us.length ≤ 1000)
    (hv : 0 ≤ v) (hv2 : v < 1000003) (hk : 0 ≤ k) (hk2 : k < 24) (hkind : (v.fdiv 2).fmod 3 = 0)
    (hkey : [Str.ofString "uptodate_false", Str.ofString "missing_target", Str.ofString "missing_file_dep"].getD ((v.fdiv 6).fmod 3).toNat Str.empty = key)
    (h : ∀ q h' tk' wd' t1 t2 t3 t4, Fr h₀ L h' m → News h₀ L h' ((q, tupObj wd' t2 .none) :: (x1, instObj 53 dx1) :: (dx1, stObj w.params g a r e true (.str wd' t1) r1 er) :: (r1, or) :: (b1, ob) :: (ra, W.listOf (vs.toArray.push (.int k t3)) (n1 + 1)) :: (rb, W.listOf (us.toArray.push (.int k t4)) (n2 + 1)) :: rest) →
      @LT.lt Nat _ rb q → AllLt q rest → Q (.ref q) { s with heap := h', toks := tk' }) :
    wpAny (model PG w) (lawA nm nms L fa cd) (call (.ref 71) [.int v tv, .int k tk, .ref x1, .bool true, .str wd tw, .ref b1]) Q E s := by
  w_top off
  dsimp only [lawA, lawEnv, KK, stObj, tupObj] at *
  have hm6 : 0 ≤ (v.fdiv 6).fmod 3 ∧ (v.fdiv 6).fmod 3 < 3 := ⟨Int.fmod_nonneg_of_pos _ (by decide), Int.fmod_lt_of_pos _ (by decide)⟩
  obtain ⟨hm6a, hm6b⟩ := hm6
  by_cases herr : (v.fdiv 18).fmod 3 = 0
  all_goals try k_fold
  all_goals k_steps
  all_goals exact h _ _ _ _ _ _ _ _ (by assumption) (news_sub (by assumption) (by (repeat (refine List.forall_mem_cons.mpr ⟨by k_mem, ?_⟩)); intro p hp; (repeat (first | exact hp | refine' List.Mem.tail _ ?_)))) (by first | assumption | omega) (by first | assumption | omega)
end
section
local macro_rules | `(tactic| walk_at "subscriptTail") => `(tactic| (k_here; (with_reducible show wpAny _ _ (subscriptTail _ _ (Value.ref _) (Value.int _ _)) _ _ _); ktb_letter; k_dflt (refine' KTb.item_list ?ktbl ?ktbw ?ktb0 ?ktb1 ?ktbf ?_; (case ktbl => exact News.isList (by k_asm) (by k_mem)); (case ktbw => repeat constructor); (case ktb0 => assumption); (case ktb1 => assumption); (case ktbf => omega)); intro _ ktbLt; (simp only [‹List.getD _ _ _ = _›])))
local macro_rules | `(tactic| walk_at "subscriptTail") => `(tactic| (k_here; (with_reducible show wpAny _ _ (subscriptTail _ _ (Value.ref _) (Value.str _ _)) _ _ _); k_dflt (refine my_item (by k_asm) (by k_mem) (by assumption) (by first | exact valueAt_stored _ _ _ | assumption) ?_)))
local macro_rules | `(tactic| walk_at "compareOp NotIn str ref") => `(tactic| (k_here; k_dflt (first | refine my_notin (b := false) (by k_asm) (by k_mem) (by assumption) (by assumption) (by assumption) (by rfl) ?_ | refine my_notin (b := true) (by k_asm) (by k_mem) (by assumption) (by assumption) (by assumption) (by rfl) ?_)))
local macro_rules | `(tactic| walk_at "setItem ref str") => `(tactic| (k_here; k_dflt (refine' kda_set (knd := PySem.strKind _ _) ?F ?N ?U ?d (strKind_is _ _ _ _) ?z ?_; (case F => k_asm); (case N => k_asm); (case U => k_updF); (case d => assumption); (case z => assumption)); intro h' o' F' N' hd'; (try dsimp only at N')))
local macro_rules | `(tactic| walk_at "newList") => `(tactic| (k_here; k_dflt (refine' newList_K ?k1 ?k2 ?_; (case k1 => k_asm); (case k2 => k_asm); k_whole); intro l' h' F' N' l1; (have l2 := allLt_of l1); (repeat (replace l2 := allLt_tail l2)); (try k_lt l1); (try k_sweep)))
local macro_rules | `(tactic| k_all) => `(tactic| exact ne_of_allLt (by assumption))
local macro_rules | `(tactic| walk_at "ite") => `(tactic| first | (refine ite_pos (by first | assumption | (simp only [beq_iff_eq, decide_eq_true_eq]; omega)) ?_) | (refine ite_neg (by first | assumption | (simp only [beq_iff_eq, decide_eq_true_eq]; omega)) ?_))
local macro_rules | `(tactic| size_fits) => `(tactic| (simp only [List.size_toArray, sizeLine_eq] at *; omega))
local macro_rules | `(tactic| walk_at "newTuple") => `(tactic| (k_here; k_dflt (refine' kup_newTuple ?F ?N ?_ ?z; (case F => k_asm); (case N => k_asm); (case z => kmk_size)); intro D' h' F' N' l1; (have l3 := allLt_of l1); (repeat (replace l3 := allLt_tail l3)); (try k_lt l1); (try k_sweep)))
theorem deed1_set {w : World} {h₀ base : Heap} {L fa : Addr} {cd : Value} {nm : Str} {nms : List (Str × NameKind)} {m mg mb : Str → Option Value} {mean : ExcName → Option Value} {s : Shared} {rest : List (Addr × Obj)} {x1 dx1 r1 b1 : Addr} {g a r e : Tok} {st er : Value}
    {v k : Int} {tv tk tw : Tok} {wd key : Str} {Q : Value → Shared → Prop} {E : Value → Shared → Prop} {or ob : Obj} {kr kb : List (Str × Value)}
    (B : Below callerA base [] h₀) (X : (KK w).In h₀) (T : Top hd.view_39 (looseW hd.view_39 []) mean mg mb h₀)
    (F : Fr h₀ L s.heap m)
    (N : News h₀ L s.heap ((x1, instObj 53 dx1) :: (dx1, stObj w.params g a r e true st r1 er) :: (r1, or) :: (b1, ob) :: rest)) (h12 : @LT.lt Nat _ dx1 x1) (h13 : @LT.lt Nat _ x1 r1) (h14 : @LT.lt Nat _ r1 b1) (hrest : OwnOff rest [x1, dx1, r1, b1])
    (hr : or.IsDictOf (PySem.strKind PG w) kr) (hb : ob.IsDictOf (PySem.strKind PG w) kb) (lr : (r1 == sysModules) = false) (lb : (b1 == sysModules) = false)
    (zr : kr.length ≤ sizeLine) (zb : kb.length ≤ sizeLine)
    (hv : 0 ≤ v) (hv2 : v < 1000003) (hk : 0 ≤ k) (hk2 : k < 24) (hkind : (v.fdiv 2).fmod 3 = 1)
    (hkey : [Str.ofString "has_no_dependencies", Str.ofString "checker_changed", Str.ofString "changed_file_dep"].getD ((v.fdiv 6).fmod 3).toNat Str.empty = key)
    (h : ∀ q ra rb or' ob' h' tk' wd' t1 t2 t3 t4 t5 t6, Fr h₀ L h' m → or'.IsDictOf (PySem.strKind PG w) (stored kr key (.ref ra)) → ob'.IsDictOf (PySem.strKind PG w) (stored kb key (.ref rb)) → News h₀ L h' ((q, tupObj wd' t2 .none) :: (x1, instObj 53 dx1) :: (dx1, stObj w.params g a r e true (.str wd' t1) r1 er) :: (r1, or') :: (b1, ob') :: (ra, W.listOf [.int k t3, .int k t5].toArray 0) :: (rb, W.listOf [.int k t4, .int k t6].toArray 0) :: rest) →
      @LT.lt Nat _ b1 ra → @LT.lt Nat _ ra rb → @LT.lt Nat _ rb q → AllLt ra rest → AllLt rb rest → AllLt q rest → Q (.ref q) { s with heap := h', toks := tk' }) :
    wpAny (model PG w) (lawA nm nms L fa cd) (call (.ref 71) [.int v tv, .int k tk, .ref x1, .bool true, .str wd tw, .ref b1]) Q E s := by
  w_top off
  dsimp only [lawA, lawEnv, KK, stObj, tupObj] at *
  have hm6 : 0 ≤ (v.fdiv 6).fmod 3 ∧ (v.fdiv 6).fmod 3 < 3 := ⟨Int.fmod_nonneg_of_pos _ (by decide), Int.fmod_lt_of_pos _ (by decide)⟩
  obtain ⟨hm6a, hm6b⟩ := hm6
  all_goals try k_fold
  all_goals k_steps
  all_goals exact h _ _ _ _ _ _ _ _ _ _ _ _ _ _ (by assumption) (by assumption) (by assumption) (news_sub (by assumption) (by (repeat (refine List.forall_mem_cons.mpr ⟨by k_mem, ?_⟩)); intro p hp; (repeat (first | exact hp | refine' List.Mem.tail _ ?_)))) (by first | assumption | omega) (by first | assumption | omega) (by first | assumption | omega) (by first | assumption | omega) (by first | assumption | omega) (by first | assumption | omega)
end
section
theorem stageV {w : World} {h₀ base : Heap} {L fa : Addr} {cd : Value} {m mg mb : Str → Option Value} {mean : ExcName → Option Value} {s : Shared} {rest : List (Addr × Obj)} {D : Addr} {ws : List Value} {ns : List Int} {k : Int} {tk : Tok} {E : Value → Shared → Prop} {Q : Flow → Shared → Prop}
    (B : Below callerA base [] h₀) (X : (KK w).In h₀) (T : Top hd.view_39 (looseW hd.view_39 []) mean mg mb h₀)
    (F : Fr h₀ L s.heap (fun y => if y = Str.ofString "k" then some (.int k tk) else if y = Str.ofString "script" then some (.ref D) else m y)) (N : News h₀ L s.heap ((D, W.listOf ws.toArray 0) :: rest)) (hI : IntsAre ws ns) (hl : ns.length ≤ 24)
    (hk : 0 ≤ k) (hk2 : k < 24)
    (h : ∀ v tv h' tk', Fr h₀ L h' (fun y => if y = Str.ofString "v" then some (.int v tv) else if y = Str.ofString "k" then some (.int k tk) else if y = Str.ofString "script" then some (.ref D) else m y) → News h₀ L h' ((D, W.listOf ws.toArray 0) :: rest) → 0 ≤ v → v < 1000003 → Q .next { s with heap := h', toks := tk' }) :
    wpAny (model PG w) (LA L fa cd) (execs stmtV (LE L fa cd)) Q E s := by
  w_top off
  dsimp only [LE, LA, lawA, lawEnv, KK, stmtV, forBody, lawBody, lawNames, PySem.Challenge.pw_aa6011_01] at *
  try k_fold
  k_steps
  all_goals exact h _ _ _ _ (by assumption) (by assumption) (by first | exact Int.fmod_nonneg_of_pos _ (by decide) | decide) (by first | exact Int.lt_of_lt_of_le (Int.fmod_lt_of_pos _ (by decide)) (by decide) | decide)
end
section
local macro_rules | `(tactic| walk_at "compareOp NotEq ref ref") => `(tactic| (k_here; k_dflt (first
  | refine kne_pairs (knd := PySem.strKind _ _) (ka := []) (kb := []) (by k_asm) (by k_mem) (by k_mem) (by assumption) (by assumption) (by assumption) (by assumption) (by rfl) (by k_units) KeqHits.nil ?_
  | refine kne_pairs (knd := PySem.strKind _ _) (by k_asm) (by k_mem) (by k_mem) (by assumption) (by assumption) (by assumption) (by assumption) (by simp only [krOf, kbOf, List.length_map]) (by k_units) (hits_rows2 (Nat.le_of_ble_eq_true rfl) (by k_asm) (by assumption) (by assumption) (by assumption) (by intro p hp; (repeat (first | exact hp | refine' List.Mem.tail _ ?_)))) ?_); ke_norm))
local macro_rules | `(tactic| walk_at "ite") => `(tactic| (refine ite_neg (by with_reducible first | exact ne_self _ | exact ne_selfV _) ?_))
local macro_rules | `(tactic| walk_at "UnrEnd") => `(tactic| (refine UnrEnd.intro (by assumption) (by assumption) _ (fun _ h => h) ?off ?_; (case off => (repeat (refine List.forall_mem_cons.mpr ⟨by k_ne, ?_⟩)); exact ne12 (by assumption))))
theorem ne_text {prog : Program} {w : World} {A : Around} {E : Value → Shared → Prop} {s : Shared} {e f : Value} {Q : Value → Shared → Prop} (h : TextOk e f) (hQ : Q (.bool false) s) : wpAny (model prog w) A (compareOp .NotEq e f) Q E s := by
  rcases h with ⟨rfl, rfl⟩ | ⟨z, u1, u2, rfl, rfl⟩
  · exact EqNone.ne_none_none hQ
  · refine P.ne_str ?_
    rw [bne_self_eq_false]; exact hQ
local macro_rules | `(tactic| walk_at "compareOp NotEq") => `(tactic| (with_reducible refine ne_text (by assumption) ?_))
local macro_rules | `(tactic| k_handed) => `(tactic| assumption)
theorem stageC {w : World} {h₀ base : Heap} {L fa : Addr} {cd : Value} {m mg mb : Str → Option Value} {mean : ExcName → Option Value} {s : Shared} {rest news : List (Addr × Obj)}
    {x0 dx0 r0 x1 dx1 r1 pr wl b0 b1 bl tl : Addr} {g0 a0 q0 c0 g1 a1 q1 c1 : Tok} {w0 w1 : Str} {t0 t1 t2 t3 : Tok} {e0 e1 f0 f1 : Value} {or0 ob0 or1 ob1 : Obj} {n1 n2 n3 n4 : Nat} {rs : List Row} {Q : Flow → Shared → Prop}
    (B : Below callerA base [] h₀) (X : (KK w).In h₀) (T : Top hd.view_39 (looseW hd.view_39 []) mean mg mb h₀)
    (F : Fr h₀ L s.heap (fun y => if y = Str.ofString "pair" then some (.ref pr) else if y = Str.ofString "words" then some (.ref wl) else if y = Str.ofString "books" then some (.ref bl) else if y = Str.ofString "texts" then some (.ref tl) else m y))
    (N : News h₀ L s.heap ((tl, W.listOf [f0, f1].toArray n1) :: (bl, W.listOf [Value.ref b0, Value.ref b1].toArray n2) :: (b1, ob1) :: (b0, ob0) :: (wl, W.listOf [Value.str w0 t0, Value.str w1 t1].toArray n3) :: (pr, W.listOf [Value.ref x0, Value.ref x1].toArray n4) ::
      (r1, or1) :: (x1, instObj 53 dx1) :: (dx1, stObj w.params g1 a1 q1 c1 true (.str w1 t3) r1 e1) :: (r0, or0) :: (x0, instObj 53 dx0) :: (dx0, stObj w.params g0 a0 q0 c0 false (.str w0 t2) r0 e0) :: rest))
    (hrest : ∀ p : Addr × Obj, p ∈ rowsL rs → p ∈ rest) (hints : ∀ r ∈ rs, IntsAre r.vs r.ns ∧ IntsAre r.us r.ns) (hnd : (rs.map (·.key)).Nodup)
    (d0 : or0.IsDictOf (PySem.strKind PG w) []) (d1 : ob0.IsDictOf (PySem.strKind PG w) []) (d2 : or1.IsDictOf (PySem.strKind PG w) (krOf rs)) (d3 : ob1.IsDictOf (PySem.strKind PG w) (kbOf rs))
    (l0 : (r0 == sysModules) = false) (l1 : (b0 == sysModules) = false) (l2 : (r1 == sysModules) = false) (l3 : (b1 == sysModules) = false)
    (k0 : TextOk e0 f0) (k1 : TextOk e1 f1)
    (h : ∀ m' h' tk', Fr h₀ L h' m' → (∀ y, y ≠ Str.ofString "t" → y ≠ Str.ofString "i" → m' y = (if y = Str.ofString "pair" then some (.ref pr) else if y = Str.ofString "words" then some (.ref wl) else if y = Str.ofString "books" then some (.ref bl) else if y = Str.ofString "texts" then some (.ref tl) else m y)) →
      News h₀ L h' ((tl, W.listOf [f0, f1].toArray n1) :: (bl, W.listOf [Value.ref b0, Value.ref b1].toArray n2) :: (b1, ob1) :: (b0, ob0) :: (wl, W.listOf [Value.str w0 t0, Value.str w1 t1].toArray n3) :: (pr, W.listOf [Value.ref x0, Value.ref x1].toArray n4) ::
      (r1, or1) :: (x1, instObj 53 dx1) :: (dx1, stObj w.params g1 a1 q1 c1 true (.str w1 t3) r1 e1) :: (r0, or0) :: (x0, instObj 53 dx0) :: (dx0, stObj w.params g0 a0 q0 c0 false (.str w0 t2) r0 e0) :: rest) → Q .next { s with heap := h', toks := tk' }) :
    wpAny (model PG w) (LA L fa cd) (execs stmtCheck (LE L fa cd)) Q (fun _ _ => False) s := by
  w_top off
  dsimp only [LE, LA, lawA, lawEnv, KK, stmtCheck, forBody, lawBody, lawNames, stObj, PySem.Challenge.pw_aa6011_01] at *
  have hh0 : handedIn e0 = true := by rcases k0 with ⟨k0, _⟩ | ⟨z0, u0, u1, k0, _⟩ <;> rw [k0] <;> rfl
  have hh1 : handedIn e1 = true := by rcases k1 with ⟨k0, _⟩ | ⟨z0, u0, u1, k0, _⟩ <;> rw [k0] <;> rfl
  try k_fold
  k_steps
  all_goals exact h _ _ _ (by assumption) (by intro y h1 h2; simp only [if_neg h1, if_neg h2]) (by assumption)
end
section
local macro_rules | `(tactic| walk_at "storeName") => `(tactic| (k_here; (simp only [‹Int.fmod _ 2 = _›])))
local macro_rules | `(tactic| walk_at "call ref") => `(tactic| (k_here; (with_reducible show wpAny _ _ (call (Value.ref 71) _) _ _ _); k_dflt (refine deed0 (rest := _ :: _ :: _ :: _ :: _) (by k_asm) (by k_asm) (by k_asm) (by k_asm) (by k_asm) (by assumption) (by (repeat (refine OwnOff.cons (by (repeat (refine List.forall_mem_cons.mpr ⟨by k_ne, ?_⟩)); exact List.forall_mem_nil _) ?_)); assumption) (by assumption) (by assumption) (by assumption) (by assumption) ?_ ?_); (all_goals (intro q' h' tk')); (all_goals (first | (intro z' u1' u2' F' N' l1 l2; (simp only [AllLt, and_true] at l2); (try k_sweep)) | (intro z' u1' u2' F' N' l1 l2; (simp only [AllLt, and_true] at l2); (try k_sweep))))))
theorem mid0 {w : World} {h₀ base : Heap} {L fa : Addr} {cd : Value} {m mg mb : Str → Option Value} {mean : ExcName → Option Value} {s : Shared} {tail : List (Addr × Obj)} {x0 dx0 r0 x1 pr wl b0 b1 bl tl : Addr} {g a r e : Tok} {er f0 f1 : Value}
    {v k : Int} {tv tk t0 t1 t2 : Tok} {w0 w1 : Str} {n1 n2 n3 n4 : Nat} {Q : Flow → Shared → Prop}
    (B : Below callerA base [] h₀) (X : (KK w).In h₀) (T : Top hd.view_39 (looseW hd.view_39 []) mean mg mb h₀)
    (F : Fr h₀ L s.heap (fun y => if y = Str.ofString "v" then some (.int v tv) else if y = Str.ofString "k" then some (.int k tk) else if y = Str.ofString "pair" then some (.ref pr) else if y = Str.ofString "words" then some (.ref wl) else if y = Str.ofString "books" then some (.ref bl) else if y = Str.ofString "texts" then some (.ref tl) else m y))
    (N : News h₀ L s.heap ((x0, instObj 53 dx0) :: (dx0, stObj w.params g a r e false (.str w0 t2) r0 er) :: (tl, W.listOf [f0, f1].toArray n1) :: (bl, W.listOf [Value.ref b0, Value.ref b1].toArray n2) :: (wl, W.listOf [Value.str w0 t0, Value.str w1 t1].toArray n3) :: (pr, W.listOf [Value.ref x0, Value.ref x1].toArray n4) :: tail))
    (o1 : @LT.lt Nat _ dx0 x0) (o2 : @LT.lt Nat _ x0 pr) (o4 : @LT.lt Nat _ pr wl) (o5 : @LT.lt Nat _ wl bl) (o7 : @LT.lt Nat _ bl tl) (hoff : OwnOff tail [x0, dx0]) (hoff2 : OwnOff tail [tl, wl])
    (hv : 0 ≤ v) (hv2 : v < 1000003) (hk : 0 ≤ k) (hk2 : k < 24) (hs : v.fmod 2 = 0)
    (h1 : ∀ m' h' tk' z u1 u2, Fr h₀ L h' m' → (∀ y, y ≠ Str.ofString "text" → y ≠ Str.ofString "word" → y ≠ Str.ofString "good" → y ≠ Str.ofString "s" → m' y = (fun y => if y = Str.ofString "v" then some (.int v tv) else if y = Str.ofString "k" then some (.int k tk) else if y = Str.ofString "pair" then some (.ref pr) else if y = Str.ofString "words" then some (.ref wl) else if y = Str.ofString "books" then some (.ref bl) else if y = Str.ofString "texts" then some (.ref tl) else m y) y) → News h₀ L h' ((x0, instObj 53 dx0) :: (dx0, stObj w.params g a r e false (.str w0 t2) r0 (.str z u1)) :: (tl, W.listOf [Value.str z u2, f1].toArray n1) :: (bl, W.listOf [Value.ref b0, Value.ref b1].toArray n2) :: (wl, W.listOf [Value.str w0 t0, Value.str w1 t1].toArray n3) :: (pr, W.listOf [Value.ref x0, Value.ref x1].toArray n4) :: tail) → Q .next { s with heap := h', toks := tk' })
    (h2 : ∀ m' h' tk' wd' t0' t1', Fr h₀ L h' m' → (∀ y, y ≠ Str.ofString "text" → y ≠ Str.ofString "word" → y ≠ Str.ofString "good" → y ≠ Str.ofString "s" → m' y = (fun y => if y = Str.ofString "v" then some (.int v tv) else if y = Str.ofString "k" then some (.int k tk) else if y = Str.ofString "pair" then some (.ref pr) else if y = Str.ofString "words" then some (.ref wl) else if y = Str.ofString "books" then some (.ref bl) else if y = Str.ofString "texts" then some (.ref tl) else m y) y) → News h₀ L h' ((x0, instObj 53 dx0) :: (dx0, stObj w.params g a r e false (.str wd' t0') r0 er) :: (tl, W.listOf [f0, f1].toArray n1) :: (bl, W.listOf [Value.ref b0, Value.ref b1].toArray n2) :: (wl, W.listOf [Value.str wd' t1', Value.str w1 t1].toArray n3) :: (pr, W.listOf [Value.ref x0, Value.ref x1].toArray n4) :: tail) → Q .next { s with heap := h', toks := tk' }) :
    wpAny (model PG w) (LA L fa cd) (execs stmtsMid (LE L fa cd)) Q (fun _ _ => False) s := by
  w_top off
  dsimp only [LE, LA, lawA, lawEnv, KK, stmtsMid, forBody, lawBody, lawNames, stObj, PySem.Challenge.pw_aa6011_01] at *
  try k_fold
  k_steps
  all_goals first
    | exact h1 _ _ _ _ _ _ (by assumption) (by intro y e1 e2 e3 e4; simp only [if_neg e1, if_neg e2, if_neg e3, if_neg e4]) (news_sub (by assumption) (fun _ h => List.Mem.tail _ h))
    | exact h2 _ _ _ _ _ _ (by assumption) (by intro y e1 e2 e3 e4; simp only [if_neg e1, if_neg e2, if_neg e3, if_neg e4]) (news_sub (by assumption) (fun _ h => List.Mem.tail _ h))
end
section
local macro_rules | `(tactic| walk_at "pad0") => `(tactic| skip)
local macro_rules | `(tactic| walk_at "pad1") => `(tactic| skip)
local macro_rules | `(tactic| walk_at "storeName") => `(tactic| (k_here; (simp only [‹Int.fmod _ 2 = _›])))
local macro_rules | `(tactic| walk_at "call ref") => `(tactic| (k_here; (with_reducible show wpAny _ _ (call (Value.ref 71) _) _ _ _); k_dflt (refine deed1_text (rest := _ :: _ :: _ :: _ :: _) (by k_asm) (by k_asm) (by k_asm) (by k_asm) (by k_asm) (by assumption) (by assumption) (by omega) (by (repeat (refine OwnOff.cons (by (repeat (refine List.forall_mem_cons.mpr ⟨by k_ne, ?_⟩)); exact List.forall_mem_nil _) ?_)); assumption) (by assumption) (by assumption) (by assumption) (by assumption) (by assumption) ?_); intro q' h' tk' z' u1' u2' F' N' l1 l2; (have l2x := l2); (repeat (replace l2x := allLt_tail l2x)); (simp only [AllLt, and_true] at l2); (try k_sweep)))
theorem mid1_text {w : World} {h₀ base : Heap} {L fa : Addr} {cd : Value} {m mg mb : Str → Option Value} {mean : ExcName → Option Value} {s : Shared} {tail : List (Addr × Obj)} {x0 x1 dx1 r1 pr wl b0 b1 bl tl : Addr} {g a r e : Tok} {er f0 f1 : Value}
    {v k : Int} {tv tk t0 t1 t2 : Tok} {w0 w1 : Str} {n1 n2 n3 n4 : Nat} {or ob : Obj} {Q : Flow → Shared → Prop}
    (B : Below callerA base [] h₀) (X : (KK w).In h₀) (T : Top hd.view_39 (looseW hd.view_39 []) mean mg mb h₀)
    (F : Fr h₀ L s.heap (fun y => if y = Str.ofString "v" then some (.int v tv) else if y = Str.ofString "k" then some (.int k tk) else if y = Str.ofString "pair" then some (.ref pr) else if y = Str.ofString "words" then some (.ref wl) else if y = Str.ofString "books" then some (.ref bl) else if y = Str.ofString "texts" then some (.ref tl) else m y))
    (N : News h₀ L s.heap ((x1, instObj 53 dx1) :: (dx1, stObj w.params g a r e true (.str w1 t2) r1 er) :: (r1, or) :: (b1, ob) :: (tl, W.listOf [f0, f1].toArray n1) :: (bl, W.listOf [Value.ref b0, Value.ref b1].toArray n2) :: (wl, W.listOf [Value.str w0 t0, Value.str w1 t1].toArray n3) :: (pr, W.listOf [Value.ref x0, Value.ref x1].toArray n4) :: tail))
    (o1 : @LT.lt Nat _ dx1 x1) (o2 : @LT.lt Nat _ x1 r1) (o3 : @LT.lt Nat _ r1 pr) (o4 : @LT.lt Nat _ pr wl) (o5 : @LT.lt Nat _ wl b1) (o6 : @LT.lt Nat _ b1 bl) (o7 : @LT.lt Nat _ bl tl) (hoff : OwnOff tail [x1, dx1, r1, b1]) (hoff2 : OwnOff tail [tl, wl])
    (hv : 0 ≤ v) (hv2 : v < 1000003) (hk : 0 ≤ k) (hk2 : k < 24) (hs : v.fmod 2 = 1) (hkind : (v.fdiv 2).fmod 3 = 2)
    (h : ∀ m' h' tk' z u1 u2, Fr h₀ L h' m' → (∀ y, y ≠ Str.ofString "text" → y ≠ Str.ofString "word" → y ≠ Str.ofString "good" → y ≠ Str.ofString "s" → m' y = (fun y => if y = Str.ofString "v" then some (.int v tv) else if y = Str.ofString "k" then some (.int k tk) else if y = Str.ofString "pair" then some (.ref pr) else if y = Str.ofString "words" then some (.ref wl) else if y = Str.ofString "books" then some (.ref bl) else if y = Str.ofString "texts" then some (.ref tl) else m y) y) → News h₀ L h' ((x1, instObj 53 dx1) :: (dx1, stObj w.params g a r e true (.str w1 t2) r1 (.str z u1)) :: (r1, or) :: (b1, ob) :: (tl, W.listOf [f0, Value.str z u2].toArray n1) :: (bl, W.listOf [Value.ref b0, Value.ref b1].toArray n2) :: (wl, W.listOf [Value.str w0 t0, Value.str w1 t1].toArray n3) :: (pr, W.listOf [Value.ref x0, Value.ref x1].toArray n4) :: tail) → Q .next { s with heap := h', toks := tk' }) :
    wpAny (model PG w) (LA L fa cd) (execs stmtsMid (LE L fa cd)) Q (fun _ _ => False) s := by
  w_top off
  dsimp only [LE, LA, lawA, lawEnv, KK, stmtsMid, forBody, lawBody, lawNames, stObj, PySem.Challenge.pw_aa6011_01] at *
  try k_fold
  k_steps
  all_goals exact h _ _ _ _ _ _ (by assumption) (by intro y e1 e2 e3 e4; simp only [if_neg e1, if_neg e2, if_neg e3, if_neg e4]) (news_sub (by assumption) (fun _ h => List.Mem.tail _ h))
end
section
local macro_rules | `(tactic| walk_at "storeName") => `(tactic| (k_here; (simp only [‹Int.fmod _ 2 = _›])))
local macro_rules | `(tactic| walk_at "call ref") => `(tactic| (k_here; (with_reducible show wpAny _ _ (call (Value.ref 71) _) _ _ _); k_dflt (refine deed1_new (rest := _ :: _ :: _ :: _ :: _) (by k_asm) (by k_asm) (by k_asm) (by k_asm) (by k_asm) (by assumption) (by assumption) (by omega) (by (repeat (refine OwnOff.cons (by (repeat (refine List.forall_mem_cons.mpr ⟨by k_ne, ?_⟩)); exact List.forall_mem_nil _) ?_)); assumption) (by assumption) (by assumption) (by assumption) (by assumption) (by assumption) (by assumption) (by assumption) (by assumption) (by assumption) (by assumption) (by assumption) (by assumption) (by assumption) (by assumption) ?_); intro q' ra' rb' or' ob' h' tk' wd' ta0 ta1 ta2 ta3 F' hr' hb' N' l1 l2 l3 l4 l5 l6; (have l4x := l4); (repeat (replace l4x := allLt_tail l4x)); (simp only [AllLt, and_true] at l4); (have l5x := l5); (repeat (replace l5x := allLt_tail l5x)); (simp only [AllLt, and_true] at l5); (have l6x := l6); (repeat (replace l6x := allLt_tail l6x)); (simp only [AllLt, and_true] at l6); (try k_sweep)))
theorem mid1_new {w : World} {h₀ base : Heap} {L fa : Addr} {cd : Value} {m mg mb : Str → Option Value} {mean : ExcName → Option Value} {s : Shared} {tail : List (Addr × Obj)} {x0 x1 dx1 r1 pr wl b0 b1 bl tl : Addr} {g a r e : Tok} {er f0 f1 : Value}
    {v k : Int} {tv tk t0 t1 t2 : Tok} {w0 w1 : Str} {n1 n2 n3 n4 : Nat} {or ob : Obj} {Q : Flow → Shared → Prop} {key : Str} {kr kb : List (Str × Value)}
    (B : Below callerA base [] h₀) (X : (KK w).In h₀) (T : Top hd.view_39 (looseW hd.view_39 []) mean mg mb h₀)
    (F : Fr h₀ L s.heap (fun y => if y = Str.ofString "v" then some (.int v tv) else if y = Str.ofString "k" then some (.int k tk) else if y = Str.ofString "pair" then some (.ref pr) else if y = Str.ofString "words" then some (.ref wl) else if y = Str.ofString "books" then some (.ref bl) else if y = Str.ofString "texts" then some (.ref tl) else m y))
    (N : News h₀ L s.heap ((x1, instObj 53 dx1) :: (dx1, stObj w.params g a r e true (.str w1 t2) r1 er) :: (r1, or) :: (b1, ob) :: (tl, W.listOf [f0, f1].toArray n1) :: (bl, W.listOf [Value.ref b0, Value.ref b1].toArray n2) :: (wl, W.listOf [Value.str w0 t0, Value.str w1 t1].toArray n3) :: (pr, W.listOf [Value.ref x0, Value.ref x1].toArray n4) :: tail))
    (o1 : @LT.lt Nat _ dx1 x1) (o2 : @LT.lt Nat _ x1 r1) (o3 : @LT.lt Nat _ r1 pr) (o4 : @LT.lt Nat _ pr wl) (o5 : @LT.lt Nat _ wl b1) (o6 : @LT.lt Nat _ b1 bl) (o7 : @LT.lt Nat _ bl tl) (hoff : OwnOff tail [x1, dx1, r1, b1]) (hoff2 : OwnOff tail [tl, wl])
    (hr : or.IsDictOf (PySem.strKind PG w) kr) (hb : ob.IsDictOf (PySem.strKind PG w) kb) (lr : (r1 == sysModules) = false) (lb : (b1 == sysModules) = false)
    (zr : kr.length ≤ sizeLine) (zb : kb.length ≤ sizeLine)
    (nr : valueAt kr key = none) (nb : valueAt kb key = none)
    (hv : 0 ≤ v) (hv2 : v < 1000003) (hk : 0 ≤ k) (hk2 : k < 24) (hs : v.fmod 2 = 1) (hkind : (v.fdiv 2).fmod 3 = 0)
    (hkey : [Str.ofString "uptodate_false", Str.ofString "missing_target", Str.ofString "missing_file_dep"].getD ((v.fdiv 6).fmod 3).toNat Str.empty = key)
    (h : ∀ m' h' tk' ra rb or' ob' wd' t0' t1' t3 t4, Fr h₀ L h' m' → or'.IsDictOf (PySem.strKind PG w) (stored kr key (.ref ra)) → ob'.IsDictOf (PySem.strKind PG w) (stored kb key (.ref rb)) → (∀ y, y ≠ Str.ofString "text" → y ≠ Str.ofString "word" → y ≠ Str.ofString "good" → y ≠ Str.ofString "s" → m' y = (fun y => if y = Str.ofString "v" then some (.int v tv) else if y = Str.ofString "k" then some (.int k tk) else if y = Str.ofString "pair" then some (.ref pr) else if y = Str.ofString "words" then some (.ref wl) else if y = Str.ofString "books" then some (.ref bl) else if y = Str.ofString "texts" then some (.ref tl) else m y) y) →
      News h₀ L h' ((x1, instObj 53 dx1) :: (dx1, stObj w.params g a r e true (.str wd' t0') r1 er) :: (r1, or') :: (b1, ob') :: (ra, W.listOf [.int k t3].toArray 1) :: (rb, W.listOf [.int k t4].toArray 1) :: (tl, W.listOf [f0, f1].toArray n1) :: (bl, W.listOf [Value.ref b0, Value.ref b1].toArray n2) :: (wl, W.listOf [Value.str w0 t0, Value.str wd' t1'].toArray n3) :: (pr, W.listOf [Value.ref x0, Value.ref x1].toArray n4) :: tail) → @LT.lt Nat _ b1 ra → @LT.lt Nat _ tl ra → @LT.lt Nat _ ra rb → AllLt ra tail → AllLt rb tail → Q .next { s with heap := h', toks := tk' }) :
    wpAny (model PG w) (LA L fa cd) (execs stmtsMid (LE L fa cd)) Q (fun _ _ => False) s := by
  w_top off
  dsimp only [LE, LA, lawA, lawEnv, KK, stmtsMid, forBody, lawBody, lawNames, stObj, PySem.Challenge.pw_aa6011_01] at *
  try k_fold
  k_steps
  all_goals exact h _ _ _ _ _ _ _ _ _ _ _ _ (by assumption) (by assumption) (by assumption) (by intro y e1 e2 e3 e4; simp only [if_neg e1, if_neg e2, if_neg e3, if_neg e4]) (news_sub (by assumption) (by (repeat (refine List.forall_mem_cons.mpr ⟨by k_mem, ?_⟩)); intro p hp; (repeat (first | exact hp | refine' List.Mem.tail _ ?_)))) (by omega) (by omega) (by omega) (by assumption) (by assumption)
end
section
local macro_rules | `(tactic| walk_at "pad0") => `(tactic| skip)
local macro_rules | `(tactic| walk_at "pad1") => `(tactic| skip)
local macro_rules | `(tactic| walk_at "storeName") => `(tactic| (k_here; (simp only [‹Int.fmod _ 2 = _›])))
local macro_rules | `(tactic| walk_at "call ref") => `(tactic| (k_here; (with_reducible show wpAny _ _ (call (Value.ref 71) _) _ _ _); k_dflt (refine deed1_add (rest := _ :: _ :: _ :: _ :: _) (by k_asm) (by k_asm) (by k_asm) (by k_asm) (by k_asm) (by assumption) (by assumption) (by omega) (by omega) (by assumption) (by (repeat (refine OwnOff.cons (by (repeat (refine List.forall_mem_cons.mpr ⟨by k_ne, ?_⟩)); exact List.forall_mem_nil _) ?_)); assumption) (by assumption) (by assumption) (by assumption) (by assumption) (by assumption) (by assumption) (by assumption) (by assumption) (by assumption) (by assumption) (by assumption) (by assumption) (by assumption) (by assumption) (by assumption) (by assumption) ?_); intro q' h' tk' wd' ta1 ta2 ta3 ta4 F' N' l1 l2; (have l2x := l2); (repeat (replace l2x := allLt_tail l2x)); (simp only [AllLt, and_true] at l2); (try k_sweep)))
theorem mid1_add {w : World} {h₀ base : Heap} {L fa : Addr} {cd : Value} {m mg mb : Str → Option Value} {mean : ExcName → Option Value} {s : Shared} {tail : List (Addr × Obj)} {ra rb : Addr} {vs us : List Value} {m1 m2 : Nat} {x0 x1 dx1 r1 pr wl b0 b1 bl tl : Addr} {g a r e : Tok} {er f0 f1 : Value}
    {v k : Int} {tv tk t0 t1 t2 : Tok} {w0 w1 : Str} {n1 n2 n3 n4 : Nat} {or ob : Obj} {Q : Flow → Shared → Prop} {key : Str} {kr kb : List (Str × Value)}
    (B : Below callerA base [] h₀) (X : (KK w).In h₀) (T : Top hd.view_39 (looseW hd.view_39 []) mean mg mb h₀)
    (F : Fr h₀ L s.heap (fun y => if y = Str.ofString "v" then some (.int v tv) else if y = Str.ofString "k" then some (.int k tk) else if y = Str.ofString "pair" then some (.ref pr) else if y = Str.ofString "words" then some (.ref wl) else if y = Str.ofString "books" then some (.ref bl) else if y = Str.ofString "texts" then some (.ref tl) else m y))
    (N : News h₀ L s.heap ((x1, instObj 53 dx1) :: (dx1, stObj w.params g a r e true (.str w1 t2) r1 er) :: (r1, or) :: (b1, ob) :: (ra, W.listOf vs.toArray m1) :: (rb, W.listOf us.toArray m2) :: (tl, W.listOf [f0, f1].toArray n1) :: (bl, W.listOf [Value.ref b0, Value.ref b1].toArray n2) :: (wl, W.listOf [Value.str w0 t0, Value.str w1 t1].toArray n3) :: (pr, W.listOf [Value.ref x0, Value.ref x1].toArray n4) :: tail))
    (o1 : @LT.lt Nat _ dx1 x1) (o2 : @LT.lt Nat _ x1 r1) (o3 : @LT.lt Nat _ r1 pr) (o4 : @LT.lt Nat _ pr wl) (o5 : @LT.lt Nat _ wl b1) (o6 : @LT.lt Nat _ b1 bl) (o7 : @LT.lt Nat _ bl tl) (o8 : @LT.lt Nat _ tl ra) (o9 : @LT.lt Nat _ ra rb) (hoff : OwnOff tail [x1, dx1, r1, b1, ra, rb]) (hoff2 : OwnOff tail [tl, wl])
    (hr : or.IsDictOf (PySem.strKind PG w) kr) (hb : ob.IsDictOf (PySem.strKind PG w) kb) (lr : (r1 == sysModules) = false) (lb : (b1 == sysModules) = false)
    (zr : kr.length ≤ sizeLine) (zb : kb.length ≤ sizeLine)
    (nr : valueAt kr key = some (.ref ra)) (nb : valueAt kb key = some (.ref rb)) (zv : vs.length ≤ 1000) (zu : us.length ≤ 1000)
    (hv : 0 ≤ v) (hv2 : v < 1000003) (hk : 0 ≤ k) (hk2 : k < 24) (hs : v.fmod 2 = 1) (hkind : (v.fdiv 2).fmod 3 = 0)
    (hkey : [Str.ofString "uptodate_false", Str.ofString "missing_target", Str.ofString "missing_file_dep"].getD ((v.fdiv 6).fmod 3).toNat Str.empty = key)
    (h : ∀ m' h' tk' wd' t0' t1' t3 t4, Fr h₀ L h' m' → (∀ y, y ≠ Str.ofString "text" → y ≠ Str.ofString "word" → y ≠ Str.ofString "good" → y ≠ Str.ofString "s" → m' y = (fun y => if y = Str.ofString "v" then some (.int v tv) else if y = Str.ofString "k" then some (.int k tk) else if y = Str.ofString "pair" then some (.ref pr) else if y = Str.ofString "words" then some (.ref wl) else if y = Str.ofString "books" then some (.ref bl) else if y = Str.ofString "texts" then some (.ref tl) else m y) y) → News h₀ L h' ((x1, instObj 53 dx1) :: (dx1, stObj w.params g a r e true (.str wd' t0') r1 er) :: (r1, or) :: (b1, ob) :: (ra, W.listOf (vs.toArray.push (.int k t3)) (m1 + 1)) :: (rb, W.listOf (us.toArray.push (.int k t4)) (m2 + 1)) :: (tl, W.listOf [f0, f1].toArray n1) :: (bl, W.listOf [Value.ref b0, Value.ref b1].toArray n2) :: (wl, W.listOf [Value.str w0 t0, Value.str wd' t1'].toArray n3) :: (pr, W.listOf [Value.ref x0, Value.ref x1].toArray n4) :: tail) → Q .next { s with heap := h', toks := tk' }) :
    wpAny (model PG w) (LA L fa cd) (execs stmtsMid (LE L fa cd)) Q (fun _ _ => False) s := by
  w_top off
  dsimp only [LE, LA, lawA, lawEnv, KK, stmtsMid, forBody, lawBody, lawNames, stObj, PySem.Challenge.pw_aa6011_01] at *
  try k_fold
  k_steps
  all_goals exact h _ _ _ _ _ _ _ _ (by assumption) (by intro y e1 e2 e3 e4; simp only [if_neg e1, if_neg e2, if_neg e3, if_neg e4]) (news_sub (by assumption) (by (repeat (refine List.forall_mem_cons.mpr ⟨by k_mem, ?_⟩)); intro p hp; (repeat (first | exact hp | refine' List.Mem.tail _ ?_))))
end
section
local macro_rules | `(tactic| walk_at "storeName") => `(tactic| (k_here; (simp only [‹Int.fmod _ 2 = _›])))
local macro_rules | `(tactic| walk_at "call ref") => `(tactic| (k_here; (with_reducible show wpAny _ _ (call (Value.ref 71) _) _ _ _); k_dflt (refine deed1_set (rest := _ :: _ :: _ :: _ :: _) (by k_asm) (by k_asm) (by k_asm) (by k_asm) (by k_asm) (by assumption) (by assumption) (by omega) (by (repeat (refine OwnOff.cons (by (repeat (refine List.forall_mem_cons.mpr ⟨by k_ne, ?_⟩)); exact List.forall_mem_nil _) ?_)); assumption) (by assumption) (by assumption) (by assumption) (by assumption) (by assumption) (by assumption) (by assumption) (by assumption) (by assumption) (by assumption) (by assumption) (by assumption) ?_); intro q' ra' rb' or' ob' h' tk' wd' ta0 ta1 ta2 ta3 ta4 ta5 F' hr' hb' N' l1 l2 l3 l4 l5 l6; (have l4x := l4); (repeat (replace l4x := allLt_tail l4x)); (simp only [AllLt, and_true] at l4); (have l5x := l5); (repeat (replace l5x := allLt_tail l5x)); (simp only [AllLt, and_true] at l5); (have l6x := l6); (repeat (replace l6x := allLt_tail l6x)); (simp only [AllLt, and_true] at l6); (try k_sweep)))
theorem mid1_set {w : World} {h₀ base : Heap} {L fa : Addr} {cd : Value} {m mg mb : Str → Option Value} {mean : ExcName → Option Value} {s : Shared} {tail : List (Addr × Obj)} {x0 x1 dx1 r1 pr wl b0 b1 bl tl : Addr} {g a r e : Tok} {er f0 f1 : Value}
    {v k : Int} {tv tk t0 t1 t2 : Tok} {w0 w1 : Str} {n1 n2 n3 n4 : Nat} {or ob : Obj} {Q : Flow → Shared → Prop} {key : Str} {kr kb : List (Str × Value)}
    (B : Below callerA base [] h₀) (X : (KK w).In h₀) (T : Top hd.view_39 (looseW hd.view_39 []) mean mg mb h₀)
    (F : Fr h₀ L s.heap (fun y => if y = Str.ofString "v" then some (.int v tv) else if y = Str.ofString "k" then some (.int k tk) else if y = Str.ofString "pair" then some (.ref pr) else if y = Str.ofString "words" then some (.ref wl) else if y = Str.ofString "books" then some (.ref bl) else if y = Str.ofString "texts" then some (.ref tl) else m y))
    (N : News h₀ L s.heap ((x1, instObj 53 dx1) :: (dx1, stObj w.params g a r e true (.str w1 t2) r1 er) :: (r1, or) :: (b1, ob) :: (tl, W.listOf [f0, f1].toArray n1) :: (bl, W.listOf [Value.ref b0, Value.ref b1].toArray n2) :: (wl, W.listOf [Value.str w0 t0, Value.str w1 t1].toArray n3) :: (pr, W.listOf [Value.ref x0, Value.ref x1].toArray n4) :: tail))
    (o1 : @LT.lt Nat _ dx1 x1) (o2 : @LT.lt Nat _ x1 r1) (o3 : @LT.lt Nat _ r1 pr) (o4 : @LT.lt Nat _ pr wl) (o5 : @LT.lt Nat _ wl b1) (o6 : @LT.lt Nat _ b1 bl) (o7 : @LT.lt Nat _ bl tl) (hoff : OwnOff tail [x1, dx1, r1, b1]) (hoff2 : OwnOff tail [tl, wl])
    (hr : or.IsDictOf (PySem.strKind PG w) kr) (hb : ob.IsDictOf (PySem.strKind PG w) kb) (lr : (r1 == sysModules) = false) (lb : (b1 == sysModules) = false)
    (zr : kr.length ≤ sizeLine) (zb : kb.length ≤ sizeLine)
    (hv : 0 ≤ v) (hv2 : v < 1000003) (hk : 0 ≤ k) (hk2 : k < 24) (hs : v.fmod 2 = 1) (hkind : (v.fdiv 2).fmod 3 = 1)
    (hkey : [Str.ofString "has_no_dependencies", Str.ofString "checker_changed", Str.ofString "changed_file_dep"].getD ((v.fdiv 6).fmod 3).toNat Str.empty = key)
    (h : ∀ m' h' tk' ra rb or' ob' wd' t0' t1' t3 t4 t5 t6, Fr h₀ L h' m' → or'.IsDictOf (PySem.strKind PG w) (stored kr key (.ref ra)) → ob'.IsDictOf (PySem.strKind PG w) (stored kb key (.ref rb)) → (∀ y, y ≠ Str.ofString "text" → y ≠ Str.ofString "word" → y ≠ Str.ofString "good" → y ≠ Str.ofString "s" → m' y = (fun y => if y = Str.ofString "v" then some (.int v tv) else if y = Str.ofString "k" then some (.int k tk) else if y = Str.ofString "pair" then some (.ref pr) else if y = Str.ofString "words" then some (.ref wl) else if y = Str.ofString "books" then some (.ref bl) else if y = Str.ofString "texts" then some (.ref tl) else m y) y) →
      News h₀ L h' ((x1, instObj 53 dx1) :: (dx1, stObj w.params g a r e true (.str wd' t0') r1 er) :: (r1, or') :: (b1, ob') :: (ra, W.listOf [.int k t3, .int k t5].toArray 0) :: (rb, W.listOf [.int k t4, .int k t6].toArray 0) :: (tl, W.listOf [f0, f1].toArray n1) :: (bl, W.listOf [Value.ref b0, Value.ref b1].toArray n2) :: (wl, W.listOf [Value.str w0 t0, Value.str wd' t1'].toArray n3) :: (pr, W.listOf [Value.ref x0, Value.ref x1].toArray n4) :: tail) → @LT.lt Nat _ b1 ra → @LT.lt Nat _ tl ra → @LT.lt Nat _ ra rb → AllLt ra tail → AllLt rb tail → Q .next { s with heap := h', toks := tk' }) :
    wpAny (model PG w) (LA L fa cd) (execs stmtsMid (LE L fa cd)) Q (fun _ _ => False) s := by
  w_top off
  dsimp only [LE, LA, lawA, lawEnv, KK, stmtsMid, forBody, lawBody, lawNames, stObj, PySem.Challenge.pw_aa6011_01] at *
  try k_fold
  k_steps
  all_goals exact h _ _ _ _ _ _ _ _ _ _ _ _ _ _ (by assumption) (by assumption) (by assumption) (by intro y e1 e2 e3 e4; simp only [if_neg e1, if_neg e2, if_neg e3, if_neg e4]) (news_sub (by assumption) (by (repeat (refine List.forall_mem_cons.mpr ⟨by k_mem, ?_⟩)); intro p hp; (repeat (first | exact hp | refine' List.Mem.tail _ ?_)))) (by omega) (by omega) (by omega) (by assumption) (by assumption)
end
section
section
variable {M : Model} {A : Around} {E : Value → Shared → Prop} {s : Shared} {env : Env}
theorem wp_execs_append {Γ : Ctx} {b : List Stmt} {Q : Flow → Pos → Shared → Prop} {E : Value → Pos → Shared → Prop} : ∀ (a : List Stmt) (p : Pos) (s : Shared),
    Sem.wp M Γ (execs (a ++ b) env) Q E p s = Sem.wp M Γ (execs a env) (fun f p' s' => match f with | .next => Sem.wp M Γ (execs b env) Q E p' s' | f => Q f p' s') E p s
  | [], _, _ => rfl
  | st :: r, p, s => by
    rw [List.cons_append, execs_cons, Sem.wp_bind', execs_cons, Sem.wp_bind']
    congr 1
    funext f p' s'
    cases f with
    | next => exact wp_execs_append r p' s'
    | brk => rfl
    | cont => rfl
    | ret v => rfl
theorem execs_append {a b : List Stmt} {Q : Flow → Shared → Prop} (h : wpAny M A (execs a env) (fun f s' => match f with | .next => wpAny M A (execs b env) Q E s' | f => Q f s') E s) :
    wpAny M A (execs (a ++ b) env) Q E s := fun Γ p hΓ => by
  rw [wp_execs_append]
  refine Sem.wp_mono M Γ _ (fun f p' s' h' => ?_) (fun _ _ _ h' => h') _ _ (h Γ p hΓ)
  cases f <;> first | exact h' Γ p' hΓ | exact h'
end
theorem allLt_mem {d : Addr} {l : List (Addr × Obj)} (h : AllLt d l) : ∀ p ∈ l, p.1 < d := by
  induction l with
  | nil => exact List.forall_mem_nil _
  | cons q r ih => exact List.forall_mem_cons.mpr ⟨h.1, ih h.2⟩
def Sep (r q : Row) : Prop := r.a ≠ q.a ∧ r.a ≠ q.b ∧ r.b ≠ q.a ∧ r.b ≠ q.b
def setRow (rs : List Row) (new : Row) : List Row :=
  if (rs.any fun r => decide (r.key = new.key)) = true then rs.map (fun r => if r.key = new.key then new else r) else rs ++ [new]
theorem kr_setRow (rs : List Row) (new : Row) : krOf (setRow rs new) = stored (krOf rs) new.key (.ref new.a) := by
  unfold setRow stored krOf
  rw [List.any_map]
  by_cases hc : (rs.any fun r => decide (r.key = new.key)) = true
  · rw [if_pos hc, if_pos (show (rs.any ((fun kv : Str × Value => decide (kv.fst = new.key)) ∘ fun r => (r.key, Value.ref r.a))) = true from hc), List.map_map, List.map_map]
    apply List.map_congr_left
    intro r _
    by_cases e : r.key = new.key
    · simp [e]
    · simp [e]
  · rw [if_neg hc, if_neg (show ¬ (rs.any ((fun kv : Str × Value => decide (kv.fst = new.key)) ∘ fun r => (r.key, Value.ref r.a))) = true from hc), List.map_append]
    rfl
theorem kb_setRow (rs : List Row) (new : Row) : kbOf (setRow rs new) = stored (kbOf rs) new.key (.ref new.b) := by
  unfold setRow stored kbOf
  rw [List.any_map]
  by_cases hc : (rs.any fun r => decide (r.key = new.key)) = true
  · rw [if_pos hc, if_pos (show (rs.any ((fun kv : Str × Value => decide (kv.fst = new.key)) ∘ fun r => (r.key, Value.ref r.b))) = true from hc), List.map_map, List.map_map]
    apply List.map_congr_left
    intro r _
    by_cases e : r.key = new.key
    · simp [e]
    · simp [e]
  · rw [if_neg hc, if_neg (show ¬ (rs.any ((fun kv : Str × Value => decide (kv.fst = new.key)) ∘ fun r => (r.key, Value.ref r.b))) = true from hc), List.map_append]
    rfl
theorem mem_setRow {rs : List Row} {new r : Row} (h : r ∈ setRow rs new) : r = new ∨ r ∈ rs := by
  unfold setRow at h
  split at h
  · obtain ⟨q, hq, e⟩ := List.mem_map.mp h
    by_cases c : q.key = new.key
    · rw [if_pos c] at e; exact .inl e.symm
    · rw [if_neg c] at e; exact .inr (e ▸ hq)
  · rcases List.mem_append.mp h with h | h
    · exact .inr h
    · exact .inl (List.mem_singleton.mp h)
theorem len_setRow (rs : List Row) (new : Row) : (setRow rs new).length ≤ rs.length + 1 := by
  unfold setRow
  split
  · rw [List.length_map]; omega
  · rw [List.length_append]; exact Nat.le_refl _
theorem sep_setRow {rs : List Row} {new : Row} (hn : (rs.map (·.key)).Nodup) (hs : rs.Pairwise Sep) (hlt : ∀ r ∈ rs, @LT.lt Nat _ r.a new.a ∧ @LT.lt Nat _ r.b new.a) (hab : @LT.lt Nat _ new.a new.b) : (setRow rs new).Pairwise Sep := by
  unfold setRow
  split
  · rw [List.pairwise_map]
    have hk : rs.Pairwise (fun r q => r.key ≠ q.key) := by
      have := hn
      unfold List.Nodup at this
      rw [List.pairwise_map] at this
      exact this
    refine List.Pairwise.imp_of_mem ?_ (hs.and hk)
    intro r q hr hq ⟨h1, h2⟩
    have lr := hlt r hr
    have lq := hlt q hq
    by_cases c1 : r.key = new.key
    · by_cases c2 : q.key = new.key
      · exact absurd (c1.trans c2.symm) h2
      · rw [if_pos c1, if_neg c2]
        refine ⟨?_, ?_, ?_, ?_⟩ <;> (refine neN ?_; omega)
    · by_cases c2 : q.key = new.key
      · rw [if_neg c1, if_pos c2]
        refine ⟨?_, ?_, ?_, ?_⟩ <;> (refine neN ?_; omega)
      · rw [if_neg c1, if_neg c2]; exact h1
  · refine List.pairwise_append.mpr ⟨hs, List.pairwise_singleton _ _, ?_⟩
    intro r hr q hq
    rw [List.mem_singleton.mp hq]
    have lr := hlt r hr
    refine ⟨?_, ?_, ?_, ?_⟩ <;> (refine neN ?_; omega)
theorem mem_rowsL_iff {rs : List Row} {p : Addr × Obj} : p ∈ rowsL rs ↔ ∃ r ∈ rs, p = r.oa ∨ p = r.ob := by
  induction rs with
  | nil =>
    constructor
    · intro h; cases h
    · rintro ⟨_, h, _⟩; cases h
  | cons q t ih =>
    constructor
    · intro h
      rcases List.mem_cons.mp h with h | h
      · exact ⟨q, .head _, .inl h⟩
      · rcases List.mem_cons.mp h with h | h
        · exact ⟨q, .head _, .inr h⟩
        · obtain ⟨r, hr, e⟩ := ih.mp h
          exact ⟨r, .tail _ hr, e⟩
    · rintro ⟨r, hr, e⟩
      rcases List.mem_cons.mp hr with rfl | hr
      · rcases e with e | e
        · exact e ▸ .head _
        · exact e ▸ .tail _ (.head _)
      · exact .tail _ (.tail _ (ih.mpr ⟨r, hr, e⟩))
theorem valueAt_kr {rs : List Row} (hn : (rs.map (·.key)).Nodup) {r : Row} (h : r ∈ rs) : valueAt (krOf rs) r.key = some (.ref r.a) := by
  induction rs with
  | nil => cases h
  | cons q t ih =>
    rw [List.map_cons, List.nodup_cons] at hn
    unfold valueAt krOf
    rw [List.map_cons]
    cases h with
    | head => rw [List.find?_cons_of_pos (by simp)]; rfl
    | tail _ h =>
      have hne : ¬ q.key = r.key := fun e => hn.1 (e ▸ List.mem_map.mpr ⟨r, h, rfl⟩)
      rw [List.find?_cons_of_neg (by simpa using hne)]
      exact ih hn.2 h
theorem valueAt_none {rs : List Row} {key : Str} (h : ∀ r ∈ rs, r.key ≠ key) : valueAt (krOf rs) key = none ∧ valueAt (kbOf rs) key = none := by
  refine ⟨valueAt_none_of_not_mem ?_, valueAt_none_of_not_mem ?_⟩
  · intro hm
    unfold krOf at hm
    rw [List.map_map] at hm
    obtain ⟨r, hr, e⟩ := List.mem_map.mp hm
    exact h r hr e
  · intro hm
    unfold kbOf at hm
    rw [List.map_map] at hm
    obtain ⟨r, hr, e⟩ := List.mem_map.mp hm
    exact h r hr e
structure Fix where
  D : Addr
  x0 : Addr
  dx0 : Addr
  r0 : Addr
  x1 : Addr
  dx1 : Addr
  r1 : Addr
  pr : Addr
  wl : Addr
  b0 : Addr
  b1 : Addr
  bl : Addr
  tl : Addr
  g0 : Tok
  a0 : Tok
  q0 : Tok
  c0 : Tok
  g1 : Tok
  a1 : Tok
  q1 : Tok
  c1 : Tok
  ws : List Value
  ns : List Int
  or0 : Obj
  ob0 : Obj
  n1 : Nat
  n2 : Nat
  n3 : Nat
  n4 : Nat
structure Fix.Ok (w : World) (C : Fix) : Prop where
  u1 : @LT.lt Nat _ C.D C.dx0
  u2 : @LT.lt Nat _ C.dx0 C.x0
  u3 : @LT.lt Nat _ C.x0 C.r0
  u4 : @LT.lt Nat _ C.r0 C.dx1
  u5 : @LT.lt Nat _ C.dx1 C.x1
  u6 : @LT.lt Nat _ C.x1 C.r1
  u7 : @LT.lt Nat _ C.r1 C.pr
  u8 : @LT.lt Nat _ C.pr C.wl
  u9 : @LT.lt Nat _ C.wl C.b0
  u10 : @LT.lt Nat _ C.b0 C.b1
  u11 : @LT.lt Nat _ C.b1 C.bl
  u12 : @LT.lt Nat _ C.bl C.tl
  d0 : C.or0.IsDictOf (PySem.strKind PG w) []
  d1 : C.ob0.IsDictOf (PySem.strKind PG w) []
  l0 : (C.r0 == sysModules) = false
  l1 : (C.b0 == sysModules) = false
  l2 : (C.r1 == sysModules) = false
  l3 : (C.b1 == sysModules) = false
  hI : IntsAre C.ws C.ns
  hl : C.ns.length ≤ 24
structure Var where
  w0 : Str
  w1 : Str
  t0 : Tok
  t1 : Tok
  t2 : Tok
  t3 : Tok
  e0 : Value
  e1 : Value
  f0 : Value
  f1 : Value
  or1 : Obj
  ob1 : Obj
  rs : List Row
abbrev ledV (w : World) (C : Fix) (V : Var) : List (Addr × Obj) :=
  (C.tl, W.listOf [V.f0, V.f1].toArray C.n1) :: (C.bl, W.listOf [Value.ref C.b0, Value.ref C.b1].toArray C.n2) :: (C.b1, V.ob1) :: (C.b0, C.ob0) :: (C.wl, W.listOf [Value.str V.w0 V.t0, Value.str V.w1 V.t1].toArray C.n3) :: (C.pr, W.listOf [Value.ref C.x0, Value.ref C.x1].toArray C.n4) ::
  (C.r1, V.or1) :: (C.x1, instObj 53 C.dx1) :: (C.dx1, stObj w.params C.g1 C.a1 C.q1 C.c1 true (.str V.w1 V.t3) C.r1 V.e1) :: (C.r0, C.or0) :: (C.x0, instObj 53 C.dx0) :: (C.dx0, stObj w.params C.g0 C.a0 C.q0 C.c0 false (.str V.w0 V.t2) C.r0 V.e0) :: (C.D, W.listOf C.ws.toArray 0) :: rowsL V.rs
structure Good (w : World) (C : Fix) (c : Nat) (V : Var) : Prop where
  k0 : TextOk V.e0 V.f0
  k1 : TextOk V.e1 V.f1
  d2 : V.or1.IsDictOf (PySem.strKind PG w) (krOf V.rs)
  d3 : V.ob1.IsDictOf (PySem.strKind PG w) (kbOf V.rs)
  rows : ∀ r ∈ V.rs, @LT.lt Nat _ C.tl r.a ∧ @LT.lt Nat _ r.a r.b ∧ IntsAre r.vs r.ns ∧ IntsAre r.us r.ns ∧ r.ns.length ≤ c + 1
  sep : V.rs.Pairwise Sep
  len : V.rs.length ≤ c
theorem Good.keys {w : World} {C : Fix} {c : Nat} {V : Var} (h : Good w C c V) : (V.rs.map (·.key)).Nodup := by
  obtain ⟨_, _, _, _, _, _, hn⟩ := h.d2
  rw [krOf_keys] at hn
  exact hn
structure MapOk (C : Fix) (m : Str → Option Value) : Prop where
  m1 : m (Str.ofString "script") = some (.ref C.D)
  m2 : m (Str.ofString "pair") = some (.ref C.pr)
  m3 : m (Str.ofString "words") = some (.ref C.wl)
  m4 : m (Str.ofString "books") = some (.ref C.bl)
  m5 : m (Str.ofString "texts") = some (.ref C.tl)
end
section
theorem offL {l : List (Addr × Obj)} {adr : List Addr} (h : ∀ b ∈ adr, ∀ p ∈ l, p.1 ≠ b) : OwnOff l adr := fun p hp b hb => h b hb p hp
structure OffOwn (C : Fix) (own : List (Addr × Obj)) (rs : List Row) : Prop where
  fx : OwnOff own [C.tl, C.bl, C.b1, C.b0, C.wl, C.pr, C.r1, C.x1, C.dx1, C.r0, C.x0, C.dx0, C.D]
  rw : ∀ p ∈ own, ∀ r ∈ rs, p.1 ≠ r.a ∧ p.1 ≠ r.b
theorem off_to {w : World} {C : Fix} {V : Var} {own : List (Addr × Obj)} (h : OwnOff own ((ledV w C V).map (·.1))) : OffOwn C own V.rs := by
  refine ⟨fun p hp b hb => h p hp b ?_, fun p hp r hr => ⟨h p hp r.a ?_, h p hp r.b ?_⟩⟩
  · exact List.mem_append_left ((rowsL V.rs).map (·.1)) hb
  · exact List.mem_append_right [C.tl, C.bl, C.b1, C.b0, C.wl, C.pr, C.r1, C.x1, C.dx1, C.r0, C.x0, C.dx0, C.D] (List.mem_map.mpr ⟨r.oa, (mem_rowsL hr).1, rfl⟩)
  · exact List.mem_append_right [C.tl, C.bl, C.b1, C.b0, C.wl, C.pr, C.r1, C.x1, C.dx1, C.r0, C.x0, C.dx0, C.D] (List.mem_map.mpr ⟨r.ob, (mem_rowsL hr).2, rfl⟩)
theorem off_of {w : World} {C : Fix} {V : Var} {own : List (Addr × Obj)} (h : OffOwn C own V.rs) : OwnOff own ((ledV w C V).map (·.1)) := by
  intro p hp b hb
  have hb' : b ∈ [C.tl, C.bl, C.b1, C.b0, C.wl, C.pr, C.r1, C.x1, C.dx1, C.r0, C.x0, C.dx0, C.D] ++ (rowsL V.rs).map (·.1) := hb
  rcases List.mem_append.mp hb' with hb | hb
  · exact h.fx p hp b hb
  · obtain ⟨q, hq, rfl⟩ := List.mem_map.mp hb
    obtain ⟨r, hr, e⟩ := mem_rowsL_iff.mp hq
    rcases e with e | e
    · rw [e]; exact (h.rw p hp r hr).1
    · rw [e]; exact (h.rw p hp r hr).2
section
variable {w : World} {h₀ base : Heap} {L fa : Addr} {cd : Value} {mg mb : Str → Option Value} {mean : ExcName → Option Value} {C : Fix} {own : List (Addr × Obj)}
theorem off_rest {c : Nat} {V : Var} {b : Addr} (hg : Good w C c V) (ho : OffOwn C own V.rs) (hb : b ∈ [C.tl, C.bl, C.b1, C.b0, C.wl, C.pr, C.r1, C.x1, C.dx1, C.r0, C.x0, C.dx0, C.D]) (hle : @LE.le Nat _ b C.tl) : ∀ p ∈ rowsL V.rs ++ own, p.1 ≠ b := by
  intro p hp
  rcases List.mem_append.mp hp with hp | hp
  · obtain ⟨r, hr, e⟩ := mem_rowsL_iff.mp hp
    obtain ⟨h1, h2, _⟩ := hg.rows r hr
    rcases e with e | e
    · rw [e]; refine neN ?_; show @Ne Nat r.a b; omega
    · rw [e]; refine neN ?_; show @Ne Nat r.b b; omega
  · exact ho.fx p hp b hb
def EndK (w : World) (h₀ : Heap) (L : Addr) (C : Fix) (own : List (Addr × Obj)) (c : Nat) (s : Shared) (Q : Shared → Prop) : Prop :=
  ∀ V m' h' tk', Fr h₀ L h' m' → MapOk C m' → News h₀ L h' (ledV w C V ++ own) → OffOwn C own V.rs → Good w C c V → Q { s with heap := h', toks := tk' }
theorem fin {c : Nat} {s : Shared} {Q : Flow → Shared → Prop} (B : Below callerA base [] h₀) (X : (KK w).In h₀) (T : Top hd.view_39 (looseW hd.view_39 []) mean mg mb h₀) (hC : C.Ok w)
    (h : EndK w h₀ L C own c s (Q .next)) : EndK w h₀ L C own c s (wpAny (model PG w) (LA L fa cd) (execs stmtCheck (LE L fa cd)) Q (fun _ _ => False)) := by
  intro V m' h' tk' F hm N ho hg
  refine stageC (m := m') (rs := V.rs) (news := []) B X T (fr_at hm.m2 (fr_at hm.m3 (fr_at hm.m4 (fr_at hm.m5 F)))) N
    (rest := (C.D, W.listOf C.ws.toArray 0) :: (rowsL V.rs ++ own)) (fun p hp => List.mem_cons_of_mem _ (List.mem_append_left _ hp)) (fun r hr => ⟨(hg.rows r hr).2.2.1, (hg.rows r hr).2.2.2.1⟩) hg.keys
    hC.d0 hC.d1 hg.d2 hg.d3 hC.l0 hC.l1 hC.l2 hC.l3 hg.k0 hg.k1 ?_
  intro m'' h'' tk'' F'' hs N''
  refine h V m'' h'' tk'' F'' ⟨?_, ?_, ?_, ?_, ?_⟩ N'' ho hg
  · exact (hs _ (by decide) (by decide)).trans hm.m1
  · exact (hs _ (by decide) (by decide)).trans rfl
  · exact (hs _ (by decide) (by decide)).trans rfl
  · exact (hs _ (by decide) (by decide)).trans rfl
  · exact (hs _ (by decide) (by decide)).trans rfl
theorem base_at {m : Str → Option Value} {v k : Int} {tv tk : Tok} (hm : MapOk C m) {h : Heap} (F : Fr h₀ L h (fun y => if y = Str.ofString "v" then some (.int v tv) else if y = Str.ofString "k" then some (.int k tk) else if y = Str.ofString "script" then some (.ref C.D) else m y)) :
    Fr h₀ L h (fun y => if y = Str.ofString "v" then some (.int v tv) else if y = Str.ofString "k" then some (.int k tk) else if y = Str.ofString "pair" then some (.ref C.pr) else if y = Str.ofString "words" then some (.ref C.wl) else if y = Str.ofString "books" then some (.ref C.bl) else if y = Str.ofString "texts" then some (.ref C.tl) else m y) := by
  have e : (fun y => if y = Str.ofString "v" then some (Value.int v tv) else if y = Str.ofString "k" then some (.int k tk) else if y = Str.ofString "script" then some (.ref C.D) else m y) =
      (fun y => if y = Str.ofString "v" then some (.int v tv) else if y = Str.ofString "k" then some (.int k tk) else if y = Str.ofString "pair" then some (.ref C.pr) else if y = Str.ofString "words" then some (.ref C.wl) else if y = Str.ofString "books" then some (.ref C.bl) else if y = Str.ofString "texts" then some (.ref C.tl) else m y) := by
    funext y
    by_cases h1 : y = Str.ofString "v"
    · rw [if_pos h1, if_pos h1]
    rw [if_neg h1, if_neg h1]
    by_cases h2 : y = Str.ofString "k"
    · rw [if_pos h2, if_pos h2]
    rw [if_neg h2, if_neg h2]
    by_cases h3 : y = Str.ofString "pair"
    · rw [if_pos h3, if_neg (by rw [h3]; decide), h3, hm.m2]
    rw [if_neg h3]
    by_cases h4 : y = Str.ofString "words"
    · rw [if_pos h4, if_neg (by rw [h4]; decide), h4, hm.m3]
    rw [if_neg h4]
    by_cases h5 : y = Str.ofString "books"
    · rw [if_pos h5, if_neg (by rw [h5]; decide), h5, hm.m4]
    rw [if_neg h5]
    by_cases h6 : y = Str.ofString "texts"
    · rw [if_pos h6, if_neg (by rw [h6]; decide), h6, hm.m5]
    rw [if_neg h6]
    by_cases h7 : y = Str.ofString "script"
    · rw [if_pos h7, h7, hm.m1]
    rw [if_neg h7]
  rw [← e]; exact F
theorem map_behind {m m' : Str → Option Value} {v k : Int} {tv tk : Tok} (hm : MapOk C m)
    (hs : ∀ y, y ≠ Str.ofString "text" → y ≠ Str.ofString "word" → y ≠ Str.ofString "good" → y ≠ Str.ofString "s" → m' y = (fun y => if y = Str.ofString "v" then some (.int v tv) else if y = Str.ofString "k" then some (.int k tk) else if y = Str.ofString "pair" then some (.ref C.pr) else if y = Str.ofString "words" then some (.ref C.wl) else if y = Str.ofString "books" then some (.ref C.bl) else if y = Str.ofString "texts" then some (.ref C.tl) else m y) y) : MapOk C m' := by
  refine ⟨?_, ?_, ?_, ?_, ?_⟩
  · exact (hs _ (by decide) (by decide) (by decide) (by decide)).trans hm.m1
  · exact (hs _ (by decide) (by decide) (by decide) (by decide)).trans rfl
  · exact (hs _ (by decide) (by decide) (by decide) (by decide)).trans rfl
  · exact (hs _ (by decide) (by decide) (by decide) (by decide)).trans rfl
  · exact (hs _ (by decide) (by decide) (by decide) (by decide)).trans rfl
theorem Good.up {c : Nat} {V : Var} (h : Good w C c V) : Good w C (c + 1) V :=
  ⟨h.k0, h.k1, h.d2, h.d3, fun r hr => let ⟨a, b, c, d, e⟩ := h.rows r hr; ⟨a, b, c, d, Nat.le_succ_of_le e⟩, h.sep, Nat.le_succ_of_le h.len⟩
theorem turn0 {c : Nat} {s : Shared} {V : Var} {m : Str → Option Value} {v k : Int} {tv tk : Tok} {Q : Flow → Shared → Prop} (B : Below callerA base [] h₀) (X : (KK w).In h₀) (T : Top hd.view_39 (looseW hd.view_39 []) mean mg mb h₀) (hC : C.Ok w)
    (hm : MapOk C m) (F : Fr h₀ L s.heap (fun y => if y = Str.ofString "v" then some (.int v tv) else if y = Str.ofString "k" then some (.int k tk) else if y = Str.ofString "script" then some (.ref C.D) else m y))
    (N : News h₀ L s.heap (ledV w C V ++ own)) (ho : OffOwn C own V.rs) (hg : Good w C c V)
    (hv : 0 ≤ v) (hv2 : v < 1000003) (hk : 0 ≤ k) (hk2 : k < 24) (hs : v.fmod 2 = 0)
    (h : EndK w h₀ L C own (c + 1) s (Q .next)) : wpAny (model PG w) (LA L fa cd) (execs stmtsMid (LE L fa cd)) Q (fun _ _ => False) s := by
  obtain ⟨u1, u2, u3, u4, u5, u6, u7, u8, u9, u10, u11, u12, _⟩ := id hC
  have hr1 := fun b hb hle => off_rest (b := b) hg ho hb hle
  refine mid0 (tail := (C.b1, V.ob1) :: (C.b0, C.ob0) :: (C.r1, V.or1) :: (C.x1, instObj 53 C.dx1) :: (C.dx1, stObj w.params C.g1 C.a1 C.q1 C.c1 true (.str V.w1 V.t3) C.r1 V.e1) :: (C.r0, C.or0) :: (C.D, W.listOf C.ws.toArray 0) :: (rowsL V.rs ++ own))
    B X T (base_at hm F) (news_sub N ?_) u2 (by omega) u8 (by omega) u12 ?_ ?_ hv hv2 hk hk2 hs ?_ ?_ (b1 := C.b1) (x1 := C.x1) (f0 := V.f0) (f1 := V.f1) (w0 := V.w0) (w1 := V.w1) (t0 := V.t0) (t1 := V.t1) (er := V.e0) (t2 := V.t2) (r0 := C.r0) (b0 := C.b0) (g := C.g0) (a := C.a0) (r := C.q0) (e := C.c0) (n1 := C.n1) (n2 := C.n2) (n3 := C.n3) (n4 := C.n4)
  · (repeat (refine List.forall_mem_cons.mpr ⟨by k_mem, ?_⟩)); intro p hp; (repeat (first | exact hp | refine' List.Mem.tail _ ?_))
  · (repeat (refine OwnOff.cons (by (repeat (refine List.forall_mem_cons.mpr ⟨by k_ne, ?_⟩)); exact List.forall_mem_nil _) ?_))
    refine offL (List.forall_mem_cons.mpr ⟨hr1 _ (by k_mem) (by omega), List.forall_mem_cons.mpr ⟨hr1 _ (by k_mem) (by omega), List.forall_mem_nil _⟩⟩)
  · (repeat (refine OwnOff.cons (by (repeat (refine List.forall_mem_cons.mpr ⟨by k_ne, ?_⟩)); exact List.forall_mem_nil _) ?_))
    refine offL (List.forall_mem_cons.mpr ⟨hr1 _ (by k_mem) (by omega), List.forall_mem_cons.mpr ⟨hr1 _ (by k_mem) (by omega), List.forall_mem_nil _⟩⟩)
  · intro m' h' tk' z u1 u2 F' hsm N'
    refine h { V with e0 := .str z u1, f0 := .str z u2 } m' h' tk' F' (map_behind hm hsm) (news_sub N' ?_) ⟨ho.fx, ho.rw⟩ ⟨.inr ⟨z, u1, u2, rfl, rfl⟩, hg.k1, hg.d2, hg.d3, hg.up.rows, hg.sep, hg.up.len⟩
    (repeat (refine List.forall_mem_cons.mpr ⟨by k_mem, ?_⟩)); intro p hp; (repeat (first | exact hp | refine' List.Mem.tail _ ?_))
  · intro m' h' tk' wd' t0' t1' F' hsm N'
    refine h { V with w0 := wd', t0 := t1', t2 := t0' } m' h' tk' F' (map_behind hm hsm) (news_sub N' ?_) ⟨ho.fx, ho.rw⟩ ⟨hg.k0, hg.k1, hg.d2, hg.d3, hg.up.rows, hg.sep, hg.up.len⟩
    (repeat (refine List.forall_mem_cons.mpr ⟨by k_mem, ?_⟩)); intro p hp; (repeat (first | exact hp | refine' List.Mem.tail _ ?_))
end
end
section
section
variable {w : World} {h₀ base : Heap} {L fa : Addr} {cd : Value} {mg mb : Str → Option Value} {mean : ExcName → Option Value} {C : Fix} {own : List (Addr × Obj)}
theorem good_put {c : Nat} {V : Var} {new : Row} {or' ob' : Obj} {wd : Str} {t1 t3 : Tok} (hg : Good w C c V) (h1 : or'.IsDictOf (PySem.strKind PG w) (stored (krOf V.rs) new.key (.ref new.a))) (h2 : ob'.IsDictOf (PySem.strKind PG w) (stored (kbOf V.rs) new.key (.ref new.b)))
    (ha : @LT.lt Nat _ C.tl new.a) (hab : @LT.lt Nat _ new.a new.b) (hlt : ∀ p ∈ rowsL V.rs, @LT.lt Nat _ p.1 new.a) (hi : IntsAre new.vs new.ns) (hi' : IntsAre new.us new.ns) (hn : new.ns.length ≤ c + 2) :
    Good w C (c + 1) { V with w1 := wd, t1 := t1, t3 := t3, or1 := or', ob1 := ob', rs := setRow V.rs new } := by
  refine ⟨hg.k0, hg.k1, ?_, ?_, ?_, ?_, ?_⟩
  · show or'.IsDictOf _ (krOf (setRow V.rs new)); rw [kr_setRow]; exact h1
  · show ob'.IsDictOf _ (kbOf (setRow V.rs new)); rw [kb_setRow]; exact h2
  · intro r hr
    rcases mem_setRow hr with rfl | hr
    · exact ⟨ha, hab, hi, hi', hn⟩
    · exact hg.up.rows r hr
  · exact sep_setRow hg.keys hg.sep (fun r hr => ⟨hlt _ (mem_rowsL hr).1, hlt _ (mem_rowsL hr).2⟩) hab
  · exact Nat.le_trans (len_setRow V.rs new) (Nat.succ_le_succ hg.len)
theorem off_put {rs : List Row} {new : Row} (ho : OffOwn C own rs) (hab : @LT.lt Nat _ new.a new.b) (hlt : ∀ p ∈ own, @LT.lt Nat _ p.1 new.a) : OffOwn C own (setRow rs new) := by
  refine ⟨ho.fx, fun p hp r hr => ?_⟩
  rcases mem_setRow hr with rfl | hr
  · have := hlt p hp
    exact ⟨neN (by omega), neN (by omega)⟩
  · exact ho.rw p hp r hr
theorem rows_put {rs : List Row} {new : Row} {l : List (Addr × Obj)} (h1 : new.oa ∈ l) (h2 : new.ob ∈ l) (h3 : ∀ p : Addr × Obj, p ∈ rowsL rs ++ own → p ∈ l) : ∀ p : Addr × Obj, p ∈ rowsL (setRow rs new) ++ own → p ∈ l := by
  intro p hp
  rcases List.mem_append.mp hp with hp | hp
  · obtain ⟨r, hr, e⟩ := mem_rowsL_iff.mp hp
    rcases mem_setRow hr with rfl | hr
    · rcases e with e | e
      · exact e ▸ h1
      · exact e ▸ h2
    · exact h3 p (List.mem_append_left _ (mem_rowsL_iff.mpr ⟨r, hr, e⟩))
  · exact h3 p (List.mem_append_right _ hp)
abbrev tail1 (w : World) (C : Fix) (V : Var) (rest : List (Addr × Obj)) : List (Addr × Obj) := (C.b0, C.ob0) :: (C.r0, C.or0) :: (C.x0, instObj 53 C.dx0) :: (C.dx0, stObj w.params C.g0 C.a0 C.q0 C.c0 false (.str V.w0 V.t2) C.r0 V.e0) :: (C.D, W.listOf C.ws.toArray 0) :: rest
theorem turn1_text {c : Nat} {s : Shared} {V : Var} {m : Str → Option Value} {v k : Int} {tv tk : Tok} {Q : Flow → Shared → Prop} (B : Below callerA base [] h₀) (X : (KK w).In h₀) (T : Top hd.view_39 (looseW hd.view_39 []) mean mg mb h₀) (hC : C.Ok w)
    (hm : MapOk C m) (F : Fr h₀ L s.heap (fun y => if y = Str.ofString "v" then some (.int v tv) else if y = Str.ofString "k" then some (.int k tk) else if y = Str.ofString "script" then some (.ref C.D) else m y))
    (N : News h₀ L s.heap (ledV w C V ++ own)) (ho : OffOwn C own V.rs) (hg : Good w C c V)
    (hv : 0 ≤ v) (hv2 : v < 1000003) (hk : 0 ≤ k) (hk2 : k < 24) (hs : v.fmod 2 = 1) (hkind : (v.fdiv 2).fmod 3 = 2)
    (h : EndK w h₀ L C own (c + 1) s (Q .next)) : wpAny (model PG w) (LA L fa cd) (execs stmtsMid (LE L fa cd)) Q (fun _ _ => False) s := by
  obtain ⟨u1, u2, u3, u4, u5, u6, u7, u8, u9, u10, u11, u12, _⟩ := id hC
  have hr1 := fun b hb hle => off_rest (b := b) hg ho hb hle
  refine mid1_text (tail := tail1 w C V (rowsL V.rs ++ own))
    B X T (base_at hm F) (news_sub N ?_) u5 u6 u7 u8 (by omega) u11 u12 ?_ ?_ hv hv2 hk hk2 hs hkind ?_ (b0 := C.b0) (x0 := C.x0) (f0 := V.f0) (f1 := V.f1) (w0 := V.w0) (w1 := V.w1) (t0 := V.t0) (t1 := V.t1) (er := V.e1) (t2 := V.t3) (r1 := C.r1) (b1 := C.b1) (g := C.g1) (a := C.a1) (r := C.q1) (e := C.c1) (n1 := C.n1) (n2 := C.n2) (n3 := C.n3) (n4 := C.n4) (or := V.or1) (ob := V.ob1)
  · (repeat (refine List.forall_mem_cons.mpr ⟨by k_mem, ?_⟩)); intro p hp; (repeat (first | exact hp | refine' List.Mem.tail _ ?_))
  · (repeat (refine OwnOff.cons (by (repeat (refine List.forall_mem_cons.mpr ⟨by k_ne, ?_⟩)); exact List.forall_mem_nil _) ?_))
    exact offL (by (repeat (refine List.forall_mem_cons.mpr ⟨hr1 _ (by k_mem) (by omega), ?_⟩)); exact List.forall_mem_nil _)
  · (repeat (refine OwnOff.cons (by (repeat (refine List.forall_mem_cons.mpr ⟨by k_ne, ?_⟩)); exact List.forall_mem_nil _) ?_))
    exact offL (by (repeat (refine List.forall_mem_cons.mpr ⟨hr1 _ (by k_mem) (by omega), ?_⟩)); exact List.forall_mem_nil _)
  · intro m' h' tk' z u1 u2 F' hsm N'
    refine h { V with e1 := .str z u1, f1 := .str z u2 } m' h' tk' F' (map_behind hm hsm) (news_sub N' ?_) ⟨ho.fx, ho.rw⟩ ⟨hg.k0, .inr ⟨z, u1, u2, rfl, rfl⟩, hg.d2, hg.d3, hg.up.rows, hg.sep, hg.up.len⟩
    (repeat (refine List.forall_mem_cons.mpr ⟨by k_mem, ?_⟩)); intro p hp; (repeat (first | exact hp | refine' List.Mem.tail _ ?_))
theorem turn1_new {key : Str} {c : Nat} {s : Shared} {V : Var} {m : Str → Option Value} {v k : Int} {tv tk : Tok} {Q : Flow → Shared → Prop} (B : Below callerA base [] h₀) (X : (KK w).In h₀) (T : Top hd.view_39 (looseW hd.view_39 []) mean mg mb h₀) (hC : C.Ok w)
    (hm : MapOk C m) (F : Fr h₀ L s.heap (fun y => if y = Str.ofString "v" then some (.int v tv) else if y = Str.ofString "k" then some (.int k tk) else if y = Str.ofString "script" then some (.ref C.D) else m y))
    (N : News h₀ L s.heap (ledV w C V ++ own)) (ho : OffOwn C own V.rs) (hg : Good w C c V) (hc : c ≤ 24)
    (hv : 0 ≤ v) (hv2 : v < 1000003) (hk : 0 ≤ k) (hk2 : k < 24) (hs : v.fmod 2 = 1) (hkind : (v.fdiv 2).fmod 3 = 0)
    (hkey : [Str.ofString "uptodate_false", Str.ofString "missing_target", Str.ofString "missing_file_dep"].getD ((v.fdiv 6).fmod 3).toNat Str.empty = key) (hno : ∀ r ∈ V.rs, r.key ≠ key)
    (h : EndK w h₀ L C own (c + 1) s (Q .next)) : wpAny (model PG w) (LA L fa cd) (execs stmtsMid (LE L fa cd)) Q (fun _ _ => False) s := by
  obtain ⟨u1, u2, u3, u4, u5, u6, u7, u8, u9, u10, u11, u12, _⟩ := id hC
  have hr1 := fun b hb hle => off_rest (b := b) hg ho hb hle
  have zr : (krOf V.rs).length ≤ sizeLine := by unfold krOf; rw [List.length_map, sizeLine_eq]; exact Nat.le_trans hg.len (Nat.le_trans hc (by decide))
  have zb : (kbOf V.rs).length ≤ sizeLine := by unfold kbOf; rw [List.length_map, sizeLine_eq]; exact Nat.le_trans hg.len (Nat.le_trans hc (by decide))
  refine mid1_new (tail := tail1 w C V (rowsL V.rs ++ own))
    B X T (base_at hm F) (news_sub N ?_) u5 u6 u7 u8 (by omega) u11 u12 ?_ ?_ hg.d2 hg.d3 hC.l2 hC.l3 zr zb (valueAt_none hno).1 (valueAt_none hno).2 hv hv2 hk hk2 hs hkind hkey ?_ (b0 := C.b0) (x0 := C.x0) (f0 := V.f0) (f1 := V.f1) (w0 := V.w0) (w1 := V.w1) (t0 := V.t0) (t1 := V.t1) (er := V.e1) (t2 := V.t3) (r1 := C.r1) (b1 := C.b1) (g := C.g1) (a := C.a1) (r := C.q1) (e := C.c1) (n1 := C.n1) (n2 := C.n2) (n3 := C.n3) (n4 := C.n4) (or := V.or1) (ob := V.ob1)
  · (repeat (refine List.forall_mem_cons.mpr ⟨by k_mem, ?_⟩)); intro p hp; (repeat (first | exact hp | refine' List.Mem.tail _ ?_))
  · (repeat (refine OwnOff.cons (by (repeat (refine List.forall_mem_cons.mpr ⟨by k_ne, ?_⟩)); exact List.forall_mem_nil _) ?_))
    exact offL (by (repeat (refine List.forall_mem_cons.mpr ⟨hr1 _ (by k_mem) (by omega), ?_⟩)); exact List.forall_mem_nil _)
  · (repeat (refine OwnOff.cons (by (repeat (refine List.forall_mem_cons.mpr ⟨by k_ne, ?_⟩)); exact List.forall_mem_nil _) ?_))
    exact offL (by (repeat (refine List.forall_mem_cons.mpr ⟨hr1 _ (by k_mem) (by omega), ?_⟩)); exact List.forall_mem_nil _)
  · intro m' h' tk' ra rb or' ob' wd' t0' t1' t3 t4 F' i1 i2 hsm N' _ l2 l3 l4 l5
    have l4' := fun p hp => allLt_mem l4 p (List.Mem.tail _ (List.Mem.tail _ (List.Mem.tail _ (List.Mem.tail _ (List.Mem.tail _ hp)))))
    have hgd := good_put (wd := wd') (t1 := t1') (t3 := t0') (new := ⟨key, ra, rb, [.int k t3], [.int k t4], 1, 1, [k]⟩) hg i1 i2 l2 l3 (fun p hp => l4' p (List.mem_append_left _ hp)) (.cons _ _ .nil) (.cons _ _ .nil) (by show 1 ≤ c + 2; omega)
    refine h _ m' h' tk' F' (map_behind hm hsm) (news_sub N' ?_) (off_put ho l3 (fun p hp => l4' p (List.mem_append_right _ hp))) hgd
    (repeat (refine List.forall_mem_cons.mpr ⟨by k_mem, ?_⟩))
    exact rows_put (by k_mem) (by k_mem) (by intro p hp; (repeat (first | exact hp | refine' List.Mem.tail _ ?_)))
theorem turn1_set {key : Str} {c : Nat} {s : Shared} {V : Var} {m : Str → Option Value} {v k : Int} {tv tk : Tok} {Q : Flow → Shared → Prop} (B : Below callerA base [] h₀) (X : (KK w).In h₀) (T : Top hd.view_39 (looseW hd.view_39 []) mean mg mb h₀) (hC : C.Ok w)
    (hm : MapOk C m) (F : Fr h₀ L s.heap (fun y => if y = Str.ofString "v" then some (.int v tv) else if y = Str.ofString "k" then some (.int k tk) else if y = Str.ofString "script" then some (.ref C.D) else m y))
    (N : News h₀ L s.heap (ledV w C V ++ own)) (ho : OffOwn C own V.rs) (hg : Good w C c V) (hc : c ≤ 24)
    (hv : 0 ≤ v) (hv2 : v < 1000003) (hk : 0 ≤ k) (hk2 : k < 24) (hs : v.fmod 2 = 1) (hkind : (v.fdiv 2).fmod 3 = 1)
    (hkey : [Str.ofString "has_no_dependencies", Str.ofString "checker_changed", Str.ofString "changed_file_dep"].getD ((v.fdiv 6).fmod 3).toNat Str.empty = key)
    (h : EndK w h₀ L C own (c + 1) s (Q .next)) : wpAny (model PG w) (LA L fa cd) (execs stmtsMid (LE L fa cd)) Q (fun _ _ => False) s := by
  obtain ⟨u1, u2, u3, u4, u5, u6, u7, u8, u9, u10, u11, u12, _⟩ := id hC
  have hr1 := fun b hb hle => off_rest (b := b) hg ho hb hle
  have zr : (krOf V.rs).length ≤ sizeLine := by unfold krOf; rw [List.length_map, sizeLine_eq]; exact Nat.le_trans hg.len (Nat.le_trans hc (by decide))
  have zb : (kbOf V.rs).length ≤ sizeLine := by unfold kbOf; rw [List.length_map, sizeLine_eq]; exact Nat.le_trans hg.len (Nat.le_trans hc (by decide))
  refine mid1_set (tail := tail1 w C V (rowsL V.rs ++ own))
    B X T (base_at hm F) (news_sub N ?_) u5 u6 u7 u8 (by omega) u11 u12 ?_ ?_ hg.d2 hg.d3 hC.l2 hC.l3 zr zb hv hv2 hk hk2 hs hkind hkey ?_ (b0 := C.b0) (x0 := C.x0) (f0 := V.f0) (f1 := V.f1) (w0 := V.w0) (w1 := V.w1) (t0 := V.t0) (t1 := V.t1) (er := V.e1) (t2 := V.t3) (r1 := C.r1) (b1 := C.b1) (g := C.g1) (a := C.a1) (r := C.q1) (e := C.c1) (n1 := C.n1) (n2 := C.n2) (n3 := C.n3) (n4 := C.n4) (or := V.or1) (ob := V.ob1)
  · (repeat (refine List.forall_mem_cons.mpr ⟨by k_mem, ?_⟩)); intro p hp; (repeat (first | exact hp | refine' List.Mem.tail _ ?_))
  · (repeat (refine OwnOff.cons (by (repeat (refine List.forall_mem_cons.mpr ⟨by k_ne, ?_⟩)); exact List.forall_mem_nil _) ?_))
    exact offL (by (repeat (refine List.forall_mem_cons.mpr ⟨hr1 _ (by k_mem) (by omega), ?_⟩)); exact List.forall_mem_nil _)
  · (repeat (refine OwnOff.cons (by (repeat (refine List.forall_mem_cons.mpr ⟨by k_ne, ?_⟩)); exact List.forall_mem_nil _) ?_))
    exact offL (by (repeat (refine List.forall_mem_cons.mpr ⟨hr1 _ (by k_mem) (by omega), ?_⟩)); exact List.forall_mem_nil _)
  · intro m' h' tk' ra rb or' ob' wd' t0' t1' t3 t4 t5 t6 F' i1 i2 hsm N' _ l2 l3 l4 l5
    have l4' := fun p hp => allLt_mem l4 p (List.Mem.tail _ (List.Mem.tail _ (List.Mem.tail _ (List.Mem.tail _ (List.Mem.tail _ hp)))))
    have hgd := good_put (wd := wd') (t1 := t1') (t3 := t0') (new := ⟨key, ra, rb, [.int k t3, .int k t5], [.int k t4, .int k t6], 0, 0, [k, k]⟩) hg i1 i2 l2 l3 (fun p hp => l4' p (List.mem_append_left _ hp)) (.cons _ _ (.cons _ _ .nil)) (.cons _ _ (.cons _ _ .nil)) (by show 2 ≤ c + 2; omega)
    refine h _ m' h' tk' F' (map_behind hm hsm) (news_sub N' ?_) (off_put ho l3 (fun p hp => l4' p (List.mem_append_right _ hp))) hgd
    (repeat (refine List.forall_mem_cons.mpr ⟨by k_mem, ?_⟩))
    exact rows_put (by k_mem) (by k_mem) (by intro p hp; (repeat (first | exact hp | refine' List.Mem.tail _ ?_)))
end
end
section
theorem rowsL_append (a b : List Row) : rowsL (a ++ b) = rowsL a ++ rowsL b := by
  induction a with
  | nil => rfl
  | cons r t ih => show r.oa :: r.ob :: rowsL (t ++ b) = _; rw [ih]; rfl
abbrev grow (r : Row) (x y : Value) (k : Int) : Row := ⟨r.key, r.a, r.b, r.vs ++ [x], r.us ++ [y], r.n + 1, r.n' + 1, r.ns ++ [k]⟩
theorem intsAre_snoc {vs : List Value} {ns : List Int} (h : IntsAre vs ns) (k : Int) (t : Tok) : IntsAre (vs ++ [.int k t]) (ns ++ [k]) := IntsAre.append h (.cons _ _ .nil)
section
variable {w : World} {h₀ base : Heap} {L fa : Addr} {cd : Value} {mg mb : Str → Option Value} {mean : ExcName → Option Value} {C : Fix} {own : List (Addr × Obj)}
theorem good_grow {c : Nat} {V : Var} {pre post : List Row} {r : Row} {x y k : Int} {tx ty : Tok} {wd : Str} {t1 t3 : Tok} (hg : Good w C c V) (e : V.rs = pre ++ r :: post) (hx : x = k) (hy : y = k) :
    Good w C (c + 1) { V with w1 := wd, t1 := t1, t3 := t3, rs := pre ++ grow r (.int x tx) (.int y ty) k :: post } := by
  subst hx hy
  have hk : krOf (pre ++ grow r (.int y tx) (.int y ty) y :: post) = krOf V.rs := by rw [e]; simp [krOf]
  have hb : kbOf (pre ++ grow r (.int y tx) (.int y ty) y :: post) = kbOf V.rs := by rw [e]; simp [kbOf]
  have hr : r ∈ V.rs := by rw [e]; exact List.mem_append_right _ (.head _)
  refine ⟨hg.k0, hg.k1, ?_, ?_, ?_, ?_, ?_⟩
  · show V.or1.IsDictOf _ (krOf _); rw [hk]; exact hg.d2
  · show V.ob1.IsDictOf _ (kbOf _); rw [hb]; exact hg.d3
  · intro q hq
    rcases List.mem_append.mp hq with hq | hq
    · exact hg.up.rows q (by rw [e]; exact List.mem_append_left _ hq)
    · rcases List.mem_cons.mp hq with rfl | hq
      · obtain ⟨a1, a2, a3, a4, a5⟩ := hg.rows r hr
        refine ⟨a1, a2, intsAre_snoc a3 _ _, intsAre_snoc a4 _ _, ?_⟩
        rw [List.length_append]; exact Nat.succ_le_succ a5
      · exact hg.up.rows q (by rw [e]; exact List.mem_append_right _ (.tail _ hq))
  · have hs := hg.sep
    rw [e] at hs
    rw [List.pairwise_append, List.pairwise_cons] at hs ⊢
    obtain ⟨s1, ⟨s2, s3⟩, s4⟩ := hs
    refine ⟨s1, ⟨fun q hq => s2 q hq, s3⟩, ?_⟩
    intro q hq q' hq'
    rcases List.mem_cons.mp hq' with rfl | hq'
    · exact s4 q hq r (.head _)
    · exact s4 q hq q' (.tail _ hq')
  · have := hg.len
    rw [e] at this
    simp only [List.length_append, List.length_cons] at this ⊢
    omega
theorem sep_off {V : Var} {c : Nat} {pre post : List Row} {r : Row} (hg : Good w C c V) (e : V.rs = pre ++ r :: post) : ∀ q, q ∈ pre ∨ q ∈ post → (q.a ≠ r.a ∧ q.b ≠ r.a) ∧ (q.a ≠ r.b ∧ q.b ≠ r.b) := by
  intro q hq
  have hs := hg.sep
  rw [e, List.pairwise_append, List.pairwise_cons] at hs
  obtain ⟨_, ⟨s2, _⟩, s4⟩ := hs
  rcases hq with hq | hq
  · obtain ⟨a1, a2, a3, a4⟩ := s4 q hq r (.head _)
    exact ⟨⟨a1, a3⟩, ⟨a2, a4⟩⟩
  · obtain ⟨a1, a2, a3, a4⟩ := s2 q hq
    exact ⟨⟨a1.symm, a2.symm⟩, ⟨a3.symm, a4.symm⟩⟩
theorem turn1_add {key : Str} {c : Nat} {s : Shared} {V : Var} {m : Str → Option Value} {v k : Int} {tv tk : Tok} {Q : Flow → Shared → Prop} (B : Below callerA base [] h₀) (X : (KK w).In h₀) (T : Top hd.view_39 (looseW hd.view_39 []) mean mg mb h₀) (hC : C.Ok w)
    (hm : MapOk C m) (F : Fr h₀ L s.heap (fun y => if y = Str.ofString "v" then some (.int v tv) else if y = Str.ofString "k" then some (.int k tk) else if y = Str.ofString "script" then some (.ref C.D) else m y))
    (N : News h₀ L s.heap (ledV w C V ++ own)) (ho : OffOwn C own V.rs) (hg : Good w C c V) (hc : c ≤ 24)
    (hv : 0 ≤ v) (hv2 : v < 1000003) (hk : 0 ≤ k) (hk2 : k < 24) (hs : v.fmod 2 = 1) (hkind : (v.fdiv 2).fmod 3 = 0)
    (hkey : [Str.ofString "uptodate_false", Str.ofString "missing_target", Str.ofString "missing_file_dep"].getD ((v.fdiv 6).fmod 3).toNat Str.empty = key)
    {pre post : List Row} {r : Row} (e : V.rs = pre ++ r :: post) (ek : r.key = key)
    (h : EndK w h₀ L C own (c + 1) s (Q .next)) : wpAny (model PG w) (LA L fa cd) (execs stmtsMid (LE L fa cd)) Q (fun _ _ => False) s := by
  obtain ⟨u1, u2, u3, u4, u5, u6, u7, u8, u9, u10, u11, u12, _⟩ := id hC
  have hr : r ∈ V.rs := by rw [e]; exact List.mem_append_right _ (.head _)
  obtain ⟨g1, g2, g3, g4, g5⟩ := hg.rows r hr
  have hsub : ∀ p : Addr × Obj, p ∈ rowsL pre ++ rowsL post ++ own → p ∈ rowsL V.rs ++ own := by
    intro p hp
    rw [e, rowsL_append]
    rcases List.mem_append.mp hp with hp | hp
    · rcases List.mem_append.mp hp with hp | hp
      · exact List.mem_append_left _ (List.mem_append_left _ hp)
      · exact List.mem_append_left _ (List.mem_append_right _ (.tail _ (.tail _ hp)))
    · exact List.mem_append_right _ hp
  have hr1 := fun b hb hle (p : Addr × Obj) (hp : p ∈ rowsL pre ++ rowsL post ++ own) => off_rest (b := b) hg ho hb hle p (hsub p hp)
  have hq : ∀ p : Addr × Obj, p ∈ rowsL pre ++ rowsL post ++ own → p.1 ≠ r.a ∧ p.1 ≠ r.b := by
    intro p hp
    rcases List.mem_append.mp hp with hp | hp
    · rw [← rowsL_append] at hp
      obtain ⟨q, hq, eq⟩ := mem_rowsL_iff.mp hp
      obtain ⟨o1, o2⟩ := sep_off hg e q (List.mem_append.mp hq)
      rcases eq with eq | eq
      · rw [eq]; exact ⟨o1.1, o2.1⟩
      · rw [eq]; exact ⟨o1.2, o2.2⟩
    · exact ho.rw p hp r hr
  have zr : (krOf V.rs).length ≤ sizeLine := by unfold krOf; rw [List.length_map, sizeLine_eq]; exact Nat.le_trans hg.len (Nat.le_trans hc (by decide))
  have zb : (kbOf V.rs).length ≤ sizeLine := by unfold kbOf; rw [List.length_map, sizeLine_eq]; exact Nat.le_trans hg.len (Nat.le_trans hc (by decide))
  have zv : r.vs.length ≤ 1000 := by rw [g3.length]; omega
  have zu : r.us.length ≤ 1000 := by rw [g4.length]; omega
  have hmr := mem_rowsL hr
  refine mid1_add (tail := tail1 w C V (rowsL pre ++ rowsL post ++ own)) (ra := r.a) (rb := r.b) (vs := r.vs) (us := r.us) (m1 := r.n) (m2 := r.n')
    B X T (base_at hm F) (news_sub N ?_) u5 u6 u7 u8 (by omega) u11 u12 g1 g2 ?_ ?_ hg.d2 hg.d3 hC.l2 hC.l3 zr zb (by rw [← ek]; exact valueAt_kr hg.keys hr) (by rw [← ek]; exact valueAt_kb hg.keys hr) zv zu hv hv2 hk hk2 hs hkind hkey ?_ (b0 := C.b0) (x0 := C.x0) (f0 := V.f0) (f1 := V.f1) (w0 := V.w0) (w1 := V.w1) (t0 := V.t0) (t1 := V.t1) (er := V.e1) (t2 := V.t3) (r1 := C.r1) (b1 := C.b1) (g := C.g1) (a := C.a1) (r := C.q1) (e := C.c1) (n1 := C.n1) (n2 := C.n2) (n3 := C.n3) (n4 := C.n4) (or := V.or1) (ob := V.ob1)
  · iterate 4 (refine List.forall_mem_cons.mpr ⟨by k_mem, ?_⟩)
    refine List.forall_mem_cons.mpr ⟨List.mem_append_left _ (by iterate 13 (refine List.Mem.tail _ ?_)
                                                                exact hmr.1), ?_⟩
    refine List.forall_mem_cons.mpr ⟨List.mem_append_left _ (by iterate 13 (refine List.Mem.tail _ ?_)
                                                                exact hmr.2), ?_⟩
    (repeat (refine List.forall_mem_cons.mpr ⟨by k_mem, ?_⟩))
    intro p hp
    have hp' := hsub p hp
    (repeat (first | exact hp' | refine' List.Mem.tail _ ?_))
  · (repeat (refine OwnOff.cons (by (repeat (refine List.forall_mem_cons.mpr ⟨by k_ne, ?_⟩)); exact List.forall_mem_nil _) ?_))
    exact offL (by
      iterate 4 (refine List.forall_mem_cons.mpr ⟨hr1 _ (by k_mem) (by omega), ?_⟩)
      refine List.forall_mem_cons.mpr ⟨fun p hp => (hq p hp).1, ?_⟩
      refine List.forall_mem_cons.mpr ⟨fun p hp => (hq p hp).2, ?_⟩
      exact List.forall_mem_nil _)
  · (repeat (refine OwnOff.cons (by (repeat (refine List.forall_mem_cons.mpr ⟨by k_ne, ?_⟩)); exact List.forall_mem_nil _) ?_))
    exact offL (by (repeat (refine List.forall_mem_cons.mpr ⟨hr1 _ (by k_mem) (by omega), ?_⟩)); exact List.forall_mem_nil _)
  · intro m' h' tk' wd' t0' t1' t3 t4 F' hsm N'
    have hgd := good_grow (wd := wd') (t1 := t1') (t3 := t0') (x := k) (y := k) (k := k) (tx := t3) (ty := t4) hg e rfl rfl
    have e1 : r.vs.toArray.push (Value.int k t3) = (r.vs ++ [Value.int k t3]).toArray := by simp
    have e2 : r.us.toArray.push (Value.int k t4) = (r.us ++ [Value.int k t4]).toArray := by simp
    rw [e1, e2] at N'
    refine h _ m' h' tk' F' (map_behind hm hsm) (news_sub N' ?_) ⟨ho.fx, ?_⟩ hgd
    · (repeat (refine List.forall_mem_cons.mpr ⟨by k_mem, ?_⟩))
      intro p hp
      rcases List.mem_append.mp hp with hp | hp
      · obtain ⟨q, hq', eq⟩ := mem_rowsL_iff.mp hp
        have key2 : (p = (grow r (.int k t3) (.int k t4) k).oa ∨ p = (grow r (.int k t3) (.int k t4) k).ob) ∨ p ∈ rowsL pre ++ rowsL post ++ own := by
          rcases List.mem_append.mp hq' with hq' | hq'
          · exact .inr (List.mem_append_left _ (List.mem_append_left _ (mem_rowsL_iff.mpr ⟨q, hq', eq⟩)))
          · rcases List.mem_cons.mp hq' with rfl | hq'
            · exact .inl eq
            · exact .inr (List.mem_append_left _ (List.mem_append_right _ (mem_rowsL_iff.mpr ⟨q, hq', eq⟩)))
        rcases key2 with (rfl | rfl) | hp'
        · k_mem
        · k_mem
        · (repeat (first | exact hp' | refine' List.Mem.tail _ ?_))
      · have hp' : p ∈ rowsL pre ++ rowsL post ++ own := List.mem_append_right _ hp
        (repeat (first | exact hp' | refine' List.Mem.tail _ ?_))
    · intro p hp q hq'
      rcases List.mem_append.mp hq' with hq' | hq'
      · exact ho.rw p hp q (by rw [e]; exact List.mem_append_left _ hq')
      · rcases List.mem_cons.mp hq' with rfl | hq'
        · exact ho.rw p hp r hr
        · exact ho.rw p hp q (by rw [e]; exact List.mem_append_right _ (.tail _ hq'))
end
end
section
section
variable {w : World} {h₀ base : Heap} {L fa : Addr} {cd : Value} {mg mb : Str → Option Value} {mean : ExcName → Option Value} {C : Fix}
theorem turn1 {own : List (Addr × Obj)} {c : Nat} {s : Shared} {V : Var} {m : Str → Option Value} {v k : Int} {tv tk : Tok} {Q : Flow → Shared → Prop} (B : Below callerA base [] h₀) (X : (KK w).In h₀) (T : Top hd.view_39 (looseW hd.view_39 []) mean mg mb h₀) (hC : C.Ok w)
    (hm : MapOk C m) (F : Fr h₀ L s.heap (fun y => if y = Str.ofString "v" then some (.int v tv) else if y = Str.ofString "k" then some (.int k tk) else if y = Str.ofString "script" then some (.ref C.D) else m y))
    (N : News h₀ L s.heap (ledV w C V ++ own)) (ho : OffOwn C own V.rs) (hg : Good w C c V) (hc : c ≤ 24)
    (hv : 0 ≤ v) (hv2 : v < 1000003) (hk : 0 ≤ k) (hk2 : k < 24) (hs : v.fmod 2 = 1)
    (h : EndK w h₀ L C own (c + 1) s (Q .next)) : wpAny (model PG w) (LA L fa cd) (execs stmtsMid (LE L fa cd)) Q (fun _ _ => False) s := by
  have hm2 : 0 ≤ (v.fdiv 2).fmod 3 ∧ (v.fdiv 2).fmod 3 < 3 := ⟨Int.fmod_nonneg_of_pos _ (by decide), Int.fmod_lt_of_pos _ (by decide)⟩
  have hkind : (v.fdiv 2).fmod 3 = 2 ∨ (v.fdiv 2).fmod 3 = 0 ∨ (v.fdiv 2).fmod 3 = 1 := by omega
  rcases hkind with hkind | hkind | hkind
  · exact turn1_text B X T hC hm F N ho hg hv hv2 hk hk2 hs hkind h
  · obtain ⟨key, hkey⟩ : ∃ key, [Str.ofString "uptodate_false", Str.ofString "missing_target", Str.ofString "missing_file_dep"].getD ((v.fdiv 6).fmod 3).toNat Str.empty = key := ⟨_, rfl⟩
    by_cases hex : ∃ r, r ∈ V.rs ∧ r.key = key
    · obtain ⟨r, hr, ek⟩ := hex
      obtain ⟨pre, post, e⟩ := List.append_of_mem hr
      exact turn1_add B X T hC hm F N ho hg hc hv hv2 hk hk2 hs hkind hkey e ek h
    · exact turn1_new B X T hC hm F N ho hg hc hv hv2 hk hk2 hs hkind hkey (fun r hr e => hex ⟨r, hr, e⟩) h
  · exact turn1_set B X T hC hm F N ho hg hc hv hv2 hk hk2 hs hkind rfl h
theorem kfr {m : Str → Option Value} {k : Int} {tk : Tok} (hm : MapOk C m) {h : Heap} (F : Fr h₀ L h (fun y => if y = Str.ofString "k" then some (.int k tk) else m y)) :
    Fr h₀ L h (fun y => if y = Str.ofString "k" then some (.int k tk) else if y = Str.ofString "script" then some (.ref C.D) else m y) := by
  have e : (fun y => if y = Str.ofString "k" then some (Value.int k tk) else m y) = (fun y => if y = Str.ofString "k" then some (.int k tk) else if y = Str.ofString "script" then some (.ref C.D) else m y) := by
    funext y
    by_cases h2 : y = Str.ofString "k"
    · rw [if_pos h2, if_pos h2]
    rw [if_neg h2, if_neg h2]
    by_cases h7 : y = Str.ofString "script"
    · rw [if_pos h7, h7, hm.m1]
    rw [if_neg h7]
  rw [← e]; exact F
theorem turn {own : List (Addr × Obj)} {c : Nat} {s : Shared} {V : Var} {m : Str → Option Value} {k : Int} {tk : Tok} {Q : Flow → Shared → Prop} (B : Below callerA base [] h₀) (X : (KK w).In h₀) (T : Top hd.view_39 (looseW hd.view_39 []) mean mg mb h₀) (hC : C.Ok w)
    (hm : MapOk C m) (F : Fr h₀ L s.heap (fun y => if y = Str.ofString "k" then some (.int k tk) else m y))
    (N : News h₀ L s.heap (ledV w C V ++ own)) (ho : OffOwn C own V.rs) (hg : Good w C c V) (hc : c ≤ 24) (hk : 0 ≤ k) (hk2 : k < 24)
    (h : EndK w h₀ L C own (c + 1) s (Q .next)) : wpAny (model PG w) (LA L fa cd) (execs forBody (LE L fa cd)) Q (fun _ _ => False) s := by
  rw [forBody_eq]
  refine execs_append ?_
  refine stageV (m := m) (D := C.D) (ws := C.ws) (ns := C.ns) (rest := ledV w C V ++ own) B X T (kfr hm F) (news_sub N ?_) hC.hI hC.hl hk hk2 ?_
  · refine List.forall_mem_cons.mpr ⟨?_, fun p hp => hp⟩
    k_mem
  · intro v tv h' tk' F1 N1 hv hv2
    refine execs_append ?_
    have h9 : EndK w h₀ L C own (c + 1) { s with heap := h', toks := tk' } (wpAny (model PG w) (LA L fa cd) (execs stmtCheck (LE L fa cd)) Q (fun _ _ => False)) := fin B X T hC h
    have N2 := news_sub N1 (fun p hp => List.Mem.tail _ hp)
    have hm2 : 0 ≤ v.fmod 2 ∧ v.fmod 2 < 2 := ⟨Int.fmod_nonneg_of_pos _ (by decide), Int.fmod_lt_of_pos _ (by decide)⟩
    have hs : v.fmod 2 = 0 ∨ v.fmod 2 = 1 := by omega
    rcases hs with hs | hs
    · exact turn0 B X T hC hm F1 N2 ho hg hv hv2 hk hk2 hs h9
    · exact turn1 B X T hC hm F1 N2 ho hg hc hv hv2 hk hk2 hs h9
theorem loop24 {s : Shared} {r : Addr} {t₀ u₀ v₀ : Tok} {m₀ : Str → Option Value} {V₀ : Var} {Q : Flow → Shared → Prop} {E : Value → Shared → Prop} (B : Below callerA base [] h₀) (X : (KK w).In h₀) (T : Top hd.view_39 (looseW hd.view_39 []) mean mg mb h₀) (hC : C.Ok w)
    (hr : IsRange s.heap r 0 24 1 t₀ u₀ v₀) (hm : MapOk C m₀) (F : Fr h₀ L s.heap m₀) (N : News h₀ L s.heap (ledV w C V₀)) (hg : Good w C 0 V₀)
    (done : ∀ m' h' tk' V', Fr h₀ L h' m' → News h₀ L h' (ledV w C V') → Q .next { s with heap := h', toks := tk' }) :
    wpAny (model PG w) (LA L fa cd) (pyIter (.ref r)) (fun it s₂ => LoopAtV PG w (LA L fa cd) h₀ (LE L fa cd) (Str.ofString "k") forBody Q E it s₂) E s := by
  refine wpAny_pyIter_range hr (by decide) ?_
  have W : Walks PG w (LA L fa cd) s.heap.objs.size [s.heap.objs.size] [s.heap.objs.size] 24 (fun i v => i < 24 ∧ ∃ t, v = .int (0 + i * 1) t)
      (fun i h => IsRangeIter h s.heap.objs.size (0 + (i : Nat) * 1) (((24 : Nat) : Int) - (i : Nat)) 1) := (Walks.range rfl _ 0 1 24).bound
  refine kdr_loop (fun i m nx => ∃ V, nx = ledV w C V ∧ Good w C i V ∧ MapOk C m) W (fun _ h => h) (fun _ h => h) ?_ ?_ ?_ ?_ (by show IsRangeIter _ _ _ _ _; exact Heap.get?_push_size _ rfl) (F.push _) (fun p hp => ⟨Heap.get?_push_of_some _ (N p hp).1, (N p hp).2⟩) ⟨V₀, rfl, hg, hm⟩ ?_ ?_
  · intro i h hi b hb
    rw [List.mem_singleton.mp hb]
    exact ⟨_, hi⟩
  · intro hm
    exact absurd F.ns.lt ((List.mem_singleton.mp hm) ▸ Nat.lt_irrefl _)
  · intro b hb
    rw [List.mem_singleton.mp hb]
    exact next_is_new F
  · intro p hp hI
    exact absurd (Heap.lt_size (N p hp).1) ((List.mem_singleton.mp hI) ▸ Nat.lt_irrefl _)
  · rintro i v m₁ nx h tk own hi ⟨_, t, rfl⟩ hoff ⟨V, rfl, hg', hm'⟩ F₁ N₁
    refine wpAny_mono (turn (Q := InvPostG h₀ L (fun m nx => ∃ V, nx = ledV w C V ∧ Good w C (i + 1) V ∧ MapOk C m) own { s with heap := h, toks := tk } Q) B X T hC hm' F₁ N₁ (off_to hoff) hg' (by omega) (by omega) (by omega) ?_) (fun _ _ x => x) (fun _ _ x => x.elim)
    intro V' m' h' tk' F' hm'' N' ho' hg''
    exact ⟨h', tk', m', _, ledV w C V', rfl, F', N', fun p hp => List.mem_append_left _ hp, fun p hp => List.mem_append_right _ hp, off_of ho', V', rfl, hg'', hm''⟩
  · rintro m₁ nx h tk ⟨V, rfl, _, _⟩ F₁ N₁
    exact done m₁ h tk V F₁ N₁
end
end
end Mine
open Mine
local macro_rules | `(tactic| walk_at "eval Dict nil nil") => `(tactic| (k_here; k_dflt (refine' newDict_K ?k1 ?k2 ?k3 ?_; (case k1 => k_asm); (case k2 => k_asm); (case k3 => first | exact TopRead.nolimit (by k_asm) | exact Top.nolimit (by k_asm) | exact Top.nolimit (by assumption)); k_whole); intro d' h' o' F' N' l1 lo' hs' fs' hi' fi'; (try k_lt l1); (try k_sweep)))
theorem PySem.Challenge.cw_aa6011_01_holds : PySem.Challenge.rw_aa6011_01.Holds := by
  refine hd ?_
  k_go0
  all_goals try k_fold
  repeat' (first | (k_unfold; (try dsimp only)) | (k_end; wrow_close) | ((fail_if_success (with_reducible show wpAny _ _ (pyIter _) _ _ _)); first | walk1 | (dsimp only; walk1)) | (leave1; walk_say "STEP leave1"; try dsimp only) | fail "no step")
  dsimp only
  refine' loop24 (C := ⟨_, _, _, _, _, _, _, _, _, _, _, _, _, _, _, _, _, _, _, _, _, _, _, _, _, _, _, _, _⟩) (V₀ := ⟨_, _, _, _, _, _, _, _, _, _, _, _, []⟩) ?B ?X ?T ?hC ?hr ?hm ?F ?N ?hg ?done
  case N => assumption
  case F => assumption
  case B => assumption
  case X => assumption
  case T => assumption
  case hr => assumption
  case hC =>
    refine' ⟨?_, ?_, ?_, ?_, ?_, ?_, ?_, ?_, ?_, ?_, ?_, ?_, ?_, ?_, ?_, ?_, ?_, ?_, ?hI, ?hl⟩
    case hI => assumption
    case hl => rw [List.length_take]; omega
    all_goals (try ((rename (∀ p : Addr × Obj, p ∈ _ → p.1 < _) => e1); k_lt e1))
    all_goals (try ((rename (∀ p : Addr × Obj, p ∈ _ → p.1 < _) => e2); k_lt e2))
    all_goals first | assumption | (dsimp only; omega)
  case hm => exact ⟨rfl, rfl, rfl, rfl, rfl⟩
  case hg =>
    refine' ⟨.inl ⟨rfl, rfl⟩, .inl ⟨rfl, rfl⟩, ?_, ?_, List.forall_mem_nil _, .nil, Nat.le_refl _⟩
    · show Obj.IsDictOf _ _ []; assumption
    · show Obj.IsDictOf _ _ []; assumption
  case done =>
    intro m' h' tk' V' F' N'
    dsimp only
    k_steps
