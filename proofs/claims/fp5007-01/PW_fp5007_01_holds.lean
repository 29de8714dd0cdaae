import PyProof.Rows.All
import Wide.All
import OpenK.AllK
import Wide.FinOn
import PySem.Challenge.RW_fp5007_01
set_option Elab.async false
set_option linter.unusedVariables false
namespace Mine
open PySem PySem.W PyProof.Rows
set_option maxRecDepth 100000 in
set_option maxHeartbeats 8000000 in
open_top hd for PySem.Challenge.rw_fp5007_01
section
open PySem PySem.W PyProof.Rows PySem.Calls PySem.Spec
def Dig5 (ns : List Int) : Prop := ∀ x ∈ ns, 0 ≤ x ∧ x < 32
theorem dig5_getD {ns : List Int} (h : Dig5 ns) (i : Nat) : 0 ≤ ns.getD i 0 ∧ ns.getD i 0 < 32 := by
  rw [List.getD_eq_getElem?_getD]
  cases e : ns[i]? with
  | none => decide
  | some v => exact h v (List.mem_of_getElem? e)
theorem off1_of {d : Addr} : ∀ {l : List (Addr × Obj)}, (∀ p ∈ l, p.1 < d) → LCg.Off1 d l
  | [], _ => trivial
  | p :: _, h => ⟨Nat.ne_of_lt (h p (.head _)), off1_of fun q hq => h q (.tail _ hq)⟩
theorem newsDup {h₀ h : Heap} {L : Addr} {news : List (Addr × Obj)} {q : Addr × Obj} (N : News h₀ L h news) (hm : q ∈ news) : News h₀ L h (q :: news) := fun p hp => (List.mem_cons.mp hp).elim (fun e => e ▸ N _ hm) (N p)
def LtAll (d : Nat) (l : List (Addr × Obj)) : Prop := ∀ p ∈ l, @LT.lt Nat _ p.1 d
def LenIs (ns : List Int) (n : Nat) : Prop := ns.length = n
theorem idx_ltR {k b : Int} {ns : List Int} {j : Nat} (h : k < 0 + (b.toNat : Int)) (e : LenIs ns j) (hb : b.toNat ≤ j) : k < (ns.length : Int) := by
  rw [show ns.length = j from e]; omega
theorem idx_len {k : Int} {ns : List Int} {j : Nat} (e : LenIs ns j) (h : k < (j : Int)) : k < (ns.length : Int) := by rw [show ns.length = j from e]; exact h
theorem idx_63 {k b : Int} (h : k < 0 + (b.toNat : Int)) (hb : b.toNat ≤ 1000) : k < 2 ^ 63 := by omega
def expL : List Int := [1, 2, 4, 8, 16, 9, 18, 13, 26, 29, 19, 15, 30, 21, 3, 6, 12, 24, 25, 27, 31, 23, 7, 14, 28, 17, 11, 22, 5, 10, 20]
def logL : List Int := [0, 0, 1, 14, 2, 28, 15, 22, 3, 5, 29, 26, 16, 7, 23, 11, 4, 25, 6, 10, 30, 13, 27, 21, 17, 18, 8, 19, 24, 9, 12, 20]
def genL : List Int := [30, 23, 15, 14, 10, 6, 12, 9]
set_option maxRecDepth 100000 in
set_option maxHeartbeats 8000000 in
theorem c_exp {w : World} {mean : ExcName → Option Value} {mg mb : Str → Option Value} {dp un : Nat} {gd : Option (List Code)} {cn : Str} {cs : Scope} {a : Addr} {ccd : Value} {cl : List (Str × Addr)} {outer : List Env} {A₀ : Around} {base h₀ : Heap} {L : Addr} {m : Str → Option Value} {s : Shared} {news : List (Addr × Obj)} {Q E : Value → Shared → Prop} : ∀
   (B : Below A₀ base outer h₀) (F : Fr h₀ L s.heap m) (X : (hd.heap_39 w.params).In h₀) (N : News h₀ L s.heap news) (T : Top hd.view_39 (looseW hd.view_39 []) mean mg mb h₀) (hk : cs.kind = .function) (hdp : dp + 1 < recursionLimit) (hun : un + 8 < cLine)
   (hret : ∀ (a : Addr) (vs : List Value) (n : Nat) h' tk', LenIs expL 31 → Dig5 expL → IntsAre vs expL → Fr h₀ L h' m → News h₀ L h' ((a, listOf vs.toArray n) :: news) → LCg.Off1 a news → Q (.ref a) { s with heap := h', toks := tk' }),
   wpAny (model PySem.Challenge.rw_fp5007_01.row.prog w) (ktrTop dp un gd cn cs L a ccd cl outer) (call (.ref 28) []) Q E s := by
  k_fill
  intro B F X N T hk hdp hun  hret
  refine wpAny_call ?_
  k_dflt cell_enter
  k_steps
  refine' hret _ _ _ _ _ rfl (by unfold Dig5; decide) ?i ?f ?n ?l
  (case n => k_asm)
  (case f => k_asm)
  (case l => exact off1_of (by assumption))
  (case i => repeat' constructor)
set_option maxRecDepth 100000 in
set_option maxHeartbeats 8000000 in
theorem c_log {w : World} {mean : ExcName → Option Value} {mg mb : Str → Option Value} {dp un : Nat} {gd : Option (List Code)} {cn : Str} {cs : Scope} {a : Addr} {ccd : Value} {cl : List (Str × Addr)} {outer : List Env} {A₀ : Around} {base h₀ : Heap} {L : Addr} {m : Str → Option Value} {s : Shared} {news : List (Addr × Obj)} {Q E : Value → Shared → Prop} : ∀
   (B : Below A₀ base outer h₀) (F : Fr h₀ L s.heap m) (X : (hd.heap_39 w.params).In h₀) (N : News h₀ L s.heap news) (T : Top hd.view_39 (looseW hd.view_39 []) mean mg mb h₀) (hk : cs.kind = .function) (hdp : dp + 1 < recursionLimit) (hun : un + 8 < cLine)
   (hret : ∀ (a : Addr) (vs : List Value) (n : Nat) h' tk', LenIs logL 32 → Dig5 logL → IntsAre vs logL → Fr h₀ L h' m → News h₀ L h' ((a, listOf vs.toArray n) :: news) → LCg.Off1 a news → Q (.ref a) { s with heap := h', toks := tk' }),
   wpAny (model PySem.Challenge.rw_fp5007_01.row.prog w) (ktrTop dp un gd cn cs L a ccd cl outer) (call (.ref 35) []) Q E s := by
  k_fill
  intro B F X N T hk hdp hun  hret
  refine wpAny_call ?_
  k_dflt cell_enter
  k_steps
  refine' hret _ _ _ _ _ rfl (by unfold Dig5; decide) ?i ?f ?n ?l
  (case n => k_asm)
  (case f => k_asm)
  (case l => exact off1_of (by assumption))
  (case i => repeat' constructor)
set_option maxRecDepth 100000 in
set_option maxHeartbeats 8000000 in
theorem c_gen {w : World} {mean : ExcName → Option Value} {mg mb : Str → Option Value} {dp un : Nat} {gd : Option (List Code)} {cn : Str} {cs : Scope} {a : Addr} {ccd : Value} {cl : List (Str × Addr)} {outer : List Env} {A₀ : Around} {base h₀ : Heap} {L : Addr} {m : Str → Option Value} {s : Shared} {news : List (Addr × Obj)} {Q E : Value → Shared → Prop} : ∀
   (B : Below A₀ base outer h₀) (F : Fr h₀ L s.heap m) (X : (hd.heap_39 w.params).In h₀) (N : News h₀ L s.heap news) (T : Top hd.view_39 (looseW hd.view_39 []) mean mg mb h₀) (hk : cs.kind = .function) (hdp : dp + 1 < recursionLimit) (hun : un + 8 < cLine)
   (hret : ∀ (a : Addr) (vs : List Value) (n : Nat) h' tk', LenIs genL 8 → Dig5 genL → IntsAre vs genL → Fr h₀ L h' m → News h₀ L h' ((a, listOf vs.toArray n) :: news) → LCg.Off1 a news → Q (.ref a) { s with heap := h', toks := tk' }),
   wpAny (model PySem.Challenge.rw_fp5007_01.row.prog w) (ktrTop dp un gd cn cs L a ccd cl outer) (call (.ref 42) []) Q E s := by
  k_fill
  intro B F X N T hk hdp hun  hret
  refine wpAny_call ?_
  k_dflt cell_enter
  k_steps
  refine' hret _ _ _ _ _ rfl (by unfold Dig5; decide) ?i ?f ?n ?l
  (case n => k_asm)
  (case f => k_asm)
  (case l => exact off1_of (by assumption))
  (case i => repeat' constructor)
end
section
open PySem PySem.W PyProof.Rows PySem.Calls PySem.Spec
def mulF (x y : Int) : Int := if x = 0 then 0 else if y = 0 then 0 else expL.getD ((logL.getD x.toNat 0 + logL.getD y.toNat 0).fmod 31).toNat 0
def divF (x y : Int) : Int := if x = 0 then 0 else expL.getD ((logL.getD x.toNat 0 - logL.getD y.toNat 0).fmod 31).toNat 0
local macro_rules | `(tactic| walk_at "call ref") => `(tactic| (k_here; (with_reducible show wpAny _ _ (call (Value.ref 28) _) _ _ _); k_dflt (refine' c_exp ?k1 ?k2 ?k3 ?k4 ?k5 ?kK ?kd ?ku  ?_; (case k1 => first | k_asm | ktn_no "the frames below"); (case k2 => first | k_asm | ktn_no "the frame"); (case k3 => first | k_asm | ktn_no "the written part"); (case k4 => first | k_asm | ktn_no "the ledger"); (case k5 => first | k_asm | ktn_no "the top"); (case kK => first | exact rfl | assumption | ktn_no "caller"); (case kd => first | ktr_room | ktn_no "room"); (case ku => first | ktr_units | ktn_no "units")); intro a9 vs9 n9 h9 tk9 ql9 qd9 I9 F9 N9 l9; (try simp only [LCg.Off1, and_true] at l9); (try dsimp only); (try k_fold)))
local macro_rules | `(tactic| walk_at "call ref") => `(tactic| (k_here; (with_reducible show wpAny _ _ (call (Value.ref 35) _) _ _ _); k_dflt (refine' c_log ?k1 ?k2 ?k3 ?k4 ?k5 ?kK ?kd ?ku  ?_; (case k1 => first | k_asm | ktn_no "the frames below"); (case k2 => first | k_asm | ktn_no "the frame"); (case k3 => first | k_asm | ktn_no "the written part"); (case k4 => first | k_asm | ktn_no "the ledger"); (case k5 => first | k_asm | ktn_no "the top"); (case kK => first | exact rfl | assumption | ktn_no "caller"); (case kd => first | ktr_room | ktn_no "room"); (case ku => first | ktr_units | ktn_no "units")); intro a9 vs9 n9 h9 tk9 ql9 qd9 I9 F9 N9 l9; (try simp only [LCg.Off1, and_true] at l9); (try dsimp only); (try k_fold)))
local macro_rules | `(tactic| walk_at "call ref") => `(tactic| (k_here; (with_reducible show wpAny _ _ (call (Value.ref 42) _) _ _ _); k_dflt (refine' c_gen ?k1 ?k2 ?k3 ?k4 ?k5 ?kK ?kd ?ku  ?_; (case k1 => first | k_asm | ktn_no "the frames below"); (case k2 => first | k_asm | ktn_no "the frame"); (case k3 => first | k_asm | ktn_no "the written part"); (case k4 => first | k_asm | ktn_no "the ledger"); (case k5 => first | k_asm | ktn_no "the top"); (case kK => first | exact rfl | assumption | ktn_no "caller"); (case kd => first | ktr_room | ktn_no "room"); (case ku => first | ktr_units | ktn_no "units")); intro a9 vs9 n9 h9 tk9 ql9 qd9 I9 F9 N9 l9; (try simp only [LCg.Off1, and_true] at l9); (try dsimp only); (try k_fold)))
local macro_rules | `(tactic| walk_at "subscriptTail") => `(tactic| (k_here; (with_reducible show wpAny _ _ (subscriptTail _ _ (Value.ref _) (Value.int _ _)) _ _ _); k_dflt (refine' ksa_sub ?k1 ?k2 ?k3 ?k4 ?k5 ?k6 ?_ ?k7; (case k1 => k_asm); (case k2 => k_mem); (case k3 => with_reducible assumption); (case k4 => first | assumption | decide | omega | fail "idx0"); (case k5 => first | exact idx_ltR (by assumption) (by assumption) (by decide) | exact idx_len (by assumption) (by first | assumption | decide | omega) | omega | ((simp only [List.length_append, List.length_drop, List.length_cons, List.length_nil, List.length_set]); omega) | fail "idx1"); (case k6 => first | decide | exact idx_63 (by assumption) (by decide) | omega | fail "idx2"); (case k7 => with_unfolding_all rfl); k_whole); intro _))
local macro_rules | `(tactic| walk_at "subscriptTail Name Name ref int") => `(tactic| (k_here; (with_reducible show wpAny _ _ (subscriptTail _ _ (Value.ref _) (Value.int _ _)) _ _ _); k_dflt (refine' ksa_sub ?k1 ?k2 ?k3 ?k4 ?k5 ?k6 ?_ ?k7; (case k1 => k_asm); (case k2 => k_mem); (case k3 => with_reducible assumption); (case k4 => first | assumption | decide | omega | fail "idx0"); (case k5 => first | exact idx_ltR (by assumption) (by assumption) (by decide) | exact idx_len (by assumption) (by first | assumption | decide | omega) | omega | ((simp only [List.length_append, List.length_drop, List.length_cons, List.length_nil, List.length_set]); omega) | fail "idx1"); (case k6 => first | decide | exact idx_63 (by assumption) (by decide) | omega | fail "idx2"); (case k7 => with_unfolding_all rfl); k_whole); intro _))
local macro_rules | `(tactic| walk_at "subscriptTail Name Constant ref int") => `(tactic| (k_here; (with_reducible show wpAny _ _ (subscriptTail _ _ (Value.ref _) (Value.int _ _)) _ _ _); k_dflt (refine' ksa_sub ?k1 ?k2 ?k3 ?k4 ?k5 ?k6 ?_ ?k7; (case k1 => k_asm); (case k2 => k_mem); (case k3 => with_reducible assumption); (case k4 => first | assumption | decide | omega | fail "idx0"); (case k5 => first | exact idx_ltR (by assumption) (by assumption) (by decide) | exact idx_len (by assumption) (by first | assumption | decide | omega) | omega | ((simp only [List.length_append, List.length_drop, List.length_cons, List.length_nil, List.length_set]); omega) | fail "idx1"); (case k6 => first | decide | exact idx_63 (by assumption) (by decide) | omega | fail "idx2"); (case k7 => with_unfolding_all rfl); k_whole); intro _))
local macro_rules | `(tactic| walk_at "subscriptTail Call Name ref int") => `(tactic| (k_here; (with_reducible show wpAny _ _ (subscriptTail _ _ (Value.ref _) (Value.int _ _)) _ _ _); k_dflt (refine' ksa_sub ?k1 ?k2 ?k3 ?k4 ?k5 ?k6 ?_ ?k7; (case k1 => k_asm); (case k2 => k_mem); (case k3 => with_reducible assumption); (case k4 => first | assumption | decide | omega | fail "idx0"); (case k5 => first | exact idx_ltR (by assumption) (by assumption) (by decide) | exact idx_len (by assumption) (by first | assumption | decide | omega) | omega | ((simp only [List.length_append, List.length_drop, List.length_cons, List.length_nil, List.length_set]); omega) | fail "idx1"); (case k6 => first | decide | exact idx_63 (by assumption) (by decide) | omega | fail "idx2"); (case k7 => with_unfolding_all rfl); k_whole); intro _))
set_option maxRecDepth 100000 in
set_option maxHeartbeats 8000000 in
theorem c_mul {w : World} {mean : ExcName → Option Value} {mg mb : Str → Option Value} {dp un : Nat} {gd : Option (List Code)} {cn : Str} {cs : Scope} {a : Addr} {ccd : Value} {cl : List (Str × Addr)} {outer : List Env} {A₀ : Around} {base h₀ : Heap} {L : Addr} {m : Str → Option Value} {s : Shared} {news : List (Addr × Obj)} {Q E : Value → Shared → Prop} {x y : Int} {tx ty : Tok} : ∀
   (B : Below A₀ base outer h₀) (F : Fr h₀ L s.heap m) (X : (hd.heap_39 w.params).In h₀) (N : News h₀ L s.heap news) (T : Top hd.view_39 (looseW hd.view_39 []) mean mg mb h₀) (hk : cs.kind = .function) (hdp : dp + 2 < recursionLimit) (hun : un + 16 < cLine) (hx : 0 ≤ x ∧ x < 32) (hy : 0 ≤ y ∧ y < 32)
   (hret : ∀ (t : Tok) h' tk', Fr h₀ L h' m → News h₀ L h' news → Q (.int (mulF x y) t) { s with heap := h', toks := tk' }),
   wpAny (model PySem.Challenge.rw_fp5007_01.row.prog w) (ktrTop dp un gd cn cs L a ccd cl outer) (call (.ref 49) [.int x tx, .int y ty]) Q E s := by
  k_fill
  intro B F X N T hk hdp hun hx hy hret
  refine wpAny_call ?_
  k_dflt cell_enter
  k_steps
  all_goals (refine' cb_retI (Q := Q) hret ?e1 ?e2 ?e3; (case e2 => k_asm); (case e3 => refine' cb_drop ?cbN ?cbS; (case cbN => assumption); (case cbS => kcj_all)); (case e1 => (try subst_vars); unfold mulF; simp only [*, if_true, if_false]))
set_option maxRecDepth 100000 in
set_option maxHeartbeats 8000000 in
theorem c_div {w : World} {mean : ExcName → Option Value} {mg mb : Str → Option Value} {dp un : Nat} {gd : Option (List Code)} {cn : Str} {cs : Scope} {a : Addr} {ccd : Value} {cl : List (Str × Addr)} {outer : List Env} {A₀ : Around} {base h₀ : Heap} {L : Addr} {m : Str → Option Value} {s : Shared} {news : List (Addr × Obj)} {Q E : Value → Shared → Prop} {x y : Int} {tx ty : Tok} : ∀
   (B : Below A₀ base outer h₀) (F : Fr h₀ L s.heap m) (X : (hd.heap_39 w.params).In h₀) (N : News h₀ L s.heap news) (T : Top hd.view_39 (looseW hd.view_39 []) mean mg mb h₀) (hk : cs.kind = .function) (hdp : dp + 2 < recursionLimit) (hun : un + 16 < cLine) (hx : 0 ≤ x ∧ x < 32) (hy : 0 ≤ y ∧ y < 32)
   (hret : ∀ (t : Tok) h' tk', Fr h₀ L h' m → News h₀ L h' news → Q (.int (divF x y) t) { s with heap := h', toks := tk' }),
   wpAny (model PySem.Challenge.rw_fp5007_01.row.prog w) (ktrTop dp un gd cn cs L a ccd cl outer) (call (.ref 56) [.int x tx, .int y ty]) Q E s := by
  k_fill
  intro B F X N T hk hdp hun hx hy hret
  refine wpAny_call ?_
  k_dflt cell_enter
  k_steps
  all_goals (refine' cb_retI (Q := Q) hret ?e1 ?e2 ?e3; (case e2 => k_asm); (case e3 => refine' cb_drop ?cbN ?cbS; (case cbN => assumption); (case cbS => kcj_all)); (case e1 => (try subst_vars); unfold divF; simp only [*, if_true, if_false]))
end
section
open PySem PySem.W PyProof.Rows PySem.Calls PySem.Spec
theorem p32_ne (n : Nat) : (32 : Int) ^ n ≠ 0 := Int.ne_of_gt (pow_pos_of (by decide) _)
theorem p32_py {k : Int} (h0 : 0 ≤ k) (h8 : k < 8) : ((32 : Int) ^ (7 - k).toNat).natAbs.log2 < 9000 := by
  have h : k = 0 ∨ k = 1 ∨ k = 2 ∨ k = 3 ∨ k = 4 ∨ k = 5 ∨ k = 6 ∨ k = 7 := by omega
  rcases h with rfl | rfl | rfl | rfl | rfl | rfl | rfl | rfl <;> decide
def rowsF (x : Int) : List Int := (rangeKs 0 8).map fun k => (x.fdiv (32 ^ (7 - k).toNat)).fmod 32
local macro_rules | `(tactic| walk_at "call ref") => `(tactic| (k_here; (with_reducible show wpAny _ _ (call (Value.ref 28) _) _ _ _); k_dflt (refine' c_exp ?k1 ?k2 ?k3 ?k4 ?k5 ?kK ?kd ?ku  ?_; (case k1 => first | k_asm | ktn_no "the frames below"); (case k2 => first | k_asm | ktn_no "the frame"); (case k3 => first | k_asm | ktn_no "the written part"); (case k4 => first | k_asm | ktn_no "the ledger"); (case k5 => first | k_asm | ktn_no "the top"); (case kK => first | exact rfl | assumption | ktn_no "caller"); (case kd => first | ktr_room | ktn_no "room"); (case ku => first | ktr_units | ktn_no "units")); intro a9 vs9 n9 h9 tk9 ql9 qd9 I9 F9 N9 l9; (try simp only [LCg.Off1, and_true] at l9); (try dsimp only); (try k_fold)))
local macro_rules | `(tactic| walk_at "call ref") => `(tactic| (k_here; (with_reducible show wpAny _ _ (call (Value.ref 35) _) _ _ _); k_dflt (refine' c_log ?k1 ?k2 ?k3 ?k4 ?k5 ?kK ?kd ?ku  ?_; (case k1 => first | k_asm | ktn_no "the frames below"); (case k2 => first | k_asm | ktn_no "the frame"); (case k3 => first | k_asm | ktn_no "the written part"); (case k4 => first | k_asm | ktn_no "the ledger"); (case k5 => first | k_asm | ktn_no "the top"); (case kK => first | exact rfl | assumption | ktn_no "caller"); (case kd => first | ktr_room | ktn_no "room"); (case ku => first | ktr_units | ktn_no "units")); intro a9 vs9 n9 h9 tk9 ql9 qd9 I9 F9 N9 l9; (try simp only [LCg.Off1, and_true] at l9); (try dsimp only); (try k_fold)))
local macro_rules | `(tactic| walk_at "call ref") => `(tactic| (k_here; (with_reducible show wpAny _ _ (call (Value.ref 42) _) _ _ _); k_dflt (refine' c_gen ?k1 ?k2 ?k3 ?k4 ?k5 ?kK ?kd ?ku  ?_; (case k1 => first | k_asm | ktn_no "the frames below"); (case k2 => first | k_asm | ktn_no "the frame"); (case k3 => first | k_asm | ktn_no "the written part"); (case k4 => first | k_asm | ktn_no "the ledger"); (case k5 => first | k_asm | ktn_no "the top"); (case kK => first | exact rfl | assumption | ktn_no "caller"); (case kd => first | ktr_room | ktn_no "room"); (case ku => first | ktr_units | ktn_no "units")); intro a9 vs9 n9 h9 tk9 ql9 qd9 I9 F9 N9 l9; (try simp only [LCg.Off1, and_true] at l9); (try dsimp only); (try k_fold)))
local macro_rules | `(tactic| walk_at "call ref") => `(tactic| (k_here; (with_reducible show wpAny _ _ (call (Value.ref 49) _) _ _ _); k_dflt (refine' c_mul ?k1 ?k2 ?k3 ?k4 ?k5 ?kK ?kd ?ku ?hx ?hy ?_; (case k1 => first | k_asm | ktn_no "the frames below"); (case k2 => first | k_asm | ktn_no "the frame"); (case k3 => first | k_asm | ktn_no "the written part"); (case k4 => first | k_asm | ktn_no "the ledger"); (case k5 => first | k_asm | ktn_no "the top"); (case kK => first | exact rfl | assumption | ktn_no "caller"); (case kd => first | ktr_room | ktn_no "room"); (case ku => first | ktr_units | ktn_no "units"); (case hx => first | assumption | omega | exact dig5_getD (by assumption) _) ; (case hy => first | assumption | omega | exact dig5_getD (by assumption) _)); intro t9 h9 tk9 F9 N9; (try dsimp only); (try k_fold)))
local macro_rules | `(tactic| walk_at "call ref") => `(tactic| (k_here; (with_reducible show wpAny _ _ (call (Value.ref 56) _) _ _ _); k_dflt (refine' c_div ?k1 ?k2 ?k3 ?k4 ?k5 ?kK ?kd ?ku ?hx ?hy ?_; (case k1 => first | k_asm | ktn_no "the frames below"); (case k2 => first | k_asm | ktn_no "the frame"); (case k3 => first | k_asm | ktn_no "the written part"); (case k4 => first | k_asm | ktn_no "the ledger"); (case k5 => first | k_asm | ktn_no "the top"); (case kK => first | exact rfl | assumption | ktn_no "caller"); (case kd => first | ktr_room | ktn_no "room"); (case ku => first | ktr_units | ktn_no "units"); (case hx => first | assumption | omega | exact dig5_getD (by assumption) _) ; (case hy => first | assumption | omega | exact dig5_getD (by assumption) _)); intro t9 h9 tk9 F9 N9; (try dsimp only); (try k_fold)))
section
local macro_rules | `(tactic| walk_at "binaryOp FloorDiv int int") => `(tactic| (k_here; (with_reducible refine floordiv_int ?kbe ?_ (Or.inl (PyProof.noPylong_of_log2 ?kbp))); (case kbe => exact p32_ne _); (case kbp => exact p32_py (by omega) (by omega))))
set_option maxRecDepth 100000 in
set_option maxHeartbeats 8000000 in
theorem c_rows {w : World} {mean : ExcName → Option Value} {mg mb : Str → Option Value} {dp un : Nat} {gd : Option (List Code)} {cn : Str} {cs : Scope} {a : Addr} {ccd : Value} {cl : List (Str × Addr)} {outer : List Env} {A₀ : Around} {base h₀ : Heap} {L : Addr} {m : Str → Option Value} {s : Shared} {news : List (Addr × Obj)} {Q E : Value → Shared → Prop} {x : Int} {tx : Tok} : ∀
   (B : Below A₀ base outer h₀) (F : Fr h₀ L s.heap m) (X : (hd.heap_39 w.params).In h₀) (N : News h₀ L s.heap news) (T : Top hd.view_39 (looseW hd.view_39 []) mean mg mb h₀) (hk : cs.kind = .function) (hdp : dp + 2 < recursionLimit) (hun : un + 16 < cLine) 
   (hret : ∀ (a : Addr) (vs : List Value) (n : Nat) h' tk', IntsAre vs (rowsF x) → Fr h₀ L h' m → News h₀ L h' ((a, listOf vs.toArray n) :: news) → LCg.Off1 a news → Q (.ref a) { s with heap := h', toks := tk' }),
   wpAny (model PySem.Challenge.rw_fp5007_01.row.prog w) (ktrTop dp un gd cn cs L a ccd cl outer) (call (.ref 61) [.int x tx]) Q E s := by
  k_fill
  intro B F X N T hk hdp hun  hret
  refine wpAny_call ?_
  k_dflt (refine' code_defC ?k1 ?k2 ?k3 ?k4 ?k5 ?kA ?kF ?kK ?k6 ?k7 ?k8 ?k9 ?kB ?kD ?_ ?c2 ?c3 ?c4; (case kA => exact rfl); (case kF => exact rfl); (case kK => assumption); (case k1 => k_asm); (case k2 => k_asm); (case k3 => k_asm); (case k4 => k_asm); (case k5 => k_asm); (case k6 => k_is); (case k7 => k_is); (case k8 => ktr_room); (case k9 => exact BindsTo.of_eq rfl); (case kB => exact rfl); (case kD => decide +kernel); (case c2 => exact rfl); (case c3 => exact rfl); (case c4 => exact rfl); k_whole; intro g' L' h' tk' cells' FG' F' N' Y' B' X' T' l1; (have l0 : LtAll L' _ := l1); (try k_lt l1); k_cells Y'; (try simp only [List.cons_append, List.nil_append] at N'); (try dsimp only); (try k_lift B'); (try k_fold))
  k_steps
  all_goals (refine' hret _ _ _ _ _ ?i ?f ?n ?l; (case n => refine' cb_drop ?cbN ?cbS; (case cbN => assumption); (case cbS => kcj_all)); (case f => k_asm); (case l => exact (by assumption : _ ∧ _).2); (case i => assumption))
end
def packF (ns : List Int) : Int := ns.foldl (fun a b => a * 32 + b) 0
theorem fold_pair (ns : List Int) : ∀ a : Int, (ns.foldl (fun (σ : Int × Unit) n => (σ.fst * 32 + n, ())) (a, ())).fst = ns.foldl (fun a b => a * 32 + b) a := by
  induction ns with
  | nil => intro a; rfl
  | cons x r ih => intro a; exact ih (a * 32 + x)
set_option maxRecDepth 100000 in
set_option maxHeartbeats 8000000 in
theorem c_pack {w : World} {mean : ExcName → Option Value} {mg mb : Str → Option Value} {dp un : Nat} {gd : Option (List Code)} {cn : Str} {cs : Scope} {a : Addr} {ccd : Value} {cl : List (Str × Addr)} {outer : List Env} {A₀ : Around} {base h₀ : Heap} {L : Addr} {m : Str → Option Value} {s : Shared} {news : List (Addr × Obj)} {Q E : Value → Shared → Prop} {l : Addr} {vs : List Value} {ns : List Int} {n : Nat} : ∀
   (B : Below A₀ base outer h₀) (F : Fr h₀ L s.heap m) (X : (hd.heap_39 w.params).In h₀) (N : News h₀ L s.heap news) (T : Top hd.view_39 (looseW hd.view_39 []) mean mg mb h₀) (hk : cs.kind = .function) (hdp : dp + 2 < recursionLimit) (hun : un + 16 < cLine) (hm : (l, listOf vs.toArray n) ∈ news) (hi : IntsAre vs ns) (hl : ns.length = 8)
   (hret : ∀ (t : Tok) h' tk', Fr h₀ L h' m → News h₀ L h' news → Q (.int (packF ns) t) { s with heap := h', toks := tk' }),
   wpAny (model PySem.Challenge.rw_fp5007_01.row.prog w) (ktrTop dp un gd cn cs L a ccd cl outer) (call (.ref 68) [.ref l]) Q E s := by
  k_fill
  intro B F X N T hk hdp hun hm hi hl hret
  replace N := newsDup N hm
  refine wpAny_call ?_
  k_dflt cell_enter
  k_steps
  all_goals (refine' cb_retI (Q := Q) hret ?e1 ?e2 ?e3; (case e2 => k_asm); (case e3 => refine' cb_drop ?cbN ?cbS; (case cbN => assumption); (case cbS => kcj_all)); (case e1 => exact fold_pair _ _))
end
section
open PySem PySem.W PyProof.Rows PySem.Calls PySem.Spec
local macro_rules | `(tactic| walk_at "call ref") => `(tactic| (k_here; (with_reducible show wpAny _ _ (call (Value.ref 28) _) _ _ _); k_dflt (refine' c_exp ?k1 ?k2 ?k3 ?k4 ?k5 ?kK ?kd ?ku  ?_; (case k1 => first | k_asm | ktn_no "the frames below"); (case k2 => first | k_asm | ktn_no "the frame"); (case k3 => first | k_asm | ktn_no "the written part"); (case k4 => first | k_asm | ktn_no "the ledger"); (case k5 => first | k_asm | ktn_no "the top"); (case kK => first | exact rfl | assumption | ktn_no "caller"); (case kd => first | ktr_room | ktn_no "room"); (case ku => first | ktr_units | ktn_no "units")); intro a9 vs9 n9 h9 tk9 ql9 qd9 I9 F9 N9 l9; (try simp only [LCg.Off1, and_true] at l9); (try dsimp only); (try k_fold)))
local macro_rules | `(tactic| walk_at "call ref") => `(tactic| (k_here; (with_reducible show wpAny _ _ (call (Value.ref 35) _) _ _ _); k_dflt (refine' c_log ?k1 ?k2 ?k3 ?k4 ?k5 ?kK ?kd ?ku  ?_; (case k1 => first | k_asm | ktn_no "the frames below"); (case k2 => first | k_asm | ktn_no "the frame"); (case k3 => first | k_asm | ktn_no "the written part"); (case k4 => first | k_asm | ktn_no "the ledger"); (case k5 => first | k_asm | ktn_no "the top"); (case kK => first | exact rfl | assumption | ktn_no "caller"); (case kd => first | ktr_room | ktn_no "room"); (case ku => first | ktr_units | ktn_no "units")); intro a9 vs9 n9 h9 tk9 ql9 qd9 I9 F9 N9 l9; (try simp only [LCg.Off1, and_true] at l9); (try dsimp only); (try k_fold)))
local macro_rules | `(tactic| walk_at "call ref") => `(tactic| (k_here; (with_reducible show wpAny _ _ (call (Value.ref 42) _) _ _ _); k_dflt (refine' c_gen ?k1 ?k2 ?k3 ?k4 ?k5 ?kK ?kd ?ku  ?_; (case k1 => first | k_asm | ktn_no "the frames below"); (case k2 => first | k_asm | ktn_no "the frame"); (case k3 => first | k_asm | ktn_no "the written part"); (case k4 => first | k_asm | ktn_no "the ledger"); (case k5 => first | k_asm | ktn_no "the top"); (case kK => first | exact rfl | assumption | ktn_no "caller"); (case kd => first | ktr_room | ktn_no "room"); (case ku => first | ktr_units | ktn_no "units")); intro a9 vs9 n9 h9 tk9 ql9 qd9 I9 F9 N9 l9; (try simp only [LCg.Off1, and_true] at l9); (try dsimp only); (try k_fold)))
local macro_rules | `(tactic| walk_at "call ref") => `(tactic| (k_here; (with_reducible show wpAny _ _ (call (Value.ref 49) _) _ _ _); k_dflt (refine' c_mul ?k1 ?k2 ?k3 ?k4 ?k5 ?kK ?kd ?ku ?hx ?hy ?_; (case k1 => first | k_asm | ktn_no "the frames below"); (case k2 => first | k_asm | ktn_no "the frame"); (case k3 => first | k_asm | ktn_no "the written part"); (case k4 => first | k_asm | ktn_no "the ledger"); (case k5 => first | k_asm | ktn_no "the top"); (case kK => first | exact rfl | assumption | ktn_no "caller"); (case kd => first | ktr_room | ktn_no "room"); (case ku => first | ktr_units | ktn_no "units"); (case hx => first | assumption | omega | exact dig5_getD (by assumption) _) ; (case hy => first | assumption | omega | exact dig5_getD (by assumption) _)); intro t9 h9 tk9 F9 N9; (try dsimp only); (try k_fold)))
local macro_rules | `(tactic| walk_at "call ref") => `(tactic| (k_here; (with_reducible show wpAny _ _ (call (Value.ref 56) _) _ _ _); k_dflt (refine' c_div ?k1 ?k2 ?k3 ?k4 ?k5 ?kK ?kd ?ku ?hx ?hy ?_; (case k1 => first | k_asm | ktn_no "the frames below"); (case k2 => first | k_asm | ktn_no "the frame"); (case k3 => first | k_asm | ktn_no "the written part"); (case k4 => first | k_asm | ktn_no "the ledger"); (case k5 => first | k_asm | ktn_no "the top"); (case kK => first | exact rfl | assumption | ktn_no "caller"); (case kd => first | ktr_room | ktn_no "room"); (case ku => first | ktr_units | ktn_no "units"); (case hx => first | assumption | omega | exact dig5_getD (by assumption) _) ; (case hy => first | assumption | omega | exact dig5_getD (by assumption) _)); intro t9 h9 tk9 F9 N9; (try dsimp only); (try k_fold)))
local macro_rules | `(tactic| k_all) => `(tactic| ((rename LtAll _ _ => q9); intro p9 hp9; (have b9 := q9 p9 (by first | exact hp9 | exact List.Mem.tail _ hp9)); (refine neN ?_); omega))
local macro_rules | `(tactic| walk_at "subscriptTail") => `(tactic| (k_here; (with_reducible show wpAny _ _ (subscriptTail _ _ (Value.ref _) (Value.int _ _)) _ _ _); k_dflt (refine' ksa_sub ?k1 ?k2 ?k3 ?k4 ?k5 ?k6 ?_ ?k7; (case k1 => k_asm); (case k2 => k_mem); (case k3 => with_reducible assumption); (case k4 => first | assumption | decide | omega | fail "idx0"); (case k5 => first | exact idx_ltR (by assumption) (by assumption) (by decide) | exact idx_len (by assumption) (by first | assumption | decide | omega) | omega | ((simp only [List.length_append, List.length_drop, List.length_cons, List.length_nil, List.length_set]); omega) | fail "idx1"); (case k6 => first | decide | exact idx_63 (by assumption) (by decide) | omega | fail "idx2"); (case k7 => with_unfolding_all rfl); k_whole); intro _))
local macro_rules | `(tactic| walk_at "subscriptTail Name Name ref int") => `(tactic| (k_here; (with_reducible show wpAny _ _ (subscriptTail _ _ (Value.ref _) (Value.int _ _)) _ _ _); k_dflt (refine' ksa_sub ?k1 ?k2 ?k3 ?k4 ?k5 ?k6 ?_ ?k7; (case k1 => k_asm); (case k2 => k_mem); (case k3 => with_reducible assumption); (case k4 => first | assumption | decide | omega | fail "idx0"); (case k5 => first | exact idx_ltR (by assumption) (by assumption) (by decide) | exact idx_len (by assumption) (by first | assumption | decide | omega) | omega | ((simp only [List.length_append, List.length_drop, List.length_cons, List.length_nil, List.length_set]); omega) | fail "idx1"); (case k6 => first | decide | exact idx_63 (by assumption) (by decide) | omega | fail "idx2"); (case k7 => with_unfolding_all rfl); k_whole); intro _))
local macro_rules | `(tactic| walk_at "subscriptTail Name Constant ref int") => `(tactic| (k_here; (with_reducible show wpAny _ _ (subscriptTail _ _ (Value.ref _) (Value.int _ _)) _ _ _); k_dflt (refine' ksa_sub ?k1 ?k2 ?k3 ?k4 ?k5 ?k6 ?_ ?k7; (case k1 => k_asm); (case k2 => k_mem); (case k3 => with_reducible assumption); (case k4 => first | assumption | decide | omega | fail "idx0"); (case k5 => first | exact idx_ltR (by assumption) (by assumption) (by decide) | exact idx_len (by assumption) (by first | assumption | decide | omega) | omega | ((simp only [List.length_append, List.length_drop, List.length_cons, List.length_nil, List.length_set]); omega) | fail "idx1"); (case k6 => first | decide | exact idx_63 (by assumption) (by decide) | omega | fail "idx2"); (case k7 => with_unfolding_all rfl); k_whole); intro _))
local macro_rules | `(tactic| walk_at "subscriptTail Call Name ref int") => `(tactic| (k_here; (with_reducible show wpAny _ _ (subscriptTail _ _ (Value.ref _) (Value.int _ _)) _ _ _); k_dflt (refine' ksa_sub ?k1 ?k2 ?k3 ?k4 ?k5 ?k6 ?_ ?k7; (case k1 => k_asm); (case k2 => k_mem); (case k3 => with_reducible assumption); (case k4 => first | assumption | decide | omega | fail "idx0"); (case k5 => first | exact idx_ltR (by assumption) (by assumption) (by decide) | exact idx_len (by assumption) (by first | assumption | decide | omega) | omega | ((simp only [List.length_append, List.length_drop, List.length_cons, List.length_nil, List.length_set]); omega) | fail "idx1"); (case k6 => first | decide | exact idx_63 (by assumption) (by decide) | omega | fail "idx2"); (case k7 => with_unfolding_all rfl); k_whole); intro _))
local macro_rules | `(tactic| walk_at "KCfEl") => `(tactic| exact ⟨by with_unfolding_all rfl, _, rfl⟩)
def stepF (ns : List Int) (x : Int) : List Int := (rangeKs 0 8).map fun k => Builtin.bitXor ((ns.drop 1 ++ [x]).getD k.toNat 0) (mulF (ns.getD 0 0) (genL.getD k.toNat 0))
def topF (ns : List Int) (x : Int) : Int := divF (Builtin.bitXor (ns.getD 7 0) x) 9
def backF (ns : List Int) (x : Int) : List Int := topF ns x :: (rangeKs 0 7).map fun k => Builtin.bitXor (ns.getD k.toNat 0) (mulF (topF ns x) (genL.getD k.toNat 0))
set_option maxRecDepth 100000 in
set_option maxHeartbeats 8000000 in
theorem c_step {w : World} {mean : ExcName → Option Value} {mg mb : Str → Option Value} {dp un : Nat} {gd : Option (List Code)} {cn : Str} {cs : Scope} {a : Addr} {ccd : Value} {cl : List (Str × Addr)} {outer : List Env} {A₀ : Around} {base h₀ : Heap} {L : Addr} {m : Str → Option Value} {s : Shared} {news : List (Addr × Obj)} {Q E : Value → Shared → Prop} {l : Addr} {vs : List Value} {ns : List Int} {n : Nat} {x : Int} {tx : Tok} : ∀
   (B : Below A₀ base outer h₀) (F : Fr h₀ L s.heap m) (X : (hd.heap_39 w.params).In h₀) (N : News h₀ L s.heap news) (T : Top hd.view_39 (looseW hd.view_39 []) mean mg mb h₀) (hk : cs.kind = .function) (hdp : dp + 4 < recursionLimit) (hun : un + 32 < cLine) (hm : (l, listOf vs.toArray n) ∈ news) (hi : IntsAre vs ns) (hl : ns.length = 8) (hd : Dig5 ns) (hx : 0 ≤ x ∧ x < 32)
   (hret : ∀ (a : Addr) (vs : List Value) (n : Nat) h' tk', IntsAre vs (stepF ns x) → Fr h₀ L h' m → News h₀ L h' ((a, listOf vs.toArray n) :: news) → LCg.Off1 a news → Q (.ref a) { s with heap := h', toks := tk' }),
   wpAny (model PySem.Challenge.rw_fp5007_01.row.prog w) (ktrTop dp un gd cn cs L a ccd cl outer) (call (.ref 73) [.ref l, .int x tx]) Q E s := by
  k_fill
  intro B F X N T hk hdp hun hm hi hl hd hx hret
  replace N := newsDup N hm
  refine wpAny_call ?_
  k_dflt (refine' code_defC ?k1 ?k2 ?k3 ?k4 ?k5 ?kA ?kF ?kK ?k6 ?k7 ?k8 ?k9 ?kB ?kD ?_ ?c2 ?c3 ?c4; (case kA => exact rfl); (case kF => exact rfl); (case kK => assumption); (case k1 => k_asm); (case k2 => k_asm); (case k3 => k_asm); (case k4 => k_asm); (case k5 => k_asm); (case k6 => k_is); (case k7 => k_is); (case k8 => ktr_room); (case k9 => exact BindsTo.of_eq rfl); (case kB => exact rfl); (case kD => decide +kernel); (case c2 => exact rfl); (case c3 => exact rfl); (case c4 => exact rfl); k_whole; intro g' L' h' tk' cells' FG' F' N' Y' B' X' T' l1; (have l0 : LtAll L' _ := l1); (try k_lt l1); k_cells Y'; (try simp only [List.cons_append, List.nil_append] at N'); (try dsimp only); (try k_lift B'); (try k_fold))
  have e8 : LenIs (List.drop 1 ns ++ [x]) 8 := by simp [LenIs, hl]
  have e9 : LenIs ns 8 := hl
  k_steps
  all_goals (refine' hret _ _ _ _ _ ?i ?f ?n ?l; (case n => refine' cb_drop ?cbN ?cbS; (case cbN => assumption); (case cbS => kcj_all)); (case f => k_asm); (case l => ((rename (_ ∧ _ ∧ _ ∧ _ ∧ _ ∧ _ ∧ LCg.Off1 _ _) => q); exact q.2.2.2.2.2.2)); (case i => assumption))
end
section
open PySem PySem.W PyProof.Rows PySem.Calls PySem.Spec
local macro_rules | `(tactic| walk_at "call ref") => `(tactic| (k_here; (with_reducible show wpAny _ _ (call (Value.ref 28) _) _ _ _); k_dflt (refine' c_exp ?k1 ?k2 ?k3 ?k4 ?k5 ?kK ?kd ?ku  ?_; (case k1 => first | k_asm | ktn_no "the frames below"); (case k2 => first | k_asm | ktn_no "the frame"); (case k3 => first | k_asm | ktn_no "the written part"); (case k4 => first | k_asm | ktn_no "the ledger"); (case k5 => first | k_asm | ktn_no "the top"); (case kK => first | exact rfl | assumption | ktn_no "caller"); (case kd => first | ktr_room | ktn_no "room"); (case ku => first | ktr_units | ktn_no "units")); intro a9 vs9 n9 h9 tk9 ql9 qd9 I9 F9 N9 l9; (try simp only [LCg.Off1, and_true] at l9); (try dsimp only); (try k_fold)))
local macro_rules | `(tactic| walk_at "call ref") => `(tactic| (k_here; (with_reducible show wpAny _ _ (call (Value.ref 35) _) _ _ _); k_dflt (refine' c_log ?k1 ?k2 ?k3 ?k4 ?k5 ?kK ?kd ?ku  ?_; (case k1 => first | k_asm | ktn_no "the frames below"); (case k2 => first | k_asm | ktn_no "the frame"); (case k3 => first | k_asm | ktn_no "the written part"); (case k4 => first | k_asm | ktn_no "the ledger"); (case k5 => first | k_asm | ktn_no "the top"); (case kK => first | exact rfl | assumption | ktn_no "caller"); (case kd => first | ktr_room | ktn_no "room"); (case ku => first | ktr_units | ktn_no "units")); intro a9 vs9 n9 h9 tk9 ql9 qd9 I9 F9 N9 l9; (try simp only [LCg.Off1, and_true] at l9); (try dsimp only); (try k_fold)))
local macro_rules | `(tactic| walk_at "call ref") => `(tactic| (k_here; (with_reducible show wpAny _ _ (call (Value.ref 42) _) _ _ _); k_dflt (refine' c_gen ?k1 ?k2 ?k3 ?k4 ?k5 ?kK ?kd ?ku  ?_; (case k1 => first | k_asm | ktn_no "the frames below"); (case k2 => first | k_asm | ktn_no "the frame"); (case k3 => first | k_asm | ktn_no "the written part"); (case k4 => first | k_asm | ktn_no "the ledger"); (case k5 => first | k_asm | ktn_no "the top"); (case kK => first | exact rfl | assumption | ktn_no "caller"); (case kd => first | ktr_room | ktn_no "room"); (case ku => first | ktr_units | ktn_no "units")); intro a9 vs9 n9 h9 tk9 ql9 qd9 I9 F9 N9 l9; (try simp only [LCg.Off1, and_true] at l9); (try dsimp only); (try k_fold)))
local macro_rules | `(tactic| walk_at "call ref") => `(tactic| (k_here; (with_reducible show wpAny _ _ (call (Value.ref 49) _) _ _ _); k_dflt (refine' c_mul ?k1 ?k2 ?k3 ?k4 ?k5 ?kK ?kd ?ku ?hx ?hy ?_; (case k1 => first | k_asm | ktn_no "the frames below"); (case k2 => first | k_asm | ktn_no "the frame"); (case k3 => first | k_asm | ktn_no "the written part"); (case k4 => first | k_asm | ktn_no "the ledger"); (case k5 => first | k_asm | ktn_no "the top"); (case kK => first | exact rfl | assumption | ktn_no "caller"); (case kd => first | ktr_room | ktn_no "room"); (case ku => first | ktr_units | ktn_no "units"); (case hx => first | assumption | omega | exact dig5_getD (by assumption) _) ; (case hy => first | assumption | omega | exact dig5_getD (by assumption) _)); intro t9 h9 tk9 F9 N9; (try dsimp only); (try k_fold)))
local macro_rules | `(tactic| walk_at "call ref") => `(tactic| (k_here; (with_reducible show wpAny _ _ (call (Value.ref 56) _) _ _ _); k_dflt (refine' c_div ?k1 ?k2 ?k3 ?k4 ?k5 ?kK ?kd ?ku ?hx ?hy ?_; (case k1 => first | k_asm | ktn_no "the frames below"); (case k2 => first | k_asm | ktn_no "the frame"); (case k3 => first | k_asm | ktn_no "the written part"); (case k4 => first | k_asm | ktn_no "the ledger"); (case k5 => first | k_asm | ktn_no "the top"); (case kK => first | exact rfl | assumption | ktn_no "caller"); (case kd => first | ktr_room | ktn_no "room"); (case ku => first | ktr_units | ktn_no "units"); (case hx => first | assumption | omega | exact dig5_getD (by assumption) _) ; (case hy => first | assumption | omega | exact dig5_getD (by assumption) _)); intro t9 h9 tk9 F9 N9; (try dsimp only); (try k_fold)))
local macro_rules | `(tactic| k_all) => `(tactic| ((rename LtAll _ _ => q9); intro p9 hp9; (have b9 := q9 p9 (by first | exact hp9 | exact List.Mem.tail _ hp9)); (refine neN ?_); omega))
local macro_rules | `(tactic| walk_at "subscriptTail") => `(tactic| (k_here; (with_reducible show wpAny _ _ (subscriptTail _ _ (Value.ref _) (Value.int _ _)) _ _ _); k_dflt (refine' ksa_sub ?k1 ?k2 ?k3 ?k4 ?k5 ?k6 ?_ ?k7; (case k1 => k_asm); (case k2 => k_mem); (case k3 => with_reducible assumption); (case k4 => first | assumption | decide | omega | fail "idx0"); (case k5 => first | exact idx_ltR (by assumption) (by assumption) (by decide) | exact idx_len (by assumption) (by first | assumption | decide | omega) | omega | ((simp only [List.length_append, List.length_drop, List.length_cons, List.length_nil, List.length_set]); omega) | fail "idx1"); (case k6 => first | decide | exact idx_63 (by assumption) (by decide) | omega | fail "idx2"); (case k7 => with_unfolding_all rfl); k_whole); intro _))
local macro_rules | `(tactic| walk_at "subscriptTail Name Name ref int") => `(tactic| (k_here; (with_reducible show wpAny _ _ (subscriptTail _ _ (Value.ref _) (Value.int _ _)) _ _ _); k_dflt (refine' ksa_sub ?k1 ?k2 ?k3 ?k4 ?k5 ?k6 ?_ ?k7; (case k1 => k_asm); (case k2 => k_mem); (case k3 => with_reducible assumption); (case k4 => first | assumption | decide | omega | fail "idx0"); (case k5 => first | exact idx_ltR (by assumption) (by assumption) (by decide) | exact idx_len (by assumption) (by first | assumption | decide | omega) | omega | ((simp only [List.length_append, List.length_drop, List.length_cons, List.length_nil, List.length_set]); omega) | fail "idx1"); (case k6 => first | decide | exact idx_63 (by assumption) (by decide) | omega | fail "idx2"); (case k7 => with_unfolding_all rfl); k_whole); intro _))
local macro_rules | `(tactic| walk_at "subscriptTail Name Constant ref int") => `(tactic| (k_here; (with_reducible show wpAny _ _ (subscriptTail _ _ (Value.ref _) (Value.int _ _)) _ _ _); k_dflt (refine' ksa_sub ?k1 ?k2 ?k3 ?k4 ?k5 ?k6 ?_ ?k7; (case k1 => k_asm); (case k2 => k_mem); (case k3 => with_reducible assumption); (case k4 => first | assumption | decide | omega | fail "idx0"); (case k5 => first | exact idx_ltR (by assumption) (by assumption) (by decide) | exact idx_len (by assumption) (by first | assumption | decide | omega) | omega | ((simp only [List.length_append, List.length_drop, List.length_cons, List.length_nil, List.length_set]); omega) | fail "idx1"); (case k6 => first | decide | exact idx_63 (by assumption) (by decide) | omega | fail "idx2"); (case k7 => with_unfolding_all rfl); k_whole); intro _))
local macro_rules | `(tactic| walk_at "subscriptTail Call Name ref int") => `(tactic| (k_here; (with_reducible show wpAny _ _ (subscriptTail _ _ (Value.ref _) (Value.int _ _)) _ _ _); k_dflt (refine' ksa_sub ?k1 ?k2 ?k3 ?k4 ?k5 ?k6 ?_ ?k7; (case k1 => k_asm); (case k2 => k_mem); (case k3 => with_reducible assumption); (case k4 => first | assumption | decide | omega | fail "idx0"); (case k5 => first | exact idx_ltR (by assumption) (by assumption) (by decide) | exact idx_len (by assumption) (by first | assumption | decide | omega) | omega | ((simp only [List.length_append, List.length_drop, List.length_cons, List.length_nil, List.length_set]); omega) | fail "idx1"); (case k6 => first | decide | exact idx_63 (by assumption) (by decide) | omega | fail "idx2"); (case k7 => with_unfolding_all rfl); k_whole); intro _))
local macro_rules | `(tactic| walk_at "KCfEl") => `(tactic| exact ⟨by with_unfolding_all rfl, _, rfl⟩)
local macro_rules | `(tactic| walk_at "eval ListComp") => `(tactic| (k_here; (try dsimp only); k_dflt (refine LCg.ListComp_U (F₀ := by k_asm) (by with_unfolding_all rfl) (by decide) (by rfl) (by decide) (by rfl) ?_)))
set_option maxRecDepth 100000 in
set_option maxHeartbeats 8000000 in
theorem c_back {w : World} {mean : ExcName → Option Value} {mg mb : Str → Option Value} {dp un : Nat} {gd : Option (List Code)} {cn : Str} {cs : Scope} {a : Addr} {ccd : Value} {cl : List (Str × Addr)} {outer : List Env} {A₀ : Around} {base h₀ : Heap} {L : Addr} {m : Str → Option Value} {s : Shared} {news : List (Addr × Obj)} {Q E : Value → Shared → Prop} {l : Addr} {vs : List Value} {ns : List Int} {n : Nat} {x : Int} {tx : Tok} : ∀
   (B : Below A₀ base outer h₀) (F : Fr h₀ L s.heap m) (X : (hd.heap_39 w.params).In h₀) (N : News h₀ L s.heap news) (T : Top hd.view_39 (looseW hd.view_39 []) mean mg mb h₀) (hk : cs.kind = .function) (hdp : dp + 4 < recursionLimit) (hun : un + 32 < cLine) (hm : (l, listOf vs.toArray n) ∈ news) (hi : IntsAre vs ns) (hl : ns.length = 8) (hd : Dig5 ns) (hx : 0 ≤ x ∧ x < 32) (hq : 0 ≤ Builtin.bitXor (ns.getD 7 0) x ∧ Builtin.bitXor (ns.getD 7 0) x < 32) (htop : 0 ≤ topF ns x ∧ topF ns x < 32)
   (hret : ∀ (a : Addr) (vs : List Value) (n : Nat) h' tk', IntsAre vs (backF ns x) → Fr h₀ L h' m → News h₀ L h' ((a, listOf vs.toArray n) :: news) → LCg.Off1 a news → Q (.ref a) { s with heap := h', toks := tk' }),
   wpAny (model PySem.Challenge.rw_fp5007_01.row.prog w) (ktrTop dp un gd cn cs L a ccd cl outer) (call (.ref 78) [.ref l, .int x tx]) Q E s := by
  k_fill
  intro B F X N T hk hdp hun hm hi hl hd hx hq htop hret
  replace N := newsDup N hm
  refine wpAny_call ?_
  k_dflt (refine' code_defC ?k1 ?k2 ?k3 ?k4 ?k5 ?kA ?kF ?kK ?k6 ?k7 ?k8 ?k9 ?kB ?kD ?_ ?c2 ?c3 ?c4; (case kA => exact rfl); (case kF => exact rfl); (case kK => assumption); (case k1 => k_asm); (case k2 => k_asm); (case k3 => k_asm); (case k4 => k_asm); (case k5 => k_asm); (case k6 => k_is); (case k7 => k_is); (case k8 => ktr_room); (case k9 => exact BindsTo.of_eq rfl); (case kB => exact rfl); (case kD => decide +kernel); (case c2 => exact rfl); (case c3 => exact rfl); (case c4 => exact rfl); k_whole; intro g' L' h' tk' cells' FG' F' N' Y' B' X' T' l1; (have l0 : LtAll L' _ := l1); (try k_lt l1); k_cells Y'; (try simp only [List.cons_append, List.nil_append] at N'); (try dsimp only); (try k_lift B'); (try k_fold))
  have e9 : LenIs ns 8 := hl
  k_steps
  all_goals (refine' hret _ _ _ _ _ ?i ?f ?n ?l; (case n => refine' cb_drop ?cbN ?cbS; (case cbN => assumption); (case cbS => kcj_all)); (case f => k_asm); (case l => ((rename (_ ∧ _ ∧ _ ∧ _ ∧ _ ∧ AllLt _ _) => q); exact off1_of (ktn_ltOf q.2.2.2.2.2))); (case i => assumption))
end
section
open PySem PySem.W PyProof.Rows PySem.Calls PySem.Spec
theorem mask_bnd (x : Int) : (Builtin.bitAnd x 34359738367).natAbs < 2 ^ 64 := by
  have h := kbt_mask x 35
  have e : (2 : Int) ^ 35 - 1 = 34359738367 := by decide
  rw [e] at h
  rw [h]
  have h1 := Int.emod_nonneg x (show (2 : Int) ^ 35 ≠ 0 by decide)
  have h2 := Int.emod_lt_of_pos x (show (0 : Int) < 2 ^ 35 by decide)
  omega
def pIf (c0 mk g c : Int) : Int := if Builtin.bitAnd c0 mk = 0 then c else Builtin.bitXor c g
def polyF (x y : Int) : Int :=
  pIf (x.fdiv (2 ^ Int.toNat 35)) 16 430795026429 (pIf (x.fdiv (2 ^ Int.toNat 35)) 8 236335490938 (pIf (x.fdiv (2 ^ Int.toNat 35)) 4 118834127661 (pIf (x.fdiv (2 ^ Int.toNat 35)) 2 730107360018
    (pIf (x.fdiv (2 ^ Int.toNat 35)) 1 1056006543753 (Builtin.bitXor (Builtin.bitAnd x 34359738367 * 2 ^ Int.toNat 5) y)))))
local macro_rules | `(tactic| walk_at "binaryOp LShift int int") => `(tactic| (k_here; (with_reducible refine lshift_int_small ?kb1 ?kb2 ?kb3 ?_); (case kb1 => decide); (case kb2 => decide); (case kb3 => exact mask_bnd _)))
set_option maxRecDepth 100000 in
set_option maxHeartbeats 8000000 in
theorem c_poly {w : World} {mean : ExcName → Option Value} {mg mb : Str → Option Value} {dp un : Nat} {gd : Option (List Code)} {cn : Str} {cs : Scope} {a : Addr} {ccd : Value} {cl : List (Str × Addr)} {outer : List Env} {A₀ : Around} {base h₀ : Heap} {L : Addr} {m : Str → Option Value} {s : Shared} {news : List (Addr × Obj)} {Q E : Value → Shared → Prop} {x y : Int} {tx ty : Tok} : ∀
   (B : Below A₀ base outer h₀) (F : Fr h₀ L s.heap m) (X : (hd.heap_39 w.params).In h₀) (N : News h₀ L s.heap news) (T : Top hd.view_39 (looseW hd.view_39 []) mean mg mb h₀) (hk : cs.kind = .function) (hdp : dp + 2 < recursionLimit) (hun : un + 16 < cLine)
   (hret : ∀ (t : Tok) h' tk', Fr h₀ L h' m → News h₀ L h' news → Q (.int (polyF x y) t) { s with heap := h', toks := tk' }),
   wpAny (model PySem.Challenge.rw_fp5007_01.row.prog w) (ktrTop dp un gd cn cs L a ccd cl outer) (call (.ref 21) [.int x tx, .int y ty]) Q E s := by
  k_fill
  intro B F X N T hk hdp hun  hret
  refine wpAny_call ?_
  k_dflt cell_enter
  k_steps
  all_goals (refine' cb_retI (Q := Q) hret ?e1 ?e2 ?e3; (case e2 => k_asm); (case e3 => refine' cb_drop ?cbN ?cbS; (case cbN => assumption); (case cbS => kcj_all)); (case e1 => unfold polyF pIf; simp only [*, if_true, if_false]))
end
section
open PySem PySem.W PyProof.Rows
theorem nat_xor_add (a : Nat) : ∀ b : Nat, (a ^^^ b) + 2 * (a &&& b) = a + b := by
  induction a using Nat.strongRecOn with
  | _ a ih =>
    intro b
    by_cases h0 : a = 0
    · subst h0; simp
    · have hi := ih (a / 2) (by omega) (b / 2)
      have h1 : (a ^^^ b) / 2 = a / 2 ^^^ b / 2 := Nat.xor_div_two
      have h2 : (a &&& b) / 2 = a / 2 &&& b / 2 := Nat.and_div_two
      have h3 : (a ^^^ b) % 2 = 1 ↔ ¬ (a % 2 = 1 ↔ b % 2 = 1) := Nat.xor_mod_two_eq_one
      have h4 : (a &&& b) % 2 = 1 ↔ a % 2 = 1 ∧ b % 2 = 1 := Nat.and_mod_two_eq_one
      have e1 := Nat.div_add_mod (a ^^^ b) 2
      have e2 := Nat.div_add_mod (a &&& b) 2
      rw [h1] at e1
      rw [h2] at e2
      by_cases ha : a % 2 = 1 <;> by_cases hb : b % 2 = 1 <;> simp only [ha, hb, true_and, and_true, and_self, iff_self, not_true_eq_false, true_iff, false_iff, iff_true, iff_false, not_false_eq_true, and_false, false_and] at h3 h4 <;> omega
theorem bitAnd_nat (a b : Nat) : Builtin.bitAnd (a : Int) (b : Int) = ((a &&& b : Nat) : Int) := by
  rw [bitAnd_pp (by omega) (by omega)]; simp
theorem bitXor_nat (a b : Nat) : Builtin.bitXor (a : Int) (b : Int) = ((a ^^^ b : Nat) : Int) := by
  rw [bitXor_and, bitAnd_nat]
  have := nat_xor_add a b
  omega
theorem xor32 {x y : Int} (hx : 0 ≤ x ∧ x < 32) (hy : 0 ≤ y ∧ y < 32) : 0 ≤ Builtin.bitXor x y ∧ Builtin.bitXor x y < 32 := by
  obtain ⟨a, rfl⟩ := Int.eq_ofNat_of_zero_le hx.1
  obtain ⟨b, rfl⟩ := Int.eq_ofNat_of_zero_le hy.1
  rw [bitXor_nat]
  have h : a ^^^ b < 2 ^ 5 := Nat.xor_lt_two_pow (by omega) (by omega)
  omega
theorem expL_dig : Dig5 expL := by unfold Dig5; decide
theorem mul32 (x y : Int) : 0 ≤ mulF x y ∧ mulF x y < 32 := by
  unfold mulF
  split
  · decide
  · split
    · decide
    · exact dig5_getD expL_dig _
theorem div32 (x y : Int) : 0 ≤ divF x y ∧ divF x y < 32 := by
  unfold divF
  split
  · decide
  · exact dig5_getD expL_dig _
end
section
open PySem PySem.W PyProof.Rows PySem.Calls PySem.Spec
def innS (p f : Int) (rows : List Int) (t : Int) : List Int := rows.set (p + 1 + t).toNat (Builtin.bitXor (rows.getD (p + 1 + t).toNat 0) (mulF f (genL.getD t.toNat 0)))
def outS (rows : List Int) (p : Int) : List Int := if rows.getD p.toNat 0 = 0 then rows else (rangeKs 0 8).foldl (innS p (rows.getD p.toNat 0)) rows
def RestInv (rows0 : List Int) (pre rows : List Int) : Prop := rows = pre.foldl outS rows0 ∧ rows.length = rows0.length ∧ Dig5 rows
abbrev restRows {a b c : List Int} (_ : RestInv a b c) : List Int := c
def InnInv (p f : Int) (r0 pre rows : List Int) : Prop := rows = pre.foldl (innS p f) r0 ∧ rows.length = r0.length ∧ Dig5 rows
theorem dig5_app {a b : List Int} (h : Dig5 a) (h' : Dig5 b) : Dig5 (a ++ b) := fun x hx => (List.mem_append.mp hx).elim (h x) (h' x)
theorem dig5_set {a : List Int} {i : Nat} {v : Int} (h : Dig5 a) (hv : 0 ≤ v ∧ v < 32) : Dig5 (a.set i v) := fun x hx => (List.mem_or_eq_of_mem_set hx).elim (h x) fun e => e ▸ hv
theorem restInv0 {ns : List Int} (h : Dig5 ns) : RestInv ([0, 0, 0, 0, 0, 0, 0, 0, 1] ++ ns) [] ([0, 0, 0, 0, 0, 0, 0, 0, 1] ++ ns) :=
  ⟨rfl, rfl, dig5_app (by unfold Dig5; decide) h⟩
theorem innInv0 {a b rows : List Int} (p f : Int) (h : RestInv a b rows) : InnInv p f rows [] rows := ⟨rfl, rfl, h.2.2⟩
theorem innInv1 {p f k : Int} {r0 pre rows : List Int} (h : InnInv p f r0 pre rows) : InnInv p f r0 (pre ++ [k]) (rows.set (p + 1 + k).toNat (Builtin.bitXor (rows.getD (p + 1 + k).toNat 0) (mulF f (genL.getD k.toNat 0)))) :=
  ⟨by rw [List.foldl_append, ← h.1]; rfl, by rw [List.length_set]; exact h.2.1, dig5_set h.2.2 (xor32 (dig5_getD h.2.2 _) (mul32 _ _))⟩
theorem restInv1 {p : Int} {rows0 pre rows rows' : List Int} (h : RestInv rows0 pre rows) (hf : rows.getD p.toNat 0 ≠ 0) (hi : InnInv p (rows.getD p.toNat 0) rows (rangeKs 0 8) rows') : RestInv rows0 (pre ++ [p]) rows' :=
  ⟨by rw [List.foldl_append, ← h.1, hi.1]; simp only [List.foldl_cons, List.foldl_nil, outS, hf, if_false], by rw [hi.2.1, h.2.1], hi.2.2⟩
theorem restInv2 {p : Int} {rows0 pre rows : List Int} (h : RestInv rows0 pre rows) (hf : rows.getD p.toNat 0 = 0) : RestInv rows0 (pre ++ [p]) rows :=
  ⟨by rw [List.foldl_append, ← h.1]; simp only [List.foldl_cons, List.foldl_nil, outS, hf, if_true], h.2.1, h.2.2⟩
local macro_rules | `(tactic| walk_at "call ref") => `(tactic| (k_here; (with_reducible show wpAny _ _ (call (Value.ref 42) _) _ _ _); k_dflt (refine' c_gen ?k1 ?k2 ?k3 ?k4 ?k5 ?kK ?kd ?ku  ?_; (case k1 => first | k_asm | ktn_no "the frames below"); (case k2 => first | k_asm | ktn_no "the frame"); (case k3 => first | k_asm | ktn_no "the written part"); (case k4 => first | k_asm | ktn_no "the ledger"); (case k5 => first | k_asm | ktn_no "the top"); (case kK => first | exact rfl | assumption | ktn_no "caller"); (case kd => first | ktr_room | ktn_no "room"); (case ku => first | ktr_units | ktn_no "units")); intro a9 vs9 n9 h9 tk9 ql9 qd9 I9 F9 N9 l9; (try simp only [LCg.Off1, and_true] at l9); (try dsimp only); (try k_fold)))
local macro_rules | `(tactic| walk_at "call ref") => `(tactic| (k_here; (with_reducible show wpAny _ _ (call (Value.ref 49) _) _ _ _); k_dflt (refine' c_mul ?k1 ?k2 ?k3 ?k4 ?k5 ?kK ?kd ?ku ?hx ?hy ?_; (case k1 => first | k_asm | ktn_no "the frames below"); (case k2 => first | k_asm | ktn_no "the frame"); (case k3 => first | k_asm | ktn_no "the written part"); (case k4 => first | k_asm | ktn_no "the ledger"); (case k5 => first | k_asm | ktn_no "the top"); (case kK => first | exact rfl | assumption | ktn_no "caller"); (case kd => first | ktr_room | ktn_no "room"); (case ku => first | ktr_units | ktn_no "units"); (case hx => first | assumption | omega | exact dig5_getD (by assumption) _ | exact dig5_getD (by assumption : RestInv _ _ _).2.2 _) ; (case hy => first | assumption | omega | exact dig5_getD (by assumption) _)); intro t9 h9 tk9 F9 N9; (try dsimp only); (try k_fold)))
local macro_rules | `(tactic| k_all) => `(tactic| ((rename LtAll _ _ => q9); intro p9 hp9; (have b9 := q9 p9 (by first | exact hp9 | exact List.Mem.tail _ hp9)); (refine neN ?_); omega))
local macro_rules | `(tactic| walk_at "subscriptTail") => `(tactic| (k_here; (with_reducible show wpAny _ _ (subscriptTail _ _ (Value.ref _) (Value.int _ _)) _ _ _); k_dflt (refine' ksa_sub ?k1 ?k2 ?k3 ?k4 ?k5 ?k6 ?_ ?k7; (case k1 => k_asm); (case k2 => k_mem); (case k3 => with_reducible assumption); (case k4 => first | assumption | decide | omega | fail "idx0"); (case k5 => first | exact idx_ltR (by assumption) (by assumption) (by decide) | exact idx_len (by assumption) (by first | assumption | decide | omega) | omega | ((simp only [List.length_append, List.length_drop, List.length_cons, List.length_nil, List.length_set]); omega) | fail "idx1"); (case k6 => first | decide | exact idx_63 (by assumption) (by decide) | omega | fail "idx2"); (case k7 => with_unfolding_all rfl); k_whole); intro _))
local macro_rules | `(tactic| walk_at "subscriptTail Name Name ref int") => `(tactic| (k_here; (with_reducible show wpAny _ _ (subscriptTail _ _ (Value.ref _) (Value.int _ _)) _ _ _); k_dflt (refine' ksa_sub ?k1 ?k2 ?k3 ?k4 ?k5 ?k6 ?_ ?k7; (case k1 => k_asm); (case k2 => k_mem); (case k3 => with_reducible assumption); (case k4 => first | assumption | decide | omega | fail "idx0"); (case k5 => first | exact idx_ltR (by assumption) (by assumption) (by decide) | exact idx_len (by assumption) (by first | assumption | decide | omega) | omega | ((simp only [List.length_append, List.length_drop, List.length_cons, List.length_nil, List.length_set]); omega) | fail "idx1"); (case k6 => first | decide | exact idx_63 (by assumption) (by decide) | omega | fail "idx2"); (case k7 => with_unfolding_all rfl); k_whole); intro _))
local macro_rules | `(tactic| walk_at "subscriptTail Name Constant ref int") => `(tactic| (k_here; (with_reducible show wpAny _ _ (subscriptTail _ _ (Value.ref _) (Value.int _ _)) _ _ _); k_dflt (refine' ksa_sub ?k1 ?k2 ?k3 ?k4 ?k5 ?k6 ?_ ?k7; (case k1 => k_asm); (case k2 => k_mem); (case k3 => with_reducible assumption); (case k4 => first | assumption | decide | omega | fail "idx0"); (case k5 => first | exact idx_ltR (by assumption) (by assumption) (by decide) | exact idx_len (by assumption) (by first | assumption | decide | omega) | omega | ((simp only [List.length_append, List.length_drop, List.length_cons, List.length_nil, List.length_set]); omega) | fail "idx1"); (case k6 => first | decide | exact idx_63 (by assumption) (by decide) | omega | fail "idx2"); (case k7 => with_unfolding_all rfl); k_whole); intro _))
local macro_rules | `(tactic| walk_at "subscriptTail Call Name ref int") => `(tactic| (k_here; (with_reducible show wpAny _ _ (subscriptTail _ _ (Value.ref _) (Value.int _ _)) _ _ _); k_dflt (refine' ksa_sub ?k1 ?k2 ?k3 ?k4 ?k5 ?k6 ?_ ?k7; (case k1 => k_asm); (case k2 => k_mem); (case k3 => with_reducible assumption); (case k4 => first | assumption | decide | omega | fail "idx0"); (case k5 => first | exact idx_ltR (by assumption) (by assumption) (by decide) | exact idx_len (by assumption) (by first | assumption | decide | omega) | omega | ((simp only [List.length_append, List.length_drop, List.length_cons, List.length_nil, List.length_set]); omega) | fail "idx1"); (case k6 => first | decide | exact idx_63 (by assumption) (by decide) | omega | fail "idx2"); (case k7 => with_unfolding_all rfl); k_whole); intro _))
local macro_rules | `(tactic| walk_at "subscriptTail Name Name ref int") => `(tactic| (k_here; (with_reducible show wpAny _ _ (subscriptTail _ _ (Value.ref _) (Value.int _ _)) _ _ _); k_dflt (refine' ksa_sub ?k1 ?k2 ?k3 ?k4 ?k5 ?k6 ?_ ?k7; (case k1 => k_asm); (case k2 => k_mem); (case k3 => with_reducible assumption); (case k4 => first | assumption | decide | omega | fail "idx0"); (case k5 => first | exact idx_ltR (by assumption) (by assumption) (by decide) | exact idx_len (by assumption) (by first | assumption | decide | omega) | ((rename InnInv _ _ _ _ _ => q7); (rename RestInv _ _ _ => q9); (have q6 := q7.2.1); (have q8 := q9.2.1); (simp only [restRows, List.length_append, List.length_cons, List.length_nil] at q6 q8); omega) | ((rename RestInv _ _ _ => q9); (have q8 := q9.2.1); (simp only [List.length_append, List.length_cons, List.length_nil] at q8); omega) | omega | ((simp only [List.length_append, List.length_drop, List.length_cons, List.length_nil, List.length_set]); omega) | fail "idx1"); (case k6 => first | decide | exact idx_63 (by assumption) (by decide) | omega | fail "idx2"); (case k7 => with_unfolding_all rfl); k_whole); intro _))
local macro_rules | `(tactic| walk_at "subscriptTail Name BinOp ref int") => `(tactic| (k_here; (with_reducible show wpAny _ _ (subscriptTail _ _ (Value.ref _) (Value.int _ _)) _ _ _); k_dflt (refine' ksa_sub ?k1 ?k2 ?k3 ?k4 ?k5 ?k6 ?_ ?k7; (case k1 => k_asm); (case k2 => k_mem); (case k3 => with_reducible assumption); (case k4 => first | assumption | decide | omega | fail "idx0"); (case k5 => first | exact idx_ltR (by assumption) (by assumption) (by decide) | exact idx_len (by assumption) (by first | assumption | decide | omega) | ((rename InnInv _ _ _ _ _ => q7); (rename RestInv _ _ _ => q9); (have q6 := q7.2.1); (have q8 := q9.2.1); (simp only [restRows, List.length_append, List.length_cons, List.length_nil] at q6 q8); omega) | ((rename RestInv _ _ _ => q9); (have q8 := q9.2.1); (simp only [List.length_append, List.length_cons, List.length_nil] at q8); omega) | omega | ((simp only [List.length_append, List.length_drop, List.length_cons, List.length_nil, List.length_set]); omega) | fail "idx1"); (case k6 => first | decide | exact idx_63 (by assumption) (by decide) | omega | fail "idx2"); (case k7 => with_unfolding_all rfl); k_whole); intro _))
local macro_rules | `(tactic| walk_at "setItem ref int") => `(tactic| (k_here; (with_reducible show wpAny _ _ (setItem (Value.ref _) (Value.int _ _) (Value.int _ _)) _ _ _); k_dflt (refine' ksa_set ?k1 ?k2 ?k3 ?k4 ?k5 ?k6 ?k7 ?_; (case k1 => k_asm); (case k2 => k_asm); (case k3 => k_upd); (case k4 => with_reducible assumption); (case k5 => first | omega | fail "set0"); (case k6 => first | ((rename InnInv _ _ _ _ _ => q7); (rename RestInv _ _ _ => q9); (have q6 := q7.2.1); (have q8 := q9.2.1); (simp only [restRows, List.length_append, List.length_cons, List.length_nil] at q6 q8); omega) | omega | fail "set1"); (case k7 => first | ((rename InnInv _ _ _ _ _ => q7); (rename RestInv _ _ _ => q9); (have q6 := q7.2.1); (have q8 := q9.2.1); (simp only [restRows, List.length_append, List.length_cons, List.length_nil] at q6 q8); omega) | omega | fail "set2"); k_whole); intro h' F' N' hi' hl' hs'; (try clear hl'); (try clear hs'); (try k_sweep)))
local macro_rules | `(tactic| walk_at "pyIter ref") => `(tactic| (k_extra "pyIter ref"))
theorem rest_len {vs : List Value} {ns pre rows : List Int} (hi : IntsAre vs rows) (h : RestInv ([0, 0, 0, 0, 0, 0, 0, 0, 1] ++ ns) pre rows) : vs.length = 9 + ns.length := by
  rw [hi.length, h.2.1]; simp; omega
local macro_rules | `(tactic| walk_at "call builtin:len") => `(tactic| (k_here; (rename RestInv _ _ _ => q9); (with_reducible show wpAny _ _ (call (Value.builtin "len") [Value.ref _]) _ _ _); k_dflt (refine' kst_len ?k1 ?k2 ?k3 ?k4 ?_; (case k1 => k_asm); (case k2 => k_memK); (case k3 => exact rest_len (by assumption) q9); (case k4 => omega); k_whole)))
theorem rest_size {vs : List Value} {ns pre rows : List Int} (hi : IntsAre vs rows) (h : RestInv ([0, 0, 0, 0, 0, 0, 0, 0, 1] ++ ns) pre rows) (hl : ns.length ≤ 24) : vs.toArray.size ≤ sizeLine := by
  rw [List.size_toArray, rest_len hi h, PySem.sizeLine_eq]; omega
theorem rest_from (n : Nat) : (0 : Int) ≤ ((9 + n : Nat) : Int) - 8 := by omega
local macro_rules | `(tactic| walk_at "subscriptTail Name Slice ref ref") => `(tactic| (k_here; (with_reducible show wpAny _ _ (subscriptTail _ (PySem.Expr.Slice _ _ none _) (Value.ref _) (Value.ref _)) _ _ _); k_dflt (refine' kmk_slice_ints ?F ?N ?l ?p ?q ?i ?m ?c ?_ ?s ?t ?z; (case F => k_asm); (case N => k_asm); (case l => kmk_list); (case p => kmk_part); (case q => kmk_part); (case i => with_reducible assumption); (case m => exact kmk_from (by with_reducible assumption) (rest_from _)); (case c => exact rfl); (case s => with_unfolding_all rfl); (case t => kmk_pure); (case z => exact rest_size (by assumption) (by assumption) (by assumption))); intro D' ws' h' F' N' l1 hI' hC' hL'; (try k_lt l1); (try k_sweep)))
def restF (ns : List Int) : List Int := ((rangeKs 0 (ns.length + 1)).foldl outS ([0, 0, 0, 0, 0, 0, 0, 0, 1] ++ ns)).drop (ns.length + 1)
theorem rest_val {b c : Nat} {ws : List Value} {ns rows : List Int} (h : RestInv ([0, 0, 0, 0, 0, 0, 0, 0, 1] ++ ns) (rangeKs 0 b) rows) (hi : IntsAre ws (List.drop c rows)) (hb : b = ns.length + 1) (hc : c = ns.length + 1) : IntsAre ws (restF ns) := by
  subst hb hc
  rw [h.1] at hi
  exact hi
set_option maxRecDepth 100000 in
set_option maxHeartbeats 8000000 in
theorem c_rest {w : World} {mean : ExcName → Option Value} {mg mb : Str → Option Value} {dp un : Nat} {gd : Option (List Code)} {cn : Str} {cs : Scope} {a : Addr} {ccd : Value} {cl : List (Str × Addr)} {outer : List Env} {A₀ : Around} {base h₀ : Heap} {L : Addr} {m : Str → Option Value} {s : Shared} {news : List (Addr × Obj)} {Q E : Value → Shared → Prop} {l : Addr} {vs : List Value} {ns : List Int} {n : Nat} : ∀
   (B : Below A₀ base outer h₀) (F : Fr h₀ L s.heap m) (X : (hd.heap_39 w.params).In h₀) (N : News h₀ L s.heap news) (T : Top hd.view_39 (looseW hd.view_39 []) mean mg mb h₀) (hk : cs.kind = .function) (hdp : dp + 3 < recursionLimit) (hun : un + 24 < cLine) (hm : (l, listOf vs.toArray n) ∈ news) (hi : IntsAre vs ns) (hl : ns.length ≤ 24) (hd : Dig5 ns)
   (hret : ∀ (a : Addr) (vs : List Value) (n : Nat) h' tk', IntsAre vs (restF ns) → Fr h₀ L h' m → News h₀ L h' ((a, listOf vs.toArray n) :: news) → LCg.Off1 a news → Q (.ref a) { s with heap := h', toks := tk' }),
   wpAny (model PySem.Challenge.rw_fp5007_01.row.prog w) (ktrTop dp un gd cn cs L a ccd cl outer) (call (.ref 85) [.ref l]) Q E s := by
  k_fill
  intro B F X N T hk hdp hun hm hi hl hd hret
  replace N := newsDup N hm
  refine wpAny_call ?_
  k_dflt cell_enter
  k_with "pyIter ref" => (k_of "place" => k_state_given ["rows!"] (fun rows0 pre rows => RestInv rows0 pre rows) "rows")
  k_with "pyIter ref" => (k_of "turn" => k_state_short (fun pre rows => InnInv kN ((restRows kInv).getD kN.toNat 0) (restRows kInv) pre rows) "rows")
  k_with "state" => exact restInv0 (by assumption)
  k_with "state" => exact innInv0 _ _ (by assumption)
  k_with "state" => exact innInv1 (by assumption)
  k_with "state" => exact restInv2 (by assumption) (by assumption)
  k_with "state" => exact restInv1 (by assumption) (by assumption) (by assumption)
  k_steps
  all_goals (refine' hret _ _ _ _ _ ?i ?f ?n ?l; (case n => refine' cb_drop ?cbN ?cbS; (case cbN => assumption); (case cbS => kcj_all)); (case f => k_asm); (case l => ((rename (_ ∧ _ ∧ _ ∧ AllLt _ _) => q); exact off1_of (ktn_ltOf q.2.2.2))); (case i => exact rest_val (by assumption) (by assumption) (by omega) (by omega)))
  k_with_none
end
section
open PySem PySem.W PyProof.Rows PySem.Calls PySem.Spec
def Last (S T R : Int) : Prop := (0 ≤ S ∧ S < 1099511627776) ∧ (0 ≤ T ∧ T < 32) ∧ R = polyF S T

section
variable {prog : Program} {w : World} {A : Around} {E : Value → Shared → Prop} {s : Shared} {env : Env} {h₀ : Heap} {body : List Stmt} {Q : Flow → Shared → Prop}
theorem enum_nums {l : Addr} {vs : List Value} {ns : List Int} {nn : Nat} {m₀ : Str → Option Value} {news : List (Addr × Obj)} {t1 t2 t3 : Tok} (stored : List Str)
    (hh : A.handled = none) (hm : (l, listOf vs.toArray nn) ∈ news) (hi : IntsAre vs ns) (F : Fr h₀ env.locals s.heap m₀) (N : News h₀ env.locals s.heap news)
    (hk : ∀ p ∈ [(Str.ofString "last_state", Value.int 0 t1), (Str.ofString "last_symbol", Value.int 0 t2), (Str.ofString "last_told", Value.int 0 t3)], m₀ p.1 = some p.2) (h0 : Last 0 0 0)
    (turn : ∀ (c : (Int × Tok × Int × Tok × Int × Tok)) (i : Nat) (n : Int) t ti (u : Str → Option Value) h tk own, ns[i]? = some n → OwnOff own (news.map (·.1)) → Last c.1 c.2.2.1 c.2.2.2.2.1 →
      Fr h₀ env.locals h (fun y => if y = Str.ofString "number" then some (.int n t) else if y = Str.ofString "place" then some (.int i ti) else kstB (fun z => if stored.contains z then u z else m₀ z) [(Str.ofString "last_state", Value.int c.1 c.2.1), (Str.ofString "last_symbol", Value.int c.2.2.1 c.2.2.2.1), (Str.ofString "last_told", Value.int c.2.2.2.2.1 c.2.2.2.2.2)] y) → News h₀ env.locals h (news ++ own) →
      wpAny (model prog w) A (execs body env) (InvPostN h₀ env.locals (KstS (fun _ => news) (fun (c : (Int × Tok × Int × Tok × Int × Tok)) => [(Str.ofString "last_state", Value.int c.1 c.2.1), (Str.ofString "last_symbol", Value.int c.2.2.1 c.2.2.2.1), (Str.ofString "last_told", Value.int c.2.2.2.2.1 c.2.2.2.2.2)]) (fun _ => True) (Str.ofString "number") stored m₀ (fun _ c => Last c.1 c.2.2.1 c.2.2.2.2.1) []) own (news.map (·.1)) { s with heap := h, toks := tk } Q) E { s with heap := h, toks := tk })
    (done : ∀ (c : (Int × Tok × Int × Tok × Int × Tok)) (u : Str → Option Value) h tk, Fr h₀ env.locals h (fun y => if y = Str.ofString "number" then u y else kstB (fun z => if stored.contains z then u z else m₀ z) [(Str.ofString "last_state", Value.int c.1 c.2.1), (Str.ofString "last_symbol", Value.int c.2.2.1 c.2.2.2.1), (Str.ofString "last_told", Value.int c.2.2.2.2.1 c.2.2.2.2.2)] y) → News h₀ env.locals h news → Q .next { s with heap := h, toks := tk }) :
    wpAny (model prog w) A (call (.type "enumerate") [.ref l]) (fun xv s₁ => wpAny (model prog w) A (pyIter xv) (fun it s₂ => PairAt3 prog w A h₀ env (Str.ofString "place") (Str.ofString "number") body Q E it s₂) E s₁) E s := by
  have hol : s.heap.get? l = some (listOf vs.toArray nn) := (N _ hm).1
  have hls : s.heap.IsList l vs.toArray := ⟨_, hol, rfl, nn, rfl⟩
  have hl2 : l < s.heap.objs.size := Heap.lt_size hol
  have hLs : env.locals < s.heap.objs.size := F.ns.lt
  have hlL : l ≠ env.locals := (N _ hm).2.1
  refine call_enumerate_list hls fun h' he hit hsz hkp => ?_
  have F' : Fr h₀ env.locals h' m₀ := ⟨F.ns.keeps hkp, fun b o e => hkp b o (F.keep b o e), F.above⟩
  have N' : News h₀ env.locals h' news := fun p hp => ⟨hkp _ _ (N p hp).1, (N p hp).2⟩
  refine wpAny_pyIter_enum he ?_
  refine ⟨s.heap.objs.size + 1, [s.heap.objs.size + 1, s.heap.objs.size, l], [s.heap.objs.size + 1, s.heap.objs.size], vs.toArray.size, _, _, _, (fun i v0 v1 => ∃ t, v0 = Value.int i t ∧ vs.toArray[i]? = some v1), m₀, news,
    (fun i m nx => KstS (fun _ => news) (fun (c : (Int × Tok × Int × Tok × Int × Tok)) => [(Str.ofString "last_state", Value.int c.1 c.2.1), (Str.ofString "last_symbol", Value.int c.2.2.1 c.2.2.2.1), (Str.ofString "last_told", Value.int c.2.2.2.2.1 c.2.2.2.2.2)]) (fun _ => True) (Str.ofString "number") stored m₀ (fun _ c => Last c.1 c.2.2.1 c.2.2.2.2.1) [] m nx), rfl,
    WalksT.enumerate hh (s.heap.objs.size + 1) s.heap.objs.size l (Nat.succ_ne_self _) (Nat.ne_of_lt (Nat.lt_succ_of_lt hl2)) (Nat.ne_of_lt hl2) vs.toArray, ?_, ?_, ?_, ?_, ?_, F', N', ?_, ?_, ?_⟩
  · rintro i vals ⟨t, x, hx, rfl⟩
    exact ⟨_, _, rfl, t, rfl, hx⟩
  · intro hb
    rcases List.mem_cons.mp hb with e | hb
    · exact Nat.ne_of_lt (Nat.lt_succ_of_lt hLs) e
    · rcases List.mem_cons.mp hb with e | hb
      · exact Nat.ne_of_lt hLs e
      · exact hlL (List.mem_singleton.mp hb).symm
  · intro b hb
    rcases List.mem_cons.mp hb with e | hb
    · rw [e]; exact Heap.get?_none_of_le (Nat.le_trans F.above (Nat.le_of_lt (Nat.lt_succ_of_lt hLs)))
    · rw [List.mem_singleton.mp hb]; exact Heap.get?_none_of_le (Nat.le_trans F.above (Nat.le_of_lt hLs))
  · intro p hp hb
    have h1 := Heap.lt_size (N p hp).1
    rcases List.mem_cons.mp hb with e | hb
    · rw [e] at h1; exact absurd h1 (Nat.not_lt_of_le (Nat.le_succ _))
    · rw [List.mem_singleton.mp hb] at h1; exact absurd h1 (Nat.lt_irrefl _)
  · exact ⟨⟨_, by simpa using he⟩, by simpa using hit, hls.at fun o e => hkp l o e⟩
  · exact ⟨(0, t1, 0, t2, 0, t3), rfl, trivial, hk, fun _ _ _ _ => rfl, h0⟩
  · rintro i v0 v1 m₁ news₁ s₁ own ⟨hh', tk', rfl⟩ hin ⟨t, rfl, hx⟩ ⟨c, e0, _, h1, h2, hp'⟩ hadr hown F₁ N₁
    have e0' : news = news₁ := e0.symm
    subst e0'
    obtain ⟨n, t', hv, hn⟩ := IntsAre.at hi i v1 (by simpa using hx)
    subst hv
    have hsep : OwnOff (own.filter fun p => decide (p.1 ≠ l)) (news.map (·.1)) := by
      intro p hp b hb e
      obtain ⟨q, hq, rfl⟩ := List.mem_map.mp hb
      have h3 := Heap.lt_size (N q hq).1
      have h4 : p.1 ≠ l := by simpa using (List.mem_filter.mp hp).2
      rcases List.mem_cons.mp (hown p (List.mem_filter.mp hp).1) with e1 | e1
      · rw [← e, e1] at h3; exact absurd h3 (Nat.not_lt_of_le (Nat.le_succ _))
      · rcases List.mem_cons.mp e1 with e1 | e1
        · rw [← e, e1] at h3; exact absurd h3 (Nat.lt_irrefl _)
        · exact h4 (List.mem_singleton.mp e1)
    have N₂ : News h₀ env.locals hh' (news ++ own.filter fun p => decide (p.1 ≠ l)) := fun p hp => N₁ p ((List.mem_append.mp hp).elim (fun h => List.mem_append.mpr (.inr h)) fun h => List.mem_append.mpr (.inl (List.mem_filter.mp h).1))
    have hlo : hh'.get? l = some (listOf vs.toArray nn) := (N₁ _ (List.mem_append.mpr (.inr hm))).1
    have em : (fun y => if y = Str.ofString "number" then some (Value.int n t') else if y = Str.ofString "place" then some (Value.int i t) else m₁ y)
        = fun y => if y = Str.ofString "number" then some (Value.int n t') else if y = Str.ofString "place" then some (Value.int i t) else kstB (fun z => if stored.contains z then m₁ z else m₀ z) [(Str.ofString "last_state", Value.int c.1 c.2.1), (Str.ofString "last_symbol", Value.int c.2.2.1 c.2.2.2.1), (Str.ofString "last_told", Value.int c.2.2.2.2.1 c.2.2.2.2.2)] y := by
      funext y
      by_cases e1 : y = Str.ofString "number"
      · rw [if_pos e1, if_pos e1]
      · rw [if_neg e1, if_neg e1, kst_off h1 h2 e1]
    rw [em] at F₁
    refine wpAny_mono (turn c i n t' t m₁ hh' tk' _ hn hsep hp' F₁ N₂) (fun f s₂ p => ?_) fun _ _ e => e
    have fin : InvEndN h₀ env.locals (KstS (fun _ => news) (fun (c : (Int × Tok × Int × Tok × Int × Tok)) => [(Str.ofString "last_state", Value.int c.1 c.2.1), (Str.ofString "last_symbol", Value.int c.2.2.1 c.2.2.2.1), (Str.ofString "last_told", Value.int c.2.2.2.2.1 c.2.2.2.2.2)]) (fun _ => True) (Str.ofString "number") stored m₀ (fun _ c => Last c.1 c.2.2.1 c.2.2.2.2.1) []) (own.filter fun p => decide (p.1 ≠ l)) (news.map (·.1)) { s with heap := hh', toks := tk' } s₂ →
        LoopStep2 h₀ env.locals own news (KstS (fun _ => news) (fun (c : (Int × Tok × Int × Tok × Int × Tok)) => [(Str.ofString "last_state", Value.int c.1 c.2.1), (Str.ofString "last_symbol", Value.int c.2.2.1 c.2.2.2.1), (Str.ofString "last_told", Value.int c.2.2.2.2.1 c.2.2.2.2.2)]) (fun _ => True) (Str.ofString "number") stored m₀ (fun _ c => Last c.1 c.2.2.1 c.2.2.2.2.1) []) { s with heap := hh', toks := tk' } .next s₂ := by
      rintro ⟨h'', tk, m', news', nx, e, F'', N'', hn', ho', ha, hS⟩
      obtain ⟨c', e1, hr⟩ := hS
      have e1' : news = nx := e1.symm
      subst e1'
      refine ⟨rfl, h'', tk, m', news, e, F'', fun p hp => ?_, rfl, ⟨c', rfl, hr⟩⟩
      rcases List.mem_append.mp hp with h | h
      · by_cases hI : p.1 = l
        · have h2 : hh'.get? p.1 = some p.2 := (N₁ p (List.mem_append.mpr (.inl h))).1
          rw [hI, hlo] at h2
          have h3 : p = (l, listOf vs.toArray nn) := Prod.ext hI (Option.some.inj h2).symm
          rw [h3]
          exact N'' _ (hn' _ hm)
        · exact N'' p (ho' p (List.mem_filter.mpr ⟨h, by simpa using hI⟩))
      · exact N'' p (hn' p h)
    cases f with
    | ret v => exact p
    | brk => exact p
    | next => exact fin p
    | cont => exact fin p
  · rintro h'' tk m' news' F'' N'' _ ⟨c, e0, _, h1, h2, _⟩
    have e0' : news = news' := e0.symm
    subst e0'
    exact done c m' h'' tk (kst_frOut h1 h2 F'') N''
end
end
section
open PySem PySem.W PyProof.Rows
theorem xdiv (a b k : Nat) : (a ^^^ b) / 2 ^ k = a / 2 ^ k ^^^ b / 2 ^ k := by
  rw [← Nat.shiftRight_eq_div_pow, ← Nat.shiftRight_eq_div_pow, ← Nat.shiftRight_eq_div_pow, Nat.shiftRight_xor_distrib]
theorem hx {a b c d : Nat} (hb : b < 32) (hd : d < 32) : (a * 32 + b) ^^^ (c * 32 + d) = (a ^^^ c) * 32 + (b ^^^ d) := by
  have h1 := xdiv (a * 32 + b) (c * 32 + d) 5
  have h2 : ((a * 32 + b) ^^^ (c * 32 + d)) % 2 ^ 5 = ((a * 32 + b) % 2 ^ 5) ^^^ ((c * 32 + d) % 2 ^ 5) := Nat.xor_mod_two_pow
  have e1 : (a * 32 + b) / 2 ^ 5 = a := by omega
  have e2 : (c * 32 + d) / 2 ^ 5 = c := by omega
  have e3 : (a * 32 + b) % 2 ^ 5 = b := by omega
  have e4 : (c * 32 + d) % 2 ^ 5 = d := by omega
  rw [e1, e2] at h1
  rw [e3, e4] at h2
  have h3 := Nat.div_add_mod ((a * 32 + b) ^^^ (c * 32 + d)) (2 ^ 5)
  rw [h1, h2] at h3
  omega
def selN (c m g : Nat) : Nat := if c &&& m = 0 then 0 else g
theorem pIf_nat (c m g k : Nat) : pIf (c : Int) (m : Int) (g : Int) (k : Int) = ((k ^^^ selN c m g : Nat) : Int) := by
  unfold pIf selN
  rw [bitAnd_nat]
  by_cases h : c &&& m = 0
  · rw [if_pos (by rw [h]; rfl), if_pos h, Nat.xor_zero]
  · rw [if_neg (by omega), if_neg h, bitXor_nat]
def gN (c : Nat) : Nat := selN c 1 1056006543753 ^^^ (selN c 2 730107360018 ^^^ (selN c 4 118834127661 ^^^ (selN c 8 236335490938 ^^^ selN c 16 430795026429)))
theorem poly_nat (x y : Nat) : polyF (x : Int) (y : Int) = ((((x % 34359738368) * 32) ^^^ y) ^^^ gN (x / 34359738368) : Nat) := by
  have e1 : (x : Int).fdiv (2 ^ Int.toNat 35) = ((x / 34359738368 : Nat) : Int) := by
    rw [show (2 : Int) ^ Int.toNat 35 = ((34359738368 : Nat) : Int) from by decide, Int.fdiv_eq_ediv_of_nonneg _ (by omega)]
    omega
  have e2 : Builtin.bitAnd (x : Int) 34359738367 * 2 ^ Int.toNat 5 = (((x % 34359738368) * 32 : Nat) : Int) := by
    have h := kbt_mask (x : Int) 35
    rw [show (2 : Int) ^ 35 - 1 = 34359738367 from by decide] at h
    rw [h, show (2 : Int) ^ 35 = 34359738368 from by decide, show (2 : Int) ^ Int.toNat 5 = 32 from by decide]
    omega
  unfold polyF
  rw [e1, e2, bitXor_nat]
  rw [show (1056006543753 : Int) = ((1056006543753 : Nat) : Int) from rfl, show (730107360018 : Int) = ((730107360018 : Nat) : Int) from rfl, show (118834127661 : Int) = ((118834127661 : Nat) : Int) from rfl, show (236335490938 : Int) = ((236335490938 : Nat) : Int) from rfl, show (430795026429 : Int) = ((430795026429 : Nat) : Int) from rfl]
  rw [show (16 : Int) = ((16 : Nat) : Int) from rfl, show (8 : Int) = ((8 : Nat) : Int) from rfl, show (4 : Int) = ((4 : Nat) : Int) from rfl, show (2 : Int) = ((2 : Nat) : Int) from rfl, show (1 : Int) = ((1 : Nat) : Int) from rfl]
  rw [pIf_nat, pIf_nat, pIf_nat, pIf_nat, pIf_nat]
  unfold gN
  simp only [Nat.xor_assoc]
theorem gN_lin : ∀ a < 32, ∀ b < 32, gN (a ^^^ b) = gN a ^^^ gN b := by decide +kernel
theorem poly_lin {x x' : Nat} (y y' : Nat) (hx1 : x < 1099511627776) (hx2 : x' < 1099511627776) :
    polyF (Builtin.bitXor (x : Int) (x' : Int)) (Builtin.bitXor (y : Int) (y' : Int)) = Builtin.bitXor (polyF x y) (polyF x' y') := by
  rw [bitXor_nat, bitXor_nat, poly_nat, poly_nat, poly_nat, bitXor_nat]
  have h1 := xdiv x x' 35
  have h2 : (x ^^^ x') % 2 ^ 35 = (x % 2 ^ 35) ^^^ (x' % 2 ^ 35) := Nat.xor_mod_two_pow
  rw [show (2 : Nat) ^ 35 = 34359738368 from by decide] at h1 h2
  have h3 : ((x % 34359738368) ^^^ (x' % 34359738368)) * 32 = (x % 34359738368) * 32 ^^^ (x' % 34359738368) * 32 := by
    have := hx (a := x % 34359738368) (b := 0) (c := x' % 34359738368) (d := 0) (by decide) (by decide)
    simpa using this.symm
  rw [h1, h2, h3, gN_lin _ (by omega) _ (by omega)]
  congr 1
  ac_rfl
end
section
open PySem PySem.W PyProof.Rows
def mulN (a b : Nat) : Nat := (mulF (a : Int) (b : Int)).toNat
theorem mul_nat (a b : Nat) : mulF (a : Int) (b : Int) = ((mulN a b : Nat) : Int) := by
  have := mul32 (a : Int) (b : Int)
  unfold mulN
  omega
theorem mulN_lt (a b : Nat) : mulN a b < 32 := by
  have := mul32 (a : Int) (b : Int)
  unfold mulN
  omega
def pack8 (a b c d e f g h : Nat) : Nat := ((((((a * 32 + b) * 32 + c) * 32 + d) * 32 + e) * 32 + f) * 32 + g) * 32 + h
theorem pack8_xor {a b c d e f g h a' b' c' d' e' f' g' h' : Nat} (hb : b < 32) (hc : c < 32) (hd : d < 32) (he : e < 32) (hf : f < 32) (hg : g < 32) (hh : h < 32)
    (hb' : b' < 32) (hc' : c' < 32) (hd' : d' < 32) (he' : e' < 32) (hf' : f' < 32) (hg' : g' < 32) (hh' : h' < 32) :
    pack8 a b c d e f g h ^^^ pack8 a' b' c' d' e' f' g' h' = pack8 (a ^^^ a') (b ^^^ b') (c ^^^ c') (d ^^^ d') (e ^^^ e') (f ^^^ f') (g ^^^ g') (h ^^^ h') := by
  unfold pack8
  rw [hx hh hh', hx hg hg', hx hf hf', hx he he', hx hd hd', hx hc hc', hx hb hb']
theorem pack_nat (a b c d e f g h : Nat) : packF [(a : Int), b, c, d, e, f, g, h] = ((pack8 a b c d e f g h : Nat) : Int) := by
  unfold packF pack8
  simp only [List.foldl_cons, List.foldl_nil]
  omega
theorem stepF_eq (r0 r1 r2 r3 r4 r5 r6 r7 x : Int) : stepF [r0, r1, r2, r3, r4, r5, r6, r7] x = [Builtin.bitXor r1 (mulF r0 30), Builtin.bitXor r2 (mulF r0 23), Builtin.bitXor r3 (mulF r0 15), Builtin.bitXor r4 (mulF r0 14), Builtin.bitXor r5 (mulF r0 10), Builtin.bitXor r6 (mulF r0 6), Builtin.bitXor r7 (mulF r0 12), Builtin.bitXor x (mulF r0 9)] := rfl
theorem backF_eq (r0 r1 r2 r3 r4 r5 r6 r7 x : Int) : backF [r0, r1, r2, r3, r4, r5, r6, r7] x = [divF (Builtin.bitXor r7 x) 9, Builtin.bitXor r0 (mulF (divF (Builtin.bitXor r7 x) 9) 30), Builtin.bitXor r1 (mulF (divF (Builtin.bitXor r7 x) 9) 23), Builtin.bitXor r2 (mulF (divF (Builtin.bitXor r7 x) 9) 15), Builtin.bitXor r3 (mulF (divF (Builtin.bitXor r7 x) 9) 14), Builtin.bitXor r4 (mulF (divF (Builtin.bitXor r7 x) 9) 10), Builtin.bitXor r5 (mulF (divF (Builtin.bitXor r7 x) 9) 6), Builtin.bitXor r6 (mulF (divF (Builtin.bitXor r7 x) 9) 12)] := rfl
theorem gN_mul : ∀ a < 32, gN a = pack8 (mulN a 30) (mulN a 23) (mulN a 15) (mulN a 14) (mulN a 10) (mulN a 6) (mulN a 12) (mulN a 9) := by decide +kernel
theorem step_nat (r0 r1 r2 r3 r4 r5 r6 r7 y : Nat) : stepF [(r0 : Int), r1, r2, r3, r4, r5, r6, r7] (y : Int) =
    [((r1 ^^^ mulN r0 30 : Nat) : Int), ((r2 ^^^ mulN r0 23 : Nat) : Int), ((r3 ^^^ mulN r0 15 : Nat) : Int), ((r4 ^^^ mulN r0 14 : Nat) : Int), ((r5 ^^^ mulN r0 10 : Nat) : Int), ((r6 ^^^ mulN r0 6 : Nat) : Int), ((r7 ^^^ mulN r0 12 : Nat) : Int), ((y ^^^ mulN r0 9 : Nat) : Int)] := by
  rw [stepF_eq]
  have h (b : Nat) : mulF (r0 : Int) (b : Int) = ((mulN r0 b : Nat) : Int) := mul_nat r0 b
  rw [show (30 : Int) = ((30 : Nat) : Int) from rfl, show (23 : Int) = ((23 : Nat) : Int) from rfl, show (15 : Int) = ((15 : Nat) : Int) from rfl, show (14 : Int) = ((14 : Nat) : Int) from rfl, show (10 : Int) = ((10 : Nat) : Int) from rfl, show (6 : Int) = ((6 : Nat) : Int) from rfl, show (12 : Int) = ((12 : Nat) : Int) from rfl, show (9 : Int) = ((9 : Nat) : Int) from rfl]
  simp only [h, bitXor_nat]
theorem poly_digits {r0 r1 r2 r3 r4 r5 r6 r7 y : Nat} (h0 : r0 < 32) (h1 : r1 < 32) (h2 : r2 < 32) (h3 : r3 < 32) (h4 : r4 < 32) (h5 : r5 < 32) (h6 : r6 < 32) (h7 : r7 < 32) (hy : y < 32) :
    polyF ((pack8 r0 r1 r2 r3 r4 r5 r6 r7 : Nat) : Int) (y : Int) = packF (stepF [(r0 : Int), r1, r2, r3, r4, r5, r6, r7] (y : Int)) := by
  rw [poly_nat, step_nat, pack_nat]
  congr 1
  rw [← pack8_xor h2 h3 h4 h5 h6 h7 hy (mulN_lt _ _) (mulN_lt _ _) (mulN_lt _ _) (mulN_lt _ _) (mulN_lt _ _) (mulN_lt _ _) (mulN_lt _ _), ← gN_mul r0 h0]
  have e1 : pack8 r0 r1 r2 r3 r4 r5 r6 r7 / 34359738368 = r0 := by unfold pack8; omega
  have e2 : pack8 r0 r1 r2 r3 r4 r5 r6 r7 % 34359738368 * 32 = pack8 r1 r2 r3 r4 r5 r6 r7 0 := by unfold pack8; omega
  have e3 : pack8 r1 r2 r3 r4 r5 r6 r7 0 ^^^ y = pack8 r1 r2 r3 r4 r5 r6 r7 y := by
    have := hx (a := ((((((r1 * 32 + r2) * 32 + r3) * 32 + r4) * 32 + r5) * 32 + r6) * 32 + r7)) (b := 0) (c := 0) (d := y) (by decide) hy
    unfold pack8
    simpa using this
  rw [e1, e2, e3]
end
section
open PySem PySem.W PyProof.Rows
theorem rowsF_len (x : Int) : (rowsF x).length = 8 := by simp [rowsF, rangeKs_length]
theorem rowsF_dig (x : Int) : Dig5 (rowsF x) := by
  intro v hv
  unfold rowsF at hv
  obtain ⟨k, _, rfl⟩ := List.mem_map.mp hv
  exact ⟨Int.fmod_nonneg_of_pos _ (by decide), Int.fmod_lt_of_pos _ (by decide)⟩
theorem stepF_len (ns : List Int) (x : Int) : (stepF ns x).length = 8 := by simp [stepF, rangeKs_length]
theorem backF_len (ns : List Int) (x : Int) : (backF ns x).length = 8 := by simp [backF, rangeKs_length]
theorem fmod32 (x : Int) : 0 ≤ x.fmod 32 ∧ x.fmod 32 < 32 := ⟨Int.fmod_nonneg_of_pos _ (by decide), Int.fmod_lt_of_pos _ (by decide)⟩
theorem topF32 (ns : List Int) (x : Int) : 0 ≤ topF ns x ∧ topF ns x < 32 := div32 _ _
theorem poly10 : polyF 1 0 = 32 := by decide
theorem poly35 : polyF 34359738368 0 = 1056006543753 := by decide
theorem last0 : Last 0 0 0 := ⟨by decide, by decide, by decide⟩
theorem dig_nat (x K : Nat) : ((x : Int).fdiv ((K : Nat) : Int)).fmod 32 = ((x / K % 32 : Nat) : Int) := by
  rw [Int.fdiv_eq_ediv_of_nonneg _ (by omega), Int.fmod_eq_emod_of_nonneg _ (by decide)]
  push_cast
  rfl
theorem rows_nat (x : Nat) : rowsF (x : Int) = [((x / 34359738368 % 32 : Nat) : Int), ((x / 1073741824 % 32 : Nat) : Int), ((x / 33554432 % 32 : Nat) : Int), ((x / 1048576 % 32 : Nat) : Int), ((x / 32768 % 32 : Nat) : Int), ((x / 1024 % 32 : Nat) : Int), ((x / 32 % 32 : Nat) : Int), ((x / 1 % 32 : Nat) : Int)] := by
  rw [← dig_nat, ← dig_nat, ← dig_nat, ← dig_nat, ← dig_nat, ← dig_nat, ← dig_nat, ← dig_nat]
  rfl
theorem pack8_dig {x : Nat} (h : x < 1099511627776) : pack8 (x / 34359738368 % 32) (x / 1073741824 % 32) (x / 33554432 % 32) (x / 1048576 % 32) (x / 32768 % 32) (x / 1024 % 32) (x / 32 % 32) (x / 1 % 32) = x := by
  unfold pack8; omega
theorem m32 (n : Nat) : n % 32 < 32 := Nat.mod_lt _ (by decide)
theorem law_one {x y : Nat} (h : x < 1099511627776) (hy : y < 32) : polyF (x : Int) (y : Int) = packF (stepF (rowsF (x : Int)) (y : Int)) := by
  have := poly_digits (m32 (x / 34359738368)) (m32 (x / 1073741824)) (m32 (x / 33554432)) (m32 (x / 1048576)) (m32 (x / 32768)) (m32 (x / 1024)) (m32 (x / 32)) (m32 (x / 1)) hy
  rw [pack8_dig h, ← rows_nat] at this
  exact this
def divN (z : Nat) : Nat := (divF (z : Int) 9).toNat
theorem div_nat (z : Nat) : divF (z : Int) 9 = ((divN z : Nat) : Int) := by
  have := div32 (z : Int) 9
  unfold divN
  omega
theorem divN_lt (z : Nat) : divN z < 32 := by
  have := div32 (z : Int) 9
  unfold divN
  omega
theorem mul_div : ∀ z < 32, mulN (divN z) 9 = z := by decide +kernel
theorem back_nat (r0 r1 r2 r3 r4 r5 r6 r7 y : Nat) : backF [(r0 : Int), r1, r2, r3, r4, r5, r6, r7] (y : Int) =
    [((divN (r7 ^^^ y) : Nat) : Int), ((r0 ^^^ mulN (divN (r7 ^^^ y)) 30 : Nat) : Int), ((r1 ^^^ mulN (divN (r7 ^^^ y)) 23 : Nat) : Int), ((r2 ^^^ mulN (divN (r7 ^^^ y)) 15 : Nat) : Int), ((r3 ^^^ mulN (divN (r7 ^^^ y)) 14 : Nat) : Int), ((r4 ^^^ mulN (divN (r7 ^^^ y)) 10 : Nat) : Int), ((r5 ^^^ mulN (divN (r7 ^^^ y)) 6 : Nat) : Int), ((r6 ^^^ mulN (divN (r7 ^^^ y)) 12 : Nat) : Int)] := by
  rw [backF_eq, bitXor_nat, div_nat]
  have h (b : Nat) : mulF ((divN (r7 ^^^ y) : Nat) : Int) (b : Int) = ((mulN (divN (r7 ^^^ y)) b : Nat) : Int) := mul_nat _ b
  rw [show (30 : Int) = ((30 : Nat) : Int) from rfl, show (23 : Int) = ((23 : Nat) : Int) from rfl, show (15 : Int) = ((15 : Nat) : Int) from rfl, show (14 : Int) = ((14 : Nat) : Int) from rfl, show (10 : Int) = ((10 : Nat) : Int) from rfl, show (6 : Int) = ((6 : Nat) : Int) from rfl, show (12 : Int) = ((12 : Nat) : Int) from rfl]
  simp only [h, bitXor_nat]
theorem x32 {a b : Nat} (ha : a < 32) (hb : b < 32) : a ^^^ b < 32 := Nat.xor_lt_two_pow (n := 5) ha hb
theorem xx (a b : Nat) : (a ^^^ b) ^^^ b = a := by rw [Nat.xor_assoc, Nat.xor_self, Nat.xor_zero]
theorem back_digits {r0 r1 r2 r3 r4 r5 r6 r7 y : Nat} (h0 : r0 < 32) (h1 : r1 < 32) (h2 : r2 < 32) (h3 : r3 < 32) (h4 : r4 < 32) (h5 : r5 < 32) (h6 : r6 < 32) (h7 : r7 < 32) (hy : y < 32) :
    polyF (packF (backF [(r0 : Int), r1, r2, r3, r4, r5, r6, r7] (y : Int))) (y : Int) = ((pack8 r0 r1 r2 r3 r4 r5 r6 r7 : Nat) : Int) := by
  rw [back_nat, pack_nat, poly_digits (divN_lt _) (x32 h0 (mulN_lt _ _)) (x32 h1 (mulN_lt _ _)) (x32 h2 (mulN_lt _ _)) (x32 h3 (mulN_lt _ _)) (x32 h4 (mulN_lt _ _)) (x32 h5 (mulN_lt _ _)) (x32 h6 (mulN_lt _ _)) hy, step_nat, mul_div _ (x32 h7 hy), pack_nat]
  simp only [xx]
  have e : y ^^^ (r7 ^^^ y) = r7 := by rw [Nat.xor_comm r7 y, ← Nat.xor_assoc, Nat.xor_self, Nat.zero_xor]
  rw [e]
theorem law_two {x y : Nat} (h : x < 1099511627776) (hy : y < 32) : polyF (packF (backF (rowsF (x : Int)) (y : Int))) (y : Int) = (x : Int) := by
  rw [rows_nat, back_digits (m32 _) (m32 _) (m32 _) (m32 _) (m32 _) (m32 _) (m32 _) (m32 _) hy, pack8_dig h]
theorem turn_facts {S T R : Int} (hL : Last S T R) (n : Int) (i : Nat) :
    (0 ≤ (n * 780296703707 + i).fmod 1099511627776 ∧ (n * 780296703707 + i).fmod 1099511627776 < 1099511627776) ∧ (0 ≤ (n.fdiv 7).fmod 32 ∧ (n.fdiv 7).fmod 32 < 32) ∧
    polyF ((n * 780296703707 + i).fmod 1099511627776) ((n.fdiv 7).fmod 32) = packF (stepF (rowsF ((n * 780296703707 + i).fmod 1099511627776)) ((n.fdiv 7).fmod 32)) ∧
    polyF (packF (backF (rowsF ((n * 780296703707 + i).fmod 1099511627776)) ((n.fdiv 7).fmod 32))) ((n.fdiv 7).fmod 32) = (n * 780296703707 + i).fmod 1099511627776 ∧
    polyF (Builtin.bitXor ((n * 780296703707 + i).fmod 1099511627776) S) (Builtin.bitXor ((n.fdiv 7).fmod 32) T) = Builtin.bitXor (polyF ((n * 780296703707 + i).fmod 1099511627776) ((n.fdiv 7).fmod 32)) R ∧
    Last ((n * 780296703707 + i).fmod 1099511627776) ((n.fdiv 7).fmod 32) (polyF ((n * 780296703707 + i).fmod 1099511627776) ((n.fdiv 7).fmod 32)) := by
  have hx : 0 ≤ (n * 780296703707 + i).fmod 1099511627776 ∧ (n * 780296703707 + i).fmod 1099511627776 < 1099511627776 := ⟨Int.fmod_nonneg_of_pos _ (by decide), Int.fmod_lt_of_pos _ (by decide)⟩
  have hy := fmod32 (n.fdiv 7)
  generalize (n * 780296703707 + i).fmod 1099511627776 = x at hx ⊢
  generalize (n.fdiv 7).fmod 32 = y at hy ⊢
  obtain ⟨hS, hT, hR⟩ := hL
  refine ⟨hx, hy, ?_, ?_, ?_, hx, hy, rfl⟩
  · obtain ⟨X, rfl⟩ := Int.eq_ofNat_of_zero_le hx.1
    obtain ⟨Y, rfl⟩ := Int.eq_ofNat_of_zero_le hy.1
    exact law_one (by omega) (by omega)
  · obtain ⟨X, rfl⟩ := Int.eq_ofNat_of_zero_le hx.1
    obtain ⟨Y, rfl⟩ := Int.eq_ofNat_of_zero_le hy.1
    exact law_two (by omega) (by omega)
  · obtain ⟨X, rfl⟩ := Int.eq_ofNat_of_zero_le hx.1
    obtain ⟨Y, rfl⟩ := Int.eq_ofNat_of_zero_le hy.1
    obtain ⟨S', rfl⟩ := Int.eq_ofNat_of_zero_le hS.1
    obtain ⟨T', rfl⟩ := Int.eq_ofNat_of_zero_le hT.1
    rw [hR]
    exact poly_lin Y T' (by omega) (by omega)
theorem innS_cons {p f t a : Int} {rows : List Int} (hp : 0 ≤ p) (ht : 0 ≤ t) : innS (p + 1) f (a :: rows) t = a :: innS p f rows t := by
  unfold innS
  have e : (p + 1 + 1 + t).toNat = (p + 1 + t).toNat + 1 := by omega
  rw [e, List.set_cons_succ, List.getD_cons_succ]
theorem innS_fold {p f a : Int} (hp : 0 ≤ p) : ∀ (ts rows : List Int), (∀ t ∈ ts, 0 ≤ t) → ts.foldl (innS (p + 1) f) (a :: rows) = a :: ts.foldl (innS p f) rows
  | [], _, _ => rfl
  | t :: ts, rows, h => by
    rw [List.foldl_cons, List.foldl_cons, innS_cons hp (h t (.head _))]
    exact innS_fold hp ts _ fun u hu => h u (.tail _ hu)
theorem rangeKs_nonneg (n : Nat) : ∀ t ∈ rangeKs 0 n, 0 ≤ t := fun t ht => (mem_rangeKs ht).1
theorem outS_cons {p a : Int} {rows : List Int} (hp : 0 ≤ p) : outS (a :: rows) (p + 1) = a :: outS rows p := by
  unfold outS
  have e : (p + 1).toNat = p.toNat + 1 := by omega
  rw [e, List.getD_cons_succ]
  by_cases h : rows.getD p.toNat 0 = 0
  · rw [if_pos h, if_pos h]
  · rw [if_neg h, if_neg h, innS_fold hp _ _ (rangeKs_nonneg 8)]
theorem outS_fold {a : Int} : ∀ (ts rows : List Int), (∀ t ∈ ts, 0 ≤ t) → (ts.map (· + 1)).foldl outS (a :: rows) = a :: ts.foldl outS rows
  | [], _, _ => rfl
  | t :: ts, rows, h => by
    rw [List.map_cons, List.foldl_cons, List.foldl_cons, outS_cons (h t (.head _))]
    exact outS_fold ts _ fun u hu => h u (.tail _ hu)
theorem rangeKs_succ (n : Nat) : rangeKs 0 (n + 1) = 0 :: (rangeKs 0 n).map (· + 1) := by
  unfold rangeKs
  rw [List.range_succ_eq_map]
  simp only [List.map_cons, List.map_map]
  refine congr (congrArg List.cons (by rfl)) ?_
  refine List.map_congr_left fun k _ => ?_
  simp only [Function.comp]
  omega
theorem mulF_zero (g : Int) : mulF 0 g = 0 := by unfold mulF; rw [if_pos rfl]
theorem outS_zero (w0 w1 w2 w3 w4 w5 w6 w7 z : Int) (zs : List Int) : outS (w0 :: w1 :: w2 :: w3 :: w4 :: w5 :: w6 :: w7 :: z :: zs) 0 = w0 :: (stepF [w0, w1, w2, w3, w4, w5, w6, w7] z ++ zs) := by
  rw [stepF_eq]
  unfold outS
  have e : (w0 :: w1 :: w2 :: w3 :: w4 :: w5 :: w6 :: w7 :: z :: zs).getD (0 : Int).toNat 0 = w0 := rfl
  rw [e]
  by_cases h : w0 = 0
  · rw [if_pos h, h]
    simp only [mulF_zero, bitXor_zero]
    rfl
  · rw [if_neg h]
    rfl
theorem rest_fold : ∀ (zs : List Int) (w0 w1 w2 w3 w4 w5 w6 w7 : Int), ((rangeKs 0 zs.length).foldl outS ([w0, w1, w2, w3, w4, w5, w6, w7] ++ zs)).drop zs.length = zs.foldl stepF [w0, w1, w2, w3, w4, w5, w6, w7]
  | [], w0, w1, w2, w3, w4, w5, w6, w7 => rfl
  | z :: zs, w0, w1, w2, w3, w4, w5, w6, w7 => by
    rw [List.length_cons, rangeKs_succ, List.foldl_cons, List.foldl_cons]
    have h : outS ([w0, w1, w2, w3, w4, w5, w6, w7] ++ z :: zs) 0 = w0 :: (stepF [w0, w1, w2, w3, w4, w5, w6, w7] z ++ zs) := outS_zero w0 w1 w2 w3 w4 w5 w6 w7 z zs
    rw [h, outS_fold _ _ (rangeKs_nonneg _), List.drop_succ_cons, stepF_eq]
    exact rest_fold zs _ _ _ _ _ _ _ _
theorem restF_eq (ns : List Int) : restF ns = ns.foldl stepF [0, 0, 0, 0, 0, 0, 0, 1] := by
  have h := rest_fold (1 :: ns) 0 0 0 0 0 0 0 0
  have e : stepF [0, 0, 0, 0, 0, 0, 0, 0] 1 = [0, 0, 0, 0, 0, 0, 0, 1] := by decide
  rw [List.foldl_cons, e] at h
  exact h
theorem step_fold_len : ∀ (ns ws : List Int), ws.length = 8 → (ns.foldl stepF ws).length = 8
  | [], _, h => h
  | n :: ns, ws, _ => step_fold_len ns _ (stepF_len ws n)
theorem restF_len (ns : List Int) : (restF ns).length = 8 := by
  rw [restF_eq]
  exact step_fold_len ns _ rfl
theorem fold_digits : ∀ (ns : List Int), Dig5 ns → ∀ (r0 r1 r2 r3 r4 r5 r6 r7 : Nat), r0 < 32 → r1 < 32 → r2 < 32 → r3 < 32 → r4 < 32 → r5 < 32 → r6 < 32 → r7 < 32 →
    ns.foldl polyF ((pack8 r0 r1 r2 r3 r4 r5 r6 r7 : Nat) : Int) = packF (ns.foldl stepF [(r0 : Int), r1, r2, r3, r4, r5, r6, r7])
  | [], _, r0, r1, r2, r3, r4, r5, r6, r7, _, _, _, _, _, _, _, _ => (pack_nat _ _ _ _ _ _ _ _).symm
  | n :: ns, hd, r0, r1, r2, r3, r4, r5, r6, r7, h0, h1, h2, h3, h4, h5, h6, h7 => by
    obtain ⟨y, rfl⟩ := Int.eq_ofNat_of_zero_le (hd n (.head _)).1
    have hy : y < 32 := by have := (hd _ (.head _)).2; omega
    rw [List.foldl_cons, List.foldl_cons, poly_digits h0 h1 h2 h3 h4 h5 h6 h7 hy, step_nat, pack_nat]
    exact fold_digits ns (fun x hx => hd x (.tail _ hx)) _ _ _ _ _ _ _ _ (x32 h1 (mulN_lt _ _)) (x32 h2 (mulN_lt _ _)) (x32 h3 (mulN_lt _ _)) (x32 h4 (mulN_lt _ _)) (x32 h5 (mulN_lt _ _)) (x32 h6 (mulN_lt _ _)) (x32 h7 (mulN_lt _ _)) (x32 hy (mulN_lt _ _))
theorem fold_rest {ns : List Int} (h : Dig5 ns) : ns.foldl polyF 1 = packF (restF ns) := by
  rw [restF_eq]
  exact fold_digits ns h 0 0 0 0 0 0 0 1 (by decide) (by decide) (by decide) (by decide) (by decide) (by decide) (by decide) (by decide)
end
section
open PySem PySem.W PyProof.Rows PySem.Calls PySem.Spec
theorem c_poly10 {w : World} {mean : ExcName → Option Value} {mg mb : Str → Option Value} {dp un : Nat} {gd : Option (List Code)} {cn : Str} {cs : Scope} {a : Addr} {ccd : Value} {cl : List (Str × Addr)} {outer : List Env} {A₀ : Around} {base h₀ : Heap} {L : Addr} {m : Str → Option Value} {s : Shared} {news : List (Addr × Obj)} {Q E : Value → Shared → Prop} {tx ty : Tok} : ∀
   (B : Below A₀ base outer h₀) (F : Fr h₀ L s.heap m) (X : (hd.heap_39 w.params).In h₀) (N : News h₀ L s.heap news) (T : Top hd.view_39 (looseW hd.view_39 []) mean mg mb h₀) (hk : cs.kind = .function) (hdp : dp + 2 < recursionLimit) (hun : un + 16 < cLine)
   (hret : ∀ (t : Tok) h' tk', Fr h₀ L h' m → News h₀ L h' news → Q (.int 32 t) { s with heap := h', toks := tk' }),
   wpAny (model PySem.Challenge.rw_fp5007_01.row.prog w) (ktrTop dp un gd cn cs L a ccd cl outer) (call (.ref 21) [.int 1 tx, .int 0 ty]) Q E s := by
  intro B F X N T hk hdp hun hret
  exact c_poly B F X N T hk hdp hun (by rw [poly10]; exact hret)
theorem c_poly35 {w : World} {mean : ExcName → Option Value} {mg mb : Str → Option Value} {dp un : Nat} {gd : Option (List Code)} {cn : Str} {cs : Scope} {a : Addr} {ccd : Value} {cl : List (Str × Addr)} {outer : List Env} {A₀ : Around} {base h₀ : Heap} {L : Addr} {m : Str → Option Value} {s : Shared} {news : List (Addr × Obj)} {Q E : Value → Shared → Prop} {tx ty : Tok} : ∀
   (B : Below A₀ base outer h₀) (F : Fr h₀ L s.heap m) (X : (hd.heap_39 w.params).In h₀) (N : News h₀ L s.heap news) (T : Top hd.view_39 (looseW hd.view_39 []) mean mg mb h₀) (hk : cs.kind = .function) (hdp : dp + 2 < recursionLimit) (hun : un + 16 < cLine)
   (hret : ∀ (t : Tok) h' tk', Fr h₀ L h' m → News h₀ L h' news → Q (.int 1056006543753 t) { s with heap := h', toks := tk' }),
   wpAny (model PySem.Challenge.rw_fp5007_01.row.prog w) (ktrTop dp un gd cn cs L a ccd cl outer) (call (.ref 21) [.int 34359738368 tx, .int 0 ty]) Q E s := by
  intro B F X N T hk hdp hun hret
  exact c_poly B F X N T hk hdp hun (by rw [poly35]; exact hret)
def NumsOk (ns : List Int) : Prop := 1 ≤ ns.length ∧ ns.length ≤ 12
theorem nums_a : (0 : Int) ≤ 0 := by decide
theorem nums_b {ns : List Int} (h : NumsOk ns) : (0 : Int) < (ns.length : Int) := by have := h.1; omega
theorem nums_c : (0 : Int) < 2 ^ 63 := by decide
theorem fm_a {ns : List Int} {k : Int} (h : NumsOk ns) : 0 ≤ k.fmod (ns.length : Int) := Int.fmod_nonneg_of_pos _ (nums_b h)
theorem fm_b {ns : List Int} {k : Int} (h : NumsOk ns) : k.fmod (ns.length : Int) < (ns.length : Int) := Int.fmod_lt_of_pos _ (nums_b h)
theorem fm_c {ns : List Int} {k : Int} (h : NumsOk ns) : k.fmod (ns.length : Int) < 2 ^ 63 := by
  have h1 := fm_b (k := k) h
  have h2 := h.2
  omega
theorem nums_ne {ns : List Int} (h : NumsOk ns) : (ns.length : Int) ≠ 0 := by have := h.1; omega
theorem nums_fit {ns : List Int} (h : NumsOk ns) : (ns.length : Int) < 2 ^ 63 := by have := h.2; omega
local macro_rules | `(tactic| walk_at "subscriptTail Name Constant ref int") => `(tactic| (k_here; (with_reducible show wpAny _ _ (subscriptTail _ _ (Value.ref _) (Value.int _ _)) _ _ _); k_dflt (refine' ksa_sub ?k1 ?k2 ?k3 ?k4 ?k5 ?k6 ?_ ?k7; (case k1 => k_asm); (case k2 => k_mem); (case k3 => with_reducible assumption); (case k4 => with_reducible first | exact nums_a | exact fm_a (by assumption) | fail "idx0"); (case k5 => with_reducible first | exact nums_b (by assumption) | exact fm_b (by assumption) | fail "idx1"); (case k6 => with_reducible first | exact nums_c | exact fm_c (by assumption) | fail "idx2"); (case k7 => with_unfolding_all rfl); k_whole); intro _))
local macro_rules | `(tactic| walk_at "subscriptTail Name BinOp ref int") => `(tactic| (k_here; (with_reducible show wpAny _ _ (subscriptTail _ _ (Value.ref _) (Value.int _ _)) _ _ _); k_dflt (refine' ksa_sub ?k1 ?k2 ?k3 ?k4 ?k5 ?k6 ?_ ?k7; (case k1 => k_asm); (case k2 => k_mem); (case k3 => with_reducible assumption); (case k4 => with_reducible first | exact nums_a | exact fm_a (by assumption) | fail "idx0"); (case k5 => with_reducible first | exact nums_b (by assumption) | exact fm_b (by assumption) | fail "idx1"); (case k6 => with_reducible first | exact nums_c | exact fm_c (by assumption) | fail "idx2"); (case k7 => with_unfolding_all rfl); k_whole); intro _))
local macro_rules | `(tactic| walk_at "call builtin:len") => `(tactic| (k_here; (rename NumsOk _ => q9); (with_reducible show wpAny _ _ (call (Value.builtin "len") [Value.ref _]) _ _ _); k_dflt (refine' kst_len ?k1 ?k2 ?k3 ?k4 ?_; (case k1 => k_asm); (case k2 => k_mem); (case k3 => exact IntsAre.length (by assumption)); (case k4 => exact nums_fit q9); k_whole)))
local macro_rules | `(tactic| walk_at "binaryOp Mod int int") => `(tactic| (k_here; (rename NumsOk _ => q9); (with_reducible refine mod_int' ?kbe ?_); (case kbe => with_reducible exact nums_ne q9)))
theorem ne_off {a b : Int} {X Y : Prop} (h : a = b) (hY : Y) : if (a != b) = true then X else Y := by
  subst h; simpa using hY
local macro_rules | `(tactic| walk_at "KCj") => `(tactic| ((refine kcj_end ?kce (by with_unfolding_all rfl) rfl (by assumption) (by assumption) (by kcj_all)); (case kce => exact rfl)))
local macro_rules | `(tactic| walk_at "ite") => `(tactic| ((with_reducible refine ne_off ?kbe ?_); (case kbe => with_reducible assumption)))
theorem sym_len (x : Int) (f : Int → Int) : ((rangeKs 0 (x.fmod 25 - 0).toNat).map f).length ≤ 24 := by
  rw [List.length_map, rangeKs_length]
  have := Int.fmod_lt_of_pos x (show (0 : Int) < 25 by decide)
  omega
theorem sym_dig (n : Nat) (g : Int → Int) : Dig5 ((rangeKs 0 n).map fun k => (g k).fmod 32) := by
  intro v hv
  obtain ⟨k, _, rfl⟩ := List.mem_map.mp hv
  exact fmod32 _
theorem cmp_same {prog : Program} {w : World} {A : Around} {E : Value → Shared → Prop} {s : Shared} {a b : Int} {t u : Tok} {Q : Value → Shared → Prop} (h : a = b) (hq : Q (.bool true) s) : wpAny (model prog w) A (compareOp .Eq (.int a t) (.int b u)) Q E s := by
  subst h
  exact eq_int (by simpa using hq)
local macro_rules | `(tactic| walk_at "compareOp Eq int int") => `(tactic| (k_here; (with_reducible refine cmp_same ?kbe ?_); (case kbe => exact fold_rest (sym_dig _ _))))
def IfMark : Prop := True
def NumsPost (h₀ : Heap) (L : Addr) (m : Str → Option Value) (news : List (Addr × Obj)) (s : Shared) (v : Value) (s' : Shared) : Prop :=
  ∃ D vs ns n h' tk', v = .ref D ∧ s' = { s with heap := h', toks := tk' } ∧ Fr h₀ L h' m ∧ News h₀ L h' ((D, listOf (List.toArray vs) n) :: news) ∧ (∀ p ∈ news, p.1 < D) ∧ IntsAre vs ns ∧ NumsOk ns
theorem nums_join {M : Model} {A : Around} {t : Sem Value} {Q : Value → Shared → Prop} {E : Value → Shared → Prop} {s : Shared} {h₀ : Heap} {L : Addr} {m : Str → Option Value} {news : List (Addr × Obj)}
    (F : Fr h₀ L s.heap m) (N : News h₀ L s.heap news) (h1 : IfMark → wpAny M A t (NumsPost h₀ L m news s) E s)
    (h2 : ∀ D vs ns n h' tk', Fr h₀ L h' m → News h₀ L h' ((D, listOf (List.toArray vs) n) :: news) → (∀ p ∈ news, p.1 < D) → IntsAre vs ns → NumsOk ns → Q (.ref D) { s with heap := h', toks := tk' }) : wpAny M A t Q E s :=
  wpAny_mono (h1 trivial) (fun v s' ⟨D, vs, ns, n, h', tk', e1, e2, F', N', l', hi, ho⟩ => by subst e1 e2; exact h2 D vs ns n h' tk' F' N' l' hi ho) fun _ _ e => e
local macro_rules | `(tactic| walk_at "eval IfExp") => `(tactic| (k_here; (fail_if_success (rename IfMark => x9)); (with_reducible rename Fr _ _ _ _ => fJ); (with_reducible rename News _ _ _ _ => nJ); (refine' nums_join fJ nJ (fun mk9 => ?_) (fun D9 vs9 ns9 n9 h9 tk9 F9 N9 l9 I9 O9 => ?_)); (all_goals (try k_lt l9)); (all_goals (try k_fold))))
local macro_rules | `(tactic| walk_at "call ref") => `(tactic| (k_here; (with_reducible show wpAny _ _ (call (Value.ref 61) _) _ _ _); k_dflt (refine' c_rows ?k1 ?k2 ?k3 ?k4 ?k5 ?kK ?kd ?ku  ?_; (case k1 => first | k_asm | ktn_no "the frames below"); (case k2 => first | k_asm | ktn_no "the frame"); (case k3 => first | k_asm | ktn_no "the written part"); (case k4 => first | k_asm | ktn_no "the ledger"); (case k5 => first | k_asm | ktn_no "the top"); (case kK => first | exact rfl | assumption | ktn_no "caller"); (case kd => first | ktr_room | ktn_no "room"); (case ku => first | ktr_units | ktn_no "units")); intro a9 vs9 n9 h9 tk9 I9 F9 N9 l9; (try simp only [LCg.Off1, and_true] at l9); (try dsimp only); (try k_fold)))
local macro_rules | `(tactic| walk_at "call ref") => `(tactic| (k_here; (with_reducible show wpAny _ _ (call (Value.ref 68) _) _ _ _); k_dflt (refine' c_pack ?k1 ?k2 ?k3 ?k4 ?k5 ?kK ?kd ?ku ?hm ?hi ?hl ?_; (case k1 => first | k_asm | ktn_no "the frames below"); (case k2 => first | k_asm | ktn_no "the frame"); (case k3 => first | k_asm | ktn_no "the written part"); (case k4 => first | k_asm | ktn_no "the ledger"); (case k5 => first | k_asm | ktn_no "the top"); (case kK => first | exact rfl | assumption | ktn_no "caller"); (case kd => first | ktr_room | ktn_no "room"); (case ku => first | ktr_units | ktn_no "units"); (case hm => k_mem) ; (case hi => with_reducible assumption) ; (case hl => with_reducible first | exact rowsF_len _ | exact stepF_len _ _ | exact backF_len _ _ | exact restF_len _)); intro t9 h9 tk9 F9 N9; (try dsimp only); (try k_fold)))
local macro_rules | `(tactic| walk_at "call ref") => `(tactic| (k_here; (with_reducible show wpAny _ _ (call (Value.ref 73) _) _ _ _); k_dflt (refine' c_step ?k1 ?k2 ?k3 ?k4 ?k5 ?kK ?kd ?ku ?hm ?hi ?hl ?hd ?hx ?_; (case k1 => first | k_asm | ktn_no "the frames below"); (case k2 => first | k_asm | ktn_no "the frame"); (case k3 => first | k_asm | ktn_no "the written part"); (case k4 => first | k_asm | ktn_no "the ledger"); (case k5 => first | k_asm | ktn_no "the top"); (case kK => first | exact rfl | assumption | ktn_no "caller"); (case kd => first | ktr_room | ktn_no "room"); (case ku => first | ktr_units | ktn_no "units"); (case hm => k_mem) ; (case hi => with_reducible assumption) ; (case hl => with_reducible exact rowsF_len _) ; (case hd => with_reducible exact rowsF_dig _) ; (case hx => with_reducible exact fmod32 _)); intro a9 vs9 n9 h9 tk9 I9 F9 N9 l9; (try simp only [LCg.Off1, and_true] at l9); (try dsimp only); (try k_fold)))
local macro_rules | `(tactic| walk_at "call ref") => `(tactic| (k_here; (with_reducible show wpAny _ _ (call (Value.ref 78) _) _ _ _); k_dflt (refine' c_back ?k1 ?k2 ?k3 ?k4 ?k5 ?kK ?kd ?ku ?hm ?hi ?hl ?hd ?hx ?hq ?htop ?_; (case k1 => first | k_asm | ktn_no "the frames below"); (case k2 => first | k_asm | ktn_no "the frame"); (case k3 => first | k_asm | ktn_no "the written part"); (case k4 => first | k_asm | ktn_no "the ledger"); (case k5 => first | k_asm | ktn_no "the top"); (case kK => first | exact rfl | assumption | ktn_no "caller"); (case kd => first | ktr_room | ktn_no "room"); (case ku => first | ktr_units | ktn_no "units"); (case hm => k_mem) ; (case hi => with_reducible assumption) ; (case hl => with_reducible exact rowsF_len _) ; (case hd => with_reducible exact rowsF_dig _) ; (case hx => with_reducible exact fmod32 _) ; (case hq => with_reducible exact xor32 (dig5_getD (rowsF_dig _) _) (fmod32 _)) ; (case htop => with_reducible exact topF32 _ _)); intro a9 vs9 n9 h9 tk9 I9 F9 N9 l9; (try simp only [LCg.Off1, and_true] at l9); (try dsimp only); (try k_fold)))
local macro_rules | `(tactic| walk_at "call ref") => `(tactic| (k_here; (with_reducible show wpAny _ _ (call (Value.ref 85) _) _ _ _); k_dflt (refine' c_rest ?k1 ?k2 ?k3 ?k4 ?k5 ?kK ?kd ?ku ?hm ?hi ?hl ?hd ?_; (case k1 => first | k_asm | ktn_no "the frames below"); (case k2 => first | k_asm | ktn_no "the frame"); (case k3 => first | k_asm | ktn_no "the written part"); (case k4 => first | k_asm | ktn_no "the ledger"); (case k5 => first | k_asm | ktn_no "the top"); (case kK => first | exact rfl | assumption | ktn_no "caller"); (case kd => first | ktr_room | ktn_no "room"); (case ku => first | ktr_units | ktn_no "units"); (case hm => k_mem) ; (case hi => with_reducible assumption) ; (case hl => exact sym_len _ _) ; (case hd => exact sym_dig _ _)); intro a9 vs9 n9 h9 tk9 I9 F9 N9 l9; (try simp only [LCg.Off1, and_true] at l9); (try dsimp only); (try k_fold)))
local macro_rules | `(tactic| walk_at "call type:enumerate") => `(tactic| (k_here; (rename Fr _ _ _ _ => lF'); (rename News _ _ _ _ => lN'); (rename IntsAre _ _ => lI'); (try simp only [List.cons_append, List.nil_append] at lN'); (with_unfolding_all refine' enum_nums [Str.ofString "state", Str.ofString "symbol", Str.ofString "due", Str.ofString "told", Str.ofString "before", Str.ofString "place"] ?hh ?hm lI' lF' lN' ?hk last0 (fun c i n t ti u h tk own hn hoff hL F9 N9 => ?turn) (fun c u h tk F9 N9 => ?done)); (case hh => exact rfl); (case hm => k_mem); (case hk => kst_all); (case' turn => ((clear lF' lN'); obtain ⟨S, tS, T, tT, R, tR⟩ := c; dsimp only at hL F9; (have hT := turn_facts hL n i); obtain ⟨fx, fy, f1, f2, f3, f4⟩ := hT; (have kMk : KstMark := kstMark); (try k_fold))); (case' done => ((clear lF' lN'); obtain ⟨S, tS, T, tT, R, tR⟩ := c; dsimp only at F9; (try k_fold)))))
local macro_rules | `(tactic| walk_at "exec Assign cons ListComp") => `(tactic| (k_here; (try dsimp only); k_dflt (refine LCg.Assign_ListComp_U (F₀ := by k_asm) (by rfl) (by with_unfolding_all rfl) (by with_unfolding_all rfl) (by decide) (by rfl) (by decide) (by rfl) (by rfl) (by rfl) ?_)))
local macro_rules | `(tactic| walk_at "InvEndN") => `(tactic| ((rename News _ _ _ _ => nE'); (refine' kst_end ⟨_, _, _, _, _, _⟩ ?qF nE' ?qa ?qb ?qr ?qc ?qd ?qe ?qf); (case qF => assumption); (case qd => kst_all); (case qr => rfl); (case qa => first | kst_in | kst_inAny); (case qb => first | (intro p hp; kst_mem) | kst_anyIn); (case qc => kst_facts); (case qe => (intro z h1 h2 h3; (simp only [List.forall_mem_cons, List.not_mem_nil, false_implies, implies_true, and_true, ne_eq] at h2); (simp only [List.contains_cons, List.contains_nil, Bool.or_false, Bool.or_eq_false_iff, beq_eq_false_iff_ne, ne_eq] at h3); (simp only [kstB, List.contains_cons, List.contains_nil, Bool.or_false, Bool.or_eq_true, beq_iff_eq, h1, h2, h3, if_false, or_self]))); (case qf => (dsimp only; assumption))))
local macro_rules | `(tactic| walk_at "call ref") => `(tactic| (k_here; (with_reducible show wpAny _ _ (call (Value.ref 21) _) _ _ _); k_dflt (refine' c_poly ?k1 ?k2 ?k3 ?k4 ?k5 ?kK ?kd ?ku  ?_; (case k1 => first | k_asm | ktn_no "the frames below"); (case k2 => first | k_asm | ktn_no "the frame"); (case k3 => first | k_asm | ktn_no "the written part"); (case k4 => first | k_asm | ktn_no "the ledger"); (case k5 => first | k_asm | ktn_no "the top"); (case kK => first | exact rfl | assumption | ktn_no "caller"); (case kd => first | ktr_room | ktn_no "room"); (case ku => first | ktr_units | ktn_no "units")); intro t9 h9 tk9 F9 N9; (try dsimp only); (try k_fold)))
local macro_rules | `(tactic| walk_at "call ref") => `(tactic| (k_here; (with_reducible show wpAny _ _ (call (Value.ref 21) [Value.int 1 _, Value.int 0 _]) _ _ _); k_dflt (refine' c_poly10 ?k1 ?k2 ?k3 ?k4 ?k5 ?kK ?kd ?ku  ?_; (case k1 => first | k_asm | ktn_no "the frames below"); (case k2 => first | k_asm | ktn_no "the frame"); (case k3 => first | k_asm | ktn_no "the written part"); (case k4 => first | k_asm | ktn_no "the ledger"); (case k5 => first | k_asm | ktn_no "the top"); (case kK => first | exact rfl | assumption | ktn_no "caller"); (case kd => first | ktr_room | ktn_no "room"); (case ku => first | ktr_units | ktn_no "units")); intro t9 h9 tk9 F9 N9; (try dsimp only); (try k_fold)))
local macro_rules | `(tactic| walk_at "call ref") => `(tactic| (k_here; (with_reducible show wpAny _ _ (call (Value.ref 21) [Value.int 34359738368 _, Value.int 0 _]) _ _ _); k_dflt (refine' c_poly35 ?k1 ?k2 ?k3 ?k4 ?k5 ?kK ?kd ?ku  ?_; (case k1 => first | k_asm | ktn_no "the frames below"); (case k2 => first | k_asm | ktn_no "the frame"); (case k3 => first | k_asm | ktn_no "the written part"); (case k4 => first | k_asm | ktn_no "the ledger"); (case k5 => first | k_asm | ktn_no "the top"); (case kK => first | exact rfl | assumption | ktn_no "caller"); (case kd => first | ktr_room | ktn_no "room"); (case ku => first | ktr_units | ktn_no "units")); intro t9 h9 tk9 F9 N9; (try dsimp only); (try k_fold)))
set_option maxRecDepth 100000 in
set_option maxHeartbeats 8000000 in
theorem t : PySem.Challenge.rw_fp5007_01.Holds := hd (by
  k_go0
  (all_goals try k_fold)
  k_with "state" => assumption
  k_steps
  all_goals (try walk_at "InvEndN")
  (all_goals (try k_data))
  · refine' ⟨_, _, _, _, _, _, rfl, rfl, ?zF, ?zN, ?zl, ?zi, ?zo⟩
    case zN => refine' cb_drop ?cbN ?cbS; (case cbN => assumption); (case cbS => kcj_all)
    case zF => k_asm
    case zl => (intro p hp; (have hq := List.mem_singleton.mp hp); subst hq; (refine ltN ?_); (dsimp only); omega)
    case zi => assumption
    case zo => (refine ⟨?_, ?_⟩ <;> omega)
  · refine' ⟨_, _, [1, 2, 3], _, _, _, rfl, rfl, ?yF, ?yN, ?yl, ?yi, ?yo⟩
    case yN => refine' cb_drop ?cbN ?cbS; (case cbN => assumption); (case cbS => kcj_all)
    case yF => k_asm
    case yl => (intro p hp; (have hq := List.mem_singleton.mp hp); subst hq; (refine ltN ?_); (dsimp only); omega)
    case yi => exact .cons _ _ (.cons _ _ (.cons _ _ .nil))
    case yo => exact ⟨by decide, by decide⟩)
end
end Mine
theorem PySem.Challenge.cw_fp5007_01_holds : PySem.Challenge.rw_fp5007_01.Holds :=
  Mine.t
