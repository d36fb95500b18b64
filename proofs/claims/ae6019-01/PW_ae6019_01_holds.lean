import PyProof.Rows.All
import Wide.All
import OpenK.AllK
import Wide.FinOn
import PySem.Challenge.RW_ae6019_01
set_option Elab.async false
set_option maxRecDepth 100000
section -- Hd
open PySem PySem.W PyProof.Rows
namespace Mine
set_option maxRecDepth 100000 in
set_option maxHeartbeats 8000000 in
open_top hd for PySem.Challenge.rw_ae6019_01
end Mine
end
section -- Base
open PySem PySem.W PyProof.Rows PySem.Calls PySem.Spec
namespace Mine
/-- a def's contract: called in any frame, over any ledger -/
def CSpec (w : World) (f : Addr) (vs : List Value) (news : List (Addr × Obj)) (dN uN : Nat) (R : Value → List (Addr × Obj) → Prop) : Prop :=
  ∀ (p : Program) (loose : List Str) (mean : ExcName → Option Value) (mg mb : Str → Option Value) (dp un : Nat) (gd : Option (List Code)) (cn : Str) (cs : Scope) (a : Addr) (ccd : Value) (cl : List (Str × Addr)) (outer : List Env) (A₀ : Around) (base h₀ : Heap) (L : Addr) (m : Str → Option Value) (s : Shared) (Q E : Value → Shared → Prop),
    Below A₀ base outer h₀ → Fr h₀ L s.heap m → (hd.heap_39 w.params).In h₀ → News h₀ L s.heap news → Top p loose mean mg mb h₀ → cs.kind = .function →
    dp + dN < recursionLimit → un + uN < cLine →
    (∀ v h' tk' news', R v news' → Fr h₀ L h' m → News h₀ L h' news' → Q v { s with heap := h', toks := tk' }) →
    wpAny (model PySem.Challenge.rw_ae6019_01.row.prog w) (ktrTop dp un gd cn cs L a ccd cl outer) (call (.ref f) vs) Q E s
/-- what comes back: one int, the ledger as it was -/
abbrev RInt (news : List (Addr × Obj)) (n : Int) : Value → List (Addr × Obj) → Prop := fun v news' => (∃ t, v = .int n t) ∧ news' = news
theorem cs_use {w : World} {f : Addr} {vs : List Value} {news : List (Addr × Obj)} {dN uN : Nat} {R : Value → List (Addr × Obj) → Prop} (C : CSpec w f vs news dN uN R)
    {p : Program} {loose : List Str} {mean : ExcName → Option Value} {mg mb : Str → Option Value} {dp un : Nat} {gd : Option (List Code)} {cn : Str} {cs : Scope} {a : Addr} {ccd : Value} {cl : List (Str × Addr)} {outer : List Env} {A₀ : Around} {base h₀ : Heap} {L : Addr} {m : Str → Option Value} {s : Shared} {Q E : Value → Shared → Prop}
    (B : Below A₀ base outer h₀) (F : Fr h₀ L s.heap m) (X : (hd.heap_39 w.params).In h₀) (N : News h₀ L s.heap news) (T : Top p loose mean mg mb h₀) (hk : cs.kind = .function)
    (hd : dp + dN < recursionLimit) (hu : un + uN < cLine)
    (ret : ∀ v h' tk' news', R v news' → Fr h₀ L h' m → News h₀ L h' news' → Q v { s with heap := h', toks := tk' }) :
    wpAny (model PySem.Challenge.rw_ae6019_01.row.prog w) (ktrTop dp un gd cn cs L a ccd cl outer) (call (.ref f) vs) Q E s :=
  C _ _ _ _ _ _ _ _ _ _ _ _ _ _ _ _ _ _ _ _ _ _ B F X N T hk hd hu ret
theorem ret_int {h₀ h' : Heap} {L : Addr} {m : Str → Option Value} {news : List (Addr × Obj)} {s : Shared} {Q : Value → Shared → Prop} {x y : Int} {t : Tok} {tk' : Nat}
    (hret : ∀ v h' tk' news', RInt news x v news' → Fr h₀ L h' m → News h₀ L h' news' → Q v { s with heap := h', toks := tk' }) (F : Fr h₀ L h' m) (N : News h₀ L h' news) (e : y = x) : Q (.int y t) { s with heap := h', toks := tk' } := by
  subst e
  exact hret _ _ _ _ ⟨⟨t, rfl⟩, rfl⟩ F N
def vsz (n : Int) : Int := if n ≤ 127 then 1 else if n ≤ 16383 then 2 else if n ≤ 2097151 then 3 else if n ≤ 268435455 then 4 else if n ≤ 34359738367 then 5 else if n ≤ 4398046511103 then 6 else if n ≤ 562949953421311 then 7 else if n ≤ 72057594037927935 then 8 else if n ≤ 9223372036854775807 then 9 else 10
def svsz (n : Int) : Int := if n < 0 then 10 else vsz n
end Mine
end
section -- group A
open PySem PySem.W PyProof.Rows PySem.Calls PySem.Spec
namespace Mine
local macro_rules | `(tactic| walk_at "exec If") => `(tactic| (k_here; with_reducible refine wpAny_If ?_))
local macro_rules | `(tactic| walk_at "isTrue Compare") => `(tactic| (k_here; with_reducible refine wpAny_isTrue_Compare1 ?_))
local macro_rules | `(tactic| walk_at "ite") => `(tactic| first | with_reducible refine ite_tt ?_ | with_reducible refine ite_ff ?_)
local macro_rules | `(tactic| walk_at "eval BinOp") => `(tactic| (k_here; (fail_if_success (with_reducible show wpAny _ _ _ (fun y s => SeqLeaf (Carried y _ ∧ Keeps _ s)) _ _)); refine wpAny_BinOp ?_))
local macro_rules | `(tactic| walk_at "eval Name") => `(tactic| (k_here; (name_kind "globalImplicit"); k_dflt (refine' nameX_K ?F ?X ?T ?e ?_ ?a ?b; (case F => k_asm); (case X => k_asm); (case T => k_asm); (case a => rfl); (case b => rfl); (case e => k_is); k_whole)))
local macro_rules | `(tactic| walk_at "eval Name") => `(tactic| (k_here; (name_kind "local"); k_dflt (refine' nameX_L ?F ?v ?_ ?a ?b; (case F => k_asm); (case a => rfl); (case b => rfl); (case v => rfl); k_whole)))
local macro_rules | `(tactic| walk_at "exec Assign") => `(tactic| (k_here; (with_reducible show wpAny _ _ (exec (Stmt.Assign [Expr.Name _ _] _ _) _) _ _ _); k_dflt (refine wpAny_Assign_Name ?_)))
local macro_rules | `(tactic| walk_at "storeName") => `(tactic| (k_here; k_dflt (refine' storeX_L ?F ?N ?_ ?a ?b; (case F => k_asm); (case N => k_asm); (case a => rfl); (case b => rfl); k_whole; intro h' F' N'; (try k_sweep))))
local macro_rules | `(tactic| walk_at "call ref") => `(tactic| (k_here; (with_reducible show wpAny _ _ (call (Value.ref 172) [Value.int _ _]) _ _ _); k_dflt (refine' $(Lean.mkIdent `Mine.cs_use) ($(Lean.mkIdent `Mine.c_vs) _ _ _ _) ?k1 ?k2 ?k3 ?k4 ?k5 ?kK ?kd ?ku ?_; (case k1 => k_asm); (case k2 => k_asm); (case k3 => k_asm); (case k4 => k_asm); (case k5 => k_asm); (case kK => first | exact rfl | assumption); (case kd => ktr_room); (case ku => ktr_units)); intro v9 h9 tk9 n9 hR9 F9 N9; obtain ⟨⟨t9, hv9⟩, hn9⟩ := hR9; subst hv9; subst hn9; (try dsimp only); (try k_fold)))
local macro_rules | `(tactic| walk_at "call ref") => `(tactic| (k_here; (with_reducible show wpAny _ _ (call (Value.ref 179) [Value.int _ _]) _ _ _); k_dflt (refine' $(Lean.mkIdent `Mine.cs_use) ($(Lean.mkIdent `Mine.c_svs) _ _ _ _) ?k1 ?k2 ?k3 ?k4 ?k5 ?kK ?kd ?ku ?_; (case k1 => k_asm); (case k2 => k_asm); (case k3 => k_asm); (case k4 => k_asm); (case k5 => k_asm); (case kK => first | exact rfl | assumption); (case kd => ktr_room); (case ku => ktr_units)); intro v9 h9 tk9 n9 hR9 F9 N9; obtain ⟨⟨t9, hv9⟩, hn9⟩ := hR9; subst hv9; subst hn9; (try dsimp only); (try k_fold)))
local macro_rules | `(tactic| walk_at "call ref") => `(tactic| (k_here; (with_reducible show wpAny _ _ (call (Value.ref 165) [Value.int _ _]) _ _ _); k_dflt (refine' $(Lean.mkIdent `Mine.cs_use) ($(Lean.mkIdent `Mine.c_vu) _ _ _ _ (by first | omega | assumption)) ?k1 ?k2 ?k3 ?k4 ?k5 ?kK ?kd ?ku ?_; (case k1 => k_asm); (case k2 => k_asm); (case k3 => k_asm); (case k4 => k_asm); (case k5 => k_asm); (case kK => first | exact rfl | assumption); (case kd => ktr_room); (case ku => ktr_units)); intro v9 h9 tk9 n9 hR9 F9 N9; obtain ⟨⟨t9, hv9⟩, hn9⟩ := hR9; subst hv9; subst hn9; (try dsimp only); (try k_fold)))
local macro_rules | `(tactic| walk_at "call ref") => `(tactic| (k_here; (with_reducible show wpAny _ _ (call (Value.ref 46) [Value.int _ _, Value.int 0 _]) _ _ _); k_dflt (refine' $(Lean.mkIdent `Mine.cs_use) ($(Lean.mkIdent `Mine.c_pack) _ _ _ _ _ (by first | omega | assumption) (by first | omega | assumption)) ?k1 ?k2 ?k3 ?k4 ?k5 ?kK ?kd ?ku ?_; (case k1 => k_asm); (case k2 => k_asm); (case k3 => k_asm); (case k4 => k_asm); (case k5 => k_asm); (case kK => first | exact rfl | assumption); (case kd => ktr_room); (case ku => ktr_units)); intro v9 h9 tk9 n9 hR9 F9 N9; obtain ⟨⟨t9, hv9⟩, hn9⟩ := hR9; subst hv9; subst hn9; (try dsimp only); (try k_fold)))
local macro_rules | `(tactic| walk_at "call ref") => `(tactic| (k_here; (with_reducible show wpAny _ _ (call (Value.ref 53) [Value.int _ _]) _ _ _); k_dflt (refine' $(Lean.mkIdent `Mine.cs_use) ($(Lean.mkIdent `Mine.c_zz) _ _ _ _ (by first | omega | assumption) (by first | omega | assumption)) ?k1 ?k2 ?k3 ?k4 ?k5 ?kK ?kd ?ku ?_; (case k1 => k_asm); (case k2 => k_asm); (case k3 => k_asm); (case k4 => k_asm); (case k5 => k_asm); (case kK => first | exact rfl | assumption); (case kd => ktr_room); (case ku => ktr_units)); intro v9 h9 tk9 n9 hR9 F9 N9; obtain ⟨⟨t9, hv9⟩, hn9⟩ := hR9; subst hv9; subst hn9; (try dsimp only); (try k_fold)))
local macro_rules | `(tactic| walk_at "binaryOp BitAnd int int") => `(tactic| (k_here; (with_reducible show wpAny _ _ (binaryOp Operator.BitAnd (Value.int 18446744073709551615 _) (Value.int _ _)) _ _ _); k_dflt (refine $(Lean.mkIdent `Mine.and64) ?_)))
local macro_rules | `(tactic| walk_at "call ref") => `(tactic| (k_here; (with_reducible show wpAny _ _ (call (Value.ref 158) [Value.int _ _]) _ _ _); k_dflt (refine' $(Lean.mkIdent `Mine.cs_use) ($(Lean.mkIdent `Mine.c_tag) _ _ _ _ (by first | omega | assumption | (unfold $(Lean.mkIdent `Mine.zz); split <;> omega)) (by first | omega | assumption | (unfold $(Lean.mkIdent `Mine.zz); split <;> omega))) ?k1 ?k2 ?k3 ?k4 ?k5 ?kK ?kd ?ku ?_; (case k1 => k_asm); (case k2 => k_asm); (case k3 => k_asm); (case k4 => k_asm); (case k5 => k_asm); (case kK => first | exact rfl | assumption); (case kd => ktr_room); (case ku => ktr_units)); intro v9 h9 tk9 n9 hR9 F9 N9; obtain ⟨⟨t9, hv9⟩, hn9⟩ := hR9; subst hv9; subst hn9; (try dsimp only); (try k_fold)))
local macro_rules | `(tactic| walk_at "call builtin:str.encode") => `(tactic| (k_here; (with_reducible show wpAny _ _ (call (Value.builtin "str.encode") [Value.str _ _, Value.str _ _]) _ _ _); k_dflt (refine $(Lean.mkIdent `Mine.call_enc) (by assumption) (by first | omega | assumption | (unfold $(Lean.mkIdent `Mine.zz); split <;> omega)) ?_)))
local macro_rules | `(tactic| walk_at "binaryOp LShift int int") => `(tactic| (k_here; (with_reducible show wpAny _ _ (binaryOp Operator.LShift (Value.int 1 _) (Value.int 64 _)) _ _ _); k_dflt (refine $(Lean.mkIdent `Mine.shl1) (c := 18446744073709551616) (by decide) (by decide) (by decide) ?_)))
local macro_rules | `(tactic| walk_at "binaryOp LShift int int") => `(tactic| (k_here; (with_reducible show wpAny _ _ (binaryOp Operator.LShift (Value.int 1 _) (Value.int 32 _)) _ _ _); k_dflt (refine $(Lean.mkIdent `Mine.shl1) (c := 4294967296) (by decide) (by decide) (by decide) ?_)))
local macro_rules | `(tactic| walk_at "binaryOp Mod int int") => `(tactic| (k_here; (with_reducible show wpAny _ _ (binaryOp Operator.Mod (Value.int _ _) (Value.int 18446744073709551616 _)) _ _ _); k_dflt (refine $(Lean.mkIdent `Mine.mod_pos) (by decide) ?_)))
local macro_rules | `(tactic| walk_at "binaryOp Mod int int") => `(tactic| (k_here; (with_reducible show wpAny _ _ (binaryOp Operator.Mod (Value.int _ _) (Value.int 4294967296 _)) _ _ _); k_dflt (refine $(Lean.mkIdent `Mine.mod_pos) (by decide) ?_)))
local macro_rules | `(tactic| walk_at "call type:bytes") => `(tactic| (k_here; (with_reducible show wpAny _ _ (call (Value.type _) [Value.ref _]) _ _ _); k_dflt (refine' bytes_K ?F ?N ?l ?i ?r ?z ?h ?_; (case F => k_asm); (case N => k_asm); (case l => exact News.isList (by k_asm) (by k_mem)); (case i => assumption); (case r => exact $(Lean.mkIdent `Mine.in255) _ _); (case z => exact $(Lean.mkIdent `Mine.len_line) (by assumption) (by rw [List.length_map, rangeKs_length]; decide)); (case h => exact rfl); k_whole); intro h5 t5 k5 F5 N5 _))
local macro_rules | `(tactic| walk_at "eval Call") => `(tactic| (k_here; (with_reducible show wpAny _ _ (eval (Expr.Call (Expr.Name _ _) _ _ _) _) _ _ _); (fail_if_success (with_reducible show wpAny _ _ _ (fun y s => SeqLeaf (Carried y _ ∧ Keeps _ s)) _ _)); k_dflt (refine Call_ ?_)))
local macro_rules | `(tactic| walk_at "call ref") => `(tactic| (k_here; (with_reducible show wpAny _ _ (call (Value.ref 81) [Value.int _ _, Value.int _ _]) _ _ _); k_dflt (refine' $(Lean.mkIdent `Mine.cs_use) ($(Lean.mkIdent `Mine.c_u64) _ _ _ _ _ _ (by first | omega | assumption | (unfold $(Lean.mkIdent `Mine.zz); split <;> omega)) (by first | omega | assumption | (unfold $(Lean.mkIdent `Mine.zz); split <;> omega)) (by first | omega | assumption | (unfold $(Lean.mkIdent `Mine.zz); split <;> omega))) ?k1 ?k2 ?k3 ?k4 ?k5 ?kK ?kd ?ku ?_; (case k1 => k_asm); (case k2 => k_asm); (case k3 => k_asm); (case k4 => k_asm); (case k5 => k_asm); (case kK => first | exact rfl | assumption); (case kd => ktr_room); (case ku => ktr_units)); intro v9 h9 tk9 n9 hR9 F9 N9; obtain ⟨⟨t9, hv9⟩, hn9⟩ := hR9; subst hv9; subst hn9; (try dsimp only); (try k_fold)))
local macro_rules | `(tactic| walk_at "call ref") => `(tactic| (k_here; (with_reducible show wpAny _ _ (call (Value.ref 74) [Value.int _ _, Value.int _ _]) _ _ _); k_dflt (refine' $(Lean.mkIdent `Mine.cs_use) ($(Lean.mkIdent `Mine.c_u32) _ _ _ _ _ _ (by first | omega | assumption | (unfold $(Lean.mkIdent `Mine.zz); split <;> omega)) (by first | omega | assumption | (unfold $(Lean.mkIdent `Mine.zz); split <;> omega)) (by first | omega | assumption | (unfold $(Lean.mkIdent `Mine.zz); split <;> omega))) ?k1 ?k2 ?k3 ?k4 ?k5 ?kK ?kd ?ku ?_; (case k1 => k_asm); (case k2 => k_asm); (case k3 => k_asm); (case k4 => k_asm); (case k5 => k_asm); (case kK => first | exact rfl | assumption); (case kd => ktr_room); (case ku => ktr_units)); intro v9 h9 tk9 n9 hR9 F9 N9; obtain ⟨⟨t9, hv9⟩, hn9⟩ := hR9; subst hv9; subst hn9; (try dsimp only); (try k_fold)))
local macro_rules | `(tactic| walk_at "call ref") => `(tactic| (k_here; (with_reducible show wpAny _ _ (call (Value.ref 67) [Value.int _ _, Value.int _ _]) _ _ _); k_dflt (refine' $(Lean.mkIdent `Mine.cs_use) ($(Lean.mkIdent `Mine.c_i64) _ _ _ _ _ _ (by first | omega | assumption | (unfold $(Lean.mkIdent `Mine.zz); split <;> omega)) (by first | omega | assumption | (unfold $(Lean.mkIdent `Mine.zz); split <;> omega))) ?k1 ?k2 ?k3 ?k4 ?k5 ?kK ?kd ?ku ?_; (case k1 => k_asm); (case k2 => k_asm); (case k3 => k_asm); (case k4 => k_asm); (case k5 => k_asm); (case kK => first | exact rfl | assumption); (case kd => ktr_room); (case ku => ktr_units)); intro v9 h9 tk9 n9 hR9 F9 N9; obtain ⟨⟨t9, hv9⟩, hn9⟩ := hR9; subst hv9; subst hn9; (try dsimp only); (try k_fold)))
local macro_rules | `(tactic| walk_at "call ref") => `(tactic| (k_here; (with_reducible show wpAny _ _ (call (Value.ref 60) [Value.int _ _, Value.int _ _]) _ _ _); k_dflt (refine' $(Lean.mkIdent `Mine.cs_use) ($(Lean.mkIdent `Mine.c_i32) _ _ _ _ _ _ (by first | omega | assumption | (unfold $(Lean.mkIdent `Mine.zz); split <;> omega)) (by first | omega | assumption | (unfold $(Lean.mkIdent `Mine.zz); split <;> omega))) ?k1 ?k2 ?k3 ?k4 ?k5 ?kK ?kd ?ku ?_; (case k1 => k_asm); (case k2 => k_asm); (case k3 => k_asm); (case k4 => k_asm); (case k5 => k_asm); (case kK => first | exact rfl | assumption); (case kd => ktr_room); (case ku => ktr_units)); intro v9 h9 tk9 n9 hR9 F9 N9; obtain ⟨⟨t9, hv9⟩, hn9⟩ := hR9; subst hv9; subst hn9; (try dsimp only); (try k_fold)))
local macro_rules | `(tactic| walk_at "call ref") => `(tactic| (k_here; (with_reducible show wpAny _ _ (call (Value.ref 88) [Value.int _ _, Value.int _ _]) _ _ _); k_dflt (refine' $(Lean.mkIdent `Mine.cs_use) ($(Lean.mkIdent `Mine.c_s32) _ _ _ _ _ _ (by first | omega | assumption | (unfold $(Lean.mkIdent `Mine.zz); split <;> omega)) (by first | omega | assumption | (unfold $(Lean.mkIdent `Mine.zz); split <;> omega)) (by first | omega | assumption | (unfold $(Lean.mkIdent `Mine.zz); split <;> omega)) (by first | omega | assumption | (unfold $(Lean.mkIdent `Mine.zz); split <;> omega))) ?k1 ?k2 ?k3 ?k4 ?k5 ?kK ?kd ?ku ?_; (case k1 => k_asm); (case k2 => k_asm); (case k3 => k_asm); (case k4 => k_asm); (case k5 => k_asm); (case kK => first | exact rfl | assumption); (case kd => ktr_room); (case ku => ktr_units)); intro v9 h9 tk9 n9 hR9 F9 N9; obtain ⟨⟨t9, hv9⟩, hn9⟩ := hR9; subst hv9; subst hn9; (try dsimp only); (try k_fold)))
local macro_rules | `(tactic| walk_at "call ref") => `(tactic| (k_here; (with_reducible show wpAny _ _ (call (Value.ref 95) [Value.int _ _, Value.int _ _]) _ _ _); k_dflt (refine' $(Lean.mkIdent `Mine.cs_use) ($(Lean.mkIdent `Mine.c_s64) _ _ _ _ _ _ (by first | omega | assumption | (unfold $(Lean.mkIdent `Mine.zz); split <;> omega)) (by first | omega | assumption | (unfold $(Lean.mkIdent `Mine.zz); split <;> omega)) (by first | omega | assumption | (unfold $(Lean.mkIdent `Mine.zz); split <;> omega)) (by first | omega | assumption | (unfold $(Lean.mkIdent `Mine.zz); split <;> omega))) ?k1 ?k2 ?k3 ?k4 ?k5 ?kK ?kd ?ku ?_; (case k1 => k_asm); (case k2 => k_asm); (case k3 => k_asm); (case k4 => k_asm); (case k5 => k_asm); (case kK => first | exact rfl | assumption); (case kd => ktr_room); (case ku => ktr_units)); intro v9 h9 tk9 n9 hR9 F9 N9; obtain ⟨⟨t9, hv9⟩, hn9⟩ := hR9; subst hv9; subst hn9; (try dsimp only); (try k_fold)))
local macro_rules | `(tactic| walk_at "call ref") => `(tactic| (k_here; (with_reducible show wpAny _ _ (call (Value.ref 102) [Value.int _ _, Value.int _ _]) _ _ _); k_dflt (refine' $(Lean.mkIdent `Mine.cs_use) ($(Lean.mkIdent `Mine.c_f32) _ _ _ _ _ _ (by first | omega | assumption | (unfold $(Lean.mkIdent `Mine.zz); split <;> omega)) (by first | omega | assumption | (unfold $(Lean.mkIdent `Mine.zz); split <;> omega))) ?k1 ?k2 ?k3 ?k4 ?k5 ?kK ?kd ?ku ?_; (case k1 => k_asm); (case k2 => k_asm); (case k3 => k_asm); (case k4 => k_asm); (case k5 => k_asm); (case kK => first | exact rfl | assumption); (case kd => ktr_room); (case ku => ktr_units)); intro v9 h9 tk9 n9 hR9 F9 N9; obtain ⟨⟨t9, hv9⟩, hn9⟩ := hR9; subst hv9; subst hn9; (try dsimp only); (try k_fold)))
local macro_rules | `(tactic| walk_at "call ref") => `(tactic| (k_here; (with_reducible show wpAny _ _ (call (Value.ref 109) [Value.int _ _, Value.int _ _]) _ _ _); k_dflt (refine' $(Lean.mkIdent `Mine.cs_use) ($(Lean.mkIdent `Mine.c_f64) _ _ _ _ _ _ (by first | omega | assumption | (unfold $(Lean.mkIdent `Mine.zz); split <;> omega)) (by first | omega | assumption | (unfold $(Lean.mkIdent `Mine.zz); split <;> omega))) ?k1 ?k2 ?k3 ?k4 ?k5 ?kK ?kd ?ku ?_; (case k1 => k_asm); (case k2 => k_asm); (case k3 => k_asm); (case k4 => k_asm); (case k5 => k_asm); (case kK => first | exact rfl | assumption); (case kd => ktr_room); (case ku => ktr_units)); intro v9 h9 tk9 n9 hR9 F9 N9; obtain ⟨⟨t9, hv9⟩, hn9⟩ := hR9; subst hv9; subst hn9; (try dsimp only); (try k_fold)))
local macro_rules | `(tactic| walk_at "call ref") => `(tactic| (k_here; (with_reducible show wpAny _ _ (call (Value.ref 116) [Value.int _ _, Value.int _ _]) _ _ _); k_dflt (refine' $(Lean.mkIdent `Mine.cs_use) ($(Lean.mkIdent `Mine.c_sf32) _ _ _ _ _ _ (by first | omega | assumption | (unfold $(Lean.mkIdent `Mine.zz); split <;> omega)) (by first | omega | assumption | (unfold $(Lean.mkIdent `Mine.zz); split <;> omega))) ?k1 ?k2 ?k3 ?k4 ?k5 ?kK ?kd ?ku ?_; (case k1 => k_asm); (case k2 => k_asm); (case k3 => k_asm); (case k4 => k_asm); (case k5 => k_asm); (case kK => first | exact rfl | assumption); (case kd => ktr_room); (case ku => ktr_units)); intro v9 h9 tk9 n9 hR9 F9 N9; obtain ⟨⟨t9, hv9⟩, hn9⟩ := hR9; subst hv9; subst hn9; (try dsimp only); (try k_fold)))
local macro_rules | `(tactic| walk_at "call ref") => `(tactic| (k_here; (with_reducible show wpAny _ _ (call (Value.ref 123) [Value.int _ _, Value.int _ _]) _ _ _); k_dflt (refine' $(Lean.mkIdent `Mine.cs_use) ($(Lean.mkIdent `Mine.c_sf64) _ _ _ _ _ _ (by first | omega | assumption | (unfold $(Lean.mkIdent `Mine.zz); split <;> omega)) (by first | omega | assumption | (unfold $(Lean.mkIdent `Mine.zz); split <;> omega))) ?k1 ?k2 ?k3 ?k4 ?k5 ?kK ?kd ?ku ?_; (case k1 => k_asm); (case k2 => k_asm); (case k3 => k_asm); (case k4 => k_asm); (case k5 => k_asm); (case kK => first | exact rfl | assumption); (case kd => ktr_room); (case ku => ktr_units)); intro v9 h9 tk9 n9 hR9 F9 N9; obtain ⟨⟨t9, hv9⟩, hn9⟩ := hR9; subst hv9; subst hn9; (try dsimp only); (try k_fold)))
local macro_rules | `(tactic| walk_at "call ref") => `(tactic| (k_here; (with_reducible show wpAny _ _ (call (Value.ref 130) [Value.int _ _, Value.bool _]) _ _ _); k_dflt (refine' $(Lean.mkIdent `Mine.cs_use) ($(Lean.mkIdent `Mine.c_bool) _ _ _ _ _ (by first | omega | assumption | (unfold $(Lean.mkIdent `Mine.zz); split <;> omega)) (by first | omega | assumption | (unfold $(Lean.mkIdent `Mine.zz); split <;> omega))) ?k1 ?k2 ?k3 ?k4 ?k5 ?kK ?kd ?ku ?_; (case k1 => k_asm); (case k2 => k_asm); (case k3 => k_asm); (case k4 => k_asm); (case k5 => k_asm); (case kK => first | exact rfl | assumption); (case kd => ktr_room); (case ku => ktr_units)); intro v9 h9 tk9 n9 hR9 F9 N9; obtain ⟨⟨t9, hv9⟩, hn9⟩ := hR9; subst hv9; subst hn9; (try dsimp only); (try k_fold)))
local macro_rules | `(tactic| walk_at "call ref") => `(tactic| (k_here; (with_reducible show wpAny _ _ (call (Value.ref 137) [Value.int _ _, Value.int _ _]) _ _ _); k_dflt (refine' $(Lean.mkIdent `Mine.cs_use) ($(Lean.mkIdent `Mine.c_enum) _ _ _ _ _ _ (by first | omega | assumption | (unfold $(Lean.mkIdent `Mine.zz); split <;> omega)) (by first | omega | assumption | (unfold $(Lean.mkIdent `Mine.zz); split <;> omega)) (by first | omega | assumption | (unfold $(Lean.mkIdent `Mine.zz); split <;> omega))) ?k1 ?k2 ?k3 ?k4 ?k5 ?kK ?kd ?ku ?_; (case k1 => k_asm); (case k2 => k_asm); (case k3 => k_asm); (case k4 => k_asm); (case k5 => k_asm); (case kK => first | exact rfl | assumption); (case kd => ktr_room); (case ku => ktr_units)); intro v9 h9 tk9 n9 hR9 F9 N9; obtain ⟨⟨t9, hv9⟩, hn9⟩ := hR9; subst hv9; subst hn9; (try dsimp only); (try k_fold)))
local macro_rules | `(tactic| walk_at "call ref") => `(tactic| (k_here; (with_reducible show wpAny _ _ (call (Value.ref 144) [Value.int _ _, Value.str _ _]) _ _ _); k_dflt (refine' $(Lean.mkIdent `Mine.cs_use) ($(Lean.mkIdent `Mine.c_str) _ _ _ _ _ _ (by first | omega | assumption | (unfold $(Lean.mkIdent `Mine.zz); split <;> omega)) (by first | omega | assumption | (unfold $(Lean.mkIdent `Mine.zz); split <;> omega)) (by first | omega | assumption | (unfold $(Lean.mkIdent `Mine.zz); split <;> omega)) (by first | omega | assumption | (unfold $(Lean.mkIdent `Mine.zz); split <;> omega)) (by first | omega | assumption | (unfold $(Lean.mkIdent `Mine.zz); split <;> omega))) ?k1 ?k2 ?k3 ?k4 ?k5 ?kK ?kd ?ku ?_; (case k1 => k_asm); (case k2 => k_asm); (case k3 => k_asm); (case k4 => k_asm); (case k5 => k_asm); (case kK => first | exact rfl | assumption); (case kd => ktr_room); (case ku => ktr_units)); intro v9 h9 tk9 n9 hR9 F9 N9; obtain ⟨⟨t9, hv9⟩, hn9⟩ := hR9; subst hv9; subst hn9; (try dsimp only); (try k_fold)))
local macro_rules | `(tactic| walk_at "call ref") => `(tactic| (k_here; (with_reducible show wpAny _ _ (call (Value.ref 151) [Value.int _ _, Value.bytes _ _]) _ _ _); k_dflt (refine' $(Lean.mkIdent `Mine.cs_use) ($(Lean.mkIdent `Mine.c_bytes) _ _ _ _ _ _ (by first | omega | assumption | (unfold $(Lean.mkIdent `Mine.zz); split <;> omega)) (by first | omega | assumption | (unfold $(Lean.mkIdent `Mine.zz); split <;> omega)) (by first | omega | assumption | (unfold $(Lean.mkIdent `Mine.zz); split <;> omega))) ?k1 ?k2 ?k3 ?k4 ?k5 ?kK ?kd ?ku ?_; (case k1 => k_asm); (case k2 => k_asm); (case k3 => k_asm); (case k4 => k_asm); (case k5 => k_asm); (case kK => first | exact rfl | assumption); (case kd => ktr_room); (case ku => ktr_units)); intro v9 h9 tk9 n9 hR9 F9 N9; obtain ⟨⟨t9, hv9⟩, hn9⟩ := hR9; subst hv9; subst hn9; (try dsimp only); (try k_fold)))
local macro_rules | `(tactic| walk_at "call ref") => `(tactic| (k_here; (with_reducible show wpAny _ _ (call (Value.ref 368) [Value.int _ _]) _ _ _); k_dflt (refine' $(Lean.mkIdent `Mine.cs_use) ($(Lean.mkIdent `Mine.c_varint) _ _ _ _ (by first | omega | assumption) (by first | omega | assumption)) ?k1 ?k2 ?k3 ?k4 ?k5 ?kK ?kd ?ku ?_; (case k1 => k_asm); (case k2 => k_asm); (case k3 => k_asm); (case k4 => k_asm); (case k5 => k_asm); (case kK => first | exact rfl | assumption); (case kd => ktr_room); (case ku => ktr_units)); intro v9 h9 tk9 n9 hR9 F9 N9; obtain ⟨⟨a9, t9, hv9, hs9⟩, hn9⟩ := hR9; subst hv9; subst hn9; have hb9 := $(Lean.mkIdent `Mine.sz_le) hs9; (try dsimp only); (try k_fold)))
local macro_rules | `(tactic| walk_at "call ref") => `(tactic| (k_here; (with_reducible show wpAny _ _ (call (Value.ref 385) [Value.int _ _, Value.bool _]) _ _ _); k_dflt (refine' $(Lean.mkIdent `Mine.cs_use) ($(Lean.mkIdent `Mine.c_bare_b) _ _ _ _) ?k1 ?k2 ?k3 ?k4 ?k5 ?kK ?kd ?ku ?_; (case k1 => k_asm); (case k2 => k_asm); (case k3 => k_asm); (case k4 => k_asm); (case k5 => k_asm); (case kK => first | exact rfl | assumption); (case kd => ktr_room); (case ku => ktr_units)); intro v9 h9 tk9 n9 hR9 F9 N9; obtain ⟨⟨a9, t9, hv9, hs9⟩, hn9⟩ := hR9; subst hv9; subst hn9; have hb9 := $(Lean.mkIdent `Mine.sz_le1) hs9; (try dsimp only); (try k_fold)))
local macro_rules | `(tactic| walk_at "call ref") => `(tactic| (k_here; (with_reducible show wpAny _ _ (call (Value.ref 385) [Value.int _ _, Value.int _ _]) _ _ _); k_dflt (refine' $(Lean.mkIdent `Mine.cs_use) ($(Lean.mkIdent `Mine.c_bare_i) _ _ _ _ _ _ (by assumption)) ?k1 ?k2 ?k3 ?k4 ?k5 ?kK ?kd ?ku ?_; (case k1 => k_asm); (case k2 => k_asm); (case k3 => k_asm); (case k4 => k_asm); (case k5 => k_asm); (case kK => first | exact rfl | assumption); (case kd => ktr_room); (case ku => ktr_units)); intro v9 h9 tk9 n9 hR9 F9 N9; obtain ⟨⟨a9, t9, hv9, hs9⟩, hn9⟩ := hR9; subst hv9; subst hn9; have hb9 := $(Lean.mkIdent `Mine.sz_lep) hs9; (try dsimp only); (try k_fold)))
local macro_rules | `(tactic| walk_at "getMethod str") => `(tactic| (k_here; with_reducible refine $(Lean.mkIdent `Mine.method_enc) ?_))
local macro_rules | `(tactic| walk_at "call builtin:str.encode") => `(tactic| (k_here; (with_reducible show wpAny _ _ (call (Value.builtin "str.encode") [Value.str _ _, Value.str _ _]) _ _ _); k_dflt (refine $(Lean.mkIdent `Mine.call_enc) (by assumption) (by first | omega | assumption) ?_)))
local macro_rules | `(tactic| walk_at "callWith ref") => `(tactic| (k_here; k_dflt (refine' callWith_K ?k1 ?k2 ?_; (case k1 => k_asm); (case k2 => k_is); k_whole)))
section -- Wf

/-! plain laws -/
theorem shl3 (n : Int) (h0 : 0 ≤ n) : Builtin.bitOr (n * 2 ^ Int.toNat 3) 0 = 8 * n := by
  have e : (2 : Int) ^ Int.toNat 3 = 8 := rfl
  rw [e]
  unfold Builtin.bitOr Builtin.bitAnd Builtin.bitNot
  have h1 : decide (0 ≤ -(n * 8) - 1) = false := by simp; omega
  have h2 : decide ((0:Int) ≤ -0 - 1) = false := by simp
  rw [h1, h2]
  dsimp only
  have e1 : (-(-(n * 8) - 1) - 1).toNat = (n * 8).toNat := by congr 1; omega
  have e2 : (-(-(0:Int) - 1) - 1).toNat = 0 := rfl
  rw [e1, e2, Nat.or_zero]
  omega
theorem zzneg (n : Int) (h : n < 0) : Builtin.bitXor (n * 2 ^ Int.toNat 1) (Builtin.bitNot 0) = -2 * n - 1 := by
  have e : (2 : Int) ^ Int.toNat 1 = 2 := rfl
  have e2 : Builtin.bitNot 0 = -1 := rfl
  rw [e, e2]
  unfold Builtin.bitXor Builtin.bitOr Builtin.bitAnd Builtin.bitNot
  have h1 : decide (0 ≤ -(n * 2) - 1) = true := by simp; omega
  have h2 : decide ((0:Int) ≤ -(-1) - 1) = true := by simp
  have h3 : decide (0 ≤ n * 2) = false := by simp; omega
  have h4 : decide ((0:Int) ≤ -1) = false := by simp
  rw [h1, h2, h3, h4]
  dsimp only
  have e3 : (-(-1 : Int) - 1).toNat = 0 := rfl
  rw [e3, Nat.and_zero, Nat.or_zero]
  omega
/-- zigzag -/
def zz (n : Int) : Int := if n ≥ 0 then 2 * n else -2 * n - 1
/-- the tag's octets -/
def tsz (n : Int) : Int := vsz (8 * n)
set_option maxHeartbeats 8000000 in
theorem c_vs (w : World) (news : List (Addr × Obj)) (n : Int) (t : Tok) : CSpec w 172 [.int n t] news 1 8 (RInt news (vsz n)) := by
  w_top off
  unfold CSpec
  k_fill
  intro p loose mean mg mb dp un gd cn cs a ccd cl outer A₀ base h₀ L m s Q E B F X N T hk hd hu hret
  refine wpAny_call ?_
  k_dflt cell_enter
  k_steps
  all_goals (refine ret_int hret ?_ ?_ ?_; k_asm; k_asm)
  all_goals (simp only [vsz, *]; first | rfl | simp)
set_option maxHeartbeats 8000000 in
theorem c_svs (w : World) (news : List (Addr × Obj)) (n : Int) (t : Tok) : CSpec w 179 [.int n t] news 1 8 (RInt news (svsz n)) := by
  w_top off
  unfold CSpec
  k_fill
  intro p loose mean mg mb dp un gd cn cs a ccd cl outer A₀ base h₀ L m s Q E B F X N T hk hd hu hret
  refine wpAny_call ?_
  k_dflt cell_enter
  k_steps
  all_goals (refine ret_int hret ?_ ?_ ?_; k_asm; k_asm)
  all_goals (simp only [svsz, vsz, *]; first | rfl | simp)
set_option maxHeartbeats 8000000 in
theorem c_vu (w : World) (news : List (Addr × Obj)) (n : Int) (t : Tok) (h : n ≤ 18446744073709551615) : CSpec w 165 [.int n t] news 1 8 (RInt news (vsz n)) := by
  w_top off
  unfold CSpec
  k_fill
  intro p loose mean mg mb dp un gd cn cs a ccd cl outer A₀ base h₀ L m s Q E B F X N T hk hd hu hret
  refine wpAny_call ?_
  k_dflt cell_enter
  k_steps
  all_goals (refine ret_int hret ?_ ?_ ?_; k_asm; k_asm)
  all_goals (simp only [vsz, *]; first | rfl | simp)
set_option maxHeartbeats 8000000 in
theorem c_pack (w : World) (news : List (Addr × Obj)) (n : Int) (t u : Tok) (h0 : 0 ≤ n) (h1 : n < 4294967296) : CSpec w 46 [.int n t, .int 0 u] news 1 8 (RInt news (8 * n)) := by
  w_top off
  unfold CSpec
  k_fill
  intro p loose mean mg mb dp un gd cn cs a ccd cl outer A₀ base h₀ L m s Q E B F X N T hk hd hu hret
  refine wpAny_call ?_
  k_dflt cell_enter
  k_steps
  all_goals (refine ret_int hret ?_ ?_ ?_; k_asm; k_asm)
  all_goals exact shl3 n h0
set_option maxHeartbeats 8000000 in
theorem c_zz (w : World) (news : List (Addr × Obj)) (n : Int) (t : Tok) (h0 : -9223372036854775808 ≤ n) (h1 : n < 9223372036854775808) : CSpec w 53 [.int n t] news 1 8 (RInt news (zz n)) := by
  w_top off
  unfold CSpec
  k_fill
  intro p loose mean mg mb dp un gd cn cs a ccd cl outer A₀ base h₀ L m s Q E B F X N T hk hd hu hret
  refine wpAny_call ?_
  k_dflt cell_enter
  k_steps
  all_goals (refine ret_int hret ?_ ?_ ?_; k_asm; k_asm)
  · unfold zz; rw [if_pos (by omega)]; show n * 2 = _; omega
  · unfold zz; rw [if_neg (by omega)]; exact zzneg n (by omega)
set_option maxHeartbeats 8000000 in
theorem c_tag (w : World) (news : List (Addr × Obj)) (n : Int) (t : Tok) (h0 : 0 ≤ n) (h1 : n < 536870912) : CSpec w 158 [.int n t] news 2 16 (RInt news (tsz n)) := by
  w_top off
  unfold CSpec
  k_fill
  intro p loose mean mg mb dp un gd cn cs a ccd cl outer A₀ base h₀ L m s Q E B F X N T hk hd hu hret
  refine wpAny_call ?_
  k_dflt cell_enter
  k_steps
  all_goals (refine ret_int hret ?_ ?_ ?_; k_asm; k_asm)
  all_goals rfl
set_option maxHeartbeats 8000000 in
theorem c_tags (w : World) (news : List (Addr × Obj)) (n : Int) (t : Tok) (h0 : 0 ≤ n) (h1 : n < 536870912) : CSpec w 186 [.int n t] news 2 16 (RInt news (tsz n)) := by
  w_top off
  unfold CSpec
  k_fill
  intro p loose mean mg mb dp un gd cn cs a ccd cl outer A₀ base h₀ L m s Q E B F X N T hk hd hu hret
  refine wpAny_call ?_
  k_dflt cell_enter
  k_steps
  all_goals (refine ret_int hret ?_ ?_ ?_; k_asm; k_asm)
  all_goals rfl
end
section -- Enc
open Builtin Builtin._codecs
def u8 (x : Str) : Array UInt8 := x.cps.foldl (fun acc y => acc ++ (Str.utf8Of y).toArray) #[]
def Good (x : Str) : Prop := ∀ c ∈ x.cps, Str.isSurrogate c = false
theorem forIn_twice {β : Type} (f : Nat → β → Sem (ForInStep β)) (n : Nat) (b0 b1 : β) (h0 : f 0 b0 = pure (.yield b1)) (h1 : ∀ i, f i b1 = pure (.done b1)) :
    (forIn [0:n+1] b0 f : Sem β) = pure b1 := by
  rw [Std.Legacy.Range.forIn_eq_forIn_range']
  simp only [Std.Legacy.Range.size]
  have e : List.range' 0 ((n + 1 - 0 + 1 - 1) / 1) 1 = 0 :: List.range' 1 n 1 := by
    simp [List.range'_succ]
  rw [e, List.forIn_cons, h0, pure_bind]
  cases n with
  | zero => rfl
  | succ m =>
    rw [List.range'_succ]
    dsimp only
    rw [List.forIn_cons, h1, pure_bind]
theorem ite_f {α : Type} {c : Prop} [Decidable c] {a b : Sem α} (h : ¬ c) : (if c then a else b) = b := if_neg h
theorem encNarrow (id : String) (self : Value) (x : Str) (hg : Good x) (hz : (u8 x).size ≤ sizeLine) : encodeNarrow id utf8Codec none self x = pure (u8 x) := by
  unfold encodeNarrow
  dsimp only
  cases hn : x.length with
  | zero =>
    have e : x.cps = #[] := Array.eq_empty_of_size_eq_zero hn
    have e2 : u8 x = #[] := by unfold u8; rw [e]; rfl
    rw [e2]
    rw [Std.Legacy.Range.forIn_eq_forIn_range']
    simp [Std.Legacy.Range.size]
  | succ n =>
    have hsz : x.cps.size = n + 1 := hn
    rw [forIn_twice (b1 := ((n + 1, u8 x, {}) : Nat × Array UInt8 × Faults))]
    · rfl
    · have hx : x.cps[0]? = some (x.cps[0]'(by omega)) := Array.getElem?_eq_getElem (by omega)
      have hb : utf8Codec.bad (x.cps[0]'(by omega)) = false := hg _ (Array.getElem_mem _)
      have hf : (x.cps.extract 0).findIdx? utf8Codec.bad = none := by
        rw [Array.findIdx?_eq_none_iff]
        intro c hc
        refine hg c ?_
        simpa using hc
      have hs : ¬ ((#[] : Array UInt8).size > sizeLine) := by simp
      dsimp only
      rw [ite_f hs, hx]
      dsimp only
      rw [hb, hf]
      simp only [Bool.not_false, if_true, Option.getD_none, Nat.zero_add, Array.extract_size]
      simp [hsz, u8, utf8Codec]
    · intro i
      have hx : x.cps[n + 1]? = none := Array.getElem?_eq_none (by omega)
      have hs : ¬ ((u8 x).size > sizeLine) := by omega
      dsimp only
      rw [ite_f hs, hx]
theorem road_eq (id : String) (self : Value) (x : Str) : encodeRoad id self x (Str.ofString "utf-8") none = (encodeNarrow id utf8Codec none self x >>= fun b => mkBytes b) := by kernel_rfl
theorem enc_entry (x : Str) (t u : Tok) : «str.encode» ⟨[.str x t, .str (Str.ofString "utf-8") u], []⟩ = (encodeRoad "str.encode" (.str x t) x (Str.ofString "utf-8") none >>= fun v => ret v) := by kernel_rfl
theorem gives_enc (x : Str) (t u : Tok) (hg : Good x) (hz : (u8 x).size ≤ sizeLine) : Gives («str.encode» ⟨[.str x t, .str (Str.ofString "utf-8") u], []⟩) (.bytes (u8 x)) := by
  rw [enc_entry, road_eq, encNarrow _ _ _ hg hz]
  exact Gives.tree (.bytes (u8 x))
section
variable {prog : Program} {w : World} {A : Around} {E : Value → Shared → Prop} {s : Shared}
theorem call_enc {x : Str} {t u : Tok} {Q : Value → Shared → Prop} (hg : Good x) (hz : (u8 x).size ≤ sizeLine) (h : Q (.bytes (u8 x) s.toks) { s with toks := s.toks + 1 }) :
    wpAny (model prog w) A (call (.builtin "str.encode") [.str x t, .str (Str.ofString "utf-8") u]) Q E s :=
  call_gives F.slot_str_encode (typeIs_str _ _ _) F.entry_str_encode (F.args_str_encode_2 _ _) (gives_enc x t u hg hz) ⟨hz, h⟩
theorem method_enc {M : Model} {x : Str} {t : Tok} {pl : Sem Bool} {Q : Value × List Value → Shared → Prop} (h : Q (.builtin "str.encode", [.str x t]) s) : wpAny M A (getMethod (.str x t) "encode" pl) Q E s :=
  getMethod_builtin (typeIs_str _ _ _) F.plainAttrs_str F.slot_str_encode F.type_str_encode (fun _ e => nomatch e) h
end
end
section -- Wf2


section
variable {prog : Program} {w : World} {A : Around} {E : Value → Shared → Prop} {s : Shared}
theorem mask64 (v : Int) : Builtin.bitAnd 18446744073709551615 v = v % 18446744073709551616 := kbt_mask' v 64
theorem and64 {v : Int} {t u : Tok} {Q : Value → Shared → Prop} (h : Q (.int (v % 18446744073709551616) s.toks) { s with toks := s.toks + 1 }) : wpAny (model prog w) A (binaryOp .BitAnd (.int 18446744073709551615 t) (.int v u)) Q E s :=
  and_int (by rw [mask64]; exact h)
end
set_option maxHeartbeats 8000000 in
theorem c_u64 (w : World) (news : List (Addr × Obj)) (n : Int) (t : Tok) (v : Int) (u : Tok) (h0 : 0 ≤ n) (h1 : n < 536870912) (h2 : v ≤ 18446744073709551615) : CSpec w 81 [.int n t, .int v u] news 3 24 (RInt news (tsz n + vsz v)) := by
  w_top off
  unfold CSpec
  k_fill
  intro p loose mean mg mb dp un gd cn cs a ccd cl outer A₀ base h₀ L m s Q E B F X N T hk hd hu hret
  refine wpAny_call ?_
  k_dflt cell_enter
  k_steps
  all_goals (refine ret_int hret ?_ ?_ ?_; k_asm; k_asm)
  all_goals rfl
set_option maxHeartbeats 8000000 in
theorem c_u32 (w : World) (news : List (Addr × Obj)) (n : Int) (t : Tok) (v : Int) (u : Tok) (h0 : 0 ≤ n) (h1 : n < 536870912) (h2 : v ≤ 18446744073709551615) : CSpec w 74 [.int n t, .int v u] news 4 32 (RInt news (tsz n + vsz v)) := by
  w_top off
  unfold CSpec
  k_fill
  intro p loose mean mg mb dp un gd cn cs a ccd cl outer A₀ base h₀ L m s Q E B F X N T hk hd hu hret
  refine wpAny_call ?_
  k_dflt cell_enter
  k_steps
  all_goals (refine ret_int hret ?_ ?_ ?_; k_asm; k_asm)
  all_goals rfl
set_option maxHeartbeats 8000000 in
theorem c_i64 (w : World) (news : List (Addr × Obj)) (n : Int) (t : Tok) (v : Int) (u : Tok) (h0 : 0 ≤ n) (h1 : n < 536870912)  : CSpec w 67 [.int n t, .int v u] news 4 32 (RInt news (tsz n + vsz (v % 18446744073709551616))) := by
  w_top off
  unfold CSpec
  k_fill
  intro p loose mean mg mb dp un gd cn cs a ccd cl outer A₀ base h₀ L m s Q E B F X N T hk hd hu hret
  refine wpAny_call ?_
  k_dflt cell_enter
  k_steps
  all_goals (refine ret_int hret ?_ ?_ ?_; k_asm; k_asm)
  all_goals rfl
set_option maxHeartbeats 8000000 in
theorem c_i32 (w : World) (news : List (Addr × Obj)) (n : Int) (t : Tok) (v : Int) (u : Tok) (h0 : 0 ≤ n) (h1 : n < 536870912)  : CSpec w 60 [.int n t, .int v u] news 5 40 (RInt news (tsz n + vsz (v % 18446744073709551616))) := by
  w_top off
  unfold CSpec
  k_fill
  intro p loose mean mg mb dp un gd cn cs a ccd cl outer A₀ base h₀ L m s Q E B F X N T hk hd hu hret
  refine wpAny_call ?_
  k_dflt cell_enter
  k_steps
  all_goals (refine ret_int hret ?_ ?_ ?_; k_asm; k_asm)
  all_goals rfl
set_option maxHeartbeats 8000000 in
theorem c_s32 (w : World) (news : List (Addr × Obj)) (n : Int) (t : Tok) (v : Int) (u : Tok) (h0 : 0 ≤ n) (h1 : n < 536870912) (h2 : -9223372036854775808 ≤ v) (h3 : v < 9223372036854775808) : CSpec w 88 [.int n t, .int v u] news 5 40 (RInt news (tsz n + vsz (zz v))) := by
  w_top off
  unfold CSpec
  k_fill
  intro p loose mean mg mb dp un gd cn cs a ccd cl outer A₀ base h₀ L m s Q E B F X N T hk hd hu hret
  refine wpAny_call ?_
  k_dflt cell_enter
  k_steps
  all_goals (refine ret_int hret ?_ ?_ ?_; k_asm; k_asm)
  all_goals rfl
set_option maxHeartbeats 8000000 in
theorem c_s64 (w : World) (news : List (Addr × Obj)) (n : Int) (t : Tok) (v : Int) (u : Tok) (h0 : 0 ≤ n) (h1 : n < 536870912) (h2 : -9223372036854775808 ≤ v) (h3 : v < 9223372036854775808) : CSpec w 95 [.int n t, .int v u] news 5 40 (RInt news (tsz n + vsz (zz v))) := by
  w_top off
  unfold CSpec
  k_fill
  intro p loose mean mg mb dp un gd cn cs a ccd cl outer A₀ base h₀ L m s Q E B F X N T hk hd hu hret
  refine wpAny_call ?_
  k_dflt cell_enter
  k_steps
  all_goals (refine ret_int hret ?_ ?_ ?_; k_asm; k_asm)
  all_goals rfl
set_option maxHeartbeats 8000000 in
theorem c_f32 (w : World) (news : List (Addr × Obj)) (n : Int) (t : Tok) (v : Int) (u : Tok) (h0 : 0 ≤ n) (h1 : n < 536870912)  : CSpec w 102 [.int n t, .int v u] news 3 24 (RInt news (tsz n + 4)) := by
  w_top off
  unfold CSpec
  k_fill
  intro p loose mean mg mb dp un gd cn cs a ccd cl outer A₀ base h₀ L m s Q E B F X N T hk hd hu hret
  refine wpAny_call ?_
  k_dflt cell_enter
  k_steps
  all_goals (refine ret_int hret ?_ ?_ ?_; k_asm; k_asm)
  all_goals rfl
set_option maxHeartbeats 8000000 in
theorem c_f64 (w : World) (news : List (Addr × Obj)) (n : Int) (t : Tok) (v : Int) (u : Tok) (h0 : 0 ≤ n) (h1 : n < 536870912)  : CSpec w 109 [.int n t, .int v u] news 3 24 (RInt news (tsz n + 8)) := by
  w_top off
  unfold CSpec
  k_fill
  intro p loose mean mg mb dp un gd cn cs a ccd cl outer A₀ base h₀ L m s Q E B F X N T hk hd hu hret
  refine wpAny_call ?_
  k_dflt cell_enter
  k_steps
  all_goals (refine ret_int hret ?_ ?_ ?_; k_asm; k_asm)
  all_goals rfl
set_option maxHeartbeats 8000000 in
theorem c_sf32 (w : World) (news : List (Addr × Obj)) (n : Int) (t : Tok) (v : Int) (u : Tok) (h0 : 0 ≤ n) (h1 : n < 536870912)  : CSpec w 116 [.int n t, .int v u] news 3 24 (RInt news (tsz n + 4)) := by
  w_top off
  unfold CSpec
  k_fill
  intro p loose mean mg mb dp un gd cn cs a ccd cl outer A₀ base h₀ L m s Q E B F X N T hk hd hu hret
  refine wpAny_call ?_
  k_dflt cell_enter
  k_steps
  all_goals (refine ret_int hret ?_ ?_ ?_; k_asm; k_asm)
  all_goals rfl
set_option maxHeartbeats 8000000 in
theorem c_sf64 (w : World) (news : List (Addr × Obj)) (n : Int) (t : Tok) (v : Int) (u : Tok) (h0 : 0 ≤ n) (h1 : n < 536870912)  : CSpec w 123 [.int n t, .int v u] news 3 24 (RInt news (tsz n + 8)) := by
  w_top off
  unfold CSpec
  k_fill
  intro p loose mean mg mb dp un gd cn cs a ccd cl outer A₀ base h₀ L m s Q E B F X N T hk hd hu hret
  refine wpAny_call ?_
  k_dflt cell_enter
  k_steps
  all_goals (refine ret_int hret ?_ ?_ ?_; k_asm; k_asm)
  all_goals rfl
set_option maxHeartbeats 8000000 in
theorem c_bool (w : World) (news : List (Addr × Obj)) (n : Int) (t : Tok) (v : Bool) (h0 : 0 ≤ n) (h1 : n < 536870912)  : CSpec w 130 [.int n t, .bool v] news 3 24 (RInt news (tsz n + 1)) := by
  w_top off
  unfold CSpec
  k_fill
  intro p loose mean mg mb dp un gd cn cs a ccd cl outer A₀ base h₀ L m s Q E B F X N T hk hd hu hret
  refine wpAny_call ?_
  k_dflt cell_enter
  k_steps
  all_goals (refine ret_int hret ?_ ?_ ?_; k_asm; k_asm)
  all_goals rfl
set_option maxHeartbeats 8000000 in
theorem c_enum (w : World) (news : List (Addr × Obj)) (n : Int) (t : Tok) (v : Int) (u : Tok) (h0 : 0 ≤ n) (h1 : n < 536870912) (h2 : v ≤ 18446744073709551615) : CSpec w 137 [.int n t, .int v u] news 5 40 (RInt news (tsz n + vsz v)) := by
  w_top off
  unfold CSpec
  k_fill
  intro p loose mean mg mb dp un gd cn cs a ccd cl outer A₀ base h₀ L m s Q E B F X N T hk hd hu hret
  refine wpAny_call ?_
  k_dflt cell_enter
  k_steps
  all_goals (refine ret_int hret ?_ ?_ ?_; k_asm; k_asm)
  all_goals rfl
set_option maxHeartbeats 8000000 in
theorem c_bytes (w : World) (news : List (Addr × Obj)) (n : Int) (t : Tok) (v : Array UInt8) (u : Tok) (h0 : 0 ≤ n) (h1 : n < 536870912) (h2 : (v.size : Int) ≤ 1000000) : CSpec w 151 [.int n t, .bytes v u] news 3 24 (RInt news (tsz n + vsz v.size + v.size)) := by
  w_top off
  unfold CSpec
  k_fill
  intro p loose mean mg mb dp un gd cn cs a ccd cl outer A₀ base h₀ L m s Q E B F X N T hk hd hu hret
  refine wpAny_call ?_
  k_dflt cell_enter
  k_steps
  all_goals (refine ret_int hret ?_ ?_ ?_; k_asm; k_asm)
  all_goals rfl
set_option maxHeartbeats 8000000 in
theorem c_str (w : World) (news : List (Addr × Obj)) (n : Int) (t : Tok) (v : Str) (u : Tok) (h0 : 0 ≤ n) (h1 : n < 536870912) (h2 : Good v) (h3 : (u8 v).size ≤ 1000000) (h4 : (u8 v).size ≤ sizeLine) : CSpec w 144 [.int n t, .str v u] news 4 32 (RInt news (tsz n + vsz (u8 v).size + (u8 v).size)) := by
  w_top off
  unfold CSpec
  k_fill
  intro p loose mean mg mb dp un gd cn cs a ccd cl outer A₀ base h₀ L m s Q E B F X N T hk hd hu hret
  refine wpAny_call ?_
  k_dflt cell_enter
  k_steps
  all_goals (refine ret_int hret ?_ ?_ ?_; k_asm; k_asm)
  all_goals rfl
end
section -- Vi

theorem vsz_small {k : Int} (h : k ≤ 127) : vsz k = 1 := by unfold vsz; rw [if_pos h]
theorem vsz_pos (k : Int) : 1 ≤ vsz k ∧ vsz k ≤ 10 := by
  unfold vsz
  repeat' split
  all_goals omega
theorem vsz_step {k : Int} (h : 127 < k) (h2 : k < 1180591620717411303424) : vsz k = 1 + vsz (k / 128) := by
  unfold vsz
  rw [if_neg (by omega)]
  by_cases c1 : k ≤ 16383
  · rw [if_pos c1, if_pos (by omega)]; rfl
  rw [if_neg c1, if_neg (show ¬ k / 128 ≤ 127 by omega)]
  by_cases c2 : k ≤ 2097151
  · rw [if_pos c2, if_pos (show k / 128 ≤ 16383 by omega)]; rfl
  rw [if_neg c2, if_neg (show ¬ k / 128 ≤ 16383 by omega)]
  by_cases c3 : k ≤ 268435455
  · rw [if_pos c3, if_pos (show k / 128 ≤ 2097151 by omega)]; rfl
  rw [if_neg c3, if_neg (show ¬ k / 128 ≤ 2097151 by omega)]
  by_cases c4 : k ≤ 34359738367
  · rw [if_pos c4, if_pos (show k / 128 ≤ 268435455 by omega)]; rfl
  rw [if_neg c4, if_neg (show ¬ k / 128 ≤ 268435455 by omega)]
  by_cases c5 : k ≤ 4398046511103
  · rw [if_pos c5, if_pos (show k / 128 ≤ 34359738367 by omega)]; rfl
  rw [if_neg c5, if_neg (show ¬ k / 128 ≤ 34359738367 by omega)]
  by_cases c6 : k ≤ 562949953421311
  · rw [if_pos c6, if_pos (show k / 128 ≤ 4398046511103 by omega)]; rfl
  rw [if_neg c6, if_neg (show ¬ k / 128 ≤ 4398046511103 by omega)]
  by_cases c7 : k ≤ 72057594037927935
  · rw [if_pos c7, if_pos (show k / 128 ≤ 562949953421311 by omega)]; rfl
  rw [if_neg c7, if_neg (show ¬ k / 128 ≤ 562949953421311 by omega)]
  by_cases c8 : k ≤ 9223372036854775807
  · rw [if_pos c8, if_pos (show k / 128 ≤ 72057594037927935 by omega)]; rfl
  rw [if_neg c8, if_neg (show ¬ k / 128 ≤ 72057594037927935 by omega), if_pos (show k / 128 ≤ 9223372036854775807 by omega)]; rfl
theorem sz_le {a : Array UInt8} {n : Int} (h : (a.size : Int) = vsz n) : (a.size : Int) ≤ 10 := by have := vsz_pos n; omega
def RBytes (news : List (Addr × Obj)) (n : Int) : Value → List (Addr × Obj) → Prop := fun v news' => (∃ a t, v = .bytes a t ∧ (a.size : Int) = n) ∧ news' = news
theorem allLt_ne {d : Addr} : ∀ {l : List (Addr × Obj)}, AllLt d l → ∀ p ∈ l, p.1 ≠ d
  | [], _, p, hp => nomatch hp
  | q :: r, h, p, hp => by
    rcases List.mem_cons.mp hp with e | e
    · rw [e]; exact Nat.ne_of_lt h.1
    · exact allLt_ne h.2 p e
theorem intsAre_snoc {vs : List Value} {xs : List Int} (h : IntsAre vs xs) (x : Int) (t : Tok) : IntsAre (vs ++ [.int x t]) (xs ++ [x]) := by
  induction h with
  | nil => exact .cons _ _ .nil
  | cons n u _ ih => exact .cons _ _ ih
local macro_rules | `(tactic| k_all) => `(tactic| exact allLt_ne (by assumption))
local macro_rules | `(tactic| size_fits) => `(tactic| (simp only [List.size_toArray, PySem.sizeLine_eq]; omega))
set_option maxHeartbeats 8000000 in
theorem c_varint (w : World) (news : List (Addr × Obj)) (n : Int) (t : Tok) (h0 : 0 ≤ n) (h1 : n < 1180591620717411303424) : CSpec w 368 [.int n t] news 1 8 (RBytes news (vsz n)) := by
  w_top off
  unfold CSpec
  k_fill
  intro p loose mean mg mb dp un gd cn cs a ccd cl outer A₀ base h₀ L m s Q E B F X N T hk hd hu hret
  refine wpAny_call ?_
  k_dflt cell_enter
  iterate 9 (first | (k_unfold; (try dsimp only)) | (k_end; wrow_close) | walk1 | (dsimp only; walk1))
  rename_i N1 l1
  refine ksw_while (σ := Int × Tok × List Value × Nat) (fun c => (_, W.listOf c.2.2.1.toArray c.2.2.2) :: news) (fun c => [(Str.ofString "number", .int c.1 c.2.1)]) (fun _ => True) []
    (fun c => 0 ≤ c.1 ∧ c.1 ≤ n ∧ ∃ xs, IntsAre c.2.2.1 xs ∧ (∀ x ∈ xs, 0 ≤ x ∧ x < 256) ∧ (c.2.2.1.length : Int) + vsz c.1 = vsz n) (fun c => c.1.toNat) (n, t, [], 0) (by k_asm) (by k_asm) trivial ?_ ?_ ?_
  · intro p hp
    rw [List.mem_singleton.mp hp]
    rfl
  · exact ⟨h0, Int.le_refl _, [], .nil, (fun _ h => nomatch h), by show (([] : List Value).length : Int) + vsz n = vsz n; rw [List.length_nil]; omega⟩
  · intro c u h9 tk9 _ hP F9 N9
    obtain ⟨k, kt, vs, cnt⟩ := c
    obtain ⟨p0, p1, xs, hxs, hr, hlen⟩ := hP
    dsimp only at p0 p1 hxs hlen
    dsimp only at F9 N9
    have hv := vsz_pos k
    have hv2 := vsz_pos n
    clear N1
    k_steps
    · rename News _ _ _ _ => nE
      rename 127 < k => hgt
      simp only [List.push_toArray] at nE
      have e1 : k.fmod 128 = k % 128 := Int.fmod_eq_emod_of_nonneg _ (by decide)
      have e2 : k.fdiv 128 = k / 128 := Int.fdiv_eq_ediv_of_nonneg _ (by decide)
      have hs := vsz_step hgt (by omega)
      refine ksw_end (k.fdiv 128, ?kt, _, _) (by assumption) nE (fun _ h => h) trivial ?_ ?_ ⟨?_, ?_, xs ++ [k.fmod 128 + 128], intsAre_snoc hxs _ _, ?_, ?_⟩ ?_
      rotate_left
      · intro p hp
        rw [List.mem_singleton.mp hp]
        rfl
      · intro z hz _
        have hz' : z ≠ Str.ofString "number" := hz _ (List.mem_singleton.mpr rfl)
        have hb : (z == Str.ofString "number") = false := beq_eq_false_iff_ne.mpr hz'
        simp [kstB, hz', List.lookup, hb]
      · dsimp only; omega
      · dsimp only; omega
      · intro x hx
        rcases List.mem_append.mp hx with hx | hx
        · exact hr x hx
        · rw [List.mem_singleton.mp hx]; omega
      · dsimp only; rw [List.length_append, e2]; simp only [List.length_cons, List.length_nil]; omega
      · dsimp only; rw [e2]; omega
    · rename News _ _ _ _ => nE
      rename ¬ 127 < k => hgt
      simp only [List.push_toArray] at nE
      refine bytes_K (ns := xs ++ [k]) (by assumption) nE (nE.isList (.head _)) (intsAre_snoc hxs _ _) ?_ ?_ rfl ?_
      · intro x hx
        rcases List.mem_append.mp hx with hx | hx
        · exact hr x hx
        · rw [List.mem_singleton.mp hx]; omega
      · rw [List.length_append, sizeLine_eq]; simp only [List.length_cons, List.length_nil]; omega
      · intro h5 t5 k5 F5 N5 _
        k_steps
        rename News h₀ L _ _ => nF
        refine hret _ _ _ _ ⟨⟨_, _, rfl, ?_⟩, rfl⟩ (by k_asm) (cb_drop nF fun _ hp => List.mem_cons_of_mem _ hp)
        have hl := hxs.length
        rw [List.size_toArray, List.length_map, List.length_append]
        have hk1 := vsz_small (k := k) (by omega)
        simp only [List.length_cons, List.length_nil]
        omega
end
section -- Vals


/-- a field's value -/
inductive V where
  | b (x : Bool)
  | i (n : Int)
  | s (x : Str)
  | y (a : Array UInt8)
def V.val : V → Tok → Value
  | .b x, _ => .bool x
  | .i n, t => .int n t
  | .s x, t => .str x t
  | .y a, t => .bytes a t
/-- its octets, the tag apart -/
def psz (k : Int) : V → Int
  | .b _ => 1
  | .i n => if k = 17 ∨ k = 18 then vsz (zz n) else if k = 7 ∨ k = 15 then 4 else if k = 6 ∨ k = 16 then 8 else vsz (n % 18446744073709551616)
  | .s x => vsz (u8 x).size + (u8 x).size
  | .y a => vsz a.size + a.size
def IRange (k n : Int) : Prop :=
  ((k = 3 ∨ k = 16 ∨ k = 18) ∧ -9223372036854775808 ≤ n ∧ n < 9223372036854775808) ∨ ((k = 4 ∨ k = 6) ∧ 0 ≤ n ∧ n < 18446744073709551616) ∨
  ((k = 5 ∨ k = 14 ∨ k = 15 ∨ k = 17) ∧ -2147483648 ≤ n ∧ n < 2147483648) ∨ ((k = 7 ∨ k = 13) ∧ 0 ≤ n ∧ n < 4294967296)
def VOk (k : Int) : V → Prop
  | .b _ => k = 8
  | .i n => IRange k n
  | .s x => k = 9 ∧ Good x ∧ (u8 x).size ≤ 1000000
  | .y a => k = 12 ∧ (a.size : Int) ≤ 1000000
theorem line_of {n : Nat} (h : n ≤ 1000000) : n ≤ sizeLine := by rw [sizeLine_eq]; omega
set_option maxHeartbeats 8000000 in
theorem c_told_i (w : World) (news : List (Addr × Obj)) (k : Int) (kt : Tok) (n : Int) (t : Tok) (x : Int) (u : Tok) (h0 : 0 ≤ n) (h1 : n < 536870912) (hv : IRange k x) : CSpec w 413 [.int k kt, .int n t, .int x u] news 7 60 (RInt news (tsz n + psz k (.i x))) := by
  unfold IRange at hv
  w_top off
  unfold CSpec
  k_fill
  intro p loose mean mg mb dp un gd cn cs a ccd cl outer A₀ base h₀ L m s Q E B F X N T hk hd hu hret
  refine wpAny_call ?_
  k_dflt cell_enter
  k_steps
  all_goals (first | (exfalso; omega) | (refine ret_int hret ?_ ?_ ?_; k_asm; k_asm))
  all_goals (simp only [psz]; repeat' split)
  all_goals (first | rfl | (exfalso; omega) | (rw [show x % 18446744073709551616 = x by omega]))
set_option maxHeartbeats 8000000 in
theorem c_told_b (w : World) (news : List (Addr × Obj)) (kt : Tok) (n : Int) (t : Tok) (x : Bool) (h0 : 0 ≤ n) (h1 : n < 536870912) : CSpec w 413 [.int 8 kt, .int n t, .bool x] news 7 60 (RInt news (tsz n + psz 8 (.b x))) := by
  w_top off
  unfold CSpec
  k_fill
  intro p loose mean mg mb dp un gd cn cs a ccd cl outer A₀ base h₀ L m s Q E B F X N T hk hd hu hret
  refine wpAny_call ?_
  k_dflt cell_enter
  k_steps
  all_goals (refine ret_int hret ?_ ?_ ?_; k_asm; k_asm)
  all_goals rfl
set_option maxHeartbeats 8000000 in
theorem c_told_s (w : World) (news : List (Addr × Obj)) (kt : Tok) (n : Int) (t : Tok) (x : Str) (u : Tok) (h0 : 0 ≤ n) (h1 : n < 536870912) (hg : Good x) (hz : (u8 x).size ≤ 1000000) : CSpec w 413 [.int 9 kt, .int n t, .str x u] news 7 60 (RInt news (tsz n + psz 9 (.s x))) := by
  have hz2 := line_of hz
  w_top off
  unfold CSpec
  k_fill
  intro p loose mean mg mb dp un gd cn cs a ccd cl outer A₀ base h₀ L m s Q E B F X N T hk hd hu hret
  refine wpAny_call ?_
  k_dflt cell_enter
  k_steps
  all_goals (refine ret_int hret ?_ ?_ ?_; k_asm; k_asm)
  all_goals (show _ = tsz n + (vsz (u8 x).size + (u8 x).size); omega)
set_option maxHeartbeats 8000000 in
theorem c_told_y (w : World) (news : List (Addr × Obj)) (kt : Tok) (n : Int) (t : Tok) (x : Array UInt8) (u : Tok) (h0 : 0 ≤ n) (h1 : n < 536870912) (hz : (x.size : Int) ≤ 1000000) : CSpec w 413 [.int 12 kt, .int n t, .bytes x u] news 7 60 (RInt news (tsz n + psz 12 (.y x))) := by
  w_top off
  unfold CSpec
  k_fill
  intro p loose mean mg mb dp un gd cn cs a ccd cl outer A₀ base h₀ L m s Q E B F X N T hk hd hu hret
  refine wpAny_call ?_
  k_dflt cell_enter
  k_steps
  all_goals (refine ret_int hret ?_ ?_ ?_; k_asm; k_asm)
  all_goals (show _ = tsz n + (vsz x.size + x.size); omega)
theorem c_told (w : World) (news : List (Addr × Obj)) (k : Int) (kt : Tok) (n : Int) (t : Tok) (v : V) (u : Tok) (h0 : 0 ≤ n) (h1 : n < 536870912) (hv : VOk k v) : CSpec w 413 [.int k kt, .int n t, v.val u] news 7 60 (RInt news (tsz n + psz k v)) := by
  cases v with
  | b x => cases hv; exact c_told_b w news kt n t x h0 h1
  | i x => exact c_told_i w news k kt n t x u h0 h1 hv
  | s x => obtain ⟨e, hg, hz⟩ := hv; cases e; exact c_told_s w news kt n t x u h0 h1 hg hz
  | y x => obtain ⟨e, hz⟩ := hv; cases e; exact c_told_y w news kt n t x u h0 h1 hz
end
section -- Bare


theorem ret_bytes {h₀ h' : Heap} {L : Addr} {m : Str → Option Value} {news : List (Addr × Obj)} {s : Shared} {Q : Value → Shared → Prop} {x : Int} {a : Array UInt8} {t : Tok} {tk' : Nat}
    (hret : ∀ v h' tk' news', RBytes news x v news' → Fr h₀ L h' m → News h₀ L h' news' → Q v { s with heap := h', toks := tk' }) (F : Fr h₀ L h' m) (N : News h₀ L h' news) (e : (a.size : Int) = x) : Q (.bytes a t) { s with heap := h', toks := tk' } :=
  hret _ _ _ _ ⟨⟨a, t, rfl, e⟩, rfl⟩ F N
theorem sz_le1 {a : Array UInt8} (h : (a.size : Int) = 1) : (a.size : Int) ≤ 10 := by omega
theorem psz_i_le (k n : Int) : psz k (.i n) ≤ 10 ∧ 1 ≤ psz k (.i n) := by
  have h1 := vsz_pos (zz n)
  have h2 := vsz_pos (n % 18446744073709551616)
  simp only [psz]
  repeat' split
  all_goals omega
theorem sz_lep {a : Array UInt8} {k n : Int} (h : (a.size : Int) = psz k (.i n)) : (a.size : Int) ≤ 10 := by have := psz_i_le k n; omega
section
variable {prog : Program} {w : World} {A : Around} {E : Value → Shared → Prop} {s : Shared}
theorem shl1 {k c : Int} {t u : Tok} {Q : Value → Shared → Prop} (h0 : 0 ≤ k) (h1 : k ≤ 1000000) (e : (2 : Int) ^ k.toNat = c) (h : Q (.int c s.toks) { s with toks := s.toks + 1 }) : wpAny (model prog w) A (binaryOp .LShift (.int 1 t) (.int k u)) Q E s :=
  lshift_int_small h0 h1 (by decide) (by rw [Int.one_mul, e]; exact h)
theorem mod_pos {a b : Int} {t u : Tok} {Q : Value → Shared → Prop} (hb : 0 < b) (h : Q (.int (a % b) s.toks) { s with toks := s.toks + 1 }) : wpAny (model prog w) A (binaryOp .Mod (.int a t) (.int b u)) Q E s :=
  mod_int' (by omega) (by rw [Int.fmod_eq_emod_of_nonneg _ (by omega)]; exact h)
end
theorem len_line {ys : List Value} {l : List Int} (h : ys.length = l.length) (h2 : l.length ≤ 1000) : ys.length ≤ sizeLine := by rw [sizeLine_eq]; omega
theorem any2 {a b k : Int} : ([a, b].any fun x => x == k) = true ↔ (a = k ∨ b = k) := by simp
theorem any2f {a b k : Int} : ([a, b].any fun x => x == k) = false ↔ (¬ a = k ∧ ¬ b = k) := by simp
theorem in255 (f : Int → Int) (ks : List Int) : ∀ n ∈ ks.map (fun k' => Builtin.bitAnd (f k') 255), 0 ≤ n ∧ n < 256 := by
  intro n hn
  obtain ⟨k, _, rfl⟩ := List.mem_map.mp hn
  have := bitAnd_range (f k) (y := 255) (by decide)
  omega
set_option maxHeartbeats 8000000 in
theorem c_bare_b (w : World) (news : List (Addr × Obj)) (kt : Tok) (x : Bool) : CSpec w 385 [.int 8 kt, .bool x] news 2 20 (RBytes news 1) := by
  w_top off
  unfold CSpec
  k_fill
  intro p loose mean mg mb dp un gd cn cs a ccd cl outer A₀ base h₀ L m s Q E B F X N T hk hd hu hret
  refine wpAny_call ?_
  k_dflt (refine' code_defC ?k1 ?k2 ?k3 ?k4 ?k5 ?kA ?kF ?kK ?k6 ?k7 ?k8 ?k9 ?kB ?kD ?_ ?c2 ?c3 ?c4; (case kA => exact rfl); (case kF => exact rfl); (case kK => assumption); (case k1 => k_asm); (case k2 => k_asm); (case k3 => k_asm); (case k4 => k_asm); (case k5 => k_asm); (case k6 => k_is); (case k7 => k_is); (case k8 => ktr_room); (case k9 => exact BindsTo.of_eq rfl); (case kB => exact rfl); (case kD => decide +kernel); (case c2 => exact rfl); (case c3 => exact rfl); (case c4 => exact rfl); k_whole; intro g' L' h' tk' cells' FG' F' N' Y' B' X' T' l1; (try k_lt l1); k_cells Y'; (try simp only [List.cons_append, List.nil_append] at N'); (try dsimp only); (try k_lift B'); (try k_fold))
  k_steps
  all_goals (refine ret_bytes hret ?_ ?_ ?_; k_asm; (first | k_asm | (refine cb_drop (by assumption) ?_; intro _ hp; repeat (first | exact hp | refine List.mem_cons_of_mem _ ?_))))
  all_goals rfl
set_option maxHeartbeats 8000000 in
theorem c_bare_i (w : World) (news : List (Addr × Obj)) (k : Int) (kt : Tok) (x : Int) (u : Tok) (hv : IRange k x) : CSpec w 385 [.int k kt, .int x u] news 2 20 (RBytes news (psz k (.i x))) := by
  unfold IRange at hv
  w_top off
  unfold CSpec
  k_fill
  intro p loose mean mg mb dp un gd cn cs a ccd cl outer A₀ base h₀ L m s Q E B F X N T hk hd hu hret
  refine wpAny_call ?_
  k_dflt (refine' code_defC ?k1 ?k2 ?k3 ?k4 ?k5 ?kA ?kF ?kK ?k6 ?k7 ?k8 ?k9 ?kB ?kD ?_ ?c2 ?c3 ?c4; (case kA => exact rfl); (case kF => exact rfl); (case kK => assumption); (case k1 => k_asm); (case k2 => k_asm); (case k3 => k_asm); (case k4 => k_asm); (case k5 => k_asm); (case k6 => k_is); (case k7 => k_is); (case k8 => ktr_room); (case k9 => exact BindsTo.of_eq rfl); (case kB => exact rfl); (case kD => decide +kernel); (case c2 => exact rfl); (case c3 => exact rfl); (case c4 => exact rfl); k_whole; intro g' L' h' tk' cells' FG' F' N' Y' B' X' T' l1; (try k_lt l1); k_cells Y'; (try simp only [List.cons_append, List.nil_append] at N'); (try dsimp only); (try k_lift B'); (try k_fold))
  k_steps
  all_goals (first | (exfalso; omega) | (refine ret_bytes hret ?_ ?_ ?_; k_asm; (first | k_asm | (refine cb_drop (by assumption) ?_; intro _ hp; repeat (first | exact hp | refine List.mem_cons_of_mem _ ?_)))))
  all_goals ((try simp only [any2, any2f] at *); simp only [psz]; repeat' split)
  all_goals (first | (exfalso; omega) | assumption | (rw [List.size_toArray, List.length_map, List.length_map, rangeKs_length]; rfl) | (unfold zz; rw [if_pos (by omega)]; assumption) | (unfold zz; rw [if_neg (by omega)]; assumption) | (exfalso; omega))
end
section -- Size



theorem ret_intD {h₀ h' : Heap} {L : Addr} {m : Str → Option Value} {news : List (Addr × Obj)} {s : Shared} {Q : Value → Shared → Prop} {x y : Int} {t : Tok} {tk' : Nat}
    (hret : ∀ v h' tk' news', RInt news x v news' → Fr h₀ L h' m → News h₀ L h' news' → Q v { s with heap := h', toks := tk' }) (F : Fr h₀ L h' m) (N : News h₀ L h' news) (e : y = x) : Q (.int y t) { s with heap := h', toks := tk' } := ret_int hret F N e
set_option maxHeartbeats 8000000 in
theorem c_size_b (w : World) (news : List (Addr × Obj)) (kt : Tok) (x : Bool) : CSpec w 399 [.int 8 kt, .bool x] news 4 40 (RInt news (psz 8 (.b x))) := by
  w_top off
  unfold CSpec
  k_fill
  intro p loose mean mg mb dp un gd cn cs a ccd cl outer A₀ base h₀ L m s Q E B F X N T hk hd hu hret
  refine wpAny_call ?_
  k_dflt cell_enter
  k_steps
  all_goals (refine ret_int hret ?_ ?_ ?_; k_asm; (first | k_asm | (refine cb_drop (by assumption) ?_; intro _ hp; repeat (first | exact hp | refine List.mem_cons_of_mem _ ?_))))
  all_goals assumption
set_option maxHeartbeats 8000000 in
theorem c_size_i (w : World) (news : List (Addr × Obj)) (k : Int) (kt : Tok) (x : Int) (u : Tok) (hv : IRange k x) : CSpec w 399 [.int k kt, .int x u] news 4 40 (RInt news (psz k (.i x))) := by
  have hv' := hv
  unfold IRange at hv'
  w_top off
  unfold CSpec
  k_fill
  intro p loose mean mg mb dp un gd cn cs a ccd cl outer A₀ base h₀ L m s Q E B F X N T hk hd hu hret
  refine wpAny_call ?_
  k_dflt cell_enter
  k_steps
  all_goals ((try simp only [any2, any2f] at *); first | (exfalso; omega) | (refine ret_int hret ?_ ?_ ?_; k_asm; (first | k_asm | (refine cb_drop (by assumption) ?_; intro _ hp; repeat (first | exact hp | refine List.mem_cons_of_mem _ ?_)))))
  all_goals assumption
set_option maxHeartbeats 8000000 in
theorem c_size_s (w : World) (news : List (Addr × Obj)) (kt : Tok) (x : Str) (u : Tok) (hg : Good x) (hz : (u8 x).size ≤ 1000000) : CSpec w 399 [.int 9 kt, .str x u] news 4 40 (RInt news (psz 9 (.s x))) := by
  have hz2 := line_of hz
  w_top off
  unfold CSpec
  k_fill
  intro p loose mean mg mb dp un gd cn cs a ccd cl outer A₀ base h₀ L m s Q E B F X N T hk hd hu hret
  refine wpAny_call ?_
  k_dflt cell_enter
  k_steps
  all_goals (refine ret_int hret ?_ ?_ ?_; k_asm; (first | k_asm | (refine cb_drop (by assumption) ?_; intro _ hp; repeat (first | exact hp | refine List.mem_cons_of_mem _ ?_))))
  all_goals (show _ = vsz (u8 x).size + (u8 x).size; omega)
set_option maxHeartbeats 8000000 in
theorem c_size_y (w : World) (news : List (Addr × Obj)) (kt : Tok) (x : Array UInt8) (u : Tok) (hz : (x.size : Int) ≤ 1000000) : CSpec w 399 [.int 12 kt, .bytes x u] news 4 40 (RInt news (psz 12 (.y x))) := by
  w_top off
  unfold CSpec
  k_fill
  intro p loose mean mg mb dp un gd cn cs a ccd cl outer A₀ base h₀ L m s Q E B F X N T hk hd hu hret
  refine wpAny_call ?_
  k_dflt cell_enter
  k_steps
  all_goals (refine ret_int hret ?_ ?_ ?_; k_asm; (first | k_asm | (refine cb_drop (by assumption) ?_; intro _ hp; repeat (first | exact hp | refine List.mem_cons_of_mem _ ?_))))
  all_goals (show _ = vsz x.size + x.size; omega)
theorem c_size (w : World) (news : List (Addr × Obj)) (k : Int) (kt : Tok) (v : V) (u : Tok) (hv : VOk k v) : CSpec w 399 [.int k kt, v.val u] news 4 40 (RInt news (psz k v)) := by
  cases v with
  | b x => cases hv; exact c_size_b w news kt x
  | i x => exact c_size_i w news k kt x u hv
  | s x => obtain ⟨e, hg, hz⟩ := hv; cases e; exact c_size_s w news kt x u hg hz
  | y x => obtain ⟨e, hz⟩ := hv; cases e; exact c_size_y w news kt x u hz
end
end Mine
end
section -- group B
open PySem PySem.W PyProof.Rows PySem.Calls PySem.Spec
namespace Mine
local macro_rules | `(tactic| walk_at "exec If") => `(tactic| (k_here; with_reducible refine wpAny_If ?_))
local macro_rules | `(tactic| walk_at "isTrue Compare") => `(tactic| (k_here; with_reducible refine wpAny_isTrue_Compare1 ?_))
local macro_rules | `(tactic| walk_at "ite") => `(tactic| first | with_reducible refine ite_tt ?_ | with_reducible refine ite_ff ?_)
local macro_rules | `(tactic| walk_at "eval BinOp") => `(tactic| (k_here; (fail_if_success (with_reducible show wpAny _ _ _ (fun y s => SeqLeaf (Carried y _ ∧ Keeps _ s)) _ _)); refine wpAny_BinOp ?_))
local macro_rules | `(tactic| walk_at "eval Name") => `(tactic| (k_here; (name_kind "globalImplicit"); k_dflt (refine' nameX_K ?F ?X ?T ?e ?_ ?a ?b; (case F => k_asm); (case X => k_asm); (case T => k_asm); (case a => rfl); (case b => rfl); (case e => k_is); k_whole)))
local macro_rules | `(tactic| walk_at "eval Name") => `(tactic| (k_here; (name_kind "local"); k_dflt (refine' nameX_L ?F ?v ?_ ?a ?b; (case F => k_asm); (case a => rfl); (case b => rfl); (case v => rfl); k_whole)))
local macro_rules | `(tactic| walk_at "exec Assign") => `(tactic| (k_here; (with_reducible show wpAny _ _ (exec (Stmt.Assign [Expr.Name _ _] _ _) _) _ _ _); k_dflt (refine wpAny_Assign_Name ?_)))
local macro_rules | `(tactic| walk_at "storeName") => `(tactic| (k_here; k_dflt (refine' storeX_L ?F ?N ?_ ?a ?b; (case F => k_asm); (case N => k_asm); (case a => rfl); (case b => rfl); k_whole; intro h' F' N'; (try k_sweep))))
local macro_rules | `(tactic| walk_at "compareOp NotEq ref ref") => `(tactic| (k_here; k_dflt (refine' $(Lean.mkIdent `Mine.ne_consK) ?k1 ?k2 ?k3 ?k4 ?k5 ?_; (case k1 => exact News.isList (by k_asm) (by k_mem)); (case k2 => exact IntsAre.cons _ _ (by assumption)); (case k3 => exact List.cons_ne_nil _ _); (case k4 => exact News.isList (by k_asm) (by k_mem)); (case k5 => ktr_units))))
local macro_rules | `(tactic| walk_at "compareOp NotEq ref ref") => `(tactic| (k_here; k_dflt (refine' $(Lean.mkIdent `Mine.ne_nilK) ?k1 ?k4 ?k5 ?_; (case k1 => exact News.isList (by k_asm) (by k_mem)); (case k4 => exact News.isList (by k_asm) (by k_mem)); (case k5 => ktr_units))))
local macro_rules | `(tactic| walk_at "call builtin:list.pop") => `(tactic| (k_here; k_dflt (refine' kl_popAt (p := []) ?F ?N ?f ?k ?e ?U ?z ?_; (case F => k_asm); (case N => k_asm); (case U => k_upd); (case f => rfl); (case k => exact $(Lean.mkIdent `Mine.seq0)); (case e => exact rfl); (case z => exact $(Lean.mkIdent `Mine.cons_line) (by assumption))); kl_rest))
local macro_rules | `(tactic| walk_at "execs nil") => `(tactic| (k_here; k_dflt (refine wpAny_execs_nil ?_)))
local macro_rules | `(tactic| walk_at "eval ListComp") => `(tactic| (k_here; k_dflt (refine LCg.ListComp_U (F₀ := by k_asm) (by rfl) (by decide) (by rfl) (by decide) (by rfl) ?_)))
local macro_rules | `(tactic| walk_at "binaryOp Mult str int") => `(tactic| (k_here; k_dflt (refine SB.mul ($(Lean.mkIdent `Mine.short_mulOk) 20001 (by assumption) (by omega) (by decide) (by assumption)) ?_); intro _ _))
local macro_rules | `(tactic| walk_at "eval ListComp") => `(tactic| (k_here; k_dflt (refine LCg.ListComp_U (F₀ := by k_asm) (by with_unfolding_all rfl) (by decide) (by rfl) (by decide) (by rfl) ?_)))
local macro_rules | `(tactic| walk_at "CompSrc") => `(tactic| (k_here; k_dflt (refine $(Lean.mkIdent `Mine.Halt.go) ?_)))
local macro_rules | `(tactic| walk_at "compareOp Eq int int") => `(tactic| (k_here; k_dflt (refine $(Lean.mkIdent `Mine.eq_no) (by assumption) ?_)))
local macro_rules | `(tactic| walk_at "binaryOp LShift int int") => `(tactic| (k_here; (with_reducible show wpAny _ _ (binaryOp Operator.LShift (Value.int 1 _) (Value.int 64 _)) _ _ _); k_dflt (refine $(Lean.mkIdent `Mine.shl1) (c := 18446744073709551616) (by decide) (by decide) (by decide) ?_)))
local macro_rules | `(tactic| walk_at "binaryOp LShift int int") => `(tactic| (k_here; (with_reducible show wpAny _ _ (binaryOp Operator.LShift (Value.int 1 _) (Value.int 32 _)) _ _ _); k_dflt (refine $(Lean.mkIdent `Mine.shl1) (c := 4294967296) (by decide) (by decide) (by decide) ?_)))
local macro_rules | `(tactic| walk_at "binaryOp LShift int int") => `(tactic| (k_here; (with_reducible show wpAny _ _ (binaryOp Operator.LShift (Value.int 1 _) (Value.int (64 - 1) _)) _ _ _); k_dflt (refine $(Lean.mkIdent `Mine.shl1) (c := 9223372036854775808) (by decide) (by decide) (by decide) ?_)))
local macro_rules | `(tactic| walk_at "binaryOp LShift int int") => `(tactic| (k_here; (with_reducible show wpAny _ _ (binaryOp Operator.LShift (Value.int 1 _) (Value.int (32 - 1) _)) _ _ _); k_dflt (refine $(Lean.mkIdent `Mine.shl1) (c := 2147483648) (by decide) (by decide) (by decide) ?_)))
local macro_rules | `(tactic| walk_at "eval Call") => `(tactic| (k_here; (with_reducible show wpAny _ _ (eval (Expr.Call (Expr.Name _ _) _ _ _) _) _ _ _); (fail_if_success (with_reducible show wpAny _ _ _ (fun y s => SeqLeaf (Carried y _ ∧ Keeps _ s)) _ _)); k_dflt (refine Call_ ?_)))
local macro_rules | `(tactic| walk_at "call ref") => `(tactic| (k_here; (with_reducible show wpAny _ _ (call (Value.ref 361) [Value.ref _, Value.int _ _]) _ _ _); k_dflt ((first | (refine' $(Lean.mkIdent `Mine.cs_use) ($(Lean.mkIdent `Mine.c_take) _ _ _ _ _ _ ?kD ?kO _ _ ?kP) ?k1 ?k2 ?k3 ?k4 ?k5 ?kK ?kd ?ku ?_; (case k4 => k_asm)) | (refine' $(Lean.mkIdent `Mine.cs_use) ($(Lean.mkIdent `Mine.c_take) _ _ _ _ _ _ ?kD ?kO _ _ ?kP) ?k1 ?k2 ?k3 ?k4 ?k5 ?kK ?kd ?ku ?_; (case k4 => exact $(Lean.mkIdent `Mine.news_rot1) (by k_asm))) | (refine' $(Lean.mkIdent `Mine.cs_use) ($(Lean.mkIdent `Mine.c_take) _ _ _ _ _ _ ?kD ?kO _ _ ?kP) ?k1 ?k2 ?k3 ?k4 ?k5 ?kK ?kd ?ku ?_; (case k4 => exact $(Lean.mkIdent `Mine.news_rot2) (by k_asm))) | (refine' $(Lean.mkIdent `Mine.cs_use) ($(Lean.mkIdent `Mine.c_take) _ _ _ _ _ _ ?kD ?kO _ _ ?kP) ?k1 ?k2 ?k3 ?k4 ?k5 ?kK ?kd ?ku ?_; (case k4 => exact $(Lean.mkIdent `Mine.news_rot3) (by k_asm)))); (case k1 => k_asm); (case k2 => k_asm); (case k3 => k_asm); (case k5 => k_asm); (case kK => first | exact rfl | assumption); (case kd => ktr_room); (case ku => ktr_units); (case kD => assumption); (case kP => first | decide | omega | exact ($(Lean.mkIdent `Mine.menu5) (by assumption) (by assumption)).1 | fail "kP"); (case kO => first | assumption | exact $(Lean.mkIdent `Mine.off_cons) (by assumption) (by k_ne) (by k_ne) | exact $(Lean.mkIdent `Mine.off_cons) ($(Lean.mkIdent `Mine.off_cons) (by assumption) (by k_ne) (by k_ne)) (by k_ne) (by k_ne) | exact $(Lean.mkIdent `Mine.off_cons) ($(Lean.mkIdent `Mine.off_cons) ($(Lean.mkIdent `Mine.off_cons) (by assumption) (by k_ne) (by k_ne)) (by k_ne) (by k_ne)) (by k_ne) (by k_ne))); intro v9 h9 tk9 n9 hR9 F9 N9; obtain ⟨r9, t9, ol9, od9, hv9, hr9, hs9, hD9, hn9⟩ := hR9; subst hv9; subst hn9; (try dsimp only); (try k_fold)))
local macro_rules | `(tactic| walk_at "subscriptTail") => `(tactic| (k_here; (with_reducible show wpAny _ _ (subscriptTail _ _ (Value.ref _) (Value.int _ _)) _ _ _); k_dflt (refine' $(Lean.mkIdent `Mine.text_item) ?kl ?kS ?k0 ?k1 ?kz ?_ ?ks; (case kl => exact News.isList (by k_asm) (by k_mem)); (case kS => (repeat (refine List.forall_mem_cons.mpr ⟨⟨_, _, rfl, $(Lean.mkIdent `Mine.short_of) (by decide +kernel) (by decide +kernel) (by decide +kernel)⟩, ?_⟩)); exact List.forall_mem_nil _); (case k0 => assumption); (case k1 => (simp only [List.length_cons, List.length_nil]; omega)); (case kz => (simp only [List.length_cons, List.length_nil]; omega)); (case ks => with_unfolding_all rfl)); intro x9 t9 hS9))
local macro_rules | `(tactic| walk_at "binaryOp Mult str int") => `(tactic| (k_here; k_dflt (refine SB.mul ($(Lean.mkIdent `Mine.short_mulOk) 20001 ($(Lean.mkIdent `Mine.menu7) (by assumption) (by assumption) (by assumption) (by assumption)).1 ($(Lean.mkIdent `Mine.menu7) (by assumption) (by assumption) (by assumption) (by assumption)).2 (by decide) (by assumption)) ?_); intro _ _))
local macro_rules | `(tactic| walk_at "binaryOp Mult bytes int") => `(tactic| (k_here; k_dflt (refine $(Lean.mkIdent `Mine.mul_byte) ($(Lean.mkIdent `Mine.menu7) (by assumption) (by assumption) (by assumption) (by assumption)).1 ($(Lean.mkIdent `Mine.menu7) (by assumption) (by assumption) (by assumption) (by assumption)).2 ?_); intro a9 _ _ hz9))
local macro_rules | `(tactic| walk_at "callWith ref") => `(tactic| (k_here; k_dflt (refine' callWith_K ?k1 ?k2 ?_; (case k1 => k_asm); (case k2 => k_is); k_whole)))
section -- Take

def DrawO (l : Addr) (ol od : Obj) : Prop :=
  ∃ (vs : List Value) (xs : List Int) (n : Nat) (sd : Int) (tk : Tok) (n2 : Nat), IntsAre vs xs ∧ 0 ≤ sd ∧ sd < 2147483648 ∧ vs.length ≤ 63 ∧ ol = W.listOf vs.toArray n ∧ od = W.listOf #[.ref l, .int sd tk] n2
def Off2 (l d : Addr) (rest : List (Addr × Obj)) : Prop := l ≠ d ∧ (∀ p ∈ rest, p.1 ≠ l) ∧ (∀ p ∈ rest, p.1 ≠ d)
/-- a draw: an int below the bound, the draw's own two lists turned -/
def RTake (l d : Addr) (rest : List (Addr × Obj)) (k : Int) : Value → List (Addr × Obj) → Prop := fun v news' =>
  ∃ r t ol od, v = .int r t ∧ 0 ≤ r ∧ r < k ∧ DrawO l ol od ∧ news' = (l, ol) :: (d, od) :: rest
section
variable {prog : Program} {w : World} {A : Around} {E : Value → Shared → Prop} {s : Shared}
theorem ne_consK {a b : Addr} {vs : List Value} {ns : List Int} {Q : Value → Shared → Prop} (hl : s.heap.IsList a vs.toArray) (hi : IntsAre vs ns) (hc : ns ≠ []) (hl' : s.heap.IsList b #[]) (hu : A.units + 64 < cLine)
    (h : Q (.bool true) s) : wpAny (model prog w) A (compareOp .NotEq (.ref a) (.ref b)) Q E s :=
  ne_intsK (us := []) (ms := []) hl hi hl' .nil hu (by rw [decide_eq_false hc]; exact h)
theorem ne_nilK {a b : Addr} {Q : Value → Shared → Prop} (hl : s.heap.IsList a #[]) (hl' : s.heap.IsList b #[]) (hu : A.units + 64 < cLine)
    (h : Q (.bool false) s) : wpAny (model prog w) A (compareOp .NotEq (.ref a) (.ref b)) Q E s :=
  ne_intsK (vs := []) (ns := []) (us := []) (ms := []) hl .nil hl' .nil hu (by rw [decide_eq_true rfl]; exact h)
end
theorem fm_pos (a : Int) {k : Int} (h : 0 < k) : 0 ≤ a.fmod k ∧ a.fmod k < k := by
  rw [Int.fmod_eq_emod_of_nonneg _ (by omega)]
  exact ⟨Int.emod_nonneg _ (by omega), Int.emod_lt_of_pos _ h⟩
theorem seq0 {v : Value} {vs : List Value} : seqIndex? 0 (List.toArray (v :: vs)).size = some 0 := by simp [seqIndex?]
theorem cons_line {v : Value} {vs : List Value} (h : vs.length ≤ 62) : (v :: vs).toArray.toList.length ≤ sizeLine := by
  rw [sizeLine_eq]; simp only [List.length_cons]; omega
local macro_rules | `(tactic| k_all) => `(tactic| (refine' List.forall_mem_cons.mpr ⟨?a, ?b⟩; (case a => first | k_ne | assumption | (refine neN ?_; (try dsimp only); exact Ne.symm (by assumption))); (case b => k_all)))
local macro_rules | `(tactic| k_all) => `(tactic| assumption)
local macro_rules | `(tactic| k_upd) => `(tactic| first | (refine' Upd.head ?a; (case a => k_all)) | (refine' Upd.tail ?a ?b; (case a => first | k_ne | assumption | exact Ne.symm (by assumption)); (case b => k_upd)))
set_option maxHeartbeats 8000000 in
theorem c_take_cons (w : World) (l d : Addr) (rest : List (Addr × Obj)) (vs : List Value) (xs : List Int) (x0 : Int) (t0 : Tok) (n : Nat) (sd : Int) (tk : Tok) (n2 : Nat) (hi : IntsAre vs xs) (hs0 : 0 ≤ sd) (hs1 : sd < 2147483648) (hlen : vs.length ≤ 62) (hld : l ≠ d) (h1 : ∀ p ∈ rest, p.1 ≠ l) (h2 : ∀ p ∈ rest, p.1 ≠ d)
   (k : Int) (kt : Tok) (hk0 : 0 < k) : CSpec w 361 [.ref d, .int k kt] ((l, W.listOf (Value.int x0 t0 :: vs).toArray n) :: (d, W.listOf #[.ref l, .int sd tk] n2) :: rest) 2 100 (RTake l d rest k) := by
  w_top off
  unfold CSpec
  k_fill
  intro p loose mean mg mb dp un gd cn cs a ccd cl outer A₀ base h₀ L m s Q E B F X N T hk hd hu hret
  refine wpAny_call ?_
  k_dflt cell_enter
  k_steps
  · refine hret _ _ _ _ ⟨_, _, _, _, rfl, ?_, ?_, ⟨vs, xs, _, sd, _, _, hi, hs0, hs1, by omega, rfl, rfl⟩, rfl⟩ (by k_asm) (by (first | k_asm | (refine cb_drop (by assumption) ?_; intro _ hp; repeat (first | exact hp | refine List.mem_cons_of_mem _ ?_))))
    · exact (fm_pos _ hk0).1
    · exact (fm_pos _ hk0).2
set_option maxHeartbeats 8000000 in
theorem c_take_nil (w : World) (l d : Addr) (rest : List (Addr × Obj)) (n : Nat) (sd : Int) (tk : Tok) (n2 : Nat) (hs0 : 0 ≤ sd) (hs1 : sd < 2147483648) (hld : l ≠ d) (h1 : ∀ p ∈ rest, p.1 ≠ l) (h2 : ∀ p ∈ rest, p.1 ≠ d)
   (k : Int) (kt : Tok) (hk0 : 0 < k) : CSpec w 361 [.ref d, .int k kt] ((l, W.listOf #[] n) :: (d, W.listOf #[.ref l, .int sd tk] n2) :: rest) 2 100 (RTake l d rest k) := by
  w_top off
  unfold CSpec
  k_fill
  intro p loose mean mg mb dp un gd cn cs a ccd cl outer A₀ base h₀ L m s Q E B F X N T hk hd hu hret
  refine wpAny_call ?_
  k_dflt cell_enter
  k_steps
  · have e := fm_pos (sd * 48271) (k := 2147483647) (by decide)
    refine hret _ _ _ _ ⟨_, _, _, _, rfl, ?_, ?_, ⟨[], [], _, _, _, _, .nil, e.1, by omega, by simp, rfl, rfl⟩, rfl⟩ (by k_asm) (by (first | k_asm | (refine cb_drop (by assumption) ?_; intro _ hp; repeat (first | exact hp | refine List.mem_cons_of_mem _ ?_))))
    · exact (fm_pos _ hk0).1
    · exact (fm_pos _ hk0).2
theorem c_take (w : World) (l d : Addr) (ol od : Obj) (rest : List (Addr × Obj)) (D : DrawO l ol od) (O : Off2 l d rest) (k : Int) (kt : Tok) (hk0 : 0 < k) : CSpec w 361 [.ref d, .int k kt] ((l, ol) :: (d, od) :: rest) 2 100 (RTake l d rest k) := by
  obtain ⟨vs, xs, n, sd, tk, n2, hi, hs0, hs1, hlen, rfl, rfl⟩ := D
  obtain ⟨hld, h1, h2⟩ := O
  cases hi with
  | nil => exact c_take_nil w l d rest n sd tk n2 hs0 hs1 hld h1 h2 k kt hk0
  | cons x0 t0 hi => exact c_take_cons w l d rest _ _ x0 t0 n sd tk n2 hi hs0 hs1 (by simp only [List.length_cons] at hlen; omega) hld h1 h2 k kt hk0
end
section -- Num

theorem news_rot1 {h₀ h : Heap} {L : Addr} {a b e : Addr × Obj} {r : List (Addr × Obj)} (N : News h₀ L h (e :: a :: b :: r)) : News h₀ L h (a :: b :: e :: r) := cb_drop N (by simp; grind)
theorem news_rot2 {h₀ h : Heap} {L : Addr} {a b e f : Addr × Obj} {r : List (Addr × Obj)} (N : News h₀ L h (e :: f :: a :: b :: r)) : News h₀ L h (a :: b :: e :: f :: r) := cb_drop N (by simp; grind)
theorem news_rot3 {h₀ h : Heap} {L : Addr} {a b e f g : Addr × Obj} {r : List (Addr × Obj)} (N : News h₀ L h (e :: f :: g :: a :: b :: r)) : News h₀ L h (a :: b :: e :: f :: g :: r) := cb_drop N (by simp; grind)
theorem off_cons {l d : Addr} {rest : List (Addr × Obj)} {e : Addr × Obj} (O : Off2 l d rest) (h1 : e.1 ≠ l) (h2 : e.1 ≠ d) : Off2 l d (e :: rest) :=
  ⟨O.1, List.forall_mem_cons.mpr ⟨h1, O.2.1⟩, List.forall_mem_cons.mpr ⟨h2, O.2.2⟩⟩
theorem menu5 {r : Int} (h0 : 0 ≤ r) (h1 : r < 5) : 0 < [(15 : Int), 2047, 262143, 33554431, 536870911].getD r.toNat 0 ∧ [(15 : Int), 2047, 262143, 33554431, 536870911].getD r.toNat 0 ≤ 536870911 := by
  have h : r = 0 ∨ r = 1 ∨ r = 2 ∨ r = 3 ∨ r = 4 := by omega
  rcases h with rfl | rfl | rfl | rfl | rfl <;> decide
theorem menu5_lt {r q : Int} (hq : q < [(15 : Int), 2047, 262143, 33554431, 536870911].getD r.toNat 0) (h0 : 0 ≤ r) (h1 : r < 5) : 1 + q < 536870912 := by
  have := (menu5 h0 h1).2
  omega
theorem news_del3 {h₀ h : Heap} {L : Addr} {a b e : Addr × Obj} {r : List (Addr × Obj)} (N : News h₀ L h (a :: b :: e :: r)) : News h₀ L h (a :: b :: r) := cb_drop N (by simp; grind)
theorem news_del4 {h₀ h : Heap} {L : Addr} {a b e f : Addr × Obj} {r : List (Addr × Obj)} (N : News h₀ L h (a :: b :: e :: f :: r)) : News h₀ L h (a :: b :: r) := cb_drop N (by simp; grind)

def RNum (l d : Addr) (rest : List (Addr × Obj)) : Value → List (Addr × Obj) → Prop := fun v news' =>
  ∃ r t ol od, v = .int r t ∧ 1 ≤ r ∧ r < 536870912 ∧ DrawO l ol od ∧ news' = (l, ol) :: (d, od) :: rest
set_option maxHeartbeats 8000000 in
theorem c_num (w : World) (l d : Addr) (ol od : Obj) (rest : List (Addr × Obj)) (D : DrawO l ol od) (O : Off2 l d rest) : CSpec w 392 [.ref d] ((l, ol) :: (d, od) :: rest) 3 110 (RNum l d rest) := by
  w_top off
  unfold CSpec
  k_fill
  intro p loose mean mg mb dp un gd cn cs a ccd cl outer A₀ base h₀ L m s Q E B F X N T hk hd hu hret
  refine wpAny_call ?_
  k_dflt cell_enter
  k_steps
  refine hret _ _ _ _ ⟨_, _, _, _, rfl, ?_, ?_, by assumption, rfl⟩ (by k_asm) (news_del3 (by assumption))
  · omega
  · exact menu5_lt (by assumption) (by assumption) (by assumption)
end
section -- Comp

section
variable {prog : Program} {w : World} {A : Around} {s : Shared} {h₀ : Heap} {L : Addr} {m : Str → Option Value} {env : Env} {elt : Expr} {x : Str} {scope : Scope} {cl : List (Str × Addr)} {S : List (Addr × Obj) → Prop} {P : Nat → Value → Prop} {Fin : List Value → List (Addr × Obj) → Prop}
theorem compEnd_mono {s₁ s₂ : Shared} {I C D : Addr} {oI oC oD : Obj} {rest rest' : Value → List (Addr × Obj) → Prop} {y : Value} (h : LCg.CompEnd h₀ L m s₁ I oI C oC D oD S rest y s₂) (hr : ∀ n, rest y n → rest' y n) :
    LCg.CompEnd h₀ L m s₁ I oI C oC D oD S rest' y s₂ := by
  obtain ⟨h', tk, news', e, F, N, off, hS, r⟩ := h
  exact ⟨h', tk, news', e, F, N, off, hS, hr _ r⟩
/-- the turns of a comprehension, by what holds between them -/
theorem compRest_inv {n : Nat} (Inv : Nat → List Value → List (Addr × Obj) → Prop)
    (turn : ∀ i ys news, i < n → Inv i ys news → ∀ v I oI C oC D m₂ h tk (E' : Value → Shared → Prop), P i v → LCg.NsObj oC m₂ → m₂ x = some v → Fr h₀ L h m → News h₀ L h ((I, oI) :: (C, oC) :: (D, LCg.lst ys) :: news) → LCg.Off3 I C D news → ((@Ne Nat I C) ∧ (@Ne Nat I D) ∧ (@Ne Nat C D)) →
      wpAny (model prog w) A (eval elt (compEnvC scope cl C env)) (LCg.CompEnd h₀ L m { s with heap := h, toks := tk } I oI C oC D (LCg.lst ys) S (fun y news' => Inv (i + 1) (ys ++ [y]) news')) E' { s with heap := h, toks := tk })
    (fin : ∀ ys news, Inv n ys news → Fin ys news) : ∀ (k i : Nat) (ys : List Value) (news : List (Addr × Obj)), i + k = n → Inv i ys news → LCg.CompRest prog w A h₀ L m env elt x scope cl s S P Fin k i ys news := by
  intro k
  induction k with
  | zero => intro i ys news e hI; exact LCg.CompRest.zero (fin ys news (by rw [Nat.add_zero] at e; rw [← e]; exact hI))
  | succ k ih =>
    intro i ys news e hI
    refine LCg.CompRest.succ fun v I oI C oC D m₂ h tk E' hP hC hx F N off ne => ?_
    refine wpAny_mono (turn i ys news (by omega) hI v I oI C oC D m₂ h tk E' hP hC hx F N off ne) (fun y s₂ hy => ?_) fun _ _ e => e
    exact compEnd_mono hy fun n' hn => ih (i + 1) (ys ++ [y]) n' (by omega) hn
end
end
section -- Draw

def RDraw (news : List (Addr × Obj)) : Value → List (Addr × Obj) → Prop := fun v news' =>
  ∃ l d ol od, v = .ref d ∧ DrawO l ol od ∧ l ≠ d ∧ (∀ p ∈ news, p.1 < l) ∧ (∀ p ∈ news, p.1 < d) ∧ news' = (l, ol) :: (d, od) :: news
def CSpecL (w : World) (f : Addr) (args : List Value) (sl : Addr) (vs : List Value) (news : List (Addr × Obj)) (dN uN : Nat) (R : Value → List (Addr × Obj) → Prop) : Prop :=
  ∀ (p : Program) (loose : List Str) (mean : ExcName → Option Value) (mg mb : Str → Option Value) (dp un : Nat) (gd : Option (List Code)) (cn : Str) (cs : Scope) (a : Addr) (ccd : Value) (cl : List (Str × Addr)) (outer : List Env) (A₀ : Around) (base h₀ : Heap) (L : Addr) (m : Str → Option Value) (s : Shared) (Q E : Value → Shared → Prop),
    base.IsList sl vs.toArray →
    Below A₀ base outer h₀ → Fr h₀ L s.heap m → (hd.heap_39 w.params).In h₀ → News h₀ L s.heap news → Top p loose mean mg mb h₀ → cs.kind = .function →
    dp + dN < recursionLimit → un + uN < cLine →
    (∀ v h' tk' news', R v news' → Fr h₀ L h' m → News h₀ L h' news' → Q v { s with heap := h', toks := tk' }) →
    wpAny (model PySem.Challenge.rw_ae6019_01.row.prog w) (ktrTop dp un gd cn cs L a ccd cl outer) (call (.ref f) args) Q E s
theorem allLt_mem {d : Addr} : ∀ {l : List (Addr × Obj)}, AllLt d l → ∀ p ∈ l, p.1 < d
  | [], _, p, hp => nomatch hp
  | q :: r, h, p, hp => by
    rcases List.mem_cons.mp hp with e | e
    · rw [e]; exact h.1
    · exact allLt_mem h.2 p e
theorem news_sw3 {h₀ h : Heap} {L : Addr} {a b e : Addr × Obj} {r : List (Addr × Obj)} (N : News h₀ L h (a :: b :: e :: r)) : News h₀ L h (b :: a :: r) := cb_drop N (by simp; grind)
set_option maxHeartbeats 8000000 in
theorem c_draw (w : World) (sl : Addr) (vs : List Value) (ns : List Int) (hi : IntsAre vs ns) (hlen : ns.length ≤ 63) (news : List (Addr × Obj)) : CSpecL w 354 [.ref sl] sl vs news 2 110 (RDraw news) := by
  w_top off
  unfold CSpecL
  k_fill
  intro p loose mean mg mb dp un gd cn cs a ccd cl outer A₀ base h₀ L m s Q E hl B F X N T hk hd hu hret
  refine wpAny_call ?_
  k_dflt cell_enter
  k_with "pyIter ref" => k_state (fun _ seed => 0 ≤ seed ∧ seed < 2147483647) "seed"
  k_steps
  refine LCg.CompSrc.base rfl (by k_asm) (by k_asm) (by assumption) (by rw [List.size_toArray, sizeLine_eq]; omega) ?_
  intro g2
  refine compRest_inv (Inv := fun i ys news' => news' = news ∧ ys.length = i ∧ ∃ xs, IntsAre ys xs) ?_ ?_ _ 0 [] _ (Nat.zero_add _) ⟨rfl, rfl, [], .nil⟩
  · intro i ys news' hlt hI v I oI C oC D m₂ h tk E' hP hC hx FF NN off ne
    obtain ⟨rfl, hyl, xs, hxs⟩ := hI
    rename IntsAre vs ns => hi
    rename Heap.IsList _ sl vs.toArray => hls
    obtain ⟨n1, t1, rfl, hn1⟩ := IntsAre.at hi i v (by simpa using hP)
    k_steps
    refine LCg.CompEnd.intro (by k_asm) NN _ (fun _ hp => hp) off (Or.inl hls) ⟨rfl, ?_, _, intsAre_snoc hxs _ _⟩
    rw [List.length_append, hyl]; rfl
  · rintro ys news' ⟨rfl, hyl, xs, hxs⟩
    k_steps
    rename IntsAre _ (List.take 60 xs) => hw
    have hwl := hw.length
    have hl1 := hxs.length
    have hz : vs.toArray.size = vs.length := List.size_toArray ..
    refine hret _ _ _ _ ⟨_, _, _, _, rfl, ⟨_, _, _, _, _, _, hw, by assumption, by omega, by omega, rfl, rfl⟩, ?_, ?_, ?_, rfl⟩ (by k_asm) (news_sw3 (by k_asm))
    · k_ne
    · exact allLt_mem (And.right (by assumption))
    · exact allLt_mem (And.right (And.right (by assumption)))
end
section -- Kinds

def KOk (k wi bi : Int) : Prop :=
  (k = 3 ∧ wi = 0 ∧ bi = 64) ∨ (k = 4 ∧ wi = 0 ∧ bi = 64) ∨ (k = 5 ∧ wi = 0 ∧ bi = 32) ∨ (k = 6 ∧ wi = 1 ∧ bi = 64) ∨ (k = 7 ∧ wi = 5 ∧ bi = 32) ∨ (k = 8 ∧ wi = 0 ∧ bi = 1) ∨ (k = 9 ∧ wi = 2 ∧ bi = 0) ∨
  (k = 12 ∧ wi = 2 ∧ bi = 0) ∨ (k = 13 ∧ wi = 0 ∧ bi = 32) ∨ (k = 14 ∧ wi = 0 ∧ bi = 32) ∨ (k = 15 ∧ wi = 5 ∧ bi = 32) ∨ (k = 16 ∧ wi = 1 ∧ bi = 64) ∨ (k = 17 ∧ wi = 0 ∧ bi = 32) ∨ (k = 18 ∧ wi = 0 ∧ bi = 64)
theorem allLt_mono {a b : Addr} (h : a ≤ b) : ∀ {l : List (Addr × Obj)}, AllLt a l → AllLt b l
  | [], _ => trivial
  | _ :: _, x => ⟨Nat.lt_of_lt_of_le x.1 h, allLt_mono h x.2⟩
abbrev tup3 (a b c : Value) : Obj := { cls := .type "tuple", data := .seq #[a, b, c] }
def RKinds (news : List (Addr × Obj)) : Value → List (Addr × Obj) → Prop := fun v news' =>
  ∃ (K1 : Addr) (X : List (Addr × Obj)) (vs : List Value) (n : Nat), v = .ref K1 ∧ (∀ p ∈ X, AllLt p.1 news) ∧ (K1, W.listOf vs.toArray n) ∈ X ∧ vs.length = 14 ∧
    (∀ (i : Nat) (u : Value), vs[i]? = some u → ∃ (a : Addr) (k wi bi : Int) (t1 t2 t3 : Tok), u = .ref a ∧ (a, tup3 (.int k t1) (.int wi t2) (.int bi t3)) ∈ X ∧ KOk k wi bi) ∧ news' = X ++ news
set_option maxHeartbeats 8000000 in
theorem c_kinds (w : World) (news : List (Addr × Obj)) : CSpec w 375 [] news 2 110 (RKinds news) := by
  w_top off
  unfold CSpec
  k_fill
  intro p loose mean mg mb dp un gd cn cs a ccd cl outer A₀ base h₀ L m s Q E B F X N T hk hd hu hret
  refine wpAny_call ?_
  k_dflt cell_enter
  k_steps
  rename News h₀ L _ _ => nF
  refine hret _ _ _ _ ⟨_, [_, _, _, _, _, _, _, _, _, _, _, _, _, _, _], _, _, rfl, ?_, List.Mem.head _, ?_, ?_, rfl⟩ (by k_asm) nF
  · rename ∀ p ∈ news, p.1 < _ => hA
    have hL := fun (b : Addr) (hb : _ ≤ b) => allLt_mono hb (allLt_of hA)
    simp only [List.forall_mem_cons]
    refine ⟨?_, ?_, ?_, ?_, ?_, ?_, ?_, ?_, ?_, ?_, ?_, ?_, ?_, ?_, ?_, List.forall_mem_nil _⟩
    all_goals (refine hL _ ?_; first | exact Nat.le_refl _ | exact Nat.le_of_lt (by omega))
  · rfl
  · intro i u hu
    rcases i with _|_|_|_|_|_|_|_|_|_|_|_|_|_|i
    all_goals (first | (cases hu; exact ⟨_, _, _, _, _, _, _, rfl, by k_mem, by unfold KOk; decide⟩) | cases hu)
end
section -- Txt
/-! texts: their octets, repeated -/
def uw (l : List Nat) : Nat := (l.map fun c => (Str.utf8Of c).length).sum
theorem uw_append (a b : List Nat) : uw (a ++ b) = uw a + uw b := by simp [uw]
theorem u8_size (x : Str) : (u8 x).size = uw x.cps.toList := by
  have key : ∀ (l : List Nat) (acc : Array UInt8), (l.foldl (fun acc y => acc ++ (Str.utf8Of y).toArray) acc).size = acc.size + uw l := by
    intro l
    induction l with
    | nil => intro acc; simp [uw]
    | cons c r ih => intro acc; rw [List.foldl_cons, ih]; simp [uw]; omega
  unfold u8
  rw [← Array.foldl_toList]
  simpa using key x.cps.toList #[]
theorem rep_toList (a : Array Nat) (n : Nat) : ((List.replicate n a).foldl (· ++ ·) #[]).toList = (List.replicate n a.toList).flatten := by
  have key : ∀ (n : Nat) (acc : Array Nat), ((List.replicate n a).foldl (· ++ ·) acc).toList = acc.toList ++ (List.replicate n a.toList).flatten := by
    intro n
    induction n with
    | zero => intro acc; simp
    | succ n ih => intro acc; rw [List.replicate_succ, List.foldl_cons, ih, List.replicate_succ, List.flatten_cons]; simp
  simpa using key n #[]
theorem uw_rep (l : List Nat) (n : Nat) : uw (List.replicate n l).flatten = n * uw l := by
  induction n with
  | zero => simp [uw]
  | succ n ih => rw [List.replicate_succ, List.flatten_cons, uw_append, ih, Nat.succ_mul]; omega
theorem mul_toList (x : Str) {n : Int} (h : 0 ≤ n) : (Txt.mul x n).cps.toList = (List.replicate n.toNat x.cps.toList).flatten := by
  unfold Txt.mul
  by_cases h1 : n < 1
  · have e : n.toNat = 0 := by omega
    rw [if_pos h1, e]; rfl
  · rw [if_neg h1]
    by_cases h2 : (n == 1 || x.length == 0) = true
    · rw [if_pos h2]
      rcases Bool.or_eq_true_iff.mp h2 with q | q
      · have e : n.toNat = 1 := by have := beq_iff_eq.mp q; omega
        rw [e]; simp
      · have e : x.cps = #[] := Array.eq_empty_of_size_eq_zero (beq_iff_eq.mp q)
        rw [e]; simp
    · rw [if_neg h2]; exact rep_toList _ _
theorem good_mul {x : Str} {n : Int} (h : 0 ≤ n) (g : Good x) : Good (Txt.mul x n) := by
  intro c hc
  have hc' : c ∈ (Txt.mul x n).cps.toList := Array.mem_toList_iff.mpr hc
  rw [mul_toList x h] at hc'
  obtain ⟨l, hl, hcl⟩ := List.mem_flatten.mp hc'
  rw [(List.mem_replicate.mp hl).2] at hcl
  exact g c (Array.mem_toList_iff.mp hcl)
theorem u8_mul {x : Str} {n : Int} (h : 0 ≤ n) : (u8 (Txt.mul x n)).size = n.toNat * (u8 x).size := by
  rw [u8_size, u8_size, mul_toList x h, uw_rep]
/-- a short text -/
def Short (x : Str) : Prop := Good x ∧ (u8 x).size ≤ 5 ∧ x.length ≤ 2
theorem short_mul {x : Str} {n : Int} (N : Nat) (h : 0 ≤ n) (h2 : n ≤ N) (hN : N ≤ 100000) (S : Short x) : Good (Txt.mul x n) ∧ (u8 (Txt.mul x n)).size ≤ 1000000 := by
  refine ⟨good_mul h S.1, ?_⟩
  rw [u8_mul h]
  have h1 : n.toNat ≤ N := by omega
  have h3 := Nat.mul_le_mul h1 S.2.1
  omega
theorem short_mulOk {x : Str} {n : Int} (N : Nat) (h : 0 ≤ n) (h2 : n ≤ N) (hN : N ≤ 100000) (S : Short x) : MulOk x n :=
  mulOk_of 2 N S.2.2 h2 (by omega) (by omega) (by omega)
theorem short_0 : Short (Str.ofString "") := ⟨by intro c hc; revert c; decide, by decide, by decide⟩
theorem good_of {x : Str} (h : (x.cps.toList.all fun c => !Str.isSurrogate c) = true) : Good x := fun c hc => by
  have := List.all_eq_true.mp h c (Array.mem_toList_iff.mpr hc)
  simpa using this
theorem short_of {x : Str} (h : (x.cps.toList.all fun c => !Str.isSurrogate c) = true) (h1 : (u8 x).size ≤ 5) (h2 : x.length ≤ 2) : Short x := ⟨good_of h, h1, h2⟩
end
section -- Value

def RVal (l d : Addr) (rest : List (Addr × Obj)) (k : Int) : Value → List (Addr × Obj) → Prop := fun v news' =>
  ∃ x t ol od, v = V.val x t ∧ VOk k x ∧ DrawO l ol od ∧ news' = (l, ol) :: (d, od) :: rest
theorem sub_rot3 {A B C D E : Addr × Obj} {r : List (Addr × Obj)} : ∀ p ∈ C :: D :: E :: A :: B :: r, p ∈ A :: B :: C :: D :: E :: r := by simp; grind
theorem sub_del {A B C D : Addr × Obj} {r : List (Addr × Obj)} : ∀ p ∈ A :: B :: r, p ∈ C :: A :: B :: D :: r := by simp; grind
def Halt (P : Prop) : Prop := P
theorem Halt.go {P : Prop} (h : Halt P) : P := h
theorem Halt.out {P : Prop} (h : P) : Halt P := h
section
variable {prog : Program} {w : World} {A : Around} {E : Value → Shared → Prop} {s : Shared}
theorem item_at {value slice : PySem.Expr} {l : Addr} {vs : List Value} {k : Int} {u : Tok} {v : Value} {Q : Value → Shared → Prop}
    (hl : s.heap.IsList l vs.toArray) (h0 : 0 ≤ k) (hhi : k < 2 ^ 63) (hx : vs[k.toNat]? = some v) (h : Q v s)
    (hs : subscripted slice false (.ref l) (.int k u) = operate [.ref l, .int k u] (getItem (.ref l) (.int k u)) := by with_unfolding_all rfl) :
    wpAny (model prog w) A (subscriptTail value slice (.ref l) (.int k u)) Q E s :=
  tail_any hl.typeIs slot_list_getitem.lookup (wpAny_getItem_list hl h0 hhi (by simpa using hx) h) hs
theorem text_item {value slice : PySem.Expr} {l : Addr} {vs : List Value} {k : Int} {u : Tok} {Q : Value → Shared → Prop}
    (hl : s.heap.IsList l vs.toArray) (hS : ∀ v ∈ vs, ∃ x t, v = .str x t ∧ Short x) (h0 : 0 ≤ k) (h1 : k < vs.length) (hz : vs.length ≤ 100) (h : ∀ x t, Short x → Q (.str x t) s)
    (hs : subscripted slice false (.ref l) (.int k u) = operate [.ref l, .int k u] (getItem (.ref l) (.int k u)) := by with_unfolding_all rfl) :
    wpAny (model prog w) A (subscriptTail value slice (.ref l) (.int k u)) Q E s := by
  have hlt : k.toNat < vs.length := by omega
  obtain ⟨x, t, e, S⟩ := hS _ (List.getElem_mem hlt)
  exact item_at hl h0 (by omega) (by rw [List.getElem?_eq_getElem hlt, e]) (h x t S) hs
end

set_option maxHeartbeats 8000000 in
theorem c_value_8 (w : World) (l d : Addr) (ol od : Obj) (rest : List (Addr × Obj)) (D : DrawO l ol od) (O : Off2 l d rest) (kt bi bt) : CSpec w 380 [.ref d, .int 8 kt, .int bi bt] ((l, ol) :: (d, od) :: rest) 4 120 (RVal l d rest 8) := by
  w_top off
  unfold CSpec
  k_fill
  intro p loose mean mg mb dp un gd cn cs a ccd cl outer A₀ base h₀ L m s Q E B F X N T hk hd hu hret
  refine wpAny_call ?_
  k_dflt (refine' code_defC ?k1 ?k2 ?k3 ?k4 ?k5 ?kA ?kF ?kK ?k6 ?k7 ?k8 ?k9 ?kB ?kD ?_ ?c2 ?c3 ?c4; (case kA => exact rfl); (case kF => exact rfl); (case kK => assumption); (case k1 => k_asm); (case k2 => k_asm); (case k3 => k_asm); (case k4 => k_asm); (case k5 => k_asm); (case k6 => k_is); (case k7 => k_is); (case k8 => ktr_room); (case k9 => exact BindsTo.of_eq rfl); (case kB => exact rfl); (case kD => decide +kernel); (case c2 => exact rfl); (case c3 => exact rfl); (case c4 => exact rfl); k_whole; intro g' L' h' tk' cells' FG' F' N' Y' B' X' T' l1; (try k_lt l1); k_cells Y'; (try simp only [List.cons_append, List.nil_append] at N'); (try dsimp only); (try k_lift B'); (try k_fold))
  k_steps
  exact hret _ _ _ _ ⟨.b _, 0, _, _, rfl, rfl, by assumption, rfl⟩ (by k_asm) (news_del3 (by k_asm))
set_option maxHeartbeats 8000000 in
theorem c_value_9 (w : World) (l d : Addr) (ol od : Obj) (rest : List (Addr × Obj)) (D : DrawO l ol od) (O : Off2 l d rest) (kt bi bt) : CSpec w 380 [.ref d, .int 9 kt, .int bi bt] ((l, ol) :: (d, od) :: rest) 4 120 (RVal l d rest 9) := by
  w_top off
  unfold CSpec
  k_fill
  intro p loose mean mg mb dp un gd cn cs a ccd cl outer A₀ base h₀ L m s Q E B F X N T hk hd hu hret
  refine wpAny_call ?_
  k_dflt (refine' code_defC ?k1 ?k2 ?k3 ?k4 ?k5 ?kA ?kF ?kK ?k6 ?k7 ?k8 ?k9 ?kB ?kD ?_ ?c2 ?c3 ?c4; (case kA => exact rfl); (case kF => exact rfl); (case kK => assumption); (case k1 => k_asm); (case k2 => k_asm); (case k3 => k_asm); (case k4 => k_asm); (case k5 => k_asm); (case k6 => k_is); (case k7 => k_is); (case k8 => ktr_room); (case k9 => exact BindsTo.of_eq rfl); (case kB => exact rfl); (case kD => decide +kernel); (case c2 => exact rfl); (case c3 => exact rfl); (case c4 => exact rfl); k_whole; intro g' L' h' tk' cells' FG' F' N' Y' B' X' T' l1; (try k_lt l1); k_cells Y'; (try simp only [List.cons_append, List.nil_append] at N'); (try dsimp only); (try k_lift B'); (try k_fold))
  k_steps
  exact hret _ _ _ _ ⟨.s _, _, _, _, rfl, ⟨rfl, short_mul 20001 (by assumption) (by omega) (by decide) (by assumption)⟩, by assumption, rfl⟩ (by k_asm) (news_del4 (by k_asm))
set_option maxHeartbeats 8000000 in
theorem c_value_12 (w : World) (l d : Addr) (ol od : Obj) (rest : List (Addr × Obj)) (D : DrawO l ol od) (O : Off2 l d rest) (kt bi bt) : CSpec w 380 [.ref d, .int 12 kt, .int bi bt] ((l, ol) :: (d, od) :: rest) 4 120 (RVal l d rest 12) := by
  w_top off
  unfold CSpec
  k_fill
  intro p loose mean mg mb dp un gd cn cs a ccd cl outer A₀ base h₀ L m s Q E B F X N T hk hd hu hret
  refine wpAny_call ?_
  k_dflt (refine' code_defC ?k1 ?k2 ?k3 ?k4 ?k5 ?kA ?kF ?kK ?k6 ?k7 ?k8 ?k9 ?kB ?kD ?_ ?c2 ?c3 ?c4; (case kA => exact rfl); (case kF => exact rfl); (case kK => assumption); (case k1 => k_asm); (case k2 => k_asm); (case k3 => k_asm); (case k4 => k_asm); (case k5 => k_asm); (case k6 => k_is); (case k7 => k_is); (case k8 => ktr_room); (case k9 => exact BindsTo.of_eq rfl); (case kB => exact rfl); (case kD => decide +kernel); (case c2 => exact rfl); (case c3 => exact rfl); (case c4 => exact rfl); k_whole; intro g' L' h' tk' cells' FG' F' N' Y' B' X' T' l1; (try k_lt l1); k_cells Y'; (try simp only [List.cons_append, List.nil_append] at N'); (try dsimp only); (try k_lift B'); (try k_fold))
  k_steps
  refine Halt.out ?_
  have O1 : ∀ o, Off2 l d ((L' + 1, o) :: rest) := fun o => off_cons O (by k_ne) (by k_ne)
  obtain ⟨oc, o1, o2, hN, hD, hcell⟩ : ∃ oc o1 o2, News g' L' _ ((l, o1) :: (d, o2) :: (L' + 1, oc) :: rest) ∧ DrawO l o1 o2 ∧ oc.data = .cell (some (.ref d)) := ⟨_, _, _, by assumption, by assumption, by assumption⟩
  have O2 := O1 oc
  refine LCg.CompSrc.range rfl (by k_asm) hN (by assumption) (small_one (by omega) (by omega) (by omega) (by omega)) (rangeSize_nat _ _) (by rw [sizeLine_eq]; omega) ?_
  intro g2
  refine compRest_inv (Inv := fun i ys news' => ∃ ol od, DrawO l ol od ∧ news' = (l, ol) :: (d, od) :: (L' + 1, oc) :: rest ∧ ys.length = i ∧ ∃ xs, IntsAre ys xs ∧ ∀ x ∈ xs, 0 ≤ x ∧ x < 256) ?_ ?_ _ 0 [] _ (Nat.zero_add _) ⟨o1, o2, hD, rfl, rfl, [], .nil, by simp⟩
  · rintro i ys news' hlt ⟨ol5, od5, D5, rfl, hyl, xs, hxs, hr⟩ v I oI C oC Da m₂ h5 tk5 E5 ⟨t5, rfl⟩ hC hx FF NN off ne
    clear hN hD
    have off' := off
    simp only [LCg.Off3] at off'
    k_steps
    obtain ⟨ol9, od9, D9, nE⟩ : ∃ ol9 od9, DrawO l ol9 od9 ∧ News g' L' _ ((l, ol9) :: (d, od9) :: (I, oI) :: (C, oC) :: (Da, LCg.lst ys) :: (L' + 1, oc) :: rest) := ⟨_, _, by assumption, by assumption⟩
    refine LCg.CompEnd.intro (by k_asm) nE ((l, ol9) :: (d, od9) :: (L' + 1, oc) :: rest) sub_rot3 off trivial ⟨_, _, D9, rfl, by rw [List.length_append, hyl]; rfl, _, intsAre_snoc hxs _ _, ?_⟩
    intro x hx
    rcases List.mem_append.mp hx with hx | hx
    · exact hr x hx
    · rw [List.mem_singleton.mp hx]; exact fm_pos _ (by decide)
  · rintro ys news' ⟨ol5, od5, D5, rfl, hyl, xs, hxs, hr⟩
    k_steps
    rename News h₀ L _ _ => nF
    refine hret _ _ _ _ ⟨.y (byteArr xs), _, _, _, rfl, ⟨rfl, ?_⟩, D5, rfl⟩ (by k_asm) (cb_drop nF sub_del)
    rw [byteArr_size]
    have := hxs.length
    omega
end
section -- ValI


theorem any4 {a b c d k : Int} : ([a, b, c, d].any fun x => x == k) = true ↔ (a = k ∨ b = k ∨ c = k ∨ d = k) := by simp
theorem any4f {a b c d k : Int} : ([a, b, c, d].any fun x => x == k) = false ↔ (¬ a = k ∧ ¬ b = k ∧ ¬ c = k ∧ ¬ d = k) := by simp
section
variable {prog : Program} {w : World} {A : Around} {E : Value → Shared → Prop} {s : Shared}
theorem eq_no {a b : Int} {t u : Tok} {Q : Value → Shared → Prop} (h : ¬ a = b) (hq : Q (.bool false) s) : wpAny (model prog w) A (compareOp .Eq (.int a t) (.int b u)) Q E s :=
  eq_int (by rw [beq_eq_false_iff_ne.mpr h]; exact hq)
theorem eq_yes {a b : Int} {t u : Tok} {Q : Value → Shared → Prop} (h : a = b) (hq : Q (.bool true) s) : wpAny (model prog w) A (compareOp .Eq (.int a t) (.int b u)) Q E s :=
  eq_int (by rw [beq_iff_eq.mpr h]; exact hq)
end
set_option maxHeartbeats 8000000 in
theorem c_value_64 (w : World) (l d : Addr) (ol od : Obj) (rest : List (Addr × Obj)) (D : DrawO l ol od) (O : Off2 l d rest) (k : Int) (kt bt) (hkk : k = 3 ∨ k = 4 ∨ k = 6 ∨ k = 16 ∨ k = 18) : CSpec w 380 [.ref d, .int k kt, .int 64 bt] ((l, ol) :: (d, od) :: rest) 4 120 (RVal l d rest k) := by
  have h8 : ¬ k = 8 := by omega
  have h9 : ¬ k = 9 := by omega
  have h12 : ¬ k = 12 := by omega
  w_top off
  unfold CSpec
  k_fill
  intro p loose mean mg mb dp un gd cn cs a ccd cl outer A₀ base h₀ L m s Q E B F X N T hk hd hu hret
  refine wpAny_call ?_
  k_dflt (refine' code_defC ?k1 ?k2 ?k3 ?k4 ?k5 ?kA ?kF ?kK ?k6 ?k7 ?k8 ?k9 ?kB ?kD ?_ ?c2 ?c3 ?c4; (case kA => exact rfl); (case kF => exact rfl); (case kK => assumption); (case k1 => k_asm); (case k2 => k_asm); (case k3 => k_asm); (case k4 => k_asm); (case k5 => k_asm); (case k6 => k_is); (case k7 => k_is); (case k8 => ktr_room); (case k9 => exact BindsTo.of_eq rfl); (case kB => exact rfl); (case kD => decide +kernel); (case c2 => exact rfl); (case c3 => exact rfl); (case c4 => exact rfl); k_whole; intro g' L' h' tk' cells' FG' F' N' Y' B' X' T' l1; (try k_lt l1); k_cells Y'; (try simp only [List.cons_append, List.nil_append] at N'); (try dsimp only); (try k_lift B'); (try k_fold))
  k_steps
  all_goals (refine hret _ _ _ _ ⟨.i _, _, _, _, rfl, ?_, by assumption, rfl⟩ (by k_asm) (cb_drop (by k_asm) sub_del))
  all_goals ((try simp only [any4, any4f] at *); show IRange k _; unfold IRange; omega)
set_option maxHeartbeats 8000000 in
theorem c_value_32 (w : World) (l d : Addr) (ol od : Obj) (rest : List (Addr × Obj)) (D : DrawO l ol od) (O : Off2 l d rest) (k : Int) (kt bt) (hkk : k = 5 ∨ k = 7 ∨ k = 13 ∨ k = 14 ∨ k = 15 ∨ k = 17) : CSpec w 380 [.ref d, .int k kt, .int 32 bt] ((l, ol) :: (d, od) :: rest) 4 120 (RVal l d rest k) := by
  have h8 : ¬ k = 8 := by omega
  have h9 : ¬ k = 9 := by omega
  have h12 : ¬ k = 12 := by omega
  w_top off
  unfold CSpec
  k_fill
  intro p loose mean mg mb dp un gd cn cs a ccd cl outer A₀ base h₀ L m s Q E B F X N T hk hd hu hret
  refine wpAny_call ?_
  k_dflt (refine' code_defC ?k1 ?k2 ?k3 ?k4 ?k5 ?kA ?kF ?kK ?k6 ?k7 ?k8 ?k9 ?kB ?kD ?_ ?c2 ?c3 ?c4; (case kA => exact rfl); (case kF => exact rfl); (case kK => assumption); (case k1 => k_asm); (case k2 => k_asm); (case k3 => k_asm); (case k4 => k_asm); (case k5 => k_asm); (case k6 => k_is); (case k7 => k_is); (case k8 => ktr_room); (case k9 => exact BindsTo.of_eq rfl); (case kB => exact rfl); (case kD => decide +kernel); (case c2 => exact rfl); (case c3 => exact rfl); (case c4 => exact rfl); k_whole; intro g' L' h' tk' cells' FG' F' N' Y' B' X' T' l1; (try k_lt l1); k_cells Y'; (try simp only [List.cons_append, List.nil_append] at N'); (try dsimp only); (try k_lift B'); (try k_fold))
  k_steps
  all_goals (refine hret _ _ _ _ ⟨.i _, _, _, _, rfl, ?_, by assumption, rfl⟩ (by k_asm) (cb_drop (by k_asm) sub_del))
  all_goals ((try simp only [any4, any4f] at *); show IRange k _; unfold IRange; omega)
theorem c_value (w : World) (l d : Addr) (ol od : Obj) (rest : List (Addr × Obj)) (D : DrawO l ol od) (O : Off2 l d rest) (k wi bi : Int) (kt bt) (K : KOk k wi bi) : CSpec w 380 [.ref d, .int k kt, .int bi bt] ((l, ol) :: (d, od) :: rest) 4 120 (RVal l d rest k) := by
  rcases K with ⟨e, _, e2⟩ | ⟨e, _, e2⟩ | ⟨e, _, e2⟩ | ⟨e, _, e2⟩ | ⟨e, _, e2⟩ | ⟨e, _, e2⟩ | ⟨e, _, e2⟩ | ⟨e, _, e2⟩ | ⟨e, _, e2⟩ | ⟨e, _, e2⟩ | ⟨e, _, e2⟩ | ⟨e, _, e2⟩ | ⟨e, _, e2⟩ | ⟨e, _, e2⟩
  all_goals subst e2
  all_goals first
    | exact c_value_64 w l d ol od rest D O k kt bt (by omega)
    | exact c_value_32 w l d ol od rest D O k kt bt (by omega)
    | (subst e; exact c_value_8 w l d ol od rest D O kt _ bt)
    | (subst e; exact c_value_9 w l d ol od rest D O kt _ bt)
    | (subst e; exact c_value_12 w l d ol od rest D O kt _ bt)
end
section -- Long


theorem menu7 {r q : Int} (h0 : 0 ≤ r) (h1 : r < 7) (h2 : 0 ≤ q) (h3 : q < 3) : 0 ≤ [(127 : Int), 128, 16383, 16384, 20000, 63, 64].getD r.toNat 0 + q - 1 ∧ [(127 : Int), 128, 16383, 16384, 20000, 63, 64].getD r.toNat 0 + q - 1 ≤ 20001 := by
  have h : r = 0 ∨ r = 1 ∨ r = 2 ∨ r = 3 ∨ r = 4 ∨ r = 5 ∨ r = 6 := by omega
  have key : 63 ≤ [(127 : Int), 128, 16383, 16384, 20000, 63, 64].getD r.toNat 0 ∧ [(127 : Int), 128, 16383, 16384, 20000, 63, 64].getD r.toNat 0 ≤ 20000 := by
    rcases h with rfl | rfl | rfl | rfl | rfl | rfl | rfl <;> decide
  omega
section
variable {prog : Program} {w : World} {A : Around} {E : Value → Shared → Prop} {s : Shared}
theorem rep_size {n : Int} (h0 : 0 ≤ n) (h : n ≤ 20001) (c : UInt8) : ((List.replicate n.toNat [c]).flatten.toArray.size : Int) ≤ 1000000 := by
  have e : (List.replicate n.toNat [c]).flatten.toArray.size = n.toNat := by simp
  rw [e]; omega
theorem mul_byte {c : UInt8} {n : Int} {t u : Tok} {Q : Value → Shared → Prop} (h0 : 0 ≤ n) (hn : n ≤ 20001) (h : ∀ (a : Array UInt8) (t' : Tok) (k : Nat), (a.size : Int) ≤ 1000000 → Q (.bytes a t') { s with toks := k }) :
    wpAny (model prog w) A (binaryOp .Mult (.bytes #[c] t) (.int n u)) Q E s :=
  bytes_mul_any (b := [c]) (List.cons_ne_nil _ _) (by omega) (by omega) (by simp) fun t' k => h _ t' k (rep_size h0 hn c)
end
set_option maxHeartbeats 8000000 in
theorem c_long_9 (w : World) (l d : Addr) (ol od : Obj) (rest : List (Addr × Obj)) (D : DrawO l ol od) (O : Off2 l d rest) (kt) : CSpec w 406 [.ref d, .int 9 kt] ((l, ol) :: (d, od) :: rest) 4 120 (RVal l d rest 9) := by
  w_top off
  unfold CSpec
  k_fill
  intro p loose mean mg mb dp un gd cn cs a ccd cl outer A₀ base h₀ L m s Q E B F X N T hk hd hu hret
  refine wpAny_call ?_
  k_dflt cell_enter
  k_steps
  have hm {r q : Int} (a : 0 ≤ r) (b : r < 7) (c : 0 ≤ q) (e : q < 3) := menu7 a b c e
  refine hret _ _ _ _ ⟨.s _, _, _, _, rfl, ⟨rfl, short_mul 20001 (hm (by assumption) (by assumption) (by assumption) (by assumption)).1 (hm (by assumption) (by assumption) (by assumption) (by assumption)).2 (by decide) (by assumption)⟩, by assumption, rfl⟩ (by k_asm) (news_del4 (by k_asm))
set_option maxHeartbeats 8000000 in
theorem c_long_12 (w : World) (l d : Addr) (ol od : Obj) (rest : List (Addr × Obj)) (D : DrawO l ol od) (O : Off2 l d rest) (kt) : CSpec w 406 [.ref d, .int 12 kt] ((l, ol) :: (d, od) :: rest) 4 120 (RVal l d rest 12) := by
  w_top off
  unfold CSpec
  k_fill
  intro p loose mean mg mb dp un gd cn cs a ccd cl outer A₀ base h₀ L m s Q E B F X N T hk hd hu hret
  refine wpAny_call ?_
  k_dflt cell_enter
  k_steps
  exact hret _ _ _ _ ⟨.y _, _, _, _, rfl, ⟨rfl, by assumption⟩, by assumption, rfl⟩ (by k_asm) (news_del3 (by k_asm))
theorem c_long (w : World) (l d : Addr) (ol od : Obj) (rest : List (Addr × Obj)) (D : DrawO l ol od) (O : Off2 l d rest) (k wi bi : Int) (kt) (K : KOk k wi bi) (hw : wi = 2) : CSpec w 406 [.ref d, .int k kt] ((l, ol) :: (d, od) :: rest) 4 120 (RVal l d rest k) := by
  have h : k = 9 ∨ k = 12 := by unfold KOk at K; omega
  rcases h with rfl | rfl
  · exact c_long_9 w l d ol od rest D O kt
  · exact c_long_12 w l d ol od rest D O kt
end
end Mine
end
section -- Nest
open PySem PySem.W PyProof.Rows PySem.Calls PySem.Spec
namespace Mine
/-! closures within closures: a made def with cells of its own, and tables of made code objects -/
theorem cellsFrom_app : ∀ (names : List (Str × NameKind)) (n : Nat) (acc cl : List (Str × Addr)), cellsFrom n names (acc ++ cl) = cellsFrom n names acc ++ cl
  | [], _, _, _ => rfl
  | (name, kind) :: r, n, acc, cl => by
    unfold cellsFrom
    split
    · exact cellsFrom_app r (n + 1) ((name, n) :: acc) cl
    · exact cellsFrom_app r n acc cl
section
variable {M : Model} {A : Around} {E : Value → Shared → Prop}
theorem bindLocals {env : Env} (hk : env.scope.kind = .function) (f : Str × Value → PUnit → Sem (ForInStep PUnit)) (hf : ∀ n v u, f (n, v) u = (do storeName env n v; pure (.yield ⟨⟩))) :
    ∀ (rest dn : List (Str × Value)) (s : Shared) (Q : PUnit → Shared → Prop), s.heap.Ns env.locals (fun x => dn.reverse.lookup x) → (∀ x ∈ rest, env.kindOf x.1 = some .local) →
      (∀ h' tk, h'.Ns env.locals (fun x => (dn ++ rest).reverse.lookup x) → Heap.SameBut env.locals s.heap h' → Q ⟨⟩ { s with heap := h', toks := tk }) → wpAny M A (forIn rest ⟨⟩ f) Q E s
  | [], dn, s, Q, hn, _, hQ => by
    rw [List.forIn_nil]
    exact wpAny_pure (hQ s.heap s.toks (by simpa using hn) (.refl ..))
  | (n, v) :: r, dn, s, Q, hn, hl, hQ => by
    rw [List.forIn_cons, hf]
    refine wpAny_bind (wpAny_bind (wpAny_storeName_local (hl (n, v) (.head _)) hn (fun h' hn' hs' => wpAny_pure ?_) (by rw [hk]; rfl)))
    refine bindLocals hk f hf r (dn ++ [(n, v)]) _ Q (by rw [lookup_reverse_snoc]; exact hn') (fun x hx => hl x (.tail _ hx)) fun h'' tk hn'' hs'' => ?_
    exact hQ h'' tk (by simpa using hn'') (hs'.trans hs'')
theorem newEnvC {s : Shared} {scope : Scope} {globals : Addr} {cl : List (Str × Addr)} {binds : List (Str × Value)} {qual : Str} {func : Option Addr} {code : Value} {builtins : Addr} {Q : Env → Shared → Prop}
    (hk : scope.kind = .function) (hl : ∀ x ∈ binds, scope.names.lookup x.1 = some .local)
    (hQ : ∀ h' tk, h'.Ns s.heap.objs.size (fun x => binds.reverse.lookup x) → (∀ b o, s.heap.get? b = some o → h'.get? b = some o) → CellsOk h' (s.heap.objs.size + 1) (cellsFrom (s.heap.objs.size + 1) scope.names []) →
      Q (newEnv scope s.heap.objs.size globals (cellsFrom (s.heap.objs.size + 1) scope.names [] ++ cl) qual func code none builtins) { s with heap := h', toks := tk }) :
    wpAny M A (newFunctionEnv scope globals cl binds qual func code none builtins) Q E s := by
  simp only [newFunctionEnv, Option.isSome_none, Bool.false_eq_true, if_false]
  refine wpAny_bind (wpAny_alloc ?_)
  refine wpAny_bind (wpAny_layCells _ (fun name kind cells => by cases hkc : kind == NameKind.cell <;> simp [hkc]) _ _ _ _ ?_)
  have ok := cellsFrom_ok scope.names (s.heap.push { cls := .type "frame", data := .dict #[] }) (s.heap.objs.size + 1) [] ⟨fun _ _ hm => (nomatch hm), List.Pairwise.nil⟩ (by rw [Heap.size_push]; exact Nat.le_refl _)
  rw [Heap.size_push] at ok
  rw [show ({ s with heap := s.heap.push { cls := .type "frame", data := .dict #[] } } : Shared).heap.objs.size = s.heap.objs.size + 1 from Heap.size_push ..]
  rw [show cellsFrom (s.heap.objs.size + 1) scope.names cl = cellsFrom (s.heap.objs.size + 1) scope.names [] ++ cl from cellsFrom_app _ _ [] cl]
  refine wpAny_bind (bindLocals (env := newEnv scope s.heap.objs.size globals (cellsFrom (s.heap.objs.size + 1) scope.names [] ++ cl) qual func code none builtins) hk _ (fun _ _ _ => rfl) binds [] _ _
    ((Heap.Ns.new s.heap (.type "frame")).keeps (pushCells_keeps _ _)) hl fun h' tk hn hs => wpAny_pure ?_)
  refine hQ h' tk hn (fun b o e => hs.extBut b o (Nat.ne_of_lt (Heap.lt_size e)) (pushCells_keeps _ _ b o (Heap.get?_push_of_some _ e))) ⟨fun n c hm => ?_, ok.apart⟩
  have := ok.empty n c hm
  exact ⟨this.1.sameBut hs (Nat.ne_of_gt this.2), this.2⟩
end
section
variable {prog : Program} {w : World} {A A₀ : Around} {s : Shared} {K : Frag} {L : Addr} {h₀ base : Heap} {m mg mb : Str → Option Value} {news : List (Addr × Obj)} {p : Program} {loose : List Str} {mean : ExcName → Option Value}
/-- a made def is called: it closes over cells, and has cells of its own -/
theorem code_nestC {env : Env} {outer : List Env} {R : Result → Shared → Prop} {name qual : Str} {params : Arguments} {body : List Stmt} {scope : Scope} {cl : List (Str × Addr)} {doc pm ctv : Value} {c' : Addr} {f : Addr} {args : Args} {binds : List (Str × Value)}
    (B : Below A₀ base outer h₀) (F : Fr h₀ L s.heap m) (X₀ : K.In h₀) (N : News h₀ L s.heap news) (T : Top p loose mean mg mb h₀) (hA : A.frames = some (env :: outer)) (hf : env.frame = some L) (hke : env.scope.kind = .function)
    (ho : (f, fnMade name qual params body scope cl doc pm c' ctv) ∈ news) (hcd : s.heap.CodeRec (.ref c') qual) (hroom : A.depth < recursionLimit)
    (hbind : BindsTo s (fnX name qual params body scope cl .none .none doc pm none (.ref c') ctv) args binds) (hloc : ∀ y ∈ binds, scope.names.lookup y.1 = some .local)
    
    (h : ∀ g L' h₁ tk cells, Fr h₀ L g m → Fr g L' h₁ (fun y => binds.reverse.lookup y) → News g L' h₁ (cells ++ news) → CellsAre (fun _ => none) (cellsFrom (L' + 1) scope.names []) cells → Below A base (env :: outer) g → K.In g → Top p loose mean mg mb g → (∀ q ∈ news, q.1 < L') →
      wpAny (model prog w) (A.deeper (envX qual scope L' f (.ref c') (cellsFrom (L' + 1) scope.names [] ++ cl))) (execs body (envX qual scope L' f (.ref c') (cellsFrom (L' + 1) scope.names [] ++ cl)))
        (fun fl s' => LeaveK h₀ L m g R (match fl with | .ret v => v | _ => .none) s')
        (fun e s' => wpAny (model prog w) (A.deeper (envX qual scope L' f (.ref c') (cellsFrom (L' + 1) scope.names [] ++ cl))) (leaving (envX qual scope L' f (.ref c') (cellsFrom (L' + 1) scope.names [] ++ cl)) e) (fun _ s'' => R (.error e) s'') (fun e' s'' => R (.error e') s'') s')
        { s with heap := h₁, toks := tk })
    (hco : scope.isCoroutine = false) (hgen : scope.isGenerator = false) (hk : scope.kind = .function) : codeAny (model prog w) A (.call (.ref f) args) R s := by
  obtain ⟨FG, BG, st, lv⟩ := groundX (R := R) B F N hA hf hke
  refine codeAny_call_function hroom (N _ ho).1 rfl hco hgen rfl hcd (hbind _ _ _ _ ?_)
  refine newEnvC hk hloc fun h₁ tk hns hk₁ ok => ⟨(T.nolimit.keeps F.keep).keeps hk₁, codeAny_func ?_⟩
  obtain ⟨cells, NC, Y⟩ := Cl.news (h₀ := s.heap) (cm := fun _ => none) (Nat.le_refl _) fun n c hm => ok.empty n c hm
  refine wpAny_mono (h _ s.heap.objs.size h₁ tk cells FG ⟨hns, fun b o e => hk₁ b o (of_hideAll _ e), Nat.le_of_eq (hideAll_size _ _)⟩ (fun p hp => ?_) Y BG (X₀.keeps st) (T.keeps st) (fun p hp => Heap.lt_size (N p hp).1)) (fun fl s' hl => lv _ _ hl) fun _ _ y => y
  rcases List.mem_append.mp hp with hp | hp
  · refine ⟨(NC p hp).1, (NC p hp).2.1, ?_⟩
    cases q : (hideAll s.heap (news.map (·.1))).get? p.1 with
    | none => rfl
    | some o => have := of_hideAll _ q; rw [(NC p hp).2.2] at this; cases this
  · exact ⟨hk₁ _ _ (N p hp).1, Nat.ne_of_lt (Heap.lt_size (N p hp).1), hideAll_none _ (List.mem_map_of_mem hp)⟩
end
/-- a made code object: its name, and its table -/
def HdObj (oc : Obj) (c : Addr) (q : Str) (P : Addr) : Prop :=
  ∃ vs file tf flags tg inF text tt t, oc.cls = .type "code" ∧ oc.data = .fields vs ∧ vs[1]? = some (.str q t) ∧ vs[11]? = some (.ref P) ∧ vs.getD 11 .none = .ref P ∧ vs.getD 18 .none = .str file tf ∧
    vs.getD 7 .none = .int flags tg ∧ vs.getD 9 .none = .bool inF ∧ vs.getD 10 .none = .int text tt ∧ c ≠ P
section
variable {h h₀ : Heap} {L c P : Addr} {oc : Obj} {q : Str} {news : List (Addr × Obj)}
theorem HdObj.at (x : HdObj oc c q P) (N : News h₀ L h news) (hm : (c, oc) ∈ news) : CodeHd h c P := by
  obtain ⟨vs, file, tf, flags, tg, inF, text, tt, t, e1, e2, _, e4, e5, e6, e7, e8, e9, e10⟩ := x
  exact ⟨oc, vs, file, tf, flags, tg, inF, text, tt, (N _ hm).1, e1, e2, e4, e5, e6, e7, e8, e9, e10⟩
theorem HdObj.rec (x : HdObj oc c q P) (N : News h₀ L h news) (hm : (c, oc) ∈ news) : h.CodeRec (.ref c) q := by
  obtain ⟨vs, file, tf, flags, tg, inF, text, tt, t, e1, e2, e3, _⟩ := x
  exact ⟨c, oc, vs, t, rfl, (N _ hm).1, e2, e3⟩
theorem HdObj.of (hc : h.IsCode c P #[]) (ht : h.TableAt c P #[]) (hr : h.CodeRec (.ref c) q) : ∃ oc, h.get? c = some oc ∧ HdObj oc c q P ∧ h.get? P = some (tabObj #[]) := by
  obtain ⟨o, vs, file, tf, flags, tg, inF, text, tt, e1, r1, e2, e4, e5, e6, e7, e8, e9, e10⟩ := CodeHd.of hc ht
  obtain ⟨c2, oc, vs2, t, q1, q2, q3, q4⟩ := hr
  cases q1
  rw [e1] at q2; cases q2
  rw [e2] at q3; cases q3
  exact ⟨o, e1, ⟨vs, file, tf, flags, tg, inF, text, tt, t, r1, e2, q4, e4, e5, e6, e7, e8, e9, e10⟩, ht.2⟩
end
section
variable {M : Model} {A : Around} {E : Value → Shared → Prop} {s : Shared} {name qual : Str} {params : Arguments} {body : List Stmt} {scope : Scope} {env : Env} {c P : Addr} {ps : Array Value} {pos : Pos} {firstLine : Nat} {mg : Str → Option Value}
  {clos : List (Str × Addr)} {Q : Value → Shared → Prop}
/-- a def is made: its code object new, with an empty table -/
theorem makeTail_T (hcl : closureFor scope env = pure clos) (hge0 : env.globals = mainGlobals) (hg : s.heap.Ns mainGlobals mg) (hcode : env.code = .ref c) (C : CodeHd s.heap c P) (hP : s.heap.get? P = some (tabObj ps)) (ht : TriplesOk ps.toList)
    (hnf : codeAmong pos ps.toList = none) (hgP : mainGlobals ≠ P) (hb : s.heap.BuiltinsAt mg P)
    (h : ∀ c' P' oc ctv doc h' tk, Heap.ExtBut P s.heap h' → s.heap.objs.size ≤ c' → s.heap.objs.size ≤ P' → c' < h'.objs.size → h'.get? c' = some oc → HdObj oc c' qual P' → h'.get? P' = some (tabObj #[]) → h'.get? P = some (tabObj (ps ++ #[rawInt pos.line, rawInt pos.col, .ref c'])) →
      Q (.ref h'.objs.size) { s with heap := h'.push (fnMade name qual params body scope clos doc ((mg "__name__").getD .none) c' ctv), toks := tk }) :
    wpAny M A (makeTail name qual params (.stmts body) scope env .none .none none pos firstLine) Q E s := by
  obtain ⟨bm, ob, hbm, hne0, _, hneP, hbo, hcls, hdict, hdata⟩ := hb
  unfold makeTail
  rw [hcl, hge0]
  refine wpAny_bind (wpAny_pure ?_)
  have fin : ∀ (ctv : Value) (s₁ : Shared), (∃ h₁ tk₁, s₁ = { s with heap := h₁, toks := tk₁ }) → (∀ b o, s.heap.get? b = some o → s₁.heap.get? b = some o) → s.heap.objs.size ≤ s₁.heap.objs.size →
      wpAny M A (functionCode env pos firstLine name qual params scope (.stmts body)) (fun cv s' => wpAny M A (builtinsFor mainGlobals env.builtins) (fun bi s'' => wpAny M A (nsGet mainGlobals "__name__") (fun nm s3 =>
        wpAny M A (match docOf body with | some t => mkText t | none => pure .none) (fun dc s4 => wpAny M A (newObj (.type "function") (.func { name, qualname := qual, params, body := .stmts body, scope, globals := mainGlobals, closure := clos, defaults := .none, kwdefaults := .none, doc := dc, pyModule := nm.getD .none, annotations := none, code := cv, closureTuple := ctv, builtins := bi })) Q E s4) E s3) E s'') E s') E s₁ := by
    rintro ctv s₁ ⟨h₁, tk₁, rfl⟩ hk hsz
    refine wpAny_functionCodeX hcode ((C.keeps hk).code (hk _ _ hP) ht) ((C.keeps hk).tab (hk _ _ hP)) hnf fun c' h' tk hx hge hlt _ hrec htb hnew => ?_
    obtain ⟨P', hP', hco, hta⟩ := hnew
    obtain ⟨oc, q1, q2, q3⟩ := HdObj.of hco hta hrec
    have hg' := (hg.keeps hk).extBut hx hgP
    have hx' : Heap.ExtBut P s.heap h' := fun b o hb' e => hx b o hb' (hk b o e)
    refine wpAny_builtinsFor hg' hbm hne0 (hx' _ _ hneP hbo) hcls hdict hdata ?_
    refine wpAny_nsGet hg' ?_
    cases hdoc : docOf body with
    | none => exact wpAny_pure (wpAny_newObj_type (h c' P' oc _ .none h' tk hx' (Nat.le_trans hsz hge) (Nat.le_trans hsz hP') hlt q1 q2 q3 htb.2) (by size_fits))
    | some t => exact wpAny_mkText (wpAny_newObj_type (h c' P' oc _ _ h' _ hx' (Nat.le_trans hsz hge) (Nat.le_trans hsz hP') hlt q1 q2 q3 htb.2) (by size_fits))
  cases clos with
  | nil =>
    simp only [List.isEmpty_nil, if_true]
    refine wpAny_bind (wpAny_pure ?_)
    have := fin .none s ⟨_, _, rfl⟩ (fun _ _ e => e) (Nat.le_refl _)
    refine wpAny_bind (wpAny_mono this (fun _ _ a => wpAny_bind (wpAny_mono a (fun _ _ b => wpAny_bind (wpAny_mono b (fun _ _ d => ?_) fun _ _ e => e)) fun _ _ e => e)) fun _ _ e => e)
    cases hdoc : docOf body with
    | none => rw [hdoc] at d; exact wpAny_bind d
    | some t => rw [hdoc] at d; exact wpAny_bind d
  | cons q r =>
    simp only [List.isEmpty_cons, Bool.false_eq_true, if_false]
    refine wpAny_bind (wpAny_newTextTuple ?_)
    refine wpAny_bind (wpAny_mono (fin (.ref s.heap.objs.size) _ ⟨_, _, rfl⟩ (fun b o e => Heap.get?_push_of_some _ e) (by rw [Heap.size_push]; omega)) (fun _ _ a => wpAny_bind (wpAny_mono a (fun _ _ b => wpAny_bind (wpAny_mono b (fun _ _ d => ?_) fun _ _ e => e)) fun _ _ e => e)) fun _ _ e => e)
    cases hdoc : docOf body with
    | none => rw [hdoc] at d; exact wpAny_bind d
    | some t => rw [hdoc] at d; exact wpAny_bind d
end
theorem builtins_at {p : Program} {loose : List Str} {mean : ExcName → Option Value} {mg mb : Str → Option Value} {h₀ h : Heap} {L P : Addr} {m : Str → Option Value} {o : Obj} (F : Fr h₀ L h m) (T : Top p loose mean mg mb h₀) (hP : h.get? P = some o) (hc : o.cls = .none) (hd : ∃ ps, o.data = .fields ps) :
    mainGlobals ≠ P ∧ h.BuiltinsAt mg P := by
  obtain ⟨bm, ob, b1, b2, b3, b4, b5, b6⟩ := T.bmain
  obtain ⟨ps, hd⟩ := hd
  refine ⟨fun q => ?_, bm, ob, b1, b2, fun q => ?_, fun q => ?_, F.keep _ _ b3, b4, b5, b6⟩
  · obtain ⟨o', es, ep, e, hd', _⟩ := T.g.keeps F.keep
    rw [q, hP] at e; cases e; rw [hd] at hd'; cases hd'
  · obtain ⟨o', es, ep, e, hd', _⟩ := T.g
    rw [q, e] at b3; cases b3; rw [hd'] at b6; cases b6
  · have e := F.keep _ _ b3
    rw [q, hP] at e; cases e; rw [hc] at b4; cases b4
section
variable {M : Model} {A : Around} {E : Value → Shared → Prop} {s : Shared} {h₀ : Heap} {L a c P : Addr} {m mg mb : Str → Option Value} {cn : Str} {cs : Scope} {ccd : Value} {cl : List (Str × Addr)} {news : List (Addr × Obj)} {g : Obj → List (Addr × Obj)}
  {p : Program} {loose : List Str} {mean : ExcName → Option Value} {name qual : Str} {params : Arguments} {body : List Stmt} {scope : Scope} {ps : Array Value} {pos : Pos} {firstLine : Nat} {clos : List (Str × Addr)}
/-- a def is made for the first time: what it is made of, and its code object's empty table, are in the ledger -/
theorem nestT {Q : Value → Shared → Prop} (F : Fr h₀ L s.heap m) (N : News h₀ L s.heap news) (T : Top p loose mean mg mb h₀) (C : CodeHd s.heap c P) (hcd : ccd = .ref c) (U : UpdF P (tabObj ps) news g) (ht : TriplesOk ps.toList) (hnf : codeAmong pos ps.toList = none)
    (hcl : closureFor scope (envX cn cs L a ccd cl) = pure clos)
    (h : ∀ f c' P' oc ctv doc h' tk, Fr h₀ L h' m →
      News h₀ L h' ((f, fnMade name qual params body scope clos doc ((mg "__name__").getD .none) c' ctv) :: (c', oc) :: (P', tabObj #[]) :: g (tabObj (ps ++ #[rawInt pos.line, rawInt pos.col, .ref c']))) →
      HdObj oc c' qual P' → (∀ q ∈ news, q.1 < c') → (∀ q ∈ news, q.1 < P') → c' < f → P' < f → Q (.ref f) { s with heap := h', toks := tk }) :
    wpAny M A (makeFunction name qual params (.stmts body) scope (envX cn cs L a ccd cl) [] [] [] pos firstLine) Q E s := by
  obtain ⟨own, rest, rfl, hgr, h1, h2⟩ := U.split
  have hm := N (P, tabObj ps) (List.mem_append_right _ (.head _))
  obtain ⟨hgP, hb⟩ := builtins_at F T hm.1 rfl ⟨_, rfl⟩
  rw [makeFunction_eq]
  simp only [List.zip_nil_right, List.filterMap_nil, List.isEmpty_nil, if_true, pure_bind]
  refine makeTail_T (mg := mg) hcl rfl (T.g.keeps F.keep) hcd C hm.1 ht hnf hgP hb fun c' P' oc ctv doc h' tk hx hge hge' hlt hoc hhd hP' htb => ?_
  have hLs : L < s.heap.objs.size := F.ns.lt
  have hLc : L < c' := Nat.lt_of_lt_of_le hLs hge
  have hLP : L < P' := Nat.lt_of_lt_of_le hLs hge'
  have old : ∀ b o, h₀.get? b = some o → h'.get? b = some o := fun b o e => hx b o (fun q => by rw [q, hm.2.2] at e; cases e) (F.keep b o e)
  have fresh : ∀ b, L < b → h₀.get? b = none := fun b hb => Heap.get?_none_of_le (Nat.le_trans F.above (Nat.le_of_lt hb))
  refine h h'.objs.size c' P' oc ctv doc _ tk ⟨(F.ns.extBut hx hm.2.1.symm).push _, fun b o e => Heap.get?_push_of_some _ (old b o e), F.above⟩ (fun q hq => ?_) hhd
    (fun q hq => Nat.lt_of_lt_of_le (Heap.lt_size (N q hq).1) hge) (fun q hq => Nat.lt_of_lt_of_le (Heap.lt_size (N q hq).1) hge') hlt (Heap.lt_size hP')
  rcases List.mem_cons.mp hq with rfl | hq
  · exact ⟨Heap.get?_push_size _ rfl, Nat.ne_of_gt (Nat.lt_trans hLc hlt), fresh _ (Nat.lt_trans hLc hlt)⟩
  rcases List.mem_cons.mp hq with rfl | hq
  · exact ⟨Heap.get?_push_of_some _ hoc, Nat.ne_of_gt hLc, fresh _ hLc⟩
  rcases List.mem_cons.mp hq with rfl | hq
  · exact ⟨Heap.get?_push_of_some _ hP', Nat.ne_of_gt hLP, fresh _ hLP⟩
  rw [hgr] at hq
  rcases List.mem_append.mp hq with hq | hq
  · have n := N q (List.mem_append_left _ hq)
    exact ⟨Heap.get?_push_of_some _ (hx _ _ (h1 q hq) n.1), n.2⟩
  rcases List.mem_cons.mp hq with rfl | hq
  · exact ⟨Heap.get?_push_of_some _ htb, hm.2⟩
  · have n := N q (List.mem_append_right _ (.tail _ hq))
    exact ⟨Heap.get?_push_of_some _ (hx _ _ (h2 q hq) n.1), n.2⟩
/-- a def is made again: its code object is in the table -/
theorem nestTHit {Q : Value → Shared → Prop} {c' : Addr} (F : Fr h₀ L s.heap m) (N : News h₀ L s.heap news) (T : Top p loose mean mg mb h₀) (C : CodeHd s.heap c P) (hcd : ccd = .ref c) (hmem : (P, tabObj ps) ∈ news) (ht : TriplesOk ps.toList) (hf : codeAmong pos ps.toList = some (.ref c'))
    (hcl : closureFor scope (envX cn cs L a ccd cl) = pure clos)
    (h : ∀ f ctv doc h' tk, Fr h₀ L h' m → News h₀ L h' ((f, fnMade name qual params body scope clos doc ((mg "__name__").getD .none) c' ctv) :: news) → (∀ q ∈ news, q.1 < f) → Q (.ref f) { s with heap := h', toks := tk }) :
    wpAny M A (makeFunction name qual params (.stmts body) scope (envX cn cs L a ccd cl) [] [] [] pos firstLine) Q E s := by
  have hm := N (P, tabObj ps) hmem
  obtain ⟨hgP, hb⟩ := builtins_at F T hm.1 rfl ⟨_, rfl⟩
  refine makeFunction_hit (mg := mg) hcl rfl (T.g.keeps F.keep) hcd C hm.1 ht hf hb fun ctv doc h' tk hk hsz => ?_
  have hLs : L < h'.objs.size := Nat.lt_of_lt_of_le F.ns.lt hsz
  have fresh : ∀ b, L < b → h₀.get? b = none := fun b hb => Heap.get?_none_of_le (Nat.le_trans F.above (Nat.le_of_lt hb))
  refine h h'.objs.size ctv doc _ tk ⟨(F.ns.keeps hk).push _, fun b o e => Heap.get?_push_of_some _ (hk b o (F.keep b o e)), F.above⟩ (fun q hq => ?_) (fun q hq => Nat.lt_of_lt_of_le (Heap.lt_size (N q hq).1) hsz)
  rcases List.mem_cons.mp hq with rfl | hq
  · exact ⟨Heap.get?_push_size _ rfl, Nat.ne_of_gt hLs, fresh _ hLs⟩
  · exact ⟨Heap.get?_push_of_some _ (hk _ _ (N q hq).1), (N q hq).2⟩
end
end Mine
end
section -- SzB
open PySem PySem.W PyProof.Rows PySem.Calls PySem.Spec
namespace Mine
def valsOf (vs : List (V × Tok)) : Array Value := (vs.map fun x => x.1.val x.2).toArray
def qsum (q : V → Int) (vs : List (V × Tok)) : Int := (vs.map fun x => q x.1).sum
theorem valsOf_size (vs : List (V × Tok)) : (valsOf vs).size = vs.length := by simp [valsOf]
theorem qsum_take (q : V → Int) (vs : List (V × Tok)) (i : Nat) (x : V × Tok) (h : vs[i]? = some x) : qsum q (vs.take (i + 1)) = qsum q (vs.take i) + q x.1 := by
  unfold qsum
  rw [List.take_add_one, h]
  simp
/-- a def that tells a value's octets -/
def GOk (w : World) (gf : Addr) (ok : V → Prop) (q : V → Int) : Prop := ∀ v t news, ok v → CSpec w gf [v.val t] news 2 16 (RInt news (q v))
/-- it is a def of the written part -/
def FnK (w : World) (gf : Addr) : Prop := ∃ oc od fd sl, (hd.heap_39 w.params).lookup gf = some ⟨oc, od, .func fd, sl⟩
theorem fnAt_of {w : World} {gf L : Addr} {h₀ h : Heap} {m : Str → Option Value} (x : FnK w gf) (X : (hd.heap_39 w.params).In h₀) (F : Fr h₀ L h m) : FnAt gf h := by
  obtain ⟨oc, od, fd, sl, e⟩ := x
  exact ⟨oc, od, fd, sl, F.keep _ _ (X _ _ e)⟩
/-- which size is summed (a mark, for the loop's rule) -/
def Sums (_q : V → Int) : Prop := True
/-- the sizer that came back: what it tells, over any ledger that holds what it closes over -/
def FnOk (w : World) (ok : V → Prop) (q : V → Int) (T : Int) (rep pk : Bool) (f : Addr) (news : List (Addr × Obj)) : Prop :=
  (rep = false → pk = false → ∀ v t, ok v → CSpec w f [v.val t] news 4 40 (RInt news (T + q v))) ∧
  (rep = true → pk = false → ∀ l vs nn, (l, listOf (valsOf vs) nn) ∈ news → vs.length ≤ 1000 → (∀ x ∈ vs, ok x.1) → CSpec w f [.ref l] news 4 40 (RInt news (T * vs.length + qsum q vs))) ∧
  (pk = true → ∀ l vs nn, (l, listOf (valsOf vs) nn) ∈ news → vs.length ≤ 1000 → (∀ x ∈ vs, ok x.1) → CSpec w f [.ref l] news 4 40 (RInt news (qsum q vs + vsz (qsum q vs) + T)))
/-- there is a function at it -/
def FnIn (f : Addr) (nw : List (Addr × Obj)) : Prop := ∃ oc od fd sl, (f, (⟨oc, od, .func fd, sl⟩ : Obj)) ∈ nw
theorem FnIn.at {f : Addr} {nw : List (Addr × Obj)} {h₀ h : Heap} {L : Addr} (x : FnIn f nw) (N : News h₀ L h nw) : FnAt f h :=
  let ⟨oc, od, fd, sl, e⟩ := x; ⟨oc, od, fd, sl, (N _ e).1⟩
theorem FnIn.tail {f : Addr} {nw : List (Addr × Obj)} {p : Addr × Obj} (x : FnIn f nw) : FnIn f (p :: nw) :=
  let ⟨oc, od, fd, sl, e⟩ := x; ⟨oc, od, fd, sl, .tail _ e⟩
theorem fnIn_head {f : Addr} {o : Obj} {nw : List (Addr × Obj)} {fd : FuncData} (h : o.data = .func fd) : FnIn f ((f, o) :: nw) := by
  obtain ⟨a, b, d, e⟩ := o
  cases h
  exact ⟨a, b, fd, e, .head _⟩
def RF (w : World) (ok : V → Prop) (q : V → Int) (T : Int) (rep pk : Bool) (base : List (Addr × Obj)) (H : List (Addr × Obj) → Prop) : Value → List (Addr × Obj) → Prop :=
  fun v nw => ∃ f X, v = .ref f ∧ nw = X ++ base ∧ FnIn f nw ∧ ∀ n3, (∀ p ∈ nw, p ∈ n3) → FnOk w ok q T rep pk f n3 ∧ (pk = true → H n3)
def SOk (w : World) (S : Addr) (nw : List (Addr × Obj)) (ok : V → Prop) (q : V → Int) (base : List (Addr × Obj)) (H : List (Addr × Obj) → Prop) (md : Bool → Prop) : Prop :=
  FnIn S nw ∧ ∀ rep pk n t, md pk → (0 : Int) ≤ n → n < 536870912 → CSpec w S [.int n t, .bool rep, .bool pk] nw 6 60 (RF w ok q (tsz n) rep pk base H)
theorem SOk.fn {w : World} {S : Addr} {nw base : List (Addr × Obj)} {ok : V → Prop} {q : V → Int} {H : List (Addr × Obj) → Prop} {md : Bool → Prop} (x : SOk w S nw ok q base H md) : FnIn S nw := x.1
theorem cs_core {w : World} {f : Addr} {vs : List Value} {core n3 : List (Addr × Obj)} {d u : Nat} {x : Int} (h : CSpec w f vs (core ++ n3) d u (RInt (core ++ n3) x)) (hs : ∀ p ∈ core, p ∈ n3) : CSpec w f vs n3 d u (RInt n3 x) := by
  intro p loose mean mg mb dp un gd cn cs a ccd cl outer A₀ base h₀ L m s Q E B F X N T hk hd hu hret
  refine h p loose mean mg mb dp un gd cn cs a ccd cl outer A₀ base h₀ L m s Q E B F X (fun q hq => N q ((List.mem_append.mp hq).elim (hs q) id)) T hk hd hu fun v h' tk' n' hR F' N' => ?_
  obtain ⟨hv, rfl⟩ := hR
  exact hret v h' tk' n3 ⟨hv, rfl⟩ F' fun q hq => N' q (List.mem_append_right _ hq)
theorem UpdF.mem {d : Addr} {o : Obj} {l : List (Addr × Obj)} {g : Obj → List (Addr × Obj)} (U : UpdF d o l g) : (d, o) ∈ l := by
  obtain ⟨pre, post, rfl, _⟩ := U.split
  exact List.mem_append_right _ (.head _)
theorem UpdF.mem' {d : Addr} {o o' : Obj} {l : List (Addr × Obj)} {g : Obj → List (Addr × Obj)} (U : UpdF d o l g) : (d, o') ∈ g o' := by
  obtain ⟨pre, post, rfl, hg, _⟩ := U.split
  rw [hg]
  exact List.mem_append_right _ (.head _)
theorem UpdF.lt {d b : Addr} {o o' : Obj} {l : List (Addr × Obj)} {g : Obj → List (Addr × Obj)} (U : UpdF d o l g) (h : ∀ q ∈ l, q.1 < b) : ∀ q ∈ g o', q.1 < b := by
  obtain ⟨pre, post, rfl, hg, _⟩ := U.split
  rw [hg]
  intro q hq
  rcases List.mem_append.mp hq with hq | hq
  · exact h q (List.mem_append_left _ hq)
  rcases List.mem_cons.mp hq with rfl | hq
  · exact h (d, o) (List.mem_append_right _ (.head _))
  · exact h q (List.mem_append_right _ (.tail _ hq))
theorem ne_of_lts {b : Addr} {l : List (Addr × Obj)} (h : ∀ q ∈ l, q.1 < b) : ∀ q ∈ l, q.1 ≠ b := fun q hq => Nat.ne_of_lt (h q hq)
theorem HdObj.ne {oc : Obj} {c : Addr} {q : Str} {P : Addr} (x : HdObj oc c q P) : @Ne Nat c P := by
  obtain ⟨vs, file, tf, flags, tg, inF, text, tt, t, _, _, _, _, _, _, _, _, _, e⟩ := x
  exact e
/-- the same, over the ledger's own front -/
def FnC (w : World) (ok : V → Prop) (q : V → Int) (T : Int) (rep pk : Bool) (f : Addr) (X : List (Addr × Obj)) : Prop := ∀ n3,
  (rep = false → pk = false → ∀ v t, ok v → CSpec w f [v.val t] (X ++ n3) 4 40 (RInt (X ++ n3) (T + q v))) ∧
  (rep = true → pk = false → ∀ l vs nn, vs.length ≤ 1000 → (∀ x ∈ vs, ok x.1) → CSpec w f [.ref l] ((l, listOf (valsOf vs) nn) :: (X ++ n3)) 4 40 (RInt ((l, listOf (valsOf vs) nn) :: (X ++ n3)) (T * vs.length + qsum q vs))) ∧
  (pk = true → ∀ l vs nn, vs.length ≤ 1000 → (∀ x ∈ vs, ok x.1) → CSpec w f [.ref l] ((l, listOf (valsOf vs) nn) :: (X ++ n3)) 4 40 (RInt ((l, listOf (valsOf vs) nn) :: (X ++ n3)) (qsum q vs + vsz (qsum q vs) + T)))
theorem FnC.ok {w : World} {ok : V → Prop} {q : V → Int} {T : Int} {rep pk : Bool} {f : Addr} {X n3 : List (Addr × Obj)} (h : FnC w ok q T rep pk f X) (hs : ∀ p ∈ X, p ∈ n3) : FnOk w ok q T rep pk f n3 := by
  obtain ⟨h1, h2, h3⟩ := h n3
  refine ⟨fun a b v t hv => cs_core (h1 a b v t hv) hs, fun a b l vs nn hl hz hv => cs_core (core := (l, listOf (valsOf vs) nn) :: X) (h2 a b l vs nn hz hv) (fun p hp => ?_), fun a l vs nn hl hz hv => cs_core (core := (l, listOf (valsOf vs) nn) :: X) (h3 a l vs nn hz hv) (fun p hp => ?_)⟩
  · rcases List.mem_cons.mp hp with rfl | hp
    · exact hl
    · exact hs p hp
  · rcases List.mem_cons.mp hp with rfl | hp
    · exact hl
    · exact hs p hp
theorem rf_mk2 {w : World} {ok : V → Prop} {q : V → Int} {T : Int} {rep pk : Bool} {f : Addr} {base nw : List (Addr × Obj)} {H : List (Addr × Obj) → Prop} (X Y : List (Addr × Obj)) (hX : nw = X ++ base) (hfn : FnIn f nw) (hF : FnC w ok q T rep pk f Y) (hY : ∀ p ∈ Y, p ∈ nw) (hH : pk = true → ∀ n3, (∀ p ∈ nw, p ∈ n3) → H n3) :
    RF w ok q T rep pk base H (.ref f) nw :=
  ⟨f, X, rfl, hX, hfn, fun n3 hs => ⟨hF.ok fun p hp => hs p (hY p hp), fun a => hH a n3 hs⟩⟩
/-- the defs were made before: their code objects are in the tables -/
def Hit2 (P0 : Addr) (l1 c1 l2 c2 : Nat) (q1 q2 : Str) (news : List (Addr × Obj)) : Prop := ∃ a1 o1 P1 a2 o2 P2,
  (P0, tabObj #[rawInt l1, rawInt c1, .ref a1]) ∈ news ∧ (a1, o1) ∈ news ∧ HdObj o1 a1 q1 P1 ∧ (P1, tabObj #[rawInt l2, rawInt c2, .ref a2]) ∈ news ∧ (a2, o2) ∈ news ∧ HdObj o2 a2 q2 P2
theorem Hit2.mono {P0 : Addr} {l1 c1 l2 c2 : Nat} {q1 q2 : Str} {n1 n2 : List (Addr × Obj)} (x : Hit2 P0 l1 c1 l2 c2 q1 q2 n1) (h : ∀ p ∈ n1, p ∈ n2) : Hit2 P0 l1 c1 l2 c2 q1 q2 n2 :=
  let ⟨a1, o1, P1, a2, o2, P2, e1, e2, e3, e4, e5, e6⟩ := x
  ⟨a1, o1, P1, a2, o2, P2, h _ e1, h _ e2, e3, h _ e4, h _ e5, e6⟩
def qSpec (nm : String) : Str := Str.ofString nm ++ Str.ofString ".<locals>." ++ Str.ofString "SpecificSizer"
def qPack (nm : String) : Str := qSpec nm ++ Str.ofString ".<locals>." ++ Str.ofString "PackedFieldSize"
theorem rf_mk {w : World} {ok : V → Prop} {q : V → Int} {T : Int} {rep pk : Bool} {f : Addr} {base nw : List (Addr × Obj)} {H : List (Addr × Obj) → Prop} (X : List (Addr × Obj)) (hX : nw = X ++ base) (hfn : FnIn f nw) (hF : FnC w ok q T rep pk f X) (hH : pk = true → ∀ n3, (∀ p ∈ X ++ base, p ∈ n3) → H n3) :
    RF w ok q T rep pk base H (.ref f) nw :=
  ⟨f, X, rfl, hX, hfn, fun n3 hs => ⟨hF.ok fun p hp => hs p (hX ▸ List.mem_append_left _ hp), fun a => hH a n3 (hX ▸ hs)⟩⟩
section
variable {p : Program} {loose : List Str} {mean : ExcName → Option Value} {mg mb : Str → Option Value} {w : World}
theorem nestT0 {M : Model} {A : Around} {E : Value → Shared → Prop} {s : Shared} {K : Frag} {h₀ : Heap} {L a c P : Addr} {m : Str → Option Value} {cn : Str} {cs : Scope} {ccd : Value} {cl : List (Str × Addr)} {news : List (Addr × Obj)} {g : Obj → List (Addr × Obj)}
    {name qual : Str} {params : Arguments} {body : List Stmt} {scope : Scope} {ps : Array Value} {pos : Pos} {firstLine : Nat} {clos : List (Str × Addr)} {Q : Value → Shared → Prop}
    (F : Fr h₀ L s.heap m) (N : News h₀ L s.heap news) (T : Top p loose mean mg mb h₀) (X : K.In h₀) (hcd : ccd = .ref c) (e : codeHdIn K c P = true) (U : UpdF P (tabObj ps) news g) (ht : TriplesOk ps.toList) (hnf : codeAmong pos ps.toList = none)
    (hcl : closureFor scope (envX cn cs L a ccd cl) = pure clos)
    (h : ∀ f c' P' oc ctv doc h' tk, Fr h₀ L h' m →
      News h₀ L h' ((f, fnMade name qual params body scope clos doc ((mg "__name__").getD .none) c' ctv) :: (c', oc) :: (P', tabObj #[]) :: g (tabObj (ps ++ #[rawInt pos.line, rawInt pos.col, .ref c']))) →
      HdObj oc c' qual P' → (∀ q ∈ news, q.1 < c') → (∀ q ∈ news, q.1 < P') → c' < f → P' < f → Q (.ref f) { s with heap := h', toks := tk }) :
    wpAny M A (makeFunction name qual params (.stmts body) scope (envX cn cs L a ccd cl) [] [] [] pos firstLine) Q E s :=
  nestT F N T ((codeHd_of_K X e).keeps F.keep) hcd U ht hnf hcl h
theorem nestT1 {M : Model} {A : Around} {E : Value → Shared → Prop} {s : Shared} {h₀ : Heap} {L a c P : Addr} {m : Str → Option Value} {cn : Str} {cs : Scope} {ccd : Value} {cl : List (Str × Addr)} {news : List (Addr × Obj)} {g : Obj → List (Addr × Obj)}
    {name qual q0 : Str} {params : Arguments} {body : List Stmt} {scope : Scope} {ps : Array Value} {pos : Pos} {firstLine : Nat} {clos : List (Str × Addr)} {Q : Value → Shared → Prop} {o0 : Obj}
    (F : Fr h₀ L s.heap m) (N : News h₀ L s.heap news) (T : Top p loose mean mg mb h₀) (hcd : ccd = .ref c) (hH : HdObj o0 c q0 P) (hm : (c, o0) ∈ news) (U : UpdF P (tabObj ps) news g) (ht : TriplesOk ps.toList) (hnf : codeAmong pos ps.toList = none)
    (hcl : closureFor scope (envX cn cs L a ccd cl) = pure clos)
    (h : ∀ f c' P' oc ctv doc h' tk, Fr h₀ L h' m →
      News h₀ L h' ((f, fnMade name qual params body scope clos doc ((mg "__name__").getD .none) c' ctv) :: (c', oc) :: (P', tabObj #[]) :: g (tabObj (ps ++ #[rawInt pos.line, rawInt pos.col, .ref c']))) →
      HdObj oc c' qual P' → (∀ q ∈ news, q.1 < c') → (∀ q ∈ news, q.1 < P') → c' < f → P' < f → Q (.ref f) { s with heap := h', toks := tk }) :
    wpAny M A (makeFunction name qual params (.stmts body) scope (envX cn cs L a ccd cl) [] [] [] pos firstLine) Q E s :=
  nestT F N T (hH.at N hm) hcd U ht hnf hcl h
theorem sok_use {S : Addr} {nw base : List (Addr × Obj)} {ok : V → Prop} {q : V → Int} {H : List (Addr × Obj) → Prop} {md : Bool → Prop} {rep pk : Bool} {n : Int} {t : Tok} (hS : SOk w S nw ok q base H md) (hm : md pk) (h0 : 0 ≤ n) (h1 : n < 536870912)
    {dp un : Nat} {gd : Option (List Code)} {cn : Str} {cs : Scope} {a : Addr} {ccd : Value} {cl : List (Str × Addr)} {outer : List Env} {A₀ : Around} {bs h₀ : Heap} {L : Addr} {m : Str → Option Value} {s : Shared} {Q E : Value → Shared → Prop}
    (B : Below A₀ bs outer h₀) (F : Fr h₀ L s.heap m) (X : (hd.heap_39 w.params).In h₀) (N : News h₀ L s.heap nw) (T : Top p loose mean mg mb h₀) (hk : cs.kind = .function)
    (hd : dp + 6 < recursionLimit) (hu : un + 60 < cLine)
    (ret : ∀ f X' h' tk', FnIn f (X' ++ base) → (∀ n3, (∀ p ∈ X' ++ base, p ∈ n3) → FnOk w ok q (tsz n) rep pk f n3 ∧ (pk = true → H n3)) → Fr h₀ L h' m → News h₀ L h' (X' ++ base) → Q (.ref f) { s with heap := h', toks := tk' }) :
    wpAny (model PySem.Challenge.rw_ae6019_01.row.prog w) (ktrTop dp un gd cn cs L a ccd cl outer) (call (.ref S) [.int n t, .bool rep, .bool pk]) Q E s := by
  refine cs_use (hS.2 rep pk n t hm h0 h1) B F X N T hk hd hu fun v h' tk' nw' hR F' N' => ?_
  obtain ⟨f, X', rfl, rfl, hfn, hf⟩ := hR
  exact ret f X' h' tk' hfn hf F' N'
theorem gok_use {gf : Addr} {ok : V → Prop} {q : V → Int} {v : V} {t : Tok} {news : List (Addr × Obj)} (hG : GOk w gf ok q) (hv : ok v)
    {dp un : Nat} {gd : Option (List Code)} {cn : Str} {cs : Scope} {a : Addr} {ccd : Value} {cl : List (Str × Addr)} {outer : List Env} {A₀ : Around} {bs h₀ : Heap} {L : Addr} {m : Str → Option Value} {s : Shared} {Q E : Value → Shared → Prop}
    (B : Below A₀ bs outer h₀) (F : Fr h₀ L s.heap m) (X : (hd.heap_39 w.params).In h₀) (N : News h₀ L s.heap news) (T : Top p loose mean mg mb h₀) (hk : cs.kind = .function)
    (hd : dp + 2 < recursionLimit) (hu : un + 16 < cLine)
    (ret : ∀ t' h' tk', Fr h₀ L h' m → News h₀ L h' news → Q (.int (q v) t') { s with heap := h', toks := tk' }) :
    wpAny (model PySem.Challenge.rw_ae6019_01.row.prog w) (ktrTop dp un gd cn cs L a ccd cl outer) (call (.ref gf) [v.val t]) Q E s := by
  refine cs_use (hG v t news hv) B F X N T hk hd hu fun v h' tk' nw' hR F' N' => ?_
  obtain ⟨⟨t', rfl⟩, rfl⟩ := hR
  exact ret t' h' tk' F' N'
end
section
variable {prog : Program} {w : World} {A : Around} {E : Value → Shared → Prop} {s : Shared} {env : Env} {h₀ : Heap} {x : Str} {body : List Stmt} {Q : Flow → Shared → Prop}
/-- over a list of the ledger, whatever it holds -/
theorem iter_vals {l : Addr} {vs : List Value} {nn : Nat} {m₀ : Str → Option Value} {news : List (Addr × Obj)} (J : Nat → (Str → Option Value) → Prop)
    (hh : A.handled = none) (hl : (l, listOf vs.toArray nn) ∈ news) (F : Fr h₀ env.locals s.heap m₀) (N : News h₀ env.locals s.heap news) (hj : J 0 m₀)
    (turn : ∀ i v m₁ h tk own, vs[i]? = some v → J i m₁ → Fr h₀ env.locals h (fun y => if y = x then some v else m₁ y) → News h₀ env.locals h (own ++ news) →
      wpAny (model prog w) A (execs body env) (InvPost h₀ env.locals (J (i + 1)) (own ++ news) { s with heap := h, toks := tk } Q) E { s with heap := h, toks := tk })
    (done : ∀ m₁ h tk, J vs.length m₁ → Fr h₀ env.locals h m₁ → News h₀ env.locals h news → Q .next { s with heap := h, toks := tk }) :
    wpAny (model prog w) A (pyIter (.ref l)) (fun it s₂ => LoopAtV prog w A h₀ env x body Q E it s₂) E s := by
  have hol := (N _ hl).1
  have hls : s.heap.IsList l vs.toArray := ⟨_, hol, rfl, nn, rfl⟩
  refine wpAny_pyIter_list hls ?_
  have W := Walks.list (prog := prog) (w := w) hh s.heap.objs.size l (Nat.ne_of_lt (Heap.lt_size hol)) vs.toArray
  rw [show vs.toArray.size = vs.length by simp] at W
  refine ⟨_, _, _, vs.length, _, _, m₀, news, fun i m₁ n₁ => n₁ = news ∧ J i m₁, rfl, W, ?_, ?_, ?_, ⟨⟨_, Heap.get?_push_size _ rfl, rfl, rfl⟩, hls.at fun o e => Heap.get?_push_of_some _ e⟩, F.push _, (fun p hp => ⟨Heap.get?_push_of_some _ (N p hp).1, (N p hp).2⟩), ⟨rfl, hj⟩, ?_, ?_⟩
  · intro hm
    rcases List.mem_cons.mp hm with e | hm
    · exact absurd F.ns.lt (e ▸ Nat.lt_irrefl _)
    · exact (N _ hl).2.1 ((List.mem_singleton.mp hm).symm)
  · intro b hb
    rw [List.mem_singleton.mp hb]
    exact next_is_new F
  · intro p hp hI
    exact absurd (Heap.lt_size (N p hp).1) ((List.mem_singleton.mp hI) ▸ Nat.lt_irrefl _)
  · rintro i v m₁ n₁ s₁ own ⟨h', tk', rfl⟩ hin hP ⟨rfl, hJ⟩ hoff _ _ _ _ F₁ N₁
    have hv : vs[i]? = some v := by simpa using hP
    refine wpAny_mono (turn i v m₁ h' tk' own hv hJ F₁ N₁) (fun f s₂ p => ?_) fun _ _ e => e
    have fin : InvEnd h₀ env.locals (J (i + 1)) (own ++ n₁) { s with heap := h', toks := tk' } s₂ → LoopStepU h₀ env.locals [s.heap.objs.size] own (fun m nx => nx = n₁ ∧ J (i + 1) m) { s with heap := h', toks := tk' } .next s₂ := by
      rintro ⟨h2, tk, m', news', e, F', N', hn, hm⟩
      exact ⟨rfl, h2, tk, m', n₁, e, F', fun p hp => N' p (hn p hp), hoff, rfl, hm⟩
    cases f with
    | ret v => exact .ret p
    | brk => exact .brk p
    | next => exact .next (fin p)
    | cont => exact .cont (fin p)
  · rintro h' tk m' news' F' N' _ ⟨rfl, hJ⟩
    exact done m' h' tk hJ F' N'
/-- what is added up -/
theorem iter_sum {l : Addr} {vs : List (V × Tok)} {nn : Nat} {m₀ : Str → Option Value} {news : List (Addr × Obj)} {y y2 : Str} {a₀ : Int} {q : V → Int} {ok : V → Prop} (_hq : Sums q) (hok : ∀ x ∈ vs, ok x.1) (hyx : y ≠ x) (hy2 : y ≠ y2)
    (hh : A.handled = none) (hl : (l, listOf (valsOf vs) nn) ∈ news) (F : Fr h₀ env.locals s.heap m₀) (N : News h₀ env.locals s.heap news) (hy : ∃ t₀, m₀ y = some (.int a₀ t₀))
    (turn : ∀ v t a ta (u : Str → Option Value) h tk own, ok v → Fr h₀ env.locals h (fun z => if z = x then some (V.val v t) else if z = y then some (.int a ta) else if z = y2 then u z else m₀ z) → News h₀ env.locals h (own ++ news) →
      wpAny (model prog w) A (execs body env) (InvPost h₀ env.locals (fun m' => (∃ t', m' y = some (.int (a + q v) t')) ∧ ∀ z, z ≠ x → z ≠ y → z ≠ y2 → m' z = m₀ z) (own ++ news) { s with heap := h, toks := tk } Q) E { s with heap := h, toks := tk })
    (done : ∀ (u : Str → Option Value) t h tk, Fr h₀ env.locals h (fun z => if z = x then u z else if z = y then some (.int (a₀ + qsum q vs) t) else if z = y2 then u z else m₀ z) → News h₀ env.locals h news → Q .next { s with heap := h, toks := tk }) :
    wpAny (model prog w) A (pyIter (.ref l)) (fun it s₂ => LoopAtV prog w A h₀ env x body Q E it s₂) E s := by
  refine iter_vals (fun i m => (∃ t, m y = some (.int (a₀ + qsum q (vs.take i)) t)) ∧ ∀ z, z ≠ x → z ≠ y → z ≠ y2 → m z = m₀ z) hh hl F N ⟨by obtain ⟨t₀, h⟩ := hy; exact ⟨t₀, by simpa [qsum] using h⟩, fun _ _ _ _ => rfl⟩ ?_ ?_
  · rintro i v m₁ h tk own hv ⟨⟨ta, ha⟩, hm⟩ F₁ N₁
    rw [List.getElem?_map] at hv
    obtain ⟨⟨v', t⟩, hvt, rfl⟩ := Option.map_eq_some_iff.mp hv
    have e : (fun z => if z = x then some (V.val v' t) else m₁ z) = fun z => if z = x then some (V.val v' t) else if z = y then some (.int (a₀ + qsum q (vs.take i)) ta) else if z = y2 then m₁ z else m₀ z := by
      funext z
      by_cases h1 : z = x
      · simp [h1]
      · simp only [if_neg h1]
        by_cases h2 : z = y
        · subst h2; simp [ha]
        · simp only [if_neg h2]
          by_cases h3 : z = y2
          · simp [h3]
          · simp only [if_neg h3]; exact hm z h1 h2 h3
    have hs := qsum_take q vs i (v', t) hvt
    simp only at hs
    rw [hs, ← Int.add_assoc]
    rw [show (fun y => if y = x then some ((fun x => V.val x.1 x.2) (v', t)) else m₁ y) = fun z => if z = x then some (V.val v' t) else m₁ z from rfl, e] at F₁
    exact turn v' t _ ta m₁ h tk own (hok (v', t) (List.mem_of_getElem? hvt)) F₁ N₁
  · rintro m₁ h tk ⟨⟨t, ha⟩, hm⟩ F₁ N₁
    rw [List.length_map, List.take_length] at ha
    refine done m₁ t h tk ?_ N₁
    have e : (fun z => if z = x then m₁ z else if z = y then some (Value.int (a₀ + qsum q vs) t) else if z = y2 then m₁ z else m₀ z) = m₁ := by
      funext z
      by_cases h1 : z = x
      · simp [h1]
      · simp only [if_neg h1]
        by_cases h2 : z = y
        · subst h2; simp [ha]
        · simp only [if_neg h2]
          by_cases h3 : z = y2
          · simp [h3]
          · simp only [if_neg h3]; exact (hm z h1 h2 h3).symm
    rw [e]; exact F₁
end
theorem len_vals {prog : Program} {w : World} {A : Around} {E : Value → Shared → Prop} {s : Shared} {h₀ : Heap} {L l : Addr} {vs : List (V × Tok)} {nn : Nat} {news : List (Addr × Obj)} {Q : Value → Shared → Prop}
    (N : News h₀ L s.heap news) (hm : (l, listOf (valsOf vs) nn) ∈ news) (hz : vs.length ≤ 1000) (h : Q (.int (vs.length : Int) (s.toks + 1)) { s with toks := s.toks + 1 + 1 }) : wpAny (model prog w) A (call (.builtin "len") [.ref l]) Q E s :=
  kun_lenL (News.isList N hm) (by rw [valsOf_size]) (by omega) h
theorem loadX_L {M : Model} {A : Around} {E : Value → Shared → Prop} {s : Shared} {h₀ : Heap} {L a : Addr} {m : Str → Option Value} {cn : Str} {cs : Scope} {ccd : Value} {cl : List (Str × Addr)} {x : Str} {v : Value} {Q : Value → Shared → Prop}
    (F : Fr h₀ L s.heap m) (hv : m x = some v) (h : Q v s) (hk : cs.kind = .function) (hx : (envX cn cs L a ccd cl).kindOf x = some .local) : wpAny M A (loadName (envX cn cs L a ccd cl) x) Q E s := wpAny_loadName_local hk hx F.ns hv h
end Mine
end
section -- group C
open PySem PySem.W PyProof.Rows PySem.Calls PySem.Spec
namespace Mine
local macro_rules | `(tactic| walk_at "exec If") => `(tactic| (k_here; with_reducible refine wpAny_If ?_))
local macro_rules | `(tactic| walk_at "isTrue Compare") => `(tactic| (k_here; with_reducible refine wpAny_isTrue_Compare1 ?_))
local macro_rules | `(tactic| walk_at "ite") => `(tactic| first | with_reducible refine ite_tt ?_ | with_reducible refine ite_ff ?_)
local macro_rules | `(tactic| walk_at "eval BinOp") => `(tactic| (k_here; (fail_if_success (with_reducible show wpAny _ _ _ (fun y s => SeqLeaf (Carried y _ ∧ Keeps _ s)) _ _)); refine wpAny_BinOp ?_))
local macro_rules | `(tactic| walk_at "eval Name") => `(tactic| (k_here; (name_kind "globalImplicit"); k_dflt (refine' nameX_K ?F ?X ?T ?e ?_ ?a ?b; (case F => k_asm); (case X => k_asm); (case T => k_asm); (case a => rfl); (case b => rfl); (case e => k_is); k_whole)))
local macro_rules | `(tactic| walk_at "eval Name") => `(tactic| (k_here; (name_kind "local"); k_dflt (refine' nameX_L ?F ?v ?_ ?a ?b; (case F => k_asm); (case a => rfl); (case b => rfl); (case v => rfl); k_whole)))
local macro_rules | `(tactic| walk_at "exec Assign") => `(tactic| (k_here; (with_reducible show wpAny _ _ (exec (Stmt.Assign [Expr.Name _ _] _ _) _) _ _ _); k_dflt (refine wpAny_Assign_Name ?_)))
local macro_rules | `(tactic| walk_at "storeName") => `(tactic| (k_here; k_dflt (refine' storeX_L ?F ?N ?_ ?a ?b; (case F => k_asm); (case N => k_asm); (case a => rfl); (case b => rfl); k_whole; intro h' F' N'; (try k_sweep))))
local macro_rules | `(tactic| walk_at "eval Call") => `(tactic| (k_here; (with_reducible show wpAny _ _ (eval (Expr.Call (Expr.Name _ _) _ _ _) _) _ _ _); (fail_if_success (with_reducible show wpAny _ _ _ (fun y s => SeqLeaf (Carried y _ ∧ Keeps _ s)) _ _)); k_dflt (refine Call_ ?_)))
local macro_rules | `(tactic| walk_at "call ref") => `(tactic| (k_here; (with_reducible show wpAny _ _ (call (Value.ref 172) [Value.int _ _]) _ _ _); k_dflt (refine' $(Lean.mkIdent `Mine.cs_use) ($(Lean.mkIdent `Mine.c_vs) _ _ _ _) ?k1 ?k2 ?k3 ?k4 ?k5 ?kK ?kd ?ku ?_; (case k1 => k_asm); (case k2 => k_asm); (case k3 => k_asm); (case k4 => k_asm); (case k5 => k_asm); (case kK => first | exact rfl | assumption); (case kd => ktr_room); (case ku => ktr_units)); intro v9 h9 tk9 n9 hR9 F9 N9; obtain ⟨⟨t9, hv9⟩, hn9⟩ := hR9; subst hv9; subst hn9; (try dsimp only); (try k_fold)))
local macro_rules | `(tactic| walk_at "call ref") => `(tactic| (k_here; (with_reducible show wpAny _ _ (call (Value.ref 179) [Value.int _ _]) _ _ _); k_dflt (refine' $(Lean.mkIdent `Mine.cs_use) ($(Lean.mkIdent `Mine.c_svs) _ _ _ _) ?k1 ?k2 ?k3 ?k4 ?k5 ?kK ?kd ?ku ?_; (case k1 => k_asm); (case k2 => k_asm); (case k3 => k_asm); (case k4 => k_asm); (case k5 => k_asm); (case kK => first | exact rfl | assumption); (case kd => ktr_room); (case ku => ktr_units)); intro v9 h9 tk9 n9 hR9 F9 N9; obtain ⟨⟨t9, hv9⟩, hn9⟩ := hR9; subst hv9; subst hn9; (try dsimp only); (try k_fold)))
local macro_rules | `(tactic| walk_at "call ref") => `(tactic| (k_here; (with_reducible show wpAny _ _ (call (Value.ref 165) [Value.int _ _]) _ _ _); k_dflt (refine' $(Lean.mkIdent `Mine.cs_use) ($(Lean.mkIdent `Mine.c_vu) _ _ _ _ (by first | omega | assumption)) ?k1 ?k2 ?k3 ?k4 ?k5 ?kK ?kd ?ku ?_; (case k1 => k_asm); (case k2 => k_asm); (case k3 => k_asm); (case k4 => k_asm); (case k5 => k_asm); (case kK => first | exact rfl | assumption); (case kd => ktr_room); (case ku => ktr_units)); intro v9 h9 tk9 n9 hR9 F9 N9; obtain ⟨⟨t9, hv9⟩, hn9⟩ := hR9; subst hv9; subst hn9; (try dsimp only); (try k_fold)))
local macro_rules | `(tactic| walk_at "call ref") => `(tactic| (k_here; (with_reducible show wpAny _ _ (call (Value.ref 46) [Value.int _ _, Value.int 0 _]) _ _ _); k_dflt (refine' $(Lean.mkIdent `Mine.cs_use) ($(Lean.mkIdent `Mine.c_pack) _ _ _ _ _ (by first | omega | assumption) (by first | omega | assumption)) ?k1 ?k2 ?k3 ?k4 ?k5 ?kK ?kd ?ku ?_; (case k1 => k_asm); (case k2 => k_asm); (case k3 => k_asm); (case k4 => k_asm); (case k5 => k_asm); (case kK => first | exact rfl | assumption); (case kd => ktr_room); (case ku => ktr_units)); intro v9 h9 tk9 n9 hR9 F9 N9; obtain ⟨⟨t9, hv9⟩, hn9⟩ := hR9; subst hv9; subst hn9; (try dsimp only); (try k_fold)))
local macro_rules | `(tactic| walk_at "call ref") => `(tactic| (k_here; (with_reducible show wpAny _ _ (call (Value.ref 53) [Value.int _ _]) _ _ _); k_dflt (refine' $(Lean.mkIdent `Mine.cs_use) ($(Lean.mkIdent `Mine.c_zz) _ _ _ _ (by first | omega | assumption) (by first | omega | assumption)) ?k1 ?k2 ?k3 ?k4 ?k5 ?kK ?kd ?ku ?_; (case k1 => k_asm); (case k2 => k_asm); (case k3 => k_asm); (case k4 => k_asm); (case k5 => k_asm); (case kK => first | exact rfl | assumption); (case kd => ktr_room); (case ku => ktr_units)); intro v9 h9 tk9 n9 hR9 F9 N9; obtain ⟨⟨t9, hv9⟩, hn9⟩ := hR9; subst hv9; subst hn9; (try dsimp only); (try k_fold)))
local macro_rules | `(tactic| walk_at "call ref") => `(tactic| (k_here; (with_reducible show wpAny _ _ (call (Value.ref 186) [Value.int _ _]) _ _ _); k_dflt (refine' $(Lean.mkIdent `Mine.cs_use) ($(Lean.mkIdent `Mine.c_tags) _ _ _ _ (by first | omega | assumption) (by first | omega | assumption)) ?k1 ?k2 ?k3 ?k4 ?k5 ?kK ?kd ?ku ?_; (case k1 => k_asm); (case k2 => k_asm); (case k3 => k_asm); (case k4 => k_asm); (case k5 => k_asm); (case kK => first | exact rfl | assumption); (case kd => ktr_room); (case ku => ktr_units)); intro v9 h9 tk9 n9 hR9 F9 N9; obtain ⟨⟨t9, hv9⟩, hn9⟩ := hR9; subst hv9; subst hn9; (try dsimp only); (try k_fold)))
local macro_rules | `(tactic| walk_at "eval Call") => `(tactic| (k_here; (with_reducible show wpAny _ _ (eval (Expr.Call _ _ _ _) _) _ _ _); (fail_if_success (with_reducible show wpAny _ _ _ (fun y s => SeqLeaf (Carried y _ ∧ Keeps _ s)) _ _)); k_dflt (refine Call_ ?_)))
local macro_rules | `(tactic| walk_at "execs nil") => `(tactic| (k_here; k_dflt (refine wpAny_execs_nil ?_)))
local macro_rules | `(tactic| walk_at "call ref") => `(tactic| (k_here; (with_reducible show wpAny _ _ (call (Value.ref _) [V.val _ _]) _ _ _); k_dflt (refine' $(Lean.mkIdent `Mine.gok_use) ?kS ?kv ?k1 ?k2 ?k3 ?k4 ?k5 ?kK ?kd ?ku ?_; (case kS => assumption); (case kv => assumption); (case k1 => k_asm); (case k2 => k_asm); (case k3 => k_asm); (case k4 => k_asm); (case k5 => k_asm); (case kK => first | exact rfl | assumption); (case kd => ktr_room); (case ku => ktr_units)); intro t9 h9 tk9 F9 N9; (try dsimp only); (try k_fold)))
local macro_rules | `(tactic| walk_at "pyIter ref") => `(tactic| ((with_reducible show wpAny _ _ (pyIter (Value.ref _)) (fun it s₂ => LoopAtV _ _ _ _ _ _ _ _ _ it s₂) _ _); k_here; (with_unfolding_all refine' $(Lean.mkIdent `Mine.iter_sum) (y := Str.ofString "result") (y2 := Str.ofString "l") ?kq ?ko ?ky ?kz ?kh ?kl ?kF ?kN ?kv (fun v' t' a' ta' u' h' tk' own' hm' F' N' => ?_) (fun u' t' h' tk' F' N' => ?_); (case kq => assumption); (case ky => decide); (case kz => decide); (case kh => rfl); (case kF => k_asm); (case kN => k_asm); (case kl => k_mem); (case kv => exact ⟨_, rfl⟩); (case ko => assumption); (all_goals ((try dsimp only); (try k_fold))))))
local macro_rules | `(tactic| walk_at "InvEnd") => `(tactic| (refine InvEnd.intro (by assumption) (by assumption) (by k_sub) ⟨⟨_, by with_unfolding_all rfl⟩, by (intro z h1 h2 h3; simp only [if_neg h1, if_neg h2, if_neg h3])⟩))
local macro_rules | `(tactic| walk_at "eval Name") => `(tactic| (k_here; k_dflt (refine' nameX_F ?N ?c ?m ?d ?_ ?a ?b; (case a => rfl); (case b => rfl); (case N => k_asm); (case c => rfl); (case m => k_mem); (case d => k_asm); k_whole)))
local macro_rules | `(tactic| walk_at "callWith ref") => `(tactic| (k_here; k_dflt (refine' callWith_F ?k1 ?_; (case k1 => exact $(Lean.mkIdent `Mine.fnAt_of) (by assumption) (by k_asm) (by k_asm)); k_whole)))
local macro_rules | `(tactic| walk_at "FnAt") => `(tactic| (k_dflt (exact $(Lean.mkIdent `Mine.fnAt_of) (by assumption) (by k_asm) (by k_asm))))
local macro_rules | `(tactic| walk_at "call builtin:len") => `(tactic| (k_here; (with_reducible show wpAny _ _ (call (Value.builtin "len") [Value.ref _]) _ _ _); k_dflt (refine' $(Lean.mkIdent `Mine.len_vals) ?k1 ?k2 ?k3 ?_; (case k1 => k_asm); (case k2 => k_mem); (case k3 => assumption); k_whole)))
local macro_rules | `(tactic| walk_at "exec For Name Name cons nil") => `(tactic| (k_here; (with_unfolding_all refine' For_invVF ?k0 ?k1 ?k2 ?_; (case k0 => k_asm); (case k1 => exact rfl); (case k2 => exact rfl); k_whole)))
local macro_rules | `(tactic| walk_at "loadName") => `(tactic| (k_here; k_dflt (refine' $(Lean.mkIdent `Mine.loadX_L) ?F ?v ?_ ?a ?b; (case a => rfl); (case b => rfl); (case F => k_asm); (case v => rfl); k_whole)))
local macro_rules | `(tactic| walk_at "getMethod str") => `(tactic| (k_here; with_reducible refine $(Lean.mkIdent `Mine.method_enc) ?_))
local macro_rules | `(tactic| walk_at "call builtin:str.encode") => `(tactic| (k_here; (with_reducible show wpAny _ _ (call (Value.builtin "str.encode") [Value.str _ _, Value.str _ _]) _ _ _); k_dflt (refine $(Lean.mkIdent `Mine.call_enc) (by assumption) (by first | omega | assumption) ?_)))
local macro_rules | `(tactic| walk_at "pyIter ref") => `(tactic| ((with_reducible show wpAny _ _ (pyIter (Value.ref _)) (fun it s₂ => LoopAtV _ _ _ _ _ _ _ _ _ it s₂) _ _); k_here; (with_unfolding_all refine' $(Lean.mkIdent `Mine.iter_sum) (y := Str.ofString "result") (y2 := Str.ofString "l") ?kq ?ko ?ky ?kz ?kh ?kl ?kF ?kN ?kv (fun v' t' a' ta' u' h' tk' own' hm' F' N' => ?k9) (fun u' t' h' tk' F' N' => ?k8); (case kq => exact (by with_reducible assumption : $(Lean.mkIdent `Mine.Sums) ($(Lean.mkIdent `Mine.psz) 9))); (case ky => decide); (case kz => decide); (case kh => rfl); (case kF => k_asm); (case kN => k_asm); (case kl => k_mem); (case kv => exact ⟨_, rfl⟩); (case ko => assumption); (rotate_left; ((try dsimp only); (try k_fold)); rotate_left; (obtain ⟨x', e', j1', j2', j3'⟩ := hm'; subst e'; (try dsimp only [V.val] at *); (try dsimp only); (try k_fold))))))
local macro_rules | `(tactic| walk_at "pyIter ref") => `(tactic| ((with_reducible show wpAny _ _ (pyIter (Value.ref _)) (fun it s₂ => LoopAtV _ _ _ _ _ _ _ _ _ it s₂) _ _); k_here; (with_unfolding_all refine' $(Lean.mkIdent `Mine.iter_sum) (y := Str.ofString "result") (y2 := Str.ofString "l") ?kq ?ko ?ky ?kz ?kh ?kl ?kF ?kN ?kv (fun v' t' a' ta' u' h' tk' own' hm' F' N' => ?k9) (fun u' t' h' tk' F' N' => ?k8); (case kq => exact (by with_reducible assumption : $(Lean.mkIdent `Mine.Sums) ($(Lean.mkIdent `Mine.psz) 12))); (case ky => decide); (case kz => decide); (case kh => rfl); (case kF => k_asm); (case kN => k_asm); (case kl => k_mem); (case kv => exact ⟨_, rfl⟩); (case ko => assumption); (rotate_left; ((try dsimp only); (try k_fold)); rotate_left; (obtain ⟨x', e', j1'⟩ := hm'; subst e'; (try dsimp only [V.val] at *); (try dsimp only); (try k_fold))))))
local macro_rules | `(tactic| walk_at "callWith ref") => `(tactic| (k_here; k_dflt (refine' callWith_F ?k1 ?_; (case k1 => exact $(Lean.mkIdent `Mine.FnIn.at) ($(Lean.mkIdent `Mine.SOk.fn) (by assumption)) (by k_asm)); k_whole)))
local macro_rules | `(tactic| walk_at "FnAt") => `(tactic| (k_dflt (exact $(Lean.mkIdent `Mine.FnIn.at) ($(Lean.mkIdent `Mine.SOk.fn) (by assumption)) (by k_asm))))
local macro_rules | `(tactic| walk_at "call ref") => `(tactic| (k_here; (with_reducible show wpAny _ _ (call (Value.ref _) [Value.int _ _, Value.bool _, Value.bool _]) _ _ _); k_dflt (refine' $(Lean.mkIdent `Mine.sok_use) ?kS ?km ?kn0 ?kn1 ?k1 ?k2 ?k3 ?k4 ?k5 ?kK ?kd ?ku ?_; (case kS => assumption); (case km => assumption); (case kn0 => assumption); (case kn1 => assumption); (case k1 => k_asm); (case k2 => k_asm); (case k3 => k_asm); (case k4 => k_asm); (case k5 => k_asm); (case kK => first | exact rfl | assumption); (case kd => ktr_room); (case ku => ktr_units)); intro f9 X9 h9 tk9 hf9 hok9 F9 N9; (try dsimp only); (try k_fold)))
local macro_rules | `(tactic| walk_at "call ref") => `(tactic| (k_here; (with_reducible show wpAny _ _ (call (Value.ref 193) _) _ _ _); k_dflt (refine' $(Lean.mkIdent `Mine.cs_use) ((by with_reducible assumption)) ?k1 ?k2 ?k3 ?k4 ?k5 ?kK ?kd ?ku ?_; (case k1 => k_asm); (case k2 => k_asm); (case k3 => k_asm); (case k4 => k_asm); (case k5 => k_asm); (case kK => first | exact rfl | assumption); (case kd => ktr_room); (case ku => ktr_units)); intro v9 h9 tk9 n9 hR9 F9 N9; obtain ⟨S9, X9, b9, H9, md9, hv9, hn9, hS9, hm9, hP9⟩ := hR9; subst hv9; subst hn9; (try dsimp only); (try k_fold)))
local macro_rules | `(tactic| walk_at "call ref") => `(tactic| (k_here; (with_reducible show wpAny _ _ (call (Value.ref 200) _) _ _ _); k_dflt (refine' $(Lean.mkIdent `Mine.cs_use) ((by with_reducible assumption)) ?k1 ?k2 ?k3 ?k4 ?k5 ?kK ?kd ?ku ?_; (case k1 => k_asm); (case k2 => k_asm); (case k3 => k_asm); (case k4 => k_asm); (case k5 => k_asm); (case kK => first | exact rfl | assumption); (case kd => ktr_room); (case ku => ktr_units)); intro v9 h9 tk9 n9 hR9 F9 N9; obtain ⟨S9, X9, b9, H9, md9, hv9, hn9, hS9, hm9, hP9⟩ := hR9; subst hv9; subst hn9; (try dsimp only); (try k_fold)))
local macro_rules | `(tactic| walk_at "call ref") => `(tactic| (k_here; (with_reducible show wpAny _ _ (call (Value.ref 207) _) _ _ _); k_dflt (refine' $(Lean.mkIdent `Mine.cs_use) ($(Lean.mkIdent `Mine.FixM.use) (by with_reducible assumption)) ?k1 ?k2 ?k3 ?k4 ?k5 ?kK ?kd ?ku ?_; (case k1 => k_asm); (case k2 => k_asm); (case k3 => k_asm); (case k4 => k_asm); (case k5 => k_asm); (case kK => first | exact rfl | assumption); (case kd => ktr_room); (case ku => ktr_units)); intro v9 h9 tk9 n9 hR9 F9 N9; obtain ⟨S9, X9, b9, H9, md9, hv9, hn9, hS9, hm9, hP9⟩ := hR9; subst hv9; subst hn9; (try dsimp only); (try k_fold)))
local macro_rules | `(tactic| walk_at "call ref") => `(tactic| (k_here; (with_reducible show wpAny _ _ (call (Value.ref _) [Value.int _ _, Value.bool _, Value.bool _]) _ _ _); k_dflt (first | (refine' $(Lean.mkIdent `Mine.cs_use) ($(Lean.mkIdent `Mine.SzFor.use) (by with_reducible assumption) (by with_reducible assumption)) ?k1 ?k2 ?k3 ?k4 ?k5 ?kK ?kd ?ku ?_; (case k1 => k_asm); (case k2 => k_asm); (case k3 => k_asm); (case k4 => k_asm); (case k5 => k_asm); (case kK => first | exact rfl | assumption); (case kd => ktr_room); (case ku => ktr_units); intro v9 h9 tk9 n9 hR9 F9 N9) | (exfalso; omega))))
local macro_rules | `(tactic| walk_at "exec Raise some none") => `(tactic| (exfalso; omega))
local macro_rules | `(tactic| walk_at "callWith ref") => `(tactic| (k_here; k_dflt (refine' callWith_K ?k1 ?k2 ?_; (case k1 => k_asm); (case k2 => k_is); k_whole)))
section -- Simple


local macro_rules | `(tactic| k_all) => `(tactic| exact ne_of_lts (by assumption))

local macro_rules | `(tactic| k_mem) => `(tactic| assumption)
set_option maxHeartbeats 8000000 in
theorem c_simple (w : World) (news : List (Addr × Obj)) (g : Obj → List (Addr × Obj)) (gf : Addr) (ok : V → Prop) (q : V → Int) (hG : GOk w gf ok q) (hK : FnK w gf) (U : UpdF 188 (tabObj #[]) news g) :
    CSpec w 193 [.ref gf] news 2 20 (fun v nw => ∃ S X ps, v = .ref S ∧ nw = X ++ g (tabObj ps) ∧ SOk w S nw ok q (g (tabObj ps)) (Hit2 188 116 4 121 12 (qSpec "_SimpleSizer") (qPack "_SimpleSizer")) (fun _ => True)) := by
  w_top off
  unfold CSpec
  k_fill
  intro p loose mean mg mb dp un gd cn cs a ccd cl outer A₀ base h₀ L m s Q E B F X N T hk hd hu hret
  refine wpAny_call ?_
  k_dflt (refine' code_defC ?k1 ?k2 ?k3 ?k4 ?k5 ?kA ?kF ?kK ?k6 ?k7 ?k8 ?k9 ?kB ?kD ?_ ?c2 ?c3 ?c4; (case kA => exact rfl); (case kF => exact rfl); (case kK => assumption); (case k1 => k_asm); (case k2 => k_asm); (case k3 => k_asm); (case k4 => k_asm); (case k5 => k_asm); (case k6 => k_is); (case k7 => k_is); (case k8 => ktr_room); (case k9 => exact BindsTo.of_eq rfl); (case kB => exact rfl); (case kD => decide +kernel); (case c2 => exact rfl); (case c3 => exact rfl); (case c4 => exact rfl); k_whole; intro g' L' h' tk' cells' FG' F' N' Y' B' X' T' l1; (try k_lt l1); k_cells Y'; (try simp only [List.cons_append, List.nil_append] at N'); (try dsimp only); (try k_lift B'); (try k_fold))
  have h188 : @LT.lt Nat _ 188 L' := l1 _ (Mine.UpdF.mem U)
  rename_i ox dx
  replace dx : ox.data = .cell (some (.ref gf)) := dx
  k_steps
  refine' nestDef_K ?d0 ?k0 ?a0 ?_
  case d0 => exact rfl
  case k0 => exact rfl
  case a0 => exact rfl
  refine' nestT0 (c := 192) (P := 188) ?F ?N ?T ?X ?cd ?e ?U ?t ?n ?cl ?_
  case F => k_asm
  case N => k_asm
  case T => k_asm
  case X => k_asm
  case cd => exact rfl
  case e => kernel_rfl
  case U => first | assumption | exact UpdF.tail (by k_ne) (by assumption)
  case t => kn_triples
  case n => kn_among
  case cl => exact rfl
  intro f1 c1 P1 oc1 ct1 dc1 h1 tk1 F1 N1 hh1 la1 lb1 lc1 ld1
  replace lc1 := ltN lc1
  replace ld1 := ltN ld1
  generalize hqn1 : qualnameIn _ _ _ = qn1 at *
  simp only [Array.empty_append] at N1

  have hq1 : qn1 = qSpec "_SimpleSizer" := hqn1.symm
  k_steps
  refine' hret _ _ _ _ ?r ?F ?N
  case F => k_asm
  case N => k_asm
  refine ⟨_, [_, _, _, _], _, rfl, rfl, fnIn_head rfl, ?_⟩
  have lq := Mine.UpdF.lt (o' := tabObj #[rawInt ↑116, rawInt ↑4, Value.ref c1]) U fun q hq => lb1 q (.tail _ hq)
  have lx0 : @LT.lt Nat _ (L' + 1) P1 := lb1 _ (.head _)
  have hne := Mine.HdObj.ne hh1
  try clear hret
  try clear N1
  try clear F1
  try clear hk
  try clear hu
  try clear hd
  try clear N'
  try clear F'
  try clear B'
  try clear X'
  try clear T'
  try clear FG'
  try clear F
  try clear N
  try clear X
  try clear T
  try clear B
  try clear l1
  try clear h188
  try clear la1
  try clear lb1
  try clear lc1
  try clear hqn1
  intro rep pk n t _ hn0 hn1
  unfold CSpec
  intro p loose mean mg mb dp un gd cn cs a ccd cl outer A₀ base h₀ L m s Q E B F X N T hk hd hu hret
  refine wpAny_call ?_
  refine' code_nestC ?k1 ?k2 ?k3 ?k4 ?k5 ?kA ?kF ?kK ?k6 ?k7 ?k8 ?k9 ?kB ?_ ?c2 ?c3 ?c4
  case kA => exact rfl
  case kF => exact rfl
  case kK => first | exact rfl | assumption
  case k1 => k_asm
  case k2 => k_asm
  case k3 => k_asm
  case k4 => k_asm
  case k5 => k_asm
  case k6 => k_mem
  case k7 => exact HdObj.rec (by assumption) (by k_asm) (by k_mem)
  case k8 => ktr_room
  case k9 => exact BindsTo.of_eq rfl
  case kB => exact locs rfl
  case c2 => exact rfl
  case c3 => exact rfl
  case c4 => exact rfl
  intro g2 L2 h2 tk2 cells2 FG2 F2 N2 Y2 B2 X2 T2 l2
  k_cells Y2
  try simp only [List.cons_append, List.nil_append] at N2
  try dsimp only
  try k_lift B2
  try k_fold

  rename_i oa ob da db
  have y0 : @LT.lt Nat _ f1 L2 := l2 _ (.head _)
  have y1 : @LT.lt Nat _ c1 L2 := l2 _ (.tail _ (.head _))
  have y2 : @LT.lt Nat _ P1 L2 := l2 _ (.tail _ (.tail _ (.head _)))
  have y3 : @LT.lt Nat _ (L' + 1) L2 := l2 _ (.tail _ (.tail _ (.tail _ (.head _))))
  have e0 : ∀ q ∈ g (tabObj #[rawInt ↑116, rawInt ↑4, Value.ref c1]), q.1 < L2 := fun q hq => l2 q (.tail _ (.tail _ (.tail _ (.tail _ hq))))
  have e1 : ∀ q ∈ g (tabObj #[rawInt ↑116, rawInt ↑4, Value.ref c1]), q.1 < L2 + 1 := fun q hq => Nat.lt_trans (e0 q hq) (Nat.lt_succ_self _)
  have e2 : ∀ q ∈ g (tabObj #[rawInt ↑116, rawInt ↑4, Value.ref c1]), q.1 < L2 + 1 + 1 := fun q hq => Nat.lt_trans (e1 q hq) (Nat.lt_succ_self _)
  clear l2 e0
  cases pk
  · cases rep
    ·
      k_steps
      refine' nestDef_K ?d0 ?k0 ?a0 ?_
      case d0 => exact rfl
      case k0 => exact rfl
      case a0 => exact rfl
      refine' nestT1 ?F ?N ?T ?cd ?hH ?hm ?U ?t ?n ?cl ?_
      case F => k_asm
      case N => k_asm
      case T => k_asm
      case cd => exact rfl
      case hH => assumption
      case hm => k_mem
      case U => k_updF
      case t => kn_triples
      case n => kn_among
      case cl => exact rfl
      intro f3 c3 P3 oc3 ct3 dc3 h3 tk3 F3 N3 hh3 la3 lb3 lc3 ld3
      replace lc3 := ltN lc3
      replace ld3 := ltN ld3
      generalize hqn3 : qualnameIn _ _ _ = qn3 at *
      simp only [Array.empty_append] at N3

      k_steps
      refine' hret _ _ _ _ (rf_mk2 [_, _, _, _, _, _, _, _, _] [_, _, _, _, _, _, _, _, _] rfl (fnIn_head rfl) ?_ (fun p hp => List.mem_append_left _ hp) nofun) (by k_asm) (by k_asm)
      try clear hret
      try clear N3
      try clear F3
      try clear hk
      try clear hu
      try clear hd
      try clear F
      try clear X
      try clear T
      try clear B
      try clear N
      try clear la3
      try clear lb3
      try clear lc3
      try clear ld3
      try clear FG2
      try clear F2
      try clear N2
      try clear B2
      try clear X2
      try clear T2
      try clear l2
      intro n3
      refine ⟨fun _ _ v t hv => ?_, nofun, nofun⟩
      simp only [List.cons_append, List.nil_append]
      unfold CSpec
      have hq : Sums q := trivial
      intro p loose mean mg mb dp un gd cn cs a ccd cl outer A₀ base h₀ L m s Q E B F X N T hk hd hu hret
      refine wpAny_call ?_
      refine' code_nest ?k1 ?k2 ?k3 ?k4 ?k5 ?kA ?kF ?kK ?k6 ?k7 ?k8 ?k9 ?kB ?_ ?c2 ?c3 ?c4 ?c5
      case kA => exact rfl
      case kF => exact rfl
      case kK => first | exact rfl | assumption
      case k1 => k_asm
      case k2 => k_asm
      case k3 => k_asm
      case k4 => k_asm
      case k5 => k_asm
      case k6 => k_mem
      case k7 => exact HdObj.rec (by assumption) (by k_asm) (by k_mem)
      case k8 => ktr_room
      case k9 => exact BindsTo.of_eq rfl
      case kB => exact locs rfl
      case c2 => exact rfl
      case c3 => exact rfl
      case c4 => exact rfl
      case c5 => decide
      intro g4 L4 h4 FG4 F4 N4 B4 X4 T4
      try dsimp only
      try k_lift B4
      try k_fold

      k_steps
      all_goals (refine ret_int hret ?_ ?_ ?_; k_asm; k_asm)
      all_goals (first | rfl | (simp only [Int.zero_add]; done) | (simp only [Int.zero_add]; omega))
    ·
      k_steps
      refine' nestDef_K ?d0 ?k0 ?a0 ?_
      case d0 => exact rfl
      case k0 => exact rfl
      case a0 => exact rfl
      refine' nestT1 ?F ?N ?T ?cd ?hH ?hm ?U ?t ?n ?cl ?_
      case F => k_asm
      case N => k_asm
      case T => k_asm
      case cd => exact rfl
      case hH => assumption
      case hm => k_mem
      case U => k_updF
      case t => kn_triples
      case n => kn_among
      case cl => exact rfl
      intro f3 c3 P3 oc3 ct3 dc3 h3 tk3 F3 N3 hh3 la3 lb3 lc3 ld3
      replace lc3 := ltN lc3
      replace ld3 := ltN ld3
      generalize hqn3 : qualnameIn _ _ _ = qn3 at *
      simp only [Array.empty_append] at N3

      k_steps
      refine' hret _ _ _ _ (rf_mk2 [_, _, _, _, _, _, _, _, _] [_, _, _, _, _, _, _, _, _] rfl (fnIn_head rfl) ?_ (fun p hp => List.mem_append_left _ hp) nofun) (by k_asm) (by k_asm)
      try clear hret
      try clear N3
      try clear F3
      try clear hk
      try clear hu
      try clear hd
      try clear F
      try clear X
      try clear T
      try clear B
      try clear N
      try clear la3
      try clear lb3
      try clear lc3
      try clear ld3
      try clear FG2
      try clear F2
      try clear N2
      try clear B2
      try clear X2
      try clear T2
      try clear l2
      intro n3
      refine ⟨nofun, fun _ _ l vs nn hz hv => ?_, nofun⟩
      simp only [List.cons_append, List.nil_append]
      unfold CSpec
      have hq : Sums q := trivial
      intro p loose mean mg mb dp un gd cn cs a ccd cl outer A₀ base h₀ L m s Q E B F X N T hk hd hu hret
      refine wpAny_call ?_
      refine' code_nest ?k1 ?k2 ?k3 ?k4 ?k5 ?kA ?kF ?kK ?k6 ?k7 ?k8 ?k9 ?kB ?_ ?c2 ?c3 ?c4 ?c5
      case kA => exact rfl
      case kF => exact rfl
      case kK => first | exact rfl | assumption
      case k1 => k_asm
      case k2 => k_asm
      case k3 => k_asm
      case k4 => k_asm
      case k5 => k_asm
      case k6 => k_mem
      case k7 => exact HdObj.rec (by assumption) (by k_asm) (by k_mem)
      case k8 => ktr_room
      case k9 => exact BindsTo.of_eq rfl
      case kB => exact locs rfl
      case c2 => exact rfl
      case c3 => exact rfl
      case c4 => exact rfl
      case c5 => decide
      intro g4 L4 h4 FG4 F4 N4 B4 X4 T4
      try dsimp only
      try k_lift B4
      try k_fold

      k_steps
      all_goals (refine ret_int hret ?_ ?_ ?_; k_asm; k_asm)
      all_goals (first | rfl | (simp only [Int.zero_add]; done) | (simp only [Int.zero_add]; omega))
  ·
    k_steps
    refine' nestDef_K ?d0 ?k0 ?a0 ?_
    case d0 => exact rfl
    case k0 => exact rfl
    case a0 => exact rfl
    refine' nestT1 ?F ?N ?T ?cd ?hH ?hm ?U ?t ?n ?cl ?_
    case F => k_asm
    case N => k_asm
    case T => k_asm
    case cd => exact rfl
    case hH => assumption
    case hm => k_mem
    case U => k_updF
    case t => kn_triples
    case n => kn_among
    case cl => exact rfl
    intro f3 c3 P3 oc3 ct3 dc3 h3 tk3 F3 N3 hh3 la3 lb3 lc3 ld3
    replace lc3 := ltN lc3
    replace ld3 := ltN ld3
    generalize hqn3 : qualnameIn _ _ _ = qn3 at *
    simp only [Array.empty_append] at N3

    have hq3 : qn3 = qPack "_SimpleSizer" := by rw [← hqn3, hq1]; rfl
    k_steps
    refine' hret _ _ _ _ (rf_mk2 [_, _, _, _, _, _, _, _, _] [_, _, _, _, _, _, _, _, _] rfl (fnIn_head rfl) ?_ (fun p hp => List.mem_append_left _ hp) (fun _ n3 hs => ?_)) (by k_asm) (by k_asm)
    case refine'_2 => exact ⟨c1, oc1, P1, c3, oc3, P3, hs _ (List.mem_append_right [_, _, _, _, _, _, _, _, _] (Mine.UpdF.mem' U)), hs _ (by k_mem), hq1 ▸ hh1, hs _ (by k_mem), hs _ (by k_mem), hq3 ▸ hh3⟩
    try clear hret
    try clear N3
    try clear F3
    try clear hk
    try clear hu
    try clear hd
    try clear F
    try clear X
    try clear T
    try clear B
    try clear N
    try clear la3
    try clear lb3
    try clear lc3
    try clear ld3
    try clear FG2
    try clear F2
    try clear N2
    try clear B2
    try clear X2
    try clear T2
    try clear l2
    intro n3
    refine ⟨(fun _ h => nomatch h), (fun _ h => nomatch h), fun _ l vs nn hz hv => ?_⟩
    simp only [List.cons_append, List.nil_append]
    unfold CSpec
    have hq : Sums q := trivial
    intro p loose mean mg mb dp un gd cn cs a ccd cl outer A₀ base h₀ L m s Q E B F X N T hk hd hu hret
    refine wpAny_call ?_
    refine' code_nest ?k1 ?k2 ?k3 ?k4 ?k5 ?kA ?kF ?kK ?k6 ?k7 ?k8 ?k9 ?kB ?_ ?c2 ?c3 ?c4 ?c5
    case kA => exact rfl
    case kF => exact rfl
    case kK => first | exact rfl | assumption
    case k1 => k_asm
    case k2 => k_asm
    case k3 => k_asm
    case k4 => k_asm
    case k5 => k_asm
    case k6 => k_mem
    case k7 => exact HdObj.rec (by assumption) (by k_asm) (by k_mem)
    case k8 => ktr_room
    case k9 => exact BindsTo.of_eq rfl
    case kB => exact locs rfl
    case c2 => exact rfl
    case c3 => exact rfl
    case c4 => exact rfl
    case c5 => decide
    intro g4 L4 h4 FG4 F4 N4 B4 X4 T4
    try dsimp only
    try k_lift B4
    try k_fold

    k_steps
    all_goals (refine ret_int hret ?_ ?_ ?_; k_asm; k_asm)
    all_goals (first | rfl | (simp only [Int.zero_add]; done) | (simp only [Int.zero_add]; omega))
set_option maxHeartbeats 8000000 in
theorem c_simple_hit (w : World) (news : List (Addr × Obj)) (gf : Addr) (ok : V → Prop) (q : V → Int) (hG : GOk w gf ok q) (hK : FnK w gf) (hH : Hit2 188 116 4 121 12 (qSpec "_SimpleSizer") (qPack "_SimpleSizer") news) :
    CSpec w 193 [.ref gf] news 2 20 (fun v nw => ∃ S X, v = .ref S ∧ nw = X ++ news ∧ SOk w S nw ok q news (fun _ => True) (fun pk => pk = true)) := by
  obtain ⟨a1, o1, P1, a2, o2, P2, m1, m2, hh1, m4, m5, hh3⟩ := hH
  w_top off
  unfold CSpec
  k_fill
  intro p loose mean mg mb dp un gd cn cs a ccd cl outer A₀ base h₀ L m s Q E B F X N T hk hd hu hret
  refine wpAny_call ?_
  k_dflt (refine' code_defC ?k1 ?k2 ?k3 ?k4 ?k5 ?kA ?kF ?kK ?k6 ?k7 ?k8 ?k9 ?kB ?kD ?_ ?c2 ?c3 ?c4; (case kA => exact rfl); (case kF => exact rfl); (case kK => assumption); (case k1 => k_asm); (case k2 => k_asm); (case k3 => k_asm); (case k4 => k_asm); (case k5 => k_asm); (case k6 => k_is); (case k7 => k_is); (case k8 => ktr_room); (case k9 => exact BindsTo.of_eq rfl); (case kB => exact rfl); (case kD => decide +kernel); (case c2 => exact rfl); (case c3 => exact rfl); (case c4 => exact rfl); k_whole; intro g' L' h' tk' cells' FG' F' N' Y' B' X' T' l1; (try k_lt l1); k_cells Y'; (try simp only [List.cons_append, List.nil_append] at N'); (try dsimp only); (try k_lift B'); (try k_fold))
  rename_i ox dx
  replace dx : ox.data = .cell (some (.ref gf)) := dx
  k_steps
  refine' nestDef_K ?d0 ?k0 ?a0 ?_
  case d0 => exact rfl
  case k0 => exact rfl
  case a0 => exact rfl
  refine' nestTHit (c := 192) ?F ?N ?T ?C ?cd ?mem ?t ?n ?cl ?_
  case F => k_asm
  case N => k_asm
  case T => k_asm
  case cd => exact rfl
  case C => exact (codeHd_of_K (c := 192) (P := 188) X' (by kernel_rfl)).keeps (Fr.keep (by k_asm))
  case mem => exact (.tail _ m1)
  case t => kn_triples
  case n => kn_hit
  case cl => exact rfl
  intro f1 ct1 dc1 h1 tk1 F1 N1 la1
  generalize hqn1 : qualnameIn _ _ _ = qn1 at *
  have hq1 : qn1 = qSpec "_SimpleSizer" := hqn1.symm
  rw [← hq1] at hh1
  k_steps
  refine' hret _ _ _ _ ?r ?F ?N
  case F => k_asm
  case N => k_asm
  refine ⟨_, [_, _], rfl, rfl, fnIn_head rfl, ?_⟩
  try clear hret
  try clear N1
  try clear F1
  try clear hk
  try clear hu
  try clear hd
  try clear N'
  try clear F'
  try clear B'
  try clear X'
  try clear T'
  try clear FG'
  try clear F
  try clear N
  try clear X
  try clear T
  try clear B
  try clear l1
  try clear la1
  try clear hqn1
  intro rep pk n t hpk hn0 hn1
  subst hpk
  unfold CSpec
  intro p loose mean mg mb dp un gd cn cs a ccd cl outer A₀ base h₀ L m s Q E B F X N T hk hd hu hret
  refine wpAny_call ?_
  refine' code_nestC ?k1 ?k2 ?k3 ?k4 ?k5 ?kA ?kF ?kK ?k6 ?k7 ?k8 ?k9 ?kB ?_ ?c2 ?c3 ?c4
  case kA => exact rfl
  case kF => exact rfl
  case kK => first | exact rfl | assumption
  case k1 => k_asm
  case k2 => k_asm
  case k3 => k_asm
  case k4 => k_asm
  case k5 => k_asm
  case k6 => k_mem
  case k7 => exact HdObj.rec (by assumption) (by k_asm) (by k_mem)
  case k8 => ktr_room
  case k9 => exact BindsTo.of_eq rfl
  case kB => exact locs rfl
  case c2 => exact rfl
  case c3 => exact rfl
  case c4 => exact rfl
  intro g2 L2 h2 tk2 cells2 FG2 F2 N2 Y2 B2 X2 T2 l2
  k_cells Y2
  try simp only [List.cons_append, List.nil_append] at N2
  try dsimp only
  try k_lift B2
  try k_fold

  rename_i oa ob da db
  have y0 : @LT.lt Nat _ f1 L2 := l2 _ (.head _)
  have y1 : @LT.lt Nat _ (L' + 1) L2 := l2 _ (.tail _ (.head _))
  have e0 : ∀ q ∈ news, q.1 < L2 := fun q hq => l2 q (.tail _ (.tail _ hq))
  have e1 : ∀ q ∈ news, q.1 < L2 + 1 := fun q hq => Nat.lt_trans (e0 q hq) (Nat.lt_succ_self _)
  have e2 : ∀ q ∈ news, q.1 < L2 + 1 + 1 := fun q hq => Nat.lt_trans (e1 q hq) (Nat.lt_succ_self _)
  clear l2 e0
  k_steps
  refine' nestDef_K ?d0 ?k0 ?a0 ?_
  case d0 => exact rfl
  case k0 => exact rfl
  case a0 => exact rfl
  refine' nestTHit (c := a1) ?F ?N ?T ?C ?cd ?mem ?t ?n ?cl ?_
  case F => k_asm
  case N => k_asm
  case T => k_asm
  case cd => exact rfl
  case C => exact HdObj.at hh1 (by k_asm) (by k_mem)
  case mem => k_mem
  case t => kn_triples
  case n => kn_hit
  case cl => exact rfl
  intro f3 ct3 dc3 h3 tk3 F3 N3 la3
  generalize hqn3 : qualnameIn _ _ _ = qn3 at *
  have hq3 : qn3 = qPack "_SimpleSizer" := by rw [← hqn3, hq1]; rfl
  rw [← hq3] at hh3
  k_steps
  refine' hret _ _ _ _ (rf_mk2 [_, _, _, _, _] ((a2, o2) :: [_, _, _, _, _]) rfl (fnIn_head rfl) ?_ (fun p hp => (List.mem_cons.mp hp).elim (fun e => e ▸ List.mem_append_right [_, _, _, _, _] m5) (fun hp => List.mem_append_left _ hp)) (fun _ _ _ => trivial)) (by k_asm) (by k_asm)
  try clear hret
  try clear N3
  try clear F3
  try clear hk
  try clear hu
  try clear hd
  try clear F
  try clear X
  try clear T
  try clear B
  try clear N
  try clear la3
  try clear lb3
  try clear lc3
  try clear ld3
  try clear FG2
  try clear F2
  try clear N2
  try clear B2
  try clear X2
  try clear T2
  try clear l2
  intro n3
  refine ⟨(fun _ h => nomatch h), (fun _ h => nomatch h), fun _ l vs nn hz hv => ?_⟩
  simp only [List.cons_append, List.nil_append]
  unfold CSpec
  have hq : Sums q := trivial
  intro p loose mean mg mb dp un gd cn cs a ccd cl outer A₀ base h₀ L m s Q E B F X N T hk hd hu hret
  refine wpAny_call ?_
  refine' code_nest ?k1 ?k2 ?k3 ?k4 ?k5 ?kA ?kF ?kK ?k6 ?k7 ?k8 ?k9 ?kB ?_ ?c2 ?c3 ?c4 ?c5
  case kA => exact rfl
  case kF => exact rfl
  case kK => first | exact rfl | assumption
  case k1 => k_asm
  case k2 => k_asm
  case k3 => k_asm
  case k4 => k_asm
  case k5 => k_asm
  case k6 => k_mem
  case k7 => exact HdObj.rec (by assumption) (by k_asm) (by k_mem)
  case k8 => ktr_room
  case k9 => exact BindsTo.of_eq rfl
  case kB => exact locs rfl
  case c2 => exact rfl
  case c3 => exact rfl
  case c4 => exact rfl
  case c5 => decide
  intro g4 L4 h4 FG4 F4 N4 B4 X4 T4
  try dsimp only
  try k_lift B4
  try k_fold

  k_steps
  all_goals (refine ret_int hret ?_ ?_ ?_; k_asm; k_asm)
  all_goals (first | rfl | (simp only [Int.zero_add]; done) | (simp only [Int.zero_add]; omega))
end
section -- Mod


local macro_rules | `(tactic| k_all) => `(tactic| exact ne_of_lts (by assumption))

local macro_rules | `(tactic| k_mem) => `(tactic| assumption)
def okZ : V → Prop := fun v => ∃ n, v = .i n ∧ -9223372036854775808 ≤ n ∧ n < 9223372036854775808
def zV : V → Int := fun v => match v with | .i n => zz n | _ => 0
def qZ : V → Int := fun v => svsz (zV v)
theorem gok_zz (w : World) : GOk w 53 okZ zV := by
  rintro v t news ⟨z, rfl, h0, h1⟩
  intro p loose mean mg mb dp un gd cn cs a ccd cl outer A₀ base h₀ L m s Q E B F X N T hk hd hu hret
  exact c_zz w news z t h0 h1 p loose mean mg mb dp un gd cn cs a ccd cl outer A₀ base h₀ L m s Q E B F X N T hk (by omega) (by omega) hret
set_option maxHeartbeats 8000000 in
theorem c_mod (w : World) (news : List (Addr × Obj)) (g : Obj → List (Addr × Obj))  (U : UpdF 195 (tabObj #[]) news g) :
    CSpec w 200 [.ref 179, .ref 53] news 2 20 (fun v nw => ∃ S X ps, v = .ref S ∧ nw = X ++ g (tabObj ps) ∧ SOk w S nw okZ qZ (g (tabObj ps)) (Hit2 195 143 4 148 12 (qSpec "_ModifiedSizer") (qPack "_ModifiedSizer")) (fun _ => True)) := by
  w_top off
  unfold CSpec
  k_fill
  intro p loose mean mg mb dp un gd cn cs a ccd cl outer A₀ base h₀ L m s Q E B F X N T hk hd hu hret
  refine wpAny_call ?_
  k_dflt (refine' code_defC ?k1 ?k2 ?k3 ?k4 ?k5 ?kA ?kF ?kK ?k6 ?k7 ?k8 ?k9 ?kB ?kD ?_ ?c2 ?c3 ?c4; (case kA => exact rfl); (case kF => exact rfl); (case kK => assumption); (case k1 => k_asm); (case k2 => k_asm); (case k3 => k_asm); (case k4 => k_asm); (case k5 => k_asm); (case k6 => k_is); (case k7 => k_is); (case k8 => ktr_room); (case k9 => exact BindsTo.of_eq rfl); (case kB => exact rfl); (case kD => decide +kernel); (case c2 => exact rfl); (case c3 => exact rfl); (case c4 => exact rfl); k_whole; intro g' L' h' tk' cells' FG' F' N' Y' B' X' T' l1; (try k_lt l1); k_cells Y'; (try simp only [List.cons_append, List.nil_append] at N'); (try dsimp only); (try k_lift B'); (try k_fold))
  have h188 : @LT.lt Nat _ 195 L' := l1 _ (Mine.UpdF.mem U)
  rename_i ox oy dx dy
  replace dx : ox.data = .cell (some (.ref 53)) := dx
  replace dy : oy.data = .cell (some (.ref 179)) := dy
  k_steps
  refine' nestDef_K ?d0 ?k0 ?a0 ?_
  case d0 => exact rfl
  case k0 => exact rfl
  case a0 => exact rfl
  refine' nestT0 (c := 199) (P := 195) ?F ?N ?T ?X ?cd ?e ?U ?t ?n ?cl ?_
  case F => k_asm
  case N => k_asm
  case T => k_asm
  case X => k_asm
  case cd => exact rfl
  case e => kernel_rfl
  case U => first | assumption | exact UpdF.tail (by k_ne) (UpdF.tail (by k_ne) (by assumption))
  case t => kn_triples
  case n => kn_among
  case cl => exact rfl
  intro f1 c1 P1 oc1 ct1 dc1 h1 tk1 F1 N1 hh1 la1 lb1 lc1 ld1
  replace lc1 := ltN lc1
  replace ld1 := ltN ld1
  generalize hqn1 : qualnameIn _ _ _ = qn1 at *
  simp only [Array.empty_append] at N1

  have hq1 : qn1 = qSpec "_ModifiedSizer" := hqn1.symm
  k_steps
  refine' hret _ _ _ _ ?r ?F ?N
  case F => k_asm
  case N => k_asm
  refine ⟨_, [_, _, _, _, _], _, rfl, rfl, fnIn_head rfl, ?_⟩
  have lq := Mine.UpdF.lt (o' := tabObj #[rawInt ↑143, rawInt ↑4, Value.ref c1]) U fun q hq => lb1 q (.tail _ (.tail _ hq))
  have lx0 : @LT.lt Nat _ (L' + 1 + 1) P1 := lb1 _ (.head _)
  have lx1 : @LT.lt Nat _ (L' + 1) P1 := lb1 _ (.tail _ (.head _))
  have hne := Mine.HdObj.ne hh1
  try clear hret
  try clear N1
  try clear F1
  try clear hk
  try clear hu
  try clear hd
  try clear N'
  try clear F'
  try clear B'
  try clear X'
  try clear T'
  try clear FG'
  try clear F
  try clear N
  try clear X
  try clear T
  try clear B
  try clear l1
  try clear h188
  try clear la1
  try clear lb1
  try clear lc1
  try clear hqn1
  intro rep pk n t _ hn0 hn1
  unfold CSpec
  intro p loose mean mg mb dp un gd cn cs a ccd cl outer A₀ base h₀ L m s Q E B F X N T hk hd hu hret
  refine wpAny_call ?_
  refine' code_nestC ?k1 ?k2 ?k3 ?k4 ?k5 ?kA ?kF ?kK ?k6 ?k7 ?k8 ?k9 ?kB ?_ ?c2 ?c3 ?c4
  case kA => exact rfl
  case kF => exact rfl
  case kK => first | exact rfl | assumption
  case k1 => k_asm
  case k2 => k_asm
  case k3 => k_asm
  case k4 => k_asm
  case k5 => k_asm
  case k6 => k_mem
  case k7 => exact HdObj.rec (by assumption) (by k_asm) (by k_mem)
  case k8 => ktr_room
  case k9 => exact BindsTo.of_eq rfl
  case kB => exact locs rfl
  case c2 => exact rfl
  case c3 => exact rfl
  case c4 => exact rfl
  intro g2 L2 h2 tk2 cells2 FG2 F2 N2 Y2 B2 X2 T2 l2
  k_cells Y2
  try simp only [List.cons_append, List.nil_append] at N2
  try dsimp only
  try k_lift B2
  try k_fold

  rename_i oa ob da db
  have y0 : @LT.lt Nat _ f1 L2 := l2 _ (.head _)
  have y1 : @LT.lt Nat _ c1 L2 := l2 _ (.tail _ (.head _))
  have y2 : @LT.lt Nat _ P1 L2 := l2 _ (.tail _ (.tail _ (.head _)))
  have y3 : @LT.lt Nat _ (L' + 1 + 1) L2 := l2 _ (.tail _ (.tail _ (.tail _ (.head _))))
  have y4 : @LT.lt Nat _ (L' + 1) L2 := l2 _ (.tail _ (.tail _ (.tail _ (.tail _ (.head _)))))
  have e0 : ∀ q ∈ g (tabObj #[rawInt ↑143, rawInt ↑4, Value.ref c1]), q.1 < L2 := fun q hq => l2 q (.tail _ (.tail _ (.tail _ (.tail _ (.tail _ hq)))))
  have e1 : ∀ q ∈ g (tabObj #[rawInt ↑143, rawInt ↑4, Value.ref c1]), q.1 < L2 + 1 := fun q hq => Nat.lt_trans (e0 q hq) (Nat.lt_succ_self _)
  have e2 : ∀ q ∈ g (tabObj #[rawInt ↑143, rawInt ↑4, Value.ref c1]), q.1 < L2 + 1 + 1 := fun q hq => Nat.lt_trans (e1 q hq) (Nat.lt_succ_self _)
  clear l2 e0
  cases pk
  · cases rep
    ·
      k_steps
      refine' nestDef_K ?d0 ?k0 ?a0 ?_
      case d0 => exact rfl
      case k0 => exact rfl
      case a0 => exact rfl
      refine' nestT1 ?F ?N ?T ?cd ?hH ?hm ?U ?t ?n ?cl ?_
      case F => k_asm
      case N => k_asm
      case T => k_asm
      case cd => exact rfl
      case hH => assumption
      case hm => k_mem
      case U => k_updF
      case t => kn_triples
      case n => kn_among
      case cl => exact rfl
      intro f3 c3 P3 oc3 ct3 dc3 h3 tk3 F3 N3 hh3 la3 lb3 lc3 ld3
      replace lc3 := ltN lc3
      replace ld3 := ltN ld3
      generalize hqn3 : qualnameIn _ _ _ = qn3 at *
      simp only [Array.empty_append] at N3

      k_steps
      refine' hret _ _ _ _ (rf_mk2 [_, _, _, _, _, _, _, _, _, _] [_, _, _, _, _, _, _, _, _, _] rfl (fnIn_head rfl) ?_ (fun p hp => List.mem_append_left _ hp) nofun) (by k_asm) (by k_asm)
      try clear hret
      try clear N3
      try clear F3
      try clear hk
      try clear hu
      try clear hd
      try clear F
      try clear X
      try clear T
      try clear B
      try clear N
      try clear la3
      try clear lb3
      try clear lc3
      try clear ld3
      try clear FG2
      try clear F2
      try clear N2
      try clear B2
      try clear X2
      try clear T2
      try clear l2
      intro n3
      refine ⟨fun _ _ v t hv => ?_, nofun, nofun⟩
      simp only [List.cons_append, List.nil_append]
      have hG := gok_zz w
      unfold CSpec
      have hq : Sums qZ := trivial
      intro p loose mean mg mb dp un gd cn cs a ccd cl outer A₀ base h₀ L m s Q E B F X N T hk hd hu hret
      refine wpAny_call ?_
      refine' code_nest ?k1 ?k2 ?k3 ?k4 ?k5 ?kA ?kF ?kK ?k6 ?k7 ?k8 ?k9 ?kB ?_ ?c2 ?c3 ?c4 ?c5
      case kA => exact rfl
      case kF => exact rfl
      case kK => first | exact rfl | assumption
      case k1 => k_asm
      case k2 => k_asm
      case k3 => k_asm
      case k4 => k_asm
      case k5 => k_asm
      case k6 => k_mem
      case k7 => exact HdObj.rec (by assumption) (by k_asm) (by k_mem)
      case k8 => ktr_room
      case k9 => exact BindsTo.of_eq rfl
      case kB => exact locs rfl
      case c2 => exact rfl
      case c3 => exact rfl
      case c4 => exact rfl
      case c5 => decide
      intro g4 L4 h4 FG4 F4 N4 B4 X4 T4
      try dsimp only
      try k_lift B4
      try k_fold

      k_steps
      all_goals (refine ret_int hret ?_ ?_ ?_; k_asm; k_asm)
      all_goals (first | rfl | (simp only [Int.zero_add]; done) | (simp only [Int.zero_add]; omega))
    ·
      k_steps
      refine' nestDef_K ?d0 ?k0 ?a0 ?_
      case d0 => exact rfl
      case k0 => exact rfl
      case a0 => exact rfl
      refine' nestT1 ?F ?N ?T ?cd ?hH ?hm ?U ?t ?n ?cl ?_
      case F => k_asm
      case N => k_asm
      case T => k_asm
      case cd => exact rfl
      case hH => assumption
      case hm => k_mem
      case U => k_updF
      case t => kn_triples
      case n => kn_among
      case cl => exact rfl
      intro f3 c3 P3 oc3 ct3 dc3 h3 tk3 F3 N3 hh3 la3 lb3 lc3 ld3
      replace lc3 := ltN lc3
      replace ld3 := ltN ld3
      generalize hqn3 : qualnameIn _ _ _ = qn3 at *
      simp only [Array.empty_append] at N3

      k_steps
      refine' hret _ _ _ _ (rf_mk2 [_, _, _, _, _, _, _, _, _, _] [_, _, _, _, _, _, _, _, _, _] rfl (fnIn_head rfl) ?_ (fun p hp => List.mem_append_left _ hp) nofun) (by k_asm) (by k_asm)
      try clear hret
      try clear N3
      try clear F3
      try clear hk
      try clear hu
      try clear hd
      try clear F
      try clear X
      try clear T
      try clear B
      try clear N
      try clear la3
      try clear lb3
      try clear lc3
      try clear ld3
      try clear FG2
      try clear F2
      try clear N2
      try clear B2
      try clear X2
      try clear T2
      try clear l2
      intro n3
      refine ⟨nofun, fun _ _ l vs nn hz hv => ?_, nofun⟩
      simp only [List.cons_append, List.nil_append]
      have hG := gok_zz w
      unfold CSpec
      have hq : Sums qZ := trivial
      intro p loose mean mg mb dp un gd cn cs a ccd cl outer A₀ base h₀ L m s Q E B F X N T hk hd hu hret
      refine wpAny_call ?_
      refine' code_nest ?k1 ?k2 ?k3 ?k4 ?k5 ?kA ?kF ?kK ?k6 ?k7 ?k8 ?k9 ?kB ?_ ?c2 ?c3 ?c4 ?c5
      case kA => exact rfl
      case kF => exact rfl
      case kK => first | exact rfl | assumption
      case k1 => k_asm
      case k2 => k_asm
      case k3 => k_asm
      case k4 => k_asm
      case k5 => k_asm
      case k6 => k_mem
      case k7 => exact HdObj.rec (by assumption) (by k_asm) (by k_mem)
      case k8 => ktr_room
      case k9 => exact BindsTo.of_eq rfl
      case kB => exact locs rfl
      case c2 => exact rfl
      case c3 => exact rfl
      case c4 => exact rfl
      case c5 => decide
      intro g4 L4 h4 FG4 F4 N4 B4 X4 T4
      try dsimp only
      try k_lift B4
      try k_fold

      k_steps
      all_goals (refine ret_int hret ?_ ?_ ?_; k_asm; k_asm)
      all_goals (first | rfl | (simp only [Int.zero_add]; done) | (simp only [Int.zero_add]; omega))
  ·
    k_steps
    refine' nestDef_K ?d0 ?k0 ?a0 ?_
    case d0 => exact rfl
    case k0 => exact rfl
    case a0 => exact rfl
    refine' nestT1 ?F ?N ?T ?cd ?hH ?hm ?U ?t ?n ?cl ?_
    case F => k_asm
    case N => k_asm
    case T => k_asm
    case cd => exact rfl
    case hH => assumption
    case hm => k_mem
    case U => k_updF
    case t => kn_triples
    case n => kn_among
    case cl => exact rfl
    intro f3 c3 P3 oc3 ct3 dc3 h3 tk3 F3 N3 hh3 la3 lb3 lc3 ld3
    replace lc3 := ltN lc3
    replace ld3 := ltN ld3
    generalize hqn3 : qualnameIn _ _ _ = qn3 at *
    simp only [Array.empty_append] at N3

    have hq3 : qn3 = qPack "_ModifiedSizer" := by rw [← hqn3, hq1]; rfl
    k_steps
    refine' hret _ _ _ _ (rf_mk2 [_, _, _, _, _, _, _, _, _, _] [_, _, _, _, _, _, _, _, _, _] rfl (fnIn_head rfl) ?_ (fun p hp => List.mem_append_left _ hp) (fun _ n3 hs => ?_)) (by k_asm) (by k_asm)
    case refine'_2 => exact ⟨c1, oc1, P1, c3, oc3, P3, hs _ (List.mem_append_right [_, _, _, _, _, _, _, _, _, _] (Mine.UpdF.mem' U)), hs _ (by k_mem), hq1 ▸ hh1, hs _ (by k_mem), hs _ (by k_mem), hq3 ▸ hh3⟩
    try clear hret
    try clear N3
    try clear F3
    try clear hk
    try clear hu
    try clear hd
    try clear F
    try clear X
    try clear T
    try clear B
    try clear N
    try clear la3
    try clear lb3
    try clear lc3
    try clear ld3
    try clear FG2
    try clear F2
    try clear N2
    try clear B2
    try clear X2
    try clear T2
    try clear l2
    intro n3
    refine ⟨(fun _ h => nomatch h), (fun _ h => nomatch h), fun _ l vs nn hz hv => ?_⟩
    simp only [List.cons_append, List.nil_append]
    have hG := gok_zz w
    unfold CSpec
    have hq : Sums qZ := trivial
    intro p loose mean mg mb dp un gd cn cs a ccd cl outer A₀ base h₀ L m s Q E B F X N T hk hd hu hret
    refine wpAny_call ?_
    refine' code_nest ?k1 ?k2 ?k3 ?k4 ?k5 ?kA ?kF ?kK ?k6 ?k7 ?k8 ?k9 ?kB ?_ ?c2 ?c3 ?c4 ?c5
    case kA => exact rfl
    case kF => exact rfl
    case kK => first | exact rfl | assumption
    case k1 => k_asm
    case k2 => k_asm
    case k3 => k_asm
    case k4 => k_asm
    case k5 => k_asm
    case k6 => k_mem
    case k7 => exact HdObj.rec (by assumption) (by k_asm) (by k_mem)
    case k8 => ktr_room
    case k9 => exact BindsTo.of_eq rfl
    case kB => exact locs rfl
    case c2 => exact rfl
    case c3 => exact rfl
    case c4 => exact rfl
    case c5 => decide
    intro g4 L4 h4 FG4 F4 N4 B4 X4 T4
    try dsimp only
    try k_lift B4
    try k_fold

    k_steps
    all_goals (refine ret_int hret ?_ ?_ ?_; k_asm; k_asm)
    all_goals (first | rfl | (simp only [Int.zero_add]; done) | (simp only [Int.zero_add]; omega))
set_option maxHeartbeats 8000000 in
theorem c_mod_hit (w : World) (news : List (Addr × Obj))  (hH : Hit2 195 143 4 148 12 (qSpec "_ModifiedSizer") (qPack "_ModifiedSizer") news) :
    CSpec w 200 [.ref 179, .ref 53] news 2 20 (fun v nw => ∃ S X, v = .ref S ∧ nw = X ++ news ∧ SOk w S nw okZ qZ news (fun _ => True) (fun pk => pk = true)) := by
  obtain ⟨a1, o1, P1, a2, o2, P2, m1, m2, hh1, m4, m5, hh3⟩ := hH
  w_top off
  unfold CSpec
  k_fill
  intro p loose mean mg mb dp un gd cn cs a ccd cl outer A₀ base h₀ L m s Q E B F X N T hk hd hu hret
  refine wpAny_call ?_
  k_dflt (refine' code_defC ?k1 ?k2 ?k3 ?k4 ?k5 ?kA ?kF ?kK ?k6 ?k7 ?k8 ?k9 ?kB ?kD ?_ ?c2 ?c3 ?c4; (case kA => exact rfl); (case kF => exact rfl); (case kK => assumption); (case k1 => k_asm); (case k2 => k_asm); (case k3 => k_asm); (case k4 => k_asm); (case k5 => k_asm); (case k6 => k_is); (case k7 => k_is); (case k8 => ktr_room); (case k9 => exact BindsTo.of_eq rfl); (case kB => exact rfl); (case kD => decide +kernel); (case c2 => exact rfl); (case c3 => exact rfl); (case c4 => exact rfl); k_whole; intro g' L' h' tk' cells' FG' F' N' Y' B' X' T' l1; (try k_lt l1); k_cells Y'; (try simp only [List.cons_append, List.nil_append] at N'); (try dsimp only); (try k_lift B'); (try k_fold))
  rename_i ox oy dx dy
  replace dx : ox.data = .cell (some (.ref 53)) := dx
  replace dy : oy.data = .cell (some (.ref 179)) := dy
  k_steps
  refine' nestDef_K ?d0 ?k0 ?a0 ?_
  case d0 => exact rfl
  case k0 => exact rfl
  case a0 => exact rfl
  refine' nestTHit (c := 199) ?F ?N ?T ?C ?cd ?mem ?t ?n ?cl ?_
  case F => k_asm
  case N => k_asm
  case T => k_asm
  case cd => exact rfl
  case C => exact (codeHd_of_K (c := 199) (P := 195) X' (by kernel_rfl)).keeps (Fr.keep (by k_asm))
  case mem => exact (.tail _ (.tail _ m1))
  case t => kn_triples
  case n => kn_hit
  case cl => exact rfl
  intro f1 ct1 dc1 h1 tk1 F1 N1 la1
  generalize hqn1 : qualnameIn _ _ _ = qn1 at *
  have hq1 : qn1 = qSpec "_ModifiedSizer" := hqn1.symm
  rw [← hq1] at hh1
  k_steps
  refine' hret _ _ _ _ ?r ?F ?N
  case F => k_asm
  case N => k_asm
  refine ⟨_, [_, _, _], rfl, rfl, fnIn_head rfl, ?_⟩
  try clear hret
  try clear N1
  try clear F1
  try clear hk
  try clear hu
  try clear hd
  try clear N'
  try clear F'
  try clear B'
  try clear X'
  try clear T'
  try clear FG'
  try clear F
  try clear N
  try clear X
  try clear T
  try clear B
  try clear l1
  try clear la1
  try clear hqn1
  intro rep pk n t hpk hn0 hn1
  subst hpk
  unfold CSpec
  intro p loose mean mg mb dp un gd cn cs a ccd cl outer A₀ base h₀ L m s Q E B F X N T hk hd hu hret
  refine wpAny_call ?_
  refine' code_nestC ?k1 ?k2 ?k3 ?k4 ?k5 ?kA ?kF ?kK ?k6 ?k7 ?k8 ?k9 ?kB ?_ ?c2 ?c3 ?c4
  case kA => exact rfl
  case kF => exact rfl
  case kK => first | exact rfl | assumption
  case k1 => k_asm
  case k2 => k_asm
  case k3 => k_asm
  case k4 => k_asm
  case k5 => k_asm
  case k6 => k_mem
  case k7 => exact HdObj.rec (by assumption) (by k_asm) (by k_mem)
  case k8 => ktr_room
  case k9 => exact BindsTo.of_eq rfl
  case kB => exact locs rfl
  case c2 => exact rfl
  case c3 => exact rfl
  case c4 => exact rfl
  intro g2 L2 h2 tk2 cells2 FG2 F2 N2 Y2 B2 X2 T2 l2
  k_cells Y2
  try simp only [List.cons_append, List.nil_append] at N2
  try dsimp only
  try k_lift B2
  try k_fold

  rename_i oa ob da db
  have y0 : @LT.lt Nat _ f1 L2 := l2 _ (.head _)
  have y1 : @LT.lt Nat _ (L' + 1 + 1) L2 := l2 _ (.tail _ (.head _))
  have y2 : @LT.lt Nat _ (L' + 1) L2 := l2 _ (.tail _ (.tail _ (.head _)))
  have e0 : ∀ q ∈ news, q.1 < L2 := fun q hq => l2 q (.tail _ (.tail _ (.tail _ hq)))
  have e1 : ∀ q ∈ news, q.1 < L2 + 1 := fun q hq => Nat.lt_trans (e0 q hq) (Nat.lt_succ_self _)
  have e2 : ∀ q ∈ news, q.1 < L2 + 1 + 1 := fun q hq => Nat.lt_trans (e1 q hq) (Nat.lt_succ_self _)
  clear l2 e0
  k_steps
  refine' nestDef_K ?d0 ?k0 ?a0 ?_
  case d0 => exact rfl
  case k0 => exact rfl
  case a0 => exact rfl
  refine' nestTHit (c := a1) ?F ?N ?T ?C ?cd ?mem ?t ?n ?cl ?_
  case F => k_asm
  case N => k_asm
  case T => k_asm
  case cd => exact rfl
  case C => exact HdObj.at hh1 (by k_asm) (by k_mem)
  case mem => k_mem
  case t => kn_triples
  case n => kn_hit
  case cl => exact rfl
  intro f3 ct3 dc3 h3 tk3 F3 N3 la3
  generalize hqn3 : qualnameIn _ _ _ = qn3 at *
  have hq3 : qn3 = qPack "_ModifiedSizer" := by rw [← hqn3, hq1]; rfl
  rw [← hq3] at hh3
  k_steps
  refine' hret _ _ _ _ (rf_mk2 [_, _, _, _, _, _] ((a2, o2) :: [_, _, _, _, _, _]) rfl (fnIn_head rfl) ?_ (fun p hp => (List.mem_cons.mp hp).elim (fun e => e ▸ List.mem_append_right [_, _, _, _, _, _] m5) (fun hp => List.mem_append_left _ hp)) (fun _ _ _ => trivial)) (by k_asm) (by k_asm)
  try clear hret
  try clear N3
  try clear F3
  try clear hk
  try clear hu
  try clear hd
  try clear F
  try clear X
  try clear T
  try clear B
  try clear N
  try clear la3
  try clear lb3
  try clear lc3
  try clear ld3
  try clear FG2
  try clear F2
  try clear N2
  try clear B2
  try clear X2
  try clear T2
  try clear l2
  intro n3
  refine ⟨(fun _ h => nomatch h), (fun _ h => nomatch h), fun _ l vs nn hz hv => ?_⟩
  simp only [List.cons_append, List.nil_append]
  have hG := gok_zz w
  unfold CSpec
  have hq : Sums qZ := trivial
  intro p loose mean mg mb dp un gd cn cs a ccd cl outer A₀ base h₀ L m s Q E B F X N T hk hd hu hret
  refine wpAny_call ?_
  refine' code_nest ?k1 ?k2 ?k3 ?k4 ?k5 ?kA ?kF ?kK ?k6 ?k7 ?k8 ?k9 ?kB ?_ ?c2 ?c3 ?c4 ?c5
  case kA => exact rfl
  case kF => exact rfl
  case kK => first | exact rfl | assumption
  case k1 => k_asm
  case k2 => k_asm
  case k3 => k_asm
  case k4 => k_asm
  case k5 => k_asm
  case k6 => k_mem
  case k7 => exact HdObj.rec (by assumption) (by k_asm) (by k_mem)
  case k8 => ktr_room
  case k9 => exact BindsTo.of_eq rfl
  case kB => exact locs rfl
  case c2 => exact rfl
  case c3 => exact rfl
  case c4 => exact rfl
  case c5 => decide
  intro g4 L4 h4 FG4 F4 N4 B4 X4 T4
  try dsimp only
  try k_lift B4
  try k_fold

  k_steps
  all_goals (refine ret_int hret ?_ ?_ ?_; k_asm; k_asm)
  all_goals (first | rfl | (simp only [Int.zero_add]; done) | (simp only [Int.zero_add]; omega))
end
section -- Fix


local macro_rules | `(tactic| k_all) => `(tactic| exact ne_of_lts (by assumption))

local macro_rules | `(tactic| k_mem) => `(tactic| assumption)
def okF : V → Prop := fun _ => True
def qF (k : Int) : V → Int := fun _ => k
theorem qF_sum (k : Int) (vs : List (V × Tok)) : qsum (qF k) vs = vs.length * k := by
  unfold qsum qF
  induction vs with
  | nil => simp
  | cons x r ih => simp only [List.map_cons, List.sum_cons, ih, List.length_cons]; rw [Int.natCast_add, Int.add_mul]; omega
set_option maxHeartbeats 8000000 in
theorem c_fix (w : World) (news : List (Addr × Obj)) (g : Obj → List (Addr × Obj)) (k : Int) (kt : Tok) (U : UpdF 202 (tabObj #[]) news g) :
    CSpec w 207 [.int k kt] news 2 20 (fun v nw => ∃ S X ps, v = .ref S ∧ nw = X ++ g (tabObj ps) ∧ SOk w S nw okF (qF k) (g (tabObj ps)) (Hit2 202 170 4 175 12 (qSpec "_FixedSizer") (qPack "_FixedSizer")) (fun _ => True)) := by
  w_top off
  unfold CSpec
  k_fill
  intro p loose mean mg mb dp un gd cn cs a ccd cl outer A₀ base h₀ L m s Q E B F X N T hk hd hu hret
  refine wpAny_call ?_
  k_dflt (refine' code_defC ?k1 ?k2 ?k3 ?k4 ?k5 ?kA ?kF ?kK ?k6 ?k7 ?k8 ?k9 ?kB ?kD ?_ ?c2 ?c3 ?c4; (case kA => exact rfl); (case kF => exact rfl); (case kK => assumption); (case k1 => k_asm); (case k2 => k_asm); (case k3 => k_asm); (case k4 => k_asm); (case k5 => k_asm); (case k6 => k_is); (case k7 => k_is); (case k8 => ktr_room); (case k9 => exact BindsTo.of_eq rfl); (case kB => exact rfl); (case kD => decide +kernel); (case c2 => exact rfl); (case c3 => exact rfl); (case c4 => exact rfl); k_whole; intro g' L' h' tk' cells' FG' F' N' Y' B' X' T' l1; (try k_lt l1); k_cells Y'; (try simp only [List.cons_append, List.nil_append] at N'); (try dsimp only); (try k_lift B'); (try k_fold))
  have h188 : @LT.lt Nat _ 202 L' := l1 _ (Mine.UpdF.mem U)
  rename_i ox dx
  replace dx : ox.data = .cell (some (.int k kt)) := dx
  k_steps
  refine' nestDef_K ?d0 ?k0 ?a0 ?_
  case d0 => exact rfl
  case k0 => exact rfl
  case a0 => exact rfl
  refine' nestT0 (c := 206) (P := 202) ?F ?N ?T ?X ?cd ?e ?U ?t ?n ?cl ?_
  case F => k_asm
  case N => k_asm
  case T => k_asm
  case X => k_asm
  case cd => exact rfl
  case e => kernel_rfl
  case U => first | assumption | exact UpdF.tail (by k_ne) (by assumption)
  case t => kn_triples
  case n => kn_among
  case cl => exact rfl
  intro f1 c1 P1 oc1 ct1 dc1 h1 tk1 F1 N1 hh1 la1 lb1 lc1 ld1
  replace lc1 := ltN lc1
  replace ld1 := ltN ld1
  generalize hqn1 : qualnameIn _ _ _ = qn1 at *
  simp only [Array.empty_append] at N1

  have hq1 : qn1 = qSpec "_FixedSizer" := hqn1.symm
  k_steps
  refine' hret _ _ _ _ ?r ?F ?N
  case F => k_asm
  case N => k_asm
  refine ⟨_, [_, _, _, _], _, rfl, rfl, fnIn_head rfl, ?_⟩
  have lq := Mine.UpdF.lt (o' := tabObj #[rawInt ↑170, rawInt ↑4, Value.ref c1]) U fun q hq => lb1 q (.tail _ hq)
  have lx0 : @LT.lt Nat _ (L' + 1) P1 := lb1 _ (.head _)
  have hne := Mine.HdObj.ne hh1
  try clear hret
  try clear N1
  try clear F1
  try clear hk
  try clear hu
  try clear hd
  try clear N'
  try clear F'
  try clear B'
  try clear X'
  try clear T'
  try clear FG'
  try clear F
  try clear N
  try clear X
  try clear T
  try clear B
  try clear l1
  try clear h188
  try clear la1
  try clear lb1
  try clear lc1
  try clear hqn1
  intro rep pk n t _ hn0 hn1
  unfold CSpec
  intro p loose mean mg mb dp un gd cn cs a ccd cl outer A₀ base h₀ L m s Q E B F X N T hk hd hu hret
  refine wpAny_call ?_
  refine' code_nestC ?k1 ?k2 ?k3 ?k4 ?k5 ?kA ?kF ?kK ?k6 ?k7 ?k8 ?k9 ?kB ?_ ?c2 ?c3 ?c4
  case kA => exact rfl
  case kF => exact rfl
  case kK => first | exact rfl | assumption
  case k1 => k_asm
  case k2 => k_asm
  case k3 => k_asm
  case k4 => k_asm
  case k5 => k_asm
  case k6 => k_mem
  case k7 => exact HdObj.rec (by assumption) (by k_asm) (by k_mem)
  case k8 => ktr_room
  case k9 => exact BindsTo.of_eq rfl
  case kB => exact locs rfl
  case c2 => exact rfl
  case c3 => exact rfl
  case c4 => exact rfl
  intro g2 L2 h2 tk2 cells2 FG2 F2 N2 Y2 B2 X2 T2 l2
  k_cells Y2
  try simp only [List.cons_append, List.nil_append] at N2
  try dsimp only
  try k_lift B2
  try k_fold

  rename_i oa ob oc od da db dc dd
  have y0 : @LT.lt Nat _ f1 L2 := l2 _ (.head _)
  have y1 : @LT.lt Nat _ c1 L2 := l2 _ (.tail _ (.head _))
  have y2 : @LT.lt Nat _ P1 L2 := l2 _ (.tail _ (.tail _ (.head _)))
  have y3 : @LT.lt Nat _ (L' + 1) L2 := l2 _ (.tail _ (.tail _ (.tail _ (.head _))))
  have e0 : ∀ q ∈ g (tabObj #[rawInt ↑170, rawInt ↑4, Value.ref c1]), q.1 < L2 := fun q hq => l2 q (.tail _ (.tail _ (.tail _ (.tail _ hq))))
  have e1 : ∀ q ∈ g (tabObj #[rawInt ↑170, rawInt ↑4, Value.ref c1]), q.1 < L2 + 1 := fun q hq => Nat.lt_trans (e0 q hq) (Nat.lt_succ_self _)
  have e2 : ∀ q ∈ g (tabObj #[rawInt ↑170, rawInt ↑4, Value.ref c1]), q.1 < L2 + 1 + 1 := fun q hq => Nat.lt_trans (e1 q hq) (Nat.lt_succ_self _)
  have e3 : ∀ q ∈ g (tabObj #[rawInt ↑170, rawInt ↑4, Value.ref c1]), q.1 < L2 + 1 + 1 + 1 := fun q hq => Nat.lt_trans (e2 q hq) (Nat.lt_succ_self _)
  have e4 : ∀ q ∈ g (tabObj #[rawInt ↑170, rawInt ↑4, Value.ref c1]), q.1 < L2 + 1 + 1 + 1 + 1 := fun q hq => Nat.lt_trans (e3 q hq) (Nat.lt_succ_self _)
  clear l2 e0
  cases pk
  · cases rep
    ·
      k_steps
      refine' nestDef_K ?d0 ?k0 ?a0 ?_
      case d0 => exact rfl
      case k0 => exact rfl
      case a0 => exact rfl
      refine' nestT1 ?F ?N ?T ?cd ?hH ?hm ?U ?t ?n ?cl ?_
      case F => k_asm
      case N => k_asm
      case T => k_asm
      case cd => exact rfl
      case hH => assumption
      case hm => k_mem
      case U => k_updF
      case t => kn_triples
      case n => kn_among
      case cl => exact rfl
      intro f3 c3 P3 oc3 ct3 dc3 h3 tk3 F3 N3 hh3 la3 lb3 lc3 ld3
      replace lc3 := ltN lc3
      replace ld3 := ltN ld3
      generalize hqn3 : qualnameIn _ _ _ = qn3 at *
      simp only [Array.empty_append] at N3

      k_steps
      refine' hret _ _ _ _ (rf_mk2 [_, _, _, _, _, _, _, _, _, _, _] [_, _, _, _, _, _, _, _, _, _, _] rfl (fnIn_head rfl) ?_ (fun p hp => List.mem_append_left _ hp) nofun) (by k_asm) (by k_asm)
      try clear hret
      try clear N3
      try clear F3
      try clear hk
      try clear hu
      try clear hd
      try clear F
      try clear X
      try clear T
      try clear B
      try clear N
      try clear la3
      try clear lb3
      try clear lc3
      try clear ld3
      try clear FG2
      try clear F2
      try clear N2
      try clear B2
      try clear X2
      try clear T2
      try clear l2
      intro n3
      refine ⟨fun _ _ v t hv => ?_, nofun, nofun⟩
      simp only [List.cons_append, List.nil_append]
      unfold CSpec
      have hq : Sums (qF k) := trivial
      intro p loose mean mg mb dp un gd cn cs a ccd cl outer A₀ base h₀ L m s Q E B F X N T hk hd hu hret
      refine wpAny_call ?_
      refine' code_nest ?k1 ?k2 ?k3 ?k4 ?k5 ?kA ?kF ?kK ?k6 ?k7 ?k8 ?k9 ?kB ?_ ?c2 ?c3 ?c4 ?c5
      case kA => exact rfl
      case kF => exact rfl
      case kK => first | exact rfl | assumption
      case k1 => k_asm
      case k2 => k_asm
      case k3 => k_asm
      case k4 => k_asm
      case k5 => k_asm
      case k6 => k_mem
      case k7 => exact HdObj.rec (by assumption) (by k_asm) (by k_mem)
      case k8 => ktr_room
      case k9 => exact BindsTo.of_eq rfl
      case kB => exact locs rfl
      case c2 => exact rfl
      case c3 => exact rfl
      case c4 => exact rfl
      case c5 => decide
      intro g4 L4 h4 FG4 F4 N4 B4 X4 T4
      try dsimp only
      try k_lift B4
      try k_fold

      k_steps
      all_goals (refine ret_int hret ?_ ?_ ?_; k_asm; k_asm)
      all_goals (first | rfl | (simp only [qF_sum, qF]; done) | (simp only [qF_sum, qF, Int.add_mul, Int.mul_add, Int.mul_comm]; omega))
    ·
      k_steps
      refine' nestDef_K ?d0 ?k0 ?a0 ?_
      case d0 => exact rfl
      case k0 => exact rfl
      case a0 => exact rfl
      refine' nestT1 ?F ?N ?T ?cd ?hH ?hm ?U ?t ?n ?cl ?_
      case F => k_asm
      case N => k_asm
      case T => k_asm
      case cd => exact rfl
      case hH => assumption
      case hm => k_mem
      case U => k_updF
      case t => kn_triples
      case n => kn_among
      case cl => exact rfl
      intro f3 c3 P3 oc3 ct3 dc3 h3 tk3 F3 N3 hh3 la3 lb3 lc3 ld3
      replace lc3 := ltN lc3
      replace ld3 := ltN ld3
      generalize hqn3 : qualnameIn _ _ _ = qn3 at *
      simp only [Array.empty_append] at N3

      k_steps
      refine' hret _ _ _ _ (rf_mk2 [_, _, _, _, _, _, _, _, _, _, _] [_, _, _, _, _, _, _, _, _, _, _] rfl (fnIn_head rfl) ?_ (fun p hp => List.mem_append_left _ hp) nofun) (by k_asm) (by k_asm)
      try clear hret
      try clear N3
      try clear F3
      try clear hk
      try clear hu
      try clear hd
      try clear F
      try clear X
      try clear T
      try clear B
      try clear N
      try clear la3
      try clear lb3
      try clear lc3
      try clear ld3
      try clear FG2
      try clear F2
      try clear N2
      try clear B2
      try clear X2
      try clear T2
      try clear l2
      intro n3
      refine ⟨nofun, fun _ _ l vs nn hz hv => ?_, nofun⟩
      simp only [List.cons_append, List.nil_append]
      unfold CSpec
      have hq : Sums (qF k) := trivial
      intro p loose mean mg mb dp un gd cn cs a ccd cl outer A₀ base h₀ L m s Q E B F X N T hk hd hu hret
      refine wpAny_call ?_
      refine' code_nest ?k1 ?k2 ?k3 ?k4 ?k5 ?kA ?kF ?kK ?k6 ?k7 ?k8 ?k9 ?kB ?_ ?c2 ?c3 ?c4 ?c5
      case kA => exact rfl
      case kF => exact rfl
      case kK => first | exact rfl | assumption
      case k1 => k_asm
      case k2 => k_asm
      case k3 => k_asm
      case k4 => k_asm
      case k5 => k_asm
      case k6 => k_mem
      case k7 => exact HdObj.rec (by assumption) (by k_asm) (by k_mem)
      case k8 => ktr_room
      case k9 => exact BindsTo.of_eq rfl
      case kB => exact locs rfl
      case c2 => exact rfl
      case c3 => exact rfl
      case c4 => exact rfl
      case c5 => decide
      intro g4 L4 h4 FG4 F4 N4 B4 X4 T4
      try dsimp only
      try k_lift B4
      try k_fold

      k_steps
      all_goals (refine ret_int hret ?_ ?_ ?_; k_asm; k_asm)
      all_goals (first | rfl | (simp only [qF_sum, qF]; done) | (simp only [qF_sum, qF, Int.add_mul, Int.mul_add, Int.mul_comm]; omega))
  ·
    k_steps
    refine' nestDef_K ?d0 ?k0 ?a0 ?_
    case d0 => exact rfl
    case k0 => exact rfl
    case a0 => exact rfl
    refine' nestT1 ?F ?N ?T ?cd ?hH ?hm ?U ?t ?n ?cl ?_
    case F => k_asm
    case N => k_asm
    case T => k_asm
    case cd => exact rfl
    case hH => assumption
    case hm => k_mem
    case U => k_updF
    case t => kn_triples
    case n => kn_among
    case cl => exact rfl
    intro f3 c3 P3 oc3 ct3 dc3 h3 tk3 F3 N3 hh3 la3 lb3 lc3 ld3
    replace lc3 := ltN lc3
    replace ld3 := ltN ld3
    generalize hqn3 : qualnameIn _ _ _ = qn3 at *
    simp only [Array.empty_append] at N3

    have hq3 : qn3 = qPack "_FixedSizer" := by rw [← hqn3, hq1]; rfl
    k_steps
    refine' hret _ _ _ _ (rf_mk2 [_, _, _, _, _, _, _, _, _, _, _] [_, _, _, _, _, _, _, _, _, _, _] rfl (fnIn_head rfl) ?_ (fun p hp => List.mem_append_left _ hp) (fun _ n3 hs => ?_)) (by k_asm) (by k_asm)
    case refine'_2 => exact ⟨c1, oc1, P1, c3, oc3, P3, hs _ (List.mem_append_right [_, _, _, _, _, _, _, _, _, _, _] (Mine.UpdF.mem' U)), hs _ (by k_mem), hq1 ▸ hh1, hs _ (by k_mem), hs _ (by k_mem), hq3 ▸ hh3⟩
    try clear hret
    try clear N3
    try clear F3
    try clear hk
    try clear hu
    try clear hd
    try clear F
    try clear X
    try clear T
    try clear B
    try clear N
    try clear la3
    try clear lb3
    try clear lc3
    try clear ld3
    try clear FG2
    try clear F2
    try clear N2
    try clear B2
    try clear X2
    try clear T2
    try clear l2
    intro n3
    refine ⟨(fun _ h => nomatch h), (fun _ h => nomatch h), fun _ l vs nn hz hv => ?_⟩
    simp only [List.cons_append, List.nil_append]
    unfold CSpec
    have hq : Sums (qF k) := trivial
    intro p loose mean mg mb dp un gd cn cs a ccd cl outer A₀ base h₀ L m s Q E B F X N T hk hd hu hret
    refine wpAny_call ?_
    refine' code_nest ?k1 ?k2 ?k3 ?k4 ?k5 ?kA ?kF ?kK ?k6 ?k7 ?k8 ?k9 ?kB ?_ ?c2 ?c3 ?c4 ?c5
    case kA => exact rfl
    case kF => exact rfl
    case kK => first | exact rfl | assumption
    case k1 => k_asm
    case k2 => k_asm
    case k3 => k_asm
    case k4 => k_asm
    case k5 => k_asm
    case k6 => k_mem
    case k7 => exact HdObj.rec (by assumption) (by k_asm) (by k_mem)
    case k8 => ktr_room
    case k9 => exact BindsTo.of_eq rfl
    case kB => exact locs rfl
    case c2 => exact rfl
    case c3 => exact rfl
    case c4 => exact rfl
    case c5 => decide
    intro g4 L4 h4 FG4 F4 N4 B4 X4 T4
    try dsimp only
    try k_lift B4
    try k_fold

    k_steps
    all_goals (refine ret_int hret ?_ ?_ ?_; k_asm; k_asm)
    all_goals (first | rfl | (simp only [qF_sum, qF]; done) | (simp only [qF_sum, qF, Int.add_mul, Int.mul_add, Int.mul_comm]; omega))
set_option maxHeartbeats 8000000 in
theorem c_fix_hit (w : World) (news : List (Addr × Obj)) (k : Int) (kt : Tok) (hH : Hit2 202 170 4 175 12 (qSpec "_FixedSizer") (qPack "_FixedSizer") news) :
    CSpec w 207 [.int k kt] news 2 20 (fun v nw => ∃ S X, v = .ref S ∧ nw = X ++ news ∧ SOk w S nw okF (qF k) news (fun _ => True) (fun pk => pk = true)) := by
  obtain ⟨a1, o1, P1, a2, o2, P2, m1, m2, hh1, m4, m5, hh3⟩ := hH
  w_top off
  unfold CSpec
  k_fill
  intro p loose mean mg mb dp un gd cn cs a ccd cl outer A₀ base h₀ L m s Q E B F X N T hk hd hu hret
  refine wpAny_call ?_
  k_dflt (refine' code_defC ?k1 ?k2 ?k3 ?k4 ?k5 ?kA ?kF ?kK ?k6 ?k7 ?k8 ?k9 ?kB ?kD ?_ ?c2 ?c3 ?c4; (case kA => exact rfl); (case kF => exact rfl); (case kK => assumption); (case k1 => k_asm); (case k2 => k_asm); (case k3 => k_asm); (case k4 => k_asm); (case k5 => k_asm); (case k6 => k_is); (case k7 => k_is); (case k8 => ktr_room); (case k9 => exact BindsTo.of_eq rfl); (case kB => exact rfl); (case kD => decide +kernel); (case c2 => exact rfl); (case c3 => exact rfl); (case c4 => exact rfl); k_whole; intro g' L' h' tk' cells' FG' F' N' Y' B' X' T' l1; (try k_lt l1); k_cells Y'; (try simp only [List.cons_append, List.nil_append] at N'); (try dsimp only); (try k_lift B'); (try k_fold))
  rename_i ox dx
  replace dx : ox.data = .cell (some (.int k kt)) := dx
  k_steps
  refine' nestDef_K ?d0 ?k0 ?a0 ?_
  case d0 => exact rfl
  case k0 => exact rfl
  case a0 => exact rfl
  refine' nestTHit (c := 206) ?F ?N ?T ?C ?cd ?mem ?t ?n ?cl ?_
  case F => k_asm
  case N => k_asm
  case T => k_asm
  case cd => exact rfl
  case C => exact (codeHd_of_K (c := 206) (P := 202) X' (by kernel_rfl)).keeps (Fr.keep (by k_asm))
  case mem => exact (.tail _ m1)
  case t => kn_triples
  case n => kn_hit
  case cl => exact rfl
  intro f1 ct1 dc1 h1 tk1 F1 N1 la1
  generalize hqn1 : qualnameIn _ _ _ = qn1 at *
  have hq1 : qn1 = qSpec "_FixedSizer" := hqn1.symm
  rw [← hq1] at hh1
  k_steps
  refine' hret _ _ _ _ ?r ?F ?N
  case F => k_asm
  case N => k_asm
  refine ⟨_, [_, _], rfl, rfl, fnIn_head rfl, ?_⟩
  try clear hret
  try clear N1
  try clear F1
  try clear hk
  try clear hu
  try clear hd
  try clear N'
  try clear F'
  try clear B'
  try clear X'
  try clear T'
  try clear FG'
  try clear F
  try clear N
  try clear X
  try clear T
  try clear B
  try clear l1
  try clear la1
  try clear hqn1
  intro rep pk n t hpk hn0 hn1
  subst hpk
  unfold CSpec
  intro p loose mean mg mb dp un gd cn cs a ccd cl outer A₀ base h₀ L m s Q E B F X N T hk hd hu hret
  refine wpAny_call ?_
  refine' code_nestC ?k1 ?k2 ?k3 ?k4 ?k5 ?kA ?kF ?kK ?k6 ?k7 ?k8 ?k9 ?kB ?_ ?c2 ?c3 ?c4
  case kA => exact rfl
  case kF => exact rfl
  case kK => first | exact rfl | assumption
  case k1 => k_asm
  case k2 => k_asm
  case k3 => k_asm
  case k4 => k_asm
  case k5 => k_asm
  case k6 => k_mem
  case k7 => exact HdObj.rec (by assumption) (by k_asm) (by k_mem)
  case k8 => ktr_room
  case k9 => exact BindsTo.of_eq rfl
  case kB => exact locs rfl
  case c2 => exact rfl
  case c3 => exact rfl
  case c4 => exact rfl
  intro g2 L2 h2 tk2 cells2 FG2 F2 N2 Y2 B2 X2 T2 l2
  k_cells Y2
  try simp only [List.cons_append, List.nil_append] at N2
  try dsimp only
  try k_lift B2
  try k_fold

  rename_i oa ob oc od da db dc dd
  have y0 : @LT.lt Nat _ f1 L2 := l2 _ (.head _)
  have y1 : @LT.lt Nat _ (L' + 1) L2 := l2 _ (.tail _ (.head _))
  have e0 : ∀ q ∈ news, q.1 < L2 := fun q hq => l2 q (.tail _ (.tail _ hq))
  have e1 : ∀ q ∈ news, q.1 < L2 + 1 := fun q hq => Nat.lt_trans (e0 q hq) (Nat.lt_succ_self _)
  have e2 : ∀ q ∈ news, q.1 < L2 + 1 + 1 := fun q hq => Nat.lt_trans (e1 q hq) (Nat.lt_succ_self _)
  have e3 : ∀ q ∈ news, q.1 < L2 + 1 + 1 + 1 := fun q hq => Nat.lt_trans (e2 q hq) (Nat.lt_succ_self _)
  have e4 : ∀ q ∈ news, q.1 < L2 + 1 + 1 + 1 + 1 := fun q hq => Nat.lt_trans (e3 q hq) (Nat.lt_succ_self _)
  clear l2 e0
  k_steps
  refine' nestDef_K ?d0 ?k0 ?a0 ?_
  case d0 => exact rfl
  case k0 => exact rfl
  case a0 => exact rfl
  refine' nestTHit (c := a1) ?F ?N ?T ?C ?cd ?mem ?t ?n ?cl ?_
  case F => k_asm
  case N => k_asm
  case T => k_asm
  case cd => exact rfl
  case C => exact HdObj.at hh1 (by k_asm) (by k_mem)
  case mem => k_mem
  case t => kn_triples
  case n => kn_hit
  case cl => exact rfl
  intro f3 ct3 dc3 h3 tk3 F3 N3 la3
  generalize hqn3 : qualnameIn _ _ _ = qn3 at *
  have hq3 : qn3 = qPack "_FixedSizer" := by rw [← hqn3, hq1]; rfl
  rw [← hq3] at hh3
  k_steps
  refine' hret _ _ _ _ (rf_mk2 [_, _, _, _, _, _, _] ((a2, o2) :: [_, _, _, _, _, _, _]) rfl (fnIn_head rfl) ?_ (fun p hp => (List.mem_cons.mp hp).elim (fun e => e ▸ List.mem_append_right [_, _, _, _, _, _, _] m5) (fun hp => List.mem_append_left _ hp)) (fun _ _ _ => trivial)) (by k_asm) (by k_asm)
  try clear hret
  try clear N3
  try clear F3
  try clear hk
  try clear hu
  try clear hd
  try clear F
  try clear X
  try clear T
  try clear B
  try clear N
  try clear la3
  try clear lb3
  try clear lc3
  try clear ld3
  try clear FG2
  try clear F2
  try clear N2
  try clear B2
  try clear X2
  try clear T2
  try clear l2
  intro n3
  refine ⟨(fun _ h => nomatch h), (fun _ h => nomatch h), fun _ l vs nn hz hv => ?_⟩
  simp only [List.cons_append, List.nil_append]
  unfold CSpec
  have hq : Sums (qF k) := trivial
  intro p loose mean mg mb dp un gd cn cs a ccd cl outer A₀ base h₀ L m s Q E B F X N T hk hd hu hret
  refine wpAny_call ?_
  refine' code_nest ?k1 ?k2 ?k3 ?k4 ?k5 ?kA ?kF ?kK ?k6 ?k7 ?k8 ?k9 ?kB ?_ ?c2 ?c3 ?c4 ?c5
  case kA => exact rfl
  case kF => exact rfl
  case kK => first | exact rfl | assumption
  case k1 => k_asm
  case k2 => k_asm
  case k3 => k_asm
  case k4 => k_asm
  case k5 => k_asm
  case k6 => k_mem
  case k7 => exact HdObj.rec (by assumption) (by k_asm) (by k_mem)
  case k8 => ktr_room
  case k9 => exact BindsTo.of_eq rfl
  case kB => exact locs rfl
  case c2 => exact rfl
  case c3 => exact rfl
  case c4 => exact rfl
  case c5 => decide
  intro g4 L4 h4 FG4 F4 N4 B4 X4 T4
  try dsimp only
  try k_lift B4
  try k_fold

  k_steps
  all_goals (refine ret_int hret ?_ ?_ ?_; k_asm; k_asm)
  all_goals (first | rfl | (simp only [qF_sum, qF]; done) | (simp only [qF_sum, qF, Int.add_mul, Int.mul_add, Int.mul_comm]; omega))
end
section -- Ssz


local macro_rules | `(tactic| k_all) => `(tactic| exact ne_of_lts (by assumption))

local macro_rules | `(tactic| k_mem) => `(tactic| assumption)
def okS : V → Prop := fun v => ∃ x, v = .s x ∧ Good x ∧ (u8 x).size ≤ 1000000 ∧ (u8 x).size ≤ sizeLine
set_option maxHeartbeats 8000000 in
theorem c_ssz (w : World) (news : List (Addr × Obj)) (g : Obj → List (Addr × Obj)) (rep : Bool) (n : Int) (t : Tok) (hn0 : 0 ≤ n) (hn1 : n < 536870912) (U : UpdF 293 (tabObj #[]) news g) :
    CSpec w 298 [.int n t, .bool rep, .bool false] news 6 60 (fun v nw => ∃ ps, RF w okS (psz 9) (tsz n) rep false (g (tabObj ps)) (fun _ => True) v nw) := by
  w_top off
  unfold CSpec
  k_fill
  intro p loose mean mg mb dp un gd cn cs a ccd cl outer A₀ base h₀ L m s Q E B F X N T hk hd hu hret
  refine wpAny_call ?_
  k_dflt (refine' code_defC ?k1 ?k2 ?k3 ?k4 ?k5 ?kA ?kF ?kK ?k6 ?k7 ?k8 ?k9 ?kB ?kD ?_ ?c2 ?c3 ?c4; (case kA => exact rfl); (case kF => exact rfl); (case kK => assumption); (case k1 => k_asm); (case k2 => k_asm); (case k3 => k_asm); (case k4 => k_asm); (case k5 => k_asm); (case k6 => k_is); (case k7 => k_is); (case k8 => ktr_room); (case k9 => exact BindsTo.of_eq rfl); (case kB => exact rfl); (case kD => decide +kernel); (case c2 => exact rfl); (case c3 => exact rfl); (case c4 => exact rfl); k_whole; intro g' L' h' tk' cells' FG' F' N' Y' B' X' T' l1; (try k_lt l1); k_cells Y'; (try simp only [List.cons_append, List.nil_append] at N'); (try dsimp only); (try k_lift B'); (try k_fold))
  have h188 : @LT.lt Nat _ 293 L' := l1 _ (Mine.UpdF.mem U)
  rename_i oa ob da db
  have e1 : ∀ q ∈ news, q.1 < L' + 1 := fun q hq => Nat.lt_trans (l1 q hq) (Nat.lt_succ_self _)
  have e2 : ∀ q ∈ news, q.1 < L' + 1 + 1 := fun q hq => Nat.lt_trans (e1 q hq) (Nat.lt_succ_self _)
  clear l1
  cases rep
  ·
    k_steps
    refine' nestDef_K ?d0 ?k0 ?a0 ?_
    case d0 => exact rfl
    case k0 => exact rfl
    case a0 => exact rfl
    refine' nestT0 (c := 297) (P := 293) ?F ?N ?T ?X ?cd ?e ?U ?t ?n ?cl ?_
    case F => k_asm
    case N => k_asm
    case T => k_asm
    case X => k_asm
    case cd => exact rfl
    case e => kernel_rfl
    case U => first | assumption | exact UpdF.tail (by k_ne) (UpdF.tail (by k_ne) (by assumption))
    case t => kn_triples
    case n => kn_among
    case cl => exact rfl
    intro f1 c1 P1 oc1 ct1 dc1 h1 tk1 F1 N1 hh1 la1 lb1 lc1 ld1
    replace lc1 := ltN lc1
    replace ld1 := ltN ld1
    generalize hqn1 : qualnameIn _ _ _ = qn1 at *
    simp only [Array.empty_append] at N1

    k_steps
    refine' hret _ _ _ _ ⟨_, rf_mk2 [_, _, _, _, _] [_, _, _, _, _] rfl (fnIn_head rfl) ?_ (fun p hp => List.mem_append_left _ hp) (fun h => nomatch h)⟩ (by k_asm) (by k_asm)
    try clear hret
    try clear N1
    try clear F1
    try clear hk
    try clear hu
    try clear hd
    try clear F
    try clear X
    try clear T
    try clear B
    try clear N
    try clear la1
    try clear lb1
    try clear lc1
    try clear ld1
    try clear FG'
    try clear F'
    try clear N'
    try clear B'
    try clear X'
    try clear T'
    try clear e1
    try clear e2
    intro n3
    refine ⟨fun _ _ v t hv => ?_, (fun h => nomatch h), (fun h => nomatch h)⟩
    simp only [List.cons_append, List.nil_append]
    obtain ⟨x, rfl, j1, j2, j3⟩ := hv
    show CSpec w _ [.str x t] _ _ _ _
    unfold CSpec
    have hq : Sums (psz 9) := trivial
    intro p loose mean mg mb dp un gd cn cs a ccd cl outer A₀ base h₀ L m s Q E B F X N T hk hd hu hret
    refine wpAny_call ?_
    refine' code_nest ?k1 ?k2 ?k3 ?k4 ?k5 ?kA ?kF ?kK ?k6 ?k7 ?k8 ?k9 ?kB ?_ ?c2 ?c3 ?c4 ?c5
    case kA => exact rfl
    case kF => exact rfl
    case kK => first | exact rfl | assumption
    case k1 => k_asm
    case k2 => k_asm
    case k3 => k_asm
    case k4 => k_asm
    case k5 => k_asm
    case k6 => k_mem
    case k7 => exact HdObj.rec (by assumption) (by k_asm) (by k_mem)
    case k8 => ktr_room
    case k9 => exact BindsTo.of_eq rfl
    case kB => exact locs rfl
    case c2 => exact rfl
    case c3 => exact rfl
    case c4 => exact rfl
    case c5 => decide
    intro g4 L4 h4 FG4 F4 N4 B4 X4 T4
    try dsimp only
    try k_lift B4
    try k_fold

    k_steps
    all_goals (refine ret_int hret ?_ ?_ ?_; k_asm; k_asm)
    all_goals (first | rfl | (simp only [psz]; omega))
  ·
    k_steps
    refine' nestDef_K ?d0 ?k0 ?a0 ?_
    case d0 => exact rfl
    case k0 => exact rfl
    case a0 => exact rfl
    refine' nestT0 (c := 297) (P := 293) ?F ?N ?T ?X ?cd ?e ?U ?t ?n ?cl ?_
    case F => k_asm
    case N => k_asm
    case T => k_asm
    case X => k_asm
    case cd => exact rfl
    case e => kernel_rfl
    case U => first | assumption | exact UpdF.tail (by k_ne) (UpdF.tail (by k_ne) (by assumption))
    case t => kn_triples
    case n => kn_among
    case cl => exact rfl
    intro f1 c1 P1 oc1 ct1 dc1 h1 tk1 F1 N1 hh1 la1 lb1 lc1 ld1
    replace lc1 := ltN lc1
    replace ld1 := ltN ld1
    generalize hqn1 : qualnameIn _ _ _ = qn1 at *
    simp only [Array.empty_append] at N1

    k_steps
    refine' hret _ _ _ _ ⟨_, rf_mk2 [_, _, _, _, _] [_, _, _, _, _] rfl (fnIn_head rfl) ?_ (fun p hp => List.mem_append_left _ hp) (fun h => nomatch h)⟩ (by k_asm) (by k_asm)
    try clear hret
    try clear N1
    try clear F1
    try clear hk
    try clear hu
    try clear hd
    try clear F
    try clear X
    try clear T
    try clear B
    try clear N
    try clear la1
    try clear lb1
    try clear lc1
    try clear ld1
    try clear FG'
    try clear F'
    try clear N'
    try clear B'
    try clear X'
    try clear T'
    try clear e1
    try clear e2
    intro n3
    refine ⟨(fun h => nomatch h), fun _ _ l vs nn hz hv => ?_, (fun h => nomatch h)⟩
    simp only [List.cons_append, List.nil_append]
    unfold CSpec
    have hq : Sums (psz 9) := trivial
    intro p loose mean mg mb dp un gd cn cs a ccd cl outer A₀ base h₀ L m s Q E B F X N T hk hd hu hret
    refine wpAny_call ?_
    refine' code_nest ?k1 ?k2 ?k3 ?k4 ?k5 ?kA ?kF ?kK ?k6 ?k7 ?k8 ?k9 ?kB ?_ ?c2 ?c3 ?c4 ?c5
    case kA => exact rfl
    case kF => exact rfl
    case kK => first | exact rfl | assumption
    case k1 => k_asm
    case k2 => k_asm
    case k3 => k_asm
    case k4 => k_asm
    case k5 => k_asm
    case k6 => k_mem
    case k7 => exact HdObj.rec (by assumption) (by k_asm) (by k_mem)
    case k8 => ktr_room
    case k9 => exact BindsTo.of_eq rfl
    case kB => exact locs rfl
    case c2 => exact rfl
    case c3 => exact rfl
    case c4 => exact rfl
    case c5 => decide
    intro g4 L4 h4 FG4 F4 N4 B4 X4 T4
    try dsimp only
    try k_lift B4
    try k_fold

    k_steps
    all_goals (refine ret_int hret ?_ ?_ ?_; k_asm; k_asm)
    all_goals (first | rfl | (simp only [psz]; omega))
end
section -- Ysz


local macro_rules | `(tactic| k_all) => `(tactic| exact ne_of_lts (by assumption))

local macro_rules | `(tactic| k_mem) => `(tactic| assumption)
def okY : V → Prop := fun v => ∃ x, v = .y x ∧ (x.size : Int) ≤ 1000000
set_option maxHeartbeats 8000000 in
theorem c_ysz (w : World) (news : List (Addr × Obj)) (g : Obj → List (Addr × Obj)) (rep : Bool) (n : Int) (t : Tok) (hn0 : 0 ≤ n) (hn1 : n < 536870912) (U : UpdF 300 (tabObj #[]) news g) :
    CSpec w 305 [.int n t, .bool rep, .bool false] news 6 60 (fun v nw => ∃ ps, RF w okY (psz 12) (tsz n) rep false (g (tabObj ps)) (fun _ => True) v nw) := by
  w_top off
  unfold CSpec
  k_fill
  intro p loose mean mg mb dp un gd cn cs a ccd cl outer A₀ base h₀ L m s Q E B F X N T hk hd hu hret
  refine wpAny_call ?_
  k_dflt (refine' code_defC ?k1 ?k2 ?k3 ?k4 ?k5 ?kA ?kF ?kK ?k6 ?k7 ?k8 ?k9 ?kB ?kD ?_ ?c2 ?c3 ?c4; (case kA => exact rfl); (case kF => exact rfl); (case kK => assumption); (case k1 => k_asm); (case k2 => k_asm); (case k3 => k_asm); (case k4 => k_asm); (case k5 => k_asm); (case k6 => k_is); (case k7 => k_is); (case k8 => ktr_room); (case k9 => exact BindsTo.of_eq rfl); (case kB => exact rfl); (case kD => decide +kernel); (case c2 => exact rfl); (case c3 => exact rfl); (case c4 => exact rfl); k_whole; intro g' L' h' tk' cells' FG' F' N' Y' B' X' T' l1; (try k_lt l1); k_cells Y'; (try simp only [List.cons_append, List.nil_append] at N'); (try dsimp only); (try k_lift B'); (try k_fold))
  have h188 : @LT.lt Nat _ 300 L' := l1 _ (Mine.UpdF.mem U)
  rename_i oa ob da db
  have e1 : ∀ q ∈ news, q.1 < L' + 1 := fun q hq => Nat.lt_trans (l1 q hq) (Nat.lt_succ_self _)
  have e2 : ∀ q ∈ news, q.1 < L' + 1 + 1 := fun q hq => Nat.lt_trans (e1 q hq) (Nat.lt_succ_self _)
  clear l1
  cases rep
  ·
    k_steps
    refine' nestDef_K ?d0 ?k0 ?a0 ?_
    case d0 => exact rfl
    case k0 => exact rfl
    case a0 => exact rfl
    refine' nestT0 (c := 304) (P := 300) ?F ?N ?T ?X ?cd ?e ?U ?t ?n ?cl ?_
    case F => k_asm
    case N => k_asm
    case T => k_asm
    case X => k_asm
    case cd => exact rfl
    case e => kernel_rfl
    case U => first | assumption | exact UpdF.tail (by k_ne) (UpdF.tail (by k_ne) (by assumption))
    case t => kn_triples
    case n => kn_among
    case cl => exact rfl
    intro f1 c1 P1 oc1 ct1 dc1 h1 tk1 F1 N1 hh1 la1 lb1 lc1 ld1
    replace lc1 := ltN lc1
    replace ld1 := ltN ld1
    generalize hqn1 : qualnameIn _ _ _ = qn1 at *
    simp only [Array.empty_append] at N1

    k_steps
    refine' hret _ _ _ _ ⟨_, rf_mk2 [_, _, _, _, _] [_, _, _, _, _] rfl (fnIn_head rfl) ?_ (fun p hp => List.mem_append_left _ hp) (fun h => nomatch h)⟩ (by k_asm) (by k_asm)
    try clear hret
    try clear N1
    try clear F1
    try clear hk
    try clear hu
    try clear hd
    try clear F
    try clear X
    try clear T
    try clear B
    try clear N
    try clear la1
    try clear lb1
    try clear lc1
    try clear ld1
    try clear FG'
    try clear F'
    try clear N'
    try clear B'
    try clear X'
    try clear T'
    try clear e1
    try clear e2
    intro n3
    refine ⟨fun _ _ v t hv => ?_, (fun h => nomatch h), (fun h => nomatch h)⟩
    simp only [List.cons_append, List.nil_append]
    obtain ⟨x, rfl, j1⟩ := hv
    show CSpec w _ [.bytes x t] _ _ _ _
    unfold CSpec
    have hq : Sums (psz 12) := trivial
    intro p loose mean mg mb dp un gd cn cs a ccd cl outer A₀ base h₀ L m s Q E B F X N T hk hd hu hret
    refine wpAny_call ?_
    refine' code_nest ?k1 ?k2 ?k3 ?k4 ?k5 ?kA ?kF ?kK ?k6 ?k7 ?k8 ?k9 ?kB ?_ ?c2 ?c3 ?c4 ?c5
    case kA => exact rfl
    case kF => exact rfl
    case kK => first | exact rfl | assumption
    case k1 => k_asm
    case k2 => k_asm
    case k3 => k_asm
    case k4 => k_asm
    case k5 => k_asm
    case k6 => k_mem
    case k7 => exact HdObj.rec (by assumption) (by k_asm) (by k_mem)
    case k8 => ktr_room
    case k9 => exact BindsTo.of_eq rfl
    case kB => exact locs rfl
    case c2 => exact rfl
    case c3 => exact rfl
    case c4 => exact rfl
    case c5 => decide
    intro g4 L4 h4 FG4 F4 N4 B4 X4 T4
    try dsimp only
    try k_lift B4
    try k_fold

    k_steps
    all_goals (refine ret_int hret ?_ ?_ ?_; k_asm; k_asm)
    all_goals (first | rfl | (simp only [psz]; omega))
  ·
    k_steps
    refine' nestDef_K ?d0 ?k0 ?a0 ?_
    case d0 => exact rfl
    case k0 => exact rfl
    case a0 => exact rfl
    refine' nestT0 (c := 304) (P := 300) ?F ?N ?T ?X ?cd ?e ?U ?t ?n ?cl ?_
    case F => k_asm
    case N => k_asm
    case T => k_asm
    case X => k_asm
    case cd => exact rfl
    case e => kernel_rfl
    case U => first | assumption | exact UpdF.tail (by k_ne) (UpdF.tail (by k_ne) (by assumption))
    case t => kn_triples
    case n => kn_among
    case cl => exact rfl
    intro f1 c1 P1 oc1 ct1 dc1 h1 tk1 F1 N1 hh1 la1 lb1 lc1 ld1
    replace lc1 := ltN lc1
    replace ld1 := ltN ld1
    generalize hqn1 : qualnameIn _ _ _ = qn1 at *
    simp only [Array.empty_append] at N1

    k_steps
    refine' hret _ _ _ _ ⟨_, rf_mk2 [_, _, _, _, _] [_, _, _, _, _] rfl (fnIn_head rfl) ?_ (fun p hp => List.mem_append_left _ hp) (fun h => nomatch h)⟩ (by k_asm) (by k_asm)
    try clear hret
    try clear N1
    try clear F1
    try clear hk
    try clear hu
    try clear hd
    try clear F
    try clear X
    try clear T
    try clear B
    try clear N
    try clear la1
    try clear lb1
    try clear lc1
    try clear ld1
    try clear FG'
    try clear F'
    try clear N'
    try clear B'
    try clear X'
    try clear T'
    try clear e1
    try clear e2
    intro n3
    refine ⟨(fun h => nomatch h), fun _ _ l vs nn hz hv => ?_, (fun h => nomatch h)⟩
    simp only [List.cons_append, List.nil_append]
    unfold CSpec
    have hq : Sums (psz 12) := trivial
    intro p loose mean mg mb dp un gd cn cs a ccd cl outer A₀ base h₀ L m s Q E B F X N T hk hd hu hret
    refine wpAny_call ?_
    refine' code_nest ?k1 ?k2 ?k3 ?k4 ?k5 ?kA ?kF ?kK ?k6 ?k7 ?k8 ?k9 ?kB ?_ ?c2 ?c3 ?c4 ?c5
    case kA => exact rfl
    case kF => exact rfl
    case kK => first | exact rfl | assumption
    case k1 => k_asm
    case k2 => k_asm
    case k3 => k_asm
    case k4 => k_asm
    case k5 => k_asm
    case k6 => k_mem
    case k7 => exact HdObj.rec (by assumption) (by k_asm) (by k_mem)
    case k8 => ktr_room
    case k9 => exact BindsTo.of_eq rfl
    case kB => exact locs rfl
    case c2 => exact rfl
    case c3 => exact rfl
    case c4 => exact rfl
    case c5 => decide
    intro g4 L4 h4 FG4 F4 N4 B4 X4 T4
    try dsimp only
    try k_lift B4
    try k_fold

    k_steps
    all_goals (refine ret_int hret ?_ ?_ ?_; k_asm; k_asm)
    all_goals (first | rfl | (simp only [psz]; omega))
end
section -- Szn



/-- what a maker gives: the def that makes the sizer, over a ledger's base -/
def RMk (w : World) (ok : V → Prop) (q : V → Int) (pk : Bool) (P : List (Addr × Obj) → (List (Addr × Obj) → Prop) → Prop) : Value → List (Addr × Obj) → Prop := fun v nw =>
  ∃ S X base H md, v = .ref S ∧ nw = X ++ base ∧ SOk w S nw ok q base H md ∧ md pk ∧ P base H
def RXs (w : World) (ok : V → Prop) (q : V → Int) (T : Int) (rep pk : Bool) (P : List (Addr × Obj) → (List (Addr × Obj) → Prop) → Prop) : Value → List (Addr × Obj) → Prop := fun v nw =>
  ∃ base H, P base H ∧ RF w ok q T rep pk base H v nw
def FixM (w : World) (c : Int) (news : List (Addr × Obj)) (R : Value → List (Addr × Obj) → Prop) : Prop := ∀ ct, CSpec w 207 [.int c ct] news 2 20 R
theorem FixM.use {w : World} {c : Int} {ct : Tok} {news : List (Addr × Obj)} {R : Value → List (Addr × Obj) → Prop} (h : FixM w c news R) : CSpec w 207 [.int c ct] news 2 20 R := h ct
set_option maxHeartbeats 8000000 in
theorem c_x3 (w : World) (news : List (Addr × Obj)) (ok : V → Prop) (q : V → Int) (n : Int) (t : Tok) (rep pk : Bool) (P : List (Addr × Obj) → (List (Addr × Obj) → Prop) → Prop) (hn0 : 0 ≤ n) (hn1 : n < 536870912) (hM : CSpec w 193 [.ref 179] news 2 20 (RMk w ok q pk P)) :
    CSpec w 221 [.int n t, .bool rep, .bool pk] news 8 90 (RXs w ok q (tsz n) rep pk P) := by
  w_top off
  unfold CSpec
  k_fill
  intro p loose mean mg mb dp un gd cn cs a ccd cl outer A₀ base h₀ L m s Q E B F X N T hk hd hu hret
  refine wpAny_call ?_
  k_dflt cell_enter
  k_steps
  all_goals exact hret _ _ _ _ ⟨_, _, by assumption, _, _, rfl, rfl, by assumption, by assumption⟩ (by k_asm) (by k_asm)
set_option maxHeartbeats 8000000 in
theorem c_x4 (w : World) (news : List (Addr × Obj)) (ok : V → Prop) (q : V → Int) (n : Int) (t : Tok) (rep pk : Bool) (P : List (Addr × Obj) → (List (Addr × Obj) → Prop) → Prop) (hn0 : 0 ≤ n) (hn1 : n < 536870912) (hM : CSpec w 193 [.ref 172] news 2 20 (RMk w ok q pk P)) :
    CSpec w 242 [.int n t, .bool rep, .bool pk] news 8 90 (RXs w ok q (tsz n) rep pk P) := by
  w_top off
  unfold CSpec
  k_fill
  intro p loose mean mg mb dp un gd cn cs a ccd cl outer A₀ base h₀ L m s Q E B F X N T hk hd hu hret
  refine wpAny_call ?_
  k_dflt cell_enter
  k_steps
  all_goals exact hret _ _ _ _ ⟨_, _, by assumption, _, _, rfl, rfl, by assumption, by assumption⟩ (by k_asm) (by k_asm)
set_option maxHeartbeats 8000000 in
theorem c_x5 (w : World) (news : List (Addr × Obj)) (ok : V → Prop) (q : V → Int) (n : Int) (t : Tok) (rep pk : Bool) (P : List (Addr × Obj) → (List (Addr × Obj) → Prop) → Prop) (hn0 : 0 ≤ n) (hn1 : n < 536870912) (hM : CSpec w 193 [.ref 179] news 2 20 (RMk w ok q pk P)) :
    CSpec w 214 [.int n t, .bool rep, .bool pk] news 8 90 (RXs w ok q (tsz n) rep pk P) := by
  w_top off
  unfold CSpec
  k_fill
  intro p loose mean mg mb dp un gd cn cs a ccd cl outer A₀ base h₀ L m s Q E B F X N T hk hd hu hret
  refine wpAny_call ?_
  k_dflt cell_enter
  k_steps
  all_goals exact hret _ _ _ _ ⟨_, _, by assumption, _, _, rfl, rfl, by assumption, by assumption⟩ (by k_asm) (by k_asm)
set_option maxHeartbeats 8000000 in
theorem c_x6 (w : World) (news : List (Addr × Obj)) (ok : V → Prop) (q : V → Int) (n : Int) (t : Tok) (rep pk : Bool) (P : List (Addr × Obj) → (List (Addr × Obj) → Prop) → Prop) (hn0 : 0 ≤ n) (hn1 : n < 536870912) (hM : FixM w 8 news (RMk w ok q pk P)) :
    CSpec w 277 [.int n t, .bool rep, .bool pk] news 8 90 (RXs w ok q (tsz n) rep pk P) := by
  w_top off
  unfold CSpec
  k_fill
  intro p loose mean mg mb dp un gd cn cs a ccd cl outer A₀ base h₀ L m s Q E B F X N T hk hd hu hret
  refine wpAny_call ?_
  k_dflt cell_enter
  k_steps
  all_goals exact hret _ _ _ _ ⟨_, _, by assumption, _, _, rfl, rfl, by assumption, by assumption⟩ (by k_asm) (by k_asm)
set_option maxHeartbeats 8000000 in
theorem c_x7 (w : World) (news : List (Addr × Obj)) (ok : V → Prop) (q : V → Int) (n : Int) (t : Tok) (rep pk : Bool) (P : List (Addr × Obj) → (List (Addr × Obj) → Prop) → Prop) (hn0 : 0 ≤ n) (hn1 : n < 536870912) (hM : FixM w 4 news (RMk w ok q pk P)) :
    CSpec w 263 [.int n t, .bool rep, .bool pk] news 8 90 (RXs w ok q (tsz n) rep pk P) := by
  w_top off
  unfold CSpec
  k_fill
  intro p loose mean mg mb dp un gd cn cs a ccd cl outer A₀ base h₀ L m s Q E B F X N T hk hd hu hret
  refine wpAny_call ?_
  k_dflt cell_enter
  k_steps
  all_goals exact hret _ _ _ _ ⟨_, _, by assumption, _, _, rfl, rfl, by assumption, by assumption⟩ (by k_asm) (by k_asm)
set_option maxHeartbeats 8000000 in
theorem c_x8 (w : World) (news : List (Addr × Obj)) (ok : V → Prop) (q : V → Int) (n : Int) (t : Tok) (rep pk : Bool) (P : List (Addr × Obj) → (List (Addr × Obj) → Prop) → Prop) (hn0 : 0 ≤ n) (hn1 : n < 536870912) (hM : FixM w 1 news (RMk w ok q pk P)) :
    CSpec w 291 [.int n t, .bool rep, .bool pk] news 8 90 (RXs w ok q (tsz n) rep pk P) := by
  w_top off
  unfold CSpec
  k_fill
  intro p loose mean mg mb dp un gd cn cs a ccd cl outer A₀ base h₀ L m s Q E B F X N T hk hd hu hret
  refine wpAny_call ?_
  k_dflt cell_enter
  k_steps
  all_goals exact hret _ _ _ _ ⟨_, _, by assumption, _, _, rfl, rfl, by assumption, by assumption⟩ (by k_asm) (by k_asm)
set_option maxHeartbeats 8000000 in
theorem c_x13 (w : World) (news : List (Addr × Obj)) (ok : V → Prop) (q : V → Int) (n : Int) (t : Tok) (rep pk : Bool) (P : List (Addr × Obj) → (List (Addr × Obj) → Prop) → Prop) (hn0 : 0 ≤ n) (hn1 : n < 536870912) (hM : CSpec w 193 [.ref 172] news 2 20 (RMk w ok q pk P)) :
    CSpec w 235 [.int n t, .bool rep, .bool pk] news 8 90 (RXs w ok q (tsz n) rep pk P) := by
  w_top off
  unfold CSpec
  k_fill
  intro p loose mean mg mb dp un gd cn cs a ccd cl outer A₀ base h₀ L m s Q E B F X N T hk hd hu hret
  refine wpAny_call ?_
  k_dflt cell_enter
  k_steps
  all_goals exact hret _ _ _ _ ⟨_, _, by assumption, _, _, rfl, rfl, by assumption, by assumption⟩ (by k_asm) (by k_asm)
set_option maxHeartbeats 8000000 in
theorem c_x14 (w : World) (news : List (Addr × Obj)) (ok : V → Prop) (q : V → Int) (n : Int) (t : Tok) (rep pk : Bool) (P : List (Addr × Obj) → (List (Addr × Obj) → Prop) → Prop) (hn0 : 0 ≤ n) (hn1 : n < 536870912) (hM : CSpec w 193 [.ref 179] news 2 20 (RMk w ok q pk P)) :
    CSpec w 228 [.int n t, .bool rep, .bool pk] news 8 90 (RXs w ok q (tsz n) rep pk P) := by
  w_top off
  unfold CSpec
  k_fill
  intro p loose mean mg mb dp un gd cn cs a ccd cl outer A₀ base h₀ L m s Q E B F X N T hk hd hu hret
  refine wpAny_call ?_
  k_dflt cell_enter
  k_steps
  all_goals exact hret _ _ _ _ ⟨_, _, by assumption, _, _, rfl, rfl, by assumption, by assumption⟩ (by k_asm) (by k_asm)
set_option maxHeartbeats 8000000 in
theorem c_x15 (w : World) (news : List (Addr × Obj)) (ok : V → Prop) (q : V → Int) (n : Int) (t : Tok) (rep pk : Bool) (P : List (Addr × Obj) → (List (Addr × Obj) → Prop) → Prop) (hn0 : 0 ≤ n) (hn1 : n < 536870912) (hM : FixM w 4 news (RMk w ok q pk P)) :
    CSpec w 270 [.int n t, .bool rep, .bool pk] news 8 90 (RXs w ok q (tsz n) rep pk P) := by
  w_top off
  unfold CSpec
  k_fill
  intro p loose mean mg mb dp un gd cn cs a ccd cl outer A₀ base h₀ L m s Q E B F X N T hk hd hu hret
  refine wpAny_call ?_
  k_dflt cell_enter
  k_steps
  all_goals exact hret _ _ _ _ ⟨_, _, by assumption, _, _, rfl, rfl, by assumption, by assumption⟩ (by k_asm) (by k_asm)
set_option maxHeartbeats 8000000 in
theorem c_x16 (w : World) (news : List (Addr × Obj)) (ok : V → Prop) (q : V → Int) (n : Int) (t : Tok) (rep pk : Bool) (P : List (Addr × Obj) → (List (Addr × Obj) → Prop) → Prop) (hn0 : 0 ≤ n) (hn1 : n < 536870912) (hM : FixM w 8 news (RMk w ok q pk P)) :
    CSpec w 284 [.int n t, .bool rep, .bool pk] news 8 90 (RXs w ok q (tsz n) rep pk P) := by
  w_top off
  unfold CSpec
  k_fill
  intro p loose mean mg mb dp un gd cn cs a ccd cl outer A₀ base h₀ L m s Q E B F X N T hk hd hu hret
  refine wpAny_call ?_
  k_dflt cell_enter
  k_steps
  all_goals exact hret _ _ _ _ ⟨_, _, by assumption, _, _, rfl, rfl, by assumption, by assumption⟩ (by k_asm) (by k_asm)
set_option maxHeartbeats 8000000 in
theorem c_x17 (w : World) (news : List (Addr × Obj)) (ok : V → Prop) (q : V → Int) (n : Int) (t : Tok) (rep pk : Bool) (P : List (Addr × Obj) → (List (Addr × Obj) → Prop) → Prop) (hn0 : 0 ≤ n) (hn1 : n < 536870912) (hM : CSpec w 200 [.ref 179, .ref 53] news 2 20 (RMk w ok q pk P)) :
    CSpec w 249 [.int n t, .bool rep, .bool pk] news 8 90 (RXs w ok q (tsz n) rep pk P) := by
  w_top off
  unfold CSpec
  k_fill
  intro p loose mean mg mb dp un gd cn cs a ccd cl outer A₀ base h₀ L m s Q E B F X N T hk hd hu hret
  refine wpAny_call ?_
  k_dflt cell_enter
  k_steps
  all_goals exact hret _ _ _ _ ⟨_, _, by assumption, _, _, rfl, rfl, by assumption, by assumption⟩ (by k_asm) (by k_asm)
set_option maxHeartbeats 8000000 in
theorem c_x18 (w : World) (news : List (Addr × Obj)) (ok : V → Prop) (q : V → Int) (n : Int) (t : Tok) (rep pk : Bool) (P : List (Addr × Obj) → (List (Addr × Obj) → Prop) → Prop) (hn0 : 0 ≤ n) (hn1 : n < 536870912) (hM : CSpec w 200 [.ref 179, .ref 53] news 2 20 (RMk w ok q pk P)) :
    CSpec w 256 [.int n t, .bool rep, .bool pk] news 8 90 (RXs w ok q (tsz n) rep pk P) := by
  w_top off
  unfold CSpec
  k_fill
  intro p loose mean mg mb dp un gd cn cs a ccd cl outer A₀ base h₀ L m s Q E B F X N T hk hd hu hret
  refine wpAny_call ?_
  k_dflt cell_enter
  k_steps
  all_goals exact hret _ _ _ _ ⟨_, _, by assumption, _, _, rfl, rfl, by assumption, by assumption⟩ (by k_asm) (by k_asm)
def SzFor (w : World) (k : Int) (args : List Value) (news : List (Addr × Obj)) (R : Value → List (Addr × Obj) → Prop) (c : Int) (a : Addr) : Prop := k = c → CSpec w a args news 8 90 R
theorem SzFor.use {w : World} {k c : Int} {a : Addr} {args : List Value} {news : List (Addr × Obj)} {R : Value → List (Addr × Obj) → Prop} (h : SzFor w k args news R c a) (e : k = c) : CSpec w a args news 8 90 R := h e
set_option maxHeartbeats 8000000 in
theorem c_of (w : World) (news : List (Addr × Obj)) (k : Int) (kt : Tok) (n : Int) (t : Tok) (rep pk : Bool) (R : Value → List (Addr × Obj) → Prop) (hk : k = 3 ∨ k = 4 ∨ k = 5 ∨ k = 6 ∨ k = 7 ∨ k = 8 ∨ k = 9 ∨ k = 12 ∨ k = 13 ∨ k = 14 ∨ k = 15 ∨ k = 16 ∨ k = 17 ∨ k = 18)
    (h3 : SzFor w k [.int n t, .bool rep, .bool pk] news R 3 221)
    (h4 : SzFor w k [.int n t, .bool rep, .bool pk] news R 4 242)
    (h5 : SzFor w k [.int n t, .bool rep, .bool pk] news R 5 214)
    (h6 : SzFor w k [.int n t, .bool rep, .bool pk] news R 6 277)
    (h7 : SzFor w k [.int n t, .bool rep, .bool pk] news R 7 263)
    (h8 : SzFor w k [.int n t, .bool rep, .bool pk] news R 8 291)
    (h9 : SzFor w k [.int n t, .bool rep, .bool pk] news R 9 298)
    (h12 : SzFor w k [.int n t, .bool rep, .bool pk] news R 12 305)
    (h13 : SzFor w k [.int n t, .bool rep, .bool pk] news R 13 235)
    (h14 : SzFor w k [.int n t, .bool rep, .bool pk] news R 14 228)
    (h15 : SzFor w k [.int n t, .bool rep, .bool pk] news R 15 270)
    (h16 : SzFor w k [.int n t, .bool rep, .bool pk] news R 16 284)
    (h17 : SzFor w k [.int n t, .bool rep, .bool pk] news R 17 249)
    (h18 : SzFor w k [.int n t, .bool rep, .bool pk] news R 18 256)
    : CSpec w 349 [.int k kt, .int n t, .bool rep, .bool pk] news 10 100 R := by
  w_top off
  unfold CSpec
  k_fill
  intro p loose mean mg mb dp un gd cn cs a ccd cl outer A₀ base h₀ L m s Q E B F X N T hk hd hu hret
  refine wpAny_call ?_
  k_dflt cell_enter
  k_steps
  all_goals first | exact hret _ _ _ _ (by assumption) (by k_asm) (by k_asm) | (exfalso; omega)
end
end Mine
end
section -- Sizer2
open PySem PySem.W PyProof.Rows PySem.Calls PySem.Spec
namespace Mine
local macro_rules | `(tactic| walk_at "eval Call") => `(tactic| (k_here; (with_reducible show wpAny _ _ (eval (Expr.Call (Expr.Name _ _) _ _ _) _) _ _ _); (fail_if_success (with_reducible show wpAny _ _ _ (fun y s => SeqLeaf (Carried y _ ∧ Keeps _ s)) _ _)); k_dflt (refine Call_ ?_)))

/-- the seven tables, as the law finds them -/
abbrev T7 : List (Addr × Obj) := [(314, tabObj #[]), (307, tabObj #[]), (300, tabObj #[]), (293, tabObj #[]), (202, tabObj #[]), (195, tabObj #[]), (188, tabObj #[])]
def P7 : List Addr := [314, 307, 300, 293, 202, 195, 188]
def TabsIn (n : List (Addr × Obj)) : Prop := ∀ P ∈ P7, ∃ ps, (P, tabObj ps) ∈ n
theorem upd_app {P : Addr} {o : Obj} {post : List (Addr × Obj)} {g : Obj → List (Addr × Obj)} (U : UpdF P o post g) : ∀ {pre : List (Addr × Obj)}, (∀ p ∈ pre, p.1 ≠ P) → UpdF P o (pre ++ post) (fun o' => pre ++ g o')
  | [], _ => U
  | p :: _, h => UpdF.tail (h p (.head _)) (upd_app U fun q hq => h q (.tail _ hq))
abbrev g314 : Obj → List (Addr × Obj) := fun o => [(314, o), (307, tabObj #[]), (300, tabObj #[]), (293, tabObj #[]), (202, tabObj #[]), (195, tabObj #[]), (188, tabObj #[])]
theorem u314 : UpdF 314 (tabObj #[]) T7 g314 := UpdF.head (by decide)
theorem ti314 (ps : Array Value) : TabsIn (g314 (tabObj ps)) := by intro P hP; simp only [P7, List.mem_cons, List.not_mem_nil, or_false] at hP; rcases hP with rfl | rfl | rfl | rfl | rfl | rfl | rfl <;> exact ⟨_, by simp; try rfl⟩
abbrev g307 : Obj → List (Addr × Obj) := fun o => [(314, tabObj #[]), (307, o), (300, tabObj #[]), (293, tabObj #[]), (202, tabObj #[]), (195, tabObj #[]), (188, tabObj #[])]
theorem u307 : UpdF 307 (tabObj #[]) T7 g307 := UpdF.tail (by decide) (UpdF.head (by decide))
theorem ti307 (ps : Array Value) : TabsIn (g307 (tabObj ps)) := by intro P hP; simp only [P7, List.mem_cons, List.not_mem_nil, or_false] at hP; rcases hP with rfl | rfl | rfl | rfl | rfl | rfl | rfl <;> exact ⟨_, by simp; try rfl⟩
abbrev g300 : Obj → List (Addr × Obj) := fun o => [(314, tabObj #[]), (307, tabObj #[]), (300, o), (293, tabObj #[]), (202, tabObj #[]), (195, tabObj #[]), (188, tabObj #[])]
theorem u300 : UpdF 300 (tabObj #[]) T7 g300 := UpdF.tail (by decide) (UpdF.tail (by decide) (UpdF.head (by decide)))
theorem ti300 (ps : Array Value) : TabsIn (g300 (tabObj ps)) := by intro P hP; simp only [P7, List.mem_cons, List.not_mem_nil, or_false] at hP; rcases hP with rfl | rfl | rfl | rfl | rfl | rfl | rfl <;> exact ⟨_, by simp; try rfl⟩
abbrev g293 : Obj → List (Addr × Obj) := fun o => [(314, tabObj #[]), (307, tabObj #[]), (300, tabObj #[]), (293, o), (202, tabObj #[]), (195, tabObj #[]), (188, tabObj #[])]
theorem u293 : UpdF 293 (tabObj #[]) T7 g293 := UpdF.tail (by decide) (UpdF.tail (by decide) (UpdF.tail (by decide) (UpdF.head (by decide))))
theorem ti293 (ps : Array Value) : TabsIn (g293 (tabObj ps)) := by intro P hP; simp only [P7, List.mem_cons, List.not_mem_nil, or_false] at hP; rcases hP with rfl | rfl | rfl | rfl | rfl | rfl | rfl <;> exact ⟨_, by simp; try rfl⟩
abbrev g202 : Obj → List (Addr × Obj) := fun o => [(314, tabObj #[]), (307, tabObj #[]), (300, tabObj #[]), (293, tabObj #[]), (202, o), (195, tabObj #[]), (188, tabObj #[])]
theorem u202 : UpdF 202 (tabObj #[]) T7 g202 := UpdF.tail (by decide) (UpdF.tail (by decide) (UpdF.tail (by decide) (UpdF.tail (by decide) (UpdF.head (by decide)))))
theorem ti202 (ps : Array Value) : TabsIn (g202 (tabObj ps)) := by intro P hP; simp only [P7, List.mem_cons, List.not_mem_nil, or_false] at hP; rcases hP with rfl | rfl | rfl | rfl | rfl | rfl | rfl <;> exact ⟨_, by simp; try rfl⟩
abbrev g195 : Obj → List (Addr × Obj) := fun o => [(314, tabObj #[]), (307, tabObj #[]), (300, tabObj #[]), (293, tabObj #[]), (202, tabObj #[]), (195, o), (188, tabObj #[])]
theorem u195 : UpdF 195 (tabObj #[]) T7 g195 := UpdF.tail (by decide) (UpdF.tail (by decide) (UpdF.tail (by decide) (UpdF.tail (by decide) (UpdF.tail (by decide) (UpdF.head (by decide))))))
theorem ti195 (ps : Array Value) : TabsIn (g195 (tabObj ps)) := by intro P hP; simp only [P7, List.mem_cons, List.not_mem_nil, or_false] at hP; rcases hP with rfl | rfl | rfl | rfl | rfl | rfl | rfl <;> exact ⟨_, by simp; try rfl⟩
abbrev g188 : Obj → List (Addr × Obj) := fun o => [(314, tabObj #[]), (307, tabObj #[]), (300, tabObj #[]), (293, tabObj #[]), (202, tabObj #[]), (195, tabObj #[]), (188, o)]
theorem u188 : UpdF 188 (tabObj #[]) T7 g188 := UpdF.tail (by decide) (UpdF.tail (by decide) (UpdF.tail (by decide) (UpdF.tail (by decide) (UpdF.tail (by decide) (UpdF.tail (by decide) (UpdF.head (by decide)))))))
theorem ti188 (ps : Array Value) : TabsIn (g188 (tabObj ps)) := by intro P hP; simp only [P7, List.mem_cons, List.not_mem_nil, or_false] at hP; rcases hP with rfl | rfl | rfl | rfl | rfl | rfl | rfl <;> exact ⟨_, by simp; try rfl⟩
theorem cs_mono {w : World} {f : Addr} {vs : List Value} {news : List (Addr × Obj)} {d u : Nat} {R R' : Value → List (Addr × Obj) → Prop} (h : CSpec w f vs news d u R) (hr : ∀ v nw, R v nw → R' v nw) : CSpec w f vs news d u R' := by
  intro p loose mean mg mb dp un gd cn cs a ccd cl outer A₀ base h₀ L m s Q E B F X N T hk hd hu hret
  exact h p loose mean mg mb dp un gd cn cs a ccd cl outer A₀ base h₀ L m s Q E B F X N T hk hd hu fun v h' tk' n' hR F' N' => hret v h' tk' n' (hr _ _ hR) F' N'
theorem qsum_eq {q q' : V → Int} : ∀ {vs : List (V × Tok)}, (∀ x ∈ vs, q x.1 = q' x.1) → qsum q vs = qsum q' vs
  | [], _ => rfl
  | x :: r, h => by
    have := qsum_eq (vs := r) fun y hy => h y (.tail _ hy)
    unfold qsum at this ⊢
    rw [List.map_cons, List.map_cons, List.sum_cons, List.sum_cons, this, h x (.head _)]
theorem FnOk.mono {w : World} {ok ok' : V → Prop} {q q' : V → Int} {T : Int} {rep pk : Bool} {f : Addr} {n3 : List (Addr × Obj)} (h : FnOk w ok q T rep pk f n3) (h1 : ∀ v, ok' v → ok v) (h2 : ∀ v, ok' v → q v = q' v) : FnOk w ok' q' T rep pk f n3 := by
  obtain ⟨a1, a2, a3⟩ := h
  refine ⟨fun b c v t hv => h2 v hv ▸ a1 b c v t (h1 v hv), fun b c l vs nn hl hz hv => ?_, fun b l vs nn hl hz hv => ?_⟩
  · rw [← qsum_eq fun x hx => h2 x.1 (hv x hx)]
    exact a2 b c l vs nn hl hz fun x hx => h1 _ (hv x hx)
  · rw [← qsum_eq fun x hx => h2 x.1 (hv x hx)]
    exact a3 b l vs nn hl hz fun x hx => h1 _ (hv x hx)
abbrev HitA : List (Addr × Obj) → Prop := Hit2 188 116 4 121 12 (qSpec "_SimpleSizer") (qPack "_SimpleSizer")
abbrev HitB : List (Addr × Obj) → Prop := Hit2 195 143 4 148 12 (qSpec "_ModifiedSizer") (qPack "_ModifiedSizer")
abbrev HitC : List (Addr × Obj) → Prop := Hit2 202 170 4 175 12 (qSpec "_FixedSizer") (qPack "_FixedSizer")
def HitK (k : Int) (n : List (Addr × Obj)) : Prop :=
  ((k = 3 ∨ k = 4 ∨ k = 5 ∨ k = 13 ∨ k = 14) → HitA n) ∧ ((k = 17 ∨ k = 18) → HitB n) ∧ ((k = 6 ∨ k = 7 ∨ k = 8 ∨ k = 15 ∨ k = 16) → HitC n)
theorem HitK.a {k : Int} {n : List (Addr × Obj)} (h : k = 3 ∨ k = 4 ∨ k = 5 ∨ k = 13 ∨ k = 14) (x : HitA n) : HitK k n := ⟨fun _ => x, fun e => by omega, fun e => by omega⟩
theorem HitK.b {k : Int} {n : List (Addr × Obj)} (h : k = 17 ∨ k = 18) (x : HitB n) : HitK k n := ⟨fun e => by omega, fun _ => x, fun e => by omega⟩
theorem HitK.c {k : Int} {n : List (Addr × Obj)} (h : k = 6 ∨ k = 7 ∨ k = 8 ∨ k = 15 ∨ k = 16) (x : HitC n) : HitK k n := ⟨fun e => by omega, fun e => by omega, fun _ => x⟩
theorem HitK.mono {k : Int} {n1 n2 : List (Addr × Obj)} (x : HitK k n1) (h : ∀ p ∈ n1, p ∈ n2) : HitK k n2 := ⟨fun e => (x.1 e).mono h, fun e => (x.2.1 e).mono h, fun e => (x.2.2 e).mono h⟩
/-- a sizer came back -/
def RSz (w : World) (k n : Int) (rep pk : Bool) (pre : List (Addr × Obj)) : Value → List (Addr × Obj) → Prop := fun v nw =>
  ∃ f X Tb, v = .ref f ∧ nw = X ++ (pre ++ Tb) ∧ TabsIn Tb ∧ FnIn f nw ∧ ∀ n3, (∀ p ∈ nw, p ∈ n3) → FnOk w (VOk k) (psz k) (tsz n) rep pk f n3 ∧ (pk = true → HitK k n3)
theorem rsz_of {w : World} {k n : Int} {rep pk : Bool} {pre : List (Addr × Obj)} {g : Obj → List (Addr × Obj)} {ok : V → Prop} {q : V → Int} {H : List (Addr × Obj) → Prop} (ht : ∀ ps, TabsIn (g (tabObj ps))) (h1 : ∀ v, VOk k v → ok v) (h2 : ∀ v, VOk k v → q v = psz k v) (h3 : pk = true → ∀ n, H n → HitK k n)
    {v : Value} {nw : List (Addr × Obj)} (h : ∃ ps, RF w ok q (tsz n) rep pk (pre ++ g (tabObj ps)) H v nw) : RSz w k n rep pk pre v nw := by
  obtain ⟨ps, f, X, rfl, rfl, hf, hn⟩ := h
  exact ⟨f, X, _, rfl, rfl, ht ps, hf, fun n3 hs => ⟨(hn n3 hs).1.mono h1 h2, fun e => h3 e n3 ((hn n3 hs).2 e)⟩⟩
theorem gok_s (w : World) (k : Int) (hk : k = 3 ∨ k = 5 ∨ k = 14) : GOk w 179 (VOk k) (psz k) := by
  intro v t news hv
  cases v with
  | b x => exact absurd (show k = 8 from hv) (by omega)
  | s x => exact absurd (show k = 9 from hv.1) (by omega)
  | y x => exact absurd (show k = 12 from hv.1) (by omega)
  | i n =>
    have hr : IRange k n := hv
    unfold IRange at hr
    have e : psz k (.i n) = svsz n := by
      simp only [psz, svsz]
      rw [if_neg (by omega), if_neg (by omega), if_neg (by omega)]
      split
      · have e2 : n % 18446744073709551616 = n + 18446744073709551616 := by omega
        rw [e2]; unfold vsz
        repeat' (rw [if_neg (by omega)])
      · rw [show n % 18446744073709551616 = n by omega]
    rw [e]
    intro p loose mean mg mb dp un gd cn cs a ccd cl outer A₀ base h₀ L m s Q E B F X N T hk hd hu hret
    exact c_svs w news n t p loose mean mg mb dp un gd cn cs a ccd cl outer A₀ base h₀ L m s Q E B F X N T hk (by omega) (by omega) hret
theorem gok_u (w : World) (k : Int) (hk : k = 4 ∨ k = 13) : GOk w 172 (VOk k) (psz k) := by
  intro v t news hv
  cases v with
  | b x => exact absurd (show k = 8 from hv) (by omega)
  | s x => exact absurd (show k = 9 from hv.1) (by omega)
  | y x => exact absurd (show k = 12 from hv.1) (by omega)
  | i n =>
    have hr : IRange k n := hv
    unfold IRange at hr
    have e : psz k (.i n) = vsz n := by
      simp only [psz]
      rw [if_neg (by omega), if_neg (by omega), if_neg (by omega), show n % 18446744073709551616 = n by omega]
    rw [e]
    intro p loose mean mg mb dp un gd cn cs a ccd cl outer A₀ base h₀ L m s Q E B F X N T hk hd hu hret
    exact c_vs w news n t p loose mean mg mb dp un gd cn cs a ccd cl outer A₀ base h₀ L m s Q E B F X N T hk (by omega) (by omega) hret
theorem okz_of {k : Int} (hk : k = 17 ∨ k = 18) {v : V} (hv : VOk k v) : okZ v ∧ qZ v = psz k v := by
  cases v with
  | b x => exact absurd (show k = 8 from hv) (by omega)
  | s x => exact absurd (show k = 9 from hv.1) (by omega)
  | y x => exact absurd (show k = 12 from hv.1) (by omega)
  | i n =>
    have hr : IRange k n := hv
    unfold IRange at hr
    refine ⟨⟨n, rfl, by omega, by omega⟩, ?_⟩
    show svsz (zz n) = psz k (.i n)
    simp only [psz]
    rw [if_pos hk]
    unfold svsz
    rw [if_neg (by unfold zz; split <;> omega)]
theorem qf_of {k c : Int} (h : (k = 8 ∧ c = 1) ∨ ((k = 7 ∨ k = 15) ∧ c = 4) ∨ ((k = 6 ∨ k = 16) ∧ c = 8)) {v : V} (hv : VOk k v) : qF c v = psz k v := by
  cases v with
  | b x =>
    have : k = 8 := hv
    show c = 1
    omega
  | s x => exact absurd (show k = 9 from hv.1) (by omega)
  | y x => exact absurd (show k = 12 from hv.1) (by omega)
  | i n =>
    have hr : IRange k n := hv
    unfold IRange at hr
    show c = psz k (.i n)
    simp only [psz]
    rw [if_neg (by omega)]
    split
    · omega
    · rw [if_pos (by omega)]; omega
theorem oks_of {v : V} (hv : VOk 9 v) : okS v := by
  cases v with
  | b x => exact absurd (show (9 : Int) = 8 from hv) (by omega)
  | y x => exact absurd (show (9 : Int) = 12 from hv.1) (by omega)
  | i n => have hr : IRange 9 n := hv; unfold IRange at hr; omega
  | s x => exact ⟨x, rfl, hv.2.1, hv.2.2, line_of hv.2.2⟩
theorem oky_of {v : V} (hv : VOk 12 v) : okY v := by
  cases v with
  | b x => exact absurd (show (12 : Int) = 8 from hv) (by omega)
  | s x => exact absurd (show (12 : Int) = 9 from hv.1) (by omega)
  | i n => have hr : IRange 12 n := hv; unfold IRange at hr; omega
  | y x => exact ⟨x, rfl, hv.2⟩
def fnB (K : Frag) (a : Addr) : Bool := match K.lookup a with
  | some ⟨_, _, .func _, _⟩ => true
  | _ => false
theorem fnk_of {w : World} {a : Addr} (h : fnB (hd.heap_39 w.params) a = true) : FnK w a := by
  unfold fnB at h
  split at h
  · rename_i oc od fd sl e
    exact ⟨oc, od, fd, sl, e⟩
  · cases h
theorem fnk179 (w : World) : FnK w 179 := fnk_of (by kernel_rfl)
theorem fnk172 (w : World) : FnK w 172 := fnk_of (by kernel_rfl)
theorem cs_le {w : World} {f : Addr} {vs : List Value} {news : List (Addr × Obj)} {d u d' u' : Nat} {R : Value → List (Addr × Obj) → Prop} (h : CSpec w f vs news d u R) (hd' : d ≤ d') (hu' : u ≤ u') : CSpec w f vs news d' u' R := by
  intro p loose mean mg mb dp un gd cn cs a ccd cl outer A₀ base h₀ L m s Q E B F X N T hk hd hu hret
  exact h p loose mean mg mb dp un gd cn cs a ccd cl outer A₀ base h₀ L m s Q E B F X N T hk (by omega) (by omega) hret
/-- a maker's base: the table of its def's turned -/
def PMiss (pre : List (Addr × Obj)) (g : Obj → List (Addr × Obj)) (H0 : List (Addr × Obj) → Prop) : List (Addr × Obj) → (List (Addr × Obj) → Prop) → Prop := fun base H => ∃ ps, base = pre ++ g (tabObj ps) ∧ H = H0
def PHit (news : List (Addr × Obj)) : List (Addr × Obj) → (List (Addr × Obj) → Prop) → Prop := fun base H => base = news ∧ H = fun _ => True
section
variable {w : World} {pre news : List (Addr × Obj)} {pk : Bool}
theorem mk_a {gf : Addr} {ok : V → Prop} {q : V → Int} (hG : GOk w gf ok q) (hK : FnK w gf) (h : ∀ p ∈ pre, p.1 ≠ 188) : CSpec w 193 [.ref gf] (pre ++ T7) 2 20 (RMk w ok q pk (PMiss pre g188 HitA)) :=
  cs_mono (c_simple w _ _ gf ok q hG hK (upd_app u188 h)) fun _ _ ⟨S, X, ps, e1, e2, hS⟩ => ⟨S, X, _, _, _, e1, e2, hS, trivial, ps, rfl, rfl⟩
theorem mk_b (h : ∀ p ∈ pre, p.1 ≠ 195) : CSpec w 200 [.ref 179, .ref 53] (pre ++ T7) 2 20 (RMk w okZ qZ pk (PMiss pre g195 HitB)) :=
  cs_mono (c_mod w _ _ (upd_app u195 h)) fun _ _ ⟨S, X, ps, e1, e2, hS⟩ => ⟨S, X, _, _, _, e1, e2, hS, trivial, ps, rfl, rfl⟩
theorem mk_c (c : Int) (h : ∀ p ∈ pre, p.1 ≠ 202) : FixM w c (pre ++ T7) (RMk w okF (qF c) pk (PMiss pre g202 HitC)) := fun ct =>
  cs_mono (c_fix w _ _ c ct (upd_app u202 h)) fun _ _ ⟨S, X, ps, e1, e2, hS⟩ => ⟨S, X, _, _, _, e1, e2, hS, trivial, ps, rfl, rfl⟩
theorem mk_ah {gf : Addr} {ok : V → Prop} {q : V → Int} (hG : GOk w gf ok q) (hK : FnK w gf) (h : HitA news) : CSpec w 193 [.ref gf] news 2 20 (RMk w ok q true (PHit news)) :=
  cs_mono (c_simple_hit w _ gf ok q hG hK h) fun _ _ ⟨S, X, e1, e2, hS⟩ => ⟨S, X, _, _, _, e1, e2, hS, rfl, rfl, rfl⟩
theorem mk_bh (h : HitB news) : CSpec w 200 [.ref 179, .ref 53] news 2 20 (RMk w okZ qZ true (PHit news)) :=
  cs_mono (c_mod_hit w _ h) fun _ _ ⟨S, X, e1, e2, hS⟩ => ⟨S, X, _, _, _, e1, e2, hS, rfl, rfl, rfl⟩
theorem mk_ch (c : Int) (h : HitC news) : FixM w c news (RMk w okF (qF c) true (PHit news)) := fun ct =>
  cs_mono (c_fix_hit w _ c ct h) fun _ _ ⟨S, X, e1, e2, hS⟩ => ⟨S, X, _, _, _, e1, e2, hS, rfl, rfl, rfl⟩
theorem xs_miss {ok : V → Prop} {q : V → Int} {T : Int} {rep : Bool} {g : Obj → List (Addr × Obj)} {H0 : List (Addr × Obj) → Prop} {v : Value} {nw : List (Addr × Obj)} (h : RXs w ok q T rep pk (PMiss pre g H0) v nw) : ∃ ps, RF w ok q T rep pk (pre ++ g (tabObj ps)) H0 v nw := by
  obtain ⟨base, H, ⟨ps, rfl, rfl⟩, hR⟩ := h
  exact ⟨ps, hR⟩
theorem xs_hit {ok : V → Prop} {q : V → Int} {T : Int} {rep : Bool} {v : Value} {nw : List (Addr × Obj)} (h : RXs w ok q T rep pk (PHit news) v nw) : RF w ok q T rep pk news (fun _ => True) v nw := by
  obtain ⟨base, H, ⟨rfl, rfl⟩, hR⟩ := h
  exact hR
end
theorem kk_of {k wi bi : Int} (K : KOk k wi bi) : (k = 3 ∨ k = 4 ∨ k = 5 ∨ k = 6 ∨ k = 7 ∨ k = 8 ∨ k = 9 ∨ k = 12 ∨ k = 13 ∨ k = 14 ∨ k = 15 ∨ k = 16 ∨ k = 17 ∨ k = 18) ∧ ((k = 9 ∨ k = 12) → wi = 2) := by
  unfold KOk at K
  omega
theorem c_sizer (w : World) (pre : List (Addr × Obj)) (k wi bi : Int) (kt : Tok) (n : Int) (t : Tok) (rep pk : Bool) (hn0 : 0 ≤ n) (hn1 : n < 536870912) (K : KOk k wi bi) (hp : pk = true → wi ≠ 2) (hpre : ∀ p ∈ pre, ∀ P ∈ P7, p.1 ≠ P) :
    CSpec w 349 [.int k kt, .int n t, .bool rep, .bool pk] (pre ++ T7) 10 100 (RSz w k n rep pk pre) := by
  have h (P : Addr) (hP : P ∈ P7) : ∀ p ∈ pre, p.1 ≠ P := fun p hp => hpre p hp P hP
  obtain ⟨hk, hw⟩ := kk_of K
  clear K
  refine c_of w _ k kt n t rep pk _ hk ?_ ?_ ?_ ?_ ?_ ?_ ?_ ?_ ?_ ?_ ?_ ?_ ?_ ?_
  all_goals (intro e; subst e; clear hk)
  · exact cs_mono (c_x3 w _ _ _ n t rep pk _ hn0 hn1 (mk_a (gok_s w 3 (by decide)) (fnk179 w) (h 188 (by decide)))) fun v nw hR => rsz_of ti188 (fun _ x => x) (fun _ _ => rfl) (fun _ _ x => .a (by decide) x) (xs_miss hR)
  · exact cs_mono (c_x4 w _ _ _ n t rep pk _ hn0 hn1 (mk_a (gok_u w 4 (by decide)) (fnk172 w) (h 188 (by decide)))) fun v nw hR => rsz_of ti188 (fun _ x => x) (fun _ _ => rfl) (fun _ _ x => .a (by decide) x) (xs_miss hR)
  · exact cs_mono (c_x5 w _ _ _ n t rep pk _ hn0 hn1 (mk_a (gok_s w 5 (by decide)) (fnk179 w) (h 188 (by decide)))) fun v nw hR => rsz_of ti188 (fun _ x => x) (fun _ _ => rfl) (fun _ _ x => .a (by decide) x) (xs_miss hR)
  · exact cs_mono (c_x6 w _ _ _ n t rep pk _ hn0 hn1 (mk_c 8 (h 202 (by decide)))) fun v nw hR => rsz_of ti202 (fun _ _ => trivial) (fun _ x => qf_of (by decide) x) (fun _ _ x => .c (by decide) x) (xs_miss hR)
  · exact cs_mono (c_x7 w _ _ _ n t rep pk _ hn0 hn1 (mk_c 4 (h 202 (by decide)))) fun v nw hR => rsz_of ti202 (fun _ _ => trivial) (fun _ x => qf_of (by decide) x) (fun _ _ x => .c (by decide) x) (xs_miss hR)
  · exact cs_mono (c_x8 w _ _ _ n t rep pk _ hn0 hn1 (mk_c 1 (h 202 (by decide)))) fun v nw hR => rsz_of ti202 (fun _ _ => trivial) (fun _ x => qf_of (by decide) x) (fun _ _ x => .c (by decide) x) (xs_miss hR)
  · have hpk : pk = false := by cases pk with | false => rfl | true => exact absurd (hw (by decide)) (hp rfl)
    subst hpk
    exact cs_le (cs_mono (c_ssz w _ _ rep n t hn0 hn1 (upd_app u293 (h 293 (by decide)))) fun v nw hR => rsz_of ti293 (fun _ x => oks_of x) (fun _ _ => rfl) (fun (e : false = true) => nomatch e) hR) (by decide) (by decide)
  · have hpk : pk = false := by cases pk with | false => rfl | true => exact absurd (hw (by decide)) (hp rfl)
    subst hpk
    exact cs_le (cs_mono (c_ysz w _ _ rep n t hn0 hn1 (upd_app u300 (h 300 (by decide)))) fun v nw hR => rsz_of ti300 (fun _ x => oky_of x) (fun _ _ => rfl) (fun (e : false = true) => nomatch e) hR) (by decide) (by decide)
  · exact cs_mono (c_x13 w _ _ _ n t rep pk _ hn0 hn1 (mk_a (gok_u w 13 (by decide)) (fnk172 w) (h 188 (by decide)))) fun v nw hR => rsz_of ti188 (fun _ x => x) (fun _ _ => rfl) (fun _ _ x => .a (by decide) x) (xs_miss hR)
  · exact cs_mono (c_x14 w _ _ _ n t rep pk _ hn0 hn1 (mk_a (gok_s w 14 (by decide)) (fnk179 w) (h 188 (by decide)))) fun v nw hR => rsz_of ti188 (fun _ x => x) (fun _ _ => rfl) (fun _ _ x => .a (by decide) x) (xs_miss hR)
  · exact cs_mono (c_x15 w _ _ _ n t rep pk _ hn0 hn1 (mk_c 4 (h 202 (by decide)))) fun v nw hR => rsz_of ti202 (fun _ _ => trivial) (fun _ x => qf_of (by decide) x) (fun _ _ x => .c (by decide) x) (xs_miss hR)
  · exact cs_mono (c_x16 w _ _ _ n t rep pk _ hn0 hn1 (mk_c 8 (h 202 (by decide)))) fun v nw hR => rsz_of ti202 (fun _ _ => trivial) (fun _ x => qf_of (by decide) x) (fun _ _ x => .c (by decide) x) (xs_miss hR)
  · exact cs_mono (c_x17 w _ _ _ n t rep pk _ hn0 hn1 (mk_b (h 195 (by decide)))) fun v nw hR => rsz_of ti195 (fun _ x => (okz_of (by decide) x).1) (fun _ x => (okz_of (by decide) x).2) (fun _ _ x => .b (by decide) x) (xs_miss hR)
  · exact cs_mono (c_x18 w _ _ _ n t rep pk _ hn0 hn1 (mk_b (h 195 (by decide)))) fun v nw hR => rsz_of ti195 (fun _ x => (okz_of (by decide) x).1) (fun _ x => (okz_of (by decide) x).2) (fun _ _ x => .b (by decide) x) (xs_miss hR)
/-- the sizer that came back again -/
def RSzH (w : World) (k n : Int) (rep : Bool) (news : List (Addr × Obj)) : Value → List (Addr × Obj) → Prop := fun v nw =>
  ∃ f X, v = .ref f ∧ nw = X ++ news ∧ FnIn f nw ∧ ∀ n3, (∀ p ∈ nw, p ∈ n3) → FnOk w (VOk k) (psz k) (tsz n) rep true f n3
theorem rszh_of {w : World} {k n : Int} {rep : Bool} {news : List (Addr × Obj)} {ok : V → Prop} {q : V → Int} (h1 : ∀ v, VOk k v → ok v) (h2 : ∀ v, VOk k v → q v = psz k v)
    {v : Value} {nw : List (Addr × Obj)} (h : RF w ok q (tsz n) rep true news (fun _ => True) v nw) : RSzH w k n rep news v nw := by
  obtain ⟨f, X, rfl, rfl, hf, hn⟩ := h
  exact ⟨f, X, rfl, rfl, hf, fun n3 hs => (hn n3 hs).1.mono h1 h2⟩
theorem c_sizer_hit (w : World) (news : List (Addr × Obj)) (k wi bi : Int) (kt : Tok) (n : Int) (t : Tok) (rep : Bool) (hn0 : 0 ≤ n) (hn1 : n < 536870912) (K : KOk k wi bi) (hp : wi ≠ 2) (hH : HitK k news) :
    CSpec w 349 [.int k kt, .int n t, .bool rep, .bool true] news 10 100 (RSzH w k n rep news) := by
  obtain ⟨hk, hw⟩ := kk_of K
  clear K
  refine c_of w _ k kt n t rep true _ hk ?_ ?_ ?_ ?_ ?_ ?_ ?_ ?_ ?_ ?_ ?_ ?_ ?_ ?_
  all_goals (intro e; subst e; clear hk)
  · exact cs_mono (c_x3 w _ _ _ n t rep true _ hn0 hn1 (mk_ah (gok_s w 3 (by decide)) (fnk179 w) (hH.1 (by decide)))) fun v nw hR => rszh_of (fun _ x => x) (fun _ _ => rfl) (xs_hit hR)
  · exact cs_mono (c_x4 w _ _ _ n t rep true _ hn0 hn1 (mk_ah (gok_u w 4 (by decide)) (fnk172 w) (hH.1 (by decide)))) fun v nw hR => rszh_of (fun _ x => x) (fun _ _ => rfl) (xs_hit hR)
  · exact cs_mono (c_x5 w _ _ _ n t rep true _ hn0 hn1 (mk_ah (gok_s w 5 (by decide)) (fnk179 w) (hH.1 (by decide)))) fun v nw hR => rszh_of (fun _ x => x) (fun _ _ => rfl) (xs_hit hR)
  · exact cs_mono (c_x6 w _ _ _ n t rep true _ hn0 hn1 (mk_ch 8 (hH.2.2 (by decide)))) fun v nw hR => rszh_of (fun _ _ => trivial) (fun _ x => qf_of (by decide) x) (xs_hit hR)
  · exact cs_mono (c_x7 w _ _ _ n t rep true _ hn0 hn1 (mk_ch 4 (hH.2.2 (by decide)))) fun v nw hR => rszh_of (fun _ _ => trivial) (fun _ x => qf_of (by decide) x) (xs_hit hR)
  · exact cs_mono (c_x8 w _ _ _ n t rep true _ hn0 hn1 (mk_ch 1 (hH.2.2 (by decide)))) fun v nw hR => rszh_of (fun _ _ => trivial) (fun _ x => qf_of (by decide) x) (xs_hit hR)
  · exact absurd (hw (by decide)) hp
  · exact absurd (hw (by decide)) hp
  · exact cs_mono (c_x13 w _ _ _ n t rep true _ hn0 hn1 (mk_ah (gok_u w 13 (by decide)) (fnk172 w) (hH.1 (by decide)))) fun v nw hR => rszh_of (fun _ x => x) (fun _ _ => rfl) (xs_hit hR)
  · exact cs_mono (c_x14 w _ _ _ n t rep true _ hn0 hn1 (mk_ah (gok_s w 14 (by decide)) (fnk179 w) (hH.1 (by decide)))) fun v nw hR => rszh_of (fun _ x => x) (fun _ _ => rfl) (xs_hit hR)
  · exact cs_mono (c_x15 w _ _ _ n t rep true _ hn0 hn1 (mk_ch 4 (hH.2.2 (by decide)))) fun v nw hR => rszh_of (fun _ _ => trivial) (fun _ x => qf_of (by decide) x) (xs_hit hR)
  · exact cs_mono (c_x16 w _ _ _ n t rep true _ hn0 hn1 (mk_ch 8 (hH.2.2 (by decide)))) fun v nw hR => rszh_of (fun _ _ => trivial) (fun _ x => qf_of (by decide) x) (xs_hit hR)
  · exact cs_mono (c_x17 w _ _ _ n t rep true _ hn0 hn1 (mk_bh (hH.2.1 (by decide)))) fun v nw hR => rszh_of (fun _ x => (okz_of (by decide) x).1) (fun _ x => (okz_of (by decide) x).2) (xs_hit hR)
  · exact cs_mono (c_x18 w _ _ _ n t rep true _ hn0 hn1 (mk_bh (hH.2.1 (by decide)))) fun v nw hR => rszh_of (fun _ x => (okz_of (by decide) x).1) (fun _ x => (okz_of (by decide) x).2) (xs_hit hR)
end Mine
end
section -- Vl
open PySem PySem.W PyProof.Rows PySem.Calls PySem.Spec
namespace Mine
section
variable {prog : Program} {w : World} {A : Around} {E : Value → Shared → Prop} {s : Shared} {h₀ : Heap} {L : Addr} {m : Str → Option Value} {news : List (Addr × Obj)} {l : Addr} {vs : List Value} {x : Int} {u : Tok} {Q : Value → Shared → Prop}
/-- a list, whatever it holds, so many times -/
theorem mul_any (Fm : Fr h₀ L s.heap m) (N : News h₀ L s.heap news) (hl : s.heap.IsList l vs.toArray) (hlo : -(2 ^ 63 : Int) ≤ x) (hhi : x < 2 ^ 63) (hsz : vs.length * x.toNat ≤ 2 ^ 24)
    (h : ∀ D h', Fr h₀ L h' m → News h₀ L h' ((D, W.listOf (List.replicate x.toNat vs).flatten.toArray 0) :: news) → (∀ p ∈ news, p.1 < D) → Q (.ref D) { s with heap := h' }) : wpAny (model prog w) A (binaryOp .Mult (.ref l) (.int x u)) Q E s := by
  obtain ⟨⟨cls, d, data, sl⟩, ho, hcl, k, hd⟩ := id hl
  simp only at hcl hd
  subst hcl hd
  have hsz' : vs.toArray.size * x.toNat ≤ 2 ^ 24 := by simpa using hsz
  refine wpAny_binaryOp_repeat_ref (T := "list") (U := "int") (by decide) ⟨_, ho, rfl⟩ (fun s' => typeIs_int s' x u) noFill_list_mul F.fills_int_mul F.slot_int_rmul repeat_list F.slot_int_index.lookup
    (call_meets F.slot_int_rmul (typeIs_int s x u) F.entry_int_rmul (F.args_int_rmul_2 _ _) (lm_int_rmul_list_any x u l vs.toArray k d sl)
      ⟨ho, rfl, ⟨_, ho, rfl⟩, call_meets F.slot_list_mul ⟨_, ho, rfl⟩ F.entry_list_mul (F.args_list_mul_2 _ _)
        (lm_list_mul_any l vs.toArray k d sl x u (by simp [Builtin.List.listFitsIndex]; omega) (by omega) (by simp [Builtin.List.listTooLong, sizeLine]; omega))
        ⟨ho, ?_⟩⟩)
  have N' := News.push Fm N { cls := Value.type "list", data := Data.seq (List.foldl (fun x1 x2 => x1 ++ x2) #[] (List.replicate (if vs.toArray.isEmpty = true then 0 else x.toNat) vs.toArray)) }
  rw [listMul_foldl_if] at N'
  rw [listMul_foldl_if]
  exact h _ _ (Fm.push _) N' (fun p hp => Heap.lt_size (N p hp).1)
end
theorem rep_one (v : Value) (n : Nat) : (List.replicate n [v]).flatten = List.replicate n v := by
  induction n with
  | zero => rfl
  | succ n ih => rw [List.replicate_succ, List.flatten_cons, ih]; rfl
theorem qsum_app (q : V → Int) (a b : List (V × Tok)) : qsum q (a ++ b) = qsum q a + qsum q b := by
  unfold qsum
  rw [List.map_append, List.sum_append]
theorem qsum_rep (q : V → Int) (x : V × Tok) (n : Nat) : qsum q (List.replicate n x) = n * q x.1 := by
  unfold qsum
  rw [List.map_replicate]
  induction n with
  | zero => simp
  | succ n ih => rw [List.replicate_succ, List.sum_cons, ih, Int.natCast_add, Int.add_mul]; omega
end Mine
end
section -- Vl2
open PySem PySem.W PyProof.Rows PySem.Calls PySem.Spec
namespace Mine
theorem slice_drop (vs : List Value) {x : Int} (h : 0 ≤ x) : (slicePick vs.toArray (some x) none none).toList = vs.drop x.toNat := by
  have e : sliceBounds (some x) none none vs.toArray.size = (((min x.toNat vs.toArray.size : Nat) : Int), ((vs.toArray.size : Nat) : Int), 1) := by
    simp only [sliceBounds, Option.getD_none, show (1 : Int) > 0 by decide, if_true, if_neg (show ¬ (x < 0) by omega)]
    congr 1
    omega
  rw [kmk_pick_nat _ e]
  show (vs.drop (min x.toNat vs.toArray.size)).take (vs.toArray.size - min x.toNat vs.toArray.size) = _
  rw [List.size_toArray, kmk_drop_min, List.take_of_length_le (by rw [List.length_drop]; omega)]
/-- the field's values: the first, so many times, and some more -/
abbrev vsAll (x : V) (t : Tok) (r : Int) (vs2 : List (V × Tok)) : List (V × Tok) := List.replicate r.toNat (x, t) ++ vs2
abbrev valL (vs : List (V × Tok)) : List Value := vs.map fun x => x.1.val x.2
theorem vsAll_cat (x : V) (t : Tok) (r : Int) (vs2 : List (V × Tok)) : (List.replicate r.toNat (x.val t)).toArray.toList ++ (valL vs2).toArray.toList = valL (vsAll x t r vs2) := by
  show List.replicate r.toNat (x.val t) ++ valL vs2 = List.map _ (List.replicate r.toNat (x, t) ++ vs2)
  rw [List.map_append, List.map_replicate]
theorem vsAll_drop (x : V) (t : Tok) {r : Int} (h : 0 ≤ r) (vs2 : List (V × Tok)) : (slicePick (valL (vsAll x t r vs2)).toArray (some r) none none).toList = valL vs2 := by
  rw [slice_drop _ h]
  show List.drop r.toNat (List.map _ (List.replicate r.toNat (x, t) ++ vs2)) = _
  rw [List.map_append, List.map_replicate, List.drop_append_of_le_length (by simp), List.drop_of_length_le (by simp)]
  rfl
theorem vsAll_len (x : V) (t : Tok) {r : Int} (h : 0 ≤ r) (vs2 : List (V × Tok)) : ((vsAll x t r vs2).length : Int) = r + vs2.length := by
  rw [List.length_append, List.length_replicate]; omega
theorem vsAll_sum (q : V → Int) (x : V) (t : Tok) {r : Int} (h : 0 ≤ r) (vs2 : List (V × Tok)) : qsum q (vsAll x t r vs2) = r * q x + qsum q vs2 := by
  rw [qsum_app, qsum_rep, Int.toNat_of_nonneg h]
theorem vsAll_ok {ok : V → Prop} {x : V} {t : Tok} {r : Int} {vs2 : List (V × Tok)} (hx : ok x) (h2 : ∀ y ∈ vs2, ok y.1) : ∀ y ∈ vsAll x t r vs2, ok y.1 := by
  intro y hy
  rcases List.mem_append.mp hy with hy | hy
  · rw [(List.mem_replicate.mp hy).2]; exact hx
  · exact h2 y hy
theorem valL_snoc (vs : List (V × Tok)) (x : V) (t : Tok) : valL vs ++ [x.val t] = valL (vs ++ [(x, t)]) := by
  show _ = List.map _ (vs ++ [(x, t)])
  rw [List.map_append]; rfl
theorem psz_bd {k : Int} {v : V} (h : VOk k v) : 0 ≤ psz k v ∧ psz k v ≤ 1000010 := by
  cases v with
  | b x => show (0 : Int) ≤ 1 ∧ (1 : Int) ≤ 1000010; omega
  | i n =>
    simp only [psz]
    have a := vsz_pos (zz n)
    have b := vsz_pos (n % 18446744073709551616)
    repeat' split
    all_goals omega
  | s x =>
    have a := vsz_pos (u8 x).size
    have b := h.2.2
    show 0 ≤ vsz (u8 x).size + (u8 x).size ∧ vsz (u8 x).size + (u8 x).size ≤ 1000010
    omega
  | y x =>
    have a := vsz_pos x.size
    have b := h.2
    show 0 ≤ vsz x.size + x.size ∧ vsz x.size + x.size ≤ 1000010
    omega
theorem qsum_bd {q : V → Int} {c : Int} : ∀ {vs : List (V × Tok)}, (∀ x ∈ vs, 0 ≤ q x.1 ∧ q x.1 ≤ c) → 0 ≤ qsum q vs ∧ qsum q vs ≤ vs.length * c
  | [], _ => by simp [qsum]
  | x :: r, h => by
    have a := qsum_bd (vs := r) fun y hy => h y (.tail _ hy)
    have b := h x (.head _)
    have e : qsum q (x :: r) = q x.1 + qsum q r := by simp [qsum]
    rw [e, List.length_cons, Int.natCast_add, Int.add_mul]
    omega
theorem qsum_line {k : Int} {vs : List (V × Tok)} (h : ∀ x ∈ vs, VOk k x.1) (hl : vs.length ≤ 200) : 0 ≤ qsum (psz k) vs ∧ qsum (psz k) vs ≤ 200002000 := by
  have a := qsum_bd (q := psz k) (c := 1000010) fun x hx => psz_bd (h x hx)
  omega
end Mine
end
section -- Vl3
open PySem PySem.W PyProof.Rows PySem.Calls PySem.Spec
namespace Mine
/-- a value came, the draw's two lists turned -/
def JV (h₀ : Heap) (L : Addr) (m : Str → Option Value) (l d : Addr) (rest : List (Addr × Obj)) (k : Int) (s : Shared) (v : Value) (s' : Shared) : Prop :=
  ∃ x t ol od h' tk, v = V.val x t ∧ VOk k x ∧ DrawO l ol od ∧ s' = { s with heap := h', toks := tk } ∧ Fr h₀ L h' m ∧ News h₀ L h' ((l, ol) :: (d, od) :: rest)
theorem join_v {M : Model} {A : Around} {E : Value → Shared → Prop} {s : Shared} {e : Sem Value} {Q : Value → Shared → Prop} {h₀ : Heap} {L : Addr} {m : Str → Option Value} {l d : Addr} {ol od : Obj} {rest : List (Addr × Obj)} (k : Int)
    (_F : Fr h₀ L s.heap m) (_N : News h₀ L s.heap ((l, ol) :: (d, od) :: rest)) (_D : DrawO l ol od) (h : wpAny M A e (JV h₀ L m l d rest k s) E s)
    (hq : ∀ x t ol od h' tk, VOk k x → DrawO l ol od → Fr h₀ L h' m → News h₀ L h' ((l, ol) :: (d, od) :: rest) → Q (V.val x t) { s with heap := h', toks := tk }) : wpAny M A e Q E s := by
  refine wpAny_mono h (fun v s' hb => ?_) fun _ _ x => x
  obtain ⟨x, t, ol, od, h', tk, rfl, hv, hD, rfl, F', N'⟩ := hb
  exact hq x t ol od h' tk hv hD F' N'
/-- an int came, the ledger as it was -/
def JI (h₀ : Heap) (L : Addr) (m : Str → Option Value) (news : List (Addr × Obj)) (n : Int) (s : Shared) (v : Value) (s' : Shared) : Prop :=
  ∃ t h' tk, v = .int n t ∧ s' = { s with heap := h', toks := tk } ∧ Fr h₀ L h' m ∧ News h₀ L h' news
section
variable {prog : Program} {w : World} {A : Around} {s : Shared} {h₀ : Heap} {L : Addr} {m : Str → Option Value} {env : Env} {elt : Expr} {x : Str} {scope : Scope} {cl : List (Str × Addr)} {S : List (Addr × Obj) → Prop} {P : Nat → Value → Prop} {Fin : List Value → List (Addr × Obj) → Prop}
theorem off3_turn {I C D l d : Addr} {o1 o2 p1 p2 : Obj} {r : List (Addr × Obj)} (h : LCg.Off3 I C D ((l, o1) :: (d, o2) :: r)) : LCg.Off3 I C D ((l, p1) :: (d, p2) :: r) := h
theorem off2_comp {I C D l d : Addr} {o1 o2 oI oC oD : Obj} {r : List (Addr × Obj)} (h : LCg.Off3 I C D ((l, o1) :: (d, o2) :: r)) (O : Off2 l d r) : Off2 l d ((I, oI) :: (C, oC) :: (D, oD) :: r) := by
  obtain ⟨⟨a1, a2, a3⟩, ⟨b1, b2, b3⟩, _⟩ := h
  refine ⟨O.1, ?_, ?_⟩
  · exact List.forall_mem_cons.mpr ⟨Ne.symm a1, List.forall_mem_cons.mpr ⟨Ne.symm a2, List.forall_mem_cons.mpr ⟨Ne.symm a3, O.2.1⟩⟩⟩
  · exact List.forall_mem_cons.mpr ⟨Ne.symm b1, List.forall_mem_cons.mpr ⟨Ne.symm b2, List.forall_mem_cons.mpr ⟨Ne.symm b3, O.2.2⟩⟩⟩
/-- some more values, one a turn -/
theorem compRest_vals {n : Nat} {k : Int} {l d : Addr} {ol od : Obj} {rest : List (Addr × Obj)} (D0 : DrawO l ol od) (O : Off2 l d rest) (hS : ∀ o o', S ((l, o) :: (d, o') :: rest))
    (turn : ∀ ol od v I oI C oC D oD m₂ h tk (E' : Value → Shared → Prop), DrawO l ol od → LCg.NsObj oC m₂ → m₂ x = some v → Fr h₀ L h m → News h₀ L h ((l, ol) :: (d, od) :: (I, oI) :: (C, oC) :: (D, oD) :: rest) → Off2 l d ((I, oI) :: (C, oC) :: (D, oD) :: rest) →
      wpAny (model prog w) A (eval elt (compEnvC scope cl C env)) (JV h₀ L m l d ((I, oI) :: (C, oC) :: (D, oD) :: rest) k { s with heap := h, toks := tk }) E' { s with heap := h, toks := tk })
    (fin : ∀ vs2 ol od, vs2.length = n → (∀ y ∈ vs2, VOk k y.1) → DrawO l ol od → Fin (valL vs2) ((l, ol) :: (d, od) :: rest)) :
    LCg.CompRest prog w A h₀ L m env elt x scope cl s S P Fin n 0 [] ((l, ol) :: (d, od) :: rest) := by
  refine compRest_inv (Inv := fun i ys news' => ∃ ol od vs2, DrawO l ol od ∧ news' = (l, ol) :: (d, od) :: rest ∧ vs2.length = i ∧ ys = valL vs2 ∧ ∀ y ∈ vs2, VOk k y.1) ?_ ?_ _ 0 [] _ (Nat.zero_add _) ⟨ol, od, [], D0, rfl, rfl, rfl, nofun⟩
  · rintro i ys news' _ ⟨ol1, od1, vs2, D1, rfl, hl, rfl, hv⟩ v I oI C oC Da m₂ h tk E' _ hC hx F N off _
    refine wpAny_mono (turn ol1 od1 v I oI C oC Da _ m₂ h tk E' D1 hC hx F (news_rot3 N) (off2_comp off O)) (fun y s₂ hy => ?_) fun _ _ e => e
    obtain ⟨x', t, ol2, od2, h', tk', rfl, hx', D2, rfl, F', N'⟩ := hy
    refine ⟨h', tk', _, rfl, F', cb_drop N' ?_, off3_turn off, hS _ _, ol2, od2, vs2 ++ [(x', t)], D2, rfl, by rw [List.length_append, hl]; rfl, valL_snoc _ _ _, ?_⟩
    · intro p hp
      simp only [List.mem_cons] at hp ⊢
      rcases hp with h | h | h | h | h | h <;> simp [h]
    · intro y hy
      rcases List.mem_append.mp hy with hy | hy
      · exact hv y hy
      · rw [List.mem_singleton.mp hy]; exact hx'
  · rintro ys news' ⟨ol1, od1, vs2, D1, rfl, hl, rfl, hv⟩
    exact fin vs2 ol1 od1 hl hv D1
theorem psz_ints {k : Int} (vs : List (V × Tok)) : (vs.map fun y => psz k y.1).sum = qsum (psz k) vs := rfl
/-- their sizes, one a turn -/
theorem compRest_sizes {k : Int} {ax : Addr} {nn : Nat} {vs2 : List (V × Tok)} {news : List (Addr × Obj)} (hm : (ax, W.listOf (valL vs2).toArray nn) ∈ news) (hv : ∀ y ∈ vs2, VOk k y.1)
    (turn : ∀ y t I oI C oC D oD m₂ h tk (E' : Value → Shared → Prop), VOk k y → LCg.NsObj oC m₂ → m₂ x = some (V.val y t) → Fr h₀ L h m → News h₀ L h ((I, oI) :: (C, oC) :: (D, oD) :: news) →
      wpAny (model prog w) A (eval elt (compEnvC scope cl C env)) (JI h₀ L m ((I, oI) :: (C, oC) :: (D, oD) :: news) (psz k y) { s with heap := h, toks := tk }) E' { s with heap := h, toks := tk })
    (fin : ∀ ys, IntsAre ys (vs2.map fun y => psz k y.1) → Fin ys news) :
    LCg.CompRest prog w A h₀ L m env elt x scope cl s (LCg.SrcAt h₀ ax (valL vs2).toArray) (fun i v => (valL vs2).toArray[i]? = some v) Fin (valL vs2).toArray.size 0 [] news := by
  refine compRest_inv (Inv := fun i ys news' => news' = news ∧ IntsAre ys ((vs2.take i).map fun y => psz k y.1)) ?_ ?_ _ 0 [] _ (Nat.zero_add _) ⟨rfl, .nil⟩
  · rintro i ys news' _ ⟨rfl, hI⟩ v I oI C oC Da m₂ h tk E' hP hC hx F N off _
    have hP' : (vs2.map fun x => x.1.val x.2)[i]? = some v := by simpa using hP
    rw [List.getElem?_map] at hP'
    obtain ⟨⟨y, t⟩, hyt, rfl⟩ := Option.map_eq_some_iff.mp hP'
    have hy := hv (y, t) (List.mem_of_getElem? hyt)
    refine wpAny_mono (turn y t I oI C oC Da _ m₂ h tk E' hy hC hx F N) (fun z s₂ hz => ?_) fun _ _ e => e
    obtain ⟨t', h', tk', rfl, rfl, F', N'⟩ := hz
    refine ⟨h', tk', _, rfl, F', N', off, Or.inr ⟨_, hm, rfl, _, rfl⟩, rfl, ?_⟩
    rw [List.take_add_one, hyt, List.map_append]
    exact intsAre_snoc hI _ _
  · rintro ys news' ⟨rfl, hI⟩
    refine fin ys ?_
    have e : (valL vs2).toArray.size = vs2.length := by simp
    rw [e, List.take_length] at hI
    exact hI
end
end Mine
end
section -- group D
open PySem PySem.W PyProof.Rows PySem.Calls PySem.Spec
namespace Mine
local macro_rules | `(tactic| walk_at "eval Call") => `(tactic| (k_here; (with_reducible show wpAny _ _ (eval (Expr.Call (Expr.Name _ _) _ _ _) _) _ _ _); (fail_if_success (with_reducible show wpAny _ _ _ (fun y s => SeqLeaf (Carried y _ ∧ Keeps _ s)) _ _)); k_dflt (refine Call_ ?_)))
local macro_rules | `(tactic| walk_at "exec If") => `(tactic| (k_here; with_reducible refine wpAny_If ?_))
local macro_rules | `(tactic| walk_at "isTrue Compare") => `(tactic| (k_here; with_reducible refine wpAny_isTrue_Compare1 ?_))
local macro_rules | `(tactic| walk_at "ite") => `(tactic| first | with_reducible refine ite_tt ?_ | with_reducible refine ite_ff ?_)
local macro_rules | `(tactic| walk_at "eval BinOp") => `(tactic| (k_here; (fail_if_success (with_reducible show wpAny _ _ _ (fun y s => SeqLeaf (Carried y _ ∧ Keeps _ s)) _ _)); refine wpAny_BinOp ?_))
local macro_rules | `(tactic| walk_at "eval Name") => `(tactic| (k_here; (name_kind "globalImplicit"); k_dflt (refine' nameX_K ?F ?X ?T ?e ?_ ?a ?b; (case F => k_asm); (case X => k_asm); (case T => k_asm); (case a => rfl); (case b => rfl); (case e => k_is); k_whole)))
local macro_rules | `(tactic| walk_at "eval Name") => `(tactic| (k_here; (name_kind "local"); k_dflt (refine' nameX_L ?F ?v ?_ ?a ?b; (case F => k_asm); (case a => rfl); (case b => rfl); (case v => rfl); k_whole)))
local macro_rules | `(tactic| walk_at "exec Assign") => `(tactic| (k_here; (with_reducible show wpAny _ _ (exec (Stmt.Assign [Expr.Name _ _] _ _) _) _ _ _); k_dflt (refine wpAny_Assign_Name ?_)))
local macro_rules | `(tactic| walk_at "storeName") => `(tactic| (k_here; k_dflt (refine' storeX_L ?F ?N ?_ ?a ?b; (case F => k_asm); (case N => k_asm); (case a => rfl); (case b => rfl); k_whole; intro h' F' N'; (try k_sweep))))
local macro_rules | `(tactic| walk_at "exec If") => `(tactic| (k_here; (with_reducible show wpAny _ _ (exec (Stmt.If (Expr.BoolOp _ _ _) _ _ _) _) _ _ _); k_dflt (refine $(Lean.mkIdent `Mine.HaltAt.go) 20 ?_)))
local macro_rules | `(tactic| walk_at "eval IfExp") => `(tactic| (k_here; k_dflt (refine $(Lean.mkIdent `Mine.HaltAt.go) 21 ?_)))
local macro_rules | `(tactic| walk_at "call ref") => `(tactic| (k_here; (with_reducible show wpAny _ _ (call (Value.ref _) [Value.ref _]) _ _ _); k_dflt (refine $(Lean.mkIdent `Mine.HaltAt.go) 12 ?_)))
local macro_rules | `(tactic| walk_at "call ref") => `(tactic| (k_here; (with_reducible show wpAny _ _ (call (Value.ref 354) _) _ _ _); k_dflt (refine $(Lean.mkIdent `Mine.HaltAt.go) 354 ?_)))
local macro_rules | `(tactic| walk_at "call ref") => `(tactic| (k_here; (with_reducible show wpAny _ _ (call (Value.ref 375) _) _ _ _); k_dflt (refine $(Lean.mkIdent `Mine.HaltAt.go) 375 ?_)))
local macro_rules | `(tactic| walk_at "call ref") => `(tactic| (k_here; (with_reducible show wpAny _ _ (call (Value.ref 392) _) _ _ _); k_dflt (refine $(Lean.mkIdent `Mine.HaltAt.go) 392 ?_)))
local macro_rules | `(tactic| walk_at "call ref") => `(tactic| (k_here; (with_reducible show wpAny _ _ (call (Value.ref 368) _) _ _ _); k_dflt (refine $(Lean.mkIdent `Mine.HaltAt.go) 368 ?_)))
local macro_rules | `(tactic| walk_at "call ref") => `(tactic| (k_here; (with_reducible show wpAny _ _ (call (Value.ref 380) _) _ _ _); k_dflt (refine $(Lean.mkIdent `Mine.HaltAt.go) 380 ?_)))
local macro_rules | `(tactic| walk_at "call ref") => `(tactic| (k_here; (with_reducible show wpAny _ _ (call (Value.ref 406) _) _ _ _); k_dflt (refine $(Lean.mkIdent `Mine.HaltAt.go) 406 ?_)))
local macro_rules | `(tactic| walk_at "call ref") => `(tactic| (k_here; (with_reducible show wpAny _ _ (call (Value.ref 399) _) _ _ _); k_dflt (refine $(Lean.mkIdent `Mine.HaltAt.go) 399 ?_)))
local macro_rules | `(tactic| walk_at "call ref") => `(tactic| (k_here; (with_reducible show wpAny _ _ (call (Value.ref 349) _) _ _ _); k_dflt (refine $(Lean.mkIdent `Mine.HaltAt.go) 349 ?_)))
local macro_rules | `(tactic| walk_at "call ref") => `(tactic| (k_here; (with_reducible show wpAny _ _ (call (Value.ref 413) _) _ _ _); k_dflt (refine $(Lean.mkIdent `Mine.HaltAt.go) 413 ?_)))
local macro_rules | `(tactic| walk_at "subscriptTail") => `(tactic| (k_here; k_dflt (refine $(Lean.mkIdent `Mine.HaltAt.go) 1 ?_)))
local macro_rules | `(tactic| walk_at "call ref") => `(tactic| (k_here; (with_reducible show wpAny _ _ (call (Value.ref _) [V.val _ _]) _ _ _); k_dflt (refine $(Lean.mkIdent `Mine.HaltAt.go) 7 ?_)))
local macro_rules | `(tactic| walk_at "callWith ref") => `(tactic| (k_here; k_dflt (refine' callWith_F ?k1 ?_; (case k1 => exact $(Lean.mkIdent `Mine.FnIn.at) (by with_reducible assumption) (by k_asm)); k_whole)))
local macro_rules | `(tactic| walk_at "FnAt") => `(tactic| (k_dflt (exact $(Lean.mkIdent `Mine.FnIn.at) (by with_reducible assumption) (by k_asm))))
local macro_rules | `(tactic| walk_at "callWith ref") => `(tactic| (k_here; (with_reducible show wpAny _ _ (callWith _ (Value.ref 375) _ _ _) _ _ _); k_dflt (refine' callWith_F0 ?k1 ?_; (case k1 => exact $(Lean.mkIdent `Mine.fnAt_of) ($(Lean.mkIdent `Mine.fnk_of) (w := by assumption) (by kernel_rfl)) (by k_asm) (by k_asm)); k_whole; (try dsimp only [List.nil_append]))))
local macro_rules | `(tactic| walk_at "GrownAll") => `(tactic| (k_dflt (exact $(Lean.mkIdent `Mine.grown_of) (by k_asm) (by with_reducible assumption))))
local macro_rules | `(tactic| walk_at "binaryOp Mult ref int") => `(tactic| (k_here; k_dflt (refine $(Lean.mkIdent `Mine.HaltAt.go) 8 ?_)))
local macro_rules | `(tactic| walk_at "binaryOp Add ref ref") => `(tactic| (k_here; k_dflt (refine $(Lean.mkIdent `Mine.HaltAt.go) 9 ?_)))
local macro_rules | `(tactic| walk_at "eval ListComp") => `(tactic| (k_here; k_dflt (refine LCg.ListComp_U (F₀ := by k_asm) (by with_unfolding_all rfl) (by decide) (by rfl) (by decide) (by rfl) ?_)))
local macro_rules | `(tactic| walk_at "subscriptTail Name Slice ref ref") => `(tactic| (k_here; k_dflt (refine $(Lean.mkIdent `Mine.HaltAt.go) 2 ?_)))
local macro_rules | `(tactic| walk_at "compareOp NotEq int int") => `(tactic| (k_here; k_dflt (refine $(Lean.mkIdent `Mine.ne_no) (by with_reducible assumption) ?_)))
local macro_rules | `(tactic| walk_at "compareOp Eq int int") => `(tactic| (k_here; k_dflt (refine $(Lean.mkIdent `Mine.eq_yes) (by with_reducible assumption) ?_)))
local macro_rules | `(tactic| walk_at "call builtin:len") => `(tactic| (k_here; (with_reducible show wpAny _ _ (call (Value.builtin "len") [Value.ref _]) _ _ _); k_dflt (refine' $(Lean.mkIdent `Mine.len_vals) ?k1 ?k2 ?k3 ?_; (case k1 => k_asm); (case k2 => k_mem); (case k3 => assumption); k_whole)))
local macro_rules | `(tactic| walk_at "call builtin:sum") => `(tactic| (k_here; k_dflt (refine $(Lean.mkIdent `Mine.HaltAt.go) 11 ?_)))
local macro_rules | `(tactic| walk_at "CompSrc") => `(tactic| (k_here; k_dflt (refine $(Lean.mkIdent `Mine.HaltAt.go) 10 ?_)))
local macro_rules | `(tactic| walk_at "call ref") => `(tactic| (k_here; (with_reducible show wpAny _ _ (call (Value.ref 361) _) _ _ _); k_dflt (refine $(Lean.mkIdent `Mine.HaltAt.go) 361 ?_)))
local macro_rules | `(tactic| walk_at "callWith ref") => `(tactic| (k_here; k_dflt (refine' callWith_K ?k1 ?k2 ?_; (case k1 => k_asm); (case k2 => k_is); k_whole)))
section -- LawF

section
variable {w : World} {h₀ h : Heap} {L : Addr} {X Y n1 n2 : List (Addr × Obj)}
theorem news_swap (N : News h₀ L h (X ++ Y)) : News h₀ L h (Y ++ X) := fun p hp => N p ((List.mem_append.mp hp).elim (List.mem_append_right _) (List.mem_append_left _))
theorem news_left (N : News h₀ L h (X ++ Y)) : News h₀ L h X := fun p hp => N p (List.mem_append_left _ hp)
theorem news_right (N : News h₀ L h (X ++ Y)) : News h₀ L h Y := fun p hp => N p (List.mem_append_right _ hp)
theorem news_mv2 {a b c e : Addr × Obj} {r : List (Addr × Obj)} (N : News h₀ L h (a :: b :: c :: e :: r)) : News h₀ L h (c :: e :: a :: r) := cb_drop N (by simp; grind)
theorem news_a10 {a b c e f : Addr × Obj} {r : List (Addr × Obj)} (N : News h₀ L h (a :: b :: c :: e :: f :: r)) : News h₀ L h (a :: r) := cb_drop N (by simp; grind)
theorem news_vals {a : Addr} {nn : Nat} {vs : List (V × Tok)} {r : List (Addr × Obj)} (N : News h₀ L h ((a, W.listOf (valL vs).toArray nn) :: r)) : News h₀ L h ((a, W.listOf (valsOf vs) nn) :: r) := N
theorem news_drop2 {a b : Addr × Obj} {r : List (Addr × Obj)} (N : News h₀ L h (a :: b :: r)) : News h₀ L h r := cb_drop N (by simp; grind)
theorem news_nil {a : Addr} {r : List (Addr × Obj)} (N : News h₀ L h ((a, W.listOf #[] 0) :: r)) : News h₀ L h ((a, W.listOf (valsOf []) 0) :: r) := N
theorem news_tl {a : Addr × Obj} {r : List (Addr × Obj)} (N : News h₀ L h (a :: r)) : News h₀ L h r := fun p hp => N p (List.mem_cons_of_mem _ hp)
theorem TabsIn.mono (x : TabsIn n1) (hs : ∀ p ∈ n1, p ∈ n2) : TabsIn n2 := fun P hP => let ⟨ps, e⟩ := x P hP; ⟨ps, hs _ e⟩
theorem grown_of (N : News h₀ L h n1) (x : TabsIn n1) : GrownAll [(318, 314), (311, 307), (304, 300), (297, 293), (206, 202), (199, 195), (192, 188)] h := by
  have a (P : Addr) (hP : P ∈ P7) : GrownAt P h := let ⟨ps, e⟩ := x P hP; GrownAt.of N e
  exact ⟨a 314 (by decide), a 307 (by decide), a 300 (by decide), a 293 (by decide), a 202 (by decide), a 195 (by decide), a 188 (by decide), trivial⟩
end
theorem csl_use {w : World} {f sl : Addr} {args vs : List Value} {news : List (Addr × Obj)} {dN uN : Nat} {R : Value → List (Addr × Obj) → Prop} (C : CSpecL w f args sl vs news dN uN R)
    {p : Program} {loose : List Str} {mean : ExcName → Option Value} {mg mb : Str → Option Value} {dp un : Nat} {gd : Option (List Code)} {cn : Str} {cs : Scope} {a : Addr} {ccd : Value} {cl : List (Str × Addr)} {outer : List Env} {A₀ : Around} {base h₀ : Heap} {L : Addr} {m : Str → Option Value} {s : Shared} {Q E : Value → Shared → Prop}
    (hl : base.IsList sl vs.toArray) (B : Below A₀ base outer h₀) (F : Fr h₀ L s.heap m) (X : (Mine.hd.heap_39 w.params).In h₀) (N : News h₀ L s.heap news) (T : Top p loose mean mg mb h₀) (hk : cs.kind = .function)
    (hd : dp + dN < recursionLimit) (hu : un + uN < cLine)
    (ret : ∀ v h' tk' news', R v news' → Fr h₀ L h' m → News h₀ L h' news' → Q v { s with heap := h', toks := tk' }) :
    wpAny (model PySem.Challenge.rw_ae6019_01.row.prog w) (ktrTop dp un gd cn cs L a ccd cl outer) (call (.ref f) args) Q E s :=
  C _ _ _ _ _ _ _ _ _ _ _ _ _ _ _ _ _ _ _ _ _ _ hl B F X N T hk hd hu ret
theorem pre_off {pre : List (Addr × Obj)} (h : ∀ p ∈ pre, 314 < p.1) : ∀ p ∈ pre, ∀ P ∈ P7, p.1 ≠ P := by
  intro p hp P hP
  have h1 := h p hp
  have h2 : @LE.le Nat _ P 314 := by
    simp only [P7, List.mem_cons, List.not_mem_nil, or_false] at hP
    rcases hP with rfl | rfl | rfl | rfl | rfl | rfl | rfl <;> decide
  exact Nat.ne_of_gt (Nat.lt_of_le_of_lt h2 h1)
theorem mem5 {n X Tb : List (Addr × Obj)} {a b c d e : Addr × Obj} (h : n = X ++ ([a, b, c, d, e] ++ Tb)) : a ∈ n ∧ b ∈ n ∧ c ∈ n ∧ d ∈ n ∧ e ∈ n := by
  subst h
  simp
theorem mem4 {n X Tb : List (Addr × Obj)} {a b c d : Addr × Obj} (h : n = X ++ ([a, b, c, d] ++ Tb)) : a ∈ n ∧ b ∈ n ∧ c ∈ n ∧ d ∈ n := by
  subst h
  simp
theorem vsz_empty (k T : Int) : qsum (psz k) [] + vsz (qsum (psz k) []) + T = T + 1 := by
  have e : qsum (psz k) [] = 0 := rfl
  have e2 : vsz 0 = 1 := vsz_small (by omega)
  rw [e, e2]; omega
theorem sum_is {prog : Program} {w : World} {A : Around} {E : Value → Shared → Prop} {s : Shared} {h₀ : Heap} {L : Addr} {m : Str → Option Value} {news : List (Addr × Obj)} {l : Addr} {vs : List Value} {ns : List Int} {n : Int} {Q : Value → Shared → Prop} (hh : A.handled = none) (F : Fr h₀ L s.heap m) (N : News h₀ L s.heap news) (hl : s.heap.IsList l vs.toArray) (hi : IntsAre vs ns) (e : ns.sum = n)
    (h : ∀ h' tk t', Fr h₀ L h' m → News h₀ L h' news → Q (.int n t') { s with heap := h', toks := tk }) :
    wpAny (model prog w) A (call (.builtin "sum") [.ref l]) Q E s := sumK hh F N hl hi (by rw [e]; exact h)
theorem ne_no {prog : Program} {w : World} {A : Around} {E : Value → Shared → Prop} {s : Shared} {a b : Int} {t u : Tok} {Q : Value → Shared → Prop} (h : a = b) (hq : Q (.bool false) s) : wpAny (model prog w) A (compareOp .NotEq (.int a t) (.int b u)) Q E s :=
  ne_int (by rw [bne_eq_false_iff_eq.mpr h]; exact hq)
theorem off_mk {l d : Addr} {rest : List (Addr × Obj)} (h : l ≠ d) (h1 : ∀ p ∈ rest, p.1 ≠ l) (h2 : ∀ p ∈ rest, p.1 ≠ d) : Off2 l d rest := ⟨h, h1, h2⟩
def HaltAt (_n : Nat) (P : Prop) : Prop := P
theorem HaltAt.go {P : Prop} (n : Nat) (h : HaltAt n P) : P := h
theorem HaltAt.out {P : Prop} {n : Nat} (h : P) : HaltAt n P := h
def JB (m w : Int) (s : Shared) (b : Bool) (s' : Shared) : Prop := (∃ tk, s' = { s with toks := tk }) ∧ if b then (m = 0 ∨ m = 2 ∧ w = 2) else (m ≠ 0 ∧ (m = 2 → w ≠ 2))
theorem JB.t {m w : Int} {s : Shared} {tk : Nat} (h : m = 0 ∨ m = 2 ∧ w = 2) : JB m w s true { s with toks := tk } := ⟨⟨_, rfl⟩, h⟩
theorem JB.f {m w : Int} {s : Shared} {tk : Nat} (h1 : m ≠ 0) (h2 : m = 2 → w ≠ 2) : JB m w s false { s with toks := tk } := ⟨⟨_, rfl⟩, h1, h2⟩
theorem join_b {M : Model} {A : Around} {E : Value → Shared → Prop} {s : Shared} {e : Sem Bool} {Q : Bool → Shared → Prop} (m w : Int) (h : wpAny M A e (JB m w s) E s) (h1 : ∀ tk, (m = 0 ∨ m = 2 ∧ w = 2) → Q true { s with toks := tk }) (h2 : ∀ tk, m ≠ 0 → (m = 2 → w ≠ 2) → Q false { s with toks := tk }) : wpAny M A e Q E s := by
  refine wpAny_mono h (fun b s' hb => ?_) fun _ _ x => x
  obtain ⟨⟨tk, rfl⟩, hb⟩ := hb
  cases b with
  | true => exact h1 tk hb
  | false => exact h2 tk hb.1 hb.2

local macro_rules | `(tactic| k_mem) => `(tactic| with_reducible assumption)
local macro_rules | `(tactic| k_all) => `(tactic| first | with_reducible assumption | exact List.forall_mem_nil _ | (refine' List.forall_mem_cons.mpr ⟨?aa, ?bb⟩; (case aa => k_ne); (case bb => k_all)))

set_option maxHeartbeats 8000000 in
theorem law_holds : PySem.Challenge.rw_ae6019_01.Holds := Mine.hd (by
  w_top off
  k_go0
  all_goals (try k_fold)
  k_steps
  refine HaltAt.out ?_
  refine' csl_use (c_draw _ _ _ _ ?ki ?kl _) ?kb ?k1 ?k2 ?k3 ?k4 ?k5 ?kK ?kd ?ku ?_
  case kb => assumption
  case ki => assumption
  case kl => omega
  case k1 => k_asm
  case k2 => k_asm
  case k3 => k_asm
  case k4 => k_asm
  case k5 => k_asm
  case kK => first | exact rfl | assumption
  case kd => ktr_room
  case ku => ktr_units
  intro v9 h9 tk9 n9 hR9 F9 N9
  obtain ⟨l, d, ol, od, rfl, hD, hne, hl, hd, rfl⟩ := hR9
  have hne' := neN hne
  k_lt hl
  k_lt hd
  try dsimp only
  try k_fold
  k_steps
  refine HaltAt.out ?_
  refine' cs_use (c_kinds _ _) ?k1 ?k2 ?k3 ?k4 ?k5 ?kK ?kd ?ku ?_
  case k1 => k_asm
  case k2 => k_asm
  case k3 => k_asm
  case k4 => k_asm
  case k5 => k_asm
  case kK => first | exact rfl | assumption
  case kd => ktr_room
  case ku => ktr_units
  intro v9 h9 tk9 n9 hR9 F9 N9
  obtain ⟨K1, XX, ks, nn, rfl, hX, hK1, hklen, hkat, rfl⟩ := hR9
  have hXx (b : Nat) (hb : ∀ p ∈ XX, @LT.lt Nat _ b p.1) : ∀ p ∈ XX, p.1 ≠ b := fun p hp => Nat.ne_of_gt (hb p hp)
  have hXl := hXx l fun p hp => (hX p hp).1
  have hXd := hXx d fun p hp => (hX p hp).2.1
  have hX3 := hXx _ fun p hp => (hX p hp).2.2.1
  have hX2 := hXx _ fun p hp => (hX p hp).2.2.2.1
  have hX1 := hXx _ fun p hp => (hX p hp).2.2.2.2.1
  clear hXx
  replace N9 := news_swap N9
  simp only [List.cons_append, List.nil_append] at N9
  try dsimp only
  try k_fold
  k_steps
  refine HaltAt.out ?_
  refine' cs_use (c_take _ _ _ _ _ _ ?kD ?kO _ _ ?kP) ?k1 ?k2 ?k3 ?k4 ?k5 ?kK ?kd ?ku ?_
  case k4 => k_asm
  case k1 => k_asm
  case k2 => k_asm
  case k3 => k_asm
  case k5 => k_asm
  case kK => first | exact rfl | assumption
  case kd => ktr_room
  case ku => ktr_units
  case kD => assumption
  case kP => first | decide | omega
  case kO => exact off_mk (by with_reducible assumption) (by k_all) (by k_all)
  intro v9 h9 tk9 n9 hR9 F9 N9
  obtain ⟨r1, t1, ol1, od1, rfl, hr1, hs1, hD1, rfl⟩ := hR9
  try dsimp only
  try k_fold
  obtain ⟨a1, k, wi, bi, u1, u2, u3, ea, hma, hKO⟩ := hkat r1.toNat _ (List.getElem?_eq_getElem (by omega))
  refine' item_at ?kl hr1 (by omega) ?kx ?_
  case kl => exact News.isList (by k_asm) (.tail _ (.tail _ (.tail _ (.tail _ (.tail _ (.tail _ (.tail _ (.tail _ (.tail _ (.tail _ (.tail _ (.tail _ hK1))))))))))))
  case kx => exact (List.getElem?_eq_getElem (by omega)).trans (congrArg some ea)
  k_unfold
  try dsimp only
  refine' unpackN_ ?F ?N ?T ?k1 ?k2 ?k3 ?_
  case F => k_asm
  case N => k_asm
  case T => exact News.isTup (by k_asm) (.tail _ (.tail _ (.tail _ (.tail _ (.tail _ (.tail _ (.tail _ (.tail _ (.tail _ (.tail _ (.tail _ (.tail _ hma))))))))))))
  case k1 => exact rfl
  case k2 => exact rfl
  case k3 => exact rfl
  intro h2 F2 N2
  replace N2 := news_left (X := [_, _, _, _, _, _, _, _, _, _, _, _]) N2
  clear hkat ea hK1 hma hX hXl hXd hX3 hX2 hX1 N9
  try k_fold
  k_steps
  refine HaltAt.out ?_
  refine' cs_use (c_num _ _ _ _ _ _ ?kD ?kO) ?k1 ?k2 ?k3 ?k4 ?k5 ?kK ?kd ?ku ?_
  case k4 => k_asm
  case k1 => k_asm
  case k2 => k_asm
  case k3 => k_asm
  case k5 => k_asm
  case kK => first | exact rfl | assumption
  case kd => ktr_room
  case ku => ktr_units

  case kD => assumption
  case kO => exact off_mk (by with_reducible assumption) (by k_all) (by k_all)
  intro v9 h9 tk9 n9 hR9 F9 N9
  obtain ⟨n, tn, ol2, od2, rfl, hn1, hn2, hD2, rfl⟩ := hR9
  try dsimp only
  try k_fold
  k_steps
  refine HaltAt.out ?_
  refine' cs_use (c_varint _ _ (8 * n) _ ?kv0 ?kv1) ?k1 ?k2 ?k3 ?k4 ?k5 ?kK ?kd ?ku ?_
  case k4 => k_asm
  case k1 => k_asm
  case k2 => k_asm
  case k3 => k_asm
  case k5 => k_asm
  case kK => first | exact rfl | assumption
  case kd => ktr_room
  case ku => ktr_units

  case kv0 => omega
  case kv1 => omega
  intro v9 h9 tk9 n9 hR9 F9 N9
  obtain ⟨⟨a9, t9, rfl, hs9⟩, rfl⟩ := hR9
  have hb9 := sz_le hs9
  have htag : tsz n = (a9.size : Int) := hs9.symm
  try dsimp only
  try k_fold
  k_steps
  refine HaltAt.out ?_
  refine' cs_use (c_take _ _ _ _ _ _ ?kD ?kO _ _ ?kP) ?k1 ?k2 ?k3 ?k4 ?k5 ?kK ?kd ?ku ?_
  case k4 => k_asm
  case k1 => k_asm
  case k2 => k_asm
  case k3 => k_asm
  case k5 => k_asm
  case kK => first | exact rfl | assumption
  case kd => ktr_room
  case ku => ktr_units
  case kD => assumption
  case kP => first | decide | omega
  case kO => exact off_mk (by with_reducible assumption) (by k_all) (by k_all)
  intro v9 h9 tk9 n9 hR9 F9 N9
  obtain ⟨r3, t3, ol3, od3, rfl, hr3, hs3, hD3, rfl⟩ := hR9
  try dsimp only
  try k_fold
  k_steps
  refine HaltAt.out ?_
  refine wpAny_If ?_
  refine join_b r3 wi ?_ ?_ ?_
  · k_steps
    all_goals (first | exact JB.t (by omega) | exact JB.f (by omega) (by omega))
  · intro tk' hmode
    simp only [if_true]
    k_steps
    refine HaltAt.out ?_
    refine' join_v k ?F ?N ?D ?_ ?_
    case F => k_asm
    case N => k_asm
    case D => assumption
    · refine IfExp_ ?_
      k_steps
      ·
        refine HaltAt.out ?_
        refine' cs_use (c_take _ _ _ _ _ _ ?kD ?kO _ _ ?kP) ?k1 ?k2 ?k3 ?k4 ?k5 ?kK ?kd ?ku ?_
        case k4 => k_asm
        case k1 => k_asm
        case k2 => k_asm
        case k3 => k_asm
        case k5 => k_asm
        case kK => first | exact rfl | assumption
        case kd => ktr_room
        case ku => ktr_units
        case kD => assumption
        case kP => first | decide | omega
        case kO => exact off_mk (by with_reducible assumption) (by k_all) (by k_all)
        intro v9 h9 tk9 n9 hR9 F9 N9
        obtain ⟨r5, t5, ol5, od5, rfl, hr5, hs5, hD5, rfl⟩ := hR9
        try dsimp only
        try k_fold
        k_steps
        ·
          refine HaltAt.out ?_
          refine' cs_use (c_long _ _ _ _ _ _ ?kD ?kO _ _ _ _ ?kQ ?kW) ?k1 ?k2 ?k3 ?k4 ?k5 ?kK ?kd ?ku ?_
          case k4 => k_asm
          case k1 => k_asm
          case k2 => k_asm
          case k3 => k_asm
          case k5 => k_asm
          case kK => first | exact rfl | assumption
          case kd => ktr_room
          case ku => ktr_units
          case kD => assumption
          case kO => exact off_mk (by with_reducible assumption) (by k_all) (by k_all)
          case kQ => exact hKO
          case kW => omega
          intro v9 h9 tk9 n9 hR9 F9 N9
          obtain ⟨x, tx, ol4, od4, rfl, hx, hD4, rfl⟩ := hR9
          try dsimp only
          try k_fold
          exact ⟨_, _, _, _, _, _, rfl, hx, hD4, rfl, by k_asm, by k_asm⟩
        ·
          refine HaltAt.out ?_
          refine' cs_use (c_value _ _ _ _ _ _ ?kD ?kO _ _ _ _ _ ?kQ) ?k1 ?k2 ?k3 ?k4 ?k5 ?kK ?kd ?ku ?_
          case k4 => k_asm
          case k1 => k_asm
          case k2 => k_asm
          case k3 => k_asm
          case k5 => k_asm
          case kK => first | exact rfl | assumption
          case kd => ktr_room
          case ku => ktr_units
          case kD => assumption
          case kO => exact off_mk (by with_reducible assumption) (by k_all) (by k_all)
          case kQ => exact hKO
          intro v9 h9 tk9 n9 hR9 F9 N9
          obtain ⟨x, tx, ol4, od4, rfl, hx, hD4, rfl⟩ := hR9
          try dsimp only
          try k_fold
          exact ⟨_, _, _, _, _, _, rfl, hx, hD4, rfl, by k_asm, by k_asm⟩
      ·
        refine HaltAt.out ?_
        refine' cs_use (c_value _ _ _ _ _ _ ?kD ?kO _ _ _ _ _ ?kQ) ?k1 ?k2 ?k3 ?k4 ?k5 ?kK ?kd ?ku ?_
        case k4 => k_asm
        case k1 => k_asm
        case k2 => k_asm
        case k3 => k_asm
        case k5 => k_asm
        case kK => first | exact rfl | assumption
        case kd => ktr_room
        case ku => ktr_units
        case kD => assumption
        case kO => exact off_mk (by with_reducible assumption) (by k_all) (by k_all)
        case kQ => exact hKO
        intro v9 h9 tk9 n9 hR9 F9 N9
        obtain ⟨x, tx, ol4, od4, rfl, hx, hD4, rfl⟩ := hR9
        try dsimp only
        try k_fold
        exact ⟨_, _, _, _, _, _, rfl, hx, hD4, rfl, by k_asm, by k_asm⟩
    intro x tx ol4 od4 h4 tk4 hx hD4 F4 N4
    try dsimp only
    try k_fold
    k_steps
    refine HaltAt.out ?_
    refine' cs_use (c_size _ _ _ _ _ _ hx) ?k1 ?k2 ?k3 ?k4 ?k5 ?kK ?kd ?ku ?_
    case k4 => k_asm
    case k1 => k_asm
    case k2 => k_asm
    case k3 => k_asm
    case k5 => k_asm
    case kK => first | exact rfl | assumption
    case kd => ktr_room
    case ku => ktr_units
    intro v9 h9 tk9 n9 hR9 F9 N9
    obtain ⟨⟨t8, rfl⟩, rfl⟩ := hR9
    try dsimp only
    try k_fold
    k_steps
    refine HaltAt.out ?_
    refine' cs_use (c_sizer _ [_, _, _, _, _] _ _ _ _ _ _ _ _ ?kn0 ?kn1 hKO ?kp ?kq) ?k1 ?k2 ?k3 ?k4 ?k5 ?kK ?kd ?ku ?_
    case k4 => k_asm
    case k1 => k_asm
    case k2 => k_asm
    case k3 => k_asm
    case k5 => k_asm
    case kK => first | exact rfl | assumption
    case kd => ktr_room
    case ku => ktr_units
    case kn0 => omega
    case kn1 => omega
    case kp => exact nofun
    case kq =>
      refine pre_off ?_
      repeat' (first | exact List.forall_mem_nil _ | refine List.forall_mem_cons.mpr ⟨?_, ?_⟩)
      all_goals (refine ltN ?_; (try dsimp only); omega)
    intro v9 h9 tk9 n9 hR9 F9 N9
    obtain ⟨f, XS, Tb, rfl, hnw, hTb, hf, hOk⟩ := hR9
    have hTT : TabsIn n9 := by rw [hnw]; exact hTb.mono fun p hp => List.mem_append_right _ (List.mem_append_right _ hp)
    obtain ⟨q1, q2, q3, q4, q5⟩ := mem5 hnw
    clear hnw hTb
    replace hOk := (hOk _ fun _ h => h).1.1 rfl rfl
    try dsimp only
    try k_fold
    k_steps
    refine HaltAt.out ?_
    refine' cs_use (hOk _ _ hx) ?k1 ?k2 ?k3 ?k4 ?k5 ?kK ?kd ?ku ?_
    case k4 => k_asm
    case k1 => k_asm
    case k2 => k_asm
    case k3 => k_asm
    case k5 => k_asm
    case kK => first | exact rfl | assumption
    case kd => ktr_room
    case ku => ktr_units
    intro v9 h9 tk9 n9 hR9 F9 N9
    obtain ⟨⟨t8, rfl⟩, rfl⟩ := hR9
    try dsimp only
    try k_fold
    k_steps
    refine HaltAt.out ?_
    refine' cs_use (c_told _ _ _ _ _ _ _ _ ?kn0 ?kn1 hx) ?k1 ?k2 ?k3 ?k4 ?k5 ?kK ?kd ?ku ?_
    case k4 => k_asm
    case k1 => k_asm
    case k2 => k_asm
    case k3 => k_asm
    case k5 => k_asm
    case kK => first | exact rfl | assumption
    case kd => ktr_room
    case ku => ktr_units
    case kn0 => omega
    case kn1 => omega
    intro v9 h9 tk9 n9 hR9 F9 N9
    obtain ⟨⟨t8, rfl⟩, rfl⟩ := hR9
    try dsimp only
    try k_fold
    k_steps
  · intro tk' hm0 hm2
    simp only [Bool.false_eq_true, if_false]
    k_steps
    refine HaltAt.out ?_
    refine' cs_use (c_value _ _ _ _ _ _ ?kD ?kO _ _ _ _ _ ?kQ) ?k1 ?k2 ?k3 ?k4 ?k5 ?kK ?kd ?ku ?_
    case k4 => k_asm
    case k1 => k_asm
    case k2 => k_asm
    case k3 => k_asm
    case k5 => k_asm
    case kK => first | exact rfl | assumption
    case kd => ktr_room
    case ku => ktr_units
    case kD => assumption
    case kO => exact off_mk (by with_reducible assumption) (by k_all) (by k_all)
    case kQ => exact hKO
    intro v9 h9 tk9 n9 hR9 F9 N9
    obtain ⟨x, tx, ol4, od4, rfl, hx, hD4, rfl⟩ := hR9
    try dsimp only
    try k_fold
    k_steps
    refine HaltAt.out ?_
    refine' cs_use (c_take _ _ _ _ _ _ ?kD ?kO _ _ ?kP) ?k1 ?k2 ?k3 ?k4 ?k5 ?kK ?kd ?ku ?_
    case k4 => k_asm
    case k1 => k_asm
    case k2 => k_asm
    case k3 => k_asm
    case k5 => k_asm
    case kK => first | exact rfl | assumption
    case kd => ktr_room
    case ku => ktr_units
    case kD => assumption
    case kP => first | decide | omega
    case kO => exact off_mk (by with_reducible assumption) (by k_all) (by k_all)
    intro v9 h9 tk9 n9 hR9 F9 N9
    obtain ⟨r6, t6, ol6, od6, rfl, hr6, hs6, hD6, rfl⟩ := hR9
    try dsimp only
    try k_fold
    k_steps
    refine HaltAt.out ?_
    refine' mul_any (vs := [V.val x tx]) ?F ?N ?kl ?k0 ?k1 ?kz ?_
    case F => k_asm
    case N => k_asm
    case kl => exact News.isList (by k_asm) (.head _)
    case k0 => omega
    case k1 => omega
    case kz => simp only [List.length_cons, List.length_nil]; omega
    intro l5 h5 F5 N5 a5
    rw [rep_one] at N5
    k_lt a5
    replace N5 := news_mv2 N5
    try dsimp only
    try k_fold
    walk1
    refine Call_ ?_
    k_steps
    refine HaltAt.out ?_
    refine' cs_use (c_take _ _ _ _ _ _ ?kD ?kO _ _ ?kP) ?k1 ?k2 ?k3 ?k4 ?k5 ?kK ?kd ?ku ?_
    case k4 => k_asm
    case k1 => k_asm
    case k2 => k_asm
    case k3 => k_asm
    case k5 => k_asm
    case kK => first | exact rfl | assumption
    case kd => ktr_room
    case ku => ktr_units
    case kD => assumption
    case kP => first | decide | omega
    case kO => exact off_mk (by with_reducible assumption) (by k_all) (by k_all)
    intro v9 h9 tk9 n9 hR9 F9 N9
    obtain ⟨r7, t7, ol7, od7, rfl, hr7, hs7, hD7, rfl⟩ := hR9
    try dsimp only
    try k_fold
    k_steps
    refine HaltAt.out ?_
    refine LCg.CompSrc.range rfl (by k_asm) (by k_asm) (by assumption) (small_one (by omega) (by omega) (by omega) (by omega)) (rangeSize_nat _ _) (by rw [sizeLine_eq]; omega) ?_
    intro g2
    refine' compRest_vals (k := k) hD7 ?O (fun _ _ => trivial) ?turn ?_
    case O => exact off_mk (by with_reducible assumption) (by k_all) (by k_all)
    case turn =>
      intro ol8 od8 v8 I8 oI8 C8 oC8 D8 oD8 m8 h8 tk8 E8 hD8 hC8 hx8 F8 N8 O8
      k_steps
      refine HaltAt.out ?_
      refine' cs_use (c_value _ _ _ _ _ _ hD8 O8 _ _ _ _ _ hKO) ?k1 ?k2 ?k3 ?k4 ?k5 ?kK ?kd ?ku ?_
      case k4 => k_asm
      case k1 => k_asm
      case k2 => k_asm
      case k3 => k_asm
      case k5 => k_asm
      case kK => first | exact rfl | assumption
      case kd => ktr_room
      case ku => ktr_units

      intro v9 h9 tk9 n9 hR9 F9 N9
      obtain ⟨x8, t8, ol9, od9, rfl, hx9, hD9, rfl⟩ := hR9
      exact ⟨_, _, _, _, _, _, rfl, hx9, hD9, rfl, by k_asm, by k_asm⟩
    intro vs2 ol8 od8 hl2 hv2 hD8
    walk1
    k_steps
    refine HaltAt.out ?_
    refine' kmk_add_lit (zs := valL (vsAll x tx r6 vs2)) ?F ?N ?ka ?kb ?ke ?_ ?kz
    case F => k_asm
    case N => k_asm
    case ka => exact News.isList (by k_asm) (.tail _ (.tail _ (.tail _ (.head _))))
    case kb => exact News.isList (by k_asm) (.head _)
    case ke => exact vsAll_cat _ _ _ _
    case kz => simp only [List.length_replicate, List.length_map, sizeLine_eq]; omega
    intro lv h10 F10 N10 a10
    k_lt a10
    obtain ⟨b1, b2, b3, b4, b5, b6, b7, b8⟩ := a10
    clear b1 b2 b3 b4
    have hvl := vsAll_len x tx hr6 vs2
    have hvs := vsAll_sum (psz k) x tx hr6 vs2
    have hvo := vsAll_ok (t := tx) (r := r6) hx hv2
    have hvd := vsAll_drop x tx hr6 vs2
    generalize vsAll x tx r6 vs2 = vs at hvl hvs hvo hvd N10
    replace N10 := news_vals (news_a10 N10)
    replace hvd : (slicePick (valsOf vs) (some r6) none none).toList = valL vs2 := hvd
    have hvz : vs.length ≤ 1000 := by omega
    have hvq := qsum_line hvo (by omega)
    rw [hvs] at hvq
    have hve : tsz n * (vs.length : Int) + qsum (psz k) vs = (a9.size : Int) * vs.length + (r6 * psz k x + qsum (psz k) vs2) := by rw [htag, hvs]
    try dsimp only
    try k_fold
    k_steps
    refine HaltAt.out ?_
    refine' cs_use (c_size _ _ _ _ _ _ hx) ?k1 ?k2 ?k3 ?k4 ?k5 ?kK ?kd ?ku ?_
    case k4 => k_asm
    case k1 => k_asm
    case k2 => k_asm
    case k3 => k_asm
    case k5 => k_asm
    case kK => first | exact rfl | assumption
    case kd => ktr_room
    case ku => ktr_units

    intro v9 h9 tk9 n9 hR9 F9 N9
    obtain ⟨⟨t8, rfl⟩, rfl⟩ := hR9
    try dsimp only
    try k_fold
    k_steps
    refine HaltAt.out ?_
    refine' kmk_slice_lit (its := valsOf vs) (zs := valL vs2) ?F ?N ?kl ?kp ?kq ?ke ?_ ?ks ?kt ?kz
    case F => k_asm
    case N => k_asm
    case kl => exact News.isList (by k_asm) (.head _)
    case kp => exact IsPart.int _ _
    case kq => exact IsPart.none
    case ke => exact hvd
    case ks => with_unfolding_all rfl
    case kt => intro _; with_unfolding_all rfl
    case kz => rw [valsOf_size, sizeLine_eq]; omega
    intro l2 h11 F11 N11 a11
    k_lt a11
    k_steps
    refine HaltAt.out ?_
    refine LCg.CompSrc.ledger rfl (by k_asm) (by k_asm) (.head _) (by simp only [List.size_toArray, List.length_map, sizeLine_eq]; omega) ?_
    intro g3
    refine' compRest_sizes (k := k) (.head _) hv2 ?turnB ?_
    case turnB =>
      intro y8 t8 I8 oI8 C8 oC8 D8 oD8 m8 h8 tk8 E8 hy8 hC8 hx8 F8 N8
      k_steps
      refine HaltAt.out ?_
      refine' cs_use (c_size _ _ _ _ _ _ hy8) ?k1 ?k2 ?k3 ?k4 ?k5 ?kK ?kd ?ku ?_
      case k4 => k_asm
      case k1 => k_asm
      case k2 => k_asm
      case k3 => k_asm
      case k5 => k_asm
      case kK => first | exact rfl | assumption
      case kd => ktr_room
      case ku => ktr_units

      intro v9 h9 tk9 n9 hR9 F9 N9
      obtain ⟨⟨t9, rfl⟩, rfl⟩ := hR9
      exact ⟨_, _, _, rfl, rfl, by k_asm, by k_asm⟩
    intro ys hys
    walk1
    k_steps
    refine HaltAt.out ?_
    refine' sum_is (n := qsum (psz k) vs2) ?kh ?F ?N ?kl ?ki rfl ?_
    case kh => with_unfolding_all rfl
    case F => k_asm
    case N => k_asm
    case kl => exact News.isList (by k_asm) (.head _)
    case ki => exact hys
    intro h12 tk12 t12 F12 N12
    replace N12 := news_drop2 N12
    try dsimp only
    try k_fold
    k_steps
    ·
      refine HaltAt.out ?_
      refine' cs_use (c_sizer _ [_, _, _, _] _ _ _ _ _ _ _ _ ?kn0 ?kn1 hKO ?kp ?kq) ?k1 ?k2 ?k3 ?k4 ?k5 ?kK ?kd ?ku ?_
      case k4 => k_asm
      case k1 => k_asm
      case k2 => k_asm
      case k3 => k_asm
      case k5 => k_asm
      case kK => first | exact rfl | assumption
      case kd => ktr_room
      case ku => ktr_units

      case kn0 => omega
      case kn1 => omega
      case kp => exact nofun
      case kq =>
        refine pre_off ?_
        repeat' (first | exact List.forall_mem_nil _ | refine List.forall_mem_cons.mpr ⟨?_, ?_⟩)
        all_goals (refine ltN ?_; (try dsimp only); omega)
      intro v9 h9 tk9 n9 hR9 F9 N9
      obtain ⟨f, XS, Tb, rfl, hnw, hTb, hf, hOk⟩ := hR9
      have hTT : TabsIn n9 := by rw [hnw]; exact hTb.mono fun p hp => List.mem_append_right _ (List.mem_append_right _ hp)
      obtain ⟨q1, q2, q3, q4⟩ := mem4 hnw
      clear hnw hTb
      replace hOk := (hOk _ fun _ h => h).1.2.1 rfl rfl
      try dsimp only
      try k_fold
      k_steps
      refine HaltAt.out ?_
      refine' cs_use (hOk _ _ _ q1 hvz hvo) ?k1 ?k2 ?k3 ?k4 ?k5 ?kK ?kd ?ku ?_
      case k4 => k_asm
      case k1 => k_asm
      case k2 => k_asm
      case k3 => k_asm
      case k5 => k_asm
      case kK => first | exact rfl | assumption
      case kd => ktr_room
      case ku => ktr_units

      intro v9 h9 tk9 n9 hR9 F9 N9
      obtain ⟨⟨t8, rfl⟩, rfl⟩ := hR9
      try dsimp only
      try k_fold
      k_steps
      refine HaltAt.out ?_
      refine' cs_use (c_told _ _ _ _ _ _ _ _ ?kn0 ?kn1 hx) ?k1 ?k2 ?k3 ?k4 ?k5 ?kK ?kd ?ku ?_
      case k4 => k_asm
      case k1 => k_asm
      case k2 => k_asm
      case k3 => k_asm
      case k5 => k_asm
      case kK => first | exact rfl | assumption
      case kd => ktr_room
      case ku => ktr_units

      case kn0 => omega
      case kn1 => omega
      intro v9 h9 tk9 n9 hR9 F9 N9
      obtain ⟨⟨t8, rfl⟩, rfl⟩ := hR9
      try dsimp only
      try k_fold
      k_steps
      refine HaltAt.out ?_
      refine' cs_use (c_size _ _ _ _ _ _ hx) ?k1 ?k2 ?k3 ?k4 ?k5 ?kK ?kd ?ku ?_
      case k4 => k_asm
      case k1 => k_asm
      case k2 => k_asm
      case k3 => k_asm
      case k5 => k_asm
      case kK => first | exact rfl | assumption
      case kd => ktr_room
      case ku => ktr_units

      intro v9 h9 tk9 n9 hR9 F9 N9
      obtain ⟨⟨t8, rfl⟩, rfl⟩ := hR9
      try dsimp only
      try k_fold
      k_steps
    ·
      have hr32 : r3 = 2 := by omega
      have hw2 := hm2 hr32
      refine HaltAt.out ?_
      refine' cs_use (c_sizer _ [_, _, _, _] _ _ _ _ _ _ _ _ ?kn0 ?kn1 hKO ?kp ?kq) ?k1 ?k2 ?k3 ?k4 ?k5 ?kK ?kd ?ku ?_
      case k4 => k_asm
      case k1 => k_asm
      case k2 => k_asm
      case k3 => k_asm
      case k5 => k_asm
      case kK => first | exact rfl | assumption
      case kd => ktr_room
      case ku => ktr_units

      case kn0 => omega
      case kn1 => omega
      case kp => exact fun _ => hw2
      case kq =>
        refine pre_off ?_
        repeat' (first | exact List.forall_mem_nil _ | refine List.forall_mem_cons.mpr ⟨?_, ?_⟩)
        all_goals (refine ltN ?_; (try dsimp only); omega)
      intro v9 h9 tk9 n9 hR9 F9 N9
      obtain ⟨f, XS, Tb, rfl, hnw, hTb, hf, hOk⟩ := hR9
      have hTT : TabsIn n9 := by rw [hnw]; exact hTb.mono fun p hp => List.mem_append_right _ (List.mem_append_right _ hp)
      obtain ⟨q1, q2, q3, q4⟩ := mem4 hnw
      clear hnw hTb
      have hOk1 := fun n3 hs => (hOk n3 hs).1.2.2 rfl
      replace hOk := (hOk _ fun _ h => h).2 rfl
      try dsimp only
      try k_fold
      k_steps
      · exact FnIn.at (FnIn.tail hf) (by k_asm)
      rename News _ _ _ _ => NE
      replace NE := news_nil NE
      refine HaltAt.out ?_
      refine' cs_use (hOk1 _ (fun _ hp => List.Mem.tail _ hp) _ [] 0 (List.Mem.head _) (Nat.zero_le _) nofun) ?k1 ?k2 ?k3 ?k4 ?k5 ?kK ?kd ?ku ?_
      case k4 => k_asm
      case k1 => k_asm
      case k2 => k_asm
      case k3 => k_asm
      case k5 => k_asm
      case kK => first | exact rfl | assumption
      case kd => ktr_room
      case ku => ktr_units

      intro v9 h9 tk9 nB hR9 F9 N9
      rw [vsz_empty] at hR9
      have htag1 : tsz n + 1 = (a9.size : Int) + 1 := by rw [htag]
      obtain ⟨⟨t8, rfl⟩, rfl⟩ := hR9
      clear hOk1
      replace N9 := news_tl N9
      try dsimp only
      try k_fold
      k_steps
      refine HaltAt.out ?_
      refine' cs_use (c_sizer_hit _ _ _ _ _ _ _ _ _ ?kn0 ?kn1 hKO hw2 ?kh) ?k1 ?k2 ?k3 ?k4 ?k5 ?kK ?kd ?ku ?_
      case k4 => k_asm
      case k1 => k_asm
      case k2 => k_asm
      case k3 => k_asm
      case k5 => k_asm
      case kK => first | exact rfl | assumption
      case kd => ktr_room
      case ku => ktr_units

      case kn0 => omega
      case kn1 => omega
      case kh => exact hOk
      intro v9 h9 tk9 nC hR9 F9 N9
      obtain ⟨f2, X2, rfl, hnw2, hf2, hOk2⟩ := hR9
      have hsub : ∀ p ∈ n9, p ∈ nC := fun p hp => hnw2 ▸ List.mem_append_right _ hp
      replace hTT := hTT.mono hsub
      replace q1 := hsub _ q1
      replace q2 := hsub _ q2
      replace q3 := hsub _ q3
      replace q4 := hsub _ q4
      clear hnw2 hsub hOk hf
      replace hOk2 := (hOk2 _ fun _ h => h).2.2 rfl
      try dsimp only
      try k_fold
      k_steps
      refine HaltAt.out ?_
      refine' cs_use (hOk2 _ _ _ q1 hvz hvo) ?k1 ?k2 ?k3 ?k4 ?k5 ?kK ?kd ?ku ?_
      case k4 => k_asm
      case k1 => k_asm
      case k2 => k_asm
      case k3 => k_asm
      case k5 => k_asm
      case kK => first | exact rfl | assumption
      case kd => ktr_room
      case ku => ktr_units

      intro v9 h9 tk9 nD hR9 F9 N9
      obtain ⟨⟨t8, rfl⟩, rfl⟩ := hR9
      try dsimp only
      try k_fold
      k_steps
      refine HaltAt.out ?_
      refine' cs_use (c_varint _ _ (r6 * psz k x + qsum (psz k) vs2) _ ?kv0 ?kv1) ?k1 ?k2 ?k3 ?k4 ?k5 ?kK ?kd ?ku ?_
      case k4 => k_asm
      case k1 => k_asm
      case k2 => k_asm
      case k3 => k_asm
      case k5 => k_asm
      case kK => first | exact rfl | assumption
      case kd => ktr_room
      case ku => ktr_units

      case kv0 => exact hvq.1
      case kv1 => omega
      intro v9 h9 tk9 nE hR9 F9 N9
      obtain ⟨⟨a11, t11, rfl, hs11⟩, rfl⟩ := hR9
      have hb11 := sz_le hs11
      have hfin : qsum (psz k) vs + vsz (qsum (psz k) vs) + tsz n = (a9.size : Int) + a11.size + (r6 * psz k x + qsum (psz k) vs2) := by rw [hvs, ← hs11, htag]; omega
      try dsimp only
      try k_fold
      k_steps)
end
end Mine
end
theorem PySem.Challenge.cw_ae6019_01_holds : PySem.Challenge.rw_ae6019_01.Holds := by
  exact Mine.law_holds
