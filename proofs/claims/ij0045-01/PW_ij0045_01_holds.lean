import PyProof.Rows.All
import Wide.All
import OpenK.AllK
import Wide.FinOn
import PySem.Challenge.RW_ij0045_01
open PySem PySem.W PyProof.Rows PySem.Spec PySem.Calls
set_option Elab.async false

-- Hd
namespace Mine
set_option maxRecDepth 100000 in
set_option maxHeartbeats 8000000 in
open_top hd for PySem.Challenge.rw_ij0045_01

end Mine

-- Isc
namespace Mine
theorem kind_iscn : builtinKind "issubclass.nested" = none := by decide +kernel
theorem plain_iscn : plainId "issubclass.nested" = true := by decide +kernel
theorem args_iscn (a b c : Value) : argsOk "issubclass.nested" ⟨[a, b, c], []⟩ := by unfold argsOk; kernel_rfl
theorem sub_str_self : isSubtype (.type "str") (.type "str") = pure true := by rw [isSubtype_type]; kernel_rfl
theorem sub_tup_self : isSubtype (.type "tuple") (.type "tuple") = pure true := by rw [isSubtype_type]; kernel_rfl
theorem type_str : typeOf (.type "str") = pure (.type "type") := by kernel_rfl
section
variable {prog : Program} {w : World} {A : Around} {E : Value → Shared → Prop}
theorem isc_str (dep : Int) (tk : Tok) : Meets (Builtin.«issubclass.nested» ⟨[.type "str", .type "str", .int dep tk], []⟩) (fun _ R s => R (.ok (.ret (.bool true))) s) :=
  fun _ _ _ _ s h => by
    have f1 := sub_str_self
    have f2 := type_str
    repeat (any_goals (first | assumption | (rw [f2]) | (rw [f1]) | wp_step))
theorem isc_tuple {tp : Addr} {cs rest : List Value} {tk : Tok} {s : Shared} {n : Nat} {Q : PySem.Fin → Shared → Prop} (hcs : cs = .type "str" :: rest)
    (htp : s.heap.get? tp = some { cls := .type "tuple", data := .seq cs.toArray n })
    (hq : Q (.done (.ret (.bool true))) s) : wpAny (model prog w) A (Builtin.«issubclass.nested» ⟨[.type "str", .ref tp, .int 0 tk], []⟩) Q E s := by
  obtain ⟨h, g, d, t, os⟩ := s
  have hT2 : (⟨h, g, d, t, os⟩ : Shared).TypeIs (.ref tp) "tuple" := ⟨_, htp, rfl⟩
  have f1 := sub_tup_self
  repeat (any_goals (first | assumption | wp_step))
  refine wpAny_arrayLoop ?_
  simp only [Option.getD_some, List.toList_toArray]
  subst hcs
  rw [List.forIn_cons]
  refine wpAny_bind (wpAny_bind (call_function_meets kind_iscn plain_iscn F.entry_issubclass_nested (args_iscn _ _ _) (isc_str _ _) ?_))
  show wpAny _ _ (truthy (.bool true) >>= _) _ _ _
  refine wpAny_bind (m := truthy (.bool true)) (wpAny_pure ?_)
  exact wpAny_bind (wpAny_pure (wpAny_pure (wpAny_pure (wpAny_pure hq))))
theorem issub_call {tp : Addr} {rest : List Value} {s : Shared} {n : Nat} {Q : Value → Shared → Prop}
    (htp : s.heap.get? tp = some { cls := .type "tuple", data := .seq (.type "str" :: rest).toArray n })
    (hq : Q (.bool true) s) : wpAny (model prog w) A (call (.builtin "issubclass") [.type "str", .ref tp]) Q E s :=
  call_issubclass (S := fun _ R s => s.heap.get? tp = some { cls := .type "tuple", data := .seq (.type "str" :: rest).toArray n } ∧ R (.ok (.ret (.bool true))) s) (fun _ _ _ _ _ hs => issubclass_outer (isc_tuple rfl hs.1 hs.2)) ⟨htp, hq⟩
theorem issub_news {h₀ : Heap} {L : Addr} {news : List (Addr × Obj)} {tp : Addr} {rest : List Value} {s : Shared} {n : Nat} {Q : Value → Shared → Prop}
    (N : News h₀ L s.heap news) (hm : (tp, ({ cls := .type "tuple", data := .seq (.type "str" :: rest).toArray n } : Obj)) ∈ news)
    (hq : Q (.bool true) s) : wpAny (model prog w) A (call (.builtin "issubclass") [.type "str", .ref tp]) Q E s := issub_call (N.get hm) hq
end
end Mine

-- Pl
namespace Mine
/-- what the six defs give, as the walk says it -/
def pbase (x : Str) : Str := Txt.slice x (some (Txt.rfind x (Str.ofString "/") + 1)) none
def phead (x : Str) : Str := Txt.slice x none (some (Txt.rfind x (Str.ofString "/") + 1))
def pdir (x : Str) : Str :=
  if ((phead x).length : Int) ≠ 0 ∧ (phead x != Txt.mul (Str.ofString "/") ((phead x).length : Int)) = true then Txt.rstripChars (phead x) (Str.ofString "/") else phead x
def pdun (x : Str) : Bool :=
  decide (4 < (x.length : Int)) && (Txt.slice x none (some 2) == Txt.slice x (some (-2)) none) && (Txt.slice x (some (-2)) none == Str.ofString "__") && (Txt.item x 2 != Str.ofString "_") && (Txt.item x (-3) != Str.ofString "_")
def psun (x : Str) : Bool :=
  decide (2 < (x.length : Int)) && (Txt.item x 0 == Txt.item x (-1)) && (Txt.item x (-1) == Str.ofString "_") && (Txt.item x 1 != Str.ofString "_") && (Txt.item x (-2) != Str.ofString "_")
def ppriv (y x : Str) : Bool :=
  decide ((((Str.ofString "_").length + y.length + (Str.ofString "__").length : Nat) : Int) < (x.length : Int)) && Txt.startswith x (Str.ofString "_" ++ y ++ Str.ofString "__") && ((Txt.item x (-1) != Str.ofString "_") || (Txt.item x (-2) != Str.ofString "_"))
end Mine
namespace Mine
/-- what splitext's first part is: up to the last dot, where a sign that is no dot lies between the last slash and it; else the whole -/
def IsRoot (x r : Str) : Prop :=
  (Txt.rfind x (Str.ofString "/") < Txt.rfind x (Str.ofString ".") ∧ r = Txt.slice x none (some (Txt.rfind x (Str.ofString "."))) ∧
    ∃ j : Int, 0 ≤ j ∧ Txt.rfind x (Str.ofString "/") + 1 + 1 * j < Txt.rfind x (Str.ofString ".") ∧ (Txt.slice x (some (Txt.rfind x (Str.ofString "/") + 1 + 1 * j)) (some (Txt.rfind x (Str.ofString "/") + 1 + 1 * j + 1)) != Str.ofString ".") = true) ∨
  (r = x ∧ (¬ Txt.rfind x (Str.ofString "/") < Txt.rfind x (Str.ofString ".") ∨
    ∃ n : Int, Txt.rfind x (Str.ofString ".") ≤ Txt.rfind x (Str.ofString "/") + 1 + 1 * n ∧ ∀ j, 0 ≤ j → j < n → (Txt.slice x (some (Txt.rfind x (Str.ofString "/") + 1 + 1 * j)) (some (Txt.rfind x (Str.ofString "/") + 1 + 1 * j + 1)) != Str.ofString ".") = false))
theorem isRoot_cut {x : Str} {n : Int} (h3 : (Txt.slice x (some (Txt.rfind x (Str.ofString "/") + 1 + 1 * n)) (some (Txt.rfind x (Str.ofString "/") + 1 + 1 * n + 1)) != Str.ofString ".") = true) (h0 : 0 ≤ n) (h1 : Txt.rfind x (Str.ofString "/") < Txt.rfind x (Str.ofString ".")) (h2 : Txt.rfind x (Str.ofString "/") + 1 + 1 * n < Txt.rfind x (Str.ofString ".")):
    IsRoot x (Txt.slice x none (some (Txt.rfind x (Str.ofString ".")))) := .inl ⟨h1, rfl, n, h0, h2, h3⟩
theorem isRoot_whole {x : Str} {n : Int} {c : Int → Bool} (h1 : Txt.rfind x (Str.ofString ".") ≤ Txt.rfind x (Str.ofString "/") + 1 + 1 * n)
    (h2 : Passed c (fun j => if (Txt.slice x (some (Txt.rfind x (Str.ofString "/") + 1 + 1 * j)) (some (Txt.rfind x (Str.ofString "/") + 1 + 1 * j + 1)) != Str.ofString ".") = true then true else false) n) : IsRoot x x := by
  refine .inr ⟨rfl, .inr ⟨n, h1, fun j h0 hj => ?_⟩⟩
  have h := (h2 j h0 hj).2
  dsimp only at h
  split at h
  · cases h
  · rename_i hn; exact Bool.eq_false_iff.mpr hn
theorem isRoot_none {x : Str} (h : ¬ Txt.rfind x (Str.ofString "/") < Txt.rfind x (Str.ofString ".")) : IsRoot x x := .inr ⟨rfl, .inl h⟩
end Mine
namespace Mine
/-- the count of names is forgotten (the library's own step for it abstracts the whole goal: slow) -/
theorem gen_toks {M : Model} {A : Around} {α : Type} {c : Sem α} {Q : α → Shared → Prop} {E : Value → Shared → Prop} {h : Heap} {g : Array GenState} {d : Drawn} {os : OsState} {X : Nat}
    (p : ∀ tk, wpAny M A c Q E ⟨h, g, d, tk, os⟩) : wpAny M A c Q E ⟨h, g, d, X, os⟩ := p X
end Mine

-- Cm
namespace Mine
/-- what a call hands back that makes nothing -/
abbrev Ret0 (h₀ : Heap) (L : Addr) (m : Str → Option Value) (news : List (Addr × Obj)) (s : Shared) (Q : Value → Shared → Prop) (R : Tok → Value) : Prop :=
  ∀ (t : Tok) (h' : Heap) (tk' : Nat), Fr h₀ L h' m → News h₀ L h' news → Q (R t) { s with heap := h', toks := tk' }
/-- what a call hands back that makes a pair of texts -/
abbrev RetT (h₀ : Heap) (L : Addr) (m : Str → Option Value) (news : List (Addr × Obj)) (s : Shared) (Q : Value → Shared → Prop) (R : Str → Prop) : Prop :=
  ∀ (r e : Str) (t u : Tok) (D : Addr) (h' : Heap) (tk' : Nat), R r → Fr h₀ L h' m → News h₀ L h' ((D, { cls := .type "tuple", data := .seq #[.str r t, .str e u] }) :: news) → (∀ p ∈ news, p.1 < D) → Q (.ref D) { s with heap := h', toks := tk' }
/-- what a call hands back that makes a list -/
abbrev RetL (h₀ : Heap) (L : Addr) (m : Str → Option Value) (news : List (Addr × Obj)) (s : Shared) (Q : Value → Shared → Prop) (R : List Value → Prop) : Prop :=
  ∀ (vals : List Value) (D : Addr) (h' : Heap) (tk' : Nat), R vals → Fr h₀ L h' m → News h₀ L h' ((D, listOf vals.toArray 0) :: news) → Q (.ref D) { s with heap := h', toks := tk' }
/-- a call of the def at f from a def's frame, `room` frames under the line -/
abbrev Calls0 (w : World) (f : Addr) (room : Nat) (pre : Prop) (vs : List Value) (ret : ∀ (_h₀ : Heap) (_L : Addr) (_m : Str → Option Value) (_news : List (Addr × Obj)) (_s : Shared) (_Q : Value → Shared → Prop), Prop) : Prop :=
  ∀ {mean : ExcName → Option Value} {mg mb : Str → Option Value} {news : List (Addr × Obj)}
    {dp un : Nat} {gd : Option (List Code)} {cn : Str} {cs : Scope} {a : Addr} {ccd : Value} {cl : List (Str × Addr)} {outer : List Env} {A₀ : Around} {base h₀ : Heap} {L : Addr} {m : Str → Option Value} {s : Shared} {Q E : Value → Shared → Prop},
    pre → Below A₀ base outer h₀ → Fr h₀ L s.heap m → (hd.heap_39 w.params).In h₀ → News h₀ L s.heap news → Top hd.view_39 (looseW hd.view_39 []) mean mg mb h₀ → cs.kind = .function →
    dp + room < recursionLimit → un + room * 16 < cLine → ret h₀ L m news s Q →
    wpAny (model PySem.Challenge.rw_ij0045_01.row.prog w) (ktrTop dp un gd cn cs L a ccd cl outer) (call (.ref f) vs) Q E s
end Mine

-- Fs
namespace Mine
local macro_rules | `(tactic| walk_at "execs cons") => `(tactic| (k_here; (with_reducible show wpAny _ _ _ _ _ (Shared.mk _ _ _ (_ + _) _)); refine Mine.gen_toks ?_; intro tk))
local macro_rules | `(tactic| walk_at "call builtin:issubclass") => `(tactic| (k_here; (with_reducible show wpAny _ _ (call (Value.builtin "issubclass") [Value.type "str", Value.ref _]) _ _ _); (refine' Mine.issub_news ?k1 ?k2 ?_; (case k1 => k_asm); (case k2 => k_mem); k_whole)))
set_option maxRecDepth 100000 in
set_option maxHeartbeats 8000000 in
theorem fspath_c (w : World) (x : Str) (t : Tok) : Calls0 w 122 4 True [.str x t] (fun h₀ L m news s Q => Ret0 h₀ L m news s Q (fun t => .str x t)) := by
  unfold Calls0; w_top off; k_fill
  intros; rename_i hret
  refine wpAny_call ?_
  k_dflt cell_enter
  k_steps
  all_goals cb_end hret
end Mine

-- Gs
namespace Mine
local macro_rules | `(tactic| walk_at "execs cons") => `(tactic| (k_here; (with_reducible show wpAny _ _ _ _ _ (Shared.mk _ _ _ (_ + _) _)); refine Mine.gen_toks ?_; intro tk))
set_option maxRecDepth 100000 in
set_option maxHeartbeats 8000000 in
theorem getsep_c (w : World) (x : Str) (t : Tok) : Calls0 w 136 4 True [.str x t] (fun h₀ L m news s Q => Ret0 h₀ L m news s Q (fun t => .str (Str.ofString "/") t)) := by
  unfold Calls0; w_top off; k_fill
  intros; rename_i hret
  refine wpAny_call ?_
  k_dflt cell_enter
  k_steps
  all_goals cb_end hret
end Mine

-- Ks
namespace Mine
local macro_rules | `(tactic| walk_at "mine block Ks 0") => `(tactic| fail)
local macro_rules | `(tactic| walk_at "mine block Ks 1") => `(tactic| fail)
local macro_rules | `(tactic| walk_at "execs cons") => `(tactic| (k_here; (with_reducible show wpAny _ _ _ _ _ (Shared.mk _ _ _ (_ + _) _)); refine Mine.gen_toks ?_; intro tk))
set_option maxRecDepth 100000 in
set_option maxHeartbeats 8000000 in
theorem dunder_c (w : World) (x : Str) (t : Tok) : Calls0 w 35 4 (x.length ≤ 200) [.str x t] (fun h₀ L m news s Q => Ret0 h₀ L m news s Q (fun _ => .bool (pdun x))) := by
  unfold Calls0; w_top off; k_fill
  intros; rename_i hret
  refine wpAny_call ?_
  k_dflt cell_enter
  k_steps
  all_goals unfold pdun at hret
  all_goals cb_end hret
set_option maxRecDepth 100000 in
set_option maxHeartbeats 8000000 in
theorem sunder_c (w : World) (x : Str) (t : Tok) : Calls0 w 42 4 (x.length ≤ 200) [.str x t] (fun h₀ L m news s Q => Ret0 h₀ L m news s Q (fun _ => .bool (psun x))) := by
  unfold Calls0; w_top off; k_fill
  intros; rename_i hret
  refine wpAny_call ?_
  k_dflt cell_enter
  k_steps
  all_goals unfold psun at hret
  all_goals cb_end hret
end Mine

-- Bn
namespace Mine
local macro_rules | `(tactic| walk_at "mine block Bn 0") => `(tactic| fail)
local macro_rules | `(tactic| walk_at "execs cons") => `(tactic| (k_here; (with_reducible show wpAny _ _ _ _ _ (Shared.mk _ _ _ (_ + _) _)); refine Mine.gen_toks ?_; intro tk))
local macro_rules | `(tactic| walk_at "call ref") => `(tactic| (k_here; (with_reducible show wpAny _ _ (call (Value.ref 122) [Value.str _ _]) _ _ _); (refine' Mine.fspath_c _ _ _ trivial ?k1 ?k2 ?k3 ?k4 ?k5 ?kK ?kd ?ku ?_; (case k1 => k_asm); (case k2 => k_asm); (case k3 => k_asm); (case k4 => k_asm); (case k5 => k_asm); (case kK => first | exact rfl | assumption); (case kd => ktr_room); (case ku => ktr_units); (intro t9 h9 tk9 F9 N9; (try dsimp only); (try k_fold)))))
local macro_rules | `(tactic| walk_at "call ref") => `(tactic| (k_here; (with_reducible show wpAny _ _ (call (Value.ref 136) [Value.str _ _]) _ _ _); (refine' Mine.getsep_c _ _ _ trivial ?k1 ?k2 ?k3 ?k4 ?k5 ?kK ?kd ?ku ?_; (case k1 => k_asm); (case k2 => k_asm); (case k3 => k_asm); (case k4 => k_asm); (case k5 => k_asm); (case kK => first | exact rfl | assumption); (case kd => ktr_room); (case ku => ktr_units); (intro t9 h9 tk9 F9 N9; (try dsimp only); (try k_fold)))))
set_option maxRecDepth 100000 in
set_option maxHeartbeats 8000000 in
theorem basename_c (w : World) (x : Str) (t : Tok) : Calls0 w 153 8 (x.length ≤ 200) [.str x t] (fun h₀ L m news s Q => Ret0 h₀ L m news s Q (fun t => .str (pbase x) t)) := by
  unfold Calls0; w_top off; k_fill
  intros; rename_i hret
  refine wpAny_call ?_
  k_dflt cell_enter
  k_steps
  all_goals cb_end hret
end Mine

-- Dn
namespace Mine
local macro_rules | `(tactic| walk_at "mine block Dn 0") => `(tactic| fail)
local macro_rules | `(tactic| walk_at "mine block Dn 1") => `(tactic| fail)
local macro_rules | `(tactic| walk_at "execs cons") => `(tactic| (k_here; (with_reducible show wpAny _ _ _ _ _ (Shared.mk _ _ _ (_ + _) _)); refine Mine.gen_toks ?_; intro tk))
local macro_rules | `(tactic| walk_at "call ref") => `(tactic| (k_here; (with_reducible show wpAny _ _ (call (Value.ref 122) [Value.str _ _]) _ _ _); (refine' Mine.fspath_c _ _ _ trivial ?k1 ?k2 ?k3 ?k4 ?k5 ?kK ?kd ?ku ?_; (case k1 => k_asm); (case k2 => k_asm); (case k3 => k_asm); (case k4 => k_asm); (case k5 => k_asm); (case kK => first | exact rfl | assumption); (case kd => ktr_room); (case ku => ktr_units); (intro t9 h9 tk9 F9 N9; (try dsimp only); (try k_fold)))))
local macro_rules | `(tactic| walk_at "call ref") => `(tactic| (k_here; (with_reducible show wpAny _ _ (call (Value.ref 136) [Value.str _ _]) _ _ _); (refine' Mine.getsep_c _ _ _ trivial ?k1 ?k2 ?k3 ?k4 ?k5 ?kK ?kd ?ku ?_; (case k1 => k_asm); (case k2 => k_asm); (case k3 => k_asm); (case k4 => k_asm); (case k5 => k_asm); (case kK => first | exact rfl | assumption); (case kd => ktr_room); (case ku => ktr_units); (intro t9 h9 tk9 F9 N9; (try dsimp only); (try k_fold)))))
set_option maxRecDepth 100000 in
set_option maxHeartbeats 8000000 in
theorem dirname_c (w : World) (x : Str) (t : Tok) : Calls0 w 160 8 (x.length ≤ 200) [.str x t] (fun h₀ L m news s Q => Ret0 h₀ L m news s Q (fun t => .str (pdir x) t)) := by
  unfold Calls0; w_top off; k_fill
  intros; rename_i hret
  refine wpAny_call ?_
  k_dflt cell_enter
  k_steps
  all_goals unfold pdir phead at hret
  all_goals cb_end hret
end Mine

-- Sx
namespace Mine
local macro_rules | `(tactic| walk_at "mine block Sx 0") => `(tactic| fail)
local macro_rules | `(tactic| walk_at "mine block Sx 1") => `(tactic| fail)
local macro_rules | `(tactic| walk_at "mine block Sx 2") => `(tactic| fail)
local macro_rules | `(tactic| walk_at "mine block Sx 3") => `(tactic| fail)
local macro_rules | `(tactic| walk_at "mine block Sx 4") => `(tactic| fail)
local macro_rules | `(tactic| walk_at "execs cons") => `(tactic| (k_here; (with_reducible show wpAny _ _ _ _ _ (Shared.mk _ _ _ (_ + _) _)); refine Mine.gen_toks ?_; intro tk))
set_option maxRecDepth 100000 in
set_option maxHeartbeats 8000000 in
theorem splitext0_c (w : World) (x : Str) (t u u' : Tok) : Calls0 w 129 4 (x.length ≤ 200) [.str x t, .str (Str.ofString "/") u, .none, .str (Str.ofString ".") u'] (fun h₀ L m news s Q => RetT h₀ L m news s Q (IsRoot x)) := by
  unfold Calls0; w_top off; k_fill
  intros; rename_i hret
  refine wpAny_call ?_
  k_dflt cell_enter
  k_steps
  · exact hret _ _ _ _ _ _ _ (isRoot_cut (by assumption) (by assumption) (by assumption) (by assumption)) (by assumption) (by assumption) (by assumption)
  · exact hret _ _ _ _ _ _ _ (isRoot_whole (by assumption) (by assumption)) (by assumption) (by assumption) (by assumption)
  · exact hret _ _ _ _ _ _ _ (isRoot_none (by assumption)) (by assumption) (by assumption) (by assumption)
end Mine

-- Sy
namespace Mine
local macro_rules | `(tactic| walk_at "mine block Sy 0") => `(tactic| fail)
local macro_rules | `(tactic| walk_at "mine block Sy 1") => `(tactic| fail)
local macro_rules | `(tactic| walk_at "mine block Sy 2") => `(tactic| fail)
local macro_rules | `(tactic| walk_at "mine block Sy 3") => `(tactic| fail)
local macro_rules | `(tactic| walk_at "execs cons") => `(tactic| (k_here; (with_reducible show wpAny _ _ _ _ _ (Shared.mk _ _ _ (_ + _) _)); refine Mine.gen_toks ?_; intro tk))
local macro_rules | `(tactic| walk_at "call ref") => `(tactic| (k_here; (with_reducible show wpAny _ _ (call (Value.ref 122) [Value.str _ _]) _ _ _); (refine' Mine.fspath_c _ _ _ trivial ?k1 ?k2 ?k3 ?k4 ?k5 ?kK ?kd ?ku ?_; (case k1 => k_asm); (case k2 => k_asm); (case k3 => k_asm); (case k4 => k_asm); (case k5 => k_asm); (case kK => first | exact rfl | assumption); (case kd => ktr_room); (case ku => ktr_units); (intro t9 h9 tk9 F9 N9; (try dsimp only); (try k_fold)))))
local macro_rules | `(tactic| walk_at "call ref") => `(tactic| (k_here; (with_reducible show wpAny _ _ (call (Value.ref 129) [Value.str _ _, Value.str _ _, Value.none, Value.str _ _]) _ _ _); (refine' Mine.splitext0_c _ _ _ _ _ ?kp ?k1 ?k2 ?k3 ?k4 ?k5 ?kK ?kd ?ku ?_; (case kp => assumption); (case k1 => k_asm); (case k2 => k_asm); (case k3 => k_asm); (case k4 => k_asm); (case k5 => k_asm); (case kK => first | exact rfl | assumption); (case kd => ktr_room); (case ku => ktr_units); (intro r9 e9 t9 u9 D9 h9 tk9 R9 F9 N9 l1; (try dsimp only); (try k_fold)))))
set_option maxRecDepth 100000 in
set_option maxHeartbeats 8000000 in
theorem splitext_c (w : World) (x : Str) (t : Tok) : Calls0 w 143 8 (x.length ≤ 200) [.str x t] (fun h₀ L m news s Q => RetT h₀ L m news s Q (IsRoot x)) := by
  unfold Calls0; w_top off; k_fill
  intros; rename_i hret
  refine wpAny_call ?_
  k_dflt cell_enter
  k_steps
  all_goals exact hret _ _ _ _ _ _ _ (by assumption) (by assumption) (by assumption) (by assumption)
end Mine

-- Pv
namespace Mine
local macro_rules | `(tactic| walk_at "mine block Pv 0") => `(tactic| fail)
local macro_rules | `(tactic| walk_at "mine block Pv 1") => `(tactic| fail)
local macro_rules | `(tactic| walk_at "mine block Pv 2") => `(tactic| fail)
local macro_rules | `(tactic| walk_at "mine block Pv 3") => `(tactic| fail)
local macro_rules | `(tactic| walk_at "mine block Pv 4") => `(tactic| fail)
local macro_rules | `(tactic| walk_at "mine block Pv 5") => `(tactic| fail)
theorem len_glued {prog : Program} {w : World} {A : Around} {E : Value → Shared → Prop} {s : Shared} {x y z : Str} {t : Tok} {Q : Value → Shared → Prop} (hx : x.length ≤ 1000) (hy : y.length ≤ 1000) (hz : z.length ≤ 1000)
    (h : Q (.int ((x.length + y.length + z.length : Nat) : Int) (s.toks + 1)) { s with toks := s.toks + 1 + 1 }) : wpAny (model prog w) A (call (.builtin "len") [.str (x ++ y ++ z) t]) Q E s := by
  have e : (x ++ y ++ z).length = x.length + y.length + z.length := by rw [Str.length_append, Str.length_append]
  exact len_writK _ e (by omega) h
local macro_rules | `(tactic| walk_at "call builtin:len") => `(tactic| (k_here; (with_reducible show wpAny _ _ (call (Value.builtin "len") [Value.str (_ ++ _ ++ _) _]) _ _ _); (refine' Mine.len_glued ?k1 ?k2 ?k3 ?_; (case k1 => decide); (case k2 => omega); (case k3 => decide))))
local macro_rules | `(tactic| walk_at "execs cons") => `(tactic| (k_here; (with_reducible show wpAny _ _ _ _ _ (Shared.mk _ _ _ (_ + _) _)); refine Mine.gen_toks ?_; intro tk))
set_option maxRecDepth 100000 in
set_option maxHeartbeats 8000000 in
theorem private_c (w : World) (x y : Str) (t u : Tok) : Calls0 w 49 4 (x.length ≤ 200 ∧ y.length ≤ 200) [.str y u, .str x t] (fun h₀ L m news s Q => Ret0 h₀ L m news s Q (fun _ => .bool (ppriv y x))) := by
  unfold Calls0; w_top off; k_fill
  rintro _ _ _ _ _ _ _ _ _ _ _ _ _ _ _ _ _ _ _ _ _ ⟨_, _⟩
  intros; rename_i hret
  refine wpAny_call ?_
  k_dflt cell_enter
  k_steps
  all_goals unfold ppriv at hret
  all_goals cb_end hret
end Mine

-- Tx
namespace Mine
theorem iter_str {prog : Program} {w : World} {A : Around} {E : Value → Shared → Prop} {s : Shared} {x : Str} {t : Tok} {Q : Value → Shared → Prop}
    (hQ : ∀ (o : Obj) (St : Nat → Heap → Prop), (∀ A' : Around, A'.handled = none → Walks prog w A' s.heap.objs.size [s.heap.objs.size] [s.heap.objs.size] x.cps.size (SignAt x) St) → St 0 (s.heap.push o) →
      (∀ i h, St i h → ∃ o, h.get? s.heap.objs.size = some o) →
      Q (.ref s.heap.objs.size) { s with heap := s.heap.push o }) : wpAny (model prog w) A (pyIter (.str x t)) Q E s := by
  cases ha : x.cps.all (· < 128)
  · exact wpAny_pyIter_wide ha (hQ _ _ (fun A' hA => Walks.strWide hA _ x t) ⟨_, Heap.get?_push_size _ rfl, rfl, rfl⟩ fun _ _ h => ⟨_, h.choose_spec.1⟩)
  · exact wpAny_pyIter_ascii ha (hQ _ _ (fun A' hA => Walks.strAscii hA _ x t) ⟨_, Heap.get?_push_size _ rfl, rfl, rfl⟩ fun _ _ h => ⟨_, h.choose_spec.1⟩)
section
variable {prog : Program} {w : World} {A : Around} {E : Value → Shared → Prop} {s : Shared} {env : Env} {h₀ : Heap} {x : Str} {body : List Stmt} {Q : Flow → Shared → Prop}
/-- a map of names that is the old one off the names said -/
def Off (names : List Str) (m₀ m : Str → Option Value) : Prop := ∀ z, names.contains z = false → m z = m₀ z
theorem off_set {names : List Str} {m₀ m : Str → Option Value} {y : Str} {v : Option Value} (hy : names.contains y = true) (h : Off names m₀ m) : Off names m₀ (fun z => if z = y then v else m z) := by
  intro z hz
  have e : z ≠ y := fun e => by rw [e, hy] at hz; cases hz
  show (if z = y then v else m z) = m₀ z
  rw [if_neg e]; exact h z hz
theorem off_kstB {names : List Str} {m₀ m : Str → Option Value} {ps : List (Str × Value)} (hy : (ps.map (·.1)).all (names.contains ·) = true) (h : Off names m₀ m) : Off names m₀ (fun z => kstB m ps z) := by
  intro z hz
  show kstB m ps z = m₀ z
  induction ps with
  | nil => exact h z hz
  | cons p r ih =>
    rw [List.map_cons, List.all_cons, Bool.and_eq_true] at hy
    have e : z ≠ p.1 := fun e => by rw [e, hy.1] at hz; cases hz
    show (if z = p.1 then some p.2 else kstB m r z) = m₀ z
    rw [if_neg e]; exact ih hy.2
theorem off_refl {names : List Str} {m₀ : Str → Option Value} : Off names m₀ m₀ := fun _ _ => rfl
def KJ {σ : Type} (Led : σ → List (Addr × Obj)) (ps : σ → List (Str × Value)) (Facts : σ → Prop) (names : List Str) (m₀ : Str → Option Value) (P : List Int → σ → Prop) (pre : List Int) (m : Str → Option Value) (nx : List (Addr × Obj)) : Prop :=
  ∃ c : σ, nx = Led c ∧ Facts c ∧ (∀ p ∈ ps c, m p.1 = some p.2) ∧ Off names m₀ m ∧ P pre c
theorem kstB_id {m : Str → Option Value} {ps : List (Str × Value)} (h : ∀ p ∈ ps, m p.1 = some p.2) : (fun z => kstB m ps z) = m := by
  funext z
  exact kstB_eq h fun _ => rfl
theorem kj_fr {L : Addr} {h : Heap} {ps : List (Str × Value)} {m₁ : Str → Option Value} {v : Value} (h1 : ∀ p ∈ ps, m₁ p.1 = some p.2)
    (F : Fr h₀ L h (fun y => if y = x then some v else m₁ y)) : Fr h₀ L h (fun y => if y = x then some v else kstB m₁ ps y) := by
  have e : (fun y => if y = x then some v else kstB m₁ ps y) = fun y => if y = x then some v else m₁ y := by
    funext y
    have q := congrFun (kstB_id h1) y
    rw [q]
  rw [e]; exact F
theorem kj_frOut {L : Addr} {h : Heap} {ps : List (Str × Value)} {m₁ : Str → Option Value} (h1 : ∀ p ∈ ps, m₁ p.1 = some p.2) (F : Fr h₀ L h m₁) : Fr h₀ L h (fun y => kstB m₁ ps y) := by
  rw [kstB_id h1]; exact F
open KStt in
/-- a loop over a text's signs by an invariant whose ledger may hold another object at each turn -/
theorem text_loop {σ : Type} {xt : Str} {tx : Tok} {m₀ : Str → Option Value} (Led : σ → List (Addr × Obj)) (ps : σ → List (Str × Value)) (Facts : σ → Prop) (names : List Str) (P : List Int → σ → Prop) (c₀ : σ)
    (hh : A.handled = none) (F : Fr h₀ env.locals s.heap m₀) (N : News h₀ env.locals s.heap (Led c₀)) (hk : ∀ p ∈ ps c₀, m₀ p.1 = some p.2) (hf : Facts c₀) (hp : P [] c₀)
    (turn : ∀ (c : σ) (pre post : List Int) (n : Nat) t (u : Str → Option Value) h tk own, codes xt = pre ++ (n : Int) :: post → OwnOff own ((Led c).map (·.1)) → Facts c → P pre c → Off names m₀ u →
      Fr h₀ env.locals h (fun y => if y = x then some (.str ⟨#[n]⟩ t) else kstB u (ps c) y) → News h₀ env.locals h (Led c ++ own) →
      wpAny (model prog w) A (execs body env) (InvPostG h₀ env.locals (KJ Led ps Facts names m₀ P (pre ++ [(n : Int)])) own { s with heap := h, toks := tk } Q) E { s with heap := h, toks := tk })
    (done : ∀ (c : σ) (u : Str → Option Value) h tk, Facts c → P (codes xt) c → Off names m₀ u → Fr h₀ env.locals h (fun y => kstB u (ps c) y) → News h₀ env.locals h (Led c) → Q .next { s with heap := h, toks := tk }) :
    wpAny (model prog w) A (pyIter (.str xt tx)) (fun it s₂ => LoopAtV prog w A h₀ env x body Q E it s₂) E s := by
  refine iter_str fun o St hW hst hob => ?_
  have W := hW A hh
  refine kdr_loop (news := Led c₀) (m₀ := m₀) (fun i m nx => KJ Led ps Facts names m₀ P ((codes xt).take i) m nx) W (fun _ h => h) (fun _ h => h) ?_ ?_ ?_ ?_ hst (F.push _) (fun p hp => ⟨Heap.get?_push_of_some _ (N p hp).1, (N p hp).2⟩) ⟨c₀, rfl, hf, hk, off_refl, by simpa using hp⟩ ?_ ?_
  · intro i h hS b hb
    rw [List.mem_singleton.mp hb]
    exact hob i h hS
  · intro hm
    exact absurd F.ns.lt ((List.mem_singleton.mp hm) ▸ Nat.lt_irrefl _)
  · intro b' hb
    rw [List.mem_singleton.mp hb]
    exact next_is_new F
  · intro p hp hI
    exact absurd (Heap.lt_size (N p hp).1) ((List.mem_singleton.mp hI) ▸ Nat.lt_irrefl _)
  · rintro i v m₁ nx h tk own hi ⟨n, u, hn, rfl⟩ hoff ⟨c, rfl, hf', h1, h2, hp'⟩ F₁ N₁
    have hn' := code_at hn
    have hs : (codes xt).take (i + 1) = (codes xt).take i ++ [(n : Int)] := by simp [List.take_add_one, hn']
    have e : codes xt = (codes xt).take i ++ (n : Int) :: (codes xt).drop (i + 1) := by
      have ht := List.take_append_drop (i + 1) (codes xt)
      rw [hs, List.append_assoc] at ht
      exact ht.symm
    rw [hs]
    exact turn c _ _ n u m₁ h tk own e hoff hf' hp' h2 (kj_fr h1 F₁) N₁
  · rintro m₁ nx h tk ⟨c, rfl, hf', h1, h2, hp'⟩ F₁ N₁
    have hl : xt.cps.size = (codes xt).length := (codes_length xt).symm
    rw [hl, List.take_length] at hp'
    exact done c m₁ h tk hf' hp' h2 (kj_frOut h1 F₁) N₁
theorem text_end {σ : Type} {Led : σ → List (Addr × Obj)} {ps : σ → List (Str × Value)} {Facts : σ → Prop} {names : List Str} {m₀ : Str → Option Value} {P : List Int → σ → Prop} {pre : List Int} (c : σ) {L : Addr} {m' : Str → Option Value} {own news' : List (Addr × Obj)} {s₁ : Shared} {h' : Heap} {tk : Nat}
    (F : Fr h₀ L h' m') (N : News h₀ L h' news') (hk : ∀ p ∈ ps c, m' p.1 = some p.2) (hn : ∀ p ∈ Led c, p ∈ news') (ho : ∀ p ∈ own, p ∈ news') (ha : OwnOff own ((Led c).map (·.1))) (hf : Facts c) (hr : Off names m₀ m') (hp : P pre c) :
    InvEndG h₀ L (KJ Led ps Facts names m₀ P pre) own s₁ { s₁ with heap := h', toks := tk } :=
  ⟨h', tk, m', news', _, rfl, F, N, hn, ho, ha, c, rfl, hf, hk, hr, hp⟩
end
end Mine

-- Ts
namespace Mine
/-- what the reader holds between two signs -/
structure TS where
  folder : Str
  name : Str
  ahead : Int
  behind : Int
  cut : Option (Int × Int)
  stem : Str
  matched : Int
  plain : Bool
def ts0 : TS := ⟨Str.ofString "", Str.ofString "", 0, -1, none, Str.ofString "", 0, false⟩
def due (S : TS) : Str := Str.ofString "_" ++ S.folder ++ Str.ofString "__"
def tstep (S : TS) (n : Int) : TS :=
  let g : Str := ⟨#[n.toNat]⟩
  if (g == Str.ofString "/") = true then ⟨if (S.name != Str.ofString "") = true then S.name else S.folder, Str.ofString "", 0, -1, none, S.stem, 0, false⟩
  else
    ⟨S.folder, S.name ++ g,
      if (g != Str.ofString "_") = true then S.ahead else if S.behind < 0 then S.ahead + 1 else S.ahead,
      if (g != Str.ofString "_") = true then 0 else if S.behind < 0 then S.behind else S.behind + 1,
      if (g == Str.ofString ".") = true ∧ S.plain = true then some (S.ahead, S.behind) else S.cut,
      if (g == Str.ofString ".") = true ∧ S.plain = true then S.name else S.stem,
      if S.matched = (S.name.length : Int) ∧ S.matched < ((due S).length : Int) ∧ (Txt.item (due S) S.matched == g) = true then S.matched + 1 else S.matched,
      if (g != Str.ofString ".") = true then true else S.plain⟩
def told (l : List Int) : TS := l.foldl tstep ts0
theorem told_snoc (l : List Int) (n : Int) : told (l ++ [n]) = tstep (told l) n := by simp [told]
/-- the reader's letters, with what the machine gives them -/
structure TC where
  S : TS
  t1 : Tok
  t2 : Tok
  t3 : Tok
  t4 : Tok
  t5 : Tok
  t6 : Tok
  D : Addr
  vs : List Value
  n : Nat
def CutIs (vs : List Value) : Option (Int × Int) → Prop
  | none => vs = []
  | some (a, b) => ∃ t u, vs = [.int a t, .int b u]
def tLed (news : List (Addr × Obj)) (c : TC) : List (Addr × Obj) := (c.D, listOf c.vs.toArray c.n) :: news
def tPs (c : TC) : List (Str × Value) := [(Str.ofString "folder", .str c.S.folder c.t1), (Str.ofString "name", .str c.S.name c.t2), (Str.ofString "ahead", .int c.S.ahead c.t3), (Str.ofString "behind", .int c.S.behind c.t4),
  (Str.ofString "cut", .ref c.D), (Str.ofString "stem", .str c.S.stem c.t5), (Str.ofString "matched", .int c.S.matched c.t6), (Str.ofString "plain", .bool c.S.plain)]
def tNames : List Str := ["sign", "due", "folder", "name", "ahead", "behind", "cut", "stem", "matched", "plain"].map Str.ofString
structure TB (S : TS) (k : Nat) : Prop where
  f : S.folder.length ≤ k
  n : S.name.length ≤ k
  s : S.stem.length ≤ k
  a0 : 0 ≤ S.ahead
  a1 : S.ahead ≤ k
  b0 : -1 ≤ S.behind
  b1 : S.behind ≤ k
  m0 : 0 ≤ S.matched
  m1 : S.matched ≤ k
def tP (pre : List Int) (c : TC) : Prop := c.S = told pre ∧ TB c.S pre.length
/-- the ways through a turn -/
inductive CutCase (g : Str) (pl : Bool) (ah be : Int) (nm : Str) (cut : Option (Int × Int)) (st : Str) : Option (Int × Int) → Str → Prop
  | dot : (g == Str.ofString ".") = true → pl = true → CutCase g pl ah be nm cut st (some (ah, be)) nm
  | lead : (g == Str.ofString ".") = true → pl = false → CutCase g pl ah be nm cut st cut st
  | no : (g == Str.ofString ".") = false → CutCase g pl ah be nm cut st cut st
inductive PlCase (g : Str) (pl : Bool) : Bool → Prop
  | dot : (g == Str.ofString ".") = true → PlCase g pl pl
  | no : (g == Str.ofString ".") = false → PlCase g pl true
inductive MtCase (fo nm g : Str) (mt : Int) : Int → Prop
  | a : mt ≠ (nm.length : Int) → MtCase fo nm g mt mt
  | b : ¬ mt < (((Str.ofString "_").length + fo.length + (Str.ofString "__").length : Nat) : Int) → MtCase fo nm g mt mt
  | c : (Txt.item (Str.ofString "_" ++ fo ++ Str.ofString "__") mt == g) = false → MtCase fo nm g mt mt
  | d : mt = (nm.length : Int) → mt < (((Str.ofString "_").length + fo.length + (Str.ofString "__").length : Nat) : Int) → (Txt.item (Str.ofString "_" ++ fo ++ Str.ofString "__") mt == g) = true → MtCase fo nm g mt (mt + 1)
inductive AbCase (g : Str) (ah be : Int) : Int → Int → Prop
  | other : (g != Str.ofString "_") = true → AbCase g ah be ah 0
  | dot : (g == Str.ofString ".") = true → AbCase g ah be ah 0
  | lead : (g != Str.ofString "_") = false → be < 0 → AbCase g ah be (ah + 1) be
  | tail : (g != Str.ofString "_") = false → ¬ be < 0 → AbCase g ah be ah (be + 1)
theorem dot_other {g : Str} (h : (g == Str.ofString ".") = true) : (g != Str.ofString "_") = true := by
  have e : g = Str.ofString "." := by simpa using h
  subst e; decide
theorem told_gen {fo nm st st' : Str} {ah be mt ah' be' mt' : Int} {cut cut' : Option (Int × Int)} {pl pl' : Bool} {pre : List Int} {n : Nat}
    (hS : (⟨fo, nm, ah, be, cut, st, mt, pl⟩ : TS) = told pre) (h0 : ((⟨#[n]⟩ : Str) == Str.ofString "/") = false)
    (hc : CutCase ⟨#[n]⟩ pl ah be nm cut st cut' st') (hm : MtCase fo nm ⟨#[n]⟩ mt mt') (hb : AbCase ⟨#[n]⟩ ah be ah' be') (hp : PlCase ⟨#[n]⟩ pl pl') :
    (⟨fo, nm ++ ⟨#[n]⟩, ah', be', cut', st', mt', pl'⟩ : TS) = told (pre ++ [(n : Int)]) := by
  rw [told_snoc, ← hS]
  have e : (n : Int).toNat = n := Int.toNat_natCast n
  have hl : ((due ⟨fo, nm, ah, be, cut, st, mt, pl⟩).length : Int) = (((Str.ofString "_").length + fo.length + (Str.ofString "__").length : Nat) : Int) := by
    simp only [due]; rw [Str.length_append, Str.length_append]
  unfold tstep
  dsimp only
  rw [e, h0, if_neg Bool.false_ne_true, hl]
  simp only [due]
  congr 1
  · cases hb with
    | other h => rw [if_pos h]
    | dot h => rw [if_pos (dot_other h)]
    | lead h k => rw [if_neg (by rw [h]; exact Bool.false_ne_true), if_pos k]
    | tail h k => rw [if_neg (by rw [h]; exact Bool.false_ne_true), if_neg k]
  · cases hb with
    | other h => rw [if_pos h]
    | dot h => rw [if_pos (dot_other h)]
    | lead h k => rw [if_neg (by rw [h]; exact Bool.false_ne_true), if_pos k]
    | tail h k => rw [if_neg (by rw [h]; exact Bool.false_ne_true), if_neg k]
  · cases hc with
    | dot h k => rw [if_pos ⟨h, k⟩]
    | lead h k => rw [if_neg (fun q => by rw [k] at q; cases q.2)]
    | no h => rw [if_neg (fun q => by rw [h] at q; cases q.1)]
  · cases hc with
    | dot h k => rw [if_pos ⟨h, k⟩]
    | lead h k => rw [if_neg (fun q => by rw [k] at q; cases q.2)]
    | no h => rw [if_neg (fun q => by rw [h] at q; cases q.1)]
  · cases hm with
    | a h => exact (if_neg (fun q => h q.1)).symm
    | b h => exact (if_neg (fun q => h q.2.1)).symm
    | c h => exact (if_neg (fun q => by have q2 := q.2.2; rw [h] at q2; cases q2)).symm
    | d h k l => exact (if_pos ⟨h, k, l⟩).symm
  · cases hp with
    | dot h => rw [if_neg (by rw [bne, h]; decide)]
    | no h => rw [if_pos (by rw [bne, h]; rfl)]
theorem told_slash {fo nm st : Str} {ah be mt : Int} {cut : Option (Int × Int)} {pl : Bool} {pre : List Int} {n : Nat} {fo' : Str}
    (hS : (⟨fo, nm, ah, be, cut, st, mt, pl⟩ : TS) = told pre) (h0 : ((⟨#[n]⟩ : Str) == Str.ofString "/") = true)
    (hf : ((nm != Str.ofString "") = true ∧ fo' = nm) ∨ ((nm != Str.ofString "") = false ∧ fo' = fo)) :
    (⟨fo', Str.ofString "", 0, -1, none, st, 0, false⟩ : TS) = told (pre ++ [(n : Int)]) := by
  rw [told_snoc, ← hS]
  have e : (n : Int).toNat = n := Int.toNat_natCast n
  unfold tstep
  dsimp only
  rw [e, if_pos h0]
  rcases hf with ⟨h, rfl⟩ | ⟨h, rfl⟩
  · rw [if_pos h]
  · rw [if_neg (by rw [h]; exact Bool.false_ne_true)]
theorem one_len (n : Nat) : (⟨#[n]⟩ : Str).length = 1 := rfl
theorem tb_gen {fo nm st st' : Str} {ah be mt ah' be' mt' : Int} {cut cut' : Option (Int × Int)} {pl pl' : Bool} {pre : List Int} {g : Str} {n : Int} (hg : g.length = 1)
    (hB : TB ⟨fo, nm, ah, be, cut, st, mt, pl⟩ pre.length)
    (hc : CutCase g pl ah be nm cut st cut' st') (hm : MtCase fo nm g mt mt') (hb : AbCase g ah be ah' be') :
    TB ⟨fo, nm ++ g, ah', be', cut', st', mt', pl'⟩ (pre ++ [n]).length := by
  obtain ⟨bf, bn, bs, ba0, ba1, bb0, bb1, bm0, bm1⟩ := hB
  dsimp only at bf bn bs ba0 ba1 bb0 bb1 bm0 bm1
  have hl : (pre ++ [n]).length = pre.length + 1 := by simp
  have hn : (nm ++ g).length = nm.length + 1 := by rw [Str.length_append, hg]
  rw [hl]
  constructor <;> dsimp only
  · omega
  · omega
  · cases hc <;> omega
  · cases hb <;> omega
  · cases hb <;> omega
  · cases hb <;> omega
  · cases hb <;> omega
  · cases hm <;> omega
  · cases hm <;> omega
theorem tb_slash {fo nm st : Str} {ah be mt : Int} {cut : Option (Int × Int)} {pl : Bool} {pre : List Int} {n : Int} {fo' : Str} (hB : TB ⟨fo, nm, ah, be, cut, st, mt, pl⟩ pre.length)
    (hf : ((nm != Str.ofString "") = true ∧ fo' = nm) ∨ ((nm != Str.ofString "") = false ∧ fo' = fo)) : TB ⟨fo', Str.ofString "", 0, -1, none, st, 0, false⟩ (pre ++ [n]).length := by
  obtain ⟨bf, bn, bs, ba0, ba1, bb0, bb1, bm0, bm1⟩ := hB
  dsimp only at bf bn bs ba0 ba1 bb0 bb1 bm0 bm1
  have hl : (pre ++ [n]).length = pre.length + 1 := by simp
  have he : (Str.ofString "").length = 0 := by decide
  rw [hl]
  constructor <;> dsimp only
  · rcases hf with ⟨_, rfl⟩ | ⟨_, rfl⟩ <;> omega
  all_goals omega
theorem ite_ne_t {a b : Str} {P Q : Prop} (h : (a == b) = false) (p : P) : if (a != b) = true then P else Q := by rw [if_pos (by rw [bne, h]; rfl)]; exact p
theorem ite_ne_f {a b : Str} {P Q : Prop} (h : (a == b) = true) (q : Q) : if (a != b) = true then P else Q := by rw [if_neg (by rw [bne, h]; decide)]; exact q
theorem ite_ne_o {a b c : Str} {P Q : Prop} (h : (a == c) = true) (hn : (c != b) = true) (p : P) : if (a != b) = true then P else Q := by
  have e : a = c := by simpa using h
  rw [e, if_pos hn]; exact p
theorem mem_same {D : Addr} {o : Obj} {news own : List (Addr × Obj)} : ∀ p ∈ (D, o) :: news, p ∈ (D, o) :: news ++ own := fun _ hp => List.mem_append.mpr (.inl hp)
theorem mem_new {l D : Addr} {o o' : Obj} {news own : List (Addr × Obj)} : ∀ p ∈ (l, o) :: news, p ∈ (l, o) :: ((D, o') :: news ++ own) := fun _ hp => by
  rcases List.mem_cons.mp hp with rfl | hp
  · exact .head _
  · exact .tail _ (List.mem_append.mpr (.inl (.tail _ hp)))
theorem own_same {D : Addr} {o : Obj} {news own : List (Addr × Obj)} : ∀ p ∈ own, p ∈ (D, o) :: news ++ own := fun _ hp => List.mem_append.mpr (.inr hp)
theorem own_new {l D : Addr} {o o' : Obj} {news own : List (Addr × Obj)} : ∀ p ∈ own, p ∈ (l, o) :: ((D, o') :: news ++ own) := fun _ hp => .tail _ (own_same _ hp)
theorem off_new {l D : Addr} {o o' : Obj} {news own : List (Addr × Obj)} (hoff : OwnOff own (((D, o') :: news).map (·.1))) (hl : ∀ p ∈ own, p.1 < l) : OwnOff own (((l, o) :: news).map (·.1)) := by
  intro p hp b hb
  rcases List.mem_cons.mp hb with rfl | hb
  · exact Nat.ne_of_lt (hl p hp)
  · exact hoff p hp b (.tail _ hb)
/-- what the reader says at the end -/
def tHid (S : TS) : Bool := decide (S.matched = (S.folder.length : Int) + 3) && decide (S.matched < (S.name.length : Int)) && decide ((if S.behind < 0 then S.ahead else S.behind) < 2)
def tStem (S : TS) : Str := match S.cut with | none => S.name | some _ => S.stem
def tCut (S : TS) : List Int := match S.cut with | none => [S.ahead, S.behind] | some (a, b) => [a, b]
def ToldIs (S : TS) (vals : List Value) : Prop := ∃ t1 t2 t3, vals = [.str S.name t1, .str (tStem S) t2, .str S.folder t3, .bool (decide ([S.ahead, S.behind] = [2, 2])), .bool (decide ([S.ahead, S.behind] = [1, 1])),
  .bool (decide (tCut S = [2, 2])), .bool (decide (tCut S = [1, 1])), .bool (tHid S)]
theorem toldIs_none {fo nm st : Str} {ah be mt : Int} {pl b : Bool} {t1 t2 t3 : Tok} {S : TS} (hS : (⟨fo, nm, ah, be, none, st, mt, pl⟩ : TS) = S) (hb : b = tHid ⟨fo, nm, ah, be, none, st, mt, pl⟩) :
    ToldIs S [.str nm t1, .str nm t2, .str fo t3, .bool (decide ([ah, be] = [2, 2])), .bool (decide ([ah, be] = [1, 1])), .bool (decide ([ah, be] = [2, 2])), .bool (decide ([ah, be] = [1, 1])), .bool b] := by
  subst hS; subst hb; exact ⟨t1, t2, t3, rfl⟩
theorem toldIs_some {fo nm st : Str} {ah be mt ca cb : Int} {pl b : Bool} {t1 t2 t3 : Tok} {S : TS} (hS : (⟨fo, nm, ah, be, some (ca, cb), st, mt, pl⟩ : TS) = S) (hb : b = tHid ⟨fo, nm, ah, be, some (ca, cb), st, mt, pl⟩) :
    ToldIs S [.str nm t1, .str st t2, .str fo t3, .bool (decide ([ah, be] = [2, 2])), .bool (decide ([ah, be] = [1, 1])), .bool (decide ([ca, cb] = [2, 2])), .bool (decide ([ca, cb] = [1, 1])), .bool b] := by
  subst hS; subst hb; exact ⟨t1, t2, t3, rfl⟩
theorem hid_a {fo nm st : Str} {ah be mt : Int} {pl : Bool} {c : Option (Int × Int)} (h : mt ≠ (fo.length : Int) + 3) : decide (mt = (fo.length : Int) + 3) = tHid ⟨fo, nm, ah, be, c, st, mt, pl⟩ := by
  unfold tHid; dsimp only; rw [decide_eq_false h]; rfl
theorem hid_b {fo nm st : Str} {ah be mt : Int} {pl : Bool} {c : Option (Int × Int)} (h : mt = (fo.length : Int) + 3) (k : ¬ mt < (nm.length : Int)) : decide (mt < (nm.length : Int)) = tHid ⟨fo, nm, ah, be, c, st, mt, pl⟩ := by
  unfold tHid; dsimp only; rw [decide_eq_false k, decide_eq_true h]; rfl
theorem hid_c {fo nm st : Str} {ah be mt : Int} {pl : Bool} {c : Option (Int × Int)} (h : mt = (fo.length : Int) + 3) (k : mt < (nm.length : Int)) (l : be < 0) : decide (ah < 2) = tHid ⟨fo, nm, ah, be, c, st, mt, pl⟩ := by
  unfold tHid; dsimp only; rw [decide_eq_true k, decide_eq_true h, if_pos l]; rfl
theorem hid_d {fo nm st : Str} {ah be mt : Int} {pl : Bool} {c : Option (Int × Int)} (h : mt = (fo.length : Int) + 3) (k : mt < (nm.length : Int)) (l : ¬ be < 0) : decide (be < 2) = tHid ⟨fo, nm, ah, be, c, st, mt, pl⟩ := by
  unfold tHid; dsimp only; rw [decide_eq_true k, decide_eq_true h, if_neg l]; rfl
theorem news_last {h₀ h : Heap} {L a : Addr} {o : Obj} {news rest : List (Addr × Obj)} (N : News h₀ L h ((a, o) :: rest)) (hs : ∀ p ∈ news, p ∈ rest) : News h₀ L h ((a, o) :: news) := fun p hp => by
  rcases List.mem_cons.mp hp with rfl | hp
  · exact N _ (.head _)
  · exact N p (.tail _ (hs p hp))
theorem ite_cons_nil {α : Type} [DecidableEq α] {a : α} {l : List α} {P Q : Prop} (q : Q) : if decide (a :: l = []) = true then P else Q := by rw [if_neg (by simp)]; exact q
theorem tnames_all : (["folder", "name", "ahead", "behind", "cut", "stem", "matched", "plain"].map Str.ofString).all (tNames.contains ·) = true := by decide
theorem off_tps {m₀ u : Str → Option Value} (c : TC) (h : Off tNames m₀ u) : Off tNames m₀ (fun z => kstB u (tPs c) z) := off_kstB tnames_all h
theorem tb0 : TB ts0 0 := by constructor <;> decide
end Mine

-- Tw
namespace Mine
local macro_rules | `(tactic| walk_at "mine block Tw 0") => `(tactic| fail)
local macro_rules | `(tactic| walk_at "mine block Tw 1") => `(tactic| fail)
local macro_rules | `(tactic| walk_at "mine block Tw 2") => `(tactic| fail)
local macro_rules | `(tactic| walk_at "mine block Tw 3") => `(tactic| fail)
local macro_rules | `(tactic| walk_at "mine block Tw 4") => `(tactic| fail)
local macro_rules | `(tactic| walk_at "execs cons") => `(tactic| (k_here; (with_reducible show wpAny _ _ _ _ _ (Shared.mk _ _ _ (_ + _) _)); refine Mine.gen_toks ?_; intro tk))
local macro_rules | `(tactic| walk_at "ite") => `(tactic| (k_here; (with_reducible show (if (_ != _) = true then _ else _)); first | refine Mine.ite_ne_t (by with_reducible assumption) ?_ | refine Mine.ite_ne_f (by with_reducible assumption) ?_ | refine Mine.ite_ne_o (by with_reducible assumption) (by decide) ?_))
local macro_rules | `(tactic| walk_at "ite") => `(tactic| (k_here; refine Mine.ite_cons_nil ?_))
local macro_rules | `(tactic| walk_at "newList") => `(tactic| (k_here; k_dflt (refine' newList_K ?k1 ?k2 ?_ (Nat.le_of_ble_eq_true rfl); (case k1 => k_asm); (case k2 => k_asm); k_whole); intro l' h' F' N' l1))
set_option maxRecDepth 100000 in
set_option maxHeartbeats 8000000 in
theorem told_c (w : World) (x : Str) (t : Tok) : Calls0 w 167 8 (x.length ≤ 200) [.str x t] (fun h₀ L m news s Q => RetL h₀ L m news s Q (ToldIs (told (KStt.codes x)))) := by
  unfold Calls0; w_top off; k_fill
  intro mean mg mb news dp un gd cn cs a ccd cl outer A₀ base h₀ L m s Q E pre B F X N T hk hd hu hret
  refine wpAny_call ?_
  k_dflt cell_enter
  k_with "pyIter str" => fail
  k_steps
  with_unfolding_all refine' text_loop (tLed news) tPs (fun c => CutIs c.vs c.S.cut) tNames tP ⟨ts0, _, _, _, _, _, _, _, [], _⟩ (by rfl) (by assumption) ?kn ?kk ?kf ?kp ?turn ?done
  case kk => kst_all
  case kn => assumption
  case kf => exact rfl
  case kp => exact ⟨rfl, tb0⟩
  case turn =>
    rintro ⟨⟨fo, nm, ah, be, cut, st, mt, pl⟩, t1, t2, t3, t4, t5, t6, D, vs, n⟩ pre post ch tc u h1 tk1 own heq hoff hcut ⟨hS, hB⟩ hu F1 N1
    have hMk := kstMark
    dsimp only [tLed, tPs] at hoff hcut F1 N1
    dsimp only at hS hB
    have hB' := hB
    obtain ⟨bf, bn, bs, ba0, ba1, bb0, bb1, bm0, bm1⟩ := hB
    dsimp only at bf bn bs ba0 ba1 bb0 bb1 bm0 bm1
    have hlen := congrArg List.length heq
    rw [KStt.codes_length, List.length_append, List.length_cons] at hlen
    clear hret
    (try k_fold)
    k_steps
    all_goals first
      | (refine' text_end ⟨⟨_, _, _, _, cut, _, _, _⟩, _, _, _, _, _, _, D, vs, n⟩ (by assumption) (by assumption) ?kk ?hn ?ho ?ha ?hf ?hr ?hp
         case kk => kst_all
         case hn => exact mem_same
         case ho => exact own_same
         case ha => exact hoff
         case hf => exact hcut
         case hr => (repeat (first | exact off_tps ⟨⟨fo, nm, ah, be, cut, st, mt, pl⟩, t1, t2, t3, t4, t5, t6, D, vs, n⟩ hu | refine off_set (by decide) ?_))
         case hp =>
           dsimp only [tP]
           refine ⟨told_gen hS (by assumption) ?_ ?_ ?_ ?_, tb_gen (one_len _) hB' ?_ ?_ ?_⟩
           all_goals first
             | exact .no (by assumption)
             | exact .lead (by assumption) (by assumption)
             | exact .dot (by assumption) (by assumption)
             | exact .dot (by assumption)
             | exact .other (by assumption)
             | exact .tail (by assumption) (by assumption)
             | exact .a (by assumption)
             | exact .b (by assumption)
             | exact .c (by assumption)
             | exact .d (by assumption) (by assumption) (by assumption))
      | (refine' text_end ⟨⟨_, _, _, _, none, _, _, _⟩, _, _, _, _, _, _, _, _, _⟩ (by assumption) (by assumption) ?kk ?hn ?ho ?ha ?hf ?hr ?hp
         case kk => kst_all
         case hn => exact mem_new
         case ho => exact own_new
         case ha => exact off_new hoff (fun p hp => (by assumption : ∀ p ∈ (D, listOf vs.toArray n) :: news ++ own, p.1 < _) p (own_same p hp))
         case hf => exact rfl
         case hr => (repeat (first | exact off_tps ⟨⟨fo, nm, ah, be, cut, st, mt, pl⟩, t1, t2, t3, t4, t5, t6, D, vs, n⟩ hu | refine off_set (by decide) ?_))
         case hp =>
           dsimp only [tP]
           refine ⟨told_slash hS (by assumption) ?_, tb_slash hB' ?_⟩
           all_goals first
             | exact .inl ⟨by assumption, rfl⟩
             | exact .inr ⟨by assumption, rfl⟩)
      | (refine' text_end ⟨⟨_, _, _, _, some (ah, be), _, _, _⟩, _, _, _, _, _, _, _, _, _⟩ (by assumption) (by assumption) ?kk ?hn ?ho ?ha ?hf ?hr ?hp
         case kk => kst_all
         case hn => exact mem_new
         case ho => exact own_new
         case ha => exact off_new hoff (fun p hp => (by assumption : ∀ p ∈ (D, listOf vs.toArray n) :: news ++ own, p.1 < _) p (own_same p hp))
         case hf => exact ⟨_, _, rfl⟩
         case hr => (repeat (first | exact off_tps ⟨⟨fo, nm, ah, be, cut, st, mt, pl⟩, t1, t2, t3, t4, t5, t6, D, vs, n⟩ hu | refine off_set (by decide) ?_))
         case hp =>
           dsimp only [tP]
           refine ⟨told_gen hS (by assumption) ?_ ?_ ?_ ?_, tb_gen (one_len _) hB' ?_ ?_ ?_⟩
           all_goals first
             | exact .no (by assumption)
             | exact .lead (by assumption) (by assumption)
             | exact .dot (by assumption) (by assumption)
             | exact .dot (by assumption)
             | exact .other (by assumption)
             | exact .tail (by assumption) (by assumption)
             | exact .a (by assumption)
             | exact .b (by assumption)
             | exact .c (by assumption)
             | exact .d (by assumption) (by assumption) (by assumption))
  case done =>
    rintro ⟨⟨fo, nm, ah, be, cut, st, mt, pl⟩, t1, t2, t3, t4, t5, t6, D, vs, n⟩ u h1 tk1 hcut ⟨hS, hB⟩ hu F1 N1
    dsimp only [tLed, tPs] at hcut F1 N1
    dsimp only at hS hB
    rw [KStt.codes_length] at hB
    obtain ⟨bf, bn, bs, ba0, ba1, bb0, bb1, bm0, bm1⟩ := hB
    dsimp only at bf bn bs ba0 ba1 bb0 bb1 bm0 bm1
    rcases cut with _ | ⟨ca, cb⟩
    · have e : vs = [] := hcut
      subst e
      (try k_fold)
      k_steps
      all_goals
        refine hret _ _ _ _ (toldIs_none hS ?_) (by assumption) (news_last (by assumption) ?_)
        · first | exact hid_a (by assumption) | exact hid_b (by assumption) (by assumption) | exact hid_c (by assumption) (by assumption) (by assumption) | exact hid_d (by assumption) (by assumption) (by assumption)
        · intro p hp
          repeat (first | exact hp | refine List.Mem.tail _ ?_)
    · obtain ⟨ct, cu, e⟩ := hcut
      subst e
      (try k_fold)
      k_steps
      all_goals
        refine hret _ _ _ _ (toldIs_some hS ?_) (by assumption) (news_last (by assumption) ?_)
        · first | exact hid_a (by assumption) | exact hid_b (by assumption) (by assumption) | exact hid_c (by assumption) (by assumption) (by assumption) | exact hid_d (by assumption) (by assumption) (by assumption)
        · intro p hp
          repeat (first | exact hp | refine List.Mem.tail _ ?_)
end Mine

-- La
namespace Mine
/-- a list of signs as a text -/
def sl (l : List Nat) : Str := ⟨l.toArray⟩
theorem sl_len (l : List Nat) : (sl l).length = l.length := by simp [sl, Str.length]
theorem sl_list (l : List Nat) : (sl l).cps.toList = l := by simp [sl]
theorem sl_of (x : Str) : sl x.cps.toList = x := Str.ext' (by simp [sl])
theorem sl_inj {l m : List Nat} : sl l = sl m ↔ l = m := ⟨fun h => by rw [← sl_list l, h, sl_list], fun h => by rw [h]⟩
theorem sl_append (l m : List Nat) : sl l ++ sl m = sl (l ++ m) := Str.ext' (by rw [Str.cps_append]; simp [sl])
theorem sl_beq (l m : List Nat) : (sl l == sl m) = decide (l = m) := by
  by_cases h : l = m
  · rw [h]; simp
  · rw [decide_eq_false h]; exact beq_false_of_ne fun e => h (sl_inj.mp e)
theorem lit_slash : Str.ofString "/" = sl [47] := by decide
theorem lit_dot : Str.ofString "." = sl [46] := by decide
theorem lit_us : Str.ofString "_" = sl [95] := by decide
theorem lit_us2 : Str.ofString "__" = sl [95, 95] := by decide
theorem lit_nil : Str.ofString "" = sl [] := by decide
theorem sl_one (c : Nat) : (⟨#[c]⟩ : Str) = sl [c] := rfl
/-- the last place of a sign -/
theorem rfind_one (l : List Nat) (c : Nat) : (c ∉ l ∧ Txt.rfind (sl l) (sl [c]) = -1) ∨ ∃ p q, l = p ++ c :: q ∧ c ∉ q ∧ Txt.rfind (sl l) (sl [c]) = (p.length : Int) := by
  have at_iff : ∀ i, StrLaws.At (sl l) (sl [c]) (sl l).length i ↔ l[i]? = some c := by
    intro i
    unfold StrLaws.At
    rw [StrLaws.subAt_eq, sl_list, sl_list, sl_len, sl_len]
    constructor
    · rintro ⟨h1, h2⟩
      have hi : i < l.length := by rw [List.length_cons, List.length_nil] at h1; omega
      have e : (l.drop i).take 1 = [c] := by simpa using h2
      have e2 : (l.drop i)[0]? = some c := by
        have := congrArg (·[0]?) e
        simpa [List.getElem?_take] using this
      simpa using e2
    · intro h
      obtain ⟨hi, e⟩ := List.getElem?_eq_some_iff.mp h
      refine ⟨by rw [List.length_cons, List.length_nil]; omega, ?_⟩
      have e3 : l.drop i = c :: l.drop (i + 1) := by rw [List.drop_eq_getElem_cons hi, e]
      simp [e3]
  rcases StrLaws.last_spec (sl l) (sl [c]) with ⟨h1, h2⟩ | ⟨i, h1, h2, h3⟩
  · refine .inl ⟨fun hm => ?_, by unfold Txt.rfind; rw [h1]⟩
    obtain ⟨i, hi, e⟩ := List.mem_iff_getElem.mp hm
    exact h2 i ((at_iff i).mpr (List.getElem?_eq_some_iff.mpr ⟨hi, e⟩))
  · obtain ⟨hi, e⟩ := List.getElem?_eq_some_iff.mp ((at_iff i).mp h2)
    refine .inr ⟨l.take i, l.drop (i + 1), ?_, fun hm => ?_, ?_⟩
    · rw [← e, ← List.drop_eq_getElem_cons hi, List.take_append_drop]
    · obtain ⟨k, hk, ek⟩ := List.mem_iff_getElem.mp hm
      refine h3 (i + 1 + k) (by omega) ((at_iff _).mpr ?_)
      rw [List.getElem_drop] at ek
      rw [List.length_drop] at hk
      exact List.getElem?_eq_some_iff.mpr ⟨by omega, ek⟩
    · unfold Txt.rfind; rw [h1, List.length_take]; simp; omega
theorem sl_from (l : List Nat) (i : Nat) (h : i ≤ l.length) : Txt.slice (sl l) (some (i : Int)) none = sl (l.drop i) := by
  rw [slice_from_eq (b := (l.length : Int)) (by omega) (by rw [sl_len]; omega) (by rw [sl_len]), sl_list]
  unfold sl
  congr 2
  rw [Int.toNat_natCast]
  exact List.take_of_length_le (by rw [List.length_drop]; omega)
theorem sl_to (l : List Nat) (j : Nat) (h : j ≤ l.length) : Txt.slice (sl l) none (some (j : Int)) = sl (l.take j) := by
  have e := eq_of_beq (slice_closes_toL (x := sl l) (j := (j : Int)) (by omega) (by rw [sl_len]; omega))
  rw [e, sl_list]
  unfold sl
  congr 2
theorem sl_single (l : List Nat) (n : Nat) (h : n < l.length) : Txt.slice (sl l) (some (n : Int)) (some ((n : Int) + 1)) = sl [l.getD n 0] := by
  have e := eq_of_beq (slice_one_closes (x := sl l) (n := (n : Int)) (by omega) (by rw [sl_len]; omega))
  rw [e, Int.toNat_natCast, ← getD_list, sl_list]; rfl
theorem sl_last2 (l : List Nat) (h : 2 ≤ l.length) : Txt.slice (sl l) (some (-2)) none = sl (l.drop (l.length - 2)) := by
  rw [slice_from_neg (by decide), sl_len]
  have e : max 0 ((l.length : Int) + -2) = ((l.length - 2 : Nat) : Int) := by omega
  rw [e]; exact sl_from l _ (by omega)
theorem item_pos (l : List Nat) (i : Nat) (h : i < l.length) : Txt.item (sl l) (i : Int) = sl [l.getD i 0] := by
  unfold Txt.item Txt.charAt
  rw [seqIndex_of (by omega) (by rw [sl_len]; omega), Option.bind_some, Int.toNat_natCast]
  unfold sl
  simp [List.getD]
theorem item_neg (l : List Nat) (k : Nat) (h0 : 1 ≤ k) (h : k ≤ l.length) : Txt.item (sl l) (-(k : Int)) = sl [l.getD (l.length - k) 0] := by
  have e := eq_of_beq (item_closes_neg (x := sl l) (i := -(k : Int)) (j := ((l.length - k : Nat) : Int)) (by omega) (by rw [sl_len]; omega) (by rw [sl_len]; omega))
  rw [e, Int.toNat_natCast, ← getD_list, sl_list]; rfl
theorem starts (l m : List Nat) : Txt.startswith (sl l) (sl m) = decide (m.length ≤ l.length ∧ l.take m.length = m) := by
  unfold Txt.startswith
  rw [StrLaws.subAt_eq, sl_list, sl_list, sl_len, sl_len, List.drop_zero, Nat.zero_add, Bool.eq_iff_iff]
  simp
theorem tw_rep {α : Type} (p : α → Bool) {a : α} (h : p a = true) : ∀ (k : Nat) (m : List α), (List.replicate k a ++ m).takeWhile p = List.replicate k a ++ m.takeWhile p
  | 0, m => rfl
  | k + 1, m => by rw [List.replicate_succ, List.cons_append, List.takeWhile_cons, if_pos h, tw_rep p h k m]; rfl
theorem rstrip_to (d : List Nat) (k : Nat) (h : d = [] ∨ ∃ d' c, d = d' ++ [c] ∧ c ≠ 47) : Txt.rstripChars (sl (d ++ List.replicate k 47)) (sl [47]) = sl d := by
  refine Str.ext' (Array.toList_inj.mp ?_)
  unfold Txt.rstripChars
  rw [PyProof.Rows.stripBy_eq, StrLaws.strSub_toList, sl_list, sl_list]
  simp only [stripLo, stripHi, if_true, Bool.false_eq_true, if_false, List.drop_zero, sl_list, sl_len, Nat.sub_zero]
  have e : ((d ++ List.replicate k 47).reverse.takeWhile fun b => (sl [47]).cps.contains b).length = k := by
    rw [List.reverse_append, List.reverse_replicate, tw_rep _ (by simp [sl])]
    have e2 : d.reverse.takeWhile (fun b => (sl [47]).cps.contains b) = [] := by
      rcases h with rfl | ⟨d', c, rfl, hc⟩
      · rfl
      · rw [List.reverse_append, List.reverse_singleton, List.singleton_append, List.takeWhile_cons, if_neg]
        simpa [sl] using hc
    rw [e2]; simp
  rw [e, List.length_append, List.length_replicate, Nat.add_sub_cancel, List.take_left']
  rfl
theorem mul_all (c : Nat) (n : Int) : ∀ b ∈ (Txt.mul (sl [c]) n).cps.toList, b = c := by
  intro b hb
  unfold Txt.mul at hb
  split at hb
  · simp [Str.empty] at hb
  · split at hb
    · rw [sl_list] at hb; simpa using hb
    · have key : ∀ (k : Nat) (a : Array Nat), (∀ b ∈ a.toList, b = c) → ∀ b ∈ ((List.replicate k (sl [c]).cps).foldl (· ++ ·) a).toList, b = c := by
        intro k
        induction k with
        | zero => intro a ha; exact ha
        | succ k ih =>
          intro a ha
          rw [List.replicate_succ, List.foldl_cons]
          refine ih _ fun b hb => ?_
          rw [Array.toList_append, List.mem_append] at hb
          rcases hb with hb | hb
          · exact ha b hb
          · rw [sl_list] at hb; simpa using hb
      exact key _ #[] (by simp) b hb
end Mine

-- Lb
namespace Mine
theorem snoc_ind {α : Type} {P : List α → Prop} (h0 : P []) (h1 : ∀ l a, P l → P (l ++ [a])) (l : List α) : P l := by
  have key : ∀ m : List α, P m.reverse := by
    intro m
    induction m with
    | nil => exact h0
    | cons a m ih => rw [List.reverse_cons]; exact h1 _ _ ih
  have := key l.reverse
  rwa [List.reverse_reverse] at this
/-- the reader's state behind the signs -/
def T (l : List Nat) : TS := told (l.map fun (c : Nat) => (c : Int))
theorem told_T (x : Str) : told (KStt.codes x) = T x.cps.toList := rfl
theorem T_snoc (l : List Nat) (c : Nat) : T (l ++ [c]) = tstep (T l) (c : Int) := by
  unfold T; rw [List.map_append]; exact told_snoc _ _
theorem one_eq (c d : Nat) : ((sl [c] == sl [d]) = true) = (c = d) := by rw [sl_beq]; simp
theorem one_ne (c d : Nat) : ((sl [c] != sl [d]) = true) = (c ≠ d) := by rw [bne, sl_beq]; simp
theorem T_slash (l : List Nat) : T (l ++ [47]) = ⟨if (T l).name ≠ sl [] then (T l).name else (T l).folder, sl [], 0, -1, none, (T l).stem, 0, false⟩ := by
  rw [T_snoc]
  unfold tstep
  dsimp only
  rw [Int.toNat_natCast, sl_one, lit_slash, lit_nil, if_pos (by rw [one_eq])]
  congr 1
  by_cases h : (T l).name = sl []
  · rw [if_neg (by rw [h]; simp), if_neg (by simp [h])]
  · rw [if_pos (by simp [h]), if_pos h]
theorem T_sign (l : List Nat) (c : Nat) (h : c ≠ 47) : T (l ++ [c]) =
    ⟨(T l).folder, (T l).name ++ sl [c], if c ≠ 95 then (T l).ahead else if (T l).behind < 0 then (T l).ahead + 1 else (T l).ahead,
      if c ≠ 95 then 0 else if (T l).behind < 0 then (T l).behind else (T l).behind + 1,
      if c = 46 ∧ (T l).plain = true then some ((T l).ahead, (T l).behind) else (T l).cut,
      if c = 46 ∧ (T l).plain = true then (T l).name else (T l).stem,
      if (T l).matched = ((T l).name.length : Int) ∧ (T l).matched < ((due (T l)).length : Int) ∧ (Txt.item (due (T l)) (T l).matched == sl [c]) = true then (T l).matched + 1 else (T l).matched,
      if c ≠ 46 then true else (T l).plain⟩ := by
  rw [T_snoc]
  unfold tstep
  dsimp only
  rw [Int.toNat_natCast, sl_one, lit_slash, lit_us, lit_dot, if_neg (by rw [one_eq]; exact h)]
  simp only [one_eq, one_ne]
theorem T_nil : T [] = ts0 := rfl
theorem T_free (a : List Nat) : ∀ b : List Nat, 47 ∉ b → (T (a ++ b)).name = (T a).name ++ sl b ∧ (T (a ++ b)).folder = (T a).folder := by
  intro b
  refine snoc_ind (P := fun b => 47 ∉ b → (T (a ++ b)).name = (T a).name ++ sl b ∧ (T (a ++ b)).folder = (T a).folder) ?_ ?_ b
  · intro _
    rw [List.append_nil]
    exact ⟨(Str.append_empty _).symm, rfl⟩
  · intro b c ih hb
    have hc : c ≠ 47 := fun e => hb (by rw [e]; simp)
    obtain ⟨h1, h2⟩ := ih fun hm => hb (by simp [hm])
    rw [← List.append_assoc, T_sign _ _ hc]
    refine ⟨?_, h2⟩
    show (T (a ++ b)).name ++ sl [c] = _
    rw [h1, Str.append_assoc, sl_append]
theorem T_name_nil (a : List Nat) (h : a = [] ∨ ∃ a', a = a' ++ [47]) : (T a).name = sl [] := by
  rcases h with rfl | ⟨a', rfl⟩
  · exact lit_nil
  · rw [T_slash]
theorem nil_app (m : List Nat) : sl [] ++ sl m = sl m := by rw [sl_append]; rfl
theorem pbase_T (l : List Nat) : pbase (sl l) = (T l).name := by
  unfold pbase
  rw [lit_slash]
  rcases rfind_one l 47 with ⟨h1, h2⟩ | ⟨p, q, rfl, h1, h2⟩
  · rw [h2]
    have e := sl_from l 0 (Nat.zero_le _)
    have e2 := (T_free [] l h1).1
    rw [List.nil_append, T_name_nil [] (.inl rfl), nil_app] at e2
    rw [e2]; exact e
  · rw [h2]
    have e := sl_from (p ++ 47 :: q) (p.length + 1) (by simp)
    have e1 : (p ++ 47 :: q).drop (p.length + 1) = q := by
      rw [List.drop_append]; simp
    rw [e1] at e
    have e2 := (T_free (p ++ [47]) q h1).1
    rw [T_name_nil _ (.inr ⟨p, rfl⟩), nil_app, List.append_assoc, List.singleton_append] at e2
    rw [e2, ← e]; rfl
/-- signs ahead of the last run of slashes -/
theorem split_run : ∀ l : List Nat, ∃ d k, l = d ++ List.replicate k 47 ∧ (d = [] ∨ ∃ d' c, d = d' ++ [c] ∧ c ≠ 47) := by
  refine snoc_ind ⟨[], 0, rfl, .inl rfl⟩ ?_
  rintro l c ⟨d, k, rfl, h⟩
  by_cases hc : c = 47
  · exact ⟨d, k + 1, by rw [hc, List.replicate_succ', List.append_assoc], h⟩
  · exact ⟨d ++ List.replicate k 47 ++ [c], 0, by simp, .inr ⟨_, c, rfl, hc⟩⟩
theorem T_run (d : List Nat) : ∀ k : Nat, (T (d ++ List.replicate (k + 1) 47)).folder = (if (T d).name ≠ sl [] then (T d).name else (T d).folder) ∧ (T (d ++ List.replicate (k + 1) 47)).name = sl []
  | 0 => by rw [show List.replicate (0 + 1) 47 = [47] from rfl, T_slash]; exact ⟨rfl, rfl⟩
  | k + 1 => by
    obtain ⟨h1, h2⟩ := T_run d k
    rw [List.replicate_succ', ← List.append_assoc, T_slash]
    refine ⟨?_, rfl⟩
    show (if (T (d ++ List.replicate (k + 1) 47)).name ≠ sl [] then _ else (T (d ++ List.replicate (k + 1) 47)).folder) = _
    rw [h2, if_neg (by simp), h1]
theorem phead_some {p q : List Nat} (h : Txt.rfind (sl (p ++ 47 :: q)) (sl [47]) = (p.length : Int)) : phead (sl (p ++ 47 :: q)) = sl (p ++ [47]) := by
  unfold phead
  rw [lit_slash, h]
  have e := sl_to (p ++ 47 :: q) (p.length + 1) (by simp)
  have e1 : (p ++ 47 :: q).take (p.length + 1) = p ++ [47] := by
    rw [List.take_append, List.take_of_length_le (by omega)]; simp
  rw [e1] at e
  rw [← e]; rfl
theorem pdir_T (l : List Nat) : pbase (pdir (sl l)) = (T l).folder := by
  rcases rfind_one l 47 with ⟨h1, h2⟩ | ⟨p, q, rfl, h1, h2⟩
  · have e : phead (sl l) = sl [] := by
      unfold phead
      rw [lit_slash, h2]
      exact sl_to l 0 (Nat.zero_le _)
    unfold pdir
    rw [e, if_neg (by rw [sl_len]; simp), pbase_T]
    have e2 := (T_free [] l h1).2
    rw [List.nil_append] at e2
    rw [e2]; rfl
  · have e := phead_some h2
    have e2 : (T (p ++ 47 :: q)).folder = (T (p ++ [47])).folder := by
      have := (T_free (p ++ [47]) q h1).2
      rwa [List.append_assoc, List.singleton_append] at this
    obtain ⟨d, k, hd, h⟩ := split_run (p ++ [47])
    obtain ⟨k, rfl⟩ : ∃ k', k = k' + 1 := by
      cases k with
      | succ k => exact ⟨k, rfl⟩
      | zero =>
        exfalso
        rw [List.replicate_zero, List.append_nil] at hd
        rcases h with rfl | ⟨d', c, rfl, hc⟩
        · simp at hd
        · exact hc (by simpa using (List.append_inj' hd rfl).2.symm)
    rw [e2, hd, (T_run d k).1]
    unfold pdir
    rw [e, hd]
    have er := rstrip_to d (k + 1) h
    rcases h with rfl | ⟨d', c, rfl, hc⟩
    · have hf : (if (T ([] : List Nat)).name ≠ sl [] then (T []).name else (T []).folder) = sl [] := by
        rw [if_neg (by rw [T_name_nil [] (.inl rfl)]; simp)]; exact lit_nil
      rw [hf]
      have e3 : pbase (sl ([] ++ List.replicate (k + 1) 47)) = sl [] := by
        rw [pbase_T]; exact (T_run [] k).2
      have e4 : pbase (sl []) = sl [] := by rw [pbase_T]; exact T_name_nil _ (.inl rfl)
      split
      · rw [lit_slash, er, e4]
      · rw [e3]
    · have hn : (T (d' ++ [c])).name ≠ sl [] := by
        rw [T_sign _ _ hc]
        intro e5
        have := congrArg Str.length e5
        rw [Str.length_append, sl_len, sl_len] at this
        simp at this
      have hl : ((sl (d' ++ [c] ++ List.replicate (k + 1) 47)).length : Int) ≠ 0 := by rw [sl_len]; simp; omega
      have hm : (sl (d' ++ [c] ++ List.replicate (k + 1) 47) != Txt.mul (Str.ofString "/") ((sl (d' ++ [c] ++ List.replicate (k + 1) 47)).length : Int)) = true := by
        rw [lit_slash, bne, Bool.not_eq_true', beq_eq_false_iff_ne]
        intro e5
        have := mul_all 47 _ c (by rw [← e5, sl_list]; simp)
        exact hc this
      rw [if_pos hn, if_pos ⟨hl, hm⟩, lit_slash, er, pbase_T]
end Mine

-- Lc
namespace Mine
theorem gd_left (n : List Nat) (c i : Nat) (h : i < n.length) : (n ++ [c]).getD i 0 = n.getD i 0 := by
  simp [List.getD, List.getElem?_append_left h]
theorem gd_last (n : List Nat) (c : Nat) : (n ++ [c]).getD n.length 0 = c := by simp [List.getD]
theorem len_snoc (n : List Nat) (c : Nat) : (n ++ [c]).length = n.length + 1 := by simp
/-- underscores ahead of the first other sign, and behind the last one (none: -1) -/
def ABis (n : List Nat) (a b : Int) : Prop :=
  (b = -1 ∧ a = (n.length : Int) ∧ ∀ i, i < n.length → n.getD i 0 = 95) ∨
  ∃ p q : Nat, a = (p : Int) ∧ b = (q : Int) ∧ p < n.length ∧ q < n.length ∧ (∀ i, i < p → n.getD i 0 = 95) ∧ n.getD p 0 ≠ 95 ∧ (∀ i, i < q → n.getD (n.length - 1 - i) 0 = 95) ∧ n.getD (n.length - 1 - q) 0 ≠ 95
theorem ab_nil : ABis [] 0 (-1) := .inl ⟨rfl, rfl, fun _ h => absurd h (Nat.not_lt_zero _)⟩
theorem ab_other {n : List Nat} {a b : Int} {c : Nat} (hc : c ≠ 95) (h : ABis n a b) : ABis (n ++ [c]) a 0 := by
  rcases h with ⟨rfl, rfl, h⟩ | ⟨p, q, rfl, rfl, hp, hq, h1, h2, h3, h4⟩
  · refine .inr ⟨n.length, 0, rfl, rfl, by rw [len_snoc]; omega, by rw [len_snoc]; omega, fun i hi => by rw [gd_left _ _ _ hi]; exact h i hi, by rw [gd_last]; exact hc, fun i hi => absurd hi (Nat.not_lt_zero _), ?_⟩
    rw [len_snoc, show n.length + 1 - 1 - 0 = n.length by omega, gd_last]; exact hc
  · refine .inr ⟨p, 0, rfl, rfl, by rw [len_snoc]; omega, by rw [len_snoc]; omega, fun i hi => by rw [gd_left _ _ _ (by omega)]; exact h1 i hi, by rw [gd_left _ _ _ hp]; exact h2, fun i hi => absurd hi (Nat.not_lt_zero _), ?_⟩
    rw [len_snoc, show n.length + 1 - 1 - 0 = n.length by omega, gd_last]; exact hc
theorem ab_lead {n : List Nat} {a b : Int} (hb : b < 0) (h : ABis n a b) : ABis (n ++ [95]) (a + 1) b := by
  rcases h with ⟨rfl, rfl, h⟩ | ⟨p, q, rfl, rfl, _⟩
  · refine .inl ⟨rfl, by rw [len_snoc]; omega, fun i hi => ?_⟩
    rw [len_snoc] at hi
    by_cases e : i = n.length
    · rw [e, gd_last]
    · rw [gd_left _ _ _ (by omega)]; exact h i (by omega)
  · omega
theorem ab_tail {n : List Nat} {a b : Int} (hb : ¬ b < 0) (h : ABis n a b) : ABis (n ++ [95]) a (b + 1) := by
  rcases h with ⟨rfl, rfl, h⟩ | ⟨p, q, rfl, rfl, hp, hq, h1, h2, h3, h4⟩
  · omega
  · refine .inr ⟨p, q + 1, rfl, rfl, by rw [len_snoc]; omega, by rw [len_snoc]; omega, fun i hi => by rw [gd_left _ _ _ (by omega)]; exact h1 i hi, by rw [gd_left _ _ _ hp]; exact h2, fun i hi => ?_, ?_⟩
    · rw [len_snoc]
      by_cases e : i = 0
      · rw [e, show n.length + 1 - 1 - 0 = n.length by omega, gd_last]
      · rw [gd_left _ _ _ (by omega), show n.length + 1 - 1 - i = n.length - 1 - (i - 1) by omega]
        exact h3 (i - 1) (by omega)
    · rw [len_snoc, gd_left _ _ _ (by omega), show n.length + 1 - 1 - (q + 1) = n.length - 1 - q by omega]
      exact h4
theorem take_two (n : List Nat) (h : 2 ≤ n.length) : n.take 2 = [n.getD 0 0, n.getD 1 0] := by
  match n, h with
  | a :: b :: r, _ => rfl
theorem drop_two (n : List Nat) (h : 2 ≤ n.length) : n.drop (n.length - 2) = [n.getD (n.length - 2) 0, n.getD (n.length - 1) 0] := by
  have h1 : n.length - 2 < n.length := by omega
  have h2 : n.length - 1 < n.length := by omega
  rw [List.drop_eq_getElem_cons h1, show n.length - 2 + 1 = n.length - 1 by omega, List.drop_eq_getElem_cons h2, List.drop_eq_nil_of_le (by omega)]
  simp [List.getD, List.getElem?_eq_getElem h1, List.getElem?_eq_getElem h2]
theorem dun_ab {n : List Nat} {a b : Int} (h : ABis n a b) : pdun (sl n) = decide ([a, b] = [2, 2]) := by
  rw [Bool.eq_iff_iff]
  unfold pdun
  rw [sl_len]
  by_cases hL : 4 < n.length
  · have e1 := sl_to n 2 (by omega)
    have e2 := sl_last2 n (by omega)
    have e3 := item_pos n 2 (by omega)
    have e4 := item_neg n 3 (by omega) (by omega)
    rw [show (some ((2 : Nat) : Int)) = some 2 from rfl] at e1
    rw [show ((2 : Nat) : Int) = 2 from rfl] at e3
    rw [show (-((3 : Nat) : Int)) = -3 from rfl] at e4
    rw [e1, e2, e3, e4, take_two n (by omega), drop_two n (by omega), lit_us, lit_us2, bne, bne]
    simp only [sl_beq, decide_eq_true_eq, Bool.and_eq_true, Bool.not_eq_true', decide_eq_false_iff_not, List.cons.injEq, and_true]
    constructor
    · rintro ⟨⟨⟨⟨_, h1, h2⟩, h3, h4⟩, h5⟩, h6⟩
      rcases h with ⟨rfl, rfl, h⟩ | ⟨p, q, rfl, rfl, hp, hq, k1, k2, k3, k4⟩
      · exact absurd (h 2 (by omega)) h5
      · have p2 : p = 2 := by
          rcases Nat.lt_trichotomy p 2 with hlt | heq | hgt
          · exfalso
            have : p = 0 ∨ p = 1 := by omega
            rcases this with rfl | rfl
            · exact k2 (h1.trans h3)
            · exact k2 (h2.trans h4)
          · exact heq
          · exact absurd (k1 2 hgt) h5
        have q2 : q = 2 := by
          rcases Nat.lt_trichotomy q 2 with hlt | heq | hgt
          · exfalso
            have : q = 0 ∨ q = 1 := by omega
            rcases this with rfl | rfl
            · exact k4 h4
            · exact k4 (by rw [show n.length - 1 - 1 = n.length - 2 by omega]; exact h3)
          · exact heq
          · have := k3 2 hgt
            rw [show n.length - 1 - 2 = n.length - 3 by omega] at this
            exact absurd this h6
        subst p2 q2
        exact ⟨rfl, rfl⟩
    · rintro ⟨ha, hb⟩
      rcases h with ⟨rfl, rfl, h⟩ | ⟨p, q, rfl, rfl, hp, hq, k1, k2, k3, k4⟩
      · omega
      · have p2 : p = 2 := by omega
        have q2 : q = 2 := by omega
        subst p2 q2
        have r0 := k3 0 (by omega)
        have r1 := k3 1 (by omega)
        rw [show n.length - 1 - 0 = n.length - 1 by omega] at r0
        rw [show n.length - 1 - 1 = n.length - 2 by omega] at r1
        rw [show n.length - 1 - 2 = n.length - 3 by omega] at k4
        have s0 := k1 0 (by omega)
        have s1 := k1 1 (by omega)
        exact ⟨⟨⟨⟨by omega, by rw [s0, r1], by rw [s1, r0]⟩, r1, r0⟩, k2⟩, k4⟩
  · have e : decide (4 < (n.length : Int)) = false := decide_eq_false (by omega)
    rw [e]
    simp only [Bool.false_and, Bool.false_eq_true, false_iff, decide_eq_true_eq, List.cons.injEq, and_true]
    rintro ⟨ha, hb⟩
    rcases h with ⟨rfl, rfl, h⟩ | ⟨p, q, rfl, rfl, hp, hq, k1, k2, k3, k4⟩
    · omega
    · have p2 : p = 2 := by omega
      have q2 : q = 2 := by omega
      subst p2 q2
      have : n.length = 3 ∨ n.length = 4 := by omega
      rcases this with hn | hn
      · have := k3 0 (by omega)
        rw [hn] at this
        exact k2 this
      · have := k3 1 (by omega)
        rw [hn] at this
        exact k2 this
theorem sun_ab {n : List Nat} {a b : Int} (h : ABis n a b) : psun (sl n) = decide ([a, b] = [1, 1]) := by
  rw [Bool.eq_iff_iff]
  unfold psun
  rw [sl_len]
  by_cases hL : 2 < n.length
  · have e1 := item_pos n 0 (by omega)
    have e2 := item_neg n 1 (by omega) (by omega)
    have e3 := item_pos n 1 (by omega)
    have e4 := item_neg n 2 (by omega) (by omega)
    rw [show ((0 : Nat) : Int) = 0 from rfl] at e1
    rw [show (-((1 : Nat) : Int)) = -1 from rfl] at e2
    rw [show ((1 : Nat) : Int) = 1 from rfl] at e3
    rw [show (-((2 : Nat) : Int)) = -2 from rfl] at e4
    rw [e1, e2, e3, e4, lit_us, bne, bne]
    simp only [sl_beq, decide_eq_true_eq, Bool.and_eq_true, Bool.not_eq_true', decide_eq_false_iff_not, List.cons.injEq, and_true]
    constructor
    · rintro ⟨⟨⟨⟨_, h1⟩, h2⟩, h3⟩, h4⟩
      rcases h with ⟨rfl, rfl, h⟩ | ⟨p, q, rfl, rfl, hp, hq, k1, k2, k3, k4⟩
      · exact absurd (h 1 (by omega)) h3
      · have p2 : p = 1 := by
          rcases Nat.lt_trichotomy p 1 with hlt | heq | hgt
          · exfalso
            have : p = 0 := by omega
            subst this
            exact k2 (h1.trans h2)
          · exact heq
          · exact absurd (k1 1 hgt) h3
        have q2 : q = 1 := by
          rcases Nat.lt_trichotomy q 1 with hlt | heq | hgt
          · exfalso
            have : q = 0 := by omega
            subst this
            exact k4 h2
          · exact heq
          · have := k3 1 hgt
            rw [show n.length - 1 - 1 = n.length - 2 by omega] at this
            exact absurd this h4
        subst p2 q2
        exact ⟨rfl, rfl⟩
    · rintro ⟨ha, hb⟩
      rcases h with ⟨rfl, rfl, h⟩ | ⟨p, q, rfl, rfl, hp, hq, k1, k2, k3, k4⟩
      · omega
      · have p2 : p = 1 := by omega
        have q2 : q = 1 := by omega
        subst p2 q2
        have r0 := k3 0 (by omega)
        rw [show n.length - 1 - 0 = n.length - 1 by omega] at r0
        rw [show n.length - 1 - 1 = n.length - 2 by omega] at k4
        have s0 := k1 0 (by omega)
        exact ⟨⟨⟨⟨by omega, by rw [s0, r0]⟩, r0⟩, k2⟩, k4⟩
  · have e : decide (2 < (n.length : Int)) = false := decide_eq_false (by omega)
    rw [e]
    simp only [Bool.false_and, Bool.false_eq_true, false_iff, decide_eq_true_eq, List.cons.injEq, and_true]
    rintro ⟨ha, hb⟩
    rcases h with ⟨rfl, rfl, h⟩ | ⟨p, q, rfl, rfl, hp, hq, k1, k2, k3, k4⟩
    · omega
    · have p2 : p = 1 := by omega
      have q2 : q = 1 := by omega
      subst p2 q2
      have hn : n.length = 2 := by omega
      have := k3 0 (by omega)
      rw [hn] at this
      exact k2 this
end Mine

-- Ld
namespace Mine
def du (f : List Nat) : List Nat := 95 :: (f ++ [95, 95])
theorem du_len (f : List Nat) : (du f).length = f.length + 3 := by simp [du]
theorem due_sl {S : TS} {f : List Nat} (h : S.folder = sl f) : due S = sl (du f) := by
  unfold due
  rw [h, lit_us, lit_us2, sl_append, sl_append]; rfl
/-- how far the name goes along with what is due -/
def MtIs (n d : List Nat) (m : Int) : Prop :=
  ∃ k : Nat, m = (k : Int) ∧ k ≤ n.length ∧ k ≤ d.length ∧ n.take k = d.take k ∧ (k = n.length ∨ k = d.length ∨ n.take (k + 1) ≠ d.take (k + 1))
theorem mt_nil (d : List Nat) : MtIs [] d 0 := ⟨0, rfl, Nat.le_refl _, Nat.zero_le _, rfl, .inl rfl⟩
theorem take_snoc (n : List Nat) (c k : Nat) (h : k ≤ n.length) : (n ++ [c]).take k = n.take k := by
  rw [List.take_append_of_le_length h]
theorem take_succ_getD (d : List Nat) (k : Nat) (h : k < d.length) : d.take (k + 1) = d.take k ++ [d.getD k 0] := by
  rw [List.take_add_one, List.getElem?_eq_getElem h]
  simp [List.getD, List.getElem?_eq_getElem h]
theorem mt_step {n d : List Nat} {m : Int} (c : Nat) (h : MtIs n d m) :
    MtIs (n ++ [c]) d (if m = (n.length : Int) ∧ m < (d.length : Int) ∧ (Txt.item (sl d) m == sl [c]) = true then m + 1 else m) := by
  obtain ⟨k, rfl, h1, h2, h3, h4⟩ := h
  by_cases hk : k = n.length
  · by_cases hd : k < d.length
    · have e := item_pos d k hd
      by_cases hc : d.getD k 0 = c
      · rw [if_pos ⟨by omega, by omega, by rw [e, hc]; simp⟩]
        refine ⟨k + 1, rfl, by rw [len_snoc]; omega, hd, ?_, .inl (by rw [len_snoc]; omega)⟩
        rw [take_succ_getD d k hd, hc, ← h3, hk, List.take_length, List.take_of_length_le (by rw [len_snoc]; omega)]
      · rw [if_neg (fun q => by
          have := q.2.2
          rw [e, one_eq] at this
          exact hc this)]
        refine ⟨k, rfl, by rw [len_snoc]; omega, h2, by rw [take_snoc _ _ _ h1]; exact h3, .inr (.inr fun q => hc ?_)⟩
        rw [take_succ_getD d k hd, hk, List.take_of_length_le (by rw [len_snoc]; omega)] at q
        have := (List.append_inj' q rfl).2
        rw [← hk] at this
        simpa using this.symm
    · rw [if_neg (fun q => by have := q.2.1; omega)]
      exact ⟨k, rfl, by rw [len_snoc]; omega, h2, by rw [take_snoc _ _ _ h1]; exact h3, .inr (.inl (by omega))⟩
  · rw [if_neg (fun q => by have := q.1; omega)]
    refine ⟨k, rfl, by rw [len_snoc]; omega, h2, by rw [take_snoc _ _ _ h1]; exact h3, ?_⟩
    rcases h4 with h4 | h4 | h4
    · exact absurd h4 hk
    · exact .inr (.inl h4)
    · exact .inr (.inr (by rw [take_snoc _ _ _ (by omega)]; exact h4))
theorem priv_mt {n f : List Nat} {m a b : Int} (h : MtIs n (du f) m) (hab : ABis n a b) :
    ppriv (sl f) (sl n) = (decide (m = (f.length : Int) + 3) && decide (m < (n.length : Int)) && decide ((if b < 0 then a else b) < 2)) := by
  obtain ⟨k, rfl, h1, h2, h3, h4⟩ := h
  rw [du_len] at h2
  have hs : (Str.ofString "_" ++ sl f ++ Str.ofString "__") = sl (du f) := by rw [lit_us, lit_us2, sl_append, sl_append]; rfl
  rw [Bool.eq_iff_iff]
  unfold ppriv
  rw [hs, starts, sl_len, sl_len, lit_us, lit_us2, sl_len, sl_len, du_len]
  by_cases hL : f.length + 3 < n.length
  · have e1 := item_neg n 1 (by omega) (by omega)
    have e2 := item_neg n 2 (by omega) (by omega)
    rw [show (-((1 : Nat) : Int)) = -1 from rfl] at e1
    rw [show (-((2 : Nat) : Int)) = -2 from rfl] at e2
    rw [e1, e2, bne, bne]
    simp only [sl_beq, decide_eq_true_eq, Bool.and_eq_true, Bool.or_eq_true, Bool.not_eq_true', decide_eq_false_iff_not, List.cons.injEq, and_true, List.length_cons, List.length_nil]
    have ht : (¬ n.getD (n.length - 1) 0 = 95 ∨ ¬ n.getD (n.length - 2) 0 = 95) ↔ (if b < 0 then a else b) < 2 := by
      rcases hab with ⟨rfl, rfl, h⟩ | ⟨p, q, rfl, rfl, hp, hq, k1, k2, k3, k4⟩
      · rw [if_pos (by decide)]
        have r0 := h (n.length - 1) (by omega)
        have r1 := h (n.length - 2) (by omega)
        constructor
        · rintro (x | x)
          · exact absurd r0 x
          · exact absurd r1 x
        · intro x; omega
      · rw [if_neg (by omega)]
        constructor
        · intro x
          rcases Nat.lt_or_ge q 2 with hq2 | hq2
          · omega
          · exfalso
            have r0 := k3 0 (by omega)
            have r1 := k3 1 (by omega)
            rw [show n.length - 1 - 0 = n.length - 1 by omega] at r0
            rw [show n.length - 1 - 1 = n.length - 2 by omega] at r1
            rcases x with x | x
            · exact x r0
            · exact x r1
        · intro x
          have : q = 0 ∨ q = 1 := by omega
          rcases this with rfl | rfl
          · exact .inl (by rw [show n.length - 1 - 0 = n.length - 1 by omega] at k4; exact k4)
          · exact .inr (by rw [show n.length - 1 - 1 = n.length - 2 by omega] at k4; exact k4)
    rw [ht]
    constructor
    · rintro ⟨⟨_, _, hp⟩, ht⟩
      refine ⟨⟨?_, by omega⟩, ht⟩
      rcases h4 with h4 | h4 | h4
      · omega
      · rw [du_len] at h4; omega
      · by_cases hk : k = f.length + 3
        · omega
        · exfalso
          apply h4
          have hdu : (du f).take (k + 1) = (n.take (f.length + 3)).take (k + 1) := by rw [hp]
          rw [hdu, List.take_take, Nat.min_eq_left (by omega)]
    · rintro ⟨⟨hk, _⟩, ht⟩
      have hk' : k = f.length + 3 := by omega
      subst hk'
      refine ⟨⟨by omega, by omega, ?_⟩, ht⟩
      rw [h3, List.take_of_length_le (by rw [du_len]; omega)]
  · constructor
    · intro h
      simp only [Bool.and_eq_true, decide_eq_true_eq, List.length_cons, List.length_nil] at h
      omega
    · intro h
      simp only [Bool.and_eq_true, decide_eq_true_eq] at h
      omega
/-- what stands ahead of the last dot with another sign than dots ahead -/
def CutOf (n : List Nat) (cut : Option (Int × Int)) (st : Str) : Prop :=
  (cut = none ∧ ∀ s t, n = s ++ 46 :: t → ∀ c ∈ s, c = 46) ∨
  ∃ s t a b, n = s ++ 46 :: t ∧ 46 ∉ t ∧ (∃ c ∈ s, c ≠ 46) ∧ cut = some (a, b) ∧ st = sl s ∧ ABis s a b
def PlOf (n : List Nat) (pl : Bool) : Prop := pl = true ↔ ∃ c ∈ n, c ≠ 46
theorem pl_other {n : List Nat} {c : Nat} (hc : c ≠ 46) : PlOf (n ++ [c]) true := ⟨fun _ => ⟨c, by simp, hc⟩, fun _ => rfl⟩
theorem pl_dot {n : List Nat} {pl : Bool} (h : PlOf n pl) : PlOf (n ++ [46]) pl := by
  unfold PlOf at *
  rw [h]
  constructor
  · rintro ⟨c, hm, hc⟩; exact ⟨c, by simp [hm], hc⟩
  · rintro ⟨c, hm, hc⟩
    rcases List.mem_append.mp hm with hm | hm
    · exact ⟨c, hm, hc⟩
    · exact absurd (by simpa using hm) hc
theorem cut_other {n : List Nat} {c : Nat} {cut : Option (Int × Int)} {st : Str} (hc : c ≠ 46) (h : CutOf n cut st) : CutOf (n ++ [c]) cut st := by
  rcases h with ⟨rfl, h⟩ | ⟨s, t, a, b, rfl, h1, h2, h3, h4, h5⟩
  · refine .inl ⟨rfl, fun s t e => ?_⟩
    rcases List.eq_nil_or_concat t with rfl | ⟨t', x, rfl⟩
    · have := (List.append_inj' e rfl).2
      exact absurd (by simpa using this) hc
    · rw [List.concat_eq_append, show s ++ 46 :: (t' ++ [x]) = (s ++ 46 :: t') ++ [x] by simp] at e
      exact h s t' (List.append_inj' e rfl).1
  · refine .inr ⟨s, t ++ [c], a, b, by simp, fun hm => ?_, h2, h3, h4, h5⟩
    rcases List.mem_append.mp hm with hm | hm
    · exact h1 hm
    · exact hc (by simpa using hm : 46 = c).symm
theorem cut_dot {n : List Nat} {a b : Int} (hp : ∃ c ∈ n, c ≠ 46) (hab : ABis n a b) : CutOf (n ++ [46]) (some (a, b)) (sl n) := .inr ⟨n, [], a, b, rfl, by simp, hp, rfl, rfl, hab⟩
theorem cut_lead {n : List Nat} {cut : Option (Int × Int)} {st : Str} (hp : ¬ ∃ c ∈ n, c ≠ 46) (h : CutOf n cut st) : CutOf (n ++ [46]) cut st := by
  rcases h with ⟨rfl, h⟩ | ⟨s, t, a, b, rfl, h1, ⟨c, hm, hc⟩, h3, h4, h5⟩
  · refine .inl ⟨rfl, fun s t e c hm => ?_⟩
    have hm2 : c ∈ n ++ [46] := by rw [e]; simp [hm]
    rcases List.mem_append.mp hm2 with hm2 | hm2
    · exact Classical.byContradiction fun hc => hp ⟨c, hm2, hc⟩
    · simpa using hm2
  · exact absurd ⟨c, by simp [hm], hc⟩ hp
/-- what the reader's state says of the name read so far -/
structure TI (n f : List Nat) (S : TS) : Prop where
  name : S.name = sl n
  folder : S.folder = sl f
  ab : ABis n S.ahead S.behind
  mt : MtIs n (du f) S.matched
  pl : PlOf n S.plain
  cut : CutOf n S.cut S.stem
theorem cut_nil (st : Str) : CutOf [] none st := .inl ⟨rfl, fun s t e => by simp at e⟩
theorem T_inv : ∀ l : List Nat, ∃ n f, TI n f (T l) := by
  refine snoc_ind ⟨[], [], ⟨lit_nil, lit_nil, ab_nil, mt_nil _, by unfold PlOf; simp [T, told, ts0], cut_nil _⟩⟩ ?_
  rintro l c ⟨n, f, h1, h2, h3, h4, h5, h6⟩
  by_cases hc : c = 47
  · subst hc
    rw [T_slash]
    by_cases hn : (T l).name = sl []
    · refine ⟨[], f, ⟨rfl, ?_, ab_nil, mt_nil _, by unfold PlOf; simp, cut_nil _⟩⟩
      show (if (T l).name ≠ sl [] then _ else _) = _
      rw [if_neg (by simp [hn]), h2]
    · refine ⟨[], n, ⟨rfl, ?_, ab_nil, mt_nil _, by unfold PlOf; simp, cut_nil _⟩⟩
      show (if (T l).name ≠ sl [] then _ else _) = _
      rw [if_pos hn, h1]
  · rw [T_sign _ _ hc]
    refine ⟨n ++ [c], f, ⟨?_, h2, ?_, ?_, ?_, ?_⟩⟩
    · show (T l).name ++ sl [c] = _
      rw [h1, sl_append]
    · show ABis (n ++ [c]) (if c ≠ 95 then (T l).ahead else if (T l).behind < 0 then (T l).ahead + 1 else (T l).ahead) (if c ≠ 95 then 0 else if (T l).behind < 0 then (T l).behind else (T l).behind + 1)
      by_cases hu : c = 95
      · subst hu
        have h95 : ¬ ((95 : Nat) ≠ 95) := by simp
        rw [if_neg h95, if_neg h95]
        by_cases hb : (T l).behind < 0
        · rw [if_pos hb, if_pos hb]; exact ab_lead hb h3
        · rw [if_neg hb, if_neg hb]; exact ab_tail hb h3
      · rw [if_pos hu, if_pos hu]; exact ab_other hu h3
    · have hd := due_sl h2
      have hl : ((T l).name.length : Int) = (n.length : Int) := by rw [h1, sl_len]
      have e := mt_step c h4
      show MtIs (n ++ [c]) (du f) (if (T l).matched = ((T l).name.length : Int) ∧ (T l).matched < ((due (T l)).length : Int) ∧ (Txt.item (due (T l)) (T l).matched == sl [c]) = true then (T l).matched + 1 else (T l).matched)
      rw [hd, hl, sl_len]
      exact e
    · show PlOf (n ++ [c]) (if c ≠ 46 then true else (T l).plain)
      by_cases hd : c = 46
      · subst hd; rw [if_neg (by simp)]; exact pl_dot h5
      · rw [if_pos hd]; exact pl_other hd
    · show CutOf (n ++ [c]) (if c = 46 ∧ (T l).plain = true then some ((T l).ahead, (T l).behind) else (T l).cut) (if c = 46 ∧ (T l).plain = true then (T l).name else (T l).stem)
      by_cases hd : c = 46
      · subst hd
        by_cases hp : (T l).plain = true
        · rw [if_pos ⟨rfl, hp⟩, if_pos ⟨rfl, hp⟩, h1]; exact cut_dot (h5.mp hp) h3
        · rw [if_neg (fun q => hp q.2), if_neg (fun q => hp q.2)]; exact cut_lead (fun q => hp (h5.mpr q)) h6
      · rw [if_neg (fun q => hd q.1), if_neg (fun q => hd q.1)]; exact cut_other hd h6
end Mine

-- Le
namespace Mine
theorem split_name (l : List Nat) : ∃ a n, l = a ++ n ∧ 47 ∉ n ∧ Txt.rfind (sl l) (sl [47]) + 1 = (a.length : Int) ∧ (T l).name = sl n ∧ ∀ s, 47 ∉ s → (T (a ++ s)).name = sl s := by
  rcases rfind_one l 47 with ⟨h1, h2⟩ | ⟨p, q, rfl, h1, h2⟩
  · have key : ∀ s, 47 ∉ s → (T ([] ++ s)).name = sl s := fun s hs => by
      have e := (T_free [] s hs).1
      rw [T_name_nil [] (.inl rfl), nil_app] at e
      exact e
    exact ⟨[], l, rfl, h1, by rw [h2]; rfl, key l h1, key⟩
  · have key : ∀ s, 47 ∉ s → (T (p ++ [47] ++ s)).name = sl s := fun s hs => by
      have e := (T_free (p ++ [47]) s hs).1
      rw [T_name_nil _ (.inr ⟨p, rfl⟩), nil_app] at e
      exact e
    have hk := key q h1
    rw [List.append_assoc, List.singleton_append] at hk
    exact ⟨p ++ [47], q, by simp, h1, by rw [h2]; simp, hk, key⟩
theorem last_unique {c : Nat} : ∀ {s s' t t' : List Nat}, s ++ c :: t = s' ++ c :: t' → c ∉ t → c ∉ t' → s = s' ∧ t = t'
  | [], [], _, _, h, _, _ => by simpa using h
  | [], b :: s', t, t', h, h1, _ => by
    simp only [List.nil_append, List.cons_append, List.cons.injEq] at h
    exact absurd (by rw [h.2]; simp) h1
  | b :: s, [], t, t', h, _, h2 => by
    simp only [List.nil_append, List.cons_append, List.cons.injEq] at h
    exact absurd (by rw [← h.2]; simp) h2
  | b :: s, b' :: s', t, t', h, h1, h2 => by
    simp only [List.cons_append, List.cons.injEq] at h
    obtain ⟨e1, e2⟩ := last_unique h.2 h1 h2
    exact ⟨by rw [h.1, e1], e2⟩
theorem gd_mid (a s r : List Nat) (j : Nat) (h : j < s.length) : (a ++ (s ++ r)).getD (a.length + j) 0 = s.getD j 0 := by
  simp [List.getD, List.getElem?_append_right, List.getElem?_append_left h]
theorem sign_at {l : List Nat} {A : Nat} {k : Int} {j : Nat} (hk : k + 1 = (A : Int)) (h : A + j < l.length) :
    (Txt.slice (sl l) (some (k + 1 + 1 * (j : Int))) (some (k + 1 + 1 * (j : Int) + 1)) != Str.ofString ".") = !decide (l.getD (A + j) 0 = 46) := by
  have e : k + 1 + 1 * (j : Int) = ((A + j : Nat) : Int) := by rw [hk]; omega
  rw [e, sl_single l _ h, lit_dot, bne, sl_beq]
  simp
theorem mem_getD {s : List Nat} {c : Nat} (h : c ∈ s) : ∃ j, j < s.length ∧ s.getD j 0 = c := by
  obtain ⟨j, hj, e⟩ := List.mem_iff_getElem.mp h
  exact ⟨j, hj, by simp [List.getD, List.getElem?_eq_getElem hj, e]⟩
theorem getD_mem' {s : List Nat} {j : Nat} (h : j < s.length) : s.getD j 0 ∈ s := by
  simp [List.getD, List.getElem?_eq_getElem h]
theorem stem_T (l : List Nat) (r : Str) (h : IsRoot (sl l) r) : pbase r = tStem (T l) := by
  obtain ⟨a, n, hl, hn, hs, hnm, key⟩ := split_name l
  obtain ⟨n', f, I⟩ := T_inv l
  have e : n' = n := sl_inj.mp (I.name.symm.trans hnm)
  subst e
  unfold IsRoot at h
  rw [lit_slash] at h
  rcases h with ⟨h1, h2, j, j0, h3, h4⟩ | ⟨rfl, h⟩
  · rw [lit_dot] at h1 h2 h3
    rcases rfind_one l 46 with ⟨k1, k2⟩ | ⟨p, q, hp, k1, k2⟩
    · rw [k2] at h1; omega
    · rw [k2] at h1 h2 h3
      obtain ⟨s, rfl⟩ : ∃ s, p = a ++ s := by
        have e : a ++ n' = p ++ 46 :: q := by rw [← hl, hp]
        rcases List.append_eq_append_iff.mp e with ⟨s, e1, e2⟩ | ⟨s, e1, e2⟩
        · exact ⟨s, e1⟩
        · have : s = [] := by
            have := congrArg List.length e1
            rw [List.length_append] at this
            exact List.eq_nil_of_length_eq_zero (by omega)
          subst this
          exact ⟨[], by simpa using e1.symm⟩
      have hn' : n' = s ++ 46 :: q := by
        rw [hp, List.append_assoc] at hl
        exact (List.append_cancel_left hl).symm
      have hr : r = sl (a ++ s) := by
        rw [h2, sl_to l _ (by rw [hp]; simp), hp]
        rw [List.take_append_of_le_length (Nat.le_refl _), List.take_length]
      have hs47 : 47 ∉ s := fun hm => hn (by rw [hn']; simp [hm])
      rw [hr, pbase_T, key s hs47]
      have hj : j.toNat < s.length := by
        rw [List.length_append] at h3; omega
      have hj2 : (j.toNat : Int) = j := Int.toNat_of_nonneg j0
      have hsj : s.getD j.toNat 0 ≠ 46 := by
        rw [← hj2, sign_at hs (by rw [hl, hn']; simp; omega), hl, hn', gd_mid a s _ _ hj] at h4
        simpa using h4
      rcases I.cut with ⟨_, k⟩ | ⟨s', t', ca, cb, k3, k4, k5, k6, k7, _⟩
      · exact absurd (k s q hn' _ (getD_mem' hj)) hsj
      · have := (last_unique (hn'.symm.trans k3) k1 k4).1
        subst this
        unfold tStem
        rw [k6, k7]
  · rw [pbase_T]
    rcases I.cut with ⟨k, _⟩ | ⟨s, t, ca, cb, k3, k4, ⟨c, hc, hc46⟩, k6, k7, _⟩
    · unfold tStem; rw [k]
    · exfalso
      rw [lit_dot] at h
      have hd : Txt.rfind (sl l) (sl [46]) = ((a.length + s.length : Nat) : Int) := by
        rcases rfind_one l 46 with ⟨k1, k2⟩ | ⟨p, q, hp, k1, k2⟩
        · exact absurd (by rw [hl, k3]; simp) k1
        · rw [k2]
          have e : p ++ 46 :: q = (a ++ s) ++ 46 :: t := by rw [← hp, hl, k3, List.append_assoc]
          rw [(last_unique e k1 k4).1, List.length_append]
      rw [hd] at h
      rcases h with h | ⟨m, h1, h2⟩
      · omega
      · obtain ⟨j, hj, ej⟩ := mem_getD hc
        have := h2 (j : Int) (by omega) (by omega)
        rw [← lit_dot, sign_at hs (by rw [hl, k3]; simp; omega), hl, k3, gd_mid a s _ _ hj, ej] at this
        simp at this
        exact hc46 this
end Mine

-- Lw
namespace Mine
theorem law_name (x : Str) : pbase x = (told (KStt.codes x)).name := by
  have h := pbase_T x.cps.toList
  rw [sl_of] at h; exact h
theorem law_stem (x r : Str) (h : IsRoot x r) : pbase r = tStem (told (KStt.codes x)) := stem_T x.cps.toList r (by rw [sl_of]; exact h)
theorem law_folder (x : Str) : pbase (pdir x) = (told (KStt.codes x)).folder := by
  have h := pdir_T x.cps.toList
  rw [sl_of] at h; exact h
theorem law_dun (x : Str) : pdun (told (KStt.codes x)).name = decide ([(told (KStt.codes x)).ahead, (told (KStt.codes x)).behind] = [2, 2]) := by
  obtain ⟨n, f, I⟩ := T_inv x.cps.toList
  rw [told_T, I.name]; exact dun_ab I.ab
theorem law_sun (x : Str) : psun (told (KStt.codes x)).name = decide ([(told (KStt.codes x)).ahead, (told (KStt.codes x)).behind] = [1, 1]) := by
  obtain ⟨n, f, I⟩ := T_inv x.cps.toList
  rw [told_T, I.name]; exact sun_ab I.ab
theorem stem_ab (l : List Nat) : ∃ s a b, tStem (T l) = sl s ∧ tCut (T l) = [a, b] ∧ ABis s a b := by
  obtain ⟨n, f, I⟩ := T_inv l
  rcases I.cut with ⟨k, _⟩ | ⟨s, t, a, b, _, _, _, k6, k7, k8⟩
  · exact ⟨n, _, _, by unfold tStem; rw [k]; exact I.name, by unfold tCut; rw [k], I.ab⟩
  · exact ⟨s, a, b, by unfold tStem; rw [k6]; exact k7, by unfold tCut; rw [k6], k8⟩
theorem law_dun2 (x : Str) : pdun (tStem (told (KStt.codes x))) = decide (tCut (told (KStt.codes x)) = [2, 2]) := by
  obtain ⟨s, a, b, h1, h2, h3⟩ := stem_ab x.cps.toList
  rw [told_T, h1, h2]; exact dun_ab h3
theorem law_sun2 (x : Str) : psun (tStem (told (KStt.codes x))) = decide (tCut (told (KStt.codes x)) = [1, 1]) := by
  obtain ⟨s, a, b, h1, h2, h3⟩ := stem_ab x.cps.toList
  rw [told_T, h1, h2]; exact sun_ab h3
theorem law_priv (x : Str) : ppriv (told (KStt.codes x)).folder (told (KStt.codes x)).name = tHid (told (KStt.codes x)) := by
  obtain ⟨n, f, I⟩ := T_inv x.cps.toList
  rw [told_T]
  unfold tHid
  rw [I.name, I.folder, sl_len, sl_len]
  exact priv_mt I.mt I.ab
theorem slice_mem (x : Str) (l u : Option Int) : ∀ c ∈ (Txt.slice x l u).cps.toList, c ∈ x.cps.toList := by
  intro c hc
  unfold Txt.slice at hc
  split at hc
  · exact hc
  · simp only [List.mem_filterMap] at hc
    obtain ⟨i, _, hi⟩ := hc
    obtain ⟨h, e⟩ := Array.getElem?_eq_some_iff.mp hi
    rw [← e]; exact Array.mem_toList_iff.mpr (Array.getElem_mem h)
theorem rstrip_mem (x y : Str) : ∀ c ∈ (Txt.rstripChars x y).cps.toList, c ∈ x.cps.toList := by
  intro c hc
  unfold Txt.rstripChars at hc
  rw [PyProof.Rows.stripBy_eq, StrLaws.strSub_toList] at hc
  exact List.mem_of_mem_drop (List.mem_of_mem_take hc)
theorem rstrip_len (x y : Str) : (Txt.rstripChars x y).length ≤ x.length := by
  have e : (Txt.rstripChars x y).length = (Txt.rstripChars x y).cps.toList.length := by simp [Str.length]
  have e2 : x.length = x.cps.toList.length := by simp [Str.length]
  rw [e, e2]
  unfold Txt.rstripChars
  rw [PyProof.Rows.stripBy_eq, StrLaws.strSub_toList, List.length_take, List.length_drop]
  omega
theorem ok_sub {x r : Str} (h : ∀ c ∈ r.cps.toList, c ∈ x.cps.toList) (k : PyData.strOk x = true) : PyData.strOk r = true := by
  unfold PyData.strOk at *
  rw [Array.all_eq_true'] at *
  intro c hc
  exact k c (Array.mem_toList_iff.mp (h c (Array.mem_toList_iff.mpr hc)))
theorem pbase_len (x : Str) : (pbase x).length ≤ x.length := Txt.slice_le _ _ _
theorem pdir_len (x : Str) : (pdir x).length ≤ x.length := by
  have h : (phead x).length ≤ x.length := Txt.slice_le _ _ _
  unfold pdir
  split
  · exact Nat.le_trans (rstrip_len _ _) h
  · exact h
theorem root_len {x r : Str} (h : IsRoot x r) : r.length ≤ x.length := by
  rcases h with ⟨_, rfl, _⟩ | ⟨rfl, _⟩
  · exact Txt.slice_le _ _ _
  · exact Nat.le_refl _
theorem pbase_ok {x : Str} (h : PyData.strOk x = true) : PyData.strOk (pbase x) = true := ok_sub (slice_mem _ _ _) h
theorem pdir_ok {x : Str} (h : PyData.strOk x = true) : PyData.strOk (pdir x) = true := by
  have k : PyData.strOk (phead x) = true := ok_sub (slice_mem _ _ _) h
  unfold pdir
  split
  · exact ok_sub (rstrip_mem _ _) k
  · exact k
theorem root_ok {x r : Str} (h : IsRoot x r) (k : PyData.strOk x = true) : PyData.strOk r = true := by
  rcases h with ⟨_, rfl, _⟩ | ⟨rfl, _⟩
  · exact ok_sub (slice_mem _ _ _) k
  · exact k
end Mine

-- Cr
namespace Mine
/-- a text handed back, by its make -/
abbrev RetS (h₀ : Heap) (L : Addr) (m : Str → Option Value) (news : List (Addr × Obj)) (s : Shared) (Q : Value → Shared → Prop) (x y : Str) : Prop :=
  ∀ (r : Str) (t : Tok) (h' : Heap) (tk' : Nat), r = y → r.length ≤ x.length → PyData.strOk r = true → Fr h₀ L h' m → News h₀ L h' news → Q (.str r t) { s with heap := h', toks := tk' }
theorem basename_r (w : World) (x : Str) (t : Tok) : Calls0 w 153 8 (x.length ≤ 200 ∧ PyData.strOk x = true) [.str x t] (fun h₀ L m news s Q => RetS h₀ L m news s Q x (pbase x)) :=
  fun pre B F X N T hk hd hu hret => basename_c w x t pre.1 B F X N T hk hd hu fun t' h' tk' F' N' => hret _ t' h' tk' rfl (pbase_len x) (pbase_ok pre.2) F' N'
theorem dirname_r (w : World) (x : Str) (t : Tok) : Calls0 w 160 8 (x.length ≤ 200 ∧ PyData.strOk x = true) [.str x t] (fun h₀ L m news s Q => RetS h₀ L m news s Q x (pdir x)) :=
  fun pre B F X N T hk hd hu hret => dirname_c w x t pre.1 B F X N T hk hd hu fun t' h' tk' F' N' => hret _ t' h' tk' rfl (pdir_len x) (pdir_ok pre.2) F' N'
/-- two lists of three texts and five bools that hold the same -/
theorem ne_same {prog : Program} {w : World} {A : Around} {E : Value → Shared → Prop} {s : Shared} {h₀ : Heap} {L a b : Addr} {news : List (Addr × Obj)} {Q : Value → Shared → Prop}
    {x1 x2 x3 y1 y2 y3 : Str} {t1 t2 t3 u1 u2 u3 : Tok} {b1 b2 b3 b4 b5 c1 c2 c3 c4 c5 : Bool} {ka kb : Nat}
    (N : News h₀ L s.heap news) (ma : (a, listOf [.str x1 t1, .str x2 t2, .str x3 t3, .bool b1, .bool b2, .bool b3, .bool b4, .bool b5].toArray ka) ∈ news)
    (mb : (b, listOf [.str y1 u1, .str y2 u2, .str y3 u3, .bool c1, .bool c2, .bool c3, .bool c4, .bool c5].toArray kb) ∈ news)
    (o1 : PyData.strOk x1 = true) (o2 : PyData.strOk x2 = true) (o3 : PyData.strOk x3 = true)
    (e1 : x1 = y1) (e2 : x2 = y2) (e3 : x3 = y3) (f1 : b1 = c1) (f2 : b2 = c2) (f3 : b3 = c3) (f4 : b4 = c4) (f5 : b5 = c5)
    (hu : A.units + 64 < cLine) (h : Q (.bool false) s) : wpAny (model prog w) A (compareOp .NotEq (.ref a) (.ref b)) Q E s := by
  subst e1 e2 e3 f1 f2 f3 f4 f5
  have sh : SeqAt.shaped (.list [.str x1, .str x2, .str x3, .bool b1, .bool b2, .bool b3, .bool b4, .bool b5]) = true := by
    simp [SeqAt.shaped, PyData.canLay0, PyData.canLayAll0, PyData.depth, PyData.depthAll, o1, o2, o3]
  refine ne_dataH (reads_list_at (N.get ma) rfl rfl (.cons (.str _ _) (.cons (.str _ _) (.cons (.str _ _) (.cons (.bool _) (.cons (.bool _) (.cons (.bool _) (.cons (.bool _) (.cons (.bool _) .nil)))))))))
    (reads_list_at (N.get mb) rfl rfl (.cons (.str _ _) (.cons (.str _ _) (.cons (.str _ _) (.cons (.bool _) (.cons (.bool _) (.cons (.bool _) (.cons (.bool _) (.cons (.bool _) .nil))))))))) sh sh hu ?_
  have e : PyData.eqv (.list [.str x1, .str x2, .str x3, .bool b1, .bool b2, .bool b3, .bool b4, .bool b5]) (.list [.str x1, .str x2, .str x3, .bool b1, .bool b2, .bool b3, .bool b4, .bool b5]) = true := by
    simp [PyData.eqv, PyData.eqvAll]
  rw [e]; exact h
/-- the law's comparison: what the modules tell and what the reader tells -/
theorem ne_law {prog : Program} {w : World} {A : Around} {E : Value → Shared → Prop} {s : Shared} {h₀ : Heap} {L a b : Addr} {news : List (Addr × Obj)} {Q : Value → Shared → Prop}
    {z r1 r2 r3 rr rd : Str} {t1 t2 t3 u1 u2 u3 : Tok} {ka kb : Nat}
    (N : News h₀ L s.heap news) (ma : (a, listOf [.str r1 t1, .str r2 t2, .str r3 t3, .bool (pdun r1), .bool (psun r1), .bool (pdun r2), .bool (psun r2), .bool (ppriv r3 r1)].toArray ka) ∈ news)
    (mb : (b, listOf [.str (told (KStt.codes z)).name u1, .str (tStem (told (KStt.codes z))) u2, .str (told (KStt.codes z)).folder u3, .bool (decide ([(told (KStt.codes z)).ahead, (told (KStt.codes z)).behind] = [2, 2])),
      .bool (decide ([(told (KStt.codes z)).ahead, (told (KStt.codes z)).behind] = [1, 1])), .bool (decide (tCut (told (KStt.codes z)) = [2, 2])), .bool (decide (tCut (told (KStt.codes z)) = [1, 1])), .bool (tHid (told (KStt.codes z)))].toArray kb) ∈ news)
    (o1 : PyData.strOk r1 = true) (o2 : PyData.strOk r2 = true) (o3 : PyData.strOk r3 = true)
    (e1 : r1 = pbase z) (hr : IsRoot z rr) (e2 : r2 = pbase rr) (ed : rd = pdir z) (e3 : r3 = pbase rd)
    (hu : A.units + 64 < cLine) (h : Q (.bool false) s) : wpAny (model prog w) A (compareOp .NotEq (.ref a) (.ref b)) Q E s := by
  have n1 : r1 = (told (KStt.codes z)).name := e1.trans (law_name z)
  have n2 : r2 = tStem (told (KStt.codes z)) := e2.trans (law_stem z rr hr)
  have n3 : r3 = (told (KStt.codes z)).folder := by rw [e3, ed]; exact law_folder z
  refine ne_same N ma mb o1 o2 o3 n1 n2 n3 ?_ ?_ ?_ ?_ ?_ hu h
  · rw [n1]; exact law_dun z
  · rw [n1]; exact law_sun z
  · rw [n2]; exact law_dun2 z
  · rw [n2]; exact law_sun2 z
  · rw [n1, n3]; exact law_priv z
/-- [6, 5, 2] and the draws -/
theorem draws_made {prog : Program} {w : World} {A : Around} {E : Value → Shared → Prop} {s : Shared} {h₀ : Heap} {L a b : Addr} {m : Str → Option Value} {news : List (Addr × Obj)} {Q : Value → Shared → Prop}
    {vs ws : List Value} {ns : List Int} {p : Int → Bool} (F : Fr h₀ L s.heap m) (N : News h₀ L s.heap news) (ha : s.heap.IsList a vs.toArray) (hb : s.heap.IsList b ws.toArray) (hi : IntsAre vs [6, 5, 2])
    (hc : CarriedAll ws (List.map (fun a => PyData.int (a.fmod 8)) (List.filter p (List.take 12 ns))))
    (h : ∀ D us ms h', Fr h₀ L h' m → News h₀ L h' ((D, listOf (List.toArray us) 0) :: news) → (∀ p ∈ news, p.1 < D) → IntsAre us ms → ms.length ≤ 15 → (∀ n ∈ ms, 0 ≤ n ∧ n < 8) → Q (.ref D) { s with heap := h' }) :
    wpAny (model prog w) A (binaryOp .Add (.ref a) (.ref b)) Q E s := by
  have hj : IntsAre ws (((ns.take 12).filter p).map fun a => a.fmod 8) := IntsAre.ofCarried (by rw [List.map_map]; exact hc)
  have hl : (((ns.take 12).filter p).map fun a => a.fmod 8).length ≤ 12 := by
    rw [List.length_map]
    exact Nat.le_trans (List.length_filter_le _ _) (by rw [List.length_take]; omega)
  refine add_lists_ints F N ha hb hi hj (fun h' F' N' hk => h _ _ _ h' F' N' (fun p hp => Heap.lt_size (N p hp).1) hk ?_ ?_) ?_
  · rw [List.length_append]; simp only [List.length_cons, List.length_nil]; omega
  · intro n hn
    rcases List.mem_append.mp hn with hn | hn
    · simp only [List.mem_cons, List.not_mem_nil, or_false] at hn
      omega
    · obtain ⟨k, _, rfl⟩ := List.mem_map.mp hn
      exact ⟨Int.fmod_nonneg_of_pos _ (by decide), Int.fmod_lt_of_pos _ (by decide)⟩
  · simp only [sizeLine_eq, List.length_cons, List.length_nil]; omega
def pieces : List Str := ["_", "__", "a", "/", ".", "_a__", "/a/", "b_"].map Str.ofString
theorem pieces_ok : ∀ x ∈ pieces, x.length ≤ 4 ∧ PyData.strOk x = true := by decide +kernel
theorem piece_at {prog : Program} {w : World} {A : Around} {E : Value → Shared → Prop} {s : Shared} {h₀ : Heap} {L l : Addr} {news : List (Addr × Obj)} {value slice : PySem.Expr} {vs : List Value} {i : Int} {u : Tok} {k : Nat} {Q : Value → Shared → Prop}
    (N : News h₀ L s.heap news) (hm : (l, listOf vs.toArray k) ∈ news) (hw : StrsAre vs pieces) (h0 : 0 ≤ i) (h1 : i < 8)
    (h : ∀ x t, x.length ≤ 4 → PyData.strOk x = true → Q (.str x t) s)
    (hs : subscripted slice false (.ref l) (.int i u) = operate [.ref l, .int i u] (getItem (.ref l) (.int i u)) := by with_unfolding_all rfl) :
    wpAny (model prog w) A (subscriptTail value slice (.ref l) (.int i u)) Q E s := by
  have hl : s.heap.IsList l vs.toArray := ⟨_, (N _ hm).1, rfl, k, rfl⟩
  have e : pieces.length = 8 := by decide
  refine KTb.item_list hl hw h0 (by rw [e]; exact h1) (by omega) (fun t' hlt => ?_) hs
  have q := pieces_ok (pieces.getD i.toNat Str.empty) (by rw [List.getD_eq_getElem?_getD, List.getElem?_eq_getElem hlt]; exact List.getElem_mem hlt)
  exact h _ _ q.1 q.2
end Mine

-- Mn
namespace Mine
/-- the walk stops here: the loop's rule is given by hand -/
def Hold (P : Prop) : Prop := P
theorem hold {P : Prop} (h : Hold P) : P := h
theorem news_two {h₀ h : Heap} {L : Addr} {p a b q : Addr × Obj} (N : News h₀ L h [p, a, b, q]) : News h₀ L h [p, q] := fun r hr => by
  simp only [List.mem_cons, List.not_mem_nil, or_false] at hr
  rcases hr with rfl | rfl
  · exact N _ (.head _)
  · exact N _ (.tail _ (.tail _ (.tail _ (.head _))))
theorem mem8 {ms : List Int} {n : Int} (h : ∀ n ∈ ms, 0 ≤ n ∧ n < 8) (hn : n ∈ ms) : 0 ≤ n ∧ n < 8 := h n hn
theorem ok_append {x y : Str} (hx : PyData.strOk x = true) (hy : PyData.strOk y = true) : PyData.strOk (x ++ y) = true := by
  unfold PyData.strOk at *
  rw [Str.cps_append, Array.all_append, hx, hy]; rfl
theorem add_texts {prog : Program} {w : World} {A : Around} {E : Value → Shared → Prop} {s : Shared} {x y : Str} {t u : Tok} {Q : Value → Shared → Prop} (hx : PyData.strOk x = true) (hy : PyData.strOk y = true) (hsz : x.length + y.length ≤ 1000)
    (h : ∀ z t' tk, z.length = x.length + y.length → PyData.strOk z = true → Q (.str z t') { s with toks := tk }) : wpAny (model prog w) A (binaryOp .Add (.str x t) (.str y u)) Q E s :=
  PyProof.Rows.add_str (fun t' tk => h _ t' tk (Str.length_append _ _) (ok_append hx hy)) (by rw [sizeLine_eq]; omega)
def mPs (c : Str × Tok) : List (Str × Value) := [(Str.ofString "path", .str c.1 c.2)]
def mP (pre : List Int) (c : Str × Tok) : Prop := c.1.length ≤ 4 * pre.length ∧ PyData.strOk c.1 = true
theorem mn_same {m₀ u : Str → Option Value} {c c' : Str × Tok} {v1 v2 v3 v4 v5 v6 : Option Value} {z : Str} (h1 : z ≠ Str.ofString "draw") (h2 : ∀ p ∈ mPs c', z ≠ p.1) (h3 : (["name", "stem", "folder", "kinds"].map Str.ofString).contains z = false) :
    (if z = Str.ofString "kinds" then v1 else if z = Str.ofString "folder" then v2 else if z = Str.ofString "stem" then v3 else if z = Str.ofString "name" then v4 else if z = Str.ofString "path" then v5 else if z = Str.ofString "draw" then v6
      else kstB (fun z => if (["name", "stem", "folder", "kinds"].map Str.ofString).contains z = true then u z else m₀ z) (mPs c) z) = m₀ z := by
  have hp : z ≠ Str.ofString "path" := h2 _ (.head _)
  have ne : ∀ y, (["name", "stem", "folder", "kinds"].map Str.ofString).contains y = true → z ≠ y := fun y hy e => by rw [e, hy] at h3; cases h3
  rw [if_neg (ne _ (by decide)), if_neg (ne _ (by decide)), if_neg (ne _ (by decide)), if_neg (ne _ (by decide)), if_neg hp, if_neg h1]
  show (if z = Str.ofString "path" then _ else (if (["name", "stem", "folder", "kinds"].map Str.ofString).contains z = true then u z else m₀ z)) = m₀ z
  rw [if_neg hp, if_neg (by rw [h3]; exact Bool.false_ne_true)]
theorem mp1 {px x z : Str} {t : Tok} {pre : List Int} {k : Int} (h : px.length ≤ 4 * pre.length) (hx : x.length ≤ 4) (hz : z.length = px.length + x.length) (ho : PyData.strOk z = true) : mP (pre ++ [k]) (z, t) := by
  refine ⟨?_, ho⟩
  show z.length ≤ 4 * (pre ++ [k]).length
  rw [List.length_append, List.length_cons, List.length_nil]
  omega
theorem mp0 (t : Tok) : mP [] (Str.ofString "", t) := ⟨(by decide : (Str.ofString "").length ≤ 0), (by decide +kernel : PyData.strOk (Str.ofString "") = true)⟩
local macro_rules | `(tactic| walk_at "call ref") => `(tactic| (k_here; (with_reducible show wpAny _ _ (call (Value.ref 153) [Value.str _ _]) _ _ _); k_dflt (refine' Mine.basename_r _ _ _ ?kp ?k1 ?k2 ?k3 ?k4 ?k5 ?kK ?kd ?ku ?_; (case kp => exact ⟨by omega, by assumption⟩); (case k1 => k_asm); (case k2 => k_asm); (case k3 => k_asm); (case k4 => k_asm); (case k5 => k_asm); (case kK => first | exact rfl | assumption); (case kd => ktr_room); (case ku => ktr_units); (intro r9 t9 h9 tk9 e9 l9 o9 F9 N9; (try dsimp only); (try k_fold)))))
local macro_rules | `(tactic| walk_at "call ref") => `(tactic| (k_here; (with_reducible show wpAny _ _ (call (Value.ref 160) [Value.str _ _]) _ _ _); k_dflt (refine' Mine.dirname_r _ _ _ ?kp ?k1 ?k2 ?k3 ?k4 ?k5 ?kK ?kd ?ku ?_; (case kp => exact ⟨by omega, by assumption⟩); (case k1 => k_asm); (case k2 => k_asm); (case k3 => k_asm); (case k4 => k_asm); (case k5 => k_asm); (case kK => first | exact rfl | assumption); (case kd => ktr_room); (case ku => ktr_units); (intro r9 t9 h9 tk9 e9 l9 o9 F9 N9; (try dsimp only); (try k_fold)))))
local macro_rules | `(tactic| walk_at "call ref") => `(tactic| (k_here; (with_reducible show wpAny _ _ (call (Value.ref 143) [Value.str _ _]) _ _ _); k_dflt (refine' Mine.splitext_c _ _ _ ?kp ?k1 ?k2 ?k3 ?k4 ?k5 ?kK ?kd ?ku ?_; (case kp => omega); (case k1 => k_asm); (case k2 => k_asm); (case k3 => k_asm); (case k4 => k_asm); (case k5 => k_asm); (case kK => first | exact rfl | assumption); (case kd => ktr_room); (case ku => ktr_units); (intro r9 x9 t9 u9 D9 h9 tk9 R9 F9 N9 l1; (have l9 := Mine.root_len R9); (have o9 := Mine.root_ok R9 (by assumption)); (try k_lt l1); (try dsimp only); (try k_fold)))))
local macro_rules | `(tactic| walk_at "call ref") => `(tactic| (k_here; (with_reducible show wpAny _ _ (call (Value.ref 35) [Value.str _ _]) _ _ _); k_dflt (refine' Mine.dunder_c _ _ _ ?kp ?k1 ?k2 ?k3 ?k4 ?k5 ?kK ?kd ?ku ?_; (case kp => omega); (case k1 => k_asm); (case k2 => k_asm); (case k3 => k_asm); (case k4 => k_asm); (case k5 => k_asm); (case kK => first | exact rfl | assumption); (case kd => ktr_room); (case ku => ktr_units); (intro t9 h9 tk9 F9 N9; (try dsimp only); (try k_fold)))))
local macro_rules | `(tactic| walk_at "call ref") => `(tactic| (k_here; (with_reducible show wpAny _ _ (call (Value.ref 42) [Value.str _ _]) _ _ _); k_dflt (refine' Mine.sunder_c _ _ _ ?kp ?k1 ?k2 ?k3 ?k4 ?k5 ?kK ?kd ?ku ?_; (case kp => omega); (case k1 => k_asm); (case k2 => k_asm); (case k3 => k_asm); (case k4 => k_asm); (case k5 => k_asm); (case kK => first | exact rfl | assumption); (case kd => ktr_room); (case ku => ktr_units); (intro t9 h9 tk9 F9 N9; (try dsimp only); (try k_fold)))))
local macro_rules | `(tactic| walk_at "call ref") => `(tactic| (k_here; (with_reducible show wpAny _ _ (call (Value.ref 49) [Value.str _ _, Value.str _ _]) _ _ _); k_dflt (refine' Mine.private_c _ _ _ _ _ ?kp ?k1 ?k2 ?k3 ?k4 ?k5 ?kK ?kd ?ku ?_; (case kp => exact ⟨by omega, by omega⟩); (case k1 => k_asm); (case k2 => k_asm); (case k3 => k_asm); (case k4 => k_asm); (case k5 => k_asm); (case kK => first | exact rfl | assumption); (case kd => ktr_room); (case ku => ktr_units); (intro t9 h9 tk9 F9 N9; (try dsimp only); (try k_fold)))))
local macro_rules | `(tactic| walk_at "call ref") => `(tactic| (k_here; (with_reducible show wpAny _ _ (call (Value.ref 167) [Value.str _ _]) _ _ _); k_dflt (refine' Mine.told_c _ _ _ ?kp ?k1 ?k2 ?k3 ?k4 ?k5 ?kK ?kd ?ku ?_; (case kp => omega); (case k1 => k_asm); (case k2 => k_asm); (case k3 => k_asm); (case k4 => k_asm); (case k5 => k_asm); (case kK => first | exact rfl | assumption); (case kd => ktr_room); (case ku => ktr_units); (rintro vals9 D9 h9 tk9 ⟨u1, u2, u3, hv9⟩ F9 N9; subst hv9; (try dsimp only); (try k_fold)))))
local macro_rules | `(tactic| walk_at "execs cons") => `(tactic| (k_here; (with_reducible show wpAny _ _ _ _ _ (Shared.mk _ _ _ (_ + _) _)); refine Mine.gen_toks ?_; intro tk))
local macro_rules | `(tactic| walk_at "newList") => `(tactic| (k_here; k_dflt (refine' newList_K ?k1 ?k2 ?_ (Nat.le_of_ble_eq_true rfl); (case k1 => k_asm); (case k2 => k_asm); k_whole); intro l' h' F' N' l1; (try k_lt l1)))
local macro_rules | `(tactic| walk_at "binaryOp Add ref ref") => `(tactic| (k_here; (with_reducible show wpAny _ _ (binaryOp _ (Value.ref _) (Value.ref _)) _ _ _); (refine' Mine.draws_made ?k1 ?k2 ?k3 ?k4 ?k5 ?k6 ?_; (case k1 => k_asm); (case k2 => k_asm); (case k3 => kmk_list); (case k4 => assumption); (case k5 => l_ints); (case k6 => assumption); k_whole); intro D' us' ms' h' F' N' l1 hI' hLen' hMem'; (try k_lt l1)))
local macro_rules | `(tactic| walk_at "subscriptTail") => `(tactic| (k_here; (with_reducible show wpAny _ _ (subscriptTail _ _ (Value.ref _) (Value.int _ _)) _ _ _); (with_unfolding_all refine' Mine.piece_at ?k1 ?k2 ?k3 ?k4 ?k5 ?_ ?k6; (case k1 => k_asm); (case k2 => k_memK); (case k3 => repeat constructor); (case k4 => exact (Mine.mem8 (by assumption) (by assumption)).1); (case k5 => exact (Mine.mem8 (by assumption) (by assumption)).2); (case k6 => with_unfolding_all rfl); k_whole); intro x' t' hx' ho'))
local macro_rules | `(tactic| walk_at "binaryOp Add str str") => `(tactic| (k_here; (with_reducible show wpAny _ _ (binaryOp Operator.Add (Value.str _ _) (Value.str _ _)) _ _ _); k_dflt (refine' Mine.add_texts ?k1 ?k2 ?k3 ?_; (case k1 => assumption); (case k2 => assumption); (case k3 => omega)); intro z' t' tk' hz' ho'))
local macro_rules | `(tactic| walk_at "compareOp NotEq ref ref") => `(tactic| (k_here; k_dflt (refine' Mine.ne_law ?N ?ma ?mb ?o1 ?o2 ?o3 ?e1 ?hr ?e2 ?ed ?e3 ?hu ?_; (case N => k_asm); (case ma => k_mem); (case mb => k_mem); (case o1 => assumption); (case o2 => assumption); (case o3 => assumption); (case e1 => assumption); (case e2 => assumption); (case hr => assumption); (case e3 => assumption); (case ed => assumption); (case hu => ke_room))))
local macro_rules | `(tactic| walk_at "exec For Name BinOp cons nil") => `(tactic| (k_here; (rename Fr _ _ _ _ => lF'); (with_unfolding_all refine' For_invVF lF' ?k1 ?k2 ?_; (case k1 => exact rfl); (case k2 => exact rfl); k_whole)))
local macro_rules | `(tactic| walk_at "pyIter ref") => `(tactic| (k_here; (with_reducible show wpAny _ _ (pyIter (Value.ref _)) (fun it s₂ => LoopAtV _ _ _ _ _ _ _ _ _ it s₂) _ _); refine Mine.hold ?_))
set_option maxRecDepth 100000 in
set_option maxHeartbeats 8000000 in
theorem main_t : PySem.Challenge.rw_ij0045_01.Holds := hd (by
  k_go0
  (all_goals try k_fold)
  k_steps
  unfold Hold
  rename News _ _ _ _ => N0
  have N1 := news_two N0
  clear N0
  rename IntsAre _ _ => hMs
  rename (∀ n ∈ _, 0 ≤ n ∧ n < 8) => hMem
  rename (List.length _ ≤ 15) => hLen
  rename Fr _ _ _ _ => F0
  with_unfolding_all refine' kst_listL (fun _ => _) mPs (fun _ => True) (["name", "stem", "folder", "kinds"].map Str.ofString) mP (Str.ofString "", _) (by rfl) ?hl hMs F0 N1 trivial ?kk ?kp ?turn ?done
  case kk => kst_all
  case hl => exact fun _ => .head _
  case kp => exact mp0 _
  case turn =>
    rintro ⟨px, pt⟩ pre post k tc u h1 tk1 own heq hm hoff _ ⟨hp1, hp2⟩ F1 N1'
    dsimp only [mPs] at F1
    dsimp only at hp1 hp2
    have hq := congrArg List.length heq
    rw [List.length_append, List.length_cons] at hq
    (try k_fold)
    k_steps
    refine' kst_end (_, _) (by assumption) (by assumption) ?hn ?ho (by rfl) trivial ?hk ?hr ?hp
    case hk => kst_all
    case hn => exact fun p hp => .tail _ (.tail _ (.tail _ (.tail _ (.tail _ (List.mem_append.mpr (.inl hp))))))
    case ho => exact fun p hp => .tail _ (.tail _ (.tail _ (.tail _ (.tail _ (List.mem_append.mpr (.inr hp))))))
    case hr => exact fun z z1 z2 z3 => mn_same (u := u) (c := (px, pt)) z1 z2 z3
    case hp => exact mp1 hp1 (by assumption) (by assumption) (by assumption)
  case done =>
    rintro ⟨px, pt⟩ u h1 tk1 _ _ F1 N1'
    dsimp only [mPs] at F1
    (try k_fold)
    k_steps)
end Mine

theorem PySem.Challenge.cw_ij0045_01_holds : PySem.Challenge.rw_ij0045_01.Holds := by
  exact Mine.main_t
